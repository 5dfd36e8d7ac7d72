import JvmDerived
import JvmDerived.Pilot.@@N@@Statement
import JvmDerived.Pilot.@@N@@Code
set_option linter.unusedVariables false
set_option linter.unusedSimpArgs false
namespace Jvm.Pilot.@@N@@
open Jvm Jvm.ClassFile Sem Op Lib Jvm.Free Jvm.Stand Jvm.LawKit Jvm.RoadKit Bundle Jvm.Pilot.@@N@@.Jvm.D
theorem own_w {a0 : Array Value} {Z : State} (hw : ∀ d ∈ tables_1, d.before a0 Z = true) (i : Nat) {d : Jvm.Cond} (h : tables_1[i]? = some d) : d.before a0 Z = true := hw d (List.mem_of_getElem? h)
section Own
variable {p : Program} {l : Launch} {e : Env} {R : Room} {s : State} {m : MethodId} {args : Array Value} {below : List Frame} {meth : Method} {c : Code} {T T' : State} {locs : List Loc} {cells slots : Nat} {g g' : JFrame} {K : Outcome → State → Prop} {Q : Option Value → Heap → List Loc → Prop} {kc ks : Nat}
/-- from this state, with this frame on top, the run comes to an end at which K holds -/
def own_E (p : Program) (e : Env) (below : List Frame) (K : Outcome → State → Prop) (T : State) (g : JFrame) : Prop :=
  ∃ s₂ o, Steps p.tables e below (T.setTop g) s₂ ∧ s₂.status = .running ∧ Ended s₂ below o ∧ K o s₂
def own_K (Q : Option Value → Heap → List Loc → Prop) (s : State) (kc ks : Nat) : Outcome → State → Prop :=
  fun o U' => ∃ v L, o = .returned v ∧ Q v U'.heap L ∧ FrameEnd s o U' L kc ks
theorem own_st (st : ∀ t, Steps p.tables e below (T'.setTop g') t → Steps p.tables e below (T.setTop g) t) (k : own_E p e below K T' g') : own_E p e below K T g := by
  obtain ⟨s2, o, h1, h2⟩ := k
  exact ⟨s2, o, st _ h1, h2⟩
theorem own_tr (st : Steps p.tables e below (T.setTop g) (T'.setTop g')) (k : own_E p e below K T' g') : own_E p e below K T g :=
  own_st (fun _ h => st.trans h) k
theorem own_pre (q : g = g') (k : own_E p e below K T g') : own_E p e below K T g := q ▸ k
theorem own_end (X : Stand p l e R s m args below meth c T locs cells slots) (hlk : meth.locks = false) {v : Option Value} (hv : meth.sig.returnType = none → v = none)
    (hr : ∀ fs : List Frame, (∀ (f : JFrame) (acts : List Action), f.method = m → f.locked = none → f.entered = [] → (doReturn e (T.setTop f) acts v).1 = T.setFrames fs) → Steps p.tables e below (T.setTop g) (T.setFrames fs))
    (hc : cells ≤ kc) (hs : slots ≤ ks) (hQ : Q v T.heap locs) : own_E p e below (own_K Q s kc ks) T g := by
  obtain ⟨fs, h1, hrun, hended, hW, hsame⟩ := X.leave (v := v) hv hlk
  exact ⟨_, _, hr fs h1, hrun, hended, _, _, rfl, hQ, ⟨_, rfl⟩, hW, hsame.mono hc hs⟩
theorem own_retV (X : Stand p l e R s m args below meth c T locs cells slots) (hx : p.tables.exec = Jvm.exec) (hlk : meth.locks = false) {pc : Nat} {Ls : Array Slot} (hret : meth.sig.returnType = none)
    (hd : decode c.code pc = .ok (.return_, 1)) (hc : cells ≤ kc) (hs : slots ≤ ks) (hQ : Q none T.heap locs) : own_E p e below (own_K Q s kc ks) T (mkF m pc Ls []) :=
  own_end X hlk (fun _ => rfl) (fun fs h => X.returnOut hx hret hd h) hc hs hQ
theorem own_retG (X : Stand p l e R s m args below meth c T locs cells slots) (hx : p.tables.exec = Jvm.exec) (hlk : meth.locks = false) {pc : Nat} {Ls : Array Slot} {w : Value} {t : FieldType} {i : Instr} {rest : List Value} (hret : meth.sig.returnType = some t) (hn : narrow t w = w)
    (hi : (i = .ireturn ∧ (t = .int ∨ t = .boolean ∨ t = .byte ∨ t = .char ∨ t = .short) ∧ ∃ z, w = .int z) ∨ (i = .lreturn ∧ t = .long ∧ ∃ z, w = .long z) ∨ (i = .dreturn ∧ t = .double ∧ ∃ z, w = .double z) ∨ (i = .freturn ∧ t = .float ∧ ∃ z, w = .float z) ∨ (i = .areturn ∧ t.isReference = true ∧ w.isRef = true))
    (hd : decode c.code pc = .ok (i, 1)) (hc : cells ≤ kc) (hs : slots ≤ ks) (hQ : Q (some w) T.heap locs) : own_E p e below (own_K Q s kc ks) T (mkF m pc Ls (w :: rest)) :=
  own_end X hlk (fun h => by rw [hret] at h; cases h) (fun fs h => retOut X hx hret hn hi hd h) hc hs hQ
theorem own_retI (X : Stand p l e R s m args below meth c T locs cells slots) (hx : p.tables.exec = Jvm.exec) (hlk : meth.locks = false) {pc : Nat} {Ls : Array Slot} {z : Int32} {rest : List Value} (hret : meth.sig.returnType = some .int)
    (hd : decode c.code pc = .ok (.ireturn, 1)) (hc : cells ≤ kc) (hs : slots ≤ ks) (hQ : Q (some (.int z)) T.heap locs) : own_E p e below (own_K Q s kc ks) T (mkF m pc Ls (.int z :: rest)) :=
  own_retG X hx hlk hret rfl (Or.inl ⟨rfl, Or.inl rfl, z, rfl⟩) hd hc hs hQ
theorem own_retS (X : Stand p l e R s m args below meth c T locs cells slots) (hx : p.tables.exec = Jvm.exec) (hlk : meth.locks = false) {pc : Nat} {Ls : Array Slot} {z : Int32} {t : FieldType} {rest : List Value} (hret : meth.sig.returnType = some t) (hn : narrow t (.int z) = .int z)
    (ht : t = .int ∨ t = .boolean ∨ t = .byte ∨ t = .char ∨ t = .short) (hd : decode c.code pc = .ok (.ireturn, 1)) (hc : cells ≤ kc) (hs : slots ≤ ks) (hQ : Q (some (.int z)) T.heap locs) : own_E p e below (own_K Q s kc ks) T (mkF m pc Ls (.int z :: rest)) :=
  own_retG X hx hlk hret hn (Or.inl ⟨rfl, ht, z, rfl⟩) hd hc hs hQ
theorem own_retN (X : Stand p l e R s m args below meth c T locs cells slots) (hx : p.tables.exec = Jvm.exec) (hlk : meth.locks = false) {pc : Nat} {Ls : Array Slot} {z : Int32} {t : FieldType} {rest : List Value} (hret : meth.sig.returnType = some t)
    (ht : t = .boolean ∨ t = .byte ∨ t = .char ∨ t = .short) (hd : decode c.code pc = .ok (.ireturn, 1)) (hc : cells ≤ kc) (hs : slots ≤ ks) (hQ : Q (some (.int (nar t z))) T.heap locs) : own_E p e below (own_K Q s kc ks) T (mkF m pc Ls (.int z :: rest)) :=
  own_end X hlk (fun h => by rw [hret] at h; cases h) (fun fs h => retN X hx hret ht hd h) hc hs hQ
theorem own_retJ (X : Stand p l e R s m args below meth c T locs cells slots) (hx : p.tables.exec = Jvm.exec) (hlk : meth.locks = false) {pc : Nat} {Ls : Array Slot} {z : Int64} {rest : List Value} (hret : meth.sig.returnType = some .long)
    (hd : decode c.code pc = .ok (.lreturn, 1)) (hc : cells ≤ kc) (hs : slots ≤ ks) (hQ : Q (some (.long z)) T.heap locs) : own_E p e below (own_K Q s kc ks) T (mkF m pc Ls (.long z :: rest)) :=
  own_retG X hx hlk hret rfl (Or.inr (Or.inl ⟨rfl, rfl, z, rfl⟩)) hd hc hs hQ
theorem own_retA (X : Stand p l e R s m args below meth c T locs cells slots) (hx : p.tables.exec = Jvm.exec) (hlk : meth.locks = false) {pc : Nat} {Ls : Array Slot} {w : Value} {t : FieldType} {rest : List Value} (hret : meth.sig.returnType = some t) (ht : t.isReference = true) (hw : w.isRef = true)
    (hd : decode c.code pc = .ok (.areturn, 1)) (hc : cells ≤ kc) (hs : slots ≤ ks) (hQ : Q (some w) T.heap locs) : own_E p e below (own_K Q s kc ks) T (mkF m pc Ls (w :: rest)) :=
  own_retG X hx hlk hret (by cases w <;> cases t <;> first | rfl | (simp [Value.isRef] at hw) | (simp [FieldType.isReference] at ht)) (Or.inr (Or.inr (Or.inr (Or.inr ⟨rfl, ht, hw⟩)))) hd hc hs hQ
end Own
theorem own_StaK {Z : State} {h h' : Heap} {C n d : String} {v : Value} (F : Sta Z h C n d v) (K : Keep h h' []) : Sta Z h' C n d v := Sta.ext ⟨K.1, fun a c q => K.2.1 a c q nin0⟩ F
section OwnArr
variable {p : Program} {l : Launch} {e : Env} {R : Room} {s : State} {m : MethodId} {args : Array Value} {below : List Frame} {meth : Method} {c : Code} {T : State} {locs : List Loc} {cells slots : Nat} {Z : State} {h : Heap} {a : Addr} {k : ClassId} {z : Int32} {vs : List Value} {dv : Value}
theorem own_alen (X : Stand p l e R s m args below meth c T locs cells slots) (hx : p.tables.exec = Jvm.exec) (hZ : Z.Warmed39 s.vm) (eT : T.heap = h) {ty : FieldType} (F : Arv Z h a k ty z vs dv) {g : JFrame} (hg : g.method = m) {rest : List Value} (hs : g.stack = .ref a :: rest) (hd : decode c.code g.pc = .ok (.arraylength, 1)) :
    ∀ target, Steps p.tables e below (T.setTop { g with pc := g.pc + 1, stack := .int z :: rest }) target → Steps p.tables e below (T.setTop g) target := by
  obtain ⟨cl, A, q, S, N, H, G⟩ := F
  intro target hr
  refine X.arraylength hx (by rw [eT]; exact A.1) (State.isArrayOf_alike hZ.alike A.2.1) hg hs hd _ ?_
  rw [len_of S N]; exact hr
theorem own_ald (X : Stand p l e R s m args below meth c T locs cells slots) (hx : p.tables.exec = Jvm.exec) (hZ : Z.Warmed39 s.vm) (eT : T.heap = h) (F : Arv Z h a k .int z vs dv) {j : Int32} (hj : ¬ j < 0 ∧ j < z) {v : Value} (hv : vs.getD j.toNatClampNeg dv = v) {g : JFrame} (hg : g.method = m) {rest : List Value} (hs : g.stack = .int j :: .ref a :: rest) (hd : decode c.code g.pc = .ok (.iaload, 1)) :
    ∀ target, Steps p.tables e below (T.setTop { g with pc := g.pc + 1, stack := v :: rest }) target → Steps p.tables e below (T.setTop g) target := by
  obtain ⟨cl, A, q, S, N, H, G⟩ := F
  have hin := inb_of S hj
  exact X.iaload hx (by rw [eT]; exact A.1) (State.isArrayOf_alike hZ.alike A.2.1) A.2.2 hin (H.at hin hv) hg hs hd
theorem own_ast (X : Stand p l e R s m args below meth c T locs cells slots) (hx : p.tables.exec = Jvm.exec) (hZ : Z.Warmed39 s.vm) (eT : T.heap = h) (F : Arv Z h a k .int z vs dv) {j : Int32} (hj : ¬ j < 0 ∧ j < z) {x : Int32} {i : Nat} (hi : j.toNatClampNeg = i) (hl : i < vs.length) {g : JFrame} (hg : g.method = m) {rest : List Value} (hs : g.stack = .int x :: .int j :: .ref a :: rest) (hd : decode c.code g.pc = .ok (.iastore, 1)) :
    ∃ T' h', Stand p l e R s m args below meth c T' (locs ++ [⟨a, j.toNatClampNeg⟩]) cells slots ∧ T'.heap = h' ∧ Wr h h' a j.toNatClampNeg (.int x) ∧ Arv Z h' a k .int z (vs.set i (.int x)) dv ∧ ∀ target, Steps p.tables e below (T'.setTop { g with pc := g.pc + 1, stack := rest }) target → Steps p.tables e below (T.setTop g) target := by
  obtain ⟨cl, A, q, S, N, H, G⟩ := F
  have hin := inb_of S hj
  obtain ⟨T', h', X', e', W, st⟩ := stI X hx hZ eT A hin hg hs hd
  exact ⟨T', h', X', e', W, Arv.set A q S N H G rfl W i hi hl, st⟩
theorem own_cst (X : Stand p l e R s m args below meth c T locs cells slots) (hx : p.tables.exec = Jvm.exec) (hZ : Z.Warmed39 s.vm) (eT : T.heap = h) (F : Arv Z h a k .char z vs dv) {j : Int32} (hj : ¬ j < 0 ∧ j < z) {x : Int32} {i : Nat} (hi : j.toNatClampNeg = i) (hl : i < vs.length) {g : JFrame} (hg : g.method = m) {rest : List Value} (hs : g.stack = .int x :: .int j :: .ref a :: rest) (hd : decode c.code g.pc = .ok (.castore, 1)) :
    ∃ T' h', Stand p l e R s m args below meth c T' (locs ++ [⟨a, j.toNatClampNeg⟩]) cells slots ∧ T'.heap = h' ∧ Wr h h' a j.toNatClampNeg (.int (nar .char x)) ∧ Arv Z h' a k .char z (vs.set i (.int (nar .char x))) dv ∧ ∀ target, Steps p.tables e below (T'.setTop { g with pc := g.pc + 1, stack := rest }) target → Steps p.tables e below (T.setTop g) target := by
  obtain ⟨cl, A, q, S, N, H, G⟩ := F
  have hin := inb_of S hj
  obtain ⟨T', h', X', e', W, st⟩ := stC X hx hZ eT A hin hg hs hd
  exact ⟨T', h', X', e', W, Arv.set A q S N H G (fits_nar_char _) W i hi hl, st⟩
end OwnArr
abbrev own_y0 : MethodName := ⟨"java/lang/Math", "min", "(II)I"⟩
theorem own_d_jdk_29_method_69_0 : decode jdk_29_method_69_code 0 = .ok (.iload_n 0, 1) := by decide +kernel
theorem own_d_jdk_29_method_69_1 : decode jdk_29_method_69_code 1 = .ok (.iload_n 1, 1) := by decide +kernel
theorem own_d_jdk_29_method_69_2 : decode jdk_29_method_69_code 2 = .ok (.if_icmp .gt 7, 3) := by decide +kernel
theorem own_d_jdk_29_method_69_9 : decode jdk_29_method_69_code 9 = .ok (.iload_n 1, 1) := by decide +kernel
theorem own_d_jdk_29_method_69_10 : decode jdk_29_method_69_code 10 = .ok (.ireturn, 1) := by decide +kernel
theorem own_d_jdk_29_method_69_5 : decode jdk_29_method_69_code 5 = .ok (.iload_n 0, 1) := by decide +kernel
theorem own_d_jdk_29_method_69_6 : decode jdk_29_method_69_code 6 = .ok (.goto 4, 3) := by decide +kernel
def own_minA_Q (p1 : Int32) (p2 : Int32) (h0 : Heap) (v : Option Value) (h : Heap) (L : List Loc) : Prop := ((v = some (.int p2) ∧ p2 < p1) ∨ (v = some (.int p1) ∧ ¬ (p2 < p1))) ∧ h = h0 ∧ L = []
theorem own_minA_ef (m : MethodId) (p1 : Int32) (p2 : Int32) : entryFrame m #[(.int p1), (.int p2)] 2 = mkF m 0 #[.val (.int p1), .val (.int p2)] [] := by first | (simp [entryFrame, mkF, argsToLocals, Value.category]; done) | rfl
set_option maxRecDepth 65536 in
set_option maxHeartbeats 40000000 in
theorem own_minA (l : Launch) (Z : State) (a0 : Array Value) (hw : ∀ d ∈ tables_1, d.before a0 Z = true) (ws : List Jvm.Cond) (p1 : Int32) (p2 : Int32) (h0 : Heap) (n0 : Nat) (Z0 : n0 ≤ h0.size)  :
    MetFree l own_y0 (head1 (Jvm.Cond.code own_y0 jdk_29_method_69_code 2 (some .int) :: ws) ({ frames := 0, cells := 0, slots := 0, locals := 0 } : Room)) (fun a U => a = #[(.int p1), (.int p2)] ∧ Z.Warmed39 U.vm ∧ U.heap = h0) (fun _ _ _ _ _ => True) (fun _ U o U' => ∃ v L, o = .returned v ∧ own_minA_Q p1 p2 h0 v U'.heap L ∧ FrameEnd U o U' L ({ frames := 0, cells := 0, slots := 0, locals := 0 } : Room).cells ({ frames := 0, cells := 0, slots := 0, locals := 0 } : Room).slots) := by
  refine MetFree.of_bodySF (by decide +kernel : plainFor own_y0 = true) hisR ?_
  intro p e s m args below meth c s₁ Bd hml0 hP hK
  obtain ⟨rfl, hZ, hh⟩ := hP
  have hx := Bd.exec
  have hby := Bd.bytes
  have hml : c.maxLocals = 2 := hml0
  have hown : s.vm.findClass "java/lang/Math" = some m.cls := findClass_of_methodNamed Bd.named
  have hnm := (name_of_methodNamed Bd.named Bd.method).1
  have X0 : Stand p l e ({ frames := 0, cells := 0, slots := 0, locals := 0 } : Room) s m #[(.int p1), (.int p2)] below meth c s₁ [] 0 0 := Stand.of_body Bd
  have e0 : s₁.heap = h0 := by rw [← hh, Bd.state]; rfl
  show own_E p e below (own_K (own_minA_Q p1 p2 h0) s ({ frames := 0, cells := 0, slots := 0, locals := 0 } : Room).cells ({ frames := 0, cells := 0, slots := 0, locals := 0 } : Room).slots) s₁ (entryFrame m #[(.int p1), (.int p2)] 2)
  refine own_pre (own_minA_ef m p1 p2) ?_
  show own_E p e below _ s₁ (mkF m 0 #[iv p1, iv p2] [])
  refine own_st (fun t k => XS.iloadN X0.here hx rfl (hb hby own_d_jdk_29_method_69_0) rfl k) ?_
  show own_E p e below _ s₁ (mkF m 1 #[iv p1, iv p2] [.int p1])
  refine own_st (fun t k => XS.iloadN X0.here hx rfl (hb hby own_d_jdk_29_method_69_1) rfl k) ?_
  show own_E p e below _ s₁ (mkF m 2 #[iv p1, iv p2] [.int p2, .int p1])
  by_cases hc1 : p2 < p1
  · refine own_st (fun t k => XS.icmpYes X0.here hx rfl (pc0 := 2) (pc' := 9) rfl (hb hby own_d_jdk_29_method_69_2) rfl (tlt hc1).2.2.1 (by decide) (by decide) k) ?_
    show own_E p e below _ s₁ (mkF m 9 #[iv p1, iv p2] [])
    refine own_st (fun t k => XS.iloadN X0.here hx rfl (hb hby own_d_jdk_29_method_69_9) rfl k) ?_
    show own_E p e below _ s₁ (mkF m 10 #[iv p1, iv p2] [.int p2])
    refine own_retI X0 hx Bd.notSynchronized Bd.returns (hb hby own_d_jdk_29_method_69_10) (by decide) (by decide) ?_
    exact ⟨(Or.inl ⟨rfl, hc1⟩), e0, rfl⟩
  · refine own_st (fun t k => XS.icmpNo X0.here hx rfl (hb hby own_d_jdk_29_method_69_2) rfl (flt hc1).2.2.1 k) ?_
    show own_E p e below _ s₁ (mkF m 5 #[iv p1, iv p2] [])
    refine own_st (fun t k => XS.iloadN X0.here hx rfl (hb hby own_d_jdk_29_method_69_5) rfl k) ?_
    show own_E p e below _ s₁ (mkF m 6 #[iv p1, iv p2] [.int p1])
    refine own_st (fun t k => XS.goto X0.here hx rfl (pc0 := 6) (pc' := 10) rfl (hb hby own_d_jdk_29_method_69_6) (by decide) (by decide) k) ?_
    show own_E p e below _ s₁ (mkF m 10 #[iv p1, iv p2] [.int p1])
    refine own_retI X0 hx Bd.notSynchronized Bd.returns (hb hby own_d_jdk_29_method_69_10) (by decide) (by decide) ?_
    exact ⟨(Or.inr ⟨rfl, hc1⟩), e0, rfl⟩
def own_min (x y : Int32) : Int32 := if y < x then y else x
def own_minF_Q (p1 : Int32) (p2 : Int32) (h0 : Heap) (v : Option Value) (h : Heap) (L : List Loc) : Prop := v = some (.int (own_min p1 p2)) ∧ h = h0 ∧ L = []
theorem own_minF_ef (m : MethodId) (p1 : Int32) (p2 : Int32) : entryFrame m #[(.int p1), (.int p2)] 2 = mkF m 0 #[.val (.int p1), .val (.int p2)] [] := by first | (simp [entryFrame, mkF, argsToLocals, Value.category]; done) | rfl
set_option maxRecDepth 65536 in
set_option maxHeartbeats 40000000 in
theorem own_minF (l : Launch) (Z : State) (a0 : Array Value) (hw : ∀ d ∈ tables_1, d.before a0 Z = true) (ws : List Jvm.Cond) (p1 : Int32) (p2 : Int32) (h0 : Heap) (n0 : Nat) (Z0 : n0 ≤ h0.size)  :
    MetFree l own_y0 (head1 (Jvm.Cond.code own_y0 jdk_29_method_69_code 2 (some .int) :: ws) ({ frames := 0, cells := 0, slots := 0, locals := 0 } : Room)) (fun a U => a = #[(.int p1), (.int p2)] ∧ Z.Warmed39 U.vm ∧ U.heap = h0) (fun _ _ _ _ _ => True) (fun _ U o U' => ∃ v L, o = .returned v ∧ own_minF_Q p1 p2 h0 v U'.heap L ∧ FrameEnd U o U' L ({ frames := 0, cells := 0, slots := 0, locals := 0 } : Room).cells ({ frames := 0, cells := 0, slots := 0, locals := 0 } : Room).slots) := by
  refine MetFree.of_bodySF (by decide +kernel : plainFor own_y0 = true) hisR ?_
  intro p e s m args below meth c s₁ Bd hml0 hP hK
  obtain ⟨rfl, hZ, hh⟩ := hP
  have hx := Bd.exec
  have hby := Bd.bytes
  have hml : c.maxLocals = 2 := hml0
  have hown : s.vm.findClass "java/lang/Math" = some m.cls := findClass_of_methodNamed Bd.named
  have hnm := (name_of_methodNamed Bd.named Bd.method).1
  have X0 : Stand p l e ({ frames := 0, cells := 0, slots := 0, locals := 0 } : Room) s m #[(.int p1), (.int p2)] below meth c s₁ [] 0 0 := Stand.of_body Bd
  have e0 : s₁.heap = h0 := by rw [← hh, Bd.state]; rfl
  show own_E p e below (own_K (own_minF_Q p1 p2 h0) s ({ frames := 0, cells := 0, slots := 0, locals := 0 } : Room).cells ({ frames := 0, cells := 0, slots := 0, locals := 0 } : Room).slots) s₁ (entryFrame m #[(.int p1), (.int p2)] 2)
  refine own_pre (own_minF_ef m p1 p2) ?_
  show own_E p e below _ s₁ (mkF m 0 #[iv p1, iv p2] [])
  refine own_st (fun t k => XS.iloadN X0.here hx rfl (hb hby own_d_jdk_29_method_69_0) rfl k) ?_
  show own_E p e below _ s₁ (mkF m 1 #[iv p1, iv p2] [.int p1])
  refine own_st (fun t k => XS.iloadN X0.here hx rfl (hb hby own_d_jdk_29_method_69_1) rfl k) ?_
  show own_E p e below _ s₁ (mkF m 2 #[iv p1, iv p2] [.int p2, .int p1])
  by_cases hc1 : p2 < p1
  · refine own_st (fun t k => XS.icmpYes X0.here hx rfl (pc0 := 2) (pc' := 9) rfl (hb hby own_d_jdk_29_method_69_2) rfl (tlt hc1).2.2.1 (by decide) (by decide) k) ?_
    show own_E p e below _ s₁ (mkF m 9 #[iv p1, iv p2] [])
    refine own_st (fun t k => XS.iloadN X0.here hx rfl (hb hby own_d_jdk_29_method_69_9) rfl k) ?_
    show own_E p e below _ s₁ (mkF m 10 #[iv p1, iv p2] [.int p2])
    refine own_retI X0 hx Bd.notSynchronized Bd.returns (hb hby own_d_jdk_29_method_69_10) (by decide) (by decide) ?_
    exact ⟨by simp [own_min, hc1], e0, rfl⟩
  · refine own_st (fun t k => XS.icmpNo X0.here hx rfl (hb hby own_d_jdk_29_method_69_2) rfl (flt hc1).2.2.1 k) ?_
    show own_E p e below _ s₁ (mkF m 5 #[iv p1, iv p2] [])
    refine own_st (fun t k => XS.iloadN X0.here hx rfl (hb hby own_d_jdk_29_method_69_5) rfl k) ?_
    show own_E p e below _ s₁ (mkF m 6 #[iv p1, iv p2] [.int p1])
    refine own_st (fun t k => XS.goto X0.here hx rfl (pc0 := 6) (pc' := 10) rfl (hb hby own_d_jdk_29_method_69_6) (by decide) (by decide) k) ?_
    show own_E p e below _ s₁ (mkF m 10 #[iv p1, iv p2] [.int p1])
    refine own_retI X0 hx Bd.notSynchronized Bd.returns (hb hby own_d_jdk_29_method_69_10) (by decide) (by decide) ?_
    exact ⟨by simp [own_min, hc1], e0, rfl⟩
abbrev own_y1 : MethodName := ⟨"java/lang/Math", "max", "(II)I"⟩
theorem own_d_jdk_29_method_65_0 : decode jdk_29_method_65_code 0 = .ok (.iload_n 0, 1) := by decide +kernel
theorem own_d_jdk_29_method_65_1 : decode jdk_29_method_65_code 1 = .ok (.iload_n 1, 1) := by decide +kernel
theorem own_d_jdk_29_method_65_2 : decode jdk_29_method_65_code 2 = .ok (.if_icmp .lt 7, 3) := by decide +kernel
theorem own_d_jdk_29_method_65_9 : decode jdk_29_method_65_code 9 = .ok (.iload_n 1, 1) := by decide +kernel
theorem own_d_jdk_29_method_65_10 : decode jdk_29_method_65_code 10 = .ok (.ireturn, 1) := by decide +kernel
theorem own_d_jdk_29_method_65_5 : decode jdk_29_method_65_code 5 = .ok (.iload_n 0, 1) := by decide +kernel
theorem own_d_jdk_29_method_65_6 : decode jdk_29_method_65_code 6 = .ok (.goto 4, 3) := by decide +kernel
def own_max (x y : Int32) : Int32 := if x < y then y else x
def own_maxF_Q (p1 : Int32) (p2 : Int32) (h0 : Heap) (v : Option Value) (h : Heap) (L : List Loc) : Prop := v = some (.int (own_max p1 p2)) ∧ h = h0 ∧ L = []
theorem own_maxF_ef (m : MethodId) (p1 : Int32) (p2 : Int32) : entryFrame m #[(.int p1), (.int p2)] 2 = mkF m 0 #[.val (.int p1), .val (.int p2)] [] := by first | (simp [entryFrame, mkF, argsToLocals, Value.category]; done) | rfl
set_option maxRecDepth 65536 in
set_option maxHeartbeats 40000000 in
theorem own_maxF (l : Launch) (Z : State) (a0 : Array Value) (hw : ∀ d ∈ tables_1, d.before a0 Z = true) (ws : List Jvm.Cond) (p1 : Int32) (p2 : Int32) (h0 : Heap) (n0 : Nat) (Z0 : n0 ≤ h0.size)  :
    MetFree l own_y1 (head1 (Jvm.Cond.code own_y1 jdk_29_method_65_code 2 (some .int) :: ws) ({ frames := 0, cells := 0, slots := 0, locals := 0 } : Room)) (fun a U => a = #[(.int p1), (.int p2)] ∧ Z.Warmed39 U.vm ∧ U.heap = h0) (fun _ _ _ _ _ => True) (fun _ U o U' => ∃ v L, o = .returned v ∧ own_maxF_Q p1 p2 h0 v U'.heap L ∧ FrameEnd U o U' L ({ frames := 0, cells := 0, slots := 0, locals := 0 } : Room).cells ({ frames := 0, cells := 0, slots := 0, locals := 0 } : Room).slots) := by
  refine MetFree.of_bodySF (by decide +kernel : plainFor own_y1 = true) hisR ?_
  intro p e s m args below meth c s₁ Bd hml0 hP hK
  obtain ⟨rfl, hZ, hh⟩ := hP
  have hx := Bd.exec
  have hby := Bd.bytes
  have hml : c.maxLocals = 2 := hml0
  have hown : s.vm.findClass "java/lang/Math" = some m.cls := findClass_of_methodNamed Bd.named
  have hnm := (name_of_methodNamed Bd.named Bd.method).1
  have X0 : Stand p l e ({ frames := 0, cells := 0, slots := 0, locals := 0 } : Room) s m #[(.int p1), (.int p2)] below meth c s₁ [] 0 0 := Stand.of_body Bd
  have e0 : s₁.heap = h0 := by rw [← hh, Bd.state]; rfl
  show own_E p e below (own_K (own_maxF_Q p1 p2 h0) s ({ frames := 0, cells := 0, slots := 0, locals := 0 } : Room).cells ({ frames := 0, cells := 0, slots := 0, locals := 0 } : Room).slots) s₁ (entryFrame m #[(.int p1), (.int p2)] 2)
  refine own_pre (own_maxF_ef m p1 p2) ?_
  show own_E p e below _ s₁ (mkF m 0 #[iv p1, iv p2] [])
  refine own_st (fun t k => XS.iloadN X0.here hx rfl (hb hby own_d_jdk_29_method_65_0) rfl k) ?_
  show own_E p e below _ s₁ (mkF m 1 #[iv p1, iv p2] [.int p1])
  refine own_st (fun t k => XS.iloadN X0.here hx rfl (hb hby own_d_jdk_29_method_65_1) rfl k) ?_
  show own_E p e below _ s₁ (mkF m 2 #[iv p1, iv p2] [.int p2, .int p1])
  by_cases hc1 : p1 < p2
  · refine own_st (fun t k => XS.icmpYes X0.here hx rfl (pc0 := 2) (pc' := 9) rfl (hb hby own_d_jdk_29_method_65_2) rfl (tlt hc1).1 (by decide) (by decide) k) ?_
    show own_E p e below _ s₁ (mkF m 9 #[iv p1, iv p2] [])
    refine own_st (fun t k => XS.iloadN X0.here hx rfl (hb hby own_d_jdk_29_method_65_9) rfl k) ?_
    show own_E p e below _ s₁ (mkF m 10 #[iv p1, iv p2] [.int p2])
    refine own_retI X0 hx Bd.notSynchronized Bd.returns (hb hby own_d_jdk_29_method_65_10) (by decide) (by decide) ?_
    exact ⟨by simp [own_max, hc1], e0, rfl⟩
  · refine own_st (fun t k => XS.icmpNo X0.here hx rfl (hb hby own_d_jdk_29_method_65_2) rfl (flt hc1).1 k) ?_
    show own_E p e below _ s₁ (mkF m 5 #[iv p1, iv p2] [])
    refine own_st (fun t k => XS.iloadN X0.here hx rfl (hb hby own_d_jdk_29_method_65_5) rfl k) ?_
    show own_E p e below _ s₁ (mkF m 6 #[iv p1, iv p2] [.int p1])
    refine own_st (fun t k => XS.goto X0.here hx rfl (pc0 := 6) (pc' := 10) rfl (hb hby own_d_jdk_29_method_65_6) (by decide) (by decide) k) ?_
    show own_E p e below _ s₁ (mkF m 10 #[iv p1, iv p2] [.int p1])
    refine own_retI X0 hx Bd.notSynchronized Bd.returns (hb hby own_d_jdk_29_method_65_10) (by decide) (by decide) ?_
    exact ⟨by simp [own_max, hc1], e0, rfl⟩
theorem own_d_jdk_65_method_123_0 : decode jdk_65_method_123_code 0 = .ok (.iload_n 1, 1) := by decide +kernel
theorem own_d_jdk_65_method_123_1 : decode jdk_65_method_123_code 1 = .ok (.aload_n 0, 1) := by decide +kernel
theorem own_d_jdk_65_method_123_2 : decode jdk_65_method_123_code 2 = .ok (.arraylength, 1) := by decide +kernel
theorem own_d_jdk_65_method_123_3 : decode jdk_65_method_123_code 3 = .ok (.if_icmp .ne 11, 3) := by decide +kernel
theorem own_d_jdk_65_method_123_14 : decode jdk_65_method_123_code 14 = .ok (.iload_n 1, 1) := by decide +kernel
theorem own_d_jdk_65_method_123_15 : decode jdk_65_method_123_code 15 = .ok (.newarray .int, 2) := by decide +kernel
theorem own_d_jdk_65_method_123_17 : decode jdk_65_method_123_code 17 = .ok (.astore_n 2, 1) := by decide +kernel
theorem own_d_jdk_65_method_123_18 : decode jdk_65_method_123_code 18 = .ok (.aload_n 0, 1) := by decide +kernel
theorem own_d_jdk_65_method_123_19 : decode jdk_65_method_123_code 19 = .ok (.iconst 0, 1) := by decide +kernel
theorem own_d_jdk_65_method_123_20 : decode jdk_65_method_123_code 20 = .ok (.aload_n 2, 1) := by decide +kernel
theorem own_d_jdk_65_method_123_21 : decode jdk_65_method_123_code 21 = .ok (.iconst 0, 1) := by decide +kernel
theorem own_d_jdk_65_method_123_22 : decode jdk_65_method_123_code 22 = .ok (.aload_n 0, 1) := by decide +kernel
theorem own_d_jdk_65_method_123_23 : decode jdk_65_method_123_code 23 = .ok (.arraylength, 1) := by decide +kernel
theorem own_d_jdk_65_method_123_24 : decode jdk_65_method_123_code 24 = .ok (.iload_n 1, 1) := by decide +kernel
theorem own_d_jdk_65_method_123_25 : decode jdk_65_method_123_code 25 = .ok (.invokestatic 304, 3) := by decide +kernel
theorem own_pd_2 : parseMethodDescriptor "(II)I" = some ⟨[.int, .int], some .int⟩ := by decide +kernel
theorem own_d_jdk_65_method_123_28 : decode jdk_65_method_123_code 28 = .ok (.invokestatic 150, 3) := by decide +kernel
theorem own_d_jdk_65_method_123_31 : decode jdk_65_method_123_code 31 = .ok (.aload_n 2, 1) := by decide +kernel
theorem own_d_jdk_65_method_123_32 : decode jdk_65_method_123_code 32 = .ok (.areturn, 1) := by decide +kernel
def own_copy1_2_Q (Z : State) (a1 : Addr) (kc1 : ClassId) (ea0 : Int32) (h0 : Heap) (n0 : Nat) (v : Option Value) (h : Heap) (L : List Loc) : Prop := ∃ (o0 : Addr), ∃ (o1 : ClassId), v = some (.ref o0) ∧ Fr n0 L ∧ Keep h0 h [] ∧ h0.size ≤ o0 ∧ Arv Z h o0 o1 .int (2 : Int32) [(.int ea0), (.int (0 : Int32))] (.int (0 : Int32)) ∧ Exa Z h o0 "[I"
abbrev own_y2 : MethodName := ⟨"java/util/Arrays", "copyOf", "([II)[I"⟩
theorem own_pn_Arrays : plainName "java/util/Arrays" = true := by first | (simp [plainName, overriddenIn]; done) | decide +kernel
theorem own_copy1_2_ef (m : MethodId) (a1 : Addr) (kc1 : ClassId) (ea0 : Int32) : entryFrame m #[(.ref a1), (.int (2 : Int32))] 3 = mkF m 0 #[.val (.ref a1), .val (.int (2 : Int32)), .unset] [] := by first | (simp [entryFrame, mkF, argsToLocals, Value.category]; done) | rfl
set_option maxRecDepth 65536 in
set_option maxHeartbeats 40000000 in
theorem own_copy1_2 (l : Launch) (Z : State) (a0 : Array Value) (hw : ∀ d ∈ tables_1, d.before a0 Z = true) (ws : List Jvm.Cond) (a1 : Addr) (kc1 : ClassId) (ea0 : Int32) (h0 : Heap) (n0 : Nat) (Z0 : n0 ≤ h0.size) (E_a1 : Exa Z h0 a1 "[I") (V_a1 : Arv Z h0 a1 kc1 .int (1 : Int32) [(.int ea0)] (.int (0 : Int32))) :
    MetFree l own_y2 (head1 (Jvm.Cond.code own_y2 jdk_65_method_123_code 3 (some (.array .int)) :: ws) ({ frames := 1, cells := 1, slots := 2, locals := 40 } : Room)) (fun a U => a = #[(.ref a1), (.int (2 : Int32))] ∧ Z.Warmed39 U.vm ∧ U.heap = h0) (fun _ _ _ _ _ => True) (fun _ U o U' => ∃ v L, o = .returned v ∧ own_copy1_2_Q Z a1 kc1 ea0 h0 n0 v U'.heap L ∧ FrameEnd U o U' L ({ frames := 1, cells := 1, slots := 2, locals := 40 } : Room).cells ({ frames := 1, cells := 1, slots := 2, locals := 40 } : Room).slots) := by
  refine MetFree.of_bodySF (plainFor_of_name own_pn_Arrays) hisR ?_
  intro p e s m args below meth c s₁ Bd hml0 hP hK
  obtain ⟨rfl, hZ, hh⟩ := hP
  have hx := Bd.exec
  have hby := Bd.bytes
  have hml : c.maxLocals = 3 := hml0
  have hown : s.vm.findClass "java/util/Arrays" = some m.cls := findClass_of_methodNamed Bd.named
  have hnm := (name_of_methodNamed Bd.named Bd.method).1
  have X0 : Stand p l e ({ frames := 1, cells := 1, slots := 2, locals := 40 } : Room) s m #[(.ref a1), (.int (2 : Int32))] below meth c s₁ [] 0 0 := Stand.of_body Bd
  have e0 : s₁.heap = h0 := by rw [← hh, Bd.state]; rfl
  show own_E p e below (own_K (own_copy1_2_Q Z a1 kc1 ea0 h0 n0) s ({ frames := 1, cells := 1, slots := 2, locals := 40 } : Room).cells ({ frames := 1, cells := 1, slots := 2, locals := 40 } : Room).slots) s₁ (entryFrame m #[(.ref a1), (.int (2 : Int32))] 3)
  refine own_pre (own_copy1_2_ef m a1 kc1 ea0) ?_
  show own_E p e below _ s₁ (mkF m 0 #[rv a1, iv 2, .unset] [])
  refine own_st (fun t k => XS.iloadN X0.here hx rfl (hb hby own_d_jdk_65_method_123_0) rfl k) ?_
  show own_E p e below _ s₁ (mkF m 1 #[rv a1, iv 2, .unset] [.int 2])
  refine own_st (fun t k => XS.aloadN X0.here hx rfl (hb hby own_d_jdk_65_method_123_1) rfl rfl k) ?_
  show own_E p e below _ s₁ (mkF m 2 #[rv a1, iv 2, .unset] [.ref a1, .int 2])
  refine own_st (own_alen X0 hx hZ e0 V_a1 (g := (mkF m 2 #[rv a1, iv 2, .unset] [.ref a1, .int 2])) rfl rfl (hb hby own_d_jdk_65_method_123_2)) ?_
  show own_E p e below _ s₁ (mkF m 3 #[rv a1, iv 2, .unset] [.int 1, .int 2])
  refine own_st (fun t k => XS.icmpYes X0.here hx rfl (pc0 := 3) (pc' := 14) rfl (hb hby own_d_jdk_65_method_123_3) rfl (by decide) (by decide) (by decide) k) ?_
  show own_E p e below _ s₁ (mkF m 14 #[rv a1, iv 2, .unset] [])
  refine own_st (fun t k => XS.iloadN X0.here hx rfl (hb hby own_d_jdk_65_method_123_14) rfl k) ?_
  show own_E p e below _ s₁ (mkF m 15 #[rv a1, iv 2, .unset] [.int 2])
  obtain ⟨T1, h1, k1, X1, e1, E1, A1, Ea1, st1⟩ := newPE X0 hx hZ (own_w hw 9 rfl) e0 (g := (mkF m 15 #[rv a1, iv 2, .unset] [.int 2])) rfl (hb hby own_d_jdk_65_method_123_15) rfl (by decide) (cap := 2) (by decide) (by decide) (by decide) (by decide) (ad := "[I") (by decide)
  obtain ⟨b1, g1⟩ : ∃ z, z = h0.size := ⟨_, rfl⟩
  rw [← g1] at A1 st1 Ea1
  have ne_a1_b1 : a1 ≠ b1 := Nat.ne_of_lt (Nat.lt_of_lt_of_le E_a1.lt (Nat.le_of_eq g1.symm))
  have g_b1 : n0 ≤ b1 := Nat.le_trans Z0 (Nat.le_of_eq g1.symm)
  have sz_b1 : h0.size ≤ b1 := Nat.le_trans (Keep.refl h0 []).1 (Nat.le_of_eq g1.symm)
  have Z2 := Nat.le_trans Z0 E1.1
  have K3 : Keep h0 _ [] := (Keep.refl h0 []).ext E1
  have V1 : Arv Z h1 b1 k1 .int (2 : Int32) [(.int (0 : Int32)), (.int (0 : Int32))] (.int (0 : Int32)) := (Arv.new A1 (by decide)).pad (pad_rep [] (.int (0 : Int32)) 2)
  refine own_st st1 ?_
  show own_E p e below _ T1 (mkF m 17 #[rv a1, iv 2, .unset] [.ref b1])
  refine own_st (fun t k => XS.astoreN X1.here hx rfl (hb hby own_d_jdk_65_method_123_17) rfl rfl (l' := #[rv a1, iv 2, rv b1]) rfl k) ?_
  show own_E p e below _ T1 (mkF m 18 #[rv a1, iv 2, rv b1] [])
  refine own_st (fun t k => XS.aloadN X1.here hx rfl (hb hby own_d_jdk_65_method_123_18) rfl rfl k) ?_
  show own_E p e below _ T1 (mkF m 19 #[rv a1, iv 2, rv b1] [.ref a1])
  refine own_st (fun t k => XS.iconst X1.here hx rfl (hb hby own_d_jdk_65_method_123_19) k) ?_
  show own_E p e below _ T1 (mkF m 20 #[rv a1, iv 2, rv b1] [.int 0, .ref a1])
  refine own_st (fun t k => XS.aloadN X1.here hx rfl (hb hby own_d_jdk_65_method_123_20) rfl rfl k) ?_
  show own_E p e below _ T1 (mkF m 21 #[rv a1, iv 2, rv b1] [.ref b1, .int 0, .ref a1])
  refine own_st (fun t k => XS.iconst X1.here hx rfl (hb hby own_d_jdk_65_method_123_21) k) ?_
  show own_E p e below _ T1 (mkF m 22 #[rv a1, iv 2, rv b1] [.int 0, .ref b1, .int 0, .ref a1])
  refine own_st (fun t k => XS.aloadN X1.here hx rfl (hb hby own_d_jdk_65_method_123_22) rfl rfl k) ?_
  show own_E p e below _ T1 (mkF m 23 #[rv a1, iv 2, rv b1] [.ref a1, .int 0, .ref b1, .int 0, .ref a1])
  have B4 := (V_a1.ext E1)
  refine own_st (own_alen X1 hx hZ e1 B4 (g := (mkF m 23 #[rv a1, iv 2, rv b1] [.ref a1, .int 0, .ref b1, .int 0, .ref a1])) rfl rfl (hb hby own_d_jdk_65_method_123_23)) ?_
  show own_E p e below _ T1 (mkF m 24 #[rv a1, iv 2, rv b1] [.int 1, .int 0, .ref b1, .int 0, .ref a1])
  refine own_st (fun t k => XS.iloadN X1.here hx rfl (hb hby own_d_jdk_65_method_123_24) rfl k) ?_
  show own_E p e below _ T1 (mkF m 25 #[rv a1, iv 2, rv b1] [.int 2, .int 1, .int 0, .ref b1, .int 0, .ref a1])
  obtain ⟨_, _, ⟨T5, L5, k5, n5⟩, -, X5, ⟨Lc5, hQ5, l5, y5, z5⟩, st5⟩ := Jvm.LawKit.callS X1 hx (y := own_y0) hown (mvT hZ (own_w hw 31 rfl)) (mvT hZ (own_w hw 32 rfl)) (mvT hZ (own_w hw 33 rfl)) (mvT hZ (own_w hw 34 rfl)) (by decide) (backOf (W := 4) (own_minA l Z a0 hw [] (1 : Int32) (2 : Int32) h1 n0 Z2 ) hZ (own_w hw 34 rfl) (own_w hw 33 rfl) (by decide) (by decide)) (g := (mkF m 25 #[rv a1, iv 2, rv b1] [.int 2, .int 1, .int 0, .ref b1, .int 0, .ref a1])) rfl (by rw [hml]; rfl) (argsL := [(.int (1 : Int32)), (.int (2 : Int32))]) (rest := [(.int (0 : Int32)), (.ref b1), (.int (0 : Int32)), (.ref a1)]) (lenOf own_pd_2 rfl) rfl (by show 2 * 0 + _ ≤ _; exact Nat.le_of_eq rfl) (hb hby own_d_jdk_65_method_123_25) (fun _ _ => ⟨rfl, e1, (by decide : 1 + 0 ≤ _), (by decide : 2 + 0 ≤ _)⟩)
  dsimp only [Pt.U, Pt.locs, Pt.cells, Pt.slots] at X5 l5 y5 z5 st5 hQ5
  subst l5 y5 z5
  obtain ⟨hR5, e5, rfl⟩ := hQ5
  have N5 := Fr.app (Fr.nil n0) (Fr.nil n0)
  rcases hR5 with ⟨rfl, ha5_0⟩ | ⟨rfl, ha5_0⟩
  · exact absurd ha5_0 (by decide)
  · refine own_st st5 ?_
    show own_E p e below _ T5 (mkF m 28 #[rv a1, iv 2, rv b1] [.int 1, .int 0, .ref b1, .int 0, .ref a1])
    obtain ⟨T6, h6, L6, X6, e6, N6, K6, Vw6, st6⟩ := cpA X5 hx hZ hown (own_w hw 35 rfl) (own_w hw 38 rfl) (own_w hw 36 rfl) (own_w hw 37 rfl) e5 (sp := (0 : Int32)) (dp := (0 : Int32)) (nn := (1 : Int32)) (us := [(.int ea0)]) B4 V1 (Or.inl ⟨rfl, rfl⟩) (by decide) (by decide) (by decide) (by decide) (by decide) rfl (Nat.le_of_ble_eq_true rfl) N5 g_b1 (g := (mkF m 28 #[rv a1, iv 2, rv b1] [.int 1, .int 0, .ref b1, .int 0, .ref a1])) rfl (by rw [hml]; rfl) rfl (hb hby own_d_jdk_65_method_123_28) (by decide) (W := 0) (by show 2 * 0 + _ ≤ _; exact Nat.le_of_eq rfl) (by decide)
    have V6 : Arv Z h6 b1 k1 .int (2 : Int32) [(.int ea0), (.int (0 : Int32))] (.int (0 : Int32)) := Vw6
    have Z7 := Nat.le_trans Z2 K6.1
    have K8 : Keep h0 _ [] := K3.trans K6 (allS (P := fun x => x ∈ [] ∨ h0.size ≤ x) (Or.inr sz_b1) all0)
    refine own_st st6 ?_
    show own_E p e below _ T6 (mkF m 31 #[rv a1, iv 2, rv b1] [])
    refine own_st (fun t k => XS.aloadN X6.here hx rfl (hb hby own_d_jdk_65_method_123_31) rfl rfl k) ?_
    show own_E p e below _ T6 (mkF m 32 #[rv a1, iv 2, rv b1] [.ref b1])
    refine own_retA X6 hx Bd.notSynchronized Bd.returns rfl rfl (hb hby own_d_jdk_65_method_123_32) (by decide) (by decide) ?_
    have B9 := (Ea1.keep K6)
    show own_copy1_2_Q Z a1 kc1 ea0 h0 n0 _ T6.heap _
    rw [e6]
    exact ⟨b1, k1, rfl, N6, K8, sz_b1, V6, B9⟩
def own_copy2_4_Q (Z : State) (a1 : Addr) (kc1 : ClassId) (ea0 : Int32) (ea1 : Int32) (h0 : Heap) (n0 : Nat) (v : Option Value) (h : Heap) (L : List Loc) : Prop := ∃ (o0 : Addr), ∃ (o1 : ClassId), v = some (.ref o0) ∧ Fr n0 L ∧ Keep h0 h [] ∧ h0.size ≤ o0 ∧ Arv Z h o0 o1 .int (4 : Int32) [(.int ea0), (.int ea1), (.int (0 : Int32)), (.int (0 : Int32))] (.int (0 : Int32)) ∧ Exa Z h o0 "[I"
theorem own_copy2_4_ef (m : MethodId) (a1 : Addr) (kc1 : ClassId) (ea0 : Int32) (ea1 : Int32) : entryFrame m #[(.ref a1), (.int (4 : Int32))] 3 = mkF m 0 #[.val (.ref a1), .val (.int (4 : Int32)), .unset] [] := by first | (simp [entryFrame, mkF, argsToLocals, Value.category]; done) | rfl
set_option maxRecDepth 65536 in
set_option maxHeartbeats 40000000 in
theorem own_copy2_4 (l : Launch) (Z : State) (a0 : Array Value) (hw : ∀ d ∈ tables_1, d.before a0 Z = true) (ws : List Jvm.Cond) (a1 : Addr) (kc1 : ClassId) (ea0 : Int32) (ea1 : Int32) (h0 : Heap) (n0 : Nat) (Z0 : n0 ≤ h0.size) (E_a1 : Exa Z h0 a1 "[I") (V_a1 : Arv Z h0 a1 kc1 .int (2 : Int32) [(.int ea0), (.int ea1)] (.int (0 : Int32))) :
    MetFree l own_y2 (head1 (Jvm.Cond.code own_y2 jdk_65_method_123_code 3 (some (.array .int)) :: ws) ({ frames := 1, cells := 1, slots := 4, locals := 40 } : Room)) (fun a U => a = #[(.ref a1), (.int (4 : Int32))] ∧ Z.Warmed39 U.vm ∧ U.heap = h0) (fun _ _ _ _ _ => True) (fun _ U o U' => ∃ v L, o = .returned v ∧ own_copy2_4_Q Z a1 kc1 ea0 ea1 h0 n0 v U'.heap L ∧ FrameEnd U o U' L ({ frames := 1, cells := 1, slots := 4, locals := 40 } : Room).cells ({ frames := 1, cells := 1, slots := 4, locals := 40 } : Room).slots) := by
  refine MetFree.of_bodySF (plainFor_of_name own_pn_Arrays) hisR ?_
  intro p e s m args below meth c s₁ Bd hml0 hP hK
  obtain ⟨rfl, hZ, hh⟩ := hP
  have hx := Bd.exec
  have hby := Bd.bytes
  have hml : c.maxLocals = 3 := hml0
  have hown : s.vm.findClass "java/util/Arrays" = some m.cls := findClass_of_methodNamed Bd.named
  have hnm := (name_of_methodNamed Bd.named Bd.method).1
  have X0 : Stand p l e ({ frames := 1, cells := 1, slots := 4, locals := 40 } : Room) s m #[(.ref a1), (.int (4 : Int32))] below meth c s₁ [] 0 0 := Stand.of_body Bd
  have e0 : s₁.heap = h0 := by rw [← hh, Bd.state]; rfl
  show own_E p e below (own_K (own_copy2_4_Q Z a1 kc1 ea0 ea1 h0 n0) s ({ frames := 1, cells := 1, slots := 4, locals := 40 } : Room).cells ({ frames := 1, cells := 1, slots := 4, locals := 40 } : Room).slots) s₁ (entryFrame m #[(.ref a1), (.int (4 : Int32))] 3)
  refine own_pre (own_copy2_4_ef m a1 kc1 ea0 ea1) ?_
  show own_E p e below _ s₁ (mkF m 0 #[rv a1, iv 4, .unset] [])
  refine own_st (fun t k => XS.iloadN X0.here hx rfl (hb hby own_d_jdk_65_method_123_0) rfl k) ?_
  show own_E p e below _ s₁ (mkF m 1 #[rv a1, iv 4, .unset] [.int 4])
  refine own_st (fun t k => XS.aloadN X0.here hx rfl (hb hby own_d_jdk_65_method_123_1) rfl rfl k) ?_
  show own_E p e below _ s₁ (mkF m 2 #[rv a1, iv 4, .unset] [.ref a1, .int 4])
  refine own_st (own_alen X0 hx hZ e0 V_a1 (g := (mkF m 2 #[rv a1, iv 4, .unset] [.ref a1, .int 4])) rfl rfl (hb hby own_d_jdk_65_method_123_2)) ?_
  show own_E p e below _ s₁ (mkF m 3 #[rv a1, iv 4, .unset] [.int 2, .int 4])
  refine own_st (fun t k => XS.icmpYes X0.here hx rfl (pc0 := 3) (pc' := 14) rfl (hb hby own_d_jdk_65_method_123_3) rfl (by decide) (by decide) (by decide) k) ?_
  show own_E p e below _ s₁ (mkF m 14 #[rv a1, iv 4, .unset] [])
  refine own_st (fun t k => XS.iloadN X0.here hx rfl (hb hby own_d_jdk_65_method_123_14) rfl k) ?_
  show own_E p e below _ s₁ (mkF m 15 #[rv a1, iv 4, .unset] [.int 4])
  obtain ⟨T1, h1, k1, X1, e1, E1, A1, Ea1, st1⟩ := newPE X0 hx hZ (own_w hw 9 rfl) e0 (g := (mkF m 15 #[rv a1, iv 4, .unset] [.int 4])) rfl (hb hby own_d_jdk_65_method_123_15) rfl (by decide) (cap := 4) (by decide) (by decide) (by decide) (by decide) (ad := "[I") (by decide)
  obtain ⟨b1, g1⟩ : ∃ z, z = h0.size := ⟨_, rfl⟩
  rw [← g1] at A1 st1 Ea1
  have ne_a1_b1 : a1 ≠ b1 := Nat.ne_of_lt (Nat.lt_of_lt_of_le E_a1.lt (Nat.le_of_eq g1.symm))
  have g_b1 : n0 ≤ b1 := Nat.le_trans Z0 (Nat.le_of_eq g1.symm)
  have sz_b1 : h0.size ≤ b1 := Nat.le_trans (Keep.refl h0 []).1 (Nat.le_of_eq g1.symm)
  have Z2 := Nat.le_trans Z0 E1.1
  have K3 : Keep h0 _ [] := (Keep.refl h0 []).ext E1
  have V1 : Arv Z h1 b1 k1 .int (4 : Int32) [(.int (0 : Int32)), (.int (0 : Int32)), (.int (0 : Int32)), (.int (0 : Int32))] (.int (0 : Int32)) := (Arv.new A1 (by decide)).pad (pad_rep [] (.int (0 : Int32)) 4)
  refine own_st st1 ?_
  show own_E p e below _ T1 (mkF m 17 #[rv a1, iv 4, .unset] [.ref b1])
  refine own_st (fun t k => XS.astoreN X1.here hx rfl (hb hby own_d_jdk_65_method_123_17) rfl rfl (l' := #[rv a1, iv 4, rv b1]) rfl k) ?_
  show own_E p e below _ T1 (mkF m 18 #[rv a1, iv 4, rv b1] [])
  refine own_st (fun t k => XS.aloadN X1.here hx rfl (hb hby own_d_jdk_65_method_123_18) rfl rfl k) ?_
  show own_E p e below _ T1 (mkF m 19 #[rv a1, iv 4, rv b1] [.ref a1])
  refine own_st (fun t k => XS.iconst X1.here hx rfl (hb hby own_d_jdk_65_method_123_19) k) ?_
  show own_E p e below _ T1 (mkF m 20 #[rv a1, iv 4, rv b1] [.int 0, .ref a1])
  refine own_st (fun t k => XS.aloadN X1.here hx rfl (hb hby own_d_jdk_65_method_123_20) rfl rfl k) ?_
  show own_E p e below _ T1 (mkF m 21 #[rv a1, iv 4, rv b1] [.ref b1, .int 0, .ref a1])
  refine own_st (fun t k => XS.iconst X1.here hx rfl (hb hby own_d_jdk_65_method_123_21) k) ?_
  show own_E p e below _ T1 (mkF m 22 #[rv a1, iv 4, rv b1] [.int 0, .ref b1, .int 0, .ref a1])
  refine own_st (fun t k => XS.aloadN X1.here hx rfl (hb hby own_d_jdk_65_method_123_22) rfl rfl k) ?_
  show own_E p e below _ T1 (mkF m 23 #[rv a1, iv 4, rv b1] [.ref a1, .int 0, .ref b1, .int 0, .ref a1])
  have B4 := (V_a1.ext E1)
  refine own_st (own_alen X1 hx hZ e1 B4 (g := (mkF m 23 #[rv a1, iv 4, rv b1] [.ref a1, .int 0, .ref b1, .int 0, .ref a1])) rfl rfl (hb hby own_d_jdk_65_method_123_23)) ?_
  show own_E p e below _ T1 (mkF m 24 #[rv a1, iv 4, rv b1] [.int 2, .int 0, .ref b1, .int 0, .ref a1])
  refine own_st (fun t k => XS.iloadN X1.here hx rfl (hb hby own_d_jdk_65_method_123_24) rfl k) ?_
  show own_E p e below _ T1 (mkF m 25 #[rv a1, iv 4, rv b1] [.int 4, .int 2, .int 0, .ref b1, .int 0, .ref a1])
  obtain ⟨_, _, ⟨T5, L5, k5, n5⟩, -, X5, ⟨Lc5, hQ5, l5, y5, z5⟩, st5⟩ := Jvm.LawKit.callS X1 hx (y := own_y0) hown (mvT hZ (own_w hw 31 rfl)) (mvT hZ (own_w hw 32 rfl)) (mvT hZ (own_w hw 33 rfl)) (mvT hZ (own_w hw 34 rfl)) (by decide) (backOf (W := 4) (own_minA l Z a0 hw [] (2 : Int32) (4 : Int32) h1 n0 Z2 ) hZ (own_w hw 34 rfl) (own_w hw 33 rfl) (by decide) (by decide)) (g := (mkF m 25 #[rv a1, iv 4, rv b1] [.int 4, .int 2, .int 0, .ref b1, .int 0, .ref a1])) rfl (by rw [hml]; rfl) (argsL := [(.int (2 : Int32)), (.int (4 : Int32))]) (rest := [(.int (0 : Int32)), (.ref b1), (.int (0 : Int32)), (.ref a1)]) (lenOf own_pd_2 rfl) rfl (by show 2 * 0 + _ ≤ _; exact Nat.le_of_eq rfl) (hb hby own_d_jdk_65_method_123_25) (fun _ _ => ⟨rfl, e1, (by decide : 1 + 0 ≤ _), (by decide : 4 + 0 ≤ _)⟩)
  dsimp only [Pt.U, Pt.locs, Pt.cells, Pt.slots] at X5 l5 y5 z5 st5 hQ5
  subst l5 y5 z5
  obtain ⟨hR5, e5, rfl⟩ := hQ5
  have N5 := Fr.app (Fr.nil n0) (Fr.nil n0)
  rcases hR5 with ⟨rfl, ha5_0⟩ | ⟨rfl, ha5_0⟩
  · exact absurd ha5_0 (by decide)
  · refine own_st st5 ?_
    show own_E p e below _ T5 (mkF m 28 #[rv a1, iv 4, rv b1] [.int 2, .int 0, .ref b1, .int 0, .ref a1])
    obtain ⟨T6, h6, L6, X6, e6, N6, K6, Vw6, st6⟩ := cpA X5 hx hZ hown (own_w hw 35 rfl) (own_w hw 38 rfl) (own_w hw 36 rfl) (own_w hw 37 rfl) e5 (sp := (0 : Int32)) (dp := (0 : Int32)) (nn := (2 : Int32)) (us := [(.int ea0), (.int ea1)]) B4 V1 (Or.inl ⟨rfl, rfl⟩) (by decide) (by decide) (by decide) (by decide) (by decide) rfl (Nat.le_of_ble_eq_true rfl) N5 g_b1 (g := (mkF m 28 #[rv a1, iv 4, rv b1] [.int 2, .int 0, .ref b1, .int 0, .ref a1])) rfl (by rw [hml]; rfl) rfl (hb hby own_d_jdk_65_method_123_28) (by decide) (W := 0) (by show 2 * 0 + _ ≤ _; exact Nat.le_of_eq rfl) (by decide)
    have V6 : Arv Z h6 b1 k1 .int (4 : Int32) [(.int ea0), (.int ea1), (.int (0 : Int32)), (.int (0 : Int32))] (.int (0 : Int32)) := Vw6
    have Z7 := Nat.le_trans Z2 K6.1
    have K8 : Keep h0 _ [] := K3.trans K6 (allS (P := fun x => x ∈ [] ∨ h0.size ≤ x) (Or.inr sz_b1) all0)
    refine own_st st6 ?_
    show own_E p e below _ T6 (mkF m 31 #[rv a1, iv 4, rv b1] [])
    refine own_st (fun t k => XS.aloadN X6.here hx rfl (hb hby own_d_jdk_65_method_123_31) rfl rfl k) ?_
    show own_E p e below _ T6 (mkF m 32 #[rv a1, iv 4, rv b1] [.ref b1])
    refine own_retA X6 hx Bd.notSynchronized Bd.returns rfl rfl (hb hby own_d_jdk_65_method_123_32) (by decide) (by decide) ?_
    have B9 := (Ea1.keep K6)
    show own_copy2_4_Q Z a1 kc1 ea0 ea1 h0 n0 _ T6.heap _
    rw [e6]
    exact ⟨b1, k1, rfl, N6, K8, sz_b1, V6, B9⟩
def own_copy1_0_Q (Z : State) (a1 : Addr) (kc1 : ClassId) (ea0 : Int32) (h0 : Heap) (n0 : Nat) (v : Option Value) (h : Heap) (L : List Loc) : Prop := ∃ (o0 : Addr), ∃ (o1 : ClassId), v = some (.ref o0) ∧ Fr n0 L ∧ Keep h0 h [] ∧ h0.size ≤ o0 ∧ Arv Z h o0 o1 .int (0 : Int32) [] (.int (0 : Int32)) ∧ Exa Z h o0 "[I"
theorem own_copy1_0_ef (m : MethodId) (a1 : Addr) (kc1 : ClassId) (ea0 : Int32) : entryFrame m #[(.ref a1), (.int (0 : Int32))] 3 = mkF m 0 #[.val (.ref a1), .val (.int (0 : Int32)), .unset] [] := by first | (simp [entryFrame, mkF, argsToLocals, Value.category]; done) | rfl
set_option maxRecDepth 65536 in
set_option maxHeartbeats 40000000 in
theorem own_copy1_0 (l : Launch) (Z : State) (a0 : Array Value) (hw : ∀ d ∈ tables_1, d.before a0 Z = true) (ws : List Jvm.Cond) (a1 : Addr) (kc1 : ClassId) (ea0 : Int32) (h0 : Heap) (n0 : Nat) (Z0 : n0 ≤ h0.size) (E_a1 : Exa Z h0 a1 "[I") (V_a1 : Arv Z h0 a1 kc1 .int (1 : Int32) [(.int ea0)] (.int (0 : Int32))) :
    MetFree l own_y2 (head1 (Jvm.Cond.code own_y2 jdk_65_method_123_code 3 (some (.array .int)) :: ws) ({ frames := 1, cells := 1, slots := 0, locals := 40 } : Room)) (fun a U => a = #[(.ref a1), (.int (0 : Int32))] ∧ Z.Warmed39 U.vm ∧ U.heap = h0) (fun _ _ _ _ _ => True) (fun _ U o U' => ∃ v L, o = .returned v ∧ own_copy1_0_Q Z a1 kc1 ea0 h0 n0 v U'.heap L ∧ FrameEnd U o U' L ({ frames := 1, cells := 1, slots := 0, locals := 40 } : Room).cells ({ frames := 1, cells := 1, slots := 0, locals := 40 } : Room).slots) := by
  refine MetFree.of_bodySF (plainFor_of_name own_pn_Arrays) hisR ?_
  intro p e s m args below meth c s₁ Bd hml0 hP hK
  obtain ⟨rfl, hZ, hh⟩ := hP
  have hx := Bd.exec
  have hby := Bd.bytes
  have hml : c.maxLocals = 3 := hml0
  have hown : s.vm.findClass "java/util/Arrays" = some m.cls := findClass_of_methodNamed Bd.named
  have hnm := (name_of_methodNamed Bd.named Bd.method).1
  have X0 : Stand p l e ({ frames := 1, cells := 1, slots := 0, locals := 40 } : Room) s m #[(.ref a1), (.int (0 : Int32))] below meth c s₁ [] 0 0 := Stand.of_body Bd
  have e0 : s₁.heap = h0 := by rw [← hh, Bd.state]; rfl
  show own_E p e below (own_K (own_copy1_0_Q Z a1 kc1 ea0 h0 n0) s ({ frames := 1, cells := 1, slots := 0, locals := 40 } : Room).cells ({ frames := 1, cells := 1, slots := 0, locals := 40 } : Room).slots) s₁ (entryFrame m #[(.ref a1), (.int (0 : Int32))] 3)
  refine own_pre (own_copy1_0_ef m a1 kc1 ea0) ?_
  show own_E p e below _ s₁ (mkF m 0 #[rv a1, iv 0, .unset] [])
  refine own_st (fun t k => XS.iloadN X0.here hx rfl (hb hby own_d_jdk_65_method_123_0) rfl k) ?_
  show own_E p e below _ s₁ (mkF m 1 #[rv a1, iv 0, .unset] [.int 0])
  refine own_st (fun t k => XS.aloadN X0.here hx rfl (hb hby own_d_jdk_65_method_123_1) rfl rfl k) ?_
  show own_E p e below _ s₁ (mkF m 2 #[rv a1, iv 0, .unset] [.ref a1, .int 0])
  refine own_st (own_alen X0 hx hZ e0 V_a1 (g := (mkF m 2 #[rv a1, iv 0, .unset] [.ref a1, .int 0])) rfl rfl (hb hby own_d_jdk_65_method_123_2)) ?_
  show own_E p e below _ s₁ (mkF m 3 #[rv a1, iv 0, .unset] [.int 1, .int 0])
  refine own_st (fun t k => XS.icmpYes X0.here hx rfl (pc0 := 3) (pc' := 14) rfl (hb hby own_d_jdk_65_method_123_3) rfl (by decide) (by decide) (by decide) k) ?_
  show own_E p e below _ s₁ (mkF m 14 #[rv a1, iv 0, .unset] [])
  refine own_st (fun t k => XS.iloadN X0.here hx rfl (hb hby own_d_jdk_65_method_123_14) rfl k) ?_
  show own_E p e below _ s₁ (mkF m 15 #[rv a1, iv 0, .unset] [.int 0])
  obtain ⟨T1, h1, k1, X1, e1, E1, A1, Ea1, st1⟩ := newPE X0 hx hZ (own_w hw 9 rfl) e0 (g := (mkF m 15 #[rv a1, iv 0, .unset] [.int 0])) rfl (hb hby own_d_jdk_65_method_123_15) rfl (by decide) (cap := 0) (by decide) (by decide) (by decide) (by decide) (ad := "[I") (by decide)
  obtain ⟨b1, g1⟩ : ∃ z, z = h0.size := ⟨_, rfl⟩
  rw [← g1] at A1 st1 Ea1
  have ne_a1_b1 : a1 ≠ b1 := Nat.ne_of_lt (Nat.lt_of_lt_of_le E_a1.lt (Nat.le_of_eq g1.symm))
  have g_b1 : n0 ≤ b1 := Nat.le_trans Z0 (Nat.le_of_eq g1.symm)
  have sz_b1 : h0.size ≤ b1 := Nat.le_trans (Keep.refl h0 []).1 (Nat.le_of_eq g1.symm)
  have Z2 := Nat.le_trans Z0 E1.1
  have K3 : Keep h0 _ [] := (Keep.refl h0 []).ext E1
  have V1 : Arv Z h1 b1 k1 .int (0 : Int32) [] (.int (0 : Int32)) := (Arv.new A1 (by decide)).pad (pad_rep [] (.int (0 : Int32)) 0)
  refine own_st st1 ?_
  show own_E p e below _ T1 (mkF m 17 #[rv a1, iv 0, .unset] [.ref b1])
  refine own_st (fun t k => XS.astoreN X1.here hx rfl (hb hby own_d_jdk_65_method_123_17) rfl rfl (l' := #[rv a1, iv 0, rv b1]) rfl k) ?_
  show own_E p e below _ T1 (mkF m 18 #[rv a1, iv 0, rv b1] [])
  refine own_st (fun t k => XS.aloadN X1.here hx rfl (hb hby own_d_jdk_65_method_123_18) rfl rfl k) ?_
  show own_E p e below _ T1 (mkF m 19 #[rv a1, iv 0, rv b1] [.ref a1])
  refine own_st (fun t k => XS.iconst X1.here hx rfl (hb hby own_d_jdk_65_method_123_19) k) ?_
  show own_E p e below _ T1 (mkF m 20 #[rv a1, iv 0, rv b1] [.int 0, .ref a1])
  refine own_st (fun t k => XS.aloadN X1.here hx rfl (hb hby own_d_jdk_65_method_123_20) rfl rfl k) ?_
  show own_E p e below _ T1 (mkF m 21 #[rv a1, iv 0, rv b1] [.ref b1, .int 0, .ref a1])
  refine own_st (fun t k => XS.iconst X1.here hx rfl (hb hby own_d_jdk_65_method_123_21) k) ?_
  show own_E p e below _ T1 (mkF m 22 #[rv a1, iv 0, rv b1] [.int 0, .ref b1, .int 0, .ref a1])
  refine own_st (fun t k => XS.aloadN X1.here hx rfl (hb hby own_d_jdk_65_method_123_22) rfl rfl k) ?_
  show own_E p e below _ T1 (mkF m 23 #[rv a1, iv 0, rv b1] [.ref a1, .int 0, .ref b1, .int 0, .ref a1])
  have B4 := (V_a1.ext E1)
  refine own_st (own_alen X1 hx hZ e1 B4 (g := (mkF m 23 #[rv a1, iv 0, rv b1] [.ref a1, .int 0, .ref b1, .int 0, .ref a1])) rfl rfl (hb hby own_d_jdk_65_method_123_23)) ?_
  show own_E p e below _ T1 (mkF m 24 #[rv a1, iv 0, rv b1] [.int 1, .int 0, .ref b1, .int 0, .ref a1])
  refine own_st (fun t k => XS.iloadN X1.here hx rfl (hb hby own_d_jdk_65_method_123_24) rfl k) ?_
  show own_E p e below _ T1 (mkF m 25 #[rv a1, iv 0, rv b1] [.int 0, .int 1, .int 0, .ref b1, .int 0, .ref a1])
  obtain ⟨_, _, ⟨T5, L5, k5, n5⟩, -, X5, ⟨Lc5, hQ5, l5, y5, z5⟩, st5⟩ := Jvm.LawKit.callS X1 hx (y := own_y0) hown (mvT hZ (own_w hw 31 rfl)) (mvT hZ (own_w hw 32 rfl)) (mvT hZ (own_w hw 33 rfl)) (mvT hZ (own_w hw 34 rfl)) (by decide) (backOf (W := 4) (own_minA l Z a0 hw [] (1 : Int32) (0 : Int32) h1 n0 Z2 ) hZ (own_w hw 34 rfl) (own_w hw 33 rfl) (by decide) (by decide)) (g := (mkF m 25 #[rv a1, iv 0, rv b1] [.int 0, .int 1, .int 0, .ref b1, .int 0, .ref a1])) rfl (by rw [hml]; rfl) (argsL := [(.int (1 : Int32)), (.int (0 : Int32))]) (rest := [(.int (0 : Int32)), (.ref b1), (.int (0 : Int32)), (.ref a1)]) (lenOf own_pd_2 rfl) rfl (by show 2 * 0 + _ ≤ _; exact Nat.le_of_eq rfl) (hb hby own_d_jdk_65_method_123_25) (fun _ _ => ⟨rfl, e1, (by decide : 1 + 0 ≤ _), (by decide : 0 + 0 ≤ _)⟩)
  dsimp only [Pt.U, Pt.locs, Pt.cells, Pt.slots] at X5 l5 y5 z5 st5 hQ5
  subst l5 y5 z5
  obtain ⟨hR5, e5, rfl⟩ := hQ5
  have N5 := Fr.app (Fr.nil n0) (Fr.nil n0)
  rcases hR5 with ⟨rfl, ha5_0⟩ | ⟨rfl, ha5_0⟩
  · refine own_st st5 ?_
    show own_E p e below _ T5 (mkF m 28 #[rv a1, iv 0, rv b1] [.int 0, .int 0, .ref b1, .int 0, .ref a1])
    obtain ⟨T6, h6, L6, X6, e6, N6, K6, Vw6, st6⟩ := cpA X5 hx hZ hown (own_w hw 35 rfl) (own_w hw 38 rfl) (own_w hw 36 rfl) (own_w hw 37 rfl) e5 (sp := (0 : Int32)) (dp := (0 : Int32)) (nn := (0 : Int32)) (us := []) B4 V1 (Or.inl ⟨rfl, rfl⟩) (by decide) (by decide) (by decide) (by decide) (by decide) rfl (Nat.le_of_ble_eq_true rfl) N5 g_b1 (g := (mkF m 28 #[rv a1, iv 0, rv b1] [.int 0, .int 0, .ref b1, .int 0, .ref a1])) rfl (by rw [hml]; rfl) rfl (hb hby own_d_jdk_65_method_123_28) (by decide) (W := 0) (by show 2 * 0 + _ ≤ _; exact Nat.le_of_eq rfl) (by decide)
    have V6 : Arv Z h6 b1 k1 .int (0 : Int32) [] (.int (0 : Int32)) := Vw6
    have Z7 := Nat.le_trans Z2 K6.1
    have K8 : Keep h0 _ [] := K3.trans K6 (allS (P := fun x => x ∈ [] ∨ h0.size ≤ x) (Or.inr sz_b1) all0)
    refine own_st st6 ?_
    show own_E p e below _ T6 (mkF m 31 #[rv a1, iv 0, rv b1] [])
    refine own_st (fun t k => XS.aloadN X6.here hx rfl (hb hby own_d_jdk_65_method_123_31) rfl rfl k) ?_
    show own_E p e below _ T6 (mkF m 32 #[rv a1, iv 0, rv b1] [.ref b1])
    refine own_retA X6 hx Bd.notSynchronized Bd.returns rfl rfl (hb hby own_d_jdk_65_method_123_32) (by decide) (by decide) ?_
    have B9 := (Ea1.keep K6)
    show own_copy1_0_Q Z a1 kc1 ea0 h0 n0 _ T6.heap _
    rw [e6]
    exact ⟨b1, k1, rfl, N6, K8, sz_b1, V6, B9⟩
  · exact absurd ha5_0 (by decide)
theorem own_d_jdk_65_method_123_6 : decode jdk_65_method_123_code 6 = .ok (.aload_n 0, 1) := by decide +kernel
theorem own_d_jdk_65_method_123_7 : decode jdk_65_method_123_code 7 = .ok (.invokevirtual 316, 3) := by decide +kernel
theorem own_d_jdk_65_method_123_10 : decode jdk_65_method_123_code 10 = .ok (.checkcast 317, 3) := by decide +kernel
theorem own_d_jdk_65_method_123_13 : decode jdk_65_method_123_code 13 = .ok (.areturn, 1) := by decide +kernel
def own_copy1_1_Q (Z : State) (a1 : Addr) (kc1 : ClassId) (ea0 : Int32) (h0 : Heap) (n0 : Nat) (v : Option Value) (h : Heap) (L : List Loc) : Prop := ∃ (o0 : Addr), v = some (.ref o0) ∧ Fr n0 L ∧ Keep h0 h [] ∧ h0.size ≤ o0 ∧ Arv Z h o0 kc1 .int (1 : Int32) [(.int ea0)] (.int (0 : Int32)) ∧ Exa Z h o0 "[I"
theorem own_copy1_1_ef (m : MethodId) (a1 : Addr) (kc1 : ClassId) (ea0 : Int32) : entryFrame m #[(.ref a1), (.int (1 : Int32))] 3 = mkF m 0 #[.val (.ref a1), .val (.int (1 : Int32)), .unset] [] := by first | (simp [entryFrame, mkF, argsToLocals, Value.category]; done) | rfl
set_option maxRecDepth 65536 in
set_option maxHeartbeats 40000000 in
theorem own_copy1_1 (l : Launch) (Z : State) (a0 : Array Value) (hw : ∀ d ∈ tables_1, d.before a0 Z = true) (ws : List Jvm.Cond) (a1 : Addr) (kc1 : ClassId) (ea0 : Int32) (h0 : Heap) (n0 : Nat) (Z0 : n0 ≤ h0.size) (E_a1 : Exa Z h0 a1 "[I") (V_a1 : Arv Z h0 a1 kc1 .int (1 : Int32) [(.int ea0)] (.int (0 : Int32))) :
    MetFree l own_y2 (head1 (Jvm.Cond.code own_y2 jdk_65_method_123_code 3 (some (.array .int)) :: ws) ({ frames := 1, cells := 1, slots := 1, locals := 14 } : Room)) (fun a U => a = #[(.ref a1), (.int (1 : Int32))] ∧ Z.Warmed39 U.vm ∧ U.heap = h0) (fun _ _ _ _ _ => True) (fun _ U o U' => ∃ v L, o = .returned v ∧ own_copy1_1_Q Z a1 kc1 ea0 h0 n0 v U'.heap L ∧ FrameEnd U o U' L ({ frames := 1, cells := 1, slots := 1, locals := 14 } : Room).cells ({ frames := 1, cells := 1, slots := 1, locals := 14 } : Room).slots) := by
  refine MetFree.of_bodySF (plainFor_of_name own_pn_Arrays) hisR ?_
  intro p e s m args below meth c s₁ Bd hml0 hP hK
  obtain ⟨rfl, hZ, hh⟩ := hP
  have hx := Bd.exec
  have hby := Bd.bytes
  have hml : c.maxLocals = 3 := hml0
  have hown : s.vm.findClass "java/util/Arrays" = some m.cls := findClass_of_methodNamed Bd.named
  have hnm := (name_of_methodNamed Bd.named Bd.method).1
  have X0 : Stand p l e ({ frames := 1, cells := 1, slots := 1, locals := 14 } : Room) s m #[(.ref a1), (.int (1 : Int32))] below meth c s₁ [] 0 0 := Stand.of_body Bd
  have e0 : s₁.heap = h0 := by rw [← hh, Bd.state]; rfl
  show own_E p e below (own_K (own_copy1_1_Q Z a1 kc1 ea0 h0 n0) s ({ frames := 1, cells := 1, slots := 1, locals := 14 } : Room).cells ({ frames := 1, cells := 1, slots := 1, locals := 14 } : Room).slots) s₁ (entryFrame m #[(.ref a1), (.int (1 : Int32))] 3)
  refine own_pre (own_copy1_1_ef m a1 kc1 ea0) ?_
  show own_E p e below _ s₁ (mkF m 0 #[rv a1, iv 1, .unset] [])
  refine own_st (fun t k => XS.iloadN X0.here hx rfl (hb hby own_d_jdk_65_method_123_0) rfl k) ?_
  show own_E p e below _ s₁ (mkF m 1 #[rv a1, iv 1, .unset] [.int 1])
  refine own_st (fun t k => XS.aloadN X0.here hx rfl (hb hby own_d_jdk_65_method_123_1) rfl rfl k) ?_
  show own_E p e below _ s₁ (mkF m 2 #[rv a1, iv 1, .unset] [.ref a1, .int 1])
  refine own_st (own_alen X0 hx hZ e0 V_a1 (g := (mkF m 2 #[rv a1, iv 1, .unset] [.ref a1, .int 1])) rfl rfl (hb hby own_d_jdk_65_method_123_2)) ?_
  show own_E p e below _ s₁ (mkF m 3 #[rv a1, iv 1, .unset] [.int 1, .int 1])
  refine own_st (fun t k => XS.icmpNo X0.here hx rfl (hb hby own_d_jdk_65_method_123_3) rfl (by decide) k) ?_
  show own_E p e below _ s₁ (mkF m 6 #[rv a1, iv 1, .unset] [])
  refine own_st (fun t k => XS.aloadN X0.here hx rfl (hb hby own_d_jdk_65_method_123_6) rfl rfl k) ?_
  show own_E p e below _ s₁ (mkF m 7 #[rv a1, iv 1, .unset] [.ref a1])
  obtain ⟨T1, h1, X1, e1, E1, Vh1, Ea1, st1⟩ := cloneH X0 hx hZ hown (own_w hw 52 rfl) (own_w hw 53 rfl) (own_w hw 57 rfl) (own_w hw 55 rfl) (own_w hw 56 rfl) (own_w hw 58 rfl) e0 V_a1.arh E_a1 (g := (mkF m 7 #[rv a1, iv 1, .unset] [.ref a1])) rfl (by rw [hml]; rfl) rfl (hb hby own_d_jdk_65_method_123_7) (by decide) (W := 0) (cap := 1) (by show 2 * 0 + _ ≤ _; exact Nat.le_of_eq rfl) (by decide) (by decide) (by decide) (by decide)
  obtain ⟨b1, g1⟩ : ∃ z, z = h0.size := ⟨_, rfl⟩
  rw [← g1] at Vh1 Ea1 st1
  have ne_a1_b1 : a1 ≠ b1 := Nat.ne_of_lt (Nat.lt_of_lt_of_le E_a1.lt (Nat.le_of_eq g1.symm))
  have g_b1 : n0 ≤ b1 := Nat.le_trans Z0 (Nat.le_of_eq g1.symm)
  have sz_b1 : h0.size ≤ b1 := Nat.le_trans (Keep.refl h0 []).1 (Nat.le_of_eq g1.symm)
  have Z2 := Nat.le_trans Z0 E1.1
  have K3 : Keep h0 _ [] := (Keep.refl h0 []).ext E1
  have V1 : Arv Z h1 b1 kc1 .int (1 : Int32) [(.int ea0)] (.int (0 : Int32)) := Vh1
  refine own_st st1 ?_
  show own_E p e below _ T1 (mkF m 10 #[rv a1, iv 1, .unset] [.ref b1])
  obtain ⟨T4, X4, e4, st4⟩ := castY X1 hx hZ hown (own_w hw 59 rfl) e1 (Ins.self Ea1) (g := (mkF m 10 #[rv a1, iv 1, .unset] [.ref b1])) rfl rfl (hb hby own_d_jdk_65_method_123_10)
  refine own_st st4 ?_
  show own_E p e below _ T4 (mkF m 13 #[rv a1, iv 1, .unset] [.ref b1])
  refine own_retA X4 hx Bd.notSynchronized Bd.returns rfl rfl (hb hby own_d_jdk_65_method_123_13) (by decide) (by decide) ?_
  show own_copy1_1_Q Z a1 kc1 ea0 h0 n0 _ T4.heap _
  rw [e4]
  exact ⟨b1, rfl, (Fr.nil n0), K3, sz_b1, V1, Ea1⟩
def own_copy2_2_Q (Z : State) (a1 : Addr) (kc1 : ClassId) (ea0 : Int32) (ea1 : Int32) (h0 : Heap) (n0 : Nat) (v : Option Value) (h : Heap) (L : List Loc) : Prop := ∃ (o0 : Addr), v = some (.ref o0) ∧ Fr n0 L ∧ Keep h0 h [] ∧ h0.size ≤ o0 ∧ Arv Z h o0 kc1 .int (2 : Int32) [(.int ea0), (.int ea1)] (.int (0 : Int32)) ∧ Exa Z h o0 "[I"
theorem own_copy2_2_ef (m : MethodId) (a1 : Addr) (kc1 : ClassId) (ea0 : Int32) (ea1 : Int32) : entryFrame m #[(.ref a1), (.int (2 : Int32))] 3 = mkF m 0 #[.val (.ref a1), .val (.int (2 : Int32)), .unset] [] := by first | (simp [entryFrame, mkF, argsToLocals, Value.category]; done) | rfl
set_option maxRecDepth 65536 in
set_option maxHeartbeats 40000000 in
theorem own_copy2_2 (l : Launch) (Z : State) (a0 : Array Value) (hw : ∀ d ∈ tables_1, d.before a0 Z = true) (ws : List Jvm.Cond) (a1 : Addr) (kc1 : ClassId) (ea0 : Int32) (ea1 : Int32) (h0 : Heap) (n0 : Nat) (Z0 : n0 ≤ h0.size) (E_a1 : Exa Z h0 a1 "[I") (V_a1 : Arv Z h0 a1 kc1 .int (2 : Int32) [(.int ea0), (.int ea1)] (.int (0 : Int32))) :
    MetFree l own_y2 (head1 (Jvm.Cond.code own_y2 jdk_65_method_123_code 3 (some (.array .int)) :: ws) ({ frames := 1, cells := 1, slots := 2, locals := 14 } : Room)) (fun a U => a = #[(.ref a1), (.int (2 : Int32))] ∧ Z.Warmed39 U.vm ∧ U.heap = h0) (fun _ _ _ _ _ => True) (fun _ U o U' => ∃ v L, o = .returned v ∧ own_copy2_2_Q Z a1 kc1 ea0 ea1 h0 n0 v U'.heap L ∧ FrameEnd U o U' L ({ frames := 1, cells := 1, slots := 2, locals := 14 } : Room).cells ({ frames := 1, cells := 1, slots := 2, locals := 14 } : Room).slots) := by
  refine MetFree.of_bodySF (plainFor_of_name own_pn_Arrays) hisR ?_
  intro p e s m args below meth c s₁ Bd hml0 hP hK
  obtain ⟨rfl, hZ, hh⟩ := hP
  have hx := Bd.exec
  have hby := Bd.bytes
  have hml : c.maxLocals = 3 := hml0
  have hown : s.vm.findClass "java/util/Arrays" = some m.cls := findClass_of_methodNamed Bd.named
  have hnm := (name_of_methodNamed Bd.named Bd.method).1
  have X0 : Stand p l e ({ frames := 1, cells := 1, slots := 2, locals := 14 } : Room) s m #[(.ref a1), (.int (2 : Int32))] below meth c s₁ [] 0 0 := Stand.of_body Bd
  have e0 : s₁.heap = h0 := by rw [← hh, Bd.state]; rfl
  show own_E p e below (own_K (own_copy2_2_Q Z a1 kc1 ea0 ea1 h0 n0) s ({ frames := 1, cells := 1, slots := 2, locals := 14 } : Room).cells ({ frames := 1, cells := 1, slots := 2, locals := 14 } : Room).slots) s₁ (entryFrame m #[(.ref a1), (.int (2 : Int32))] 3)
  refine own_pre (own_copy2_2_ef m a1 kc1 ea0 ea1) ?_
  show own_E p e below _ s₁ (mkF m 0 #[rv a1, iv 2, .unset] [])
  refine own_st (fun t k => XS.iloadN X0.here hx rfl (hb hby own_d_jdk_65_method_123_0) rfl k) ?_
  show own_E p e below _ s₁ (mkF m 1 #[rv a1, iv 2, .unset] [.int 2])
  refine own_st (fun t k => XS.aloadN X0.here hx rfl (hb hby own_d_jdk_65_method_123_1) rfl rfl k) ?_
  show own_E p e below _ s₁ (mkF m 2 #[rv a1, iv 2, .unset] [.ref a1, .int 2])
  refine own_st (own_alen X0 hx hZ e0 V_a1 (g := (mkF m 2 #[rv a1, iv 2, .unset] [.ref a1, .int 2])) rfl rfl (hb hby own_d_jdk_65_method_123_2)) ?_
  show own_E p e below _ s₁ (mkF m 3 #[rv a1, iv 2, .unset] [.int 2, .int 2])
  refine own_st (fun t k => XS.icmpNo X0.here hx rfl (hb hby own_d_jdk_65_method_123_3) rfl (by decide) k) ?_
  show own_E p e below _ s₁ (mkF m 6 #[rv a1, iv 2, .unset] [])
  refine own_st (fun t k => XS.aloadN X0.here hx rfl (hb hby own_d_jdk_65_method_123_6) rfl rfl k) ?_
  show own_E p e below _ s₁ (mkF m 7 #[rv a1, iv 2, .unset] [.ref a1])
  obtain ⟨T1, h1, X1, e1, E1, Vh1, Ea1, st1⟩ := cloneH X0 hx hZ hown (own_w hw 52 rfl) (own_w hw 53 rfl) (own_w hw 57 rfl) (own_w hw 55 rfl) (own_w hw 56 rfl) (own_w hw 58 rfl) e0 V_a1.arh E_a1 (g := (mkF m 7 #[rv a1, iv 2, .unset] [.ref a1])) rfl (by rw [hml]; rfl) rfl (hb hby own_d_jdk_65_method_123_7) (by decide) (W := 0) (cap := 2) (by show 2 * 0 + _ ≤ _; exact Nat.le_of_eq rfl) (by decide) (by decide) (by decide) (by decide)
  obtain ⟨b1, g1⟩ : ∃ z, z = h0.size := ⟨_, rfl⟩
  rw [← g1] at Vh1 Ea1 st1
  have ne_a1_b1 : a1 ≠ b1 := Nat.ne_of_lt (Nat.lt_of_lt_of_le E_a1.lt (Nat.le_of_eq g1.symm))
  have g_b1 : n0 ≤ b1 := Nat.le_trans Z0 (Nat.le_of_eq g1.symm)
  have sz_b1 : h0.size ≤ b1 := Nat.le_trans (Keep.refl h0 []).1 (Nat.le_of_eq g1.symm)
  have Z2 := Nat.le_trans Z0 E1.1
  have K3 : Keep h0 _ [] := (Keep.refl h0 []).ext E1
  have V1 : Arv Z h1 b1 kc1 .int (2 : Int32) [(.int ea0), (.int ea1)] (.int (0 : Int32)) := Vh1
  refine own_st st1 ?_
  show own_E p e below _ T1 (mkF m 10 #[rv a1, iv 2, .unset] [.ref b1])
  obtain ⟨T4, X4, e4, st4⟩ := castY X1 hx hZ hown (own_w hw 59 rfl) e1 (Ins.self Ea1) (g := (mkF m 10 #[rv a1, iv 2, .unset] [.ref b1])) rfl rfl (hb hby own_d_jdk_65_method_123_10)
  refine own_st st4 ?_
  show own_E p e below _ T4 (mkF m 13 #[rv a1, iv 2, .unset] [.ref b1])
  refine own_retA X4 hx Bd.notSynchronized Bd.returns rfl rfl (hb hby own_d_jdk_65_method_123_13) (by decide) (by decide) ?_
  show own_copy2_2_Q Z a1 kc1 ea0 ea1 h0 n0 _ T4.heap _
  rw [e4]
  exact ⟨b1, rfl, (Fr.nil n0), K3, sz_b1, V1, Ea1⟩
def own_copy4_3_Q (Z : State) (a1 : Addr) (kc1 : ClassId) (ea0 : Int32) (ea1 : Int32) (ea2 : Int32) (ea3 : Int32) (h0 : Heap) (n0 : Nat) (v : Option Value) (h : Heap) (L : List Loc) : Prop := ∃ (o0 : Addr), ∃ (o1 : ClassId), v = some (.ref o0) ∧ Fr n0 L ∧ Keep h0 h [] ∧ h0.size ≤ o0 ∧ Arv Z h o0 o1 .int (3 : Int32) [(.int ea0), (.int ea1), (.int ea2)] (.int (0 : Int32)) ∧ Exa Z h o0 "[I"
theorem own_copy4_3_ef (m : MethodId) (a1 : Addr) (kc1 : ClassId) (ea0 : Int32) (ea1 : Int32) (ea2 : Int32) (ea3 : Int32) : entryFrame m #[(.ref a1), (.int (3 : Int32))] 3 = mkF m 0 #[.val (.ref a1), .val (.int (3 : Int32)), .unset] [] := by first | (simp [entryFrame, mkF, argsToLocals, Value.category]; done) | rfl
set_option maxRecDepth 65536 in
set_option maxHeartbeats 40000000 in
theorem own_copy4_3 (l : Launch) (Z : State) (a0 : Array Value) (hw : ∀ d ∈ tables_1, d.before a0 Z = true) (ws : List Jvm.Cond) (a1 : Addr) (kc1 : ClassId) (ea0 : Int32) (ea1 : Int32) (ea2 : Int32) (ea3 : Int32) (h0 : Heap) (n0 : Nat) (Z0 : n0 ≤ h0.size) (E_a1 : Exa Z h0 a1 "[I") (V_a1 : Arv Z h0 a1 kc1 .int (4 : Int32) [(.int ea0), (.int ea1), (.int ea2), (.int ea3)] (.int (0 : Int32))) :
    MetFree l own_y2 (head1 (Jvm.Cond.code own_y2 jdk_65_method_123_code 3 (some (.array .int)) :: ws) ({ frames := 1, cells := 1, slots := 3, locals := 40 } : Room)) (fun a U => a = #[(.ref a1), (.int (3 : Int32))] ∧ Z.Warmed39 U.vm ∧ U.heap = h0) (fun _ _ _ _ _ => True) (fun _ U o U' => ∃ v L, o = .returned v ∧ own_copy4_3_Q Z a1 kc1 ea0 ea1 ea2 ea3 h0 n0 v U'.heap L ∧ FrameEnd U o U' L ({ frames := 1, cells := 1, slots := 3, locals := 40 } : Room).cells ({ frames := 1, cells := 1, slots := 3, locals := 40 } : Room).slots) := by
  refine MetFree.of_bodySF (plainFor_of_name own_pn_Arrays) hisR ?_
  intro p e s m args below meth c s₁ Bd hml0 hP hK
  obtain ⟨rfl, hZ, hh⟩ := hP
  have hx := Bd.exec
  have hby := Bd.bytes
  have hml : c.maxLocals = 3 := hml0
  have hown : s.vm.findClass "java/util/Arrays" = some m.cls := findClass_of_methodNamed Bd.named
  have hnm := (name_of_methodNamed Bd.named Bd.method).1
  have X0 : Stand p l e ({ frames := 1, cells := 1, slots := 3, locals := 40 } : Room) s m #[(.ref a1), (.int (3 : Int32))] below meth c s₁ [] 0 0 := Stand.of_body Bd
  have e0 : s₁.heap = h0 := by rw [← hh, Bd.state]; rfl
  show own_E p e below (own_K (own_copy4_3_Q Z a1 kc1 ea0 ea1 ea2 ea3 h0 n0) s ({ frames := 1, cells := 1, slots := 3, locals := 40 } : Room).cells ({ frames := 1, cells := 1, slots := 3, locals := 40 } : Room).slots) s₁ (entryFrame m #[(.ref a1), (.int (3 : Int32))] 3)
  refine own_pre (own_copy4_3_ef m a1 kc1 ea0 ea1 ea2 ea3) ?_
  show own_E p e below _ s₁ (mkF m 0 #[rv a1, iv 3, .unset] [])
  refine own_st (fun t k => XS.iloadN X0.here hx rfl (hb hby own_d_jdk_65_method_123_0) rfl k) ?_
  show own_E p e below _ s₁ (mkF m 1 #[rv a1, iv 3, .unset] [.int 3])
  refine own_st (fun t k => XS.aloadN X0.here hx rfl (hb hby own_d_jdk_65_method_123_1) rfl rfl k) ?_
  show own_E p e below _ s₁ (mkF m 2 #[rv a1, iv 3, .unset] [.ref a1, .int 3])
  refine own_st (own_alen X0 hx hZ e0 V_a1 (g := (mkF m 2 #[rv a1, iv 3, .unset] [.ref a1, .int 3])) rfl rfl (hb hby own_d_jdk_65_method_123_2)) ?_
  show own_E p e below _ s₁ (mkF m 3 #[rv a1, iv 3, .unset] [.int 4, .int 3])
  refine own_st (fun t k => XS.icmpYes X0.here hx rfl (pc0 := 3) (pc' := 14) rfl (hb hby own_d_jdk_65_method_123_3) rfl (by decide) (by decide) (by decide) k) ?_
  show own_E p e below _ s₁ (mkF m 14 #[rv a1, iv 3, .unset] [])
  refine own_st (fun t k => XS.iloadN X0.here hx rfl (hb hby own_d_jdk_65_method_123_14) rfl k) ?_
  show own_E p e below _ s₁ (mkF m 15 #[rv a1, iv 3, .unset] [.int 3])
  obtain ⟨T1, h1, k1, X1, e1, E1, A1, Ea1, st1⟩ := newPE X0 hx hZ (own_w hw 9 rfl) e0 (g := (mkF m 15 #[rv a1, iv 3, .unset] [.int 3])) rfl (hb hby own_d_jdk_65_method_123_15) rfl (by decide) (cap := 3) (by decide) (by decide) (by decide) (by decide) (ad := "[I") (by decide)
  obtain ⟨b1, g1⟩ : ∃ z, z = h0.size := ⟨_, rfl⟩
  rw [← g1] at A1 st1 Ea1
  have ne_a1_b1 : a1 ≠ b1 := Nat.ne_of_lt (Nat.lt_of_lt_of_le E_a1.lt (Nat.le_of_eq g1.symm))
  have g_b1 : n0 ≤ b1 := Nat.le_trans Z0 (Nat.le_of_eq g1.symm)
  have sz_b1 : h0.size ≤ b1 := Nat.le_trans (Keep.refl h0 []).1 (Nat.le_of_eq g1.symm)
  have Z2 := Nat.le_trans Z0 E1.1
  have K3 : Keep h0 _ [] := (Keep.refl h0 []).ext E1
  have V1 : Arv Z h1 b1 k1 .int (3 : Int32) [(.int (0 : Int32)), (.int (0 : Int32)), (.int (0 : Int32))] (.int (0 : Int32)) := (Arv.new A1 (by decide)).pad (pad_rep [] (.int (0 : Int32)) 3)
  refine own_st st1 ?_
  show own_E p e below _ T1 (mkF m 17 #[rv a1, iv 3, .unset] [.ref b1])
  refine own_st (fun t k => XS.astoreN X1.here hx rfl (hb hby own_d_jdk_65_method_123_17) rfl rfl (l' := #[rv a1, iv 3, rv b1]) rfl k) ?_
  show own_E p e below _ T1 (mkF m 18 #[rv a1, iv 3, rv b1] [])
  refine own_st (fun t k => XS.aloadN X1.here hx rfl (hb hby own_d_jdk_65_method_123_18) rfl rfl k) ?_
  show own_E p e below _ T1 (mkF m 19 #[rv a1, iv 3, rv b1] [.ref a1])
  refine own_st (fun t k => XS.iconst X1.here hx rfl (hb hby own_d_jdk_65_method_123_19) k) ?_
  show own_E p e below _ T1 (mkF m 20 #[rv a1, iv 3, rv b1] [.int 0, .ref a1])
  refine own_st (fun t k => XS.aloadN X1.here hx rfl (hb hby own_d_jdk_65_method_123_20) rfl rfl k) ?_
  show own_E p e below _ T1 (mkF m 21 #[rv a1, iv 3, rv b1] [.ref b1, .int 0, .ref a1])
  refine own_st (fun t k => XS.iconst X1.here hx rfl (hb hby own_d_jdk_65_method_123_21) k) ?_
  show own_E p e below _ T1 (mkF m 22 #[rv a1, iv 3, rv b1] [.int 0, .ref b1, .int 0, .ref a1])
  refine own_st (fun t k => XS.aloadN X1.here hx rfl (hb hby own_d_jdk_65_method_123_22) rfl rfl k) ?_
  show own_E p e below _ T1 (mkF m 23 #[rv a1, iv 3, rv b1] [.ref a1, .int 0, .ref b1, .int 0, .ref a1])
  have B4 := (V_a1.ext E1)
  refine own_st (own_alen X1 hx hZ e1 B4 (g := (mkF m 23 #[rv a1, iv 3, rv b1] [.ref a1, .int 0, .ref b1, .int 0, .ref a1])) rfl rfl (hb hby own_d_jdk_65_method_123_23)) ?_
  show own_E p e below _ T1 (mkF m 24 #[rv a1, iv 3, rv b1] [.int 4, .int 0, .ref b1, .int 0, .ref a1])
  refine own_st (fun t k => XS.iloadN X1.here hx rfl (hb hby own_d_jdk_65_method_123_24) rfl k) ?_
  show own_E p e below _ T1 (mkF m 25 #[rv a1, iv 3, rv b1] [.int 3, .int 4, .int 0, .ref b1, .int 0, .ref a1])
  obtain ⟨_, _, ⟨T5, L5, k5, n5⟩, -, X5, ⟨Lc5, hQ5, l5, y5, z5⟩, st5⟩ := Jvm.LawKit.callS X1 hx (y := own_y0) hown (mvT hZ (own_w hw 31 rfl)) (mvT hZ (own_w hw 32 rfl)) (mvT hZ (own_w hw 33 rfl)) (mvT hZ (own_w hw 34 rfl)) (by decide) (backOf (W := 4) (own_minA l Z a0 hw [] (4 : Int32) (3 : Int32) h1 n0 Z2 ) hZ (own_w hw 34 rfl) (own_w hw 33 rfl) (by decide) (by decide)) (g := (mkF m 25 #[rv a1, iv 3, rv b1] [.int 3, .int 4, .int 0, .ref b1, .int 0, .ref a1])) rfl (by rw [hml]; rfl) (argsL := [(.int (4 : Int32)), (.int (3 : Int32))]) (rest := [(.int (0 : Int32)), (.ref b1), (.int (0 : Int32)), (.ref a1)]) (lenOf own_pd_2 rfl) rfl (by show 2 * 0 + _ ≤ _; exact Nat.le_of_eq rfl) (hb hby own_d_jdk_65_method_123_25) (fun _ _ => ⟨rfl, e1, (by decide : 1 + 0 ≤ _), (by decide : 3 + 0 ≤ _)⟩)
  dsimp only [Pt.U, Pt.locs, Pt.cells, Pt.slots] at X5 l5 y5 z5 st5 hQ5
  subst l5 y5 z5
  obtain ⟨hR5, e5, rfl⟩ := hQ5
  have N5 := Fr.app (Fr.nil n0) (Fr.nil n0)
  rcases hR5 with ⟨rfl, ha5_0⟩ | ⟨rfl, ha5_0⟩
  · refine own_st st5 ?_
    show own_E p e below _ T5 (mkF m 28 #[rv a1, iv 3, rv b1] [.int 3, .int 0, .ref b1, .int 0, .ref a1])
    obtain ⟨T6, h6, L6, X6, e6, N6, K6, Vw6, st6⟩ := cpA X5 hx hZ hown (own_w hw 35 rfl) (own_w hw 38 rfl) (own_w hw 36 rfl) (own_w hw 37 rfl) e5 (sp := (0 : Int32)) (dp := (0 : Int32)) (nn := (3 : Int32)) (us := [(.int ea0), (.int ea1), (.int ea2)]) B4 V1 (Or.inl ⟨rfl, rfl⟩) (by decide) (by decide) (by decide) (by decide) (by decide) rfl (Nat.le_of_ble_eq_true rfl) N5 g_b1 (g := (mkF m 28 #[rv a1, iv 3, rv b1] [.int 3, .int 0, .ref b1, .int 0, .ref a1])) rfl (by rw [hml]; rfl) rfl (hb hby own_d_jdk_65_method_123_28) (by decide) (W := 0) (by show 2 * 0 + _ ≤ _; exact Nat.le_of_eq rfl) (by decide)
    have V6 : Arv Z h6 b1 k1 .int (3 : Int32) [(.int ea0), (.int ea1), (.int ea2)] (.int (0 : Int32)) := Vw6
    have Z7 := Nat.le_trans Z2 K6.1
    have K8 : Keep h0 _ [] := K3.trans K6 (allS (P := fun x => x ∈ [] ∨ h0.size ≤ x) (Or.inr sz_b1) all0)
    refine own_st st6 ?_
    show own_E p e below _ T6 (mkF m 31 #[rv a1, iv 3, rv b1] [])
    refine own_st (fun t k => XS.aloadN X6.here hx rfl (hb hby own_d_jdk_65_method_123_31) rfl rfl k) ?_
    show own_E p e below _ T6 (mkF m 32 #[rv a1, iv 3, rv b1] [.ref b1])
    refine own_retA X6 hx Bd.notSynchronized Bd.returns rfl rfl (hb hby own_d_jdk_65_method_123_32) (by decide) (by decide) ?_
    have B9 := (Ea1.keep K6)
    show own_copy4_3_Q Z a1 kc1 ea0 ea1 ea2 ea3 h0 n0 _ T6.heap _
    rw [e6]
    exact ⟨b1, k1, rfl, N6, K8, sz_b1, V6, B9⟩
  · exact absurd ha5_0 (by decide)
def own_copy4_4_Q (Z : State) (a1 : Addr) (kc1 : ClassId) (ea0 : Int32) (ea1 : Int32) (ea2 : Int32) (ea3 : Int32) (h0 : Heap) (n0 : Nat) (v : Option Value) (h : Heap) (L : List Loc) : Prop := ∃ (o0 : Addr), v = some (.ref o0) ∧ Fr n0 L ∧ Keep h0 h [] ∧ h0.size ≤ o0 ∧ Arv Z h o0 kc1 .int (4 : Int32) [(.int ea0), (.int ea1), (.int ea2), (.int ea3)] (.int (0 : Int32)) ∧ Exa Z h o0 "[I"
theorem own_copy4_4_ef (m : MethodId) (a1 : Addr) (kc1 : ClassId) (ea0 : Int32) (ea1 : Int32) (ea2 : Int32) (ea3 : Int32) : entryFrame m #[(.ref a1), (.int (4 : Int32))] 3 = mkF m 0 #[.val (.ref a1), .val (.int (4 : Int32)), .unset] [] := by first | (simp [entryFrame, mkF, argsToLocals, Value.category]; done) | rfl
set_option maxRecDepth 65536 in
set_option maxHeartbeats 40000000 in
theorem own_copy4_4 (l : Launch) (Z : State) (a0 : Array Value) (hw : ∀ d ∈ tables_1, d.before a0 Z = true) (ws : List Jvm.Cond) (a1 : Addr) (kc1 : ClassId) (ea0 : Int32) (ea1 : Int32) (ea2 : Int32) (ea3 : Int32) (h0 : Heap) (n0 : Nat) (Z0 : n0 ≤ h0.size) (E_a1 : Exa Z h0 a1 "[I") (V_a1 : Arv Z h0 a1 kc1 .int (4 : Int32) [(.int ea0), (.int ea1), (.int ea2), (.int ea3)] (.int (0 : Int32))) :
    MetFree l own_y2 (head1 (Jvm.Cond.code own_y2 jdk_65_method_123_code 3 (some (.array .int)) :: ws) ({ frames := 1, cells := 1, slots := 4, locals := 14 } : Room)) (fun a U => a = #[(.ref a1), (.int (4 : Int32))] ∧ Z.Warmed39 U.vm ∧ U.heap = h0) (fun _ _ _ _ _ => True) (fun _ U o U' => ∃ v L, o = .returned v ∧ own_copy4_4_Q Z a1 kc1 ea0 ea1 ea2 ea3 h0 n0 v U'.heap L ∧ FrameEnd U o U' L ({ frames := 1, cells := 1, slots := 4, locals := 14 } : Room).cells ({ frames := 1, cells := 1, slots := 4, locals := 14 } : Room).slots) := by
  refine MetFree.of_bodySF (plainFor_of_name own_pn_Arrays) hisR ?_
  intro p e s m args below meth c s₁ Bd hml0 hP hK
  obtain ⟨rfl, hZ, hh⟩ := hP
  have hx := Bd.exec
  have hby := Bd.bytes
  have hml : c.maxLocals = 3 := hml0
  have hown : s.vm.findClass "java/util/Arrays" = some m.cls := findClass_of_methodNamed Bd.named
  have hnm := (name_of_methodNamed Bd.named Bd.method).1
  have X0 : Stand p l e ({ frames := 1, cells := 1, slots := 4, locals := 14 } : Room) s m #[(.ref a1), (.int (4 : Int32))] below meth c s₁ [] 0 0 := Stand.of_body Bd
  have e0 : s₁.heap = h0 := by rw [← hh, Bd.state]; rfl
  show own_E p e below (own_K (own_copy4_4_Q Z a1 kc1 ea0 ea1 ea2 ea3 h0 n0) s ({ frames := 1, cells := 1, slots := 4, locals := 14 } : Room).cells ({ frames := 1, cells := 1, slots := 4, locals := 14 } : Room).slots) s₁ (entryFrame m #[(.ref a1), (.int (4 : Int32))] 3)
  refine own_pre (own_copy4_4_ef m a1 kc1 ea0 ea1 ea2 ea3) ?_
  show own_E p e below _ s₁ (mkF m 0 #[rv a1, iv 4, .unset] [])
  refine own_st (fun t k => XS.iloadN X0.here hx rfl (hb hby own_d_jdk_65_method_123_0) rfl k) ?_
  show own_E p e below _ s₁ (mkF m 1 #[rv a1, iv 4, .unset] [.int 4])
  refine own_st (fun t k => XS.aloadN X0.here hx rfl (hb hby own_d_jdk_65_method_123_1) rfl rfl k) ?_
  show own_E p e below _ s₁ (mkF m 2 #[rv a1, iv 4, .unset] [.ref a1, .int 4])
  refine own_st (own_alen X0 hx hZ e0 V_a1 (g := (mkF m 2 #[rv a1, iv 4, .unset] [.ref a1, .int 4])) rfl rfl (hb hby own_d_jdk_65_method_123_2)) ?_
  show own_E p e below _ s₁ (mkF m 3 #[rv a1, iv 4, .unset] [.int 4, .int 4])
  refine own_st (fun t k => XS.icmpNo X0.here hx rfl (hb hby own_d_jdk_65_method_123_3) rfl (by decide) k) ?_
  show own_E p e below _ s₁ (mkF m 6 #[rv a1, iv 4, .unset] [])
  refine own_st (fun t k => XS.aloadN X0.here hx rfl (hb hby own_d_jdk_65_method_123_6) rfl rfl k) ?_
  show own_E p e below _ s₁ (mkF m 7 #[rv a1, iv 4, .unset] [.ref a1])
  obtain ⟨T1, h1, X1, e1, E1, Vh1, Ea1, st1⟩ := cloneH X0 hx hZ hown (own_w hw 52 rfl) (own_w hw 53 rfl) (own_w hw 57 rfl) (own_w hw 55 rfl) (own_w hw 56 rfl) (own_w hw 58 rfl) e0 V_a1.arh E_a1 (g := (mkF m 7 #[rv a1, iv 4, .unset] [.ref a1])) rfl (by rw [hml]; rfl) rfl (hb hby own_d_jdk_65_method_123_7) (by decide) (W := 0) (cap := 4) (by show 2 * 0 + _ ≤ _; exact Nat.le_of_eq rfl) (by decide) (by decide) (by decide) (by decide)
  obtain ⟨b1, g1⟩ : ∃ z, z = h0.size := ⟨_, rfl⟩
  rw [← g1] at Vh1 Ea1 st1
  have ne_a1_b1 : a1 ≠ b1 := Nat.ne_of_lt (Nat.lt_of_lt_of_le E_a1.lt (Nat.le_of_eq g1.symm))
  have g_b1 : n0 ≤ b1 := Nat.le_trans Z0 (Nat.le_of_eq g1.symm)
  have sz_b1 : h0.size ≤ b1 := Nat.le_trans (Keep.refl h0 []).1 (Nat.le_of_eq g1.symm)
  have Z2 := Nat.le_trans Z0 E1.1
  have K3 : Keep h0 _ [] := (Keep.refl h0 []).ext E1
  have V1 : Arv Z h1 b1 kc1 .int (4 : Int32) [(.int ea0), (.int ea1), (.int ea2), (.int ea3)] (.int (0 : Int32)) := Vh1
  refine own_st st1 ?_
  show own_E p e below _ T1 (mkF m 10 #[rv a1, iv 4, .unset] [.ref b1])
  obtain ⟨T4, X4, e4, st4⟩ := castY X1 hx hZ hown (own_w hw 59 rfl) e1 (Ins.self Ea1) (g := (mkF m 10 #[rv a1, iv 4, .unset] [.ref b1])) rfl rfl (hb hby own_d_jdk_65_method_123_10)
  refine own_st st4 ?_
  show own_E p e below _ T4 (mkF m 13 #[rv a1, iv 4, .unset] [.ref b1])
  refine own_retA X4 hx Bd.notSynchronized Bd.returns rfl rfl (hb hby own_d_jdk_65_method_123_13) (by decide) (by decide) ?_
  show own_copy4_4_Q Z a1 kc1 ea0 ea1 ea2 ea3 h0 n0 _ T4.heap _
  rw [e4]
  exact ⟨b1, rfl, (Fr.nil n0), K3, sz_b1, V1, Ea1⟩
theorem own_d_prog_14_method_1_0 : decode prog_14_method_1_code 0 = .ok (.aload_n 0, 1) := by decide +kernel
theorem own_d_prog_14_method_1_1 : decode prog_14_method_1_code 1 = .ok (.invokespecial 1, 3) := by decide +kernel
theorem own_d_prog_14_method_1_4 : decode prog_14_method_1_code 4 = .ok (.aload_n 0, 1) := by decide +kernel
theorem own_d_prog_14_method_1_5 : decode prog_14_method_1_code 5 = .ok (.iconst 1, 1) := by decide +kernel
theorem own_d_prog_14_method_1_6 : decode prog_14_method_1_code 6 = .ok (.newarray .int, 2) := by decide +kernel
theorem own_d_prog_14_method_1_8 : decode prog_14_method_1_code 8 = .ok (.putfield 7, 3) := by decide +kernel
theorem own_d_prog_14_method_1_11 : decode prog_14_method_1_code 11 = .ok (.aload_n 0, 1) := by decide +kernel
theorem own_d_prog_14_method_1_12 : decode prog_14_method_1_code 12 = .ok (.iconst 1, 1) := by decide +kernel
theorem own_d_prog_14_method_1_13 : decode prog_14_method_1_code 13 = .ok (.newarray .int, 2) := by decide +kernel
theorem own_d_prog_14_method_1_15 : decode prog_14_method_1_code 15 = .ok (.putfield 13, 3) := by decide +kernel
theorem own_d_prog_14_method_1_18 : decode prog_14_method_1_code 18 = .ok (.aload_n 0, 1) := by decide +kernel
theorem own_d_prog_14_method_1_19 : decode prog_14_method_1_code 19 = .ok (.ldc 18, 2) := by decide +kernel
theorem own_d_prog_14_method_1_21 : decode prog_14_method_1_code 21 = .ok (.putfield 19, 3) := by decide +kernel
theorem own_d_prog_14_method_1_24 : decode prog_14_method_1_code 24 = .ok (.return_, 1) := by decide +kernel
def own_init_Q (Z : State) (a1 : Addr) (h0 : Heap) (n0 : Nat) (v : Option Value) (h : Heap) (L : List Loc) : Prop := ∃ (o0 : Addr), ∃ (o1 : Addr), ∃ (o2 : ClassId), ∃ (o3 : ClassId), v = none ∧ Fr n0 L ∧ Keep h0 h [a1] ∧ h0.size ≤ o0 ∧ h0.size ≤ o1 ∧ o0 ≠ o1 ∧ Exa Z h a1 "com/example/lean_scorer/leanscorer/Postings" ∧ Fld Z h a1 "com/example/lean_scorer/leanscorer/Postings" "documents" "[I" (.ref o0) ∧ Fld Z h a1 "com/example/lean_scorer/leanscorer/Postings" "frequencies" "[I" (.ref o1) ∧ Fld Z h a1 "com/example/lean_scorer/leanscorer/Postings" "minLength" "I" (.int (2147483647 : Int32)) ∧ Fld Z h a1 "com/example/lean_scorer/leanscorer/Postings" "maxFrequency" "I" (.int (0 : Int32)) ∧ Fld Z h a1 "com/example/lean_scorer/leanscorer/Postings" "size" "I" (.int (0 : Int32)) ∧ Arv Z h o0 o2 .int (1 : Int32) [(.int (0 : Int32))] (.int (0 : Int32)) ∧ Exa Z h o0 "[I" ∧ Arv Z h o1 o3 .int (1 : Int32) [(.int (0 : Int32))] (.int (0 : Int32)) ∧ Exa Z h o1 "[I"
abbrev own_y3 : MethodName := ⟨"com/example/lean_scorer/leanscorer/Postings", "<init>", "()V"⟩
theorem own_pn_Postings : plainName "com/example/lean_scorer/leanscorer/Postings" = true := by first | (simp [plainName, overriddenIn]; done) | decide +kernel
theorem own_init_ef (m : MethodId) (a1 : Addr) : entryFrame m #[(.ref a1)] 1 = mkF m 0 #[.val (.ref a1)] [] := by first | (simp [entryFrame, mkF, argsToLocals, Value.category]; done) | rfl
set_option maxRecDepth 65536 in
set_option maxHeartbeats 40000000 in
theorem own_init (l : Launch) (Z : State) (a0 : Array Value) (hw : ∀ d ∈ tables_1, d.before a0 Z = true) (ws : List Jvm.Cond) (a1 : Addr) (h0 : Heap) (n0 : Nat) (Z0 : n0 ≤ h0.size) (E_a1 : Exa Z h0 a1 "com/example/lean_scorer/leanscorer/Postings") (F_documents_a1 : Fld Z h0 a1 "com/example/lean_scorer/leanscorer/Postings" "documents" "[I" .null) (F_frequencies_a1 : Fld Z h0 a1 "com/example/lean_scorer/leanscorer/Postings" "frequencies" "[I" .null) (F_minLength_a1 : Fld Z h0 a1 "com/example/lean_scorer/leanscorer/Postings" "minLength" "I" (.int (0 : Int32))) (F_maxFrequency_a1 : Fld Z h0 a1 "com/example/lean_scorer/leanscorer/Postings" "maxFrequency" "I" (.int (0 : Int32))) (F_size_a1 : Fld Z h0 a1 "com/example/lean_scorer/leanscorer/Postings" "size" "I" (.int (0 : Int32))) (g_a1 : n0 ≤ a1) :
    MetFree l own_y3 (head1 (Jvm.Cond.code own_y3 prog_14_method_1_code 1 none :: ws) ({ frames := 1, cells := 2, slots := 2, locals := 12 } : Room)) (fun a U => a = #[(.ref a1)] ∧ Z.Warmed39 U.vm ∧ U.heap = h0) (fun _ _ _ _ _ => True) (fun _ U o U' => ∃ v L, o = .returned v ∧ own_init_Q Z a1 h0 n0 v U'.heap L ∧ FrameEnd U o U' L ({ frames := 1, cells := 2, slots := 2, locals := 12 } : Room).cells ({ frames := 1, cells := 2, slots := 2, locals := 12 } : Room).slots) := by
  refine MetFree.of_bodySF (plainFor_of_name own_pn_Postings) hisR ?_
  intro p e s m args below meth c s₁ Bd hml0 hP hK
  obtain ⟨rfl, hZ, hh⟩ := hP
  have hx := Bd.exec
  have hby := Bd.bytes
  have hml : c.maxLocals = 1 := hml0
  have hown : s.vm.findClass "com/example/lean_scorer/leanscorer/Postings" = some m.cls := findClass_of_methodNamed Bd.named
  have hnm := (name_of_methodNamed Bd.named Bd.method).1
  have X0 : Stand p l e ({ frames := 1, cells := 2, slots := 2, locals := 12 } : Room) s m #[(.ref a1)] below meth c s₁ [] 0 0 := Stand.of_body Bd
  have e0 : s₁.heap = h0 := by rw [← hh, Bd.state]; rfl
  show own_E p e below (own_K (own_init_Q Z a1 h0 n0) s ({ frames := 1, cells := 2, slots := 2, locals := 12 } : Room).cells ({ frames := 1, cells := 2, slots := 2, locals := 12 } : Room).slots) s₁ (entryFrame m #[(.ref a1)] 1)
  refine own_pre (own_init_ef m a1) ?_
  show own_E p e below _ s₁ (mkF m 0 #[rv a1] [])
  refine own_st (fun t k => XS.aloadN X0.here hx rfl (hb hby own_d_prog_14_method_1_0) rfl rfl k) ?_
  show own_E p e below _ s₁ (mkF m 1 #[rv a1] [.ref a1])
  obtain ⟨T1, X1, e1, st1⟩ := initO X0 hx hZ hown (own_w hw 6 rfl) (own_w hw 7 rfl) (own_w hw 8 rfl) e0 (g := (mkF m 1 #[rv a1] [.ref a1])) rfl (by rw [hml]; rfl) rfl (hb hby own_d_prog_14_method_1_1) (by decide) (W := 0) (by show 2 * 0 + _ ≤ _; exact Nat.le_of_eq rfl) (by decide)
  refine own_st st1 ?_
  show own_E p e below _ T1 (mkF m 4 #[rv a1] [])
  refine own_st (fun t k => XS.aloadN X1.here hx rfl (hb hby own_d_prog_14_method_1_4) rfl rfl k) ?_
  show own_E p e below _ T1 (mkF m 5 #[rv a1] [.ref a1])
  refine own_st (fun t k => XS.iconst X1.here hx rfl (hb hby own_d_prog_14_method_1_5) k) ?_
  show own_E p e below _ T1 (mkF m 6 #[rv a1] [.int 1, .ref a1])
  obtain ⟨T2, h2, k2, X2, e2, E2, A2, Ea2, st2⟩ := newPE X1 hx hZ (own_w hw 9 rfl) e1 (g := (mkF m 6 #[rv a1] [.int 1, .ref a1])) rfl (hb hby own_d_prog_14_method_1_6) rfl (by decide) (cap := 1) (by decide) (by decide) (by decide) (by decide) (ad := "[I") (by decide)
  obtain ⟨b2, g2⟩ : ∃ z, z = h0.size := ⟨_, rfl⟩
  rw [← g2] at A2 st2 Ea2
  have ne_a1_b2 : a1 ≠ b2 := Nat.ne_of_lt (Nat.lt_of_lt_of_le E_a1.lt (Nat.le_of_eq g2.symm))
  have g_b2 : n0 ≤ b2 := Nat.le_trans Z0 (Nat.le_of_eq g2.symm)
  have sz_b2 : h0.size ≤ b2 := Nat.le_trans (Keep.refl h0 [a1]).1 (Nat.le_of_eq g2.symm)
  have Z3 := Nat.le_trans Z0 E2.1
  have K4 : Keep h0 _ [a1] := (Keep.refl h0 [a1]).ext E2
  have V2 : Arv Z h2 b2 k2 .int (1 : Int32) [(.int (0 : Int32))] (.int (0 : Int32)) := (Arv.new A2 (by decide)).pad (pad_rep [] (.int (0 : Int32)) 1)
  refine own_st st2 ?_
  show own_E p e below _ T2 (mkF m 8 #[rv a1] [.ref b2, .ref a1])
  have B6 := (F_documents_a1.ext E2)
  have B7 := (E_a1.ext E2)
  obtain ⟨T5, h5, X5, e5, W5, st5⟩ := putF X2 hx hZ hown (host := "") (Or.inl (own_w hw 10 rfl)) Via.refl e2 B6 B7 (Or.inl (own_w hw 11 rfl)) (own_w hw 1 rfl) (ty := (.array .int)) (by decide) rfl rfl (g := (mkF m 8 #[rv a1] [.ref b2, .ref a1])) rfl rfl (hb hby own_d_prog_14_method_1_8)
  have N5 := Fr.snoc X5 (Fr.nil n0) g_a1
  have Fw5 := B6.same W5
  have Z8 := Nat.le_trans Z3 (Keep.of_wr W5).1
  have K9 : Keep h0 _ [a1] := K4.wr W5 (Or.inl (List.mem_of_getElem? (i := 0) rfl))
  refine own_st st5 ?_
  show own_E p e below _ T5 (mkF m 11 #[rv a1] [])
  refine own_st (fun t k => XS.aloadN X5.here hx rfl (hb hby own_d_prog_14_method_1_11) rfl rfl k) ?_
  show own_E p e below _ T5 (mkF m 12 #[rv a1] [.ref a1])
  refine own_st (fun t k => XS.iconst X5.here hx rfl (hb hby own_d_prog_14_method_1_12) k) ?_
  show own_E p e below _ T5 (mkF m 13 #[rv a1] [.int 1, .ref a1])
  obtain ⟨T10, h10, k10, X10, e10, E10, A10, Ea10, st10⟩ := newPE X5 hx hZ (own_w hw 9 rfl) e5 (g := (mkF m 13 #[rv a1] [.int 1, .ref a1])) rfl (hb hby own_d_prog_14_method_1_13) rfl (by decide) (cap := 1) (by decide) (by decide) (by decide) (by decide) (ad := "[I") (by decide)
  obtain ⟨b10, g10⟩ : ∃ z, z = h5.size := ⟨_, rfl⟩
  rw [← g10] at A10 st10 Ea10
  have B11 := (B7.wr W5)
  have ne_a1_b10 : a1 ≠ b10 := Nat.ne_of_lt (Nat.lt_of_lt_of_le B11.lt (Nat.le_of_eq g10.symm))
  have B12 := (V2.other W5 (Ne.symm ne_a1_b2))
  have ne_b2_b10 : b2 ≠ b10 := Nat.ne_of_lt (Nat.lt_of_lt_of_le B12.lt (Nat.le_of_eq g10.symm))
  have g_b10 : n0 ≤ b10 := Nat.le_trans Z8 (Nat.le_of_eq g10.symm)
  have sz_b10 : h0.size ≤ b10 := Nat.le_trans K9.1 (Nat.le_of_eq g10.symm)
  have Z13 := Nat.le_trans Z8 E10.1
  have K14 : Keep h0 _ [a1] := K9.ext E10
  have V10 : Arv Z h10 b10 k10 .int (1 : Int32) [(.int (0 : Int32))] (.int (0 : Int32)) := (Arv.new A10 (by decide)).pad (pad_rep [] (.int (0 : Int32)) 1)
  refine own_st st10 ?_
  show own_E p e below _ T10 (mkF m 15 #[rv a1] [.ref b10, .ref a1])
  have B16 := (((F_frequencies_a1.ext E2).other W5 (Or.inr (slot_ne (Or.inl (own_w hw 13 rfl)) (Or.inl (own_w hw 11 rfl)) (by decide) (t := (.array .int)) (t' := (.array .int)) (by decide) (by decide)))).ext E10)
  have B17 := (B11.ext E10)
  obtain ⟨T15, h15, X15, e15, W15, st15⟩ := putF X10 hx hZ hown (host := "") (Or.inl (own_w hw 12 rfl)) Via.refl e10 B16 B17 (Or.inl (own_w hw 13 rfl)) (own_w hw 1 rfl) (ty := (.array .int)) (by decide) rfl rfl (g := (mkF m 15 #[rv a1] [.ref b10, .ref a1])) rfl rfl (hb hby own_d_prog_14_method_1_15)
  have N15 := Fr.snoc X15 N5 g_a1
  have Fw15 := B16.same W15
  have Z18 := Nat.le_trans Z13 (Keep.of_wr W15).1
  have K19 : Keep h0 _ [a1] := K14.wr W15 (Or.inl (List.mem_of_getElem? (i := 0) rfl))
  refine own_st st15 ?_
  show own_E p e below _ T15 (mkF m 18 #[rv a1] [])
  refine own_st (fun t k => XS.aloadN X15.here hx rfl (hb hby own_d_prog_14_method_1_18) rfl rfl k) ?_
  show own_E p e below _ T15 (mkF m 19 #[rv a1] [.ref a1])
  refine own_st (X15.ldcInt hx hown (mvT hZ (own_w hw 14 rfl)) (g := (mkF m 19 #[rv a1] [.ref a1])) rfl (hb hby own_d_prog_14_method_1_19)) ?_
  show own_E p e below _ T15 (mkF m 21 #[rv a1] [.int 2147483647, .ref a1])
  have B21 := ((((F_minLength_a1.ext E2).other W5 (Or.inr (slot_ne (Or.inl (own_w hw 16 rfl)) (Or.inl (own_w hw 11 rfl)) (by decide) (t := .int) (t' := (.array .int)) (by decide) (by decide)))).ext E10).other W15 (Or.inr (slot_ne (Or.inl (own_w hw 16 rfl)) (Or.inl (own_w hw 13 rfl)) (by decide) (t := .int) (t' := (.array .int)) (by decide) (by decide))))
  have B22 := (B17.wr W15)
  obtain ⟨T20, h20, X20, e20, W20, st20⟩ := putF X15 hx hZ hown (host := "") (Or.inl (own_w hw 15 rfl)) Via.refl e15 B21 B22 (Or.inl (own_w hw 16 rfl)) (own_w hw 1 rfl) (ty := .int) (by decide) rfl rfl (g := (mkF m 21 #[rv a1] [.int 2147483647, .ref a1])) rfl rfl (hb hby own_d_prog_14_method_1_21)
  have N20 := Fr.snoc X20 N15 g_a1
  have Fw20 := B21.same W20
  have Z23 := Nat.le_trans Z18 (Keep.of_wr W20).1
  have K24 : Keep h0 _ [a1] := K19.wr W20 (Or.inl (List.mem_of_getElem? (i := 0) rfl))
  refine own_st st20 ?_
  show own_E p e below _ T20 (mkF m 24 #[rv a1] [])
  refine own_retV X20 hx Bd.notSynchronized Bd.returns (hb hby own_d_prog_14_method_1_24) (by decide) (by decide) ?_
  have B25 := (B22.wr W20)
  have B26 := (((Fw5.ext E10).other W15 (Or.inr (slot_ne (Or.inl (own_w hw 11 rfl)) (Or.inl (own_w hw 13 rfl)) (by decide) (t := (.array .int)) (t' := (.array .int)) (by decide) (by decide)))).other W20 (Or.inr (slot_ne (Or.inl (own_w hw 11 rfl)) (Or.inl (own_w hw 16 rfl)) (by decide) (t := (.array .int)) (t' := .int) (by decide) (by decide))))
  have B27 := (Fw15.other W20 (Or.inr (slot_ne (Or.inl (own_w hw 13 rfl)) (Or.inl (own_w hw 16 rfl)) (by decide) (t := (.array .int)) (t' := .int) (by decide) (by decide))))
  have B28 := (((((F_maxFrequency_a1.ext E2).other W5 (Or.inr (slot_ne (Or.inl (own_w hw 18 rfl)) (Or.inl (own_w hw 11 rfl)) (by decide) (t := .int) (t' := (.array .int)) (by decide) (by decide)))).ext E10).other W15 (Or.inr (slot_ne (Or.inl (own_w hw 18 rfl)) (Or.inl (own_w hw 13 rfl)) (by decide) (t := .int) (t' := (.array .int)) (by decide) (by decide)))).other W20 (Or.inr (slot_ne (Or.inl (own_w hw 18 rfl)) (Or.inl (own_w hw 16 rfl)) (by decide) (t := .int) (t' := .int) (by decide) (by decide))))
  have B29 := (((((F_size_a1.ext E2).other W5 (Or.inr (slot_ne (Or.inl (own_w hw 26 rfl)) (Or.inl (own_w hw 11 rfl)) (by decide) (t := .int) (t' := (.array .int)) (by decide) (by decide)))).ext E10).other W15 (Or.inr (slot_ne (Or.inl (own_w hw 26 rfl)) (Or.inl (own_w hw 13 rfl)) (by decide) (t := .int) (t' := (.array .int)) (by decide) (by decide)))).other W20 (Or.inr (slot_ne (Or.inl (own_w hw 26 rfl)) (Or.inl (own_w hw 16 rfl)) (by decide) (t := .int) (t' := .int) (by decide) (by decide))))
  have B30 := (((B12.ext E10).other W15 (Ne.symm ne_a1_b2)).other W20 (Ne.symm ne_a1_b2))
  have B31 := ((((Ea2.wr W5).ext E10).wr W15).wr W20)
  have B32 := ((V10.other W15 (Ne.symm ne_a1_b10)).other W20 (Ne.symm ne_a1_b10))
  have B33 := ((Ea10.wr W15).wr W20)
  show own_init_Q Z a1 h0 n0 _ T20.heap _
  rw [e20]
  exact ⟨b2, b10, k2, k10, rfl, N20, K24, sz_b2, sz_b10, ne_b2_b10, B25, B26, B27, Fw20, B28, B29, B30, B31, B32, B33⟩
theorem own_d_prog_14_method_2_0 : decode prog_14_method_2_code 0 = .ok (.aload_n 0, 1) := by decide +kernel
theorem own_d_prog_14_method_2_1 : decode prog_14_method_2_code 1 = .ok (.getfield 23, 3) := by decide +kernel
theorem own_d_prog_14_method_2_4 : decode prog_14_method_2_code 4 = .ok (.aload_n 0, 1) := by decide +kernel
theorem own_d_prog_14_method_2_5 : decode prog_14_method_2_code 5 = .ok (.getfield 7, 3) := by decide +kernel
theorem own_d_prog_14_method_2_8 : decode prog_14_method_2_code 8 = .ok (.arraylength, 1) := by decide +kernel
theorem own_d_prog_14_method_2_9 : decode prog_14_method_2_code 9 = .ok (.if_icmp .ne 37, 3) := by decide +kernel
theorem own_d_prog_14_method_2_46 : decode prog_14_method_2_code 46 = .ok (.aload_n 0, 1) := by decide +kernel
theorem own_d_prog_14_method_2_47 : decode prog_14_method_2_code 47 = .ok (.getfield 7, 3) := by decide +kernel
theorem own_d_prog_14_method_2_50 : decode prog_14_method_2_code 50 = .ok (.aload_n 0, 1) := by decide +kernel
theorem own_d_prog_14_method_2_51 : decode prog_14_method_2_code 51 = .ok (.getfield 23, 3) := by decide +kernel
theorem own_d_prog_14_method_2_54 : decode prog_14_method_2_code 54 = .ok (.iload_n 1, 1) := by decide +kernel
theorem own_d_prog_14_method_2_55 : decode prog_14_method_2_code 55 = .ok (.iastore, 1) := by decide +kernel
theorem own_d_prog_14_method_2_56 : decode prog_14_method_2_code 56 = .ok (.aload_n 0, 1) := by decide +kernel
theorem own_d_prog_14_method_2_57 : decode prog_14_method_2_code 57 = .ok (.getfield 13, 3) := by decide +kernel
theorem own_d_prog_14_method_2_60 : decode prog_14_method_2_code 60 = .ok (.aload_n 0, 1) := by decide +kernel
theorem own_d_prog_14_method_2_61 : decode prog_14_method_2_code 61 = .ok (.getfield 23, 3) := by decide +kernel
theorem own_d_prog_14_method_2_64 : decode prog_14_method_2_code 64 = .ok (.iload_n 2, 1) := by decide +kernel
theorem own_d_prog_14_method_2_65 : decode prog_14_method_2_code 65 = .ok (.iastore, 1) := by decide +kernel
theorem own_d_prog_14_method_2_66 : decode prog_14_method_2_code 66 = .ok (.aload_n 0, 1) := by decide +kernel
theorem own_d_prog_14_method_2_67 : decode prog_14_method_2_code 67 = .ok (.dup, 1) := by decide +kernel
theorem own_d_prog_14_method_2_68 : decode prog_14_method_2_code 68 = .ok (.getfield 23, 3) := by decide +kernel
theorem own_d_prog_14_method_2_71 : decode prog_14_method_2_code 71 = .ok (.iconst 1, 1) := by decide +kernel
theorem own_d_prog_14_method_2_72 : decode prog_14_method_2_code 72 = .ok (.iadd, 1) := by decide +kernel
theorem own_d_prog_14_method_2_73 : decode prog_14_method_2_code 73 = .ok (.putfield 23, 3) := by decide +kernel
theorem own_d_prog_14_method_2_76 : decode prog_14_method_2_code 76 = .ok (.aload_n 0, 1) := by decide +kernel
theorem own_d_prog_14_method_2_77 : decode prog_14_method_2_code 77 = .ok (.aload_n 0, 1) := by decide +kernel
theorem own_d_prog_14_method_2_78 : decode prog_14_method_2_code 78 = .ok (.getfield 32, 3) := by decide +kernel
theorem own_d_prog_14_method_2_81 : decode prog_14_method_2_code 81 = .ok (.iload_n 2, 1) := by decide +kernel
theorem own_d_prog_14_method_2_82 : decode prog_14_method_2_code 82 = .ok (.invokestatic 35, 3) := by decide +kernel
theorem own_d_prog_14_method_2_85 : decode prog_14_method_2_code 85 = .ok (.putfield 32, 3) := by decide +kernel
theorem own_d_prog_14_method_2_88 : decode prog_14_method_2_code 88 = .ok (.aload_n 0, 1) := by decide +kernel
theorem own_d_prog_14_method_2_89 : decode prog_14_method_2_code 89 = .ok (.aload_n 0, 1) := by decide +kernel
theorem own_d_prog_14_method_2_90 : decode prog_14_method_2_code 90 = .ok (.getfield 19, 3) := by decide +kernel
theorem own_d_prog_14_method_2_93 : decode prog_14_method_2_code 93 = .ok (.iload_n 3, 1) := by decide +kernel
theorem own_d_prog_14_method_2_94 : decode prog_14_method_2_code 94 = .ok (.invokestatic 41, 3) := by decide +kernel
theorem own_d_prog_14_method_2_97 : decode prog_14_method_2_code 97 = .ok (.putfield 19, 3) := by decide +kernel
theorem own_d_prog_14_method_2_100 : decode prog_14_method_2_code 100 = .ok (.return_, 1) := by decide +kernel
def own_add0_Q (Z : State) (a1 : Addr) (a2 : Addr) (a3 : Addr) (kc1 : ClassId) (kc2 : ClassId) (p1 : Int32) (p2 : Int32) (p3 : Int32) (q1 : Int32) (q2 : Int32) (ea0 : Int32) (eb0 : Int32) (h0 : Heap) (n0 : Nat) (v : Option Value) (h : Heap) (L : List Loc) : Prop := v = none ∧ Fr n0 L ∧ Keep h0 h [a1, a2, a3] ∧ Exa Z h a1 "com/example/lean_scorer/leanscorer/Postings" ∧ Fld Z h a1 "com/example/lean_scorer/leanscorer/Postings" "documents" "[I" (.ref a2) ∧ Fld Z h a1 "com/example/lean_scorer/leanscorer/Postings" "frequencies" "[I" (.ref a3) ∧ Fld Z h a1 "com/example/lean_scorer/leanscorer/Postings" "minLength" "I" (.int (own_min q1 p3)) ∧ Fld Z h a1 "com/example/lean_scorer/leanscorer/Postings" "maxFrequency" "I" (.int (own_max q2 p2)) ∧ Fld Z h a1 "com/example/lean_scorer/leanscorer/Postings" "size" "I" (.int (1 : Int32)) ∧ Arv Z h a2 kc1 .int (1 : Int32) [(.int p1)] (.int (0 : Int32)) ∧ Exa Z h a2 "[I" ∧ Arv Z h a3 kc2 .int (1 : Int32) [(.int p2)] (.int (0 : Int32)) ∧ Exa Z h a3 "[I"
abbrev own_y4 : MethodName := ⟨"com/example/lean_scorer/leanscorer/Postings", "add", "(III)V"⟩
theorem own_add0_ef (m : MethodId) (a1 : Addr) (a2 : Addr) (a3 : Addr) (kc1 : ClassId) (kc2 : ClassId) (p1 : Int32) (p2 : Int32) (p3 : Int32) (q1 : Int32) (q2 : Int32) (ea0 : Int32) (eb0 : Int32) : entryFrame m #[(.ref a1), (.int p1), (.int p2), (.int p3)] 4 = mkF m 0 #[.val (.ref a1), .val (.int p1), .val (.int p2), .val (.int p3)] [] := by first | (simp [entryFrame, mkF, argsToLocals, Value.category]; done) | rfl
set_option maxRecDepth 65536 in
set_option maxHeartbeats 40000000 in
theorem own_add0 (l : Launch) (Z : State) (a0 : Array Value) (hw : ∀ d ∈ tables_1, d.before a0 Z = true) (ws : List Jvm.Cond) (a1 : Addr) (a2 : Addr) (a3 : Addr) (kc1 : ClassId) (kc2 : ClassId) (p1 : Int32) (p2 : Int32) (p3 : Int32) (q1 : Int32) (q2 : Int32) (ea0 : Int32) (eb0 : Int32) (h0 : Heap) (n0 : Nat) (Z0 : n0 ≤ h0.size) (E_a1 : Exa Z h0 a1 "com/example/lean_scorer/leanscorer/Postings") (E_a2 : Exa Z h0 a2 "[I") (E_a3 : Exa Z h0 a3 "[I") (F_documents_a1 : Fld Z h0 a1 "com/example/lean_scorer/leanscorer/Postings" "documents" "[I" (.ref a2)) (F_frequencies_a1 : Fld Z h0 a1 "com/example/lean_scorer/leanscorer/Postings" "frequencies" "[I" (.ref a3)) (F_minLength_a1 : Fld Z h0 a1 "com/example/lean_scorer/leanscorer/Postings" "minLength" "I" (.int q1)) (F_maxFrequency_a1 : Fld Z h0 a1 "com/example/lean_scorer/leanscorer/Postings" "maxFrequency" "I" (.int q2)) (F_size_a1 : Fld Z h0 a1 "com/example/lean_scorer/leanscorer/Postings" "size" "I" (.int (0 : Int32))) (V_a2 : Arv Z h0 a2 kc1 .int (1 : Int32) [(.int ea0)] (.int (0 : Int32))) (V_a3 : Arv Z h0 a3 kc2 .int (1 : Int32) [(.int eb0)] (.int (0 : Int32))) (ne12 : a1 ≠ a2) (ne13 : a1 ≠ a3) (ne23 : a2 ≠ a3) (g_a1 : n0 ≤ a1) (g_a2 : n0 ≤ a2) (g_a3 : n0 ≤ a3) :
    MetFree l own_y4 (head1 (Jvm.Cond.code own_y4 prog_14_method_2_code 4 none :: ws) ({ frames := 1, cells := 0, slots := 0, locals := 14 } : Room)) (fun a U => a = #[(.ref a1), (.int p1), (.int p2), (.int p3)] ∧ Z.Warmed39 U.vm ∧ U.heap = h0) (fun _ _ _ _ _ => True) (fun _ U o U' => ∃ v L, o = .returned v ∧ own_add0_Q Z a1 a2 a3 kc1 kc2 p1 p2 p3 q1 q2 ea0 eb0 h0 n0 v U'.heap L ∧ FrameEnd U o U' L ({ frames := 1, cells := 0, slots := 0, locals := 14 } : Room).cells ({ frames := 1, cells := 0, slots := 0, locals := 14 } : Room).slots) := by
  refine MetFree.of_bodySF (plainFor_of_name own_pn_Postings) hisR ?_
  intro p e s m args below meth c s₁ Bd hml0 hP hK
  obtain ⟨rfl, hZ, hh⟩ := hP
  have hx := Bd.exec
  have hby := Bd.bytes
  have hml : c.maxLocals = 4 := hml0
  have hown : s.vm.findClass "com/example/lean_scorer/leanscorer/Postings" = some m.cls := findClass_of_methodNamed Bd.named
  have hnm := (name_of_methodNamed Bd.named Bd.method).1
  have X0 : Stand p l e ({ frames := 1, cells := 0, slots := 0, locals := 14 } : Room) s m #[(.ref a1), (.int p1), (.int p2), (.int p3)] below meth c s₁ [] 0 0 := Stand.of_body Bd
  have e0 : s₁.heap = h0 := by rw [← hh, Bd.state]; rfl
  show own_E p e below (own_K (own_add0_Q Z a1 a2 a3 kc1 kc2 p1 p2 p3 q1 q2 ea0 eb0 h0 n0) s ({ frames := 1, cells := 0, slots := 0, locals := 14 } : Room).cells ({ frames := 1, cells := 0, slots := 0, locals := 14 } : Room).slots) s₁ (entryFrame m #[(.ref a1), (.int p1), (.int p2), (.int p3)] 4)
  refine own_pre (own_add0_ef m a1 a2 a3 kc1 kc2 p1 p2 p3 q1 q2 ea0 eb0) ?_
  show own_E p e below _ s₁ (mkF m 0 #[rv a1, iv p1, iv p2, iv p3] [])
  refine own_st (fun t k => XS.aloadN X0.here hx rfl (hb hby own_d_prog_14_method_2_0) rfl rfl k) ?_
  show own_E p e below _ s₁ (mkF m 1 #[rv a1, iv p1, iv p2, iv p3] [.ref a1])
  obtain ⟨T1, X1, e1, st1⟩ := getF X0 hx hZ hown (host := "") (Or.inl (own_w hw 25 rfl)) Via.refl e0 F_size_a1 (g := (mkF m 1 #[rv a1, iv p1, iv p2, iv p3] [.ref a1])) rfl rfl (hb hby own_d_prog_14_method_2_1)
  refine own_st st1 ?_
  show own_E p e below _ T1 (mkF m 4 #[rv a1, iv p1, iv p2, iv p3] [.int 0])
  refine own_st (fun t k => XS.aloadN X1.here hx rfl (hb hby own_d_prog_14_method_2_4) rfl rfl k) ?_
  show own_E p e below _ T1 (mkF m 5 #[rv a1, iv p1, iv p2, iv p3] [.ref a1, .int 0])
  obtain ⟨T2, X2, e2, st2⟩ := getF X1 hx hZ hown (host := "") (Or.inl (own_w hw 10 rfl)) Via.refl e1 F_documents_a1 (g := (mkF m 5 #[rv a1, iv p1, iv p2, iv p3] [.ref a1, .int 0])) rfl rfl (hb hby own_d_prog_14_method_2_5)
  refine own_st st2 ?_
  show own_E p e below _ T2 (mkF m 8 #[rv a1, iv p1, iv p2, iv p3] [.ref a2, .int 0])
  refine own_st (own_alen X2 hx hZ e2 V_a2 (g := (mkF m 8 #[rv a1, iv p1, iv p2, iv p3] [.ref a2, .int 0])) rfl rfl (hb hby own_d_prog_14_method_2_8)) ?_
  show own_E p e below _ T2 (mkF m 9 #[rv a1, iv p1, iv p2, iv p3] [.int 1, .int 0])
  refine own_st (fun t k => XS.icmpYes X2.here hx rfl (pc0 := 9) (pc' := 46) rfl (hb hby own_d_prog_14_method_2_9) rfl (by decide) (by decide) (by decide) k) ?_
  show own_E p e below _ T2 (mkF m 46 #[rv a1, iv p1, iv p2, iv p3] [])
  refine own_st (fun t k => XS.aloadN X2.here hx rfl (hb hby own_d_prog_14_method_2_46) rfl rfl k) ?_
  show own_E p e below _ T2 (mkF m 47 #[rv a1, iv p1, iv p2, iv p3] [.ref a1])
  obtain ⟨T3, X3, e3, st3⟩ := getF X2 hx hZ hown (host := "") (Or.inl (own_w hw 10 rfl)) Via.refl e2 F_documents_a1 (g := (mkF m 47 #[rv a1, iv p1, iv p2, iv p3] [.ref a1])) rfl rfl (hb hby own_d_prog_14_method_2_47)
  refine own_st st3 ?_
  show own_E p e below _ T3 (mkF m 50 #[rv a1, iv p1, iv p2, iv p3] [.ref a2])
  refine own_st (fun t k => XS.aloadN X3.here hx rfl (hb hby own_d_prog_14_method_2_50) rfl rfl k) ?_
  show own_E p e below _ T3 (mkF m 51 #[rv a1, iv p1, iv p2, iv p3] [.ref a1, .ref a2])
  obtain ⟨T4, X4, e4, st4⟩ := getF X3 hx hZ hown (host := "") (Or.inl (own_w hw 25 rfl)) Via.refl e3 F_size_a1 (g := (mkF m 51 #[rv a1, iv p1, iv p2, iv p3] [.ref a1, .ref a2])) rfl rfl (hb hby own_d_prog_14_method_2_51)
  refine own_st st4 ?_
  show own_E p e below _ T4 (mkF m 54 #[rv a1, iv p1, iv p2, iv p3] [.int 0, .ref a2])
  refine own_st (fun t k => XS.iloadN X4.here hx rfl (hb hby own_d_prog_14_method_2_54) rfl k) ?_
  show own_E p e below _ T4 (mkF m 55 #[rv a1, iv p1, iv p2, iv p3] [.int p1, .int 0, .ref a2])
  obtain ⟨T5, h5, X5, e5, W5, Vw5, st5⟩ := own_ast X4 hx hZ e4 V_a2 (j := (0 : Int32)) ⟨by decide, by decide⟩ (x := p1) (i := 0) rfl (Nat.le_of_ble_eq_true rfl) (g := (mkF m 55 #[rv a1, iv p1, iv p2, iv p3] [.int p1, .int 0, .ref a2])) rfl rfl (hb hby own_d_prog_14_method_2_55)
  have V5 : Arv Z h5 a2 kc1 .int (1 : Int32) [(.int p1)] (.int (0 : Int32)) := Vw5
  have N5 := Fr.snoc X5 (Fr.nil n0) g_a2
  have Z6 := Nat.le_trans Z0 (Keep.of_wr W5).1
  have K7 : Keep h0 _ [a1, a2, a3] := (Keep.refl h0 [a1, a2, a3]).wr W5 (Or.inl (List.mem_of_getElem? (i := 1) rfl))
  refine own_st st5 ?_
  show own_E p e below _ T5 (mkF m 56 #[rv a1, iv p1, iv p2, iv p3] [])
  refine own_st (fun t k => XS.aloadN X5.here hx rfl (hb hby own_d_prog_14_method_2_56) rfl rfl k) ?_
  show own_E p e below _ T5 (mkF m 57 #[rv a1, iv p1, iv p2, iv p3] [.ref a1])
  have B9 := (F_frequencies_a1.other W5 (Or.inl ne12))
  obtain ⟨T8, X8, e8, st8⟩ := getF X5 hx hZ hown (host := "") (Or.inl (own_w hw 12 rfl)) Via.refl e5 B9 (g := (mkF m 57 #[rv a1, iv p1, iv p2, iv p3] [.ref a1])) rfl rfl (hb hby own_d_prog_14_method_2_57)
  refine own_st st8 ?_
  show own_E p e below _ T8 (mkF m 60 #[rv a1, iv p1, iv p2, iv p3] [.ref a3])
  refine own_st (fun t k => XS.aloadN X8.here hx rfl (hb hby own_d_prog_14_method_2_60) rfl rfl k) ?_
  show own_E p e below _ T8 (mkF m 61 #[rv a1, iv p1, iv p2, iv p3] [.ref a1, .ref a3])
  have B11 := (F_size_a1.other W5 (Or.inl ne12))
  obtain ⟨T10, X10, e10, st10⟩ := getF X8 hx hZ hown (host := "") (Or.inl (own_w hw 25 rfl)) Via.refl e8 B11 (g := (mkF m 61 #[rv a1, iv p1, iv p2, iv p3] [.ref a1, .ref a3])) rfl rfl (hb hby own_d_prog_14_method_2_61)
  refine own_st st10 ?_
  show own_E p e below _ T10 (mkF m 64 #[rv a1, iv p1, iv p2, iv p3] [.int 0, .ref a3])
  refine own_st (fun t k => XS.iloadN X10.here hx rfl (hb hby own_d_prog_14_method_2_64) rfl k) ?_
  show own_E p e below _ T10 (mkF m 65 #[rv a1, iv p1, iv p2, iv p3] [.int p2, .int 0, .ref a3])
  have B12 := (V_a3.other W5 (Ne.symm ne23))
  obtain ⟨T13, h13, X13, e13, W13, Vw13, st13⟩ := own_ast X10 hx hZ e10 B12 (j := (0 : Int32)) ⟨by decide, by decide⟩ (x := p2) (i := 0) rfl (Nat.le_of_ble_eq_true rfl) (g := (mkF m 65 #[rv a1, iv p1, iv p2, iv p3] [.int p2, .int 0, .ref a3])) rfl rfl (hb hby own_d_prog_14_method_2_65)
  have V13 : Arv Z h13 a3 kc2 .int (1 : Int32) [(.int p2)] (.int (0 : Int32)) := Vw13
  have N13 := Fr.snoc X13 N5 g_a3
  have Z14 := Nat.le_trans Z6 (Keep.of_wr W13).1
  have K15 : Keep h0 _ [a1, a2, a3] := K7.wr W13 (Or.inl (List.mem_of_getElem? (i := 2) rfl))
  refine own_st st13 ?_
  show own_E p e below _ T13 (mkF m 66 #[rv a1, iv p1, iv p2, iv p3] [])
  refine own_st (fun t k => XS.aloadN X13.here hx rfl (hb hby own_d_prog_14_method_2_66) rfl rfl k) ?_
  show own_E p e below _ T13 (mkF m 67 #[rv a1, iv p1, iv p2, iv p3] [.ref a1])
  refine own_st (fun t k => XS.dup X13.here hx rfl (hb hby own_d_prog_14_method_2_67) rfl rfl k) ?_
  show own_E p e below _ T13 (mkF m 68 #[rv a1, iv p1, iv p2, iv p3] [.ref a1, .ref a1])
  have B17 := (B11.other W13 (Or.inl ne13))
  obtain ⟨T16, X16, e16, st16⟩ := getF X13 hx hZ hown (host := "") (Or.inl (own_w hw 25 rfl)) Via.refl e13 B17 (g := (mkF m 68 #[rv a1, iv p1, iv p2, iv p3] [.ref a1, .ref a1])) rfl rfl (hb hby own_d_prog_14_method_2_68)
  refine own_st st16 ?_
  show own_E p e below _ T16 (mkF m 71 #[rv a1, iv p1, iv p2, iv p3] [.int 0, .ref a1])
  refine own_st (fun t k => XS.iconst X16.here hx rfl (hb hby own_d_prog_14_method_2_71) k) ?_
  show own_E p e below _ T16 (mkF m 72 #[rv a1, iv p1, iv p2, iv p3] [.int 1, .int 0, .ref a1])
  refine own_st (fun t k => XS.iadd X16.here hx rfl (hb hby own_d_prog_14_method_2_72) rfl k) ?_
  show own_E p e below _ T16 (mkF m 73 #[rv a1, iv p1, iv p2, iv p3] [.int 1, .ref a1])
  have B19 := ((E_a1.wr W5).wr W13)
  obtain ⟨T18, h18, X18, e18, W18, st18⟩ := putF X16 hx hZ hown (host := "") (Or.inl (own_w hw 25 rfl)) Via.refl e16 B17 B19 (Or.inl (own_w hw 26 rfl)) (own_w hw 1 rfl) (ty := .int) (by decide) rfl rfl (g := (mkF m 73 #[rv a1, iv p1, iv p2, iv p3] [.int 1, .ref a1])) rfl rfl (hb hby own_d_prog_14_method_2_73)
  have N18 := Fr.snoc X18 N13 g_a1
  have Fw18 := B17.same W18
  have Z20 := Nat.le_trans Z14 (Keep.of_wr W18).1
  have K21 : Keep h0 _ [a1, a2, a3] := K15.wr W18 (Or.inl (List.mem_of_getElem? (i := 0) rfl))
  refine own_st st18 ?_
  show own_E p e below _ T18 (mkF m 76 #[rv a1, iv p1, iv p2, iv p3] [])
  refine own_st (fun t k => XS.aloadN X18.here hx rfl (hb hby own_d_prog_14_method_2_76) rfl rfl k) ?_
  show own_E p e below _ T18 (mkF m 77 #[rv a1, iv p1, iv p2, iv p3] [.ref a1])
  refine own_st (fun t k => XS.aloadN X18.here hx rfl (hb hby own_d_prog_14_method_2_77) rfl rfl k) ?_
  show own_E p e below _ T18 (mkF m 78 #[rv a1, iv p1, iv p2, iv p3] [.ref a1, .ref a1])
  have B23 := (((F_maxFrequency_a1.other W5 (Or.inl ne12)).other W13 (Or.inl ne13)).other W18 (Or.inr (slot_ne (Or.inl (own_w hw 18 rfl)) (Or.inl (own_w hw 26 rfl)) (by decide) (t := .int) (t' := .int) (by decide) (by decide))))
  obtain ⟨T22, X22, e22, st22⟩ := getF X18 hx hZ hown (host := "") (Or.inl (own_w hw 47 rfl)) Via.refl e18 B23 (g := (mkF m 78 #[rv a1, iv p1, iv p2, iv p3] [.ref a1, .ref a1])) rfl rfl (hb hby own_d_prog_14_method_2_78)
  refine own_st st22 ?_
  show own_E p e below _ T22 (mkF m 81 #[rv a1, iv p1, iv p2, iv p3] [.int q2, .ref a1])
  refine own_st (fun t k => XS.iloadN X22.here hx rfl (hb hby own_d_prog_14_method_2_81) rfl k) ?_
  show own_E p e below _ T22 (mkF m 82 #[rv a1, iv p1, iv p2, iv p3] [.int p2, .int q2, .ref a1])
  obtain ⟨_, _, ⟨T24, L24, k24, n24⟩, -, X24, ⟨Lc24, hQ24, l24, y24, z24⟩, st24⟩ := Jvm.LawKit.callS X22 hx (y := own_y1) hown (mvT hZ (own_w hw 48 rfl)) (mvT hZ (own_w hw 49 rfl)) (mvT hZ (own_w hw 33 rfl)) (mvT hZ (own_w hw 50 rfl)) (by decide) (backOf (W := 1) (own_maxF l Z a0 hw [] q2 p2 h18 n0 Z20 ) hZ (own_w hw 50 rfl) (own_w hw 33 rfl) (by decide) (by decide)) (g := (mkF m 82 #[rv a1, iv p1, iv p2, iv p3] [.int p2, .int q2, .ref a1])) rfl (by rw [hml]; rfl) (argsL := [(.int q2), (.int p2)]) (rest := [(.ref a1)]) (lenOf own_pd_2 rfl) rfl (by show 2 * 0 + _ ≤ _; exact Nat.le_of_eq rfl) (hb hby own_d_prog_14_method_2_82) (fun _ _ => ⟨rfl, e22, (by decide : 0 + 0 ≤ _), (by decide : 0 + 0 ≤ _)⟩)
  dsimp only [Pt.U, Pt.locs, Pt.cells, Pt.slots] at X24 l24 y24 z24 st24 hQ24
  subst l24 y24 z24
  obtain ⟨rfl, e24, rfl⟩ := hQ24
  have N24 := Fr.app N18 (Fr.nil n0)
  refine own_st st24 ?_
  show own_E p e below _ T24 (mkF m 85 #[rv a1, iv p1, iv p2, iv p3] [.int (own_max q2 p2), .ref a1])
  have B26 := (B19.wr W18)
  obtain ⟨T25, h25, X25, e25, W25, st25⟩ := putF X24 hx hZ hown (host := "") (Or.inl (own_w hw 47 rfl)) Via.refl e24 B23 B26 (Or.inl (own_w hw 18 rfl)) (own_w hw 1 rfl) (ty := .int) (by decide) rfl rfl (g := (mkF m 85 #[rv a1, iv p1, iv p2, iv p3] [.int (own_max q2 p2), .ref a1])) rfl rfl (hb hby own_d_prog_14_method_2_85)
  have N25 := Fr.snoc X25 N24 g_a1
  have Fw25 := B23.same W25
  have Z27 := Nat.le_trans Z20 (Keep.of_wr W25).1
  have K28 : Keep h0 _ [a1, a2, a3] := K21.wr W25 (Or.inl (List.mem_of_getElem? (i := 0) rfl))
  refine own_st st25 ?_
  show own_E p e below _ T25 (mkF m 88 #[rv a1, iv p1, iv p2, iv p3] [])
  refine own_st (fun t k => XS.aloadN X25.here hx rfl (hb hby own_d_prog_14_method_2_88) rfl rfl k) ?_
  show own_E p e below _ T25 (mkF m 89 #[rv a1, iv p1, iv p2, iv p3] [.ref a1])
  refine own_st (fun t k => XS.aloadN X25.here hx rfl (hb hby own_d_prog_14_method_2_89) rfl rfl k) ?_
  show own_E p e below _ T25 (mkF m 90 #[rv a1, iv p1, iv p2, iv p3] [.ref a1, .ref a1])
  have B30 := ((((F_minLength_a1.other W5 (Or.inl ne12)).other W13 (Or.inl ne13)).other W18 (Or.inr (slot_ne (Or.inl (own_w hw 16 rfl)) (Or.inl (own_w hw 26 rfl)) (by decide) (t := .int) (t' := .int) (by decide) (by decide)))).other W25 (Or.inr (slot_ne (Or.inl (own_w hw 16 rfl)) (Or.inl (own_w hw 18 rfl)) (by decide) (t := .int) (t' := .int) (by decide) (by decide))))
  obtain ⟨T29, X29, e29, st29⟩ := getF X25 hx hZ hown (host := "") (Or.inl (own_w hw 15 rfl)) Via.refl e25 B30 (g := (mkF m 90 #[rv a1, iv p1, iv p2, iv p3] [.ref a1, .ref a1])) rfl rfl (hb hby own_d_prog_14_method_2_90)
  refine own_st st29 ?_
  show own_E p e below _ T29 (mkF m 93 #[rv a1, iv p1, iv p2, iv p3] [.int q1, .ref a1])
  refine own_st (fun t k => XS.iloadN X29.here hx rfl (hb hby own_d_prog_14_method_2_93) rfl k) ?_
  show own_E p e below _ T29 (mkF m 94 #[rv a1, iv p1, iv p2, iv p3] [.int p3, .int q1, .ref a1])
  obtain ⟨_, _, ⟨T31, L31, k31, n31⟩, -, X31, ⟨Lc31, hQ31, l31, y31, z31⟩, st31⟩ := Jvm.LawKit.callS X29 hx (y := own_y0) hown (mvT hZ (own_w hw 51 rfl)) (mvT hZ (own_w hw 32 rfl)) (mvT hZ (own_w hw 33 rfl)) (mvT hZ (own_w hw 34 rfl)) (by decide) (backOf (W := 1) (own_minF l Z a0 hw [] q1 p3 h25 n0 Z27 ) hZ (own_w hw 34 rfl) (own_w hw 33 rfl) (by decide) (by decide)) (g := (mkF m 94 #[rv a1, iv p1, iv p2, iv p3] [.int p3, .int q1, .ref a1])) rfl (by rw [hml]; rfl) (argsL := [(.int q1), (.int p3)]) (rest := [(.ref a1)]) (lenOf own_pd_2 rfl) rfl (by show 2 * 0 + _ ≤ _; exact Nat.le_of_eq rfl) (hb hby own_d_prog_14_method_2_94) (fun _ _ => ⟨rfl, e29, (by decide : 0 + 0 ≤ _), (by decide : 0 + 0 ≤ _)⟩)
  dsimp only [Pt.U, Pt.locs, Pt.cells, Pt.slots] at X31 l31 y31 z31 st31 hQ31
  subst l31 y31 z31
  obtain ⟨rfl, e31, rfl⟩ := hQ31
  have N31 := Fr.app N25 (Fr.nil n0)
  refine own_st st31 ?_
  show own_E p e below _ T31 (mkF m 97 #[rv a1, iv p1, iv p2, iv p3] [.int (own_min q1 p3), .ref a1])
  have B33 := (B26.wr W25)
  obtain ⟨T32, h32, X32, e32, W32, st32⟩ := putF X31 hx hZ hown (host := "") (Or.inl (own_w hw 15 rfl)) Via.refl e31 B30 B33 (Or.inl (own_w hw 16 rfl)) (own_w hw 1 rfl) (ty := .int) (by decide) rfl rfl (g := (mkF m 97 #[rv a1, iv p1, iv p2, iv p3] [.int (own_min q1 p3), .ref a1])) rfl rfl (hb hby own_d_prog_14_method_2_97)
  have N32 := Fr.snoc X32 N31 g_a1
  have Fw32 := B30.same W32
  have Z34 := Nat.le_trans Z27 (Keep.of_wr W32).1
  have K35 : Keep h0 _ [a1, a2, a3] := K28.wr W32 (Or.inl (List.mem_of_getElem? (i := 0) rfl))
  refine own_st st32 ?_
  show own_E p e below _ T32 (mkF m 100 #[rv a1, iv p1, iv p2, iv p3] [])
  refine own_retV X32 hx Bd.notSynchronized Bd.returns (hb hby own_d_prog_14_method_2_100) (by decide) (by decide) ?_
  have B36 := (B33.wr W32)
  have B37 := (((((F_documents_a1.other W5 (Or.inl ne12)).other W13 (Or.inl ne13)).other W18 (Or.inr (slot_ne (Or.inl (own_w hw 11 rfl)) (Or.inl (own_w hw 26 rfl)) (by decide) (t := (.array .int)) (t' := .int) (by decide) (by decide)))).other W25 (Or.inr (slot_ne (Or.inl (own_w hw 11 rfl)) (Or.inl (own_w hw 18 rfl)) (by decide) (t := (.array .int)) (t' := .int) (by decide) (by decide)))).other W32 (Or.inr (slot_ne (Or.inl (own_w hw 11 rfl)) (Or.inl (own_w hw 16 rfl)) (by decide) (t := (.array .int)) (t' := .int) (by decide) (by decide))))
  have B38 := ((((B9.other W13 (Or.inl ne13)).other W18 (Or.inr (slot_ne (Or.inl (own_w hw 13 rfl)) (Or.inl (own_w hw 26 rfl)) (by decide) (t := (.array .int)) (t' := .int) (by decide) (by decide)))).other W25 (Or.inr (slot_ne (Or.inl (own_w hw 13 rfl)) (Or.inl (own_w hw 18 rfl)) (by decide) (t := (.array .int)) (t' := .int) (by decide) (by decide)))).other W32 (Or.inr (slot_ne (Or.inl (own_w hw 13 rfl)) (Or.inl (own_w hw 16 rfl)) (by decide) (t := (.array .int)) (t' := .int) (by decide) (by decide))))
  have B39 := (Fw25.other W32 (Or.inr (slot_ne (Or.inl (own_w hw 18 rfl)) (Or.inl (own_w hw 16 rfl)) (by decide) (t := .int) (t' := .int) (by decide) (by decide))))
  have B40 := ((Fw18.other W25 (Or.inr (slot_ne (Or.inl (own_w hw 26 rfl)) (Or.inl (own_w hw 18 rfl)) (by decide) (t := .int) (t' := .int) (by decide) (by decide)))).other W32 (Or.inr (slot_ne (Or.inl (own_w hw 26 rfl)) (Or.inl (own_w hw 16 rfl)) (by decide) (t := .int) (t' := .int) (by decide) (by decide))))
  have B41 := ((((V5.other W13 ne23).other W18 (Ne.symm ne12)).other W25 (Ne.symm ne12)).other W32 (Ne.symm ne12))
  have B42 := (((((E_a2.wr W5).wr W13).wr W18).wr W25).wr W32)
  have B43 := (((V13.other W18 (Ne.symm ne13)).other W25 (Ne.symm ne13)).other W32 (Ne.symm ne13))
  have B44 := (((((E_a3.wr W5).wr W13).wr W18).wr W25).wr W32)
  show own_add0_Q Z a1 a2 a3 kc1 kc2 p1 p2 p3 q1 q2 ea0 eb0 h0 n0 _ T32.heap _
  rw [e32]
  exact ⟨rfl, N32, K35, B36, B37, B38, Fw32, B39, B40, B41, B42, B43, B44⟩
theorem own_d_prog_14_method_2_12 : decode prog_14_method_2_code 12 = .ok (.aload_n 0, 1) := by decide +kernel
theorem own_d_prog_14_method_2_13 : decode prog_14_method_2_code 13 = .ok (.aload_n 0, 1) := by decide +kernel
theorem own_d_prog_14_method_2_14 : decode prog_14_method_2_code 14 = .ok (.getfield 7, 3) := by decide +kernel
theorem own_d_prog_14_method_2_17 : decode prog_14_method_2_code 17 = .ok (.iconst 2, 1) := by decide +kernel
theorem own_d_prog_14_method_2_18 : decode prog_14_method_2_code 18 = .ok (.aload_n 0, 1) := by decide +kernel
theorem own_d_prog_14_method_2_19 : decode prog_14_method_2_code 19 = .ok (.getfield 23, 3) := by decide +kernel
theorem own_d_prog_14_method_2_22 : decode prog_14_method_2_code 22 = .ok (.imul, 1) := by decide +kernel
theorem own_d_prog_14_method_2_23 : decode prog_14_method_2_code 23 = .ok (.invokestatic 26, 3) := by decide +kernel
theorem own_pd_6 : parseMethodDescriptor "([II)[I" = some ⟨[(.array .int), .int], some (.array .int)⟩ := by decide +kernel
theorem own_d_prog_14_method_2_26 : decode prog_14_method_2_code 26 = .ok (.putfield 7, 3) := by decide +kernel
theorem own_d_prog_14_method_2_29 : decode prog_14_method_2_code 29 = .ok (.aload_n 0, 1) := by decide +kernel
theorem own_d_prog_14_method_2_30 : decode prog_14_method_2_code 30 = .ok (.aload_n 0, 1) := by decide +kernel
theorem own_d_prog_14_method_2_31 : decode prog_14_method_2_code 31 = .ok (.getfield 13, 3) := by decide +kernel
theorem own_d_prog_14_method_2_34 : decode prog_14_method_2_code 34 = .ok (.iconst 2, 1) := by decide +kernel
theorem own_d_prog_14_method_2_35 : decode prog_14_method_2_code 35 = .ok (.aload_n 0, 1) := by decide +kernel
theorem own_d_prog_14_method_2_36 : decode prog_14_method_2_code 36 = .ok (.getfield 23, 3) := by decide +kernel
theorem own_d_prog_14_method_2_39 : decode prog_14_method_2_code 39 = .ok (.imul, 1) := by decide +kernel
theorem own_d_prog_14_method_2_40 : decode prog_14_method_2_code 40 = .ok (.invokestatic 26, 3) := by decide +kernel
theorem own_d_prog_14_method_2_43 : decode prog_14_method_2_code 43 = .ok (.putfield 13, 3) := by decide +kernel
def own_add1_Q (Z : State) (a1 : Addr) (a2 : Addr) (a3 : Addr) (kc1 : ClassId) (kc2 : ClassId) (p1 : Int32) (p2 : Int32) (p3 : Int32) (q1 : Int32) (q2 : Int32) (ea0 : Int32) (eb0 : Int32) (h0 : Heap) (n0 : Nat) (v : Option Value) (h : Heap) (L : List Loc) : Prop := ∃ (o0 : Addr), ∃ (o1 : Addr), ∃ (o2 : ClassId), ∃ (o3 : ClassId), v = none ∧ Fr n0 L ∧ Keep h0 h [a1] ∧ h0.size ≤ o0 ∧ h0.size ≤ o1 ∧ o0 ≠ o1 ∧ Exa Z h a1 "com/example/lean_scorer/leanscorer/Postings" ∧ Fld Z h a1 "com/example/lean_scorer/leanscorer/Postings" "documents" "[I" (.ref o0) ∧ Fld Z h a1 "com/example/lean_scorer/leanscorer/Postings" "frequencies" "[I" (.ref o1) ∧ Fld Z h a1 "com/example/lean_scorer/leanscorer/Postings" "minLength" "I" (.int (own_min q1 p3)) ∧ Fld Z h a1 "com/example/lean_scorer/leanscorer/Postings" "maxFrequency" "I" (.int (own_max q2 p2)) ∧ Fld Z h a1 "com/example/lean_scorer/leanscorer/Postings" "size" "I" (.int (2 : Int32)) ∧ Arv Z h o0 o2 .int (2 : Int32) [(.int ea0), (.int p1)] (.int (0 : Int32)) ∧ Exa Z h o0 "[I" ∧ Arv Z h o1 o3 .int (2 : Int32) [(.int eb0), (.int p2)] (.int (0 : Int32)) ∧ Exa Z h o1 "[I"
theorem own_add1_ef (m : MethodId) (a1 : Addr) (a2 : Addr) (a3 : Addr) (kc1 : ClassId) (kc2 : ClassId) (p1 : Int32) (p2 : Int32) (p3 : Int32) (q1 : Int32) (q2 : Int32) (ea0 : Int32) (eb0 : Int32) : entryFrame m #[(.ref a1), (.int p1), (.int p2), (.int p3)] 4 = mkF m 0 #[.val (.ref a1), .val (.int p1), .val (.int p2), .val (.int p3)] [] := by first | (simp [entryFrame, mkF, argsToLocals, Value.category]; done) | rfl
set_option maxRecDepth 65536 in
set_option maxHeartbeats 40000000 in
theorem own_add1 (l : Launch) (Z : State) (a0 : Array Value) (hw : ∀ d ∈ tables_1, d.before a0 Z = true) (ws : List Jvm.Cond) (a1 : Addr) (a2 : Addr) (a3 : Addr) (kc1 : ClassId) (kc2 : ClassId) (p1 : Int32) (p2 : Int32) (p3 : Int32) (q1 : Int32) (q2 : Int32) (ea0 : Int32) (eb0 : Int32) (h0 : Heap) (n0 : Nat) (Z0 : n0 ≤ h0.size) (E_a1 : Exa Z h0 a1 "com/example/lean_scorer/leanscorer/Postings") (E_a2 : Exa Z h0 a2 "[I") (E_a3 : Exa Z h0 a3 "[I") (F_documents_a1 : Fld Z h0 a1 "com/example/lean_scorer/leanscorer/Postings" "documents" "[I" (.ref a2)) (F_frequencies_a1 : Fld Z h0 a1 "com/example/lean_scorer/leanscorer/Postings" "frequencies" "[I" (.ref a3)) (F_minLength_a1 : Fld Z h0 a1 "com/example/lean_scorer/leanscorer/Postings" "minLength" "I" (.int q1)) (F_maxFrequency_a1 : Fld Z h0 a1 "com/example/lean_scorer/leanscorer/Postings" "maxFrequency" "I" (.int q2)) (F_size_a1 : Fld Z h0 a1 "com/example/lean_scorer/leanscorer/Postings" "size" "I" (.int (1 : Int32))) (V_a2 : Arv Z h0 a2 kc1 .int (1 : Int32) [(.int ea0)] (.int (0 : Int32))) (V_a3 : Arv Z h0 a3 kc2 .int (1 : Int32) [(.int eb0)] (.int (0 : Int32))) (ne12 : a1 ≠ a2) (ne13 : a1 ≠ a3) (ne23 : a2 ≠ a3) (g_a1 : n0 ≤ a1) :
    MetFree l own_y4 (head1 (Jvm.Cond.code own_y4 prog_14_method_2_code 4 none :: ws) ({ frames := 2, cells := 2, slots := 4, locals := 55 } : Room)) (fun a U => a = #[(.ref a1), (.int p1), (.int p2), (.int p3)] ∧ Z.Warmed39 U.vm ∧ U.heap = h0) (fun _ _ _ _ _ => True) (fun _ U o U' => ∃ v L, o = .returned v ∧ own_add1_Q Z a1 a2 a3 kc1 kc2 p1 p2 p3 q1 q2 ea0 eb0 h0 n0 v U'.heap L ∧ FrameEnd U o U' L ({ frames := 2, cells := 2, slots := 4, locals := 55 } : Room).cells ({ frames := 2, cells := 2, slots := 4, locals := 55 } : Room).slots) := by
  refine MetFree.of_bodySF (plainFor_of_name own_pn_Postings) hisR ?_
  intro p e s m args below meth c s₁ Bd hml0 hP hK
  obtain ⟨rfl, hZ, hh⟩ := hP
  have hx := Bd.exec
  have hby := Bd.bytes
  have hml : c.maxLocals = 4 := hml0
  have hown : s.vm.findClass "com/example/lean_scorer/leanscorer/Postings" = some m.cls := findClass_of_methodNamed Bd.named
  have hnm := (name_of_methodNamed Bd.named Bd.method).1
  have X0 : Stand p l e ({ frames := 2, cells := 2, slots := 4, locals := 55 } : Room) s m #[(.ref a1), (.int p1), (.int p2), (.int p3)] below meth c s₁ [] 0 0 := Stand.of_body Bd
  have e0 : s₁.heap = h0 := by rw [← hh, Bd.state]; rfl
  show own_E p e below (own_K (own_add1_Q Z a1 a2 a3 kc1 kc2 p1 p2 p3 q1 q2 ea0 eb0 h0 n0) s ({ frames := 2, cells := 2, slots := 4, locals := 55 } : Room).cells ({ frames := 2, cells := 2, slots := 4, locals := 55 } : Room).slots) s₁ (entryFrame m #[(.ref a1), (.int p1), (.int p2), (.int p3)] 4)
  refine own_pre (own_add1_ef m a1 a2 a3 kc1 kc2 p1 p2 p3 q1 q2 ea0 eb0) ?_
  show own_E p e below _ s₁ (mkF m 0 #[rv a1, iv p1, iv p2, iv p3] [])
  refine own_st (fun t k => XS.aloadN X0.here hx rfl (hb hby own_d_prog_14_method_2_0) rfl rfl k) ?_
  show own_E p e below _ s₁ (mkF m 1 #[rv a1, iv p1, iv p2, iv p3] [.ref a1])
  obtain ⟨T1, X1, e1, st1⟩ := getF X0 hx hZ hown (host := "") (Or.inl (own_w hw 25 rfl)) Via.refl e0 F_size_a1 (g := (mkF m 1 #[rv a1, iv p1, iv p2, iv p3] [.ref a1])) rfl rfl (hb hby own_d_prog_14_method_2_1)
  refine own_st st1 ?_
  show own_E p e below _ T1 (mkF m 4 #[rv a1, iv p1, iv p2, iv p3] [.int 1])
  refine own_st (fun t k => XS.aloadN X1.here hx rfl (hb hby own_d_prog_14_method_2_4) rfl rfl k) ?_
  show own_E p e below _ T1 (mkF m 5 #[rv a1, iv p1, iv p2, iv p3] [.ref a1, .int 1])
  obtain ⟨T2, X2, e2, st2⟩ := getF X1 hx hZ hown (host := "") (Or.inl (own_w hw 10 rfl)) Via.refl e1 F_documents_a1 (g := (mkF m 5 #[rv a1, iv p1, iv p2, iv p3] [.ref a1, .int 1])) rfl rfl (hb hby own_d_prog_14_method_2_5)
  refine own_st st2 ?_
  show own_E p e below _ T2 (mkF m 8 #[rv a1, iv p1, iv p2, iv p3] [.ref a2, .int 1])
  refine own_st (own_alen X2 hx hZ e2 V_a2 (g := (mkF m 8 #[rv a1, iv p1, iv p2, iv p3] [.ref a2, .int 1])) rfl rfl (hb hby own_d_prog_14_method_2_8)) ?_
  show own_E p e below _ T2 (mkF m 9 #[rv a1, iv p1, iv p2, iv p3] [.int 1, .int 1])
  refine own_st (fun t k => XS.icmpNo X2.here hx rfl (hb hby own_d_prog_14_method_2_9) rfl (by decide) k) ?_
  show own_E p e below _ T2 (mkF m 12 #[rv a1, iv p1, iv p2, iv p3] [])
  refine own_st (fun t k => XS.aloadN X2.here hx rfl (hb hby own_d_prog_14_method_2_12) rfl rfl k) ?_
  show own_E p e below _ T2 (mkF m 13 #[rv a1, iv p1, iv p2, iv p3] [.ref a1])
  refine own_st (fun t k => XS.aloadN X2.here hx rfl (hb hby own_d_prog_14_method_2_13) rfl rfl k) ?_
  show own_E p e below _ T2 (mkF m 14 #[rv a1, iv p1, iv p2, iv p3] [.ref a1, .ref a1])
  obtain ⟨T3, X3, e3, st3⟩ := getF X2 hx hZ hown (host := "") (Or.inl (own_w hw 10 rfl)) Via.refl e2 F_documents_a1 (g := (mkF m 14 #[rv a1, iv p1, iv p2, iv p3] [.ref a1, .ref a1])) rfl rfl (hb hby own_d_prog_14_method_2_14)
  refine own_st st3 ?_
  show own_E p e below _ T3 (mkF m 17 #[rv a1, iv p1, iv p2, iv p3] [.ref a2, .ref a1])
  refine own_st (fun t k => XS.iconst X3.here hx rfl (hb hby own_d_prog_14_method_2_17) k) ?_
  show own_E p e below _ T3 (mkF m 18 #[rv a1, iv p1, iv p2, iv p3] [.int 2, .ref a2, .ref a1])
  refine own_st (fun t k => XS.aloadN X3.here hx rfl (hb hby own_d_prog_14_method_2_18) rfl rfl k) ?_
  show own_E p e below _ T3 (mkF m 19 #[rv a1, iv p1, iv p2, iv p3] [.ref a1, .int 2, .ref a2, .ref a1])
  obtain ⟨T4, X4, e4, st4⟩ := getF X3 hx hZ hown (host := "") (Or.inl (own_w hw 25 rfl)) Via.refl e3 F_size_a1 (g := (mkF m 19 #[rv a1, iv p1, iv p2, iv p3] [.ref a1, .int 2, .ref a2, .ref a1])) rfl rfl (hb hby own_d_prog_14_method_2_19)
  refine own_st st4 ?_
  show own_E p e below _ T4 (mkF m 22 #[rv a1, iv p1, iv p2, iv p3] [.int 1, .int 2, .ref a2, .ref a1])
  refine own_st (fun t k => XS.imul X4.here hx rfl (hb hby own_d_prog_14_method_2_22) rfl k) ?_
  show own_E p e below _ T4 (mkF m 23 #[rv a1, iv p1, iv p2, iv p3] [.int 2, .ref a2, .ref a1])
  obtain ⟨_, _, ⟨T5, L5, k5, n5⟩, -, X5, ⟨Lc5, hQ5, l5, y5, z5⟩, st5⟩ := Jvm.LawKit.callS X4 hx (y := own_y2) hown (mvT hZ (own_w hw 27 rfl)) (mvT hZ (own_w hw 28 rfl)) (mvT hZ (own_w hw 29 rfl)) (mvT hZ (own_w hw 30 rfl)) (by decide) (backOf (W := 1) (own_copy1_2 l Z a0 hw [] a2 kc1 ea0 h0 n0 Z0 E_a2 V_a2) hZ (own_w hw 30 rfl) (own_w hw 29 rfl) (by decide) (by decide)) (g := (mkF m 23 #[rv a1, iv p1, iv p2, iv p3] [.int 2, .ref a2, .ref a1])) rfl (by rw [hml]; rfl) (argsL := [(.ref a2), (.int (2 : Int32))]) (rest := [(.ref a1)]) (lenOf own_pd_6 rfl) rfl (by show 2 * 0 + _ ≤ _; exact Nat.le_of_eq rfl) (hb hby own_d_prog_14_method_2_23) (fun _ _ => ⟨rfl, e4, (by decide : 0 + 1 ≤ _), (by decide : 0 + 2 ≤ _)⟩)
  dsimp only [Pt.U, Pt.locs, Pt.cells, Pt.slots] at X5 l5 y5 z5 st5 hQ5
  subst l5 y5 z5
  obtain ⟨b5_o0, k5_o1, rfl, Nq5, Kq5, sz5_0, P5_0, P5_1⟩ := hQ5
  have N5 := Fr.app (Fr.nil n0) Nq5
  have ne_a1_b5_o0 : a1 ≠ b5_o0 := Nat.ne_of_lt (Nat.lt_of_lt_of_le E_a1.lt sz5_0)
  have ne_a2_b5_o0 : a2 ≠ b5_o0 := Nat.ne_of_lt (Nat.lt_of_lt_of_le E_a2.lt sz5_0)
  have ne_a3_b5_o0 : a3 ≠ b5_o0 := Nat.ne_of_lt (Nat.lt_of_lt_of_le E_a3.lt sz5_0)
  have g_b5_o0 : n0 ≤ b5_o0 := Nat.le_trans Z0 sz5_0
  have sz_b5_o0 : h0.size ≤ b5_o0 := Nat.le_trans (Keep.refl h0 [a1]).1 sz5_0
  have e5 : T5.heap = T5.heap := rfl
  have Z6 := Nat.le_trans Z0 Kq5.1
  have K7 : Keep h0 _ [a1] := (Keep.refl h0 [a1]).trans Kq5 all0
  refine own_st st5 ?_
  show own_E p e below _ T5 (mkF m 26 #[rv a1, iv p1, iv p2, iv p3] [.ref b5_o0, .ref a1])
  have B9 := (F_documents_a1.keep Kq5 nin0)
  have B10 := (E_a1.keep Kq5)
  obtain ⟨T8, h8, X8, e8, W8, st8⟩ := putF X5 hx hZ hown (host := "") (Or.inl (own_w hw 10 rfl)) Via.refl e5 B9 B10 (Or.inl (own_w hw 11 rfl)) (own_w hw 1 rfl) (ty := (.array .int)) (by decide) rfl rfl (g := (mkF m 26 #[rv a1, iv p1, iv p2, iv p3] [.ref b5_o0, .ref a1])) rfl rfl (hb hby own_d_prog_14_method_2_26)
  have N8 := Fr.snoc X8 N5 g_a1
  have Fw8 := B9.same W8
  have Z11 := Nat.le_trans Z6 (Keep.of_wr W8).1
  have K12 : Keep h0 _ [a1] := K7.wr W8 (Or.inl (List.mem_of_getElem? (i := 0) rfl))
  refine own_st st8 ?_
  show own_E p e below _ T8 (mkF m 29 #[rv a1, iv p1, iv p2, iv p3] [])
  refine own_st (fun t k => XS.aloadN X8.here hx rfl (hb hby own_d_prog_14_method_2_29) rfl rfl k) ?_
  show own_E p e below _ T8 (mkF m 30 #[rv a1, iv p1, iv p2, iv p3] [.ref a1])
  refine own_st (fun t k => XS.aloadN X8.here hx rfl (hb hby own_d_prog_14_method_2_30) rfl rfl k) ?_
  show own_E p e below _ T8 (mkF m 31 #[rv a1, iv p1, iv p2, iv p3] [.ref a1, .ref a1])
  have B14 := ((F_frequencies_a1.keep Kq5 nin0).other W8 (Or.inr (slot_ne (Or.inl (own_w hw 13 rfl)) (Or.inl (own_w hw 11 rfl)) (by decide) (t := (.array .int)) (t' := (.array .int)) (by decide) (by decide))))
  obtain ⟨T13, X13, e13, st13⟩ := getF X8 hx hZ hown (host := "") (Or.inl (own_w hw 12 rfl)) Via.refl e8 B14 (g := (mkF m 31 #[rv a1, iv p1, iv p2, iv p3] [.ref a1, .ref a1])) rfl rfl (hb hby own_d_prog_14_method_2_31)
  refine own_st st13 ?_
  show own_E p e below _ T13 (mkF m 34 #[rv a1, iv p1, iv p2, iv p3] [.ref a3, .ref a1])
  refine own_st (fun t k => XS.iconst X13.here hx rfl (hb hby own_d_prog_14_method_2_34) k) ?_
  show own_E p e below _ T13 (mkF m 35 #[rv a1, iv p1, iv p2, iv p3] [.int 2, .ref a3, .ref a1])
  refine own_st (fun t k => XS.aloadN X13.here hx rfl (hb hby own_d_prog_14_method_2_35) rfl rfl k) ?_
  show own_E p e below _ T13 (mkF m 36 #[rv a1, iv p1, iv p2, iv p3] [.ref a1, .int 2, .ref a3, .ref a1])
  have B16 := ((F_size_a1.keep Kq5 nin0).other W8 (Or.inr (slot_ne (Or.inl (own_w hw 26 rfl)) (Or.inl (own_w hw 11 rfl)) (by decide) (t := .int) (t' := (.array .int)) (by decide) (by decide))))
  obtain ⟨T15, X15, e15, st15⟩ := getF X13 hx hZ hown (host := "") (Or.inl (own_w hw 25 rfl)) Via.refl e13 B16 (g := (mkF m 36 #[rv a1, iv p1, iv p2, iv p3] [.ref a1, .int 2, .ref a3, .ref a1])) rfl rfl (hb hby own_d_prog_14_method_2_36)
  refine own_st st15 ?_
  show own_E p e below _ T15 (mkF m 39 #[rv a1, iv p1, iv p2, iv p3] [.int 1, .int 2, .ref a3, .ref a1])
  refine own_st (fun t k => XS.imul X15.here hx rfl (hb hby own_d_prog_14_method_2_39) rfl k) ?_
  show own_E p e below _ T15 (mkF m 40 #[rv a1, iv p1, iv p2, iv p3] [.int 2, .ref a3, .ref a1])
  have B17 := ((E_a3.keep Kq5).wr W8)
  have B18 := ((V_a3.keep Kq5 nin0).other W8 (Ne.symm ne13))
  obtain ⟨_, _, ⟨T19, L19, k19, n19⟩, -, X19, ⟨Lc19, hQ19, l19, y19, z19⟩, st19⟩ := Jvm.LawKit.callS X15 hx (y := own_y2) hown (mvT hZ (own_w hw 27 rfl)) (mvT hZ (own_w hw 28 rfl)) (mvT hZ (own_w hw 29 rfl)) (mvT hZ (own_w hw 30 rfl)) (by decide) (backOf (W := 1) (own_copy1_2 l Z a0 hw [] a3 kc2 eb0 h8 n0 Z11 B17 B18) hZ (own_w hw 30 rfl) (own_w hw 29 rfl) (by decide) (by decide)) (g := (mkF m 40 #[rv a1, iv p1, iv p2, iv p3] [.int 2, .ref a3, .ref a1])) rfl (by rw [hml]; rfl) (argsL := [(.ref a3), (.int (2 : Int32))]) (rest := [(.ref a1)]) (lenOf own_pd_6 rfl) rfl (by show 2 * 0 + _ ≤ _; exact Nat.le_of_eq rfl) (hb hby own_d_prog_14_method_2_40) (fun _ _ => ⟨rfl, e15, (by decide : 1 + 1 ≤ _), (by decide : 2 + 2 ≤ _)⟩)
  dsimp only [Pt.U, Pt.locs, Pt.cells, Pt.slots] at X19 l19 y19 z19 st19 hQ19
  subst l19 y19 z19
  obtain ⟨b19_o0, k19_o1, rfl, Nq19, Kq19, sz19_0, P19_0, P19_1⟩ := hQ19
  have N19 := Fr.app N8 Nq19
  have B20 := (B10.wr W8)
  have ne_a1_b19_o0 : a1 ≠ b19_o0 := Nat.ne_of_lt (Nat.lt_of_lt_of_le B20.lt sz19_0)
  have B21 := ((E_a2.keep Kq5).wr W8)
  have ne_a2_b19_o0 : a2 ≠ b19_o0 := Nat.ne_of_lt (Nat.lt_of_lt_of_le B21.lt sz19_0)
  have ne_a3_b19_o0 : a3 ≠ b19_o0 := Nat.ne_of_lt (Nat.lt_of_lt_of_le B17.lt sz19_0)
  have B22 := (P5_0.other W8 (Ne.symm ne_a1_b5_o0))
  have ne_b5_o0_b19_o0 : b5_o0 ≠ b19_o0 := Nat.ne_of_lt (Nat.lt_of_lt_of_le B22.lt sz19_0)
  have g_b19_o0 : n0 ≤ b19_o0 := Nat.le_trans Z11 sz19_0
  have sz_b19_o0 : h0.size ≤ b19_o0 := Nat.le_trans K12.1 sz19_0
  have e19 : T19.heap = T19.heap := rfl
  have Z23 := Nat.le_trans Z11 Kq19.1
  have K24 : Keep h0 _ [a1] := K12.trans Kq19 all0
  refine own_st st19 ?_
  show own_E p e below _ T19 (mkF m 43 #[rv a1, iv p1, iv p2, iv p3] [.ref b19_o0, .ref a1])
  have B26 := (B14.keep Kq19 nin0)
  have B27 := (B20.keep Kq19)
  obtain ⟨T25, h25, X25, e25, W25, st25⟩ := putF X19 hx hZ hown (host := "") (Or.inl (own_w hw 12 rfl)) Via.refl e19 B26 B27 (Or.inl (own_w hw 13 rfl)) (own_w hw 1 rfl) (ty := (.array .int)) (by decide) rfl rfl (g := (mkF m 43 #[rv a1, iv p1, iv p2, iv p3] [.ref b19_o0, .ref a1])) rfl rfl (hb hby own_d_prog_14_method_2_43)
  have N25 := Fr.snoc X25 N19 g_a1
  have Fw25 := B26.same W25
  have Z28 := Nat.le_trans Z23 (Keep.of_wr W25).1
  have K29 : Keep h0 _ [a1] := K24.wr W25 (Or.inl (List.mem_of_getElem? (i := 0) rfl))
  refine own_st st25 ?_
  show own_E p e below _ T25 (mkF m 46 #[rv a1, iv p1, iv p2, iv p3] [])
  refine own_st (fun t k => XS.aloadN X25.here hx rfl (hb hby own_d_prog_14_method_2_46) rfl rfl k) ?_
  show own_E p e below _ T25 (mkF m 47 #[rv a1, iv p1, iv p2, iv p3] [.ref a1])
  have B31 := ((Fw8.keep Kq19 nin0).other W25 (Or.inr (slot_ne (Or.inl (own_w hw 11 rfl)) (Or.inl (own_w hw 13 rfl)) (by decide) (t := (.array .int)) (t' := (.array .int)) (by decide) (by decide))))
  obtain ⟨T30, X30, e30, st30⟩ := getF X25 hx hZ hown (host := "") (Or.inl (own_w hw 10 rfl)) Via.refl e25 B31 (g := (mkF m 47 #[rv a1, iv p1, iv p2, iv p3] [.ref a1])) rfl rfl (hb hby own_d_prog_14_method_2_47)
  refine own_st st30 ?_
  show own_E p e below _ T30 (mkF m 50 #[rv a1, iv p1, iv p2, iv p3] [.ref b5_o0])
  refine own_st (fun t k => XS.aloadN X30.here hx rfl (hb hby own_d_prog_14_method_2_50) rfl rfl k) ?_
  show own_E p e below _ T30 (mkF m 51 #[rv a1, iv p1, iv p2, iv p3] [.ref a1, .ref b5_o0])
  have B33 := ((B16.keep Kq19 nin0).other W25 (Or.inr (slot_ne (Or.inl (own_w hw 26 rfl)) (Or.inl (own_w hw 13 rfl)) (by decide) (t := .int) (t' := (.array .int)) (by decide) (by decide))))
  obtain ⟨T32, X32, e32, st32⟩ := getF X30 hx hZ hown (host := "") (Or.inl (own_w hw 25 rfl)) Via.refl e30 B33 (g := (mkF m 51 #[rv a1, iv p1, iv p2, iv p3] [.ref a1, .ref b5_o0])) rfl rfl (hb hby own_d_prog_14_method_2_51)
  refine own_st st32 ?_
  show own_E p e below _ T32 (mkF m 54 #[rv a1, iv p1, iv p2, iv p3] [.int 1, .ref b5_o0])
  refine own_st (fun t k => XS.iloadN X32.here hx rfl (hb hby own_d_prog_14_method_2_54) rfl k) ?_
  show own_E p e below _ T32 (mkF m 55 #[rv a1, iv p1, iv p2, iv p3] [.int p1, .int 1, .ref b5_o0])
  have B34 := ((B22.keep Kq19 nin0).other W25 (Ne.symm ne_a1_b5_o0))
  obtain ⟨T35, h35, X35, e35, W35, Vw35, st35⟩ := own_ast X32 hx hZ e32 B34 (j := (1 : Int32)) ⟨by decide, by decide⟩ (x := p1) (i := 1) rfl (Nat.le_of_ble_eq_true rfl) (g := (mkF m 55 #[rv a1, iv p1, iv p2, iv p3] [.int p1, .int 1, .ref b5_o0])) rfl rfl (hb hby own_d_prog_14_method_2_55)
  have V35 : Arv Z h35 b5_o0 k5_o1 .int (2 : Int32) [(.int ea0), (.int p1)] (.int (0 : Int32)) := Vw35
  have N35 := Fr.snoc X35 N25 g_b5_o0
  have Z36 := Nat.le_trans Z28 (Keep.of_wr W35).1
  have K37 : Keep h0 _ [a1] := K29.wr W35 (Or.inr sz_b5_o0)
  refine own_st st35 ?_
  show own_E p e below _ T35 (mkF m 56 #[rv a1, iv p1, iv p2, iv p3] [])
  refine own_st (fun t k => XS.aloadN X35.here hx rfl (hb hby own_d_prog_14_method_2_56) rfl rfl k) ?_
  show own_E p e below _ T35 (mkF m 57 #[rv a1, iv p1, iv p2, iv p3] [.ref a1])
  have B39 := (Fw25.other W35 (Or.inl ne_a1_b5_o0))
  obtain ⟨T38, X38, e38, st38⟩ := getF X35 hx hZ hown (host := "") (Or.inl (own_w hw 12 rfl)) Via.refl e35 B39 (g := (mkF m 57 #[rv a1, iv p1, iv p2, iv p3] [.ref a1])) rfl rfl (hb hby own_d_prog_14_method_2_57)
  refine own_st st38 ?_
  show own_E p e below _ T38 (mkF m 60 #[rv a1, iv p1, iv p2, iv p3] [.ref b19_o0])
  refine own_st (fun t k => XS.aloadN X38.here hx rfl (hb hby own_d_prog_14_method_2_60) rfl rfl k) ?_
  show own_E p e below _ T38 (mkF m 61 #[rv a1, iv p1, iv p2, iv p3] [.ref a1, .ref b19_o0])
  have B41 := (B33.other W35 (Or.inl ne_a1_b5_o0))
  obtain ⟨T40, X40, e40, st40⟩ := getF X38 hx hZ hown (host := "") (Or.inl (own_w hw 25 rfl)) Via.refl e38 B41 (g := (mkF m 61 #[rv a1, iv p1, iv p2, iv p3] [.ref a1, .ref b19_o0])) rfl rfl (hb hby own_d_prog_14_method_2_61)
  refine own_st st40 ?_
  show own_E p e below _ T40 (mkF m 64 #[rv a1, iv p1, iv p2, iv p3] [.int 1, .ref b19_o0])
  refine own_st (fun t k => XS.iloadN X40.here hx rfl (hb hby own_d_prog_14_method_2_64) rfl k) ?_
  show own_E p e below _ T40 (mkF m 65 #[rv a1, iv p1, iv p2, iv p3] [.int p2, .int 1, .ref b19_o0])
  have B42 := ((P19_0.other W25 (Ne.symm ne_a1_b19_o0)).other W35 (Ne.symm ne_b5_o0_b19_o0))
  obtain ⟨T43, h43, X43, e43, W43, Vw43, st43⟩ := own_ast X40 hx hZ e40 B42 (j := (1 : Int32)) ⟨by decide, by decide⟩ (x := p2) (i := 1) rfl (Nat.le_of_ble_eq_true rfl) (g := (mkF m 65 #[rv a1, iv p1, iv p2, iv p3] [.int p2, .int 1, .ref b19_o0])) rfl rfl (hb hby own_d_prog_14_method_2_65)
  have V43 : Arv Z h43 b19_o0 k19_o1 .int (2 : Int32) [(.int eb0), (.int p2)] (.int (0 : Int32)) := Vw43
  have N43 := Fr.snoc X43 N35 g_b19_o0
  have Z44 := Nat.le_trans Z36 (Keep.of_wr W43).1
  have K45 : Keep h0 _ [a1] := K37.wr W43 (Or.inr sz_b19_o0)
  refine own_st st43 ?_
  show own_E p e below _ T43 (mkF m 66 #[rv a1, iv p1, iv p2, iv p3] [])
  refine own_st (fun t k => XS.aloadN X43.here hx rfl (hb hby own_d_prog_14_method_2_66) rfl rfl k) ?_
  show own_E p e below _ T43 (mkF m 67 #[rv a1, iv p1, iv p2, iv p3] [.ref a1])
  refine own_st (fun t k => XS.dup X43.here hx rfl (hb hby own_d_prog_14_method_2_67) rfl rfl k) ?_
  show own_E p e below _ T43 (mkF m 68 #[rv a1, iv p1, iv p2, iv p3] [.ref a1, .ref a1])
  have B47 := (B41.other W43 (Or.inl ne_a1_b19_o0))
  obtain ⟨T46, X46, e46, st46⟩ := getF X43 hx hZ hown (host := "") (Or.inl (own_w hw 25 rfl)) Via.refl e43 B47 (g := (mkF m 68 #[rv a1, iv p1, iv p2, iv p3] [.ref a1, .ref a1])) rfl rfl (hb hby own_d_prog_14_method_2_68)
  refine own_st st46 ?_
  show own_E p e below _ T46 (mkF m 71 #[rv a1, iv p1, iv p2, iv p3] [.int 1, .ref a1])
  refine own_st (fun t k => XS.iconst X46.here hx rfl (hb hby own_d_prog_14_method_2_71) k) ?_
  show own_E p e below _ T46 (mkF m 72 #[rv a1, iv p1, iv p2, iv p3] [.int 1, .int 1, .ref a1])
  refine own_st (fun t k => XS.iadd X46.here hx rfl (hb hby own_d_prog_14_method_2_72) rfl k) ?_
  show own_E p e below _ T46 (mkF m 73 #[rv a1, iv p1, iv p2, iv p3] [.int 2, .ref a1])
  have B49 := (((B27.wr W25).wr W35).wr W43)
  obtain ⟨T48, h48, X48, e48, W48, st48⟩ := putF X46 hx hZ hown (host := "") (Or.inl (own_w hw 25 rfl)) Via.refl e46 B47 B49 (Or.inl (own_w hw 26 rfl)) (own_w hw 1 rfl) (ty := .int) (by decide) rfl rfl (g := (mkF m 73 #[rv a1, iv p1, iv p2, iv p3] [.int 2, .ref a1])) rfl rfl (hb hby own_d_prog_14_method_2_73)
  have N48 := Fr.snoc X48 N43 g_a1
  have Fw48 := B47.same W48
  have Z50 := Nat.le_trans Z44 (Keep.of_wr W48).1
  have K51 : Keep h0 _ [a1] := K45.wr W48 (Or.inl (List.mem_of_getElem? (i := 0) rfl))
  refine own_st st48 ?_
  show own_E p e below _ T48 (mkF m 76 #[rv a1, iv p1, iv p2, iv p3] [])
  refine own_st (fun t k => XS.aloadN X48.here hx rfl (hb hby own_d_prog_14_method_2_76) rfl rfl k) ?_
  show own_E p e below _ T48 (mkF m 77 #[rv a1, iv p1, iv p2, iv p3] [.ref a1])
  refine own_st (fun t k => XS.aloadN X48.here hx rfl (hb hby own_d_prog_14_method_2_77) rfl rfl k) ?_
  show own_E p e below _ T48 (mkF m 78 #[rv a1, iv p1, iv p2, iv p3] [.ref a1, .ref a1])
  have B53 := (((((((F_maxFrequency_a1.keep Kq5 nin0).other W8 (Or.inr (slot_ne (Or.inl (own_w hw 18 rfl)) (Or.inl (own_w hw 11 rfl)) (by decide) (t := .int) (t' := (.array .int)) (by decide) (by decide)))).keep Kq19 nin0).other W25 (Or.inr (slot_ne (Or.inl (own_w hw 18 rfl)) (Or.inl (own_w hw 13 rfl)) (by decide) (t := .int) (t' := (.array .int)) (by decide) (by decide)))).other W35 (Or.inl ne_a1_b5_o0)).other W43 (Or.inl ne_a1_b19_o0)).other W48 (Or.inr (slot_ne (Or.inl (own_w hw 18 rfl)) (Or.inl (own_w hw 26 rfl)) (by decide) (t := .int) (t' := .int) (by decide) (by decide))))
  obtain ⟨T52, X52, e52, st52⟩ := getF X48 hx hZ hown (host := "") (Or.inl (own_w hw 47 rfl)) Via.refl e48 B53 (g := (mkF m 78 #[rv a1, iv p1, iv p2, iv p3] [.ref a1, .ref a1])) rfl rfl (hb hby own_d_prog_14_method_2_78)
  refine own_st st52 ?_
  show own_E p e below _ T52 (mkF m 81 #[rv a1, iv p1, iv p2, iv p3] [.int q2, .ref a1])
  refine own_st (fun t k => XS.iloadN X52.here hx rfl (hb hby own_d_prog_14_method_2_81) rfl k) ?_
  show own_E p e below _ T52 (mkF m 82 #[rv a1, iv p1, iv p2, iv p3] [.int p2, .int q2, .ref a1])
  obtain ⟨_, _, ⟨T54, L54, k54, n54⟩, -, X54, ⟨Lc54, hQ54, l54, y54, z54⟩, st54⟩ := Jvm.LawKit.callS X52 hx (y := own_y1) hown (mvT hZ (own_w hw 48 rfl)) (mvT hZ (own_w hw 49 rfl)) (mvT hZ (own_w hw 33 rfl)) (mvT hZ (own_w hw 50 rfl)) (by decide) (backOf (W := 1) (own_maxF l Z a0 hw [] q2 p2 h48 n0 Z50 ) hZ (own_w hw 50 rfl) (own_w hw 33 rfl) (by decide) (by decide)) (g := (mkF m 82 #[rv a1, iv p1, iv p2, iv p3] [.int p2, .int q2, .ref a1])) rfl (by rw [hml]; rfl) (argsL := [(.int q2), (.int p2)]) (rest := [(.ref a1)]) (lenOf own_pd_2 rfl) rfl (by show 2 * 0 + _ ≤ _; exact Nat.le_of_eq rfl) (hb hby own_d_prog_14_method_2_82) (fun _ _ => ⟨rfl, e52, (by decide : 2 + 0 ≤ _), (by decide : 4 + 0 ≤ _)⟩)
  dsimp only [Pt.U, Pt.locs, Pt.cells, Pt.slots] at X54 l54 y54 z54 st54 hQ54
  subst l54 y54 z54
  obtain ⟨rfl, e54, rfl⟩ := hQ54
  have N54 := Fr.app N48 (Fr.nil n0)
  refine own_st st54 ?_
  show own_E p e below _ T54 (mkF m 85 #[rv a1, iv p1, iv p2, iv p3] [.int (own_max q2 p2), .ref a1])
  have B56 := (B49.wr W48)
  obtain ⟨T55, h55, X55, e55, W55, st55⟩ := putF X54 hx hZ hown (host := "") (Or.inl (own_w hw 47 rfl)) Via.refl e54 B53 B56 (Or.inl (own_w hw 18 rfl)) (own_w hw 1 rfl) (ty := .int) (by decide) rfl rfl (g := (mkF m 85 #[rv a1, iv p1, iv p2, iv p3] [.int (own_max q2 p2), .ref a1])) rfl rfl (hb hby own_d_prog_14_method_2_85)
  have N55 := Fr.snoc X55 N54 g_a1
  have Fw55 := B53.same W55
  have Z57 := Nat.le_trans Z50 (Keep.of_wr W55).1
  have K58 : Keep h0 _ [a1] := K51.wr W55 (Or.inl (List.mem_of_getElem? (i := 0) rfl))
  refine own_st st55 ?_
  show own_E p e below _ T55 (mkF m 88 #[rv a1, iv p1, iv p2, iv p3] [])
  refine own_st (fun t k => XS.aloadN X55.here hx rfl (hb hby own_d_prog_14_method_2_88) rfl rfl k) ?_
  show own_E p e below _ T55 (mkF m 89 #[rv a1, iv p1, iv p2, iv p3] [.ref a1])
  refine own_st (fun t k => XS.aloadN X55.here hx rfl (hb hby own_d_prog_14_method_2_89) rfl rfl k) ?_
  show own_E p e below _ T55 (mkF m 90 #[rv a1, iv p1, iv p2, iv p3] [.ref a1, .ref a1])
  have B60 := ((((((((F_minLength_a1.keep Kq5 nin0).other W8 (Or.inr (slot_ne (Or.inl (own_w hw 16 rfl)) (Or.inl (own_w hw 11 rfl)) (by decide) (t := .int) (t' := (.array .int)) (by decide) (by decide)))).keep Kq19 nin0).other W25 (Or.inr (slot_ne (Or.inl (own_w hw 16 rfl)) (Or.inl (own_w hw 13 rfl)) (by decide) (t := .int) (t' := (.array .int)) (by decide) (by decide)))).other W35 (Or.inl ne_a1_b5_o0)).other W43 (Or.inl ne_a1_b19_o0)).other W48 (Or.inr (slot_ne (Or.inl (own_w hw 16 rfl)) (Or.inl (own_w hw 26 rfl)) (by decide) (t := .int) (t' := .int) (by decide) (by decide)))).other W55 (Or.inr (slot_ne (Or.inl (own_w hw 16 rfl)) (Or.inl (own_w hw 18 rfl)) (by decide) (t := .int) (t' := .int) (by decide) (by decide))))
  obtain ⟨T59, X59, e59, st59⟩ := getF X55 hx hZ hown (host := "") (Or.inl (own_w hw 15 rfl)) Via.refl e55 B60 (g := (mkF m 90 #[rv a1, iv p1, iv p2, iv p3] [.ref a1, .ref a1])) rfl rfl (hb hby own_d_prog_14_method_2_90)
  refine own_st st59 ?_
  show own_E p e below _ T59 (mkF m 93 #[rv a1, iv p1, iv p2, iv p3] [.int q1, .ref a1])
  refine own_st (fun t k => XS.iloadN X59.here hx rfl (hb hby own_d_prog_14_method_2_93) rfl k) ?_
  show own_E p e below _ T59 (mkF m 94 #[rv a1, iv p1, iv p2, iv p3] [.int p3, .int q1, .ref a1])
  obtain ⟨_, _, ⟨T61, L61, k61, n61⟩, -, X61, ⟨Lc61, hQ61, l61, y61, z61⟩, st61⟩ := Jvm.LawKit.callS X59 hx (y := own_y0) hown (mvT hZ (own_w hw 51 rfl)) (mvT hZ (own_w hw 32 rfl)) (mvT hZ (own_w hw 33 rfl)) (mvT hZ (own_w hw 34 rfl)) (by decide) (backOf (W := 1) (own_minF l Z a0 hw [] q1 p3 h55 n0 Z57 ) hZ (own_w hw 34 rfl) (own_w hw 33 rfl) (by decide) (by decide)) (g := (mkF m 94 #[rv a1, iv p1, iv p2, iv p3] [.int p3, .int q1, .ref a1])) rfl (by rw [hml]; rfl) (argsL := [(.int q1), (.int p3)]) (rest := [(.ref a1)]) (lenOf own_pd_2 rfl) rfl (by show 2 * 0 + _ ≤ _; exact Nat.le_of_eq rfl) (hb hby own_d_prog_14_method_2_94) (fun _ _ => ⟨rfl, e59, (by decide : 2 + 0 ≤ _), (by decide : 4 + 0 ≤ _)⟩)
  dsimp only [Pt.U, Pt.locs, Pt.cells, Pt.slots] at X61 l61 y61 z61 st61 hQ61
  subst l61 y61 z61
  obtain ⟨rfl, e61, rfl⟩ := hQ61
  have N61 := Fr.app N55 (Fr.nil n0)
  refine own_st st61 ?_
  show own_E p e below _ T61 (mkF m 97 #[rv a1, iv p1, iv p2, iv p3] [.int (own_min q1 p3), .ref a1])
  have B63 := (B56.wr W55)
  obtain ⟨T62, h62, X62, e62, W62, st62⟩ := putF X61 hx hZ hown (host := "") (Or.inl (own_w hw 15 rfl)) Via.refl e61 B60 B63 (Or.inl (own_w hw 16 rfl)) (own_w hw 1 rfl) (ty := .int) (by decide) rfl rfl (g := (mkF m 97 #[rv a1, iv p1, iv p2, iv p3] [.int (own_min q1 p3), .ref a1])) rfl rfl (hb hby own_d_prog_14_method_2_97)
  have N62 := Fr.snoc X62 N61 g_a1
  have Fw62 := B60.same W62
  have Z64 := Nat.le_trans Z57 (Keep.of_wr W62).1
  have K65 : Keep h0 _ [a1] := K58.wr W62 (Or.inl (List.mem_of_getElem? (i := 0) rfl))
  refine own_st st62 ?_
  show own_E p e below _ T62 (mkF m 100 #[rv a1, iv p1, iv p2, iv p3] [])
  refine own_retV X62 hx Bd.notSynchronized Bd.returns (hb hby own_d_prog_14_method_2_100) (by decide) (by decide) ?_
  have B66 := (B63.wr W62)
  have B67 := (((((B31.other W35 (Or.inl ne_a1_b5_o0)).other W43 (Or.inl ne_a1_b19_o0)).other W48 (Or.inr (slot_ne (Or.inl (own_w hw 11 rfl)) (Or.inl (own_w hw 26 rfl)) (by decide) (t := (.array .int)) (t' := .int) (by decide) (by decide)))).other W55 (Or.inr (slot_ne (Or.inl (own_w hw 11 rfl)) (Or.inl (own_w hw 18 rfl)) (by decide) (t := (.array .int)) (t' := .int) (by decide) (by decide)))).other W62 (Or.inr (slot_ne (Or.inl (own_w hw 11 rfl)) (Or.inl (own_w hw 16 rfl)) (by decide) (t := (.array .int)) (t' := .int) (by decide) (by decide))))
  have B68 := ((((B39.other W43 (Or.inl ne_a1_b19_o0)).other W48 (Or.inr (slot_ne (Or.inl (own_w hw 13 rfl)) (Or.inl (own_w hw 26 rfl)) (by decide) (t := (.array .int)) (t' := .int) (by decide) (by decide)))).other W55 (Or.inr (slot_ne (Or.inl (own_w hw 13 rfl)) (Or.inl (own_w hw 18 rfl)) (by decide) (t := (.array .int)) (t' := .int) (by decide) (by decide)))).other W62 (Or.inr (slot_ne (Or.inl (own_w hw 13 rfl)) (Or.inl (own_w hw 16 rfl)) (by decide) (t := (.array .int)) (t' := .int) (by decide) (by decide))))
  have B69 := (Fw55.other W62 (Or.inr (slot_ne (Or.inl (own_w hw 18 rfl)) (Or.inl (own_w hw 16 rfl)) (by decide) (t := .int) (t' := .int) (by decide) (by decide))))
  have B70 := ((Fw48.other W55 (Or.inr (slot_ne (Or.inl (own_w hw 26 rfl)) (Or.inl (own_w hw 18 rfl)) (by decide) (t := .int) (t' := .int) (by decide) (by decide)))).other W62 (Or.inr (slot_ne (Or.inl (own_w hw 26 rfl)) (Or.inl (own_w hw 16 rfl)) (by decide) (t := .int) (t' := .int) (by decide) (by decide))))
  have B71 := ((((V35.other W43 ne_b5_o0_b19_o0).other W48 (Ne.symm ne_a1_b5_o0)).other W55 (Ne.symm ne_a1_b5_o0)).other W62 (Ne.symm ne_a1_b5_o0))
  have B72 := ((((((((P5_1.wr W8).keep Kq19).wr W25).wr W35).wr W43).wr W48).wr W55).wr W62)
  have B73 := (((V43.other W48 (Ne.symm ne_a1_b19_o0)).other W55 (Ne.symm ne_a1_b19_o0)).other W62 (Ne.symm ne_a1_b19_o0))
  have B74 := ((((((P19_1.wr W25).wr W35).wr W43).wr W48).wr W55).wr W62)
  show own_add1_Q Z a1 a2 a3 kc1 kc2 p1 p2 p3 q1 q2 ea0 eb0 h0 n0 _ T62.heap _
  rw [e62]
  exact ⟨b5_o0, b19_o0, k5_o1, k19_o1, rfl, N62, K65, sz_b5_o0, sz_b19_o0, ne_b5_o0_b19_o0, B66, B67, B68, Fw62, B69, B70, B71, B72, B73, B74⟩
def own_add2_Q (Z : State) (a1 : Addr) (a2 : Addr) (a3 : Addr) (kc1 : ClassId) (kc2 : ClassId) (p1 : Int32) (p2 : Int32) (p3 : Int32) (q1 : Int32) (q2 : Int32) (ea0 : Int32) (ea1 : Int32) (eb0 : Int32) (eb1 : Int32) (h0 : Heap) (n0 : Nat) (v : Option Value) (h : Heap) (L : List Loc) : Prop := ∃ (o0 : Addr), ∃ (o1 : Addr), ∃ (o2 : ClassId), ∃ (o3 : ClassId), v = none ∧ Fr n0 L ∧ Keep h0 h [a1] ∧ h0.size ≤ o0 ∧ h0.size ≤ o1 ∧ o0 ≠ o1 ∧ Exa Z h a1 "com/example/lean_scorer/leanscorer/Postings" ∧ Fld Z h a1 "com/example/lean_scorer/leanscorer/Postings" "documents" "[I" (.ref o0) ∧ Fld Z h a1 "com/example/lean_scorer/leanscorer/Postings" "frequencies" "[I" (.ref o1) ∧ Fld Z h a1 "com/example/lean_scorer/leanscorer/Postings" "minLength" "I" (.int (own_min q1 p3)) ∧ Fld Z h a1 "com/example/lean_scorer/leanscorer/Postings" "maxFrequency" "I" (.int (own_max q2 p2)) ∧ Fld Z h a1 "com/example/lean_scorer/leanscorer/Postings" "size" "I" (.int (3 : Int32)) ∧ Arv Z h o0 o2 .int (4 : Int32) [(.int ea0), (.int ea1), (.int p1), (.int (0 : Int32))] (.int (0 : Int32)) ∧ Exa Z h o0 "[I" ∧ Arv Z h o1 o3 .int (4 : Int32) [(.int eb0), (.int eb1), (.int p2), (.int (0 : Int32))] (.int (0 : Int32)) ∧ Exa Z h o1 "[I"
theorem own_add2_ef (m : MethodId) (a1 : Addr) (a2 : Addr) (a3 : Addr) (kc1 : ClassId) (kc2 : ClassId) (p1 : Int32) (p2 : Int32) (p3 : Int32) (q1 : Int32) (q2 : Int32) (ea0 : Int32) (ea1 : Int32) (eb0 : Int32) (eb1 : Int32) : entryFrame m #[(.ref a1), (.int p1), (.int p2), (.int p3)] 4 = mkF m 0 #[.val (.ref a1), .val (.int p1), .val (.int p2), .val (.int p3)] [] := by first | (simp [entryFrame, mkF, argsToLocals, Value.category]; done) | rfl
set_option maxRecDepth 65536 in
set_option maxHeartbeats 40000000 in
theorem own_add2 (l : Launch) (Z : State) (a0 : Array Value) (hw : ∀ d ∈ tables_1, d.before a0 Z = true) (ws : List Jvm.Cond) (a1 : Addr) (a2 : Addr) (a3 : Addr) (kc1 : ClassId) (kc2 : ClassId) (p1 : Int32) (p2 : Int32) (p3 : Int32) (q1 : Int32) (q2 : Int32) (ea0 : Int32) (ea1 : Int32) (eb0 : Int32) (eb1 : Int32) (h0 : Heap) (n0 : Nat) (Z0 : n0 ≤ h0.size) (E_a1 : Exa Z h0 a1 "com/example/lean_scorer/leanscorer/Postings") (E_a2 : Exa Z h0 a2 "[I") (E_a3 : Exa Z h0 a3 "[I") (F_documents_a1 : Fld Z h0 a1 "com/example/lean_scorer/leanscorer/Postings" "documents" "[I" (.ref a2)) (F_frequencies_a1 : Fld Z h0 a1 "com/example/lean_scorer/leanscorer/Postings" "frequencies" "[I" (.ref a3)) (F_minLength_a1 : Fld Z h0 a1 "com/example/lean_scorer/leanscorer/Postings" "minLength" "I" (.int q1)) (F_maxFrequency_a1 : Fld Z h0 a1 "com/example/lean_scorer/leanscorer/Postings" "maxFrequency" "I" (.int q2)) (F_size_a1 : Fld Z h0 a1 "com/example/lean_scorer/leanscorer/Postings" "size" "I" (.int (2 : Int32))) (V_a2 : Arv Z h0 a2 kc1 .int (2 : Int32) [(.int ea0), (.int ea1)] (.int (0 : Int32))) (V_a3 : Arv Z h0 a3 kc2 .int (2 : Int32) [(.int eb0), (.int eb1)] (.int (0 : Int32))) (ne12 : a1 ≠ a2) (ne13 : a1 ≠ a3) (ne23 : a2 ≠ a3) (g_a1 : n0 ≤ a1) :
    MetFree l own_y4 (head1 (Jvm.Cond.code own_y4 prog_14_method_2_code 4 none :: ws) ({ frames := 2, cells := 2, slots := 8, locals := 55 } : Room)) (fun a U => a = #[(.ref a1), (.int p1), (.int p2), (.int p3)] ∧ Z.Warmed39 U.vm ∧ U.heap = h0) (fun _ _ _ _ _ => True) (fun _ U o U' => ∃ v L, o = .returned v ∧ own_add2_Q Z a1 a2 a3 kc1 kc2 p1 p2 p3 q1 q2 ea0 ea1 eb0 eb1 h0 n0 v U'.heap L ∧ FrameEnd U o U' L ({ frames := 2, cells := 2, slots := 8, locals := 55 } : Room).cells ({ frames := 2, cells := 2, slots := 8, locals := 55 } : Room).slots) := by
  refine MetFree.of_bodySF (plainFor_of_name own_pn_Postings) hisR ?_
  intro p e s m args below meth c s₁ Bd hml0 hP hK
  obtain ⟨rfl, hZ, hh⟩ := hP
  have hx := Bd.exec
  have hby := Bd.bytes
  have hml : c.maxLocals = 4 := hml0
  have hown : s.vm.findClass "com/example/lean_scorer/leanscorer/Postings" = some m.cls := findClass_of_methodNamed Bd.named
  have hnm := (name_of_methodNamed Bd.named Bd.method).1
  have X0 : Stand p l e ({ frames := 2, cells := 2, slots := 8, locals := 55 } : Room) s m #[(.ref a1), (.int p1), (.int p2), (.int p3)] below meth c s₁ [] 0 0 := Stand.of_body Bd
  have e0 : s₁.heap = h0 := by rw [← hh, Bd.state]; rfl
  show own_E p e below (own_K (own_add2_Q Z a1 a2 a3 kc1 kc2 p1 p2 p3 q1 q2 ea0 ea1 eb0 eb1 h0 n0) s ({ frames := 2, cells := 2, slots := 8, locals := 55 } : Room).cells ({ frames := 2, cells := 2, slots := 8, locals := 55 } : Room).slots) s₁ (entryFrame m #[(.ref a1), (.int p1), (.int p2), (.int p3)] 4)
  refine own_pre (own_add2_ef m a1 a2 a3 kc1 kc2 p1 p2 p3 q1 q2 ea0 ea1 eb0 eb1) ?_
  show own_E p e below _ s₁ (mkF m 0 #[rv a1, iv p1, iv p2, iv p3] [])
  refine own_st (fun t k => XS.aloadN X0.here hx rfl (hb hby own_d_prog_14_method_2_0) rfl rfl k) ?_
  show own_E p e below _ s₁ (mkF m 1 #[rv a1, iv p1, iv p2, iv p3] [.ref a1])
  obtain ⟨T1, X1, e1, st1⟩ := getF X0 hx hZ hown (host := "") (Or.inl (own_w hw 25 rfl)) Via.refl e0 F_size_a1 (g := (mkF m 1 #[rv a1, iv p1, iv p2, iv p3] [.ref a1])) rfl rfl (hb hby own_d_prog_14_method_2_1)
  refine own_st st1 ?_
  show own_E p e below _ T1 (mkF m 4 #[rv a1, iv p1, iv p2, iv p3] [.int 2])
  refine own_st (fun t k => XS.aloadN X1.here hx rfl (hb hby own_d_prog_14_method_2_4) rfl rfl k) ?_
  show own_E p e below _ T1 (mkF m 5 #[rv a1, iv p1, iv p2, iv p3] [.ref a1, .int 2])
  obtain ⟨T2, X2, e2, st2⟩ := getF X1 hx hZ hown (host := "") (Or.inl (own_w hw 10 rfl)) Via.refl e1 F_documents_a1 (g := (mkF m 5 #[rv a1, iv p1, iv p2, iv p3] [.ref a1, .int 2])) rfl rfl (hb hby own_d_prog_14_method_2_5)
  refine own_st st2 ?_
  show own_E p e below _ T2 (mkF m 8 #[rv a1, iv p1, iv p2, iv p3] [.ref a2, .int 2])
  refine own_st (own_alen X2 hx hZ e2 V_a2 (g := (mkF m 8 #[rv a1, iv p1, iv p2, iv p3] [.ref a2, .int 2])) rfl rfl (hb hby own_d_prog_14_method_2_8)) ?_
  show own_E p e below _ T2 (mkF m 9 #[rv a1, iv p1, iv p2, iv p3] [.int 2, .int 2])
  refine own_st (fun t k => XS.icmpNo X2.here hx rfl (hb hby own_d_prog_14_method_2_9) rfl (by decide) k) ?_
  show own_E p e below _ T2 (mkF m 12 #[rv a1, iv p1, iv p2, iv p3] [])
  refine own_st (fun t k => XS.aloadN X2.here hx rfl (hb hby own_d_prog_14_method_2_12) rfl rfl k) ?_
  show own_E p e below _ T2 (mkF m 13 #[rv a1, iv p1, iv p2, iv p3] [.ref a1])
  refine own_st (fun t k => XS.aloadN X2.here hx rfl (hb hby own_d_prog_14_method_2_13) rfl rfl k) ?_
  show own_E p e below _ T2 (mkF m 14 #[rv a1, iv p1, iv p2, iv p3] [.ref a1, .ref a1])
  obtain ⟨T3, X3, e3, st3⟩ := getF X2 hx hZ hown (host := "") (Or.inl (own_w hw 10 rfl)) Via.refl e2 F_documents_a1 (g := (mkF m 14 #[rv a1, iv p1, iv p2, iv p3] [.ref a1, .ref a1])) rfl rfl (hb hby own_d_prog_14_method_2_14)
  refine own_st st3 ?_
  show own_E p e below _ T3 (mkF m 17 #[rv a1, iv p1, iv p2, iv p3] [.ref a2, .ref a1])
  refine own_st (fun t k => XS.iconst X3.here hx rfl (hb hby own_d_prog_14_method_2_17) k) ?_
  show own_E p e below _ T3 (mkF m 18 #[rv a1, iv p1, iv p2, iv p3] [.int 2, .ref a2, .ref a1])
  refine own_st (fun t k => XS.aloadN X3.here hx rfl (hb hby own_d_prog_14_method_2_18) rfl rfl k) ?_
  show own_E p e below _ T3 (mkF m 19 #[rv a1, iv p1, iv p2, iv p3] [.ref a1, .int 2, .ref a2, .ref a1])
  obtain ⟨T4, X4, e4, st4⟩ := getF X3 hx hZ hown (host := "") (Or.inl (own_w hw 25 rfl)) Via.refl e3 F_size_a1 (g := (mkF m 19 #[rv a1, iv p1, iv p2, iv p3] [.ref a1, .int 2, .ref a2, .ref a1])) rfl rfl (hb hby own_d_prog_14_method_2_19)
  refine own_st st4 ?_
  show own_E p e below _ T4 (mkF m 22 #[rv a1, iv p1, iv p2, iv p3] [.int 2, .int 2, .ref a2, .ref a1])
  refine own_st (fun t k => XS.imul X4.here hx rfl (hb hby own_d_prog_14_method_2_22) rfl k) ?_
  show own_E p e below _ T4 (mkF m 23 #[rv a1, iv p1, iv p2, iv p3] [.int 4, .ref a2, .ref a1])
  obtain ⟨_, _, ⟨T5, L5, k5, n5⟩, -, X5, ⟨Lc5, hQ5, l5, y5, z5⟩, st5⟩ := Jvm.LawKit.callS X4 hx (y := own_y2) hown (mvT hZ (own_w hw 27 rfl)) (mvT hZ (own_w hw 28 rfl)) (mvT hZ (own_w hw 29 rfl)) (mvT hZ (own_w hw 30 rfl)) (by decide) (backOf (W := 1) (own_copy2_4 l Z a0 hw [] a2 kc1 ea0 ea1 h0 n0 Z0 E_a2 V_a2) hZ (own_w hw 30 rfl) (own_w hw 29 rfl) (by decide) (by decide)) (g := (mkF m 23 #[rv a1, iv p1, iv p2, iv p3] [.int 4, .ref a2, .ref a1])) rfl (by rw [hml]; rfl) (argsL := [(.ref a2), (.int (4 : Int32))]) (rest := [(.ref a1)]) (lenOf own_pd_6 rfl) rfl (by show 2 * 0 + _ ≤ _; exact Nat.le_of_eq rfl) (hb hby own_d_prog_14_method_2_23) (fun _ _ => ⟨rfl, e4, (by decide : 0 + 1 ≤ _), (by decide : 0 + 4 ≤ _)⟩)
  dsimp only [Pt.U, Pt.locs, Pt.cells, Pt.slots] at X5 l5 y5 z5 st5 hQ5
  subst l5 y5 z5
  obtain ⟨b5_o0, k5_o1, rfl, Nq5, Kq5, sz5_0, P5_0, P5_1⟩ := hQ5
  have N5 := Fr.app (Fr.nil n0) Nq5
  have ne_a1_b5_o0 : a1 ≠ b5_o0 := Nat.ne_of_lt (Nat.lt_of_lt_of_le E_a1.lt sz5_0)
  have ne_a2_b5_o0 : a2 ≠ b5_o0 := Nat.ne_of_lt (Nat.lt_of_lt_of_le E_a2.lt sz5_0)
  have ne_a3_b5_o0 : a3 ≠ b5_o0 := Nat.ne_of_lt (Nat.lt_of_lt_of_le E_a3.lt sz5_0)
  have g_b5_o0 : n0 ≤ b5_o0 := Nat.le_trans Z0 sz5_0
  have sz_b5_o0 : h0.size ≤ b5_o0 := Nat.le_trans (Keep.refl h0 [a1]).1 sz5_0
  have e5 : T5.heap = T5.heap := rfl
  have Z6 := Nat.le_trans Z0 Kq5.1
  have K7 : Keep h0 _ [a1] := (Keep.refl h0 [a1]).trans Kq5 all0
  refine own_st st5 ?_
  show own_E p e below _ T5 (mkF m 26 #[rv a1, iv p1, iv p2, iv p3] [.ref b5_o0, .ref a1])
  have B9 := (F_documents_a1.keep Kq5 nin0)
  have B10 := (E_a1.keep Kq5)
  obtain ⟨T8, h8, X8, e8, W8, st8⟩ := putF X5 hx hZ hown (host := "") (Or.inl (own_w hw 10 rfl)) Via.refl e5 B9 B10 (Or.inl (own_w hw 11 rfl)) (own_w hw 1 rfl) (ty := (.array .int)) (by decide) rfl rfl (g := (mkF m 26 #[rv a1, iv p1, iv p2, iv p3] [.ref b5_o0, .ref a1])) rfl rfl (hb hby own_d_prog_14_method_2_26)
  have N8 := Fr.snoc X8 N5 g_a1
  have Fw8 := B9.same W8
  have Z11 := Nat.le_trans Z6 (Keep.of_wr W8).1
  have K12 : Keep h0 _ [a1] := K7.wr W8 (Or.inl (List.mem_of_getElem? (i := 0) rfl))
  refine own_st st8 ?_
  show own_E p e below _ T8 (mkF m 29 #[rv a1, iv p1, iv p2, iv p3] [])
  refine own_st (fun t k => XS.aloadN X8.here hx rfl (hb hby own_d_prog_14_method_2_29) rfl rfl k) ?_
  show own_E p e below _ T8 (mkF m 30 #[rv a1, iv p1, iv p2, iv p3] [.ref a1])
  refine own_st (fun t k => XS.aloadN X8.here hx rfl (hb hby own_d_prog_14_method_2_30) rfl rfl k) ?_
  show own_E p e below _ T8 (mkF m 31 #[rv a1, iv p1, iv p2, iv p3] [.ref a1, .ref a1])
  have B14 := ((F_frequencies_a1.keep Kq5 nin0).other W8 (Or.inr (slot_ne (Or.inl (own_w hw 13 rfl)) (Or.inl (own_w hw 11 rfl)) (by decide) (t := (.array .int)) (t' := (.array .int)) (by decide) (by decide))))
  obtain ⟨T13, X13, e13, st13⟩ := getF X8 hx hZ hown (host := "") (Or.inl (own_w hw 12 rfl)) Via.refl e8 B14 (g := (mkF m 31 #[rv a1, iv p1, iv p2, iv p3] [.ref a1, .ref a1])) rfl rfl (hb hby own_d_prog_14_method_2_31)
  refine own_st st13 ?_
  show own_E p e below _ T13 (mkF m 34 #[rv a1, iv p1, iv p2, iv p3] [.ref a3, .ref a1])
  refine own_st (fun t k => XS.iconst X13.here hx rfl (hb hby own_d_prog_14_method_2_34) k) ?_
  show own_E p e below _ T13 (mkF m 35 #[rv a1, iv p1, iv p2, iv p3] [.int 2, .ref a3, .ref a1])
  refine own_st (fun t k => XS.aloadN X13.here hx rfl (hb hby own_d_prog_14_method_2_35) rfl rfl k) ?_
  show own_E p e below _ T13 (mkF m 36 #[rv a1, iv p1, iv p2, iv p3] [.ref a1, .int 2, .ref a3, .ref a1])
  have B16 := ((F_size_a1.keep Kq5 nin0).other W8 (Or.inr (slot_ne (Or.inl (own_w hw 26 rfl)) (Or.inl (own_w hw 11 rfl)) (by decide) (t := .int) (t' := (.array .int)) (by decide) (by decide))))
  obtain ⟨T15, X15, e15, st15⟩ := getF X13 hx hZ hown (host := "") (Or.inl (own_w hw 25 rfl)) Via.refl e13 B16 (g := (mkF m 36 #[rv a1, iv p1, iv p2, iv p3] [.ref a1, .int 2, .ref a3, .ref a1])) rfl rfl (hb hby own_d_prog_14_method_2_36)
  refine own_st st15 ?_
  show own_E p e below _ T15 (mkF m 39 #[rv a1, iv p1, iv p2, iv p3] [.int 2, .int 2, .ref a3, .ref a1])
  refine own_st (fun t k => XS.imul X15.here hx rfl (hb hby own_d_prog_14_method_2_39) rfl k) ?_
  show own_E p e below _ T15 (mkF m 40 #[rv a1, iv p1, iv p2, iv p3] [.int 4, .ref a3, .ref a1])
  have B17 := ((E_a3.keep Kq5).wr W8)
  have B18 := ((V_a3.keep Kq5 nin0).other W8 (Ne.symm ne13))
  obtain ⟨_, _, ⟨T19, L19, k19, n19⟩, -, X19, ⟨Lc19, hQ19, l19, y19, z19⟩, st19⟩ := Jvm.LawKit.callS X15 hx (y := own_y2) hown (mvT hZ (own_w hw 27 rfl)) (mvT hZ (own_w hw 28 rfl)) (mvT hZ (own_w hw 29 rfl)) (mvT hZ (own_w hw 30 rfl)) (by decide) (backOf (W := 1) (own_copy2_4 l Z a0 hw [] a3 kc2 eb0 eb1 h8 n0 Z11 B17 B18) hZ (own_w hw 30 rfl) (own_w hw 29 rfl) (by decide) (by decide)) (g := (mkF m 40 #[rv a1, iv p1, iv p2, iv p3] [.int 4, .ref a3, .ref a1])) rfl (by rw [hml]; rfl) (argsL := [(.ref a3), (.int (4 : Int32))]) (rest := [(.ref a1)]) (lenOf own_pd_6 rfl) rfl (by show 2 * 0 + _ ≤ _; exact Nat.le_of_eq rfl) (hb hby own_d_prog_14_method_2_40) (fun _ _ => ⟨rfl, e15, (by decide : 1 + 1 ≤ _), (by decide : 4 + 4 ≤ _)⟩)
  dsimp only [Pt.U, Pt.locs, Pt.cells, Pt.slots] at X19 l19 y19 z19 st19 hQ19
  subst l19 y19 z19
  obtain ⟨b19_o0, k19_o1, rfl, Nq19, Kq19, sz19_0, P19_0, P19_1⟩ := hQ19
  have N19 := Fr.app N8 Nq19
  have B20 := (B10.wr W8)
  have ne_a1_b19_o0 : a1 ≠ b19_o0 := Nat.ne_of_lt (Nat.lt_of_lt_of_le B20.lt sz19_0)
  have B21 := ((E_a2.keep Kq5).wr W8)
  have ne_a2_b19_o0 : a2 ≠ b19_o0 := Nat.ne_of_lt (Nat.lt_of_lt_of_le B21.lt sz19_0)
  have ne_a3_b19_o0 : a3 ≠ b19_o0 := Nat.ne_of_lt (Nat.lt_of_lt_of_le B17.lt sz19_0)
  have B22 := (P5_0.other W8 (Ne.symm ne_a1_b5_o0))
  have ne_b5_o0_b19_o0 : b5_o0 ≠ b19_o0 := Nat.ne_of_lt (Nat.lt_of_lt_of_le B22.lt sz19_0)
  have g_b19_o0 : n0 ≤ b19_o0 := Nat.le_trans Z11 sz19_0
  have sz_b19_o0 : h0.size ≤ b19_o0 := Nat.le_trans K12.1 sz19_0
  have e19 : T19.heap = T19.heap := rfl
  have Z23 := Nat.le_trans Z11 Kq19.1
  have K24 : Keep h0 _ [a1] := K12.trans Kq19 all0
  refine own_st st19 ?_
  show own_E p e below _ T19 (mkF m 43 #[rv a1, iv p1, iv p2, iv p3] [.ref b19_o0, .ref a1])
  have B26 := (B14.keep Kq19 nin0)
  have B27 := (B20.keep Kq19)
  obtain ⟨T25, h25, X25, e25, W25, st25⟩ := putF X19 hx hZ hown (host := "") (Or.inl (own_w hw 12 rfl)) Via.refl e19 B26 B27 (Or.inl (own_w hw 13 rfl)) (own_w hw 1 rfl) (ty := (.array .int)) (by decide) rfl rfl (g := (mkF m 43 #[rv a1, iv p1, iv p2, iv p3] [.ref b19_o0, .ref a1])) rfl rfl (hb hby own_d_prog_14_method_2_43)
  have N25 := Fr.snoc X25 N19 g_a1
  have Fw25 := B26.same W25
  have Z28 := Nat.le_trans Z23 (Keep.of_wr W25).1
  have K29 : Keep h0 _ [a1] := K24.wr W25 (Or.inl (List.mem_of_getElem? (i := 0) rfl))
  refine own_st st25 ?_
  show own_E p e below _ T25 (mkF m 46 #[rv a1, iv p1, iv p2, iv p3] [])
  refine own_st (fun t k => XS.aloadN X25.here hx rfl (hb hby own_d_prog_14_method_2_46) rfl rfl k) ?_
  show own_E p e below _ T25 (mkF m 47 #[rv a1, iv p1, iv p2, iv p3] [.ref a1])
  have B31 := ((Fw8.keep Kq19 nin0).other W25 (Or.inr (slot_ne (Or.inl (own_w hw 11 rfl)) (Or.inl (own_w hw 13 rfl)) (by decide) (t := (.array .int)) (t' := (.array .int)) (by decide) (by decide))))
  obtain ⟨T30, X30, e30, st30⟩ := getF X25 hx hZ hown (host := "") (Or.inl (own_w hw 10 rfl)) Via.refl e25 B31 (g := (mkF m 47 #[rv a1, iv p1, iv p2, iv p3] [.ref a1])) rfl rfl (hb hby own_d_prog_14_method_2_47)
  refine own_st st30 ?_
  show own_E p e below _ T30 (mkF m 50 #[rv a1, iv p1, iv p2, iv p3] [.ref b5_o0])
  refine own_st (fun t k => XS.aloadN X30.here hx rfl (hb hby own_d_prog_14_method_2_50) rfl rfl k) ?_
  show own_E p e below _ T30 (mkF m 51 #[rv a1, iv p1, iv p2, iv p3] [.ref a1, .ref b5_o0])
  have B33 := ((B16.keep Kq19 nin0).other W25 (Or.inr (slot_ne (Or.inl (own_w hw 26 rfl)) (Or.inl (own_w hw 13 rfl)) (by decide) (t := .int) (t' := (.array .int)) (by decide) (by decide))))
  obtain ⟨T32, X32, e32, st32⟩ := getF X30 hx hZ hown (host := "") (Or.inl (own_w hw 25 rfl)) Via.refl e30 B33 (g := (mkF m 51 #[rv a1, iv p1, iv p2, iv p3] [.ref a1, .ref b5_o0])) rfl rfl (hb hby own_d_prog_14_method_2_51)
  refine own_st st32 ?_
  show own_E p e below _ T32 (mkF m 54 #[rv a1, iv p1, iv p2, iv p3] [.int 2, .ref b5_o0])
  refine own_st (fun t k => XS.iloadN X32.here hx rfl (hb hby own_d_prog_14_method_2_54) rfl k) ?_
  show own_E p e below _ T32 (mkF m 55 #[rv a1, iv p1, iv p2, iv p3] [.int p1, .int 2, .ref b5_o0])
  have B34 := ((B22.keep Kq19 nin0).other W25 (Ne.symm ne_a1_b5_o0))
  obtain ⟨T35, h35, X35, e35, W35, Vw35, st35⟩ := own_ast X32 hx hZ e32 B34 (j := (2 : Int32)) ⟨by decide, by decide⟩ (x := p1) (i := 2) rfl (Nat.le_of_ble_eq_true rfl) (g := (mkF m 55 #[rv a1, iv p1, iv p2, iv p3] [.int p1, .int 2, .ref b5_o0])) rfl rfl (hb hby own_d_prog_14_method_2_55)
  have V35 : Arv Z h35 b5_o0 k5_o1 .int (4 : Int32) [(.int ea0), (.int ea1), (.int p1), (.int (0 : Int32))] (.int (0 : Int32)) := Vw35
  have N35 := Fr.snoc X35 N25 g_b5_o0
  have Z36 := Nat.le_trans Z28 (Keep.of_wr W35).1
  have K37 : Keep h0 _ [a1] := K29.wr W35 (Or.inr sz_b5_o0)
  refine own_st st35 ?_
  show own_E p e below _ T35 (mkF m 56 #[rv a1, iv p1, iv p2, iv p3] [])
  refine own_st (fun t k => XS.aloadN X35.here hx rfl (hb hby own_d_prog_14_method_2_56) rfl rfl k) ?_
  show own_E p e below _ T35 (mkF m 57 #[rv a1, iv p1, iv p2, iv p3] [.ref a1])
  have B39 := (Fw25.other W35 (Or.inl ne_a1_b5_o0))
  obtain ⟨T38, X38, e38, st38⟩ := getF X35 hx hZ hown (host := "") (Or.inl (own_w hw 12 rfl)) Via.refl e35 B39 (g := (mkF m 57 #[rv a1, iv p1, iv p2, iv p3] [.ref a1])) rfl rfl (hb hby own_d_prog_14_method_2_57)
  refine own_st st38 ?_
  show own_E p e below _ T38 (mkF m 60 #[rv a1, iv p1, iv p2, iv p3] [.ref b19_o0])
  refine own_st (fun t k => XS.aloadN X38.here hx rfl (hb hby own_d_prog_14_method_2_60) rfl rfl k) ?_
  show own_E p e below _ T38 (mkF m 61 #[rv a1, iv p1, iv p2, iv p3] [.ref a1, .ref b19_o0])
  have B41 := (B33.other W35 (Or.inl ne_a1_b5_o0))
  obtain ⟨T40, X40, e40, st40⟩ := getF X38 hx hZ hown (host := "") (Or.inl (own_w hw 25 rfl)) Via.refl e38 B41 (g := (mkF m 61 #[rv a1, iv p1, iv p2, iv p3] [.ref a1, .ref b19_o0])) rfl rfl (hb hby own_d_prog_14_method_2_61)
  refine own_st st40 ?_
  show own_E p e below _ T40 (mkF m 64 #[rv a1, iv p1, iv p2, iv p3] [.int 2, .ref b19_o0])
  refine own_st (fun t k => XS.iloadN X40.here hx rfl (hb hby own_d_prog_14_method_2_64) rfl k) ?_
  show own_E p e below _ T40 (mkF m 65 #[rv a1, iv p1, iv p2, iv p3] [.int p2, .int 2, .ref b19_o0])
  have B42 := ((P19_0.other W25 (Ne.symm ne_a1_b19_o0)).other W35 (Ne.symm ne_b5_o0_b19_o0))
  obtain ⟨T43, h43, X43, e43, W43, Vw43, st43⟩ := own_ast X40 hx hZ e40 B42 (j := (2 : Int32)) ⟨by decide, by decide⟩ (x := p2) (i := 2) rfl (Nat.le_of_ble_eq_true rfl) (g := (mkF m 65 #[rv a1, iv p1, iv p2, iv p3] [.int p2, .int 2, .ref b19_o0])) rfl rfl (hb hby own_d_prog_14_method_2_65)
  have V43 : Arv Z h43 b19_o0 k19_o1 .int (4 : Int32) [(.int eb0), (.int eb1), (.int p2), (.int (0 : Int32))] (.int (0 : Int32)) := Vw43
  have N43 := Fr.snoc X43 N35 g_b19_o0
  have Z44 := Nat.le_trans Z36 (Keep.of_wr W43).1
  have K45 : Keep h0 _ [a1] := K37.wr W43 (Or.inr sz_b19_o0)
  refine own_st st43 ?_
  show own_E p e below _ T43 (mkF m 66 #[rv a1, iv p1, iv p2, iv p3] [])
  refine own_st (fun t k => XS.aloadN X43.here hx rfl (hb hby own_d_prog_14_method_2_66) rfl rfl k) ?_
  show own_E p e below _ T43 (mkF m 67 #[rv a1, iv p1, iv p2, iv p3] [.ref a1])
  refine own_st (fun t k => XS.dup X43.here hx rfl (hb hby own_d_prog_14_method_2_67) rfl rfl k) ?_
  show own_E p e below _ T43 (mkF m 68 #[rv a1, iv p1, iv p2, iv p3] [.ref a1, .ref a1])
  have B47 := (B41.other W43 (Or.inl ne_a1_b19_o0))
  obtain ⟨T46, X46, e46, st46⟩ := getF X43 hx hZ hown (host := "") (Or.inl (own_w hw 25 rfl)) Via.refl e43 B47 (g := (mkF m 68 #[rv a1, iv p1, iv p2, iv p3] [.ref a1, .ref a1])) rfl rfl (hb hby own_d_prog_14_method_2_68)
  refine own_st st46 ?_
  show own_E p e below _ T46 (mkF m 71 #[rv a1, iv p1, iv p2, iv p3] [.int 2, .ref a1])
  refine own_st (fun t k => XS.iconst X46.here hx rfl (hb hby own_d_prog_14_method_2_71) k) ?_
  show own_E p e below _ T46 (mkF m 72 #[rv a1, iv p1, iv p2, iv p3] [.int 1, .int 2, .ref a1])
  refine own_st (fun t k => XS.iadd X46.here hx rfl (hb hby own_d_prog_14_method_2_72) rfl k) ?_
  show own_E p e below _ T46 (mkF m 73 #[rv a1, iv p1, iv p2, iv p3] [.int 3, .ref a1])
  have B49 := (((B27.wr W25).wr W35).wr W43)
  obtain ⟨T48, h48, X48, e48, W48, st48⟩ := putF X46 hx hZ hown (host := "") (Or.inl (own_w hw 25 rfl)) Via.refl e46 B47 B49 (Or.inl (own_w hw 26 rfl)) (own_w hw 1 rfl) (ty := .int) (by decide) rfl rfl (g := (mkF m 73 #[rv a1, iv p1, iv p2, iv p3] [.int 3, .ref a1])) rfl rfl (hb hby own_d_prog_14_method_2_73)
  have N48 := Fr.snoc X48 N43 g_a1
  have Fw48 := B47.same W48
  have Z50 := Nat.le_trans Z44 (Keep.of_wr W48).1
  have K51 : Keep h0 _ [a1] := K45.wr W48 (Or.inl (List.mem_of_getElem? (i := 0) rfl))
  refine own_st st48 ?_
  show own_E p e below _ T48 (mkF m 76 #[rv a1, iv p1, iv p2, iv p3] [])
  refine own_st (fun t k => XS.aloadN X48.here hx rfl (hb hby own_d_prog_14_method_2_76) rfl rfl k) ?_
  show own_E p e below _ T48 (mkF m 77 #[rv a1, iv p1, iv p2, iv p3] [.ref a1])
  refine own_st (fun t k => XS.aloadN X48.here hx rfl (hb hby own_d_prog_14_method_2_77) rfl rfl k) ?_
  show own_E p e below _ T48 (mkF m 78 #[rv a1, iv p1, iv p2, iv p3] [.ref a1, .ref a1])
  have B53 := (((((((F_maxFrequency_a1.keep Kq5 nin0).other W8 (Or.inr (slot_ne (Or.inl (own_w hw 18 rfl)) (Or.inl (own_w hw 11 rfl)) (by decide) (t := .int) (t' := (.array .int)) (by decide) (by decide)))).keep Kq19 nin0).other W25 (Or.inr (slot_ne (Or.inl (own_w hw 18 rfl)) (Or.inl (own_w hw 13 rfl)) (by decide) (t := .int) (t' := (.array .int)) (by decide) (by decide)))).other W35 (Or.inl ne_a1_b5_o0)).other W43 (Or.inl ne_a1_b19_o0)).other W48 (Or.inr (slot_ne (Or.inl (own_w hw 18 rfl)) (Or.inl (own_w hw 26 rfl)) (by decide) (t := .int) (t' := .int) (by decide) (by decide))))
  obtain ⟨T52, X52, e52, st52⟩ := getF X48 hx hZ hown (host := "") (Or.inl (own_w hw 47 rfl)) Via.refl e48 B53 (g := (mkF m 78 #[rv a1, iv p1, iv p2, iv p3] [.ref a1, .ref a1])) rfl rfl (hb hby own_d_prog_14_method_2_78)
  refine own_st st52 ?_
  show own_E p e below _ T52 (mkF m 81 #[rv a1, iv p1, iv p2, iv p3] [.int q2, .ref a1])
  refine own_st (fun t k => XS.iloadN X52.here hx rfl (hb hby own_d_prog_14_method_2_81) rfl k) ?_
  show own_E p e below _ T52 (mkF m 82 #[rv a1, iv p1, iv p2, iv p3] [.int p2, .int q2, .ref a1])
  obtain ⟨_, _, ⟨T54, L54, k54, n54⟩, -, X54, ⟨Lc54, hQ54, l54, y54, z54⟩, st54⟩ := Jvm.LawKit.callS X52 hx (y := own_y1) hown (mvT hZ (own_w hw 48 rfl)) (mvT hZ (own_w hw 49 rfl)) (mvT hZ (own_w hw 33 rfl)) (mvT hZ (own_w hw 50 rfl)) (by decide) (backOf (W := 1) (own_maxF l Z a0 hw [] q2 p2 h48 n0 Z50 ) hZ (own_w hw 50 rfl) (own_w hw 33 rfl) (by decide) (by decide)) (g := (mkF m 82 #[rv a1, iv p1, iv p2, iv p3] [.int p2, .int q2, .ref a1])) rfl (by rw [hml]; rfl) (argsL := [(.int q2), (.int p2)]) (rest := [(.ref a1)]) (lenOf own_pd_2 rfl) rfl (by show 2 * 0 + _ ≤ _; exact Nat.le_of_eq rfl) (hb hby own_d_prog_14_method_2_82) (fun _ _ => ⟨rfl, e52, (by decide : 2 + 0 ≤ _), (by decide : 8 + 0 ≤ _)⟩)
  dsimp only [Pt.U, Pt.locs, Pt.cells, Pt.slots] at X54 l54 y54 z54 st54 hQ54
  subst l54 y54 z54
  obtain ⟨rfl, e54, rfl⟩ := hQ54
  have N54 := Fr.app N48 (Fr.nil n0)
  refine own_st st54 ?_
  show own_E p e below _ T54 (mkF m 85 #[rv a1, iv p1, iv p2, iv p3] [.int (own_max q2 p2), .ref a1])
  have B56 := (B49.wr W48)
  obtain ⟨T55, h55, X55, e55, W55, st55⟩ := putF X54 hx hZ hown (host := "") (Or.inl (own_w hw 47 rfl)) Via.refl e54 B53 B56 (Or.inl (own_w hw 18 rfl)) (own_w hw 1 rfl) (ty := .int) (by decide) rfl rfl (g := (mkF m 85 #[rv a1, iv p1, iv p2, iv p3] [.int (own_max q2 p2), .ref a1])) rfl rfl (hb hby own_d_prog_14_method_2_85)
  have N55 := Fr.snoc X55 N54 g_a1
  have Fw55 := B53.same W55
  have Z57 := Nat.le_trans Z50 (Keep.of_wr W55).1
  have K58 : Keep h0 _ [a1] := K51.wr W55 (Or.inl (List.mem_of_getElem? (i := 0) rfl))
  refine own_st st55 ?_
  show own_E p e below _ T55 (mkF m 88 #[rv a1, iv p1, iv p2, iv p3] [])
  refine own_st (fun t k => XS.aloadN X55.here hx rfl (hb hby own_d_prog_14_method_2_88) rfl rfl k) ?_
  show own_E p e below _ T55 (mkF m 89 #[rv a1, iv p1, iv p2, iv p3] [.ref a1])
  refine own_st (fun t k => XS.aloadN X55.here hx rfl (hb hby own_d_prog_14_method_2_89) rfl rfl k) ?_
  show own_E p e below _ T55 (mkF m 90 #[rv a1, iv p1, iv p2, iv p3] [.ref a1, .ref a1])
  have B60 := ((((((((F_minLength_a1.keep Kq5 nin0).other W8 (Or.inr (slot_ne (Or.inl (own_w hw 16 rfl)) (Or.inl (own_w hw 11 rfl)) (by decide) (t := .int) (t' := (.array .int)) (by decide) (by decide)))).keep Kq19 nin0).other W25 (Or.inr (slot_ne (Or.inl (own_w hw 16 rfl)) (Or.inl (own_w hw 13 rfl)) (by decide) (t := .int) (t' := (.array .int)) (by decide) (by decide)))).other W35 (Or.inl ne_a1_b5_o0)).other W43 (Or.inl ne_a1_b19_o0)).other W48 (Or.inr (slot_ne (Or.inl (own_w hw 16 rfl)) (Or.inl (own_w hw 26 rfl)) (by decide) (t := .int) (t' := .int) (by decide) (by decide)))).other W55 (Or.inr (slot_ne (Or.inl (own_w hw 16 rfl)) (Or.inl (own_w hw 18 rfl)) (by decide) (t := .int) (t' := .int) (by decide) (by decide))))
  obtain ⟨T59, X59, e59, st59⟩ := getF X55 hx hZ hown (host := "") (Or.inl (own_w hw 15 rfl)) Via.refl e55 B60 (g := (mkF m 90 #[rv a1, iv p1, iv p2, iv p3] [.ref a1, .ref a1])) rfl rfl (hb hby own_d_prog_14_method_2_90)
  refine own_st st59 ?_
  show own_E p e below _ T59 (mkF m 93 #[rv a1, iv p1, iv p2, iv p3] [.int q1, .ref a1])
  refine own_st (fun t k => XS.iloadN X59.here hx rfl (hb hby own_d_prog_14_method_2_93) rfl k) ?_
  show own_E p e below _ T59 (mkF m 94 #[rv a1, iv p1, iv p2, iv p3] [.int p3, .int q1, .ref a1])
  obtain ⟨_, _, ⟨T61, L61, k61, n61⟩, -, X61, ⟨Lc61, hQ61, l61, y61, z61⟩, st61⟩ := Jvm.LawKit.callS X59 hx (y := own_y0) hown (mvT hZ (own_w hw 51 rfl)) (mvT hZ (own_w hw 32 rfl)) (mvT hZ (own_w hw 33 rfl)) (mvT hZ (own_w hw 34 rfl)) (by decide) (backOf (W := 1) (own_minF l Z a0 hw [] q1 p3 h55 n0 Z57 ) hZ (own_w hw 34 rfl) (own_w hw 33 rfl) (by decide) (by decide)) (g := (mkF m 94 #[rv a1, iv p1, iv p2, iv p3] [.int p3, .int q1, .ref a1])) rfl (by rw [hml]; rfl) (argsL := [(.int q1), (.int p3)]) (rest := [(.ref a1)]) (lenOf own_pd_2 rfl) rfl (by show 2 * 0 + _ ≤ _; exact Nat.le_of_eq rfl) (hb hby own_d_prog_14_method_2_94) (fun _ _ => ⟨rfl, e59, (by decide : 2 + 0 ≤ _), (by decide : 8 + 0 ≤ _)⟩)
  dsimp only [Pt.U, Pt.locs, Pt.cells, Pt.slots] at X61 l61 y61 z61 st61 hQ61
  subst l61 y61 z61
  obtain ⟨rfl, e61, rfl⟩ := hQ61
  have N61 := Fr.app N55 (Fr.nil n0)
  refine own_st st61 ?_
  show own_E p e below _ T61 (mkF m 97 #[rv a1, iv p1, iv p2, iv p3] [.int (own_min q1 p3), .ref a1])
  have B63 := (B56.wr W55)
  obtain ⟨T62, h62, X62, e62, W62, st62⟩ := putF X61 hx hZ hown (host := "") (Or.inl (own_w hw 15 rfl)) Via.refl e61 B60 B63 (Or.inl (own_w hw 16 rfl)) (own_w hw 1 rfl) (ty := .int) (by decide) rfl rfl (g := (mkF m 97 #[rv a1, iv p1, iv p2, iv p3] [.int (own_min q1 p3), .ref a1])) rfl rfl (hb hby own_d_prog_14_method_2_97)
  have N62 := Fr.snoc X62 N61 g_a1
  have Fw62 := B60.same W62
  have Z64 := Nat.le_trans Z57 (Keep.of_wr W62).1
  have K65 : Keep h0 _ [a1] := K58.wr W62 (Or.inl (List.mem_of_getElem? (i := 0) rfl))
  refine own_st st62 ?_
  show own_E p e below _ T62 (mkF m 100 #[rv a1, iv p1, iv p2, iv p3] [])
  refine own_retV X62 hx Bd.notSynchronized Bd.returns (hb hby own_d_prog_14_method_2_100) (by decide) (by decide) ?_
  have B66 := (B63.wr W62)
  have B67 := (((((B31.other W35 (Or.inl ne_a1_b5_o0)).other W43 (Or.inl ne_a1_b19_o0)).other W48 (Or.inr (slot_ne (Or.inl (own_w hw 11 rfl)) (Or.inl (own_w hw 26 rfl)) (by decide) (t := (.array .int)) (t' := .int) (by decide) (by decide)))).other W55 (Or.inr (slot_ne (Or.inl (own_w hw 11 rfl)) (Or.inl (own_w hw 18 rfl)) (by decide) (t := (.array .int)) (t' := .int) (by decide) (by decide)))).other W62 (Or.inr (slot_ne (Or.inl (own_w hw 11 rfl)) (Or.inl (own_w hw 16 rfl)) (by decide) (t := (.array .int)) (t' := .int) (by decide) (by decide))))
  have B68 := ((((B39.other W43 (Or.inl ne_a1_b19_o0)).other W48 (Or.inr (slot_ne (Or.inl (own_w hw 13 rfl)) (Or.inl (own_w hw 26 rfl)) (by decide) (t := (.array .int)) (t' := .int) (by decide) (by decide)))).other W55 (Or.inr (slot_ne (Or.inl (own_w hw 13 rfl)) (Or.inl (own_w hw 18 rfl)) (by decide) (t := (.array .int)) (t' := .int) (by decide) (by decide)))).other W62 (Or.inr (slot_ne (Or.inl (own_w hw 13 rfl)) (Or.inl (own_w hw 16 rfl)) (by decide) (t := (.array .int)) (t' := .int) (by decide) (by decide))))
  have B69 := (Fw55.other W62 (Or.inr (slot_ne (Or.inl (own_w hw 18 rfl)) (Or.inl (own_w hw 16 rfl)) (by decide) (t := .int) (t' := .int) (by decide) (by decide))))
  have B70 := ((Fw48.other W55 (Or.inr (slot_ne (Or.inl (own_w hw 26 rfl)) (Or.inl (own_w hw 18 rfl)) (by decide) (t := .int) (t' := .int) (by decide) (by decide)))).other W62 (Or.inr (slot_ne (Or.inl (own_w hw 26 rfl)) (Or.inl (own_w hw 16 rfl)) (by decide) (t := .int) (t' := .int) (by decide) (by decide))))
  have B71 := ((((V35.other W43 ne_b5_o0_b19_o0).other W48 (Ne.symm ne_a1_b5_o0)).other W55 (Ne.symm ne_a1_b5_o0)).other W62 (Ne.symm ne_a1_b5_o0))
  have B72 := ((((((((P5_1.wr W8).keep Kq19).wr W25).wr W35).wr W43).wr W48).wr W55).wr W62)
  have B73 := (((V43.other W48 (Ne.symm ne_a1_b19_o0)).other W55 (Ne.symm ne_a1_b19_o0)).other W62 (Ne.symm ne_a1_b19_o0))
  have B74 := ((((((P19_1.wr W25).wr W35).wr W43).wr W48).wr W55).wr W62)
  show own_add2_Q Z a1 a2 a3 kc1 kc2 p1 p2 p3 q1 q2 ea0 ea1 eb0 eb1 h0 n0 _ T62.heap _
  rw [e62]
  exact ⟨b5_o0, b19_o0, k5_o1, k19_o1, rfl, N62, K65, sz_b5_o0, sz_b19_o0, ne_b5_o0_b19_o0, B66, B67, B68, Fw62, B69, B70, B71, B72, B73, B74⟩
def own_add3_Q (Z : State) (a1 : Addr) (a2 : Addr) (a3 : Addr) (kc1 : ClassId) (kc2 : ClassId) (p1 : Int32) (p2 : Int32) (p3 : Int32) (q1 : Int32) (q2 : Int32) (ea0 : Int32) (ea1 : Int32) (ea2 : Int32) (ea3 : Int32) (eb0 : Int32) (eb1 : Int32) (eb2 : Int32) (eb3 : Int32) (h0 : Heap) (n0 : Nat) (v : Option Value) (h : Heap) (L : List Loc) : Prop := v = none ∧ Fr n0 L ∧ Keep h0 h [a1, a2, a3] ∧ Exa Z h a1 "com/example/lean_scorer/leanscorer/Postings" ∧ Fld Z h a1 "com/example/lean_scorer/leanscorer/Postings" "documents" "[I" (.ref a2) ∧ Fld Z h a1 "com/example/lean_scorer/leanscorer/Postings" "frequencies" "[I" (.ref a3) ∧ Fld Z h a1 "com/example/lean_scorer/leanscorer/Postings" "minLength" "I" (.int (own_min q1 p3)) ∧ Fld Z h a1 "com/example/lean_scorer/leanscorer/Postings" "maxFrequency" "I" (.int (own_max q2 p2)) ∧ Fld Z h a1 "com/example/lean_scorer/leanscorer/Postings" "size" "I" (.int (4 : Int32)) ∧ Arv Z h a2 kc1 .int (4 : Int32) [(.int ea0), (.int ea1), (.int ea2), (.int p1)] (.int (0 : Int32)) ∧ Exa Z h a2 "[I" ∧ Arv Z h a3 kc2 .int (4 : Int32) [(.int eb0), (.int eb1), (.int eb2), (.int p2)] (.int (0 : Int32)) ∧ Exa Z h a3 "[I"
theorem own_add3_ef (m : MethodId) (a1 : Addr) (a2 : Addr) (a3 : Addr) (kc1 : ClassId) (kc2 : ClassId) (p1 : Int32) (p2 : Int32) (p3 : Int32) (q1 : Int32) (q2 : Int32) (ea0 : Int32) (ea1 : Int32) (ea2 : Int32) (ea3 : Int32) (eb0 : Int32) (eb1 : Int32) (eb2 : Int32) (eb3 : Int32) : entryFrame m #[(.ref a1), (.int p1), (.int p2), (.int p3)] 4 = mkF m 0 #[.val (.ref a1), .val (.int p1), .val (.int p2), .val (.int p3)] [] := by first | (simp [entryFrame, mkF, argsToLocals, Value.category]; done) | rfl
set_option maxRecDepth 65536 in
set_option maxHeartbeats 40000000 in
theorem own_add3 (l : Launch) (Z : State) (a0 : Array Value) (hw : ∀ d ∈ tables_1, d.before a0 Z = true) (ws : List Jvm.Cond) (a1 : Addr) (a2 : Addr) (a3 : Addr) (kc1 : ClassId) (kc2 : ClassId) (p1 : Int32) (p2 : Int32) (p3 : Int32) (q1 : Int32) (q2 : Int32) (ea0 : Int32) (ea1 : Int32) (ea2 : Int32) (ea3 : Int32) (eb0 : Int32) (eb1 : Int32) (eb2 : Int32) (eb3 : Int32) (h0 : Heap) (n0 : Nat) (Z0 : n0 ≤ h0.size) (E_a1 : Exa Z h0 a1 "com/example/lean_scorer/leanscorer/Postings") (E_a2 : Exa Z h0 a2 "[I") (E_a3 : Exa Z h0 a3 "[I") (F_documents_a1 : Fld Z h0 a1 "com/example/lean_scorer/leanscorer/Postings" "documents" "[I" (.ref a2)) (F_frequencies_a1 : Fld Z h0 a1 "com/example/lean_scorer/leanscorer/Postings" "frequencies" "[I" (.ref a3)) (F_minLength_a1 : Fld Z h0 a1 "com/example/lean_scorer/leanscorer/Postings" "minLength" "I" (.int q1)) (F_maxFrequency_a1 : Fld Z h0 a1 "com/example/lean_scorer/leanscorer/Postings" "maxFrequency" "I" (.int q2)) (F_size_a1 : Fld Z h0 a1 "com/example/lean_scorer/leanscorer/Postings" "size" "I" (.int (3 : Int32))) (V_a2 : Arv Z h0 a2 kc1 .int (4 : Int32) [(.int ea0), (.int ea1), (.int ea2), (.int ea3)] (.int (0 : Int32))) (V_a3 : Arv Z h0 a3 kc2 .int (4 : Int32) [(.int eb0), (.int eb1), (.int eb2), (.int eb3)] (.int (0 : Int32))) (ne12 : a1 ≠ a2) (ne13 : a1 ≠ a3) (ne23 : a2 ≠ a3) (g_a1 : n0 ≤ a1) (g_a2 : n0 ≤ a2) (g_a3 : n0 ≤ a3) :
    MetFree l own_y4 (head1 (Jvm.Cond.code own_y4 prog_14_method_2_code 4 none :: ws) ({ frames := 1, cells := 0, slots := 0, locals := 14 } : Room)) (fun a U => a = #[(.ref a1), (.int p1), (.int p2), (.int p3)] ∧ Z.Warmed39 U.vm ∧ U.heap = h0) (fun _ _ _ _ _ => True) (fun _ U o U' => ∃ v L, o = .returned v ∧ own_add3_Q Z a1 a2 a3 kc1 kc2 p1 p2 p3 q1 q2 ea0 ea1 ea2 ea3 eb0 eb1 eb2 eb3 h0 n0 v U'.heap L ∧ FrameEnd U o U' L ({ frames := 1, cells := 0, slots := 0, locals := 14 } : Room).cells ({ frames := 1, cells := 0, slots := 0, locals := 14 } : Room).slots) := by
  refine MetFree.of_bodySF (plainFor_of_name own_pn_Postings) hisR ?_
  intro p e s m args below meth c s₁ Bd hml0 hP hK
  obtain ⟨rfl, hZ, hh⟩ := hP
  have hx := Bd.exec
  have hby := Bd.bytes
  have hml : c.maxLocals = 4 := hml0
  have hown : s.vm.findClass "com/example/lean_scorer/leanscorer/Postings" = some m.cls := findClass_of_methodNamed Bd.named
  have hnm := (name_of_methodNamed Bd.named Bd.method).1
  have X0 : Stand p l e ({ frames := 1, cells := 0, slots := 0, locals := 14 } : Room) s m #[(.ref a1), (.int p1), (.int p2), (.int p3)] below meth c s₁ [] 0 0 := Stand.of_body Bd
  have e0 : s₁.heap = h0 := by rw [← hh, Bd.state]; rfl
  show own_E p e below (own_K (own_add3_Q Z a1 a2 a3 kc1 kc2 p1 p2 p3 q1 q2 ea0 ea1 ea2 ea3 eb0 eb1 eb2 eb3 h0 n0) s ({ frames := 1, cells := 0, slots := 0, locals := 14 } : Room).cells ({ frames := 1, cells := 0, slots := 0, locals := 14 } : Room).slots) s₁ (entryFrame m #[(.ref a1), (.int p1), (.int p2), (.int p3)] 4)
  refine own_pre (own_add3_ef m a1 a2 a3 kc1 kc2 p1 p2 p3 q1 q2 ea0 ea1 ea2 ea3 eb0 eb1 eb2 eb3) ?_
  show own_E p e below _ s₁ (mkF m 0 #[rv a1, iv p1, iv p2, iv p3] [])
  refine own_st (fun t k => XS.aloadN X0.here hx rfl (hb hby own_d_prog_14_method_2_0) rfl rfl k) ?_
  show own_E p e below _ s₁ (mkF m 1 #[rv a1, iv p1, iv p2, iv p3] [.ref a1])
  obtain ⟨T1, X1, e1, st1⟩ := getF X0 hx hZ hown (host := "") (Or.inl (own_w hw 25 rfl)) Via.refl e0 F_size_a1 (g := (mkF m 1 #[rv a1, iv p1, iv p2, iv p3] [.ref a1])) rfl rfl (hb hby own_d_prog_14_method_2_1)
  refine own_st st1 ?_
  show own_E p e below _ T1 (mkF m 4 #[rv a1, iv p1, iv p2, iv p3] [.int 3])
  refine own_st (fun t k => XS.aloadN X1.here hx rfl (hb hby own_d_prog_14_method_2_4) rfl rfl k) ?_
  show own_E p e below _ T1 (mkF m 5 #[rv a1, iv p1, iv p2, iv p3] [.ref a1, .int 3])
  obtain ⟨T2, X2, e2, st2⟩ := getF X1 hx hZ hown (host := "") (Or.inl (own_w hw 10 rfl)) Via.refl e1 F_documents_a1 (g := (mkF m 5 #[rv a1, iv p1, iv p2, iv p3] [.ref a1, .int 3])) rfl rfl (hb hby own_d_prog_14_method_2_5)
  refine own_st st2 ?_
  show own_E p e below _ T2 (mkF m 8 #[rv a1, iv p1, iv p2, iv p3] [.ref a2, .int 3])
  refine own_st (own_alen X2 hx hZ e2 V_a2 (g := (mkF m 8 #[rv a1, iv p1, iv p2, iv p3] [.ref a2, .int 3])) rfl rfl (hb hby own_d_prog_14_method_2_8)) ?_
  show own_E p e below _ T2 (mkF m 9 #[rv a1, iv p1, iv p2, iv p3] [.int 4, .int 3])
  refine own_st (fun t k => XS.icmpYes X2.here hx rfl (pc0 := 9) (pc' := 46) rfl (hb hby own_d_prog_14_method_2_9) rfl (by decide) (by decide) (by decide) k) ?_
  show own_E p e below _ T2 (mkF m 46 #[rv a1, iv p1, iv p2, iv p3] [])
  refine own_st (fun t k => XS.aloadN X2.here hx rfl (hb hby own_d_prog_14_method_2_46) rfl rfl k) ?_
  show own_E p e below _ T2 (mkF m 47 #[rv a1, iv p1, iv p2, iv p3] [.ref a1])
  obtain ⟨T3, X3, e3, st3⟩ := getF X2 hx hZ hown (host := "") (Or.inl (own_w hw 10 rfl)) Via.refl e2 F_documents_a1 (g := (mkF m 47 #[rv a1, iv p1, iv p2, iv p3] [.ref a1])) rfl rfl (hb hby own_d_prog_14_method_2_47)
  refine own_st st3 ?_
  show own_E p e below _ T3 (mkF m 50 #[rv a1, iv p1, iv p2, iv p3] [.ref a2])
  refine own_st (fun t k => XS.aloadN X3.here hx rfl (hb hby own_d_prog_14_method_2_50) rfl rfl k) ?_
  show own_E p e below _ T3 (mkF m 51 #[rv a1, iv p1, iv p2, iv p3] [.ref a1, .ref a2])
  obtain ⟨T4, X4, e4, st4⟩ := getF X3 hx hZ hown (host := "") (Or.inl (own_w hw 25 rfl)) Via.refl e3 F_size_a1 (g := (mkF m 51 #[rv a1, iv p1, iv p2, iv p3] [.ref a1, .ref a2])) rfl rfl (hb hby own_d_prog_14_method_2_51)
  refine own_st st4 ?_
  show own_E p e below _ T4 (mkF m 54 #[rv a1, iv p1, iv p2, iv p3] [.int 3, .ref a2])
  refine own_st (fun t k => XS.iloadN X4.here hx rfl (hb hby own_d_prog_14_method_2_54) rfl k) ?_
  show own_E p e below _ T4 (mkF m 55 #[rv a1, iv p1, iv p2, iv p3] [.int p1, .int 3, .ref a2])
  obtain ⟨T5, h5, X5, e5, W5, Vw5, st5⟩ := own_ast X4 hx hZ e4 V_a2 (j := (3 : Int32)) ⟨by decide, by decide⟩ (x := p1) (i := 3) rfl (Nat.le_of_ble_eq_true rfl) (g := (mkF m 55 #[rv a1, iv p1, iv p2, iv p3] [.int p1, .int 3, .ref a2])) rfl rfl (hb hby own_d_prog_14_method_2_55)
  have V5 : Arv Z h5 a2 kc1 .int (4 : Int32) [(.int ea0), (.int ea1), (.int ea2), (.int p1)] (.int (0 : Int32)) := Vw5
  have N5 := Fr.snoc X5 (Fr.nil n0) g_a2
  have Z6 := Nat.le_trans Z0 (Keep.of_wr W5).1
  have K7 : Keep h0 _ [a1, a2, a3] := (Keep.refl h0 [a1, a2, a3]).wr W5 (Or.inl (List.mem_of_getElem? (i := 1) rfl))
  refine own_st st5 ?_
  show own_E p e below _ T5 (mkF m 56 #[rv a1, iv p1, iv p2, iv p3] [])
  refine own_st (fun t k => XS.aloadN X5.here hx rfl (hb hby own_d_prog_14_method_2_56) rfl rfl k) ?_
  show own_E p e below _ T5 (mkF m 57 #[rv a1, iv p1, iv p2, iv p3] [.ref a1])
  have B9 := (F_frequencies_a1.other W5 (Or.inl ne12))
  obtain ⟨T8, X8, e8, st8⟩ := getF X5 hx hZ hown (host := "") (Or.inl (own_w hw 12 rfl)) Via.refl e5 B9 (g := (mkF m 57 #[rv a1, iv p1, iv p2, iv p3] [.ref a1])) rfl rfl (hb hby own_d_prog_14_method_2_57)
  refine own_st st8 ?_
  show own_E p e below _ T8 (mkF m 60 #[rv a1, iv p1, iv p2, iv p3] [.ref a3])
  refine own_st (fun t k => XS.aloadN X8.here hx rfl (hb hby own_d_prog_14_method_2_60) rfl rfl k) ?_
  show own_E p e below _ T8 (mkF m 61 #[rv a1, iv p1, iv p2, iv p3] [.ref a1, .ref a3])
  have B11 := (F_size_a1.other W5 (Or.inl ne12))
  obtain ⟨T10, X10, e10, st10⟩ := getF X8 hx hZ hown (host := "") (Or.inl (own_w hw 25 rfl)) Via.refl e8 B11 (g := (mkF m 61 #[rv a1, iv p1, iv p2, iv p3] [.ref a1, .ref a3])) rfl rfl (hb hby own_d_prog_14_method_2_61)
  refine own_st st10 ?_
  show own_E p e below _ T10 (mkF m 64 #[rv a1, iv p1, iv p2, iv p3] [.int 3, .ref a3])
  refine own_st (fun t k => XS.iloadN X10.here hx rfl (hb hby own_d_prog_14_method_2_64) rfl k) ?_
  show own_E p e below _ T10 (mkF m 65 #[rv a1, iv p1, iv p2, iv p3] [.int p2, .int 3, .ref a3])
  have B12 := (V_a3.other W5 (Ne.symm ne23))
  obtain ⟨T13, h13, X13, e13, W13, Vw13, st13⟩ := own_ast X10 hx hZ e10 B12 (j := (3 : Int32)) ⟨by decide, by decide⟩ (x := p2) (i := 3) rfl (Nat.le_of_ble_eq_true rfl) (g := (mkF m 65 #[rv a1, iv p1, iv p2, iv p3] [.int p2, .int 3, .ref a3])) rfl rfl (hb hby own_d_prog_14_method_2_65)
  have V13 : Arv Z h13 a3 kc2 .int (4 : Int32) [(.int eb0), (.int eb1), (.int eb2), (.int p2)] (.int (0 : Int32)) := Vw13
  have N13 := Fr.snoc X13 N5 g_a3
  have Z14 := Nat.le_trans Z6 (Keep.of_wr W13).1
  have K15 : Keep h0 _ [a1, a2, a3] := K7.wr W13 (Or.inl (List.mem_of_getElem? (i := 2) rfl))
  refine own_st st13 ?_
  show own_E p e below _ T13 (mkF m 66 #[rv a1, iv p1, iv p2, iv p3] [])
  refine own_st (fun t k => XS.aloadN X13.here hx rfl (hb hby own_d_prog_14_method_2_66) rfl rfl k) ?_
  show own_E p e below _ T13 (mkF m 67 #[rv a1, iv p1, iv p2, iv p3] [.ref a1])
  refine own_st (fun t k => XS.dup X13.here hx rfl (hb hby own_d_prog_14_method_2_67) rfl rfl k) ?_
  show own_E p e below _ T13 (mkF m 68 #[rv a1, iv p1, iv p2, iv p3] [.ref a1, .ref a1])
  have B17 := (B11.other W13 (Or.inl ne13))
  obtain ⟨T16, X16, e16, st16⟩ := getF X13 hx hZ hown (host := "") (Or.inl (own_w hw 25 rfl)) Via.refl e13 B17 (g := (mkF m 68 #[rv a1, iv p1, iv p2, iv p3] [.ref a1, .ref a1])) rfl rfl (hb hby own_d_prog_14_method_2_68)
  refine own_st st16 ?_
  show own_E p e below _ T16 (mkF m 71 #[rv a1, iv p1, iv p2, iv p3] [.int 3, .ref a1])
  refine own_st (fun t k => XS.iconst X16.here hx rfl (hb hby own_d_prog_14_method_2_71) k) ?_
  show own_E p e below _ T16 (mkF m 72 #[rv a1, iv p1, iv p2, iv p3] [.int 1, .int 3, .ref a1])
  refine own_st (fun t k => XS.iadd X16.here hx rfl (hb hby own_d_prog_14_method_2_72) rfl k) ?_
  show own_E p e below _ T16 (mkF m 73 #[rv a1, iv p1, iv p2, iv p3] [.int 4, .ref a1])
  have B19 := ((E_a1.wr W5).wr W13)
  obtain ⟨T18, h18, X18, e18, W18, st18⟩ := putF X16 hx hZ hown (host := "") (Or.inl (own_w hw 25 rfl)) Via.refl e16 B17 B19 (Or.inl (own_w hw 26 rfl)) (own_w hw 1 rfl) (ty := .int) (by decide) rfl rfl (g := (mkF m 73 #[rv a1, iv p1, iv p2, iv p3] [.int 4, .ref a1])) rfl rfl (hb hby own_d_prog_14_method_2_73)
  have N18 := Fr.snoc X18 N13 g_a1
  have Fw18 := B17.same W18
  have Z20 := Nat.le_trans Z14 (Keep.of_wr W18).1
  have K21 : Keep h0 _ [a1, a2, a3] := K15.wr W18 (Or.inl (List.mem_of_getElem? (i := 0) rfl))
  refine own_st st18 ?_
  show own_E p e below _ T18 (mkF m 76 #[rv a1, iv p1, iv p2, iv p3] [])
  refine own_st (fun t k => XS.aloadN X18.here hx rfl (hb hby own_d_prog_14_method_2_76) rfl rfl k) ?_
  show own_E p e below _ T18 (mkF m 77 #[rv a1, iv p1, iv p2, iv p3] [.ref a1])
  refine own_st (fun t k => XS.aloadN X18.here hx rfl (hb hby own_d_prog_14_method_2_77) rfl rfl k) ?_
  show own_E p e below _ T18 (mkF m 78 #[rv a1, iv p1, iv p2, iv p3] [.ref a1, .ref a1])
  have B23 := (((F_maxFrequency_a1.other W5 (Or.inl ne12)).other W13 (Or.inl ne13)).other W18 (Or.inr (slot_ne (Or.inl (own_w hw 18 rfl)) (Or.inl (own_w hw 26 rfl)) (by decide) (t := .int) (t' := .int) (by decide) (by decide))))
  obtain ⟨T22, X22, e22, st22⟩ := getF X18 hx hZ hown (host := "") (Or.inl (own_w hw 47 rfl)) Via.refl e18 B23 (g := (mkF m 78 #[rv a1, iv p1, iv p2, iv p3] [.ref a1, .ref a1])) rfl rfl (hb hby own_d_prog_14_method_2_78)
  refine own_st st22 ?_
  show own_E p e below _ T22 (mkF m 81 #[rv a1, iv p1, iv p2, iv p3] [.int q2, .ref a1])
  refine own_st (fun t k => XS.iloadN X22.here hx rfl (hb hby own_d_prog_14_method_2_81) rfl k) ?_
  show own_E p e below _ T22 (mkF m 82 #[rv a1, iv p1, iv p2, iv p3] [.int p2, .int q2, .ref a1])
  obtain ⟨_, _, ⟨T24, L24, k24, n24⟩, -, X24, ⟨Lc24, hQ24, l24, y24, z24⟩, st24⟩ := Jvm.LawKit.callS X22 hx (y := own_y1) hown (mvT hZ (own_w hw 48 rfl)) (mvT hZ (own_w hw 49 rfl)) (mvT hZ (own_w hw 33 rfl)) (mvT hZ (own_w hw 50 rfl)) (by decide) (backOf (W := 1) (own_maxF l Z a0 hw [] q2 p2 h18 n0 Z20 ) hZ (own_w hw 50 rfl) (own_w hw 33 rfl) (by decide) (by decide)) (g := (mkF m 82 #[rv a1, iv p1, iv p2, iv p3] [.int p2, .int q2, .ref a1])) rfl (by rw [hml]; rfl) (argsL := [(.int q2), (.int p2)]) (rest := [(.ref a1)]) (lenOf own_pd_2 rfl) rfl (by show 2 * 0 + _ ≤ _; exact Nat.le_of_eq rfl) (hb hby own_d_prog_14_method_2_82) (fun _ _ => ⟨rfl, e22, (by decide : 0 + 0 ≤ _), (by decide : 0 + 0 ≤ _)⟩)
  dsimp only [Pt.U, Pt.locs, Pt.cells, Pt.slots] at X24 l24 y24 z24 st24 hQ24
  subst l24 y24 z24
  obtain ⟨rfl, e24, rfl⟩ := hQ24
  have N24 := Fr.app N18 (Fr.nil n0)
  refine own_st st24 ?_
  show own_E p e below _ T24 (mkF m 85 #[rv a1, iv p1, iv p2, iv p3] [.int (own_max q2 p2), .ref a1])
  have B26 := (B19.wr W18)
  obtain ⟨T25, h25, X25, e25, W25, st25⟩ := putF X24 hx hZ hown (host := "") (Or.inl (own_w hw 47 rfl)) Via.refl e24 B23 B26 (Or.inl (own_w hw 18 rfl)) (own_w hw 1 rfl) (ty := .int) (by decide) rfl rfl (g := (mkF m 85 #[rv a1, iv p1, iv p2, iv p3] [.int (own_max q2 p2), .ref a1])) rfl rfl (hb hby own_d_prog_14_method_2_85)
  have N25 := Fr.snoc X25 N24 g_a1
  have Fw25 := B23.same W25
  have Z27 := Nat.le_trans Z20 (Keep.of_wr W25).1
  have K28 : Keep h0 _ [a1, a2, a3] := K21.wr W25 (Or.inl (List.mem_of_getElem? (i := 0) rfl))
  refine own_st st25 ?_
  show own_E p e below _ T25 (mkF m 88 #[rv a1, iv p1, iv p2, iv p3] [])
  refine own_st (fun t k => XS.aloadN X25.here hx rfl (hb hby own_d_prog_14_method_2_88) rfl rfl k) ?_
  show own_E p e below _ T25 (mkF m 89 #[rv a1, iv p1, iv p2, iv p3] [.ref a1])
  refine own_st (fun t k => XS.aloadN X25.here hx rfl (hb hby own_d_prog_14_method_2_89) rfl rfl k) ?_
  show own_E p e below _ T25 (mkF m 90 #[rv a1, iv p1, iv p2, iv p3] [.ref a1, .ref a1])
  have B30 := ((((F_minLength_a1.other W5 (Or.inl ne12)).other W13 (Or.inl ne13)).other W18 (Or.inr (slot_ne (Or.inl (own_w hw 16 rfl)) (Or.inl (own_w hw 26 rfl)) (by decide) (t := .int) (t' := .int) (by decide) (by decide)))).other W25 (Or.inr (slot_ne (Or.inl (own_w hw 16 rfl)) (Or.inl (own_w hw 18 rfl)) (by decide) (t := .int) (t' := .int) (by decide) (by decide))))
  obtain ⟨T29, X29, e29, st29⟩ := getF X25 hx hZ hown (host := "") (Or.inl (own_w hw 15 rfl)) Via.refl e25 B30 (g := (mkF m 90 #[rv a1, iv p1, iv p2, iv p3] [.ref a1, .ref a1])) rfl rfl (hb hby own_d_prog_14_method_2_90)
  refine own_st st29 ?_
  show own_E p e below _ T29 (mkF m 93 #[rv a1, iv p1, iv p2, iv p3] [.int q1, .ref a1])
  refine own_st (fun t k => XS.iloadN X29.here hx rfl (hb hby own_d_prog_14_method_2_93) rfl k) ?_
  show own_E p e below _ T29 (mkF m 94 #[rv a1, iv p1, iv p2, iv p3] [.int p3, .int q1, .ref a1])
  obtain ⟨_, _, ⟨T31, L31, k31, n31⟩, -, X31, ⟨Lc31, hQ31, l31, y31, z31⟩, st31⟩ := Jvm.LawKit.callS X29 hx (y := own_y0) hown (mvT hZ (own_w hw 51 rfl)) (mvT hZ (own_w hw 32 rfl)) (mvT hZ (own_w hw 33 rfl)) (mvT hZ (own_w hw 34 rfl)) (by decide) (backOf (W := 1) (own_minF l Z a0 hw [] q1 p3 h25 n0 Z27 ) hZ (own_w hw 34 rfl) (own_w hw 33 rfl) (by decide) (by decide)) (g := (mkF m 94 #[rv a1, iv p1, iv p2, iv p3] [.int p3, .int q1, .ref a1])) rfl (by rw [hml]; rfl) (argsL := [(.int q1), (.int p3)]) (rest := [(.ref a1)]) (lenOf own_pd_2 rfl) rfl (by show 2 * 0 + _ ≤ _; exact Nat.le_of_eq rfl) (hb hby own_d_prog_14_method_2_94) (fun _ _ => ⟨rfl, e29, (by decide : 0 + 0 ≤ _), (by decide : 0 + 0 ≤ _)⟩)
  dsimp only [Pt.U, Pt.locs, Pt.cells, Pt.slots] at X31 l31 y31 z31 st31 hQ31
  subst l31 y31 z31
  obtain ⟨rfl, e31, rfl⟩ := hQ31
  have N31 := Fr.app N25 (Fr.nil n0)
  refine own_st st31 ?_
  show own_E p e below _ T31 (mkF m 97 #[rv a1, iv p1, iv p2, iv p3] [.int (own_min q1 p3), .ref a1])
  have B33 := (B26.wr W25)
  obtain ⟨T32, h32, X32, e32, W32, st32⟩ := putF X31 hx hZ hown (host := "") (Or.inl (own_w hw 15 rfl)) Via.refl e31 B30 B33 (Or.inl (own_w hw 16 rfl)) (own_w hw 1 rfl) (ty := .int) (by decide) rfl rfl (g := (mkF m 97 #[rv a1, iv p1, iv p2, iv p3] [.int (own_min q1 p3), .ref a1])) rfl rfl (hb hby own_d_prog_14_method_2_97)
  have N32 := Fr.snoc X32 N31 g_a1
  have Fw32 := B30.same W32
  have Z34 := Nat.le_trans Z27 (Keep.of_wr W32).1
  have K35 : Keep h0 _ [a1, a2, a3] := K28.wr W32 (Or.inl (List.mem_of_getElem? (i := 0) rfl))
  refine own_st st32 ?_
  show own_E p e below _ T32 (mkF m 100 #[rv a1, iv p1, iv p2, iv p3] [])
  refine own_retV X32 hx Bd.notSynchronized Bd.returns (hb hby own_d_prog_14_method_2_100) (by decide) (by decide) ?_
  have B36 := (B33.wr W32)
  have B37 := (((((F_documents_a1.other W5 (Or.inl ne12)).other W13 (Or.inl ne13)).other W18 (Or.inr (slot_ne (Or.inl (own_w hw 11 rfl)) (Or.inl (own_w hw 26 rfl)) (by decide) (t := (.array .int)) (t' := .int) (by decide) (by decide)))).other W25 (Or.inr (slot_ne (Or.inl (own_w hw 11 rfl)) (Or.inl (own_w hw 18 rfl)) (by decide) (t := (.array .int)) (t' := .int) (by decide) (by decide)))).other W32 (Or.inr (slot_ne (Or.inl (own_w hw 11 rfl)) (Or.inl (own_w hw 16 rfl)) (by decide) (t := (.array .int)) (t' := .int) (by decide) (by decide))))
  have B38 := ((((B9.other W13 (Or.inl ne13)).other W18 (Or.inr (slot_ne (Or.inl (own_w hw 13 rfl)) (Or.inl (own_w hw 26 rfl)) (by decide) (t := (.array .int)) (t' := .int) (by decide) (by decide)))).other W25 (Or.inr (slot_ne (Or.inl (own_w hw 13 rfl)) (Or.inl (own_w hw 18 rfl)) (by decide) (t := (.array .int)) (t' := .int) (by decide) (by decide)))).other W32 (Or.inr (slot_ne (Or.inl (own_w hw 13 rfl)) (Or.inl (own_w hw 16 rfl)) (by decide) (t := (.array .int)) (t' := .int) (by decide) (by decide))))
  have B39 := (Fw25.other W32 (Or.inr (slot_ne (Or.inl (own_w hw 18 rfl)) (Or.inl (own_w hw 16 rfl)) (by decide) (t := .int) (t' := .int) (by decide) (by decide))))
  have B40 := ((Fw18.other W25 (Or.inr (slot_ne (Or.inl (own_w hw 26 rfl)) (Or.inl (own_w hw 18 rfl)) (by decide) (t := .int) (t' := .int) (by decide) (by decide)))).other W32 (Or.inr (slot_ne (Or.inl (own_w hw 26 rfl)) (Or.inl (own_w hw 16 rfl)) (by decide) (t := .int) (t' := .int) (by decide) (by decide))))
  have B41 := ((((V5.other W13 ne23).other W18 (Ne.symm ne12)).other W25 (Ne.symm ne12)).other W32 (Ne.symm ne12))
  have B42 := (((((E_a2.wr W5).wr W13).wr W18).wr W25).wr W32)
  have B43 := (((V13.other W18 (Ne.symm ne13)).other W25 (Ne.symm ne13)).other W32 (Ne.symm ne13))
  have B44 := (((((E_a3.wr W5).wr W13).wr W18).wr W25).wr W32)
  show own_add3_Q Z a1 a2 a3 kc1 kc2 p1 p2 p3 q1 q2 ea0 ea1 ea2 ea3 eb0 eb1 eb2 eb3 h0 n0 _ T32.heap _
  rw [e32]
  exact ⟨rfl, N32, K35, B36, B37, B38, Fw32, B39, B40, B41, B42, B43, B44⟩
theorem own_d_prog_14_method_5_0 : decode prog_14_method_5_code 0 = .ok (.aload_n 0, 1) := by decide +kernel
theorem own_d_prog_14_method_5_1 : decode prog_14_method_5_code 1 = .ok (.aload_n 0, 1) := by decide +kernel
theorem own_d_prog_14_method_5_2 : decode prog_14_method_5_code 2 = .ok (.getfield 7, 3) := by decide +kernel
theorem own_d_prog_14_method_5_5 : decode prog_14_method_5_code 5 = .ok (.aload_n 0, 1) := by decide +kernel
theorem own_d_prog_14_method_5_6 : decode prog_14_method_5_code 6 = .ok (.getfield 23, 3) := by decide +kernel
theorem own_d_prog_14_method_5_9 : decode prog_14_method_5_code 9 = .ok (.invokestatic 26, 3) := by decide +kernel
theorem own_d_prog_14_method_5_12 : decode prog_14_method_5_code 12 = .ok (.putfield 7, 3) := by decide +kernel
theorem own_d_prog_14_method_5_15 : decode prog_14_method_5_code 15 = .ok (.aload_n 0, 1) := by decide +kernel
theorem own_d_prog_14_method_5_16 : decode prog_14_method_5_code 16 = .ok (.aload_n 0, 1) := by decide +kernel
theorem own_d_prog_14_method_5_17 : decode prog_14_method_5_code 17 = .ok (.getfield 13, 3) := by decide +kernel
theorem own_d_prog_14_method_5_20 : decode prog_14_method_5_code 20 = .ok (.aload_n 0, 1) := by decide +kernel
theorem own_d_prog_14_method_5_21 : decode prog_14_method_5_code 21 = .ok (.getfield 23, 3) := by decide +kernel
theorem own_d_prog_14_method_5_24 : decode prog_14_method_5_code 24 = .ok (.invokestatic 26, 3) := by decide +kernel
theorem own_d_prog_14_method_5_27 : decode prog_14_method_5_code 27 = .ok (.putfield 13, 3) := by decide +kernel
theorem own_d_prog_14_method_5_30 : decode prog_14_method_5_code 30 = .ok (.return_, 1) := by decide +kernel
def own_trim0_Q (Z : State) (a1 : Addr) (a2 : Addr) (a3 : Addr) (kc1 : ClassId) (kc2 : ClassId) (q1 : Int32) (q2 : Int32) (ea0 : Int32) (eb0 : Int32) (h0 : Heap) (n0 : Nat) (v : Option Value) (h : Heap) (L : List Loc) : Prop := ∃ (o0 : Addr), ∃ (o1 : Addr), ∃ (o2 : ClassId), ∃ (o3 : ClassId), v = none ∧ Fr n0 L ∧ Keep h0 h [a1] ∧ h0.size ≤ o0 ∧ h0.size ≤ o1 ∧ o0 ≠ o1 ∧ Exa Z h a1 "com/example/lean_scorer/leanscorer/Postings" ∧ Fld Z h a1 "com/example/lean_scorer/leanscorer/Postings" "documents" "[I" (.ref o0) ∧ Fld Z h a1 "com/example/lean_scorer/leanscorer/Postings" "frequencies" "[I" (.ref o1) ∧ Fld Z h a1 "com/example/lean_scorer/leanscorer/Postings" "minLength" "I" (.int q1) ∧ Fld Z h a1 "com/example/lean_scorer/leanscorer/Postings" "maxFrequency" "I" (.int q2) ∧ Fld Z h a1 "com/example/lean_scorer/leanscorer/Postings" "size" "I" (.int (0 : Int32)) ∧ Arv Z h o0 o2 .int (0 : Int32) [] (.int (0 : Int32)) ∧ Exa Z h o0 "[I" ∧ Arv Z h o1 o3 .int (0 : Int32) [] (.int (0 : Int32)) ∧ Exa Z h o1 "[I"
abbrev own_y5 : MethodName := ⟨"com/example/lean_scorer/leanscorer/Postings", "trim", "()V"⟩
theorem own_trim0_ef (m : MethodId) (a1 : Addr) (a2 : Addr) (a3 : Addr) (kc1 : ClassId) (kc2 : ClassId) (q1 : Int32) (q2 : Int32) (ea0 : Int32) (eb0 : Int32) : entryFrame m #[(.ref a1)] 1 = mkF m 0 #[.val (.ref a1)] [] := by first | (simp [entryFrame, mkF, argsToLocals, Value.category]; done) | rfl
set_option maxRecDepth 65536 in
set_option maxHeartbeats 40000000 in
theorem own_trim0 (l : Launch) (Z : State) (a0 : Array Value) (hw : ∀ d ∈ tables_1, d.before a0 Z = true) (ws : List Jvm.Cond) (a1 : Addr) (a2 : Addr) (a3 : Addr) (kc1 : ClassId) (kc2 : ClassId) (q1 : Int32) (q2 : Int32) (ea0 : Int32) (eb0 : Int32) (h0 : Heap) (n0 : Nat) (Z0 : n0 ≤ h0.size) (E_a1 : Exa Z h0 a1 "com/example/lean_scorer/leanscorer/Postings") (E_a2 : Exa Z h0 a2 "[I") (E_a3 : Exa Z h0 a3 "[I") (F_documents_a1 : Fld Z h0 a1 "com/example/lean_scorer/leanscorer/Postings" "documents" "[I" (.ref a2)) (F_frequencies_a1 : Fld Z h0 a1 "com/example/lean_scorer/leanscorer/Postings" "frequencies" "[I" (.ref a3)) (F_minLength_a1 : Fld Z h0 a1 "com/example/lean_scorer/leanscorer/Postings" "minLength" "I" (.int q1)) (F_maxFrequency_a1 : Fld Z h0 a1 "com/example/lean_scorer/leanscorer/Postings" "maxFrequency" "I" (.int q2)) (F_size_a1 : Fld Z h0 a1 "com/example/lean_scorer/leanscorer/Postings" "size" "I" (.int (0 : Int32))) (V_a2 : Arv Z h0 a2 kc1 .int (1 : Int32) [(.int ea0)] (.int (0 : Int32))) (V_a3 : Arv Z h0 a3 kc2 .int (1 : Int32) [(.int eb0)] (.int (0 : Int32))) (ne12 : a1 ≠ a2) (ne13 : a1 ≠ a3) (ne23 : a2 ≠ a3) (g_a1 : n0 ≤ a1) :
    MetFree l own_y5 (head1 (Jvm.Cond.code own_y5 prog_14_method_5_code 1 none :: ws) ({ frames := 2, cells := 2, slots := 0, locals := 55 } : Room)) (fun a U => a = #[(.ref a1)] ∧ Z.Warmed39 U.vm ∧ U.heap = h0) (fun _ _ _ _ _ => True) (fun _ U o U' => ∃ v L, o = .returned v ∧ own_trim0_Q Z a1 a2 a3 kc1 kc2 q1 q2 ea0 eb0 h0 n0 v U'.heap L ∧ FrameEnd U o U' L ({ frames := 2, cells := 2, slots := 0, locals := 55 } : Room).cells ({ frames := 2, cells := 2, slots := 0, locals := 55 } : Room).slots) := by
  refine MetFree.of_bodySF (plainFor_of_name own_pn_Postings) hisR ?_
  intro p e s m args below meth c s₁ Bd hml0 hP hK
  obtain ⟨rfl, hZ, hh⟩ := hP
  have hx := Bd.exec
  have hby := Bd.bytes
  have hml : c.maxLocals = 1 := hml0
  have hown : s.vm.findClass "com/example/lean_scorer/leanscorer/Postings" = some m.cls := findClass_of_methodNamed Bd.named
  have hnm := (name_of_methodNamed Bd.named Bd.method).1
  have X0 : Stand p l e ({ frames := 2, cells := 2, slots := 0, locals := 55 } : Room) s m #[(.ref a1)] below meth c s₁ [] 0 0 := Stand.of_body Bd
  have e0 : s₁.heap = h0 := by rw [← hh, Bd.state]; rfl
  show own_E p e below (own_K (own_trim0_Q Z a1 a2 a3 kc1 kc2 q1 q2 ea0 eb0 h0 n0) s ({ frames := 2, cells := 2, slots := 0, locals := 55 } : Room).cells ({ frames := 2, cells := 2, slots := 0, locals := 55 } : Room).slots) s₁ (entryFrame m #[(.ref a1)] 1)
  refine own_pre (own_trim0_ef m a1 a2 a3 kc1 kc2 q1 q2 ea0 eb0) ?_
  show own_E p e below _ s₁ (mkF m 0 #[rv a1] [])
  refine own_st (fun t k => XS.aloadN X0.here hx rfl (hb hby own_d_prog_14_method_5_0) rfl rfl k) ?_
  show own_E p e below _ s₁ (mkF m 1 #[rv a1] [.ref a1])
  refine own_st (fun t k => XS.aloadN X0.here hx rfl (hb hby own_d_prog_14_method_5_1) rfl rfl k) ?_
  show own_E p e below _ s₁ (mkF m 2 #[rv a1] [.ref a1, .ref a1])
  obtain ⟨T1, X1, e1, st1⟩ := getF X0 hx hZ hown (host := "") (Or.inl (own_w hw 10 rfl)) Via.refl e0 F_documents_a1 (g := (mkF m 2 #[rv a1] [.ref a1, .ref a1])) rfl rfl (hb hby own_d_prog_14_method_5_2)
  refine own_st st1 ?_
  show own_E p e below _ T1 (mkF m 5 #[rv a1] [.ref a2, .ref a1])
  refine own_st (fun t k => XS.aloadN X1.here hx rfl (hb hby own_d_prog_14_method_5_5) rfl rfl k) ?_
  show own_E p e below _ T1 (mkF m 6 #[rv a1] [.ref a1, .ref a2, .ref a1])
  obtain ⟨T2, X2, e2, st2⟩ := getF X1 hx hZ hown (host := "") (Or.inl (own_w hw 25 rfl)) Via.refl e1 F_size_a1 (g := (mkF m 6 #[rv a1] [.ref a1, .ref a2, .ref a1])) rfl rfl (hb hby own_d_prog_14_method_5_6)
  refine own_st st2 ?_
  show own_E p e below _ T2 (mkF m 9 #[rv a1] [.int 0, .ref a2, .ref a1])
  obtain ⟨_, _, ⟨T3, L3, k3, n3⟩, -, X3, ⟨Lc3, hQ3, l3, y3, z3⟩, st3⟩ := Jvm.LawKit.callS X2 hx (y := own_y2) hown (mvT hZ (own_w hw 27 rfl)) (mvT hZ (own_w hw 28 rfl)) (mvT hZ (own_w hw 29 rfl)) (mvT hZ (own_w hw 30 rfl)) (by decide) (backOf (W := 1) (own_copy1_0 l Z a0 hw [] a2 kc1 ea0 h0 n0 Z0 E_a2 V_a2) hZ (own_w hw 30 rfl) (own_w hw 29 rfl) (by decide) (by decide)) (g := (mkF m 9 #[rv a1] [.int 0, .ref a2, .ref a1])) rfl (by rw [hml]; rfl) (argsL := [(.ref a2), (.int (0 : Int32))]) (rest := [(.ref a1)]) (lenOf own_pd_6 rfl) rfl (by show 2 * 0 + _ ≤ _; exact Nat.le_of_eq rfl) (hb hby own_d_prog_14_method_5_9) (fun _ _ => ⟨rfl, e2, (by decide : 0 + 1 ≤ _), (by decide : 0 + 0 ≤ _)⟩)
  dsimp only [Pt.U, Pt.locs, Pt.cells, Pt.slots] at X3 l3 y3 z3 st3 hQ3
  subst l3 y3 z3
  obtain ⟨b3_o0, k3_o1, rfl, Nq3, Kq3, sz3_0, P3_0, P3_1⟩ := hQ3
  have N3 := Fr.app (Fr.nil n0) Nq3
  have ne_a1_b3_o0 : a1 ≠ b3_o0 := Nat.ne_of_lt (Nat.lt_of_lt_of_le E_a1.lt sz3_0)
  have ne_a2_b3_o0 : a2 ≠ b3_o0 := Nat.ne_of_lt (Nat.lt_of_lt_of_le E_a2.lt sz3_0)
  have ne_a3_b3_o0 : a3 ≠ b3_o0 := Nat.ne_of_lt (Nat.lt_of_lt_of_le E_a3.lt sz3_0)
  have g_b3_o0 : n0 ≤ b3_o0 := Nat.le_trans Z0 sz3_0
  have sz_b3_o0 : h0.size ≤ b3_o0 := Nat.le_trans (Keep.refl h0 [a1]).1 sz3_0
  have e3 : T3.heap = T3.heap := rfl
  have Z4 := Nat.le_trans Z0 Kq3.1
  have K5 : Keep h0 _ [a1] := (Keep.refl h0 [a1]).trans Kq3 all0
  refine own_st st3 ?_
  show own_E p e below _ T3 (mkF m 12 #[rv a1] [.ref b3_o0, .ref a1])
  have B7 := (F_documents_a1.keep Kq3 nin0)
  have B8 := (E_a1.keep Kq3)
  obtain ⟨T6, h6, X6, e6, W6, st6⟩ := putF X3 hx hZ hown (host := "") (Or.inl (own_w hw 10 rfl)) Via.refl e3 B7 B8 (Or.inl (own_w hw 11 rfl)) (own_w hw 1 rfl) (ty := (.array .int)) (by decide) rfl rfl (g := (mkF m 12 #[rv a1] [.ref b3_o0, .ref a1])) rfl rfl (hb hby own_d_prog_14_method_5_12)
  have N6 := Fr.snoc X6 N3 g_a1
  have Fw6 := B7.same W6
  have Z9 := Nat.le_trans Z4 (Keep.of_wr W6).1
  have K10 : Keep h0 _ [a1] := K5.wr W6 (Or.inl (List.mem_of_getElem? (i := 0) rfl))
  refine own_st st6 ?_
  show own_E p e below _ T6 (mkF m 15 #[rv a1] [])
  refine own_st (fun t k => XS.aloadN X6.here hx rfl (hb hby own_d_prog_14_method_5_15) rfl rfl k) ?_
  show own_E p e below _ T6 (mkF m 16 #[rv a1] [.ref a1])
  refine own_st (fun t k => XS.aloadN X6.here hx rfl (hb hby own_d_prog_14_method_5_16) rfl rfl k) ?_
  show own_E p e below _ T6 (mkF m 17 #[rv a1] [.ref a1, .ref a1])
  have B12 := ((F_frequencies_a1.keep Kq3 nin0).other W6 (Or.inr (slot_ne (Or.inl (own_w hw 13 rfl)) (Or.inl (own_w hw 11 rfl)) (by decide) (t := (.array .int)) (t' := (.array .int)) (by decide) (by decide))))
  obtain ⟨T11, X11, e11, st11⟩ := getF X6 hx hZ hown (host := "") (Or.inl (own_w hw 12 rfl)) Via.refl e6 B12 (g := (mkF m 17 #[rv a1] [.ref a1, .ref a1])) rfl rfl (hb hby own_d_prog_14_method_5_17)
  refine own_st st11 ?_
  show own_E p e below _ T11 (mkF m 20 #[rv a1] [.ref a3, .ref a1])
  refine own_st (fun t k => XS.aloadN X11.here hx rfl (hb hby own_d_prog_14_method_5_20) rfl rfl k) ?_
  show own_E p e below _ T11 (mkF m 21 #[rv a1] [.ref a1, .ref a3, .ref a1])
  have B14 := ((F_size_a1.keep Kq3 nin0).other W6 (Or.inr (slot_ne (Or.inl (own_w hw 26 rfl)) (Or.inl (own_w hw 11 rfl)) (by decide) (t := .int) (t' := (.array .int)) (by decide) (by decide))))
  obtain ⟨T13, X13, e13, st13⟩ := getF X11 hx hZ hown (host := "") (Or.inl (own_w hw 25 rfl)) Via.refl e11 B14 (g := (mkF m 21 #[rv a1] [.ref a1, .ref a3, .ref a1])) rfl rfl (hb hby own_d_prog_14_method_5_21)
  refine own_st st13 ?_
  show own_E p e below _ T13 (mkF m 24 #[rv a1] [.int 0, .ref a3, .ref a1])
  have B15 := ((E_a3.keep Kq3).wr W6)
  have B16 := ((V_a3.keep Kq3 nin0).other W6 (Ne.symm ne13))
  obtain ⟨_, _, ⟨T17, L17, k17, n17⟩, -, X17, ⟨Lc17, hQ17, l17, y17, z17⟩, st17⟩ := Jvm.LawKit.callS X13 hx (y := own_y2) hown (mvT hZ (own_w hw 27 rfl)) (mvT hZ (own_w hw 28 rfl)) (mvT hZ (own_w hw 29 rfl)) (mvT hZ (own_w hw 30 rfl)) (by decide) (backOf (W := 1) (own_copy1_0 l Z a0 hw [] a3 kc2 eb0 h6 n0 Z9 B15 B16) hZ (own_w hw 30 rfl) (own_w hw 29 rfl) (by decide) (by decide)) (g := (mkF m 24 #[rv a1] [.int 0, .ref a3, .ref a1])) rfl (by rw [hml]; rfl) (argsL := [(.ref a3), (.int (0 : Int32))]) (rest := [(.ref a1)]) (lenOf own_pd_6 rfl) rfl (by show 2 * 0 + _ ≤ _; exact Nat.le_of_eq rfl) (hb hby own_d_prog_14_method_5_24) (fun _ _ => ⟨rfl, e13, (by decide : 1 + 1 ≤ _), (by decide : 0 + 0 ≤ _)⟩)
  dsimp only [Pt.U, Pt.locs, Pt.cells, Pt.slots] at X17 l17 y17 z17 st17 hQ17
  subst l17 y17 z17
  obtain ⟨b17_o0, k17_o1, rfl, Nq17, Kq17, sz17_0, P17_0, P17_1⟩ := hQ17
  have N17 := Fr.app N6 Nq17
  have B18 := (B8.wr W6)
  have ne_a1_b17_o0 : a1 ≠ b17_o0 := Nat.ne_of_lt (Nat.lt_of_lt_of_le B18.lt sz17_0)
  have B19 := ((E_a2.keep Kq3).wr W6)
  have ne_a2_b17_o0 : a2 ≠ b17_o0 := Nat.ne_of_lt (Nat.lt_of_lt_of_le B19.lt sz17_0)
  have ne_a3_b17_o0 : a3 ≠ b17_o0 := Nat.ne_of_lt (Nat.lt_of_lt_of_le B15.lt sz17_0)
  have B20 := (P3_0.other W6 (Ne.symm ne_a1_b3_o0))
  have ne_b3_o0_b17_o0 : b3_o0 ≠ b17_o0 := Nat.ne_of_lt (Nat.lt_of_lt_of_le B20.lt sz17_0)
  have g_b17_o0 : n0 ≤ b17_o0 := Nat.le_trans Z9 sz17_0
  have sz_b17_o0 : h0.size ≤ b17_o0 := Nat.le_trans K10.1 sz17_0
  have e17 : T17.heap = T17.heap := rfl
  have Z21 := Nat.le_trans Z9 Kq17.1
  have K22 : Keep h0 _ [a1] := K10.trans Kq17 all0
  refine own_st st17 ?_
  show own_E p e below _ T17 (mkF m 27 #[rv a1] [.ref b17_o0, .ref a1])
  have B24 := (B12.keep Kq17 nin0)
  have B25 := (B18.keep Kq17)
  obtain ⟨T23, h23, X23, e23, W23, st23⟩ := putF X17 hx hZ hown (host := "") (Or.inl (own_w hw 12 rfl)) Via.refl e17 B24 B25 (Or.inl (own_w hw 13 rfl)) (own_w hw 1 rfl) (ty := (.array .int)) (by decide) rfl rfl (g := (mkF m 27 #[rv a1] [.ref b17_o0, .ref a1])) rfl rfl (hb hby own_d_prog_14_method_5_27)
  have N23 := Fr.snoc X23 N17 g_a1
  have Fw23 := B24.same W23
  have Z26 := Nat.le_trans Z21 (Keep.of_wr W23).1
  have K27 : Keep h0 _ [a1] := K22.wr W23 (Or.inl (List.mem_of_getElem? (i := 0) rfl))
  refine own_st st23 ?_
  show own_E p e below _ T23 (mkF m 30 #[rv a1] [])
  refine own_retV X23 hx Bd.notSynchronized Bd.returns (hb hby own_d_prog_14_method_5_30) (by decide) (by decide) ?_
  have B28 := (B25.wr W23)
  have B29 := ((Fw6.keep Kq17 nin0).other W23 (Or.inr (slot_ne (Or.inl (own_w hw 11 rfl)) (Or.inl (own_w hw 13 rfl)) (by decide) (t := (.array .int)) (t' := (.array .int)) (by decide) (by decide))))
  have B30 := ((((F_minLength_a1.keep Kq3 nin0).other W6 (Or.inr (slot_ne (Or.inl (own_w hw 16 rfl)) (Or.inl (own_w hw 11 rfl)) (by decide) (t := .int) (t' := (.array .int)) (by decide) (by decide)))).keep Kq17 nin0).other W23 (Or.inr (slot_ne (Or.inl (own_w hw 16 rfl)) (Or.inl (own_w hw 13 rfl)) (by decide) (t := .int) (t' := (.array .int)) (by decide) (by decide))))
  have B31 := ((((F_maxFrequency_a1.keep Kq3 nin0).other W6 (Or.inr (slot_ne (Or.inl (own_w hw 18 rfl)) (Or.inl (own_w hw 11 rfl)) (by decide) (t := .int) (t' := (.array .int)) (by decide) (by decide)))).keep Kq17 nin0).other W23 (Or.inr (slot_ne (Or.inl (own_w hw 18 rfl)) (Or.inl (own_w hw 13 rfl)) (by decide) (t := .int) (t' := (.array .int)) (by decide) (by decide))))
  have B32 := ((B14.keep Kq17 nin0).other W23 (Or.inr (slot_ne (Or.inl (own_w hw 26 rfl)) (Or.inl (own_w hw 13 rfl)) (by decide) (t := .int) (t' := (.array .int)) (by decide) (by decide))))
  have B33 := ((B20.keep Kq17 nin0).other W23 (Ne.symm ne_a1_b3_o0))
  have B34 := (((P3_1.wr W6).keep Kq17).wr W23)
  have B35 := (P17_0.other W23 (Ne.symm ne_a1_b17_o0))
  have B36 := (P17_1.wr W23)
  show own_trim0_Q Z a1 a2 a3 kc1 kc2 q1 q2 ea0 eb0 h0 n0 _ T23.heap _
  rw [e23]
  exact ⟨b3_o0, b17_o0, k3_o1, k17_o1, rfl, N23, K27, sz_b3_o0, sz_b17_o0, ne_b3_o0_b17_o0, B28, B29, Fw23, B30, B31, B32, B33, B34, B35, B36⟩
def own_trim1_Q (Z : State) (a1 : Addr) (a2 : Addr) (a3 : Addr) (kc1 : ClassId) (kc2 : ClassId) (q1 : Int32) (q2 : Int32) (ea0 : Int32) (eb0 : Int32) (h0 : Heap) (n0 : Nat) (v : Option Value) (h : Heap) (L : List Loc) : Prop := ∃ (o0 : Addr), ∃ (o1 : Addr), v = none ∧ Fr n0 L ∧ Keep h0 h [a1] ∧ h0.size ≤ o0 ∧ h0.size ≤ o1 ∧ o0 ≠ o1 ∧ Exa Z h a1 "com/example/lean_scorer/leanscorer/Postings" ∧ Fld Z h a1 "com/example/lean_scorer/leanscorer/Postings" "documents" "[I" (.ref o0) ∧ Fld Z h a1 "com/example/lean_scorer/leanscorer/Postings" "frequencies" "[I" (.ref o1) ∧ Fld Z h a1 "com/example/lean_scorer/leanscorer/Postings" "minLength" "I" (.int q1) ∧ Fld Z h a1 "com/example/lean_scorer/leanscorer/Postings" "maxFrequency" "I" (.int q2) ∧ Fld Z h a1 "com/example/lean_scorer/leanscorer/Postings" "size" "I" (.int (1 : Int32)) ∧ Arv Z h o0 kc1 .int (1 : Int32) [(.int ea0)] (.int (0 : Int32)) ∧ Exa Z h o0 "[I" ∧ Arv Z h o1 kc2 .int (1 : Int32) [(.int eb0)] (.int (0 : Int32)) ∧ Exa Z h o1 "[I"
theorem own_trim1_ef (m : MethodId) (a1 : Addr) (a2 : Addr) (a3 : Addr) (kc1 : ClassId) (kc2 : ClassId) (q1 : Int32) (q2 : Int32) (ea0 : Int32) (eb0 : Int32) : entryFrame m #[(.ref a1)] 1 = mkF m 0 #[.val (.ref a1)] [] := by first | (simp [entryFrame, mkF, argsToLocals, Value.category]; done) | rfl
set_option maxRecDepth 65536 in
set_option maxHeartbeats 40000000 in
theorem own_trim1 (l : Launch) (Z : State) (a0 : Array Value) (hw : ∀ d ∈ tables_1, d.before a0 Z = true) (ws : List Jvm.Cond) (a1 : Addr) (a2 : Addr) (a3 : Addr) (kc1 : ClassId) (kc2 : ClassId) (q1 : Int32) (q2 : Int32) (ea0 : Int32) (eb0 : Int32) (h0 : Heap) (n0 : Nat) (Z0 : n0 ≤ h0.size) (E_a1 : Exa Z h0 a1 "com/example/lean_scorer/leanscorer/Postings") (E_a2 : Exa Z h0 a2 "[I") (E_a3 : Exa Z h0 a3 "[I") (F_documents_a1 : Fld Z h0 a1 "com/example/lean_scorer/leanscorer/Postings" "documents" "[I" (.ref a2)) (F_frequencies_a1 : Fld Z h0 a1 "com/example/lean_scorer/leanscorer/Postings" "frequencies" "[I" (.ref a3)) (F_minLength_a1 : Fld Z h0 a1 "com/example/lean_scorer/leanscorer/Postings" "minLength" "I" (.int q1)) (F_maxFrequency_a1 : Fld Z h0 a1 "com/example/lean_scorer/leanscorer/Postings" "maxFrequency" "I" (.int q2)) (F_size_a1 : Fld Z h0 a1 "com/example/lean_scorer/leanscorer/Postings" "size" "I" (.int (1 : Int32))) (V_a2 : Arv Z h0 a2 kc1 .int (1 : Int32) [(.int ea0)] (.int (0 : Int32))) (V_a3 : Arv Z h0 a3 kc2 .int (1 : Int32) [(.int eb0)] (.int (0 : Int32))) (ne12 : a1 ≠ a2) (ne13 : a1 ≠ a3) (ne23 : a2 ≠ a3) (g_a1 : n0 ≤ a1) :
    MetFree l own_y5 (head1 (Jvm.Cond.code own_y5 prog_14_method_5_code 1 none :: ws) ({ frames := 2, cells := 2, slots := 2, locals := 29 } : Room)) (fun a U => a = #[(.ref a1)] ∧ Z.Warmed39 U.vm ∧ U.heap = h0) (fun _ _ _ _ _ => True) (fun _ U o U' => ∃ v L, o = .returned v ∧ own_trim1_Q Z a1 a2 a3 kc1 kc2 q1 q2 ea0 eb0 h0 n0 v U'.heap L ∧ FrameEnd U o U' L ({ frames := 2, cells := 2, slots := 2, locals := 29 } : Room).cells ({ frames := 2, cells := 2, slots := 2, locals := 29 } : Room).slots) := by
  refine MetFree.of_bodySF (plainFor_of_name own_pn_Postings) hisR ?_
  intro p e s m args below meth c s₁ Bd hml0 hP hK
  obtain ⟨rfl, hZ, hh⟩ := hP
  have hx := Bd.exec
  have hby := Bd.bytes
  have hml : c.maxLocals = 1 := hml0
  have hown : s.vm.findClass "com/example/lean_scorer/leanscorer/Postings" = some m.cls := findClass_of_methodNamed Bd.named
  have hnm := (name_of_methodNamed Bd.named Bd.method).1
  have X0 : Stand p l e ({ frames := 2, cells := 2, slots := 2, locals := 29 } : Room) s m #[(.ref a1)] below meth c s₁ [] 0 0 := Stand.of_body Bd
  have e0 : s₁.heap = h0 := by rw [← hh, Bd.state]; rfl
  show own_E p e below (own_K (own_trim1_Q Z a1 a2 a3 kc1 kc2 q1 q2 ea0 eb0 h0 n0) s ({ frames := 2, cells := 2, slots := 2, locals := 29 } : Room).cells ({ frames := 2, cells := 2, slots := 2, locals := 29 } : Room).slots) s₁ (entryFrame m #[(.ref a1)] 1)
  refine own_pre (own_trim1_ef m a1 a2 a3 kc1 kc2 q1 q2 ea0 eb0) ?_
  show own_E p e below _ s₁ (mkF m 0 #[rv a1] [])
  refine own_st (fun t k => XS.aloadN X0.here hx rfl (hb hby own_d_prog_14_method_5_0) rfl rfl k) ?_
  show own_E p e below _ s₁ (mkF m 1 #[rv a1] [.ref a1])
  refine own_st (fun t k => XS.aloadN X0.here hx rfl (hb hby own_d_prog_14_method_5_1) rfl rfl k) ?_
  show own_E p e below _ s₁ (mkF m 2 #[rv a1] [.ref a1, .ref a1])
  obtain ⟨T1, X1, e1, st1⟩ := getF X0 hx hZ hown (host := "") (Or.inl (own_w hw 10 rfl)) Via.refl e0 F_documents_a1 (g := (mkF m 2 #[rv a1] [.ref a1, .ref a1])) rfl rfl (hb hby own_d_prog_14_method_5_2)
  refine own_st st1 ?_
  show own_E p e below _ T1 (mkF m 5 #[rv a1] [.ref a2, .ref a1])
  refine own_st (fun t k => XS.aloadN X1.here hx rfl (hb hby own_d_prog_14_method_5_5) rfl rfl k) ?_
  show own_E p e below _ T1 (mkF m 6 #[rv a1] [.ref a1, .ref a2, .ref a1])
  obtain ⟨T2, X2, e2, st2⟩ := getF X1 hx hZ hown (host := "") (Or.inl (own_w hw 25 rfl)) Via.refl e1 F_size_a1 (g := (mkF m 6 #[rv a1] [.ref a1, .ref a2, .ref a1])) rfl rfl (hb hby own_d_prog_14_method_5_6)
  refine own_st st2 ?_
  show own_E p e below _ T2 (mkF m 9 #[rv a1] [.int 1, .ref a2, .ref a1])
  obtain ⟨_, _, ⟨T3, L3, k3, n3⟩, -, X3, ⟨Lc3, hQ3, l3, y3, z3⟩, st3⟩ := Jvm.LawKit.callS X2 hx (y := own_y2) hown (mvT hZ (own_w hw 27 rfl)) (mvT hZ (own_w hw 28 rfl)) (mvT hZ (own_w hw 29 rfl)) (mvT hZ (own_w hw 30 rfl)) (by decide) (backOf (W := 1) (own_copy1_1 l Z a0 hw [] a2 kc1 ea0 h0 n0 Z0 E_a2 V_a2) hZ (own_w hw 30 rfl) (own_w hw 29 rfl) (by decide) (by decide)) (g := (mkF m 9 #[rv a1] [.int 1, .ref a2, .ref a1])) rfl (by rw [hml]; rfl) (argsL := [(.ref a2), (.int (1 : Int32))]) (rest := [(.ref a1)]) (lenOf own_pd_6 rfl) rfl (by show 2 * 0 + _ ≤ _; exact Nat.le_of_eq rfl) (hb hby own_d_prog_14_method_5_9) (fun _ _ => ⟨rfl, e2, (by decide : 0 + 1 ≤ _), (by decide : 0 + 1 ≤ _)⟩)
  dsimp only [Pt.U, Pt.locs, Pt.cells, Pt.slots] at X3 l3 y3 z3 st3 hQ3
  subst l3 y3 z3
  obtain ⟨b3_o0, rfl, Nq3, Kq3, sz3_0, P3_0, P3_1⟩ := hQ3
  have N3 := Fr.app (Fr.nil n0) Nq3
  have ne_a1_b3_o0 : a1 ≠ b3_o0 := Nat.ne_of_lt (Nat.lt_of_lt_of_le E_a1.lt sz3_0)
  have ne_a2_b3_o0 : a2 ≠ b3_o0 := Nat.ne_of_lt (Nat.lt_of_lt_of_le E_a2.lt sz3_0)
  have ne_a3_b3_o0 : a3 ≠ b3_o0 := Nat.ne_of_lt (Nat.lt_of_lt_of_le E_a3.lt sz3_0)
  have g_b3_o0 : n0 ≤ b3_o0 := Nat.le_trans Z0 sz3_0
  have sz_b3_o0 : h0.size ≤ b3_o0 := Nat.le_trans (Keep.refl h0 [a1]).1 sz3_0
  have e3 : T3.heap = T3.heap := rfl
  have Z4 := Nat.le_trans Z0 Kq3.1
  have K5 : Keep h0 _ [a1] := (Keep.refl h0 [a1]).trans Kq3 all0
  refine own_st st3 ?_
  show own_E p e below _ T3 (mkF m 12 #[rv a1] [.ref b3_o0, .ref a1])
  have B7 := (F_documents_a1.keep Kq3 nin0)
  have B8 := (E_a1.keep Kq3)
  obtain ⟨T6, h6, X6, e6, W6, st6⟩ := putF X3 hx hZ hown (host := "") (Or.inl (own_w hw 10 rfl)) Via.refl e3 B7 B8 (Or.inl (own_w hw 11 rfl)) (own_w hw 1 rfl) (ty := (.array .int)) (by decide) rfl rfl (g := (mkF m 12 #[rv a1] [.ref b3_o0, .ref a1])) rfl rfl (hb hby own_d_prog_14_method_5_12)
  have N6 := Fr.snoc X6 N3 g_a1
  have Fw6 := B7.same W6
  have Z9 := Nat.le_trans Z4 (Keep.of_wr W6).1
  have K10 : Keep h0 _ [a1] := K5.wr W6 (Or.inl (List.mem_of_getElem? (i := 0) rfl))
  refine own_st st6 ?_
  show own_E p e below _ T6 (mkF m 15 #[rv a1] [])
  refine own_st (fun t k => XS.aloadN X6.here hx rfl (hb hby own_d_prog_14_method_5_15) rfl rfl k) ?_
  show own_E p e below _ T6 (mkF m 16 #[rv a1] [.ref a1])
  refine own_st (fun t k => XS.aloadN X6.here hx rfl (hb hby own_d_prog_14_method_5_16) rfl rfl k) ?_
  show own_E p e below _ T6 (mkF m 17 #[rv a1] [.ref a1, .ref a1])
  have B12 := ((F_frequencies_a1.keep Kq3 nin0).other W6 (Or.inr (slot_ne (Or.inl (own_w hw 13 rfl)) (Or.inl (own_w hw 11 rfl)) (by decide) (t := (.array .int)) (t' := (.array .int)) (by decide) (by decide))))
  obtain ⟨T11, X11, e11, st11⟩ := getF X6 hx hZ hown (host := "") (Or.inl (own_w hw 12 rfl)) Via.refl e6 B12 (g := (mkF m 17 #[rv a1] [.ref a1, .ref a1])) rfl rfl (hb hby own_d_prog_14_method_5_17)
  refine own_st st11 ?_
  show own_E p e below _ T11 (mkF m 20 #[rv a1] [.ref a3, .ref a1])
  refine own_st (fun t k => XS.aloadN X11.here hx rfl (hb hby own_d_prog_14_method_5_20) rfl rfl k) ?_
  show own_E p e below _ T11 (mkF m 21 #[rv a1] [.ref a1, .ref a3, .ref a1])
  have B14 := ((F_size_a1.keep Kq3 nin0).other W6 (Or.inr (slot_ne (Or.inl (own_w hw 26 rfl)) (Or.inl (own_w hw 11 rfl)) (by decide) (t := .int) (t' := (.array .int)) (by decide) (by decide))))
  obtain ⟨T13, X13, e13, st13⟩ := getF X11 hx hZ hown (host := "") (Or.inl (own_w hw 25 rfl)) Via.refl e11 B14 (g := (mkF m 21 #[rv a1] [.ref a1, .ref a3, .ref a1])) rfl rfl (hb hby own_d_prog_14_method_5_21)
  refine own_st st13 ?_
  show own_E p e below _ T13 (mkF m 24 #[rv a1] [.int 1, .ref a3, .ref a1])
  have B15 := ((E_a3.keep Kq3).wr W6)
  have B16 := ((V_a3.keep Kq3 nin0).other W6 (Ne.symm ne13))
  obtain ⟨_, _, ⟨T17, L17, k17, n17⟩, -, X17, ⟨Lc17, hQ17, l17, y17, z17⟩, st17⟩ := Jvm.LawKit.callS X13 hx (y := own_y2) hown (mvT hZ (own_w hw 27 rfl)) (mvT hZ (own_w hw 28 rfl)) (mvT hZ (own_w hw 29 rfl)) (mvT hZ (own_w hw 30 rfl)) (by decide) (backOf (W := 1) (own_copy1_1 l Z a0 hw [] a3 kc2 eb0 h6 n0 Z9 B15 B16) hZ (own_w hw 30 rfl) (own_w hw 29 rfl) (by decide) (by decide)) (g := (mkF m 24 #[rv a1] [.int 1, .ref a3, .ref a1])) rfl (by rw [hml]; rfl) (argsL := [(.ref a3), (.int (1 : Int32))]) (rest := [(.ref a1)]) (lenOf own_pd_6 rfl) rfl (by show 2 * 0 + _ ≤ _; exact Nat.le_of_eq rfl) (hb hby own_d_prog_14_method_5_24) (fun _ _ => ⟨rfl, e13, (by decide : 1 + 1 ≤ _), (by decide : 1 + 1 ≤ _)⟩)
  dsimp only [Pt.U, Pt.locs, Pt.cells, Pt.slots] at X17 l17 y17 z17 st17 hQ17
  subst l17 y17 z17
  obtain ⟨b17_o0, rfl, Nq17, Kq17, sz17_0, P17_0, P17_1⟩ := hQ17
  have N17 := Fr.app N6 Nq17
  have B18 := (B8.wr W6)
  have ne_a1_b17_o0 : a1 ≠ b17_o0 := Nat.ne_of_lt (Nat.lt_of_lt_of_le B18.lt sz17_0)
  have B19 := ((E_a2.keep Kq3).wr W6)
  have ne_a2_b17_o0 : a2 ≠ b17_o0 := Nat.ne_of_lt (Nat.lt_of_lt_of_le B19.lt sz17_0)
  have ne_a3_b17_o0 : a3 ≠ b17_o0 := Nat.ne_of_lt (Nat.lt_of_lt_of_le B15.lt sz17_0)
  have B20 := (P3_0.other W6 (Ne.symm ne_a1_b3_o0))
  have ne_b3_o0_b17_o0 : b3_o0 ≠ b17_o0 := Nat.ne_of_lt (Nat.lt_of_lt_of_le B20.lt sz17_0)
  have g_b17_o0 : n0 ≤ b17_o0 := Nat.le_trans Z9 sz17_0
  have sz_b17_o0 : h0.size ≤ b17_o0 := Nat.le_trans K10.1 sz17_0
  have e17 : T17.heap = T17.heap := rfl
  have Z21 := Nat.le_trans Z9 Kq17.1
  have K22 : Keep h0 _ [a1] := K10.trans Kq17 all0
  refine own_st st17 ?_
  show own_E p e below _ T17 (mkF m 27 #[rv a1] [.ref b17_o0, .ref a1])
  have B24 := (B12.keep Kq17 nin0)
  have B25 := (B18.keep Kq17)
  obtain ⟨T23, h23, X23, e23, W23, st23⟩ := putF X17 hx hZ hown (host := "") (Or.inl (own_w hw 12 rfl)) Via.refl e17 B24 B25 (Or.inl (own_w hw 13 rfl)) (own_w hw 1 rfl) (ty := (.array .int)) (by decide) rfl rfl (g := (mkF m 27 #[rv a1] [.ref b17_o0, .ref a1])) rfl rfl (hb hby own_d_prog_14_method_5_27)
  have N23 := Fr.snoc X23 N17 g_a1
  have Fw23 := B24.same W23
  have Z26 := Nat.le_trans Z21 (Keep.of_wr W23).1
  have K27 : Keep h0 _ [a1] := K22.wr W23 (Or.inl (List.mem_of_getElem? (i := 0) rfl))
  refine own_st st23 ?_
  show own_E p e below _ T23 (mkF m 30 #[rv a1] [])
  refine own_retV X23 hx Bd.notSynchronized Bd.returns (hb hby own_d_prog_14_method_5_30) (by decide) (by decide) ?_
  have B28 := (B25.wr W23)
  have B29 := ((Fw6.keep Kq17 nin0).other W23 (Or.inr (slot_ne (Or.inl (own_w hw 11 rfl)) (Or.inl (own_w hw 13 rfl)) (by decide) (t := (.array .int)) (t' := (.array .int)) (by decide) (by decide))))
  have B30 := ((((F_minLength_a1.keep Kq3 nin0).other W6 (Or.inr (slot_ne (Or.inl (own_w hw 16 rfl)) (Or.inl (own_w hw 11 rfl)) (by decide) (t := .int) (t' := (.array .int)) (by decide) (by decide)))).keep Kq17 nin0).other W23 (Or.inr (slot_ne (Or.inl (own_w hw 16 rfl)) (Or.inl (own_w hw 13 rfl)) (by decide) (t := .int) (t' := (.array .int)) (by decide) (by decide))))
  have B31 := ((((F_maxFrequency_a1.keep Kq3 nin0).other W6 (Or.inr (slot_ne (Or.inl (own_w hw 18 rfl)) (Or.inl (own_w hw 11 rfl)) (by decide) (t := .int) (t' := (.array .int)) (by decide) (by decide)))).keep Kq17 nin0).other W23 (Or.inr (slot_ne (Or.inl (own_w hw 18 rfl)) (Or.inl (own_w hw 13 rfl)) (by decide) (t := .int) (t' := (.array .int)) (by decide) (by decide))))
  have B32 := ((B14.keep Kq17 nin0).other W23 (Or.inr (slot_ne (Or.inl (own_w hw 26 rfl)) (Or.inl (own_w hw 13 rfl)) (by decide) (t := .int) (t' := (.array .int)) (by decide) (by decide))))
  have B33 := ((B20.keep Kq17 nin0).other W23 (Ne.symm ne_a1_b3_o0))
  have B34 := (((P3_1.wr W6).keep Kq17).wr W23)
  have B35 := (P17_0.other W23 (Ne.symm ne_a1_b17_o0))
  have B36 := (P17_1.wr W23)
  show own_trim1_Q Z a1 a2 a3 kc1 kc2 q1 q2 ea0 eb0 h0 n0 _ T23.heap _
  rw [e23]
  exact ⟨b3_o0, b17_o0, rfl, N23, K27, sz_b3_o0, sz_b17_o0, ne_b3_o0_b17_o0, B28, B29, Fw23, B30, B31, B32, B33, B34, B35, B36⟩
def own_trim2_Q (Z : State) (a1 : Addr) (a2 : Addr) (a3 : Addr) (kc1 : ClassId) (kc2 : ClassId) (q1 : Int32) (q2 : Int32) (ea0 : Int32) (ea1 : Int32) (eb0 : Int32) (eb1 : Int32) (h0 : Heap) (n0 : Nat) (v : Option Value) (h : Heap) (L : List Loc) : Prop := ∃ (o0 : Addr), ∃ (o1 : Addr), v = none ∧ Fr n0 L ∧ Keep h0 h [a1] ∧ h0.size ≤ o0 ∧ h0.size ≤ o1 ∧ o0 ≠ o1 ∧ Exa Z h a1 "com/example/lean_scorer/leanscorer/Postings" ∧ Fld Z h a1 "com/example/lean_scorer/leanscorer/Postings" "documents" "[I" (.ref o0) ∧ Fld Z h a1 "com/example/lean_scorer/leanscorer/Postings" "frequencies" "[I" (.ref o1) ∧ Fld Z h a1 "com/example/lean_scorer/leanscorer/Postings" "minLength" "I" (.int q1) ∧ Fld Z h a1 "com/example/lean_scorer/leanscorer/Postings" "maxFrequency" "I" (.int q2) ∧ Fld Z h a1 "com/example/lean_scorer/leanscorer/Postings" "size" "I" (.int (2 : Int32)) ∧ Arv Z h o0 kc1 .int (2 : Int32) [(.int ea0), (.int ea1)] (.int (0 : Int32)) ∧ Exa Z h o0 "[I" ∧ Arv Z h o1 kc2 .int (2 : Int32) [(.int eb0), (.int eb1)] (.int (0 : Int32)) ∧ Exa Z h o1 "[I"
theorem own_trim2_ef (m : MethodId) (a1 : Addr) (a2 : Addr) (a3 : Addr) (kc1 : ClassId) (kc2 : ClassId) (q1 : Int32) (q2 : Int32) (ea0 : Int32) (ea1 : Int32) (eb0 : Int32) (eb1 : Int32) : entryFrame m #[(.ref a1)] 1 = mkF m 0 #[.val (.ref a1)] [] := by first | (simp [entryFrame, mkF, argsToLocals, Value.category]; done) | rfl
set_option maxRecDepth 65536 in
set_option maxHeartbeats 40000000 in
theorem own_trim2 (l : Launch) (Z : State) (a0 : Array Value) (hw : ∀ d ∈ tables_1, d.before a0 Z = true) (ws : List Jvm.Cond) (a1 : Addr) (a2 : Addr) (a3 : Addr) (kc1 : ClassId) (kc2 : ClassId) (q1 : Int32) (q2 : Int32) (ea0 : Int32) (ea1 : Int32) (eb0 : Int32) (eb1 : Int32) (h0 : Heap) (n0 : Nat) (Z0 : n0 ≤ h0.size) (E_a1 : Exa Z h0 a1 "com/example/lean_scorer/leanscorer/Postings") (E_a2 : Exa Z h0 a2 "[I") (E_a3 : Exa Z h0 a3 "[I") (F_documents_a1 : Fld Z h0 a1 "com/example/lean_scorer/leanscorer/Postings" "documents" "[I" (.ref a2)) (F_frequencies_a1 : Fld Z h0 a1 "com/example/lean_scorer/leanscorer/Postings" "frequencies" "[I" (.ref a3)) (F_minLength_a1 : Fld Z h0 a1 "com/example/lean_scorer/leanscorer/Postings" "minLength" "I" (.int q1)) (F_maxFrequency_a1 : Fld Z h0 a1 "com/example/lean_scorer/leanscorer/Postings" "maxFrequency" "I" (.int q2)) (F_size_a1 : Fld Z h0 a1 "com/example/lean_scorer/leanscorer/Postings" "size" "I" (.int (2 : Int32))) (V_a2 : Arv Z h0 a2 kc1 .int (2 : Int32) [(.int ea0), (.int ea1)] (.int (0 : Int32))) (V_a3 : Arv Z h0 a3 kc2 .int (2 : Int32) [(.int eb0), (.int eb1)] (.int (0 : Int32))) (ne12 : a1 ≠ a2) (ne13 : a1 ≠ a3) (ne23 : a2 ≠ a3) (g_a1 : n0 ≤ a1) :
    MetFree l own_y5 (head1 (Jvm.Cond.code own_y5 prog_14_method_5_code 1 none :: ws) ({ frames := 2, cells := 2, slots := 4, locals := 29 } : Room)) (fun a U => a = #[(.ref a1)] ∧ Z.Warmed39 U.vm ∧ U.heap = h0) (fun _ _ _ _ _ => True) (fun _ U o U' => ∃ v L, o = .returned v ∧ own_trim2_Q Z a1 a2 a3 kc1 kc2 q1 q2 ea0 ea1 eb0 eb1 h0 n0 v U'.heap L ∧ FrameEnd U o U' L ({ frames := 2, cells := 2, slots := 4, locals := 29 } : Room).cells ({ frames := 2, cells := 2, slots := 4, locals := 29 } : Room).slots) := by
  refine MetFree.of_bodySF (plainFor_of_name own_pn_Postings) hisR ?_
  intro p e s m args below meth c s₁ Bd hml0 hP hK
  obtain ⟨rfl, hZ, hh⟩ := hP
  have hx := Bd.exec
  have hby := Bd.bytes
  have hml : c.maxLocals = 1 := hml0
  have hown : s.vm.findClass "com/example/lean_scorer/leanscorer/Postings" = some m.cls := findClass_of_methodNamed Bd.named
  have hnm := (name_of_methodNamed Bd.named Bd.method).1
  have X0 : Stand p l e ({ frames := 2, cells := 2, slots := 4, locals := 29 } : Room) s m #[(.ref a1)] below meth c s₁ [] 0 0 := Stand.of_body Bd
  have e0 : s₁.heap = h0 := by rw [← hh, Bd.state]; rfl
  show own_E p e below (own_K (own_trim2_Q Z a1 a2 a3 kc1 kc2 q1 q2 ea0 ea1 eb0 eb1 h0 n0) s ({ frames := 2, cells := 2, slots := 4, locals := 29 } : Room).cells ({ frames := 2, cells := 2, slots := 4, locals := 29 } : Room).slots) s₁ (entryFrame m #[(.ref a1)] 1)
  refine own_pre (own_trim2_ef m a1 a2 a3 kc1 kc2 q1 q2 ea0 ea1 eb0 eb1) ?_
  show own_E p e below _ s₁ (mkF m 0 #[rv a1] [])
  refine own_st (fun t k => XS.aloadN X0.here hx rfl (hb hby own_d_prog_14_method_5_0) rfl rfl k) ?_
  show own_E p e below _ s₁ (mkF m 1 #[rv a1] [.ref a1])
  refine own_st (fun t k => XS.aloadN X0.here hx rfl (hb hby own_d_prog_14_method_5_1) rfl rfl k) ?_
  show own_E p e below _ s₁ (mkF m 2 #[rv a1] [.ref a1, .ref a1])
  obtain ⟨T1, X1, e1, st1⟩ := getF X0 hx hZ hown (host := "") (Or.inl (own_w hw 10 rfl)) Via.refl e0 F_documents_a1 (g := (mkF m 2 #[rv a1] [.ref a1, .ref a1])) rfl rfl (hb hby own_d_prog_14_method_5_2)
  refine own_st st1 ?_
  show own_E p e below _ T1 (mkF m 5 #[rv a1] [.ref a2, .ref a1])
  refine own_st (fun t k => XS.aloadN X1.here hx rfl (hb hby own_d_prog_14_method_5_5) rfl rfl k) ?_
  show own_E p e below _ T1 (mkF m 6 #[rv a1] [.ref a1, .ref a2, .ref a1])
  obtain ⟨T2, X2, e2, st2⟩ := getF X1 hx hZ hown (host := "") (Or.inl (own_w hw 25 rfl)) Via.refl e1 F_size_a1 (g := (mkF m 6 #[rv a1] [.ref a1, .ref a2, .ref a1])) rfl rfl (hb hby own_d_prog_14_method_5_6)
  refine own_st st2 ?_
  show own_E p e below _ T2 (mkF m 9 #[rv a1] [.int 2, .ref a2, .ref a1])
  obtain ⟨_, _, ⟨T3, L3, k3, n3⟩, -, X3, ⟨Lc3, hQ3, l3, y3, z3⟩, st3⟩ := Jvm.LawKit.callS X2 hx (y := own_y2) hown (mvT hZ (own_w hw 27 rfl)) (mvT hZ (own_w hw 28 rfl)) (mvT hZ (own_w hw 29 rfl)) (mvT hZ (own_w hw 30 rfl)) (by decide) (backOf (W := 1) (own_copy2_2 l Z a0 hw [] a2 kc1 ea0 ea1 h0 n0 Z0 E_a2 V_a2) hZ (own_w hw 30 rfl) (own_w hw 29 rfl) (by decide) (by decide)) (g := (mkF m 9 #[rv a1] [.int 2, .ref a2, .ref a1])) rfl (by rw [hml]; rfl) (argsL := [(.ref a2), (.int (2 : Int32))]) (rest := [(.ref a1)]) (lenOf own_pd_6 rfl) rfl (by show 2 * 0 + _ ≤ _; exact Nat.le_of_eq rfl) (hb hby own_d_prog_14_method_5_9) (fun _ _ => ⟨rfl, e2, (by decide : 0 + 1 ≤ _), (by decide : 0 + 2 ≤ _)⟩)
  dsimp only [Pt.U, Pt.locs, Pt.cells, Pt.slots] at X3 l3 y3 z3 st3 hQ3
  subst l3 y3 z3
  obtain ⟨b3_o0, rfl, Nq3, Kq3, sz3_0, P3_0, P3_1⟩ := hQ3
  have N3 := Fr.app (Fr.nil n0) Nq3
  have ne_a1_b3_o0 : a1 ≠ b3_o0 := Nat.ne_of_lt (Nat.lt_of_lt_of_le E_a1.lt sz3_0)
  have ne_a2_b3_o0 : a2 ≠ b3_o0 := Nat.ne_of_lt (Nat.lt_of_lt_of_le E_a2.lt sz3_0)
  have ne_a3_b3_o0 : a3 ≠ b3_o0 := Nat.ne_of_lt (Nat.lt_of_lt_of_le E_a3.lt sz3_0)
  have g_b3_o0 : n0 ≤ b3_o0 := Nat.le_trans Z0 sz3_0
  have sz_b3_o0 : h0.size ≤ b3_o0 := Nat.le_trans (Keep.refl h0 [a1]).1 sz3_0
  have e3 : T3.heap = T3.heap := rfl
  have Z4 := Nat.le_trans Z0 Kq3.1
  have K5 : Keep h0 _ [a1] := (Keep.refl h0 [a1]).trans Kq3 all0
  refine own_st st3 ?_
  show own_E p e below _ T3 (mkF m 12 #[rv a1] [.ref b3_o0, .ref a1])
  have B7 := (F_documents_a1.keep Kq3 nin0)
  have B8 := (E_a1.keep Kq3)
  obtain ⟨T6, h6, X6, e6, W6, st6⟩ := putF X3 hx hZ hown (host := "") (Or.inl (own_w hw 10 rfl)) Via.refl e3 B7 B8 (Or.inl (own_w hw 11 rfl)) (own_w hw 1 rfl) (ty := (.array .int)) (by decide) rfl rfl (g := (mkF m 12 #[rv a1] [.ref b3_o0, .ref a1])) rfl rfl (hb hby own_d_prog_14_method_5_12)
  have N6 := Fr.snoc X6 N3 g_a1
  have Fw6 := B7.same W6
  have Z9 := Nat.le_trans Z4 (Keep.of_wr W6).1
  have K10 : Keep h0 _ [a1] := K5.wr W6 (Or.inl (List.mem_of_getElem? (i := 0) rfl))
  refine own_st st6 ?_
  show own_E p e below _ T6 (mkF m 15 #[rv a1] [])
  refine own_st (fun t k => XS.aloadN X6.here hx rfl (hb hby own_d_prog_14_method_5_15) rfl rfl k) ?_
  show own_E p e below _ T6 (mkF m 16 #[rv a1] [.ref a1])
  refine own_st (fun t k => XS.aloadN X6.here hx rfl (hb hby own_d_prog_14_method_5_16) rfl rfl k) ?_
  show own_E p e below _ T6 (mkF m 17 #[rv a1] [.ref a1, .ref a1])
  have B12 := ((F_frequencies_a1.keep Kq3 nin0).other W6 (Or.inr (slot_ne (Or.inl (own_w hw 13 rfl)) (Or.inl (own_w hw 11 rfl)) (by decide) (t := (.array .int)) (t' := (.array .int)) (by decide) (by decide))))
  obtain ⟨T11, X11, e11, st11⟩ := getF X6 hx hZ hown (host := "") (Or.inl (own_w hw 12 rfl)) Via.refl e6 B12 (g := (mkF m 17 #[rv a1] [.ref a1, .ref a1])) rfl rfl (hb hby own_d_prog_14_method_5_17)
  refine own_st st11 ?_
  show own_E p e below _ T11 (mkF m 20 #[rv a1] [.ref a3, .ref a1])
  refine own_st (fun t k => XS.aloadN X11.here hx rfl (hb hby own_d_prog_14_method_5_20) rfl rfl k) ?_
  show own_E p e below _ T11 (mkF m 21 #[rv a1] [.ref a1, .ref a3, .ref a1])
  have B14 := ((F_size_a1.keep Kq3 nin0).other W6 (Or.inr (slot_ne (Or.inl (own_w hw 26 rfl)) (Or.inl (own_w hw 11 rfl)) (by decide) (t := .int) (t' := (.array .int)) (by decide) (by decide))))
  obtain ⟨T13, X13, e13, st13⟩ := getF X11 hx hZ hown (host := "") (Or.inl (own_w hw 25 rfl)) Via.refl e11 B14 (g := (mkF m 21 #[rv a1] [.ref a1, .ref a3, .ref a1])) rfl rfl (hb hby own_d_prog_14_method_5_21)
  refine own_st st13 ?_
  show own_E p e below _ T13 (mkF m 24 #[rv a1] [.int 2, .ref a3, .ref a1])
  have B15 := ((E_a3.keep Kq3).wr W6)
  have B16 := ((V_a3.keep Kq3 nin0).other W6 (Ne.symm ne13))
  obtain ⟨_, _, ⟨T17, L17, k17, n17⟩, -, X17, ⟨Lc17, hQ17, l17, y17, z17⟩, st17⟩ := Jvm.LawKit.callS X13 hx (y := own_y2) hown (mvT hZ (own_w hw 27 rfl)) (mvT hZ (own_w hw 28 rfl)) (mvT hZ (own_w hw 29 rfl)) (mvT hZ (own_w hw 30 rfl)) (by decide) (backOf (W := 1) (own_copy2_2 l Z a0 hw [] a3 kc2 eb0 eb1 h6 n0 Z9 B15 B16) hZ (own_w hw 30 rfl) (own_w hw 29 rfl) (by decide) (by decide)) (g := (mkF m 24 #[rv a1] [.int 2, .ref a3, .ref a1])) rfl (by rw [hml]; rfl) (argsL := [(.ref a3), (.int (2 : Int32))]) (rest := [(.ref a1)]) (lenOf own_pd_6 rfl) rfl (by show 2 * 0 + _ ≤ _; exact Nat.le_of_eq rfl) (hb hby own_d_prog_14_method_5_24) (fun _ _ => ⟨rfl, e13, (by decide : 1 + 1 ≤ _), (by decide : 2 + 2 ≤ _)⟩)
  dsimp only [Pt.U, Pt.locs, Pt.cells, Pt.slots] at X17 l17 y17 z17 st17 hQ17
  subst l17 y17 z17
  obtain ⟨b17_o0, rfl, Nq17, Kq17, sz17_0, P17_0, P17_1⟩ := hQ17
  have N17 := Fr.app N6 Nq17
  have B18 := (B8.wr W6)
  have ne_a1_b17_o0 : a1 ≠ b17_o0 := Nat.ne_of_lt (Nat.lt_of_lt_of_le B18.lt sz17_0)
  have B19 := ((E_a2.keep Kq3).wr W6)
  have ne_a2_b17_o0 : a2 ≠ b17_o0 := Nat.ne_of_lt (Nat.lt_of_lt_of_le B19.lt sz17_0)
  have ne_a3_b17_o0 : a3 ≠ b17_o0 := Nat.ne_of_lt (Nat.lt_of_lt_of_le B15.lt sz17_0)
  have B20 := (P3_0.other W6 (Ne.symm ne_a1_b3_o0))
  have ne_b3_o0_b17_o0 : b3_o0 ≠ b17_o0 := Nat.ne_of_lt (Nat.lt_of_lt_of_le B20.lt sz17_0)
  have g_b17_o0 : n0 ≤ b17_o0 := Nat.le_trans Z9 sz17_0
  have sz_b17_o0 : h0.size ≤ b17_o0 := Nat.le_trans K10.1 sz17_0
  have e17 : T17.heap = T17.heap := rfl
  have Z21 := Nat.le_trans Z9 Kq17.1
  have K22 : Keep h0 _ [a1] := K10.trans Kq17 all0
  refine own_st st17 ?_
  show own_E p e below _ T17 (mkF m 27 #[rv a1] [.ref b17_o0, .ref a1])
  have B24 := (B12.keep Kq17 nin0)
  have B25 := (B18.keep Kq17)
  obtain ⟨T23, h23, X23, e23, W23, st23⟩ := putF X17 hx hZ hown (host := "") (Or.inl (own_w hw 12 rfl)) Via.refl e17 B24 B25 (Or.inl (own_w hw 13 rfl)) (own_w hw 1 rfl) (ty := (.array .int)) (by decide) rfl rfl (g := (mkF m 27 #[rv a1] [.ref b17_o0, .ref a1])) rfl rfl (hb hby own_d_prog_14_method_5_27)
  have N23 := Fr.snoc X23 N17 g_a1
  have Fw23 := B24.same W23
  have Z26 := Nat.le_trans Z21 (Keep.of_wr W23).1
  have K27 : Keep h0 _ [a1] := K22.wr W23 (Or.inl (List.mem_of_getElem? (i := 0) rfl))
  refine own_st st23 ?_
  show own_E p e below _ T23 (mkF m 30 #[rv a1] [])
  refine own_retV X23 hx Bd.notSynchronized Bd.returns (hb hby own_d_prog_14_method_5_30) (by decide) (by decide) ?_
  have B28 := (B25.wr W23)
  have B29 := ((Fw6.keep Kq17 nin0).other W23 (Or.inr (slot_ne (Or.inl (own_w hw 11 rfl)) (Or.inl (own_w hw 13 rfl)) (by decide) (t := (.array .int)) (t' := (.array .int)) (by decide) (by decide))))
  have B30 := ((((F_minLength_a1.keep Kq3 nin0).other W6 (Or.inr (slot_ne (Or.inl (own_w hw 16 rfl)) (Or.inl (own_w hw 11 rfl)) (by decide) (t := .int) (t' := (.array .int)) (by decide) (by decide)))).keep Kq17 nin0).other W23 (Or.inr (slot_ne (Or.inl (own_w hw 16 rfl)) (Or.inl (own_w hw 13 rfl)) (by decide) (t := .int) (t' := (.array .int)) (by decide) (by decide))))
  have B31 := ((((F_maxFrequency_a1.keep Kq3 nin0).other W6 (Or.inr (slot_ne (Or.inl (own_w hw 18 rfl)) (Or.inl (own_w hw 11 rfl)) (by decide) (t := .int) (t' := (.array .int)) (by decide) (by decide)))).keep Kq17 nin0).other W23 (Or.inr (slot_ne (Or.inl (own_w hw 18 rfl)) (Or.inl (own_w hw 13 rfl)) (by decide) (t := .int) (t' := (.array .int)) (by decide) (by decide))))
  have B32 := ((B14.keep Kq17 nin0).other W23 (Or.inr (slot_ne (Or.inl (own_w hw 26 rfl)) (Or.inl (own_w hw 13 rfl)) (by decide) (t := .int) (t' := (.array .int)) (by decide) (by decide))))
  have B33 := ((B20.keep Kq17 nin0).other W23 (Ne.symm ne_a1_b3_o0))
  have B34 := (((P3_1.wr W6).keep Kq17).wr W23)
  have B35 := (P17_0.other W23 (Ne.symm ne_a1_b17_o0))
  have B36 := (P17_1.wr W23)
  show own_trim2_Q Z a1 a2 a3 kc1 kc2 q1 q2 ea0 ea1 eb0 eb1 h0 n0 _ T23.heap _
  rw [e23]
  exact ⟨b3_o0, b17_o0, rfl, N23, K27, sz_b3_o0, sz_b17_o0, ne_b3_o0_b17_o0, B28, B29, Fw23, B30, B31, B32, B33, B34, B35, B36⟩
def own_trim3_Q (Z : State) (a1 : Addr) (a2 : Addr) (a3 : Addr) (kc1 : ClassId) (kc2 : ClassId) (q1 : Int32) (q2 : Int32) (ea0 : Int32) (ea1 : Int32) (ea2 : Int32) (ea3 : Int32) (eb0 : Int32) (eb1 : Int32) (eb2 : Int32) (eb3 : Int32) (h0 : Heap) (n0 : Nat) (v : Option Value) (h : Heap) (L : List Loc) : Prop := ∃ (o0 : Addr), ∃ (o1 : Addr), ∃ (o2 : ClassId), ∃ (o3 : ClassId), v = none ∧ Fr n0 L ∧ Keep h0 h [a1] ∧ h0.size ≤ o0 ∧ h0.size ≤ o1 ∧ o0 ≠ o1 ∧ Exa Z h a1 "com/example/lean_scorer/leanscorer/Postings" ∧ Fld Z h a1 "com/example/lean_scorer/leanscorer/Postings" "documents" "[I" (.ref o0) ∧ Fld Z h a1 "com/example/lean_scorer/leanscorer/Postings" "frequencies" "[I" (.ref o1) ∧ Fld Z h a1 "com/example/lean_scorer/leanscorer/Postings" "minLength" "I" (.int q1) ∧ Fld Z h a1 "com/example/lean_scorer/leanscorer/Postings" "maxFrequency" "I" (.int q2) ∧ Fld Z h a1 "com/example/lean_scorer/leanscorer/Postings" "size" "I" (.int (3 : Int32)) ∧ Arv Z h o0 o2 .int (3 : Int32) [(.int ea0), (.int ea1), (.int ea2)] (.int (0 : Int32)) ∧ Exa Z h o0 "[I" ∧ Arv Z h o1 o3 .int (3 : Int32) [(.int eb0), (.int eb1), (.int eb2)] (.int (0 : Int32)) ∧ Exa Z h o1 "[I"
theorem own_trim3_ef (m : MethodId) (a1 : Addr) (a2 : Addr) (a3 : Addr) (kc1 : ClassId) (kc2 : ClassId) (q1 : Int32) (q2 : Int32) (ea0 : Int32) (ea1 : Int32) (ea2 : Int32) (ea3 : Int32) (eb0 : Int32) (eb1 : Int32) (eb2 : Int32) (eb3 : Int32) : entryFrame m #[(.ref a1)] 1 = mkF m 0 #[.val (.ref a1)] [] := by first | (simp [entryFrame, mkF, argsToLocals, Value.category]; done) | rfl
set_option maxRecDepth 65536 in
set_option maxHeartbeats 40000000 in
theorem own_trim3 (l : Launch) (Z : State) (a0 : Array Value) (hw : ∀ d ∈ tables_1, d.before a0 Z = true) (ws : List Jvm.Cond) (a1 : Addr) (a2 : Addr) (a3 : Addr) (kc1 : ClassId) (kc2 : ClassId) (q1 : Int32) (q2 : Int32) (ea0 : Int32) (ea1 : Int32) (ea2 : Int32) (ea3 : Int32) (eb0 : Int32) (eb1 : Int32) (eb2 : Int32) (eb3 : Int32) (h0 : Heap) (n0 : Nat) (Z0 : n0 ≤ h0.size) (E_a1 : Exa Z h0 a1 "com/example/lean_scorer/leanscorer/Postings") (E_a2 : Exa Z h0 a2 "[I") (E_a3 : Exa Z h0 a3 "[I") (F_documents_a1 : Fld Z h0 a1 "com/example/lean_scorer/leanscorer/Postings" "documents" "[I" (.ref a2)) (F_frequencies_a1 : Fld Z h0 a1 "com/example/lean_scorer/leanscorer/Postings" "frequencies" "[I" (.ref a3)) (F_minLength_a1 : Fld Z h0 a1 "com/example/lean_scorer/leanscorer/Postings" "minLength" "I" (.int q1)) (F_maxFrequency_a1 : Fld Z h0 a1 "com/example/lean_scorer/leanscorer/Postings" "maxFrequency" "I" (.int q2)) (F_size_a1 : Fld Z h0 a1 "com/example/lean_scorer/leanscorer/Postings" "size" "I" (.int (3 : Int32))) (V_a2 : Arv Z h0 a2 kc1 .int (4 : Int32) [(.int ea0), (.int ea1), (.int ea2), (.int ea3)] (.int (0 : Int32))) (V_a3 : Arv Z h0 a3 kc2 .int (4 : Int32) [(.int eb0), (.int eb1), (.int eb2), (.int eb3)] (.int (0 : Int32))) (ne12 : a1 ≠ a2) (ne13 : a1 ≠ a3) (ne23 : a2 ≠ a3) (g_a1 : n0 ≤ a1) :
    MetFree l own_y5 (head1 (Jvm.Cond.code own_y5 prog_14_method_5_code 1 none :: ws) ({ frames := 2, cells := 2, slots := 6, locals := 55 } : Room)) (fun a U => a = #[(.ref a1)] ∧ Z.Warmed39 U.vm ∧ U.heap = h0) (fun _ _ _ _ _ => True) (fun _ U o U' => ∃ v L, o = .returned v ∧ own_trim3_Q Z a1 a2 a3 kc1 kc2 q1 q2 ea0 ea1 ea2 ea3 eb0 eb1 eb2 eb3 h0 n0 v U'.heap L ∧ FrameEnd U o U' L ({ frames := 2, cells := 2, slots := 6, locals := 55 } : Room).cells ({ frames := 2, cells := 2, slots := 6, locals := 55 } : Room).slots) := by
  refine MetFree.of_bodySF (plainFor_of_name own_pn_Postings) hisR ?_
  intro p e s m args below meth c s₁ Bd hml0 hP hK
  obtain ⟨rfl, hZ, hh⟩ := hP
  have hx := Bd.exec
  have hby := Bd.bytes
  have hml : c.maxLocals = 1 := hml0
  have hown : s.vm.findClass "com/example/lean_scorer/leanscorer/Postings" = some m.cls := findClass_of_methodNamed Bd.named
  have hnm := (name_of_methodNamed Bd.named Bd.method).1
  have X0 : Stand p l e ({ frames := 2, cells := 2, slots := 6, locals := 55 } : Room) s m #[(.ref a1)] below meth c s₁ [] 0 0 := Stand.of_body Bd
  have e0 : s₁.heap = h0 := by rw [← hh, Bd.state]; rfl
  show own_E p e below (own_K (own_trim3_Q Z a1 a2 a3 kc1 kc2 q1 q2 ea0 ea1 ea2 ea3 eb0 eb1 eb2 eb3 h0 n0) s ({ frames := 2, cells := 2, slots := 6, locals := 55 } : Room).cells ({ frames := 2, cells := 2, slots := 6, locals := 55 } : Room).slots) s₁ (entryFrame m #[(.ref a1)] 1)
  refine own_pre (own_trim3_ef m a1 a2 a3 kc1 kc2 q1 q2 ea0 ea1 ea2 ea3 eb0 eb1 eb2 eb3) ?_
  show own_E p e below _ s₁ (mkF m 0 #[rv a1] [])
  refine own_st (fun t k => XS.aloadN X0.here hx rfl (hb hby own_d_prog_14_method_5_0) rfl rfl k) ?_
  show own_E p e below _ s₁ (mkF m 1 #[rv a1] [.ref a1])
  refine own_st (fun t k => XS.aloadN X0.here hx rfl (hb hby own_d_prog_14_method_5_1) rfl rfl k) ?_
  show own_E p e below _ s₁ (mkF m 2 #[rv a1] [.ref a1, .ref a1])
  obtain ⟨T1, X1, e1, st1⟩ := getF X0 hx hZ hown (host := "") (Or.inl (own_w hw 10 rfl)) Via.refl e0 F_documents_a1 (g := (mkF m 2 #[rv a1] [.ref a1, .ref a1])) rfl rfl (hb hby own_d_prog_14_method_5_2)
  refine own_st st1 ?_
  show own_E p e below _ T1 (mkF m 5 #[rv a1] [.ref a2, .ref a1])
  refine own_st (fun t k => XS.aloadN X1.here hx rfl (hb hby own_d_prog_14_method_5_5) rfl rfl k) ?_
  show own_E p e below _ T1 (mkF m 6 #[rv a1] [.ref a1, .ref a2, .ref a1])
  obtain ⟨T2, X2, e2, st2⟩ := getF X1 hx hZ hown (host := "") (Or.inl (own_w hw 25 rfl)) Via.refl e1 F_size_a1 (g := (mkF m 6 #[rv a1] [.ref a1, .ref a2, .ref a1])) rfl rfl (hb hby own_d_prog_14_method_5_6)
  refine own_st st2 ?_
  show own_E p e below _ T2 (mkF m 9 #[rv a1] [.int 3, .ref a2, .ref a1])
  obtain ⟨_, _, ⟨T3, L3, k3, n3⟩, -, X3, ⟨Lc3, hQ3, l3, y3, z3⟩, st3⟩ := Jvm.LawKit.callS X2 hx (y := own_y2) hown (mvT hZ (own_w hw 27 rfl)) (mvT hZ (own_w hw 28 rfl)) (mvT hZ (own_w hw 29 rfl)) (mvT hZ (own_w hw 30 rfl)) (by decide) (backOf (W := 1) (own_copy4_3 l Z a0 hw [] a2 kc1 ea0 ea1 ea2 ea3 h0 n0 Z0 E_a2 V_a2) hZ (own_w hw 30 rfl) (own_w hw 29 rfl) (by decide) (by decide)) (g := (mkF m 9 #[rv a1] [.int 3, .ref a2, .ref a1])) rfl (by rw [hml]; rfl) (argsL := [(.ref a2), (.int (3 : Int32))]) (rest := [(.ref a1)]) (lenOf own_pd_6 rfl) rfl (by show 2 * 0 + _ ≤ _; exact Nat.le_of_eq rfl) (hb hby own_d_prog_14_method_5_9) (fun _ _ => ⟨rfl, e2, (by decide : 0 + 1 ≤ _), (by decide : 0 + 3 ≤ _)⟩)
  dsimp only [Pt.U, Pt.locs, Pt.cells, Pt.slots] at X3 l3 y3 z3 st3 hQ3
  subst l3 y3 z3
  obtain ⟨b3_o0, k3_o1, rfl, Nq3, Kq3, sz3_0, P3_0, P3_1⟩ := hQ3
  have N3 := Fr.app (Fr.nil n0) Nq3
  have ne_a1_b3_o0 : a1 ≠ b3_o0 := Nat.ne_of_lt (Nat.lt_of_lt_of_le E_a1.lt sz3_0)
  have ne_a2_b3_o0 : a2 ≠ b3_o0 := Nat.ne_of_lt (Nat.lt_of_lt_of_le E_a2.lt sz3_0)
  have ne_a3_b3_o0 : a3 ≠ b3_o0 := Nat.ne_of_lt (Nat.lt_of_lt_of_le E_a3.lt sz3_0)
  have g_b3_o0 : n0 ≤ b3_o0 := Nat.le_trans Z0 sz3_0
  have sz_b3_o0 : h0.size ≤ b3_o0 := Nat.le_trans (Keep.refl h0 [a1]).1 sz3_0
  have e3 : T3.heap = T3.heap := rfl
  have Z4 := Nat.le_trans Z0 Kq3.1
  have K5 : Keep h0 _ [a1] := (Keep.refl h0 [a1]).trans Kq3 all0
  refine own_st st3 ?_
  show own_E p e below _ T3 (mkF m 12 #[rv a1] [.ref b3_o0, .ref a1])
  have B7 := (F_documents_a1.keep Kq3 nin0)
  have B8 := (E_a1.keep Kq3)
  obtain ⟨T6, h6, X6, e6, W6, st6⟩ := putF X3 hx hZ hown (host := "") (Or.inl (own_w hw 10 rfl)) Via.refl e3 B7 B8 (Or.inl (own_w hw 11 rfl)) (own_w hw 1 rfl) (ty := (.array .int)) (by decide) rfl rfl (g := (mkF m 12 #[rv a1] [.ref b3_o0, .ref a1])) rfl rfl (hb hby own_d_prog_14_method_5_12)
  have N6 := Fr.snoc X6 N3 g_a1
  have Fw6 := B7.same W6
  have Z9 := Nat.le_trans Z4 (Keep.of_wr W6).1
  have K10 : Keep h0 _ [a1] := K5.wr W6 (Or.inl (List.mem_of_getElem? (i := 0) rfl))
  refine own_st st6 ?_
  show own_E p e below _ T6 (mkF m 15 #[rv a1] [])
  refine own_st (fun t k => XS.aloadN X6.here hx rfl (hb hby own_d_prog_14_method_5_15) rfl rfl k) ?_
  show own_E p e below _ T6 (mkF m 16 #[rv a1] [.ref a1])
  refine own_st (fun t k => XS.aloadN X6.here hx rfl (hb hby own_d_prog_14_method_5_16) rfl rfl k) ?_
  show own_E p e below _ T6 (mkF m 17 #[rv a1] [.ref a1, .ref a1])
  have B12 := ((F_frequencies_a1.keep Kq3 nin0).other W6 (Or.inr (slot_ne (Or.inl (own_w hw 13 rfl)) (Or.inl (own_w hw 11 rfl)) (by decide) (t := (.array .int)) (t' := (.array .int)) (by decide) (by decide))))
  obtain ⟨T11, X11, e11, st11⟩ := getF X6 hx hZ hown (host := "") (Or.inl (own_w hw 12 rfl)) Via.refl e6 B12 (g := (mkF m 17 #[rv a1] [.ref a1, .ref a1])) rfl rfl (hb hby own_d_prog_14_method_5_17)
  refine own_st st11 ?_
  show own_E p e below _ T11 (mkF m 20 #[rv a1] [.ref a3, .ref a1])
  refine own_st (fun t k => XS.aloadN X11.here hx rfl (hb hby own_d_prog_14_method_5_20) rfl rfl k) ?_
  show own_E p e below _ T11 (mkF m 21 #[rv a1] [.ref a1, .ref a3, .ref a1])
  have B14 := ((F_size_a1.keep Kq3 nin0).other W6 (Or.inr (slot_ne (Or.inl (own_w hw 26 rfl)) (Or.inl (own_w hw 11 rfl)) (by decide) (t := .int) (t' := (.array .int)) (by decide) (by decide))))
  obtain ⟨T13, X13, e13, st13⟩ := getF X11 hx hZ hown (host := "") (Or.inl (own_w hw 25 rfl)) Via.refl e11 B14 (g := (mkF m 21 #[rv a1] [.ref a1, .ref a3, .ref a1])) rfl rfl (hb hby own_d_prog_14_method_5_21)
  refine own_st st13 ?_
  show own_E p e below _ T13 (mkF m 24 #[rv a1] [.int 3, .ref a3, .ref a1])
  have B15 := ((E_a3.keep Kq3).wr W6)
  have B16 := ((V_a3.keep Kq3 nin0).other W6 (Ne.symm ne13))
  obtain ⟨_, _, ⟨T17, L17, k17, n17⟩, -, X17, ⟨Lc17, hQ17, l17, y17, z17⟩, st17⟩ := Jvm.LawKit.callS X13 hx (y := own_y2) hown (mvT hZ (own_w hw 27 rfl)) (mvT hZ (own_w hw 28 rfl)) (mvT hZ (own_w hw 29 rfl)) (mvT hZ (own_w hw 30 rfl)) (by decide) (backOf (W := 1) (own_copy4_3 l Z a0 hw [] a3 kc2 eb0 eb1 eb2 eb3 h6 n0 Z9 B15 B16) hZ (own_w hw 30 rfl) (own_w hw 29 rfl) (by decide) (by decide)) (g := (mkF m 24 #[rv a1] [.int 3, .ref a3, .ref a1])) rfl (by rw [hml]; rfl) (argsL := [(.ref a3), (.int (3 : Int32))]) (rest := [(.ref a1)]) (lenOf own_pd_6 rfl) rfl (by show 2 * 0 + _ ≤ _; exact Nat.le_of_eq rfl) (hb hby own_d_prog_14_method_5_24) (fun _ _ => ⟨rfl, e13, (by decide : 1 + 1 ≤ _), (by decide : 3 + 3 ≤ _)⟩)
  dsimp only [Pt.U, Pt.locs, Pt.cells, Pt.slots] at X17 l17 y17 z17 st17 hQ17
  subst l17 y17 z17
  obtain ⟨b17_o0, k17_o1, rfl, Nq17, Kq17, sz17_0, P17_0, P17_1⟩ := hQ17
  have N17 := Fr.app N6 Nq17
  have B18 := (B8.wr W6)
  have ne_a1_b17_o0 : a1 ≠ b17_o0 := Nat.ne_of_lt (Nat.lt_of_lt_of_le B18.lt sz17_0)
  have B19 := ((E_a2.keep Kq3).wr W6)
  have ne_a2_b17_o0 : a2 ≠ b17_o0 := Nat.ne_of_lt (Nat.lt_of_lt_of_le B19.lt sz17_0)
  have ne_a3_b17_o0 : a3 ≠ b17_o0 := Nat.ne_of_lt (Nat.lt_of_lt_of_le B15.lt sz17_0)
  have B20 := (P3_0.other W6 (Ne.symm ne_a1_b3_o0))
  have ne_b3_o0_b17_o0 : b3_o0 ≠ b17_o0 := Nat.ne_of_lt (Nat.lt_of_lt_of_le B20.lt sz17_0)
  have g_b17_o0 : n0 ≤ b17_o0 := Nat.le_trans Z9 sz17_0
  have sz_b17_o0 : h0.size ≤ b17_o0 := Nat.le_trans K10.1 sz17_0
  have e17 : T17.heap = T17.heap := rfl
  have Z21 := Nat.le_trans Z9 Kq17.1
  have K22 : Keep h0 _ [a1] := K10.trans Kq17 all0
  refine own_st st17 ?_
  show own_E p e below _ T17 (mkF m 27 #[rv a1] [.ref b17_o0, .ref a1])
  have B24 := (B12.keep Kq17 nin0)
  have B25 := (B18.keep Kq17)
  obtain ⟨T23, h23, X23, e23, W23, st23⟩ := putF X17 hx hZ hown (host := "") (Or.inl (own_w hw 12 rfl)) Via.refl e17 B24 B25 (Or.inl (own_w hw 13 rfl)) (own_w hw 1 rfl) (ty := (.array .int)) (by decide) rfl rfl (g := (mkF m 27 #[rv a1] [.ref b17_o0, .ref a1])) rfl rfl (hb hby own_d_prog_14_method_5_27)
  have N23 := Fr.snoc X23 N17 g_a1
  have Fw23 := B24.same W23
  have Z26 := Nat.le_trans Z21 (Keep.of_wr W23).1
  have K27 : Keep h0 _ [a1] := K22.wr W23 (Or.inl (List.mem_of_getElem? (i := 0) rfl))
  refine own_st st23 ?_
  show own_E p e below _ T23 (mkF m 30 #[rv a1] [])
  refine own_retV X23 hx Bd.notSynchronized Bd.returns (hb hby own_d_prog_14_method_5_30) (by decide) (by decide) ?_
  have B28 := (B25.wr W23)
  have B29 := ((Fw6.keep Kq17 nin0).other W23 (Or.inr (slot_ne (Or.inl (own_w hw 11 rfl)) (Or.inl (own_w hw 13 rfl)) (by decide) (t := (.array .int)) (t' := (.array .int)) (by decide) (by decide))))
  have B30 := ((((F_minLength_a1.keep Kq3 nin0).other W6 (Or.inr (slot_ne (Or.inl (own_w hw 16 rfl)) (Or.inl (own_w hw 11 rfl)) (by decide) (t := .int) (t' := (.array .int)) (by decide) (by decide)))).keep Kq17 nin0).other W23 (Or.inr (slot_ne (Or.inl (own_w hw 16 rfl)) (Or.inl (own_w hw 13 rfl)) (by decide) (t := .int) (t' := (.array .int)) (by decide) (by decide))))
  have B31 := ((((F_maxFrequency_a1.keep Kq3 nin0).other W6 (Or.inr (slot_ne (Or.inl (own_w hw 18 rfl)) (Or.inl (own_w hw 11 rfl)) (by decide) (t := .int) (t' := (.array .int)) (by decide) (by decide)))).keep Kq17 nin0).other W23 (Or.inr (slot_ne (Or.inl (own_w hw 18 rfl)) (Or.inl (own_w hw 13 rfl)) (by decide) (t := .int) (t' := (.array .int)) (by decide) (by decide))))
  have B32 := ((B14.keep Kq17 nin0).other W23 (Or.inr (slot_ne (Or.inl (own_w hw 26 rfl)) (Or.inl (own_w hw 13 rfl)) (by decide) (t := .int) (t' := (.array .int)) (by decide) (by decide))))
  have B33 := ((B20.keep Kq17 nin0).other W23 (Ne.symm ne_a1_b3_o0))
  have B34 := (((P3_1.wr W6).keep Kq17).wr W23)
  have B35 := (P17_0.other W23 (Ne.symm ne_a1_b17_o0))
  have B36 := (P17_1.wr W23)
  show own_trim3_Q Z a1 a2 a3 kc1 kc2 q1 q2 ea0 ea1 ea2 ea3 eb0 eb1 eb2 eb3 h0 n0 _ T23.heap _
  rw [e23]
  exact ⟨b3_o0, b17_o0, k3_o1, k17_o1, rfl, N23, K27, sz_b3_o0, sz_b17_o0, ne_b3_o0_b17_o0, B28, B29, Fw23, B30, B31, B32, B33, B34, B35, B36⟩
def own_trim4_Q (Z : State) (a1 : Addr) (a2 : Addr) (a3 : Addr) (kc1 : ClassId) (kc2 : ClassId) (q1 : Int32) (q2 : Int32) (ea0 : Int32) (ea1 : Int32) (ea2 : Int32) (ea3 : Int32) (eb0 : Int32) (eb1 : Int32) (eb2 : Int32) (eb3 : Int32) (h0 : Heap) (n0 : Nat) (v : Option Value) (h : Heap) (L : List Loc) : Prop := ∃ (o0 : Addr), ∃ (o1 : Addr), v = none ∧ Fr n0 L ∧ Keep h0 h [a1] ∧ h0.size ≤ o0 ∧ h0.size ≤ o1 ∧ o0 ≠ o1 ∧ Exa Z h a1 "com/example/lean_scorer/leanscorer/Postings" ∧ Fld Z h a1 "com/example/lean_scorer/leanscorer/Postings" "documents" "[I" (.ref o0) ∧ Fld Z h a1 "com/example/lean_scorer/leanscorer/Postings" "frequencies" "[I" (.ref o1) ∧ Fld Z h a1 "com/example/lean_scorer/leanscorer/Postings" "minLength" "I" (.int q1) ∧ Fld Z h a1 "com/example/lean_scorer/leanscorer/Postings" "maxFrequency" "I" (.int q2) ∧ Fld Z h a1 "com/example/lean_scorer/leanscorer/Postings" "size" "I" (.int (4 : Int32)) ∧ Arv Z h o0 kc1 .int (4 : Int32) [(.int ea0), (.int ea1), (.int ea2), (.int ea3)] (.int (0 : Int32)) ∧ Exa Z h o0 "[I" ∧ Arv Z h o1 kc2 .int (4 : Int32) [(.int eb0), (.int eb1), (.int eb2), (.int eb3)] (.int (0 : Int32)) ∧ Exa Z h o1 "[I"
theorem own_trim4_ef (m : MethodId) (a1 : Addr) (a2 : Addr) (a3 : Addr) (kc1 : ClassId) (kc2 : ClassId) (q1 : Int32) (q2 : Int32) (ea0 : Int32) (ea1 : Int32) (ea2 : Int32) (ea3 : Int32) (eb0 : Int32) (eb1 : Int32) (eb2 : Int32) (eb3 : Int32) : entryFrame m #[(.ref a1)] 1 = mkF m 0 #[.val (.ref a1)] [] := by first | (simp [entryFrame, mkF, argsToLocals, Value.category]; done) | rfl
set_option maxRecDepth 65536 in
set_option maxHeartbeats 40000000 in
theorem own_trim4 (l : Launch) (Z : State) (a0 : Array Value) (hw : ∀ d ∈ tables_1, d.before a0 Z = true) (ws : List Jvm.Cond) (a1 : Addr) (a2 : Addr) (a3 : Addr) (kc1 : ClassId) (kc2 : ClassId) (q1 : Int32) (q2 : Int32) (ea0 : Int32) (ea1 : Int32) (ea2 : Int32) (ea3 : Int32) (eb0 : Int32) (eb1 : Int32) (eb2 : Int32) (eb3 : Int32) (h0 : Heap) (n0 : Nat) (Z0 : n0 ≤ h0.size) (E_a1 : Exa Z h0 a1 "com/example/lean_scorer/leanscorer/Postings") (E_a2 : Exa Z h0 a2 "[I") (E_a3 : Exa Z h0 a3 "[I") (F_documents_a1 : Fld Z h0 a1 "com/example/lean_scorer/leanscorer/Postings" "documents" "[I" (.ref a2)) (F_frequencies_a1 : Fld Z h0 a1 "com/example/lean_scorer/leanscorer/Postings" "frequencies" "[I" (.ref a3)) (F_minLength_a1 : Fld Z h0 a1 "com/example/lean_scorer/leanscorer/Postings" "minLength" "I" (.int q1)) (F_maxFrequency_a1 : Fld Z h0 a1 "com/example/lean_scorer/leanscorer/Postings" "maxFrequency" "I" (.int q2)) (F_size_a1 : Fld Z h0 a1 "com/example/lean_scorer/leanscorer/Postings" "size" "I" (.int (4 : Int32))) (V_a2 : Arv Z h0 a2 kc1 .int (4 : Int32) [(.int ea0), (.int ea1), (.int ea2), (.int ea3)] (.int (0 : Int32))) (V_a3 : Arv Z h0 a3 kc2 .int (4 : Int32) [(.int eb0), (.int eb1), (.int eb2), (.int eb3)] (.int (0 : Int32))) (ne12 : a1 ≠ a2) (ne13 : a1 ≠ a3) (ne23 : a2 ≠ a3) (g_a1 : n0 ≤ a1) :
    MetFree l own_y5 (head1 (Jvm.Cond.code own_y5 prog_14_method_5_code 1 none :: ws) ({ frames := 2, cells := 2, slots := 8, locals := 29 } : Room)) (fun a U => a = #[(.ref a1)] ∧ Z.Warmed39 U.vm ∧ U.heap = h0) (fun _ _ _ _ _ => True) (fun _ U o U' => ∃ v L, o = .returned v ∧ own_trim4_Q Z a1 a2 a3 kc1 kc2 q1 q2 ea0 ea1 ea2 ea3 eb0 eb1 eb2 eb3 h0 n0 v U'.heap L ∧ FrameEnd U o U' L ({ frames := 2, cells := 2, slots := 8, locals := 29 } : Room).cells ({ frames := 2, cells := 2, slots := 8, locals := 29 } : Room).slots) := by
  refine MetFree.of_bodySF (plainFor_of_name own_pn_Postings) hisR ?_
  intro p e s m args below meth c s₁ Bd hml0 hP hK
  obtain ⟨rfl, hZ, hh⟩ := hP
  have hx := Bd.exec
  have hby := Bd.bytes
  have hml : c.maxLocals = 1 := hml0
  have hown : s.vm.findClass "com/example/lean_scorer/leanscorer/Postings" = some m.cls := findClass_of_methodNamed Bd.named
  have hnm := (name_of_methodNamed Bd.named Bd.method).1
  have X0 : Stand p l e ({ frames := 2, cells := 2, slots := 8, locals := 29 } : Room) s m #[(.ref a1)] below meth c s₁ [] 0 0 := Stand.of_body Bd
  have e0 : s₁.heap = h0 := by rw [← hh, Bd.state]; rfl
  show own_E p e below (own_K (own_trim4_Q Z a1 a2 a3 kc1 kc2 q1 q2 ea0 ea1 ea2 ea3 eb0 eb1 eb2 eb3 h0 n0) s ({ frames := 2, cells := 2, slots := 8, locals := 29 } : Room).cells ({ frames := 2, cells := 2, slots := 8, locals := 29 } : Room).slots) s₁ (entryFrame m #[(.ref a1)] 1)
  refine own_pre (own_trim4_ef m a1 a2 a3 kc1 kc2 q1 q2 ea0 ea1 ea2 ea3 eb0 eb1 eb2 eb3) ?_
  show own_E p e below _ s₁ (mkF m 0 #[rv a1] [])
  refine own_st (fun t k => XS.aloadN X0.here hx rfl (hb hby own_d_prog_14_method_5_0) rfl rfl k) ?_
  show own_E p e below _ s₁ (mkF m 1 #[rv a1] [.ref a1])
  refine own_st (fun t k => XS.aloadN X0.here hx rfl (hb hby own_d_prog_14_method_5_1) rfl rfl k) ?_
  show own_E p e below _ s₁ (mkF m 2 #[rv a1] [.ref a1, .ref a1])
  obtain ⟨T1, X1, e1, st1⟩ := getF X0 hx hZ hown (host := "") (Or.inl (own_w hw 10 rfl)) Via.refl e0 F_documents_a1 (g := (mkF m 2 #[rv a1] [.ref a1, .ref a1])) rfl rfl (hb hby own_d_prog_14_method_5_2)
  refine own_st st1 ?_
  show own_E p e below _ T1 (mkF m 5 #[rv a1] [.ref a2, .ref a1])
  refine own_st (fun t k => XS.aloadN X1.here hx rfl (hb hby own_d_prog_14_method_5_5) rfl rfl k) ?_
  show own_E p e below _ T1 (mkF m 6 #[rv a1] [.ref a1, .ref a2, .ref a1])
  obtain ⟨T2, X2, e2, st2⟩ := getF X1 hx hZ hown (host := "") (Or.inl (own_w hw 25 rfl)) Via.refl e1 F_size_a1 (g := (mkF m 6 #[rv a1] [.ref a1, .ref a2, .ref a1])) rfl rfl (hb hby own_d_prog_14_method_5_6)
  refine own_st st2 ?_
  show own_E p e below _ T2 (mkF m 9 #[rv a1] [.int 4, .ref a2, .ref a1])
  obtain ⟨_, _, ⟨T3, L3, k3, n3⟩, -, X3, ⟨Lc3, hQ3, l3, y3, z3⟩, st3⟩ := Jvm.LawKit.callS X2 hx (y := own_y2) hown (mvT hZ (own_w hw 27 rfl)) (mvT hZ (own_w hw 28 rfl)) (mvT hZ (own_w hw 29 rfl)) (mvT hZ (own_w hw 30 rfl)) (by decide) (backOf (W := 1) (own_copy4_4 l Z a0 hw [] a2 kc1 ea0 ea1 ea2 ea3 h0 n0 Z0 E_a2 V_a2) hZ (own_w hw 30 rfl) (own_w hw 29 rfl) (by decide) (by decide)) (g := (mkF m 9 #[rv a1] [.int 4, .ref a2, .ref a1])) rfl (by rw [hml]; rfl) (argsL := [(.ref a2), (.int (4 : Int32))]) (rest := [(.ref a1)]) (lenOf own_pd_6 rfl) rfl (by show 2 * 0 + _ ≤ _; exact Nat.le_of_eq rfl) (hb hby own_d_prog_14_method_5_9) (fun _ _ => ⟨rfl, e2, (by decide : 0 + 1 ≤ _), (by decide : 0 + 4 ≤ _)⟩)
  dsimp only [Pt.U, Pt.locs, Pt.cells, Pt.slots] at X3 l3 y3 z3 st3 hQ3
  subst l3 y3 z3
  obtain ⟨b3_o0, rfl, Nq3, Kq3, sz3_0, P3_0, P3_1⟩ := hQ3
  have N3 := Fr.app (Fr.nil n0) Nq3
  have ne_a1_b3_o0 : a1 ≠ b3_o0 := Nat.ne_of_lt (Nat.lt_of_lt_of_le E_a1.lt sz3_0)
  have ne_a2_b3_o0 : a2 ≠ b3_o0 := Nat.ne_of_lt (Nat.lt_of_lt_of_le E_a2.lt sz3_0)
  have ne_a3_b3_o0 : a3 ≠ b3_o0 := Nat.ne_of_lt (Nat.lt_of_lt_of_le E_a3.lt sz3_0)
  have g_b3_o0 : n0 ≤ b3_o0 := Nat.le_trans Z0 sz3_0
  have sz_b3_o0 : h0.size ≤ b3_o0 := Nat.le_trans (Keep.refl h0 [a1]).1 sz3_0
  have e3 : T3.heap = T3.heap := rfl
  have Z4 := Nat.le_trans Z0 Kq3.1
  have K5 : Keep h0 _ [a1] := (Keep.refl h0 [a1]).trans Kq3 all0
  refine own_st st3 ?_
  show own_E p e below _ T3 (mkF m 12 #[rv a1] [.ref b3_o0, .ref a1])
  have B7 := (F_documents_a1.keep Kq3 nin0)
  have B8 := (E_a1.keep Kq3)
  obtain ⟨T6, h6, X6, e6, W6, st6⟩ := putF X3 hx hZ hown (host := "") (Or.inl (own_w hw 10 rfl)) Via.refl e3 B7 B8 (Or.inl (own_w hw 11 rfl)) (own_w hw 1 rfl) (ty := (.array .int)) (by decide) rfl rfl (g := (mkF m 12 #[rv a1] [.ref b3_o0, .ref a1])) rfl rfl (hb hby own_d_prog_14_method_5_12)
  have N6 := Fr.snoc X6 N3 g_a1
  have Fw6 := B7.same W6
  have Z9 := Nat.le_trans Z4 (Keep.of_wr W6).1
  have K10 : Keep h0 _ [a1] := K5.wr W6 (Or.inl (List.mem_of_getElem? (i := 0) rfl))
  refine own_st st6 ?_
  show own_E p e below _ T6 (mkF m 15 #[rv a1] [])
  refine own_st (fun t k => XS.aloadN X6.here hx rfl (hb hby own_d_prog_14_method_5_15) rfl rfl k) ?_
  show own_E p e below _ T6 (mkF m 16 #[rv a1] [.ref a1])
  refine own_st (fun t k => XS.aloadN X6.here hx rfl (hb hby own_d_prog_14_method_5_16) rfl rfl k) ?_
  show own_E p e below _ T6 (mkF m 17 #[rv a1] [.ref a1, .ref a1])
  have B12 := ((F_frequencies_a1.keep Kq3 nin0).other W6 (Or.inr (slot_ne (Or.inl (own_w hw 13 rfl)) (Or.inl (own_w hw 11 rfl)) (by decide) (t := (.array .int)) (t' := (.array .int)) (by decide) (by decide))))
  obtain ⟨T11, X11, e11, st11⟩ := getF X6 hx hZ hown (host := "") (Or.inl (own_w hw 12 rfl)) Via.refl e6 B12 (g := (mkF m 17 #[rv a1] [.ref a1, .ref a1])) rfl rfl (hb hby own_d_prog_14_method_5_17)
  refine own_st st11 ?_
  show own_E p e below _ T11 (mkF m 20 #[rv a1] [.ref a3, .ref a1])
  refine own_st (fun t k => XS.aloadN X11.here hx rfl (hb hby own_d_prog_14_method_5_20) rfl rfl k) ?_
  show own_E p e below _ T11 (mkF m 21 #[rv a1] [.ref a1, .ref a3, .ref a1])
  have B14 := ((F_size_a1.keep Kq3 nin0).other W6 (Or.inr (slot_ne (Or.inl (own_w hw 26 rfl)) (Or.inl (own_w hw 11 rfl)) (by decide) (t := .int) (t' := (.array .int)) (by decide) (by decide))))
  obtain ⟨T13, X13, e13, st13⟩ := getF X11 hx hZ hown (host := "") (Or.inl (own_w hw 25 rfl)) Via.refl e11 B14 (g := (mkF m 21 #[rv a1] [.ref a1, .ref a3, .ref a1])) rfl rfl (hb hby own_d_prog_14_method_5_21)
  refine own_st st13 ?_
  show own_E p e below _ T13 (mkF m 24 #[rv a1] [.int 4, .ref a3, .ref a1])
  have B15 := ((E_a3.keep Kq3).wr W6)
  have B16 := ((V_a3.keep Kq3 nin0).other W6 (Ne.symm ne13))
  obtain ⟨_, _, ⟨T17, L17, k17, n17⟩, -, X17, ⟨Lc17, hQ17, l17, y17, z17⟩, st17⟩ := Jvm.LawKit.callS X13 hx (y := own_y2) hown (mvT hZ (own_w hw 27 rfl)) (mvT hZ (own_w hw 28 rfl)) (mvT hZ (own_w hw 29 rfl)) (mvT hZ (own_w hw 30 rfl)) (by decide) (backOf (W := 1) (own_copy4_4 l Z a0 hw [] a3 kc2 eb0 eb1 eb2 eb3 h6 n0 Z9 B15 B16) hZ (own_w hw 30 rfl) (own_w hw 29 rfl) (by decide) (by decide)) (g := (mkF m 24 #[rv a1] [.int 4, .ref a3, .ref a1])) rfl (by rw [hml]; rfl) (argsL := [(.ref a3), (.int (4 : Int32))]) (rest := [(.ref a1)]) (lenOf own_pd_6 rfl) rfl (by show 2 * 0 + _ ≤ _; exact Nat.le_of_eq rfl) (hb hby own_d_prog_14_method_5_24) (fun _ _ => ⟨rfl, e13, (by decide : 1 + 1 ≤ _), (by decide : 4 + 4 ≤ _)⟩)
  dsimp only [Pt.U, Pt.locs, Pt.cells, Pt.slots] at X17 l17 y17 z17 st17 hQ17
  subst l17 y17 z17
  obtain ⟨b17_o0, rfl, Nq17, Kq17, sz17_0, P17_0, P17_1⟩ := hQ17
  have N17 := Fr.app N6 Nq17
  have B18 := (B8.wr W6)
  have ne_a1_b17_o0 : a1 ≠ b17_o0 := Nat.ne_of_lt (Nat.lt_of_lt_of_le B18.lt sz17_0)
  have B19 := ((E_a2.keep Kq3).wr W6)
  have ne_a2_b17_o0 : a2 ≠ b17_o0 := Nat.ne_of_lt (Nat.lt_of_lt_of_le B19.lt sz17_0)
  have ne_a3_b17_o0 : a3 ≠ b17_o0 := Nat.ne_of_lt (Nat.lt_of_lt_of_le B15.lt sz17_0)
  have B20 := (P3_0.other W6 (Ne.symm ne_a1_b3_o0))
  have ne_b3_o0_b17_o0 : b3_o0 ≠ b17_o0 := Nat.ne_of_lt (Nat.lt_of_lt_of_le B20.lt sz17_0)
  have g_b17_o0 : n0 ≤ b17_o0 := Nat.le_trans Z9 sz17_0
  have sz_b17_o0 : h0.size ≤ b17_o0 := Nat.le_trans K10.1 sz17_0
  have e17 : T17.heap = T17.heap := rfl
  have Z21 := Nat.le_trans Z9 Kq17.1
  have K22 : Keep h0 _ [a1] := K10.trans Kq17 all0
  refine own_st st17 ?_
  show own_E p e below _ T17 (mkF m 27 #[rv a1] [.ref b17_o0, .ref a1])
  have B24 := (B12.keep Kq17 nin0)
  have B25 := (B18.keep Kq17)
  obtain ⟨T23, h23, X23, e23, W23, st23⟩ := putF X17 hx hZ hown (host := "") (Or.inl (own_w hw 12 rfl)) Via.refl e17 B24 B25 (Or.inl (own_w hw 13 rfl)) (own_w hw 1 rfl) (ty := (.array .int)) (by decide) rfl rfl (g := (mkF m 27 #[rv a1] [.ref b17_o0, .ref a1])) rfl rfl (hb hby own_d_prog_14_method_5_27)
  have N23 := Fr.snoc X23 N17 g_a1
  have Fw23 := B24.same W23
  have Z26 := Nat.le_trans Z21 (Keep.of_wr W23).1
  have K27 : Keep h0 _ [a1] := K22.wr W23 (Or.inl (List.mem_of_getElem? (i := 0) rfl))
  refine own_st st23 ?_
  show own_E p e below _ T23 (mkF m 30 #[rv a1] [])
  refine own_retV X23 hx Bd.notSynchronized Bd.returns (hb hby own_d_prog_14_method_5_30) (by decide) (by decide) ?_
  have B28 := (B25.wr W23)
  have B29 := ((Fw6.keep Kq17 nin0).other W23 (Or.inr (slot_ne (Or.inl (own_w hw 11 rfl)) (Or.inl (own_w hw 13 rfl)) (by decide) (t := (.array .int)) (t' := (.array .int)) (by decide) (by decide))))
  have B30 := ((((F_minLength_a1.keep Kq3 nin0).other W6 (Or.inr (slot_ne (Or.inl (own_w hw 16 rfl)) (Or.inl (own_w hw 11 rfl)) (by decide) (t := .int) (t' := (.array .int)) (by decide) (by decide)))).keep Kq17 nin0).other W23 (Or.inr (slot_ne (Or.inl (own_w hw 16 rfl)) (Or.inl (own_w hw 13 rfl)) (by decide) (t := .int) (t' := (.array .int)) (by decide) (by decide))))
  have B31 := ((((F_maxFrequency_a1.keep Kq3 nin0).other W6 (Or.inr (slot_ne (Or.inl (own_w hw 18 rfl)) (Or.inl (own_w hw 11 rfl)) (by decide) (t := .int) (t' := (.array .int)) (by decide) (by decide)))).keep Kq17 nin0).other W23 (Or.inr (slot_ne (Or.inl (own_w hw 18 rfl)) (Or.inl (own_w hw 13 rfl)) (by decide) (t := .int) (t' := (.array .int)) (by decide) (by decide))))
  have B32 := ((B14.keep Kq17 nin0).other W23 (Or.inr (slot_ne (Or.inl (own_w hw 26 rfl)) (Or.inl (own_w hw 13 rfl)) (by decide) (t := .int) (t' := (.array .int)) (by decide) (by decide))))
  have B33 := ((B20.keep Kq17 nin0).other W23 (Ne.symm ne_a1_b3_o0))
  have B34 := (((P3_1.wr W6).keep Kq17).wr W23)
  have B35 := (P17_0.other W23 (Ne.symm ne_a1_b17_o0))
  have B36 := (P17_1.wr W23)
  show own_trim4_Q Z a1 a2 a3 kc1 kc2 q1 q2 ea0 ea1 ea2 ea3 eb0 eb1 eb2 eb3 h0 n0 _ T23.heap _
  rw [e23]
  exact ⟨b3_o0, b17_o0, rfl, N23, K27, sz_b3_o0, sz_b17_o0, ne_b3_o0_b17_o0, B28, B29, Fw23, B30, B31, B32, B33, B34, B35, B36⟩
theorem own_mod5 (x : Int32) : ((x &&& (7 : Int32)) % (5 : Int32)) = (0 : Int32) ∨ ((x &&& (7 : Int32)) % (5 : Int32)) = (1 : Int32) ∨ ((x &&& (7 : Int32)) % (5 : Int32)) = (2 : Int32) ∨ ((x &&& (7 : Int32)) % (5 : Int32)) = (3 : Int32) ∨ ((x &&& (7 : Int32)) % (5 : Int32)) = (4 : Int32) := by
  have h1 : (x &&& (7 : Int32)).toInt = x.toInt % 8 := c_mask x 7 3 (by decide) (by decide)
  have h2 := c_irem (x &&& (7 : Int32)) (5 : Int32) 5 rfl
  simp only [← Int32.toInt_inj]
  have k0 : (0 : Int32).toInt = 0 := rfl
  have k1 : (1 : Int32).toInt = 1 := rfl
  have k2 : (2 : Int32).toInt = 2 := rfl
  have k3 : (3 : Int32).toInt = 3 := rfl
  have k4 : (4 : Int32).toInt = 4 := rfl
  omega
theorem own_pd_1 : parseMethodDescriptor "()V" = some ⟨[], none⟩ := by decide +kernel
theorem own_pd_3 : parseMethodDescriptor "(III)V" = some ⟨[.int, .int, .int], none⟩ := by decide +kernel
def own_law_Q (n0 : Nat) (v : Option Value) (h : Heap) (L : List Loc) : Prop := v = some (.int 1) ∧ Fr n0 L
theorem own_pn_PostingsTrimPinLaw : plainName "com/example/lean_scorer/leanscorer/PostingsTrimPinLaw" = true := by first | (simp [plainName, overriddenIn]; done) | decide +kernel
theorem own_law_ef (m : MethodId) (p1 : Int32) (p2 : Int32) (p3 : Int32) (p4 : Int32) (p5 : Int32) (p6 : Int32) : entryFrame m #[(.int p1), (.int p2), (.int p3), (.int p4), (.int p5), (.int p6)] maxLocals = mkF m 0 #[.val (.int p1), .val (.int p2), .val (.int p3), .val (.int p4), .val (.int p5), .val (.int p6), .unset, .unset, .unset, .unset, .unset] [] := by first | (simp [entryFrame, mkF, argsToLocals, Value.category, maxLocals]; done) | rfl
set_option maxRecDepth 65536 in
set_option maxHeartbeats 40000000 in
theorem own_law (l : Launch) (Z : State) (a0 : Array Value) (hw : ∀ d ∈ tables_1, d.before a0 Z = true) (ws : List Jvm.Cond) (p1 : Int32) (p2 : Int32) (p3 : Int32) (p4 : Int32) (p5 : Int32) (p6 : Int32) (h0 : Heap) (n0 : Nat) (Z0 : n0 ≤ h0.size)  :
    MetFree l x (head1 (Jvm.Cond.code x code maxLocals ret :: ws) room_1) (fun a U => a = #[(.int p1), (.int p2), (.int p3), (.int p4), (.int p5), (.int p6)] ∧ Z.Warmed39 U.vm ∧ U.heap = h0) (fun _ _ _ _ _ => True) (fun _ U o U' => ∃ v L, o = .returned v ∧ own_law_Q n0 v U'.heap L ∧ FrameEnd U o U' L room_1.cells room_1.slots) := by
  refine MetFree.of_bodySF (plainFor_of_name own_pn_PostingsTrimPinLaw) hisR ?_
  intro p e s m args below meth c s₁ Bd hml0 hP hK
  obtain ⟨rfl, hZ, hh⟩ := hP
  have hx := Bd.exec
  have hby := Bd.bytes
  have hml : c.maxLocals = 11 := hml0
  have hown : s.vm.findClass "com/example/lean_scorer/leanscorer/PostingsTrimPinLaw" = some m.cls := findClass_of_methodNamed Bd.named
  have hnm := (name_of_methodNamed Bd.named Bd.method).1
  have X0 : Stand p l e room_1 s m #[(.int p1), (.int p2), (.int p3), (.int p4), (.int p5), (.int p6)] below meth c s₁ [] 0 0 := Stand.of_body Bd
  have e0 : s₁.heap = h0 := by rw [← hh, Bd.state]; rfl
  show own_E p e below (own_K (own_law_Q n0) s room_1.cells room_1.slots) s₁ (entryFrame m #[(.int p1), (.int p2), (.int p3), (.int p4), (.int p5), (.int p6)] maxLocals)
  refine own_pre (own_law_ef m p1 p2 p3 p4 p5 p6) ?_
  show own_E p e below _ s₁ (mkF m 0 #[iv p1, iv p2, iv p3, iv p4, iv p5, iv p6, .unset, .unset, .unset, .unset, .unset] [])
  refine own_st (fun t k => XS.iloadN X0.here hx rfl (hb hby at_0) rfl k) ?_
  show own_E p e below _ s₁ (mkF m 1 #[iv p1, iv p2, iv p3, iv p4, iv p5, iv p6, .unset, .unset, .unset, .unset, .unset] [.int p1])
  refine own_st (fun t k => XS.bipush X0.here hx rfl (hb hby at_1) k) ?_
  show own_E p e below _ s₁ (mkF m 3 #[iv p1, iv p2, iv p3, iv p4, iv p5, iv p6, .unset, .unset, .unset, .unset, .unset] [.int 7, .int p1])
  refine own_st (fun t k => XS.iand X0.here hx rfl (hb hby at_3) rfl k) ?_
  show own_E p e below _ s₁ (mkF m 4 #[iv p1, iv p2, iv p3, iv p4, iv p5, iv p6, .unset, .unset, .unset, .unset, .unset] [.int (p1 &&& (7 : Int32))])
  refine own_st (fun t k => XS.iconst X0.here hx rfl (hb hby at_4) k) ?_
  show own_E p e below _ s₁ (mkF m 5 #[iv p1, iv p2, iv p3, iv p4, iv p5, iv p6, .unset, .unset, .unset, .unset, .unset] [.int 5, .int (p1 &&& (7 : Int32))])
  refine own_st (fun t k => iremM X0 hx rfl (hb hby at_5) rfl (by decide) k) ?_
  show own_E p e below _ s₁ (mkF m 6 #[iv p1, iv p2, iv p3, iv p4, iv p5, iv p6, .unset, .unset, .unset, .unset, .unset] [.int ((p1 &&& (7 : Int32)) % (5 : Int32))])
  refine own_st (fun t k => XS.istore X0.here hx rfl (hb hby at_6) rfl (l' := #[iv p1, iv p2, iv p3, iv p4, iv p5, iv p6, iv ((p1 &&& (7 : Int32)) % (5 : Int32)), .unset, .unset, .unset, .unset]) rfl k) ?_
  show own_E p e below _ s₁ (mkF m 8 #[iv p1, iv p2, iv p3, iv p4, iv p5, iv p6, iv ((p1 &&& (7 : Int32)) % (5 : Int32)), .unset, .unset, .unset, .unset] [])
  rcases own_mod5 p1 with hs1 | hs1 | hs1 | hs1 | hs1
  · rw [hs1]
    show own_E p e below _ s₁ (mkF m 8 #[iv p1, iv p2, iv p3, iv p4, iv p5, iv p6, iv 0, .unset, .unset, .unset, .unset] [])
    obtain ⟨T2, h2, X2, e2, E2, A2, D2, -, st2⟩ := newO X0 hx hZ hown (own_w hw 0 rfl) (own_w hw 1 rfl) (own_w hw 2 rfl) e0 (g := (mkF m 8 #[iv p1, iv p2, iv p3, iv p4, iv p5, iv p6, iv 0, .unset, .unset, .unset, .unset] [])) rfl (hb hby at_8) (by decide) (by decide)
    obtain ⟨b2, g2⟩ : ∃ z, z = h0.size := ⟨_, rfl⟩
    rw [← g2] at A2 D2 st2
    have g_b2 : n0 ≤ b2 := Nat.le_trans Z0 (Nat.le_of_eq g2.symm)
    have Z3 := Nat.le_trans Z0 E2.1
    have F_documents_b2 : Fld Z h2 b2 "com/example/lean_scorer/leanscorer/Postings" "documents" "[I" .null := D2 (Or.inl (own_w hw 11 rfl)) (ty := (.array .int)) (by decide)
    have F_frequencies_b2 : Fld Z h2 b2 "com/example/lean_scorer/leanscorer/Postings" "frequencies" "[I" .null := D2 (Or.inl (own_w hw 13 rfl)) (ty := (.array .int)) (by decide)
    have F_minLength_b2 : Fld Z h2 b2 "com/example/lean_scorer/leanscorer/Postings" "minLength" "I" (.int (0 : Int32)) := D2 (Or.inl (own_w hw 16 rfl)) (ty := .int) (by decide)
    have F_maxFrequency_b2 : Fld Z h2 b2 "com/example/lean_scorer/leanscorer/Postings" "maxFrequency" "I" (.int (0 : Int32)) := D2 (Or.inl (own_w hw 18 rfl)) (ty := .int) (by decide)
    have F_size_b2 : Fld Z h2 b2 "com/example/lean_scorer/leanscorer/Postings" "size" "I" (.int (0 : Int32)) := D2 (Or.inl (own_w hw 26 rfl)) (ty := .int) (by decide)
    refine own_st st2 ?_
    show own_E p e below _ T2 (mkF m 11 #[iv p1, iv p2, iv p3, iv p4, iv p5, iv p6, iv 0, .unset, .unset, .unset, .unset] [.ref b2])
    refine own_st (fun t k => XS.dup X2.here hx rfl (hb hby at_11) rfl rfl k) ?_
    show own_E p e below _ T2 (mkF m 12 #[iv p1, iv p2, iv p3, iv p4, iv p5, iv p6, iv 0, .unset, .unset, .unset, .unset] [.ref b2, .ref b2])
    obtain ⟨_, _, ⟨T4, L4, k4, n4⟩, -, X4, ⟨Lc4, hQ4, l4, y4, z4⟩, st4⟩ := X2.specialBack hx (y := own_y3) rfl hown (mvT hZ (own_w hw 3 rfl)) (mvT hZ (own_w hw 4 rfl)) (mvT hZ (own_w hw 5 rfl)) (by decide) (backOf (W := 1) (own_init l Z a0 hw [] b2 h2 n0 Z3 A2 F_documents_b2 F_frequencies_b2 F_minLength_b2 F_maxFrequency_b2 F_size_b2 g_b2) hZ (own_w hw 5 rfl) (own_w hw 2 rfl) (by decide) (by decide)) (g := (mkF m 12 #[iv p1, iv p2, iv p3, iv p4, iv p5, iv p6, iv 0, .unset, .unset, .unset, .unset] [.ref b2, .ref b2])) rfl (by rw [hml]; rfl) (Steps.refl _) (a := b2) (argsL := []) (rest := [(.ref b2)]) (lenOf own_pd_1 rfl) rfl (by show 2 * 0 + _ ≤ _; exact Nat.le_of_eq rfl) (hb hby at_12) (fun _ _ => ⟨rfl, e2, (by decide : 1 + 2 ≤ _), (by decide : 5 + 2 ≤ _)⟩)
    dsimp only [Pt.U, Pt.locs, Pt.cells, Pt.slots] at X4 l4 y4 z4 st4 hQ4
    subst l4 y4 z4
    obtain ⟨b4_o0, b4_o1, k4_o2, k4_o3, rfl, Nq4, Kq4, sz4_0, sz4_1, nq4_0_1, P4_0, P4_1, P4_2, P4_3, P4_4, P4_5, P4_6, P4_7, P4_8, P4_9⟩ := hQ4
    have N4 := Fr.app (Fr.nil n0) Nq4
    have ne_b2_b4_o0 : b2 ≠ b4_o0 := Nat.ne_of_lt (Nat.lt_of_lt_of_le A2.lt sz4_0)
    have g_b4_o0 : n0 ≤ b4_o0 := Nat.le_trans Z3 sz4_0
    have ne_b2_b4_o1 : b2 ≠ b4_o1 := Nat.ne_of_lt (Nat.lt_of_lt_of_le A2.lt sz4_1)
    have g_b4_o1 : n0 ≤ b4_o1 := Nat.le_trans Z3 sz4_1
    have e4 : T4.heap = T4.heap := rfl
    have Z5 := Nat.le_trans Z3 Kq4.1
    refine own_tr st4 ?_
    show own_E p e below _ T4 (mkF m 15 #[iv p1, iv p2, iv p3, iv p4, iv p5, iv p6, iv 0, .unset, .unset, .unset, .unset] [.ref b2])
    refine own_st (fun t k => XS.astore X4.here hx rfl (hb hby at_15) rfl rfl (l' := #[iv p1, iv p2, iv p3, iv p4, iv p5, iv p6, iv 0, rv b2, .unset, .unset, .unset]) rfl k) ?_
    show own_E p e below _ T4 (mkF m 17 #[iv p1, iv p2, iv p3, iv p4, iv p5, iv p6, iv 0, rv b2, .unset, .unset, .unset] [])
    refine own_st (fun t k => XS.iload X4.here hx rfl (hb hby at_17) rfl k) ?_
    show own_E p e below _ T4 (mkF m 19 #[iv p1, iv p2, iv p3, iv p4, iv p5, iv p6, iv 0, rv b2, .unset, .unset, .unset] [.int 0])
    refine own_st (fun t k => XS.ifYes X4.here hx rfl (pc0 := 19) (pc' := 30) rfl (hb hby at_19) rfl (by decide) (by decide) (by decide) k) ?_
    show own_E p e below _ T4 (mkF m 30 #[iv p1, iv p2, iv p3, iv p4, iv p5, iv p6, iv 0, rv b2, .unset, .unset, .unset] [])
    refine own_st (fun t k => XS.iload X4.here hx rfl (hb hby at_30) rfl k) ?_
    show own_E p e below _ T4 (mkF m 32 #[iv p1, iv p2, iv p3, iv p4, iv p5, iv p6, iv 0, rv b2, .unset, .unset, .unset] [.int 0])
    refine own_st (fun t k => XS.iconst X4.here hx rfl (hb hby at_32) k) ?_
    show own_E p e below _ T4 (mkF m 33 #[iv p1, iv p2, iv p3, iv p4, iv p5, iv p6, iv 0, rv b2, .unset, .unset, .unset] [.int 1, .int 0])
    refine own_st (fun t k => XS.icmpYes X4.here hx rfl (pc0 := 33) (pc' := 45) rfl (hb hby at_33) rfl (by decide) (by decide) (by decide) k) ?_
    show own_E p e below _ T4 (mkF m 45 #[iv p1, iv p2, iv p3, iv p4, iv p5, iv p6, iv 0, rv b2, .unset, .unset, .unset] [])
    refine own_st (fun t k => XS.iload X4.here hx rfl (hb hby at_45) rfl k) ?_
    show own_E p e below _ T4 (mkF m 47 #[iv p1, iv p2, iv p3, iv p4, iv p5, iv p6, iv 0, rv b2, .unset, .unset, .unset] [.int 0])
    refine own_st (fun t k => XS.iconst X4.here hx rfl (hb hby at_47) k) ?_
    show own_E p e below _ T4 (mkF m 48 #[iv p1, iv p2, iv p3, iv p4, iv p5, iv p6, iv 0, rv b2, .unset, .unset, .unset] [.int 2, .int 0])
    refine own_st (fun t k => XS.icmpYes X4.here hx rfl (pc0 := 48) (pc' := 61) rfl (hb hby at_48) rfl (by decide) (by decide) (by decide) k) ?_
    show own_E p e below _ T4 (mkF m 61 #[iv p1, iv p2, iv p3, iv p4, iv p5, iv p6, iv 0, rv b2, .unset, .unset, .unset] [])
    refine own_st (fun t k => XS.iload X4.here hx rfl (hb hby at_61) rfl k) ?_
    show own_E p e below _ T4 (mkF m 63 #[iv p1, iv p2, iv p3, iv p4, iv p5, iv p6, iv 0, rv b2, .unset, .unset, .unset] [.int 0])
    refine own_st (fun t k => XS.iconst X4.here hx rfl (hb hby at_63) k) ?_
    show own_E p e below _ T4 (mkF m 64 #[iv p1, iv p2, iv p3, iv p4, iv p5, iv p6, iv 0, rv b2, .unset, .unset, .unset] [.int 3, .int 0])
    refine own_st (fun t k => XS.icmpYes X4.here hx rfl (pc0 := 64) (pc' := 77) rfl (hb hby at_64) rfl (by decide) (by decide) (by decide) k) ?_
    show own_E p e below _ T4 (mkF m 77 #[iv p1, iv p2, iv p3, iv p4, iv p5, iv p6, iv 0, rv b2, .unset, .unset, .unset] [])
    refine own_st (fun t k => XS.aload X4.here hx rfl (hb hby at_77) rfl rfl k) ?_
    show own_E p e below _ T4 (mkF m 79 #[iv p1, iv p2, iv p3, iv p4, iv p5, iv p6, iv 0, rv b2, .unset, .unset, .unset] [.ref b2])
    obtain ⟨T6, X6, e6, st6⟩ := getF X4 hx hZ hown (host := "") (Or.inl (own_w hw 17 rfl)) Via.refl e4 P4_4 (g := (mkF m 79 #[iv p1, iv p2, iv p3, iv p4, iv p5, iv p6, iv 0, rv b2, .unset, .unset, .unset] [.ref b2])) rfl rfl (hb hby at_79)
    refine own_st st6 ?_
    show own_E p e below _ T6 (mkF m 82 #[iv p1, iv p2, iv p3, iv p4, iv p5, iv p6, iv 0, rv b2, .unset, .unset, .unset] [.int 0])
    refine own_st (fun t k => XS.istore X6.here hx rfl (hb hby at_82) rfl (l' := #[iv p1, iv p2, iv p3, iv p4, iv p5, iv p6, iv 0, rv b2, iv 0, .unset, .unset]) rfl k) ?_
    show own_E p e below _ T6 (mkF m 84 #[iv p1, iv p2, iv p3, iv p4, iv p5, iv p6, iv 0, rv b2, iv 0, .unset, .unset] [])
    refine own_st (fun t k => XS.aload X6.here hx rfl (hb hby at_84) rfl rfl k) ?_
    show own_E p e below _ T6 (mkF m 86 #[iv p1, iv p2, iv p3, iv p4, iv p5, iv p6, iv 0, rv b2, iv 0, .unset, .unset] [.ref b2])
    obtain ⟨T7, X7, e7, st7⟩ := getF X6 hx hZ hown (host := "") (Or.inl (own_w hw 19 rfl)) Via.refl e6 P4_3 (g := (mkF m 86 #[iv p1, iv p2, iv p3, iv p4, iv p5, iv p6, iv 0, rv b2, iv 0, .unset, .unset] [.ref b2])) rfl rfl (hb hby at_86)
    refine own_st st7 ?_
    show own_E p e below _ T7 (mkF m 89 #[iv p1, iv p2, iv p3, iv p4, iv p5, iv p6, iv 0, rv b2, iv 0, .unset, .unset] [.int 2147483647])
    refine own_st (fun t k => XS.istore X7.here hx rfl (hb hby at_89) rfl (l' := #[iv p1, iv p2, iv p3, iv p4, iv p5, iv p6, iv 0, rv b2, iv 0, iv 2147483647, .unset]) rfl k) ?_
    show own_E p e below _ T7 (mkF m 91 #[iv p1, iv p2, iv p3, iv p4, iv p5, iv p6, iv 0, rv b2, iv 0, iv 2147483647, .unset] [])
    refine own_st (fun t k => XS.aload X7.here hx rfl (hb hby at_91) rfl rfl k) ?_
    show own_E p e below _ T7 (mkF m 93 #[iv p1, iv p2, iv p3, iv p4, iv p5, iv p6, iv 0, rv b2, iv 0, iv 2147483647, .unset] [.ref b2])
    obtain ⟨cq8, kq8, q8a, q8b, q8c⟩ := isOf hZ e7 P4_0
    obtain ⟨_, _, ⟨T8, L8, k8, n8⟩, -, X8, ⟨Lc8, hQ8, l8, y8, z8⟩, st8⟩ := X7.virtualBack hx (y := own_y5) (z := own_y5) hown (mvT hZ (own_w hw 20 rfl)) (mvT hZ (own_w hw 21 rfl)) (notFace_of_selects (args := #[]) (mvT hZ (own_w hw 23 rfl))) (mvT hZ (own_w hw 23 rfl)) (mvT hZ (own_w hw 22 rfl)) (by decide) (backOf (W := 0) (own_trim0 l Z a0 hw [] b2 b4_o0 b4_o1 k4_o2 k4_o3 (2147483647 : Int32) (0 : Int32) (0 : Int32) (0 : Int32) T4.heap n0 Z5 P4_0 P4_7 P4_9 P4_1 P4_2 P4_3 P4_4 P4_5 P4_6 P4_8 ne_b2_b4_o0 ne_b2_b4_o1 nq4_0_1 g_b2) hZ (own_w hw 24 rfl) (own_w hw 2 rfl) (by decide) (by decide)) q8a q8c (g := (mkF m 93 #[iv p1, iv p2, iv p3, iv p4, iv p5, iv p6, iv 0, rv b2, iv 0, iv 2147483647, .unset] [.ref b2])) rfl (by rw [hml]; rfl) (Steps.refl _) (argsL := []) (rest := []) (lenOf own_pd_1 rfl) rfl (by show 2 * 0 + _ ≤ _; exact Nat.le_of_eq rfl) (hb hby at_93) (fun _ _ => ⟨rfl, e7, (by decide : 3 + 2 ≤ _), (by decide : 7 + 0 ≤ _)⟩)
    dsimp only [Pt.U, Pt.locs, Pt.cells, Pt.slots] at X8 l8 y8 z8 st8 hQ8
    subst l8 y8 z8
    obtain ⟨b8_o0, b8_o1, k8_o2, k8_o3, rfl, Nq8, Kq8, sz8_0, sz8_1, nq8_0_1, P8_0, P8_1, P8_2, P8_3, P8_4, P8_5, P8_6, P8_7, P8_8, P8_9⟩ := hQ8
    have N8 := Fr.app N4 Nq8
    have ne_b2_b8_o0 : b2 ≠ b8_o0 := Nat.ne_of_lt (Nat.lt_of_lt_of_le P4_0.lt sz8_0)
    have ne_b4_o0_b8_o0 : b4_o0 ≠ b8_o0 := Nat.ne_of_lt (Nat.lt_of_lt_of_le P4_6.lt sz8_0)
    have ne_b4_o1_b8_o0 : b4_o1 ≠ b8_o0 := Nat.ne_of_lt (Nat.lt_of_lt_of_le P4_8.lt sz8_0)
    have g_b8_o0 : n0 ≤ b8_o0 := Nat.le_trans Z5 sz8_0
    have ne_b2_b8_o1 : b2 ≠ b8_o1 := Nat.ne_of_lt (Nat.lt_of_lt_of_le P4_0.lt sz8_1)
    have ne_b4_o0_b8_o1 : b4_o0 ≠ b8_o1 := Nat.ne_of_lt (Nat.lt_of_lt_of_le P4_6.lt sz8_1)
    have ne_b4_o1_b8_o1 : b4_o1 ≠ b8_o1 := Nat.ne_of_lt (Nat.lt_of_lt_of_le P4_8.lt sz8_1)
    have g_b8_o1 : n0 ≤ b8_o1 := Nat.le_trans Z5 sz8_1
    have e8 : T8.heap = T8.heap := rfl
    have Z9 := Nat.le_trans Z5 Kq8.1
    refine own_tr st8 ?_
    show own_E p e below _ T8 (mkF m 96 #[iv p1, iv p2, iv p3, iv p4, iv p5, iv p6, iv 0, rv b2, iv 0, iv 2147483647, .unset] [])
    refine own_st (fun t k => XS.aload X8.here hx rfl (hb hby at_96) rfl rfl k) ?_
    show own_E p e below _ T8 (mkF m 98 #[iv p1, iv p2, iv p3, iv p4, iv p5, iv p6, iv 0, rv b2, iv 0, iv 2147483647, .unset] [.ref b2])
    obtain ⟨T10, X10, e10, st10⟩ := getF X8 hx hZ hown (host := "") (Or.inl (own_w hw 39 rfl)) Via.refl e8 P8_5 (g := (mkF m 98 #[iv p1, iv p2, iv p3, iv p4, iv p5, iv p6, iv 0, rv b2, iv 0, iv 2147483647, .unset] [.ref b2])) rfl rfl (hb hby at_98)
    refine own_st st10 ?_
    show own_E p e below _ T10 (mkF m 101 #[iv p1, iv p2, iv p3, iv p4, iv p5, iv p6, iv 0, rv b2, iv 0, iv 2147483647, .unset] [.int 0])
    refine own_st (fun t k => XS.iload X10.here hx rfl (hb hby at_101) rfl k) ?_
    show own_E p e below _ T10 (mkF m 103 #[iv p1, iv p2, iv p3, iv p4, iv p5, iv p6, iv 0, rv b2, iv 0, iv 2147483647, .unset] [.int 0, .int 0])
    refine own_st (fun t k => XS.icmpNo X10.here hx rfl (hb hby at_103) rfl (by decide) k) ?_
    show own_E p e below _ T10 (mkF m 106 #[iv p1, iv p2, iv p3, iv p4, iv p5, iv p6, iv 0, rv b2, iv 0, iv 2147483647, .unset] [])
    refine own_st (fun t k => XS.aload X10.here hx rfl (hb hby at_106) rfl rfl k) ?_
    show own_E p e below _ T10 (mkF m 108 #[iv p1, iv p2, iv p3, iv p4, iv p5, iv p6, iv 0, rv b2, iv 0, iv 2147483647, .unset] [.ref b2])
    obtain ⟨T11, X11, e11, st11⟩ := getF X10 hx hZ hown (host := "") (Or.inl (own_w hw 40 rfl)) Via.refl e10 P8_1 (g := (mkF m 108 #[iv p1, iv p2, iv p3, iv p4, iv p5, iv p6, iv 0, rv b2, iv 0, iv 2147483647, .unset] [.ref b2])) rfl rfl (hb hby at_108)
    refine own_st st11 ?_
    show own_E p e below _ T11 (mkF m 111 #[iv p1, iv p2, iv p3, iv p4, iv p5, iv p6, iv 0, rv b2, iv 0, iv 2147483647, .unset] [.ref b8_o0])
    refine own_st (own_alen X11 hx hZ e11 P8_6 (g := (mkF m 111 #[iv p1, iv p2, iv p3, iv p4, iv p5, iv p6, iv 0, rv b2, iv 0, iv 2147483647, .unset] [.ref b8_o0])) rfl rfl (hb hby at_111)) ?_
    show own_E p e below _ T11 (mkF m 112 #[iv p1, iv p2, iv p3, iv p4, iv p5, iv p6, iv 0, rv b2, iv 0, iv 2147483647, .unset] [.int 0])
    refine own_st (fun t k => XS.iload X11.here hx rfl (hb hby at_112) rfl k) ?_
    show own_E p e below _ T11 (mkF m 114 #[iv p1, iv p2, iv p3, iv p4, iv p5, iv p6, iv 0, rv b2, iv 0, iv 2147483647, .unset] [.int 0, .int 0])
    refine own_st (fun t k => XS.icmpNo X11.here hx rfl (hb hby at_114) rfl (by decide) k) ?_
    show own_E p e below _ T11 (mkF m 117 #[iv p1, iv p2, iv p3, iv p4, iv p5, iv p6, iv 0, rv b2, iv 0, iv 2147483647, .unset] [])
    refine own_st (fun t k => XS.aload X11.here hx rfl (hb hby at_117) rfl rfl k) ?_
    show own_E p e below _ T11 (mkF m 119 #[iv p1, iv p2, iv p3, iv p4, iv p5, iv p6, iv 0, rv b2, iv 0, iv 2147483647, .unset] [.ref b2])
    obtain ⟨T12, X12, e12, st12⟩ := getF X11 hx hZ hown (host := "") (Or.inl (own_w hw 41 rfl)) Via.refl e11 P8_2 (g := (mkF m 119 #[iv p1, iv p2, iv p3, iv p4, iv p5, iv p6, iv 0, rv b2, iv 0, iv 2147483647, .unset] [.ref b2])) rfl rfl (hb hby at_119)
    refine own_st st12 ?_
    show own_E p e below _ T12 (mkF m 122 #[iv p1, iv p2, iv p3, iv p4, iv p5, iv p6, iv 0, rv b2, iv 0, iv 2147483647, .unset] [.ref b8_o1])
    refine own_st (own_alen X12 hx hZ e12 P8_8 (g := (mkF m 122 #[iv p1, iv p2, iv p3, iv p4, iv p5, iv p6, iv 0, rv b2, iv 0, iv 2147483647, .unset] [.ref b8_o1])) rfl rfl (hb hby at_122)) ?_
    show own_E p e below _ T12 (mkF m 123 #[iv p1, iv p2, iv p3, iv p4, iv p5, iv p6, iv 0, rv b2, iv 0, iv 2147483647, .unset] [.int 0])
    refine own_st (fun t k => XS.iload X12.here hx rfl (hb hby at_123) rfl k) ?_
    show own_E p e below _ T12 (mkF m 125 #[iv p1, iv p2, iv p3, iv p4, iv p5, iv p6, iv 0, rv b2, iv 0, iv 2147483647, .unset] [.int 0, .int 0])
    refine own_st (fun t k => XS.icmpNo X12.here hx rfl (hb hby at_125) rfl (by decide) k) ?_
    show own_E p e below _ T12 (mkF m 128 #[iv p1, iv p2, iv p3, iv p4, iv p5, iv p6, iv 0, rv b2, iv 0, iv 2147483647, .unset] [])
    refine own_st (fun t k => XS.aload X12.here hx rfl (hb hby at_128) rfl rfl k) ?_
    show own_E p e below _ T12 (mkF m 130 #[iv p1, iv p2, iv p3, iv p4, iv p5, iv p6, iv 0, rv b2, iv 0, iv 2147483647, .unset] [.ref b2])
    obtain ⟨T13, X13, e13, st13⟩ := getF X12 hx hZ hown (host := "") (Or.inl (own_w hw 17 rfl)) Via.refl e12 P8_4 (g := (mkF m 130 #[iv p1, iv p2, iv p3, iv p4, iv p5, iv p6, iv 0, rv b2, iv 0, iv 2147483647, .unset] [.ref b2])) rfl rfl (hb hby at_130)
    refine own_st st13 ?_
    show own_E p e below _ T13 (mkF m 133 #[iv p1, iv p2, iv p3, iv p4, iv p5, iv p6, iv 0, rv b2, iv 0, iv 2147483647, .unset] [.int 0])
    refine own_st (fun t k => XS.iload X13.here hx rfl (hb hby at_133) rfl k) ?_
    show own_E p e below _ T13 (mkF m 135 #[iv p1, iv p2, iv p3, iv p4, iv p5, iv p6, iv 0, rv b2, iv 0, iv 2147483647, .unset] [.int 0, .int 0])
    refine own_st (fun t k => XS.icmpNo X13.here hx rfl (hb hby at_135) rfl (by decide) k) ?_
    show own_E p e below _ T13 (mkF m 138 #[iv p1, iv p2, iv p3, iv p4, iv p5, iv p6, iv 0, rv b2, iv 0, iv 2147483647, .unset] [])
    refine own_st (fun t k => XS.aload X13.here hx rfl (hb hby at_138) rfl rfl k) ?_
    show own_E p e below _ T13 (mkF m 140 #[iv p1, iv p2, iv p3, iv p4, iv p5, iv p6, iv 0, rv b2, iv 0, iv 2147483647, .unset] [.ref b2])
    obtain ⟨T14, X14, e14, st14⟩ := getF X13 hx hZ hown (host := "") (Or.inl (own_w hw 19 rfl)) Via.refl e13 P8_3 (g := (mkF m 140 #[iv p1, iv p2, iv p3, iv p4, iv p5, iv p6, iv 0, rv b2, iv 0, iv 2147483647, .unset] [.ref b2])) rfl rfl (hb hby at_140)
    refine own_st st14 ?_
    show own_E p e below _ T14 (mkF m 143 #[iv p1, iv p2, iv p3, iv p4, iv p5, iv p6, iv 0, rv b2, iv 0, iv 2147483647, .unset] [.int 2147483647])
    refine own_st (fun t k => XS.iload X14.here hx rfl (hb hby at_143) rfl k) ?_
    show own_E p e below _ T14 (mkF m 145 #[iv p1, iv p2, iv p3, iv p4, iv p5, iv p6, iv 0, rv b2, iv 0, iv 2147483647, .unset] [.int 2147483647, .int 2147483647])
    refine own_st (fun t k => XS.icmpNo X14.here hx rfl (hb hby at_145) rfl (by decide) k) ?_
    show own_E p e below _ T14 (mkF m 148 #[iv p1, iv p2, iv p3, iv p4, iv p5, iv p6, iv 0, rv b2, iv 0, iv 2147483647, .unset] [])
    refine own_st (fun t k => XS.iconst X14.here hx rfl (hb hby at_148) k) ?_
    show own_E p e below _ T14 (mkF m 149 #[iv p1, iv p2, iv p3, iv p4, iv p5, iv p6, iv 0, rv b2, iv 0, iv 2147483647, .unset] [.int 1])
    refine own_st (fun t k => XS.goto X14.here hx rfl (pc0 := 149) (pc' := 153) rfl (hb hby at_149) (by decide) (by decide) k) ?_
    show own_E p e below _ T14 (mkF m 153 #[iv p1, iv p2, iv p3, iv p4, iv p5, iv p6, iv 0, rv b2, iv 0, iv 2147483647, .unset] [.int 1])
    refine own_st (fun t k => XS.istore X14.here hx rfl (hb hby at_153) rfl (l' := #[iv p1, iv p2, iv p3, iv p4, iv p5, iv p6, iv 0, rv b2, iv 0, iv 2147483647, iv 1]) rfl k) ?_
    show own_E p e below _ T14 (mkF m 155 #[iv p1, iv p2, iv p3, iv p4, iv p5, iv p6, iv 0, rv b2, iv 0, iv 2147483647, iv 1] [])
    refine own_st (fun t k => XS.iload X14.here hx rfl (hb hby at_155) rfl k) ?_
    show own_E p e below _ T14 (mkF m 157 #[iv p1, iv p2, iv p3, iv p4, iv p5, iv p6, iv 0, rv b2, iv 0, iv 2147483647, iv 1] [.int 0])
    refine own_st (fun t k => XS.ifYes X14.here hx rfl (pc0 := 157) (pc' := 194) rfl (hb hby at_157) rfl (by decide) (by decide) (by decide) k) ?_
    show own_E p e below _ T14 (mkF m 194 #[iv p1, iv p2, iv p3, iv p4, iv p5, iv p6, iv 0, rv b2, iv 0, iv 2147483647, iv 1] [])
    refine own_st (fun t k => XS.iload X14.here hx rfl (hb hby at_194) rfl k) ?_
    show own_E p e below _ T14 (mkF m 196 #[iv p1, iv p2, iv p3, iv p4, iv p5, iv p6, iv 0, rv b2, iv 0, iv 2147483647, iv 1] [.int 0])
    refine own_st (fun t k => XS.iconst X14.here hx rfl (hb hby at_196) k) ?_
    show own_E p e below _ T14 (mkF m 197 #[iv p1, iv p2, iv p3, iv p4, iv p5, iv p6, iv 0, rv b2, iv 0, iv 2147483647, iv 1] [.int 1, .int 0])
    refine own_st (fun t k => XS.icmpYes X14.here hx rfl (pc0 := 197) (pc' := 234) rfl (hb hby at_197) rfl (by decide) (by decide) (by decide) k) ?_
    show own_E p e below _ T14 (mkF m 234 #[iv p1, iv p2, iv p3, iv p4, iv p5, iv p6, iv 0, rv b2, iv 0, iv 2147483647, iv 1] [])
    refine own_st (fun t k => XS.iload X14.here hx rfl (hb hby at_234) rfl k) ?_
    show own_E p e below _ T14 (mkF m 236 #[iv p1, iv p2, iv p3, iv p4, iv p5, iv p6, iv 0, rv b2, iv 0, iv 2147483647, iv 1] [.int 0])
    refine own_st (fun t k => XS.iconst X14.here hx rfl (hb hby at_236) k) ?_
    show own_E p e below _ T14 (mkF m 237 #[iv p1, iv p2, iv p3, iv p4, iv p5, iv p6, iv 0, rv b2, iv 0, iv 2147483647, iv 1] [.int 2, .int 0])
    refine own_st (fun t k => XS.icmpYes X14.here hx rfl (pc0 := 237) (pc' := 275) rfl (hb hby at_237) rfl (by decide) (by decide) (by decide) k) ?_
    show own_E p e below _ T14 (mkF m 275 #[iv p1, iv p2, iv p3, iv p4, iv p5, iv p6, iv 0, rv b2, iv 0, iv 2147483647, iv 1] [])
    refine own_st (fun t k => XS.iload X14.here hx rfl (hb hby at_275) rfl k) ?_
    show own_E p e below _ T14 (mkF m 277 #[iv p1, iv p2, iv p3, iv p4, iv p5, iv p6, iv 0, rv b2, iv 0, iv 2147483647, iv 1] [.int 0])
    refine own_st (fun t k => XS.iconst X14.here hx rfl (hb hby at_277) k) ?_
    show own_E p e below _ T14 (mkF m 278 #[iv p1, iv p2, iv p3, iv p4, iv p5, iv p6, iv 0, rv b2, iv 0, iv 2147483647, iv 1] [.int 3, .int 0])
    refine own_st (fun t k => XS.icmpYes X14.here hx rfl (pc0 := 278) (pc' := 317) rfl (hb hby at_278) rfl (by decide) (by decide) (by decide) k) ?_
    show own_E p e below _ T14 (mkF m 317 #[iv p1, iv p2, iv p3, iv p4, iv p5, iv p6, iv 0, rv b2, iv 0, iv 2147483647, iv 1] [])
    refine own_st (fun t k => XS.iload X14.here hx rfl (hb hby at_317) rfl k) ?_
    show own_E p e below _ T14 (mkF m 319 #[iv p1, iv p2, iv p3, iv p4, iv p5, iv p6, iv 0, rv b2, iv 0, iv 2147483647, iv 1] [.int 1])
    refine own_retS X14 hx Bd.notSynchronized Bd.returns rfl (by decide) (hb hby at_319) (by decide) (by decide) ?_
    exact ⟨rfl, N8⟩
  · rw [hs1]
    show own_E p e below _ s₁ (mkF m 8 #[iv p1, iv p2, iv p3, iv p4, iv p5, iv p6, iv 1, .unset, .unset, .unset, .unset] [])
    obtain ⟨T15, h15, X15, e15, E15, A15, D15, -, st15⟩ := newO X0 hx hZ hown (own_w hw 0 rfl) (own_w hw 1 rfl) (own_w hw 2 rfl) e0 (g := (mkF m 8 #[iv p1, iv p2, iv p3, iv p4, iv p5, iv p6, iv 1, .unset, .unset, .unset, .unset] [])) rfl (hb hby at_8) (by decide) (by decide)
    obtain ⟨b15, g15⟩ : ∃ z, z = h0.size := ⟨_, rfl⟩
    rw [← g15] at A15 D15 st15
    have g_b15 : n0 ≤ b15 := Nat.le_trans Z0 (Nat.le_of_eq g15.symm)
    have Z16 := Nat.le_trans Z0 E15.1
    have F_documents_b15 : Fld Z h15 b15 "com/example/lean_scorer/leanscorer/Postings" "documents" "[I" .null := D15 (Or.inl (own_w hw 11 rfl)) (ty := (.array .int)) (by decide)
    have F_frequencies_b15 : Fld Z h15 b15 "com/example/lean_scorer/leanscorer/Postings" "frequencies" "[I" .null := D15 (Or.inl (own_w hw 13 rfl)) (ty := (.array .int)) (by decide)
    have F_minLength_b15 : Fld Z h15 b15 "com/example/lean_scorer/leanscorer/Postings" "minLength" "I" (.int (0 : Int32)) := D15 (Or.inl (own_w hw 16 rfl)) (ty := .int) (by decide)
    have F_maxFrequency_b15 : Fld Z h15 b15 "com/example/lean_scorer/leanscorer/Postings" "maxFrequency" "I" (.int (0 : Int32)) := D15 (Or.inl (own_w hw 18 rfl)) (ty := .int) (by decide)
    have F_size_b15 : Fld Z h15 b15 "com/example/lean_scorer/leanscorer/Postings" "size" "I" (.int (0 : Int32)) := D15 (Or.inl (own_w hw 26 rfl)) (ty := .int) (by decide)
    refine own_st st15 ?_
    show own_E p e below _ T15 (mkF m 11 #[iv p1, iv p2, iv p3, iv p4, iv p5, iv p6, iv 1, .unset, .unset, .unset, .unset] [.ref b15])
    refine own_st (fun t k => XS.dup X15.here hx rfl (hb hby at_11) rfl rfl k) ?_
    show own_E p e below _ T15 (mkF m 12 #[iv p1, iv p2, iv p3, iv p4, iv p5, iv p6, iv 1, .unset, .unset, .unset, .unset] [.ref b15, .ref b15])
    obtain ⟨_, _, ⟨T17, L17, k17, n17⟩, -, X17, ⟨Lc17, hQ17, l17, y17, z17⟩, st17⟩ := X15.specialBack hx (y := own_y3) rfl hown (mvT hZ (own_w hw 3 rfl)) (mvT hZ (own_w hw 4 rfl)) (mvT hZ (own_w hw 5 rfl)) (by decide) (backOf (W := 1) (own_init l Z a0 hw [] b15 h15 n0 Z16 A15 F_documents_b15 F_frequencies_b15 F_minLength_b15 F_maxFrequency_b15 F_size_b15 g_b15) hZ (own_w hw 5 rfl) (own_w hw 2 rfl) (by decide) (by decide)) (g := (mkF m 12 #[iv p1, iv p2, iv p3, iv p4, iv p5, iv p6, iv 1, .unset, .unset, .unset, .unset] [.ref b15, .ref b15])) rfl (by rw [hml]; rfl) (Steps.refl _) (a := b15) (argsL := []) (rest := [(.ref b15)]) (lenOf own_pd_1 rfl) rfl (by show 2 * 0 + _ ≤ _; exact Nat.le_of_eq rfl) (hb hby at_12) (fun _ _ => ⟨rfl, e15, (by decide : 1 + 2 ≤ _), (by decide : 5 + 2 ≤ _)⟩)
    dsimp only [Pt.U, Pt.locs, Pt.cells, Pt.slots] at X17 l17 y17 z17 st17 hQ17
    subst l17 y17 z17
    obtain ⟨b17_o0, b17_o1, k17_o2, k17_o3, rfl, Nq17, Kq17, sz17_0, sz17_1, nq17_0_1, P17_0, P17_1, P17_2, P17_3, P17_4, P17_5, P17_6, P17_7, P17_8, P17_9⟩ := hQ17
    have N17 := Fr.app (Fr.nil n0) Nq17
    have ne_b15_b17_o0 : b15 ≠ b17_o0 := Nat.ne_of_lt (Nat.lt_of_lt_of_le A15.lt sz17_0)
    have g_b17_o0 : n0 ≤ b17_o0 := Nat.le_trans Z16 sz17_0
    have ne_b15_b17_o1 : b15 ≠ b17_o1 := Nat.ne_of_lt (Nat.lt_of_lt_of_le A15.lt sz17_1)
    have g_b17_o1 : n0 ≤ b17_o1 := Nat.le_trans Z16 sz17_1
    have e17 : T17.heap = T17.heap := rfl
    have Z18 := Nat.le_trans Z16 Kq17.1
    refine own_tr st17 ?_
    show own_E p e below _ T17 (mkF m 15 #[iv p1, iv p2, iv p3, iv p4, iv p5, iv p6, iv 1, .unset, .unset, .unset, .unset] [.ref b15])
    refine own_st (fun t k => XS.astore X17.here hx rfl (hb hby at_15) rfl rfl (l' := #[iv p1, iv p2, iv p3, iv p4, iv p5, iv p6, iv 1, rv b15, .unset, .unset, .unset]) rfl k) ?_
    show own_E p e below _ T17 (mkF m 17 #[iv p1, iv p2, iv p3, iv p4, iv p5, iv p6, iv 1, rv b15, .unset, .unset, .unset] [])
    refine own_st (fun t k => XS.iload X17.here hx rfl (hb hby at_17) rfl k) ?_
    show own_E p e below _ T17 (mkF m 19 #[iv p1, iv p2, iv p3, iv p4, iv p5, iv p6, iv 1, rv b15, .unset, .unset, .unset] [.int 1])
    refine own_st (fun t k => XS.ifNo X17.here hx rfl (hb hby at_19) rfl (by decide) k) ?_
    show own_E p e below _ T17 (mkF m 22 #[iv p1, iv p2, iv p3, iv p4, iv p5, iv p6, iv 1, rv b15, .unset, .unset, .unset] [])
    refine own_st (fun t k => XS.aload X17.here hx rfl (hb hby at_22) rfl rfl k) ?_
    show own_E p e below _ T17 (mkF m 24 #[iv p1, iv p2, iv p3, iv p4, iv p5, iv p6, iv 1, rv b15, .unset, .unset, .unset] [.ref b15])
    refine own_st (fun t k => XS.iloadN X17.here hx rfl (hb hby at_24) rfl k) ?_
    show own_E p e below _ T17 (mkF m 25 #[iv p1, iv p2, iv p3, iv p4, iv p5, iv p6, iv 1, rv b15, .unset, .unset, .unset] [.int p2, .ref b15])
    refine own_st (fun t k => XS.iloadN X17.here hx rfl (hb hby at_25) rfl k) ?_
    show own_E p e below _ T17 (mkF m 26 #[iv p1, iv p2, iv p3, iv p4, iv p5, iv p6, iv 1, rv b15, .unset, .unset, .unset] [.int p3, .int p2, .ref b15])
    refine own_st (fun t k => XS.iloadN X17.here hx rfl (hb hby at_26) rfl k) ?_
    show own_E p e below _ T17 (mkF m 27 #[iv p1, iv p2, iv p3, iv p4, iv p5, iv p6, iv 1, rv b15, .unset, .unset, .unset] [.int p4, .int p3, .int p2, .ref b15])
    obtain ⟨cq19, kq19, q19a, q19b, q19c⟩ := isOf hZ e17 P17_0
    obtain ⟨_, _, ⟨T19, L19, k19, n19⟩, -, X19, ⟨Lc19, hQ19, l19, y19, z19⟩, st19⟩ := X17.virtualBack hx (y := own_y4) (z := own_y4) hown (mvT hZ (own_w hw 42 rfl)) (mvT hZ (own_w hw 43 rfl)) (notFace_of_selects (args := #[]) (mvT hZ (own_w hw 45 rfl))) (mvT hZ (own_w hw 45 rfl)) (mvT hZ (own_w hw 44 rfl)) (by decide) (backOf (W := 0) (own_add0 l Z a0 hw [] b15 b17_o0 b17_o1 k17_o2 k17_o3 p2 p3 p4 (2147483647 : Int32) (0 : Int32) (0 : Int32) (0 : Int32) T17.heap n0 Z18 P17_0 P17_7 P17_9 P17_1 P17_2 P17_3 P17_4 P17_5 P17_6 P17_8 ne_b15_b17_o0 ne_b15_b17_o1 nq17_0_1 g_b15 g_b17_o0 g_b17_o1) hZ (own_w hw 46 rfl) (own_w hw 2 rfl) (by decide) (by decide)) q19a q19c (g := (mkF m 27 #[iv p1, iv p2, iv p3, iv p4, iv p5, iv p6, iv 1, rv b15, .unset, .unset, .unset] [.int p4, .int p3, .int p2, .ref b15])) rfl (by rw [hml]; rfl) (Steps.refl _) (argsL := [(.int p2), (.int p3), (.int p4)]) (rest := []) (lenOf own_pd_3 rfl) rfl (by show 2 * 0 + _ ≤ _; exact Nat.le_of_eq rfl) (hb hby at_27) (fun _ _ => ⟨rfl, e17, (by decide : 3 + 0 ≤ _), (by decide : 7 + 0 ≤ _)⟩)
    dsimp only [Pt.U, Pt.locs, Pt.cells, Pt.slots] at X19 l19 y19 z19 st19 hQ19
    subst l19 y19 z19
    obtain ⟨rfl, Nq19, Kq19, P19_0, P19_1, P19_2, P19_3, P19_4, P19_5, P19_6, P19_7, P19_8, P19_9⟩ := hQ19
    have N19 := Fr.app N17 Nq19
    have e19 : T19.heap = T19.heap := rfl
    have Z20 := Nat.le_trans Z18 Kq19.1
    refine own_tr st19 ?_
    show own_E p e below _ T19 (mkF m 30 #[iv p1, iv p2, iv p3, iv p4, iv p5, iv p6, iv 1, rv b15, .unset, .unset, .unset] [])
    refine own_st (fun t k => XS.iload X19.here hx rfl (hb hby at_30) rfl k) ?_
    show own_E p e below _ T19 (mkF m 32 #[iv p1, iv p2, iv p3, iv p4, iv p5, iv p6, iv 1, rv b15, .unset, .unset, .unset] [.int 1])
    refine own_st (fun t k => XS.iconst X19.here hx rfl (hb hby at_32) k) ?_
    show own_E p e below _ T19 (mkF m 33 #[iv p1, iv p2, iv p3, iv p4, iv p5, iv p6, iv 1, rv b15, .unset, .unset, .unset] [.int 1, .int 1])
    refine own_st (fun t k => XS.icmpYes X19.here hx rfl (pc0 := 33) (pc' := 45) rfl (hb hby at_33) rfl (by decide) (by decide) (by decide) k) ?_
    show own_E p e below _ T19 (mkF m 45 #[iv p1, iv p2, iv p3, iv p4, iv p5, iv p6, iv 1, rv b15, .unset, .unset, .unset] [])
    refine own_st (fun t k => XS.iload X19.here hx rfl (hb hby at_45) rfl k) ?_
    show own_E p e below _ T19 (mkF m 47 #[iv p1, iv p2, iv p3, iv p4, iv p5, iv p6, iv 1, rv b15, .unset, .unset, .unset] [.int 1])
    refine own_st (fun t k => XS.iconst X19.here hx rfl (hb hby at_47) k) ?_
    show own_E p e below _ T19 (mkF m 48 #[iv p1, iv p2, iv p3, iv p4, iv p5, iv p6, iv 1, rv b15, .unset, .unset, .unset] [.int 2, .int 1])
    refine own_st (fun t k => XS.icmpYes X19.here hx rfl (pc0 := 48) (pc' := 61) rfl (hb hby at_48) rfl (by decide) (by decide) (by decide) k) ?_
    show own_E p e below _ T19 (mkF m 61 #[iv p1, iv p2, iv p3, iv p4, iv p5, iv p6, iv 1, rv b15, .unset, .unset, .unset] [])
    refine own_st (fun t k => XS.iload X19.here hx rfl (hb hby at_61) rfl k) ?_
    show own_E p e below _ T19 (mkF m 63 #[iv p1, iv p2, iv p3, iv p4, iv p5, iv p6, iv 1, rv b15, .unset, .unset, .unset] [.int 1])
    refine own_st (fun t k => XS.iconst X19.here hx rfl (hb hby at_63) k) ?_
    show own_E p e below _ T19 (mkF m 64 #[iv p1, iv p2, iv p3, iv p4, iv p5, iv p6, iv 1, rv b15, .unset, .unset, .unset] [.int 3, .int 1])
    refine own_st (fun t k => XS.icmpYes X19.here hx rfl (pc0 := 64) (pc' := 77) rfl (hb hby at_64) rfl (by decide) (by decide) (by decide) k) ?_
    show own_E p e below _ T19 (mkF m 77 #[iv p1, iv p2, iv p3, iv p4, iv p5, iv p6, iv 1, rv b15, .unset, .unset, .unset] [])
    refine own_st (fun t k => XS.aload X19.here hx rfl (hb hby at_77) rfl rfl k) ?_
    show own_E p e below _ T19 (mkF m 79 #[iv p1, iv p2, iv p3, iv p4, iv p5, iv p6, iv 1, rv b15, .unset, .unset, .unset] [.ref b15])
    obtain ⟨T21, X21, e21, st21⟩ := getF X19 hx hZ hown (host := "") (Or.inl (own_w hw 17 rfl)) Via.refl e19 P19_4 (g := (mkF m 79 #[iv p1, iv p2, iv p3, iv p4, iv p5, iv p6, iv 1, rv b15, .unset, .unset, .unset] [.ref b15])) rfl rfl (hb hby at_79)
    refine own_st st21 ?_
    show own_E p e below _ T21 (mkF m 82 #[iv p1, iv p2, iv p3, iv p4, iv p5, iv p6, iv 1, rv b15, .unset, .unset, .unset] [.int (own_max (0 : Int32) p3)])
    refine own_st (fun t k => XS.istore X21.here hx rfl (hb hby at_82) rfl (l' := #[iv p1, iv p2, iv p3, iv p4, iv p5, iv p6, iv 1, rv b15, iv (own_max (0 : Int32) p3), .unset, .unset]) rfl k) ?_
    show own_E p e below _ T21 (mkF m 84 #[iv p1, iv p2, iv p3, iv p4, iv p5, iv p6, iv 1, rv b15, iv (own_max (0 : Int32) p3), .unset, .unset] [])
    refine own_st (fun t k => XS.aload X21.here hx rfl (hb hby at_84) rfl rfl k) ?_
    show own_E p e below _ T21 (mkF m 86 #[iv p1, iv p2, iv p3, iv p4, iv p5, iv p6, iv 1, rv b15, iv (own_max (0 : Int32) p3), .unset, .unset] [.ref b15])
    obtain ⟨T22, X22, e22, st22⟩ := getF X21 hx hZ hown (host := "") (Or.inl (own_w hw 19 rfl)) Via.refl e21 P19_3 (g := (mkF m 86 #[iv p1, iv p2, iv p3, iv p4, iv p5, iv p6, iv 1, rv b15, iv (own_max (0 : Int32) p3), .unset, .unset] [.ref b15])) rfl rfl (hb hby at_86)
    refine own_st st22 ?_
    show own_E p e below _ T22 (mkF m 89 #[iv p1, iv p2, iv p3, iv p4, iv p5, iv p6, iv 1, rv b15, iv (own_max (0 : Int32) p3), .unset, .unset] [.int (own_min (2147483647 : Int32) p4)])
    refine own_st (fun t k => XS.istore X22.here hx rfl (hb hby at_89) rfl (l' := #[iv p1, iv p2, iv p3, iv p4, iv p5, iv p6, iv 1, rv b15, iv (own_max (0 : Int32) p3), iv (own_min (2147483647 : Int32) p4), .unset]) rfl k) ?_
    show own_E p e below _ T22 (mkF m 91 #[iv p1, iv p2, iv p3, iv p4, iv p5, iv p6, iv 1, rv b15, iv (own_max (0 : Int32) p3), iv (own_min (2147483647 : Int32) p4), .unset] [])
    refine own_st (fun t k => XS.aload X22.here hx rfl (hb hby at_91) rfl rfl k) ?_
    show own_E p e below _ T22 (mkF m 93 #[iv p1, iv p2, iv p3, iv p4, iv p5, iv p6, iv 1, rv b15, iv (own_max (0 : Int32) p3), iv (own_min (2147483647 : Int32) p4), .unset] [.ref b15])
    obtain ⟨cq23, kq23, q23a, q23b, q23c⟩ := isOf hZ e22 P19_0
    obtain ⟨_, _, ⟨T23, L23, k23, n23⟩, -, X23, ⟨Lc23, hQ23, l23, y23, z23⟩, st23⟩ := X22.virtualBack hx (y := own_y5) (z := own_y5) hown (mvT hZ (own_w hw 20 rfl)) (mvT hZ (own_w hw 21 rfl)) (notFace_of_selects (args := #[]) (mvT hZ (own_w hw 23 rfl))) (mvT hZ (own_w hw 23 rfl)) (mvT hZ (own_w hw 22 rfl)) (by decide) (backOf (W := 0) (own_trim1 l Z a0 hw [] b15 b17_o0 b17_o1 k17_o2 k17_o3 (own_min (2147483647 : Int32) p4) (own_max (0 : Int32) p3) p2 p3 T19.heap n0 Z20 P19_0 P19_7 P19_9 P19_1 P19_2 P19_3 P19_4 P19_5 P19_6 P19_8 ne_b15_b17_o0 ne_b15_b17_o1 nq17_0_1 g_b15) hZ (own_w hw 24 rfl) (own_w hw 2 rfl) (by decide) (by decide)) q23a q23c (g := (mkF m 93 #[iv p1, iv p2, iv p3, iv p4, iv p5, iv p6, iv 1, rv b15, iv (own_max (0 : Int32) p3), iv (own_min (2147483647 : Int32) p4), .unset] [.ref b15])) rfl (by rw [hml]; rfl) (Steps.refl _) (argsL := []) (rest := []) (lenOf own_pd_1 rfl) rfl (by show 2 * 0 + _ ≤ _; exact Nat.le_of_eq rfl) (hb hby at_93) (fun _ _ => ⟨rfl, e22, (by decide : 3 + 2 ≤ _), (by decide : 7 + 2 ≤ _)⟩)
    dsimp only [Pt.U, Pt.locs, Pt.cells, Pt.slots] at X23 l23 y23 z23 st23 hQ23
    subst l23 y23 z23
    obtain ⟨b23_o0, b23_o1, rfl, Nq23, Kq23, sz23_0, sz23_1, nq23_0_1, P23_0, P23_1, P23_2, P23_3, P23_4, P23_5, P23_6, P23_7, P23_8, P23_9⟩ := hQ23
    have N23 := Fr.app N19 Nq23
    have ne_b15_b23_o0 : b15 ≠ b23_o0 := Nat.ne_of_lt (Nat.lt_of_lt_of_le P19_0.lt sz23_0)
    have ne_b17_o0_b23_o0 : b17_o0 ≠ b23_o0 := Nat.ne_of_lt (Nat.lt_of_lt_of_le P19_7.lt sz23_0)
    have ne_b17_o1_b23_o0 : b17_o1 ≠ b23_o0 := Nat.ne_of_lt (Nat.lt_of_lt_of_le P19_9.lt sz23_0)
    have g_b23_o0 : n0 ≤ b23_o0 := Nat.le_trans Z20 sz23_0
    have ne_b15_b23_o1 : b15 ≠ b23_o1 := Nat.ne_of_lt (Nat.lt_of_lt_of_le P19_0.lt sz23_1)
    have ne_b17_o0_b23_o1 : b17_o0 ≠ b23_o1 := Nat.ne_of_lt (Nat.lt_of_lt_of_le P19_7.lt sz23_1)
    have ne_b17_o1_b23_o1 : b17_o1 ≠ b23_o1 := Nat.ne_of_lt (Nat.lt_of_lt_of_le P19_9.lt sz23_1)
    have g_b23_o1 : n0 ≤ b23_o1 := Nat.le_trans Z20 sz23_1
    have e23 : T23.heap = T23.heap := rfl
    have Z24 := Nat.le_trans Z20 Kq23.1
    refine own_tr st23 ?_
    show own_E p e below _ T23 (mkF m 96 #[iv p1, iv p2, iv p3, iv p4, iv p5, iv p6, iv 1, rv b15, iv (own_max (0 : Int32) p3), iv (own_min (2147483647 : Int32) p4), .unset] [])
    refine own_st (fun t k => XS.aload X23.here hx rfl (hb hby at_96) rfl rfl k) ?_
    show own_E p e below _ T23 (mkF m 98 #[iv p1, iv p2, iv p3, iv p4, iv p5, iv p6, iv 1, rv b15, iv (own_max (0 : Int32) p3), iv (own_min (2147483647 : Int32) p4), .unset] [.ref b15])
    obtain ⟨T25, X25, e25, st25⟩ := getF X23 hx hZ hown (host := "") (Or.inl (own_w hw 39 rfl)) Via.refl e23 P23_5 (g := (mkF m 98 #[iv p1, iv p2, iv p3, iv p4, iv p5, iv p6, iv 1, rv b15, iv (own_max (0 : Int32) p3), iv (own_min (2147483647 : Int32) p4), .unset] [.ref b15])) rfl rfl (hb hby at_98)
    refine own_st st25 ?_
    show own_E p e below _ T25 (mkF m 101 #[iv p1, iv p2, iv p3, iv p4, iv p5, iv p6, iv 1, rv b15, iv (own_max (0 : Int32) p3), iv (own_min (2147483647 : Int32) p4), .unset] [.int 1])
    refine own_st (fun t k => XS.iload X25.here hx rfl (hb hby at_101) rfl k) ?_
    show own_E p e below _ T25 (mkF m 103 #[iv p1, iv p2, iv p3, iv p4, iv p5, iv p6, iv 1, rv b15, iv (own_max (0 : Int32) p3), iv (own_min (2147483647 : Int32) p4), .unset] [.int 1, .int 1])
    refine own_st (fun t k => XS.icmpNo X25.here hx rfl (hb hby at_103) rfl (by decide) k) ?_
    show own_E p e below _ T25 (mkF m 106 #[iv p1, iv p2, iv p3, iv p4, iv p5, iv p6, iv 1, rv b15, iv (own_max (0 : Int32) p3), iv (own_min (2147483647 : Int32) p4), .unset] [])
    refine own_st (fun t k => XS.aload X25.here hx rfl (hb hby at_106) rfl rfl k) ?_
    show own_E p e below _ T25 (mkF m 108 #[iv p1, iv p2, iv p3, iv p4, iv p5, iv p6, iv 1, rv b15, iv (own_max (0 : Int32) p3), iv (own_min (2147483647 : Int32) p4), .unset] [.ref b15])
    obtain ⟨T26, X26, e26, st26⟩ := getF X25 hx hZ hown (host := "") (Or.inl (own_w hw 40 rfl)) Via.refl e25 P23_1 (g := (mkF m 108 #[iv p1, iv p2, iv p3, iv p4, iv p5, iv p6, iv 1, rv b15, iv (own_max (0 : Int32) p3), iv (own_min (2147483647 : Int32) p4), .unset] [.ref b15])) rfl rfl (hb hby at_108)
    refine own_st st26 ?_
    show own_E p e below _ T26 (mkF m 111 #[iv p1, iv p2, iv p3, iv p4, iv p5, iv p6, iv 1, rv b15, iv (own_max (0 : Int32) p3), iv (own_min (2147483647 : Int32) p4), .unset] [.ref b23_o0])
    refine own_st (own_alen X26 hx hZ e26 P23_6 (g := (mkF m 111 #[iv p1, iv p2, iv p3, iv p4, iv p5, iv p6, iv 1, rv b15, iv (own_max (0 : Int32) p3), iv (own_min (2147483647 : Int32) p4), .unset] [.ref b23_o0])) rfl rfl (hb hby at_111)) ?_
    show own_E p e below _ T26 (mkF m 112 #[iv p1, iv p2, iv p3, iv p4, iv p5, iv p6, iv 1, rv b15, iv (own_max (0 : Int32) p3), iv (own_min (2147483647 : Int32) p4), .unset] [.int 1])
    refine own_st (fun t k => XS.iload X26.here hx rfl (hb hby at_112) rfl k) ?_
    show own_E p e below _ T26 (mkF m 114 #[iv p1, iv p2, iv p3, iv p4, iv p5, iv p6, iv 1, rv b15, iv (own_max (0 : Int32) p3), iv (own_min (2147483647 : Int32) p4), .unset] [.int 1, .int 1])
    refine own_st (fun t k => XS.icmpNo X26.here hx rfl (hb hby at_114) rfl (by decide) k) ?_
    show own_E p e below _ T26 (mkF m 117 #[iv p1, iv p2, iv p3, iv p4, iv p5, iv p6, iv 1, rv b15, iv (own_max (0 : Int32) p3), iv (own_min (2147483647 : Int32) p4), .unset] [])
    refine own_st (fun t k => XS.aload X26.here hx rfl (hb hby at_117) rfl rfl k) ?_
    show own_E p e below _ T26 (mkF m 119 #[iv p1, iv p2, iv p3, iv p4, iv p5, iv p6, iv 1, rv b15, iv (own_max (0 : Int32) p3), iv (own_min (2147483647 : Int32) p4), .unset] [.ref b15])
    obtain ⟨T27, X27, e27, st27⟩ := getF X26 hx hZ hown (host := "") (Or.inl (own_w hw 41 rfl)) Via.refl e26 P23_2 (g := (mkF m 119 #[iv p1, iv p2, iv p3, iv p4, iv p5, iv p6, iv 1, rv b15, iv (own_max (0 : Int32) p3), iv (own_min (2147483647 : Int32) p4), .unset] [.ref b15])) rfl rfl (hb hby at_119)
    refine own_st st27 ?_
    show own_E p e below _ T27 (mkF m 122 #[iv p1, iv p2, iv p3, iv p4, iv p5, iv p6, iv 1, rv b15, iv (own_max (0 : Int32) p3), iv (own_min (2147483647 : Int32) p4), .unset] [.ref b23_o1])
    refine own_st (own_alen X27 hx hZ e27 P23_8 (g := (mkF m 122 #[iv p1, iv p2, iv p3, iv p4, iv p5, iv p6, iv 1, rv b15, iv (own_max (0 : Int32) p3), iv (own_min (2147483647 : Int32) p4), .unset] [.ref b23_o1])) rfl rfl (hb hby at_122)) ?_
    show own_E p e below _ T27 (mkF m 123 #[iv p1, iv p2, iv p3, iv p4, iv p5, iv p6, iv 1, rv b15, iv (own_max (0 : Int32) p3), iv (own_min (2147483647 : Int32) p4), .unset] [.int 1])
    refine own_st (fun t k => XS.iload X27.here hx rfl (hb hby at_123) rfl k) ?_
    show own_E p e below _ T27 (mkF m 125 #[iv p1, iv p2, iv p3, iv p4, iv p5, iv p6, iv 1, rv b15, iv (own_max (0 : Int32) p3), iv (own_min (2147483647 : Int32) p4), .unset] [.int 1, .int 1])
    refine own_st (fun t k => XS.icmpNo X27.here hx rfl (hb hby at_125) rfl (by decide) k) ?_
    show own_E p e below _ T27 (mkF m 128 #[iv p1, iv p2, iv p3, iv p4, iv p5, iv p6, iv 1, rv b15, iv (own_max (0 : Int32) p3), iv (own_min (2147483647 : Int32) p4), .unset] [])
    refine own_st (fun t k => XS.aload X27.here hx rfl (hb hby at_128) rfl rfl k) ?_
    show own_E p e below _ T27 (mkF m 130 #[iv p1, iv p2, iv p3, iv p4, iv p5, iv p6, iv 1, rv b15, iv (own_max (0 : Int32) p3), iv (own_min (2147483647 : Int32) p4), .unset] [.ref b15])
    obtain ⟨T28, X28, e28, st28⟩ := getF X27 hx hZ hown (host := "") (Or.inl (own_w hw 17 rfl)) Via.refl e27 P23_4 (g := (mkF m 130 #[iv p1, iv p2, iv p3, iv p4, iv p5, iv p6, iv 1, rv b15, iv (own_max (0 : Int32) p3), iv (own_min (2147483647 : Int32) p4), .unset] [.ref b15])) rfl rfl (hb hby at_130)
    refine own_st st28 ?_
    show own_E p e below _ T28 (mkF m 133 #[iv p1, iv p2, iv p3, iv p4, iv p5, iv p6, iv 1, rv b15, iv (own_max (0 : Int32) p3), iv (own_min (2147483647 : Int32) p4), .unset] [.int (own_max (0 : Int32) p3)])
    refine own_st (fun t k => XS.iload X28.here hx rfl (hb hby at_133) rfl k) ?_
    show own_E p e below _ T28 (mkF m 135 #[iv p1, iv p2, iv p3, iv p4, iv p5, iv p6, iv 1, rv b15, iv (own_max (0 : Int32) p3), iv (own_min (2147483647 : Int32) p4), .unset] [.int (own_max (0 : Int32) p3), .int (own_max (0 : Int32) p3)])
    refine own_st (fun t k => XS.icmpNo X28.here hx rfl (hb hby at_135) rfl (teq rfl).2 k) ?_
    show own_E p e below _ T28 (mkF m 138 #[iv p1, iv p2, iv p3, iv p4, iv p5, iv p6, iv 1, rv b15, iv (own_max (0 : Int32) p3), iv (own_min (2147483647 : Int32) p4), .unset] [])
    refine own_st (fun t k => XS.aload X28.here hx rfl (hb hby at_138) rfl rfl k) ?_
    show own_E p e below _ T28 (mkF m 140 #[iv p1, iv p2, iv p3, iv p4, iv p5, iv p6, iv 1, rv b15, iv (own_max (0 : Int32) p3), iv (own_min (2147483647 : Int32) p4), .unset] [.ref b15])
    obtain ⟨T29, X29, e29, st29⟩ := getF X28 hx hZ hown (host := "") (Or.inl (own_w hw 19 rfl)) Via.refl e28 P23_3 (g := (mkF m 140 #[iv p1, iv p2, iv p3, iv p4, iv p5, iv p6, iv 1, rv b15, iv (own_max (0 : Int32) p3), iv (own_min (2147483647 : Int32) p4), .unset] [.ref b15])) rfl rfl (hb hby at_140)
    refine own_st st29 ?_
    show own_E p e below _ T29 (mkF m 143 #[iv p1, iv p2, iv p3, iv p4, iv p5, iv p6, iv 1, rv b15, iv (own_max (0 : Int32) p3), iv (own_min (2147483647 : Int32) p4), .unset] [.int (own_min (2147483647 : Int32) p4)])
    refine own_st (fun t k => XS.iload X29.here hx rfl (hb hby at_143) rfl k) ?_
    show own_E p e below _ T29 (mkF m 145 #[iv p1, iv p2, iv p3, iv p4, iv p5, iv p6, iv 1, rv b15, iv (own_max (0 : Int32) p3), iv (own_min (2147483647 : Int32) p4), .unset] [.int (own_min (2147483647 : Int32) p4), .int (own_min (2147483647 : Int32) p4)])
    refine own_st (fun t k => XS.icmpNo X29.here hx rfl (hb hby at_145) rfl (teq rfl).2 k) ?_
    show own_E p e below _ T29 (mkF m 148 #[iv p1, iv p2, iv p3, iv p4, iv p5, iv p6, iv 1, rv b15, iv (own_max (0 : Int32) p3), iv (own_min (2147483647 : Int32) p4), .unset] [])
    refine own_st (fun t k => XS.iconst X29.here hx rfl (hb hby at_148) k) ?_
    show own_E p e below _ T29 (mkF m 149 #[iv p1, iv p2, iv p3, iv p4, iv p5, iv p6, iv 1, rv b15, iv (own_max (0 : Int32) p3), iv (own_min (2147483647 : Int32) p4), .unset] [.int 1])
    refine own_st (fun t k => XS.goto X29.here hx rfl (pc0 := 149) (pc' := 153) rfl (hb hby at_149) (by decide) (by decide) k) ?_
    show own_E p e below _ T29 (mkF m 153 #[iv p1, iv p2, iv p3, iv p4, iv p5, iv p6, iv 1, rv b15, iv (own_max (0 : Int32) p3), iv (own_min (2147483647 : Int32) p4), .unset] [.int 1])
    refine own_st (fun t k => XS.istore X29.here hx rfl (hb hby at_153) rfl (l' := #[iv p1, iv p2, iv p3, iv p4, iv p5, iv p6, iv 1, rv b15, iv (own_max (0 : Int32) p3), iv (own_min (2147483647 : Int32) p4), iv 1]) rfl k) ?_
    show own_E p e below _ T29 (mkF m 155 #[iv p1, iv p2, iv p3, iv p4, iv p5, iv p6, iv 1, rv b15, iv (own_max (0 : Int32) p3), iv (own_min (2147483647 : Int32) p4), iv 1] [])
    refine own_st (fun t k => XS.iload X29.here hx rfl (hb hby at_155) rfl k) ?_
    show own_E p e below _ T29 (mkF m 157 #[iv p1, iv p2, iv p3, iv p4, iv p5, iv p6, iv 1, rv b15, iv (own_max (0 : Int32) p3), iv (own_min (2147483647 : Int32) p4), iv 1] [.int 1])
    refine own_st (fun t k => XS.ifNo X29.here hx rfl (hb hby at_157) rfl (by decide) k) ?_
    show own_E p e below _ T29 (mkF m 160 #[iv p1, iv p2, iv p3, iv p4, iv p5, iv p6, iv 1, rv b15, iv (own_max (0 : Int32) p3), iv (own_min (2147483647 : Int32) p4), iv 1] [])
    refine own_st (fun t k => XS.iload X29.here hx rfl (hb hby at_160) rfl k) ?_
    show own_E p e below _ T29 (mkF m 162 #[iv p1, iv p2, iv p3, iv p4, iv p5, iv p6, iv 1, rv b15, iv (own_max (0 : Int32) p3), iv (own_min (2147483647 : Int32) p4), iv 1] [.int 1])
    refine own_st (fun t k => XS.ifNo X29.here hx rfl (hb hby at_162) rfl (by decide) k) ?_
    show own_E p e below _ T29 (mkF m 165 #[iv p1, iv p2, iv p3, iv p4, iv p5, iv p6, iv 1, rv b15, iv (own_max (0 : Int32) p3), iv (own_min (2147483647 : Int32) p4), iv 1] [])
    refine own_st (fun t k => XS.aload X29.here hx rfl (hb hby at_165) rfl rfl k) ?_
    show own_E p e below _ T29 (mkF m 167 #[iv p1, iv p2, iv p3, iv p4, iv p5, iv p6, iv 1, rv b15, iv (own_max (0 : Int32) p3), iv (own_min (2147483647 : Int32) p4), iv 1] [.ref b15])
    obtain ⟨T30, X30, e30, st30⟩ := getF X29 hx hZ hown (host := "") (Or.inl (own_w hw 40 rfl)) Via.refl e29 P23_1 (g := (mkF m 167 #[iv p1, iv p2, iv p3, iv p4, iv p5, iv p6, iv 1, rv b15, iv (own_max (0 : Int32) p3), iv (own_min (2147483647 : Int32) p4), iv 1] [.ref b15])) rfl rfl (hb hby at_167)
    refine own_st st30 ?_
    show own_E p e below _ T30 (mkF m 170 #[iv p1, iv p2, iv p3, iv p4, iv p5, iv p6, iv 1, rv b15, iv (own_max (0 : Int32) p3), iv (own_min (2147483647 : Int32) p4), iv 1] [.ref b23_o0])
    refine own_st (fun t k => XS.iconst X30.here hx rfl (hb hby at_170) k) ?_
    show own_E p e below _ T30 (mkF m 171 #[iv p1, iv p2, iv p3, iv p4, iv p5, iv p6, iv 1, rv b15, iv (own_max (0 : Int32) p3), iv (own_min (2147483647 : Int32) p4), iv 1] [.int 0, .ref b23_o0])
    refine own_st (own_ald X30 hx hZ e30 P23_6 (j := (0 : Int32)) ⟨by decide, by decide⟩ (v := (.int p2)) rfl (g := (mkF m 171 #[iv p1, iv p2, iv p3, iv p4, iv p5, iv p6, iv 1, rv b15, iv (own_max (0 : Int32) p3), iv (own_min (2147483647 : Int32) p4), iv 1] [.int 0, .ref b23_o0])) rfl rfl (hb hby at_171)) ?_
    show own_E p e below _ T30 (mkF m 172 #[iv p1, iv p2, iv p3, iv p4, iv p5, iv p6, iv 1, rv b15, iv (own_max (0 : Int32) p3), iv (own_min (2147483647 : Int32) p4), iv 1] [.int p2])
    refine own_st (fun t k => XS.iloadN X30.here hx rfl (hb hby at_172) rfl k) ?_
    show own_E p e below _ T30 (mkF m 173 #[iv p1, iv p2, iv p3, iv p4, iv p5, iv p6, iv 1, rv b15, iv (own_max (0 : Int32) p3), iv (own_min (2147483647 : Int32) p4), iv 1] [.int p2, .int p2])
    refine own_st (fun t k => XS.icmpNo X30.here hx rfl (hb hby at_173) rfl (teq rfl).2 k) ?_
    show own_E p e below _ T30 (mkF m 176 #[iv p1, iv p2, iv p3, iv p4, iv p5, iv p6, iv 1, rv b15, iv (own_max (0 : Int32) p3), iv (own_min (2147483647 : Int32) p4), iv 1] [])
    refine own_st (fun t k => XS.aload X30.here hx rfl (hb hby at_176) rfl rfl k) ?_
    show own_E p e below _ T30 (mkF m 178 #[iv p1, iv p2, iv p3, iv p4, iv p5, iv p6, iv 1, rv b15, iv (own_max (0 : Int32) p3), iv (own_min (2147483647 : Int32) p4), iv 1] [.ref b15])
    obtain ⟨T31, X31, e31, st31⟩ := getF X30 hx hZ hown (host := "") (Or.inl (own_w hw 41 rfl)) Via.refl e30 P23_2 (g := (mkF m 178 #[iv p1, iv p2, iv p3, iv p4, iv p5, iv p6, iv 1, rv b15, iv (own_max (0 : Int32) p3), iv (own_min (2147483647 : Int32) p4), iv 1] [.ref b15])) rfl rfl (hb hby at_178)
    refine own_st st31 ?_
    show own_E p e below _ T31 (mkF m 181 #[iv p1, iv p2, iv p3, iv p4, iv p5, iv p6, iv 1, rv b15, iv (own_max (0 : Int32) p3), iv (own_min (2147483647 : Int32) p4), iv 1] [.ref b23_o1])
    refine own_st (fun t k => XS.iconst X31.here hx rfl (hb hby at_181) k) ?_
    show own_E p e below _ T31 (mkF m 182 #[iv p1, iv p2, iv p3, iv p4, iv p5, iv p6, iv 1, rv b15, iv (own_max (0 : Int32) p3), iv (own_min (2147483647 : Int32) p4), iv 1] [.int 0, .ref b23_o1])
    refine own_st (own_ald X31 hx hZ e31 P23_8 (j := (0 : Int32)) ⟨by decide, by decide⟩ (v := (.int p3)) rfl (g := (mkF m 182 #[iv p1, iv p2, iv p3, iv p4, iv p5, iv p6, iv 1, rv b15, iv (own_max (0 : Int32) p3), iv (own_min (2147483647 : Int32) p4), iv 1] [.int 0, .ref b23_o1])) rfl rfl (hb hby at_182)) ?_
    show own_E p e below _ T31 (mkF m 183 #[iv p1, iv p2, iv p3, iv p4, iv p5, iv p6, iv 1, rv b15, iv (own_max (0 : Int32) p3), iv (own_min (2147483647 : Int32) p4), iv 1] [.int p3])
    refine own_st (fun t k => XS.iloadN X31.here hx rfl (hb hby at_183) rfl k) ?_
    show own_E p e below _ T31 (mkF m 184 #[iv p1, iv p2, iv p3, iv p4, iv p5, iv p6, iv 1, rv b15, iv (own_max (0 : Int32) p3), iv (own_min (2147483647 : Int32) p4), iv 1] [.int p3, .int p3])
    refine own_st (fun t k => XS.icmpNo X31.here hx rfl (hb hby at_184) rfl (teq rfl).2 k) ?_
    show own_E p e below _ T31 (mkF m 187 #[iv p1, iv p2, iv p3, iv p4, iv p5, iv p6, iv 1, rv b15, iv (own_max (0 : Int32) p3), iv (own_min (2147483647 : Int32) p4), iv 1] [])
    refine own_st (fun t k => XS.iconst X31.here hx rfl (hb hby at_187) k) ?_
    show own_E p e below _ T31 (mkF m 188 #[iv p1, iv p2, iv p3, iv p4, iv p5, iv p6, iv 1, rv b15, iv (own_max (0 : Int32) p3), iv (own_min (2147483647 : Int32) p4), iv 1] [.int 1])
    refine own_st (fun t k => XS.goto X31.here hx rfl (pc0 := 188) (pc' := 192) rfl (hb hby at_188) (by decide) (by decide) k) ?_
    show own_E p e below _ T31 (mkF m 192 #[iv p1, iv p2, iv p3, iv p4, iv p5, iv p6, iv 1, rv b15, iv (own_max (0 : Int32) p3), iv (own_min (2147483647 : Int32) p4), iv 1] [.int 1])
    refine own_st (fun t k => XS.istore X31.here hx rfl (hb hby at_192) rfl (l' := #[iv p1, iv p2, iv p3, iv p4, iv p5, iv p6, iv 1, rv b15, iv (own_max (0 : Int32) p3), iv (own_min (2147483647 : Int32) p4), iv 1]) rfl k) ?_
    show own_E p e below _ T31 (mkF m 194 #[iv p1, iv p2, iv p3, iv p4, iv p5, iv p6, iv 1, rv b15, iv (own_max (0 : Int32) p3), iv (own_min (2147483647 : Int32) p4), iv 1] [])
    refine own_st (fun t k => XS.iload X31.here hx rfl (hb hby at_194) rfl k) ?_
    show own_E p e below _ T31 (mkF m 196 #[iv p1, iv p2, iv p3, iv p4, iv p5, iv p6, iv 1, rv b15, iv (own_max (0 : Int32) p3), iv (own_min (2147483647 : Int32) p4), iv 1] [.int 1])
    refine own_st (fun t k => XS.iconst X31.here hx rfl (hb hby at_196) k) ?_
    show own_E p e below _ T31 (mkF m 197 #[iv p1, iv p2, iv p3, iv p4, iv p5, iv p6, iv 1, rv b15, iv (own_max (0 : Int32) p3), iv (own_min (2147483647 : Int32) p4), iv 1] [.int 1, .int 1])
    refine own_st (fun t k => XS.icmpYes X31.here hx rfl (pc0 := 197) (pc' := 234) rfl (hb hby at_197) rfl (by decide) (by decide) (by decide) k) ?_
    show own_E p e below _ T31 (mkF m 234 #[iv p1, iv p2, iv p3, iv p4, iv p5, iv p6, iv 1, rv b15, iv (own_max (0 : Int32) p3), iv (own_min (2147483647 : Int32) p4), iv 1] [])
    refine own_st (fun t k => XS.iload X31.here hx rfl (hb hby at_234) rfl k) ?_
    show own_E p e below _ T31 (mkF m 236 #[iv p1, iv p2, iv p3, iv p4, iv p5, iv p6, iv 1, rv b15, iv (own_max (0 : Int32) p3), iv (own_min (2147483647 : Int32) p4), iv 1] [.int 1])
    refine own_st (fun t k => XS.iconst X31.here hx rfl (hb hby at_236) k) ?_
    show own_E p e below _ T31 (mkF m 237 #[iv p1, iv p2, iv p3, iv p4, iv p5, iv p6, iv 1, rv b15, iv (own_max (0 : Int32) p3), iv (own_min (2147483647 : Int32) p4), iv 1] [.int 2, .int 1])
    refine own_st (fun t k => XS.icmpYes X31.here hx rfl (pc0 := 237) (pc' := 275) rfl (hb hby at_237) rfl (by decide) (by decide) (by decide) k) ?_
    show own_E p e below _ T31 (mkF m 275 #[iv p1, iv p2, iv p3, iv p4, iv p5, iv p6, iv 1, rv b15, iv (own_max (0 : Int32) p3), iv (own_min (2147483647 : Int32) p4), iv 1] [])
    refine own_st (fun t k => XS.iload X31.here hx rfl (hb hby at_275) rfl k) ?_
    show own_E p e below _ T31 (mkF m 277 #[iv p1, iv p2, iv p3, iv p4, iv p5, iv p6, iv 1, rv b15, iv (own_max (0 : Int32) p3), iv (own_min (2147483647 : Int32) p4), iv 1] [.int 1])
    refine own_st (fun t k => XS.iconst X31.here hx rfl (hb hby at_277) k) ?_
    show own_E p e below _ T31 (mkF m 278 #[iv p1, iv p2, iv p3, iv p4, iv p5, iv p6, iv 1, rv b15, iv (own_max (0 : Int32) p3), iv (own_min (2147483647 : Int32) p4), iv 1] [.int 3, .int 1])
    refine own_st (fun t k => XS.icmpYes X31.here hx rfl (pc0 := 278) (pc' := 317) rfl (hb hby at_278) rfl (by decide) (by decide) (by decide) k) ?_
    show own_E p e below _ T31 (mkF m 317 #[iv p1, iv p2, iv p3, iv p4, iv p5, iv p6, iv 1, rv b15, iv (own_max (0 : Int32) p3), iv (own_min (2147483647 : Int32) p4), iv 1] [])
    refine own_st (fun t k => XS.iload X31.here hx rfl (hb hby at_317) rfl k) ?_
    show own_E p e below _ T31 (mkF m 319 #[iv p1, iv p2, iv p3, iv p4, iv p5, iv p6, iv 1, rv b15, iv (own_max (0 : Int32) p3), iv (own_min (2147483647 : Int32) p4), iv 1] [.int 1])
    refine own_retS X31 hx Bd.notSynchronized Bd.returns rfl (by decide) (hb hby at_319) (by decide) (by decide) ?_
    exact ⟨rfl, N23⟩
  · rw [hs1]
    show own_E p e below _ s₁ (mkF m 8 #[iv p1, iv p2, iv p3, iv p4, iv p5, iv p6, iv 2, .unset, .unset, .unset, .unset] [])
    obtain ⟨T32, h32, X32, e32, E32, A32, D32, -, st32⟩ := newO X0 hx hZ hown (own_w hw 0 rfl) (own_w hw 1 rfl) (own_w hw 2 rfl) e0 (g := (mkF m 8 #[iv p1, iv p2, iv p3, iv p4, iv p5, iv p6, iv 2, .unset, .unset, .unset, .unset] [])) rfl (hb hby at_8) (by decide) (by decide)
    obtain ⟨b32, g32⟩ : ∃ z, z = h0.size := ⟨_, rfl⟩
    rw [← g32] at A32 D32 st32
    have g_b32 : n0 ≤ b32 := Nat.le_trans Z0 (Nat.le_of_eq g32.symm)
    have Z33 := Nat.le_trans Z0 E32.1
    have F_documents_b32 : Fld Z h32 b32 "com/example/lean_scorer/leanscorer/Postings" "documents" "[I" .null := D32 (Or.inl (own_w hw 11 rfl)) (ty := (.array .int)) (by decide)
    have F_frequencies_b32 : Fld Z h32 b32 "com/example/lean_scorer/leanscorer/Postings" "frequencies" "[I" .null := D32 (Or.inl (own_w hw 13 rfl)) (ty := (.array .int)) (by decide)
    have F_minLength_b32 : Fld Z h32 b32 "com/example/lean_scorer/leanscorer/Postings" "minLength" "I" (.int (0 : Int32)) := D32 (Or.inl (own_w hw 16 rfl)) (ty := .int) (by decide)
    have F_maxFrequency_b32 : Fld Z h32 b32 "com/example/lean_scorer/leanscorer/Postings" "maxFrequency" "I" (.int (0 : Int32)) := D32 (Or.inl (own_w hw 18 rfl)) (ty := .int) (by decide)
    have F_size_b32 : Fld Z h32 b32 "com/example/lean_scorer/leanscorer/Postings" "size" "I" (.int (0 : Int32)) := D32 (Or.inl (own_w hw 26 rfl)) (ty := .int) (by decide)
    refine own_st st32 ?_
    show own_E p e below _ T32 (mkF m 11 #[iv p1, iv p2, iv p3, iv p4, iv p5, iv p6, iv 2, .unset, .unset, .unset, .unset] [.ref b32])
    refine own_st (fun t k => XS.dup X32.here hx rfl (hb hby at_11) rfl rfl k) ?_
    show own_E p e below _ T32 (mkF m 12 #[iv p1, iv p2, iv p3, iv p4, iv p5, iv p6, iv 2, .unset, .unset, .unset, .unset] [.ref b32, .ref b32])
    obtain ⟨_, _, ⟨T34, L34, k34, n34⟩, -, X34, ⟨Lc34, hQ34, l34, y34, z34⟩, st34⟩ := X32.specialBack hx (y := own_y3) rfl hown (mvT hZ (own_w hw 3 rfl)) (mvT hZ (own_w hw 4 rfl)) (mvT hZ (own_w hw 5 rfl)) (by decide) (backOf (W := 1) (own_init l Z a0 hw [] b32 h32 n0 Z33 A32 F_documents_b32 F_frequencies_b32 F_minLength_b32 F_maxFrequency_b32 F_size_b32 g_b32) hZ (own_w hw 5 rfl) (own_w hw 2 rfl) (by decide) (by decide)) (g := (mkF m 12 #[iv p1, iv p2, iv p3, iv p4, iv p5, iv p6, iv 2, .unset, .unset, .unset, .unset] [.ref b32, .ref b32])) rfl (by rw [hml]; rfl) (Steps.refl _) (a := b32) (argsL := []) (rest := [(.ref b32)]) (lenOf own_pd_1 rfl) rfl (by show 2 * 0 + _ ≤ _; exact Nat.le_of_eq rfl) (hb hby at_12) (fun _ _ => ⟨rfl, e32, (by decide : 1 + 2 ≤ _), (by decide : 5 + 2 ≤ _)⟩)
    dsimp only [Pt.U, Pt.locs, Pt.cells, Pt.slots] at X34 l34 y34 z34 st34 hQ34
    subst l34 y34 z34
    obtain ⟨b34_o0, b34_o1, k34_o2, k34_o3, rfl, Nq34, Kq34, sz34_0, sz34_1, nq34_0_1, P34_0, P34_1, P34_2, P34_3, P34_4, P34_5, P34_6, P34_7, P34_8, P34_9⟩ := hQ34
    have N34 := Fr.app (Fr.nil n0) Nq34
    have ne_b32_b34_o0 : b32 ≠ b34_o0 := Nat.ne_of_lt (Nat.lt_of_lt_of_le A32.lt sz34_0)
    have g_b34_o0 : n0 ≤ b34_o0 := Nat.le_trans Z33 sz34_0
    have ne_b32_b34_o1 : b32 ≠ b34_o1 := Nat.ne_of_lt (Nat.lt_of_lt_of_le A32.lt sz34_1)
    have g_b34_o1 : n0 ≤ b34_o1 := Nat.le_trans Z33 sz34_1
    have e34 : T34.heap = T34.heap := rfl
    have Z35 := Nat.le_trans Z33 Kq34.1
    refine own_tr st34 ?_
    show own_E p e below _ T34 (mkF m 15 #[iv p1, iv p2, iv p3, iv p4, iv p5, iv p6, iv 2, .unset, .unset, .unset, .unset] [.ref b32])
    refine own_st (fun t k => XS.astore X34.here hx rfl (hb hby at_15) rfl rfl (l' := #[iv p1, iv p2, iv p3, iv p4, iv p5, iv p6, iv 2, rv b32, .unset, .unset, .unset]) rfl k) ?_
    show own_E p e below _ T34 (mkF m 17 #[iv p1, iv p2, iv p3, iv p4, iv p5, iv p6, iv 2, rv b32, .unset, .unset, .unset] [])
    refine own_st (fun t k => XS.iload X34.here hx rfl (hb hby at_17) rfl k) ?_
    show own_E p e below _ T34 (mkF m 19 #[iv p1, iv p2, iv p3, iv p4, iv p5, iv p6, iv 2, rv b32, .unset, .unset, .unset] [.int 2])
    refine own_st (fun t k => XS.ifNo X34.here hx rfl (hb hby at_19) rfl (by decide) k) ?_
    show own_E p e below _ T34 (mkF m 22 #[iv p1, iv p2, iv p3, iv p4, iv p5, iv p6, iv 2, rv b32, .unset, .unset, .unset] [])
    refine own_st (fun t k => XS.aload X34.here hx rfl (hb hby at_22) rfl rfl k) ?_
    show own_E p e below _ T34 (mkF m 24 #[iv p1, iv p2, iv p3, iv p4, iv p5, iv p6, iv 2, rv b32, .unset, .unset, .unset] [.ref b32])
    refine own_st (fun t k => XS.iloadN X34.here hx rfl (hb hby at_24) rfl k) ?_
    show own_E p e below _ T34 (mkF m 25 #[iv p1, iv p2, iv p3, iv p4, iv p5, iv p6, iv 2, rv b32, .unset, .unset, .unset] [.int p2, .ref b32])
    refine own_st (fun t k => XS.iloadN X34.here hx rfl (hb hby at_25) rfl k) ?_
    show own_E p e below _ T34 (mkF m 26 #[iv p1, iv p2, iv p3, iv p4, iv p5, iv p6, iv 2, rv b32, .unset, .unset, .unset] [.int p3, .int p2, .ref b32])
    refine own_st (fun t k => XS.iloadN X34.here hx rfl (hb hby at_26) rfl k) ?_
    show own_E p e below _ T34 (mkF m 27 #[iv p1, iv p2, iv p3, iv p4, iv p5, iv p6, iv 2, rv b32, .unset, .unset, .unset] [.int p4, .int p3, .int p2, .ref b32])
    obtain ⟨cq36, kq36, q36a, q36b, q36c⟩ := isOf hZ e34 P34_0
    obtain ⟨_, _, ⟨T36, L36, k36, n36⟩, -, X36, ⟨Lc36, hQ36, l36, y36, z36⟩, st36⟩ := X34.virtualBack hx (y := own_y4) (z := own_y4) hown (mvT hZ (own_w hw 42 rfl)) (mvT hZ (own_w hw 43 rfl)) (notFace_of_selects (args := #[]) (mvT hZ (own_w hw 45 rfl))) (mvT hZ (own_w hw 45 rfl)) (mvT hZ (own_w hw 44 rfl)) (by decide) (backOf (W := 0) (own_add0 l Z a0 hw [] b32 b34_o0 b34_o1 k34_o2 k34_o3 p2 p3 p4 (2147483647 : Int32) (0 : Int32) (0 : Int32) (0 : Int32) T34.heap n0 Z35 P34_0 P34_7 P34_9 P34_1 P34_2 P34_3 P34_4 P34_5 P34_6 P34_8 ne_b32_b34_o0 ne_b32_b34_o1 nq34_0_1 g_b32 g_b34_o0 g_b34_o1) hZ (own_w hw 46 rfl) (own_w hw 2 rfl) (by decide) (by decide)) q36a q36c (g := (mkF m 27 #[iv p1, iv p2, iv p3, iv p4, iv p5, iv p6, iv 2, rv b32, .unset, .unset, .unset] [.int p4, .int p3, .int p2, .ref b32])) rfl (by rw [hml]; rfl) (Steps.refl _) (argsL := [(.int p2), (.int p3), (.int p4)]) (rest := []) (lenOf own_pd_3 rfl) rfl (by show 2 * 0 + _ ≤ _; exact Nat.le_of_eq rfl) (hb hby at_27) (fun _ _ => ⟨rfl, e34, (by decide : 3 + 0 ≤ _), (by decide : 7 + 0 ≤ _)⟩)
    dsimp only [Pt.U, Pt.locs, Pt.cells, Pt.slots] at X36 l36 y36 z36 st36 hQ36
    subst l36 y36 z36
    obtain ⟨rfl, Nq36, Kq36, P36_0, P36_1, P36_2, P36_3, P36_4, P36_5, P36_6, P36_7, P36_8, P36_9⟩ := hQ36
    have N36 := Fr.app N34 Nq36
    have e36 : T36.heap = T36.heap := rfl
    have Z37 := Nat.le_trans Z35 Kq36.1
    refine own_tr st36 ?_
    show own_E p e below _ T36 (mkF m 30 #[iv p1, iv p2, iv p3, iv p4, iv p5, iv p6, iv 2, rv b32, .unset, .unset, .unset] [])
    refine own_st (fun t k => XS.iload X36.here hx rfl (hb hby at_30) rfl k) ?_
    show own_E p e below _ T36 (mkF m 32 #[iv p1, iv p2, iv p3, iv p4, iv p5, iv p6, iv 2, rv b32, .unset, .unset, .unset] [.int 2])
    refine own_st (fun t k => XS.iconst X36.here hx rfl (hb hby at_32) k) ?_
    show own_E p e below _ T36 (mkF m 33 #[iv p1, iv p2, iv p3, iv p4, iv p5, iv p6, iv 2, rv b32, .unset, .unset, .unset] [.int 1, .int 2])
    refine own_st (fun t k => XS.icmpNo X36.here hx rfl (hb hby at_33) rfl (by decide) k) ?_
    show own_E p e below _ T36 (mkF m 36 #[iv p1, iv p2, iv p3, iv p4, iv p5, iv p6, iv 2, rv b32, .unset, .unset, .unset] [])
    refine own_st (fun t k => XS.aload X36.here hx rfl (hb hby at_36) rfl rfl k) ?_
    show own_E p e below _ T36 (mkF m 38 #[iv p1, iv p2, iv p3, iv p4, iv p5, iv p6, iv 2, rv b32, .unset, .unset, .unset] [.ref b32])
    refine own_st (fun t k => XS.iloadN X36.here hx rfl (hb hby at_38) rfl k) ?_
    show own_E p e below _ T36 (mkF m 39 #[iv p1, iv p2, iv p3, iv p4, iv p5, iv p6, iv 2, rv b32, .unset, .unset, .unset] [.int p3, .ref b32])
    refine own_st (fun t k => XS.iloadN X36.here hx rfl (hb hby at_39) rfl k) ?_
    show own_E p e below _ T36 (mkF m 40 #[iv p1, iv p2, iv p3, iv p4, iv p5, iv p6, iv 2, rv b32, .unset, .unset, .unset] [.int p4, .int p3, .ref b32])
    refine own_st (fun t k => XS.iload X36.here hx rfl (hb hby at_40) rfl k) ?_
    show own_E p e below _ T36 (mkF m 42 #[iv p1, iv p2, iv p3, iv p4, iv p5, iv p6, iv 2, rv b32, .unset, .unset, .unset] [.int p5, .int p4, .int p3, .ref b32])
    obtain ⟨cq38, kq38, q38a, q38b, q38c⟩ := isOf hZ e36 P36_0
    obtain ⟨_, _, ⟨T38, L38, k38, n38⟩, -, X38, ⟨Lc38, hQ38, l38, y38, z38⟩, st38⟩ := X36.virtualBack hx (y := own_y4) (z := own_y4) hown (mvT hZ (own_w hw 42 rfl)) (mvT hZ (own_w hw 43 rfl)) (notFace_of_selects (args := #[]) (mvT hZ (own_w hw 45 rfl))) (mvT hZ (own_w hw 45 rfl)) (mvT hZ (own_w hw 44 rfl)) (by decide) (backOf (W := 0) (own_add1 l Z a0 hw [] b32 b34_o0 b34_o1 k34_o2 k34_o3 p3 p4 p5 (own_min (2147483647 : Int32) p4) (own_max (0 : Int32) p3) p2 p3 T36.heap n0 Z37 P36_0 P36_7 P36_9 P36_1 P36_2 P36_3 P36_4 P36_5 P36_6 P36_8 ne_b32_b34_o0 ne_b32_b34_o1 nq34_0_1 g_b32) hZ (own_w hw 46 rfl) (own_w hw 2 rfl) (by decide) (by decide)) q38a q38c (g := (mkF m 42 #[iv p1, iv p2, iv p3, iv p4, iv p5, iv p6, iv 2, rv b32, .unset, .unset, .unset] [.int p5, .int p4, .int p3, .ref b32])) rfl (by rw [hml]; rfl) (Steps.refl _) (argsL := [(.int p3), (.int p4), (.int p5)]) (rest := []) (lenOf own_pd_3 rfl) rfl (by show 2 * 0 + _ ≤ _; exact Nat.le_of_eq rfl) (hb hby at_42) (fun _ _ => ⟨rfl, e36, (by decide : 3 + 2 ≤ _), (by decide : 7 + 4 ≤ _)⟩)
    dsimp only [Pt.U, Pt.locs, Pt.cells, Pt.slots] at X38 l38 y38 z38 st38 hQ38
    subst l38 y38 z38
    obtain ⟨b38_o0, b38_o1, k38_o2, k38_o3, rfl, Nq38, Kq38, sz38_0, sz38_1, nq38_0_1, P38_0, P38_1, P38_2, P38_3, P38_4, P38_5, P38_6, P38_7, P38_8, P38_9⟩ := hQ38
    have N38 := Fr.app N36 Nq38
    have ne_b32_b38_o0 : b32 ≠ b38_o0 := Nat.ne_of_lt (Nat.lt_of_lt_of_le P36_0.lt sz38_0)
    have ne_b34_o0_b38_o0 : b34_o0 ≠ b38_o0 := Nat.ne_of_lt (Nat.lt_of_lt_of_le P36_7.lt sz38_0)
    have ne_b34_o1_b38_o0 : b34_o1 ≠ b38_o0 := Nat.ne_of_lt (Nat.lt_of_lt_of_le P36_9.lt sz38_0)
    have g_b38_o0 : n0 ≤ b38_o0 := Nat.le_trans Z37 sz38_0
    have ne_b32_b38_o1 : b32 ≠ b38_o1 := Nat.ne_of_lt (Nat.lt_of_lt_of_le P36_0.lt sz38_1)
    have ne_b34_o0_b38_o1 : b34_o0 ≠ b38_o1 := Nat.ne_of_lt (Nat.lt_of_lt_of_le P36_7.lt sz38_1)
    have ne_b34_o1_b38_o1 : b34_o1 ≠ b38_o1 := Nat.ne_of_lt (Nat.lt_of_lt_of_le P36_9.lt sz38_1)
    have g_b38_o1 : n0 ≤ b38_o1 := Nat.le_trans Z37 sz38_1
    have e38 : T38.heap = T38.heap := rfl
    have Z39 := Nat.le_trans Z37 Kq38.1
    refine own_tr st38 ?_
    show own_E p e below _ T38 (mkF m 45 #[iv p1, iv p2, iv p3, iv p4, iv p5, iv p6, iv 2, rv b32, .unset, .unset, .unset] [])
    refine own_st (fun t k => XS.iload X38.here hx rfl (hb hby at_45) rfl k) ?_
    show own_E p e below _ T38 (mkF m 47 #[iv p1, iv p2, iv p3, iv p4, iv p5, iv p6, iv 2, rv b32, .unset, .unset, .unset] [.int 2])
    refine own_st (fun t k => XS.iconst X38.here hx rfl (hb hby at_47) k) ?_
    show own_E p e below _ T38 (mkF m 48 #[iv p1, iv p2, iv p3, iv p4, iv p5, iv p6, iv 2, rv b32, .unset, .unset, .unset] [.int 2, .int 2])
    refine own_st (fun t k => XS.icmpYes X38.here hx rfl (pc0 := 48) (pc' := 61) rfl (hb hby at_48) rfl (by decide) (by decide) (by decide) k) ?_
    show own_E p e below _ T38 (mkF m 61 #[iv p1, iv p2, iv p3, iv p4, iv p5, iv p6, iv 2, rv b32, .unset, .unset, .unset] [])
    refine own_st (fun t k => XS.iload X38.here hx rfl (hb hby at_61) rfl k) ?_
    show own_E p e below _ T38 (mkF m 63 #[iv p1, iv p2, iv p3, iv p4, iv p5, iv p6, iv 2, rv b32, .unset, .unset, .unset] [.int 2])
    refine own_st (fun t k => XS.iconst X38.here hx rfl (hb hby at_63) k) ?_
    show own_E p e below _ T38 (mkF m 64 #[iv p1, iv p2, iv p3, iv p4, iv p5, iv p6, iv 2, rv b32, .unset, .unset, .unset] [.int 3, .int 2])
    refine own_st (fun t k => XS.icmpYes X38.here hx rfl (pc0 := 64) (pc' := 77) rfl (hb hby at_64) rfl (by decide) (by decide) (by decide) k) ?_
    show own_E p e below _ T38 (mkF m 77 #[iv p1, iv p2, iv p3, iv p4, iv p5, iv p6, iv 2, rv b32, .unset, .unset, .unset] [])
    refine own_st (fun t k => XS.aload X38.here hx rfl (hb hby at_77) rfl rfl k) ?_
    show own_E p e below _ T38 (mkF m 79 #[iv p1, iv p2, iv p3, iv p4, iv p5, iv p6, iv 2, rv b32, .unset, .unset, .unset] [.ref b32])
    obtain ⟨T40, X40, e40, st40⟩ := getF X38 hx hZ hown (host := "") (Or.inl (own_w hw 17 rfl)) Via.refl e38 P38_4 (g := (mkF m 79 #[iv p1, iv p2, iv p3, iv p4, iv p5, iv p6, iv 2, rv b32, .unset, .unset, .unset] [.ref b32])) rfl rfl (hb hby at_79)
    refine own_st st40 ?_
    show own_E p e below _ T40 (mkF m 82 #[iv p1, iv p2, iv p3, iv p4, iv p5, iv p6, iv 2, rv b32, .unset, .unset, .unset] [.int (own_max (own_max (0 : Int32) p3) p4)])
    refine own_st (fun t k => XS.istore X40.here hx rfl (hb hby at_82) rfl (l' := #[iv p1, iv p2, iv p3, iv p4, iv p5, iv p6, iv 2, rv b32, iv (own_max (own_max (0 : Int32) p3) p4), .unset, .unset]) rfl k) ?_
    show own_E p e below _ T40 (mkF m 84 #[iv p1, iv p2, iv p3, iv p4, iv p5, iv p6, iv 2, rv b32, iv (own_max (own_max (0 : Int32) p3) p4), .unset, .unset] [])
    refine own_st (fun t k => XS.aload X40.here hx rfl (hb hby at_84) rfl rfl k) ?_
    show own_E p e below _ T40 (mkF m 86 #[iv p1, iv p2, iv p3, iv p4, iv p5, iv p6, iv 2, rv b32, iv (own_max (own_max (0 : Int32) p3) p4), .unset, .unset] [.ref b32])
    obtain ⟨T41, X41, e41, st41⟩ := getF X40 hx hZ hown (host := "") (Or.inl (own_w hw 19 rfl)) Via.refl e40 P38_3 (g := (mkF m 86 #[iv p1, iv p2, iv p3, iv p4, iv p5, iv p6, iv 2, rv b32, iv (own_max (own_max (0 : Int32) p3) p4), .unset, .unset] [.ref b32])) rfl rfl (hb hby at_86)
    refine own_st st41 ?_
    show own_E p e below _ T41 (mkF m 89 #[iv p1, iv p2, iv p3, iv p4, iv p5, iv p6, iv 2, rv b32, iv (own_max (own_max (0 : Int32) p3) p4), .unset, .unset] [.int (own_min (own_min (2147483647 : Int32) p4) p5)])
    refine own_st (fun t k => XS.istore X41.here hx rfl (hb hby at_89) rfl (l' := #[iv p1, iv p2, iv p3, iv p4, iv p5, iv p6, iv 2, rv b32, iv (own_max (own_max (0 : Int32) p3) p4), iv (own_min (own_min (2147483647 : Int32) p4) p5), .unset]) rfl k) ?_
    show own_E p e below _ T41 (mkF m 91 #[iv p1, iv p2, iv p3, iv p4, iv p5, iv p6, iv 2, rv b32, iv (own_max (own_max (0 : Int32) p3) p4), iv (own_min (own_min (2147483647 : Int32) p4) p5), .unset] [])
    refine own_st (fun t k => XS.aload X41.here hx rfl (hb hby at_91) rfl rfl k) ?_
    show own_E p e below _ T41 (mkF m 93 #[iv p1, iv p2, iv p3, iv p4, iv p5, iv p6, iv 2, rv b32, iv (own_max (own_max (0 : Int32) p3) p4), iv (own_min (own_min (2147483647 : Int32) p4) p5), .unset] [.ref b32])
    obtain ⟨cq42, kq42, q42a, q42b, q42c⟩ := isOf hZ e41 P38_0
    obtain ⟨_, _, ⟨T42, L42, k42, n42⟩, -, X42, ⟨Lc42, hQ42, l42, y42, z42⟩, st42⟩ := X41.virtualBack hx (y := own_y5) (z := own_y5) hown (mvT hZ (own_w hw 20 rfl)) (mvT hZ (own_w hw 21 rfl)) (notFace_of_selects (args := #[]) (mvT hZ (own_w hw 23 rfl))) (mvT hZ (own_w hw 23 rfl)) (mvT hZ (own_w hw 22 rfl)) (by decide) (backOf (W := 0) (own_trim2 l Z a0 hw [] b32 b38_o0 b38_o1 k38_o2 k38_o3 (own_min (own_min (2147483647 : Int32) p4) p5) (own_max (own_max (0 : Int32) p3) p4) p2 p3 p3 p4 T38.heap n0 Z39 P38_0 P38_7 P38_9 P38_1 P38_2 P38_3 P38_4 P38_5 P38_6 P38_8 ne_b32_b38_o0 ne_b32_b38_o1 nq38_0_1 g_b32) hZ (own_w hw 24 rfl) (own_w hw 2 rfl) (by decide) (by decide)) q42a q42c (g := (mkF m 93 #[iv p1, iv p2, iv p3, iv p4, iv p5, iv p6, iv 2, rv b32, iv (own_max (own_max (0 : Int32) p3) p4), iv (own_min (own_min (2147483647 : Int32) p4) p5), .unset] [.ref b32])) rfl (by rw [hml]; rfl) (Steps.refl _) (argsL := []) (rest := []) (lenOf own_pd_1 rfl) rfl (by show 2 * 0 + _ ≤ _; exact Nat.le_of_eq rfl) (hb hby at_93) (fun _ _ => ⟨rfl, e41, (by decide : 5 + 2 ≤ _), (by decide : 11 + 4 ≤ _)⟩)
    dsimp only [Pt.U, Pt.locs, Pt.cells, Pt.slots] at X42 l42 y42 z42 st42 hQ42
    subst l42 y42 z42
    obtain ⟨b42_o0, b42_o1, rfl, Nq42, Kq42, sz42_0, sz42_1, nq42_0_1, P42_0, P42_1, P42_2, P42_3, P42_4, P42_5, P42_6, P42_7, P42_8, P42_9⟩ := hQ42
    have N42 := Fr.app N38 Nq42
    have ne_b32_b42_o0 : b32 ≠ b42_o0 := Nat.ne_of_lt (Nat.lt_of_lt_of_le P38_0.lt sz42_0)
    have B43 := (P36_7.keep Kq38)
    have ne_b34_o0_b42_o0 : b34_o0 ≠ b42_o0 := Nat.ne_of_lt (Nat.lt_of_lt_of_le B43.lt sz42_0)
    have B44 := (P36_9.keep Kq38)
    have ne_b34_o1_b42_o0 : b34_o1 ≠ b42_o0 := Nat.ne_of_lt (Nat.lt_of_lt_of_le B44.lt sz42_0)
    have ne_b38_o0_b42_o0 : b38_o0 ≠ b42_o0 := Nat.ne_of_lt (Nat.lt_of_lt_of_le P38_6.lt sz42_0)
    have ne_b38_o1_b42_o0 : b38_o1 ≠ b42_o0 := Nat.ne_of_lt (Nat.lt_of_lt_of_le P38_8.lt sz42_0)
    have g_b42_o0 : n0 ≤ b42_o0 := Nat.le_trans Z39 sz42_0
    have ne_b32_b42_o1 : b32 ≠ b42_o1 := Nat.ne_of_lt (Nat.lt_of_lt_of_le P38_0.lt sz42_1)
    have ne_b34_o0_b42_o1 : b34_o0 ≠ b42_o1 := Nat.ne_of_lt (Nat.lt_of_lt_of_le B43.lt sz42_1)
    have ne_b34_o1_b42_o1 : b34_o1 ≠ b42_o1 := Nat.ne_of_lt (Nat.lt_of_lt_of_le B44.lt sz42_1)
    have ne_b38_o0_b42_o1 : b38_o0 ≠ b42_o1 := Nat.ne_of_lt (Nat.lt_of_lt_of_le P38_6.lt sz42_1)
    have ne_b38_o1_b42_o1 : b38_o1 ≠ b42_o1 := Nat.ne_of_lt (Nat.lt_of_lt_of_le P38_8.lt sz42_1)
    have g_b42_o1 : n0 ≤ b42_o1 := Nat.le_trans Z39 sz42_1
    have e42 : T42.heap = T42.heap := rfl
    have Z45 := Nat.le_trans Z39 Kq42.1
    refine own_tr st42 ?_
    show own_E p e below _ T42 (mkF m 96 #[iv p1, iv p2, iv p3, iv p4, iv p5, iv p6, iv 2, rv b32, iv (own_max (own_max (0 : Int32) p3) p4), iv (own_min (own_min (2147483647 : Int32) p4) p5), .unset] [])
    refine own_st (fun t k => XS.aload X42.here hx rfl (hb hby at_96) rfl rfl k) ?_
    show own_E p e below _ T42 (mkF m 98 #[iv p1, iv p2, iv p3, iv p4, iv p5, iv p6, iv 2, rv b32, iv (own_max (own_max (0 : Int32) p3) p4), iv (own_min (own_min (2147483647 : Int32) p4) p5), .unset] [.ref b32])
    obtain ⟨T46, X46, e46, st46⟩ := getF X42 hx hZ hown (host := "") (Or.inl (own_w hw 39 rfl)) Via.refl e42 P42_5 (g := (mkF m 98 #[iv p1, iv p2, iv p3, iv p4, iv p5, iv p6, iv 2, rv b32, iv (own_max (own_max (0 : Int32) p3) p4), iv (own_min (own_min (2147483647 : Int32) p4) p5), .unset] [.ref b32])) rfl rfl (hb hby at_98)
    refine own_st st46 ?_
    show own_E p e below _ T46 (mkF m 101 #[iv p1, iv p2, iv p3, iv p4, iv p5, iv p6, iv 2, rv b32, iv (own_max (own_max (0 : Int32) p3) p4), iv (own_min (own_min (2147483647 : Int32) p4) p5), .unset] [.int 2])
    refine own_st (fun t k => XS.iload X46.here hx rfl (hb hby at_101) rfl k) ?_
    show own_E p e below _ T46 (mkF m 103 #[iv p1, iv p2, iv p3, iv p4, iv p5, iv p6, iv 2, rv b32, iv (own_max (own_max (0 : Int32) p3) p4), iv (own_min (own_min (2147483647 : Int32) p4) p5), .unset] [.int 2, .int 2])
    refine own_st (fun t k => XS.icmpNo X46.here hx rfl (hb hby at_103) rfl (by decide) k) ?_
    show own_E p e below _ T46 (mkF m 106 #[iv p1, iv p2, iv p3, iv p4, iv p5, iv p6, iv 2, rv b32, iv (own_max (own_max (0 : Int32) p3) p4), iv (own_min (own_min (2147483647 : Int32) p4) p5), .unset] [])
    refine own_st (fun t k => XS.aload X46.here hx rfl (hb hby at_106) rfl rfl k) ?_
    show own_E p e below _ T46 (mkF m 108 #[iv p1, iv p2, iv p3, iv p4, iv p5, iv p6, iv 2, rv b32, iv (own_max (own_max (0 : Int32) p3) p4), iv (own_min (own_min (2147483647 : Int32) p4) p5), .unset] [.ref b32])
    obtain ⟨T47, X47, e47, st47⟩ := getF X46 hx hZ hown (host := "") (Or.inl (own_w hw 40 rfl)) Via.refl e46 P42_1 (g := (mkF m 108 #[iv p1, iv p2, iv p3, iv p4, iv p5, iv p6, iv 2, rv b32, iv (own_max (own_max (0 : Int32) p3) p4), iv (own_min (own_min (2147483647 : Int32) p4) p5), .unset] [.ref b32])) rfl rfl (hb hby at_108)
    refine own_st st47 ?_
    show own_E p e below _ T47 (mkF m 111 #[iv p1, iv p2, iv p3, iv p4, iv p5, iv p6, iv 2, rv b32, iv (own_max (own_max (0 : Int32) p3) p4), iv (own_min (own_min (2147483647 : Int32) p4) p5), .unset] [.ref b42_o0])
    refine own_st (own_alen X47 hx hZ e47 P42_6 (g := (mkF m 111 #[iv p1, iv p2, iv p3, iv p4, iv p5, iv p6, iv 2, rv b32, iv (own_max (own_max (0 : Int32) p3) p4), iv (own_min (own_min (2147483647 : Int32) p4) p5), .unset] [.ref b42_o0])) rfl rfl (hb hby at_111)) ?_
    show own_E p e below _ T47 (mkF m 112 #[iv p1, iv p2, iv p3, iv p4, iv p5, iv p6, iv 2, rv b32, iv (own_max (own_max (0 : Int32) p3) p4), iv (own_min (own_min (2147483647 : Int32) p4) p5), .unset] [.int 2])
    refine own_st (fun t k => XS.iload X47.here hx rfl (hb hby at_112) rfl k) ?_
    show own_E p e below _ T47 (mkF m 114 #[iv p1, iv p2, iv p3, iv p4, iv p5, iv p6, iv 2, rv b32, iv (own_max (own_max (0 : Int32) p3) p4), iv (own_min (own_min (2147483647 : Int32) p4) p5), .unset] [.int 2, .int 2])
    refine own_st (fun t k => XS.icmpNo X47.here hx rfl (hb hby at_114) rfl (by decide) k) ?_
    show own_E p e below _ T47 (mkF m 117 #[iv p1, iv p2, iv p3, iv p4, iv p5, iv p6, iv 2, rv b32, iv (own_max (own_max (0 : Int32) p3) p4), iv (own_min (own_min (2147483647 : Int32) p4) p5), .unset] [])
    refine own_st (fun t k => XS.aload X47.here hx rfl (hb hby at_117) rfl rfl k) ?_
    show own_E p e below _ T47 (mkF m 119 #[iv p1, iv p2, iv p3, iv p4, iv p5, iv p6, iv 2, rv b32, iv (own_max (own_max (0 : Int32) p3) p4), iv (own_min (own_min (2147483647 : Int32) p4) p5), .unset] [.ref b32])
    obtain ⟨T48, X48, e48, st48⟩ := getF X47 hx hZ hown (host := "") (Or.inl (own_w hw 41 rfl)) Via.refl e47 P42_2 (g := (mkF m 119 #[iv p1, iv p2, iv p3, iv p4, iv p5, iv p6, iv 2, rv b32, iv (own_max (own_max (0 : Int32) p3) p4), iv (own_min (own_min (2147483647 : Int32) p4) p5), .unset] [.ref b32])) rfl rfl (hb hby at_119)
    refine own_st st48 ?_
    show own_E p e below _ T48 (mkF m 122 #[iv p1, iv p2, iv p3, iv p4, iv p5, iv p6, iv 2, rv b32, iv (own_max (own_max (0 : Int32) p3) p4), iv (own_min (own_min (2147483647 : Int32) p4) p5), .unset] [.ref b42_o1])
    refine own_st (own_alen X48 hx hZ e48 P42_8 (g := (mkF m 122 #[iv p1, iv p2, iv p3, iv p4, iv p5, iv p6, iv 2, rv b32, iv (own_max (own_max (0 : Int32) p3) p4), iv (own_min (own_min (2147483647 : Int32) p4) p5), .unset] [.ref b42_o1])) rfl rfl (hb hby at_122)) ?_
    show own_E p e below _ T48 (mkF m 123 #[iv p1, iv p2, iv p3, iv p4, iv p5, iv p6, iv 2, rv b32, iv (own_max (own_max (0 : Int32) p3) p4), iv (own_min (own_min (2147483647 : Int32) p4) p5), .unset] [.int 2])
    refine own_st (fun t k => XS.iload X48.here hx rfl (hb hby at_123) rfl k) ?_
    show own_E p e below _ T48 (mkF m 125 #[iv p1, iv p2, iv p3, iv p4, iv p5, iv p6, iv 2, rv b32, iv (own_max (own_max (0 : Int32) p3) p4), iv (own_min (own_min (2147483647 : Int32) p4) p5), .unset] [.int 2, .int 2])
    refine own_st (fun t k => XS.icmpNo X48.here hx rfl (hb hby at_125) rfl (by decide) k) ?_
    show own_E p e below _ T48 (mkF m 128 #[iv p1, iv p2, iv p3, iv p4, iv p5, iv p6, iv 2, rv b32, iv (own_max (own_max (0 : Int32) p3) p4), iv (own_min (own_min (2147483647 : Int32) p4) p5), .unset] [])
    refine own_st (fun t k => XS.aload X48.here hx rfl (hb hby at_128) rfl rfl k) ?_
    show own_E p e below _ T48 (mkF m 130 #[iv p1, iv p2, iv p3, iv p4, iv p5, iv p6, iv 2, rv b32, iv (own_max (own_max (0 : Int32) p3) p4), iv (own_min (own_min (2147483647 : Int32) p4) p5), .unset] [.ref b32])
    obtain ⟨T49, X49, e49, st49⟩ := getF X48 hx hZ hown (host := "") (Or.inl (own_w hw 17 rfl)) Via.refl e48 P42_4 (g := (mkF m 130 #[iv p1, iv p2, iv p3, iv p4, iv p5, iv p6, iv 2, rv b32, iv (own_max (own_max (0 : Int32) p3) p4), iv (own_min (own_min (2147483647 : Int32) p4) p5), .unset] [.ref b32])) rfl rfl (hb hby at_130)
    refine own_st st49 ?_
    show own_E p e below _ T49 (mkF m 133 #[iv p1, iv p2, iv p3, iv p4, iv p5, iv p6, iv 2, rv b32, iv (own_max (own_max (0 : Int32) p3) p4), iv (own_min (own_min (2147483647 : Int32) p4) p5), .unset] [.int (own_max (own_max (0 : Int32) p3) p4)])
    refine own_st (fun t k => XS.iload X49.here hx rfl (hb hby at_133) rfl k) ?_
    show own_E p e below _ T49 (mkF m 135 #[iv p1, iv p2, iv p3, iv p4, iv p5, iv p6, iv 2, rv b32, iv (own_max (own_max (0 : Int32) p3) p4), iv (own_min (own_min (2147483647 : Int32) p4) p5), .unset] [.int (own_max (own_max (0 : Int32) p3) p4), .int (own_max (own_max (0 : Int32) p3) p4)])
    refine own_st (fun t k => XS.icmpNo X49.here hx rfl (hb hby at_135) rfl (teq rfl).2 k) ?_
    show own_E p e below _ T49 (mkF m 138 #[iv p1, iv p2, iv p3, iv p4, iv p5, iv p6, iv 2, rv b32, iv (own_max (own_max (0 : Int32) p3) p4), iv (own_min (own_min (2147483647 : Int32) p4) p5), .unset] [])
    refine own_st (fun t k => XS.aload X49.here hx rfl (hb hby at_138) rfl rfl k) ?_
    show own_E p e below _ T49 (mkF m 140 #[iv p1, iv p2, iv p3, iv p4, iv p5, iv p6, iv 2, rv b32, iv (own_max (own_max (0 : Int32) p3) p4), iv (own_min (own_min (2147483647 : Int32) p4) p5), .unset] [.ref b32])
    obtain ⟨T50, X50, e50, st50⟩ := getF X49 hx hZ hown (host := "") (Or.inl (own_w hw 19 rfl)) Via.refl e49 P42_3 (g := (mkF m 140 #[iv p1, iv p2, iv p3, iv p4, iv p5, iv p6, iv 2, rv b32, iv (own_max (own_max (0 : Int32) p3) p4), iv (own_min (own_min (2147483647 : Int32) p4) p5), .unset] [.ref b32])) rfl rfl (hb hby at_140)
    refine own_st st50 ?_
    show own_E p e below _ T50 (mkF m 143 #[iv p1, iv p2, iv p3, iv p4, iv p5, iv p6, iv 2, rv b32, iv (own_max (own_max (0 : Int32) p3) p4), iv (own_min (own_min (2147483647 : Int32) p4) p5), .unset] [.int (own_min (own_min (2147483647 : Int32) p4) p5)])
    refine own_st (fun t k => XS.iload X50.here hx rfl (hb hby at_143) rfl k) ?_
    show own_E p e below _ T50 (mkF m 145 #[iv p1, iv p2, iv p3, iv p4, iv p5, iv p6, iv 2, rv b32, iv (own_max (own_max (0 : Int32) p3) p4), iv (own_min (own_min (2147483647 : Int32) p4) p5), .unset] [.int (own_min (own_min (2147483647 : Int32) p4) p5), .int (own_min (own_min (2147483647 : Int32) p4) p5)])
    refine own_st (fun t k => XS.icmpNo X50.here hx rfl (hb hby at_145) rfl (teq rfl).2 k) ?_
    show own_E p e below _ T50 (mkF m 148 #[iv p1, iv p2, iv p3, iv p4, iv p5, iv p6, iv 2, rv b32, iv (own_max (own_max (0 : Int32) p3) p4), iv (own_min (own_min (2147483647 : Int32) p4) p5), .unset] [])
    refine own_st (fun t k => XS.iconst X50.here hx rfl (hb hby at_148) k) ?_
    show own_E p e below _ T50 (mkF m 149 #[iv p1, iv p2, iv p3, iv p4, iv p5, iv p6, iv 2, rv b32, iv (own_max (own_max (0 : Int32) p3) p4), iv (own_min (own_min (2147483647 : Int32) p4) p5), .unset] [.int 1])
    refine own_st (fun t k => XS.goto X50.here hx rfl (pc0 := 149) (pc' := 153) rfl (hb hby at_149) (by decide) (by decide) k) ?_
    show own_E p e below _ T50 (mkF m 153 #[iv p1, iv p2, iv p3, iv p4, iv p5, iv p6, iv 2, rv b32, iv (own_max (own_max (0 : Int32) p3) p4), iv (own_min (own_min (2147483647 : Int32) p4) p5), .unset] [.int 1])
    refine own_st (fun t k => XS.istore X50.here hx rfl (hb hby at_153) rfl (l' := #[iv p1, iv p2, iv p3, iv p4, iv p5, iv p6, iv 2, rv b32, iv (own_max (own_max (0 : Int32) p3) p4), iv (own_min (own_min (2147483647 : Int32) p4) p5), iv 1]) rfl k) ?_
    show own_E p e below _ T50 (mkF m 155 #[iv p1, iv p2, iv p3, iv p4, iv p5, iv p6, iv 2, rv b32, iv (own_max (own_max (0 : Int32) p3) p4), iv (own_min (own_min (2147483647 : Int32) p4) p5), iv 1] [])
    refine own_st (fun t k => XS.iload X50.here hx rfl (hb hby at_155) rfl k) ?_
    show own_E p e below _ T50 (mkF m 157 #[iv p1, iv p2, iv p3, iv p4, iv p5, iv p6, iv 2, rv b32, iv (own_max (own_max (0 : Int32) p3) p4), iv (own_min (own_min (2147483647 : Int32) p4) p5), iv 1] [.int 2])
    refine own_st (fun t k => XS.ifNo X50.here hx rfl (hb hby at_157) rfl (by decide) k) ?_
    show own_E p e below _ T50 (mkF m 160 #[iv p1, iv p2, iv p3, iv p4, iv p5, iv p6, iv 2, rv b32, iv (own_max (own_max (0 : Int32) p3) p4), iv (own_min (own_min (2147483647 : Int32) p4) p5), iv 1] [])
    refine own_st (fun t k => XS.iload X50.here hx rfl (hb hby at_160) rfl k) ?_
    show own_E p e below _ T50 (mkF m 162 #[iv p1, iv p2, iv p3, iv p4, iv p5, iv p6, iv 2, rv b32, iv (own_max (own_max (0 : Int32) p3) p4), iv (own_min (own_min (2147483647 : Int32) p4) p5), iv 1] [.int 1])
    refine own_st (fun t k => XS.ifNo X50.here hx rfl (hb hby at_162) rfl (by decide) k) ?_
    show own_E p e below _ T50 (mkF m 165 #[iv p1, iv p2, iv p3, iv p4, iv p5, iv p6, iv 2, rv b32, iv (own_max (own_max (0 : Int32) p3) p4), iv (own_min (own_min (2147483647 : Int32) p4) p5), iv 1] [])
    refine own_st (fun t k => XS.aload X50.here hx rfl (hb hby at_165) rfl rfl k) ?_
    show own_E p e below _ T50 (mkF m 167 #[iv p1, iv p2, iv p3, iv p4, iv p5, iv p6, iv 2, rv b32, iv (own_max (own_max (0 : Int32) p3) p4), iv (own_min (own_min (2147483647 : Int32) p4) p5), iv 1] [.ref b32])
    obtain ⟨T51, X51, e51, st51⟩ := getF X50 hx hZ hown (host := "") (Or.inl (own_w hw 40 rfl)) Via.refl e50 P42_1 (g := (mkF m 167 #[iv p1, iv p2, iv p3, iv p4, iv p5, iv p6, iv 2, rv b32, iv (own_max (own_max (0 : Int32) p3) p4), iv (own_min (own_min (2147483647 : Int32) p4) p5), iv 1] [.ref b32])) rfl rfl (hb hby at_167)
    refine own_st st51 ?_
    show own_E p e below _ T51 (mkF m 170 #[iv p1, iv p2, iv p3, iv p4, iv p5, iv p6, iv 2, rv b32, iv (own_max (own_max (0 : Int32) p3) p4), iv (own_min (own_min (2147483647 : Int32) p4) p5), iv 1] [.ref b42_o0])
    refine own_st (fun t k => XS.iconst X51.here hx rfl (hb hby at_170) k) ?_
    show own_E p e below _ T51 (mkF m 171 #[iv p1, iv p2, iv p3, iv p4, iv p5, iv p6, iv 2, rv b32, iv (own_max (own_max (0 : Int32) p3) p4), iv (own_min (own_min (2147483647 : Int32) p4) p5), iv 1] [.int 0, .ref b42_o0])
    refine own_st (own_ald X51 hx hZ e51 P42_6 (j := (0 : Int32)) ⟨by decide, by decide⟩ (v := (.int p2)) rfl (g := (mkF m 171 #[iv p1, iv p2, iv p3, iv p4, iv p5, iv p6, iv 2, rv b32, iv (own_max (own_max (0 : Int32) p3) p4), iv (own_min (own_min (2147483647 : Int32) p4) p5), iv 1] [.int 0, .ref b42_o0])) rfl rfl (hb hby at_171)) ?_
    show own_E p e below _ T51 (mkF m 172 #[iv p1, iv p2, iv p3, iv p4, iv p5, iv p6, iv 2, rv b32, iv (own_max (own_max (0 : Int32) p3) p4), iv (own_min (own_min (2147483647 : Int32) p4) p5), iv 1] [.int p2])
    refine own_st (fun t k => XS.iloadN X51.here hx rfl (hb hby at_172) rfl k) ?_
    show own_E p e below _ T51 (mkF m 173 #[iv p1, iv p2, iv p3, iv p4, iv p5, iv p6, iv 2, rv b32, iv (own_max (own_max (0 : Int32) p3) p4), iv (own_min (own_min (2147483647 : Int32) p4) p5), iv 1] [.int p2, .int p2])
    refine own_st (fun t k => XS.icmpNo X51.here hx rfl (hb hby at_173) rfl (teq rfl).2 k) ?_
    show own_E p e below _ T51 (mkF m 176 #[iv p1, iv p2, iv p3, iv p4, iv p5, iv p6, iv 2, rv b32, iv (own_max (own_max (0 : Int32) p3) p4), iv (own_min (own_min (2147483647 : Int32) p4) p5), iv 1] [])
    refine own_st (fun t k => XS.aload X51.here hx rfl (hb hby at_176) rfl rfl k) ?_
    show own_E p e below _ T51 (mkF m 178 #[iv p1, iv p2, iv p3, iv p4, iv p5, iv p6, iv 2, rv b32, iv (own_max (own_max (0 : Int32) p3) p4), iv (own_min (own_min (2147483647 : Int32) p4) p5), iv 1] [.ref b32])
    obtain ⟨T52, X52, e52, st52⟩ := getF X51 hx hZ hown (host := "") (Or.inl (own_w hw 41 rfl)) Via.refl e51 P42_2 (g := (mkF m 178 #[iv p1, iv p2, iv p3, iv p4, iv p5, iv p6, iv 2, rv b32, iv (own_max (own_max (0 : Int32) p3) p4), iv (own_min (own_min (2147483647 : Int32) p4) p5), iv 1] [.ref b32])) rfl rfl (hb hby at_178)
    refine own_st st52 ?_
    show own_E p e below _ T52 (mkF m 181 #[iv p1, iv p2, iv p3, iv p4, iv p5, iv p6, iv 2, rv b32, iv (own_max (own_max (0 : Int32) p3) p4), iv (own_min (own_min (2147483647 : Int32) p4) p5), iv 1] [.ref b42_o1])
    refine own_st (fun t k => XS.iconst X52.here hx rfl (hb hby at_181) k) ?_
    show own_E p e below _ T52 (mkF m 182 #[iv p1, iv p2, iv p3, iv p4, iv p5, iv p6, iv 2, rv b32, iv (own_max (own_max (0 : Int32) p3) p4), iv (own_min (own_min (2147483647 : Int32) p4) p5), iv 1] [.int 0, .ref b42_o1])
    refine own_st (own_ald X52 hx hZ e52 P42_8 (j := (0 : Int32)) ⟨by decide, by decide⟩ (v := (.int p3)) rfl (g := (mkF m 182 #[iv p1, iv p2, iv p3, iv p4, iv p5, iv p6, iv 2, rv b32, iv (own_max (own_max (0 : Int32) p3) p4), iv (own_min (own_min (2147483647 : Int32) p4) p5), iv 1] [.int 0, .ref b42_o1])) rfl rfl (hb hby at_182)) ?_
    show own_E p e below _ T52 (mkF m 183 #[iv p1, iv p2, iv p3, iv p4, iv p5, iv p6, iv 2, rv b32, iv (own_max (own_max (0 : Int32) p3) p4), iv (own_min (own_min (2147483647 : Int32) p4) p5), iv 1] [.int p3])
    refine own_st (fun t k => XS.iloadN X52.here hx rfl (hb hby at_183) rfl k) ?_
    show own_E p e below _ T52 (mkF m 184 #[iv p1, iv p2, iv p3, iv p4, iv p5, iv p6, iv 2, rv b32, iv (own_max (own_max (0 : Int32) p3) p4), iv (own_min (own_min (2147483647 : Int32) p4) p5), iv 1] [.int p3, .int p3])
    refine own_st (fun t k => XS.icmpNo X52.here hx rfl (hb hby at_184) rfl (teq rfl).2 k) ?_
    show own_E p e below _ T52 (mkF m 187 #[iv p1, iv p2, iv p3, iv p4, iv p5, iv p6, iv 2, rv b32, iv (own_max (own_max (0 : Int32) p3) p4), iv (own_min (own_min (2147483647 : Int32) p4) p5), iv 1] [])
    refine own_st (fun t k => XS.iconst X52.here hx rfl (hb hby at_187) k) ?_
    show own_E p e below _ T52 (mkF m 188 #[iv p1, iv p2, iv p3, iv p4, iv p5, iv p6, iv 2, rv b32, iv (own_max (own_max (0 : Int32) p3) p4), iv (own_min (own_min (2147483647 : Int32) p4) p5), iv 1] [.int 1])
    refine own_st (fun t k => XS.goto X52.here hx rfl (pc0 := 188) (pc' := 192) rfl (hb hby at_188) (by decide) (by decide) k) ?_
    show own_E p e below _ T52 (mkF m 192 #[iv p1, iv p2, iv p3, iv p4, iv p5, iv p6, iv 2, rv b32, iv (own_max (own_max (0 : Int32) p3) p4), iv (own_min (own_min (2147483647 : Int32) p4) p5), iv 1] [.int 1])
    refine own_st (fun t k => XS.istore X52.here hx rfl (hb hby at_192) rfl (l' := #[iv p1, iv p2, iv p3, iv p4, iv p5, iv p6, iv 2, rv b32, iv (own_max (own_max (0 : Int32) p3) p4), iv (own_min (own_min (2147483647 : Int32) p4) p5), iv 1]) rfl k) ?_
    show own_E p e below _ T52 (mkF m 194 #[iv p1, iv p2, iv p3, iv p4, iv p5, iv p6, iv 2, rv b32, iv (own_max (own_max (0 : Int32) p3) p4), iv (own_min (own_min (2147483647 : Int32) p4) p5), iv 1] [])
    refine own_st (fun t k => XS.iload X52.here hx rfl (hb hby at_194) rfl k) ?_
    show own_E p e below _ T52 (mkF m 196 #[iv p1, iv p2, iv p3, iv p4, iv p5, iv p6, iv 2, rv b32, iv (own_max (own_max (0 : Int32) p3) p4), iv (own_min (own_min (2147483647 : Int32) p4) p5), iv 1] [.int 2])
    refine own_st (fun t k => XS.iconst X52.here hx rfl (hb hby at_196) k) ?_
    show own_E p e below _ T52 (mkF m 197 #[iv p1, iv p2, iv p3, iv p4, iv p5, iv p6, iv 2, rv b32, iv (own_max (own_max (0 : Int32) p3) p4), iv (own_min (own_min (2147483647 : Int32) p4) p5), iv 1] [.int 1, .int 2])
    refine own_st (fun t k => XS.icmpNo X52.here hx rfl (hb hby at_197) rfl (by decide) k) ?_
    show own_E p e below _ T52 (mkF m 200 #[iv p1, iv p2, iv p3, iv p4, iv p5, iv p6, iv 2, rv b32, iv (own_max (own_max (0 : Int32) p3) p4), iv (own_min (own_min (2147483647 : Int32) p4) p5), iv 1] [])
    refine own_st (fun t k => XS.iload X52.here hx rfl (hb hby at_200) rfl k) ?_
    show own_E p e below _ T52 (mkF m 202 #[iv p1, iv p2, iv p3, iv p4, iv p5, iv p6, iv 2, rv b32, iv (own_max (own_max (0 : Int32) p3) p4), iv (own_min (own_min (2147483647 : Int32) p4) p5), iv 1] [.int 1])
    refine own_st (fun t k => XS.ifNo X52.here hx rfl (hb hby at_202) rfl (by decide) k) ?_
    show own_E p e below _ T52 (mkF m 205 #[iv p1, iv p2, iv p3, iv p4, iv p5, iv p6, iv 2, rv b32, iv (own_max (own_max (0 : Int32) p3) p4), iv (own_min (own_min (2147483647 : Int32) p4) p5), iv 1] [])
    refine own_st (fun t k => XS.aload X52.here hx rfl (hb hby at_205) rfl rfl k) ?_
    show own_E p e below _ T52 (mkF m 207 #[iv p1, iv p2, iv p3, iv p4, iv p5, iv p6, iv 2, rv b32, iv (own_max (own_max (0 : Int32) p3) p4), iv (own_min (own_min (2147483647 : Int32) p4) p5), iv 1] [.ref b32])
    obtain ⟨T53, X53, e53, st53⟩ := getF X52 hx hZ hown (host := "") (Or.inl (own_w hw 40 rfl)) Via.refl e52 P42_1 (g := (mkF m 207 #[iv p1, iv p2, iv p3, iv p4, iv p5, iv p6, iv 2, rv b32, iv (own_max (own_max (0 : Int32) p3) p4), iv (own_min (own_min (2147483647 : Int32) p4) p5), iv 1] [.ref b32])) rfl rfl (hb hby at_207)
    refine own_st st53 ?_
    show own_E p e below _ T53 (mkF m 210 #[iv p1, iv p2, iv p3, iv p4, iv p5, iv p6, iv 2, rv b32, iv (own_max (own_max (0 : Int32) p3) p4), iv (own_min (own_min (2147483647 : Int32) p4) p5), iv 1] [.ref b42_o0])
    refine own_st (fun t k => XS.iconst X53.here hx rfl (hb hby at_210) k) ?_
    show own_E p e below _ T53 (mkF m 211 #[iv p1, iv p2, iv p3, iv p4, iv p5, iv p6, iv 2, rv b32, iv (own_max (own_max (0 : Int32) p3) p4), iv (own_min (own_min (2147483647 : Int32) p4) p5), iv 1] [.int 1, .ref b42_o0])
    refine own_st (own_ald X53 hx hZ e53 P42_6 (j := (1 : Int32)) ⟨by decide, by decide⟩ (v := (.int p3)) rfl (g := (mkF m 211 #[iv p1, iv p2, iv p3, iv p4, iv p5, iv p6, iv 2, rv b32, iv (own_max (own_max (0 : Int32) p3) p4), iv (own_min (own_min (2147483647 : Int32) p4) p5), iv 1] [.int 1, .ref b42_o0])) rfl rfl (hb hby at_211)) ?_
    show own_E p e below _ T53 (mkF m 212 #[iv p1, iv p2, iv p3, iv p4, iv p5, iv p6, iv 2, rv b32, iv (own_max (own_max (0 : Int32) p3) p4), iv (own_min (own_min (2147483647 : Int32) p4) p5), iv 1] [.int p3])
    refine own_st (fun t k => XS.iloadN X53.here hx rfl (hb hby at_212) rfl k) ?_
    show own_E p e below _ T53 (mkF m 213 #[iv p1, iv p2, iv p3, iv p4, iv p5, iv p6, iv 2, rv b32, iv (own_max (own_max (0 : Int32) p3) p4), iv (own_min (own_min (2147483647 : Int32) p4) p5), iv 1] [.int p3, .int p3])
    refine own_st (fun t k => XS.icmpNo X53.here hx rfl (hb hby at_213) rfl (teq rfl).2 k) ?_
    show own_E p e below _ T53 (mkF m 216 #[iv p1, iv p2, iv p3, iv p4, iv p5, iv p6, iv 2, rv b32, iv (own_max (own_max (0 : Int32) p3) p4), iv (own_min (own_min (2147483647 : Int32) p4) p5), iv 1] [])
    refine own_st (fun t k => XS.aload X53.here hx rfl (hb hby at_216) rfl rfl k) ?_
    show own_E p e below _ T53 (mkF m 218 #[iv p1, iv p2, iv p3, iv p4, iv p5, iv p6, iv 2, rv b32, iv (own_max (own_max (0 : Int32) p3) p4), iv (own_min (own_min (2147483647 : Int32) p4) p5), iv 1] [.ref b32])
    obtain ⟨T54, X54, e54, st54⟩ := getF X53 hx hZ hown (host := "") (Or.inl (own_w hw 41 rfl)) Via.refl e53 P42_2 (g := (mkF m 218 #[iv p1, iv p2, iv p3, iv p4, iv p5, iv p6, iv 2, rv b32, iv (own_max (own_max (0 : Int32) p3) p4), iv (own_min (own_min (2147483647 : Int32) p4) p5), iv 1] [.ref b32])) rfl rfl (hb hby at_218)
    refine own_st st54 ?_
    show own_E p e below _ T54 (mkF m 221 #[iv p1, iv p2, iv p3, iv p4, iv p5, iv p6, iv 2, rv b32, iv (own_max (own_max (0 : Int32) p3) p4), iv (own_min (own_min (2147483647 : Int32) p4) p5), iv 1] [.ref b42_o1])
    refine own_st (fun t k => XS.iconst X54.here hx rfl (hb hby at_221) k) ?_
    show own_E p e below _ T54 (mkF m 222 #[iv p1, iv p2, iv p3, iv p4, iv p5, iv p6, iv 2, rv b32, iv (own_max (own_max (0 : Int32) p3) p4), iv (own_min (own_min (2147483647 : Int32) p4) p5), iv 1] [.int 1, .ref b42_o1])
    refine own_st (own_ald X54 hx hZ e54 P42_8 (j := (1 : Int32)) ⟨by decide, by decide⟩ (v := (.int p4)) rfl (g := (mkF m 222 #[iv p1, iv p2, iv p3, iv p4, iv p5, iv p6, iv 2, rv b32, iv (own_max (own_max (0 : Int32) p3) p4), iv (own_min (own_min (2147483647 : Int32) p4) p5), iv 1] [.int 1, .ref b42_o1])) rfl rfl (hb hby at_222)) ?_
    show own_E p e below _ T54 (mkF m 223 #[iv p1, iv p2, iv p3, iv p4, iv p5, iv p6, iv 2, rv b32, iv (own_max (own_max (0 : Int32) p3) p4), iv (own_min (own_min (2147483647 : Int32) p4) p5), iv 1] [.int p4])
    refine own_st (fun t k => XS.iloadN X54.here hx rfl (hb hby at_223) rfl k) ?_
    show own_E p e below _ T54 (mkF m 224 #[iv p1, iv p2, iv p3, iv p4, iv p5, iv p6, iv 2, rv b32, iv (own_max (own_max (0 : Int32) p3) p4), iv (own_min (own_min (2147483647 : Int32) p4) p5), iv 1] [.int p4, .int p4])
    refine own_st (fun t k => XS.icmpNo X54.here hx rfl (hb hby at_224) rfl (teq rfl).2 k) ?_
    show own_E p e below _ T54 (mkF m 227 #[iv p1, iv p2, iv p3, iv p4, iv p5, iv p6, iv 2, rv b32, iv (own_max (own_max (0 : Int32) p3) p4), iv (own_min (own_min (2147483647 : Int32) p4) p5), iv 1] [])
    refine own_st (fun t k => XS.iconst X54.here hx rfl (hb hby at_227) k) ?_
    show own_E p e below _ T54 (mkF m 228 #[iv p1, iv p2, iv p3, iv p4, iv p5, iv p6, iv 2, rv b32, iv (own_max (own_max (0 : Int32) p3) p4), iv (own_min (own_min (2147483647 : Int32) p4) p5), iv 1] [.int 1])
    refine own_st (fun t k => XS.goto X54.here hx rfl (pc0 := 228) (pc' := 232) rfl (hb hby at_228) (by decide) (by decide) k) ?_
    show own_E p e below _ T54 (mkF m 232 #[iv p1, iv p2, iv p3, iv p4, iv p5, iv p6, iv 2, rv b32, iv (own_max (own_max (0 : Int32) p3) p4), iv (own_min (own_min (2147483647 : Int32) p4) p5), iv 1] [.int 1])
    refine own_st (fun t k => XS.istore X54.here hx rfl (hb hby at_232) rfl (l' := #[iv p1, iv p2, iv p3, iv p4, iv p5, iv p6, iv 2, rv b32, iv (own_max (own_max (0 : Int32) p3) p4), iv (own_min (own_min (2147483647 : Int32) p4) p5), iv 1]) rfl k) ?_
    show own_E p e below _ T54 (mkF m 234 #[iv p1, iv p2, iv p3, iv p4, iv p5, iv p6, iv 2, rv b32, iv (own_max (own_max (0 : Int32) p3) p4), iv (own_min (own_min (2147483647 : Int32) p4) p5), iv 1] [])
    refine own_st (fun t k => XS.iload X54.here hx rfl (hb hby at_234) rfl k) ?_
    show own_E p e below _ T54 (mkF m 236 #[iv p1, iv p2, iv p3, iv p4, iv p5, iv p6, iv 2, rv b32, iv (own_max (own_max (0 : Int32) p3) p4), iv (own_min (own_min (2147483647 : Int32) p4) p5), iv 1] [.int 2])
    refine own_st (fun t k => XS.iconst X54.here hx rfl (hb hby at_236) k) ?_
    show own_E p e below _ T54 (mkF m 237 #[iv p1, iv p2, iv p3, iv p4, iv p5, iv p6, iv 2, rv b32, iv (own_max (own_max (0 : Int32) p3) p4), iv (own_min (own_min (2147483647 : Int32) p4) p5), iv 1] [.int 2, .int 2])
    refine own_st (fun t k => XS.icmpYes X54.here hx rfl (pc0 := 237) (pc' := 275) rfl (hb hby at_237) rfl (by decide) (by decide) (by decide) k) ?_
    show own_E p e below _ T54 (mkF m 275 #[iv p1, iv p2, iv p3, iv p4, iv p5, iv p6, iv 2, rv b32, iv (own_max (own_max (0 : Int32) p3) p4), iv (own_min (own_min (2147483647 : Int32) p4) p5), iv 1] [])
    refine own_st (fun t k => XS.iload X54.here hx rfl (hb hby at_275) rfl k) ?_
    show own_E p e below _ T54 (mkF m 277 #[iv p1, iv p2, iv p3, iv p4, iv p5, iv p6, iv 2, rv b32, iv (own_max (own_max (0 : Int32) p3) p4), iv (own_min (own_min (2147483647 : Int32) p4) p5), iv 1] [.int 2])
    refine own_st (fun t k => XS.iconst X54.here hx rfl (hb hby at_277) k) ?_
    show own_E p e below _ T54 (mkF m 278 #[iv p1, iv p2, iv p3, iv p4, iv p5, iv p6, iv 2, rv b32, iv (own_max (own_max (0 : Int32) p3) p4), iv (own_min (own_min (2147483647 : Int32) p4) p5), iv 1] [.int 3, .int 2])
    refine own_st (fun t k => XS.icmpYes X54.here hx rfl (pc0 := 278) (pc' := 317) rfl (hb hby at_278) rfl (by decide) (by decide) (by decide) k) ?_
    show own_E p e below _ T54 (mkF m 317 #[iv p1, iv p2, iv p3, iv p4, iv p5, iv p6, iv 2, rv b32, iv (own_max (own_max (0 : Int32) p3) p4), iv (own_min (own_min (2147483647 : Int32) p4) p5), iv 1] [])
    refine own_st (fun t k => XS.iload X54.here hx rfl (hb hby at_317) rfl k) ?_
    show own_E p e below _ T54 (mkF m 319 #[iv p1, iv p2, iv p3, iv p4, iv p5, iv p6, iv 2, rv b32, iv (own_max (own_max (0 : Int32) p3) p4), iv (own_min (own_min (2147483647 : Int32) p4) p5), iv 1] [.int 1])
    refine own_retS X54 hx Bd.notSynchronized Bd.returns rfl (by decide) (hb hby at_319) (by decide) (by decide) ?_
    exact ⟨rfl, N42⟩
  · rw [hs1]
    show own_E p e below _ s₁ (mkF m 8 #[iv p1, iv p2, iv p3, iv p4, iv p5, iv p6, iv 3, .unset, .unset, .unset, .unset] [])
    obtain ⟨T55, h55, X55, e55, E55, A55, D55, -, st55⟩ := newO X0 hx hZ hown (own_w hw 0 rfl) (own_w hw 1 rfl) (own_w hw 2 rfl) e0 (g := (mkF m 8 #[iv p1, iv p2, iv p3, iv p4, iv p5, iv p6, iv 3, .unset, .unset, .unset, .unset] [])) rfl (hb hby at_8) (by decide) (by decide)
    obtain ⟨b55, g55⟩ : ∃ z, z = h0.size := ⟨_, rfl⟩
    rw [← g55] at A55 D55 st55
    have g_b55 : n0 ≤ b55 := Nat.le_trans Z0 (Nat.le_of_eq g55.symm)
    have Z56 := Nat.le_trans Z0 E55.1
    have F_documents_b55 : Fld Z h55 b55 "com/example/lean_scorer/leanscorer/Postings" "documents" "[I" .null := D55 (Or.inl (own_w hw 11 rfl)) (ty := (.array .int)) (by decide)
    have F_frequencies_b55 : Fld Z h55 b55 "com/example/lean_scorer/leanscorer/Postings" "frequencies" "[I" .null := D55 (Or.inl (own_w hw 13 rfl)) (ty := (.array .int)) (by decide)
    have F_minLength_b55 : Fld Z h55 b55 "com/example/lean_scorer/leanscorer/Postings" "minLength" "I" (.int (0 : Int32)) := D55 (Or.inl (own_w hw 16 rfl)) (ty := .int) (by decide)
    have F_maxFrequency_b55 : Fld Z h55 b55 "com/example/lean_scorer/leanscorer/Postings" "maxFrequency" "I" (.int (0 : Int32)) := D55 (Or.inl (own_w hw 18 rfl)) (ty := .int) (by decide)
    have F_size_b55 : Fld Z h55 b55 "com/example/lean_scorer/leanscorer/Postings" "size" "I" (.int (0 : Int32)) := D55 (Or.inl (own_w hw 26 rfl)) (ty := .int) (by decide)
    refine own_st st55 ?_
    show own_E p e below _ T55 (mkF m 11 #[iv p1, iv p2, iv p3, iv p4, iv p5, iv p6, iv 3, .unset, .unset, .unset, .unset] [.ref b55])
    refine own_st (fun t k => XS.dup X55.here hx rfl (hb hby at_11) rfl rfl k) ?_
    show own_E p e below _ T55 (mkF m 12 #[iv p1, iv p2, iv p3, iv p4, iv p5, iv p6, iv 3, .unset, .unset, .unset, .unset] [.ref b55, .ref b55])
    obtain ⟨_, _, ⟨T57, L57, k57, n57⟩, -, X57, ⟨Lc57, hQ57, l57, y57, z57⟩, st57⟩ := X55.specialBack hx (y := own_y3) rfl hown (mvT hZ (own_w hw 3 rfl)) (mvT hZ (own_w hw 4 rfl)) (mvT hZ (own_w hw 5 rfl)) (by decide) (backOf (W := 1) (own_init l Z a0 hw [] b55 h55 n0 Z56 A55 F_documents_b55 F_frequencies_b55 F_minLength_b55 F_maxFrequency_b55 F_size_b55 g_b55) hZ (own_w hw 5 rfl) (own_w hw 2 rfl) (by decide) (by decide)) (g := (mkF m 12 #[iv p1, iv p2, iv p3, iv p4, iv p5, iv p6, iv 3, .unset, .unset, .unset, .unset] [.ref b55, .ref b55])) rfl (by rw [hml]; rfl) (Steps.refl _) (a := b55) (argsL := []) (rest := [(.ref b55)]) (lenOf own_pd_1 rfl) rfl (by show 2 * 0 + _ ≤ _; exact Nat.le_of_eq rfl) (hb hby at_12) (fun _ _ => ⟨rfl, e55, (by decide : 1 + 2 ≤ _), (by decide : 5 + 2 ≤ _)⟩)
    dsimp only [Pt.U, Pt.locs, Pt.cells, Pt.slots] at X57 l57 y57 z57 st57 hQ57
    subst l57 y57 z57
    obtain ⟨b57_o0, b57_o1, k57_o2, k57_o3, rfl, Nq57, Kq57, sz57_0, sz57_1, nq57_0_1, P57_0, P57_1, P57_2, P57_3, P57_4, P57_5, P57_6, P57_7, P57_8, P57_9⟩ := hQ57
    have N57 := Fr.app (Fr.nil n0) Nq57
    have ne_b55_b57_o0 : b55 ≠ b57_o0 := Nat.ne_of_lt (Nat.lt_of_lt_of_le A55.lt sz57_0)
    have g_b57_o0 : n0 ≤ b57_o0 := Nat.le_trans Z56 sz57_0
    have ne_b55_b57_o1 : b55 ≠ b57_o1 := Nat.ne_of_lt (Nat.lt_of_lt_of_le A55.lt sz57_1)
    have g_b57_o1 : n0 ≤ b57_o1 := Nat.le_trans Z56 sz57_1
    have e57 : T57.heap = T57.heap := rfl
    have Z58 := Nat.le_trans Z56 Kq57.1
    refine own_tr st57 ?_
    show own_E p e below _ T57 (mkF m 15 #[iv p1, iv p2, iv p3, iv p4, iv p5, iv p6, iv 3, .unset, .unset, .unset, .unset] [.ref b55])
    refine own_st (fun t k => XS.astore X57.here hx rfl (hb hby at_15) rfl rfl (l' := #[iv p1, iv p2, iv p3, iv p4, iv p5, iv p6, iv 3, rv b55, .unset, .unset, .unset]) rfl k) ?_
    show own_E p e below _ T57 (mkF m 17 #[iv p1, iv p2, iv p3, iv p4, iv p5, iv p6, iv 3, rv b55, .unset, .unset, .unset] [])
    refine own_st (fun t k => XS.iload X57.here hx rfl (hb hby at_17) rfl k) ?_
    show own_E p e below _ T57 (mkF m 19 #[iv p1, iv p2, iv p3, iv p4, iv p5, iv p6, iv 3, rv b55, .unset, .unset, .unset] [.int 3])
    refine own_st (fun t k => XS.ifNo X57.here hx rfl (hb hby at_19) rfl (by decide) k) ?_
    show own_E p e below _ T57 (mkF m 22 #[iv p1, iv p2, iv p3, iv p4, iv p5, iv p6, iv 3, rv b55, .unset, .unset, .unset] [])
    refine own_st (fun t k => XS.aload X57.here hx rfl (hb hby at_22) rfl rfl k) ?_
    show own_E p e below _ T57 (mkF m 24 #[iv p1, iv p2, iv p3, iv p4, iv p5, iv p6, iv 3, rv b55, .unset, .unset, .unset] [.ref b55])
    refine own_st (fun t k => XS.iloadN X57.here hx rfl (hb hby at_24) rfl k) ?_
    show own_E p e below _ T57 (mkF m 25 #[iv p1, iv p2, iv p3, iv p4, iv p5, iv p6, iv 3, rv b55, .unset, .unset, .unset] [.int p2, .ref b55])
    refine own_st (fun t k => XS.iloadN X57.here hx rfl (hb hby at_25) rfl k) ?_
    show own_E p e below _ T57 (mkF m 26 #[iv p1, iv p2, iv p3, iv p4, iv p5, iv p6, iv 3, rv b55, .unset, .unset, .unset] [.int p3, .int p2, .ref b55])
    refine own_st (fun t k => XS.iloadN X57.here hx rfl (hb hby at_26) rfl k) ?_
    show own_E p e below _ T57 (mkF m 27 #[iv p1, iv p2, iv p3, iv p4, iv p5, iv p6, iv 3, rv b55, .unset, .unset, .unset] [.int p4, .int p3, .int p2, .ref b55])
    obtain ⟨cq59, kq59, q59a, q59b, q59c⟩ := isOf hZ e57 P57_0
    obtain ⟨_, _, ⟨T59, L59, k59, n59⟩, -, X59, ⟨Lc59, hQ59, l59, y59, z59⟩, st59⟩ := X57.virtualBack hx (y := own_y4) (z := own_y4) hown (mvT hZ (own_w hw 42 rfl)) (mvT hZ (own_w hw 43 rfl)) (notFace_of_selects (args := #[]) (mvT hZ (own_w hw 45 rfl))) (mvT hZ (own_w hw 45 rfl)) (mvT hZ (own_w hw 44 rfl)) (by decide) (backOf (W := 0) (own_add0 l Z a0 hw [] b55 b57_o0 b57_o1 k57_o2 k57_o3 p2 p3 p4 (2147483647 : Int32) (0 : Int32) (0 : Int32) (0 : Int32) T57.heap n0 Z58 P57_0 P57_7 P57_9 P57_1 P57_2 P57_3 P57_4 P57_5 P57_6 P57_8 ne_b55_b57_o0 ne_b55_b57_o1 nq57_0_1 g_b55 g_b57_o0 g_b57_o1) hZ (own_w hw 46 rfl) (own_w hw 2 rfl) (by decide) (by decide)) q59a q59c (g := (mkF m 27 #[iv p1, iv p2, iv p3, iv p4, iv p5, iv p6, iv 3, rv b55, .unset, .unset, .unset] [.int p4, .int p3, .int p2, .ref b55])) rfl (by rw [hml]; rfl) (Steps.refl _) (argsL := [(.int p2), (.int p3), (.int p4)]) (rest := []) (lenOf own_pd_3 rfl) rfl (by show 2 * 0 + _ ≤ _; exact Nat.le_of_eq rfl) (hb hby at_27) (fun _ _ => ⟨rfl, e57, (by decide : 3 + 0 ≤ _), (by decide : 7 + 0 ≤ _)⟩)
    dsimp only [Pt.U, Pt.locs, Pt.cells, Pt.slots] at X59 l59 y59 z59 st59 hQ59
    subst l59 y59 z59
    obtain ⟨rfl, Nq59, Kq59, P59_0, P59_1, P59_2, P59_3, P59_4, P59_5, P59_6, P59_7, P59_8, P59_9⟩ := hQ59
    have N59 := Fr.app N57 Nq59
    have e59 : T59.heap = T59.heap := rfl
    have Z60 := Nat.le_trans Z58 Kq59.1
    refine own_tr st59 ?_
    show own_E p e below _ T59 (mkF m 30 #[iv p1, iv p2, iv p3, iv p4, iv p5, iv p6, iv 3, rv b55, .unset, .unset, .unset] [])
    refine own_st (fun t k => XS.iload X59.here hx rfl (hb hby at_30) rfl k) ?_
    show own_E p e below _ T59 (mkF m 32 #[iv p1, iv p2, iv p3, iv p4, iv p5, iv p6, iv 3, rv b55, .unset, .unset, .unset] [.int 3])
    refine own_st (fun t k => XS.iconst X59.here hx rfl (hb hby at_32) k) ?_
    show own_E p e below _ T59 (mkF m 33 #[iv p1, iv p2, iv p3, iv p4, iv p5, iv p6, iv 3, rv b55, .unset, .unset, .unset] [.int 1, .int 3])
    refine own_st (fun t k => XS.icmpNo X59.here hx rfl (hb hby at_33) rfl (by decide) k) ?_
    show own_E p e below _ T59 (mkF m 36 #[iv p1, iv p2, iv p3, iv p4, iv p5, iv p6, iv 3, rv b55, .unset, .unset, .unset] [])
    refine own_st (fun t k => XS.aload X59.here hx rfl (hb hby at_36) rfl rfl k) ?_
    show own_E p e below _ T59 (mkF m 38 #[iv p1, iv p2, iv p3, iv p4, iv p5, iv p6, iv 3, rv b55, .unset, .unset, .unset] [.ref b55])
    refine own_st (fun t k => XS.iloadN X59.here hx rfl (hb hby at_38) rfl k) ?_
    show own_E p e below _ T59 (mkF m 39 #[iv p1, iv p2, iv p3, iv p4, iv p5, iv p6, iv 3, rv b55, .unset, .unset, .unset] [.int p3, .ref b55])
    refine own_st (fun t k => XS.iloadN X59.here hx rfl (hb hby at_39) rfl k) ?_
    show own_E p e below _ T59 (mkF m 40 #[iv p1, iv p2, iv p3, iv p4, iv p5, iv p6, iv 3, rv b55, .unset, .unset, .unset] [.int p4, .int p3, .ref b55])
    refine own_st (fun t k => XS.iload X59.here hx rfl (hb hby at_40) rfl k) ?_
    show own_E p e below _ T59 (mkF m 42 #[iv p1, iv p2, iv p3, iv p4, iv p5, iv p6, iv 3, rv b55, .unset, .unset, .unset] [.int p5, .int p4, .int p3, .ref b55])
    obtain ⟨cq61, kq61, q61a, q61b, q61c⟩ := isOf hZ e59 P59_0
    obtain ⟨_, _, ⟨T61, L61, k61, n61⟩, -, X61, ⟨Lc61, hQ61, l61, y61, z61⟩, st61⟩ := X59.virtualBack hx (y := own_y4) (z := own_y4) hown (mvT hZ (own_w hw 42 rfl)) (mvT hZ (own_w hw 43 rfl)) (notFace_of_selects (args := #[]) (mvT hZ (own_w hw 45 rfl))) (mvT hZ (own_w hw 45 rfl)) (mvT hZ (own_w hw 44 rfl)) (by decide) (backOf (W := 0) (own_add1 l Z a0 hw [] b55 b57_o0 b57_o1 k57_o2 k57_o3 p3 p4 p5 (own_min (2147483647 : Int32) p4) (own_max (0 : Int32) p3) p2 p3 T59.heap n0 Z60 P59_0 P59_7 P59_9 P59_1 P59_2 P59_3 P59_4 P59_5 P59_6 P59_8 ne_b55_b57_o0 ne_b55_b57_o1 nq57_0_1 g_b55) hZ (own_w hw 46 rfl) (own_w hw 2 rfl) (by decide) (by decide)) q61a q61c (g := (mkF m 42 #[iv p1, iv p2, iv p3, iv p4, iv p5, iv p6, iv 3, rv b55, .unset, .unset, .unset] [.int p5, .int p4, .int p3, .ref b55])) rfl (by rw [hml]; rfl) (Steps.refl _) (argsL := [(.int p3), (.int p4), (.int p5)]) (rest := []) (lenOf own_pd_3 rfl) rfl (by show 2 * 0 + _ ≤ _; exact Nat.le_of_eq rfl) (hb hby at_42) (fun _ _ => ⟨rfl, e59, (by decide : 3 + 2 ≤ _), (by decide : 7 + 4 ≤ _)⟩)
    dsimp only [Pt.U, Pt.locs, Pt.cells, Pt.slots] at X61 l61 y61 z61 st61 hQ61
    subst l61 y61 z61
    obtain ⟨b61_o0, b61_o1, k61_o2, k61_o3, rfl, Nq61, Kq61, sz61_0, sz61_1, nq61_0_1, P61_0, P61_1, P61_2, P61_3, P61_4, P61_5, P61_6, P61_7, P61_8, P61_9⟩ := hQ61
    have N61 := Fr.app N59 Nq61
    have ne_b55_b61_o0 : b55 ≠ b61_o0 := Nat.ne_of_lt (Nat.lt_of_lt_of_le P59_0.lt sz61_0)
    have ne_b57_o0_b61_o0 : b57_o0 ≠ b61_o0 := Nat.ne_of_lt (Nat.lt_of_lt_of_le P59_7.lt sz61_0)
    have ne_b57_o1_b61_o0 : b57_o1 ≠ b61_o0 := Nat.ne_of_lt (Nat.lt_of_lt_of_le P59_9.lt sz61_0)
    have g_b61_o0 : n0 ≤ b61_o0 := Nat.le_trans Z60 sz61_0
    have ne_b55_b61_o1 : b55 ≠ b61_o1 := Nat.ne_of_lt (Nat.lt_of_lt_of_le P59_0.lt sz61_1)
    have ne_b57_o0_b61_o1 : b57_o0 ≠ b61_o1 := Nat.ne_of_lt (Nat.lt_of_lt_of_le P59_7.lt sz61_1)
    have ne_b57_o1_b61_o1 : b57_o1 ≠ b61_o1 := Nat.ne_of_lt (Nat.lt_of_lt_of_le P59_9.lt sz61_1)
    have g_b61_o1 : n0 ≤ b61_o1 := Nat.le_trans Z60 sz61_1
    have e61 : T61.heap = T61.heap := rfl
    have Z62 := Nat.le_trans Z60 Kq61.1
    refine own_tr st61 ?_
    show own_E p e below _ T61 (mkF m 45 #[iv p1, iv p2, iv p3, iv p4, iv p5, iv p6, iv 3, rv b55, .unset, .unset, .unset] [])
    refine own_st (fun t k => XS.iload X61.here hx rfl (hb hby at_45) rfl k) ?_
    show own_E p e below _ T61 (mkF m 47 #[iv p1, iv p2, iv p3, iv p4, iv p5, iv p6, iv 3, rv b55, .unset, .unset, .unset] [.int 3])
    refine own_st (fun t k => XS.iconst X61.here hx rfl (hb hby at_47) k) ?_
    show own_E p e below _ T61 (mkF m 48 #[iv p1, iv p2, iv p3, iv p4, iv p5, iv p6, iv 3, rv b55, .unset, .unset, .unset] [.int 2, .int 3])
    refine own_st (fun t k => XS.icmpNo X61.here hx rfl (hb hby at_48) rfl (by decide) k) ?_
    show own_E p e below _ T61 (mkF m 51 #[iv p1, iv p2, iv p3, iv p4, iv p5, iv p6, iv 3, rv b55, .unset, .unset, .unset] [])
    refine own_st (fun t k => XS.aload X61.here hx rfl (hb hby at_51) rfl rfl k) ?_
    show own_E p e below _ T61 (mkF m 53 #[iv p1, iv p2, iv p3, iv p4, iv p5, iv p6, iv 3, rv b55, .unset, .unset, .unset] [.ref b55])
    refine own_st (fun t k => XS.iloadN X61.here hx rfl (hb hby at_53) rfl k) ?_
    show own_E p e below _ T61 (mkF m 54 #[iv p1, iv p2, iv p3, iv p4, iv p5, iv p6, iv 3, rv b55, .unset, .unset, .unset] [.int p4, .ref b55])
    refine own_st (fun t k => XS.iload X61.here hx rfl (hb hby at_54) rfl k) ?_
    show own_E p e below _ T61 (mkF m 56 #[iv p1, iv p2, iv p3, iv p4, iv p5, iv p6, iv 3, rv b55, .unset, .unset, .unset] [.int p5, .int p4, .ref b55])
    refine own_st (fun t k => XS.iload X61.here hx rfl (hb hby at_56) rfl k) ?_
    show own_E p e below _ T61 (mkF m 58 #[iv p1, iv p2, iv p3, iv p4, iv p5, iv p6, iv 3, rv b55, .unset, .unset, .unset] [.int p6, .int p5, .int p4, .ref b55])
    obtain ⟨cq63, kq63, q63a, q63b, q63c⟩ := isOf hZ e61 P61_0
    obtain ⟨_, _, ⟨T63, L63, k63, n63⟩, -, X63, ⟨Lc63, hQ63, l63, y63, z63⟩, st63⟩ := X61.virtualBack hx (y := own_y4) (z := own_y4) hown (mvT hZ (own_w hw 42 rfl)) (mvT hZ (own_w hw 43 rfl)) (notFace_of_selects (args := #[]) (mvT hZ (own_w hw 45 rfl))) (mvT hZ (own_w hw 45 rfl)) (mvT hZ (own_w hw 44 rfl)) (by decide) (backOf (W := 0) (own_add2 l Z a0 hw [] b55 b61_o0 b61_o1 k61_o2 k61_o3 p4 p5 p6 (own_min (own_min (2147483647 : Int32) p4) p5) (own_max (own_max (0 : Int32) p3) p4) p2 p3 p3 p4 T61.heap n0 Z62 P61_0 P61_7 P61_9 P61_1 P61_2 P61_3 P61_4 P61_5 P61_6 P61_8 ne_b55_b61_o0 ne_b55_b61_o1 nq61_0_1 g_b55) hZ (own_w hw 46 rfl) (own_w hw 2 rfl) (by decide) (by decide)) q63a q63c (g := (mkF m 58 #[iv p1, iv p2, iv p3, iv p4, iv p5, iv p6, iv 3, rv b55, .unset, .unset, .unset] [.int p6, .int p5, .int p4, .ref b55])) rfl (by rw [hml]; rfl) (Steps.refl _) (argsL := [(.int p4), (.int p5), (.int p6)]) (rest := []) (lenOf own_pd_3 rfl) rfl (by show 2 * 0 + _ ≤ _; exact Nat.le_of_eq rfl) (hb hby at_58) (fun _ _ => ⟨rfl, e61, (by decide : 5 + 2 ≤ _), (by decide : 11 + 8 ≤ _)⟩)
    dsimp only [Pt.U, Pt.locs, Pt.cells, Pt.slots] at X63 l63 y63 z63 st63 hQ63
    subst l63 y63 z63
    obtain ⟨b63_o0, b63_o1, k63_o2, k63_o3, rfl, Nq63, Kq63, sz63_0, sz63_1, nq63_0_1, P63_0, P63_1, P63_2, P63_3, P63_4, P63_5, P63_6, P63_7, P63_8, P63_9⟩ := hQ63
    have N63 := Fr.app N61 Nq63
    have ne_b55_b63_o0 : b55 ≠ b63_o0 := Nat.ne_of_lt (Nat.lt_of_lt_of_le P61_0.lt sz63_0)
    have B64 := (P59_7.keep Kq61)
    have ne_b57_o0_b63_o0 : b57_o0 ≠ b63_o0 := Nat.ne_of_lt (Nat.lt_of_lt_of_le B64.lt sz63_0)
    have B65 := (P59_9.keep Kq61)
    have ne_b57_o1_b63_o0 : b57_o1 ≠ b63_o0 := Nat.ne_of_lt (Nat.lt_of_lt_of_le B65.lt sz63_0)
    have ne_b61_o0_b63_o0 : b61_o0 ≠ b63_o0 := Nat.ne_of_lt (Nat.lt_of_lt_of_le P61_6.lt sz63_0)
    have ne_b61_o1_b63_o0 : b61_o1 ≠ b63_o0 := Nat.ne_of_lt (Nat.lt_of_lt_of_le P61_8.lt sz63_0)
    have g_b63_o0 : n0 ≤ b63_o0 := Nat.le_trans Z62 sz63_0
    have ne_b55_b63_o1 : b55 ≠ b63_o1 := Nat.ne_of_lt (Nat.lt_of_lt_of_le P61_0.lt sz63_1)
    have ne_b57_o0_b63_o1 : b57_o0 ≠ b63_o1 := Nat.ne_of_lt (Nat.lt_of_lt_of_le B64.lt sz63_1)
    have ne_b57_o1_b63_o1 : b57_o1 ≠ b63_o1 := Nat.ne_of_lt (Nat.lt_of_lt_of_le B65.lt sz63_1)
    have ne_b61_o0_b63_o1 : b61_o0 ≠ b63_o1 := Nat.ne_of_lt (Nat.lt_of_lt_of_le P61_6.lt sz63_1)
    have ne_b61_o1_b63_o1 : b61_o1 ≠ b63_o1 := Nat.ne_of_lt (Nat.lt_of_lt_of_le P61_8.lt sz63_1)
    have g_b63_o1 : n0 ≤ b63_o1 := Nat.le_trans Z62 sz63_1
    have e63 : T63.heap = T63.heap := rfl
    have Z66 := Nat.le_trans Z62 Kq63.1
    refine own_tr st63 ?_
    show own_E p e below _ T63 (mkF m 61 #[iv p1, iv p2, iv p3, iv p4, iv p5, iv p6, iv 3, rv b55, .unset, .unset, .unset] [])
    refine own_st (fun t k => XS.iload X63.here hx rfl (hb hby at_61) rfl k) ?_
    show own_E p e below _ T63 (mkF m 63 #[iv p1, iv p2, iv p3, iv p4, iv p5, iv p6, iv 3, rv b55, .unset, .unset, .unset] [.int 3])
    refine own_st (fun t k => XS.iconst X63.here hx rfl (hb hby at_63) k) ?_
    show own_E p e below _ T63 (mkF m 64 #[iv p1, iv p2, iv p3, iv p4, iv p5, iv p6, iv 3, rv b55, .unset, .unset, .unset] [.int 3, .int 3])
    refine own_st (fun t k => XS.icmpYes X63.here hx rfl (pc0 := 64) (pc' := 77) rfl (hb hby at_64) rfl (by decide) (by decide) (by decide) k) ?_
    show own_E p e below _ T63 (mkF m 77 #[iv p1, iv p2, iv p3, iv p4, iv p5, iv p6, iv 3, rv b55, .unset, .unset, .unset] [])
    refine own_st (fun t k => XS.aload X63.here hx rfl (hb hby at_77) rfl rfl k) ?_
    show own_E p e below _ T63 (mkF m 79 #[iv p1, iv p2, iv p3, iv p4, iv p5, iv p6, iv 3, rv b55, .unset, .unset, .unset] [.ref b55])
    obtain ⟨T67, X67, e67, st67⟩ := getF X63 hx hZ hown (host := "") (Or.inl (own_w hw 17 rfl)) Via.refl e63 P63_4 (g := (mkF m 79 #[iv p1, iv p2, iv p3, iv p4, iv p5, iv p6, iv 3, rv b55, .unset, .unset, .unset] [.ref b55])) rfl rfl (hb hby at_79)
    refine own_st st67 ?_
    show own_E p e below _ T67 (mkF m 82 #[iv p1, iv p2, iv p3, iv p4, iv p5, iv p6, iv 3, rv b55, .unset, .unset, .unset] [.int (own_max (own_max (own_max (0 : Int32) p3) p4) p5)])
    refine own_st (fun t k => XS.istore X67.here hx rfl (hb hby at_82) rfl (l' := #[iv p1, iv p2, iv p3, iv p4, iv p5, iv p6, iv 3, rv b55, iv (own_max (own_max (own_max (0 : Int32) p3) p4) p5), .unset, .unset]) rfl k) ?_
    show own_E p e below _ T67 (mkF m 84 #[iv p1, iv p2, iv p3, iv p4, iv p5, iv p6, iv 3, rv b55, iv (own_max (own_max (own_max (0 : Int32) p3) p4) p5), .unset, .unset] [])
    refine own_st (fun t k => XS.aload X67.here hx rfl (hb hby at_84) rfl rfl k) ?_
    show own_E p e below _ T67 (mkF m 86 #[iv p1, iv p2, iv p3, iv p4, iv p5, iv p6, iv 3, rv b55, iv (own_max (own_max (own_max (0 : Int32) p3) p4) p5), .unset, .unset] [.ref b55])
    obtain ⟨T68, X68, e68, st68⟩ := getF X67 hx hZ hown (host := "") (Or.inl (own_w hw 19 rfl)) Via.refl e67 P63_3 (g := (mkF m 86 #[iv p1, iv p2, iv p3, iv p4, iv p5, iv p6, iv 3, rv b55, iv (own_max (own_max (own_max (0 : Int32) p3) p4) p5), .unset, .unset] [.ref b55])) rfl rfl (hb hby at_86)
    refine own_st st68 ?_
    show own_E p e below _ T68 (mkF m 89 #[iv p1, iv p2, iv p3, iv p4, iv p5, iv p6, iv 3, rv b55, iv (own_max (own_max (own_max (0 : Int32) p3) p4) p5), .unset, .unset] [.int (own_min (own_min (own_min (2147483647 : Int32) p4) p5) p6)])
    refine own_st (fun t k => XS.istore X68.here hx rfl (hb hby at_89) rfl (l' := #[iv p1, iv p2, iv p3, iv p4, iv p5, iv p6, iv 3, rv b55, iv (own_max (own_max (own_max (0 : Int32) p3) p4) p5), iv (own_min (own_min (own_min (2147483647 : Int32) p4) p5) p6), .unset]) rfl k) ?_
    show own_E p e below _ T68 (mkF m 91 #[iv p1, iv p2, iv p3, iv p4, iv p5, iv p6, iv 3, rv b55, iv (own_max (own_max (own_max (0 : Int32) p3) p4) p5), iv (own_min (own_min (own_min (2147483647 : Int32) p4) p5) p6), .unset] [])
    refine own_st (fun t k => XS.aload X68.here hx rfl (hb hby at_91) rfl rfl k) ?_
    show own_E p e below _ T68 (mkF m 93 #[iv p1, iv p2, iv p3, iv p4, iv p5, iv p6, iv 3, rv b55, iv (own_max (own_max (own_max (0 : Int32) p3) p4) p5), iv (own_min (own_min (own_min (2147483647 : Int32) p4) p5) p6), .unset] [.ref b55])
    obtain ⟨cq69, kq69, q69a, q69b, q69c⟩ := isOf hZ e68 P63_0
    obtain ⟨_, _, ⟨T69, L69, k69, n69⟩, -, X69, ⟨Lc69, hQ69, l69, y69, z69⟩, st69⟩ := X68.virtualBack hx (y := own_y5) (z := own_y5) hown (mvT hZ (own_w hw 20 rfl)) (mvT hZ (own_w hw 21 rfl)) (notFace_of_selects (args := #[]) (mvT hZ (own_w hw 23 rfl))) (mvT hZ (own_w hw 23 rfl)) (mvT hZ (own_w hw 22 rfl)) (by decide) (backOf (W := 0) (own_trim3 l Z a0 hw [] b55 b63_o0 b63_o1 k63_o2 k63_o3 (own_min (own_min (own_min (2147483647 : Int32) p4) p5) p6) (own_max (own_max (own_max (0 : Int32) p3) p4) p5) p2 p3 p4 (0 : Int32) p3 p4 p5 (0 : Int32) T63.heap n0 Z66 P63_0 P63_7 P63_9 P63_1 P63_2 P63_3 P63_4 P63_5 P63_6 P63_8 ne_b55_b63_o0 ne_b55_b63_o1 nq63_0_1 g_b55) hZ (own_w hw 24 rfl) (own_w hw 2 rfl) (by decide) (by decide)) q69a q69c (g := (mkF m 93 #[iv p1, iv p2, iv p3, iv p4, iv p5, iv p6, iv 3, rv b55, iv (own_max (own_max (own_max (0 : Int32) p3) p4) p5), iv (own_min (own_min (own_min (2147483647 : Int32) p4) p5) p6), .unset] [.ref b55])) rfl (by rw [hml]; rfl) (Steps.refl _) (argsL := []) (rest := []) (lenOf own_pd_1 rfl) rfl (by show 2 * 0 + _ ≤ _; exact Nat.le_of_eq rfl) (hb hby at_93) (fun _ _ => ⟨rfl, e68, (by decide : 7 + 2 ≤ _), (by decide : 19 + 6 ≤ _)⟩)
    dsimp only [Pt.U, Pt.locs, Pt.cells, Pt.slots] at X69 l69 y69 z69 st69 hQ69
    subst l69 y69 z69
    obtain ⟨b69_o0, b69_o1, k69_o2, k69_o3, rfl, Nq69, Kq69, sz69_0, sz69_1, nq69_0_1, P69_0, P69_1, P69_2, P69_3, P69_4, P69_5, P69_6, P69_7, P69_8, P69_9⟩ := hQ69
    have N69 := Fr.app N63 Nq69
    have ne_b55_b69_o0 : b55 ≠ b69_o0 := Nat.ne_of_lt (Nat.lt_of_lt_of_le P63_0.lt sz69_0)
    have B70 := (B64.keep Kq63)
    have ne_b57_o0_b69_o0 : b57_o0 ≠ b69_o0 := Nat.ne_of_lt (Nat.lt_of_lt_of_le B70.lt sz69_0)
    have B71 := (B65.keep Kq63)
    have ne_b57_o1_b69_o0 : b57_o1 ≠ b69_o0 := Nat.ne_of_lt (Nat.lt_of_lt_of_le B71.lt sz69_0)
    have B72 := (P61_6.keep Kq63 (ninS (Ne.symm ne_b55_b61_o0) nin0))
    have ne_b61_o0_b69_o0 : b61_o0 ≠ b69_o0 := Nat.ne_of_lt (Nat.lt_of_lt_of_le B72.lt sz69_0)
    have B73 := (P61_8.keep Kq63 (ninS (Ne.symm ne_b55_b61_o1) nin0))
    have ne_b61_o1_b69_o0 : b61_o1 ≠ b69_o0 := Nat.ne_of_lt (Nat.lt_of_lt_of_le B73.lt sz69_0)
    have ne_b63_o0_b69_o0 : b63_o0 ≠ b69_o0 := Nat.ne_of_lt (Nat.lt_of_lt_of_le P63_6.lt sz69_0)
    have ne_b63_o1_b69_o0 : b63_o1 ≠ b69_o0 := Nat.ne_of_lt (Nat.lt_of_lt_of_le P63_8.lt sz69_0)
    have g_b69_o0 : n0 ≤ b69_o0 := Nat.le_trans Z66 sz69_0
    have ne_b55_b69_o1 : b55 ≠ b69_o1 := Nat.ne_of_lt (Nat.lt_of_lt_of_le P63_0.lt sz69_1)
    have ne_b57_o0_b69_o1 : b57_o0 ≠ b69_o1 := Nat.ne_of_lt (Nat.lt_of_lt_of_le B70.lt sz69_1)
    have ne_b57_o1_b69_o1 : b57_o1 ≠ b69_o1 := Nat.ne_of_lt (Nat.lt_of_lt_of_le B71.lt sz69_1)
    have ne_b61_o0_b69_o1 : b61_o0 ≠ b69_o1 := Nat.ne_of_lt (Nat.lt_of_lt_of_le B72.lt sz69_1)
    have ne_b61_o1_b69_o1 : b61_o1 ≠ b69_o1 := Nat.ne_of_lt (Nat.lt_of_lt_of_le B73.lt sz69_1)
    have ne_b63_o0_b69_o1 : b63_o0 ≠ b69_o1 := Nat.ne_of_lt (Nat.lt_of_lt_of_le P63_6.lt sz69_1)
    have ne_b63_o1_b69_o1 : b63_o1 ≠ b69_o1 := Nat.ne_of_lt (Nat.lt_of_lt_of_le P63_8.lt sz69_1)
    have g_b69_o1 : n0 ≤ b69_o1 := Nat.le_trans Z66 sz69_1
    have e69 : T69.heap = T69.heap := rfl
    have Z74 := Nat.le_trans Z66 Kq69.1
    refine own_tr st69 ?_
    show own_E p e below _ T69 (mkF m 96 #[iv p1, iv p2, iv p3, iv p4, iv p5, iv p6, iv 3, rv b55, iv (own_max (own_max (own_max (0 : Int32) p3) p4) p5), iv (own_min (own_min (own_min (2147483647 : Int32) p4) p5) p6), .unset] [])
    refine own_st (fun t k => XS.aload X69.here hx rfl (hb hby at_96) rfl rfl k) ?_
    show own_E p e below _ T69 (mkF m 98 #[iv p1, iv p2, iv p3, iv p4, iv p5, iv p6, iv 3, rv b55, iv (own_max (own_max (own_max (0 : Int32) p3) p4) p5), iv (own_min (own_min (own_min (2147483647 : Int32) p4) p5) p6), .unset] [.ref b55])
    obtain ⟨T75, X75, e75, st75⟩ := getF X69 hx hZ hown (host := "") (Or.inl (own_w hw 39 rfl)) Via.refl e69 P69_5 (g := (mkF m 98 #[iv p1, iv p2, iv p3, iv p4, iv p5, iv p6, iv 3, rv b55, iv (own_max (own_max (own_max (0 : Int32) p3) p4) p5), iv (own_min (own_min (own_min (2147483647 : Int32) p4) p5) p6), .unset] [.ref b55])) rfl rfl (hb hby at_98)
    refine own_st st75 ?_
    show own_E p e below _ T75 (mkF m 101 #[iv p1, iv p2, iv p3, iv p4, iv p5, iv p6, iv 3, rv b55, iv (own_max (own_max (own_max (0 : Int32) p3) p4) p5), iv (own_min (own_min (own_min (2147483647 : Int32) p4) p5) p6), .unset] [.int 3])
    refine own_st (fun t k => XS.iload X75.here hx rfl (hb hby at_101) rfl k) ?_
    show own_E p e below _ T75 (mkF m 103 #[iv p1, iv p2, iv p3, iv p4, iv p5, iv p6, iv 3, rv b55, iv (own_max (own_max (own_max (0 : Int32) p3) p4) p5), iv (own_min (own_min (own_min (2147483647 : Int32) p4) p5) p6), .unset] [.int 3, .int 3])
    refine own_st (fun t k => XS.icmpNo X75.here hx rfl (hb hby at_103) rfl (by decide) k) ?_
    show own_E p e below _ T75 (mkF m 106 #[iv p1, iv p2, iv p3, iv p4, iv p5, iv p6, iv 3, rv b55, iv (own_max (own_max (own_max (0 : Int32) p3) p4) p5), iv (own_min (own_min (own_min (2147483647 : Int32) p4) p5) p6), .unset] [])
    refine own_st (fun t k => XS.aload X75.here hx rfl (hb hby at_106) rfl rfl k) ?_
    show own_E p e below _ T75 (mkF m 108 #[iv p1, iv p2, iv p3, iv p4, iv p5, iv p6, iv 3, rv b55, iv (own_max (own_max (own_max (0 : Int32) p3) p4) p5), iv (own_min (own_min (own_min (2147483647 : Int32) p4) p5) p6), .unset] [.ref b55])
    obtain ⟨T76, X76, e76, st76⟩ := getF X75 hx hZ hown (host := "") (Or.inl (own_w hw 40 rfl)) Via.refl e75 P69_1 (g := (mkF m 108 #[iv p1, iv p2, iv p3, iv p4, iv p5, iv p6, iv 3, rv b55, iv (own_max (own_max (own_max (0 : Int32) p3) p4) p5), iv (own_min (own_min (own_min (2147483647 : Int32) p4) p5) p6), .unset] [.ref b55])) rfl rfl (hb hby at_108)
    refine own_st st76 ?_
    show own_E p e below _ T76 (mkF m 111 #[iv p1, iv p2, iv p3, iv p4, iv p5, iv p6, iv 3, rv b55, iv (own_max (own_max (own_max (0 : Int32) p3) p4) p5), iv (own_min (own_min (own_min (2147483647 : Int32) p4) p5) p6), .unset] [.ref b69_o0])
    refine own_st (own_alen X76 hx hZ e76 P69_6 (g := (mkF m 111 #[iv p1, iv p2, iv p3, iv p4, iv p5, iv p6, iv 3, rv b55, iv (own_max (own_max (own_max (0 : Int32) p3) p4) p5), iv (own_min (own_min (own_min (2147483647 : Int32) p4) p5) p6), .unset] [.ref b69_o0])) rfl rfl (hb hby at_111)) ?_
    show own_E p e below _ T76 (mkF m 112 #[iv p1, iv p2, iv p3, iv p4, iv p5, iv p6, iv 3, rv b55, iv (own_max (own_max (own_max (0 : Int32) p3) p4) p5), iv (own_min (own_min (own_min (2147483647 : Int32) p4) p5) p6), .unset] [.int 3])
    refine own_st (fun t k => XS.iload X76.here hx rfl (hb hby at_112) rfl k) ?_
    show own_E p e below _ T76 (mkF m 114 #[iv p1, iv p2, iv p3, iv p4, iv p5, iv p6, iv 3, rv b55, iv (own_max (own_max (own_max (0 : Int32) p3) p4) p5), iv (own_min (own_min (own_min (2147483647 : Int32) p4) p5) p6), .unset] [.int 3, .int 3])
    refine own_st (fun t k => XS.icmpNo X76.here hx rfl (hb hby at_114) rfl (by decide) k) ?_
    show own_E p e below _ T76 (mkF m 117 #[iv p1, iv p2, iv p3, iv p4, iv p5, iv p6, iv 3, rv b55, iv (own_max (own_max (own_max (0 : Int32) p3) p4) p5), iv (own_min (own_min (own_min (2147483647 : Int32) p4) p5) p6), .unset] [])
    refine own_st (fun t k => XS.aload X76.here hx rfl (hb hby at_117) rfl rfl k) ?_
    show own_E p e below _ T76 (mkF m 119 #[iv p1, iv p2, iv p3, iv p4, iv p5, iv p6, iv 3, rv b55, iv (own_max (own_max (own_max (0 : Int32) p3) p4) p5), iv (own_min (own_min (own_min (2147483647 : Int32) p4) p5) p6), .unset] [.ref b55])
    obtain ⟨T77, X77, e77, st77⟩ := getF X76 hx hZ hown (host := "") (Or.inl (own_w hw 41 rfl)) Via.refl e76 P69_2 (g := (mkF m 119 #[iv p1, iv p2, iv p3, iv p4, iv p5, iv p6, iv 3, rv b55, iv (own_max (own_max (own_max (0 : Int32) p3) p4) p5), iv (own_min (own_min (own_min (2147483647 : Int32) p4) p5) p6), .unset] [.ref b55])) rfl rfl (hb hby at_119)
    refine own_st st77 ?_
    show own_E p e below _ T77 (mkF m 122 #[iv p1, iv p2, iv p3, iv p4, iv p5, iv p6, iv 3, rv b55, iv (own_max (own_max (own_max (0 : Int32) p3) p4) p5), iv (own_min (own_min (own_min (2147483647 : Int32) p4) p5) p6), .unset] [.ref b69_o1])
    refine own_st (own_alen X77 hx hZ e77 P69_8 (g := (mkF m 122 #[iv p1, iv p2, iv p3, iv p4, iv p5, iv p6, iv 3, rv b55, iv (own_max (own_max (own_max (0 : Int32) p3) p4) p5), iv (own_min (own_min (own_min (2147483647 : Int32) p4) p5) p6), .unset] [.ref b69_o1])) rfl rfl (hb hby at_122)) ?_
    show own_E p e below _ T77 (mkF m 123 #[iv p1, iv p2, iv p3, iv p4, iv p5, iv p6, iv 3, rv b55, iv (own_max (own_max (own_max (0 : Int32) p3) p4) p5), iv (own_min (own_min (own_min (2147483647 : Int32) p4) p5) p6), .unset] [.int 3])
    refine own_st (fun t k => XS.iload X77.here hx rfl (hb hby at_123) rfl k) ?_
    show own_E p e below _ T77 (mkF m 125 #[iv p1, iv p2, iv p3, iv p4, iv p5, iv p6, iv 3, rv b55, iv (own_max (own_max (own_max (0 : Int32) p3) p4) p5), iv (own_min (own_min (own_min (2147483647 : Int32) p4) p5) p6), .unset] [.int 3, .int 3])
    refine own_st (fun t k => XS.icmpNo X77.here hx rfl (hb hby at_125) rfl (by decide) k) ?_
    show own_E p e below _ T77 (mkF m 128 #[iv p1, iv p2, iv p3, iv p4, iv p5, iv p6, iv 3, rv b55, iv (own_max (own_max (own_max (0 : Int32) p3) p4) p5), iv (own_min (own_min (own_min (2147483647 : Int32) p4) p5) p6), .unset] [])
    refine own_st (fun t k => XS.aload X77.here hx rfl (hb hby at_128) rfl rfl k) ?_
    show own_E p e below _ T77 (mkF m 130 #[iv p1, iv p2, iv p3, iv p4, iv p5, iv p6, iv 3, rv b55, iv (own_max (own_max (own_max (0 : Int32) p3) p4) p5), iv (own_min (own_min (own_min (2147483647 : Int32) p4) p5) p6), .unset] [.ref b55])
    obtain ⟨T78, X78, e78, st78⟩ := getF X77 hx hZ hown (host := "") (Or.inl (own_w hw 17 rfl)) Via.refl e77 P69_4 (g := (mkF m 130 #[iv p1, iv p2, iv p3, iv p4, iv p5, iv p6, iv 3, rv b55, iv (own_max (own_max (own_max (0 : Int32) p3) p4) p5), iv (own_min (own_min (own_min (2147483647 : Int32) p4) p5) p6), .unset] [.ref b55])) rfl rfl (hb hby at_130)
    refine own_st st78 ?_
    show own_E p e below _ T78 (mkF m 133 #[iv p1, iv p2, iv p3, iv p4, iv p5, iv p6, iv 3, rv b55, iv (own_max (own_max (own_max (0 : Int32) p3) p4) p5), iv (own_min (own_min (own_min (2147483647 : Int32) p4) p5) p6), .unset] [.int (own_max (own_max (own_max (0 : Int32) p3) p4) p5)])
    refine own_st (fun t k => XS.iload X78.here hx rfl (hb hby at_133) rfl k) ?_
    show own_E p e below _ T78 (mkF m 135 #[iv p1, iv p2, iv p3, iv p4, iv p5, iv p6, iv 3, rv b55, iv (own_max (own_max (own_max (0 : Int32) p3) p4) p5), iv (own_min (own_min (own_min (2147483647 : Int32) p4) p5) p6), .unset] [.int (own_max (own_max (own_max (0 : Int32) p3) p4) p5), .int (own_max (own_max (own_max (0 : Int32) p3) p4) p5)])
    refine own_st (fun t k => XS.icmpNo X78.here hx rfl (hb hby at_135) rfl (teq rfl).2 k) ?_
    show own_E p e below _ T78 (mkF m 138 #[iv p1, iv p2, iv p3, iv p4, iv p5, iv p6, iv 3, rv b55, iv (own_max (own_max (own_max (0 : Int32) p3) p4) p5), iv (own_min (own_min (own_min (2147483647 : Int32) p4) p5) p6), .unset] [])
    refine own_st (fun t k => XS.aload X78.here hx rfl (hb hby at_138) rfl rfl k) ?_
    show own_E p e below _ T78 (mkF m 140 #[iv p1, iv p2, iv p3, iv p4, iv p5, iv p6, iv 3, rv b55, iv (own_max (own_max (own_max (0 : Int32) p3) p4) p5), iv (own_min (own_min (own_min (2147483647 : Int32) p4) p5) p6), .unset] [.ref b55])
    obtain ⟨T79, X79, e79, st79⟩ := getF X78 hx hZ hown (host := "") (Or.inl (own_w hw 19 rfl)) Via.refl e78 P69_3 (g := (mkF m 140 #[iv p1, iv p2, iv p3, iv p4, iv p5, iv p6, iv 3, rv b55, iv (own_max (own_max (own_max (0 : Int32) p3) p4) p5), iv (own_min (own_min (own_min (2147483647 : Int32) p4) p5) p6), .unset] [.ref b55])) rfl rfl (hb hby at_140)
    refine own_st st79 ?_
    show own_E p e below _ T79 (mkF m 143 #[iv p1, iv p2, iv p3, iv p4, iv p5, iv p6, iv 3, rv b55, iv (own_max (own_max (own_max (0 : Int32) p3) p4) p5), iv (own_min (own_min (own_min (2147483647 : Int32) p4) p5) p6), .unset] [.int (own_min (own_min (own_min (2147483647 : Int32) p4) p5) p6)])
    refine own_st (fun t k => XS.iload X79.here hx rfl (hb hby at_143) rfl k) ?_
    show own_E p e below _ T79 (mkF m 145 #[iv p1, iv p2, iv p3, iv p4, iv p5, iv p6, iv 3, rv b55, iv (own_max (own_max (own_max (0 : Int32) p3) p4) p5), iv (own_min (own_min (own_min (2147483647 : Int32) p4) p5) p6), .unset] [.int (own_min (own_min (own_min (2147483647 : Int32) p4) p5) p6), .int (own_min (own_min (own_min (2147483647 : Int32) p4) p5) p6)])
    refine own_st (fun t k => XS.icmpNo X79.here hx rfl (hb hby at_145) rfl (teq rfl).2 k) ?_
    show own_E p e below _ T79 (mkF m 148 #[iv p1, iv p2, iv p3, iv p4, iv p5, iv p6, iv 3, rv b55, iv (own_max (own_max (own_max (0 : Int32) p3) p4) p5), iv (own_min (own_min (own_min (2147483647 : Int32) p4) p5) p6), .unset] [])
    refine own_st (fun t k => XS.iconst X79.here hx rfl (hb hby at_148) k) ?_
    show own_E p e below _ T79 (mkF m 149 #[iv p1, iv p2, iv p3, iv p4, iv p5, iv p6, iv 3, rv b55, iv (own_max (own_max (own_max (0 : Int32) p3) p4) p5), iv (own_min (own_min (own_min (2147483647 : Int32) p4) p5) p6), .unset] [.int 1])
    refine own_st (fun t k => XS.goto X79.here hx rfl (pc0 := 149) (pc' := 153) rfl (hb hby at_149) (by decide) (by decide) k) ?_
    show own_E p e below _ T79 (mkF m 153 #[iv p1, iv p2, iv p3, iv p4, iv p5, iv p6, iv 3, rv b55, iv (own_max (own_max (own_max (0 : Int32) p3) p4) p5), iv (own_min (own_min (own_min (2147483647 : Int32) p4) p5) p6), .unset] [.int 1])
    refine own_st (fun t k => XS.istore X79.here hx rfl (hb hby at_153) rfl (l' := #[iv p1, iv p2, iv p3, iv p4, iv p5, iv p6, iv 3, rv b55, iv (own_max (own_max (own_max (0 : Int32) p3) p4) p5), iv (own_min (own_min (own_min (2147483647 : Int32) p4) p5) p6), iv 1]) rfl k) ?_
    show own_E p e below _ T79 (mkF m 155 #[iv p1, iv p2, iv p3, iv p4, iv p5, iv p6, iv 3, rv b55, iv (own_max (own_max (own_max (0 : Int32) p3) p4) p5), iv (own_min (own_min (own_min (2147483647 : Int32) p4) p5) p6), iv 1] [])
    refine own_st (fun t k => XS.iload X79.here hx rfl (hb hby at_155) rfl k) ?_
    show own_E p e below _ T79 (mkF m 157 #[iv p1, iv p2, iv p3, iv p4, iv p5, iv p6, iv 3, rv b55, iv (own_max (own_max (own_max (0 : Int32) p3) p4) p5), iv (own_min (own_min (own_min (2147483647 : Int32) p4) p5) p6), iv 1] [.int 3])
    refine own_st (fun t k => XS.ifNo X79.here hx rfl (hb hby at_157) rfl (by decide) k) ?_
    show own_E p e below _ T79 (mkF m 160 #[iv p1, iv p2, iv p3, iv p4, iv p5, iv p6, iv 3, rv b55, iv (own_max (own_max (own_max (0 : Int32) p3) p4) p5), iv (own_min (own_min (own_min (2147483647 : Int32) p4) p5) p6), iv 1] [])
    refine own_st (fun t k => XS.iload X79.here hx rfl (hb hby at_160) rfl k) ?_
    show own_E p e below _ T79 (mkF m 162 #[iv p1, iv p2, iv p3, iv p4, iv p5, iv p6, iv 3, rv b55, iv (own_max (own_max (own_max (0 : Int32) p3) p4) p5), iv (own_min (own_min (own_min (2147483647 : Int32) p4) p5) p6), iv 1] [.int 1])
    refine own_st (fun t k => XS.ifNo X79.here hx rfl (hb hby at_162) rfl (by decide) k) ?_
    show own_E p e below _ T79 (mkF m 165 #[iv p1, iv p2, iv p3, iv p4, iv p5, iv p6, iv 3, rv b55, iv (own_max (own_max (own_max (0 : Int32) p3) p4) p5), iv (own_min (own_min (own_min (2147483647 : Int32) p4) p5) p6), iv 1] [])
    refine own_st (fun t k => XS.aload X79.here hx rfl (hb hby at_165) rfl rfl k) ?_
    show own_E p e below _ T79 (mkF m 167 #[iv p1, iv p2, iv p3, iv p4, iv p5, iv p6, iv 3, rv b55, iv (own_max (own_max (own_max (0 : Int32) p3) p4) p5), iv (own_min (own_min (own_min (2147483647 : Int32) p4) p5) p6), iv 1] [.ref b55])
    obtain ⟨T80, X80, e80, st80⟩ := getF X79 hx hZ hown (host := "") (Or.inl (own_w hw 40 rfl)) Via.refl e79 P69_1 (g := (mkF m 167 #[iv p1, iv p2, iv p3, iv p4, iv p5, iv p6, iv 3, rv b55, iv (own_max (own_max (own_max (0 : Int32) p3) p4) p5), iv (own_min (own_min (own_min (2147483647 : Int32) p4) p5) p6), iv 1] [.ref b55])) rfl rfl (hb hby at_167)
    refine own_st st80 ?_
    show own_E p e below _ T80 (mkF m 170 #[iv p1, iv p2, iv p3, iv p4, iv p5, iv p6, iv 3, rv b55, iv (own_max (own_max (own_max (0 : Int32) p3) p4) p5), iv (own_min (own_min (own_min (2147483647 : Int32) p4) p5) p6), iv 1] [.ref b69_o0])
    refine own_st (fun t k => XS.iconst X80.here hx rfl (hb hby at_170) k) ?_
    show own_E p e below _ T80 (mkF m 171 #[iv p1, iv p2, iv p3, iv p4, iv p5, iv p6, iv 3, rv b55, iv (own_max (own_max (own_max (0 : Int32) p3) p4) p5), iv (own_min (own_min (own_min (2147483647 : Int32) p4) p5) p6), iv 1] [.int 0, .ref b69_o0])
    refine own_st (own_ald X80 hx hZ e80 P69_6 (j := (0 : Int32)) ⟨by decide, by decide⟩ (v := (.int p2)) rfl (g := (mkF m 171 #[iv p1, iv p2, iv p3, iv p4, iv p5, iv p6, iv 3, rv b55, iv (own_max (own_max (own_max (0 : Int32) p3) p4) p5), iv (own_min (own_min (own_min (2147483647 : Int32) p4) p5) p6), iv 1] [.int 0, .ref b69_o0])) rfl rfl (hb hby at_171)) ?_
    show own_E p e below _ T80 (mkF m 172 #[iv p1, iv p2, iv p3, iv p4, iv p5, iv p6, iv 3, rv b55, iv (own_max (own_max (own_max (0 : Int32) p3) p4) p5), iv (own_min (own_min (own_min (2147483647 : Int32) p4) p5) p6), iv 1] [.int p2])
    refine own_st (fun t k => XS.iloadN X80.here hx rfl (hb hby at_172) rfl k) ?_
    show own_E p e below _ T80 (mkF m 173 #[iv p1, iv p2, iv p3, iv p4, iv p5, iv p6, iv 3, rv b55, iv (own_max (own_max (own_max (0 : Int32) p3) p4) p5), iv (own_min (own_min (own_min (2147483647 : Int32) p4) p5) p6), iv 1] [.int p2, .int p2])
    refine own_st (fun t k => XS.icmpNo X80.here hx rfl (hb hby at_173) rfl (teq rfl).2 k) ?_
    show own_E p e below _ T80 (mkF m 176 #[iv p1, iv p2, iv p3, iv p4, iv p5, iv p6, iv 3, rv b55, iv (own_max (own_max (own_max (0 : Int32) p3) p4) p5), iv (own_min (own_min (own_min (2147483647 : Int32) p4) p5) p6), iv 1] [])
    refine own_st (fun t k => XS.aload X80.here hx rfl (hb hby at_176) rfl rfl k) ?_
    show own_E p e below _ T80 (mkF m 178 #[iv p1, iv p2, iv p3, iv p4, iv p5, iv p6, iv 3, rv b55, iv (own_max (own_max (own_max (0 : Int32) p3) p4) p5), iv (own_min (own_min (own_min (2147483647 : Int32) p4) p5) p6), iv 1] [.ref b55])
    obtain ⟨T81, X81, e81, st81⟩ := getF X80 hx hZ hown (host := "") (Or.inl (own_w hw 41 rfl)) Via.refl e80 P69_2 (g := (mkF m 178 #[iv p1, iv p2, iv p3, iv p4, iv p5, iv p6, iv 3, rv b55, iv (own_max (own_max (own_max (0 : Int32) p3) p4) p5), iv (own_min (own_min (own_min (2147483647 : Int32) p4) p5) p6), iv 1] [.ref b55])) rfl rfl (hb hby at_178)
    refine own_st st81 ?_
    show own_E p e below _ T81 (mkF m 181 #[iv p1, iv p2, iv p3, iv p4, iv p5, iv p6, iv 3, rv b55, iv (own_max (own_max (own_max (0 : Int32) p3) p4) p5), iv (own_min (own_min (own_min (2147483647 : Int32) p4) p5) p6), iv 1] [.ref b69_o1])
    refine own_st (fun t k => XS.iconst X81.here hx rfl (hb hby at_181) k) ?_
    show own_E p e below _ T81 (mkF m 182 #[iv p1, iv p2, iv p3, iv p4, iv p5, iv p6, iv 3, rv b55, iv (own_max (own_max (own_max (0 : Int32) p3) p4) p5), iv (own_min (own_min (own_min (2147483647 : Int32) p4) p5) p6), iv 1] [.int 0, .ref b69_o1])
    refine own_st (own_ald X81 hx hZ e81 P69_8 (j := (0 : Int32)) ⟨by decide, by decide⟩ (v := (.int p3)) rfl (g := (mkF m 182 #[iv p1, iv p2, iv p3, iv p4, iv p5, iv p6, iv 3, rv b55, iv (own_max (own_max (own_max (0 : Int32) p3) p4) p5), iv (own_min (own_min (own_min (2147483647 : Int32) p4) p5) p6), iv 1] [.int 0, .ref b69_o1])) rfl rfl (hb hby at_182)) ?_
    show own_E p e below _ T81 (mkF m 183 #[iv p1, iv p2, iv p3, iv p4, iv p5, iv p6, iv 3, rv b55, iv (own_max (own_max (own_max (0 : Int32) p3) p4) p5), iv (own_min (own_min (own_min (2147483647 : Int32) p4) p5) p6), iv 1] [.int p3])
    refine own_st (fun t k => XS.iloadN X81.here hx rfl (hb hby at_183) rfl k) ?_
    show own_E p e below _ T81 (mkF m 184 #[iv p1, iv p2, iv p3, iv p4, iv p5, iv p6, iv 3, rv b55, iv (own_max (own_max (own_max (0 : Int32) p3) p4) p5), iv (own_min (own_min (own_min (2147483647 : Int32) p4) p5) p6), iv 1] [.int p3, .int p3])
    refine own_st (fun t k => XS.icmpNo X81.here hx rfl (hb hby at_184) rfl (teq rfl).2 k) ?_
    show own_E p e below _ T81 (mkF m 187 #[iv p1, iv p2, iv p3, iv p4, iv p5, iv p6, iv 3, rv b55, iv (own_max (own_max (own_max (0 : Int32) p3) p4) p5), iv (own_min (own_min (own_min (2147483647 : Int32) p4) p5) p6), iv 1] [])
    refine own_st (fun t k => XS.iconst X81.here hx rfl (hb hby at_187) k) ?_
    show own_E p e below _ T81 (mkF m 188 #[iv p1, iv p2, iv p3, iv p4, iv p5, iv p6, iv 3, rv b55, iv (own_max (own_max (own_max (0 : Int32) p3) p4) p5), iv (own_min (own_min (own_min (2147483647 : Int32) p4) p5) p6), iv 1] [.int 1])
    refine own_st (fun t k => XS.goto X81.here hx rfl (pc0 := 188) (pc' := 192) rfl (hb hby at_188) (by decide) (by decide) k) ?_
    show own_E p e below _ T81 (mkF m 192 #[iv p1, iv p2, iv p3, iv p4, iv p5, iv p6, iv 3, rv b55, iv (own_max (own_max (own_max (0 : Int32) p3) p4) p5), iv (own_min (own_min (own_min (2147483647 : Int32) p4) p5) p6), iv 1] [.int 1])
    refine own_st (fun t k => XS.istore X81.here hx rfl (hb hby at_192) rfl (l' := #[iv p1, iv p2, iv p3, iv p4, iv p5, iv p6, iv 3, rv b55, iv (own_max (own_max (own_max (0 : Int32) p3) p4) p5), iv (own_min (own_min (own_min (2147483647 : Int32) p4) p5) p6), iv 1]) rfl k) ?_
    show own_E p e below _ T81 (mkF m 194 #[iv p1, iv p2, iv p3, iv p4, iv p5, iv p6, iv 3, rv b55, iv (own_max (own_max (own_max (0 : Int32) p3) p4) p5), iv (own_min (own_min (own_min (2147483647 : Int32) p4) p5) p6), iv 1] [])
    refine own_st (fun t k => XS.iload X81.here hx rfl (hb hby at_194) rfl k) ?_
    show own_E p e below _ T81 (mkF m 196 #[iv p1, iv p2, iv p3, iv p4, iv p5, iv p6, iv 3, rv b55, iv (own_max (own_max (own_max (0 : Int32) p3) p4) p5), iv (own_min (own_min (own_min (2147483647 : Int32) p4) p5) p6), iv 1] [.int 3])
    refine own_st (fun t k => XS.iconst X81.here hx rfl (hb hby at_196) k) ?_
    show own_E p e below _ T81 (mkF m 197 #[iv p1, iv p2, iv p3, iv p4, iv p5, iv p6, iv 3, rv b55, iv (own_max (own_max (own_max (0 : Int32) p3) p4) p5), iv (own_min (own_min (own_min (2147483647 : Int32) p4) p5) p6), iv 1] [.int 1, .int 3])
    refine own_st (fun t k => XS.icmpNo X81.here hx rfl (hb hby at_197) rfl (by decide) k) ?_
    show own_E p e below _ T81 (mkF m 200 #[iv p1, iv p2, iv p3, iv p4, iv p5, iv p6, iv 3, rv b55, iv (own_max (own_max (own_max (0 : Int32) p3) p4) p5), iv (own_min (own_min (own_min (2147483647 : Int32) p4) p5) p6), iv 1] [])
    refine own_st (fun t k => XS.iload X81.here hx rfl (hb hby at_200) rfl k) ?_
    show own_E p e below _ T81 (mkF m 202 #[iv p1, iv p2, iv p3, iv p4, iv p5, iv p6, iv 3, rv b55, iv (own_max (own_max (own_max (0 : Int32) p3) p4) p5), iv (own_min (own_min (own_min (2147483647 : Int32) p4) p5) p6), iv 1] [.int 1])
    refine own_st (fun t k => XS.ifNo X81.here hx rfl (hb hby at_202) rfl (by decide) k) ?_
    show own_E p e below _ T81 (mkF m 205 #[iv p1, iv p2, iv p3, iv p4, iv p5, iv p6, iv 3, rv b55, iv (own_max (own_max (own_max (0 : Int32) p3) p4) p5), iv (own_min (own_min (own_min (2147483647 : Int32) p4) p5) p6), iv 1] [])
    refine own_st (fun t k => XS.aload X81.here hx rfl (hb hby at_205) rfl rfl k) ?_
    show own_E p e below _ T81 (mkF m 207 #[iv p1, iv p2, iv p3, iv p4, iv p5, iv p6, iv 3, rv b55, iv (own_max (own_max (own_max (0 : Int32) p3) p4) p5), iv (own_min (own_min (own_min (2147483647 : Int32) p4) p5) p6), iv 1] [.ref b55])
    obtain ⟨T82, X82, e82, st82⟩ := getF X81 hx hZ hown (host := "") (Or.inl (own_w hw 40 rfl)) Via.refl e81 P69_1 (g := (mkF m 207 #[iv p1, iv p2, iv p3, iv p4, iv p5, iv p6, iv 3, rv b55, iv (own_max (own_max (own_max (0 : Int32) p3) p4) p5), iv (own_min (own_min (own_min (2147483647 : Int32) p4) p5) p6), iv 1] [.ref b55])) rfl rfl (hb hby at_207)
    refine own_st st82 ?_
    show own_E p e below _ T82 (mkF m 210 #[iv p1, iv p2, iv p3, iv p4, iv p5, iv p6, iv 3, rv b55, iv (own_max (own_max (own_max (0 : Int32) p3) p4) p5), iv (own_min (own_min (own_min (2147483647 : Int32) p4) p5) p6), iv 1] [.ref b69_o0])
    refine own_st (fun t k => XS.iconst X82.here hx rfl (hb hby at_210) k) ?_
    show own_E p e below _ T82 (mkF m 211 #[iv p1, iv p2, iv p3, iv p4, iv p5, iv p6, iv 3, rv b55, iv (own_max (own_max (own_max (0 : Int32) p3) p4) p5), iv (own_min (own_min (own_min (2147483647 : Int32) p4) p5) p6), iv 1] [.int 1, .ref b69_o0])
    refine own_st (own_ald X82 hx hZ e82 P69_6 (j := (1 : Int32)) ⟨by decide, by decide⟩ (v := (.int p3)) rfl (g := (mkF m 211 #[iv p1, iv p2, iv p3, iv p4, iv p5, iv p6, iv 3, rv b55, iv (own_max (own_max (own_max (0 : Int32) p3) p4) p5), iv (own_min (own_min (own_min (2147483647 : Int32) p4) p5) p6), iv 1] [.int 1, .ref b69_o0])) rfl rfl (hb hby at_211)) ?_
    show own_E p e below _ T82 (mkF m 212 #[iv p1, iv p2, iv p3, iv p4, iv p5, iv p6, iv 3, rv b55, iv (own_max (own_max (own_max (0 : Int32) p3) p4) p5), iv (own_min (own_min (own_min (2147483647 : Int32) p4) p5) p6), iv 1] [.int p3])
    refine own_st (fun t k => XS.iloadN X82.here hx rfl (hb hby at_212) rfl k) ?_
    show own_E p e below _ T82 (mkF m 213 #[iv p1, iv p2, iv p3, iv p4, iv p5, iv p6, iv 3, rv b55, iv (own_max (own_max (own_max (0 : Int32) p3) p4) p5), iv (own_min (own_min (own_min (2147483647 : Int32) p4) p5) p6), iv 1] [.int p3, .int p3])
    refine own_st (fun t k => XS.icmpNo X82.here hx rfl (hb hby at_213) rfl (teq rfl).2 k) ?_
    show own_E p e below _ T82 (mkF m 216 #[iv p1, iv p2, iv p3, iv p4, iv p5, iv p6, iv 3, rv b55, iv (own_max (own_max (own_max (0 : Int32) p3) p4) p5), iv (own_min (own_min (own_min (2147483647 : Int32) p4) p5) p6), iv 1] [])
    refine own_st (fun t k => XS.aload X82.here hx rfl (hb hby at_216) rfl rfl k) ?_
    show own_E p e below _ T82 (mkF m 218 #[iv p1, iv p2, iv p3, iv p4, iv p5, iv p6, iv 3, rv b55, iv (own_max (own_max (own_max (0 : Int32) p3) p4) p5), iv (own_min (own_min (own_min (2147483647 : Int32) p4) p5) p6), iv 1] [.ref b55])
    obtain ⟨T83, X83, e83, st83⟩ := getF X82 hx hZ hown (host := "") (Or.inl (own_w hw 41 rfl)) Via.refl e82 P69_2 (g := (mkF m 218 #[iv p1, iv p2, iv p3, iv p4, iv p5, iv p6, iv 3, rv b55, iv (own_max (own_max (own_max (0 : Int32) p3) p4) p5), iv (own_min (own_min (own_min (2147483647 : Int32) p4) p5) p6), iv 1] [.ref b55])) rfl rfl (hb hby at_218)
    refine own_st st83 ?_
    show own_E p e below _ T83 (mkF m 221 #[iv p1, iv p2, iv p3, iv p4, iv p5, iv p6, iv 3, rv b55, iv (own_max (own_max (own_max (0 : Int32) p3) p4) p5), iv (own_min (own_min (own_min (2147483647 : Int32) p4) p5) p6), iv 1] [.ref b69_o1])
    refine own_st (fun t k => XS.iconst X83.here hx rfl (hb hby at_221) k) ?_
    show own_E p e below _ T83 (mkF m 222 #[iv p1, iv p2, iv p3, iv p4, iv p5, iv p6, iv 3, rv b55, iv (own_max (own_max (own_max (0 : Int32) p3) p4) p5), iv (own_min (own_min (own_min (2147483647 : Int32) p4) p5) p6), iv 1] [.int 1, .ref b69_o1])
    refine own_st (own_ald X83 hx hZ e83 P69_8 (j := (1 : Int32)) ⟨by decide, by decide⟩ (v := (.int p4)) rfl (g := (mkF m 222 #[iv p1, iv p2, iv p3, iv p4, iv p5, iv p6, iv 3, rv b55, iv (own_max (own_max (own_max (0 : Int32) p3) p4) p5), iv (own_min (own_min (own_min (2147483647 : Int32) p4) p5) p6), iv 1] [.int 1, .ref b69_o1])) rfl rfl (hb hby at_222)) ?_
    show own_E p e below _ T83 (mkF m 223 #[iv p1, iv p2, iv p3, iv p4, iv p5, iv p6, iv 3, rv b55, iv (own_max (own_max (own_max (0 : Int32) p3) p4) p5), iv (own_min (own_min (own_min (2147483647 : Int32) p4) p5) p6), iv 1] [.int p4])
    refine own_st (fun t k => XS.iloadN X83.here hx rfl (hb hby at_223) rfl k) ?_
    show own_E p e below _ T83 (mkF m 224 #[iv p1, iv p2, iv p3, iv p4, iv p5, iv p6, iv 3, rv b55, iv (own_max (own_max (own_max (0 : Int32) p3) p4) p5), iv (own_min (own_min (own_min (2147483647 : Int32) p4) p5) p6), iv 1] [.int p4, .int p4])
    refine own_st (fun t k => XS.icmpNo X83.here hx rfl (hb hby at_224) rfl (teq rfl).2 k) ?_
    show own_E p e below _ T83 (mkF m 227 #[iv p1, iv p2, iv p3, iv p4, iv p5, iv p6, iv 3, rv b55, iv (own_max (own_max (own_max (0 : Int32) p3) p4) p5), iv (own_min (own_min (own_min (2147483647 : Int32) p4) p5) p6), iv 1] [])
    refine own_st (fun t k => XS.iconst X83.here hx rfl (hb hby at_227) k) ?_
    show own_E p e below _ T83 (mkF m 228 #[iv p1, iv p2, iv p3, iv p4, iv p5, iv p6, iv 3, rv b55, iv (own_max (own_max (own_max (0 : Int32) p3) p4) p5), iv (own_min (own_min (own_min (2147483647 : Int32) p4) p5) p6), iv 1] [.int 1])
    refine own_st (fun t k => XS.goto X83.here hx rfl (pc0 := 228) (pc' := 232) rfl (hb hby at_228) (by decide) (by decide) k) ?_
    show own_E p e below _ T83 (mkF m 232 #[iv p1, iv p2, iv p3, iv p4, iv p5, iv p6, iv 3, rv b55, iv (own_max (own_max (own_max (0 : Int32) p3) p4) p5), iv (own_min (own_min (own_min (2147483647 : Int32) p4) p5) p6), iv 1] [.int 1])
    refine own_st (fun t k => XS.istore X83.here hx rfl (hb hby at_232) rfl (l' := #[iv p1, iv p2, iv p3, iv p4, iv p5, iv p6, iv 3, rv b55, iv (own_max (own_max (own_max (0 : Int32) p3) p4) p5), iv (own_min (own_min (own_min (2147483647 : Int32) p4) p5) p6), iv 1]) rfl k) ?_
    show own_E p e below _ T83 (mkF m 234 #[iv p1, iv p2, iv p3, iv p4, iv p5, iv p6, iv 3, rv b55, iv (own_max (own_max (own_max (0 : Int32) p3) p4) p5), iv (own_min (own_min (own_min (2147483647 : Int32) p4) p5) p6), iv 1] [])
    refine own_st (fun t k => XS.iload X83.here hx rfl (hb hby at_234) rfl k) ?_
    show own_E p e below _ T83 (mkF m 236 #[iv p1, iv p2, iv p3, iv p4, iv p5, iv p6, iv 3, rv b55, iv (own_max (own_max (own_max (0 : Int32) p3) p4) p5), iv (own_min (own_min (own_min (2147483647 : Int32) p4) p5) p6), iv 1] [.int 3])
    refine own_st (fun t k => XS.iconst X83.here hx rfl (hb hby at_236) k) ?_
    show own_E p e below _ T83 (mkF m 237 #[iv p1, iv p2, iv p3, iv p4, iv p5, iv p6, iv 3, rv b55, iv (own_max (own_max (own_max (0 : Int32) p3) p4) p5), iv (own_min (own_min (own_min (2147483647 : Int32) p4) p5) p6), iv 1] [.int 2, .int 3])
    refine own_st (fun t k => XS.icmpNo X83.here hx rfl (hb hby at_237) rfl (by decide) k) ?_
    show own_E p e below _ T83 (mkF m 240 #[iv p1, iv p2, iv p3, iv p4, iv p5, iv p6, iv 3, rv b55, iv (own_max (own_max (own_max (0 : Int32) p3) p4) p5), iv (own_min (own_min (own_min (2147483647 : Int32) p4) p5) p6), iv 1] [])
    refine own_st (fun t k => XS.iload X83.here hx rfl (hb hby at_240) rfl k) ?_
    show own_E p e below _ T83 (mkF m 242 #[iv p1, iv p2, iv p3, iv p4, iv p5, iv p6, iv 3, rv b55, iv (own_max (own_max (own_max (0 : Int32) p3) p4) p5), iv (own_min (own_min (own_min (2147483647 : Int32) p4) p5) p6), iv 1] [.int 1])
    refine own_st (fun t k => XS.ifNo X83.here hx rfl (hb hby at_242) rfl (by decide) k) ?_
    show own_E p e below _ T83 (mkF m 245 #[iv p1, iv p2, iv p3, iv p4, iv p5, iv p6, iv 3, rv b55, iv (own_max (own_max (own_max (0 : Int32) p3) p4) p5), iv (own_min (own_min (own_min (2147483647 : Int32) p4) p5) p6), iv 1] [])
    refine own_st (fun t k => XS.aload X83.here hx rfl (hb hby at_245) rfl rfl k) ?_
    show own_E p e below _ T83 (mkF m 247 #[iv p1, iv p2, iv p3, iv p4, iv p5, iv p6, iv 3, rv b55, iv (own_max (own_max (own_max (0 : Int32) p3) p4) p5), iv (own_min (own_min (own_min (2147483647 : Int32) p4) p5) p6), iv 1] [.ref b55])
    obtain ⟨T84, X84, e84, st84⟩ := getF X83 hx hZ hown (host := "") (Or.inl (own_w hw 40 rfl)) Via.refl e83 P69_1 (g := (mkF m 247 #[iv p1, iv p2, iv p3, iv p4, iv p5, iv p6, iv 3, rv b55, iv (own_max (own_max (own_max (0 : Int32) p3) p4) p5), iv (own_min (own_min (own_min (2147483647 : Int32) p4) p5) p6), iv 1] [.ref b55])) rfl rfl (hb hby at_247)
    refine own_st st84 ?_
    show own_E p e below _ T84 (mkF m 250 #[iv p1, iv p2, iv p3, iv p4, iv p5, iv p6, iv 3, rv b55, iv (own_max (own_max (own_max (0 : Int32) p3) p4) p5), iv (own_min (own_min (own_min (2147483647 : Int32) p4) p5) p6), iv 1] [.ref b69_o0])
    refine own_st (fun t k => XS.iconst X84.here hx rfl (hb hby at_250) k) ?_
    show own_E p e below _ T84 (mkF m 251 #[iv p1, iv p2, iv p3, iv p4, iv p5, iv p6, iv 3, rv b55, iv (own_max (own_max (own_max (0 : Int32) p3) p4) p5), iv (own_min (own_min (own_min (2147483647 : Int32) p4) p5) p6), iv 1] [.int 2, .ref b69_o0])
    refine own_st (own_ald X84 hx hZ e84 P69_6 (j := (2 : Int32)) ⟨by decide, by decide⟩ (v := (.int p4)) rfl (g := (mkF m 251 #[iv p1, iv p2, iv p3, iv p4, iv p5, iv p6, iv 3, rv b55, iv (own_max (own_max (own_max (0 : Int32) p3) p4) p5), iv (own_min (own_min (own_min (2147483647 : Int32) p4) p5) p6), iv 1] [.int 2, .ref b69_o0])) rfl rfl (hb hby at_251)) ?_
    show own_E p e below _ T84 (mkF m 252 #[iv p1, iv p2, iv p3, iv p4, iv p5, iv p6, iv 3, rv b55, iv (own_max (own_max (own_max (0 : Int32) p3) p4) p5), iv (own_min (own_min (own_min (2147483647 : Int32) p4) p5) p6), iv 1] [.int p4])
    refine own_st (fun t k => XS.iloadN X84.here hx rfl (hb hby at_252) rfl k) ?_
    show own_E p e below _ T84 (mkF m 253 #[iv p1, iv p2, iv p3, iv p4, iv p5, iv p6, iv 3, rv b55, iv (own_max (own_max (own_max (0 : Int32) p3) p4) p5), iv (own_min (own_min (own_min (2147483647 : Int32) p4) p5) p6), iv 1] [.int p4, .int p4])
    refine own_st (fun t k => XS.icmpNo X84.here hx rfl (hb hby at_253) rfl (teq rfl).2 k) ?_
    show own_E p e below _ T84 (mkF m 256 #[iv p1, iv p2, iv p3, iv p4, iv p5, iv p6, iv 3, rv b55, iv (own_max (own_max (own_max (0 : Int32) p3) p4) p5), iv (own_min (own_min (own_min (2147483647 : Int32) p4) p5) p6), iv 1] [])
    refine own_st (fun t k => XS.aload X84.here hx rfl (hb hby at_256) rfl rfl k) ?_
    show own_E p e below _ T84 (mkF m 258 #[iv p1, iv p2, iv p3, iv p4, iv p5, iv p6, iv 3, rv b55, iv (own_max (own_max (own_max (0 : Int32) p3) p4) p5), iv (own_min (own_min (own_min (2147483647 : Int32) p4) p5) p6), iv 1] [.ref b55])
    obtain ⟨T85, X85, e85, st85⟩ := getF X84 hx hZ hown (host := "") (Or.inl (own_w hw 41 rfl)) Via.refl e84 P69_2 (g := (mkF m 258 #[iv p1, iv p2, iv p3, iv p4, iv p5, iv p6, iv 3, rv b55, iv (own_max (own_max (own_max (0 : Int32) p3) p4) p5), iv (own_min (own_min (own_min (2147483647 : Int32) p4) p5) p6), iv 1] [.ref b55])) rfl rfl (hb hby at_258)
    refine own_st st85 ?_
    show own_E p e below _ T85 (mkF m 261 #[iv p1, iv p2, iv p3, iv p4, iv p5, iv p6, iv 3, rv b55, iv (own_max (own_max (own_max (0 : Int32) p3) p4) p5), iv (own_min (own_min (own_min (2147483647 : Int32) p4) p5) p6), iv 1] [.ref b69_o1])
    refine own_st (fun t k => XS.iconst X85.here hx rfl (hb hby at_261) k) ?_
    show own_E p e below _ T85 (mkF m 262 #[iv p1, iv p2, iv p3, iv p4, iv p5, iv p6, iv 3, rv b55, iv (own_max (own_max (own_max (0 : Int32) p3) p4) p5), iv (own_min (own_min (own_min (2147483647 : Int32) p4) p5) p6), iv 1] [.int 2, .ref b69_o1])
    refine own_st (own_ald X85 hx hZ e85 P69_8 (j := (2 : Int32)) ⟨by decide, by decide⟩ (v := (.int p5)) rfl (g := (mkF m 262 #[iv p1, iv p2, iv p3, iv p4, iv p5, iv p6, iv 3, rv b55, iv (own_max (own_max (own_max (0 : Int32) p3) p4) p5), iv (own_min (own_min (own_min (2147483647 : Int32) p4) p5) p6), iv 1] [.int 2, .ref b69_o1])) rfl rfl (hb hby at_262)) ?_
    show own_E p e below _ T85 (mkF m 263 #[iv p1, iv p2, iv p3, iv p4, iv p5, iv p6, iv 3, rv b55, iv (own_max (own_max (own_max (0 : Int32) p3) p4) p5), iv (own_min (own_min (own_min (2147483647 : Int32) p4) p5) p6), iv 1] [.int p5])
    refine own_st (fun t k => XS.iload X85.here hx rfl (hb hby at_263) rfl k) ?_
    show own_E p e below _ T85 (mkF m 265 #[iv p1, iv p2, iv p3, iv p4, iv p5, iv p6, iv 3, rv b55, iv (own_max (own_max (own_max (0 : Int32) p3) p4) p5), iv (own_min (own_min (own_min (2147483647 : Int32) p4) p5) p6), iv 1] [.int p5, .int p5])
    refine own_st (fun t k => XS.icmpNo X85.here hx rfl (hb hby at_265) rfl (teq rfl).2 k) ?_
    show own_E p e below _ T85 (mkF m 268 #[iv p1, iv p2, iv p3, iv p4, iv p5, iv p6, iv 3, rv b55, iv (own_max (own_max (own_max (0 : Int32) p3) p4) p5), iv (own_min (own_min (own_min (2147483647 : Int32) p4) p5) p6), iv 1] [])
    refine own_st (fun t k => XS.iconst X85.here hx rfl (hb hby at_268) k) ?_
    show own_E p e below _ T85 (mkF m 269 #[iv p1, iv p2, iv p3, iv p4, iv p5, iv p6, iv 3, rv b55, iv (own_max (own_max (own_max (0 : Int32) p3) p4) p5), iv (own_min (own_min (own_min (2147483647 : Int32) p4) p5) p6), iv 1] [.int 1])
    refine own_st (fun t k => XS.goto X85.here hx rfl (pc0 := 269) (pc' := 273) rfl (hb hby at_269) (by decide) (by decide) k) ?_
    show own_E p e below _ T85 (mkF m 273 #[iv p1, iv p2, iv p3, iv p4, iv p5, iv p6, iv 3, rv b55, iv (own_max (own_max (own_max (0 : Int32) p3) p4) p5), iv (own_min (own_min (own_min (2147483647 : Int32) p4) p5) p6), iv 1] [.int 1])
    refine own_st (fun t k => XS.istore X85.here hx rfl (hb hby at_273) rfl (l' := #[iv p1, iv p2, iv p3, iv p4, iv p5, iv p6, iv 3, rv b55, iv (own_max (own_max (own_max (0 : Int32) p3) p4) p5), iv (own_min (own_min (own_min (2147483647 : Int32) p4) p5) p6), iv 1]) rfl k) ?_
    show own_E p e below _ T85 (mkF m 275 #[iv p1, iv p2, iv p3, iv p4, iv p5, iv p6, iv 3, rv b55, iv (own_max (own_max (own_max (0 : Int32) p3) p4) p5), iv (own_min (own_min (own_min (2147483647 : Int32) p4) p5) p6), iv 1] [])
    refine own_st (fun t k => XS.iload X85.here hx rfl (hb hby at_275) rfl k) ?_
    show own_E p e below _ T85 (mkF m 277 #[iv p1, iv p2, iv p3, iv p4, iv p5, iv p6, iv 3, rv b55, iv (own_max (own_max (own_max (0 : Int32) p3) p4) p5), iv (own_min (own_min (own_min (2147483647 : Int32) p4) p5) p6), iv 1] [.int 3])
    refine own_st (fun t k => XS.iconst X85.here hx rfl (hb hby at_277) k) ?_
    show own_E p e below _ T85 (mkF m 278 #[iv p1, iv p2, iv p3, iv p4, iv p5, iv p6, iv 3, rv b55, iv (own_max (own_max (own_max (0 : Int32) p3) p4) p5), iv (own_min (own_min (own_min (2147483647 : Int32) p4) p5) p6), iv 1] [.int 3, .int 3])
    refine own_st (fun t k => XS.icmpYes X85.here hx rfl (pc0 := 278) (pc' := 317) rfl (hb hby at_278) rfl (by decide) (by decide) (by decide) k) ?_
    show own_E p e below _ T85 (mkF m 317 #[iv p1, iv p2, iv p3, iv p4, iv p5, iv p6, iv 3, rv b55, iv (own_max (own_max (own_max (0 : Int32) p3) p4) p5), iv (own_min (own_min (own_min (2147483647 : Int32) p4) p5) p6), iv 1] [])
    refine own_st (fun t k => XS.iload X85.here hx rfl (hb hby at_317) rfl k) ?_
    show own_E p e below _ T85 (mkF m 319 #[iv p1, iv p2, iv p3, iv p4, iv p5, iv p6, iv 3, rv b55, iv (own_max (own_max (own_max (0 : Int32) p3) p4) p5), iv (own_min (own_min (own_min (2147483647 : Int32) p4) p5) p6), iv 1] [.int 1])
    refine own_retS X85 hx Bd.notSynchronized Bd.returns rfl (by decide) (hb hby at_319) (by decide) (by decide) ?_
    exact ⟨rfl, N69⟩
  · rw [hs1]
    show own_E p e below _ s₁ (mkF m 8 #[iv p1, iv p2, iv p3, iv p4, iv p5, iv p6, iv 4, .unset, .unset, .unset, .unset] [])
    obtain ⟨T86, h86, X86, e86, E86, A86, D86, -, st86⟩ := newO X0 hx hZ hown (own_w hw 0 rfl) (own_w hw 1 rfl) (own_w hw 2 rfl) e0 (g := (mkF m 8 #[iv p1, iv p2, iv p3, iv p4, iv p5, iv p6, iv 4, .unset, .unset, .unset, .unset] [])) rfl (hb hby at_8) (by decide) (by decide)
    obtain ⟨b86, g86⟩ : ∃ z, z = h0.size := ⟨_, rfl⟩
    rw [← g86] at A86 D86 st86
    have g_b86 : n0 ≤ b86 := Nat.le_trans Z0 (Nat.le_of_eq g86.symm)
    have Z87 := Nat.le_trans Z0 E86.1
    have F_documents_b86 : Fld Z h86 b86 "com/example/lean_scorer/leanscorer/Postings" "documents" "[I" .null := D86 (Or.inl (own_w hw 11 rfl)) (ty := (.array .int)) (by decide)
    have F_frequencies_b86 : Fld Z h86 b86 "com/example/lean_scorer/leanscorer/Postings" "frequencies" "[I" .null := D86 (Or.inl (own_w hw 13 rfl)) (ty := (.array .int)) (by decide)
    have F_minLength_b86 : Fld Z h86 b86 "com/example/lean_scorer/leanscorer/Postings" "minLength" "I" (.int (0 : Int32)) := D86 (Or.inl (own_w hw 16 rfl)) (ty := .int) (by decide)
    have F_maxFrequency_b86 : Fld Z h86 b86 "com/example/lean_scorer/leanscorer/Postings" "maxFrequency" "I" (.int (0 : Int32)) := D86 (Or.inl (own_w hw 18 rfl)) (ty := .int) (by decide)
    have F_size_b86 : Fld Z h86 b86 "com/example/lean_scorer/leanscorer/Postings" "size" "I" (.int (0 : Int32)) := D86 (Or.inl (own_w hw 26 rfl)) (ty := .int) (by decide)
    refine own_st st86 ?_
    show own_E p e below _ T86 (mkF m 11 #[iv p1, iv p2, iv p3, iv p4, iv p5, iv p6, iv 4, .unset, .unset, .unset, .unset] [.ref b86])
    refine own_st (fun t k => XS.dup X86.here hx rfl (hb hby at_11) rfl rfl k) ?_
    show own_E p e below _ T86 (mkF m 12 #[iv p1, iv p2, iv p3, iv p4, iv p5, iv p6, iv 4, .unset, .unset, .unset, .unset] [.ref b86, .ref b86])
    obtain ⟨_, _, ⟨T88, L88, k88, n88⟩, -, X88, ⟨Lc88, hQ88, l88, y88, z88⟩, st88⟩ := X86.specialBack hx (y := own_y3) rfl hown (mvT hZ (own_w hw 3 rfl)) (mvT hZ (own_w hw 4 rfl)) (mvT hZ (own_w hw 5 rfl)) (by decide) (backOf (W := 1) (own_init l Z a0 hw [] b86 h86 n0 Z87 A86 F_documents_b86 F_frequencies_b86 F_minLength_b86 F_maxFrequency_b86 F_size_b86 g_b86) hZ (own_w hw 5 rfl) (own_w hw 2 rfl) (by decide) (by decide)) (g := (mkF m 12 #[iv p1, iv p2, iv p3, iv p4, iv p5, iv p6, iv 4, .unset, .unset, .unset, .unset] [.ref b86, .ref b86])) rfl (by rw [hml]; rfl) (Steps.refl _) (a := b86) (argsL := []) (rest := [(.ref b86)]) (lenOf own_pd_1 rfl) rfl (by show 2 * 0 + _ ≤ _; exact Nat.le_of_eq rfl) (hb hby at_12) (fun _ _ => ⟨rfl, e86, (by decide : 1 + 2 ≤ _), (by decide : 5 + 2 ≤ _)⟩)
    dsimp only [Pt.U, Pt.locs, Pt.cells, Pt.slots] at X88 l88 y88 z88 st88 hQ88
    subst l88 y88 z88
    obtain ⟨b88_o0, b88_o1, k88_o2, k88_o3, rfl, Nq88, Kq88, sz88_0, sz88_1, nq88_0_1, P88_0, P88_1, P88_2, P88_3, P88_4, P88_5, P88_6, P88_7, P88_8, P88_9⟩ := hQ88
    have N88 := Fr.app (Fr.nil n0) Nq88
    have ne_b86_b88_o0 : b86 ≠ b88_o0 := Nat.ne_of_lt (Nat.lt_of_lt_of_le A86.lt sz88_0)
    have g_b88_o0 : n0 ≤ b88_o0 := Nat.le_trans Z87 sz88_0
    have ne_b86_b88_o1 : b86 ≠ b88_o1 := Nat.ne_of_lt (Nat.lt_of_lt_of_le A86.lt sz88_1)
    have g_b88_o1 : n0 ≤ b88_o1 := Nat.le_trans Z87 sz88_1
    have e88 : T88.heap = T88.heap := rfl
    have Z89 := Nat.le_trans Z87 Kq88.1
    refine own_tr st88 ?_
    show own_E p e below _ T88 (mkF m 15 #[iv p1, iv p2, iv p3, iv p4, iv p5, iv p6, iv 4, .unset, .unset, .unset, .unset] [.ref b86])
    refine own_st (fun t k => XS.astore X88.here hx rfl (hb hby at_15) rfl rfl (l' := #[iv p1, iv p2, iv p3, iv p4, iv p5, iv p6, iv 4, rv b86, .unset, .unset, .unset]) rfl k) ?_
    show own_E p e below _ T88 (mkF m 17 #[iv p1, iv p2, iv p3, iv p4, iv p5, iv p6, iv 4, rv b86, .unset, .unset, .unset] [])
    refine own_st (fun t k => XS.iload X88.here hx rfl (hb hby at_17) rfl k) ?_
    show own_E p e below _ T88 (mkF m 19 #[iv p1, iv p2, iv p3, iv p4, iv p5, iv p6, iv 4, rv b86, .unset, .unset, .unset] [.int 4])
    refine own_st (fun t k => XS.ifNo X88.here hx rfl (hb hby at_19) rfl (by decide) k) ?_
    show own_E p e below _ T88 (mkF m 22 #[iv p1, iv p2, iv p3, iv p4, iv p5, iv p6, iv 4, rv b86, .unset, .unset, .unset] [])
    refine own_st (fun t k => XS.aload X88.here hx rfl (hb hby at_22) rfl rfl k) ?_
    show own_E p e below _ T88 (mkF m 24 #[iv p1, iv p2, iv p3, iv p4, iv p5, iv p6, iv 4, rv b86, .unset, .unset, .unset] [.ref b86])
    refine own_st (fun t k => XS.iloadN X88.here hx rfl (hb hby at_24) rfl k) ?_
    show own_E p e below _ T88 (mkF m 25 #[iv p1, iv p2, iv p3, iv p4, iv p5, iv p6, iv 4, rv b86, .unset, .unset, .unset] [.int p2, .ref b86])
    refine own_st (fun t k => XS.iloadN X88.here hx rfl (hb hby at_25) rfl k) ?_
    show own_E p e below _ T88 (mkF m 26 #[iv p1, iv p2, iv p3, iv p4, iv p5, iv p6, iv 4, rv b86, .unset, .unset, .unset] [.int p3, .int p2, .ref b86])
    refine own_st (fun t k => XS.iloadN X88.here hx rfl (hb hby at_26) rfl k) ?_
    show own_E p e below _ T88 (mkF m 27 #[iv p1, iv p2, iv p3, iv p4, iv p5, iv p6, iv 4, rv b86, .unset, .unset, .unset] [.int p4, .int p3, .int p2, .ref b86])
    obtain ⟨cq90, kq90, q90a, q90b, q90c⟩ := isOf hZ e88 P88_0
    obtain ⟨_, _, ⟨T90, L90, k90, n90⟩, -, X90, ⟨Lc90, hQ90, l90, y90, z90⟩, st90⟩ := X88.virtualBack hx (y := own_y4) (z := own_y4) hown (mvT hZ (own_w hw 42 rfl)) (mvT hZ (own_w hw 43 rfl)) (notFace_of_selects (args := #[]) (mvT hZ (own_w hw 45 rfl))) (mvT hZ (own_w hw 45 rfl)) (mvT hZ (own_w hw 44 rfl)) (by decide) (backOf (W := 0) (own_add0 l Z a0 hw [] b86 b88_o0 b88_o1 k88_o2 k88_o3 p2 p3 p4 (2147483647 : Int32) (0 : Int32) (0 : Int32) (0 : Int32) T88.heap n0 Z89 P88_0 P88_7 P88_9 P88_1 P88_2 P88_3 P88_4 P88_5 P88_6 P88_8 ne_b86_b88_o0 ne_b86_b88_o1 nq88_0_1 g_b86 g_b88_o0 g_b88_o1) hZ (own_w hw 46 rfl) (own_w hw 2 rfl) (by decide) (by decide)) q90a q90c (g := (mkF m 27 #[iv p1, iv p2, iv p3, iv p4, iv p5, iv p6, iv 4, rv b86, .unset, .unset, .unset] [.int p4, .int p3, .int p2, .ref b86])) rfl (by rw [hml]; rfl) (Steps.refl _) (argsL := [(.int p2), (.int p3), (.int p4)]) (rest := []) (lenOf own_pd_3 rfl) rfl (by show 2 * 0 + _ ≤ _; exact Nat.le_of_eq rfl) (hb hby at_27) (fun _ _ => ⟨rfl, e88, (by decide : 3 + 0 ≤ _), (by decide : 7 + 0 ≤ _)⟩)
    dsimp only [Pt.U, Pt.locs, Pt.cells, Pt.slots] at X90 l90 y90 z90 st90 hQ90
    subst l90 y90 z90
    obtain ⟨rfl, Nq90, Kq90, P90_0, P90_1, P90_2, P90_3, P90_4, P90_5, P90_6, P90_7, P90_8, P90_9⟩ := hQ90
    have N90 := Fr.app N88 Nq90
    have e90 : T90.heap = T90.heap := rfl
    have Z91 := Nat.le_trans Z89 Kq90.1
    refine own_tr st90 ?_
    show own_E p e below _ T90 (mkF m 30 #[iv p1, iv p2, iv p3, iv p4, iv p5, iv p6, iv 4, rv b86, .unset, .unset, .unset] [])
    refine own_st (fun t k => XS.iload X90.here hx rfl (hb hby at_30) rfl k) ?_
    show own_E p e below _ T90 (mkF m 32 #[iv p1, iv p2, iv p3, iv p4, iv p5, iv p6, iv 4, rv b86, .unset, .unset, .unset] [.int 4])
    refine own_st (fun t k => XS.iconst X90.here hx rfl (hb hby at_32) k) ?_
    show own_E p e below _ T90 (mkF m 33 #[iv p1, iv p2, iv p3, iv p4, iv p5, iv p6, iv 4, rv b86, .unset, .unset, .unset] [.int 1, .int 4])
    refine own_st (fun t k => XS.icmpNo X90.here hx rfl (hb hby at_33) rfl (by decide) k) ?_
    show own_E p e below _ T90 (mkF m 36 #[iv p1, iv p2, iv p3, iv p4, iv p5, iv p6, iv 4, rv b86, .unset, .unset, .unset] [])
    refine own_st (fun t k => XS.aload X90.here hx rfl (hb hby at_36) rfl rfl k) ?_
    show own_E p e below _ T90 (mkF m 38 #[iv p1, iv p2, iv p3, iv p4, iv p5, iv p6, iv 4, rv b86, .unset, .unset, .unset] [.ref b86])
    refine own_st (fun t k => XS.iloadN X90.here hx rfl (hb hby at_38) rfl k) ?_
    show own_E p e below _ T90 (mkF m 39 #[iv p1, iv p2, iv p3, iv p4, iv p5, iv p6, iv 4, rv b86, .unset, .unset, .unset] [.int p3, .ref b86])
    refine own_st (fun t k => XS.iloadN X90.here hx rfl (hb hby at_39) rfl k) ?_
    show own_E p e below _ T90 (mkF m 40 #[iv p1, iv p2, iv p3, iv p4, iv p5, iv p6, iv 4, rv b86, .unset, .unset, .unset] [.int p4, .int p3, .ref b86])
    refine own_st (fun t k => XS.iload X90.here hx rfl (hb hby at_40) rfl k) ?_
    show own_E p e below _ T90 (mkF m 42 #[iv p1, iv p2, iv p3, iv p4, iv p5, iv p6, iv 4, rv b86, .unset, .unset, .unset] [.int p5, .int p4, .int p3, .ref b86])
    obtain ⟨cq92, kq92, q92a, q92b, q92c⟩ := isOf hZ e90 P90_0
    obtain ⟨_, _, ⟨T92, L92, k92, n92⟩, -, X92, ⟨Lc92, hQ92, l92, y92, z92⟩, st92⟩ := X90.virtualBack hx (y := own_y4) (z := own_y4) hown (mvT hZ (own_w hw 42 rfl)) (mvT hZ (own_w hw 43 rfl)) (notFace_of_selects (args := #[]) (mvT hZ (own_w hw 45 rfl))) (mvT hZ (own_w hw 45 rfl)) (mvT hZ (own_w hw 44 rfl)) (by decide) (backOf (W := 0) (own_add1 l Z a0 hw [] b86 b88_o0 b88_o1 k88_o2 k88_o3 p3 p4 p5 (own_min (2147483647 : Int32) p4) (own_max (0 : Int32) p3) p2 p3 T90.heap n0 Z91 P90_0 P90_7 P90_9 P90_1 P90_2 P90_3 P90_4 P90_5 P90_6 P90_8 ne_b86_b88_o0 ne_b86_b88_o1 nq88_0_1 g_b86) hZ (own_w hw 46 rfl) (own_w hw 2 rfl) (by decide) (by decide)) q92a q92c (g := (mkF m 42 #[iv p1, iv p2, iv p3, iv p4, iv p5, iv p6, iv 4, rv b86, .unset, .unset, .unset] [.int p5, .int p4, .int p3, .ref b86])) rfl (by rw [hml]; rfl) (Steps.refl _) (argsL := [(.int p3), (.int p4), (.int p5)]) (rest := []) (lenOf own_pd_3 rfl) rfl (by show 2 * 0 + _ ≤ _; exact Nat.le_of_eq rfl) (hb hby at_42) (fun _ _ => ⟨rfl, e90, (by decide : 3 + 2 ≤ _), (by decide : 7 + 4 ≤ _)⟩)
    dsimp only [Pt.U, Pt.locs, Pt.cells, Pt.slots] at X92 l92 y92 z92 st92 hQ92
    subst l92 y92 z92
    obtain ⟨b92_o0, b92_o1, k92_o2, k92_o3, rfl, Nq92, Kq92, sz92_0, sz92_1, nq92_0_1, P92_0, P92_1, P92_2, P92_3, P92_4, P92_5, P92_6, P92_7, P92_8, P92_9⟩ := hQ92
    have N92 := Fr.app N90 Nq92
    have ne_b86_b92_o0 : b86 ≠ b92_o0 := Nat.ne_of_lt (Nat.lt_of_lt_of_le P90_0.lt sz92_0)
    have ne_b88_o0_b92_o0 : b88_o0 ≠ b92_o0 := Nat.ne_of_lt (Nat.lt_of_lt_of_le P90_7.lt sz92_0)
    have ne_b88_o1_b92_o0 : b88_o1 ≠ b92_o0 := Nat.ne_of_lt (Nat.lt_of_lt_of_le P90_9.lt sz92_0)
    have g_b92_o0 : n0 ≤ b92_o0 := Nat.le_trans Z91 sz92_0
    have ne_b86_b92_o1 : b86 ≠ b92_o1 := Nat.ne_of_lt (Nat.lt_of_lt_of_le P90_0.lt sz92_1)
    have ne_b88_o0_b92_o1 : b88_o0 ≠ b92_o1 := Nat.ne_of_lt (Nat.lt_of_lt_of_le P90_7.lt sz92_1)
    have ne_b88_o1_b92_o1 : b88_o1 ≠ b92_o1 := Nat.ne_of_lt (Nat.lt_of_lt_of_le P90_9.lt sz92_1)
    have g_b92_o1 : n0 ≤ b92_o1 := Nat.le_trans Z91 sz92_1
    have e92 : T92.heap = T92.heap := rfl
    have Z93 := Nat.le_trans Z91 Kq92.1
    refine own_tr st92 ?_
    show own_E p e below _ T92 (mkF m 45 #[iv p1, iv p2, iv p3, iv p4, iv p5, iv p6, iv 4, rv b86, .unset, .unset, .unset] [])
    refine own_st (fun t k => XS.iload X92.here hx rfl (hb hby at_45) rfl k) ?_
    show own_E p e below _ T92 (mkF m 47 #[iv p1, iv p2, iv p3, iv p4, iv p5, iv p6, iv 4, rv b86, .unset, .unset, .unset] [.int 4])
    refine own_st (fun t k => XS.iconst X92.here hx rfl (hb hby at_47) k) ?_
    show own_E p e below _ T92 (mkF m 48 #[iv p1, iv p2, iv p3, iv p4, iv p5, iv p6, iv 4, rv b86, .unset, .unset, .unset] [.int 2, .int 4])
    refine own_st (fun t k => XS.icmpNo X92.here hx rfl (hb hby at_48) rfl (by decide) k) ?_
    show own_E p e below _ T92 (mkF m 51 #[iv p1, iv p2, iv p3, iv p4, iv p5, iv p6, iv 4, rv b86, .unset, .unset, .unset] [])
    refine own_st (fun t k => XS.aload X92.here hx rfl (hb hby at_51) rfl rfl k) ?_
    show own_E p e below _ T92 (mkF m 53 #[iv p1, iv p2, iv p3, iv p4, iv p5, iv p6, iv 4, rv b86, .unset, .unset, .unset] [.ref b86])
    refine own_st (fun t k => XS.iloadN X92.here hx rfl (hb hby at_53) rfl k) ?_
    show own_E p e below _ T92 (mkF m 54 #[iv p1, iv p2, iv p3, iv p4, iv p5, iv p6, iv 4, rv b86, .unset, .unset, .unset] [.int p4, .ref b86])
    refine own_st (fun t k => XS.iload X92.here hx rfl (hb hby at_54) rfl k) ?_
    show own_E p e below _ T92 (mkF m 56 #[iv p1, iv p2, iv p3, iv p4, iv p5, iv p6, iv 4, rv b86, .unset, .unset, .unset] [.int p5, .int p4, .ref b86])
    refine own_st (fun t k => XS.iload X92.here hx rfl (hb hby at_56) rfl k) ?_
    show own_E p e below _ T92 (mkF m 58 #[iv p1, iv p2, iv p3, iv p4, iv p5, iv p6, iv 4, rv b86, .unset, .unset, .unset] [.int p6, .int p5, .int p4, .ref b86])
    obtain ⟨cq94, kq94, q94a, q94b, q94c⟩ := isOf hZ e92 P92_0
    obtain ⟨_, _, ⟨T94, L94, k94, n94⟩, -, X94, ⟨Lc94, hQ94, l94, y94, z94⟩, st94⟩ := X92.virtualBack hx (y := own_y4) (z := own_y4) hown (mvT hZ (own_w hw 42 rfl)) (mvT hZ (own_w hw 43 rfl)) (notFace_of_selects (args := #[]) (mvT hZ (own_w hw 45 rfl))) (mvT hZ (own_w hw 45 rfl)) (mvT hZ (own_w hw 44 rfl)) (by decide) (backOf (W := 0) (own_add2 l Z a0 hw [] b86 b92_o0 b92_o1 k92_o2 k92_o3 p4 p5 p6 (own_min (own_min (2147483647 : Int32) p4) p5) (own_max (own_max (0 : Int32) p3) p4) p2 p3 p3 p4 T92.heap n0 Z93 P92_0 P92_7 P92_9 P92_1 P92_2 P92_3 P92_4 P92_5 P92_6 P92_8 ne_b86_b92_o0 ne_b86_b92_o1 nq92_0_1 g_b86) hZ (own_w hw 46 rfl) (own_w hw 2 rfl) (by decide) (by decide)) q94a q94c (g := (mkF m 58 #[iv p1, iv p2, iv p3, iv p4, iv p5, iv p6, iv 4, rv b86, .unset, .unset, .unset] [.int p6, .int p5, .int p4, .ref b86])) rfl (by rw [hml]; rfl) (Steps.refl _) (argsL := [(.int p4), (.int p5), (.int p6)]) (rest := []) (lenOf own_pd_3 rfl) rfl (by show 2 * 0 + _ ≤ _; exact Nat.le_of_eq rfl) (hb hby at_58) (fun _ _ => ⟨rfl, e92, (by decide : 5 + 2 ≤ _), (by decide : 11 + 8 ≤ _)⟩)
    dsimp only [Pt.U, Pt.locs, Pt.cells, Pt.slots] at X94 l94 y94 z94 st94 hQ94
    subst l94 y94 z94
    obtain ⟨b94_o0, b94_o1, k94_o2, k94_o3, rfl, Nq94, Kq94, sz94_0, sz94_1, nq94_0_1, P94_0, P94_1, P94_2, P94_3, P94_4, P94_5, P94_6, P94_7, P94_8, P94_9⟩ := hQ94
    have N94 := Fr.app N92 Nq94
    have ne_b86_b94_o0 : b86 ≠ b94_o0 := Nat.ne_of_lt (Nat.lt_of_lt_of_le P92_0.lt sz94_0)
    have B95 := (P90_7.keep Kq92)
    have ne_b88_o0_b94_o0 : b88_o0 ≠ b94_o0 := Nat.ne_of_lt (Nat.lt_of_lt_of_le B95.lt sz94_0)
    have B96 := (P90_9.keep Kq92)
    have ne_b88_o1_b94_o0 : b88_o1 ≠ b94_o0 := Nat.ne_of_lt (Nat.lt_of_lt_of_le B96.lt sz94_0)
    have ne_b92_o0_b94_o0 : b92_o0 ≠ b94_o0 := Nat.ne_of_lt (Nat.lt_of_lt_of_le P92_6.lt sz94_0)
    have ne_b92_o1_b94_o0 : b92_o1 ≠ b94_o0 := Nat.ne_of_lt (Nat.lt_of_lt_of_le P92_8.lt sz94_0)
    have g_b94_o0 : n0 ≤ b94_o0 := Nat.le_trans Z93 sz94_0
    have ne_b86_b94_o1 : b86 ≠ b94_o1 := Nat.ne_of_lt (Nat.lt_of_lt_of_le P92_0.lt sz94_1)
    have ne_b88_o0_b94_o1 : b88_o0 ≠ b94_o1 := Nat.ne_of_lt (Nat.lt_of_lt_of_le B95.lt sz94_1)
    have ne_b88_o1_b94_o1 : b88_o1 ≠ b94_o1 := Nat.ne_of_lt (Nat.lt_of_lt_of_le B96.lt sz94_1)
    have ne_b92_o0_b94_o1 : b92_o0 ≠ b94_o1 := Nat.ne_of_lt (Nat.lt_of_lt_of_le P92_6.lt sz94_1)
    have ne_b92_o1_b94_o1 : b92_o1 ≠ b94_o1 := Nat.ne_of_lt (Nat.lt_of_lt_of_le P92_8.lt sz94_1)
    have g_b94_o1 : n0 ≤ b94_o1 := Nat.le_trans Z93 sz94_1
    have e94 : T94.heap = T94.heap := rfl
    have Z97 := Nat.le_trans Z93 Kq94.1
    refine own_tr st94 ?_
    show own_E p e below _ T94 (mkF m 61 #[iv p1, iv p2, iv p3, iv p4, iv p5, iv p6, iv 4, rv b86, .unset, .unset, .unset] [])
    refine own_st (fun t k => XS.iload X94.here hx rfl (hb hby at_61) rfl k) ?_
    show own_E p e below _ T94 (mkF m 63 #[iv p1, iv p2, iv p3, iv p4, iv p5, iv p6, iv 4, rv b86, .unset, .unset, .unset] [.int 4])
    refine own_st (fun t k => XS.iconst X94.here hx rfl (hb hby at_63) k) ?_
    show own_E p e below _ T94 (mkF m 64 #[iv p1, iv p2, iv p3, iv p4, iv p5, iv p6, iv 4, rv b86, .unset, .unset, .unset] [.int 3, .int 4])
    refine own_st (fun t k => XS.icmpNo X94.here hx rfl (hb hby at_64) rfl (by decide) k) ?_
    show own_E p e below _ T94 (mkF m 67 #[iv p1, iv p2, iv p3, iv p4, iv p5, iv p6, iv 4, rv b86, .unset, .unset, .unset] [])
    refine own_st (fun t k => XS.aload X94.here hx rfl (hb hby at_67) rfl rfl k) ?_
    show own_E p e below _ T94 (mkF m 69 #[iv p1, iv p2, iv p3, iv p4, iv p5, iv p6, iv 4, rv b86, .unset, .unset, .unset] [.ref b86])
    refine own_st (fun t k => XS.iload X94.here hx rfl (hb hby at_69) rfl k) ?_
    show own_E p e below _ T94 (mkF m 71 #[iv p1, iv p2, iv p3, iv p4, iv p5, iv p6, iv 4, rv b86, .unset, .unset, .unset] [.int p5, .ref b86])
    refine own_st (fun t k => XS.iload X94.here hx rfl (hb hby at_71) rfl k) ?_
    show own_E p e below _ T94 (mkF m 73 #[iv p1, iv p2, iv p3, iv p4, iv p5, iv p6, iv 4, rv b86, .unset, .unset, .unset] [.int p6, .int p5, .ref b86])
    refine own_st (fun t k => XS.iloadN X94.here hx rfl (hb hby at_73) rfl k) ?_
    show own_E p e below _ T94 (mkF m 74 #[iv p1, iv p2, iv p3, iv p4, iv p5, iv p6, iv 4, rv b86, .unset, .unset, .unset] [.int p2, .int p6, .int p5, .ref b86])
    obtain ⟨cq98, kq98, q98a, q98b, q98c⟩ := isOf hZ e94 P94_0
    obtain ⟨_, _, ⟨T98, L98, k98, n98⟩, -, X98, ⟨Lc98, hQ98, l98, y98, z98⟩, st98⟩ := X94.virtualBack hx (y := own_y4) (z := own_y4) hown (mvT hZ (own_w hw 42 rfl)) (mvT hZ (own_w hw 43 rfl)) (notFace_of_selects (args := #[]) (mvT hZ (own_w hw 45 rfl))) (mvT hZ (own_w hw 45 rfl)) (mvT hZ (own_w hw 44 rfl)) (by decide) (backOf (W := 0) (own_add3 l Z a0 hw [] b86 b94_o0 b94_o1 k94_o2 k94_o3 p5 p6 p2 (own_min (own_min (own_min (2147483647 : Int32) p4) p5) p6) (own_max (own_max (own_max (0 : Int32) p3) p4) p5) p2 p3 p4 (0 : Int32) p3 p4 p5 (0 : Int32) T94.heap n0 Z97 P94_0 P94_7 P94_9 P94_1 P94_2 P94_3 P94_4 P94_5 P94_6 P94_8 ne_b86_b94_o0 ne_b86_b94_o1 nq94_0_1 g_b86 g_b94_o0 g_b94_o1) hZ (own_w hw 46 rfl) (own_w hw 2 rfl) (by decide) (by decide)) q98a q98c (g := (mkF m 74 #[iv p1, iv p2, iv p3, iv p4, iv p5, iv p6, iv 4, rv b86, .unset, .unset, .unset] [.int p2, .int p6, .int p5, .ref b86])) rfl (by rw [hml]; rfl) (Steps.refl _) (argsL := [(.int p5), (.int p6), (.int p2)]) (rest := []) (lenOf own_pd_3 rfl) rfl (by show 2 * 0 + _ ≤ _; exact Nat.le_of_eq rfl) (hb hby at_74) (fun _ _ => ⟨rfl, e94, (by decide : 7 + 0 ≤ _), (by decide : 19 + 0 ≤ _)⟩)
    dsimp only [Pt.U, Pt.locs, Pt.cells, Pt.slots] at X98 l98 y98 z98 st98 hQ98
    subst l98 y98 z98
    obtain ⟨rfl, Nq98, Kq98, P98_0, P98_1, P98_2, P98_3, P98_4, P98_5, P98_6, P98_7, P98_8, P98_9⟩ := hQ98
    have N98 := Fr.app N94 Nq98
    have e98 : T98.heap = T98.heap := rfl
    have Z99 := Nat.le_trans Z97 Kq98.1
    refine own_tr st98 ?_
    show own_E p e below _ T98 (mkF m 77 #[iv p1, iv p2, iv p3, iv p4, iv p5, iv p6, iv 4, rv b86, .unset, .unset, .unset] [])
    refine own_st (fun t k => XS.aload X98.here hx rfl (hb hby at_77) rfl rfl k) ?_
    show own_E p e below _ T98 (mkF m 79 #[iv p1, iv p2, iv p3, iv p4, iv p5, iv p6, iv 4, rv b86, .unset, .unset, .unset] [.ref b86])
    obtain ⟨T100, X100, e100, st100⟩ := getF X98 hx hZ hown (host := "") (Or.inl (own_w hw 17 rfl)) Via.refl e98 P98_4 (g := (mkF m 79 #[iv p1, iv p2, iv p3, iv p4, iv p5, iv p6, iv 4, rv b86, .unset, .unset, .unset] [.ref b86])) rfl rfl (hb hby at_79)
    refine own_st st100 ?_
    show own_E p e below _ T100 (mkF m 82 #[iv p1, iv p2, iv p3, iv p4, iv p5, iv p6, iv 4, rv b86, .unset, .unset, .unset] [.int (own_max (own_max (own_max (own_max (0 : Int32) p3) p4) p5) p6)])
    refine own_st (fun t k => XS.istore X100.here hx rfl (hb hby at_82) rfl (l' := #[iv p1, iv p2, iv p3, iv p4, iv p5, iv p6, iv 4, rv b86, iv (own_max (own_max (own_max (own_max (0 : Int32) p3) p4) p5) p6), .unset, .unset]) rfl k) ?_
    show own_E p e below _ T100 (mkF m 84 #[iv p1, iv p2, iv p3, iv p4, iv p5, iv p6, iv 4, rv b86, iv (own_max (own_max (own_max (own_max (0 : Int32) p3) p4) p5) p6), .unset, .unset] [])
    refine own_st (fun t k => XS.aload X100.here hx rfl (hb hby at_84) rfl rfl k) ?_
    show own_E p e below _ T100 (mkF m 86 #[iv p1, iv p2, iv p3, iv p4, iv p5, iv p6, iv 4, rv b86, iv (own_max (own_max (own_max (own_max (0 : Int32) p3) p4) p5) p6), .unset, .unset] [.ref b86])
    obtain ⟨T101, X101, e101, st101⟩ := getF X100 hx hZ hown (host := "") (Or.inl (own_w hw 19 rfl)) Via.refl e100 P98_3 (g := (mkF m 86 #[iv p1, iv p2, iv p3, iv p4, iv p5, iv p6, iv 4, rv b86, iv (own_max (own_max (own_max (own_max (0 : Int32) p3) p4) p5) p6), .unset, .unset] [.ref b86])) rfl rfl (hb hby at_86)
    refine own_st st101 ?_
    show own_E p e below _ T101 (mkF m 89 #[iv p1, iv p2, iv p3, iv p4, iv p5, iv p6, iv 4, rv b86, iv (own_max (own_max (own_max (own_max (0 : Int32) p3) p4) p5) p6), .unset, .unset] [.int (own_min (own_min (own_min (own_min (2147483647 : Int32) p4) p5) p6) p2)])
    refine own_st (fun t k => XS.istore X101.here hx rfl (hb hby at_89) rfl (l' := #[iv p1, iv p2, iv p3, iv p4, iv p5, iv p6, iv 4, rv b86, iv (own_max (own_max (own_max (own_max (0 : Int32) p3) p4) p5) p6), iv (own_min (own_min (own_min (own_min (2147483647 : Int32) p4) p5) p6) p2), .unset]) rfl k) ?_
    show own_E p e below _ T101 (mkF m 91 #[iv p1, iv p2, iv p3, iv p4, iv p5, iv p6, iv 4, rv b86, iv (own_max (own_max (own_max (own_max (0 : Int32) p3) p4) p5) p6), iv (own_min (own_min (own_min (own_min (2147483647 : Int32) p4) p5) p6) p2), .unset] [])
    refine own_st (fun t k => XS.aload X101.here hx rfl (hb hby at_91) rfl rfl k) ?_
    show own_E p e below _ T101 (mkF m 93 #[iv p1, iv p2, iv p3, iv p4, iv p5, iv p6, iv 4, rv b86, iv (own_max (own_max (own_max (own_max (0 : Int32) p3) p4) p5) p6), iv (own_min (own_min (own_min (own_min (2147483647 : Int32) p4) p5) p6) p2), .unset] [.ref b86])
    obtain ⟨cq102, kq102, q102a, q102b, q102c⟩ := isOf hZ e101 P98_0
    obtain ⟨_, _, ⟨T102, L102, k102, n102⟩, -, X102, ⟨Lc102, hQ102, l102, y102, z102⟩, st102⟩ := X101.virtualBack hx (y := own_y5) (z := own_y5) hown (mvT hZ (own_w hw 20 rfl)) (mvT hZ (own_w hw 21 rfl)) (notFace_of_selects (args := #[]) (mvT hZ (own_w hw 23 rfl))) (mvT hZ (own_w hw 23 rfl)) (mvT hZ (own_w hw 22 rfl)) (by decide) (backOf (W := 0) (own_trim4 l Z a0 hw [] b86 b94_o0 b94_o1 k94_o2 k94_o3 (own_min (own_min (own_min (own_min (2147483647 : Int32) p4) p5) p6) p2) (own_max (own_max (own_max (own_max (0 : Int32) p3) p4) p5) p6) p2 p3 p4 p5 p3 p4 p5 p6 T98.heap n0 Z99 P98_0 P98_7 P98_9 P98_1 P98_2 P98_3 P98_4 P98_5 P98_6 P98_8 ne_b86_b94_o0 ne_b86_b94_o1 nq94_0_1 g_b86) hZ (own_w hw 24 rfl) (own_w hw 2 rfl) (by decide) (by decide)) q102a q102c (g := (mkF m 93 #[iv p1, iv p2, iv p3, iv p4, iv p5, iv p6, iv 4, rv b86, iv (own_max (own_max (own_max (own_max (0 : Int32) p3) p4) p5) p6), iv (own_min (own_min (own_min (own_min (2147483647 : Int32) p4) p5) p6) p2), .unset] [.ref b86])) rfl (by rw [hml]; rfl) (Steps.refl _) (argsL := []) (rest := []) (lenOf own_pd_1 rfl) rfl (by show 2 * 0 + _ ≤ _; exact Nat.le_of_eq rfl) (hb hby at_93) (fun _ _ => ⟨rfl, e101, (by decide : 7 + 2 ≤ _), (by decide : 19 + 8 ≤ _)⟩)
    dsimp only [Pt.U, Pt.locs, Pt.cells, Pt.slots] at X102 l102 y102 z102 st102 hQ102
    subst l102 y102 z102
    obtain ⟨b102_o0, b102_o1, rfl, Nq102, Kq102, sz102_0, sz102_1, nq102_0_1, P102_0, P102_1, P102_2, P102_3, P102_4, P102_5, P102_6, P102_7, P102_8, P102_9⟩ := hQ102
    have N102 := Fr.app N98 Nq102
    have ne_b86_b102_o0 : b86 ≠ b102_o0 := Nat.ne_of_lt (Nat.lt_of_lt_of_le P98_0.lt sz102_0)
    have B103 := ((B95.keep Kq94).keep Kq98)
    have ne_b88_o0_b102_o0 : b88_o0 ≠ b102_o0 := Nat.ne_of_lt (Nat.lt_of_lt_of_le B103.lt sz102_0)
    have B104 := ((B96.keep Kq94).keep Kq98)
    have ne_b88_o1_b102_o0 : b88_o1 ≠ b102_o0 := Nat.ne_of_lt (Nat.lt_of_lt_of_le B104.lt sz102_0)
    have B105 := ((P92_6.keep Kq94 (ninS (Ne.symm ne_b86_b92_o0) nin0)).keep Kq98 (ninS (Ne.symm ne_b86_b92_o0) (ninS ne_b92_o0_b94_o0 (ninS ne_b92_o0_b94_o1 nin0))))
    have ne_b92_o0_b102_o0 : b92_o0 ≠ b102_o0 := Nat.ne_of_lt (Nat.lt_of_lt_of_le B105.lt sz102_0)
    have B106 := ((P92_8.keep Kq94 (ninS (Ne.symm ne_b86_b92_o1) nin0)).keep Kq98 (ninS (Ne.symm ne_b86_b92_o1) (ninS ne_b92_o1_b94_o0 (ninS ne_b92_o1_b94_o1 nin0))))
    have ne_b92_o1_b102_o0 : b92_o1 ≠ b102_o0 := Nat.ne_of_lt (Nat.lt_of_lt_of_le B106.lt sz102_0)
    have ne_b94_o0_b102_o0 : b94_o0 ≠ b102_o0 := Nat.ne_of_lt (Nat.lt_of_lt_of_le P98_7.lt sz102_0)
    have ne_b94_o1_b102_o0 : b94_o1 ≠ b102_o0 := Nat.ne_of_lt (Nat.lt_of_lt_of_le P98_9.lt sz102_0)
    have g_b102_o0 : n0 ≤ b102_o0 := Nat.le_trans Z99 sz102_0
    have ne_b86_b102_o1 : b86 ≠ b102_o1 := Nat.ne_of_lt (Nat.lt_of_lt_of_le P98_0.lt sz102_1)
    have ne_b88_o0_b102_o1 : b88_o0 ≠ b102_o1 := Nat.ne_of_lt (Nat.lt_of_lt_of_le B103.lt sz102_1)
    have ne_b88_o1_b102_o1 : b88_o1 ≠ b102_o1 := Nat.ne_of_lt (Nat.lt_of_lt_of_le B104.lt sz102_1)
    have ne_b92_o0_b102_o1 : b92_o0 ≠ b102_o1 := Nat.ne_of_lt (Nat.lt_of_lt_of_le B105.lt sz102_1)
    have ne_b92_o1_b102_o1 : b92_o1 ≠ b102_o1 := Nat.ne_of_lt (Nat.lt_of_lt_of_le B106.lt sz102_1)
    have ne_b94_o0_b102_o1 : b94_o0 ≠ b102_o1 := Nat.ne_of_lt (Nat.lt_of_lt_of_le P98_7.lt sz102_1)
    have ne_b94_o1_b102_o1 : b94_o1 ≠ b102_o1 := Nat.ne_of_lt (Nat.lt_of_lt_of_le P98_9.lt sz102_1)
    have g_b102_o1 : n0 ≤ b102_o1 := Nat.le_trans Z99 sz102_1
    have e102 : T102.heap = T102.heap := rfl
    have Z107 := Nat.le_trans Z99 Kq102.1
    refine own_tr st102 ?_
    show own_E p e below _ T102 (mkF m 96 #[iv p1, iv p2, iv p3, iv p4, iv p5, iv p6, iv 4, rv b86, iv (own_max (own_max (own_max (own_max (0 : Int32) p3) p4) p5) p6), iv (own_min (own_min (own_min (own_min (2147483647 : Int32) p4) p5) p6) p2), .unset] [])
    refine own_st (fun t k => XS.aload X102.here hx rfl (hb hby at_96) rfl rfl k) ?_
    show own_E p e below _ T102 (mkF m 98 #[iv p1, iv p2, iv p3, iv p4, iv p5, iv p6, iv 4, rv b86, iv (own_max (own_max (own_max (own_max (0 : Int32) p3) p4) p5) p6), iv (own_min (own_min (own_min (own_min (2147483647 : Int32) p4) p5) p6) p2), .unset] [.ref b86])
    obtain ⟨T108, X108, e108, st108⟩ := getF X102 hx hZ hown (host := "") (Or.inl (own_w hw 39 rfl)) Via.refl e102 P102_5 (g := (mkF m 98 #[iv p1, iv p2, iv p3, iv p4, iv p5, iv p6, iv 4, rv b86, iv (own_max (own_max (own_max (own_max (0 : Int32) p3) p4) p5) p6), iv (own_min (own_min (own_min (own_min (2147483647 : Int32) p4) p5) p6) p2), .unset] [.ref b86])) rfl rfl (hb hby at_98)
    refine own_st st108 ?_
    show own_E p e below _ T108 (mkF m 101 #[iv p1, iv p2, iv p3, iv p4, iv p5, iv p6, iv 4, rv b86, iv (own_max (own_max (own_max (own_max (0 : Int32) p3) p4) p5) p6), iv (own_min (own_min (own_min (own_min (2147483647 : Int32) p4) p5) p6) p2), .unset] [.int 4])
    refine own_st (fun t k => XS.iload X108.here hx rfl (hb hby at_101) rfl k) ?_
    show own_E p e below _ T108 (mkF m 103 #[iv p1, iv p2, iv p3, iv p4, iv p5, iv p6, iv 4, rv b86, iv (own_max (own_max (own_max (own_max (0 : Int32) p3) p4) p5) p6), iv (own_min (own_min (own_min (own_min (2147483647 : Int32) p4) p5) p6) p2), .unset] [.int 4, .int 4])
    refine own_st (fun t k => XS.icmpNo X108.here hx rfl (hb hby at_103) rfl (by decide) k) ?_
    show own_E p e below _ T108 (mkF m 106 #[iv p1, iv p2, iv p3, iv p4, iv p5, iv p6, iv 4, rv b86, iv (own_max (own_max (own_max (own_max (0 : Int32) p3) p4) p5) p6), iv (own_min (own_min (own_min (own_min (2147483647 : Int32) p4) p5) p6) p2), .unset] [])
    refine own_st (fun t k => XS.aload X108.here hx rfl (hb hby at_106) rfl rfl k) ?_
    show own_E p e below _ T108 (mkF m 108 #[iv p1, iv p2, iv p3, iv p4, iv p5, iv p6, iv 4, rv b86, iv (own_max (own_max (own_max (own_max (0 : Int32) p3) p4) p5) p6), iv (own_min (own_min (own_min (own_min (2147483647 : Int32) p4) p5) p6) p2), .unset] [.ref b86])
    obtain ⟨T109, X109, e109, st109⟩ := getF X108 hx hZ hown (host := "") (Or.inl (own_w hw 40 rfl)) Via.refl e108 P102_1 (g := (mkF m 108 #[iv p1, iv p2, iv p3, iv p4, iv p5, iv p6, iv 4, rv b86, iv (own_max (own_max (own_max (own_max (0 : Int32) p3) p4) p5) p6), iv (own_min (own_min (own_min (own_min (2147483647 : Int32) p4) p5) p6) p2), .unset] [.ref b86])) rfl rfl (hb hby at_108)
    refine own_st st109 ?_
    show own_E p e below _ T109 (mkF m 111 #[iv p1, iv p2, iv p3, iv p4, iv p5, iv p6, iv 4, rv b86, iv (own_max (own_max (own_max (own_max (0 : Int32) p3) p4) p5) p6), iv (own_min (own_min (own_min (own_min (2147483647 : Int32) p4) p5) p6) p2), .unset] [.ref b102_o0])
    refine own_st (own_alen X109 hx hZ e109 P102_6 (g := (mkF m 111 #[iv p1, iv p2, iv p3, iv p4, iv p5, iv p6, iv 4, rv b86, iv (own_max (own_max (own_max (own_max (0 : Int32) p3) p4) p5) p6), iv (own_min (own_min (own_min (own_min (2147483647 : Int32) p4) p5) p6) p2), .unset] [.ref b102_o0])) rfl rfl (hb hby at_111)) ?_
    show own_E p e below _ T109 (mkF m 112 #[iv p1, iv p2, iv p3, iv p4, iv p5, iv p6, iv 4, rv b86, iv (own_max (own_max (own_max (own_max (0 : Int32) p3) p4) p5) p6), iv (own_min (own_min (own_min (own_min (2147483647 : Int32) p4) p5) p6) p2), .unset] [.int 4])
    refine own_st (fun t k => XS.iload X109.here hx rfl (hb hby at_112) rfl k) ?_
    show own_E p e below _ T109 (mkF m 114 #[iv p1, iv p2, iv p3, iv p4, iv p5, iv p6, iv 4, rv b86, iv (own_max (own_max (own_max (own_max (0 : Int32) p3) p4) p5) p6), iv (own_min (own_min (own_min (own_min (2147483647 : Int32) p4) p5) p6) p2), .unset] [.int 4, .int 4])
    refine own_st (fun t k => XS.icmpNo X109.here hx rfl (hb hby at_114) rfl (by decide) k) ?_
    show own_E p e below _ T109 (mkF m 117 #[iv p1, iv p2, iv p3, iv p4, iv p5, iv p6, iv 4, rv b86, iv (own_max (own_max (own_max (own_max (0 : Int32) p3) p4) p5) p6), iv (own_min (own_min (own_min (own_min (2147483647 : Int32) p4) p5) p6) p2), .unset] [])
    refine own_st (fun t k => XS.aload X109.here hx rfl (hb hby at_117) rfl rfl k) ?_
    show own_E p e below _ T109 (mkF m 119 #[iv p1, iv p2, iv p3, iv p4, iv p5, iv p6, iv 4, rv b86, iv (own_max (own_max (own_max (own_max (0 : Int32) p3) p4) p5) p6), iv (own_min (own_min (own_min (own_min (2147483647 : Int32) p4) p5) p6) p2), .unset] [.ref b86])
    obtain ⟨T110, X110, e110, st110⟩ := getF X109 hx hZ hown (host := "") (Or.inl (own_w hw 41 rfl)) Via.refl e109 P102_2 (g := (mkF m 119 #[iv p1, iv p2, iv p3, iv p4, iv p5, iv p6, iv 4, rv b86, iv (own_max (own_max (own_max (own_max (0 : Int32) p3) p4) p5) p6), iv (own_min (own_min (own_min (own_min (2147483647 : Int32) p4) p5) p6) p2), .unset] [.ref b86])) rfl rfl (hb hby at_119)
    refine own_st st110 ?_
    show own_E p e below _ T110 (mkF m 122 #[iv p1, iv p2, iv p3, iv p4, iv p5, iv p6, iv 4, rv b86, iv (own_max (own_max (own_max (own_max (0 : Int32) p3) p4) p5) p6), iv (own_min (own_min (own_min (own_min (2147483647 : Int32) p4) p5) p6) p2), .unset] [.ref b102_o1])
    refine own_st (own_alen X110 hx hZ e110 P102_8 (g := (mkF m 122 #[iv p1, iv p2, iv p3, iv p4, iv p5, iv p6, iv 4, rv b86, iv (own_max (own_max (own_max (own_max (0 : Int32) p3) p4) p5) p6), iv (own_min (own_min (own_min (own_min (2147483647 : Int32) p4) p5) p6) p2), .unset] [.ref b102_o1])) rfl rfl (hb hby at_122)) ?_
    show own_E p e below _ T110 (mkF m 123 #[iv p1, iv p2, iv p3, iv p4, iv p5, iv p6, iv 4, rv b86, iv (own_max (own_max (own_max (own_max (0 : Int32) p3) p4) p5) p6), iv (own_min (own_min (own_min (own_min (2147483647 : Int32) p4) p5) p6) p2), .unset] [.int 4])
    refine own_st (fun t k => XS.iload X110.here hx rfl (hb hby at_123) rfl k) ?_
    show own_E p e below _ T110 (mkF m 125 #[iv p1, iv p2, iv p3, iv p4, iv p5, iv p6, iv 4, rv b86, iv (own_max (own_max (own_max (own_max (0 : Int32) p3) p4) p5) p6), iv (own_min (own_min (own_min (own_min (2147483647 : Int32) p4) p5) p6) p2), .unset] [.int 4, .int 4])
    refine own_st (fun t k => XS.icmpNo X110.here hx rfl (hb hby at_125) rfl (by decide) k) ?_
    show own_E p e below _ T110 (mkF m 128 #[iv p1, iv p2, iv p3, iv p4, iv p5, iv p6, iv 4, rv b86, iv (own_max (own_max (own_max (own_max (0 : Int32) p3) p4) p5) p6), iv (own_min (own_min (own_min (own_min (2147483647 : Int32) p4) p5) p6) p2), .unset] [])
    refine own_st (fun t k => XS.aload X110.here hx rfl (hb hby at_128) rfl rfl k) ?_
    show own_E p e below _ T110 (mkF m 130 #[iv p1, iv p2, iv p3, iv p4, iv p5, iv p6, iv 4, rv b86, iv (own_max (own_max (own_max (own_max (0 : Int32) p3) p4) p5) p6), iv (own_min (own_min (own_min (own_min (2147483647 : Int32) p4) p5) p6) p2), .unset] [.ref b86])
    obtain ⟨T111, X111, e111, st111⟩ := getF X110 hx hZ hown (host := "") (Or.inl (own_w hw 17 rfl)) Via.refl e110 P102_4 (g := (mkF m 130 #[iv p1, iv p2, iv p3, iv p4, iv p5, iv p6, iv 4, rv b86, iv (own_max (own_max (own_max (own_max (0 : Int32) p3) p4) p5) p6), iv (own_min (own_min (own_min (own_min (2147483647 : Int32) p4) p5) p6) p2), .unset] [.ref b86])) rfl rfl (hb hby at_130)
    refine own_st st111 ?_
    show own_E p e below _ T111 (mkF m 133 #[iv p1, iv p2, iv p3, iv p4, iv p5, iv p6, iv 4, rv b86, iv (own_max (own_max (own_max (own_max (0 : Int32) p3) p4) p5) p6), iv (own_min (own_min (own_min (own_min (2147483647 : Int32) p4) p5) p6) p2), .unset] [.int (own_max (own_max (own_max (own_max (0 : Int32) p3) p4) p5) p6)])
    refine own_st (fun t k => XS.iload X111.here hx rfl (hb hby at_133) rfl k) ?_
    show own_E p e below _ T111 (mkF m 135 #[iv p1, iv p2, iv p3, iv p4, iv p5, iv p6, iv 4, rv b86, iv (own_max (own_max (own_max (own_max (0 : Int32) p3) p4) p5) p6), iv (own_min (own_min (own_min (own_min (2147483647 : Int32) p4) p5) p6) p2), .unset] [.int (own_max (own_max (own_max (own_max (0 : Int32) p3) p4) p5) p6), .int (own_max (own_max (own_max (own_max (0 : Int32) p3) p4) p5) p6)])
    refine own_st (fun t k => XS.icmpNo X111.here hx rfl (hb hby at_135) rfl (teq rfl).2 k) ?_
    show own_E p e below _ T111 (mkF m 138 #[iv p1, iv p2, iv p3, iv p4, iv p5, iv p6, iv 4, rv b86, iv (own_max (own_max (own_max (own_max (0 : Int32) p3) p4) p5) p6), iv (own_min (own_min (own_min (own_min (2147483647 : Int32) p4) p5) p6) p2), .unset] [])
    refine own_st (fun t k => XS.aload X111.here hx rfl (hb hby at_138) rfl rfl k) ?_
    show own_E p e below _ T111 (mkF m 140 #[iv p1, iv p2, iv p3, iv p4, iv p5, iv p6, iv 4, rv b86, iv (own_max (own_max (own_max (own_max (0 : Int32) p3) p4) p5) p6), iv (own_min (own_min (own_min (own_min (2147483647 : Int32) p4) p5) p6) p2), .unset] [.ref b86])
    obtain ⟨T112, X112, e112, st112⟩ := getF X111 hx hZ hown (host := "") (Or.inl (own_w hw 19 rfl)) Via.refl e111 P102_3 (g := (mkF m 140 #[iv p1, iv p2, iv p3, iv p4, iv p5, iv p6, iv 4, rv b86, iv (own_max (own_max (own_max (own_max (0 : Int32) p3) p4) p5) p6), iv (own_min (own_min (own_min (own_min (2147483647 : Int32) p4) p5) p6) p2), .unset] [.ref b86])) rfl rfl (hb hby at_140)
    refine own_st st112 ?_
    show own_E p e below _ T112 (mkF m 143 #[iv p1, iv p2, iv p3, iv p4, iv p5, iv p6, iv 4, rv b86, iv (own_max (own_max (own_max (own_max (0 : Int32) p3) p4) p5) p6), iv (own_min (own_min (own_min (own_min (2147483647 : Int32) p4) p5) p6) p2), .unset] [.int (own_min (own_min (own_min (own_min (2147483647 : Int32) p4) p5) p6) p2)])
    refine own_st (fun t k => XS.iload X112.here hx rfl (hb hby at_143) rfl k) ?_
    show own_E p e below _ T112 (mkF m 145 #[iv p1, iv p2, iv p3, iv p4, iv p5, iv p6, iv 4, rv b86, iv (own_max (own_max (own_max (own_max (0 : Int32) p3) p4) p5) p6), iv (own_min (own_min (own_min (own_min (2147483647 : Int32) p4) p5) p6) p2), .unset] [.int (own_min (own_min (own_min (own_min (2147483647 : Int32) p4) p5) p6) p2), .int (own_min (own_min (own_min (own_min (2147483647 : Int32) p4) p5) p6) p2)])
    refine own_st (fun t k => XS.icmpNo X112.here hx rfl (hb hby at_145) rfl (teq rfl).2 k) ?_
    show own_E p e below _ T112 (mkF m 148 #[iv p1, iv p2, iv p3, iv p4, iv p5, iv p6, iv 4, rv b86, iv (own_max (own_max (own_max (own_max (0 : Int32) p3) p4) p5) p6), iv (own_min (own_min (own_min (own_min (2147483647 : Int32) p4) p5) p6) p2), .unset] [])
    refine own_st (fun t k => XS.iconst X112.here hx rfl (hb hby at_148) k) ?_
    show own_E p e below _ T112 (mkF m 149 #[iv p1, iv p2, iv p3, iv p4, iv p5, iv p6, iv 4, rv b86, iv (own_max (own_max (own_max (own_max (0 : Int32) p3) p4) p5) p6), iv (own_min (own_min (own_min (own_min (2147483647 : Int32) p4) p5) p6) p2), .unset] [.int 1])
    refine own_st (fun t k => XS.goto X112.here hx rfl (pc0 := 149) (pc' := 153) rfl (hb hby at_149) (by decide) (by decide) k) ?_
    show own_E p e below _ T112 (mkF m 153 #[iv p1, iv p2, iv p3, iv p4, iv p5, iv p6, iv 4, rv b86, iv (own_max (own_max (own_max (own_max (0 : Int32) p3) p4) p5) p6), iv (own_min (own_min (own_min (own_min (2147483647 : Int32) p4) p5) p6) p2), .unset] [.int 1])
    refine own_st (fun t k => XS.istore X112.here hx rfl (hb hby at_153) rfl (l' := #[iv p1, iv p2, iv p3, iv p4, iv p5, iv p6, iv 4, rv b86, iv (own_max (own_max (own_max (own_max (0 : Int32) p3) p4) p5) p6), iv (own_min (own_min (own_min (own_min (2147483647 : Int32) p4) p5) p6) p2), iv 1]) rfl k) ?_
    show own_E p e below _ T112 (mkF m 155 #[iv p1, iv p2, iv p3, iv p4, iv p5, iv p6, iv 4, rv b86, iv (own_max (own_max (own_max (own_max (0 : Int32) p3) p4) p5) p6), iv (own_min (own_min (own_min (own_min (2147483647 : Int32) p4) p5) p6) p2), iv 1] [])
    refine own_st (fun t k => XS.iload X112.here hx rfl (hb hby at_155) rfl k) ?_
    show own_E p e below _ T112 (mkF m 157 #[iv p1, iv p2, iv p3, iv p4, iv p5, iv p6, iv 4, rv b86, iv (own_max (own_max (own_max (own_max (0 : Int32) p3) p4) p5) p6), iv (own_min (own_min (own_min (own_min (2147483647 : Int32) p4) p5) p6) p2), iv 1] [.int 4])
    refine own_st (fun t k => XS.ifNo X112.here hx rfl (hb hby at_157) rfl (by decide) k) ?_
    show own_E p e below _ T112 (mkF m 160 #[iv p1, iv p2, iv p3, iv p4, iv p5, iv p6, iv 4, rv b86, iv (own_max (own_max (own_max (own_max (0 : Int32) p3) p4) p5) p6), iv (own_min (own_min (own_min (own_min (2147483647 : Int32) p4) p5) p6) p2), iv 1] [])
    refine own_st (fun t k => XS.iload X112.here hx rfl (hb hby at_160) rfl k) ?_
    show own_E p e below _ T112 (mkF m 162 #[iv p1, iv p2, iv p3, iv p4, iv p5, iv p6, iv 4, rv b86, iv (own_max (own_max (own_max (own_max (0 : Int32) p3) p4) p5) p6), iv (own_min (own_min (own_min (own_min (2147483647 : Int32) p4) p5) p6) p2), iv 1] [.int 1])
    refine own_st (fun t k => XS.ifNo X112.here hx rfl (hb hby at_162) rfl (by decide) k) ?_
    show own_E p e below _ T112 (mkF m 165 #[iv p1, iv p2, iv p3, iv p4, iv p5, iv p6, iv 4, rv b86, iv (own_max (own_max (own_max (own_max (0 : Int32) p3) p4) p5) p6), iv (own_min (own_min (own_min (own_min (2147483647 : Int32) p4) p5) p6) p2), iv 1] [])
    refine own_st (fun t k => XS.aload X112.here hx rfl (hb hby at_165) rfl rfl k) ?_
    show own_E p e below _ T112 (mkF m 167 #[iv p1, iv p2, iv p3, iv p4, iv p5, iv p6, iv 4, rv b86, iv (own_max (own_max (own_max (own_max (0 : Int32) p3) p4) p5) p6), iv (own_min (own_min (own_min (own_min (2147483647 : Int32) p4) p5) p6) p2), iv 1] [.ref b86])
    obtain ⟨T113, X113, e113, st113⟩ := getF X112 hx hZ hown (host := "") (Or.inl (own_w hw 40 rfl)) Via.refl e112 P102_1 (g := (mkF m 167 #[iv p1, iv p2, iv p3, iv p4, iv p5, iv p6, iv 4, rv b86, iv (own_max (own_max (own_max (own_max (0 : Int32) p3) p4) p5) p6), iv (own_min (own_min (own_min (own_min (2147483647 : Int32) p4) p5) p6) p2), iv 1] [.ref b86])) rfl rfl (hb hby at_167)
    refine own_st st113 ?_
    show own_E p e below _ T113 (mkF m 170 #[iv p1, iv p2, iv p3, iv p4, iv p5, iv p6, iv 4, rv b86, iv (own_max (own_max (own_max (own_max (0 : Int32) p3) p4) p5) p6), iv (own_min (own_min (own_min (own_min (2147483647 : Int32) p4) p5) p6) p2), iv 1] [.ref b102_o0])
    refine own_st (fun t k => XS.iconst X113.here hx rfl (hb hby at_170) k) ?_
    show own_E p e below _ T113 (mkF m 171 #[iv p1, iv p2, iv p3, iv p4, iv p5, iv p6, iv 4, rv b86, iv (own_max (own_max (own_max (own_max (0 : Int32) p3) p4) p5) p6), iv (own_min (own_min (own_min (own_min (2147483647 : Int32) p4) p5) p6) p2), iv 1] [.int 0, .ref b102_o0])
    refine own_st (own_ald X113 hx hZ e113 P102_6 (j := (0 : Int32)) ⟨by decide, by decide⟩ (v := (.int p2)) rfl (g := (mkF m 171 #[iv p1, iv p2, iv p3, iv p4, iv p5, iv p6, iv 4, rv b86, iv (own_max (own_max (own_max (own_max (0 : Int32) p3) p4) p5) p6), iv (own_min (own_min (own_min (own_min (2147483647 : Int32) p4) p5) p6) p2), iv 1] [.int 0, .ref b102_o0])) rfl rfl (hb hby at_171)) ?_
    show own_E p e below _ T113 (mkF m 172 #[iv p1, iv p2, iv p3, iv p4, iv p5, iv p6, iv 4, rv b86, iv (own_max (own_max (own_max (own_max (0 : Int32) p3) p4) p5) p6), iv (own_min (own_min (own_min (own_min (2147483647 : Int32) p4) p5) p6) p2), iv 1] [.int p2])
    refine own_st (fun t k => XS.iloadN X113.here hx rfl (hb hby at_172) rfl k) ?_
    show own_E p e below _ T113 (mkF m 173 #[iv p1, iv p2, iv p3, iv p4, iv p5, iv p6, iv 4, rv b86, iv (own_max (own_max (own_max (own_max (0 : Int32) p3) p4) p5) p6), iv (own_min (own_min (own_min (own_min (2147483647 : Int32) p4) p5) p6) p2), iv 1] [.int p2, .int p2])
    refine own_st (fun t k => XS.icmpNo X113.here hx rfl (hb hby at_173) rfl (teq rfl).2 k) ?_
    show own_E p e below _ T113 (mkF m 176 #[iv p1, iv p2, iv p3, iv p4, iv p5, iv p6, iv 4, rv b86, iv (own_max (own_max (own_max (own_max (0 : Int32) p3) p4) p5) p6), iv (own_min (own_min (own_min (own_min (2147483647 : Int32) p4) p5) p6) p2), iv 1] [])
    refine own_st (fun t k => XS.aload X113.here hx rfl (hb hby at_176) rfl rfl k) ?_
    show own_E p e below _ T113 (mkF m 178 #[iv p1, iv p2, iv p3, iv p4, iv p5, iv p6, iv 4, rv b86, iv (own_max (own_max (own_max (own_max (0 : Int32) p3) p4) p5) p6), iv (own_min (own_min (own_min (own_min (2147483647 : Int32) p4) p5) p6) p2), iv 1] [.ref b86])
    obtain ⟨T114, X114, e114, st114⟩ := getF X113 hx hZ hown (host := "") (Or.inl (own_w hw 41 rfl)) Via.refl e113 P102_2 (g := (mkF m 178 #[iv p1, iv p2, iv p3, iv p4, iv p5, iv p6, iv 4, rv b86, iv (own_max (own_max (own_max (own_max (0 : Int32) p3) p4) p5) p6), iv (own_min (own_min (own_min (own_min (2147483647 : Int32) p4) p5) p6) p2), iv 1] [.ref b86])) rfl rfl (hb hby at_178)
    refine own_st st114 ?_
    show own_E p e below _ T114 (mkF m 181 #[iv p1, iv p2, iv p3, iv p4, iv p5, iv p6, iv 4, rv b86, iv (own_max (own_max (own_max (own_max (0 : Int32) p3) p4) p5) p6), iv (own_min (own_min (own_min (own_min (2147483647 : Int32) p4) p5) p6) p2), iv 1] [.ref b102_o1])
    refine own_st (fun t k => XS.iconst X114.here hx rfl (hb hby at_181) k) ?_
    show own_E p e below _ T114 (mkF m 182 #[iv p1, iv p2, iv p3, iv p4, iv p5, iv p6, iv 4, rv b86, iv (own_max (own_max (own_max (own_max (0 : Int32) p3) p4) p5) p6), iv (own_min (own_min (own_min (own_min (2147483647 : Int32) p4) p5) p6) p2), iv 1] [.int 0, .ref b102_o1])
    refine own_st (own_ald X114 hx hZ e114 P102_8 (j := (0 : Int32)) ⟨by decide, by decide⟩ (v := (.int p3)) rfl (g := (mkF m 182 #[iv p1, iv p2, iv p3, iv p4, iv p5, iv p6, iv 4, rv b86, iv (own_max (own_max (own_max (own_max (0 : Int32) p3) p4) p5) p6), iv (own_min (own_min (own_min (own_min (2147483647 : Int32) p4) p5) p6) p2), iv 1] [.int 0, .ref b102_o1])) rfl rfl (hb hby at_182)) ?_
    show own_E p e below _ T114 (mkF m 183 #[iv p1, iv p2, iv p3, iv p4, iv p5, iv p6, iv 4, rv b86, iv (own_max (own_max (own_max (own_max (0 : Int32) p3) p4) p5) p6), iv (own_min (own_min (own_min (own_min (2147483647 : Int32) p4) p5) p6) p2), iv 1] [.int p3])
    refine own_st (fun t k => XS.iloadN X114.here hx rfl (hb hby at_183) rfl k) ?_
    show own_E p e below _ T114 (mkF m 184 #[iv p1, iv p2, iv p3, iv p4, iv p5, iv p6, iv 4, rv b86, iv (own_max (own_max (own_max (own_max (0 : Int32) p3) p4) p5) p6), iv (own_min (own_min (own_min (own_min (2147483647 : Int32) p4) p5) p6) p2), iv 1] [.int p3, .int p3])
    refine own_st (fun t k => XS.icmpNo X114.here hx rfl (hb hby at_184) rfl (teq rfl).2 k) ?_
    show own_E p e below _ T114 (mkF m 187 #[iv p1, iv p2, iv p3, iv p4, iv p5, iv p6, iv 4, rv b86, iv (own_max (own_max (own_max (own_max (0 : Int32) p3) p4) p5) p6), iv (own_min (own_min (own_min (own_min (2147483647 : Int32) p4) p5) p6) p2), iv 1] [])
    refine own_st (fun t k => XS.iconst X114.here hx rfl (hb hby at_187) k) ?_
    show own_E p e below _ T114 (mkF m 188 #[iv p1, iv p2, iv p3, iv p4, iv p5, iv p6, iv 4, rv b86, iv (own_max (own_max (own_max (own_max (0 : Int32) p3) p4) p5) p6), iv (own_min (own_min (own_min (own_min (2147483647 : Int32) p4) p5) p6) p2), iv 1] [.int 1])
    refine own_st (fun t k => XS.goto X114.here hx rfl (pc0 := 188) (pc' := 192) rfl (hb hby at_188) (by decide) (by decide) k) ?_
    show own_E p e below _ T114 (mkF m 192 #[iv p1, iv p2, iv p3, iv p4, iv p5, iv p6, iv 4, rv b86, iv (own_max (own_max (own_max (own_max (0 : Int32) p3) p4) p5) p6), iv (own_min (own_min (own_min (own_min (2147483647 : Int32) p4) p5) p6) p2), iv 1] [.int 1])
    refine own_st (fun t k => XS.istore X114.here hx rfl (hb hby at_192) rfl (l' := #[iv p1, iv p2, iv p3, iv p4, iv p5, iv p6, iv 4, rv b86, iv (own_max (own_max (own_max (own_max (0 : Int32) p3) p4) p5) p6), iv (own_min (own_min (own_min (own_min (2147483647 : Int32) p4) p5) p6) p2), iv 1]) rfl k) ?_
    show own_E p e below _ T114 (mkF m 194 #[iv p1, iv p2, iv p3, iv p4, iv p5, iv p6, iv 4, rv b86, iv (own_max (own_max (own_max (own_max (0 : Int32) p3) p4) p5) p6), iv (own_min (own_min (own_min (own_min (2147483647 : Int32) p4) p5) p6) p2), iv 1] [])
    refine own_st (fun t k => XS.iload X114.here hx rfl (hb hby at_194) rfl k) ?_
    show own_E p e below _ T114 (mkF m 196 #[iv p1, iv p2, iv p3, iv p4, iv p5, iv p6, iv 4, rv b86, iv (own_max (own_max (own_max (own_max (0 : Int32) p3) p4) p5) p6), iv (own_min (own_min (own_min (own_min (2147483647 : Int32) p4) p5) p6) p2), iv 1] [.int 4])
    refine own_st (fun t k => XS.iconst X114.here hx rfl (hb hby at_196) k) ?_
    show own_E p e below _ T114 (mkF m 197 #[iv p1, iv p2, iv p3, iv p4, iv p5, iv p6, iv 4, rv b86, iv (own_max (own_max (own_max (own_max (0 : Int32) p3) p4) p5) p6), iv (own_min (own_min (own_min (own_min (2147483647 : Int32) p4) p5) p6) p2), iv 1] [.int 1, .int 4])
    refine own_st (fun t k => XS.icmpNo X114.here hx rfl (hb hby at_197) rfl (by decide) k) ?_
    show own_E p e below _ T114 (mkF m 200 #[iv p1, iv p2, iv p3, iv p4, iv p5, iv p6, iv 4, rv b86, iv (own_max (own_max (own_max (own_max (0 : Int32) p3) p4) p5) p6), iv (own_min (own_min (own_min (own_min (2147483647 : Int32) p4) p5) p6) p2), iv 1] [])
    refine own_st (fun t k => XS.iload X114.here hx rfl (hb hby at_200) rfl k) ?_
    show own_E p e below _ T114 (mkF m 202 #[iv p1, iv p2, iv p3, iv p4, iv p5, iv p6, iv 4, rv b86, iv (own_max (own_max (own_max (own_max (0 : Int32) p3) p4) p5) p6), iv (own_min (own_min (own_min (own_min (2147483647 : Int32) p4) p5) p6) p2), iv 1] [.int 1])
    refine own_st (fun t k => XS.ifNo X114.here hx rfl (hb hby at_202) rfl (by decide) k) ?_
    show own_E p e below _ T114 (mkF m 205 #[iv p1, iv p2, iv p3, iv p4, iv p5, iv p6, iv 4, rv b86, iv (own_max (own_max (own_max (own_max (0 : Int32) p3) p4) p5) p6), iv (own_min (own_min (own_min (own_min (2147483647 : Int32) p4) p5) p6) p2), iv 1] [])
    refine own_st (fun t k => XS.aload X114.here hx rfl (hb hby at_205) rfl rfl k) ?_
    show own_E p e below _ T114 (mkF m 207 #[iv p1, iv p2, iv p3, iv p4, iv p5, iv p6, iv 4, rv b86, iv (own_max (own_max (own_max (own_max (0 : Int32) p3) p4) p5) p6), iv (own_min (own_min (own_min (own_min (2147483647 : Int32) p4) p5) p6) p2), iv 1] [.ref b86])
    obtain ⟨T115, X115, e115, st115⟩ := getF X114 hx hZ hown (host := "") (Or.inl (own_w hw 40 rfl)) Via.refl e114 P102_1 (g := (mkF m 207 #[iv p1, iv p2, iv p3, iv p4, iv p5, iv p6, iv 4, rv b86, iv (own_max (own_max (own_max (own_max (0 : Int32) p3) p4) p5) p6), iv (own_min (own_min (own_min (own_min (2147483647 : Int32) p4) p5) p6) p2), iv 1] [.ref b86])) rfl rfl (hb hby at_207)
    refine own_st st115 ?_
    show own_E p e below _ T115 (mkF m 210 #[iv p1, iv p2, iv p3, iv p4, iv p5, iv p6, iv 4, rv b86, iv (own_max (own_max (own_max (own_max (0 : Int32) p3) p4) p5) p6), iv (own_min (own_min (own_min (own_min (2147483647 : Int32) p4) p5) p6) p2), iv 1] [.ref b102_o0])
    refine own_st (fun t k => XS.iconst X115.here hx rfl (hb hby at_210) k) ?_
    show own_E p e below _ T115 (mkF m 211 #[iv p1, iv p2, iv p3, iv p4, iv p5, iv p6, iv 4, rv b86, iv (own_max (own_max (own_max (own_max (0 : Int32) p3) p4) p5) p6), iv (own_min (own_min (own_min (own_min (2147483647 : Int32) p4) p5) p6) p2), iv 1] [.int 1, .ref b102_o0])
    refine own_st (own_ald X115 hx hZ e115 P102_6 (j := (1 : Int32)) ⟨by decide, by decide⟩ (v := (.int p3)) rfl (g := (mkF m 211 #[iv p1, iv p2, iv p3, iv p4, iv p5, iv p6, iv 4, rv b86, iv (own_max (own_max (own_max (own_max (0 : Int32) p3) p4) p5) p6), iv (own_min (own_min (own_min (own_min (2147483647 : Int32) p4) p5) p6) p2), iv 1] [.int 1, .ref b102_o0])) rfl rfl (hb hby at_211)) ?_
    show own_E p e below _ T115 (mkF m 212 #[iv p1, iv p2, iv p3, iv p4, iv p5, iv p6, iv 4, rv b86, iv (own_max (own_max (own_max (own_max (0 : Int32) p3) p4) p5) p6), iv (own_min (own_min (own_min (own_min (2147483647 : Int32) p4) p5) p6) p2), iv 1] [.int p3])
    refine own_st (fun t k => XS.iloadN X115.here hx rfl (hb hby at_212) rfl k) ?_
    show own_E p e below _ T115 (mkF m 213 #[iv p1, iv p2, iv p3, iv p4, iv p5, iv p6, iv 4, rv b86, iv (own_max (own_max (own_max (own_max (0 : Int32) p3) p4) p5) p6), iv (own_min (own_min (own_min (own_min (2147483647 : Int32) p4) p5) p6) p2), iv 1] [.int p3, .int p3])
    refine own_st (fun t k => XS.icmpNo X115.here hx rfl (hb hby at_213) rfl (teq rfl).2 k) ?_
    show own_E p e below _ T115 (mkF m 216 #[iv p1, iv p2, iv p3, iv p4, iv p5, iv p6, iv 4, rv b86, iv (own_max (own_max (own_max (own_max (0 : Int32) p3) p4) p5) p6), iv (own_min (own_min (own_min (own_min (2147483647 : Int32) p4) p5) p6) p2), iv 1] [])
    refine own_st (fun t k => XS.aload X115.here hx rfl (hb hby at_216) rfl rfl k) ?_
    show own_E p e below _ T115 (mkF m 218 #[iv p1, iv p2, iv p3, iv p4, iv p5, iv p6, iv 4, rv b86, iv (own_max (own_max (own_max (own_max (0 : Int32) p3) p4) p5) p6), iv (own_min (own_min (own_min (own_min (2147483647 : Int32) p4) p5) p6) p2), iv 1] [.ref b86])
    obtain ⟨T116, X116, e116, st116⟩ := getF X115 hx hZ hown (host := "") (Or.inl (own_w hw 41 rfl)) Via.refl e115 P102_2 (g := (mkF m 218 #[iv p1, iv p2, iv p3, iv p4, iv p5, iv p6, iv 4, rv b86, iv (own_max (own_max (own_max (own_max (0 : Int32) p3) p4) p5) p6), iv (own_min (own_min (own_min (own_min (2147483647 : Int32) p4) p5) p6) p2), iv 1] [.ref b86])) rfl rfl (hb hby at_218)
    refine own_st st116 ?_
    show own_E p e below _ T116 (mkF m 221 #[iv p1, iv p2, iv p3, iv p4, iv p5, iv p6, iv 4, rv b86, iv (own_max (own_max (own_max (own_max (0 : Int32) p3) p4) p5) p6), iv (own_min (own_min (own_min (own_min (2147483647 : Int32) p4) p5) p6) p2), iv 1] [.ref b102_o1])
    refine own_st (fun t k => XS.iconst X116.here hx rfl (hb hby at_221) k) ?_
    show own_E p e below _ T116 (mkF m 222 #[iv p1, iv p2, iv p3, iv p4, iv p5, iv p6, iv 4, rv b86, iv (own_max (own_max (own_max (own_max (0 : Int32) p3) p4) p5) p6), iv (own_min (own_min (own_min (own_min (2147483647 : Int32) p4) p5) p6) p2), iv 1] [.int 1, .ref b102_o1])
    refine own_st (own_ald X116 hx hZ e116 P102_8 (j := (1 : Int32)) ⟨by decide, by decide⟩ (v := (.int p4)) rfl (g := (mkF m 222 #[iv p1, iv p2, iv p3, iv p4, iv p5, iv p6, iv 4, rv b86, iv (own_max (own_max (own_max (own_max (0 : Int32) p3) p4) p5) p6), iv (own_min (own_min (own_min (own_min (2147483647 : Int32) p4) p5) p6) p2), iv 1] [.int 1, .ref b102_o1])) rfl rfl (hb hby at_222)) ?_
    show own_E p e below _ T116 (mkF m 223 #[iv p1, iv p2, iv p3, iv p4, iv p5, iv p6, iv 4, rv b86, iv (own_max (own_max (own_max (own_max (0 : Int32) p3) p4) p5) p6), iv (own_min (own_min (own_min (own_min (2147483647 : Int32) p4) p5) p6) p2), iv 1] [.int p4])
    refine own_st (fun t k => XS.iloadN X116.here hx rfl (hb hby at_223) rfl k) ?_
    show own_E p e below _ T116 (mkF m 224 #[iv p1, iv p2, iv p3, iv p4, iv p5, iv p6, iv 4, rv b86, iv (own_max (own_max (own_max (own_max (0 : Int32) p3) p4) p5) p6), iv (own_min (own_min (own_min (own_min (2147483647 : Int32) p4) p5) p6) p2), iv 1] [.int p4, .int p4])
    refine own_st (fun t k => XS.icmpNo X116.here hx rfl (hb hby at_224) rfl (teq rfl).2 k) ?_
    show own_E p e below _ T116 (mkF m 227 #[iv p1, iv p2, iv p3, iv p4, iv p5, iv p6, iv 4, rv b86, iv (own_max (own_max (own_max (own_max (0 : Int32) p3) p4) p5) p6), iv (own_min (own_min (own_min (own_min (2147483647 : Int32) p4) p5) p6) p2), iv 1] [])
    refine own_st (fun t k => XS.iconst X116.here hx rfl (hb hby at_227) k) ?_
    show own_E p e below _ T116 (mkF m 228 #[iv p1, iv p2, iv p3, iv p4, iv p5, iv p6, iv 4, rv b86, iv (own_max (own_max (own_max (own_max (0 : Int32) p3) p4) p5) p6), iv (own_min (own_min (own_min (own_min (2147483647 : Int32) p4) p5) p6) p2), iv 1] [.int 1])
    refine own_st (fun t k => XS.goto X116.here hx rfl (pc0 := 228) (pc' := 232) rfl (hb hby at_228) (by decide) (by decide) k) ?_
    show own_E p e below _ T116 (mkF m 232 #[iv p1, iv p2, iv p3, iv p4, iv p5, iv p6, iv 4, rv b86, iv (own_max (own_max (own_max (own_max (0 : Int32) p3) p4) p5) p6), iv (own_min (own_min (own_min (own_min (2147483647 : Int32) p4) p5) p6) p2), iv 1] [.int 1])
    refine own_st (fun t k => XS.istore X116.here hx rfl (hb hby at_232) rfl (l' := #[iv p1, iv p2, iv p3, iv p4, iv p5, iv p6, iv 4, rv b86, iv (own_max (own_max (own_max (own_max (0 : Int32) p3) p4) p5) p6), iv (own_min (own_min (own_min (own_min (2147483647 : Int32) p4) p5) p6) p2), iv 1]) rfl k) ?_
    show own_E p e below _ T116 (mkF m 234 #[iv p1, iv p2, iv p3, iv p4, iv p5, iv p6, iv 4, rv b86, iv (own_max (own_max (own_max (own_max (0 : Int32) p3) p4) p5) p6), iv (own_min (own_min (own_min (own_min (2147483647 : Int32) p4) p5) p6) p2), iv 1] [])
    refine own_st (fun t k => XS.iload X116.here hx rfl (hb hby at_234) rfl k) ?_
    show own_E p e below _ T116 (mkF m 236 #[iv p1, iv p2, iv p3, iv p4, iv p5, iv p6, iv 4, rv b86, iv (own_max (own_max (own_max (own_max (0 : Int32) p3) p4) p5) p6), iv (own_min (own_min (own_min (own_min (2147483647 : Int32) p4) p5) p6) p2), iv 1] [.int 4])
    refine own_st (fun t k => XS.iconst X116.here hx rfl (hb hby at_236) k) ?_
    show own_E p e below _ T116 (mkF m 237 #[iv p1, iv p2, iv p3, iv p4, iv p5, iv p6, iv 4, rv b86, iv (own_max (own_max (own_max (own_max (0 : Int32) p3) p4) p5) p6), iv (own_min (own_min (own_min (own_min (2147483647 : Int32) p4) p5) p6) p2), iv 1] [.int 2, .int 4])
    refine own_st (fun t k => XS.icmpNo X116.here hx rfl (hb hby at_237) rfl (by decide) k) ?_
    show own_E p e below _ T116 (mkF m 240 #[iv p1, iv p2, iv p3, iv p4, iv p5, iv p6, iv 4, rv b86, iv (own_max (own_max (own_max (own_max (0 : Int32) p3) p4) p5) p6), iv (own_min (own_min (own_min (own_min (2147483647 : Int32) p4) p5) p6) p2), iv 1] [])
    refine own_st (fun t k => XS.iload X116.here hx rfl (hb hby at_240) rfl k) ?_
    show own_E p e below _ T116 (mkF m 242 #[iv p1, iv p2, iv p3, iv p4, iv p5, iv p6, iv 4, rv b86, iv (own_max (own_max (own_max (own_max (0 : Int32) p3) p4) p5) p6), iv (own_min (own_min (own_min (own_min (2147483647 : Int32) p4) p5) p6) p2), iv 1] [.int 1])
    refine own_st (fun t k => XS.ifNo X116.here hx rfl (hb hby at_242) rfl (by decide) k) ?_
    show own_E p e below _ T116 (mkF m 245 #[iv p1, iv p2, iv p3, iv p4, iv p5, iv p6, iv 4, rv b86, iv (own_max (own_max (own_max (own_max (0 : Int32) p3) p4) p5) p6), iv (own_min (own_min (own_min (own_min (2147483647 : Int32) p4) p5) p6) p2), iv 1] [])
    refine own_st (fun t k => XS.aload X116.here hx rfl (hb hby at_245) rfl rfl k) ?_
    show own_E p e below _ T116 (mkF m 247 #[iv p1, iv p2, iv p3, iv p4, iv p5, iv p6, iv 4, rv b86, iv (own_max (own_max (own_max (own_max (0 : Int32) p3) p4) p5) p6), iv (own_min (own_min (own_min (own_min (2147483647 : Int32) p4) p5) p6) p2), iv 1] [.ref b86])
    obtain ⟨T117, X117, e117, st117⟩ := getF X116 hx hZ hown (host := "") (Or.inl (own_w hw 40 rfl)) Via.refl e116 P102_1 (g := (mkF m 247 #[iv p1, iv p2, iv p3, iv p4, iv p5, iv p6, iv 4, rv b86, iv (own_max (own_max (own_max (own_max (0 : Int32) p3) p4) p5) p6), iv (own_min (own_min (own_min (own_min (2147483647 : Int32) p4) p5) p6) p2), iv 1] [.ref b86])) rfl rfl (hb hby at_247)
    refine own_st st117 ?_
    show own_E p e below _ T117 (mkF m 250 #[iv p1, iv p2, iv p3, iv p4, iv p5, iv p6, iv 4, rv b86, iv (own_max (own_max (own_max (own_max (0 : Int32) p3) p4) p5) p6), iv (own_min (own_min (own_min (own_min (2147483647 : Int32) p4) p5) p6) p2), iv 1] [.ref b102_o0])
    refine own_st (fun t k => XS.iconst X117.here hx rfl (hb hby at_250) k) ?_
    show own_E p e below _ T117 (mkF m 251 #[iv p1, iv p2, iv p3, iv p4, iv p5, iv p6, iv 4, rv b86, iv (own_max (own_max (own_max (own_max (0 : Int32) p3) p4) p5) p6), iv (own_min (own_min (own_min (own_min (2147483647 : Int32) p4) p5) p6) p2), iv 1] [.int 2, .ref b102_o0])
    refine own_st (own_ald X117 hx hZ e117 P102_6 (j := (2 : Int32)) ⟨by decide, by decide⟩ (v := (.int p4)) rfl (g := (mkF m 251 #[iv p1, iv p2, iv p3, iv p4, iv p5, iv p6, iv 4, rv b86, iv (own_max (own_max (own_max (own_max (0 : Int32) p3) p4) p5) p6), iv (own_min (own_min (own_min (own_min (2147483647 : Int32) p4) p5) p6) p2), iv 1] [.int 2, .ref b102_o0])) rfl rfl (hb hby at_251)) ?_
    show own_E p e below _ T117 (mkF m 252 #[iv p1, iv p2, iv p3, iv p4, iv p5, iv p6, iv 4, rv b86, iv (own_max (own_max (own_max (own_max (0 : Int32) p3) p4) p5) p6), iv (own_min (own_min (own_min (own_min (2147483647 : Int32) p4) p5) p6) p2), iv 1] [.int p4])
    refine own_st (fun t k => XS.iloadN X117.here hx rfl (hb hby at_252) rfl k) ?_
    show own_E p e below _ T117 (mkF m 253 #[iv p1, iv p2, iv p3, iv p4, iv p5, iv p6, iv 4, rv b86, iv (own_max (own_max (own_max (own_max (0 : Int32) p3) p4) p5) p6), iv (own_min (own_min (own_min (own_min (2147483647 : Int32) p4) p5) p6) p2), iv 1] [.int p4, .int p4])
    refine own_st (fun t k => XS.icmpNo X117.here hx rfl (hb hby at_253) rfl (teq rfl).2 k) ?_
    show own_E p e below _ T117 (mkF m 256 #[iv p1, iv p2, iv p3, iv p4, iv p5, iv p6, iv 4, rv b86, iv (own_max (own_max (own_max (own_max (0 : Int32) p3) p4) p5) p6), iv (own_min (own_min (own_min (own_min (2147483647 : Int32) p4) p5) p6) p2), iv 1] [])
    refine own_st (fun t k => XS.aload X117.here hx rfl (hb hby at_256) rfl rfl k) ?_
    show own_E p e below _ T117 (mkF m 258 #[iv p1, iv p2, iv p3, iv p4, iv p5, iv p6, iv 4, rv b86, iv (own_max (own_max (own_max (own_max (0 : Int32) p3) p4) p5) p6), iv (own_min (own_min (own_min (own_min (2147483647 : Int32) p4) p5) p6) p2), iv 1] [.ref b86])
    obtain ⟨T118, X118, e118, st118⟩ := getF X117 hx hZ hown (host := "") (Or.inl (own_w hw 41 rfl)) Via.refl e117 P102_2 (g := (mkF m 258 #[iv p1, iv p2, iv p3, iv p4, iv p5, iv p6, iv 4, rv b86, iv (own_max (own_max (own_max (own_max (0 : Int32) p3) p4) p5) p6), iv (own_min (own_min (own_min (own_min (2147483647 : Int32) p4) p5) p6) p2), iv 1] [.ref b86])) rfl rfl (hb hby at_258)
    refine own_st st118 ?_
    show own_E p e below _ T118 (mkF m 261 #[iv p1, iv p2, iv p3, iv p4, iv p5, iv p6, iv 4, rv b86, iv (own_max (own_max (own_max (own_max (0 : Int32) p3) p4) p5) p6), iv (own_min (own_min (own_min (own_min (2147483647 : Int32) p4) p5) p6) p2), iv 1] [.ref b102_o1])
    refine own_st (fun t k => XS.iconst X118.here hx rfl (hb hby at_261) k) ?_
    show own_E p e below _ T118 (mkF m 262 #[iv p1, iv p2, iv p3, iv p4, iv p5, iv p6, iv 4, rv b86, iv (own_max (own_max (own_max (own_max (0 : Int32) p3) p4) p5) p6), iv (own_min (own_min (own_min (own_min (2147483647 : Int32) p4) p5) p6) p2), iv 1] [.int 2, .ref b102_o1])
    refine own_st (own_ald X118 hx hZ e118 P102_8 (j := (2 : Int32)) ⟨by decide, by decide⟩ (v := (.int p5)) rfl (g := (mkF m 262 #[iv p1, iv p2, iv p3, iv p4, iv p5, iv p6, iv 4, rv b86, iv (own_max (own_max (own_max (own_max (0 : Int32) p3) p4) p5) p6), iv (own_min (own_min (own_min (own_min (2147483647 : Int32) p4) p5) p6) p2), iv 1] [.int 2, .ref b102_o1])) rfl rfl (hb hby at_262)) ?_
    show own_E p e below _ T118 (mkF m 263 #[iv p1, iv p2, iv p3, iv p4, iv p5, iv p6, iv 4, rv b86, iv (own_max (own_max (own_max (own_max (0 : Int32) p3) p4) p5) p6), iv (own_min (own_min (own_min (own_min (2147483647 : Int32) p4) p5) p6) p2), iv 1] [.int p5])
    refine own_st (fun t k => XS.iload X118.here hx rfl (hb hby at_263) rfl k) ?_
    show own_E p e below _ T118 (mkF m 265 #[iv p1, iv p2, iv p3, iv p4, iv p5, iv p6, iv 4, rv b86, iv (own_max (own_max (own_max (own_max (0 : Int32) p3) p4) p5) p6), iv (own_min (own_min (own_min (own_min (2147483647 : Int32) p4) p5) p6) p2), iv 1] [.int p5, .int p5])
    refine own_st (fun t k => XS.icmpNo X118.here hx rfl (hb hby at_265) rfl (teq rfl).2 k) ?_
    show own_E p e below _ T118 (mkF m 268 #[iv p1, iv p2, iv p3, iv p4, iv p5, iv p6, iv 4, rv b86, iv (own_max (own_max (own_max (own_max (0 : Int32) p3) p4) p5) p6), iv (own_min (own_min (own_min (own_min (2147483647 : Int32) p4) p5) p6) p2), iv 1] [])
    refine own_st (fun t k => XS.iconst X118.here hx rfl (hb hby at_268) k) ?_
    show own_E p e below _ T118 (mkF m 269 #[iv p1, iv p2, iv p3, iv p4, iv p5, iv p6, iv 4, rv b86, iv (own_max (own_max (own_max (own_max (0 : Int32) p3) p4) p5) p6), iv (own_min (own_min (own_min (own_min (2147483647 : Int32) p4) p5) p6) p2), iv 1] [.int 1])
    refine own_st (fun t k => XS.goto X118.here hx rfl (pc0 := 269) (pc' := 273) rfl (hb hby at_269) (by decide) (by decide) k) ?_
    show own_E p e below _ T118 (mkF m 273 #[iv p1, iv p2, iv p3, iv p4, iv p5, iv p6, iv 4, rv b86, iv (own_max (own_max (own_max (own_max (0 : Int32) p3) p4) p5) p6), iv (own_min (own_min (own_min (own_min (2147483647 : Int32) p4) p5) p6) p2), iv 1] [.int 1])
    refine own_st (fun t k => XS.istore X118.here hx rfl (hb hby at_273) rfl (l' := #[iv p1, iv p2, iv p3, iv p4, iv p5, iv p6, iv 4, rv b86, iv (own_max (own_max (own_max (own_max (0 : Int32) p3) p4) p5) p6), iv (own_min (own_min (own_min (own_min (2147483647 : Int32) p4) p5) p6) p2), iv 1]) rfl k) ?_
    show own_E p e below _ T118 (mkF m 275 #[iv p1, iv p2, iv p3, iv p4, iv p5, iv p6, iv 4, rv b86, iv (own_max (own_max (own_max (own_max (0 : Int32) p3) p4) p5) p6), iv (own_min (own_min (own_min (own_min (2147483647 : Int32) p4) p5) p6) p2), iv 1] [])
    refine own_st (fun t k => XS.iload X118.here hx rfl (hb hby at_275) rfl k) ?_
    show own_E p e below _ T118 (mkF m 277 #[iv p1, iv p2, iv p3, iv p4, iv p5, iv p6, iv 4, rv b86, iv (own_max (own_max (own_max (own_max (0 : Int32) p3) p4) p5) p6), iv (own_min (own_min (own_min (own_min (2147483647 : Int32) p4) p5) p6) p2), iv 1] [.int 4])
    refine own_st (fun t k => XS.iconst X118.here hx rfl (hb hby at_277) k) ?_
    show own_E p e below _ T118 (mkF m 278 #[iv p1, iv p2, iv p3, iv p4, iv p5, iv p6, iv 4, rv b86, iv (own_max (own_max (own_max (own_max (0 : Int32) p3) p4) p5) p6), iv (own_min (own_min (own_min (own_min (2147483647 : Int32) p4) p5) p6) p2), iv 1] [.int 3, .int 4])
    refine own_st (fun t k => XS.icmpNo X118.here hx rfl (hb hby at_278) rfl (by decide) k) ?_
    show own_E p e below _ T118 (mkF m 281 #[iv p1, iv p2, iv p3, iv p4, iv p5, iv p6, iv 4, rv b86, iv (own_max (own_max (own_max (own_max (0 : Int32) p3) p4) p5) p6), iv (own_min (own_min (own_min (own_min (2147483647 : Int32) p4) p5) p6) p2), iv 1] [])
    refine own_st (fun t k => XS.iload X118.here hx rfl (hb hby at_281) rfl k) ?_
    show own_E p e below _ T118 (mkF m 283 #[iv p1, iv p2, iv p3, iv p4, iv p5, iv p6, iv 4, rv b86, iv (own_max (own_max (own_max (own_max (0 : Int32) p3) p4) p5) p6), iv (own_min (own_min (own_min (own_min (2147483647 : Int32) p4) p5) p6) p2), iv 1] [.int 1])
    refine own_st (fun t k => XS.ifNo X118.here hx rfl (hb hby at_283) rfl (by decide) k) ?_
    show own_E p e below _ T118 (mkF m 286 #[iv p1, iv p2, iv p3, iv p4, iv p5, iv p6, iv 4, rv b86, iv (own_max (own_max (own_max (own_max (0 : Int32) p3) p4) p5) p6), iv (own_min (own_min (own_min (own_min (2147483647 : Int32) p4) p5) p6) p2), iv 1] [])
    refine own_st (fun t k => XS.aload X118.here hx rfl (hb hby at_286) rfl rfl k) ?_
    show own_E p e below _ T118 (mkF m 288 #[iv p1, iv p2, iv p3, iv p4, iv p5, iv p6, iv 4, rv b86, iv (own_max (own_max (own_max (own_max (0 : Int32) p3) p4) p5) p6), iv (own_min (own_min (own_min (own_min (2147483647 : Int32) p4) p5) p6) p2), iv 1] [.ref b86])
    obtain ⟨T119, X119, e119, st119⟩ := getF X118 hx hZ hown (host := "") (Or.inl (own_w hw 40 rfl)) Via.refl e118 P102_1 (g := (mkF m 288 #[iv p1, iv p2, iv p3, iv p4, iv p5, iv p6, iv 4, rv b86, iv (own_max (own_max (own_max (own_max (0 : Int32) p3) p4) p5) p6), iv (own_min (own_min (own_min (own_min (2147483647 : Int32) p4) p5) p6) p2), iv 1] [.ref b86])) rfl rfl (hb hby at_288)
    refine own_st st119 ?_
    show own_E p e below _ T119 (mkF m 291 #[iv p1, iv p2, iv p3, iv p4, iv p5, iv p6, iv 4, rv b86, iv (own_max (own_max (own_max (own_max (0 : Int32) p3) p4) p5) p6), iv (own_min (own_min (own_min (own_min (2147483647 : Int32) p4) p5) p6) p2), iv 1] [.ref b102_o0])
    refine own_st (fun t k => XS.iconst X119.here hx rfl (hb hby at_291) k) ?_
    show own_E p e below _ T119 (mkF m 292 #[iv p1, iv p2, iv p3, iv p4, iv p5, iv p6, iv 4, rv b86, iv (own_max (own_max (own_max (own_max (0 : Int32) p3) p4) p5) p6), iv (own_min (own_min (own_min (own_min (2147483647 : Int32) p4) p5) p6) p2), iv 1] [.int 3, .ref b102_o0])
    refine own_st (own_ald X119 hx hZ e119 P102_6 (j := (3 : Int32)) ⟨by decide, by decide⟩ (v := (.int p5)) rfl (g := (mkF m 292 #[iv p1, iv p2, iv p3, iv p4, iv p5, iv p6, iv 4, rv b86, iv (own_max (own_max (own_max (own_max (0 : Int32) p3) p4) p5) p6), iv (own_min (own_min (own_min (own_min (2147483647 : Int32) p4) p5) p6) p2), iv 1] [.int 3, .ref b102_o0])) rfl rfl (hb hby at_292)) ?_
    show own_E p e below _ T119 (mkF m 293 #[iv p1, iv p2, iv p3, iv p4, iv p5, iv p6, iv 4, rv b86, iv (own_max (own_max (own_max (own_max (0 : Int32) p3) p4) p5) p6), iv (own_min (own_min (own_min (own_min (2147483647 : Int32) p4) p5) p6) p2), iv 1] [.int p5])
    refine own_st (fun t k => XS.iload X119.here hx rfl (hb hby at_293) rfl k) ?_
    show own_E p e below _ T119 (mkF m 295 #[iv p1, iv p2, iv p3, iv p4, iv p5, iv p6, iv 4, rv b86, iv (own_max (own_max (own_max (own_max (0 : Int32) p3) p4) p5) p6), iv (own_min (own_min (own_min (own_min (2147483647 : Int32) p4) p5) p6) p2), iv 1] [.int p5, .int p5])
    refine own_st (fun t k => XS.icmpNo X119.here hx rfl (hb hby at_295) rfl (teq rfl).2 k) ?_
    show own_E p e below _ T119 (mkF m 298 #[iv p1, iv p2, iv p3, iv p4, iv p5, iv p6, iv 4, rv b86, iv (own_max (own_max (own_max (own_max (0 : Int32) p3) p4) p5) p6), iv (own_min (own_min (own_min (own_min (2147483647 : Int32) p4) p5) p6) p2), iv 1] [])
    refine own_st (fun t k => XS.aload X119.here hx rfl (hb hby at_298) rfl rfl k) ?_
    show own_E p e below _ T119 (mkF m 300 #[iv p1, iv p2, iv p3, iv p4, iv p5, iv p6, iv 4, rv b86, iv (own_max (own_max (own_max (own_max (0 : Int32) p3) p4) p5) p6), iv (own_min (own_min (own_min (own_min (2147483647 : Int32) p4) p5) p6) p2), iv 1] [.ref b86])
    obtain ⟨T120, X120, e120, st120⟩ := getF X119 hx hZ hown (host := "") (Or.inl (own_w hw 41 rfl)) Via.refl e119 P102_2 (g := (mkF m 300 #[iv p1, iv p2, iv p3, iv p4, iv p5, iv p6, iv 4, rv b86, iv (own_max (own_max (own_max (own_max (0 : Int32) p3) p4) p5) p6), iv (own_min (own_min (own_min (own_min (2147483647 : Int32) p4) p5) p6) p2), iv 1] [.ref b86])) rfl rfl (hb hby at_300)
    refine own_st st120 ?_
    show own_E p e below _ T120 (mkF m 303 #[iv p1, iv p2, iv p3, iv p4, iv p5, iv p6, iv 4, rv b86, iv (own_max (own_max (own_max (own_max (0 : Int32) p3) p4) p5) p6), iv (own_min (own_min (own_min (own_min (2147483647 : Int32) p4) p5) p6) p2), iv 1] [.ref b102_o1])
    refine own_st (fun t k => XS.iconst X120.here hx rfl (hb hby at_303) k) ?_
    show own_E p e below _ T120 (mkF m 304 #[iv p1, iv p2, iv p3, iv p4, iv p5, iv p6, iv 4, rv b86, iv (own_max (own_max (own_max (own_max (0 : Int32) p3) p4) p5) p6), iv (own_min (own_min (own_min (own_min (2147483647 : Int32) p4) p5) p6) p2), iv 1] [.int 3, .ref b102_o1])
    refine own_st (own_ald X120 hx hZ e120 P102_8 (j := (3 : Int32)) ⟨by decide, by decide⟩ (v := (.int p6)) rfl (g := (mkF m 304 #[iv p1, iv p2, iv p3, iv p4, iv p5, iv p6, iv 4, rv b86, iv (own_max (own_max (own_max (own_max (0 : Int32) p3) p4) p5) p6), iv (own_min (own_min (own_min (own_min (2147483647 : Int32) p4) p5) p6) p2), iv 1] [.int 3, .ref b102_o1])) rfl rfl (hb hby at_304)) ?_
    show own_E p e below _ T120 (mkF m 305 #[iv p1, iv p2, iv p3, iv p4, iv p5, iv p6, iv 4, rv b86, iv (own_max (own_max (own_max (own_max (0 : Int32) p3) p4) p5) p6), iv (own_min (own_min (own_min (own_min (2147483647 : Int32) p4) p5) p6) p2), iv 1] [.int p6])
    refine own_st (fun t k => XS.iload X120.here hx rfl (hb hby at_305) rfl k) ?_
    show own_E p e below _ T120 (mkF m 307 #[iv p1, iv p2, iv p3, iv p4, iv p5, iv p6, iv 4, rv b86, iv (own_max (own_max (own_max (own_max (0 : Int32) p3) p4) p5) p6), iv (own_min (own_min (own_min (own_min (2147483647 : Int32) p4) p5) p6) p2), iv 1] [.int p6, .int p6])
    refine own_st (fun t k => XS.icmpNo X120.here hx rfl (hb hby at_307) rfl (teq rfl).2 k) ?_
    show own_E p e below _ T120 (mkF m 310 #[iv p1, iv p2, iv p3, iv p4, iv p5, iv p6, iv 4, rv b86, iv (own_max (own_max (own_max (own_max (0 : Int32) p3) p4) p5) p6), iv (own_min (own_min (own_min (own_min (2147483647 : Int32) p4) p5) p6) p2), iv 1] [])
    refine own_st (fun t k => XS.iconst X120.here hx rfl (hb hby at_310) k) ?_
    show own_E p e below _ T120 (mkF m 311 #[iv p1, iv p2, iv p3, iv p4, iv p5, iv p6, iv 4, rv b86, iv (own_max (own_max (own_max (own_max (0 : Int32) p3) p4) p5) p6), iv (own_min (own_min (own_min (own_min (2147483647 : Int32) p4) p5) p6) p2), iv 1] [.int 1])
    refine own_st (fun t k => XS.goto X120.here hx rfl (pc0 := 311) (pc' := 315) rfl (hb hby at_311) (by decide) (by decide) k) ?_
    show own_E p e below _ T120 (mkF m 315 #[iv p1, iv p2, iv p3, iv p4, iv p5, iv p6, iv 4, rv b86, iv (own_max (own_max (own_max (own_max (0 : Int32) p3) p4) p5) p6), iv (own_min (own_min (own_min (own_min (2147483647 : Int32) p4) p5) p6) p2), iv 1] [.int 1])
    refine own_st (fun t k => XS.istore X120.here hx rfl (hb hby at_315) rfl (l' := #[iv p1, iv p2, iv p3, iv p4, iv p5, iv p6, iv 4, rv b86, iv (own_max (own_max (own_max (own_max (0 : Int32) p3) p4) p5) p6), iv (own_min (own_min (own_min (own_min (2147483647 : Int32) p4) p5) p6) p2), iv 1]) rfl k) ?_
    show own_E p e below _ T120 (mkF m 317 #[iv p1, iv p2, iv p3, iv p4, iv p5, iv p6, iv 4, rv b86, iv (own_max (own_max (own_max (own_max (0 : Int32) p3) p4) p5) p6), iv (own_min (own_min (own_min (own_min (2147483647 : Int32) p4) p5) p6) p2), iv 1] [])
    refine own_st (fun t k => XS.iload X120.here hx rfl (hb hby at_317) rfl k) ?_
    show own_E p e below _ T120 (mkF m 319 #[iv p1, iv p2, iv p3, iv p4, iv p5, iv p6, iv 4, rv b86, iv (own_max (own_max (own_max (own_max (0 : Int32) p3) p4) p5) p6), iv (own_min (own_min (own_min (own_min (2147483647 : Int32) p4) p5) p6) p2), iv 1] [.int 1])
    refine own_retS X120 hx Bd.notSynchronized Bd.returns rfl (by decide) (hb hby at_319) (by decide) (by decide) ?_
    exact ⟨rfl, N102⟩
set_option maxRecDepth 65536 in
set_option maxHeartbeats 40000000 in
theorem comes_1 {Post : Tables → Env → Array Value → State → Outcome → State → Prop} (hpost : ∀ tb e args s v u, (limb_1_1.after args s (.returned v) u = true ∧ limb_1_2.after args s (.returned v) u = true ∧ True) → FrameEnd s (.returned v) u (Jvm.fieldLocs frame_1_writes args s ++ Jvm.arrayLocs frame_1_arrays args s ++ Jvm.staticLocs frame_1_statics s) 32 128 → Post tb e args s (.returned v) u) :
    ArmFor flags0 classFile x code maxLocals ret World_1 tables_1 room_1 Calls_1 rest_1 Pre_1 Post := by
  intro l hfl _ _ p e ha hc hk s m args below hf hA hF happ hP
  obtain ⟨hcalls, hrest, hpre⟩ := hP
  obtain ⟨-, -, -, hnamed, -, -, -, hat⟩ := (Spec.applies_iff hf).mp happ
  obtain ⟨hg, hn⟩ := and_e (Cond.before_iff.mp (show (Jvm.Cond.and given_1 narrow_1).before args s = true from hpre))
  obtain ⟨hg0, hg1⟩ := and_e hg
  obtain ⟨hv0, hg2⟩ := and_e hg1
  obtain ⟨hv1, hg3⟩ := and_e hg2
  obtain ⟨hv2, hg4⟩ := and_e hg3
  obtain ⟨hv3, hg5⟩ := and_e hg4
  obtain ⟨hv4, hg6⟩ := and_e hg5
  have hv5 := hg6
  obtain ⟨w0, w1, w2, w3, w4, w5, rfl⟩ : ∃ w0 w1 w2 w3 w4 w5 : Value, args = #[w0, w1, w2, w3, w4, w5] := by
    have hs : args.size = 6 := by simpa [Cond.value, given_1] using hg0
    obtain ⟨L⟩ := args
    match L, hs with
    | [w0, w1, w2, w3, w4, w5], _ => exact ⟨w0, w1, w2, w3, w4, w5, rfl⟩
  have hw := fun d (hd : d ∈ tables_1) => atoms_spec (ws := Jvm.Cond.code x code maxLocals ret :: tables_1) hat d (List.mem_cons_of_mem _ hd)
  have hfit : Fit s := fun {y c} hc i hi => by
    obtain ⟨ha, rfl⟩ := Array.getElem?_eq_some_iff.mp hc
    have q := List.all_eq_true.mp ((Array.all_eq_true_iff_forall_mem.mp hF) _ (Array.getElem_mem ha)) i (List.mem_range.mpr hi)
    simpa [Array.getElem?_eq_getElem hi] using q
  obtain ⟨i0, ev0⟩ := is_v hv0
  obtain rfl : w0 = (.int i0) := Option.some.inj ev0
  obtain ⟨i1, ev1⟩ := is_v hv1
  obtain rfl : w1 = (.int i1) := Option.some.inj ev1
  obtain ⟨i2, ev2⟩ := is_v hv2
  obtain rfl : w2 = (.int i2) := Option.some.inj ev2
  obtain ⟨i3, ev3⟩ := is_v hv3
  obtain rfl : w3 = (.int i3) := Option.some.inj ev3
  obtain ⟨i4, ev4⟩ := is_v hv4
  obtain rfl : w4 = (.int i4) := Option.some.inj ev4
  obtain ⟨i5, ev5⟩ := is_v hv5
  obtain rfl : w5 = (.int i5) := Option.some.inj ev5
  obtain ⟨n, o, h1, h2, h3, _, L, rfl, ⟨rfl, N⟩, hq⟩ := own_law l s _ hw tables_1 i0 i1 i2 i3 i4 i5 s.heap s.heap.size (Nat.le_refl _)  p e ha hc hk s m _ below hf ((Spec.applies_iff_loose hf).mp happ).1 ⟨rfl, State.Warmed39.refl s, rfl⟩ trivial
  refine ⟨n, _, h1, h2, h3, hpost _ _ _ _ _ _ ⟨Cond.after_iff.mpr rfl, Cond.after_iff.mpr (eq_i res_at (Term.int_eval (1)) rfl), trivial⟩ ⟨hq.1, hq.2.1, (hq.2.2.sift fun y hy => Or.inr (N y hy)).mono (by decide) (by decide)⟩⟩
theorem main_1_1 : Claimed_1_1 := comes_1 fun _ _ _ _ _ _ h hF => ⟨h.1, hF⟩
theorem main_1_2 : Claimed_1_2 := comes_1 fun _ _ _ _ _ _ h hF => ⟨h.2.1, hF⟩
end Jvm.Pilot.@@N@@
namespace Jvm.Pilot.@@N@@
open Jvm Jvm.ClassFile Sem Op Lib Jvm.Free Jvm.Stand Jvm.Pilot.@@N@@.Jvm.D
/-! MADE BY PROGRAM (witnessworld.py) out of the Statement's table words and the real class files: 12 classes; the members and pool entries that the words name. The judged class is class 1, her method 1. -/
namespace start1
open Jvm.ClassFile
def u (s : String) : CpInfo := .utf8 (stringToUtf16 s)
/-- a pool by its gaps: so many unusable entries, then the entry; so many at the end -/
def gap : Nat → List CpInfo → List CpInfo
  | 0, r => r
  | n + 1, r => .unusable :: gap n r
def poolList (es : List (Nat × CpInfo)) (last : Nat) : List CpInfo := es.foldr (fun e r => gap e.1 (e.2 :: r)) (gap last [])
def pool (es : List (Nat × CpInfo)) (last : Nat) : Array CpInfo := ⟨poolList es last⟩
def fileOf (pool : Array CpInfo) (this : Nat) (attrs : Array Attribute := #[]) (ms : Array MethodInfo := #[]) (fl : Nat := 33) (sup : Nat := 0) (ifs : Array Nat := #[]) (fds : Array FieldInfo := #[]) : ClassFile where
  minorVersion := 0
  majorVersion := 65
  constantPool := pool
  accessFlags := fl
  thisClass := this
  superClass := sup
  interfaces := ifs
  fields := fds
  methods := ms
  attributes := attrs
def plain (name : String) (sup : Option ClassId) : Class where
  name := name
  kind := .ordinary
  loader := none
  accessFlags := 33
  super := sup
  interfaces := #[]
  cf := none
  fields := #[]
  methods := #[]
  instanceTypes := #[]
  staticTypes := #[]
  resolved := #[]
  callSites := []
  init := .initialized
  statics := none
  mirror := none

def pool0 : Array CpInfo := pool [(5, u "<init>"), (0, u "()V"), (1, .class_ 10), (1, u "java/lang/Object"), (85, u "clone"), (0, u "()Ljava/lang/Object;")] 26

def k0c0 : Code := { maxStack := 0, maxLocals := 1, code := object_method_1_code, exceptionTable := #[], attributes := #[] }
def k0m0 : Method := { name := "<init>", desc := "()V", sig := { parameters := [], returnType := none }, accessFlags := 1, code := some k0c0 }
def k0m1 : Method := { name := "clone", desc := "()Ljava/lang/Object;", sig := { parameters := [], returnType := some (.object "java/lang/Object") }, accessFlags := 260, code := none }
/-- java/lang/Object -/
def k0 : Class := { plain "java/lang/Object" none with
  accessFlags := 33
  interfaces := #[]
  cf := some (fileOf pool0 8 #[] #[{ accessFlags := 1, nameIndex := 5, descriptorIndex := 6, attributes := #[] }, { accessFlags := 260, nameIndex := 96, descriptorIndex := 97, attributes := #[] }] 33 0 #[] #[])
  fields := #[]
  methods := #[k0m0, k0m1]
  instanceTypes := #[]
  staticTypes := #[]
  resolved := Array.replicate 124 none
  statics := none }

def pool1 : Array CpInfo := pool [(2, .class_ 4), (0, .nameAndType 5 6), (0, u "java/lang/Object"), (0, u "<init>"), (0, u "()V"), (0, .class_ 8), (0, u "com/example/lean_scorer/leanscorer/Postings"), (0, .methodref 7 3), (0, .methodref 7 11), (0, .nameAndType 12 13), (0, u "add"), (0, u "(III)V"), (0, .fieldref 7 15), (0, .nameAndType 16 17), (0, u "maxFrequency"), (0, u "I"), (0, .fieldref 7 19), (0, .nameAndType 20 17), (0, u "minLength"), (0, .methodref 7 22), (0, .nameAndType 23 6), (0, u "trim"), (0, .fieldref 7 25), (0, .nameAndType 26 17), (0, u "size"), (0, .fieldref 7 28), (0, .nameAndType 29 30), (0, u "documents"), (0, u "[I"), (0, .fieldref 7 32), (0, .nameAndType 33 30), (0, u "frequencies"), (0, .class_ 35), (0, u "com/example/lean_scorer/leanscorer/PostingsTrimPinLaw"), (2, u "law"), (0, u "(IIIIII)Z")] 3

def k1m0 : Method := { name := "<init>", desc := "()V", sig := { parameters := [], returnType := none }, accessFlags := 1, code := none }
def k1c1 : Code := { maxStack := 4, maxLocals := 11, code := code, exceptionTable := #[], attributes := #[] }
def k1m1 : Method := { name := "law", desc := "(IIIIII)Z", sig := { parameters := [.int, .int, .int, .int, .int, .int], returnType := some .boolean }, accessFlags := 9, code := some k1c1 }
/-- com/example/lean_scorer/leanscorer/PostingsTrimPinLaw -/
def k1 : Class := { plain "com/example/lean_scorer/leanscorer/PostingsTrimPinLaw" (some 0) with
  accessFlags := 49
  interfaces := #[]
  cf := some (fileOf pool1 34 #[] #[{ accessFlags := 1, nameIndex := 5, descriptorIndex := 6, attributes := #[] }, { accessFlags := 9, nameIndex := 38, descriptorIndex := 39, attributes := #[] }] 49 2 #[] #[])
  fields := #[]
  methods := #[k1m0, k1m1]
  instanceTypes := #[]
  staticTypes := #[]
  resolved := Array.replicate 43 none
  statics := none }

def pool2 : Array CpInfo := pool [(1, .methodref 2 3), (0, .class_ 4), (0, .nameAndType 5 6), (0, u "java/lang/Object"), (0, u "<init>"), (0, u "()V"), (0, .fieldref 8 9), (0, .class_ 10), (0, .nameAndType 11 12), (0, u "com/example/lean_scorer/leanscorer/Postings"), (0, u "documents"), (0, u "[I"), (0, .fieldref 8 14), (0, .nameAndType 15 12), (0, u "frequencies"), (2, .integer 2147483647), (0, .fieldref 8 20), (0, .nameAndType 21 22), (0, u "minLength"), (0, u "I"), (0, .fieldref 8 24), (0, .nameAndType 25 22), (0, u "size"), (0, .methodref 27 28), (0, .class_ 29), (0, .nameAndType 30 31), (0, u "java/util/Arrays"), (0, u "copyOf"), (0, u "([II)[I"), (0, .fieldref 8 33), (0, .nameAndType 34 22), (0, u "maxFrequency"), (0, .methodref 36 37), (0, .class_ 38), (0, .nameAndType 39 40), (0, u "java/lang/Math"), (0, u "max"), (0, u "(II)I"), (0, .methodref 36 42), (0, .nameAndType 43 40), (0, u "min"), (11, u "add"), (0, u "(III)V"), (4, u "trim")] 2

def k2c0 : Code := { maxStack := 2, maxLocals := 1, code := prog_14_method_1_code, exceptionTable := #[], attributes := #[] }
def k2m0 : Method := { name := "<init>", desc := "()V", sig := { parameters := [], returnType := none }, accessFlags := 0, code := some k2c0 }
def k2c1 : Code := { maxStack := 4, maxLocals := 4, code := prog_14_method_2_code, exceptionTable := #[], attributes := #[] }
def k2m1 : Method := { name := "add", desc := "(III)V", sig := { parameters := [.int, .int, .int], returnType := none }, accessFlags := 0, code := some k2c1 }
def k2c2 : Code := { maxStack := 3, maxLocals := 1, code := prog_14_method_5_code, exceptionTable := #[], attributes := #[] }
def k2m2 : Method := { name := "trim", desc := "()V", sig := { parameters := [], returnType := none }, accessFlags := 0, code := some k2c2 }
/-- com/example/lean_scorer/leanscorer/Postings -/
def k2 : Class := { plain "com/example/lean_scorer/leanscorer/Postings" (some 0) with
  accessFlags := 48
  interfaces := #[]
  cf := some (fileOf pool2 8 #[] #[{ accessFlags := 0, nameIndex := 5, descriptorIndex := 6, attributes := #[] }, { accessFlags := 0, nameIndex := 55, descriptorIndex := 56, attributes := #[] }, { accessFlags := 0, nameIndex := 61, descriptorIndex := 6, attributes := #[] }] 48 2 #[] #[{ accessFlags := 0, nameIndex := 11, descriptorIndex := 12, attributes := #[] }, { accessFlags := 0, nameIndex := 15, descriptorIndex := 12, attributes := #[] }, { accessFlags := 0, nameIndex := 25, descriptorIndex := 22, attributes := #[] }, { accessFlags := 0, nameIndex := 34, descriptorIndex := 22, attributes := #[] }, { accessFlags := 0, nameIndex := 21, descriptorIndex := 22, attributes := #[] }])
  fields := #[{ name := "documents", type := (.array .int), accessFlags := 0, slot := 0, constantValue := 0 }, { name := "frequencies", type := (.array .int), accessFlags := 0, slot := 1, constantValue := 0 }, { name := "size", type := .int, accessFlags := 0, slot := 2, constantValue := 0 }, { name := "maxFrequency", type := .int, accessFlags := 0, slot := 3, constantValue := 0 }, { name := "minLength", type := .int, accessFlags := 0, slot := 4, constantValue := 0 }]
  methods := #[k2m0, k2m1, k2m2]
  instanceTypes := #[(.array .int), (.array .int), .int, .int, .int]
  staticTypes := #[]
  resolved := Array.replicate 64 none
  statics := none }

def pool3 : Array CpInfo := pool [(2, .class_ 4), (1, u "java/lang/Object"), (0, u "<init>"), (0, u "()V"), (7, .class_ 16), (1, u "java/util/Arrays"), (57, .class_ 76), (1, u "java/util/Arrays$NaturalOrder"), (32, u "()Ljava/lang/Object;"), (3, .class_ 115), (1, u "java/util/Arrays$LegacyMergeSort"), (1, u "Z"), (10, .nameAndType 129 109), (0, u "clone"), (20, .methodref 151 152), (0, .class_ 153), (0, .nameAndType 154 155), (0, u "java/lang/System"), (0, u "arraycopy"), (0, u "(Ljava/lang/Object;ILjava/lang/Object;II)V"), (146, u "copyOf"), (1, .methodref 305 306), (0, .class_ 307), (0, .nameAndType 308 309), (0, u "java/lang/Math"), (0, u "min"), (0, u "(II)I"), (6, .methodref 317 128), (0, .class_ 318), (0, u "[I"), (56, .class_ 376), (0, u "java/util/Arrays$ArrayList"), (68, u "$assertionsDisabled"), (269, u "MIN_ARRAY_SORT_GRAN"), (0, u "I"), (2, u "INSERTIONSORT_THRESHOLD"), (151, u "([II)[I"), (103, .class_ 976), (0, u "java/util/Arrays$ArrayItr")] 52

def k3m0 : Method := { name := "<init>", desc := "()V", sig := { parameters := [], returnType := none }, accessFlags := 2, code := none }
def k3c1 : Code := { maxStack := 6, maxLocals := 3, code := jdk_65_method_123_code, exceptionTable := #[], attributes := #[] }
def k3m1 : Method := { name := "copyOf", desc := "([II)[I", sig := { parameters := [(.array .int), .int], returnType := some (.array .int) }, accessFlags := 9, code := some k3c1 }
/-- java/util/Arrays -/
def k3 : Class := { plain "java/util/Arrays" (some 0) with
  accessFlags := 49
  interfaces := #[]
  cf := some (fileOf pool3 14 #[.nestMembers #[975, 375, 113, 74]] #[{ accessFlags := 2, nameIndex := 5, descriptorIndex := 6, attributes := #[] }, { accessFlags := 9, nameIndex := 302, descriptorIndex := 871, attributes := #[] }] 49 2 #[] #[{ accessFlags := 26, nameIndex := 715, descriptorIndex := 716, attributes := #[] }, { accessFlags := 26, nameIndex := 719, descriptorIndex := 716, attributes := #[] }, { accessFlags := 4120, nameIndex := 445, descriptorIndex := 117, attributes := #[] }])
  fields := #[{ name := "MIN_ARRAY_SORT_GRAN", type := .int, accessFlags := 26, slot := 0, constantValue := 0 }, { name := "INSERTIONSORT_THRESHOLD", type := .int, accessFlags := 26, slot := 1, constantValue := 0 }, { name := "$assertionsDisabled", type := .boolean, accessFlags := 4120, slot := 2, constantValue := 0 }]
  methods := #[k3m0, k3m1]
  instanceTypes := #[]
  staticTypes := #[.int, .int, .boolean]
  resolved := Array.replicate 1029 none
  statics := none }

def pool4 : Array CpInfo := pool [(1, .class_ 2), (0, u "java/lang/Math"), (1, .class_ 6), (1, u "java/lang/Object"), (0, u "<init>"), (0, u "()V"), (89, .class_ 100), (1, u "java/lang/Math$RandomNumberGeneratorHolder"), (71, u "negativeZeroFloatBits"), (0, u "J"), (2, u "negativeZeroDoubleBits"), (21, u "max"), (2, u "min"), (43, u "$assertionsDisabled"), (0, u "Z"), (88, u "(II)I"), (2, u "twoToTheDoubleScaleDown"), (0, u "D"), (4, u "twoToTheDoubleScaleUp"), (9, u "E"), (3, u "PI"), (2, u "TAU"), (2, u "DEGREES_TO_RADIANS"), (0, u "RADIANS_TO_DEGREES")] 94

def k4m0 : Method := { name := "<init>", desc := "()V", sig := { parameters := [], returnType := none }, accessFlags := 2, code := none }
def k4c1 : Code := { maxStack := 2, maxLocals := 2, code := jdk_29_method_65_code, exceptionTable := #[], attributes := #[] }
def k4m1 : Method := { name := "max", desc := "(II)I", sig := { parameters := [.int, .int], returnType := some .int }, accessFlags := 9, code := some k4c1 }
def k4c2 : Code := { maxStack := 2, maxLocals := 2, code := jdk_29_method_69_code, exceptionTable := #[], attributes := #[] }
def k4m2 : Method := { name := "min", desc := "(II)I", sig := { parameters := [.int, .int], returnType := some .int }, accessFlags := 9, code := some k4c2 }
/-- java/lang/Math -/
def k4 : Class := { plain "java/lang/Math" (some 0) with
  accessFlags := 49
  interfaces := #[]
  cf := some (fileOf pool4 1 #[.nestMembers #[98]] #[{ accessFlags := 2, nameIndex := 7, descriptorIndex := 8, attributes := #[] }, { accessFlags := 9, nameIndex := 198, descriptorIndex := 335, attributes := #[] }, { accessFlags := 9, nameIndex := 201, descriptorIndex := 335, attributes := #[] }] 49 4 #[] #[{ accessFlags := 25, nameIndex := 354, descriptorIndex := 339, attributes := #[] }, { accessFlags := 25, nameIndex := 358, descriptorIndex := 339, attributes := #[] }, { accessFlags := 25, nameIndex := 361, descriptorIndex := 339, attributes := #[] }, { accessFlags := 26, nameIndex := 364, descriptorIndex := 339, attributes := #[] }, { accessFlags := 26, nameIndex := 365, descriptorIndex := 339, attributes := #[] }, { accessFlags := 26, nameIndex := 172, descriptorIndex := 173, attributes := #[] }, { accessFlags := 26, nameIndex := 176, descriptorIndex := 173, attributes := #[] }, { accessFlags := 8, nameIndex := 344, descriptorIndex := 339, attributes := #[] }, { accessFlags := 8, nameIndex := 338, descriptorIndex := 339, attributes := #[] }, { accessFlags := 4120, nameIndex := 245, descriptorIndex := 246, attributes := #[] }])
  fields := #[{ name := "E", type := .double, accessFlags := 25, slot := 0, constantValue := 0 }, { name := "PI", type := .double, accessFlags := 25, slot := 1, constantValue := 0 }, { name := "TAU", type := .double, accessFlags := 25, slot := 2, constantValue := 0 }, { name := "DEGREES_TO_RADIANS", type := .double, accessFlags := 26, slot := 3, constantValue := 0 }, { name := "RADIANS_TO_DEGREES", type := .double, accessFlags := 26, slot := 4, constantValue := 0 }, { name := "negativeZeroFloatBits", type := .long, accessFlags := 26, slot := 5, constantValue := 0 }, { name := "negativeZeroDoubleBits", type := .long, accessFlags := 26, slot := 6, constantValue := 0 }, { name := "twoToTheDoubleScaleUp", type := .double, accessFlags := 8, slot := 7, constantValue := 0 }, { name := "twoToTheDoubleScaleDown", type := .double, accessFlags := 8, slot := 8, constantValue := 0 }, { name := "$assertionsDisabled", type := .boolean, accessFlags := 4120, slot := 9, constantValue := 0 }]
  methods := #[k4m0, k4m1, k4m2]
  instanceTypes := #[]
  staticTypes := #[.double, .double, .double, .double, .double, .long, .long, .double, .double, .boolean]
  resolved := Array.replicate 460 none
  statics := none }

def pool5 : Array CpInfo := pool [(2, .class_ 4), (1, u "java/lang/Object"), (0, u "<init>"), (0, u "()V"), (1, .class_ 10), (1, u "java/lang/System"), (0, u "allowSecurityManager"), (0, u "I"), (16, u "cons"), (0, u "Ljava/io/Console;"), (77, .class_ 110), (1, u "java/lang/System$CallersHolder"), (43, u "initialErrStream"), (0, u "Ljava/io/PrintStream;"), (19, u "security"), (0, u "Ljava/lang/SecurityManager;"), (31, .class_ 209), (0, u "java/lang/System$1"), (7, u "props"), (0, u "Ljava/util/Properties;"), (2, u "lineSeparator"), (0, u "Ljava/lang/String;"), (96, .class_ 321), (1, u "java/lang/System$LoggerFinder"), (5, .class_ 328), (0, u "java/lang/System$Logger"), (67, u "err"), (2, u "out"), (91, u "notSupportedJnuEncoding"), (15, u "in"), (17, u "initialIn"), (0, u "Ljava/io/InputStream;"), (35, u "bootLayer"), (0, u "Ljava/lang/ModuleLayer;"), (99, .class_ 664), (0, u "java/lang/System$2"), (9, u "NEVER"), (2, u "MAYBE"), (49, u "arraycopy"), (0, u "(Ljava/lang/Object;ILjava/lang/Object;II)V"), (72, .class_ 802), (0, u "java/lang/System$Logger$Level")] 31

def k5m0 : Method := { name := "<init>", desc := "()V", sig := { parameters := [], returnType := none }, accessFlags := 2, code := none }
def k5m1 : Method := { name := "arraycopy", desc := "(Ljava/lang/Object;ILjava/lang/Object;II)V", sig := { parameters := [(.object "java/lang/Object"), .int, (.object "java/lang/Object"), .int, .int], returnType := none }, accessFlags := 265, code := none }
/-- java/lang/System -/
def k5 : Class := { plain "java/lang/System" (some 0) with
  accessFlags := 49
  interfaces := #[]
  cf := some (fileOf pool5 8 #[.nestMembers #[319, 327, 801, 108, 663, 208]] #[{ accessFlags := 2, nameIndex := 5, descriptorIndex := 6, attributes := #[] }, { accessFlags := 265, nameIndex := 727, descriptorIndex := 728, attributes := #[] }] 49 2 #[] #[{ accessFlags := 25, nameIndex := 507, descriptorIndex := 526, attributes := #[] }, { accessFlags := 25, nameIndex := 399, descriptorIndex := 155, attributes := #[] }, { accessFlags := 25, nameIndex := 396, descriptorIndex := 155, attributes := #[] }, { accessFlags := 10, nameIndex := 525, descriptorIndex := 526, attributes := #[] }, { accessFlags := 26, nameIndex := 674, descriptorIndex := 12, attributes := #[] }, { accessFlags := 26, nameIndex := 677, descriptorIndex := 12, attributes := #[] }, { accessFlags := 10, nameIndex := 11, descriptorIndex := 12, attributes := #[] }, { accessFlags := 74, nameIndex := 175, descriptorIndex := 176, attributes := #[] }, { accessFlags := 10, nameIndex := 491, descriptorIndex := 222, attributes := #[] }, { accessFlags := 74, nameIndex := 29, descriptorIndex := 30, attributes := #[] }, { accessFlags := 74, nameIndex := 154, descriptorIndex := 155, attributes := #[] }, { accessFlags := 10, nameIndex := 217, descriptorIndex := 218, attributes := #[] }, { accessFlags := 10, nameIndex := 221, descriptorIndex := 222, attributes := #[] }, { accessFlags := 8, nameIndex := 562, descriptorIndex := 563, attributes := #[] }])
  fields := #[{ name := "in", type := (.object "java/io/InputStream"), accessFlags := 25, slot := 0, constantValue := 0 }, { name := "out", type := (.object "java/io/PrintStream"), accessFlags := 25, slot := 1, constantValue := 0 }, { name := "err", type := (.object "java/io/PrintStream"), accessFlags := 25, slot := 2, constantValue := 0 }, { name := "initialIn", type := (.object "java/io/InputStream"), accessFlags := 10, slot := 3, constantValue := 0 }, { name := "NEVER", type := .int, accessFlags := 26, slot := 4, constantValue := 0 }, { name := "MAYBE", type := .int, accessFlags := 26, slot := 5, constantValue := 0 }, { name := "allowSecurityManager", type := .int, accessFlags := 10, slot := 6, constantValue := 0 }, { name := "security", type := (.object "java/lang/SecurityManager"), accessFlags := 74, slot := 7, constantValue := 0 }, { name := "notSupportedJnuEncoding", type := (.object "java/lang/String"), accessFlags := 10, slot := 8, constantValue := 0 }, { name := "cons", type := (.object "java/io/Console"), accessFlags := 74, slot := 9, constantValue := 0 }, { name := "initialErrStream", type := (.object "java/io/PrintStream"), accessFlags := 74, slot := 10, constantValue := 0 }, { name := "props", type := (.object "java/util/Properties"), accessFlags := 10, slot := 11, constantValue := 0 }, { name := "lineSeparator", type := (.object "java/lang/String"), accessFlags := 10, slot := 12, constantValue := 0 }, { name := "bootLayer", type := (.object "java/lang/ModuleLayer"), accessFlags := 8, slot := 13, constantValue := 0 }]
  methods := #[k5m0, k5m1]
  instanceTypes := #[]
  staticTypes := #[(.object "java/io/InputStream"), (.object "java/io/PrintStream"), (.object "java/io/PrintStream"), (.object "java/io/InputStream"), .int, .int, .int, (.object "java/lang/SecurityManager"), (.object "java/lang/String"), (.object "java/io/Console"), (.object "java/io/PrintStream"), (.object "java/util/Properties"), (.object "java/lang/String"), (.object "java/lang/ModuleLayer")]
  resolved := Array.replicate 834 none
  statics := none }

def pool6 : Array CpInfo := pool [(1, .class_ 2), (0, u "java/lang/Cloneable"), (0, .class_ 4), (0, u "java/lang/Object")] 2

/-- java/lang/Cloneable -/
def k6 : Class := { plain "java/lang/Cloneable" (some 0) with
  accessFlags := 1537
  interfaces := #[]
  cf := some (fileOf pool6 1 #[] #[] 1537 3 #[] #[])
  fields := #[]
  methods := #[]
  instanceTypes := #[]
  staticTypes := #[]
  resolved := Array.replicate 7 none
  statics := none }

def pool7 : Array CpInfo := pool [(1, u "java/io/Serializable"), (0, .class_ 1), (0, u "java/lang/Object"), (0, .class_ 3)] 3

/-- java/io/Serializable -/
def k7 : Class := { plain "java/io/Serializable" (some 0) with
  accessFlags := 1537
  interfaces := #[]
  cf := some (fileOf pool7 2 #[] #[] 1537 4 #[] #[])
  fields := #[]
  methods := #[]
  instanceTypes := #[]
  staticTypes := #[]
  resolved := Array.replicate 8 none
  statics := none }

/-- the primitive byte -/
def k8 : Class := { plain "byte" none with kind := .primitive 'B', accessFlags := 0x411 }
/-- [B -/
def k9 : Class := { plain "[B" (some 0) with kind := .array 8 .byte, interfaces := #[6, 7], accessFlags := 1041 }

/-- the primitive int -/
def k10 : Class := { plain "int" none with kind := .primitive 'I', accessFlags := 0x411 }
/-- [I -/
def k11 : Class := { plain "[I" (some 0) with kind := .array 10 .int, interfaces := #[6, 7], accessFlags := 1041 }

def heap : Heap := #[]
def classes : Array Class := #[k0, k1, k2, k3, k4, k5, k6, k7, k8, k9, k10, k11]
def interned : List (Array UInt16 × Addr) := []
def slotsUsed : Nat := 0
def theMethod : MethodId := ⟨1, 1⟩
def args0 : Array Value := #[.int 1, .int 2, .int 3, .int 4, .int 5, .int 6]
def aboutOver (below : List Frame) : State where
  vm := { classes := classes, interned := interned.toArray }
  heap := heap
  slotsUsed := slotsUsed
  threads := #[{ frames := .invoking theMethod args0 :: below }]
def below0 : List Frame := [.native { method := ⟨0, 0⟩, args := #[] }]
def about1 : State := aboutOver below0
def p0 : Program := .bare "" "" ""
def e0 : Env := launch0.env 0 0 0
theorem w_frames : about1.frames = Frame.invoking theMethod args0 :: below0 := rfl
set_option maxRecDepth 65536 in
theorem w_args : argsFit about1.vm theMethod args0 = true := by decide +kernel
set_option maxRecDepth 65536 in
theorem w_heap : heapFits about1 = true := by decide +kernel
set_option maxRecDepth 65536 in
theorem w_runnable : about1.curStatus? = some .runnable := by decide +kernel
set_option maxRecDepth 65536 in
theorem w_alone : about1.alone = true := by decide +kernel
set_option maxRecDepth 65536 in
theorem w_named : about1.methodNamed? x = some theMethod := by decide +kernel
set_option maxRecDepth 65536 in
theorem w_hears : about1.hears theMethod below0 = true := by decide +kernel
set_option maxRecDepth 65536 in
theorem w_ripe : about1.ripe theMethod args0 below0 = true := by decide +kernel
theorem w_running : about1.status = .running := rfl
set_option maxRecDepth 65536 in
theorem w_room : about1.hasRoom e0.platform room_1 = true :=
  launch0.hasRoom_least _ room_1 (by decide +kernel) (by decide +kernel) (by decide +kernel) (by decide +kernel) (by decide +kernel) (by decide +kernel)
theorem allAtoms_all (ts : List Jvm.Cond) (a : Array Jvm.Value) (st : Jvm.State) : (allAtoms ts).before a st = ts.all (fun c => c.before a st) := by
  induction ts with
  | nil => rfl
  | cons c t ih =>
    show (Jvm.Cond.and c (allAtoms t)).before a st = _
    rw [Jvm.Cond.before_and, ih, List.all_cons]
def words1 : List Jvm.Cond := Jvm.Cond.code x code maxLocals ret :: tables_1
/-- a 'code' word, met by the world's own term for the bytes: nothing is compared byte by byte -/
theorem code_word {y : MethodName} {bytes : ByteArray} {mx : Nat} {rt : Option FieldType} {a : Array Value} {s : State} {m : MethodId} {meth : Method} {c : Code} (h1 : s.methodNamed? y = some m) (h2 : s.vm.method? m = some meth) (h3 : meth.code = some c) (h4 : c.code = bytes)
    (h5 : (c.maxLocals == mx && c.exceptionTable.isEmpty && decide (c.maxStack ≤ mostOperands) && decide (meth.sig.returnType = rt) && !meth.locks && decide (parseMethodDescriptor y.desc = some meth.sig)) = true) : (Jvm.Cond.code y bytes mx rt).before a s = true := by
  simp only [Bool.and_eq_true, beq_iff_eq, Bool.not_eq_true', decide_eq_true_eq] at h5
  obtain ⟨⟨⟨⟨⟨g1, g2⟩, g3⟩, g4⟩, g5⟩, g6⟩ := h5
  simp [Cond.before, Cond.holds, Cond.value, h1, h2, h3, h4, g1, g2, g3, g4, g5, g6]
def isCode : Jvm.Cond → Bool
  | .code _ _ _ _ => true
  | _ => false
theorem all_split {L : List Jvm.Cond} {P : Jvm.Cond → Bool} (h1 : L.all (fun c => isCode c || P c) = true) (h2 : ∀ c ∈ L.filter isCode, P c = true) : L.all P = true := by
  refine List.all_eq_true.mpr fun c hc => ?_
  have h := List.all_eq_true.mp h1 c hc
  rcases Bool.eq_false_or_eq_true (isCode c) with hi | hi
  · exact h2 c (List.mem_filter.mpr ⟨hc, hi⟩)
  · simpa [hi] using h
set_option maxRecDepth 65536 in
theorem w_c0 : (Jvm.Cond.code x code maxLocals ret).before args0 about1 = true := code_word (m := ⟨1, 1⟩) (meth := k1m1) (c := k1c1) (by decide +kernel) rfl rfl rfl (by decide +kernel)
set_option maxRecDepth 65536 in
theorem w_c1 : (Jvm.Cond.code ({ cls := "com/example/lean_scorer/leanscorer/Postings", name := "<init>", desc := "()V" } : Jvm.MethodName) prog_14_method_1_code (1 : Nat) (Option.none : Option Jvm.ClassFile.FieldType)).before args0 about1 = true := code_word (m := ⟨2, 0⟩) (meth := k2m0) (c := k2c0) (by decide +kernel) rfl rfl rfl (by decide +kernel)
set_option maxRecDepth 65536 in
theorem w_c2 : (Jvm.Cond.code ({ cls := "java/lang/Object", name := "<init>", desc := "()V" } : Jvm.MethodName) object_method_1_code (1 : Nat) (Option.none : Option Jvm.ClassFile.FieldType)).before args0 about1 = true := code_word (m := ⟨0, 0⟩) (meth := k0m0) (c := k0c0) (by decide +kernel) rfl rfl rfl (by decide +kernel)
set_option maxRecDepth 65536 in
theorem w_c3 : (Jvm.Cond.code ({ cls := "com/example/lean_scorer/leanscorer/Postings", name := "trim", desc := "()V" } : Jvm.MethodName) prog_14_method_5_code (1 : Nat) (Option.none : Option Jvm.ClassFile.FieldType)).before args0 about1 = true := code_word (m := ⟨2, 2⟩) (meth := k2m2) (c := k2c2) (by decide +kernel) rfl rfl rfl (by decide +kernel)
set_option maxRecDepth 65536 in
theorem w_c4 : (Jvm.Cond.code ({ cls := "java/util/Arrays", name := "copyOf", desc := "([II)[I" } : Jvm.MethodName) jdk_65_method_123_code (3 : Nat) (Option.some (Jvm.ClassFile.FieldType.array Jvm.ClassFile.FieldType.int))).before args0 about1 = true := code_word (m := ⟨3, 1⟩) (meth := k3m1) (c := k3c1) (by decide +kernel) rfl rfl rfl (by decide +kernel)
set_option maxRecDepth 65536 in
theorem w_c5 : (Jvm.Cond.code ({ cls := "java/lang/Math", name := "min", desc := "(II)I" } : Jvm.MethodName) jdk_29_method_69_code (2 : Nat) (Option.some Jvm.ClassFile.FieldType.int)).before args0 about1 = true := code_word (m := ⟨4, 2⟩) (meth := k4m2) (c := k4c2) (by decide +kernel) rfl rfl rfl (by decide +kernel)
set_option maxRecDepth 65536 in
theorem w_c6 : (Jvm.Cond.code ({ cls := "com/example/lean_scorer/leanscorer/Postings", name := "add", desc := "(III)V" } : Jvm.MethodName) prog_14_method_2_code (4 : Nat) (Option.none : Option Jvm.ClassFile.FieldType)).before args0 about1 = true := code_word (m := ⟨2, 1⟩) (meth := k2m1) (c := k2c1) (by decide +kernel) rfl rfl rfl (by decide +kernel)
set_option maxRecDepth 65536 in
theorem w_c7 : (Jvm.Cond.code ({ cls := "java/lang/Math", name := "max", desc := "(II)I" } : Jvm.MethodName) jdk_29_method_65_code (2 : Nat) (Option.some Jvm.ClassFile.FieldType.int)).before args0 about1 = true := code_word (m := ⟨4, 1⟩) (meth := k4m1) (c := k4c1) (by decide +kernel) rfl rfl rfl (by decide +kernel)
def codes1 : List Jvm.Cond := [Jvm.Cond.code x code maxLocals ret, Jvm.Cond.code ({ cls := "com/example/lean_scorer/leanscorer/Postings", name := "<init>", desc := "()V" } : Jvm.MethodName) prog_14_method_1_code (1 : Nat) (Option.none : Option Jvm.ClassFile.FieldType), Jvm.Cond.code ({ cls := "java/lang/Object", name := "<init>", desc := "()V" } : Jvm.MethodName) object_method_1_code (1 : Nat) (Option.none : Option Jvm.ClassFile.FieldType), Jvm.Cond.code ({ cls := "com/example/lean_scorer/leanscorer/Postings", name := "trim", desc := "()V" } : Jvm.MethodName) prog_14_method_5_code (1 : Nat) (Option.none : Option Jvm.ClassFile.FieldType), Jvm.Cond.code ({ cls := "java/util/Arrays", name := "copyOf", desc := "([II)[I" } : Jvm.MethodName) jdk_65_method_123_code (3 : Nat) (Option.some (Jvm.ClassFile.FieldType.array Jvm.ClassFile.FieldType.int)), Jvm.Cond.code ({ cls := "java/lang/Math", name := "min", desc := "(II)I" } : Jvm.MethodName) jdk_29_method_69_code (2 : Nat) (Option.some Jvm.ClassFile.FieldType.int), Jvm.Cond.code ({ cls := "com/example/lean_scorer/leanscorer/Postings", name := "add", desc := "(III)V" } : Jvm.MethodName) prog_14_method_2_code (4 : Nat) (Option.none : Option Jvm.ClassFile.FieldType), Jvm.Cond.code ({ cls := "java/lang/Math", name := "max", desc := "(II)I" } : Jvm.MethodName) jdk_29_method_65_code (2 : Nat) (Option.some Jvm.ClassFile.FieldType.int)]
set_option maxRecDepth 65536 in
theorem codes_eq : words1.filter isCode = codes1 := rfl
theorem w_codes : ∀ c ∈ words1.filter isCode, c.before args0 about1 = true := by
  rw [codes_eq]
  intro c hc
  simp only [codes1, List.mem_cons, List.not_mem_nil, or_false] at hc
  rcases hc with rfl | rfl | rfl | rfl | rfl | rfl | rfl | rfl
  · exact w_c0
  · exact w_c1
  · exact w_c2
  · exact w_c3
  · exact w_c4
  · exact w_c5
  · exact w_c6
  · exact w_c7
set_option maxRecDepth 65536 in
theorem w_t1 : (words1.take 24).all (fun c => isCode c || c.before args0 about1) = true := by decide +kernel
set_option maxRecDepth 65536 in
theorem w_t2 : ((words1.drop 24).take 24).all (fun c => isCode c || c.before args0 about1) = true := by decide +kernel
set_option maxRecDepth 65536 in
theorem w_t3 : ((words1.drop 24).drop 24).all (fun c => isCode c || c.before args0 about1) = true := by decide +kernel
theorem w_tables : (allAtoms (Jvm.Cond.code x code maxLocals ret :: tables_1)).before args0 about1 = true := by
  rw [allAtoms_all]
  show words1.all (fun c => c.before args0 about1) = true
  refine all_split ?_ w_codes
  rw [← List.take_append_drop 24 words1, List.all_append, w_t1, ← List.take_append_drop 24 (words1.drop 24), List.all_append, w_t2, w_t3]
  rfl
set_option maxRecDepth 65536 in
theorem w_case : (Jvm.Cond.and given_1 narrow_1).before args0 about1 = true := by decide +kernel
theorem w_applies : (headSpec (Jvm.Cond.code x code maxLocals ret :: tables_1) room_1).applies x e0.platform about1 = true :=
  (Spec.applies_iff w_frames).mpr ⟨w_running, w_runnable, w_alone, w_named, w_hears, w_ripe, w_room, w_tables⟩
theorem atStart : AtStart classFile x code maxLocals ret World_1 tables_1 room_1 Calls_1 rest_1 Pre_1 launch0 p0 e0 about1 theMethod args0 below0 :=
  ⟨lists_1, trivial, launch0.admits_env _ _ _, launch0.least_env, fairChoices_fair.cas, fairChoices_fair.clock, w_frames, w_args, w_heap, w_applies, trivial, trivial, w_case⟩
end start1
theorem witness_1 : WitnessClaimed_1 := ⟨start1.p0, start1.e0, start1.about1, start1.theMethod, start1.args0, start1.below0, start1.atStart⟩
end Jvm.Pilot.@@N@@
