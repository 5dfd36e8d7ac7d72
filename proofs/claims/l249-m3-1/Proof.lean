import JvmDerived
import JvmDerived.Pilot.@@N@@Statement
import JvmDerived.Pilot.@@N@@Code
set_option linter.unusedVariables false
set_option linter.unusedSimpArgs false
namespace Jvm.Pilot.@@N@@
open Jvm Jvm.ClassFile Sem Op Lib Jvm.Free Jvm.Stand Jvm.LawKit Jvm.RoadKit Bundle Jvm.Pilot.@@N@@.Jvm.D
theorem own_w {a0 : Array Value} {Z : State} (hw : ∀ d ∈ tables_1, d.before a0 Z = true) (i : Nat) {d : Jvm.Cond} (h : tables_1[i]? = some d) : d.before a0 Z = true := hw d (List.mem_of_getElem? h)
section Own
variable {p : Program} {l : Launch} {e : Env} {R : Room} {s : State} {m : MethodId} {args : Array Value} {below : List Frame} {meth : Method} {c : Code} {T T' : State} {locs : List Loc} {cells slots : Nat} {g g' : JFrame} {K : Outcome → State → Prop} {Q : Option Value → Heap → List Loc → Prop} {kc ks : Nat}
/-- from this state, with this frame on top, the run comes to an end at which K holds -/
def own_E (p : Program) (e : Env) (below : List Frame) (K : Outcome → State → Prop) (T : State) (g : JFrame) : Prop :=
  ∃ s₂ o, Steps p.tables e below (T.setTop g) s₂ ∧ s₂.status = .running ∧ Ended s₂ below o ∧ K o s₂
def own_K (Q : Option Value → Heap → List Loc → Prop) (s : State) (kc ks : Nat) : Outcome → State → Prop :=
  fun o U' => ∃ v L, o = .returned v ∧ Q v U'.heap L ∧ FrameEnd s o U' L kc ks
theorem own_st (st : ∀ t, Steps p.tables e below (T'.setTop g') t → Steps p.tables e below (T.setTop g) t) (k : own_E p e below K T' g') : own_E p e below K T g := by
  obtain ⟨s2, o, h1, h2⟩ := k
  exact ⟨s2, o, st _ h1, h2⟩
theorem own_tr (st : Steps p.tables e below (T.setTop g) (T'.setTop g')) (k : own_E p e below K T' g') : own_E p e below K T g :=
  own_st (fun _ h => st.trans h) k
theorem own_pre (q : g = g') (k : own_E p e below K T g') : own_E p e below K T g := q ▸ k
theorem own_end (X : Stand p l e R s m args below meth c T locs cells slots) (hlk : meth.locks = false) {v : Option Value} (hv : meth.sig.returnType = none → v = none)
    (hr : ∀ fs : List Frame, (∀ (f : JFrame) (acts : List Action), f.method = m → f.locked = none → f.entered = [] → (doReturn e (T.setTop f) acts v).1 = T.setFrames fs) → Steps p.tables e below (T.setTop g) (T.setFrames fs))
    (hc : cells ≤ kc) (hs : slots ≤ ks) (hQ : Q v T.heap locs) : own_E p e below (own_K Q s kc ks) T g := by
  obtain ⟨fs, h1, hrun, hended, hW, hsame⟩ := X.leave (v := v) hv hlk
  exact ⟨_, _, hr fs h1, hrun, hended, _, _, rfl, hQ, ⟨_, rfl⟩, hW, hsame.mono hc hs⟩
theorem own_retV (X : Stand p l e R s m args below meth c T locs cells slots) (hx : p.tables.exec = Jvm.exec) (hlk : meth.locks = false) {pc : Nat} {Ls : Array Slot} (hret : meth.sig.returnType = none)
    (hd : decode c.code pc = .ok (.return_, 1)) (hc : cells ≤ kc) (hs : slots ≤ ks) (hQ : Q none T.heap locs) : own_E p e below (own_K Q s kc ks) T (mkF m pc Ls []) :=
  own_end X hlk (fun _ => rfl) (fun fs h => X.returnOut hx hret hd h) hc hs hQ
theorem own_retG (X : Stand p l e R s m args below meth c T locs cells slots) (hx : p.tables.exec = Jvm.exec) (hlk : meth.locks = false) {pc : Nat} {Ls : Array Slot} {w : Value} {t : FieldType} {i : Instr} {rest : List Value} (hret : meth.sig.returnType = some t) (hn : narrow t w = w)
    (hi : (i = .ireturn ∧ (t = .int ∨ t = .boolean ∨ t = .byte ∨ t = .char ∨ t = .short) ∧ ∃ z, w = .int z) ∨ (i = .lreturn ∧ t = .long ∧ ∃ z, w = .long z) ∨ (i = .dreturn ∧ t = .double ∧ ∃ z, w = .double z) ∨ (i = .freturn ∧ t = .float ∧ ∃ z, w = .float z) ∨ (i = .areturn ∧ t.isReference = true ∧ w.isRef = true))
    (hd : decode c.code pc = .ok (i, 1)) (hc : cells ≤ kc) (hs : slots ≤ ks) (hQ : Q (some w) T.heap locs) : own_E p e below (own_K Q s kc ks) T (mkF m pc Ls (w :: rest)) :=
  own_end X hlk (fun h => by rw [hret] at h; cases h) (fun fs h => retOut X hx hret hn hi hd h) hc hs hQ
theorem own_retI (X : Stand p l e R s m args below meth c T locs cells slots) (hx : p.tables.exec = Jvm.exec) (hlk : meth.locks = false) {pc : Nat} {Ls : Array Slot} {z : Int32} {rest : List Value} (hret : meth.sig.returnType = some .int)
    (hd : decode c.code pc = .ok (.ireturn, 1)) (hc : cells ≤ kc) (hs : slots ≤ ks) (hQ : Q (some (.int z)) T.heap locs) : own_E p e below (own_K Q s kc ks) T (mkF m pc Ls (.int z :: rest)) :=
  own_retG X hx hlk hret rfl (Or.inl ⟨rfl, Or.inl rfl, z, rfl⟩) hd hc hs hQ
theorem own_retS (X : Stand p l e R s m args below meth c T locs cells slots) (hx : p.tables.exec = Jvm.exec) (hlk : meth.locks = false) {pc : Nat} {Ls : Array Slot} {z : Int32} {t : FieldType} {rest : List Value} (hret : meth.sig.returnType = some t) (hn : narrow t (.int z) = .int z)
    (ht : t = .int ∨ t = .boolean ∨ t = .byte ∨ t = .char ∨ t = .short) (hd : decode c.code pc = .ok (.ireturn, 1)) (hc : cells ≤ kc) (hs : slots ≤ ks) (hQ : Q (some (.int z)) T.heap locs) : own_E p e below (own_K Q s kc ks) T (mkF m pc Ls (.int z :: rest)) :=
  own_retG X hx hlk hret hn (Or.inl ⟨rfl, ht, z, rfl⟩) hd hc hs hQ
theorem own_retN (X : Stand p l e R s m args below meth c T locs cells slots) (hx : p.tables.exec = Jvm.exec) (hlk : meth.locks = false) {pc : Nat} {Ls : Array Slot} {z : Int32} {t : FieldType} {rest : List Value} (hret : meth.sig.returnType = some t)
    (ht : t = .boolean ∨ t = .byte ∨ t = .char ∨ t = .short) (hd : decode c.code pc = .ok (.ireturn, 1)) (hc : cells ≤ kc) (hs : slots ≤ ks) (hQ : Q (some (.int (nar t z))) T.heap locs) : own_E p e below (own_K Q s kc ks) T (mkF m pc Ls (.int z :: rest)) :=
  own_end X hlk (fun h => by rw [hret] at h; cases h) (fun fs h => retN X hx hret ht hd h) hc hs hQ
theorem own_retJ (X : Stand p l e R s m args below meth c T locs cells slots) (hx : p.tables.exec = Jvm.exec) (hlk : meth.locks = false) {pc : Nat} {Ls : Array Slot} {z : Int64} {rest : List Value} (hret : meth.sig.returnType = some .long)
    (hd : decode c.code pc = .ok (.lreturn, 1)) (hc : cells ≤ kc) (hs : slots ≤ ks) (hQ : Q (some (.long z)) T.heap locs) : own_E p e below (own_K Q s kc ks) T (mkF m pc Ls (.long z :: rest)) :=
  own_retG X hx hlk hret rfl (Or.inr (Or.inl ⟨rfl, rfl, z, rfl⟩)) hd hc hs hQ
theorem own_retA (X : Stand p l e R s m args below meth c T locs cells slots) (hx : p.tables.exec = Jvm.exec) (hlk : meth.locks = false) {pc : Nat} {Ls : Array Slot} {w : Value} {t : FieldType} {rest : List Value} (hret : meth.sig.returnType = some t) (ht : t.isReference = true) (hw : w.isRef = true)
    (hd : decode c.code pc = .ok (.areturn, 1)) (hc : cells ≤ kc) (hs : slots ≤ ks) (hQ : Q (some w) T.heap locs) : own_E p e below (own_K Q s kc ks) T (mkF m pc Ls (w :: rest)) :=
  own_retG X hx hlk hret (by cases w <;> cases t <;> first | rfl | (simp [Value.isRef] at hw) | (simp [FieldType.isReference] at ht)) (Or.inr (Or.inr (Or.inr (Or.inr ⟨rfl, ht, hw⟩)))) hd hc hs hQ
end Own
theorem own_StaK {Z : State} {h h' : Heap} {C n d : String} {v : Value} (F : Sta Z h C n d v) (K : Keep h h' []) : Sta Z h' C n d v := Sta.ext ⟨K.1, fun a c q => K.2.1 a c q nin0⟩ F
section OwnArr
variable {p : Program} {l : Launch} {e : Env} {R : Room} {s : State} {m : MethodId} {args : Array Value} {below : List Frame} {meth : Method} {c : Code} {T : State} {locs : List Loc} {cells slots : Nat} {Z : State} {h : Heap} {a : Addr} {k : ClassId} {z : Int32} {vs : List Value} {dv : Value}
theorem own_alen (X : Stand p l e R s m args below meth c T locs cells slots) (hx : p.tables.exec = Jvm.exec) (hZ : Z.Warmed39 s.vm) (eT : T.heap = h) {ty : FieldType} (F : Arv Z h a k ty z vs dv) {g : JFrame} (hg : g.method = m) {rest : List Value} (hs : g.stack = .ref a :: rest) (hd : decode c.code g.pc = .ok (.arraylength, 1)) :
    ∀ target, Steps p.tables e below (T.setTop { g with pc := g.pc + 1, stack := .int z :: rest }) target → Steps p.tables e below (T.setTop g) target := by
  obtain ⟨cl, A, q, S, N, H, G⟩ := F
  intro target hr
  refine X.arraylength hx (by rw [eT]; exact A.1) (State.isArrayOf_alike hZ.alike A.2.1) hg hs hd _ ?_
  rw [len_of S N]; exact hr
theorem own_ald (X : Stand p l e R s m args below meth c T locs cells slots) (hx : p.tables.exec = Jvm.exec) (hZ : Z.Warmed39 s.vm) (eT : T.heap = h) (F : Arv Z h a k .int z vs dv) {j : Int32} (hj : ¬ j < 0 ∧ j < z) {v : Value} (hv : vs.getD j.toNatClampNeg dv = v) {g : JFrame} (hg : g.method = m) {rest : List Value} (hs : g.stack = .int j :: .ref a :: rest) (hd : decode c.code g.pc = .ok (.iaload, 1)) :
    ∀ target, Steps p.tables e below (T.setTop { g with pc := g.pc + 1, stack := v :: rest }) target → Steps p.tables e below (T.setTop g) target := by
  obtain ⟨cl, A, q, S, N, H, G⟩ := F
  have hin := inb_of S hj
  exact X.iaload hx (by rw [eT]; exact A.1) (State.isArrayOf_alike hZ.alike A.2.1) A.2.2 hin (H.at hin hv) hg hs hd
theorem own_ast (X : Stand p l e R s m args below meth c T locs cells slots) (hx : p.tables.exec = Jvm.exec) (hZ : Z.Warmed39 s.vm) (eT : T.heap = h) (F : Arv Z h a k .int z vs dv) {j : Int32} (hj : ¬ j < 0 ∧ j < z) {x : Int32} {i : Nat} (hi : j.toNatClampNeg = i) (hl : i < vs.length) {g : JFrame} (hg : g.method = m) {rest : List Value} (hs : g.stack = .int x :: .int j :: .ref a :: rest) (hd : decode c.code g.pc = .ok (.iastore, 1)) :
    ∃ T' h', Stand p l e R s m args below meth c T' (locs ++ [⟨a, j.toNatClampNeg⟩]) cells slots ∧ T'.heap = h' ∧ Wr h h' a j.toNatClampNeg (.int x) ∧ Arv Z h' a k .int z (vs.set i (.int x)) dv ∧ ∀ target, Steps p.tables e below (T'.setTop { g with pc := g.pc + 1, stack := rest }) target → Steps p.tables e below (T.setTop g) target := by
  obtain ⟨cl, A, q, S, N, H, G⟩ := F
  have hin := inb_of S hj
  obtain ⟨T', h', X', e', W, st⟩ := stI X hx hZ eT A hin hg hs hd
  exact ⟨T', h', X', e', W, Arv.set A q S N H G rfl W i hi hl, st⟩
theorem own_cst (X : Stand p l e R s m args below meth c T locs cells slots) (hx : p.tables.exec = Jvm.exec) (hZ : Z.Warmed39 s.vm) (eT : T.heap = h) (F : Arv Z h a k .char z vs dv) {j : Int32} (hj : ¬ j < 0 ∧ j < z) {x : Int32} {i : Nat} (hi : j.toNatClampNeg = i) (hl : i < vs.length) {g : JFrame} (hg : g.method = m) {rest : List Value} (hs : g.stack = .int x :: .int j :: .ref a :: rest) (hd : decode c.code g.pc = .ok (.castore, 1)) :
    ∃ T' h', Stand p l e R s m args below meth c T' (locs ++ [⟨a, j.toNatClampNeg⟩]) cells slots ∧ T'.heap = h' ∧ Wr h h' a j.toNatClampNeg (.int (nar .char x)) ∧ Arv Z h' a k .char z (vs.set i (.int (nar .char x))) dv ∧ ∀ target, Steps p.tables e below (T'.setTop { g with pc := g.pc + 1, stack := rest }) target → Steps p.tables e below (T.setTop g) target := by
  obtain ⟨cl, A, q, S, N, H, G⟩ := F
  have hin := inb_of S hj
  obtain ⟨T', h', X', e', W, st⟩ := stC X hx hZ eT A hin hg hs hd
  exact ⟨T', h', X', e', W, Arv.set A q S N H G (fits_nar_char _) W i hi hl, st⟩
end OwnArr
abbrev own_y0 : MethodName := ⟨"java/lang/Math", "min", "(II)I"⟩
theorem own_d_jdk_29_method_69_0 : decode jdk_29_method_69_code 0 = .ok (.iload_n 0, 1) := by decide +kernel
theorem own_d_jdk_29_method_69_1 : decode jdk_29_method_69_code 1 = .ok (.iload_n 1, 1) := by decide +kernel
theorem own_d_jdk_29_method_69_2 : decode jdk_29_method_69_code 2 = .ok (.if_icmp .gt 7, 3) := by decide +kernel
theorem own_d_jdk_29_method_69_9 : decode jdk_29_method_69_code 9 = .ok (.iload_n 1, 1) := by decide +kernel
theorem own_d_jdk_29_method_69_10 : decode jdk_29_method_69_code 10 = .ok (.ireturn, 1) := by decide +kernel
theorem own_d_jdk_29_method_69_5 : decode jdk_29_method_69_code 5 = .ok (.iload_n 0, 1) := by decide +kernel
theorem own_d_jdk_29_method_69_6 : decode jdk_29_method_69_code 6 = .ok (.goto 4, 3) := by decide +kernel
def own_minA_Q (p1 : Int32) (p2 : Int32) (h0 : Heap) (v : Option Value) (h : Heap) (L : List Loc) : Prop := ((v = some (.int p2) ∧ p2 < p1) ∨ (v = some (.int p1) ∧ ¬ (p2 < p1))) ∧ h = h0 ∧ L = []
theorem own_minA_ef (m : MethodId) (p1 : Int32) (p2 : Int32) : entryFrame m #[(.int p1), (.int p2)] 2 = mkF m 0 #[.val (.int p1), .val (.int p2)] [] := by first | (simp [entryFrame, mkF, argsToLocals, Value.category]; done) | rfl
set_option maxRecDepth 65536 in
set_option maxHeartbeats 40000000 in
theorem own_minA (l : Launch) (Z : State) (a0 : Array Value) (hw : ∀ d ∈ tables_1, d.before a0 Z = true) (ws : List Jvm.Cond) (p1 : Int32) (p2 : Int32) (h0 : Heap) (n0 : Nat) (Z0 : n0 ≤ h0.size)  :
    MetFree l own_y0 (head1 (Jvm.Cond.code own_y0 jdk_29_method_69_code 2 (some .int) :: ws) ({ frames := 0, cells := 0, slots := 0, locals := 0 } : Room)) (fun a U => a = #[(.int p1), (.int p2)] ∧ Z.Warmed39 U.vm ∧ U.heap = h0) (fun _ _ _ _ _ => True) (fun _ U o U' => ∃ v L, o = .returned v ∧ own_minA_Q p1 p2 h0 v U'.heap L ∧ FrameEnd U o U' L ({ frames := 0, cells := 0, slots := 0, locals := 0 } : Room).cells ({ frames := 0, cells := 0, slots := 0, locals := 0 } : Room).slots) := by
  refine MetFree.of_bodySF (by decide +kernel : plainFor own_y0 = true) hisR ?_
  intro p e s m args below meth c s₁ Bd hml0 hP hK
  obtain ⟨rfl, hZ, hh⟩ := hP
  have hx := Bd.exec
  have hby := Bd.bytes
  have hml : c.maxLocals = 2 := hml0
  have hown : s.vm.findClass "java/lang/Math" = some m.cls := findClass_of_methodNamed Bd.named
  have hnm := (name_of_methodNamed Bd.named Bd.method).1
  have X0 : Stand p l e ({ frames := 0, cells := 0, slots := 0, locals := 0 } : Room) s m #[(.int p1), (.int p2)] below meth c s₁ [] 0 0 := Stand.of_body Bd
  have e0 : s₁.heap = h0 := by rw [← hh, Bd.state]; rfl
  show own_E p e below (own_K (own_minA_Q p1 p2 h0) s ({ frames := 0, cells := 0, slots := 0, locals := 0 } : Room).cells ({ frames := 0, cells := 0, slots := 0, locals := 0 } : Room).slots) s₁ (entryFrame m #[(.int p1), (.int p2)] 2)
  refine own_pre (own_minA_ef m p1 p2) ?_
  show own_E p e below _ s₁ (mkF m 0 #[iv p1, iv p2] [])
  refine own_st (fun t k => XS.iloadN X0.here hx rfl (hb hby own_d_jdk_29_method_69_0) rfl k) ?_
  show own_E p e below _ s₁ (mkF m 1 #[iv p1, iv p2] [.int p1])
  refine own_st (fun t k => XS.iloadN X0.here hx rfl (hb hby own_d_jdk_29_method_69_1) rfl k) ?_
  show own_E p e below _ s₁ (mkF m 2 #[iv p1, iv p2] [.int p2, .int p1])
  by_cases hc1 : p2 < p1
  · refine own_st (fun t k => XS.icmpYes X0.here hx rfl (pc0 := 2) (pc' := 9) rfl (hb hby own_d_jdk_29_method_69_2) rfl (tlt hc1).2.2.1 (by decide) (by decide) k) ?_
    show own_E p e below _ s₁ (mkF m 9 #[iv p1, iv p2] [])
    refine own_st (fun t k => XS.iloadN X0.here hx rfl (hb hby own_d_jdk_29_method_69_9) rfl k) ?_
    show own_E p e below _ s₁ (mkF m 10 #[iv p1, iv p2] [.int p2])
    refine own_retI X0 hx Bd.notSynchronized Bd.returns (hb hby own_d_jdk_29_method_69_10) (by decide) (by decide) ?_
    exact ⟨(Or.inl ⟨rfl, hc1⟩), e0, rfl⟩
  · refine own_st (fun t k => XS.icmpNo X0.here hx rfl (hb hby own_d_jdk_29_method_69_2) rfl (flt hc1).2.2.1 k) ?_
    show own_E p e below _ s₁ (mkF m 5 #[iv p1, iv p2] [])
    refine own_st (fun t k => XS.iloadN X0.here hx rfl (hb hby own_d_jdk_29_method_69_5) rfl k) ?_
    show own_E p e below _ s₁ (mkF m 6 #[iv p1, iv p2] [.int p1])
    refine own_st (fun t k => XS.goto X0.here hx rfl (pc0 := 6) (pc' := 10) rfl (hb hby own_d_jdk_29_method_69_6) (by decide) (by decide) k) ?_
    show own_E p e below _ s₁ (mkF m 10 #[iv p1, iv p2] [.int p1])
    refine own_retI X0 hx Bd.notSynchronized Bd.returns (hb hby own_d_jdk_29_method_69_10) (by decide) (by decide) ?_
    exact ⟨(Or.inr ⟨rfl, hc1⟩), e0, rfl⟩
def own_min (x y : Int32) : Int32 := if y < x then y else x
def own_minF_Q (p1 : Int32) (p2 : Int32) (h0 : Heap) (v : Option Value) (h : Heap) (L : List Loc) : Prop := v = some (.int (own_min p1 p2)) ∧ h = h0 ∧ L = []
theorem own_minF_ef (m : MethodId) (p1 : Int32) (p2 : Int32) : entryFrame m #[(.int p1), (.int p2)] 2 = mkF m 0 #[.val (.int p1), .val (.int p2)] [] := by first | (simp [entryFrame, mkF, argsToLocals, Value.category]; done) | rfl
set_option maxRecDepth 65536 in
set_option maxHeartbeats 40000000 in
theorem own_minF (l : Launch) (Z : State) (a0 : Array Value) (hw : ∀ d ∈ tables_1, d.before a0 Z = true) (ws : List Jvm.Cond) (p1 : Int32) (p2 : Int32) (h0 : Heap) (n0 : Nat) (Z0 : n0 ≤ h0.size)  :
    MetFree l own_y0 (head1 (Jvm.Cond.code own_y0 jdk_29_method_69_code 2 (some .int) :: ws) ({ frames := 0, cells := 0, slots := 0, locals := 0 } : Room)) (fun a U => a = #[(.int p1), (.int p2)] ∧ Z.Warmed39 U.vm ∧ U.heap = h0) (fun _ _ _ _ _ => True) (fun _ U o U' => ∃ v L, o = .returned v ∧ own_minF_Q p1 p2 h0 v U'.heap L ∧ FrameEnd U o U' L ({ frames := 0, cells := 0, slots := 0, locals := 0 } : Room).cells ({ frames := 0, cells := 0, slots := 0, locals := 0 } : Room).slots) := by
  refine MetFree.of_bodySF (by decide +kernel : plainFor own_y0 = true) hisR ?_
  intro p e s m args below meth c s₁ Bd hml0 hP hK
  obtain ⟨rfl, hZ, hh⟩ := hP
  have hx := Bd.exec
  have hby := Bd.bytes
  have hml : c.maxLocals = 2 := hml0
  have hown : s.vm.findClass "java/lang/Math" = some m.cls := findClass_of_methodNamed Bd.named
  have hnm := (name_of_methodNamed Bd.named Bd.method).1
  have X0 : Stand p l e ({ frames := 0, cells := 0, slots := 0, locals := 0 } : Room) s m #[(.int p1), (.int p2)] below meth c s₁ [] 0 0 := Stand.of_body Bd
  have e0 : s₁.heap = h0 := by rw [← hh, Bd.state]; rfl
  show own_E p e below (own_K (own_minF_Q p1 p2 h0) s ({ frames := 0, cells := 0, slots := 0, locals := 0 } : Room).cells ({ frames := 0, cells := 0, slots := 0, locals := 0 } : Room).slots) s₁ (entryFrame m #[(.int p1), (.int p2)] 2)
  refine own_pre (own_minF_ef m p1 p2) ?_
  show own_E p e below _ s₁ (mkF m 0 #[iv p1, iv p2] [])
  refine own_st (fun t k => XS.iloadN X0.here hx rfl (hb hby own_d_jdk_29_method_69_0) rfl k) ?_
  show own_E p e below _ s₁ (mkF m 1 #[iv p1, iv p2] [.int p1])
  refine own_st (fun t k => XS.iloadN X0.here hx rfl (hb hby own_d_jdk_29_method_69_1) rfl k) ?_
  show own_E p e below _ s₁ (mkF m 2 #[iv p1, iv p2] [.int p2, .int p1])
  by_cases hc1 : p2 < p1
  · refine own_st (fun t k => XS.icmpYes X0.here hx rfl (pc0 := 2) (pc' := 9) rfl (hb hby own_d_jdk_29_method_69_2) rfl (tlt hc1).2.2.1 (by decide) (by decide) k) ?_
    show own_E p e below _ s₁ (mkF m 9 #[iv p1, iv p2] [])
    refine own_st (fun t k => XS.iloadN X0.here hx rfl (hb hby own_d_jdk_29_method_69_9) rfl k) ?_
    show own_E p e below _ s₁ (mkF m 10 #[iv p1, iv p2] [.int p2])
    refine own_retI X0 hx Bd.notSynchronized Bd.returns (hb hby own_d_jdk_29_method_69_10) (by decide) (by decide) ?_
    exact ⟨by simp [own_min, hc1], e0, rfl⟩
  · refine own_st (fun t k => XS.icmpNo X0.here hx rfl (hb hby own_d_jdk_29_method_69_2) rfl (flt hc1).2.2.1 k) ?_
    show own_E p e below _ s₁ (mkF m 5 #[iv p1, iv p2] [])
    refine own_st (fun t k => XS.iloadN X0.here hx rfl (hb hby own_d_jdk_29_method_69_5) rfl k) ?_
    show own_E p e below _ s₁ (mkF m 6 #[iv p1, iv p2] [.int p1])
    refine own_st (fun t k => XS.goto X0.here hx rfl (pc0 := 6) (pc' := 10) rfl (hb hby own_d_jdk_29_method_69_6) (by decide) (by decide) k) ?_
    show own_E p e below _ s₁ (mkF m 10 #[iv p1, iv p2] [.int p1])
    refine own_retI X0 hx Bd.notSynchronized Bd.returns (hb hby own_d_jdk_29_method_69_10) (by decide) (by decide) ?_
    exact ⟨by simp [own_min, hc1], e0, rfl⟩
abbrev own_y1 : MethodName := ⟨"java/lang/Math", "max", "(II)I"⟩
theorem own_d_jdk_29_method_65_0 : decode jdk_29_method_65_code 0 = .ok (.iload_n 0, 1) := by decide +kernel
theorem own_d_jdk_29_method_65_1 : decode jdk_29_method_65_code 1 = .ok (.iload_n 1, 1) := by decide +kernel
theorem own_d_jdk_29_method_65_2 : decode jdk_29_method_65_code 2 = .ok (.if_icmp .lt 7, 3) := by decide +kernel
theorem own_d_jdk_29_method_65_9 : decode jdk_29_method_65_code 9 = .ok (.iload_n 1, 1) := by decide +kernel
theorem own_d_jdk_29_method_65_10 : decode jdk_29_method_65_code 10 = .ok (.ireturn, 1) := by decide +kernel
theorem own_d_jdk_29_method_65_5 : decode jdk_29_method_65_code 5 = .ok (.iload_n 0, 1) := by decide +kernel
theorem own_d_jdk_29_method_65_6 : decode jdk_29_method_65_code 6 = .ok (.goto 4, 3) := by decide +kernel
def own_max (x y : Int32) : Int32 := if x < y then y else x
def own_maxF_Q (p1 : Int32) (p2 : Int32) (h0 : Heap) (v : Option Value) (h : Heap) (L : List Loc) : Prop := v = some (.int (own_max p1 p2)) ∧ h = h0 ∧ L = []
theorem own_maxF_ef (m : MethodId) (p1 : Int32) (p2 : Int32) : entryFrame m #[(.int p1), (.int p2)] 2 = mkF m 0 #[.val (.int p1), .val (.int p2)] [] := by first | (simp [entryFrame, mkF, argsToLocals, Value.category]; done) | rfl
set_option maxRecDepth 65536 in
set_option maxHeartbeats 40000000 in
theorem own_maxF (l : Launch) (Z : State) (a0 : Array Value) (hw : ∀ d ∈ tables_1, d.before a0 Z = true) (ws : List Jvm.Cond) (p1 : Int32) (p2 : Int32) (h0 : Heap) (n0 : Nat) (Z0 : n0 ≤ h0.size)  :
    MetFree l own_y1 (head1 (Jvm.Cond.code own_y1 jdk_29_method_65_code 2 (some .int) :: ws) ({ frames := 0, cells := 0, slots := 0, locals := 0 } : Room)) (fun a U => a = #[(.int p1), (.int p2)] ∧ Z.Warmed39 U.vm ∧ U.heap = h0) (fun _ _ _ _ _ => True) (fun _ U o U' => ∃ v L, o = .returned v ∧ own_maxF_Q p1 p2 h0 v U'.heap L ∧ FrameEnd U o U' L ({ frames := 0, cells := 0, slots := 0, locals := 0 } : Room).cells ({ frames := 0, cells := 0, slots := 0, locals := 0 } : Room).slots) := by
  refine MetFree.of_bodySF (by decide +kernel : plainFor own_y1 = true) hisR ?_
  intro p e s m args below meth c s₁ Bd hml0 hP hK
  obtain ⟨rfl, hZ, hh⟩ := hP
  have hx := Bd.exec
  have hby := Bd.bytes
  have hml : c.maxLocals = 2 := hml0
  have hown : s.vm.findClass "java/lang/Math" = some m.cls := findClass_of_methodNamed Bd.named
  have hnm := (name_of_methodNamed Bd.named Bd.method).1
  have X0 : Stand p l e ({ frames := 0, cells := 0, slots := 0, locals := 0 } : Room) s m #[(.int p1), (.int p2)] below meth c s₁ [] 0 0 := Stand.of_body Bd
  have e0 : s₁.heap = h0 := by rw [← hh, Bd.state]; rfl
  show own_E p e below (own_K (own_maxF_Q p1 p2 h0) s ({ frames := 0, cells := 0, slots := 0, locals := 0 } : Room).cells ({ frames := 0, cells := 0, slots := 0, locals := 0 } : Room).slots) s₁ (entryFrame m #[(.int p1), (.int p2)] 2)
  refine own_pre (own_maxF_ef m p1 p2) ?_
  show own_E p e below _ s₁ (mkF m 0 #[iv p1, iv p2] [])
  refine own_st (fun t k => XS.iloadN X0.here hx rfl (hb hby own_d_jdk_29_method_65_0) rfl k) ?_
  show own_E p e below _ s₁ (mkF m 1 #[iv p1, iv p2] [.int p1])
  refine own_st (fun t k => XS.iloadN X0.here hx rfl (hb hby own_d_jdk_29_method_65_1) rfl k) ?_
  show own_E p e below _ s₁ (mkF m 2 #[iv p1, iv p2] [.int p2, .int p1])
  by_cases hc1 : p1 < p2
  · refine own_st (fun t k => XS.icmpYes X0.here hx rfl (pc0 := 2) (pc' := 9) rfl (hb hby own_d_jdk_29_method_65_2) rfl (tlt hc1).1 (by decide) (by decide) k) ?_
    show own_E p e below _ s₁ (mkF m 9 #[iv p1, iv p2] [])
    refine own_st (fun t k => XS.iloadN X0.here hx rfl (hb hby own_d_jdk_29_method_65_9) rfl k) ?_
    show own_E p e below _ s₁ (mkF m 10 #[iv p1, iv p2] [.int p2])
    refine own_retI X0 hx Bd.notSynchronized Bd.returns (hb hby own_d_jdk_29_method_65_10) (by decide) (by decide) ?_
    exact ⟨by simp [own_max, hc1], e0, rfl⟩
  · refine own_st (fun t k => XS.icmpNo X0.here hx rfl (hb hby own_d_jdk_29_method_65_2) rfl (flt hc1).1 k) ?_
    show own_E p e below _ s₁ (mkF m 5 #[iv p1, iv p2] [])
    refine own_st (fun t k => XS.iloadN X0.here hx rfl (hb hby own_d_jdk_29_method_65_5) rfl k) ?_
    show own_E p e below _ s₁ (mkF m 6 #[iv p1, iv p2] [.int p1])
    refine own_st (fun t k => XS.goto X0.here hx rfl (pc0 := 6) (pc' := 10) rfl (hb hby own_d_jdk_29_method_65_6) (by decide) (by decide) k) ?_
    show own_E p e below _ s₁ (mkF m 10 #[iv p1, iv p2] [.int p1])
    refine own_retI X0 hx Bd.notSynchronized Bd.returns (hb hby own_d_jdk_29_method_65_10) (by decide) (by decide) ?_
    exact ⟨by simp [own_max, hc1], e0, rfl⟩
theorem own_d_jdk_65_method_123_0 : decode jdk_65_method_123_code 0 = .ok (.iload_n 1, 1) := by decide +kernel
theorem own_d_jdk_65_method_123_1 : decode jdk_65_method_123_code 1 = .ok (.aload_n 0, 1) := by decide +kernel
theorem own_d_jdk_65_method_123_2 : decode jdk_65_method_123_code 2 = .ok (.arraylength, 1) := by decide +kernel
theorem own_d_jdk_65_method_123_3 : decode jdk_65_method_123_code 3 = .ok (.if_icmp .ne 11, 3) := by decide +kernel
theorem own_d_jdk_65_method_123_14 : decode jdk_65_method_123_code 14 = .ok (.iload_n 1, 1) := by decide +kernel
theorem own_d_jdk_65_method_123_15 : decode jdk_65_method_123_code 15 = .ok (.newarray .int, 2) := by decide +kernel
theorem own_d_jdk_65_method_123_17 : decode jdk_65_method_123_code 17 = .ok (.astore_n 2, 1) := by decide +kernel
theorem own_d_jdk_65_method_123_18 : decode jdk_65_method_123_code 18 = .ok (.aload_n 0, 1) := by decide +kernel
theorem own_d_jdk_65_method_123_19 : decode jdk_65_method_123_code 19 = .ok (.iconst 0, 1) := by decide +kernel
theorem own_d_jdk_65_method_123_20 : decode jdk_65_method_123_code 20 = .ok (.aload_n 2, 1) := by decide +kernel
theorem own_d_jdk_65_method_123_21 : decode jdk_65_method_123_code 21 = .ok (.iconst 0, 1) := by decide +kernel
theorem own_d_jdk_65_method_123_22 : decode jdk_65_method_123_code 22 = .ok (.aload_n 0, 1) := by decide +kernel
theorem own_d_jdk_65_method_123_23 : decode jdk_65_method_123_code 23 = .ok (.arraylength, 1) := by decide +kernel
theorem own_d_jdk_65_method_123_24 : decode jdk_65_method_123_code 24 = .ok (.iload_n 1, 1) := by decide +kernel
theorem own_d_jdk_65_method_123_25 : decode jdk_65_method_123_code 25 = .ok (.invokestatic 304, 3) := by decide +kernel
theorem own_pd_2 : parseMethodDescriptor "(II)I" = some ⟨[.int, .int], some .int⟩ := by decide +kernel
theorem own_d_jdk_65_method_123_28 : decode jdk_65_method_123_code 28 = .ok (.invokestatic 150, 3) := by decide +kernel
theorem own_d_jdk_65_method_123_31 : decode jdk_65_method_123_code 31 = .ok (.aload_n 2, 1) := by decide +kernel
theorem own_d_jdk_65_method_123_32 : decode jdk_65_method_123_code 32 = .ok (.areturn, 1) := by decide +kernel
def own_copy1_2_Q (Z : State) (a1 : Addr) (kc1 : ClassId) (ea0 : Int32) (h0 : Heap) (n0 : Nat) (v : Option Value) (h : Heap) (L : List Loc) : Prop := ∃ (o0 : Addr), ∃ (o1 : ClassId), v = some (.ref o0) ∧ Fr n0 L ∧ Keep h0 h [] ∧ h0.size ≤ o0 ∧ Arv Z h o0 o1 .int (2 : Int32) [(.int ea0), (.int (0 : Int32))] (.int (0 : Int32))
abbrev own_y2 : MethodName := ⟨"java/util/Arrays", "copyOf", "([II)[I"⟩
theorem own_pn_Arrays : plainName "java/util/Arrays" = true := by first | (simp [plainName, overriddenIn]; done) | decide +kernel
theorem own_copy1_2_ef (m : MethodId) (a1 : Addr) (kc1 : ClassId) (ea0 : Int32) : entryFrame m #[(.ref a1), (.int (2 : Int32))] 3 = mkF m 0 #[.val (.ref a1), .val (.int (2 : Int32)), .unset] [] := by first | (simp [entryFrame, mkF, argsToLocals, Value.category]; done) | rfl
set_option maxRecDepth 65536 in
set_option maxHeartbeats 40000000 in
theorem own_copy1_2 (l : Launch) (Z : State) (a0 : Array Value) (hw : ∀ d ∈ tables_1, d.before a0 Z = true) (ws : List Jvm.Cond) (a1 : Addr) (kc1 : ClassId) (ea0 : Int32) (h0 : Heap) (n0 : Nat) (Z0 : n0 ≤ h0.size) (V_a1 : Arv Z h0 a1 kc1 .int (1 : Int32) [(.int ea0)] (.int (0 : Int32))) :
    MetFree l own_y2 (head1 (Jvm.Cond.code own_y2 jdk_65_method_123_code 3 (some (.array .int)) :: ws) ({ frames := 1, cells := 1, slots := 2, locals := 40 } : Room)) (fun a U => a = #[(.ref a1), (.int (2 : Int32))] ∧ Z.Warmed39 U.vm ∧ U.heap = h0) (fun _ _ _ _ _ => True) (fun _ U o U' => ∃ v L, o = .returned v ∧ own_copy1_2_Q Z a1 kc1 ea0 h0 n0 v U'.heap L ∧ FrameEnd U o U' L ({ frames := 1, cells := 1, slots := 2, locals := 40 } : Room).cells ({ frames := 1, cells := 1, slots := 2, locals := 40 } : Room).slots) := by
  refine MetFree.of_bodySF (plainFor_of_name own_pn_Arrays) hisR ?_
  intro p e s m args below meth c s₁ Bd hml0 hP hK
  obtain ⟨rfl, hZ, hh⟩ := hP
  have hx := Bd.exec
  have hby := Bd.bytes
  have hml : c.maxLocals = 3 := hml0
  have hown : s.vm.findClass "java/util/Arrays" = some m.cls := findClass_of_methodNamed Bd.named
  have hnm := (name_of_methodNamed Bd.named Bd.method).1
  have X0 : Stand p l e ({ frames := 1, cells := 1, slots := 2, locals := 40 } : Room) s m #[(.ref a1), (.int (2 : Int32))] below meth c s₁ [] 0 0 := Stand.of_body Bd
  have e0 : s₁.heap = h0 := by rw [← hh, Bd.state]; rfl
  show own_E p e below (own_K (own_copy1_2_Q Z a1 kc1 ea0 h0 n0) s ({ frames := 1, cells := 1, slots := 2, locals := 40 } : Room).cells ({ frames := 1, cells := 1, slots := 2, locals := 40 } : Room).slots) s₁ (entryFrame m #[(.ref a1), (.int (2 : Int32))] 3)
  refine own_pre (own_copy1_2_ef m a1 kc1 ea0) ?_
  show own_E p e below _ s₁ (mkF m 0 #[rv a1, iv 2, .unset] [])
  refine own_st (fun t k => XS.iloadN X0.here hx rfl (hb hby own_d_jdk_65_method_123_0) rfl k) ?_
  show own_E p e below _ s₁ (mkF m 1 #[rv a1, iv 2, .unset] [.int 2])
  refine own_st (fun t k => XS.aloadN X0.here hx rfl (hb hby own_d_jdk_65_method_123_1) rfl rfl k) ?_
  show own_E p e below _ s₁ (mkF m 2 #[rv a1, iv 2, .unset] [.ref a1, .int 2])
  refine own_st (own_alen X0 hx hZ e0 V_a1 (g := (mkF m 2 #[rv a1, iv 2, .unset] [.ref a1, .int 2])) rfl rfl (hb hby own_d_jdk_65_method_123_2)) ?_
  show own_E p e below _ s₁ (mkF m 3 #[rv a1, iv 2, .unset] [.int 1, .int 2])
  refine own_st (fun t k => XS.icmpYes X0.here hx rfl (pc0 := 3) (pc' := 14) rfl (hb hby own_d_jdk_65_method_123_3) rfl (by decide) (by decide) (by decide) k) ?_
  show own_E p e below _ s₁ (mkF m 14 #[rv a1, iv 2, .unset] [])
  refine own_st (fun t k => XS.iloadN X0.here hx rfl (hb hby own_d_jdk_65_method_123_14) rfl k) ?_
  show own_E p e below _ s₁ (mkF m 15 #[rv a1, iv 2, .unset] [.int 2])
  obtain ⟨T1, h1, k1, X1, e1, E1, A1, st1⟩ := newP X0 hx hZ (own_w hw 10 rfl) e0 (g := (mkF m 15 #[rv a1, iv 2, .unset] [.int 2])) rfl (hb hby own_d_jdk_65_method_123_15) rfl (by decide) (cap := 2) (by decide) (by decide) (by decide) (by decide)
  obtain ⟨b1, g1⟩ : ∃ z, z = h0.size := ⟨_, rfl⟩
  rw [← g1] at A1 st1
  have ne_a1_b1 : a1 ≠ b1 := Nat.ne_of_lt (Nat.lt_of_lt_of_le V_a1.lt (Nat.le_of_eq g1.symm))
  have g_b1 : n0 ≤ b1 := Nat.le_trans Z0 (Nat.le_of_eq g1.symm)
  have sz_b1 : h0.size ≤ b1 := Nat.le_trans (Keep.refl h0 []).1 (Nat.le_of_eq g1.symm)
  have Z2 := Nat.le_trans Z0 E1.1
  have K3 : Keep h0 _ [] := (Keep.refl h0 []).ext E1
  have V1 : Arv Z h1 b1 k1 .int (2 : Int32) [(.int (0 : Int32)), (.int (0 : Int32))] (.int (0 : Int32)) := (Arv.new A1 (by decide)).pad (pad_rep [] (.int (0 : Int32)) 2)
  refine own_st st1 ?_
  show own_E p e below _ T1 (mkF m 17 #[rv a1, iv 2, .unset] [.ref b1])
  refine own_st (fun t k => XS.astoreN X1.here hx rfl (hb hby own_d_jdk_65_method_123_17) rfl rfl (l' := #[rv a1, iv 2, rv b1]) rfl k) ?_
  show own_E p e below _ T1 (mkF m 18 #[rv a1, iv 2, rv b1] [])
  refine own_st (fun t k => XS.aloadN X1.here hx rfl (hb hby own_d_jdk_65_method_123_18) rfl rfl k) ?_
  show own_E p e below _ T1 (mkF m 19 #[rv a1, iv 2, rv b1] [.ref a1])
  refine own_st (fun t k => XS.iconst X1.here hx rfl (hb hby own_d_jdk_65_method_123_19) k) ?_
  show own_E p e below _ T1 (mkF m 20 #[rv a1, iv 2, rv b1] [.int 0, .ref a1])
  refine own_st (fun t k => XS.aloadN X1.here hx rfl (hb hby own_d_jdk_65_method_123_20) rfl rfl k) ?_
  show own_E p e below _ T1 (mkF m 21 #[rv a1, iv 2, rv b1] [.ref b1, .int 0, .ref a1])
  refine own_st (fun t k => XS.iconst X1.here hx rfl (hb hby own_d_jdk_65_method_123_21) k) ?_
  show own_E p e below _ T1 (mkF m 22 #[rv a1, iv 2, rv b1] [.int 0, .ref b1, .int 0, .ref a1])
  refine own_st (fun t k => XS.aloadN X1.here hx rfl (hb hby own_d_jdk_65_method_123_22) rfl rfl k) ?_
  show own_E p e below _ T1 (mkF m 23 #[rv a1, iv 2, rv b1] [.ref a1, .int 0, .ref b1, .int 0, .ref a1])
  have B4 := (V_a1.ext E1)
  refine own_st (own_alen X1 hx hZ e1 B4 (g := (mkF m 23 #[rv a1, iv 2, rv b1] [.ref a1, .int 0, .ref b1, .int 0, .ref a1])) rfl rfl (hb hby own_d_jdk_65_method_123_23)) ?_
  show own_E p e below _ T1 (mkF m 24 #[rv a1, iv 2, rv b1] [.int 1, .int 0, .ref b1, .int 0, .ref a1])
  refine own_st (fun t k => XS.iloadN X1.here hx rfl (hb hby own_d_jdk_65_method_123_24) rfl k) ?_
  show own_E p e below _ T1 (mkF m 25 #[rv a1, iv 2, rv b1] [.int 2, .int 1, .int 0, .ref b1, .int 0, .ref a1])
  obtain ⟨_, _, ⟨T5, L5, k5, n5⟩, -, X5, ⟨Lc5, hQ5, l5, y5, z5⟩, st5⟩ := Jvm.LawKit.callS X1 hx (y := own_y0) hown (mvT hZ (own_w hw 38 rfl)) (mvT hZ (own_w hw 32 rfl)) (mvT hZ (own_w hw 29 rfl)) (mvT hZ (own_w hw 33 rfl)) (by decide) (backOf (W := 4) (own_minA l Z a0 hw [] (1 : Int32) (2 : Int32) h1 n0 Z2 ) hZ (own_w hw 33 rfl) (own_w hw 29 rfl) (by decide) (by decide)) (g := (mkF m 25 #[rv a1, iv 2, rv b1] [.int 2, .int 1, .int 0, .ref b1, .int 0, .ref a1])) rfl (by rw [hml]; rfl) (argsL := [(.int (1 : Int32)), (.int (2 : Int32))]) (rest := [(.int (0 : Int32)), (.ref b1), (.int (0 : Int32)), (.ref a1)]) (lenOf own_pd_2 rfl) rfl (by show 2 * 0 + _ ≤ _; exact Nat.le_of_eq rfl) (hb hby own_d_jdk_65_method_123_25) (fun _ _ => ⟨rfl, e1, (by decide : 1 + 0 ≤ _), (by decide : 2 + 0 ≤ _)⟩)
  dsimp only [Pt.U, Pt.locs, Pt.cells, Pt.slots] at X5 l5 y5 z5 st5 hQ5
  subst l5 y5 z5
  obtain ⟨hR5, e5, rfl⟩ := hQ5
  have N5 := Fr.app (Fr.nil n0) (Fr.nil n0)
  rcases hR5 with ⟨rfl, ha5_0⟩ | ⟨rfl, ha5_0⟩
  · exact absurd ha5_0 (by decide)
  · refine own_st st5 ?_
    show own_E p e below _ T5 (mkF m 28 #[rv a1, iv 2, rv b1] [.int 1, .int 0, .ref b1, .int 0, .ref a1])
    obtain ⟨T6, h6, L6, X6, e6, N6, K6, Vw6, st6⟩ := cpA X5 hx hZ hown (own_w hw 39 rfl) (own_w hw 42 rfl) (own_w hw 40 rfl) (own_w hw 41 rfl) e5 (sp := (0 : Int32)) (dp := (0 : Int32)) (nn := (1 : Int32)) (us := [(.int ea0)]) B4 V1 (Or.inl ⟨rfl, rfl⟩) (by decide) (by decide) (by decide) (by decide) (by decide) rfl (Nat.le_of_ble_eq_true rfl) N5 g_b1 (g := (mkF m 28 #[rv a1, iv 2, rv b1] [.int 1, .int 0, .ref b1, .int 0, .ref a1])) rfl (by rw [hml]; rfl) rfl (hb hby own_d_jdk_65_method_123_28) (by decide) (W := 0) (by show 2 * 0 + _ ≤ _; exact Nat.le_of_eq rfl) (by decide)
    have V6 : Arv Z h6 b1 k1 .int (2 : Int32) [(.int ea0), (.int (0 : Int32))] (.int (0 : Int32)) := Vw6
    have Z7 := Nat.le_trans Z2 K6.1
    have K8 : Keep h0 _ [] := K3.trans K6 (allS (P := fun x => x ∈ [] ∨ h0.size ≤ x) (Or.inr sz_b1) all0)
    refine own_st st6 ?_
    show own_E p e below _ T6 (mkF m 31 #[rv a1, iv 2, rv b1] [])
    refine own_st (fun t k => XS.aloadN X6.here hx rfl (hb hby own_d_jdk_65_method_123_31) rfl rfl k) ?_
    show own_E p e below _ T6 (mkF m 32 #[rv a1, iv 2, rv b1] [.ref b1])
    refine own_retA X6 hx Bd.notSynchronized Bd.returns rfl rfl (hb hby own_d_jdk_65_method_123_32) (by decide) (by decide) ?_
    show own_copy1_2_Q Z a1 kc1 ea0 h0 n0 _ T6.heap _
    rw [e6]
    exact ⟨b1, k1, rfl, N6, K8, sz_b1, V6⟩
def own_copy2_4_Q (Z : State) (a1 : Addr) (kc1 : ClassId) (ea0 : Int32) (ea1 : Int32) (h0 : Heap) (n0 : Nat) (v : Option Value) (h : Heap) (L : List Loc) : Prop := ∃ (o0 : Addr), ∃ (o1 : ClassId), v = some (.ref o0) ∧ Fr n0 L ∧ Keep h0 h [] ∧ h0.size ≤ o0 ∧ Arv Z h o0 o1 .int (4 : Int32) [(.int ea0), (.int ea1), (.int (0 : Int32)), (.int (0 : Int32))] (.int (0 : Int32))
theorem own_copy2_4_ef (m : MethodId) (a1 : Addr) (kc1 : ClassId) (ea0 : Int32) (ea1 : Int32) : entryFrame m #[(.ref a1), (.int (4 : Int32))] 3 = mkF m 0 #[.val (.ref a1), .val (.int (4 : Int32)), .unset] [] := by first | (simp [entryFrame, mkF, argsToLocals, Value.category]; done) | rfl
set_option maxRecDepth 65536 in
set_option maxHeartbeats 40000000 in
theorem own_copy2_4 (l : Launch) (Z : State) (a0 : Array Value) (hw : ∀ d ∈ tables_1, d.before a0 Z = true) (ws : List Jvm.Cond) (a1 : Addr) (kc1 : ClassId) (ea0 : Int32) (ea1 : Int32) (h0 : Heap) (n0 : Nat) (Z0 : n0 ≤ h0.size) (V_a1 : Arv Z h0 a1 kc1 .int (2 : Int32) [(.int ea0), (.int ea1)] (.int (0 : Int32))) :
    MetFree l own_y2 (head1 (Jvm.Cond.code own_y2 jdk_65_method_123_code 3 (some (.array .int)) :: ws) ({ frames := 1, cells := 1, slots := 4, locals := 40 } : Room)) (fun a U => a = #[(.ref a1), (.int (4 : Int32))] ∧ Z.Warmed39 U.vm ∧ U.heap = h0) (fun _ _ _ _ _ => True) (fun _ U o U' => ∃ v L, o = .returned v ∧ own_copy2_4_Q Z a1 kc1 ea0 ea1 h0 n0 v U'.heap L ∧ FrameEnd U o U' L ({ frames := 1, cells := 1, slots := 4, locals := 40 } : Room).cells ({ frames := 1, cells := 1, slots := 4, locals := 40 } : Room).slots) := by
  refine MetFree.of_bodySF (plainFor_of_name own_pn_Arrays) hisR ?_
  intro p e s m args below meth c s₁ Bd hml0 hP hK
  obtain ⟨rfl, hZ, hh⟩ := hP
  have hx := Bd.exec
  have hby := Bd.bytes
  have hml : c.maxLocals = 3 := hml0
  have hown : s.vm.findClass "java/util/Arrays" = some m.cls := findClass_of_methodNamed Bd.named
  have hnm := (name_of_methodNamed Bd.named Bd.method).1
  have X0 : Stand p l e ({ frames := 1, cells := 1, slots := 4, locals := 40 } : Room) s m #[(.ref a1), (.int (4 : Int32))] below meth c s₁ [] 0 0 := Stand.of_body Bd
  have e0 : s₁.heap = h0 := by rw [← hh, Bd.state]; rfl
  show own_E p e below (own_K (own_copy2_4_Q Z a1 kc1 ea0 ea1 h0 n0) s ({ frames := 1, cells := 1, slots := 4, locals := 40 } : Room).cells ({ frames := 1, cells := 1, slots := 4, locals := 40 } : Room).slots) s₁ (entryFrame m #[(.ref a1), (.int (4 : Int32))] 3)
  refine own_pre (own_copy2_4_ef m a1 kc1 ea0 ea1) ?_
  show own_E p e below _ s₁ (mkF m 0 #[rv a1, iv 4, .unset] [])
  refine own_st (fun t k => XS.iloadN X0.here hx rfl (hb hby own_d_jdk_65_method_123_0) rfl k) ?_
  show own_E p e below _ s₁ (mkF m 1 #[rv a1, iv 4, .unset] [.int 4])
  refine own_st (fun t k => XS.aloadN X0.here hx rfl (hb hby own_d_jdk_65_method_123_1) rfl rfl k) ?_
  show own_E p e below _ s₁ (mkF m 2 #[rv a1, iv 4, .unset] [.ref a1, .int 4])
  refine own_st (own_alen X0 hx hZ e0 V_a1 (g := (mkF m 2 #[rv a1, iv 4, .unset] [.ref a1, .int 4])) rfl rfl (hb hby own_d_jdk_65_method_123_2)) ?_
  show own_E p e below _ s₁ (mkF m 3 #[rv a1, iv 4, .unset] [.int 2, .int 4])
  refine own_st (fun t k => XS.icmpYes X0.here hx rfl (pc0 := 3) (pc' := 14) rfl (hb hby own_d_jdk_65_method_123_3) rfl (by decide) (by decide) (by decide) k) ?_
  show own_E p e below _ s₁ (mkF m 14 #[rv a1, iv 4, .unset] [])
  refine own_st (fun t k => XS.iloadN X0.here hx rfl (hb hby own_d_jdk_65_method_123_14) rfl k) ?_
  show own_E p e below _ s₁ (mkF m 15 #[rv a1, iv 4, .unset] [.int 4])
  obtain ⟨T1, h1, k1, X1, e1, E1, A1, st1⟩ := newP X0 hx hZ (own_w hw 10 rfl) e0 (g := (mkF m 15 #[rv a1, iv 4, .unset] [.int 4])) rfl (hb hby own_d_jdk_65_method_123_15) rfl (by decide) (cap := 4) (by decide) (by decide) (by decide) (by decide)
  obtain ⟨b1, g1⟩ : ∃ z, z = h0.size := ⟨_, rfl⟩
  rw [← g1] at A1 st1
  have ne_a1_b1 : a1 ≠ b1 := Nat.ne_of_lt (Nat.lt_of_lt_of_le V_a1.lt (Nat.le_of_eq g1.symm))
  have g_b1 : n0 ≤ b1 := Nat.le_trans Z0 (Nat.le_of_eq g1.symm)
  have sz_b1 : h0.size ≤ b1 := Nat.le_trans (Keep.refl h0 []).1 (Nat.le_of_eq g1.symm)
  have Z2 := Nat.le_trans Z0 E1.1
  have K3 : Keep h0 _ [] := (Keep.refl h0 []).ext E1
  have V1 : Arv Z h1 b1 k1 .int (4 : Int32) [(.int (0 : Int32)), (.int (0 : Int32)), (.int (0 : Int32)), (.int (0 : Int32))] (.int (0 : Int32)) := (Arv.new A1 (by decide)).pad (pad_rep [] (.int (0 : Int32)) 4)
  refine own_st st1 ?_
  show own_E p e below _ T1 (mkF m 17 #[rv a1, iv 4, .unset] [.ref b1])
  refine own_st (fun t k => XS.astoreN X1.here hx rfl (hb hby own_d_jdk_65_method_123_17) rfl rfl (l' := #[rv a1, iv 4, rv b1]) rfl k) ?_
  show own_E p e below _ T1 (mkF m 18 #[rv a1, iv 4, rv b1] [])
  refine own_st (fun t k => XS.aloadN X1.here hx rfl (hb hby own_d_jdk_65_method_123_18) rfl rfl k) ?_
  show own_E p e below _ T1 (mkF m 19 #[rv a1, iv 4, rv b1] [.ref a1])
  refine own_st (fun t k => XS.iconst X1.here hx rfl (hb hby own_d_jdk_65_method_123_19) k) ?_
  show own_E p e below _ T1 (mkF m 20 #[rv a1, iv 4, rv b1] [.int 0, .ref a1])
  refine own_st (fun t k => XS.aloadN X1.here hx rfl (hb hby own_d_jdk_65_method_123_20) rfl rfl k) ?_
  show own_E p e below _ T1 (mkF m 21 #[rv a1, iv 4, rv b1] [.ref b1, .int 0, .ref a1])
  refine own_st (fun t k => XS.iconst X1.here hx rfl (hb hby own_d_jdk_65_method_123_21) k) ?_
  show own_E p e below _ T1 (mkF m 22 #[rv a1, iv 4, rv b1] [.int 0, .ref b1, .int 0, .ref a1])
  refine own_st (fun t k => XS.aloadN X1.here hx rfl (hb hby own_d_jdk_65_method_123_22) rfl rfl k) ?_
  show own_E p e below _ T1 (mkF m 23 #[rv a1, iv 4, rv b1] [.ref a1, .int 0, .ref b1, .int 0, .ref a1])
  have B4 := (V_a1.ext E1)
  refine own_st (own_alen X1 hx hZ e1 B4 (g := (mkF m 23 #[rv a1, iv 4, rv b1] [.ref a1, .int 0, .ref b1, .int 0, .ref a1])) rfl rfl (hb hby own_d_jdk_65_method_123_23)) ?_
  show own_E p e below _ T1 (mkF m 24 #[rv a1, iv 4, rv b1] [.int 2, .int 0, .ref b1, .int 0, .ref a1])
  refine own_st (fun t k => XS.iloadN X1.here hx rfl (hb hby own_d_jdk_65_method_123_24) rfl k) ?_
  show own_E p e below _ T1 (mkF m 25 #[rv a1, iv 4, rv b1] [.int 4, .int 2, .int 0, .ref b1, .int 0, .ref a1])
  obtain ⟨_, _, ⟨T5, L5, k5, n5⟩, -, X5, ⟨Lc5, hQ5, l5, y5, z5⟩, st5⟩ := Jvm.LawKit.callS X1 hx (y := own_y0) hown (mvT hZ (own_w hw 38 rfl)) (mvT hZ (own_w hw 32 rfl)) (mvT hZ (own_w hw 29 rfl)) (mvT hZ (own_w hw 33 rfl)) (by decide) (backOf (W := 4) (own_minA l Z a0 hw [] (2 : Int32) (4 : Int32) h1 n0 Z2 ) hZ (own_w hw 33 rfl) (own_w hw 29 rfl) (by decide) (by decide)) (g := (mkF m 25 #[rv a1, iv 4, rv b1] [.int 4, .int 2, .int 0, .ref b1, .int 0, .ref a1])) rfl (by rw [hml]; rfl) (argsL := [(.int (2 : Int32)), (.int (4 : Int32))]) (rest := [(.int (0 : Int32)), (.ref b1), (.int (0 : Int32)), (.ref a1)]) (lenOf own_pd_2 rfl) rfl (by show 2 * 0 + _ ≤ _; exact Nat.le_of_eq rfl) (hb hby own_d_jdk_65_method_123_25) (fun _ _ => ⟨rfl, e1, (by decide : 1 + 0 ≤ _), (by decide : 4 + 0 ≤ _)⟩)
  dsimp only [Pt.U, Pt.locs, Pt.cells, Pt.slots] at X5 l5 y5 z5 st5 hQ5
  subst l5 y5 z5
  obtain ⟨hR5, e5, rfl⟩ := hQ5
  have N5 := Fr.app (Fr.nil n0) (Fr.nil n0)
  rcases hR5 with ⟨rfl, ha5_0⟩ | ⟨rfl, ha5_0⟩
  · exact absurd ha5_0 (by decide)
  · refine own_st st5 ?_
    show own_E p e below _ T5 (mkF m 28 #[rv a1, iv 4, rv b1] [.int 2, .int 0, .ref b1, .int 0, .ref a1])
    obtain ⟨T6, h6, L6, X6, e6, N6, K6, Vw6, st6⟩ := cpA X5 hx hZ hown (own_w hw 39 rfl) (own_w hw 42 rfl) (own_w hw 40 rfl) (own_w hw 41 rfl) e5 (sp := (0 : Int32)) (dp := (0 : Int32)) (nn := (2 : Int32)) (us := [(.int ea0), (.int ea1)]) B4 V1 (Or.inl ⟨rfl, rfl⟩) (by decide) (by decide) (by decide) (by decide) (by decide) rfl (Nat.le_of_ble_eq_true rfl) N5 g_b1 (g := (mkF m 28 #[rv a1, iv 4, rv b1] [.int 2, .int 0, .ref b1, .int 0, .ref a1])) rfl (by rw [hml]; rfl) rfl (hb hby own_d_jdk_65_method_123_28) (by decide) (W := 0) (by show 2 * 0 + _ ≤ _; exact Nat.le_of_eq rfl) (by decide)
    have V6 : Arv Z h6 b1 k1 .int (4 : Int32) [(.int ea0), (.int ea1), (.int (0 : Int32)), (.int (0 : Int32))] (.int (0 : Int32)) := Vw6
    have Z7 := Nat.le_trans Z2 K6.1
    have K8 : Keep h0 _ [] := K3.trans K6 (allS (P := fun x => x ∈ [] ∨ h0.size ≤ x) (Or.inr sz_b1) all0)
    refine own_st st6 ?_
    show own_E p e below _ T6 (mkF m 31 #[rv a1, iv 4, rv b1] [])
    refine own_st (fun t k => XS.aloadN X6.here hx rfl (hb hby own_d_jdk_65_method_123_31) rfl rfl k) ?_
    show own_E p e below _ T6 (mkF m 32 #[rv a1, iv 4, rv b1] [.ref b1])
    refine own_retA X6 hx Bd.notSynchronized Bd.returns rfl rfl (hb hby own_d_jdk_65_method_123_32) (by decide) (by decide) ?_
    show own_copy2_4_Q Z a1 kc1 ea0 ea1 h0 n0 _ T6.heap _
    rw [e6]
    exact ⟨b1, k1, rfl, N6, K8, sz_b1, V6⟩
theorem own_d_prog_14_method_1_0 : decode prog_14_method_1_code 0 = .ok (.aload_n 0, 1) := by decide +kernel
theorem own_d_prog_14_method_1_1 : decode prog_14_method_1_code 1 = .ok (.invokespecial 1, 3) := by decide +kernel
theorem own_d_prog_14_method_1_4 : decode prog_14_method_1_code 4 = .ok (.aload_n 0, 1) := by decide +kernel
theorem own_d_prog_14_method_1_5 : decode prog_14_method_1_code 5 = .ok (.iconst 1, 1) := by decide +kernel
theorem own_d_prog_14_method_1_6 : decode prog_14_method_1_code 6 = .ok (.newarray .int, 2) := by decide +kernel
theorem own_d_prog_14_method_1_8 : decode prog_14_method_1_code 8 = .ok (.putfield 7, 3) := by decide +kernel
theorem own_d_prog_14_method_1_11 : decode prog_14_method_1_code 11 = .ok (.aload_n 0, 1) := by decide +kernel
theorem own_d_prog_14_method_1_12 : decode prog_14_method_1_code 12 = .ok (.iconst 1, 1) := by decide +kernel
theorem own_d_prog_14_method_1_13 : decode prog_14_method_1_code 13 = .ok (.newarray .int, 2) := by decide +kernel
theorem own_d_prog_14_method_1_15 : decode prog_14_method_1_code 15 = .ok (.putfield 13, 3) := by decide +kernel
theorem own_d_prog_14_method_1_18 : decode prog_14_method_1_code 18 = .ok (.aload_n 0, 1) := by decide +kernel
theorem own_d_prog_14_method_1_19 : decode prog_14_method_1_code 19 = .ok (.ldc 18, 2) := by decide +kernel
theorem own_d_prog_14_method_1_21 : decode prog_14_method_1_code 21 = .ok (.putfield 19, 3) := by decide +kernel
theorem own_d_prog_14_method_1_24 : decode prog_14_method_1_code 24 = .ok (.return_, 1) := by decide +kernel
def own_init_Q (Z : State) (a1 : Addr) (h0 : Heap) (n0 : Nat) (v : Option Value) (h : Heap) (L : List Loc) : Prop := ∃ (o0 : Addr), ∃ (o1 : Addr), ∃ (o2 : ClassId), ∃ (o3 : ClassId), v = none ∧ Fr n0 L ∧ Keep h0 h [a1] ∧ h0.size ≤ o0 ∧ h0.size ≤ o1 ∧ o0 ≠ o1 ∧ Exa Z h a1 "com/example/lean_scorer/leanscorer/Postings" ∧ Fld Z h a1 "com/example/lean_scorer/leanscorer/Postings" "documents" "[I" (.ref o0) ∧ Fld Z h a1 "com/example/lean_scorer/leanscorer/Postings" "frequencies" "[I" (.ref o1) ∧ Fld Z h a1 "com/example/lean_scorer/leanscorer/Postings" "minLength" "I" (.int (2147483647 : Int32)) ∧ Fld Z h a1 "com/example/lean_scorer/leanscorer/Postings" "maxFrequency" "I" (.int (0 : Int32)) ∧ Fld Z h a1 "com/example/lean_scorer/leanscorer/Postings" "size" "I" (.int (0 : Int32)) ∧ Arv Z h o0 o2 .int (1 : Int32) [(.int (0 : Int32))] (.int (0 : Int32)) ∧ Arv Z h o1 o3 .int (1 : Int32) [(.int (0 : Int32))] (.int (0 : Int32))
abbrev own_y3 : MethodName := ⟨"com/example/lean_scorer/leanscorer/Postings", "<init>", "()V"⟩
theorem own_pn_Postings : plainName "com/example/lean_scorer/leanscorer/Postings" = true := by first | (simp [plainName, overriddenIn]; done) | decide +kernel
theorem own_init_ef (m : MethodId) (a1 : Addr) : entryFrame m #[(.ref a1)] 1 = mkF m 0 #[.val (.ref a1)] [] := by first | (simp [entryFrame, mkF, argsToLocals, Value.category]; done) | rfl
set_option maxRecDepth 65536 in
set_option maxHeartbeats 40000000 in
theorem own_init (l : Launch) (Z : State) (a0 : Array Value) (hw : ∀ d ∈ tables_1, d.before a0 Z = true) (ws : List Jvm.Cond) (a1 : Addr) (h0 : Heap) (n0 : Nat) (Z0 : n0 ≤ h0.size) (E_a1 : Exa Z h0 a1 "com/example/lean_scorer/leanscorer/Postings") (F_documents_a1 : Fld Z h0 a1 "com/example/lean_scorer/leanscorer/Postings" "documents" "[I" .null) (F_frequencies_a1 : Fld Z h0 a1 "com/example/lean_scorer/leanscorer/Postings" "frequencies" "[I" .null) (F_minLength_a1 : Fld Z h0 a1 "com/example/lean_scorer/leanscorer/Postings" "minLength" "I" (.int (0 : Int32))) (F_maxFrequency_a1 : Fld Z h0 a1 "com/example/lean_scorer/leanscorer/Postings" "maxFrequency" "I" (.int (0 : Int32))) (F_size_a1 : Fld Z h0 a1 "com/example/lean_scorer/leanscorer/Postings" "size" "I" (.int (0 : Int32))) (g_a1 : n0 ≤ a1) :
    MetFree l own_y3 (head1 (Jvm.Cond.code own_y3 prog_14_method_1_code 1 none :: ws) ({ frames := 1, cells := 2, slots := 2, locals := 12 } : Room)) (fun a U => a = #[(.ref a1)] ∧ Z.Warmed39 U.vm ∧ U.heap = h0) (fun _ _ _ _ _ => True) (fun _ U o U' => ∃ v L, o = .returned v ∧ own_init_Q Z a1 h0 n0 v U'.heap L ∧ FrameEnd U o U' L ({ frames := 1, cells := 2, slots := 2, locals := 12 } : Room).cells ({ frames := 1, cells := 2, slots := 2, locals := 12 } : Room).slots) := by
  refine MetFree.of_bodySF (plainFor_of_name own_pn_Postings) hisR ?_
  intro p e s m args below meth c s₁ Bd hml0 hP hK
  obtain ⟨rfl, hZ, hh⟩ := hP
  have hx := Bd.exec
  have hby := Bd.bytes
  have hml : c.maxLocals = 1 := hml0
  have hown : s.vm.findClass "com/example/lean_scorer/leanscorer/Postings" = some m.cls := findClass_of_methodNamed Bd.named
  have hnm := (name_of_methodNamed Bd.named Bd.method).1
  have X0 : Stand p l e ({ frames := 1, cells := 2, slots := 2, locals := 12 } : Room) s m #[(.ref a1)] below meth c s₁ [] 0 0 := Stand.of_body Bd
  have e0 : s₁.heap = h0 := by rw [← hh, Bd.state]; rfl
  show own_E p e below (own_K (own_init_Q Z a1 h0 n0) s ({ frames := 1, cells := 2, slots := 2, locals := 12 } : Room).cells ({ frames := 1, cells := 2, slots := 2, locals := 12 } : Room).slots) s₁ (entryFrame m #[(.ref a1)] 1)
  refine own_pre (own_init_ef m a1) ?_
  show own_E p e below _ s₁ (mkF m 0 #[rv a1] [])
  refine own_st (fun t k => XS.aloadN X0.here hx rfl (hb hby own_d_prog_14_method_1_0) rfl rfl k) ?_
  show own_E p e below _ s₁ (mkF m 1 #[rv a1] [.ref a1])
  obtain ⟨T1, X1, e1, st1⟩ := initO X0 hx hZ hown (own_w hw 7 rfl) (own_w hw 8 rfl) (own_w hw 9 rfl) e0 (g := (mkF m 1 #[rv a1] [.ref a1])) rfl (by rw [hml]; rfl) rfl (hb hby own_d_prog_14_method_1_1) (by decide) (W := 0) (by show 2 * 0 + _ ≤ _; exact Nat.le_of_eq rfl) (by decide)
  refine own_st st1 ?_
  show own_E p e below _ T1 (mkF m 4 #[rv a1] [])
  refine own_st (fun t k => XS.aloadN X1.here hx rfl (hb hby own_d_prog_14_method_1_4) rfl rfl k) ?_
  show own_E p e below _ T1 (mkF m 5 #[rv a1] [.ref a1])
  refine own_st (fun t k => XS.iconst X1.here hx rfl (hb hby own_d_prog_14_method_1_5) k) ?_
  show own_E p e below _ T1 (mkF m 6 #[rv a1] [.int 1, .ref a1])
  obtain ⟨T2, h2, k2, X2, e2, E2, A2, st2⟩ := newP X1 hx hZ (own_w hw 10 rfl) e1 (g := (mkF m 6 #[rv a1] [.int 1, .ref a1])) rfl (hb hby own_d_prog_14_method_1_6) rfl (by decide) (cap := 1) (by decide) (by decide) (by decide) (by decide)
  obtain ⟨b2, g2⟩ : ∃ z, z = h0.size := ⟨_, rfl⟩
  rw [← g2] at A2 st2
  have ne_a1_b2 : a1 ≠ b2 := Nat.ne_of_lt (Nat.lt_of_lt_of_le E_a1.lt (Nat.le_of_eq g2.symm))
  have g_b2 : n0 ≤ b2 := Nat.le_trans Z0 (Nat.le_of_eq g2.symm)
  have sz_b2 : h0.size ≤ b2 := Nat.le_trans (Keep.refl h0 [a1]).1 (Nat.le_of_eq g2.symm)
  have Z3 := Nat.le_trans Z0 E2.1
  have K4 : Keep h0 _ [a1] := (Keep.refl h0 [a1]).ext E2
  have V2 : Arv Z h2 b2 k2 .int (1 : Int32) [(.int (0 : Int32))] (.int (0 : Int32)) := (Arv.new A2 (by decide)).pad (pad_rep [] (.int (0 : Int32)) 1)
  refine own_st st2 ?_
  show own_E p e below _ T2 (mkF m 8 #[rv a1] [.ref b2, .ref a1])
  have B6 := (F_documents_a1.ext E2)
  have B7 := (E_a1.ext E2)
  obtain ⟨T5, h5, X5, e5, W5, st5⟩ := putF X2 hx hZ hown (host := "") (Or.inl (own_w hw 11 rfl)) Via.refl e2 B6 B7 (Or.inl (own_w hw 12 rfl)) (own_w hw 2 rfl) (ty := (.array .int)) (by decide) rfl rfl (g := (mkF m 8 #[rv a1] [.ref b2, .ref a1])) rfl rfl (hb hby own_d_prog_14_method_1_8)
  have N5 := Fr.snoc X5 (Fr.nil n0) g_a1
  have Fw5 := B6.same W5
  have Z8 := Nat.le_trans Z3 (Keep.of_wr W5).1
  have K9 : Keep h0 _ [a1] := K4.wr W5 (Or.inl (List.mem_of_getElem? (i := 0) rfl))
  refine own_st st5 ?_
  show own_E p e below _ T5 (mkF m 11 #[rv a1] [])
  refine own_st (fun t k => XS.aloadN X5.here hx rfl (hb hby own_d_prog_14_method_1_11) rfl rfl k) ?_
  show own_E p e below _ T5 (mkF m 12 #[rv a1] [.ref a1])
  refine own_st (fun t k => XS.iconst X5.here hx rfl (hb hby own_d_prog_14_method_1_12) k) ?_
  show own_E p e below _ T5 (mkF m 13 #[rv a1] [.int 1, .ref a1])
  obtain ⟨T10, h10, k10, X10, e10, E10, A10, st10⟩ := newP X5 hx hZ (own_w hw 10 rfl) e5 (g := (mkF m 13 #[rv a1] [.int 1, .ref a1])) rfl (hb hby own_d_prog_14_method_1_13) rfl (by decide) (cap := 1) (by decide) (by decide) (by decide) (by decide)
  obtain ⟨b10, g10⟩ : ∃ z, z = h5.size := ⟨_, rfl⟩
  rw [← g10] at A10 st10
  have B11 := (B7.wr W5)
  have ne_a1_b10 : a1 ≠ b10 := Nat.ne_of_lt (Nat.lt_of_lt_of_le B11.lt (Nat.le_of_eq g10.symm))
  have B12 := (V2.other W5 (Ne.symm ne_a1_b2))
  have ne_b2_b10 : b2 ≠ b10 := Nat.ne_of_lt (Nat.lt_of_lt_of_le B12.lt (Nat.le_of_eq g10.symm))
  have g_b10 : n0 ≤ b10 := Nat.le_trans Z8 (Nat.le_of_eq g10.symm)
  have sz_b10 : h0.size ≤ b10 := Nat.le_trans K9.1 (Nat.le_of_eq g10.symm)
  have Z13 := Nat.le_trans Z8 E10.1
  have K14 : Keep h0 _ [a1] := K9.ext E10
  have V10 : Arv Z h10 b10 k10 .int (1 : Int32) [(.int (0 : Int32))] (.int (0 : Int32)) := (Arv.new A10 (by decide)).pad (pad_rep [] (.int (0 : Int32)) 1)
  refine own_st st10 ?_
  show own_E p e below _ T10 (mkF m 15 #[rv a1] [.ref b10, .ref a1])
  have B16 := (((F_frequencies_a1.ext E2).other W5 (Or.inr (slot_ne (Or.inl (own_w hw 14 rfl)) (Or.inl (own_w hw 12 rfl)) (by decide) (t := (.array .int)) (t' := (.array .int)) (by decide) (by decide)))).ext E10)
  have B17 := (B11.ext E10)
  obtain ⟨T15, h15, X15, e15, W15, st15⟩ := putF X10 hx hZ hown (host := "") (Or.inl (own_w hw 13 rfl)) Via.refl e10 B16 B17 (Or.inl (own_w hw 14 rfl)) (own_w hw 2 rfl) (ty := (.array .int)) (by decide) rfl rfl (g := (mkF m 15 #[rv a1] [.ref b10, .ref a1])) rfl rfl (hb hby own_d_prog_14_method_1_15)
  have N15 := Fr.snoc X15 N5 g_a1
  have Fw15 := B16.same W15
  have Z18 := Nat.le_trans Z13 (Keep.of_wr W15).1
  have K19 : Keep h0 _ [a1] := K14.wr W15 (Or.inl (List.mem_of_getElem? (i := 0) rfl))
  refine own_st st15 ?_
  show own_E p e below _ T15 (mkF m 18 #[rv a1] [])
  refine own_st (fun t k => XS.aloadN X15.here hx rfl (hb hby own_d_prog_14_method_1_18) rfl rfl k) ?_
  show own_E p e below _ T15 (mkF m 19 #[rv a1] [.ref a1])
  refine own_st (X15.ldcInt hx hown (mvT hZ (own_w hw 15 rfl)) (g := (mkF m 19 #[rv a1] [.ref a1])) rfl (hb hby own_d_prog_14_method_1_19)) ?_
  show own_E p e below _ T15 (mkF m 21 #[rv a1] [.int 2147483647, .ref a1])
  have B21 := ((((F_minLength_a1.ext E2).other W5 (Or.inr (slot_ne (Or.inl (own_w hw 17 rfl)) (Or.inl (own_w hw 12 rfl)) (by decide) (t := .int) (t' := (.array .int)) (by decide) (by decide)))).ext E10).other W15 (Or.inr (slot_ne (Or.inl (own_w hw 17 rfl)) (Or.inl (own_w hw 14 rfl)) (by decide) (t := .int) (t' := (.array .int)) (by decide) (by decide))))
  have B22 := (B17.wr W15)
  obtain ⟨T20, h20, X20, e20, W20, st20⟩ := putF X15 hx hZ hown (host := "") (Or.inl (own_w hw 16 rfl)) Via.refl e15 B21 B22 (Or.inl (own_w hw 17 rfl)) (own_w hw 2 rfl) (ty := .int) (by decide) rfl rfl (g := (mkF m 21 #[rv a1] [.int 2147483647, .ref a1])) rfl rfl (hb hby own_d_prog_14_method_1_21)
  have N20 := Fr.snoc X20 N15 g_a1
  have Fw20 := B21.same W20
  have Z23 := Nat.le_trans Z18 (Keep.of_wr W20).1
  have K24 : Keep h0 _ [a1] := K19.wr W20 (Or.inl (List.mem_of_getElem? (i := 0) rfl))
  refine own_st st20 ?_
  show own_E p e below _ T20 (mkF m 24 #[rv a1] [])
  refine own_retV X20 hx Bd.notSynchronized Bd.returns (hb hby own_d_prog_14_method_1_24) (by decide) (by decide) ?_
  have B25 := (B22.wr W20)
  have B26 := (((Fw5.ext E10).other W15 (Or.inr (slot_ne (Or.inl (own_w hw 12 rfl)) (Or.inl (own_w hw 14 rfl)) (by decide) (t := (.array .int)) (t' := (.array .int)) (by decide) (by decide)))).other W20 (Or.inr (slot_ne (Or.inl (own_w hw 12 rfl)) (Or.inl (own_w hw 17 rfl)) (by decide) (t := (.array .int)) (t' := .int) (by decide) (by decide))))
  have B27 := (Fw15.other W20 (Or.inr (slot_ne (Or.inl (own_w hw 14 rfl)) (Or.inl (own_w hw 17 rfl)) (by decide) (t := (.array .int)) (t' := .int) (by decide) (by decide))))
  have B28 := (((((F_maxFrequency_a1.ext E2).other W5 (Or.inr (slot_ne (Or.inl (own_w hw 26 rfl)) (Or.inl (own_w hw 12 rfl)) (by decide) (t := .int) (t' := (.array .int)) (by decide) (by decide)))).ext E10).other W15 (Or.inr (slot_ne (Or.inl (own_w hw 26 rfl)) (Or.inl (own_w hw 14 rfl)) (by decide) (t := .int) (t' := (.array .int)) (by decide) (by decide)))).other W20 (Or.inr (slot_ne (Or.inl (own_w hw 26 rfl)) (Or.inl (own_w hw 17 rfl)) (by decide) (t := .int) (t' := .int) (by decide) (by decide))))
  have B29 := (((((F_size_a1.ext E2).other W5 (Or.inr (slot_ne (Or.inl (own_w hw 24 rfl)) (Or.inl (own_w hw 12 rfl)) (by decide) (t := .int) (t' := (.array .int)) (by decide) (by decide)))).ext E10).other W15 (Or.inr (slot_ne (Or.inl (own_w hw 24 rfl)) (Or.inl (own_w hw 14 rfl)) (by decide) (t := .int) (t' := (.array .int)) (by decide) (by decide)))).other W20 (Or.inr (slot_ne (Or.inl (own_w hw 24 rfl)) (Or.inl (own_w hw 17 rfl)) (by decide) (t := .int) (t' := .int) (by decide) (by decide))))
  have B30 := (((B12.ext E10).other W15 (Ne.symm ne_a1_b2)).other W20 (Ne.symm ne_a1_b2))
  have B31 := ((V10.other W15 (Ne.symm ne_a1_b10)).other W20 (Ne.symm ne_a1_b10))
  show own_init_Q Z a1 h0 n0 _ T20.heap _
  rw [e20]
  exact ⟨b2, b10, k2, k10, rfl, N20, K24, sz_b2, sz_b10, ne_b2_b10, B25, B26, B27, Fw20, B28, B29, B30, B31⟩
theorem own_d_prog_14_method_2_0 : decode prog_14_method_2_code 0 = .ok (.aload_n 0, 1) := by decide +kernel
theorem own_d_prog_14_method_2_1 : decode prog_14_method_2_code 1 = .ok (.getfield 23, 3) := by decide +kernel
theorem own_d_prog_14_method_2_4 : decode prog_14_method_2_code 4 = .ok (.aload_n 0, 1) := by decide +kernel
theorem own_d_prog_14_method_2_5 : decode prog_14_method_2_code 5 = .ok (.getfield 7, 3) := by decide +kernel
theorem own_d_prog_14_method_2_8 : decode prog_14_method_2_code 8 = .ok (.arraylength, 1) := by decide +kernel
theorem own_d_prog_14_method_2_9 : decode prog_14_method_2_code 9 = .ok (.if_icmp .ne 37, 3) := by decide +kernel
theorem own_d_prog_14_method_2_46 : decode prog_14_method_2_code 46 = .ok (.aload_n 0, 1) := by decide +kernel
theorem own_d_prog_14_method_2_47 : decode prog_14_method_2_code 47 = .ok (.getfield 7, 3) := by decide +kernel
theorem own_d_prog_14_method_2_50 : decode prog_14_method_2_code 50 = .ok (.aload_n 0, 1) := by decide +kernel
theorem own_d_prog_14_method_2_51 : decode prog_14_method_2_code 51 = .ok (.getfield 23, 3) := by decide +kernel
theorem own_d_prog_14_method_2_54 : decode prog_14_method_2_code 54 = .ok (.iload_n 1, 1) := by decide +kernel
theorem own_d_prog_14_method_2_55 : decode prog_14_method_2_code 55 = .ok (.iastore, 1) := by decide +kernel
theorem own_d_prog_14_method_2_56 : decode prog_14_method_2_code 56 = .ok (.aload_n 0, 1) := by decide +kernel
theorem own_d_prog_14_method_2_57 : decode prog_14_method_2_code 57 = .ok (.getfield 13, 3) := by decide +kernel
theorem own_d_prog_14_method_2_60 : decode prog_14_method_2_code 60 = .ok (.aload_n 0, 1) := by decide +kernel
theorem own_d_prog_14_method_2_61 : decode prog_14_method_2_code 61 = .ok (.getfield 23, 3) := by decide +kernel
theorem own_d_prog_14_method_2_64 : decode prog_14_method_2_code 64 = .ok (.iload_n 2, 1) := by decide +kernel
theorem own_d_prog_14_method_2_65 : decode prog_14_method_2_code 65 = .ok (.iastore, 1) := by decide +kernel
theorem own_d_prog_14_method_2_66 : decode prog_14_method_2_code 66 = .ok (.aload_n 0, 1) := by decide +kernel
theorem own_d_prog_14_method_2_67 : decode prog_14_method_2_code 67 = .ok (.dup, 1) := by decide +kernel
theorem own_d_prog_14_method_2_68 : decode prog_14_method_2_code 68 = .ok (.getfield 23, 3) := by decide +kernel
theorem own_d_prog_14_method_2_71 : decode prog_14_method_2_code 71 = .ok (.iconst 1, 1) := by decide +kernel
theorem own_d_prog_14_method_2_72 : decode prog_14_method_2_code 72 = .ok (.iadd, 1) := by decide +kernel
theorem own_d_prog_14_method_2_73 : decode prog_14_method_2_code 73 = .ok (.putfield 23, 3) := by decide +kernel
theorem own_d_prog_14_method_2_76 : decode prog_14_method_2_code 76 = .ok (.aload_n 0, 1) := by decide +kernel
theorem own_d_prog_14_method_2_77 : decode prog_14_method_2_code 77 = .ok (.aload_n 0, 1) := by decide +kernel
theorem own_d_prog_14_method_2_78 : decode prog_14_method_2_code 78 = .ok (.getfield 32, 3) := by decide +kernel
theorem own_d_prog_14_method_2_81 : decode prog_14_method_2_code 81 = .ok (.iload_n 2, 1) := by decide +kernel
theorem own_d_prog_14_method_2_82 : decode prog_14_method_2_code 82 = .ok (.invokestatic 35, 3) := by decide +kernel
theorem own_d_prog_14_method_2_85 : decode prog_14_method_2_code 85 = .ok (.putfield 32, 3) := by decide +kernel
theorem own_d_prog_14_method_2_88 : decode prog_14_method_2_code 88 = .ok (.aload_n 0, 1) := by decide +kernel
theorem own_d_prog_14_method_2_89 : decode prog_14_method_2_code 89 = .ok (.aload_n 0, 1) := by decide +kernel
theorem own_d_prog_14_method_2_90 : decode prog_14_method_2_code 90 = .ok (.getfield 19, 3) := by decide +kernel
theorem own_d_prog_14_method_2_93 : decode prog_14_method_2_code 93 = .ok (.iload_n 3, 1) := by decide +kernel
theorem own_d_prog_14_method_2_94 : decode prog_14_method_2_code 94 = .ok (.invokestatic 41, 3) := by decide +kernel
theorem own_d_prog_14_method_2_97 : decode prog_14_method_2_code 97 = .ok (.putfield 19, 3) := by decide +kernel
theorem own_d_prog_14_method_2_100 : decode prog_14_method_2_code 100 = .ok (.return_, 1) := by decide +kernel
def own_add0_Q (Z : State) (a1 : Addr) (a2 : Addr) (a3 : Addr) (kc1 : ClassId) (kc2 : ClassId) (p1 : Int32) (p2 : Int32) (p3 : Int32) (q1 : Int32) (q2 : Int32) (ea0 : Int32) (eb0 : Int32) (h0 : Heap) (n0 : Nat) (v : Option Value) (h : Heap) (L : List Loc) : Prop := v = none ∧ Fr n0 L ∧ Keep h0 h [a1, a2, a3] ∧ Exa Z h a1 "com/example/lean_scorer/leanscorer/Postings" ∧ Fld Z h a1 "com/example/lean_scorer/leanscorer/Postings" "documents" "[I" (.ref a2) ∧ Fld Z h a1 "com/example/lean_scorer/leanscorer/Postings" "frequencies" "[I" (.ref a3) ∧ Fld Z h a1 "com/example/lean_scorer/leanscorer/Postings" "minLength" "I" (.int (own_min q1 p3)) ∧ Fld Z h a1 "com/example/lean_scorer/leanscorer/Postings" "maxFrequency" "I" (.int (own_max q2 p2)) ∧ Fld Z h a1 "com/example/lean_scorer/leanscorer/Postings" "size" "I" (.int (1 : Int32)) ∧ Arv Z h a2 kc1 .int (1 : Int32) [(.int p1)] (.int (0 : Int32)) ∧ Arv Z h a3 kc2 .int (1 : Int32) [(.int p2)] (.int (0 : Int32))
abbrev own_y4 : MethodName := ⟨"com/example/lean_scorer/leanscorer/Postings", "add", "(III)V"⟩
theorem own_add0_ef (m : MethodId) (a1 : Addr) (a2 : Addr) (a3 : Addr) (kc1 : ClassId) (kc2 : ClassId) (p1 : Int32) (p2 : Int32) (p3 : Int32) (q1 : Int32) (q2 : Int32) (ea0 : Int32) (eb0 : Int32) : entryFrame m #[(.ref a1), (.int p1), (.int p2), (.int p3)] 4 = mkF m 0 #[.val (.ref a1), .val (.int p1), .val (.int p2), .val (.int p3)] [] := by first | (simp [entryFrame, mkF, argsToLocals, Value.category]; done) | rfl
set_option maxRecDepth 65536 in
set_option maxHeartbeats 40000000 in
theorem own_add0 (l : Launch) (Z : State) (a0 : Array Value) (hw : ∀ d ∈ tables_1, d.before a0 Z = true) (ws : List Jvm.Cond) (a1 : Addr) (a2 : Addr) (a3 : Addr) (kc1 : ClassId) (kc2 : ClassId) (p1 : Int32) (p2 : Int32) (p3 : Int32) (q1 : Int32) (q2 : Int32) (ea0 : Int32) (eb0 : Int32) (h0 : Heap) (n0 : Nat) (Z0 : n0 ≤ h0.size) (E_a1 : Exa Z h0 a1 "com/example/lean_scorer/leanscorer/Postings") (F_documents_a1 : Fld Z h0 a1 "com/example/lean_scorer/leanscorer/Postings" "documents" "[I" (.ref a2)) (F_frequencies_a1 : Fld Z h0 a1 "com/example/lean_scorer/leanscorer/Postings" "frequencies" "[I" (.ref a3)) (F_minLength_a1 : Fld Z h0 a1 "com/example/lean_scorer/leanscorer/Postings" "minLength" "I" (.int q1)) (F_maxFrequency_a1 : Fld Z h0 a1 "com/example/lean_scorer/leanscorer/Postings" "maxFrequency" "I" (.int q2)) (F_size_a1 : Fld Z h0 a1 "com/example/lean_scorer/leanscorer/Postings" "size" "I" (.int (0 : Int32))) (V_a2 : Arv Z h0 a2 kc1 .int (1 : Int32) [(.int ea0)] (.int (0 : Int32))) (V_a3 : Arv Z h0 a3 kc2 .int (1 : Int32) [(.int eb0)] (.int (0 : Int32))) (ne12 : a1 ≠ a2) (ne13 : a1 ≠ a3) (ne23 : a2 ≠ a3) (g_a1 : n0 ≤ a1) (g_a2 : n0 ≤ a2) (g_a3 : n0 ≤ a3) :
    MetFree l own_y4 (head1 (Jvm.Cond.code own_y4 prog_14_method_2_code 4 none :: ws) ({ frames := 1, cells := 0, slots := 0, locals := 14 } : Room)) (fun a U => a = #[(.ref a1), (.int p1), (.int p2), (.int p3)] ∧ Z.Warmed39 U.vm ∧ U.heap = h0) (fun _ _ _ _ _ => True) (fun _ U o U' => ∃ v L, o = .returned v ∧ own_add0_Q Z a1 a2 a3 kc1 kc2 p1 p2 p3 q1 q2 ea0 eb0 h0 n0 v U'.heap L ∧ FrameEnd U o U' L ({ frames := 1, cells := 0, slots := 0, locals := 14 } : Room).cells ({ frames := 1, cells := 0, slots := 0, locals := 14 } : Room).slots) := by
  refine MetFree.of_bodySF (plainFor_of_name own_pn_Postings) hisR ?_
  intro p e s m args below meth c s₁ Bd hml0 hP hK
  obtain ⟨rfl, hZ, hh⟩ := hP
  have hx := Bd.exec
  have hby := Bd.bytes
  have hml : c.maxLocals = 4 := hml0
  have hown : s.vm.findClass "com/example/lean_scorer/leanscorer/Postings" = some m.cls := findClass_of_methodNamed Bd.named
  have hnm := (name_of_methodNamed Bd.named Bd.method).1
  have X0 : Stand p l e ({ frames := 1, cells := 0, slots := 0, locals := 14 } : Room) s m #[(.ref a1), (.int p1), (.int p2), (.int p3)] below meth c s₁ [] 0 0 := Stand.of_body Bd
  have e0 : s₁.heap = h0 := by rw [← hh, Bd.state]; rfl
  show own_E p e below (own_K (own_add0_Q Z a1 a2 a3 kc1 kc2 p1 p2 p3 q1 q2 ea0 eb0 h0 n0) s ({ frames := 1, cells := 0, slots := 0, locals := 14 } : Room).cells ({ frames := 1, cells := 0, slots := 0, locals := 14 } : Room).slots) s₁ (entryFrame m #[(.ref a1), (.int p1), (.int p2), (.int p3)] 4)
  refine own_pre (own_add0_ef m a1 a2 a3 kc1 kc2 p1 p2 p3 q1 q2 ea0 eb0) ?_
  show own_E p e below _ s₁ (mkF m 0 #[rv a1, iv p1, iv p2, iv p3] [])
  refine own_st (fun t k => XS.aloadN X0.here hx rfl (hb hby own_d_prog_14_method_2_0) rfl rfl k) ?_
  show own_E p e below _ s₁ (mkF m 1 #[rv a1, iv p1, iv p2, iv p3] [.ref a1])
  obtain ⟨T1, X1, e1, st1⟩ := getF X0 hx hZ hown (host := "") (Or.inl (own_w hw 23 rfl)) Via.refl e0 F_size_a1 (g := (mkF m 1 #[rv a1, iv p1, iv p2, iv p3] [.ref a1])) rfl rfl (hb hby own_d_prog_14_method_2_1)
  refine own_st st1 ?_
  show own_E p e below _ T1 (mkF m 4 #[rv a1, iv p1, iv p2, iv p3] [.int 0])
  refine own_st (fun t k => XS.aloadN X1.here hx rfl (hb hby own_d_prog_14_method_2_4) rfl rfl k) ?_
  show own_E p e below _ T1 (mkF m 5 #[rv a1, iv p1, iv p2, iv p3] [.ref a1, .int 0])
  obtain ⟨T2, X2, e2, st2⟩ := getF X1 hx hZ hown (host := "") (Or.inl (own_w hw 11 rfl)) Via.refl e1 F_documents_a1 (g := (mkF m 5 #[rv a1, iv p1, iv p2, iv p3] [.ref a1, .int 0])) rfl rfl (hb hby own_d_prog_14_method_2_5)
  refine own_st st2 ?_
  show own_E p e below _ T2 (mkF m 8 #[rv a1, iv p1, iv p2, iv p3] [.ref a2, .int 0])
  refine own_st (own_alen X2 hx hZ e2 V_a2 (g := (mkF m 8 #[rv a1, iv p1, iv p2, iv p3] [.ref a2, .int 0])) rfl rfl (hb hby own_d_prog_14_method_2_8)) ?_
  show own_E p e below _ T2 (mkF m 9 #[rv a1, iv p1, iv p2, iv p3] [.int 1, .int 0])
  refine own_st (fun t k => XS.icmpYes X2.here hx rfl (pc0 := 9) (pc' := 46) rfl (hb hby own_d_prog_14_method_2_9) rfl (by decide) (by decide) (by decide) k) ?_
  show own_E p e below _ T2 (mkF m 46 #[rv a1, iv p1, iv p2, iv p3] [])
  refine own_st (fun t k => XS.aloadN X2.here hx rfl (hb hby own_d_prog_14_method_2_46) rfl rfl k) ?_
  show own_E p e below _ T2 (mkF m 47 #[rv a1, iv p1, iv p2, iv p3] [.ref a1])
  obtain ⟨T3, X3, e3, st3⟩ := getF X2 hx hZ hown (host := "") (Or.inl (own_w hw 11 rfl)) Via.refl e2 F_documents_a1 (g := (mkF m 47 #[rv a1, iv p1, iv p2, iv p3] [.ref a1])) rfl rfl (hb hby own_d_prog_14_method_2_47)
  refine own_st st3 ?_
  show own_E p e below _ T3 (mkF m 50 #[rv a1, iv p1, iv p2, iv p3] [.ref a2])
  refine own_st (fun t k => XS.aloadN X3.here hx rfl (hb hby own_d_prog_14_method_2_50) rfl rfl k) ?_
  show own_E p e below _ T3 (mkF m 51 #[rv a1, iv p1, iv p2, iv p3] [.ref a1, .ref a2])
  obtain ⟨T4, X4, e4, st4⟩ := getF X3 hx hZ hown (host := "") (Or.inl (own_w hw 23 rfl)) Via.refl e3 F_size_a1 (g := (mkF m 51 #[rv a1, iv p1, iv p2, iv p3] [.ref a1, .ref a2])) rfl rfl (hb hby own_d_prog_14_method_2_51)
  refine own_st st4 ?_
  show own_E p e below _ T4 (mkF m 54 #[rv a1, iv p1, iv p2, iv p3] [.int 0, .ref a2])
  refine own_st (fun t k => XS.iloadN X4.here hx rfl (hb hby own_d_prog_14_method_2_54) rfl k) ?_
  show own_E p e below _ T4 (mkF m 55 #[rv a1, iv p1, iv p2, iv p3] [.int p1, .int 0, .ref a2])
  obtain ⟨T5, h5, X5, e5, W5, Vw5, st5⟩ := own_ast X4 hx hZ e4 V_a2 (j := (0 : Int32)) ⟨by decide, by decide⟩ (x := p1) (i := 0) rfl (Nat.le_of_ble_eq_true rfl) (g := (mkF m 55 #[rv a1, iv p1, iv p2, iv p3] [.int p1, .int 0, .ref a2])) rfl rfl (hb hby own_d_prog_14_method_2_55)
  have V5 : Arv Z h5 a2 kc1 .int (1 : Int32) [(.int p1)] (.int (0 : Int32)) := Vw5
  have N5 := Fr.snoc X5 (Fr.nil n0) g_a2
  have Z6 := Nat.le_trans Z0 (Keep.of_wr W5).1
  have K7 : Keep h0 _ [a1, a2, a3] := (Keep.refl h0 [a1, a2, a3]).wr W5 (Or.inl (List.mem_of_getElem? (i := 1) rfl))
  refine own_st st5 ?_
  show own_E p e below _ T5 (mkF m 56 #[rv a1, iv p1, iv p2, iv p3] [])
  refine own_st (fun t k => XS.aloadN X5.here hx rfl (hb hby own_d_prog_14_method_2_56) rfl rfl k) ?_
  show own_E p e below _ T5 (mkF m 57 #[rv a1, iv p1, iv p2, iv p3] [.ref a1])
  have B9 := (F_frequencies_a1.other W5 (Or.inl ne12))
  obtain ⟨T8, X8, e8, st8⟩ := getF X5 hx hZ hown (host := "") (Or.inl (own_w hw 13 rfl)) Via.refl e5 B9 (g := (mkF m 57 #[rv a1, iv p1, iv p2, iv p3] [.ref a1])) rfl rfl (hb hby own_d_prog_14_method_2_57)
  refine own_st st8 ?_
  show own_E p e below _ T8 (mkF m 60 #[rv a1, iv p1, iv p2, iv p3] [.ref a3])
  refine own_st (fun t k => XS.aloadN X8.here hx rfl (hb hby own_d_prog_14_method_2_60) rfl rfl k) ?_
  show own_E p e below _ T8 (mkF m 61 #[rv a1, iv p1, iv p2, iv p3] [.ref a1, .ref a3])
  have B11 := (F_size_a1.other W5 (Or.inl ne12))
  obtain ⟨T10, X10, e10, st10⟩ := getF X8 hx hZ hown (host := "") (Or.inl (own_w hw 23 rfl)) Via.refl e8 B11 (g := (mkF m 61 #[rv a1, iv p1, iv p2, iv p3] [.ref a1, .ref a3])) rfl rfl (hb hby own_d_prog_14_method_2_61)
  refine own_st st10 ?_
  show own_E p e below _ T10 (mkF m 64 #[rv a1, iv p1, iv p2, iv p3] [.int 0, .ref a3])
  refine own_st (fun t k => XS.iloadN X10.here hx rfl (hb hby own_d_prog_14_method_2_64) rfl k) ?_
  show own_E p e below _ T10 (mkF m 65 #[rv a1, iv p1, iv p2, iv p3] [.int p2, .int 0, .ref a3])
  have B12 := (V_a3.other W5 (Ne.symm ne23))
  obtain ⟨T13, h13, X13, e13, W13, Vw13, st13⟩ := own_ast X10 hx hZ e10 B12 (j := (0 : Int32)) ⟨by decide, by decide⟩ (x := p2) (i := 0) rfl (Nat.le_of_ble_eq_true rfl) (g := (mkF m 65 #[rv a1, iv p1, iv p2, iv p3] [.int p2, .int 0, .ref a3])) rfl rfl (hb hby own_d_prog_14_method_2_65)
  have V13 : Arv Z h13 a3 kc2 .int (1 : Int32) [(.int p2)] (.int (0 : Int32)) := Vw13
  have N13 := Fr.snoc X13 N5 g_a3
  have Z14 := Nat.le_trans Z6 (Keep.of_wr W13).1
  have K15 : Keep h0 _ [a1, a2, a3] := K7.wr W13 (Or.inl (List.mem_of_getElem? (i := 2) rfl))
  refine own_st st13 ?_
  show own_E p e below _ T13 (mkF m 66 #[rv a1, iv p1, iv p2, iv p3] [])
  refine own_st (fun t k => XS.aloadN X13.here hx rfl (hb hby own_d_prog_14_method_2_66) rfl rfl k) ?_
  show own_E p e below _ T13 (mkF m 67 #[rv a1, iv p1, iv p2, iv p3] [.ref a1])
  refine own_st (fun t k => XS.dup X13.here hx rfl (hb hby own_d_prog_14_method_2_67) rfl rfl k) ?_
  show own_E p e below _ T13 (mkF m 68 #[rv a1, iv p1, iv p2, iv p3] [.ref a1, .ref a1])
  have B17 := (B11.other W13 (Or.inl ne13))
  obtain ⟨T16, X16, e16, st16⟩ := getF X13 hx hZ hown (host := "") (Or.inl (own_w hw 23 rfl)) Via.refl e13 B17 (g := (mkF m 68 #[rv a1, iv p1, iv p2, iv p3] [.ref a1, .ref a1])) rfl rfl (hb hby own_d_prog_14_method_2_68)
  refine own_st st16 ?_
  show own_E p e below _ T16 (mkF m 71 #[rv a1, iv p1, iv p2, iv p3] [.int 0, .ref a1])
  refine own_st (fun t k => XS.iconst X16.here hx rfl (hb hby own_d_prog_14_method_2_71) k) ?_
  show own_E p e below _ T16 (mkF m 72 #[rv a1, iv p1, iv p2, iv p3] [.int 1, .int 0, .ref a1])
  refine own_st (fun t k => XS.iadd X16.here hx rfl (hb hby own_d_prog_14_method_2_72) rfl k) ?_
  show own_E p e below _ T16 (mkF m 73 #[rv a1, iv p1, iv p2, iv p3] [.int 1, .ref a1])
  have B19 := ((E_a1.wr W5).wr W13)
  obtain ⟨T18, h18, X18, e18, W18, st18⟩ := putF X16 hx hZ hown (host := "") (Or.inl (own_w hw 23 rfl)) Via.refl e16 B17 B19 (Or.inl (own_w hw 24 rfl)) (own_w hw 2 rfl) (ty := .int) (by decide) rfl rfl (g := (mkF m 73 #[rv a1, iv p1, iv p2, iv p3] [.int 1, .ref a1])) rfl rfl (hb hby own_d_prog_14_method_2_73)
  have N18 := Fr.snoc X18 N13 g_a1
  have Fw18 := B17.same W18
  have Z20 := Nat.le_trans Z14 (Keep.of_wr W18).1
  have K21 : Keep h0 _ [a1, a2, a3] := K15.wr W18 (Or.inl (List.mem_of_getElem? (i := 0) rfl))
  refine own_st st18 ?_
  show own_E p e below _ T18 (mkF m 76 #[rv a1, iv p1, iv p2, iv p3] [])
  refine own_st (fun t k => XS.aloadN X18.here hx rfl (hb hby own_d_prog_14_method_2_76) rfl rfl k) ?_
  show own_E p e below _ T18 (mkF m 77 #[rv a1, iv p1, iv p2, iv p3] [.ref a1])
  refine own_st (fun t k => XS.aloadN X18.here hx rfl (hb hby own_d_prog_14_method_2_77) rfl rfl k) ?_
  show own_E p e below _ T18 (mkF m 78 #[rv a1, iv p1, iv p2, iv p3] [.ref a1, .ref a1])
  have B23 := (((F_maxFrequency_a1.other W5 (Or.inl ne12)).other W13 (Or.inl ne13)).other W18 (Or.inr (slot_ne (Or.inl (own_w hw 26 rfl)) (Or.inl (own_w hw 24 rfl)) (by decide) (t := .int) (t' := .int) (by decide) (by decide))))
  obtain ⟨T22, X22, e22, st22⟩ := getF X18 hx hZ hown (host := "") (Or.inl (own_w hw 25 rfl)) Via.refl e18 B23 (g := (mkF m 78 #[rv a1, iv p1, iv p2, iv p3] [.ref a1, .ref a1])) rfl rfl (hb hby own_d_prog_14_method_2_78)
  refine own_st st22 ?_
  show own_E p e below _ T22 (mkF m 81 #[rv a1, iv p1, iv p2, iv p3] [.int q2, .ref a1])
  refine own_st (fun t k => XS.iloadN X22.here hx rfl (hb hby own_d_prog_14_method_2_81) rfl k) ?_
  show own_E p e below _ T22 (mkF m 82 #[rv a1, iv p1, iv p2, iv p3] [.int p2, .int q2, .ref a1])
  obtain ⟨_, _, ⟨T24, L24, k24, n24⟩, -, X24, ⟨Lc24, hQ24, l24, y24, z24⟩, st24⟩ := Jvm.LawKit.callS X22 hx (y := own_y1) hown (mvT hZ (own_w hw 27 rfl)) (mvT hZ (own_w hw 28 rfl)) (mvT hZ (own_w hw 29 rfl)) (mvT hZ (own_w hw 30 rfl)) (by decide) (backOf (W := 1) (own_maxF l Z a0 hw [] q2 p2 h18 n0 Z20 ) hZ (own_w hw 30 rfl) (own_w hw 29 rfl) (by decide) (by decide)) (g := (mkF m 82 #[rv a1, iv p1, iv p2, iv p3] [.int p2, .int q2, .ref a1])) rfl (by rw [hml]; rfl) (argsL := [(.int q2), (.int p2)]) (rest := [(.ref a1)]) (lenOf own_pd_2 rfl) rfl (by show 2 * 0 + _ ≤ _; exact Nat.le_of_eq rfl) (hb hby own_d_prog_14_method_2_82) (fun _ _ => ⟨rfl, e22, (by decide : 0 + 0 ≤ _), (by decide : 0 + 0 ≤ _)⟩)
  dsimp only [Pt.U, Pt.locs, Pt.cells, Pt.slots] at X24 l24 y24 z24 st24 hQ24
  subst l24 y24 z24
  obtain ⟨rfl, e24, rfl⟩ := hQ24
  have N24 := Fr.app N18 (Fr.nil n0)
  refine own_st st24 ?_
  show own_E p e below _ T24 (mkF m 85 #[rv a1, iv p1, iv p2, iv p3] [.int (own_max q2 p2), .ref a1])
  have B26 := (B19.wr W18)
  obtain ⟨T25, h25, X25, e25, W25, st25⟩ := putF X24 hx hZ hown (host := "") (Or.inl (own_w hw 25 rfl)) Via.refl e24 B23 B26 (Or.inl (own_w hw 26 rfl)) (own_w hw 2 rfl) (ty := .int) (by decide) rfl rfl (g := (mkF m 85 #[rv a1, iv p1, iv p2, iv p3] [.int (own_max q2 p2), .ref a1])) rfl rfl (hb hby own_d_prog_14_method_2_85)
  have N25 := Fr.snoc X25 N24 g_a1
  have Fw25 := B23.same W25
  have Z27 := Nat.le_trans Z20 (Keep.of_wr W25).1
  have K28 : Keep h0 _ [a1, a2, a3] := K21.wr W25 (Or.inl (List.mem_of_getElem? (i := 0) rfl))
  refine own_st st25 ?_
  show own_E p e below _ T25 (mkF m 88 #[rv a1, iv p1, iv p2, iv p3] [])
  refine own_st (fun t k => XS.aloadN X25.here hx rfl (hb hby own_d_prog_14_method_2_88) rfl rfl k) ?_
  show own_E p e below _ T25 (mkF m 89 #[rv a1, iv p1, iv p2, iv p3] [.ref a1])
  refine own_st (fun t k => XS.aloadN X25.here hx rfl (hb hby own_d_prog_14_method_2_89) rfl rfl k) ?_
  show own_E p e below _ T25 (mkF m 90 #[rv a1, iv p1, iv p2, iv p3] [.ref a1, .ref a1])
  have B30 := ((((F_minLength_a1.other W5 (Or.inl ne12)).other W13 (Or.inl ne13)).other W18 (Or.inr (slot_ne (Or.inl (own_w hw 17 rfl)) (Or.inl (own_w hw 24 rfl)) (by decide) (t := .int) (t' := .int) (by decide) (by decide)))).other W25 (Or.inr (slot_ne (Or.inl (own_w hw 17 rfl)) (Or.inl (own_w hw 26 rfl)) (by decide) (t := .int) (t' := .int) (by decide) (by decide))))
  obtain ⟨T29, X29, e29, st29⟩ := getF X25 hx hZ hown (host := "") (Or.inl (own_w hw 16 rfl)) Via.refl e25 B30 (g := (mkF m 90 #[rv a1, iv p1, iv p2, iv p3] [.ref a1, .ref a1])) rfl rfl (hb hby own_d_prog_14_method_2_90)
  refine own_st st29 ?_
  show own_E p e below _ T29 (mkF m 93 #[rv a1, iv p1, iv p2, iv p3] [.int q1, .ref a1])
  refine own_st (fun t k => XS.iloadN X29.here hx rfl (hb hby own_d_prog_14_method_2_93) rfl k) ?_
  show own_E p e below _ T29 (mkF m 94 #[rv a1, iv p1, iv p2, iv p3] [.int p3, .int q1, .ref a1])
  obtain ⟨_, _, ⟨T31, L31, k31, n31⟩, -, X31, ⟨Lc31, hQ31, l31, y31, z31⟩, st31⟩ := Jvm.LawKit.callS X29 hx (y := own_y0) hown (mvT hZ (own_w hw 31 rfl)) (mvT hZ (own_w hw 32 rfl)) (mvT hZ (own_w hw 29 rfl)) (mvT hZ (own_w hw 33 rfl)) (by decide) (backOf (W := 1) (own_minF l Z a0 hw [] q1 p3 h25 n0 Z27 ) hZ (own_w hw 33 rfl) (own_w hw 29 rfl) (by decide) (by decide)) (g := (mkF m 94 #[rv a1, iv p1, iv p2, iv p3] [.int p3, .int q1, .ref a1])) rfl (by rw [hml]; rfl) (argsL := [(.int q1), (.int p3)]) (rest := [(.ref a1)]) (lenOf own_pd_2 rfl) rfl (by show 2 * 0 + _ ≤ _; exact Nat.le_of_eq rfl) (hb hby own_d_prog_14_method_2_94) (fun _ _ => ⟨rfl, e29, (by decide : 0 + 0 ≤ _), (by decide : 0 + 0 ≤ _)⟩)
  dsimp only [Pt.U, Pt.locs, Pt.cells, Pt.slots] at X31 l31 y31 z31 st31 hQ31
  subst l31 y31 z31
  obtain ⟨rfl, e31, rfl⟩ := hQ31
  have N31 := Fr.app N25 (Fr.nil n0)
  refine own_st st31 ?_
  show own_E p e below _ T31 (mkF m 97 #[rv a1, iv p1, iv p2, iv p3] [.int (own_min q1 p3), .ref a1])
  have B33 := (B26.wr W25)
  obtain ⟨T32, h32, X32, e32, W32, st32⟩ := putF X31 hx hZ hown (host := "") (Or.inl (own_w hw 16 rfl)) Via.refl e31 B30 B33 (Or.inl (own_w hw 17 rfl)) (own_w hw 2 rfl) (ty := .int) (by decide) rfl rfl (g := (mkF m 97 #[rv a1, iv p1, iv p2, iv p3] [.int (own_min q1 p3), .ref a1])) rfl rfl (hb hby own_d_prog_14_method_2_97)
  have N32 := Fr.snoc X32 N31 g_a1
  have Fw32 := B30.same W32
  have Z34 := Nat.le_trans Z27 (Keep.of_wr W32).1
  have K35 : Keep h0 _ [a1, a2, a3] := K28.wr W32 (Or.inl (List.mem_of_getElem? (i := 0) rfl))
  refine own_st st32 ?_
  show own_E p e below _ T32 (mkF m 100 #[rv a1, iv p1, iv p2, iv p3] [])
  refine own_retV X32 hx Bd.notSynchronized Bd.returns (hb hby own_d_prog_14_method_2_100) (by decide) (by decide) ?_
  have B36 := (B33.wr W32)
  have B37 := (((((F_documents_a1.other W5 (Or.inl ne12)).other W13 (Or.inl ne13)).other W18 (Or.inr (slot_ne (Or.inl (own_w hw 12 rfl)) (Or.inl (own_w hw 24 rfl)) (by decide) (t := (.array .int)) (t' := .int) (by decide) (by decide)))).other W25 (Or.inr (slot_ne (Or.inl (own_w hw 12 rfl)) (Or.inl (own_w hw 26 rfl)) (by decide) (t := (.array .int)) (t' := .int) (by decide) (by decide)))).other W32 (Or.inr (slot_ne (Or.inl (own_w hw 12 rfl)) (Or.inl (own_w hw 17 rfl)) (by decide) (t := (.array .int)) (t' := .int) (by decide) (by decide))))
  have B38 := ((((B9.other W13 (Or.inl ne13)).other W18 (Or.inr (slot_ne (Or.inl (own_w hw 14 rfl)) (Or.inl (own_w hw 24 rfl)) (by decide) (t := (.array .int)) (t' := .int) (by decide) (by decide)))).other W25 (Or.inr (slot_ne (Or.inl (own_w hw 14 rfl)) (Or.inl (own_w hw 26 rfl)) (by decide) (t := (.array .int)) (t' := .int) (by decide) (by decide)))).other W32 (Or.inr (slot_ne (Or.inl (own_w hw 14 rfl)) (Or.inl (own_w hw 17 rfl)) (by decide) (t := (.array .int)) (t' := .int) (by decide) (by decide))))
  have B39 := (Fw25.other W32 (Or.inr (slot_ne (Or.inl (own_w hw 26 rfl)) (Or.inl (own_w hw 17 rfl)) (by decide) (t := .int) (t' := .int) (by decide) (by decide))))
  have B40 := ((Fw18.other W25 (Or.inr (slot_ne (Or.inl (own_w hw 24 rfl)) (Or.inl (own_w hw 26 rfl)) (by decide) (t := .int) (t' := .int) (by decide) (by decide)))).other W32 (Or.inr (slot_ne (Or.inl (own_w hw 24 rfl)) (Or.inl (own_w hw 17 rfl)) (by decide) (t := .int) (t' := .int) (by decide) (by decide))))
  have B41 := ((((V5.other W13 ne23).other W18 (Ne.symm ne12)).other W25 (Ne.symm ne12)).other W32 (Ne.symm ne12))
  have B42 := (((V13.other W18 (Ne.symm ne13)).other W25 (Ne.symm ne13)).other W32 (Ne.symm ne13))
  show own_add0_Q Z a1 a2 a3 kc1 kc2 p1 p2 p3 q1 q2 ea0 eb0 h0 n0 _ T32.heap _
  rw [e32]
  exact ⟨rfl, N32, K35, B36, B37, B38, Fw32, B39, B40, B41, B42⟩
theorem own_d_prog_14_method_2_12 : decode prog_14_method_2_code 12 = .ok (.aload_n 0, 1) := by decide +kernel
theorem own_d_prog_14_method_2_13 : decode prog_14_method_2_code 13 = .ok (.aload_n 0, 1) := by decide +kernel
theorem own_d_prog_14_method_2_14 : decode prog_14_method_2_code 14 = .ok (.getfield 7, 3) := by decide +kernel
theorem own_d_prog_14_method_2_17 : decode prog_14_method_2_code 17 = .ok (.iconst 2, 1) := by decide +kernel
theorem own_d_prog_14_method_2_18 : decode prog_14_method_2_code 18 = .ok (.aload_n 0, 1) := by decide +kernel
theorem own_d_prog_14_method_2_19 : decode prog_14_method_2_code 19 = .ok (.getfield 23, 3) := by decide +kernel
theorem own_d_prog_14_method_2_22 : decode prog_14_method_2_code 22 = .ok (.imul, 1) := by decide +kernel
theorem own_d_prog_14_method_2_23 : decode prog_14_method_2_code 23 = .ok (.invokestatic 26, 3) := by decide +kernel
theorem own_pd_6 : parseMethodDescriptor "([II)[I" = some ⟨[(.array .int), .int], some (.array .int)⟩ := by decide +kernel
theorem own_d_prog_14_method_2_26 : decode prog_14_method_2_code 26 = .ok (.putfield 7, 3) := by decide +kernel
theorem own_d_prog_14_method_2_29 : decode prog_14_method_2_code 29 = .ok (.aload_n 0, 1) := by decide +kernel
theorem own_d_prog_14_method_2_30 : decode prog_14_method_2_code 30 = .ok (.aload_n 0, 1) := by decide +kernel
theorem own_d_prog_14_method_2_31 : decode prog_14_method_2_code 31 = .ok (.getfield 13, 3) := by decide +kernel
theorem own_d_prog_14_method_2_34 : decode prog_14_method_2_code 34 = .ok (.iconst 2, 1) := by decide +kernel
theorem own_d_prog_14_method_2_35 : decode prog_14_method_2_code 35 = .ok (.aload_n 0, 1) := by decide +kernel
theorem own_d_prog_14_method_2_36 : decode prog_14_method_2_code 36 = .ok (.getfield 23, 3) := by decide +kernel
theorem own_d_prog_14_method_2_39 : decode prog_14_method_2_code 39 = .ok (.imul, 1) := by decide +kernel
theorem own_d_prog_14_method_2_40 : decode prog_14_method_2_code 40 = .ok (.invokestatic 26, 3) := by decide +kernel
theorem own_d_prog_14_method_2_43 : decode prog_14_method_2_code 43 = .ok (.putfield 13, 3) := by decide +kernel
def own_add1_Q (Z : State) (a1 : Addr) (a2 : Addr) (a3 : Addr) (kc1 : ClassId) (kc2 : ClassId) (p1 : Int32) (p2 : Int32) (p3 : Int32) (q1 : Int32) (q2 : Int32) (ea0 : Int32) (eb0 : Int32) (h0 : Heap) (n0 : Nat) (v : Option Value) (h : Heap) (L : List Loc) : Prop := ∃ (o0 : Addr), ∃ (o1 : Addr), ∃ (o2 : ClassId), ∃ (o3 : ClassId), v = none ∧ Fr n0 L ∧ Keep h0 h [a1] ∧ h0.size ≤ o0 ∧ h0.size ≤ o1 ∧ o0 ≠ o1 ∧ Exa Z h a1 "com/example/lean_scorer/leanscorer/Postings" ∧ Fld Z h a1 "com/example/lean_scorer/leanscorer/Postings" "documents" "[I" (.ref o0) ∧ Fld Z h a1 "com/example/lean_scorer/leanscorer/Postings" "frequencies" "[I" (.ref o1) ∧ Fld Z h a1 "com/example/lean_scorer/leanscorer/Postings" "minLength" "I" (.int (own_min q1 p3)) ∧ Fld Z h a1 "com/example/lean_scorer/leanscorer/Postings" "maxFrequency" "I" (.int (own_max q2 p2)) ∧ Fld Z h a1 "com/example/lean_scorer/leanscorer/Postings" "size" "I" (.int (2 : Int32)) ∧ Arv Z h o0 o2 .int (2 : Int32) [(.int ea0), (.int p1)] (.int (0 : Int32)) ∧ Arv Z h o1 o3 .int (2 : Int32) [(.int eb0), (.int p2)] (.int (0 : Int32))
theorem own_add1_ef (m : MethodId) (a1 : Addr) (a2 : Addr) (a3 : Addr) (kc1 : ClassId) (kc2 : ClassId) (p1 : Int32) (p2 : Int32) (p3 : Int32) (q1 : Int32) (q2 : Int32) (ea0 : Int32) (eb0 : Int32) : entryFrame m #[(.ref a1), (.int p1), (.int p2), (.int p3)] 4 = mkF m 0 #[.val (.ref a1), .val (.int p1), .val (.int p2), .val (.int p3)] [] := by first | (simp [entryFrame, mkF, argsToLocals, Value.category]; done) | rfl
set_option maxRecDepth 65536 in
set_option maxHeartbeats 40000000 in
theorem own_add1 (l : Launch) (Z : State) (a0 : Array Value) (hw : ∀ d ∈ tables_1, d.before a0 Z = true) (ws : List Jvm.Cond) (a1 : Addr) (a2 : Addr) (a3 : Addr) (kc1 : ClassId) (kc2 : ClassId) (p1 : Int32) (p2 : Int32) (p3 : Int32) (q1 : Int32) (q2 : Int32) (ea0 : Int32) (eb0 : Int32) (h0 : Heap) (n0 : Nat) (Z0 : n0 ≤ h0.size) (E_a1 : Exa Z h0 a1 "com/example/lean_scorer/leanscorer/Postings") (F_documents_a1 : Fld Z h0 a1 "com/example/lean_scorer/leanscorer/Postings" "documents" "[I" (.ref a2)) (F_frequencies_a1 : Fld Z h0 a1 "com/example/lean_scorer/leanscorer/Postings" "frequencies" "[I" (.ref a3)) (F_minLength_a1 : Fld Z h0 a1 "com/example/lean_scorer/leanscorer/Postings" "minLength" "I" (.int q1)) (F_maxFrequency_a1 : Fld Z h0 a1 "com/example/lean_scorer/leanscorer/Postings" "maxFrequency" "I" (.int q2)) (F_size_a1 : Fld Z h0 a1 "com/example/lean_scorer/leanscorer/Postings" "size" "I" (.int (1 : Int32))) (V_a2 : Arv Z h0 a2 kc1 .int (1 : Int32) [(.int ea0)] (.int (0 : Int32))) (V_a3 : Arv Z h0 a3 kc2 .int (1 : Int32) [(.int eb0)] (.int (0 : Int32))) (ne12 : a1 ≠ a2) (ne13 : a1 ≠ a3) (ne23 : a2 ≠ a3) (g_a1 : n0 ≤ a1) :
    MetFree l own_y4 (head1 (Jvm.Cond.code own_y4 prog_14_method_2_code 4 none :: ws) ({ frames := 2, cells := 2, slots := 4, locals := 55 } : Room)) (fun a U => a = #[(.ref a1), (.int p1), (.int p2), (.int p3)] ∧ Z.Warmed39 U.vm ∧ U.heap = h0) (fun _ _ _ _ _ => True) (fun _ U o U' => ∃ v L, o = .returned v ∧ own_add1_Q Z a1 a2 a3 kc1 kc2 p1 p2 p3 q1 q2 ea0 eb0 h0 n0 v U'.heap L ∧ FrameEnd U o U' L ({ frames := 2, cells := 2, slots := 4, locals := 55 } : Room).cells ({ frames := 2, cells := 2, slots := 4, locals := 55 } : Room).slots) := by
  refine MetFree.of_bodySF (plainFor_of_name own_pn_Postings) hisR ?_
  intro p e s m args below meth c s₁ Bd hml0 hP hK
  obtain ⟨rfl, hZ, hh⟩ := hP
  have hx := Bd.exec
  have hby := Bd.bytes
  have hml : c.maxLocals = 4 := hml0
  have hown : s.vm.findClass "com/example/lean_scorer/leanscorer/Postings" = some m.cls := findClass_of_methodNamed Bd.named
  have hnm := (name_of_methodNamed Bd.named Bd.method).1
  have X0 : Stand p l e ({ frames := 2, cells := 2, slots := 4, locals := 55 } : Room) s m #[(.ref a1), (.int p1), (.int p2), (.int p3)] below meth c s₁ [] 0 0 := Stand.of_body Bd
  have e0 : s₁.heap = h0 := by rw [← hh, Bd.state]; rfl
  show own_E p e below (own_K (own_add1_Q Z a1 a2 a3 kc1 kc2 p1 p2 p3 q1 q2 ea0 eb0 h0 n0) s ({ frames := 2, cells := 2, slots := 4, locals := 55 } : Room).cells ({ frames := 2, cells := 2, slots := 4, locals := 55 } : Room).slots) s₁ (entryFrame m #[(.ref a1), (.int p1), (.int p2), (.int p3)] 4)
  refine own_pre (own_add1_ef m a1 a2 a3 kc1 kc2 p1 p2 p3 q1 q2 ea0 eb0) ?_
  show own_E p e below _ s₁ (mkF m 0 #[rv a1, iv p1, iv p2, iv p3] [])
  refine own_st (fun t k => XS.aloadN X0.here hx rfl (hb hby own_d_prog_14_method_2_0) rfl rfl k) ?_
  show own_E p e below _ s₁ (mkF m 1 #[rv a1, iv p1, iv p2, iv p3] [.ref a1])
  obtain ⟨T1, X1, e1, st1⟩ := getF X0 hx hZ hown (host := "") (Or.inl (own_w hw 23 rfl)) Via.refl e0 F_size_a1 (g := (mkF m 1 #[rv a1, iv p1, iv p2, iv p3] [.ref a1])) rfl rfl (hb hby own_d_prog_14_method_2_1)
  refine own_st st1 ?_
  show own_E p e below _ T1 (mkF m 4 #[rv a1, iv p1, iv p2, iv p3] [.int 1])
  refine own_st (fun t k => XS.aloadN X1.here hx rfl (hb hby own_d_prog_14_method_2_4) rfl rfl k) ?_
  show own_E p e below _ T1 (mkF m 5 #[rv a1, iv p1, iv p2, iv p3] [.ref a1, .int 1])
  obtain ⟨T2, X2, e2, st2⟩ := getF X1 hx hZ hown (host := "") (Or.inl (own_w hw 11 rfl)) Via.refl e1 F_documents_a1 (g := (mkF m 5 #[rv a1, iv p1, iv p2, iv p3] [.ref a1, .int 1])) rfl rfl (hb hby own_d_prog_14_method_2_5)
  refine own_st st2 ?_
  show own_E p e below _ T2 (mkF m 8 #[rv a1, iv p1, iv p2, iv p3] [.ref a2, .int 1])
  refine own_st (own_alen X2 hx hZ e2 V_a2 (g := (mkF m 8 #[rv a1, iv p1, iv p2, iv p3] [.ref a2, .int 1])) rfl rfl (hb hby own_d_prog_14_method_2_8)) ?_
  show own_E p e below _ T2 (mkF m 9 #[rv a1, iv p1, iv p2, iv p3] [.int 1, .int 1])
  refine own_st (fun t k => XS.icmpNo X2.here hx rfl (hb hby own_d_prog_14_method_2_9) rfl (by decide) k) ?_
  show own_E p e below _ T2 (mkF m 12 #[rv a1, iv p1, iv p2, iv p3] [])
  refine own_st (fun t k => XS.aloadN X2.here hx rfl (hb hby own_d_prog_14_method_2_12) rfl rfl k) ?_
  show own_E p e below _ T2 (mkF m 13 #[rv a1, iv p1, iv p2, iv p3] [.ref a1])
  refine own_st (fun t k => XS.aloadN X2.here hx rfl (hb hby own_d_prog_14_method_2_13) rfl rfl k) ?_
  show own_E p e below _ T2 (mkF m 14 #[rv a1, iv p1, iv p2, iv p3] [.ref a1, .ref a1])
  obtain ⟨T3, X3, e3, st3⟩ := getF X2 hx hZ hown (host := "") (Or.inl (own_w hw 11 rfl)) Via.refl e2 F_documents_a1 (g := (mkF m 14 #[rv a1, iv p1, iv p2, iv p3] [.ref a1, .ref a1])) rfl rfl (hb hby own_d_prog_14_method_2_14)
  refine own_st st3 ?_
  show own_E p e below _ T3 (mkF m 17 #[rv a1, iv p1, iv p2, iv p3] [.ref a2, .ref a1])
  refine own_st (fun t k => XS.iconst X3.here hx rfl (hb hby own_d_prog_14_method_2_17) k) ?_
  show own_E p e below _ T3 (mkF m 18 #[rv a1, iv p1, iv p2, iv p3] [.int 2, .ref a2, .ref a1])
  refine own_st (fun t k => XS.aloadN X3.here hx rfl (hb hby own_d_prog_14_method_2_18) rfl rfl k) ?_
  show own_E p e below _ T3 (mkF m 19 #[rv a1, iv p1, iv p2, iv p3] [.ref a1, .int 2, .ref a2, .ref a1])
  obtain ⟨T4, X4, e4, st4⟩ := getF X3 hx hZ hown (host := "") (Or.inl (own_w hw 23 rfl)) Via.refl e3 F_size_a1 (g := (mkF m 19 #[rv a1, iv p1, iv p2, iv p3] [.ref a1, .int 2, .ref a2, .ref a1])) rfl rfl (hb hby own_d_prog_14_method_2_19)
  refine own_st st4 ?_
  show own_E p e below _ T4 (mkF m 22 #[rv a1, iv p1, iv p2, iv p3] [.int 1, .int 2, .ref a2, .ref a1])
  refine own_st (fun t k => XS.imul X4.here hx rfl (hb hby own_d_prog_14_method_2_22) rfl k) ?_
  show own_E p e below _ T4 (mkF m 23 #[rv a1, iv p1, iv p2, iv p3] [.int 2, .ref a2, .ref a1])
  obtain ⟨_, _, ⟨T5, L5, k5, n5⟩, -, X5, ⟨Lc5, hQ5, l5, y5, z5⟩, st5⟩ := Jvm.LawKit.callS X4 hx (y := own_y2) hown (mvT hZ (own_w hw 34 rfl)) (mvT hZ (own_w hw 35 rfl)) (mvT hZ (own_w hw 36 rfl)) (mvT hZ (own_w hw 37 rfl)) (by decide) (backOf (W := 1) (own_copy1_2 l Z a0 hw [] a2 kc1 ea0 h0 n0 Z0 V_a2) hZ (own_w hw 37 rfl) (own_w hw 36 rfl) (by decide) (by decide)) (g := (mkF m 23 #[rv a1, iv p1, iv p2, iv p3] [.int 2, .ref a2, .ref a1])) rfl (by rw [hml]; rfl) (argsL := [(.ref a2), (.int (2 : Int32))]) (rest := [(.ref a1)]) (lenOf own_pd_6 rfl) rfl (by show 2 * 0 + _ ≤ _; exact Nat.le_of_eq rfl) (hb hby own_d_prog_14_method_2_23) (fun _ _ => ⟨rfl, e4, (by decide : 0 + 1 ≤ _), (by decide : 0 + 2 ≤ _)⟩)
  dsimp only [Pt.U, Pt.locs, Pt.cells, Pt.slots] at X5 l5 y5 z5 st5 hQ5
  subst l5 y5 z5
  obtain ⟨b5_o0, k5_o1, rfl, Nq5, Kq5, sz5_0, P5_0⟩ := hQ5
  have N5 := Fr.app (Fr.nil n0) Nq5
  have ne_a1_b5_o0 : a1 ≠ b5_o0 := Nat.ne_of_lt (Nat.lt_of_lt_of_le E_a1.lt sz5_0)
  have ne_a2_b5_o0 : a2 ≠ b5_o0 := Nat.ne_of_lt (Nat.lt_of_lt_of_le V_a2.lt sz5_0)
  have ne_a3_b5_o0 : a3 ≠ b5_o0 := Nat.ne_of_lt (Nat.lt_of_lt_of_le V_a3.lt sz5_0)
  have g_b5_o0 : n0 ≤ b5_o0 := Nat.le_trans Z0 sz5_0
  have sz_b5_o0 : h0.size ≤ b5_o0 := Nat.le_trans (Keep.refl h0 [a1]).1 sz5_0
  have e5 : T5.heap = T5.heap := rfl
  have Z6 := Nat.le_trans Z0 Kq5.1
  have K7 : Keep h0 _ [a1] := (Keep.refl h0 [a1]).trans Kq5 all0
  refine own_st st5 ?_
  show own_E p e below _ T5 (mkF m 26 #[rv a1, iv p1, iv p2, iv p3] [.ref b5_o0, .ref a1])
  have B9 := (F_documents_a1.keep Kq5 nin0)
  have B10 := (E_a1.keep Kq5)
  obtain ⟨T8, h8, X8, e8, W8, st8⟩ := putF X5 hx hZ hown (host := "") (Or.inl (own_w hw 11 rfl)) Via.refl e5 B9 B10 (Or.inl (own_w hw 12 rfl)) (own_w hw 2 rfl) (ty := (.array .int)) (by decide) rfl rfl (g := (mkF m 26 #[rv a1, iv p1, iv p2, iv p3] [.ref b5_o0, .ref a1])) rfl rfl (hb hby own_d_prog_14_method_2_26)
  have N8 := Fr.snoc X8 N5 g_a1
  have Fw8 := B9.same W8
  have Z11 := Nat.le_trans Z6 (Keep.of_wr W8).1
  have K12 : Keep h0 _ [a1] := K7.wr W8 (Or.inl (List.mem_of_getElem? (i := 0) rfl))
  refine own_st st8 ?_
  show own_E p e below _ T8 (mkF m 29 #[rv a1, iv p1, iv p2, iv p3] [])
  refine own_st (fun t k => XS.aloadN X8.here hx rfl (hb hby own_d_prog_14_method_2_29) rfl rfl k) ?_
  show own_E p e below _ T8 (mkF m 30 #[rv a1, iv p1, iv p2, iv p3] [.ref a1])
  refine own_st (fun t k => XS.aloadN X8.here hx rfl (hb hby own_d_prog_14_method_2_30) rfl rfl k) ?_
  show own_E p e below _ T8 (mkF m 31 #[rv a1, iv p1, iv p2, iv p3] [.ref a1, .ref a1])
  have B14 := ((F_frequencies_a1.keep Kq5 nin0).other W8 (Or.inr (slot_ne (Or.inl (own_w hw 14 rfl)) (Or.inl (own_w hw 12 rfl)) (by decide) (t := (.array .int)) (t' := (.array .int)) (by decide) (by decide))))
  obtain ⟨T13, X13, e13, st13⟩ := getF X8 hx hZ hown (host := "") (Or.inl (own_w hw 13 rfl)) Via.refl e8 B14 (g := (mkF m 31 #[rv a1, iv p1, iv p2, iv p3] [.ref a1, .ref a1])) rfl rfl (hb hby own_d_prog_14_method_2_31)
  refine own_st st13 ?_
  show own_E p e below _ T13 (mkF m 34 #[rv a1, iv p1, iv p2, iv p3] [.ref a3, .ref a1])
  refine own_st (fun t k => XS.iconst X13.here hx rfl (hb hby own_d_prog_14_method_2_34) k) ?_
  show own_E p e below _ T13 (mkF m 35 #[rv a1, iv p1, iv p2, iv p3] [.int 2, .ref a3, .ref a1])
  refine own_st (fun t k => XS.aloadN X13.here hx rfl (hb hby own_d_prog_14_method_2_35) rfl rfl k) ?_
  show own_E p e below _ T13 (mkF m 36 #[rv a1, iv p1, iv p2, iv p3] [.ref a1, .int 2, .ref a3, .ref a1])
  have B16 := ((F_size_a1.keep Kq5 nin0).other W8 (Or.inr (slot_ne (Or.inl (own_w hw 24 rfl)) (Or.inl (own_w hw 12 rfl)) (by decide) (t := .int) (t' := (.array .int)) (by decide) (by decide))))
  obtain ⟨T15, X15, e15, st15⟩ := getF X13 hx hZ hown (host := "") (Or.inl (own_w hw 23 rfl)) Via.refl e13 B16 (g := (mkF m 36 #[rv a1, iv p1, iv p2, iv p3] [.ref a1, .int 2, .ref a3, .ref a1])) rfl rfl (hb hby own_d_prog_14_method_2_36)
  refine own_st st15 ?_
  show own_E p e below _ T15 (mkF m 39 #[rv a1, iv p1, iv p2, iv p3] [.int 1, .int 2, .ref a3, .ref a1])
  refine own_st (fun t k => XS.imul X15.here hx rfl (hb hby own_d_prog_14_method_2_39) rfl k) ?_
  show own_E p e below _ T15 (mkF m 40 #[rv a1, iv p1, iv p2, iv p3] [.int 2, .ref a3, .ref a1])
  have B17 := ((V_a3.keep Kq5 nin0).other W8 (Ne.symm ne13))
  obtain ⟨_, _, ⟨T18, L18, k18, n18⟩, -, X18, ⟨Lc18, hQ18, l18, y18, z18⟩, st18⟩ := Jvm.LawKit.callS X15 hx (y := own_y2) hown (mvT hZ (own_w hw 34 rfl)) (mvT hZ (own_w hw 35 rfl)) (mvT hZ (own_w hw 36 rfl)) (mvT hZ (own_w hw 37 rfl)) (by decide) (backOf (W := 1) (own_copy1_2 l Z a0 hw [] a3 kc2 eb0 h8 n0 Z11 B17) hZ (own_w hw 37 rfl) (own_w hw 36 rfl) (by decide) (by decide)) (g := (mkF m 40 #[rv a1, iv p1, iv p2, iv p3] [.int 2, .ref a3, .ref a1])) rfl (by rw [hml]; rfl) (argsL := [(.ref a3), (.int (2 : Int32))]) (rest := [(.ref a1)]) (lenOf own_pd_6 rfl) rfl (by show 2 * 0 + _ ≤ _; exact Nat.le_of_eq rfl) (hb hby own_d_prog_14_method_2_40) (fun _ _ => ⟨rfl, e15, (by decide : 1 + 1 ≤ _), (by decide : 2 + 2 ≤ _)⟩)
  dsimp only [Pt.U, Pt.locs, Pt.cells, Pt.slots] at X18 l18 y18 z18 st18 hQ18
  subst l18 y18 z18
  obtain ⟨b18_o0, k18_o1, rfl, Nq18, Kq18, sz18_0, P18_0⟩ := hQ18
  have N18 := Fr.app N8 Nq18
  have B19 := (B10.wr W8)
  have ne_a1_b18_o0 : a1 ≠ b18_o0 := Nat.ne_of_lt (Nat.lt_of_lt_of_le B19.lt sz18_0)
  have B20 := ((V_a2.keep Kq5 nin0).other W8 (Ne.symm ne12))
  have ne_a2_b18_o0 : a2 ≠ b18_o0 := Nat.ne_of_lt (Nat.lt_of_lt_of_le B20.lt sz18_0)
  have ne_a3_b18_o0 : a3 ≠ b18_o0 := Nat.ne_of_lt (Nat.lt_of_lt_of_le B17.lt sz18_0)
  have B21 := (P5_0.other W8 (Ne.symm ne_a1_b5_o0))
  have ne_b5_o0_b18_o0 : b5_o0 ≠ b18_o0 := Nat.ne_of_lt (Nat.lt_of_lt_of_le B21.lt sz18_0)
  have g_b18_o0 : n0 ≤ b18_o0 := Nat.le_trans Z11 sz18_0
  have sz_b18_o0 : h0.size ≤ b18_o0 := Nat.le_trans K12.1 sz18_0
  have e18 : T18.heap = T18.heap := rfl
  have Z22 := Nat.le_trans Z11 Kq18.1
  have K23 : Keep h0 _ [a1] := K12.trans Kq18 all0
  refine own_st st18 ?_
  show own_E p e below _ T18 (mkF m 43 #[rv a1, iv p1, iv p2, iv p3] [.ref b18_o0, .ref a1])
  have B25 := (B14.keep Kq18 nin0)
  have B26 := (B19.keep Kq18)
  obtain ⟨T24, h24, X24, e24, W24, st24⟩ := putF X18 hx hZ hown (host := "") (Or.inl (own_w hw 13 rfl)) Via.refl e18 B25 B26 (Or.inl (own_w hw 14 rfl)) (own_w hw 2 rfl) (ty := (.array .int)) (by decide) rfl rfl (g := (mkF m 43 #[rv a1, iv p1, iv p2, iv p3] [.ref b18_o0, .ref a1])) rfl rfl (hb hby own_d_prog_14_method_2_43)
  have N24 := Fr.snoc X24 N18 g_a1
  have Fw24 := B25.same W24
  have Z27 := Nat.le_trans Z22 (Keep.of_wr W24).1
  have K28 : Keep h0 _ [a1] := K23.wr W24 (Or.inl (List.mem_of_getElem? (i := 0) rfl))
  refine own_st st24 ?_
  show own_E p e below _ T24 (mkF m 46 #[rv a1, iv p1, iv p2, iv p3] [])
  refine own_st (fun t k => XS.aloadN X24.here hx rfl (hb hby own_d_prog_14_method_2_46) rfl rfl k) ?_
  show own_E p e below _ T24 (mkF m 47 #[rv a1, iv p1, iv p2, iv p3] [.ref a1])
  have B30 := ((Fw8.keep Kq18 nin0).other W24 (Or.inr (slot_ne (Or.inl (own_w hw 12 rfl)) (Or.inl (own_w hw 14 rfl)) (by decide) (t := (.array .int)) (t' := (.array .int)) (by decide) (by decide))))
  obtain ⟨T29, X29, e29, st29⟩ := getF X24 hx hZ hown (host := "") (Or.inl (own_w hw 11 rfl)) Via.refl e24 B30 (g := (mkF m 47 #[rv a1, iv p1, iv p2, iv p3] [.ref a1])) rfl rfl (hb hby own_d_prog_14_method_2_47)
  refine own_st st29 ?_
  show own_E p e below _ T29 (mkF m 50 #[rv a1, iv p1, iv p2, iv p3] [.ref b5_o0])
  refine own_st (fun t k => XS.aloadN X29.here hx rfl (hb hby own_d_prog_14_method_2_50) rfl rfl k) ?_
  show own_E p e below _ T29 (mkF m 51 #[rv a1, iv p1, iv p2, iv p3] [.ref a1, .ref b5_o0])
  have B32 := ((B16.keep Kq18 nin0).other W24 (Or.inr (slot_ne (Or.inl (own_w hw 24 rfl)) (Or.inl (own_w hw 14 rfl)) (by decide) (t := .int) (t' := (.array .int)) (by decide) (by decide))))
  obtain ⟨T31, X31, e31, st31⟩ := getF X29 hx hZ hown (host := "") (Or.inl (own_w hw 23 rfl)) Via.refl e29 B32 (g := (mkF m 51 #[rv a1, iv p1, iv p2, iv p3] [.ref a1, .ref b5_o0])) rfl rfl (hb hby own_d_prog_14_method_2_51)
  refine own_st st31 ?_
  show own_E p e below _ T31 (mkF m 54 #[rv a1, iv p1, iv p2, iv p3] [.int 1, .ref b5_o0])
  refine own_st (fun t k => XS.iloadN X31.here hx rfl (hb hby own_d_prog_14_method_2_54) rfl k) ?_
  show own_E p e below _ T31 (mkF m 55 #[rv a1, iv p1, iv p2, iv p3] [.int p1, .int 1, .ref b5_o0])
  have B33 := ((B21.keep Kq18 nin0).other W24 (Ne.symm ne_a1_b5_o0))
  obtain ⟨T34, h34, X34, e34, W34, Vw34, st34⟩ := own_ast X31 hx hZ e31 B33 (j := (1 : Int32)) ⟨by decide, by decide⟩ (x := p1) (i := 1) rfl (Nat.le_of_ble_eq_true rfl) (g := (mkF m 55 #[rv a1, iv p1, iv p2, iv p3] [.int p1, .int 1, .ref b5_o0])) rfl rfl (hb hby own_d_prog_14_method_2_55)
  have V34 : Arv Z h34 b5_o0 k5_o1 .int (2 : Int32) [(.int ea0), (.int p1)] (.int (0 : Int32)) := Vw34
  have N34 := Fr.snoc X34 N24 g_b5_o0
  have Z35 := Nat.le_trans Z27 (Keep.of_wr W34).1
  have K36 : Keep h0 _ [a1] := K28.wr W34 (Or.inr sz_b5_o0)
  refine own_st st34 ?_
  show own_E p e below _ T34 (mkF m 56 #[rv a1, iv p1, iv p2, iv p3] [])
  refine own_st (fun t k => XS.aloadN X34.here hx rfl (hb hby own_d_prog_14_method_2_56) rfl rfl k) ?_
  show own_E p e below _ T34 (mkF m 57 #[rv a1, iv p1, iv p2, iv p3] [.ref a1])
  have B38 := (Fw24.other W34 (Or.inl ne_a1_b5_o0))
  obtain ⟨T37, X37, e37, st37⟩ := getF X34 hx hZ hown (host := "") (Or.inl (own_w hw 13 rfl)) Via.refl e34 B38 (g := (mkF m 57 #[rv a1, iv p1, iv p2, iv p3] [.ref a1])) rfl rfl (hb hby own_d_prog_14_method_2_57)
  refine own_st st37 ?_
  show own_E p e below _ T37 (mkF m 60 #[rv a1, iv p1, iv p2, iv p3] [.ref b18_o0])
  refine own_st (fun t k => XS.aloadN X37.here hx rfl (hb hby own_d_prog_14_method_2_60) rfl rfl k) ?_
  show own_E p e below _ T37 (mkF m 61 #[rv a1, iv p1, iv p2, iv p3] [.ref a1, .ref b18_o0])
  have B40 := (B32.other W34 (Or.inl ne_a1_b5_o0))
  obtain ⟨T39, X39, e39, st39⟩ := getF X37 hx hZ hown (host := "") (Or.inl (own_w hw 23 rfl)) Via.refl e37 B40 (g := (mkF m 61 #[rv a1, iv p1, iv p2, iv p3] [.ref a1, .ref b18_o0])) rfl rfl (hb hby own_d_prog_14_method_2_61)
  refine own_st st39 ?_
  show own_E p e below _ T39 (mkF m 64 #[rv a1, iv p1, iv p2, iv p3] [.int 1, .ref b18_o0])
  refine own_st (fun t k => XS.iloadN X39.here hx rfl (hb hby own_d_prog_14_method_2_64) rfl k) ?_
  show own_E p e below _ T39 (mkF m 65 #[rv a1, iv p1, iv p2, iv p3] [.int p2, .int 1, .ref b18_o0])
  have B41 := ((P18_0.other W24 (Ne.symm ne_a1_b18_o0)).other W34 (Ne.symm ne_b5_o0_b18_o0))
  obtain ⟨T42, h42, X42, e42, W42, Vw42, st42⟩ := own_ast X39 hx hZ e39 B41 (j := (1 : Int32)) ⟨by decide, by decide⟩ (x := p2) (i := 1) rfl (Nat.le_of_ble_eq_true rfl) (g := (mkF m 65 #[rv a1, iv p1, iv p2, iv p3] [.int p2, .int 1, .ref b18_o0])) rfl rfl (hb hby own_d_prog_14_method_2_65)
  have V42 : Arv Z h42 b18_o0 k18_o1 .int (2 : Int32) [(.int eb0), (.int p2)] (.int (0 : Int32)) := Vw42
  have N42 := Fr.snoc X42 N34 g_b18_o0
  have Z43 := Nat.le_trans Z35 (Keep.of_wr W42).1
  have K44 : Keep h0 _ [a1] := K36.wr W42 (Or.inr sz_b18_o0)
  refine own_st st42 ?_
  show own_E p e below _ T42 (mkF m 66 #[rv a1, iv p1, iv p2, iv p3] [])
  refine own_st (fun t k => XS.aloadN X42.here hx rfl (hb hby own_d_prog_14_method_2_66) rfl rfl k) ?_
  show own_E p e below _ T42 (mkF m 67 #[rv a1, iv p1, iv p2, iv p3] [.ref a1])
  refine own_st (fun t k => XS.dup X42.here hx rfl (hb hby own_d_prog_14_method_2_67) rfl rfl k) ?_
  show own_E p e below _ T42 (mkF m 68 #[rv a1, iv p1, iv p2, iv p3] [.ref a1, .ref a1])
  have B46 := (B40.other W42 (Or.inl ne_a1_b18_o0))
  obtain ⟨T45, X45, e45, st45⟩ := getF X42 hx hZ hown (host := "") (Or.inl (own_w hw 23 rfl)) Via.refl e42 B46 (g := (mkF m 68 #[rv a1, iv p1, iv p2, iv p3] [.ref a1, .ref a1])) rfl rfl (hb hby own_d_prog_14_method_2_68)
  refine own_st st45 ?_
  show own_E p e below _ T45 (mkF m 71 #[rv a1, iv p1, iv p2, iv p3] [.int 1, .ref a1])
  refine own_st (fun t k => XS.iconst X45.here hx rfl (hb hby own_d_prog_14_method_2_71) k) ?_
  show own_E p e below _ T45 (mkF m 72 #[rv a1, iv p1, iv p2, iv p3] [.int 1, .int 1, .ref a1])
  refine own_st (fun t k => XS.iadd X45.here hx rfl (hb hby own_d_prog_14_method_2_72) rfl k) ?_
  show own_E p e below _ T45 (mkF m 73 #[rv a1, iv p1, iv p2, iv p3] [.int 2, .ref a1])
  have B48 := (((B26.wr W24).wr W34).wr W42)
  obtain ⟨T47, h47, X47, e47, W47, st47⟩ := putF X45 hx hZ hown (host := "") (Or.inl (own_w hw 23 rfl)) Via.refl e45 B46 B48 (Or.inl (own_w hw 24 rfl)) (own_w hw 2 rfl) (ty := .int) (by decide) rfl rfl (g := (mkF m 73 #[rv a1, iv p1, iv p2, iv p3] [.int 2, .ref a1])) rfl rfl (hb hby own_d_prog_14_method_2_73)
  have N47 := Fr.snoc X47 N42 g_a1
  have Fw47 := B46.same W47
  have Z49 := Nat.le_trans Z43 (Keep.of_wr W47).1
  have K50 : Keep h0 _ [a1] := K44.wr W47 (Or.inl (List.mem_of_getElem? (i := 0) rfl))
  refine own_st st47 ?_
  show own_E p e below _ T47 (mkF m 76 #[rv a1, iv p1, iv p2, iv p3] [])
  refine own_st (fun t k => XS.aloadN X47.here hx rfl (hb hby own_d_prog_14_method_2_76) rfl rfl k) ?_
  show own_E p e below _ T47 (mkF m 77 #[rv a1, iv p1, iv p2, iv p3] [.ref a1])
  refine own_st (fun t k => XS.aloadN X47.here hx rfl (hb hby own_d_prog_14_method_2_77) rfl rfl k) ?_
  show own_E p e below _ T47 (mkF m 78 #[rv a1, iv p1, iv p2, iv p3] [.ref a1, .ref a1])
  have B52 := (((((((F_maxFrequency_a1.keep Kq5 nin0).other W8 (Or.inr (slot_ne (Or.inl (own_w hw 26 rfl)) (Or.inl (own_w hw 12 rfl)) (by decide) (t := .int) (t' := (.array .int)) (by decide) (by decide)))).keep Kq18 nin0).other W24 (Or.inr (slot_ne (Or.inl (own_w hw 26 rfl)) (Or.inl (own_w hw 14 rfl)) (by decide) (t := .int) (t' := (.array .int)) (by decide) (by decide)))).other W34 (Or.inl ne_a1_b5_o0)).other W42 (Or.inl ne_a1_b18_o0)).other W47 (Or.inr (slot_ne (Or.inl (own_w hw 26 rfl)) (Or.inl (own_w hw 24 rfl)) (by decide) (t := .int) (t' := .int) (by decide) (by decide))))
  obtain ⟨T51, X51, e51, st51⟩ := getF X47 hx hZ hown (host := "") (Or.inl (own_w hw 25 rfl)) Via.refl e47 B52 (g := (mkF m 78 #[rv a1, iv p1, iv p2, iv p3] [.ref a1, .ref a1])) rfl rfl (hb hby own_d_prog_14_method_2_78)
  refine own_st st51 ?_
  show own_E p e below _ T51 (mkF m 81 #[rv a1, iv p1, iv p2, iv p3] [.int q2, .ref a1])
  refine own_st (fun t k => XS.iloadN X51.here hx rfl (hb hby own_d_prog_14_method_2_81) rfl k) ?_
  show own_E p e below _ T51 (mkF m 82 #[rv a1, iv p1, iv p2, iv p3] [.int p2, .int q2, .ref a1])
  obtain ⟨_, _, ⟨T53, L53, k53, n53⟩, -, X53, ⟨Lc53, hQ53, l53, y53, z53⟩, st53⟩ := Jvm.LawKit.callS X51 hx (y := own_y1) hown (mvT hZ (own_w hw 27 rfl)) (mvT hZ (own_w hw 28 rfl)) (mvT hZ (own_w hw 29 rfl)) (mvT hZ (own_w hw 30 rfl)) (by decide) (backOf (W := 1) (own_maxF l Z a0 hw [] q2 p2 h47 n0 Z49 ) hZ (own_w hw 30 rfl) (own_w hw 29 rfl) (by decide) (by decide)) (g := (mkF m 82 #[rv a1, iv p1, iv p2, iv p3] [.int p2, .int q2, .ref a1])) rfl (by rw [hml]; rfl) (argsL := [(.int q2), (.int p2)]) (rest := [(.ref a1)]) (lenOf own_pd_2 rfl) rfl (by show 2 * 0 + _ ≤ _; exact Nat.le_of_eq rfl) (hb hby own_d_prog_14_method_2_82) (fun _ _ => ⟨rfl, e51, (by decide : 2 + 0 ≤ _), (by decide : 4 + 0 ≤ _)⟩)
  dsimp only [Pt.U, Pt.locs, Pt.cells, Pt.slots] at X53 l53 y53 z53 st53 hQ53
  subst l53 y53 z53
  obtain ⟨rfl, e53, rfl⟩ := hQ53
  have N53 := Fr.app N47 (Fr.nil n0)
  refine own_st st53 ?_
  show own_E p e below _ T53 (mkF m 85 #[rv a1, iv p1, iv p2, iv p3] [.int (own_max q2 p2), .ref a1])
  have B55 := (B48.wr W47)
  obtain ⟨T54, h54, X54, e54, W54, st54⟩ := putF X53 hx hZ hown (host := "") (Or.inl (own_w hw 25 rfl)) Via.refl e53 B52 B55 (Or.inl (own_w hw 26 rfl)) (own_w hw 2 rfl) (ty := .int) (by decide) rfl rfl (g := (mkF m 85 #[rv a1, iv p1, iv p2, iv p3] [.int (own_max q2 p2), .ref a1])) rfl rfl (hb hby own_d_prog_14_method_2_85)
  have N54 := Fr.snoc X54 N53 g_a1
  have Fw54 := B52.same W54
  have Z56 := Nat.le_trans Z49 (Keep.of_wr W54).1
  have K57 : Keep h0 _ [a1] := K50.wr W54 (Or.inl (List.mem_of_getElem? (i := 0) rfl))
  refine own_st st54 ?_
  show own_E p e below _ T54 (mkF m 88 #[rv a1, iv p1, iv p2, iv p3] [])
  refine own_st (fun t k => XS.aloadN X54.here hx rfl (hb hby own_d_prog_14_method_2_88) rfl rfl k) ?_
  show own_E p e below _ T54 (mkF m 89 #[rv a1, iv p1, iv p2, iv p3] [.ref a1])
  refine own_st (fun t k => XS.aloadN X54.here hx rfl (hb hby own_d_prog_14_method_2_89) rfl rfl k) ?_
  show own_E p e below _ T54 (mkF m 90 #[rv a1, iv p1, iv p2, iv p3] [.ref a1, .ref a1])
  have B59 := ((((((((F_minLength_a1.keep Kq5 nin0).other W8 (Or.inr (slot_ne (Or.inl (own_w hw 17 rfl)) (Or.inl (own_w hw 12 rfl)) (by decide) (t := .int) (t' := (.array .int)) (by decide) (by decide)))).keep Kq18 nin0).other W24 (Or.inr (slot_ne (Or.inl (own_w hw 17 rfl)) (Or.inl (own_w hw 14 rfl)) (by decide) (t := .int) (t' := (.array .int)) (by decide) (by decide)))).other W34 (Or.inl ne_a1_b5_o0)).other W42 (Or.inl ne_a1_b18_o0)).other W47 (Or.inr (slot_ne (Or.inl (own_w hw 17 rfl)) (Or.inl (own_w hw 24 rfl)) (by decide) (t := .int) (t' := .int) (by decide) (by decide)))).other W54 (Or.inr (slot_ne (Or.inl (own_w hw 17 rfl)) (Or.inl (own_w hw 26 rfl)) (by decide) (t := .int) (t' := .int) (by decide) (by decide))))
  obtain ⟨T58, X58, e58, st58⟩ := getF X54 hx hZ hown (host := "") (Or.inl (own_w hw 16 rfl)) Via.refl e54 B59 (g := (mkF m 90 #[rv a1, iv p1, iv p2, iv p3] [.ref a1, .ref a1])) rfl rfl (hb hby own_d_prog_14_method_2_90)
  refine own_st st58 ?_
  show own_E p e below _ T58 (mkF m 93 #[rv a1, iv p1, iv p2, iv p3] [.int q1, .ref a1])
  refine own_st (fun t k => XS.iloadN X58.here hx rfl (hb hby own_d_prog_14_method_2_93) rfl k) ?_
  show own_E p e below _ T58 (mkF m 94 #[rv a1, iv p1, iv p2, iv p3] [.int p3, .int q1, .ref a1])
  obtain ⟨_, _, ⟨T60, L60, k60, n60⟩, -, X60, ⟨Lc60, hQ60, l60, y60, z60⟩, st60⟩ := Jvm.LawKit.callS X58 hx (y := own_y0) hown (mvT hZ (own_w hw 31 rfl)) (mvT hZ (own_w hw 32 rfl)) (mvT hZ (own_w hw 29 rfl)) (mvT hZ (own_w hw 33 rfl)) (by decide) (backOf (W := 1) (own_minF l Z a0 hw [] q1 p3 h54 n0 Z56 ) hZ (own_w hw 33 rfl) (own_w hw 29 rfl) (by decide) (by decide)) (g := (mkF m 94 #[rv a1, iv p1, iv p2, iv p3] [.int p3, .int q1, .ref a1])) rfl (by rw [hml]; rfl) (argsL := [(.int q1), (.int p3)]) (rest := [(.ref a1)]) (lenOf own_pd_2 rfl) rfl (by show 2 * 0 + _ ≤ _; exact Nat.le_of_eq rfl) (hb hby own_d_prog_14_method_2_94) (fun _ _ => ⟨rfl, e58, (by decide : 2 + 0 ≤ _), (by decide : 4 + 0 ≤ _)⟩)
  dsimp only [Pt.U, Pt.locs, Pt.cells, Pt.slots] at X60 l60 y60 z60 st60 hQ60
  subst l60 y60 z60
  obtain ⟨rfl, e60, rfl⟩ := hQ60
  have N60 := Fr.app N54 (Fr.nil n0)
  refine own_st st60 ?_
  show own_E p e below _ T60 (mkF m 97 #[rv a1, iv p1, iv p2, iv p3] [.int (own_min q1 p3), .ref a1])
  have B62 := (B55.wr W54)
  obtain ⟨T61, h61, X61, e61, W61, st61⟩ := putF X60 hx hZ hown (host := "") (Or.inl (own_w hw 16 rfl)) Via.refl e60 B59 B62 (Or.inl (own_w hw 17 rfl)) (own_w hw 2 rfl) (ty := .int) (by decide) rfl rfl (g := (mkF m 97 #[rv a1, iv p1, iv p2, iv p3] [.int (own_min q1 p3), .ref a1])) rfl rfl (hb hby own_d_prog_14_method_2_97)
  have N61 := Fr.snoc X61 N60 g_a1
  have Fw61 := B59.same W61
  have Z63 := Nat.le_trans Z56 (Keep.of_wr W61).1
  have K64 : Keep h0 _ [a1] := K57.wr W61 (Or.inl (List.mem_of_getElem? (i := 0) rfl))
  refine own_st st61 ?_
  show own_E p e below _ T61 (mkF m 100 #[rv a1, iv p1, iv p2, iv p3] [])
  refine own_retV X61 hx Bd.notSynchronized Bd.returns (hb hby own_d_prog_14_method_2_100) (by decide) (by decide) ?_
  have B65 := (B62.wr W61)
  have B66 := (((((B30.other W34 (Or.inl ne_a1_b5_o0)).other W42 (Or.inl ne_a1_b18_o0)).other W47 (Or.inr (slot_ne (Or.inl (own_w hw 12 rfl)) (Or.inl (own_w hw 24 rfl)) (by decide) (t := (.array .int)) (t' := .int) (by decide) (by decide)))).other W54 (Or.inr (slot_ne (Or.inl (own_w hw 12 rfl)) (Or.inl (own_w hw 26 rfl)) (by decide) (t := (.array .int)) (t' := .int) (by decide) (by decide)))).other W61 (Or.inr (slot_ne (Or.inl (own_w hw 12 rfl)) (Or.inl (own_w hw 17 rfl)) (by decide) (t := (.array .int)) (t' := .int) (by decide) (by decide))))
  have B67 := ((((B38.other W42 (Or.inl ne_a1_b18_o0)).other W47 (Or.inr (slot_ne (Or.inl (own_w hw 14 rfl)) (Or.inl (own_w hw 24 rfl)) (by decide) (t := (.array .int)) (t' := .int) (by decide) (by decide)))).other W54 (Or.inr (slot_ne (Or.inl (own_w hw 14 rfl)) (Or.inl (own_w hw 26 rfl)) (by decide) (t := (.array .int)) (t' := .int) (by decide) (by decide)))).other W61 (Or.inr (slot_ne (Or.inl (own_w hw 14 rfl)) (Or.inl (own_w hw 17 rfl)) (by decide) (t := (.array .int)) (t' := .int) (by decide) (by decide))))
  have B68 := (Fw54.other W61 (Or.inr (slot_ne (Or.inl (own_w hw 26 rfl)) (Or.inl (own_w hw 17 rfl)) (by decide) (t := .int) (t' := .int) (by decide) (by decide))))
  have B69 := ((Fw47.other W54 (Or.inr (slot_ne (Or.inl (own_w hw 24 rfl)) (Or.inl (own_w hw 26 rfl)) (by decide) (t := .int) (t' := .int) (by decide) (by decide)))).other W61 (Or.inr (slot_ne (Or.inl (own_w hw 24 rfl)) (Or.inl (own_w hw 17 rfl)) (by decide) (t := .int) (t' := .int) (by decide) (by decide))))
  have B70 := ((((V34.other W42 ne_b5_o0_b18_o0).other W47 (Ne.symm ne_a1_b5_o0)).other W54 (Ne.symm ne_a1_b5_o0)).other W61 (Ne.symm ne_a1_b5_o0))
  have B71 := (((V42.other W47 (Ne.symm ne_a1_b18_o0)).other W54 (Ne.symm ne_a1_b18_o0)).other W61 (Ne.symm ne_a1_b18_o0))
  show own_add1_Q Z a1 a2 a3 kc1 kc2 p1 p2 p3 q1 q2 ea0 eb0 h0 n0 _ T61.heap _
  rw [e61]
  exact ⟨b5_o0, b18_o0, k5_o1, k18_o1, rfl, N61, K64, sz_b5_o0, sz_b18_o0, ne_b5_o0_b18_o0, B65, B66, B67, Fw61, B68, B69, B70, B71⟩
def own_add2_Q (Z : State) (a1 : Addr) (a2 : Addr) (a3 : Addr) (kc1 : ClassId) (kc2 : ClassId) (p1 : Int32) (p2 : Int32) (p3 : Int32) (q1 : Int32) (q2 : Int32) (ea0 : Int32) (ea1 : Int32) (eb0 : Int32) (eb1 : Int32) (h0 : Heap) (n0 : Nat) (v : Option Value) (h : Heap) (L : List Loc) : Prop := ∃ (o0 : Addr), ∃ (o1 : Addr), ∃ (o2 : ClassId), ∃ (o3 : ClassId), v = none ∧ Fr n0 L ∧ Keep h0 h [a1] ∧ h0.size ≤ o0 ∧ h0.size ≤ o1 ∧ o0 ≠ o1 ∧ Exa Z h a1 "com/example/lean_scorer/leanscorer/Postings" ∧ Fld Z h a1 "com/example/lean_scorer/leanscorer/Postings" "documents" "[I" (.ref o0) ∧ Fld Z h a1 "com/example/lean_scorer/leanscorer/Postings" "frequencies" "[I" (.ref o1) ∧ Fld Z h a1 "com/example/lean_scorer/leanscorer/Postings" "minLength" "I" (.int (own_min q1 p3)) ∧ Fld Z h a1 "com/example/lean_scorer/leanscorer/Postings" "maxFrequency" "I" (.int (own_max q2 p2)) ∧ Fld Z h a1 "com/example/lean_scorer/leanscorer/Postings" "size" "I" (.int (3 : Int32)) ∧ Arv Z h o0 o2 .int (4 : Int32) [(.int ea0), (.int ea1), (.int p1), (.int (0 : Int32))] (.int (0 : Int32)) ∧ Arv Z h o1 o3 .int (4 : Int32) [(.int eb0), (.int eb1), (.int p2), (.int (0 : Int32))] (.int (0 : Int32))
theorem own_add2_ef (m : MethodId) (a1 : Addr) (a2 : Addr) (a3 : Addr) (kc1 : ClassId) (kc2 : ClassId) (p1 : Int32) (p2 : Int32) (p3 : Int32) (q1 : Int32) (q2 : Int32) (ea0 : Int32) (ea1 : Int32) (eb0 : Int32) (eb1 : Int32) : entryFrame m #[(.ref a1), (.int p1), (.int p2), (.int p3)] 4 = mkF m 0 #[.val (.ref a1), .val (.int p1), .val (.int p2), .val (.int p3)] [] := by first | (simp [entryFrame, mkF, argsToLocals, Value.category]; done) | rfl
set_option maxRecDepth 65536 in
set_option maxHeartbeats 40000000 in
theorem own_add2 (l : Launch) (Z : State) (a0 : Array Value) (hw : ∀ d ∈ tables_1, d.before a0 Z = true) (ws : List Jvm.Cond) (a1 : Addr) (a2 : Addr) (a3 : Addr) (kc1 : ClassId) (kc2 : ClassId) (p1 : Int32) (p2 : Int32) (p3 : Int32) (q1 : Int32) (q2 : Int32) (ea0 : Int32) (ea1 : Int32) (eb0 : Int32) (eb1 : Int32) (h0 : Heap) (n0 : Nat) (Z0 : n0 ≤ h0.size) (E_a1 : Exa Z h0 a1 "com/example/lean_scorer/leanscorer/Postings") (F_documents_a1 : Fld Z h0 a1 "com/example/lean_scorer/leanscorer/Postings" "documents" "[I" (.ref a2)) (F_frequencies_a1 : Fld Z h0 a1 "com/example/lean_scorer/leanscorer/Postings" "frequencies" "[I" (.ref a3)) (F_minLength_a1 : Fld Z h0 a1 "com/example/lean_scorer/leanscorer/Postings" "minLength" "I" (.int q1)) (F_maxFrequency_a1 : Fld Z h0 a1 "com/example/lean_scorer/leanscorer/Postings" "maxFrequency" "I" (.int q2)) (F_size_a1 : Fld Z h0 a1 "com/example/lean_scorer/leanscorer/Postings" "size" "I" (.int (2 : Int32))) (V_a2 : Arv Z h0 a2 kc1 .int (2 : Int32) [(.int ea0), (.int ea1)] (.int (0 : Int32))) (V_a3 : Arv Z h0 a3 kc2 .int (2 : Int32) [(.int eb0), (.int eb1)] (.int (0 : Int32))) (ne12 : a1 ≠ a2) (ne13 : a1 ≠ a3) (ne23 : a2 ≠ a3) (g_a1 : n0 ≤ a1) :
    MetFree l own_y4 (head1 (Jvm.Cond.code own_y4 prog_14_method_2_code 4 none :: ws) ({ frames := 2, cells := 2, slots := 8, locals := 55 } : Room)) (fun a U => a = #[(.ref a1), (.int p1), (.int p2), (.int p3)] ∧ Z.Warmed39 U.vm ∧ U.heap = h0) (fun _ _ _ _ _ => True) (fun _ U o U' => ∃ v L, o = .returned v ∧ own_add2_Q Z a1 a2 a3 kc1 kc2 p1 p2 p3 q1 q2 ea0 ea1 eb0 eb1 h0 n0 v U'.heap L ∧ FrameEnd U o U' L ({ frames := 2, cells := 2, slots := 8, locals := 55 } : Room).cells ({ frames := 2, cells := 2, slots := 8, locals := 55 } : Room).slots) := by
  refine MetFree.of_bodySF (plainFor_of_name own_pn_Postings) hisR ?_
  intro p e s m args below meth c s₁ Bd hml0 hP hK
  obtain ⟨rfl, hZ, hh⟩ := hP
  have hx := Bd.exec
  have hby := Bd.bytes
  have hml : c.maxLocals = 4 := hml0
  have hown : s.vm.findClass "com/example/lean_scorer/leanscorer/Postings" = some m.cls := findClass_of_methodNamed Bd.named
  have hnm := (name_of_methodNamed Bd.named Bd.method).1
  have X0 : Stand p l e ({ frames := 2, cells := 2, slots := 8, locals := 55 } : Room) s m #[(.ref a1), (.int p1), (.int p2), (.int p3)] below meth c s₁ [] 0 0 := Stand.of_body Bd
  have e0 : s₁.heap = h0 := by rw [← hh, Bd.state]; rfl
  show own_E p e below (own_K (own_add2_Q Z a1 a2 a3 kc1 kc2 p1 p2 p3 q1 q2 ea0 ea1 eb0 eb1 h0 n0) s ({ frames := 2, cells := 2, slots := 8, locals := 55 } : Room).cells ({ frames := 2, cells := 2, slots := 8, locals := 55 } : Room).slots) s₁ (entryFrame m #[(.ref a1), (.int p1), (.int p2), (.int p3)] 4)
  refine own_pre (own_add2_ef m a1 a2 a3 kc1 kc2 p1 p2 p3 q1 q2 ea0 ea1 eb0 eb1) ?_
  show own_E p e below _ s₁ (mkF m 0 #[rv a1, iv p1, iv p2, iv p3] [])
  refine own_st (fun t k => XS.aloadN X0.here hx rfl (hb hby own_d_prog_14_method_2_0) rfl rfl k) ?_
  show own_E p e below _ s₁ (mkF m 1 #[rv a1, iv p1, iv p2, iv p3] [.ref a1])
  obtain ⟨T1, X1, e1, st1⟩ := getF X0 hx hZ hown (host := "") (Or.inl (own_w hw 23 rfl)) Via.refl e0 F_size_a1 (g := (mkF m 1 #[rv a1, iv p1, iv p2, iv p3] [.ref a1])) rfl rfl (hb hby own_d_prog_14_method_2_1)
  refine own_st st1 ?_
  show own_E p e below _ T1 (mkF m 4 #[rv a1, iv p1, iv p2, iv p3] [.int 2])
  refine own_st (fun t k => XS.aloadN X1.here hx rfl (hb hby own_d_prog_14_method_2_4) rfl rfl k) ?_
  show own_E p e below _ T1 (mkF m 5 #[rv a1, iv p1, iv p2, iv p3] [.ref a1, .int 2])
  obtain ⟨T2, X2, e2, st2⟩ := getF X1 hx hZ hown (host := "") (Or.inl (own_w hw 11 rfl)) Via.refl e1 F_documents_a1 (g := (mkF m 5 #[rv a1, iv p1, iv p2, iv p3] [.ref a1, .int 2])) rfl rfl (hb hby own_d_prog_14_method_2_5)
  refine own_st st2 ?_
  show own_E p e below _ T2 (mkF m 8 #[rv a1, iv p1, iv p2, iv p3] [.ref a2, .int 2])
  refine own_st (own_alen X2 hx hZ e2 V_a2 (g := (mkF m 8 #[rv a1, iv p1, iv p2, iv p3] [.ref a2, .int 2])) rfl rfl (hb hby own_d_prog_14_method_2_8)) ?_
  show own_E p e below _ T2 (mkF m 9 #[rv a1, iv p1, iv p2, iv p3] [.int 2, .int 2])
  refine own_st (fun t k => XS.icmpNo X2.here hx rfl (hb hby own_d_prog_14_method_2_9) rfl (by decide) k) ?_
  show own_E p e below _ T2 (mkF m 12 #[rv a1, iv p1, iv p2, iv p3] [])
  refine own_st (fun t k => XS.aloadN X2.here hx rfl (hb hby own_d_prog_14_method_2_12) rfl rfl k) ?_
  show own_E p e below _ T2 (mkF m 13 #[rv a1, iv p1, iv p2, iv p3] [.ref a1])
  refine own_st (fun t k => XS.aloadN X2.here hx rfl (hb hby own_d_prog_14_method_2_13) rfl rfl k) ?_
  show own_E p e below _ T2 (mkF m 14 #[rv a1, iv p1, iv p2, iv p3] [.ref a1, .ref a1])
  obtain ⟨T3, X3, e3, st3⟩ := getF X2 hx hZ hown (host := "") (Or.inl (own_w hw 11 rfl)) Via.refl e2 F_documents_a1 (g := (mkF m 14 #[rv a1, iv p1, iv p2, iv p3] [.ref a1, .ref a1])) rfl rfl (hb hby own_d_prog_14_method_2_14)
  refine own_st st3 ?_
  show own_E p e below _ T3 (mkF m 17 #[rv a1, iv p1, iv p2, iv p3] [.ref a2, .ref a1])
  refine own_st (fun t k => XS.iconst X3.here hx rfl (hb hby own_d_prog_14_method_2_17) k) ?_
  show own_E p e below _ T3 (mkF m 18 #[rv a1, iv p1, iv p2, iv p3] [.int 2, .ref a2, .ref a1])
  refine own_st (fun t k => XS.aloadN X3.here hx rfl (hb hby own_d_prog_14_method_2_18) rfl rfl k) ?_
  show own_E p e below _ T3 (mkF m 19 #[rv a1, iv p1, iv p2, iv p3] [.ref a1, .int 2, .ref a2, .ref a1])
  obtain ⟨T4, X4, e4, st4⟩ := getF X3 hx hZ hown (host := "") (Or.inl (own_w hw 23 rfl)) Via.refl e3 F_size_a1 (g := (mkF m 19 #[rv a1, iv p1, iv p2, iv p3] [.ref a1, .int 2, .ref a2, .ref a1])) rfl rfl (hb hby own_d_prog_14_method_2_19)
  refine own_st st4 ?_
  show own_E p e below _ T4 (mkF m 22 #[rv a1, iv p1, iv p2, iv p3] [.int 2, .int 2, .ref a2, .ref a1])
  refine own_st (fun t k => XS.imul X4.here hx rfl (hb hby own_d_prog_14_method_2_22) rfl k) ?_
  show own_E p e below _ T4 (mkF m 23 #[rv a1, iv p1, iv p2, iv p3] [.int 4, .ref a2, .ref a1])
  obtain ⟨_, _, ⟨T5, L5, k5, n5⟩, -, X5, ⟨Lc5, hQ5, l5, y5, z5⟩, st5⟩ := Jvm.LawKit.callS X4 hx (y := own_y2) hown (mvT hZ (own_w hw 34 rfl)) (mvT hZ (own_w hw 35 rfl)) (mvT hZ (own_w hw 36 rfl)) (mvT hZ (own_w hw 37 rfl)) (by decide) (backOf (W := 1) (own_copy2_4 l Z a0 hw [] a2 kc1 ea0 ea1 h0 n0 Z0 V_a2) hZ (own_w hw 37 rfl) (own_w hw 36 rfl) (by decide) (by decide)) (g := (mkF m 23 #[rv a1, iv p1, iv p2, iv p3] [.int 4, .ref a2, .ref a1])) rfl (by rw [hml]; rfl) (argsL := [(.ref a2), (.int (4 : Int32))]) (rest := [(.ref a1)]) (lenOf own_pd_6 rfl) rfl (by show 2 * 0 + _ ≤ _; exact Nat.le_of_eq rfl) (hb hby own_d_prog_14_method_2_23) (fun _ _ => ⟨rfl, e4, (by decide : 0 + 1 ≤ _), (by decide : 0 + 4 ≤ _)⟩)
  dsimp only [Pt.U, Pt.locs, Pt.cells, Pt.slots] at X5 l5 y5 z5 st5 hQ5
  subst l5 y5 z5
  obtain ⟨b5_o0, k5_o1, rfl, Nq5, Kq5, sz5_0, P5_0⟩ := hQ5
  have N5 := Fr.app (Fr.nil n0) Nq5
  have ne_a1_b5_o0 : a1 ≠ b5_o0 := Nat.ne_of_lt (Nat.lt_of_lt_of_le E_a1.lt sz5_0)
  have ne_a2_b5_o0 : a2 ≠ b5_o0 := Nat.ne_of_lt (Nat.lt_of_lt_of_le V_a2.lt sz5_0)
  have ne_a3_b5_o0 : a3 ≠ b5_o0 := Nat.ne_of_lt (Nat.lt_of_lt_of_le V_a3.lt sz5_0)
  have g_b5_o0 : n0 ≤ b5_o0 := Nat.le_trans Z0 sz5_0
  have sz_b5_o0 : h0.size ≤ b5_o0 := Nat.le_trans (Keep.refl h0 [a1]).1 sz5_0
  have e5 : T5.heap = T5.heap := rfl
  have Z6 := Nat.le_trans Z0 Kq5.1
  have K7 : Keep h0 _ [a1] := (Keep.refl h0 [a1]).trans Kq5 all0
  refine own_st st5 ?_
  show own_E p e below _ T5 (mkF m 26 #[rv a1, iv p1, iv p2, iv p3] [.ref b5_o0, .ref a1])
  have B9 := (F_documents_a1.keep Kq5 nin0)
  have B10 := (E_a1.keep Kq5)
  obtain ⟨T8, h8, X8, e8, W8, st8⟩ := putF X5 hx hZ hown (host := "") (Or.inl (own_w hw 11 rfl)) Via.refl e5 B9 B10 (Or.inl (own_w hw 12 rfl)) (own_w hw 2 rfl) (ty := (.array .int)) (by decide) rfl rfl (g := (mkF m 26 #[rv a1, iv p1, iv p2, iv p3] [.ref b5_o0, .ref a1])) rfl rfl (hb hby own_d_prog_14_method_2_26)
  have N8 := Fr.snoc X8 N5 g_a1
  have Fw8 := B9.same W8
  have Z11 := Nat.le_trans Z6 (Keep.of_wr W8).1
  have K12 : Keep h0 _ [a1] := K7.wr W8 (Or.inl (List.mem_of_getElem? (i := 0) rfl))
  refine own_st st8 ?_
  show own_E p e below _ T8 (mkF m 29 #[rv a1, iv p1, iv p2, iv p3] [])
  refine own_st (fun t k => XS.aloadN X8.here hx rfl (hb hby own_d_prog_14_method_2_29) rfl rfl k) ?_
  show own_E p e below _ T8 (mkF m 30 #[rv a1, iv p1, iv p2, iv p3] [.ref a1])
  refine own_st (fun t k => XS.aloadN X8.here hx rfl (hb hby own_d_prog_14_method_2_30) rfl rfl k) ?_
  show own_E p e below _ T8 (mkF m 31 #[rv a1, iv p1, iv p2, iv p3] [.ref a1, .ref a1])
  have B14 := ((F_frequencies_a1.keep Kq5 nin0).other W8 (Or.inr (slot_ne (Or.inl (own_w hw 14 rfl)) (Or.inl (own_w hw 12 rfl)) (by decide) (t := (.array .int)) (t' := (.array .int)) (by decide) (by decide))))
  obtain ⟨T13, X13, e13, st13⟩ := getF X8 hx hZ hown (host := "") (Or.inl (own_w hw 13 rfl)) Via.refl e8 B14 (g := (mkF m 31 #[rv a1, iv p1, iv p2, iv p3] [.ref a1, .ref a1])) rfl rfl (hb hby own_d_prog_14_method_2_31)
  refine own_st st13 ?_
  show own_E p e below _ T13 (mkF m 34 #[rv a1, iv p1, iv p2, iv p3] [.ref a3, .ref a1])
  refine own_st (fun t k => XS.iconst X13.here hx rfl (hb hby own_d_prog_14_method_2_34) k) ?_
  show own_E p e below _ T13 (mkF m 35 #[rv a1, iv p1, iv p2, iv p3] [.int 2, .ref a3, .ref a1])
  refine own_st (fun t k => XS.aloadN X13.here hx rfl (hb hby own_d_prog_14_method_2_35) rfl rfl k) ?_
  show own_E p e below _ T13 (mkF m 36 #[rv a1, iv p1, iv p2, iv p3] [.ref a1, .int 2, .ref a3, .ref a1])
  have B16 := ((F_size_a1.keep Kq5 nin0).other W8 (Or.inr (slot_ne (Or.inl (own_w hw 24 rfl)) (Or.inl (own_w hw 12 rfl)) (by decide) (t := .int) (t' := (.array .int)) (by decide) (by decide))))
  obtain ⟨T15, X15, e15, st15⟩ := getF X13 hx hZ hown (host := "") (Or.inl (own_w hw 23 rfl)) Via.refl e13 B16 (g := (mkF m 36 #[rv a1, iv p1, iv p2, iv p3] [.ref a1, .int 2, .ref a3, .ref a1])) rfl rfl (hb hby own_d_prog_14_method_2_36)
  refine own_st st15 ?_
  show own_E p e below _ T15 (mkF m 39 #[rv a1, iv p1, iv p2, iv p3] [.int 2, .int 2, .ref a3, .ref a1])
  refine own_st (fun t k => XS.imul X15.here hx rfl (hb hby own_d_prog_14_method_2_39) rfl k) ?_
  show own_E p e below _ T15 (mkF m 40 #[rv a1, iv p1, iv p2, iv p3] [.int 4, .ref a3, .ref a1])
  have B17 := ((V_a3.keep Kq5 nin0).other W8 (Ne.symm ne13))
  obtain ⟨_, _, ⟨T18, L18, k18, n18⟩, -, X18, ⟨Lc18, hQ18, l18, y18, z18⟩, st18⟩ := Jvm.LawKit.callS X15 hx (y := own_y2) hown (mvT hZ (own_w hw 34 rfl)) (mvT hZ (own_w hw 35 rfl)) (mvT hZ (own_w hw 36 rfl)) (mvT hZ (own_w hw 37 rfl)) (by decide) (backOf (W := 1) (own_copy2_4 l Z a0 hw [] a3 kc2 eb0 eb1 h8 n0 Z11 B17) hZ (own_w hw 37 rfl) (own_w hw 36 rfl) (by decide) (by decide)) (g := (mkF m 40 #[rv a1, iv p1, iv p2, iv p3] [.int 4, .ref a3, .ref a1])) rfl (by rw [hml]; rfl) (argsL := [(.ref a3), (.int (4 : Int32))]) (rest := [(.ref a1)]) (lenOf own_pd_6 rfl) rfl (by show 2 * 0 + _ ≤ _; exact Nat.le_of_eq rfl) (hb hby own_d_prog_14_method_2_40) (fun _ _ => ⟨rfl, e15, (by decide : 1 + 1 ≤ _), (by decide : 4 + 4 ≤ _)⟩)
  dsimp only [Pt.U, Pt.locs, Pt.cells, Pt.slots] at X18 l18 y18 z18 st18 hQ18
  subst l18 y18 z18
  obtain ⟨b18_o0, k18_o1, rfl, Nq18, Kq18, sz18_0, P18_0⟩ := hQ18
  have N18 := Fr.app N8 Nq18
  have B19 := (B10.wr W8)
  have ne_a1_b18_o0 : a1 ≠ b18_o0 := Nat.ne_of_lt (Nat.lt_of_lt_of_le B19.lt sz18_0)
  have B20 := ((V_a2.keep Kq5 nin0).other W8 (Ne.symm ne12))
  have ne_a2_b18_o0 : a2 ≠ b18_o0 := Nat.ne_of_lt (Nat.lt_of_lt_of_le B20.lt sz18_0)
  have ne_a3_b18_o0 : a3 ≠ b18_o0 := Nat.ne_of_lt (Nat.lt_of_lt_of_le B17.lt sz18_0)
  have B21 := (P5_0.other W8 (Ne.symm ne_a1_b5_o0))
  have ne_b5_o0_b18_o0 : b5_o0 ≠ b18_o0 := Nat.ne_of_lt (Nat.lt_of_lt_of_le B21.lt sz18_0)
  have g_b18_o0 : n0 ≤ b18_o0 := Nat.le_trans Z11 sz18_0
  have sz_b18_o0 : h0.size ≤ b18_o0 := Nat.le_trans K12.1 sz18_0
  have e18 : T18.heap = T18.heap := rfl
  have Z22 := Nat.le_trans Z11 Kq18.1
  have K23 : Keep h0 _ [a1] := K12.trans Kq18 all0
  refine own_st st18 ?_
  show own_E p e below _ T18 (mkF m 43 #[rv a1, iv p1, iv p2, iv p3] [.ref b18_o0, .ref a1])
  have B25 := (B14.keep Kq18 nin0)
  have B26 := (B19.keep Kq18)
  obtain ⟨T24, h24, X24, e24, W24, st24⟩ := putF X18 hx hZ hown (host := "") (Or.inl (own_w hw 13 rfl)) Via.refl e18 B25 B26 (Or.inl (own_w hw 14 rfl)) (own_w hw 2 rfl) (ty := (.array .int)) (by decide) rfl rfl (g := (mkF m 43 #[rv a1, iv p1, iv p2, iv p3] [.ref b18_o0, .ref a1])) rfl rfl (hb hby own_d_prog_14_method_2_43)
  have N24 := Fr.snoc X24 N18 g_a1
  have Fw24 := B25.same W24
  have Z27 := Nat.le_trans Z22 (Keep.of_wr W24).1
  have K28 : Keep h0 _ [a1] := K23.wr W24 (Or.inl (List.mem_of_getElem? (i := 0) rfl))
  refine own_st st24 ?_
  show own_E p e below _ T24 (mkF m 46 #[rv a1, iv p1, iv p2, iv p3] [])
  refine own_st (fun t k => XS.aloadN X24.here hx rfl (hb hby own_d_prog_14_method_2_46) rfl rfl k) ?_
  show own_E p e below _ T24 (mkF m 47 #[rv a1, iv p1, iv p2, iv p3] [.ref a1])
  have B30 := ((Fw8.keep Kq18 nin0).other W24 (Or.inr (slot_ne (Or.inl (own_w hw 12 rfl)) (Or.inl (own_w hw 14 rfl)) (by decide) (t := (.array .int)) (t' := (.array .int)) (by decide) (by decide))))
  obtain ⟨T29, X29, e29, st29⟩ := getF X24 hx hZ hown (host := "") (Or.inl (own_w hw 11 rfl)) Via.refl e24 B30 (g := (mkF m 47 #[rv a1, iv p1, iv p2, iv p3] [.ref a1])) rfl rfl (hb hby own_d_prog_14_method_2_47)
  refine own_st st29 ?_
  show own_E p e below _ T29 (mkF m 50 #[rv a1, iv p1, iv p2, iv p3] [.ref b5_o0])
  refine own_st (fun t k => XS.aloadN X29.here hx rfl (hb hby own_d_prog_14_method_2_50) rfl rfl k) ?_
  show own_E p e below _ T29 (mkF m 51 #[rv a1, iv p1, iv p2, iv p3] [.ref a1, .ref b5_o0])
  have B32 := ((B16.keep Kq18 nin0).other W24 (Or.inr (slot_ne (Or.inl (own_w hw 24 rfl)) (Or.inl (own_w hw 14 rfl)) (by decide) (t := .int) (t' := (.array .int)) (by decide) (by decide))))
  obtain ⟨T31, X31, e31, st31⟩ := getF X29 hx hZ hown (host := "") (Or.inl (own_w hw 23 rfl)) Via.refl e29 B32 (g := (mkF m 51 #[rv a1, iv p1, iv p2, iv p3] [.ref a1, .ref b5_o0])) rfl rfl (hb hby own_d_prog_14_method_2_51)
  refine own_st st31 ?_
  show own_E p e below _ T31 (mkF m 54 #[rv a1, iv p1, iv p2, iv p3] [.int 2, .ref b5_o0])
  refine own_st (fun t k => XS.iloadN X31.here hx rfl (hb hby own_d_prog_14_method_2_54) rfl k) ?_
  show own_E p e below _ T31 (mkF m 55 #[rv a1, iv p1, iv p2, iv p3] [.int p1, .int 2, .ref b5_o0])
  have B33 := ((B21.keep Kq18 nin0).other W24 (Ne.symm ne_a1_b5_o0))
  obtain ⟨T34, h34, X34, e34, W34, Vw34, st34⟩ := own_ast X31 hx hZ e31 B33 (j := (2 : Int32)) ⟨by decide, by decide⟩ (x := p1) (i := 2) rfl (Nat.le_of_ble_eq_true rfl) (g := (mkF m 55 #[rv a1, iv p1, iv p2, iv p3] [.int p1, .int 2, .ref b5_o0])) rfl rfl (hb hby own_d_prog_14_method_2_55)
  have V34 : Arv Z h34 b5_o0 k5_o1 .int (4 : Int32) [(.int ea0), (.int ea1), (.int p1), (.int (0 : Int32))] (.int (0 : Int32)) := Vw34
  have N34 := Fr.snoc X34 N24 g_b5_o0
  have Z35 := Nat.le_trans Z27 (Keep.of_wr W34).1
  have K36 : Keep h0 _ [a1] := K28.wr W34 (Or.inr sz_b5_o0)
  refine own_st st34 ?_
  show own_E p e below _ T34 (mkF m 56 #[rv a1, iv p1, iv p2, iv p3] [])
  refine own_st (fun t k => XS.aloadN X34.here hx rfl (hb hby own_d_prog_14_method_2_56) rfl rfl k) ?_
  show own_E p e below _ T34 (mkF m 57 #[rv a1, iv p1, iv p2, iv p3] [.ref a1])
  have B38 := (Fw24.other W34 (Or.inl ne_a1_b5_o0))
  obtain ⟨T37, X37, e37, st37⟩ := getF X34 hx hZ hown (host := "") (Or.inl (own_w hw 13 rfl)) Via.refl e34 B38 (g := (mkF m 57 #[rv a1, iv p1, iv p2, iv p3] [.ref a1])) rfl rfl (hb hby own_d_prog_14_method_2_57)
  refine own_st st37 ?_
  show own_E p e below _ T37 (mkF m 60 #[rv a1, iv p1, iv p2, iv p3] [.ref b18_o0])
  refine own_st (fun t k => XS.aloadN X37.here hx rfl (hb hby own_d_prog_14_method_2_60) rfl rfl k) ?_
  show own_E p e below _ T37 (mkF m 61 #[rv a1, iv p1, iv p2, iv p3] [.ref a1, .ref b18_o0])
  have B40 := (B32.other W34 (Or.inl ne_a1_b5_o0))
  obtain ⟨T39, X39, e39, st39⟩ := getF X37 hx hZ hown (host := "") (Or.inl (own_w hw 23 rfl)) Via.refl e37 B40 (g := (mkF m 61 #[rv a1, iv p1, iv p2, iv p3] [.ref a1, .ref b18_o0])) rfl rfl (hb hby own_d_prog_14_method_2_61)
  refine own_st st39 ?_
  show own_E p e below _ T39 (mkF m 64 #[rv a1, iv p1, iv p2, iv p3] [.int 2, .ref b18_o0])
  refine own_st (fun t k => XS.iloadN X39.here hx rfl (hb hby own_d_prog_14_method_2_64) rfl k) ?_
  show own_E p e below _ T39 (mkF m 65 #[rv a1, iv p1, iv p2, iv p3] [.int p2, .int 2, .ref b18_o0])
  have B41 := ((P18_0.other W24 (Ne.symm ne_a1_b18_o0)).other W34 (Ne.symm ne_b5_o0_b18_o0))
  obtain ⟨T42, h42, X42, e42, W42, Vw42, st42⟩ := own_ast X39 hx hZ e39 B41 (j := (2 : Int32)) ⟨by decide, by decide⟩ (x := p2) (i := 2) rfl (Nat.le_of_ble_eq_true rfl) (g := (mkF m 65 #[rv a1, iv p1, iv p2, iv p3] [.int p2, .int 2, .ref b18_o0])) rfl rfl (hb hby own_d_prog_14_method_2_65)
  have V42 : Arv Z h42 b18_o0 k18_o1 .int (4 : Int32) [(.int eb0), (.int eb1), (.int p2), (.int (0 : Int32))] (.int (0 : Int32)) := Vw42
  have N42 := Fr.snoc X42 N34 g_b18_o0
  have Z43 := Nat.le_trans Z35 (Keep.of_wr W42).1
  have K44 : Keep h0 _ [a1] := K36.wr W42 (Or.inr sz_b18_o0)
  refine own_st st42 ?_
  show own_E p e below _ T42 (mkF m 66 #[rv a1, iv p1, iv p2, iv p3] [])
  refine own_st (fun t k => XS.aloadN X42.here hx rfl (hb hby own_d_prog_14_method_2_66) rfl rfl k) ?_
  show own_E p e below _ T42 (mkF m 67 #[rv a1, iv p1, iv p2, iv p3] [.ref a1])
  refine own_st (fun t k => XS.dup X42.here hx rfl (hb hby own_d_prog_14_method_2_67) rfl rfl k) ?_
  show own_E p e below _ T42 (mkF m 68 #[rv a1, iv p1, iv p2, iv p3] [.ref a1, .ref a1])
  have B46 := (B40.other W42 (Or.inl ne_a1_b18_o0))
  obtain ⟨T45, X45, e45, st45⟩ := getF X42 hx hZ hown (host := "") (Or.inl (own_w hw 23 rfl)) Via.refl e42 B46 (g := (mkF m 68 #[rv a1, iv p1, iv p2, iv p3] [.ref a1, .ref a1])) rfl rfl (hb hby own_d_prog_14_method_2_68)
  refine own_st st45 ?_
  show own_E p e below _ T45 (mkF m 71 #[rv a1, iv p1, iv p2, iv p3] [.int 2, .ref a1])
  refine own_st (fun t k => XS.iconst X45.here hx rfl (hb hby own_d_prog_14_method_2_71) k) ?_
  show own_E p e below _ T45 (mkF m 72 #[rv a1, iv p1, iv p2, iv p3] [.int 1, .int 2, .ref a1])
  refine own_st (fun t k => XS.iadd X45.here hx rfl (hb hby own_d_prog_14_method_2_72) rfl k) ?_
  show own_E p e below _ T45 (mkF m 73 #[rv a1, iv p1, iv p2, iv p3] [.int 3, .ref a1])
  have B48 := (((B26.wr W24).wr W34).wr W42)
  obtain ⟨T47, h47, X47, e47, W47, st47⟩ := putF X45 hx hZ hown (host := "") (Or.inl (own_w hw 23 rfl)) Via.refl e45 B46 B48 (Or.inl (own_w hw 24 rfl)) (own_w hw 2 rfl) (ty := .int) (by decide) rfl rfl (g := (mkF m 73 #[rv a1, iv p1, iv p2, iv p3] [.int 3, .ref a1])) rfl rfl (hb hby own_d_prog_14_method_2_73)
  have N47 := Fr.snoc X47 N42 g_a1
  have Fw47 := B46.same W47
  have Z49 := Nat.le_trans Z43 (Keep.of_wr W47).1
  have K50 : Keep h0 _ [a1] := K44.wr W47 (Or.inl (List.mem_of_getElem? (i := 0) rfl))
  refine own_st st47 ?_
  show own_E p e below _ T47 (mkF m 76 #[rv a1, iv p1, iv p2, iv p3] [])
  refine own_st (fun t k => XS.aloadN X47.here hx rfl (hb hby own_d_prog_14_method_2_76) rfl rfl k) ?_
  show own_E p e below _ T47 (mkF m 77 #[rv a1, iv p1, iv p2, iv p3] [.ref a1])
  refine own_st (fun t k => XS.aloadN X47.here hx rfl (hb hby own_d_prog_14_method_2_77) rfl rfl k) ?_
  show own_E p e below _ T47 (mkF m 78 #[rv a1, iv p1, iv p2, iv p3] [.ref a1, .ref a1])
  have B52 := (((((((F_maxFrequency_a1.keep Kq5 nin0).other W8 (Or.inr (slot_ne (Or.inl (own_w hw 26 rfl)) (Or.inl (own_w hw 12 rfl)) (by decide) (t := .int) (t' := (.array .int)) (by decide) (by decide)))).keep Kq18 nin0).other W24 (Or.inr (slot_ne (Or.inl (own_w hw 26 rfl)) (Or.inl (own_w hw 14 rfl)) (by decide) (t := .int) (t' := (.array .int)) (by decide) (by decide)))).other W34 (Or.inl ne_a1_b5_o0)).other W42 (Or.inl ne_a1_b18_o0)).other W47 (Or.inr (slot_ne (Or.inl (own_w hw 26 rfl)) (Or.inl (own_w hw 24 rfl)) (by decide) (t := .int) (t' := .int) (by decide) (by decide))))
  obtain ⟨T51, X51, e51, st51⟩ := getF X47 hx hZ hown (host := "") (Or.inl (own_w hw 25 rfl)) Via.refl e47 B52 (g := (mkF m 78 #[rv a1, iv p1, iv p2, iv p3] [.ref a1, .ref a1])) rfl rfl (hb hby own_d_prog_14_method_2_78)
  refine own_st st51 ?_
  show own_E p e below _ T51 (mkF m 81 #[rv a1, iv p1, iv p2, iv p3] [.int q2, .ref a1])
  refine own_st (fun t k => XS.iloadN X51.here hx rfl (hb hby own_d_prog_14_method_2_81) rfl k) ?_
  show own_E p e below _ T51 (mkF m 82 #[rv a1, iv p1, iv p2, iv p3] [.int p2, .int q2, .ref a1])
  obtain ⟨_, _, ⟨T53, L53, k53, n53⟩, -, X53, ⟨Lc53, hQ53, l53, y53, z53⟩, st53⟩ := Jvm.LawKit.callS X51 hx (y := own_y1) hown (mvT hZ (own_w hw 27 rfl)) (mvT hZ (own_w hw 28 rfl)) (mvT hZ (own_w hw 29 rfl)) (mvT hZ (own_w hw 30 rfl)) (by decide) (backOf (W := 1) (own_maxF l Z a0 hw [] q2 p2 h47 n0 Z49 ) hZ (own_w hw 30 rfl) (own_w hw 29 rfl) (by decide) (by decide)) (g := (mkF m 82 #[rv a1, iv p1, iv p2, iv p3] [.int p2, .int q2, .ref a1])) rfl (by rw [hml]; rfl) (argsL := [(.int q2), (.int p2)]) (rest := [(.ref a1)]) (lenOf own_pd_2 rfl) rfl (by show 2 * 0 + _ ≤ _; exact Nat.le_of_eq rfl) (hb hby own_d_prog_14_method_2_82) (fun _ _ => ⟨rfl, e51, (by decide : 2 + 0 ≤ _), (by decide : 8 + 0 ≤ _)⟩)
  dsimp only [Pt.U, Pt.locs, Pt.cells, Pt.slots] at X53 l53 y53 z53 st53 hQ53
  subst l53 y53 z53
  obtain ⟨rfl, e53, rfl⟩ := hQ53
  have N53 := Fr.app N47 (Fr.nil n0)
  refine own_st st53 ?_
  show own_E p e below _ T53 (mkF m 85 #[rv a1, iv p1, iv p2, iv p3] [.int (own_max q2 p2), .ref a1])
  have B55 := (B48.wr W47)
  obtain ⟨T54, h54, X54, e54, W54, st54⟩ := putF X53 hx hZ hown (host := "") (Or.inl (own_w hw 25 rfl)) Via.refl e53 B52 B55 (Or.inl (own_w hw 26 rfl)) (own_w hw 2 rfl) (ty := .int) (by decide) rfl rfl (g := (mkF m 85 #[rv a1, iv p1, iv p2, iv p3] [.int (own_max q2 p2), .ref a1])) rfl rfl (hb hby own_d_prog_14_method_2_85)
  have N54 := Fr.snoc X54 N53 g_a1
  have Fw54 := B52.same W54
  have Z56 := Nat.le_trans Z49 (Keep.of_wr W54).1
  have K57 : Keep h0 _ [a1] := K50.wr W54 (Or.inl (List.mem_of_getElem? (i := 0) rfl))
  refine own_st st54 ?_
  show own_E p e below _ T54 (mkF m 88 #[rv a1, iv p1, iv p2, iv p3] [])
  refine own_st (fun t k => XS.aloadN X54.here hx rfl (hb hby own_d_prog_14_method_2_88) rfl rfl k) ?_
  show own_E p e below _ T54 (mkF m 89 #[rv a1, iv p1, iv p2, iv p3] [.ref a1])
  refine own_st (fun t k => XS.aloadN X54.here hx rfl (hb hby own_d_prog_14_method_2_89) rfl rfl k) ?_
  show own_E p e below _ T54 (mkF m 90 #[rv a1, iv p1, iv p2, iv p3] [.ref a1, .ref a1])
  have B59 := ((((((((F_minLength_a1.keep Kq5 nin0).other W8 (Or.inr (slot_ne (Or.inl (own_w hw 17 rfl)) (Or.inl (own_w hw 12 rfl)) (by decide) (t := .int) (t' := (.array .int)) (by decide) (by decide)))).keep Kq18 nin0).other W24 (Or.inr (slot_ne (Or.inl (own_w hw 17 rfl)) (Or.inl (own_w hw 14 rfl)) (by decide) (t := .int) (t' := (.array .int)) (by decide) (by decide)))).other W34 (Or.inl ne_a1_b5_o0)).other W42 (Or.inl ne_a1_b18_o0)).other W47 (Or.inr (slot_ne (Or.inl (own_w hw 17 rfl)) (Or.inl (own_w hw 24 rfl)) (by decide) (t := .int) (t' := .int) (by decide) (by decide)))).other W54 (Or.inr (slot_ne (Or.inl (own_w hw 17 rfl)) (Or.inl (own_w hw 26 rfl)) (by decide) (t := .int) (t' := .int) (by decide) (by decide))))
  obtain ⟨T58, X58, e58, st58⟩ := getF X54 hx hZ hown (host := "") (Or.inl (own_w hw 16 rfl)) Via.refl e54 B59 (g := (mkF m 90 #[rv a1, iv p1, iv p2, iv p3] [.ref a1, .ref a1])) rfl rfl (hb hby own_d_prog_14_method_2_90)
  refine own_st st58 ?_
  show own_E p e below _ T58 (mkF m 93 #[rv a1, iv p1, iv p2, iv p3] [.int q1, .ref a1])
  refine own_st (fun t k => XS.iloadN X58.here hx rfl (hb hby own_d_prog_14_method_2_93) rfl k) ?_
  show own_E p e below _ T58 (mkF m 94 #[rv a1, iv p1, iv p2, iv p3] [.int p3, .int q1, .ref a1])
  obtain ⟨_, _, ⟨T60, L60, k60, n60⟩, -, X60, ⟨Lc60, hQ60, l60, y60, z60⟩, st60⟩ := Jvm.LawKit.callS X58 hx (y := own_y0) hown (mvT hZ (own_w hw 31 rfl)) (mvT hZ (own_w hw 32 rfl)) (mvT hZ (own_w hw 29 rfl)) (mvT hZ (own_w hw 33 rfl)) (by decide) (backOf (W := 1) (own_minF l Z a0 hw [] q1 p3 h54 n0 Z56 ) hZ (own_w hw 33 rfl) (own_w hw 29 rfl) (by decide) (by decide)) (g := (mkF m 94 #[rv a1, iv p1, iv p2, iv p3] [.int p3, .int q1, .ref a1])) rfl (by rw [hml]; rfl) (argsL := [(.int q1), (.int p3)]) (rest := [(.ref a1)]) (lenOf own_pd_2 rfl) rfl (by show 2 * 0 + _ ≤ _; exact Nat.le_of_eq rfl) (hb hby own_d_prog_14_method_2_94) (fun _ _ => ⟨rfl, e58, (by decide : 2 + 0 ≤ _), (by decide : 8 + 0 ≤ _)⟩)
  dsimp only [Pt.U, Pt.locs, Pt.cells, Pt.slots] at X60 l60 y60 z60 st60 hQ60
  subst l60 y60 z60
  obtain ⟨rfl, e60, rfl⟩ := hQ60
  have N60 := Fr.app N54 (Fr.nil n0)
  refine own_st st60 ?_
  show own_E p e below _ T60 (mkF m 97 #[rv a1, iv p1, iv p2, iv p3] [.int (own_min q1 p3), .ref a1])
  have B62 := (B55.wr W54)
  obtain ⟨T61, h61, X61, e61, W61, st61⟩ := putF X60 hx hZ hown (host := "") (Or.inl (own_w hw 16 rfl)) Via.refl e60 B59 B62 (Or.inl (own_w hw 17 rfl)) (own_w hw 2 rfl) (ty := .int) (by decide) rfl rfl (g := (mkF m 97 #[rv a1, iv p1, iv p2, iv p3] [.int (own_min q1 p3), .ref a1])) rfl rfl (hb hby own_d_prog_14_method_2_97)
  have N61 := Fr.snoc X61 N60 g_a1
  have Fw61 := B59.same W61
  have Z63 := Nat.le_trans Z56 (Keep.of_wr W61).1
  have K64 : Keep h0 _ [a1] := K57.wr W61 (Or.inl (List.mem_of_getElem? (i := 0) rfl))
  refine own_st st61 ?_
  show own_E p e below _ T61 (mkF m 100 #[rv a1, iv p1, iv p2, iv p3] [])
  refine own_retV X61 hx Bd.notSynchronized Bd.returns (hb hby own_d_prog_14_method_2_100) (by decide) (by decide) ?_
  have B65 := (B62.wr W61)
  have B66 := (((((B30.other W34 (Or.inl ne_a1_b5_o0)).other W42 (Or.inl ne_a1_b18_o0)).other W47 (Or.inr (slot_ne (Or.inl (own_w hw 12 rfl)) (Or.inl (own_w hw 24 rfl)) (by decide) (t := (.array .int)) (t' := .int) (by decide) (by decide)))).other W54 (Or.inr (slot_ne (Or.inl (own_w hw 12 rfl)) (Or.inl (own_w hw 26 rfl)) (by decide) (t := (.array .int)) (t' := .int) (by decide) (by decide)))).other W61 (Or.inr (slot_ne (Or.inl (own_w hw 12 rfl)) (Or.inl (own_w hw 17 rfl)) (by decide) (t := (.array .int)) (t' := .int) (by decide) (by decide))))
  have B67 := ((((B38.other W42 (Or.inl ne_a1_b18_o0)).other W47 (Or.inr (slot_ne (Or.inl (own_w hw 14 rfl)) (Or.inl (own_w hw 24 rfl)) (by decide) (t := (.array .int)) (t' := .int) (by decide) (by decide)))).other W54 (Or.inr (slot_ne (Or.inl (own_w hw 14 rfl)) (Or.inl (own_w hw 26 rfl)) (by decide) (t := (.array .int)) (t' := .int) (by decide) (by decide)))).other W61 (Or.inr (slot_ne (Or.inl (own_w hw 14 rfl)) (Or.inl (own_w hw 17 rfl)) (by decide) (t := (.array .int)) (t' := .int) (by decide) (by decide))))
  have B68 := (Fw54.other W61 (Or.inr (slot_ne (Or.inl (own_w hw 26 rfl)) (Or.inl (own_w hw 17 rfl)) (by decide) (t := .int) (t' := .int) (by decide) (by decide))))
  have B69 := ((Fw47.other W54 (Or.inr (slot_ne (Or.inl (own_w hw 24 rfl)) (Or.inl (own_w hw 26 rfl)) (by decide) (t := .int) (t' := .int) (by decide) (by decide)))).other W61 (Or.inr (slot_ne (Or.inl (own_w hw 24 rfl)) (Or.inl (own_w hw 17 rfl)) (by decide) (t := .int) (t' := .int) (by decide) (by decide))))
  have B70 := ((((V34.other W42 ne_b5_o0_b18_o0).other W47 (Ne.symm ne_a1_b5_o0)).other W54 (Ne.symm ne_a1_b5_o0)).other W61 (Ne.symm ne_a1_b5_o0))
  have B71 := (((V42.other W47 (Ne.symm ne_a1_b18_o0)).other W54 (Ne.symm ne_a1_b18_o0)).other W61 (Ne.symm ne_a1_b18_o0))
  show own_add2_Q Z a1 a2 a3 kc1 kc2 p1 p2 p3 q1 q2 ea0 ea1 eb0 eb1 h0 n0 _ T61.heap _
  rw [e61]
  exact ⟨b5_o0, b18_o0, k5_o1, k18_o1, rfl, N61, K64, sz_b5_o0, sz_b18_o0, ne_b5_o0_b18_o0, B65, B66, B67, Fw61, B68, B69, B70, B71⟩
theorem own_d_jdk_65_method_30_0 : decode jdk_65_method_30_code 0 = .ok (.iload_n 1, 1) := by decide +kernel
theorem own_d_jdk_65_method_30_1 : decode jdk_65_method_30_code 1 = .ok (.iload_n 2, 1) := by decide +kernel
theorem own_d_jdk_65_method_30_2 : decode jdk_65_method_30_code 2 = .ok (.if_icmp .le 44, 3) := by decide +kernel
theorem own_d_jdk_65_method_30_46 : decode jdk_65_method_30_code 46 = .ok (.iload_n 1, 1) := by decide +kernel
theorem own_d_jdk_65_method_30_47 : decode jdk_65_method_30_code 47 = .ok (.ifCond .ge 12, 3) := by decide +kernel
theorem own_d_jdk_65_method_30_59 : decode jdk_65_method_30_code 59 = .ok (.iload_n 2, 1) := by decide +kernel
theorem own_d_jdk_65_method_30_60 : decode jdk_65_method_30_code 60 = .ok (.iload_n 0, 1) := by decide +kernel
theorem own_d_jdk_65_method_30_61 : decode jdk_65_method_30_code 61 = .ok (.if_icmp .le 12, 3) := by decide +kernel
theorem own_d_jdk_65_method_30_73 : decode jdk_65_method_30_code 73 = .ok (.return_, 1) := by decide +kernel
def own_range0_Q  (h0 : Heap) (v : Option Value) (h : Heap) (L : List Loc) : Prop := ((v = none)) ∧ h = h0 ∧ L = []
abbrev own_y5 : MethodName := ⟨"java/util/Arrays", "rangeCheck", "(III)V"⟩
theorem own_range0_ef (m : MethodId)  : entryFrame m #[(.int (1 : Int32)), (.int (0 : Int32)), (.int (0 : Int32))] 3 = mkF m 0 #[.val (.int (1 : Int32)), .val (.int (0 : Int32)), .val (.int (0 : Int32))] [] := by first | (simp [entryFrame, mkF, argsToLocals, Value.category]; done) | rfl
set_option maxRecDepth 65536 in
set_option maxHeartbeats 40000000 in
theorem own_range0 (l : Launch) (Z : State) (a0 : Array Value) (hw : ∀ d ∈ tables_1, d.before a0 Z = true) (ws : List Jvm.Cond)  (h0 : Heap) (n0 : Nat) (Z0 : n0 ≤ h0.size)  :
    MetFree l own_y5 (head1 (Jvm.Cond.code own_y5 jdk_65_method_30_code 3 none :: ws) ({ frames := 0, cells := 0, slots := 0, locals := 0 } : Room)) (fun a U => a = #[(.int (1 : Int32)), (.int (0 : Int32)), (.int (0 : Int32))] ∧ Z.Warmed39 U.vm ∧ U.heap = h0) (fun _ _ _ _ _ => True) (fun _ U o U' => ∃ v L, o = .returned v ∧ own_range0_Q  h0 v U'.heap L ∧ FrameEnd U o U' L ({ frames := 0, cells := 0, slots := 0, locals := 0 } : Room).cells ({ frames := 0, cells := 0, slots := 0, locals := 0 } : Room).slots) := by
  refine MetFree.of_bodySF (plainFor_of_name own_pn_Arrays) hisR ?_
  intro p e s m args below meth c s₁ Bd hml0 hP hK
  obtain ⟨rfl, hZ, hh⟩ := hP
  have hx := Bd.exec
  have hby := Bd.bytes
  have hml : c.maxLocals = 3 := hml0
  have hown : s.vm.findClass "java/util/Arrays" = some m.cls := findClass_of_methodNamed Bd.named
  have hnm := (name_of_methodNamed Bd.named Bd.method).1
  have X0 : Stand p l e ({ frames := 0, cells := 0, slots := 0, locals := 0 } : Room) s m #[(.int (1 : Int32)), (.int (0 : Int32)), (.int (0 : Int32))] below meth c s₁ [] 0 0 := Stand.of_body Bd
  have e0 : s₁.heap = h0 := by rw [← hh, Bd.state]; rfl
  show own_E p e below (own_K (own_range0_Q  h0) s ({ frames := 0, cells := 0, slots := 0, locals := 0 } : Room).cells ({ frames := 0, cells := 0, slots := 0, locals := 0 } : Room).slots) s₁ (entryFrame m #[(.int (1 : Int32)), (.int (0 : Int32)), (.int (0 : Int32))] 3)
  refine own_pre (own_range0_ef m ) ?_
  show own_E p e below _ s₁ (mkF m 0 #[iv 1, iv 0, iv 0] [])
  refine own_st (fun t k => XS.iloadN X0.here hx rfl (hb hby own_d_jdk_65_method_30_0) rfl k) ?_
  show own_E p e below _ s₁ (mkF m 1 #[iv 1, iv 0, iv 0] [.int 0])
  refine own_st (fun t k => XS.iloadN X0.here hx rfl (hb hby own_d_jdk_65_method_30_1) rfl k) ?_
  show own_E p e below _ s₁ (mkF m 2 #[iv 1, iv 0, iv 0] [.int 0, .int 0])
  refine own_st (fun t k => XS.icmpYes X0.here hx rfl (pc0 := 2) (pc' := 46) rfl (hb hby own_d_jdk_65_method_30_2) rfl (by decide) (by decide) (by decide) k) ?_
  show own_E p e below _ s₁ (mkF m 46 #[iv 1, iv 0, iv 0] [])
  refine own_st (fun t k => XS.iloadN X0.here hx rfl (hb hby own_d_jdk_65_method_30_46) rfl k) ?_
  show own_E p e below _ s₁ (mkF m 47 #[iv 1, iv 0, iv 0] [.int 0])
  refine own_st (fun t k => XS.ifYes X0.here hx rfl (pc0 := 47) (pc' := 59) rfl (hb hby own_d_jdk_65_method_30_47) rfl (by decide) (by decide) (by decide) k) ?_
  show own_E p e below _ s₁ (mkF m 59 #[iv 1, iv 0, iv 0] [])
  refine own_st (fun t k => XS.iloadN X0.here hx rfl (hb hby own_d_jdk_65_method_30_59) rfl k) ?_
  show own_E p e below _ s₁ (mkF m 60 #[iv 1, iv 0, iv 0] [.int 0])
  refine own_st (fun t k => XS.iloadN X0.here hx rfl (hb hby own_d_jdk_65_method_30_60) rfl k) ?_
  show own_E p e below _ s₁ (mkF m 61 #[iv 1, iv 0, iv 0] [.int 1, .int 0])
  refine own_st (fun t k => XS.icmpYes X0.here hx rfl (pc0 := 61) (pc' := 73) rfl (hb hby own_d_jdk_65_method_30_61) rfl (by decide) (by decide) (by decide) k) ?_
  show own_E p e below _ s₁ (mkF m 73 #[iv 1, iv 0, iv 0] [])
  refine own_retV X0 hx Bd.notSynchronized Bd.returns (hb hby own_d_jdk_65_method_30_73) (by decide) (by decide) ?_
  exact ⟨rfl, e0, rfl⟩
theorem own_d_jdk_65_method_59_0 : decode jdk_65_method_59_code 0 = .ok (.iload_n 1, 1) := by decide +kernel
theorem own_d_jdk_65_method_59_1 : decode jdk_65_method_59_code 1 = .ok (.istore 4, 2) := by decide +kernel
theorem own_d_jdk_65_method_59_3 : decode jdk_65_method_59_code 3 = .ok (.iload_n 2, 1) := by decide +kernel
theorem own_d_jdk_65_method_59_4 : decode jdk_65_method_59_code 4 = .ok (.iconst 1, 1) := by decide +kernel
theorem own_d_jdk_65_method_59_5 : decode jdk_65_method_59_code 5 = .ok (.isub, 1) := by decide +kernel
theorem own_d_jdk_65_method_59_6 : decode jdk_65_method_59_code 6 = .ok (.istore 5, 2) := by decide +kernel
theorem own_d_jdk_65_method_59_8 : decode jdk_65_method_59_code 8 = .ok (.iload 4, 2) := by decide +kernel
theorem own_d_jdk_65_method_59_10 : decode jdk_65_method_59_code 10 = .ok (.iload 5, 2) := by decide +kernel
theorem own_d_jdk_65_method_59_12 : decode jdk_65_method_59_code 12 = .ok (.if_icmp .gt 54, 3) := by decide +kernel
theorem own_d_jdk_65_method_59_66 : decode jdk_65_method_59_code 66 = .ok (.iload 4, 2) := by decide +kernel
theorem own_d_jdk_65_method_59_68 : decode jdk_65_method_59_code 68 = .ok (.iconst 1, 1) := by decide +kernel
theorem own_d_jdk_65_method_59_69 : decode jdk_65_method_59_code 69 = .ok (.iadd, 1) := by decide +kernel
theorem own_d_jdk_65_method_59_70 : decode jdk_65_method_59_code 70 = .ok (.ineg, 1) := by decide +kernel
theorem own_d_jdk_65_method_59_71 : decode jdk_65_method_59_code 71 = .ok (.ireturn, 1) := by decide +kernel
def own_bs0_0_Q (a1 : Addr) (kc1 : ClassId) (p1 : Int32) (ea0 : Int32) (h0 : Heap) (v : Option Value) (h : Heap) (L : List Loc) : Prop := ((v = some (.int (-1 : Int32)))) ∧ h = h0 ∧ L = []
abbrev own_y6 : MethodName := ⟨"java/util/Arrays", "binarySearch0", "([IIII)I"⟩
theorem own_bs0_0_ef (m : MethodId) (a1 : Addr) (kc1 : ClassId) (p1 : Int32) (ea0 : Int32) : entryFrame m #[(.ref a1), (.int (0 : Int32)), (.int (0 : Int32)), (.int p1)] 8 = mkF m 0 #[.val (.ref a1), .val (.int (0 : Int32)), .val (.int (0 : Int32)), .val (.int p1), .unset, .unset, .unset, .unset] [] := by first | (simp [entryFrame, mkF, argsToLocals, Value.category]; done) | rfl
set_option maxRecDepth 65536 in
set_option maxHeartbeats 40000000 in
theorem own_bs0_0 (l : Launch) (Z : State) (a0 : Array Value) (hw : ∀ d ∈ tables_1, d.before a0 Z = true) (ws : List Jvm.Cond) (a1 : Addr) (kc1 : ClassId) (p1 : Int32) (ea0 : Int32) (h0 : Heap) (n0 : Nat) (Z0 : n0 ≤ h0.size) (V_a1 : Arv Z h0 a1 kc1 .int (1 : Int32) [(.int ea0)] (.int (0 : Int32))) :
    MetFree l own_y6 (head1 (Jvm.Cond.code own_y6 jdk_65_method_59_code 8 (some .int) :: ws) ({ frames := 0, cells := 0, slots := 0, locals := 0 } : Room)) (fun a U => a = #[(.ref a1), (.int (0 : Int32)), (.int (0 : Int32)), (.int p1)] ∧ Z.Warmed39 U.vm ∧ U.heap = h0) (fun _ _ _ _ _ => True) (fun _ U o U' => ∃ v L, o = .returned v ∧ own_bs0_0_Q a1 kc1 p1 ea0 h0 v U'.heap L ∧ FrameEnd U o U' L ({ frames := 0, cells := 0, slots := 0, locals := 0 } : Room).cells ({ frames := 0, cells := 0, slots := 0, locals := 0 } : Room).slots) := by
  refine MetFree.of_bodySF (plainFor_of_name own_pn_Arrays) hisR ?_
  intro p e s m args below meth c s₁ Bd hml0 hP hK
  obtain ⟨rfl, hZ, hh⟩ := hP
  have hx := Bd.exec
  have hby := Bd.bytes
  have hml : c.maxLocals = 8 := hml0
  have hown : s.vm.findClass "java/util/Arrays" = some m.cls := findClass_of_methodNamed Bd.named
  have hnm := (name_of_methodNamed Bd.named Bd.method).1
  have X0 : Stand p l e ({ frames := 0, cells := 0, slots := 0, locals := 0 } : Room) s m #[(.ref a1), (.int (0 : Int32)), (.int (0 : Int32)), (.int p1)] below meth c s₁ [] 0 0 := Stand.of_body Bd
  have e0 : s₁.heap = h0 := by rw [← hh, Bd.state]; rfl
  show own_E p e below (own_K (own_bs0_0_Q a1 kc1 p1 ea0 h0) s ({ frames := 0, cells := 0, slots := 0, locals := 0 } : Room).cells ({ frames := 0, cells := 0, slots := 0, locals := 0 } : Room).slots) s₁ (entryFrame m #[(.ref a1), (.int (0 : Int32)), (.int (0 : Int32)), (.int p1)] 8)
  refine own_pre (own_bs0_0_ef m a1 kc1 p1 ea0) ?_
  show own_E p e below _ s₁ (mkF m 0 #[rv a1, iv 0, iv 0, iv p1, .unset, .unset, .unset, .unset] [])
  refine own_st (fun t k => XS.iloadN X0.here hx rfl (hb hby own_d_jdk_65_method_59_0) rfl k) ?_
  show own_E p e below _ s₁ (mkF m 1 #[rv a1, iv 0, iv 0, iv p1, .unset, .unset, .unset, .unset] [.int 0])
  refine own_st (fun t k => XS.istore X0.here hx rfl (hb hby own_d_jdk_65_method_59_1) rfl (l' := #[rv a1, iv 0, iv 0, iv p1, iv 0, .unset, .unset, .unset]) rfl k) ?_
  show own_E p e below _ s₁ (mkF m 3 #[rv a1, iv 0, iv 0, iv p1, iv 0, .unset, .unset, .unset] [])
  refine own_st (fun t k => XS.iloadN X0.here hx rfl (hb hby own_d_jdk_65_method_59_3) rfl k) ?_
  show own_E p e below _ s₁ (mkF m 4 #[rv a1, iv 0, iv 0, iv p1, iv 0, .unset, .unset, .unset] [.int 0])
  refine own_st (fun t k => XS.iconst X0.here hx rfl (hb hby own_d_jdk_65_method_59_4) k) ?_
  show own_E p e below _ s₁ (mkF m 5 #[rv a1, iv 0, iv 0, iv p1, iv 0, .unset, .unset, .unset] [.int 1, .int 0])
  refine own_st (fun t k => XS.isub X0.here hx rfl (hb hby own_d_jdk_65_method_59_5) rfl k) ?_
  show own_E p e below _ s₁ (mkF m 6 #[rv a1, iv 0, iv 0, iv p1, iv 0, .unset, .unset, .unset] [.int (-1)])
  refine own_st (fun t k => XS.istore X0.here hx rfl (hb hby own_d_jdk_65_method_59_6) rfl (l' := #[rv a1, iv 0, iv 0, iv p1, iv 0, iv (-1), .unset, .unset]) rfl k) ?_
  show own_E p e below _ s₁ (mkF m 8 #[rv a1, iv 0, iv 0, iv p1, iv 0, iv (-1), .unset, .unset] [])
  refine own_st (fun t k => XS.iload X0.here hx rfl (hb hby own_d_jdk_65_method_59_8) rfl k) ?_
  show own_E p e below _ s₁ (mkF m 10 #[rv a1, iv 0, iv 0, iv p1, iv 0, iv (-1), .unset, .unset] [.int 0])
  refine own_st (fun t k => XS.iload X0.here hx rfl (hb hby own_d_jdk_65_method_59_10) rfl k) ?_
  show own_E p e below _ s₁ (mkF m 12 #[rv a1, iv 0, iv 0, iv p1, iv 0, iv (-1), .unset, .unset] [.int (-1), .int 0])
  refine own_st (fun t k => XS.icmpYes X0.here hx rfl (pc0 := 12) (pc' := 66) rfl (hb hby own_d_jdk_65_method_59_12) rfl (by decide) (by decide) (by decide) k) ?_
  show own_E p e below _ s₁ (mkF m 66 #[rv a1, iv 0, iv 0, iv p1, iv 0, iv (-1), .unset, .unset] [])
  refine own_st (fun t k => XS.iload X0.here hx rfl (hb hby own_d_jdk_65_method_59_66) rfl k) ?_
  show own_E p e below _ s₁ (mkF m 68 #[rv a1, iv 0, iv 0, iv p1, iv 0, iv (-1), .unset, .unset] [.int 0])
  refine own_st (fun t k => XS.iconst X0.here hx rfl (hb hby own_d_jdk_65_method_59_68) k) ?_
  show own_E p e below _ s₁ (mkF m 69 #[rv a1, iv 0, iv 0, iv p1, iv 0, iv (-1), .unset, .unset] [.int 1, .int 0])
  refine own_st (fun t k => XS.iadd X0.here hx rfl (hb hby own_d_jdk_65_method_59_69) rfl k) ?_
  show own_E p e below _ s₁ (mkF m 70 #[rv a1, iv 0, iv 0, iv p1, iv 0, iv (-1), .unset, .unset] [.int 1])
  refine own_st (fun t k => XS.ineg X0.here hx rfl (hb hby own_d_jdk_65_method_59_70) rfl k) ?_
  show own_E p e below _ s₁ (mkF m 71 #[rv a1, iv 0, iv 0, iv p1, iv 0, iv (-1), .unset, .unset] [.int (-1)])
  refine own_retI X0 hx Bd.notSynchronized Bd.returns (hb hby own_d_jdk_65_method_59_71) (by decide) (by decide) ?_
  exact ⟨rfl, e0, rfl⟩
theorem own_d_jdk_65_method_58_0 : decode jdk_65_method_58_code 0 = .ok (.aload_n 0, 1) := by decide +kernel
theorem own_d_jdk_65_method_58_1 : decode jdk_65_method_58_code 1 = .ok (.arraylength, 1) := by decide +kernel
theorem own_d_jdk_65_method_58_2 : decode jdk_65_method_58_code 2 = .ok (.iload_n 1, 1) := by decide +kernel
theorem own_d_jdk_65_method_58_3 : decode jdk_65_method_58_code 3 = .ok (.iload_n 2, 1) := by decide +kernel
theorem own_d_jdk_65_method_58_4 : decode jdk_65_method_58_code 4 = .ok (.invokestatic 13, 3) := by decide +kernel
theorem own_pd_3 : parseMethodDescriptor "(III)V" = some ⟨[.int, .int, .int], none⟩ := by decide +kernel
theorem own_d_jdk_65_method_58_7 : decode jdk_65_method_58_code 7 = .ok (.aload_n 0, 1) := by decide +kernel
theorem own_d_jdk_65_method_58_8 : decode jdk_65_method_58_code 8 = .ok (.iload_n 1, 1) := by decide +kernel
theorem own_d_jdk_65_method_58_9 : decode jdk_65_method_58_code 9 = .ok (.iload_n 2, 1) := by decide +kernel
theorem own_d_jdk_65_method_58_10 : decode jdk_65_method_58_code 10 = .ok (.iload_n 3, 1) := by decide +kernel
theorem own_d_jdk_65_method_58_11 : decode jdk_65_method_58_code 11 = .ok (.invokestatic 209, 3) := by decide +kernel
theorem own_pd_7 : parseMethodDescriptor "([IIII)I" = some ⟨[(.array .int), .int, .int, .int], some .int⟩ := by decide +kernel
theorem own_d_jdk_65_method_58_14 : decode jdk_65_method_58_code 14 = .ok (.ireturn, 1) := by decide +kernel
def own_bs_0_Q (a1 : Addr) (kc1 : ClassId) (p1 : Int32) (ea0 : Int32) (h0 : Heap) (v : Option Value) (h : Heap) (L : List Loc) : Prop := ((v = some (.int (-1 : Int32)))) ∧ h = h0 ∧ L = []
abbrev own_y7 : MethodName := ⟨"java/util/Arrays", "binarySearch", "([IIII)I"⟩
theorem own_bs_0_ef (m : MethodId) (a1 : Addr) (kc1 : ClassId) (p1 : Int32) (ea0 : Int32) : entryFrame m #[(.ref a1), (.int (0 : Int32)), (.int (0 : Int32)), (.int p1)] 4 = mkF m 0 #[.val (.ref a1), .val (.int (0 : Int32)), .val (.int (0 : Int32)), .val (.int p1)] [] := by first | (simp [entryFrame, mkF, argsToLocals, Value.category]; done) | rfl
set_option maxRecDepth 65536 in
set_option maxHeartbeats 40000000 in
theorem own_bs_0 (l : Launch) (Z : State) (a0 : Array Value) (hw : ∀ d ∈ tables_1, d.before a0 Z = true) (ws : List Jvm.Cond) (a1 : Addr) (kc1 : ClassId) (p1 : Int32) (ea0 : Int32) (h0 : Heap) (n0 : Nat) (Z0 : n0 ≤ h0.size) (V_a1 : Arv Z h0 a1 kc1 .int (1 : Int32) [(.int ea0)] (.int (0 : Int32))) :
    MetFree l own_y7 (head1 (Jvm.Cond.code own_y7 jdk_65_method_58_code 4 (some .int) :: ws) ({ frames := 1, cells := 0, slots := 0, locals := 19 } : Room)) (fun a U => a = #[(.ref a1), (.int (0 : Int32)), (.int (0 : Int32)), (.int p1)] ∧ Z.Warmed39 U.vm ∧ U.heap = h0) (fun _ _ _ _ _ => True) (fun _ U o U' => ∃ v L, o = .returned v ∧ own_bs_0_Q a1 kc1 p1 ea0 h0 v U'.heap L ∧ FrameEnd U o U' L ({ frames := 1, cells := 0, slots := 0, locals := 19 } : Room).cells ({ frames := 1, cells := 0, slots := 0, locals := 19 } : Room).slots) := by
  refine MetFree.of_bodySF (plainFor_of_name own_pn_Arrays) hisR ?_
  intro p e s m args below meth c s₁ Bd hml0 hP hK
  obtain ⟨rfl, hZ, hh⟩ := hP
  have hx := Bd.exec
  have hby := Bd.bytes
  have hml : c.maxLocals = 4 := hml0
  have hown : s.vm.findClass "java/util/Arrays" = some m.cls := findClass_of_methodNamed Bd.named
  have hnm := (name_of_methodNamed Bd.named Bd.method).1
  have X0 : Stand p l e ({ frames := 1, cells := 0, slots := 0, locals := 19 } : Room) s m #[(.ref a1), (.int (0 : Int32)), (.int (0 : Int32)), (.int p1)] below meth c s₁ [] 0 0 := Stand.of_body Bd
  have e0 : s₁.heap = h0 := by rw [← hh, Bd.state]; rfl
  show own_E p e below (own_K (own_bs_0_Q a1 kc1 p1 ea0 h0) s ({ frames := 1, cells := 0, slots := 0, locals := 19 } : Room).cells ({ frames := 1, cells := 0, slots := 0, locals := 19 } : Room).slots) s₁ (entryFrame m #[(.ref a1), (.int (0 : Int32)), (.int (0 : Int32)), (.int p1)] 4)
  refine own_pre (own_bs_0_ef m a1 kc1 p1 ea0) ?_
  show own_E p e below _ s₁ (mkF m 0 #[rv a1, iv 0, iv 0, iv p1] [])
  refine own_st (fun t k => XS.aloadN X0.here hx rfl (hb hby own_d_jdk_65_method_58_0) rfl rfl k) ?_
  show own_E p e below _ s₁ (mkF m 1 #[rv a1, iv 0, iv 0, iv p1] [.ref a1])
  refine own_st (own_alen X0 hx hZ e0 V_a1 (g := (mkF m 1 #[rv a1, iv 0, iv 0, iv p1] [.ref a1])) rfl rfl (hb hby own_d_jdk_65_method_58_1)) ?_
  show own_E p e below _ s₁ (mkF m 2 #[rv a1, iv 0, iv 0, iv p1] [.int 1])
  refine own_st (fun t k => XS.iloadN X0.here hx rfl (hb hby own_d_jdk_65_method_58_2) rfl k) ?_
  show own_E p e below _ s₁ (mkF m 3 #[rv a1, iv 0, iv 0, iv p1] [.int 0, .int 1])
  refine own_st (fun t k => XS.iloadN X0.here hx rfl (hb hby own_d_jdk_65_method_58_3) rfl k) ?_
  show own_E p e below _ s₁ (mkF m 4 #[rv a1, iv 0, iv 0, iv p1] [.int 0, .int 0, .int 1])
  obtain ⟨_, _, ⟨T1, L1, k1, n1⟩, -, X1, ⟨Lc1, hQ1, l1, y1, z1⟩, st1⟩ := Jvm.LawKit.callS X0 hx (y := own_y5) hown (mvT hZ (own_w hw 51 rfl)) (mvT hZ (own_w hw 52 rfl)) (mvT hZ (own_w hw 36 rfl)) (mvT hZ (own_w hw 53 rfl)) (by decide) (backOf (W := 0) (own_range0 l Z a0 hw []  h0 n0 Z0 ) hZ (own_w hw 53 rfl) (own_w hw 36 rfl) (by decide) (by decide)) (g := (mkF m 4 #[rv a1, iv 0, iv 0, iv p1] [.int 0, .int 0, .int 1])) rfl (by rw [hml]; rfl) (argsL := [(.int (1 : Int32)), (.int (0 : Int32)), (.int (0 : Int32))]) (rest := []) (lenOf own_pd_3 rfl) rfl (by show 2 * 0 + _ ≤ _; exact Nat.le_of_eq rfl) (hb hby own_d_jdk_65_method_58_4) (fun _ _ => ⟨rfl, e0, (by decide : 0 + 0 ≤ _), (by decide : 0 + 0 ≤ _)⟩)
  dsimp only [Pt.U, Pt.locs, Pt.cells, Pt.slots] at X1 l1 y1 z1 st1 hQ1
  subst l1 y1 z1
  obtain ⟨hR1, e1, rfl⟩ := hQ1
  have N1 := Fr.app (Fr.nil n0) (Fr.nil n0)
  obtain rfl := hR1
  refine own_st st1 ?_
  show own_E p e below _ T1 (mkF m 7 #[rv a1, iv 0, iv 0, iv p1] [])
  refine own_st (fun t k => XS.aloadN X1.here hx rfl (hb hby own_d_jdk_65_method_58_7) rfl rfl k) ?_
  show own_E p e below _ T1 (mkF m 8 #[rv a1, iv 0, iv 0, iv p1] [.ref a1])
  refine own_st (fun t k => XS.iloadN X1.here hx rfl (hb hby own_d_jdk_65_method_58_8) rfl k) ?_
  show own_E p e below _ T1 (mkF m 9 #[rv a1, iv 0, iv 0, iv p1] [.int 0, .ref a1])
  refine own_st (fun t k => XS.iloadN X1.here hx rfl (hb hby own_d_jdk_65_method_58_9) rfl k) ?_
  show own_E p e below _ T1 (mkF m 10 #[rv a1, iv 0, iv 0, iv p1] [.int 0, .int 0, .ref a1])
  refine own_st (fun t k => XS.iloadN X1.here hx rfl (hb hby own_d_jdk_65_method_58_10) rfl k) ?_
  show own_E p e below _ T1 (mkF m 11 #[rv a1, iv 0, iv 0, iv p1] [.int p1, .int 0, .int 0, .ref a1])
  obtain ⟨_, _, ⟨T2, L2, k2, n2⟩, -, X2, ⟨Lc2, hQ2, l2, y2, z2⟩, st2⟩ := Jvm.LawKit.callS X1 hx (y := own_y6) hown (mvT hZ (own_w hw 54 rfl)) (mvT hZ (own_w hw 55 rfl)) (mvT hZ (own_w hw 36 rfl)) (mvT hZ (own_w hw 56 rfl)) (by decide) (backOf (W := 0) (own_bs0_0 l Z a0 hw [] a1 kc1 p1 ea0 h0 n0 Z0 V_a1) hZ (own_w hw 56 rfl) (own_w hw 36 rfl) (by decide) (by decide)) (g := (mkF m 11 #[rv a1, iv 0, iv 0, iv p1] [.int p1, .int 0, .int 0, .ref a1])) rfl (by rw [hml]; rfl) (argsL := [(.ref a1), (.int (0 : Int32)), (.int (0 : Int32)), (.int p1)]) (rest := []) (lenOf own_pd_7 rfl) rfl (by show 2 * 0 + _ ≤ _; exact Nat.le_of_eq rfl) (hb hby own_d_jdk_65_method_58_11) (fun _ _ => ⟨rfl, e1, (by decide : 0 + 0 ≤ _), (by decide : 0 + 0 ≤ _)⟩)
  dsimp only [Pt.U, Pt.locs, Pt.cells, Pt.slots] at X2 l2 y2 z2 st2 hQ2
  subst l2 y2 z2
  obtain ⟨hR2, e2, rfl⟩ := hQ2
  have N2 := Fr.app N1 (Fr.nil n0)
  obtain rfl := hR2
  refine own_st st2 ?_
  show own_E p e below _ T2 (mkF m 14 #[rv a1, iv 0, iv 0, iv p1] [.int (-1)])
  refine own_retI X2 hx Bd.notSynchronized Bd.returns (hb hby own_d_jdk_65_method_58_14) (by decide) (by decide) ?_
  exact ⟨rfl, e2, rfl⟩
theorem own_d_prog_14_method_3_0 : decode prog_14_method_3_code 0 = .ok (.aload_n 0, 1) := by decide +kernel
theorem own_d_prog_14_method_3_1 : decode prog_14_method_3_code 1 = .ok (.getfield 7, 3) := by decide +kernel
theorem own_d_prog_14_method_3_4 : decode prog_14_method_3_code 4 = .ok (.iconst 0, 1) := by decide +kernel
theorem own_d_prog_14_method_3_5 : decode prog_14_method_3_code 5 = .ok (.aload_n 0, 1) := by decide +kernel
theorem own_d_prog_14_method_3_6 : decode prog_14_method_3_code 6 = .ok (.getfield 23, 3) := by decide +kernel
theorem own_d_prog_14_method_3_9 : decode prog_14_method_3_code 9 = .ok (.iload_n 1, 1) := by decide +kernel
theorem own_d_prog_14_method_3_10 : decode prog_14_method_3_code 10 = .ok (.invokestatic 44, 3) := by decide +kernel
theorem own_d_prog_14_method_3_13 : decode prog_14_method_3_code 13 = .ok (.istore_n 2, 1) := by decide +kernel
theorem own_d_prog_14_method_3_14 : decode prog_14_method_3_code 14 = .ok (.iload_n 2, 1) := by decide +kernel
theorem own_d_prog_14_method_3_15 : decode prog_14_method_3_code 15 = .ok (.ifCond .lt 12, 3) := by decide +kernel
theorem own_d_prog_14_method_3_27 : decode prog_14_method_3_code 27 = .ok (.iconst 0, 1) := by decide +kernel
theorem own_d_prog_14_method_3_28 : decode prog_14_method_3_code 28 = .ok (.ireturn, 1) := by decide +kernel
def own_freq0_Q (a1 : Addr) (a2 : Addr) (a3 : Addr) (kc1 : ClassId) (kc2 : ClassId) (p1 : Int32) (ea0 : Int32) (eb0 : Int32) (h0 : Heap) (v : Option Value) (h : Heap) (L : List Loc) : Prop := ((v = some (.int (0 : Int32)))) ∧ h = h0 ∧ L = []
abbrev own_y8 : MethodName := ⟨"com/example/lean_scorer/leanscorer/Postings", "frequency", "(I)I"⟩
theorem own_freq0_ef (m : MethodId) (a1 : Addr) (a2 : Addr) (a3 : Addr) (kc1 : ClassId) (kc2 : ClassId) (p1 : Int32) (ea0 : Int32) (eb0 : Int32) : entryFrame m #[(.ref a1), (.int p1)] 3 = mkF m 0 #[.val (.ref a1), .val (.int p1), .unset] [] := by first | (simp [entryFrame, mkF, argsToLocals, Value.category]; done) | rfl
set_option maxRecDepth 65536 in
set_option maxHeartbeats 40000000 in
theorem own_freq0 (l : Launch) (Z : State) (a0 : Array Value) (hw : ∀ d ∈ tables_1, d.before a0 Z = true) (ws : List Jvm.Cond) (a1 : Addr) (a2 : Addr) (a3 : Addr) (kc1 : ClassId) (kc2 : ClassId) (p1 : Int32) (ea0 : Int32) (eb0 : Int32) (h0 : Heap) (n0 : Nat) (Z0 : n0 ≤ h0.size) (F_documents_a1 : Fld Z h0 a1 "com/example/lean_scorer/leanscorer/Postings" "documents" "[I" (.ref a2)) (F_frequencies_a1 : Fld Z h0 a1 "com/example/lean_scorer/leanscorer/Postings" "frequencies" "[I" (.ref a3)) (F_size_a1 : Fld Z h0 a1 "com/example/lean_scorer/leanscorer/Postings" "size" "I" (.int (0 : Int32))) (V_a2 : Arv Z h0 a2 kc1 .int (1 : Int32) [(.int ea0)] (.int (0 : Int32))) (V_a3 : Arv Z h0 a3 kc2 .int (1 : Int32) [(.int eb0)] (.int (0 : Int32))) :
    MetFree l own_y8 (head1 (Jvm.Cond.code own_y8 prog_14_method_3_code 3 (some .int) :: ws) ({ frames := 2, cells := 0, slots := 0, locals := 34 } : Room)) (fun a U => a = #[(.ref a1), (.int p1)] ∧ Z.Warmed39 U.vm ∧ U.heap = h0) (fun _ _ _ _ _ => True) (fun _ U o U' => ∃ v L, o = .returned v ∧ own_freq0_Q a1 a2 a3 kc1 kc2 p1 ea0 eb0 h0 v U'.heap L ∧ FrameEnd U o U' L ({ frames := 2, cells := 0, slots := 0, locals := 34 } : Room).cells ({ frames := 2, cells := 0, slots := 0, locals := 34 } : Room).slots) := by
  refine MetFree.of_bodySF (plainFor_of_name own_pn_Postings) hisR ?_
  intro p e s m args below meth c s₁ Bd hml0 hP hK
  obtain ⟨rfl, hZ, hh⟩ := hP
  have hx := Bd.exec
  have hby := Bd.bytes
  have hml : c.maxLocals = 3 := hml0
  have hown : s.vm.findClass "com/example/lean_scorer/leanscorer/Postings" = some m.cls := findClass_of_methodNamed Bd.named
  have hnm := (name_of_methodNamed Bd.named Bd.method).1
  have X0 : Stand p l e ({ frames := 2, cells := 0, slots := 0, locals := 34 } : Room) s m #[(.ref a1), (.int p1)] below meth c s₁ [] 0 0 := Stand.of_body Bd
  have e0 : s₁.heap = h0 := by rw [← hh, Bd.state]; rfl
  show own_E p e below (own_K (own_freq0_Q a1 a2 a3 kc1 kc2 p1 ea0 eb0 h0) s ({ frames := 2, cells := 0, slots := 0, locals := 34 } : Room).cells ({ frames := 2, cells := 0, slots := 0, locals := 34 } : Room).slots) s₁ (entryFrame m #[(.ref a1), (.int p1)] 3)
  refine own_pre (own_freq0_ef m a1 a2 a3 kc1 kc2 p1 ea0 eb0) ?_
  show own_E p e below _ s₁ (mkF m 0 #[rv a1, iv p1, .unset] [])
  refine own_st (fun t k => XS.aloadN X0.here hx rfl (hb hby own_d_prog_14_method_3_0) rfl rfl k) ?_
  show own_E p e below _ s₁ (mkF m 1 #[rv a1, iv p1, .unset] [.ref a1])
  obtain ⟨T1, X1, e1, st1⟩ := getF X0 hx hZ hown (host := "") (Or.inl (own_w hw 11 rfl)) Via.refl e0 F_documents_a1 (g := (mkF m 1 #[rv a1, iv p1, .unset] [.ref a1])) rfl rfl (hb hby own_d_prog_14_method_3_1)
  refine own_st st1 ?_
  show own_E p e below _ T1 (mkF m 4 #[rv a1, iv p1, .unset] [.ref a2])
  refine own_st (fun t k => XS.iconst X1.here hx rfl (hb hby own_d_prog_14_method_3_4) k) ?_
  show own_E p e below _ T1 (mkF m 5 #[rv a1, iv p1, .unset] [.int 0, .ref a2])
  refine own_st (fun t k => XS.aloadN X1.here hx rfl (hb hby own_d_prog_14_method_3_5) rfl rfl k) ?_
  show own_E p e below _ T1 (mkF m 6 #[rv a1, iv p1, .unset] [.ref a1, .int 0, .ref a2])
  obtain ⟨T2, X2, e2, st2⟩ := getF X1 hx hZ hown (host := "") (Or.inl (own_w hw 23 rfl)) Via.refl e1 F_size_a1 (g := (mkF m 6 #[rv a1, iv p1, .unset] [.ref a1, .int 0, .ref a2])) rfl rfl (hb hby own_d_prog_14_method_3_6)
  refine own_st st2 ?_
  show own_E p e below _ T2 (mkF m 9 #[rv a1, iv p1, .unset] [.int 0, .int 0, .ref a2])
  refine own_st (fun t k => XS.iloadN X2.here hx rfl (hb hby own_d_prog_14_method_3_9) rfl k) ?_
  show own_E p e below _ T2 (mkF m 10 #[rv a1, iv p1, .unset] [.int p1, .int 0, .int 0, .ref a2])
  obtain ⟨_, _, ⟨T3, L3, k3, n3⟩, -, X3, ⟨Lc3, hQ3, l3, y3, z3⟩, st3⟩ := Jvm.LawKit.callS X2 hx (y := own_y7) hown (mvT hZ (own_w hw 48 rfl)) (mvT hZ (own_w hw 49 rfl)) (mvT hZ (own_w hw 36 rfl)) (mvT hZ (own_w hw 50 rfl)) (by decide) (backOf (W := 0) (own_bs_0 l Z a0 hw [] a2 kc1 p1 ea0 h0 n0 Z0 V_a2) hZ (own_w hw 50 rfl) (own_w hw 36 rfl) (by decide) (by decide)) (g := (mkF m 10 #[rv a1, iv p1, .unset] [.int p1, .int 0, .int 0, .ref a2])) rfl (by rw [hml]; rfl) (argsL := [(.ref a2), (.int (0 : Int32)), (.int (0 : Int32)), (.int p1)]) (rest := []) (lenOf own_pd_7 rfl) rfl (by show 2 * 0 + _ ≤ _; exact Nat.le_of_eq rfl) (hb hby own_d_prog_14_method_3_10) (fun _ _ => ⟨rfl, e2, (by decide : 0 + 0 ≤ _), (by decide : 0 + 0 ≤ _)⟩)
  dsimp only [Pt.U, Pt.locs, Pt.cells, Pt.slots] at X3 l3 y3 z3 st3 hQ3
  subst l3 y3 z3
  obtain ⟨hR3, e3, rfl⟩ := hQ3
  have N3 := Fr.app (Fr.nil n0) (Fr.nil n0)
  obtain rfl := hR3
  refine own_st st3 ?_
  show own_E p e below _ T3 (mkF m 13 #[rv a1, iv p1, .unset] [.int (-1)])
  refine own_st (fun t k => XS.istoreN X3.here hx rfl (hb hby own_d_prog_14_method_3_13) rfl (l' := #[rv a1, iv p1, iv (-1)]) rfl k) ?_
  show own_E p e below _ T3 (mkF m 14 #[rv a1, iv p1, iv (-1)] [])
  refine own_st (fun t k => XS.iloadN X3.here hx rfl (hb hby own_d_prog_14_method_3_14) rfl k) ?_
  show own_E p e below _ T3 (mkF m 15 #[rv a1, iv p1, iv (-1)] [.int (-1)])
  refine own_st (fun t k => XS.ifYes X3.here hx rfl (pc0 := 15) (pc' := 27) rfl (hb hby own_d_prog_14_method_3_15) rfl (by decide) (by decide) (by decide) k) ?_
  show own_E p e below _ T3 (mkF m 27 #[rv a1, iv p1, iv (-1)] [])
  refine own_st (fun t k => XS.iconst X3.here hx rfl (hb hby own_d_prog_14_method_3_27) k) ?_
  show own_E p e below _ T3 (mkF m 28 #[rv a1, iv p1, iv (-1)] [.int 0])
  refine own_retI X3 hx Bd.notSynchronized Bd.returns (hb hby own_d_prog_14_method_3_28) (by decide) (by decide) ?_
  exact ⟨rfl, e3, rfl⟩
def own_range1_Q  (h0 : Heap) (v : Option Value) (h : Heap) (L : List Loc) : Prop := ((v = none)) ∧ h = h0 ∧ L = []
theorem own_range1_ef (m : MethodId)  : entryFrame m #[(.int (1 : Int32)), (.int (0 : Int32)), (.int (1 : Int32))] 3 = mkF m 0 #[.val (.int (1 : Int32)), .val (.int (0 : Int32)), .val (.int (1 : Int32))] [] := by first | (simp [entryFrame, mkF, argsToLocals, Value.category]; done) | rfl
set_option maxRecDepth 65536 in
set_option maxHeartbeats 40000000 in
theorem own_range1 (l : Launch) (Z : State) (a0 : Array Value) (hw : ∀ d ∈ tables_1, d.before a0 Z = true) (ws : List Jvm.Cond)  (h0 : Heap) (n0 : Nat) (Z0 : n0 ≤ h0.size)  :
    MetFree l own_y5 (head1 (Jvm.Cond.code own_y5 jdk_65_method_30_code 3 none :: ws) ({ frames := 0, cells := 0, slots := 0, locals := 0 } : Room)) (fun a U => a = #[(.int (1 : Int32)), (.int (0 : Int32)), (.int (1 : Int32))] ∧ Z.Warmed39 U.vm ∧ U.heap = h0) (fun _ _ _ _ _ => True) (fun _ U o U' => ∃ v L, o = .returned v ∧ own_range1_Q  h0 v U'.heap L ∧ FrameEnd U o U' L ({ frames := 0, cells := 0, slots := 0, locals := 0 } : Room).cells ({ frames := 0, cells := 0, slots := 0, locals := 0 } : Room).slots) := by
  refine MetFree.of_bodySF (plainFor_of_name own_pn_Arrays) hisR ?_
  intro p e s m args below meth c s₁ Bd hml0 hP hK
  obtain ⟨rfl, hZ, hh⟩ := hP
  have hx := Bd.exec
  have hby := Bd.bytes
  have hml : c.maxLocals = 3 := hml0
  have hown : s.vm.findClass "java/util/Arrays" = some m.cls := findClass_of_methodNamed Bd.named
  have hnm := (name_of_methodNamed Bd.named Bd.method).1
  have X0 : Stand p l e ({ frames := 0, cells := 0, slots := 0, locals := 0 } : Room) s m #[(.int (1 : Int32)), (.int (0 : Int32)), (.int (1 : Int32))] below meth c s₁ [] 0 0 := Stand.of_body Bd
  have e0 : s₁.heap = h0 := by rw [← hh, Bd.state]; rfl
  show own_E p e below (own_K (own_range1_Q  h0) s ({ frames := 0, cells := 0, slots := 0, locals := 0 } : Room).cells ({ frames := 0, cells := 0, slots := 0, locals := 0 } : Room).slots) s₁ (entryFrame m #[(.int (1 : Int32)), (.int (0 : Int32)), (.int (1 : Int32))] 3)
  refine own_pre (own_range1_ef m ) ?_
  show own_E p e below _ s₁ (mkF m 0 #[iv 1, iv 0, iv 1] [])
  refine own_st (fun t k => XS.iloadN X0.here hx rfl (hb hby own_d_jdk_65_method_30_0) rfl k) ?_
  show own_E p e below _ s₁ (mkF m 1 #[iv 1, iv 0, iv 1] [.int 0])
  refine own_st (fun t k => XS.iloadN X0.here hx rfl (hb hby own_d_jdk_65_method_30_1) rfl k) ?_
  show own_E p e below _ s₁ (mkF m 2 #[iv 1, iv 0, iv 1] [.int 1, .int 0])
  refine own_st (fun t k => XS.icmpYes X0.here hx rfl (pc0 := 2) (pc' := 46) rfl (hb hby own_d_jdk_65_method_30_2) rfl (by decide) (by decide) (by decide) k) ?_
  show own_E p e below _ s₁ (mkF m 46 #[iv 1, iv 0, iv 1] [])
  refine own_st (fun t k => XS.iloadN X0.here hx rfl (hb hby own_d_jdk_65_method_30_46) rfl k) ?_
  show own_E p e below _ s₁ (mkF m 47 #[iv 1, iv 0, iv 1] [.int 0])
  refine own_st (fun t k => XS.ifYes X0.here hx rfl (pc0 := 47) (pc' := 59) rfl (hb hby own_d_jdk_65_method_30_47) rfl (by decide) (by decide) (by decide) k) ?_
  show own_E p e below _ s₁ (mkF m 59 #[iv 1, iv 0, iv 1] [])
  refine own_st (fun t k => XS.iloadN X0.here hx rfl (hb hby own_d_jdk_65_method_30_59) rfl k) ?_
  show own_E p e below _ s₁ (mkF m 60 #[iv 1, iv 0, iv 1] [.int 1])
  refine own_st (fun t k => XS.iloadN X0.here hx rfl (hb hby own_d_jdk_65_method_30_60) rfl k) ?_
  show own_E p e below _ s₁ (mkF m 61 #[iv 1, iv 0, iv 1] [.int 1, .int 1])
  refine own_st (fun t k => XS.icmpYes X0.here hx rfl (pc0 := 61) (pc' := 73) rfl (hb hby own_d_jdk_65_method_30_61) rfl (by decide) (by decide) (by decide) k) ?_
  show own_E p e below _ s₁ (mkF m 73 #[iv 1, iv 0, iv 1] [])
  refine own_retV X0 hx Bd.notSynchronized Bd.returns (hb hby own_d_jdk_65_method_30_73) (by decide) (by decide) ?_
  exact ⟨rfl, e0, rfl⟩
theorem own_d_jdk_65_method_59_15 : decode jdk_65_method_59_code 15 = .ok (.iload 4, 2) := by decide +kernel
theorem own_d_jdk_65_method_59_17 : decode jdk_65_method_59_code 17 = .ok (.iload 5, 2) := by decide +kernel
theorem own_d_jdk_65_method_59_19 : decode jdk_65_method_59_code 19 = .ok (.iadd, 1) := by decide +kernel
theorem own_d_jdk_65_method_59_20 : decode jdk_65_method_59_code 20 = .ok (.iconst 1, 1) := by decide +kernel
theorem own_d_jdk_65_method_59_21 : decode jdk_65_method_59_code 21 = .ok (.iushr, 1) := by decide +kernel
theorem own_d_jdk_65_method_59_22 : decode jdk_65_method_59_code 22 = .ok (.istore 6, 2) := by decide +kernel
theorem own_d_jdk_65_method_59_24 : decode jdk_65_method_59_code 24 = .ok (.aload_n 0, 1) := by decide +kernel
theorem own_d_jdk_65_method_59_25 : decode jdk_65_method_59_code 25 = .ok (.iload 6, 2) := by decide +kernel
theorem own_d_jdk_65_method_59_27 : decode jdk_65_method_59_code 27 = .ok (.iaload, 1) := by decide +kernel
theorem own_d_jdk_65_method_59_28 : decode jdk_65_method_59_code 28 = .ok (.istore 7, 2) := by decide +kernel
theorem own_d_jdk_65_method_59_30 : decode jdk_65_method_59_code 30 = .ok (.iload 7, 2) := by decide +kernel
theorem own_d_jdk_65_method_59_32 : decode jdk_65_method_59_code 32 = .ok (.iload_n 3, 1) := by decide +kernel
theorem own_d_jdk_65_method_59_33 : decode jdk_65_method_59_code 33 = .ok (.if_icmp .ge 12, 3) := by decide +kernel
theorem own_d_jdk_65_method_59_36 : decode jdk_65_method_59_code 36 = .ok (.iload 6, 2) := by decide +kernel
theorem own_d_jdk_65_method_59_38 : decode jdk_65_method_59_code 38 = .ok (.iconst 1, 1) := by decide +kernel
theorem own_d_jdk_65_method_59_39 : decode jdk_65_method_59_code 39 = .ok (.iadd, 1) := by decide +kernel
theorem own_d_jdk_65_method_59_40 : decode jdk_65_method_59_code 40 = .ok (.istore 4, 2) := by decide +kernel
theorem own_d_jdk_65_method_59_42 : decode jdk_65_method_59_code 42 = .ok (.goto 21, 3) := by decide +kernel
theorem own_d_jdk_65_method_59_63 : decode jdk_65_method_59_code 63 = .ok (.goto (-55), 3) := by decide +kernel
theorem own_d_jdk_65_method_59_45 : decode jdk_65_method_59_code 45 = .ok (.iload 7, 2) := by decide +kernel
theorem own_d_jdk_65_method_59_47 : decode jdk_65_method_59_code 47 = .ok (.iload_n 3, 1) := by decide +kernel
theorem own_d_jdk_65_method_59_48 : decode jdk_65_method_59_code 48 = .ok (.if_icmp .le 12, 3) := by decide +kernel
theorem own_d_jdk_65_method_59_51 : decode jdk_65_method_59_code 51 = .ok (.iload 6, 2) := by decide +kernel
theorem own_d_jdk_65_method_59_53 : decode jdk_65_method_59_code 53 = .ok (.iconst 1, 1) := by decide +kernel
theorem own_d_jdk_65_method_59_54 : decode jdk_65_method_59_code 54 = .ok (.isub, 1) := by decide +kernel
theorem own_d_jdk_65_method_59_55 : decode jdk_65_method_59_code 55 = .ok (.istore 5, 2) := by decide +kernel
theorem own_d_jdk_65_method_59_57 : decode jdk_65_method_59_code 57 = .ok (.goto 6, 3) := by decide +kernel
theorem own_d_jdk_65_method_59_60 : decode jdk_65_method_59_code 60 = .ok (.iload 6, 2) := by decide +kernel
theorem own_d_jdk_65_method_59_62 : decode jdk_65_method_59_code 62 = .ok (.ireturn, 1) := by decide +kernel
def own_bs0_1_Q (a1 : Addr) (kc1 : ClassId) (p1 : Int32) (ea0 : Int32) (h0 : Heap) (v : Option Value) (h : Heap) (L : List Loc) : Prop := ((v = some (.int (-2 : Int32)) ∧ ea0 < p1) ∨ (v = some (.int (-1 : Int32)) ∧ ¬ (ea0 < p1) ∧ p1 < ea0) ∨ (v = some (.int (0 : Int32)) ∧ ¬ (ea0 < p1) ∧ ¬ (p1 < ea0))) ∧ h = h0 ∧ L = []
theorem own_bs0_1_ef (m : MethodId) (a1 : Addr) (kc1 : ClassId) (p1 : Int32) (ea0 : Int32) : entryFrame m #[(.ref a1), (.int (0 : Int32)), (.int (1 : Int32)), (.int p1)] 8 = mkF m 0 #[.val (.ref a1), .val (.int (0 : Int32)), .val (.int (1 : Int32)), .val (.int p1), .unset, .unset, .unset, .unset] [] := by first | (simp [entryFrame, mkF, argsToLocals, Value.category]; done) | rfl
set_option maxRecDepth 65536 in
set_option maxHeartbeats 40000000 in
theorem own_bs0_1 (l : Launch) (Z : State) (a0 : Array Value) (hw : ∀ d ∈ tables_1, d.before a0 Z = true) (ws : List Jvm.Cond) (a1 : Addr) (kc1 : ClassId) (p1 : Int32) (ea0 : Int32) (h0 : Heap) (n0 : Nat) (Z0 : n0 ≤ h0.size) (V_a1 : Arv Z h0 a1 kc1 .int (1 : Int32) [(.int ea0)] (.int (0 : Int32))) :
    MetFree l own_y6 (head1 (Jvm.Cond.code own_y6 jdk_65_method_59_code 8 (some .int) :: ws) ({ frames := 0, cells := 0, slots := 0, locals := 0 } : Room)) (fun a U => a = #[(.ref a1), (.int (0 : Int32)), (.int (1 : Int32)), (.int p1)] ∧ Z.Warmed39 U.vm ∧ U.heap = h0) (fun _ _ _ _ _ => True) (fun _ U o U' => ∃ v L, o = .returned v ∧ own_bs0_1_Q a1 kc1 p1 ea0 h0 v U'.heap L ∧ FrameEnd U o U' L ({ frames := 0, cells := 0, slots := 0, locals := 0 } : Room).cells ({ frames := 0, cells := 0, slots := 0, locals := 0 } : Room).slots) := by
  refine MetFree.of_bodySF (plainFor_of_name own_pn_Arrays) hisR ?_
  intro p e s m args below meth c s₁ Bd hml0 hP hK
  obtain ⟨rfl, hZ, hh⟩ := hP
  have hx := Bd.exec
  have hby := Bd.bytes
  have hml : c.maxLocals = 8 := hml0
  have hown : s.vm.findClass "java/util/Arrays" = some m.cls := findClass_of_methodNamed Bd.named
  have hnm := (name_of_methodNamed Bd.named Bd.method).1
  have X0 : Stand p l e ({ frames := 0, cells := 0, slots := 0, locals := 0 } : Room) s m #[(.ref a1), (.int (0 : Int32)), (.int (1 : Int32)), (.int p1)] below meth c s₁ [] 0 0 := Stand.of_body Bd
  have e0 : s₁.heap = h0 := by rw [← hh, Bd.state]; rfl
  show own_E p e below (own_K (own_bs0_1_Q a1 kc1 p1 ea0 h0) s ({ frames := 0, cells := 0, slots := 0, locals := 0 } : Room).cells ({ frames := 0, cells := 0, slots := 0, locals := 0 } : Room).slots) s₁ (entryFrame m #[(.ref a1), (.int (0 : Int32)), (.int (1 : Int32)), (.int p1)] 8)
  refine own_pre (own_bs0_1_ef m a1 kc1 p1 ea0) ?_
  show own_E p e below _ s₁ (mkF m 0 #[rv a1, iv 0, iv 1, iv p1, .unset, .unset, .unset, .unset] [])
  refine own_st (fun t k => XS.iloadN X0.here hx rfl (hb hby own_d_jdk_65_method_59_0) rfl k) ?_
  show own_E p e below _ s₁ (mkF m 1 #[rv a1, iv 0, iv 1, iv p1, .unset, .unset, .unset, .unset] [.int 0])
  refine own_st (fun t k => XS.istore X0.here hx rfl (hb hby own_d_jdk_65_method_59_1) rfl (l' := #[rv a1, iv 0, iv 1, iv p1, iv 0, .unset, .unset, .unset]) rfl k) ?_
  show own_E p e below _ s₁ (mkF m 3 #[rv a1, iv 0, iv 1, iv p1, iv 0, .unset, .unset, .unset] [])
  refine own_st (fun t k => XS.iloadN X0.here hx rfl (hb hby own_d_jdk_65_method_59_3) rfl k) ?_
  show own_E p e below _ s₁ (mkF m 4 #[rv a1, iv 0, iv 1, iv p1, iv 0, .unset, .unset, .unset] [.int 1])
  refine own_st (fun t k => XS.iconst X0.here hx rfl (hb hby own_d_jdk_65_method_59_4) k) ?_
  show own_E p e below _ s₁ (mkF m 5 #[rv a1, iv 0, iv 1, iv p1, iv 0, .unset, .unset, .unset] [.int 1, .int 1])
  refine own_st (fun t k => XS.isub X0.here hx rfl (hb hby own_d_jdk_65_method_59_5) rfl k) ?_
  show own_E p e below _ s₁ (mkF m 6 #[rv a1, iv 0, iv 1, iv p1, iv 0, .unset, .unset, .unset] [.int 0])
  refine own_st (fun t k => XS.istore X0.here hx rfl (hb hby own_d_jdk_65_method_59_6) rfl (l' := #[rv a1, iv 0, iv 1, iv p1, iv 0, iv 0, .unset, .unset]) rfl k) ?_
  show own_E p e below _ s₁ (mkF m 8 #[rv a1, iv 0, iv 1, iv p1, iv 0, iv 0, .unset, .unset] [])
  refine own_st (fun t k => XS.iload X0.here hx rfl (hb hby own_d_jdk_65_method_59_8) rfl k) ?_
  show own_E p e below _ s₁ (mkF m 10 #[rv a1, iv 0, iv 1, iv p1, iv 0, iv 0, .unset, .unset] [.int 0])
  refine own_st (fun t k => XS.iload X0.here hx rfl (hb hby own_d_jdk_65_method_59_10) rfl k) ?_
  show own_E p e below _ s₁ (mkF m 12 #[rv a1, iv 0, iv 1, iv p1, iv 0, iv 0, .unset, .unset] [.int 0, .int 0])
  refine own_st (fun t k => XS.icmpNo X0.here hx rfl (hb hby own_d_jdk_65_method_59_12) rfl (by decide) k) ?_
  show own_E p e below _ s₁ (mkF m 15 #[rv a1, iv 0, iv 1, iv p1, iv 0, iv 0, .unset, .unset] [])
  refine own_st (fun t k => XS.iload X0.here hx rfl (hb hby own_d_jdk_65_method_59_15) rfl k) ?_
  show own_E p e below _ s₁ (mkF m 17 #[rv a1, iv 0, iv 1, iv p1, iv 0, iv 0, .unset, .unset] [.int 0])
  refine own_st (fun t k => XS.iload X0.here hx rfl (hb hby own_d_jdk_65_method_59_17) rfl k) ?_
  show own_E p e below _ s₁ (mkF m 19 #[rv a1, iv 0, iv 1, iv p1, iv 0, iv 0, .unset, .unset] [.int 0, .int 0])
  refine own_st (fun t k => XS.iadd X0.here hx rfl (hb hby own_d_jdk_65_method_59_19) rfl k) ?_
  show own_E p e below _ s₁ (mkF m 20 #[rv a1, iv 0, iv 1, iv p1, iv 0, iv 0, .unset, .unset] [.int 0])
  refine own_st (fun t k => XS.iconst X0.here hx rfl (hb hby own_d_jdk_65_method_59_20) k) ?_
  show own_E p e below _ s₁ (mkF m 21 #[rv a1, iv 0, iv 1, iv p1, iv 0, iv 0, .unset, .unset] [.int 1, .int 0])
  refine own_st (fun t k => XS.iushr X0.here hx rfl (hb hby own_d_jdk_65_method_59_21) rfl k) ?_
  show own_E p e below _ s₁ (mkF m 22 #[rv a1, iv 0, iv 1, iv p1, iv 0, iv 0, .unset, .unset] [.int 0])
  refine own_st (fun t k => XS.istore X0.here hx rfl (hb hby own_d_jdk_65_method_59_22) rfl (l' := #[rv a1, iv 0, iv 1, iv p1, iv 0, iv 0, iv 0, .unset]) rfl k) ?_
  show own_E p e below _ s₁ (mkF m 24 #[rv a1, iv 0, iv 1, iv p1, iv 0, iv 0, iv 0, .unset] [])
  refine own_st (fun t k => XS.aloadN X0.here hx rfl (hb hby own_d_jdk_65_method_59_24) rfl rfl k) ?_
  show own_E p e below _ s₁ (mkF m 25 #[rv a1, iv 0, iv 1, iv p1, iv 0, iv 0, iv 0, .unset] [.ref a1])
  refine own_st (fun t k => XS.iload X0.here hx rfl (hb hby own_d_jdk_65_method_59_25) rfl k) ?_
  show own_E p e below _ s₁ (mkF m 27 #[rv a1, iv 0, iv 1, iv p1, iv 0, iv 0, iv 0, .unset] [.int 0, .ref a1])
  refine own_st (own_ald X0 hx hZ e0 V_a1 (j := (0 : Int32)) ⟨by decide, by decide⟩ (v := (.int ea0)) rfl (g := (mkF m 27 #[rv a1, iv 0, iv 1, iv p1, iv 0, iv 0, iv 0, .unset] [.int 0, .ref a1])) rfl rfl (hb hby own_d_jdk_65_method_59_27)) ?_
  show own_E p e below _ s₁ (mkF m 28 #[rv a1, iv 0, iv 1, iv p1, iv 0, iv 0, iv 0, .unset] [.int ea0])
  refine own_st (fun t k => XS.istore X0.here hx rfl (hb hby own_d_jdk_65_method_59_28) rfl (l' := #[rv a1, iv 0, iv 1, iv p1, iv 0, iv 0, iv 0, iv ea0]) rfl k) ?_
  show own_E p e below _ s₁ (mkF m 30 #[rv a1, iv 0, iv 1, iv p1, iv 0, iv 0, iv 0, iv ea0] [])
  refine own_st (fun t k => XS.iload X0.here hx rfl (hb hby own_d_jdk_65_method_59_30) rfl k) ?_
  show own_E p e below _ s₁ (mkF m 32 #[rv a1, iv 0, iv 1, iv p1, iv 0, iv 0, iv 0, iv ea0] [.int ea0])
  refine own_st (fun t k => XS.iloadN X0.here hx rfl (hb hby own_d_jdk_65_method_59_32) rfl k) ?_
  show own_E p e below _ s₁ (mkF m 33 #[rv a1, iv 0, iv 1, iv p1, iv 0, iv 0, iv 0, iv ea0] [.int p1, .int ea0])
  by_cases hc1 : ea0 < p1
  · refine own_st (fun t k => XS.icmpNo X0.here hx rfl (hb hby own_d_jdk_65_method_59_33) rfl (tlt hc1).2.1 k) ?_
    show own_E p e below _ s₁ (mkF m 36 #[rv a1, iv 0, iv 1, iv p1, iv 0, iv 0, iv 0, iv ea0] [])
    refine own_st (fun t k => XS.iload X0.here hx rfl (hb hby own_d_jdk_65_method_59_36) rfl k) ?_
    show own_E p e below _ s₁ (mkF m 38 #[rv a1, iv 0, iv 1, iv p1, iv 0, iv 0, iv 0, iv ea0] [.int 0])
    refine own_st (fun t k => XS.iconst X0.here hx rfl (hb hby own_d_jdk_65_method_59_38) k) ?_
    show own_E p e below _ s₁ (mkF m 39 #[rv a1, iv 0, iv 1, iv p1, iv 0, iv 0, iv 0, iv ea0] [.int 1, .int 0])
    refine own_st (fun t k => XS.iadd X0.here hx rfl (hb hby own_d_jdk_65_method_59_39) rfl k) ?_
    show own_E p e below _ s₁ (mkF m 40 #[rv a1, iv 0, iv 1, iv p1, iv 0, iv 0, iv 0, iv ea0] [.int 1])
    refine own_st (fun t k => XS.istore X0.here hx rfl (hb hby own_d_jdk_65_method_59_40) rfl (l' := #[rv a1, iv 0, iv 1, iv p1, iv 1, iv 0, iv 0, iv ea0]) rfl k) ?_
    show own_E p e below _ s₁ (mkF m 42 #[rv a1, iv 0, iv 1, iv p1, iv 1, iv 0, iv 0, iv ea0] [])
    refine own_st (fun t k => XS.goto X0.here hx rfl (pc0 := 42) (pc' := 63) rfl (hb hby own_d_jdk_65_method_59_42) (by decide) (by decide) k) ?_
    show own_E p e below _ s₁ (mkF m 63 #[rv a1, iv 0, iv 1, iv p1, iv 1, iv 0, iv 0, iv ea0] [])
    refine own_st (fun t k => XS.goto X0.here hx rfl (pc0 := 63) (pc' := 8) rfl (hb hby own_d_jdk_65_method_59_63) (by decide) (by decide) k) ?_
    show own_E p e below _ s₁ (mkF m 8 #[rv a1, iv 0, iv 1, iv p1, iv 1, iv 0, iv 0, iv ea0] [])
    refine own_st (fun t k => XS.iload X0.here hx rfl (hb hby own_d_jdk_65_method_59_8) rfl k) ?_
    show own_E p e below _ s₁ (mkF m 10 #[rv a1, iv 0, iv 1, iv p1, iv 1, iv 0, iv 0, iv ea0] [.int 1])
    refine own_st (fun t k => XS.iload X0.here hx rfl (hb hby own_d_jdk_65_method_59_10) rfl k) ?_
    show own_E p e below _ s₁ (mkF m 12 #[rv a1, iv 0, iv 1, iv p1, iv 1, iv 0, iv 0, iv ea0] [.int 0, .int 1])
    refine own_st (fun t k => XS.icmpYes X0.here hx rfl (pc0 := 12) (pc' := 66) rfl (hb hby own_d_jdk_65_method_59_12) rfl (by decide) (by decide) (by decide) k) ?_
    show own_E p e below _ s₁ (mkF m 66 #[rv a1, iv 0, iv 1, iv p1, iv 1, iv 0, iv 0, iv ea0] [])
    refine own_st (fun t k => XS.iload X0.here hx rfl (hb hby own_d_jdk_65_method_59_66) rfl k) ?_
    show own_E p e below _ s₁ (mkF m 68 #[rv a1, iv 0, iv 1, iv p1, iv 1, iv 0, iv 0, iv ea0] [.int 1])
    refine own_st (fun t k => XS.iconst X0.here hx rfl (hb hby own_d_jdk_65_method_59_68) k) ?_
    show own_E p e below _ s₁ (mkF m 69 #[rv a1, iv 0, iv 1, iv p1, iv 1, iv 0, iv 0, iv ea0] [.int 1, .int 1])
    refine own_st (fun t k => XS.iadd X0.here hx rfl (hb hby own_d_jdk_65_method_59_69) rfl k) ?_
    show own_E p e below _ s₁ (mkF m 70 #[rv a1, iv 0, iv 1, iv p1, iv 1, iv 0, iv 0, iv ea0] [.int 2])
    refine own_st (fun t k => XS.ineg X0.here hx rfl (hb hby own_d_jdk_65_method_59_70) rfl k) ?_
    show own_E p e below _ s₁ (mkF m 71 #[rv a1, iv 0, iv 1, iv p1, iv 1, iv 0, iv 0, iv ea0] [.int (-2)])
    refine own_retI X0 hx Bd.notSynchronized Bd.returns (hb hby own_d_jdk_65_method_59_71) (by decide) (by decide) ?_
    exact ⟨(Or.inl ⟨rfl, hc1⟩), e0, rfl⟩
  · refine own_st (fun t k => XS.icmpYes X0.here hx rfl (pc0 := 33) (pc' := 45) rfl (hb hby own_d_jdk_65_method_59_33) rfl (flt hc1).2.1 (by decide) (by decide) k) ?_
    show own_E p e below _ s₁ (mkF m 45 #[rv a1, iv 0, iv 1, iv p1, iv 0, iv 0, iv 0, iv ea0] [])
    refine own_st (fun t k => XS.iload X0.here hx rfl (hb hby own_d_jdk_65_method_59_45) rfl k) ?_
    show own_E p e below _ s₁ (mkF m 47 #[rv a1, iv 0, iv 1, iv p1, iv 0, iv 0, iv 0, iv ea0] [.int ea0])
    refine own_st (fun t k => XS.iloadN X0.here hx rfl (hb hby own_d_jdk_65_method_59_47) rfl k) ?_
    show own_E p e below _ s₁ (mkF m 48 #[rv a1, iv 0, iv 1, iv p1, iv 0, iv 0, iv 0, iv ea0] [.int p1, .int ea0])
    by_cases hc2 : p1 < ea0
    · refine own_st (fun t k => XS.icmpNo X0.here hx rfl (hb hby own_d_jdk_65_method_59_48) rfl (tlt hc2).2.2.2 k) ?_
      show own_E p e below _ s₁ (mkF m 51 #[rv a1, iv 0, iv 1, iv p1, iv 0, iv 0, iv 0, iv ea0] [])
      refine own_st (fun t k => XS.iload X0.here hx rfl (hb hby own_d_jdk_65_method_59_51) rfl k) ?_
      show own_E p e below _ s₁ (mkF m 53 #[rv a1, iv 0, iv 1, iv p1, iv 0, iv 0, iv 0, iv ea0] [.int 0])
      refine own_st (fun t k => XS.iconst X0.here hx rfl (hb hby own_d_jdk_65_method_59_53) k) ?_
      show own_E p e below _ s₁ (mkF m 54 #[rv a1, iv 0, iv 1, iv p1, iv 0, iv 0, iv 0, iv ea0] [.int 1, .int 0])
      refine own_st (fun t k => XS.isub X0.here hx rfl (hb hby own_d_jdk_65_method_59_54) rfl k) ?_
      show own_E p e below _ s₁ (mkF m 55 #[rv a1, iv 0, iv 1, iv p1, iv 0, iv 0, iv 0, iv ea0] [.int (-1)])
      refine own_st (fun t k => XS.istore X0.here hx rfl (hb hby own_d_jdk_65_method_59_55) rfl (l' := #[rv a1, iv 0, iv 1, iv p1, iv 0, iv (-1), iv 0, iv ea0]) rfl k) ?_
      show own_E p e below _ s₁ (mkF m 57 #[rv a1, iv 0, iv 1, iv p1, iv 0, iv (-1), iv 0, iv ea0] [])
      refine own_st (fun t k => XS.goto X0.here hx rfl (pc0 := 57) (pc' := 63) rfl (hb hby own_d_jdk_65_method_59_57) (by decide) (by decide) k) ?_
      show own_E p e below _ s₁ (mkF m 63 #[rv a1, iv 0, iv 1, iv p1, iv 0, iv (-1), iv 0, iv ea0] [])
      refine own_st (fun t k => XS.goto X0.here hx rfl (pc0 := 63) (pc' := 8) rfl (hb hby own_d_jdk_65_method_59_63) (by decide) (by decide) k) ?_
      show own_E p e below _ s₁ (mkF m 8 #[rv a1, iv 0, iv 1, iv p1, iv 0, iv (-1), iv 0, iv ea0] [])
      refine own_st (fun t k => XS.iload X0.here hx rfl (hb hby own_d_jdk_65_method_59_8) rfl k) ?_
      show own_E p e below _ s₁ (mkF m 10 #[rv a1, iv 0, iv 1, iv p1, iv 0, iv (-1), iv 0, iv ea0] [.int 0])
      refine own_st (fun t k => XS.iload X0.here hx rfl (hb hby own_d_jdk_65_method_59_10) rfl k) ?_
      show own_E p e below _ s₁ (mkF m 12 #[rv a1, iv 0, iv 1, iv p1, iv 0, iv (-1), iv 0, iv ea0] [.int (-1), .int 0])
      refine own_st (fun t k => XS.icmpYes X0.here hx rfl (pc0 := 12) (pc' := 66) rfl (hb hby own_d_jdk_65_method_59_12) rfl (by decide) (by decide) (by decide) k) ?_
      show own_E p e below _ s₁ (mkF m 66 #[rv a1, iv 0, iv 1, iv p1, iv 0, iv (-1), iv 0, iv ea0] [])
      refine own_st (fun t k => XS.iload X0.here hx rfl (hb hby own_d_jdk_65_method_59_66) rfl k) ?_
      show own_E p e below _ s₁ (mkF m 68 #[rv a1, iv 0, iv 1, iv p1, iv 0, iv (-1), iv 0, iv ea0] [.int 0])
      refine own_st (fun t k => XS.iconst X0.here hx rfl (hb hby own_d_jdk_65_method_59_68) k) ?_
      show own_E p e below _ s₁ (mkF m 69 #[rv a1, iv 0, iv 1, iv p1, iv 0, iv (-1), iv 0, iv ea0] [.int 1, .int 0])
      refine own_st (fun t k => XS.iadd X0.here hx rfl (hb hby own_d_jdk_65_method_59_69) rfl k) ?_
      show own_E p e below _ s₁ (mkF m 70 #[rv a1, iv 0, iv 1, iv p1, iv 0, iv (-1), iv 0, iv ea0] [.int 1])
      refine own_st (fun t k => XS.ineg X0.here hx rfl (hb hby own_d_jdk_65_method_59_70) rfl k) ?_
      show own_E p e below _ s₁ (mkF m 71 #[rv a1, iv 0, iv 1, iv p1, iv 0, iv (-1), iv 0, iv ea0] [.int (-1)])
      refine own_retI X0 hx Bd.notSynchronized Bd.returns (hb hby own_d_jdk_65_method_59_71) (by decide) (by decide) ?_
      exact ⟨(Or.inr (Or.inl ⟨rfl, hc1, hc2⟩)), e0, rfl⟩
    · refine own_st (fun t k => XS.icmpYes X0.here hx rfl (pc0 := 48) (pc' := 60) rfl (hb hby own_d_jdk_65_method_59_48) rfl (flt hc2).2.2.2 (by decide) (by decide) k) ?_
      show own_E p e below _ s₁ (mkF m 60 #[rv a1, iv 0, iv 1, iv p1, iv 0, iv 0, iv 0, iv ea0] [])
      refine own_st (fun t k => XS.iload X0.here hx rfl (hb hby own_d_jdk_65_method_59_60) rfl k) ?_
      show own_E p e below _ s₁ (mkF m 62 #[rv a1, iv 0, iv 1, iv p1, iv 0, iv 0, iv 0, iv ea0] [.int 0])
      refine own_retI X0 hx Bd.notSynchronized Bd.returns (hb hby own_d_jdk_65_method_59_62) (by decide) (by decide) ?_
      exact ⟨(Or.inr (Or.inr ⟨rfl, hc1, hc2⟩)), e0, rfl⟩
def own_bs_1_Q (a1 : Addr) (kc1 : ClassId) (p1 : Int32) (ea0 : Int32) (h0 : Heap) (v : Option Value) (h : Heap) (L : List Loc) : Prop := ((v = some (.int (-2 : Int32)) ∧ ea0 < p1) ∨ (v = some (.int (-1 : Int32)) ∧ ¬ (ea0 < p1) ∧ p1 < ea0) ∨ (v = some (.int (0 : Int32)) ∧ ¬ (ea0 < p1) ∧ ¬ (p1 < ea0))) ∧ h = h0 ∧ L = []
theorem own_bs_1_ef (m : MethodId) (a1 : Addr) (kc1 : ClassId) (p1 : Int32) (ea0 : Int32) : entryFrame m #[(.ref a1), (.int (0 : Int32)), (.int (1 : Int32)), (.int p1)] 4 = mkF m 0 #[.val (.ref a1), .val (.int (0 : Int32)), .val (.int (1 : Int32)), .val (.int p1)] [] := by first | (simp [entryFrame, mkF, argsToLocals, Value.category]; done) | rfl
set_option maxRecDepth 65536 in
set_option maxHeartbeats 40000000 in
theorem own_bs_1 (l : Launch) (Z : State) (a0 : Array Value) (hw : ∀ d ∈ tables_1, d.before a0 Z = true) (ws : List Jvm.Cond) (a1 : Addr) (kc1 : ClassId) (p1 : Int32) (ea0 : Int32) (h0 : Heap) (n0 : Nat) (Z0 : n0 ≤ h0.size) (V_a1 : Arv Z h0 a1 kc1 .int (1 : Int32) [(.int ea0)] (.int (0 : Int32))) :
    MetFree l own_y7 (head1 (Jvm.Cond.code own_y7 jdk_65_method_58_code 4 (some .int) :: ws) ({ frames := 1, cells := 0, slots := 0, locals := 19 } : Room)) (fun a U => a = #[(.ref a1), (.int (0 : Int32)), (.int (1 : Int32)), (.int p1)] ∧ Z.Warmed39 U.vm ∧ U.heap = h0) (fun _ _ _ _ _ => True) (fun _ U o U' => ∃ v L, o = .returned v ∧ own_bs_1_Q a1 kc1 p1 ea0 h0 v U'.heap L ∧ FrameEnd U o U' L ({ frames := 1, cells := 0, slots := 0, locals := 19 } : Room).cells ({ frames := 1, cells := 0, slots := 0, locals := 19 } : Room).slots) := by
  refine MetFree.of_bodySF (plainFor_of_name own_pn_Arrays) hisR ?_
  intro p e s m args below meth c s₁ Bd hml0 hP hK
  obtain ⟨rfl, hZ, hh⟩ := hP
  have hx := Bd.exec
  have hby := Bd.bytes
  have hml : c.maxLocals = 4 := hml0
  have hown : s.vm.findClass "java/util/Arrays" = some m.cls := findClass_of_methodNamed Bd.named
  have hnm := (name_of_methodNamed Bd.named Bd.method).1
  have X0 : Stand p l e ({ frames := 1, cells := 0, slots := 0, locals := 19 } : Room) s m #[(.ref a1), (.int (0 : Int32)), (.int (1 : Int32)), (.int p1)] below meth c s₁ [] 0 0 := Stand.of_body Bd
  have e0 : s₁.heap = h0 := by rw [← hh, Bd.state]; rfl
  show own_E p e below (own_K (own_bs_1_Q a1 kc1 p1 ea0 h0) s ({ frames := 1, cells := 0, slots := 0, locals := 19 } : Room).cells ({ frames := 1, cells := 0, slots := 0, locals := 19 } : Room).slots) s₁ (entryFrame m #[(.ref a1), (.int (0 : Int32)), (.int (1 : Int32)), (.int p1)] 4)
  refine own_pre (own_bs_1_ef m a1 kc1 p1 ea0) ?_
  show own_E p e below _ s₁ (mkF m 0 #[rv a1, iv 0, iv 1, iv p1] [])
  refine own_st (fun t k => XS.aloadN X0.here hx rfl (hb hby own_d_jdk_65_method_58_0) rfl rfl k) ?_
  show own_E p e below _ s₁ (mkF m 1 #[rv a1, iv 0, iv 1, iv p1] [.ref a1])
  refine own_st (own_alen X0 hx hZ e0 V_a1 (g := (mkF m 1 #[rv a1, iv 0, iv 1, iv p1] [.ref a1])) rfl rfl (hb hby own_d_jdk_65_method_58_1)) ?_
  show own_E p e below _ s₁ (mkF m 2 #[rv a1, iv 0, iv 1, iv p1] [.int 1])
  refine own_st (fun t k => XS.iloadN X0.here hx rfl (hb hby own_d_jdk_65_method_58_2) rfl k) ?_
  show own_E p e below _ s₁ (mkF m 3 #[rv a1, iv 0, iv 1, iv p1] [.int 0, .int 1])
  refine own_st (fun t k => XS.iloadN X0.here hx rfl (hb hby own_d_jdk_65_method_58_3) rfl k) ?_
  show own_E p e below _ s₁ (mkF m 4 #[rv a1, iv 0, iv 1, iv p1] [.int 1, .int 0, .int 1])
  obtain ⟨_, _, ⟨T1, L1, k1, n1⟩, -, X1, ⟨Lc1, hQ1, l1, y1, z1⟩, st1⟩ := Jvm.LawKit.callS X0 hx (y := own_y5) hown (mvT hZ (own_w hw 51 rfl)) (mvT hZ (own_w hw 52 rfl)) (mvT hZ (own_w hw 36 rfl)) (mvT hZ (own_w hw 53 rfl)) (by decide) (backOf (W := 0) (own_range1 l Z a0 hw []  h0 n0 Z0 ) hZ (own_w hw 53 rfl) (own_w hw 36 rfl) (by decide) (by decide)) (g := (mkF m 4 #[rv a1, iv 0, iv 1, iv p1] [.int 1, .int 0, .int 1])) rfl (by rw [hml]; rfl) (argsL := [(.int (1 : Int32)), (.int (0 : Int32)), (.int (1 : Int32))]) (rest := []) (lenOf own_pd_3 rfl) rfl (by show 2 * 0 + _ ≤ _; exact Nat.le_of_eq rfl) (hb hby own_d_jdk_65_method_58_4) (fun _ _ => ⟨rfl, e0, (by decide : 0 + 0 ≤ _), (by decide : 0 + 0 ≤ _)⟩)
  dsimp only [Pt.U, Pt.locs, Pt.cells, Pt.slots] at X1 l1 y1 z1 st1 hQ1
  subst l1 y1 z1
  obtain ⟨hR1, e1, rfl⟩ := hQ1
  have N1 := Fr.app (Fr.nil n0) (Fr.nil n0)
  obtain rfl := hR1
  refine own_st st1 ?_
  show own_E p e below _ T1 (mkF m 7 #[rv a1, iv 0, iv 1, iv p1] [])
  refine own_st (fun t k => XS.aloadN X1.here hx rfl (hb hby own_d_jdk_65_method_58_7) rfl rfl k) ?_
  show own_E p e below _ T1 (mkF m 8 #[rv a1, iv 0, iv 1, iv p1] [.ref a1])
  refine own_st (fun t k => XS.iloadN X1.here hx rfl (hb hby own_d_jdk_65_method_58_8) rfl k) ?_
  show own_E p e below _ T1 (mkF m 9 #[rv a1, iv 0, iv 1, iv p1] [.int 0, .ref a1])
  refine own_st (fun t k => XS.iloadN X1.here hx rfl (hb hby own_d_jdk_65_method_58_9) rfl k) ?_
  show own_E p e below _ T1 (mkF m 10 #[rv a1, iv 0, iv 1, iv p1] [.int 1, .int 0, .ref a1])
  refine own_st (fun t k => XS.iloadN X1.here hx rfl (hb hby own_d_jdk_65_method_58_10) rfl k) ?_
  show own_E p e below _ T1 (mkF m 11 #[rv a1, iv 0, iv 1, iv p1] [.int p1, .int 1, .int 0, .ref a1])
  obtain ⟨_, _, ⟨T2, L2, k2, n2⟩, -, X2, ⟨Lc2, hQ2, l2, y2, z2⟩, st2⟩ := Jvm.LawKit.callS X1 hx (y := own_y6) hown (mvT hZ (own_w hw 54 rfl)) (mvT hZ (own_w hw 55 rfl)) (mvT hZ (own_w hw 36 rfl)) (mvT hZ (own_w hw 56 rfl)) (by decide) (backOf (W := 0) (own_bs0_1 l Z a0 hw [] a1 kc1 p1 ea0 h0 n0 Z0 V_a1) hZ (own_w hw 56 rfl) (own_w hw 36 rfl) (by decide) (by decide)) (g := (mkF m 11 #[rv a1, iv 0, iv 1, iv p1] [.int p1, .int 1, .int 0, .ref a1])) rfl (by rw [hml]; rfl) (argsL := [(.ref a1), (.int (0 : Int32)), (.int (1 : Int32)), (.int p1)]) (rest := []) (lenOf own_pd_7 rfl) rfl (by show 2 * 0 + _ ≤ _; exact Nat.le_of_eq rfl) (hb hby own_d_jdk_65_method_58_11) (fun _ _ => ⟨rfl, e1, (by decide : 0 + 0 ≤ _), (by decide : 0 + 0 ≤ _)⟩)
  dsimp only [Pt.U, Pt.locs, Pt.cells, Pt.slots] at X2 l2 y2 z2 st2 hQ2
  subst l2 y2 z2
  obtain ⟨hR2, e2, rfl⟩ := hQ2
  have N2 := Fr.app N1 (Fr.nil n0)
  rcases hR2 with ⟨rfl, ha2_0⟩ | ⟨rfl, ha2_0, ha2_1⟩ | ⟨rfl, ha2_0, ha2_1⟩
  · refine own_st st2 ?_
    show own_E p e below _ T2 (mkF m 14 #[rv a1, iv 0, iv 1, iv p1] [.int (-2)])
    refine own_retI X2 hx Bd.notSynchronized Bd.returns (hb hby own_d_jdk_65_method_58_14) (by decide) (by decide) ?_
    exact ⟨(Or.inl ⟨rfl, ha2_0⟩), e2, rfl⟩
  · refine own_st st2 ?_
    show own_E p e below _ T2 (mkF m 14 #[rv a1, iv 0, iv 1, iv p1] [.int (-1)])
    refine own_retI X2 hx Bd.notSynchronized Bd.returns (hb hby own_d_jdk_65_method_58_14) (by decide) (by decide) ?_
    exact ⟨(Or.inr (Or.inl ⟨rfl, ha2_0, ha2_1⟩)), e2, rfl⟩
  · refine own_st st2 ?_
    show own_E p e below _ T2 (mkF m 14 #[rv a1, iv 0, iv 1, iv p1] [.int 0])
    refine own_retI X2 hx Bd.notSynchronized Bd.returns (hb hby own_d_jdk_65_method_58_14) (by decide) (by decide) ?_
    exact ⟨(Or.inr (Or.inr ⟨rfl, ha2_0, ha2_1⟩)), e2, rfl⟩
theorem own_d_prog_14_method_3_18 : decode prog_14_method_3_code 18 = .ok (.aload_n 0, 1) := by decide +kernel
theorem own_d_prog_14_method_3_19 : decode prog_14_method_3_code 19 = .ok (.getfield 13, 3) := by decide +kernel
theorem own_d_prog_14_method_3_22 : decode prog_14_method_3_code 22 = .ok (.iload_n 2, 1) := by decide +kernel
theorem own_d_prog_14_method_3_23 : decode prog_14_method_3_code 23 = .ok (.iaload, 1) := by decide +kernel
theorem own_d_prog_14_method_3_24 : decode prog_14_method_3_code 24 = .ok (.goto 4, 3) := by decide +kernel
def own_freq1_Q (a1 : Addr) (a2 : Addr) (a3 : Addr) (kc1 : ClassId) (kc2 : ClassId) (p1 : Int32) (ea0 : Int32) (eb0 : Int32) (h0 : Heap) (v : Option Value) (h : Heap) (L : List Loc) : Prop := ((v = some (.int (0 : Int32)) ∧ ea0 < p1) ∨ (v = some (.int (0 : Int32)) ∧ ¬ (ea0 < p1) ∧ p1 < ea0) ∨ (v = some (.int eb0) ∧ ¬ (ea0 < p1) ∧ ¬ (p1 < ea0))) ∧ h = h0 ∧ L = []
theorem own_freq1_ef (m : MethodId) (a1 : Addr) (a2 : Addr) (a3 : Addr) (kc1 : ClassId) (kc2 : ClassId) (p1 : Int32) (ea0 : Int32) (eb0 : Int32) : entryFrame m #[(.ref a1), (.int p1)] 3 = mkF m 0 #[.val (.ref a1), .val (.int p1), .unset] [] := by first | (simp [entryFrame, mkF, argsToLocals, Value.category]; done) | rfl
set_option maxRecDepth 65536 in
set_option maxHeartbeats 40000000 in
theorem own_freq1 (l : Launch) (Z : State) (a0 : Array Value) (hw : ∀ d ∈ tables_1, d.before a0 Z = true) (ws : List Jvm.Cond) (a1 : Addr) (a2 : Addr) (a3 : Addr) (kc1 : ClassId) (kc2 : ClassId) (p1 : Int32) (ea0 : Int32) (eb0 : Int32) (h0 : Heap) (n0 : Nat) (Z0 : n0 ≤ h0.size) (F_documents_a1 : Fld Z h0 a1 "com/example/lean_scorer/leanscorer/Postings" "documents" "[I" (.ref a2)) (F_frequencies_a1 : Fld Z h0 a1 "com/example/lean_scorer/leanscorer/Postings" "frequencies" "[I" (.ref a3)) (F_size_a1 : Fld Z h0 a1 "com/example/lean_scorer/leanscorer/Postings" "size" "I" (.int (1 : Int32))) (V_a2 : Arv Z h0 a2 kc1 .int (1 : Int32) [(.int ea0)] (.int (0 : Int32))) (V_a3 : Arv Z h0 a3 kc2 .int (1 : Int32) [(.int eb0)] (.int (0 : Int32))) :
    MetFree l own_y8 (head1 (Jvm.Cond.code own_y8 prog_14_method_3_code 3 (some .int) :: ws) ({ frames := 2, cells := 0, slots := 0, locals := 34 } : Room)) (fun a U => a = #[(.ref a1), (.int p1)] ∧ Z.Warmed39 U.vm ∧ U.heap = h0) (fun _ _ _ _ _ => True) (fun _ U o U' => ∃ v L, o = .returned v ∧ own_freq1_Q a1 a2 a3 kc1 kc2 p1 ea0 eb0 h0 v U'.heap L ∧ FrameEnd U o U' L ({ frames := 2, cells := 0, slots := 0, locals := 34 } : Room).cells ({ frames := 2, cells := 0, slots := 0, locals := 34 } : Room).slots) := by
  refine MetFree.of_bodySF (plainFor_of_name own_pn_Postings) hisR ?_
  intro p e s m args below meth c s₁ Bd hml0 hP hK
  obtain ⟨rfl, hZ, hh⟩ := hP
  have hx := Bd.exec
  have hby := Bd.bytes
  have hml : c.maxLocals = 3 := hml0
  have hown : s.vm.findClass "com/example/lean_scorer/leanscorer/Postings" = some m.cls := findClass_of_methodNamed Bd.named
  have hnm := (name_of_methodNamed Bd.named Bd.method).1
  have X0 : Stand p l e ({ frames := 2, cells := 0, slots := 0, locals := 34 } : Room) s m #[(.ref a1), (.int p1)] below meth c s₁ [] 0 0 := Stand.of_body Bd
  have e0 : s₁.heap = h0 := by rw [← hh, Bd.state]; rfl
  show own_E p e below (own_K (own_freq1_Q a1 a2 a3 kc1 kc2 p1 ea0 eb0 h0) s ({ frames := 2, cells := 0, slots := 0, locals := 34 } : Room).cells ({ frames := 2, cells := 0, slots := 0, locals := 34 } : Room).slots) s₁ (entryFrame m #[(.ref a1), (.int p1)] 3)
  refine own_pre (own_freq1_ef m a1 a2 a3 kc1 kc2 p1 ea0 eb0) ?_
  show own_E p e below _ s₁ (mkF m 0 #[rv a1, iv p1, .unset] [])
  refine own_st (fun t k => XS.aloadN X0.here hx rfl (hb hby own_d_prog_14_method_3_0) rfl rfl k) ?_
  show own_E p e below _ s₁ (mkF m 1 #[rv a1, iv p1, .unset] [.ref a1])
  obtain ⟨T1, X1, e1, st1⟩ := getF X0 hx hZ hown (host := "") (Or.inl (own_w hw 11 rfl)) Via.refl e0 F_documents_a1 (g := (mkF m 1 #[rv a1, iv p1, .unset] [.ref a1])) rfl rfl (hb hby own_d_prog_14_method_3_1)
  refine own_st st1 ?_
  show own_E p e below _ T1 (mkF m 4 #[rv a1, iv p1, .unset] [.ref a2])
  refine own_st (fun t k => XS.iconst X1.here hx rfl (hb hby own_d_prog_14_method_3_4) k) ?_
  show own_E p e below _ T1 (mkF m 5 #[rv a1, iv p1, .unset] [.int 0, .ref a2])
  refine own_st (fun t k => XS.aloadN X1.here hx rfl (hb hby own_d_prog_14_method_3_5) rfl rfl k) ?_
  show own_E p e below _ T1 (mkF m 6 #[rv a1, iv p1, .unset] [.ref a1, .int 0, .ref a2])
  obtain ⟨T2, X2, e2, st2⟩ := getF X1 hx hZ hown (host := "") (Or.inl (own_w hw 23 rfl)) Via.refl e1 F_size_a1 (g := (mkF m 6 #[rv a1, iv p1, .unset] [.ref a1, .int 0, .ref a2])) rfl rfl (hb hby own_d_prog_14_method_3_6)
  refine own_st st2 ?_
  show own_E p e below _ T2 (mkF m 9 #[rv a1, iv p1, .unset] [.int 1, .int 0, .ref a2])
  refine own_st (fun t k => XS.iloadN X2.here hx rfl (hb hby own_d_prog_14_method_3_9) rfl k) ?_
  show own_E p e below _ T2 (mkF m 10 #[rv a1, iv p1, .unset] [.int p1, .int 1, .int 0, .ref a2])
  obtain ⟨_, _, ⟨T3, L3, k3, n3⟩, -, X3, ⟨Lc3, hQ3, l3, y3, z3⟩, st3⟩ := Jvm.LawKit.callS X2 hx (y := own_y7) hown (mvT hZ (own_w hw 48 rfl)) (mvT hZ (own_w hw 49 rfl)) (mvT hZ (own_w hw 36 rfl)) (mvT hZ (own_w hw 50 rfl)) (by decide) (backOf (W := 0) (own_bs_1 l Z a0 hw [] a2 kc1 p1 ea0 h0 n0 Z0 V_a2) hZ (own_w hw 50 rfl) (own_w hw 36 rfl) (by decide) (by decide)) (g := (mkF m 10 #[rv a1, iv p1, .unset] [.int p1, .int 1, .int 0, .ref a2])) rfl (by rw [hml]; rfl) (argsL := [(.ref a2), (.int (0 : Int32)), (.int (1 : Int32)), (.int p1)]) (rest := []) (lenOf own_pd_7 rfl) rfl (by show 2 * 0 + _ ≤ _; exact Nat.le_of_eq rfl) (hb hby own_d_prog_14_method_3_10) (fun _ _ => ⟨rfl, e2, (by decide : 0 + 0 ≤ _), (by decide : 0 + 0 ≤ _)⟩)
  dsimp only [Pt.U, Pt.locs, Pt.cells, Pt.slots] at X3 l3 y3 z3 st3 hQ3
  subst l3 y3 z3
  obtain ⟨hR3, e3, rfl⟩ := hQ3
  have N3 := Fr.app (Fr.nil n0) (Fr.nil n0)
  rcases hR3 with ⟨rfl, ha3_0⟩ | ⟨rfl, ha3_0, ha3_1⟩ | ⟨rfl, ha3_0, ha3_1⟩
  · refine own_st st3 ?_
    show own_E p e below _ T3 (mkF m 13 #[rv a1, iv p1, .unset] [.int (-2)])
    refine own_st (fun t k => XS.istoreN X3.here hx rfl (hb hby own_d_prog_14_method_3_13) rfl (l' := #[rv a1, iv p1, iv (-2)]) rfl k) ?_
    show own_E p e below _ T3 (mkF m 14 #[rv a1, iv p1, iv (-2)] [])
    refine own_st (fun t k => XS.iloadN X3.here hx rfl (hb hby own_d_prog_14_method_3_14) rfl k) ?_
    show own_E p e below _ T3 (mkF m 15 #[rv a1, iv p1, iv (-2)] [.int (-2)])
    refine own_st (fun t k => XS.ifYes X3.here hx rfl (pc0 := 15) (pc' := 27) rfl (hb hby own_d_prog_14_method_3_15) rfl (by decide) (by decide) (by decide) k) ?_
    show own_E p e below _ T3 (mkF m 27 #[rv a1, iv p1, iv (-2)] [])
    refine own_st (fun t k => XS.iconst X3.here hx rfl (hb hby own_d_prog_14_method_3_27) k) ?_
    show own_E p e below _ T3 (mkF m 28 #[rv a1, iv p1, iv (-2)] [.int 0])
    refine own_retI X3 hx Bd.notSynchronized Bd.returns (hb hby own_d_prog_14_method_3_28) (by decide) (by decide) ?_
    exact ⟨(Or.inl ⟨rfl, ha3_0⟩), e3, rfl⟩
  · refine own_st st3 ?_
    show own_E p e below _ T3 (mkF m 13 #[rv a1, iv p1, .unset] [.int (-1)])
    refine own_st (fun t k => XS.istoreN X3.here hx rfl (hb hby own_d_prog_14_method_3_13) rfl (l' := #[rv a1, iv p1, iv (-1)]) rfl k) ?_
    show own_E p e below _ T3 (mkF m 14 #[rv a1, iv p1, iv (-1)] [])
    refine own_st (fun t k => XS.iloadN X3.here hx rfl (hb hby own_d_prog_14_method_3_14) rfl k) ?_
    show own_E p e below _ T3 (mkF m 15 #[rv a1, iv p1, iv (-1)] [.int (-1)])
    refine own_st (fun t k => XS.ifYes X3.here hx rfl (pc0 := 15) (pc' := 27) rfl (hb hby own_d_prog_14_method_3_15) rfl (by decide) (by decide) (by decide) k) ?_
    show own_E p e below _ T3 (mkF m 27 #[rv a1, iv p1, iv (-1)] [])
    refine own_st (fun t k => XS.iconst X3.here hx rfl (hb hby own_d_prog_14_method_3_27) k) ?_
    show own_E p e below _ T3 (mkF m 28 #[rv a1, iv p1, iv (-1)] [.int 0])
    refine own_retI X3 hx Bd.notSynchronized Bd.returns (hb hby own_d_prog_14_method_3_28) (by decide) (by decide) ?_
    exact ⟨(Or.inr (Or.inl ⟨rfl, ha3_0, ha3_1⟩)), e3, rfl⟩
  · refine own_st st3 ?_
    show own_E p e below _ T3 (mkF m 13 #[rv a1, iv p1, .unset] [.int 0])
    refine own_st (fun t k => XS.istoreN X3.here hx rfl (hb hby own_d_prog_14_method_3_13) rfl (l' := #[rv a1, iv p1, iv 0]) rfl k) ?_
    show own_E p e below _ T3 (mkF m 14 #[rv a1, iv p1, iv 0] [])
    refine own_st (fun t k => XS.iloadN X3.here hx rfl (hb hby own_d_prog_14_method_3_14) rfl k) ?_
    show own_E p e below _ T3 (mkF m 15 #[rv a1, iv p1, iv 0] [.int 0])
    refine own_st (fun t k => XS.ifNo X3.here hx rfl (hb hby own_d_prog_14_method_3_15) rfl (by decide) k) ?_
    show own_E p e below _ T3 (mkF m 18 #[rv a1, iv p1, iv 0] [])
    refine own_st (fun t k => XS.aloadN X3.here hx rfl (hb hby own_d_prog_14_method_3_18) rfl rfl k) ?_
    show own_E p e below _ T3 (mkF m 19 #[rv a1, iv p1, iv 0] [.ref a1])
    obtain ⟨T4, X4, e4, st4⟩ := getF X3 hx hZ hown (host := "") (Or.inl (own_w hw 13 rfl)) Via.refl e3 F_frequencies_a1 (g := (mkF m 19 #[rv a1, iv p1, iv 0] [.ref a1])) rfl rfl (hb hby own_d_prog_14_method_3_19)
    refine own_st st4 ?_
    show own_E p e below _ T4 (mkF m 22 #[rv a1, iv p1, iv 0] [.ref a3])
    refine own_st (fun t k => XS.iloadN X4.here hx rfl (hb hby own_d_prog_14_method_3_22) rfl k) ?_
    show own_E p e below _ T4 (mkF m 23 #[rv a1, iv p1, iv 0] [.int 0, .ref a3])
    refine own_st (own_ald X4 hx hZ e4 V_a3 (j := (0 : Int32)) ⟨by decide, by decide⟩ (v := (.int eb0)) rfl (g := (mkF m 23 #[rv a1, iv p1, iv 0] [.int 0, .ref a3])) rfl rfl (hb hby own_d_prog_14_method_3_23)) ?_
    show own_E p e below _ T4 (mkF m 24 #[rv a1, iv p1, iv 0] [.int eb0])
    refine own_st (fun t k => XS.goto X4.here hx rfl (pc0 := 24) (pc' := 28) rfl (hb hby own_d_prog_14_method_3_24) (by decide) (by decide) k) ?_
    show own_E p e below _ T4 (mkF m 28 #[rv a1, iv p1, iv 0] [.int eb0])
    refine own_retI X4 hx Bd.notSynchronized Bd.returns (hb hby own_d_prog_14_method_3_28) (by decide) (by decide) ?_
    exact ⟨(Or.inr (Or.inr ⟨rfl, ha3_0, ha3_1⟩)), e4, rfl⟩
def own_range2_Q  (h0 : Heap) (v : Option Value) (h : Heap) (L : List Loc) : Prop := ((v = none)) ∧ h = h0 ∧ L = []
theorem own_range2_ef (m : MethodId)  : entryFrame m #[(.int (2 : Int32)), (.int (0 : Int32)), (.int (2 : Int32))] 3 = mkF m 0 #[.val (.int (2 : Int32)), .val (.int (0 : Int32)), .val (.int (2 : Int32))] [] := by first | (simp [entryFrame, mkF, argsToLocals, Value.category]; done) | rfl
set_option maxRecDepth 65536 in
set_option maxHeartbeats 40000000 in
theorem own_range2 (l : Launch) (Z : State) (a0 : Array Value) (hw : ∀ d ∈ tables_1, d.before a0 Z = true) (ws : List Jvm.Cond)  (h0 : Heap) (n0 : Nat) (Z0 : n0 ≤ h0.size)  :
    MetFree l own_y5 (head1 (Jvm.Cond.code own_y5 jdk_65_method_30_code 3 none :: ws) ({ frames := 0, cells := 0, slots := 0, locals := 0 } : Room)) (fun a U => a = #[(.int (2 : Int32)), (.int (0 : Int32)), (.int (2 : Int32))] ∧ Z.Warmed39 U.vm ∧ U.heap = h0) (fun _ _ _ _ _ => True) (fun _ U o U' => ∃ v L, o = .returned v ∧ own_range2_Q  h0 v U'.heap L ∧ FrameEnd U o U' L ({ frames := 0, cells := 0, slots := 0, locals := 0 } : Room).cells ({ frames := 0, cells := 0, slots := 0, locals := 0 } : Room).slots) := by
  refine MetFree.of_bodySF (plainFor_of_name own_pn_Arrays) hisR ?_
  intro p e s m args below meth c s₁ Bd hml0 hP hK
  obtain ⟨rfl, hZ, hh⟩ := hP
  have hx := Bd.exec
  have hby := Bd.bytes
  have hml : c.maxLocals = 3 := hml0
  have hown : s.vm.findClass "java/util/Arrays" = some m.cls := findClass_of_methodNamed Bd.named
  have hnm := (name_of_methodNamed Bd.named Bd.method).1
  have X0 : Stand p l e ({ frames := 0, cells := 0, slots := 0, locals := 0 } : Room) s m #[(.int (2 : Int32)), (.int (0 : Int32)), (.int (2 : Int32))] below meth c s₁ [] 0 0 := Stand.of_body Bd
  have e0 : s₁.heap = h0 := by rw [← hh, Bd.state]; rfl
  show own_E p e below (own_K (own_range2_Q  h0) s ({ frames := 0, cells := 0, slots := 0, locals := 0 } : Room).cells ({ frames := 0, cells := 0, slots := 0, locals := 0 } : Room).slots) s₁ (entryFrame m #[(.int (2 : Int32)), (.int (0 : Int32)), (.int (2 : Int32))] 3)
  refine own_pre (own_range2_ef m ) ?_
  show own_E p e below _ s₁ (mkF m 0 #[iv 2, iv 0, iv 2] [])
  refine own_st (fun t k => XS.iloadN X0.here hx rfl (hb hby own_d_jdk_65_method_30_0) rfl k) ?_
  show own_E p e below _ s₁ (mkF m 1 #[iv 2, iv 0, iv 2] [.int 0])
  refine own_st (fun t k => XS.iloadN X0.here hx rfl (hb hby own_d_jdk_65_method_30_1) rfl k) ?_
  show own_E p e below _ s₁ (mkF m 2 #[iv 2, iv 0, iv 2] [.int 2, .int 0])
  refine own_st (fun t k => XS.icmpYes X0.here hx rfl (pc0 := 2) (pc' := 46) rfl (hb hby own_d_jdk_65_method_30_2) rfl (by decide) (by decide) (by decide) k) ?_
  show own_E p e below _ s₁ (mkF m 46 #[iv 2, iv 0, iv 2] [])
  refine own_st (fun t k => XS.iloadN X0.here hx rfl (hb hby own_d_jdk_65_method_30_46) rfl k) ?_
  show own_E p e below _ s₁ (mkF m 47 #[iv 2, iv 0, iv 2] [.int 0])
  refine own_st (fun t k => XS.ifYes X0.here hx rfl (pc0 := 47) (pc' := 59) rfl (hb hby own_d_jdk_65_method_30_47) rfl (by decide) (by decide) (by decide) k) ?_
  show own_E p e below _ s₁ (mkF m 59 #[iv 2, iv 0, iv 2] [])
  refine own_st (fun t k => XS.iloadN X0.here hx rfl (hb hby own_d_jdk_65_method_30_59) rfl k) ?_
  show own_E p e below _ s₁ (mkF m 60 #[iv 2, iv 0, iv 2] [.int 2])
  refine own_st (fun t k => XS.iloadN X0.here hx rfl (hb hby own_d_jdk_65_method_30_60) rfl k) ?_
  show own_E p e below _ s₁ (mkF m 61 #[iv 2, iv 0, iv 2] [.int 2, .int 2])
  refine own_st (fun t k => XS.icmpYes X0.here hx rfl (pc0 := 61) (pc' := 73) rfl (hb hby own_d_jdk_65_method_30_61) rfl (by decide) (by decide) (by decide) k) ?_
  show own_E p e below _ s₁ (mkF m 73 #[iv 2, iv 0, iv 2] [])
  refine own_retV X0 hx Bd.notSynchronized Bd.returns (hb hby own_d_jdk_65_method_30_73) (by decide) (by decide) ?_
  exact ⟨rfl, e0, rfl⟩
def own_bs0_2_Q (a1 : Addr) (kc1 : ClassId) (p1 : Int32) (ea0 : Int32) (ea1 : Int32) (h0 : Heap) (v : Option Value) (h : Heap) (L : List Loc) : Prop := ((v = some (.int (-3 : Int32)) ∧ ea0 < p1 ∧ ea1 < p1) ∨ (v = some (.int (-2 : Int32)) ∧ ea0 < p1 ∧ ¬ (ea1 < p1) ∧ p1 < ea1) ∨ (v = some (.int (1 : Int32)) ∧ ea0 < p1 ∧ ¬ (ea1 < p1) ∧ ¬ (p1 < ea1)) ∨ (v = some (.int (-1 : Int32)) ∧ ¬ (ea0 < p1) ∧ p1 < ea0) ∨ (v = some (.int (0 : Int32)) ∧ ¬ (ea0 < p1) ∧ ¬ (p1 < ea0))) ∧ h = h0 ∧ L = []
theorem own_bs0_2_ef (m : MethodId) (a1 : Addr) (kc1 : ClassId) (p1 : Int32) (ea0 : Int32) (ea1 : Int32) : entryFrame m #[(.ref a1), (.int (0 : Int32)), (.int (2 : Int32)), (.int p1)] 8 = mkF m 0 #[.val (.ref a1), .val (.int (0 : Int32)), .val (.int (2 : Int32)), .val (.int p1), .unset, .unset, .unset, .unset] [] := by first | (simp [entryFrame, mkF, argsToLocals, Value.category]; done) | rfl
set_option maxRecDepth 65536 in
set_option maxHeartbeats 40000000 in
theorem own_bs0_2 (l : Launch) (Z : State) (a0 : Array Value) (hw : ∀ d ∈ tables_1, d.before a0 Z = true) (ws : List Jvm.Cond) (a1 : Addr) (kc1 : ClassId) (p1 : Int32) (ea0 : Int32) (ea1 : Int32) (h0 : Heap) (n0 : Nat) (Z0 : n0 ≤ h0.size) (V_a1 : Arv Z h0 a1 kc1 .int (2 : Int32) [(.int ea0), (.int ea1)] (.int (0 : Int32))) :
    MetFree l own_y6 (head1 (Jvm.Cond.code own_y6 jdk_65_method_59_code 8 (some .int) :: ws) ({ frames := 0, cells := 0, slots := 0, locals := 0 } : Room)) (fun a U => a = #[(.ref a1), (.int (0 : Int32)), (.int (2 : Int32)), (.int p1)] ∧ Z.Warmed39 U.vm ∧ U.heap = h0) (fun _ _ _ _ _ => True) (fun _ U o U' => ∃ v L, o = .returned v ∧ own_bs0_2_Q a1 kc1 p1 ea0 ea1 h0 v U'.heap L ∧ FrameEnd U o U' L ({ frames := 0, cells := 0, slots := 0, locals := 0 } : Room).cells ({ frames := 0, cells := 0, slots := 0, locals := 0 } : Room).slots) := by
  refine MetFree.of_bodySF (plainFor_of_name own_pn_Arrays) hisR ?_
  intro p e s m args below meth c s₁ Bd hml0 hP hK
  obtain ⟨rfl, hZ, hh⟩ := hP
  have hx := Bd.exec
  have hby := Bd.bytes
  have hml : c.maxLocals = 8 := hml0
  have hown : s.vm.findClass "java/util/Arrays" = some m.cls := findClass_of_methodNamed Bd.named
  have hnm := (name_of_methodNamed Bd.named Bd.method).1
  have X0 : Stand p l e ({ frames := 0, cells := 0, slots := 0, locals := 0 } : Room) s m #[(.ref a1), (.int (0 : Int32)), (.int (2 : Int32)), (.int p1)] below meth c s₁ [] 0 0 := Stand.of_body Bd
  have e0 : s₁.heap = h0 := by rw [← hh, Bd.state]; rfl
  show own_E p e below (own_K (own_bs0_2_Q a1 kc1 p1 ea0 ea1 h0) s ({ frames := 0, cells := 0, slots := 0, locals := 0 } : Room).cells ({ frames := 0, cells := 0, slots := 0, locals := 0 } : Room).slots) s₁ (entryFrame m #[(.ref a1), (.int (0 : Int32)), (.int (2 : Int32)), (.int p1)] 8)
  refine own_pre (own_bs0_2_ef m a1 kc1 p1 ea0 ea1) ?_
  show own_E p e below _ s₁ (mkF m 0 #[rv a1, iv 0, iv 2, iv p1, .unset, .unset, .unset, .unset] [])
  refine own_st (fun t k => XS.iloadN X0.here hx rfl (hb hby own_d_jdk_65_method_59_0) rfl k) ?_
  show own_E p e below _ s₁ (mkF m 1 #[rv a1, iv 0, iv 2, iv p1, .unset, .unset, .unset, .unset] [.int 0])
  refine own_st (fun t k => XS.istore X0.here hx rfl (hb hby own_d_jdk_65_method_59_1) rfl (l' := #[rv a1, iv 0, iv 2, iv p1, iv 0, .unset, .unset, .unset]) rfl k) ?_
  show own_E p e below _ s₁ (mkF m 3 #[rv a1, iv 0, iv 2, iv p1, iv 0, .unset, .unset, .unset] [])
  refine own_st (fun t k => XS.iloadN X0.here hx rfl (hb hby own_d_jdk_65_method_59_3) rfl k) ?_
  show own_E p e below _ s₁ (mkF m 4 #[rv a1, iv 0, iv 2, iv p1, iv 0, .unset, .unset, .unset] [.int 2])
  refine own_st (fun t k => XS.iconst X0.here hx rfl (hb hby own_d_jdk_65_method_59_4) k) ?_
  show own_E p e below _ s₁ (mkF m 5 #[rv a1, iv 0, iv 2, iv p1, iv 0, .unset, .unset, .unset] [.int 1, .int 2])
  refine own_st (fun t k => XS.isub X0.here hx rfl (hb hby own_d_jdk_65_method_59_5) rfl k) ?_
  show own_E p e below _ s₁ (mkF m 6 #[rv a1, iv 0, iv 2, iv p1, iv 0, .unset, .unset, .unset] [.int 1])
  refine own_st (fun t k => XS.istore X0.here hx rfl (hb hby own_d_jdk_65_method_59_6) rfl (l' := #[rv a1, iv 0, iv 2, iv p1, iv 0, iv 1, .unset, .unset]) rfl k) ?_
  show own_E p e below _ s₁ (mkF m 8 #[rv a1, iv 0, iv 2, iv p1, iv 0, iv 1, .unset, .unset] [])
  refine own_st (fun t k => XS.iload X0.here hx rfl (hb hby own_d_jdk_65_method_59_8) rfl k) ?_
  show own_E p e below _ s₁ (mkF m 10 #[rv a1, iv 0, iv 2, iv p1, iv 0, iv 1, .unset, .unset] [.int 0])
  refine own_st (fun t k => XS.iload X0.here hx rfl (hb hby own_d_jdk_65_method_59_10) rfl k) ?_
  show own_E p e below _ s₁ (mkF m 12 #[rv a1, iv 0, iv 2, iv p1, iv 0, iv 1, .unset, .unset] [.int 1, .int 0])
  refine own_st (fun t k => XS.icmpNo X0.here hx rfl (hb hby own_d_jdk_65_method_59_12) rfl (by decide) k) ?_
  show own_E p e below _ s₁ (mkF m 15 #[rv a1, iv 0, iv 2, iv p1, iv 0, iv 1, .unset, .unset] [])
  refine own_st (fun t k => XS.iload X0.here hx rfl (hb hby own_d_jdk_65_method_59_15) rfl k) ?_
  show own_E p e below _ s₁ (mkF m 17 #[rv a1, iv 0, iv 2, iv p1, iv 0, iv 1, .unset, .unset] [.int 0])
  refine own_st (fun t k => XS.iload X0.here hx rfl (hb hby own_d_jdk_65_method_59_17) rfl k) ?_
  show own_E p e below _ s₁ (mkF m 19 #[rv a1, iv 0, iv 2, iv p1, iv 0, iv 1, .unset, .unset] [.int 1, .int 0])
  refine own_st (fun t k => XS.iadd X0.here hx rfl (hb hby own_d_jdk_65_method_59_19) rfl k) ?_
  show own_E p e below _ s₁ (mkF m 20 #[rv a1, iv 0, iv 2, iv p1, iv 0, iv 1, .unset, .unset] [.int 1])
  refine own_st (fun t k => XS.iconst X0.here hx rfl (hb hby own_d_jdk_65_method_59_20) k) ?_
  show own_E p e below _ s₁ (mkF m 21 #[rv a1, iv 0, iv 2, iv p1, iv 0, iv 1, .unset, .unset] [.int 1, .int 1])
  refine own_st (fun t k => XS.iushr X0.here hx rfl (hb hby own_d_jdk_65_method_59_21) rfl k) ?_
  show own_E p e below _ s₁ (mkF m 22 #[rv a1, iv 0, iv 2, iv p1, iv 0, iv 1, .unset, .unset] [.int 0])
  refine own_st (fun t k => XS.istore X0.here hx rfl (hb hby own_d_jdk_65_method_59_22) rfl (l' := #[rv a1, iv 0, iv 2, iv p1, iv 0, iv 1, iv 0, .unset]) rfl k) ?_
  show own_E p e below _ s₁ (mkF m 24 #[rv a1, iv 0, iv 2, iv p1, iv 0, iv 1, iv 0, .unset] [])
  refine own_st (fun t k => XS.aloadN X0.here hx rfl (hb hby own_d_jdk_65_method_59_24) rfl rfl k) ?_
  show own_E p e below _ s₁ (mkF m 25 #[rv a1, iv 0, iv 2, iv p1, iv 0, iv 1, iv 0, .unset] [.ref a1])
  refine own_st (fun t k => XS.iload X0.here hx rfl (hb hby own_d_jdk_65_method_59_25) rfl k) ?_
  show own_E p e below _ s₁ (mkF m 27 #[rv a1, iv 0, iv 2, iv p1, iv 0, iv 1, iv 0, .unset] [.int 0, .ref a1])
  refine own_st (own_ald X0 hx hZ e0 V_a1 (j := (0 : Int32)) ⟨by decide, by decide⟩ (v := (.int ea0)) rfl (g := (mkF m 27 #[rv a1, iv 0, iv 2, iv p1, iv 0, iv 1, iv 0, .unset] [.int 0, .ref a1])) rfl rfl (hb hby own_d_jdk_65_method_59_27)) ?_
  show own_E p e below _ s₁ (mkF m 28 #[rv a1, iv 0, iv 2, iv p1, iv 0, iv 1, iv 0, .unset] [.int ea0])
  refine own_st (fun t k => XS.istore X0.here hx rfl (hb hby own_d_jdk_65_method_59_28) rfl (l' := #[rv a1, iv 0, iv 2, iv p1, iv 0, iv 1, iv 0, iv ea0]) rfl k) ?_
  show own_E p e below _ s₁ (mkF m 30 #[rv a1, iv 0, iv 2, iv p1, iv 0, iv 1, iv 0, iv ea0] [])
  refine own_st (fun t k => XS.iload X0.here hx rfl (hb hby own_d_jdk_65_method_59_30) rfl k) ?_
  show own_E p e below _ s₁ (mkF m 32 #[rv a1, iv 0, iv 2, iv p1, iv 0, iv 1, iv 0, iv ea0] [.int ea0])
  refine own_st (fun t k => XS.iloadN X0.here hx rfl (hb hby own_d_jdk_65_method_59_32) rfl k) ?_
  show own_E p e below _ s₁ (mkF m 33 #[rv a1, iv 0, iv 2, iv p1, iv 0, iv 1, iv 0, iv ea0] [.int p1, .int ea0])
  by_cases hc1 : ea0 < p1
  · refine own_st (fun t k => XS.icmpNo X0.here hx rfl (hb hby own_d_jdk_65_method_59_33) rfl (tlt hc1).2.1 k) ?_
    show own_E p e below _ s₁ (mkF m 36 #[rv a1, iv 0, iv 2, iv p1, iv 0, iv 1, iv 0, iv ea0] [])
    refine own_st (fun t k => XS.iload X0.here hx rfl (hb hby own_d_jdk_65_method_59_36) rfl k) ?_
    show own_E p e below _ s₁ (mkF m 38 #[rv a1, iv 0, iv 2, iv p1, iv 0, iv 1, iv 0, iv ea0] [.int 0])
    refine own_st (fun t k => XS.iconst X0.here hx rfl (hb hby own_d_jdk_65_method_59_38) k) ?_
    show own_E p e below _ s₁ (mkF m 39 #[rv a1, iv 0, iv 2, iv p1, iv 0, iv 1, iv 0, iv ea0] [.int 1, .int 0])
    refine own_st (fun t k => XS.iadd X0.here hx rfl (hb hby own_d_jdk_65_method_59_39) rfl k) ?_
    show own_E p e below _ s₁ (mkF m 40 #[rv a1, iv 0, iv 2, iv p1, iv 0, iv 1, iv 0, iv ea0] [.int 1])
    refine own_st (fun t k => XS.istore X0.here hx rfl (hb hby own_d_jdk_65_method_59_40) rfl (l' := #[rv a1, iv 0, iv 2, iv p1, iv 1, iv 1, iv 0, iv ea0]) rfl k) ?_
    show own_E p e below _ s₁ (mkF m 42 #[rv a1, iv 0, iv 2, iv p1, iv 1, iv 1, iv 0, iv ea0] [])
    refine own_st (fun t k => XS.goto X0.here hx rfl (pc0 := 42) (pc' := 63) rfl (hb hby own_d_jdk_65_method_59_42) (by decide) (by decide) k) ?_
    show own_E p e below _ s₁ (mkF m 63 #[rv a1, iv 0, iv 2, iv p1, iv 1, iv 1, iv 0, iv ea0] [])
    refine own_st (fun t k => XS.goto X0.here hx rfl (pc0 := 63) (pc' := 8) rfl (hb hby own_d_jdk_65_method_59_63) (by decide) (by decide) k) ?_
    show own_E p e below _ s₁ (mkF m 8 #[rv a1, iv 0, iv 2, iv p1, iv 1, iv 1, iv 0, iv ea0] [])
    refine own_st (fun t k => XS.iload X0.here hx rfl (hb hby own_d_jdk_65_method_59_8) rfl k) ?_
    show own_E p e below _ s₁ (mkF m 10 #[rv a1, iv 0, iv 2, iv p1, iv 1, iv 1, iv 0, iv ea0] [.int 1])
    refine own_st (fun t k => XS.iload X0.here hx rfl (hb hby own_d_jdk_65_method_59_10) rfl k) ?_
    show own_E p e below _ s₁ (mkF m 12 #[rv a1, iv 0, iv 2, iv p1, iv 1, iv 1, iv 0, iv ea0] [.int 1, .int 1])
    refine own_st (fun t k => XS.icmpNo X0.here hx rfl (hb hby own_d_jdk_65_method_59_12) rfl (by decide) k) ?_
    show own_E p e below _ s₁ (mkF m 15 #[rv a1, iv 0, iv 2, iv p1, iv 1, iv 1, iv 0, iv ea0] [])
    refine own_st (fun t k => XS.iload X0.here hx rfl (hb hby own_d_jdk_65_method_59_15) rfl k) ?_
    show own_E p e below _ s₁ (mkF m 17 #[rv a1, iv 0, iv 2, iv p1, iv 1, iv 1, iv 0, iv ea0] [.int 1])
    refine own_st (fun t k => XS.iload X0.here hx rfl (hb hby own_d_jdk_65_method_59_17) rfl k) ?_
    show own_E p e below _ s₁ (mkF m 19 #[rv a1, iv 0, iv 2, iv p1, iv 1, iv 1, iv 0, iv ea0] [.int 1, .int 1])
    refine own_st (fun t k => XS.iadd X0.here hx rfl (hb hby own_d_jdk_65_method_59_19) rfl k) ?_
    show own_E p e below _ s₁ (mkF m 20 #[rv a1, iv 0, iv 2, iv p1, iv 1, iv 1, iv 0, iv ea0] [.int 2])
    refine own_st (fun t k => XS.iconst X0.here hx rfl (hb hby own_d_jdk_65_method_59_20) k) ?_
    show own_E p e below _ s₁ (mkF m 21 #[rv a1, iv 0, iv 2, iv p1, iv 1, iv 1, iv 0, iv ea0] [.int 1, .int 2])
    refine own_st (fun t k => XS.iushr X0.here hx rfl (hb hby own_d_jdk_65_method_59_21) rfl k) ?_
    show own_E p e below _ s₁ (mkF m 22 #[rv a1, iv 0, iv 2, iv p1, iv 1, iv 1, iv 0, iv ea0] [.int 1])
    refine own_st (fun t k => XS.istore X0.here hx rfl (hb hby own_d_jdk_65_method_59_22) rfl (l' := #[rv a1, iv 0, iv 2, iv p1, iv 1, iv 1, iv 1, iv ea0]) rfl k) ?_
    show own_E p e below _ s₁ (mkF m 24 #[rv a1, iv 0, iv 2, iv p1, iv 1, iv 1, iv 1, iv ea0] [])
    refine own_st (fun t k => XS.aloadN X0.here hx rfl (hb hby own_d_jdk_65_method_59_24) rfl rfl k) ?_
    show own_E p e below _ s₁ (mkF m 25 #[rv a1, iv 0, iv 2, iv p1, iv 1, iv 1, iv 1, iv ea0] [.ref a1])
    refine own_st (fun t k => XS.iload X0.here hx rfl (hb hby own_d_jdk_65_method_59_25) rfl k) ?_
    show own_E p e below _ s₁ (mkF m 27 #[rv a1, iv 0, iv 2, iv p1, iv 1, iv 1, iv 1, iv ea0] [.int 1, .ref a1])
    refine own_st (own_ald X0 hx hZ e0 V_a1 (j := (1 : Int32)) ⟨by decide, by decide⟩ (v := (.int ea1)) rfl (g := (mkF m 27 #[rv a1, iv 0, iv 2, iv p1, iv 1, iv 1, iv 1, iv ea0] [.int 1, .ref a1])) rfl rfl (hb hby own_d_jdk_65_method_59_27)) ?_
    show own_E p e below _ s₁ (mkF m 28 #[rv a1, iv 0, iv 2, iv p1, iv 1, iv 1, iv 1, iv ea0] [.int ea1])
    refine own_st (fun t k => XS.istore X0.here hx rfl (hb hby own_d_jdk_65_method_59_28) rfl (l' := #[rv a1, iv 0, iv 2, iv p1, iv 1, iv 1, iv 1, iv ea1]) rfl k) ?_
    show own_E p e below _ s₁ (mkF m 30 #[rv a1, iv 0, iv 2, iv p1, iv 1, iv 1, iv 1, iv ea1] [])
    refine own_st (fun t k => XS.iload X0.here hx rfl (hb hby own_d_jdk_65_method_59_30) rfl k) ?_
    show own_E p e below _ s₁ (mkF m 32 #[rv a1, iv 0, iv 2, iv p1, iv 1, iv 1, iv 1, iv ea1] [.int ea1])
    refine own_st (fun t k => XS.iloadN X0.here hx rfl (hb hby own_d_jdk_65_method_59_32) rfl k) ?_
    show own_E p e below _ s₁ (mkF m 33 #[rv a1, iv 0, iv 2, iv p1, iv 1, iv 1, iv 1, iv ea1] [.int p1, .int ea1])
    by_cases hc2 : ea1 < p1
    · refine own_st (fun t k => XS.icmpNo X0.here hx rfl (hb hby own_d_jdk_65_method_59_33) rfl (tlt hc2).2.1 k) ?_
      show own_E p e below _ s₁ (mkF m 36 #[rv a1, iv 0, iv 2, iv p1, iv 1, iv 1, iv 1, iv ea1] [])
      refine own_st (fun t k => XS.iload X0.here hx rfl (hb hby own_d_jdk_65_method_59_36) rfl k) ?_
      show own_E p e below _ s₁ (mkF m 38 #[rv a1, iv 0, iv 2, iv p1, iv 1, iv 1, iv 1, iv ea1] [.int 1])
      refine own_st (fun t k => XS.iconst X0.here hx rfl (hb hby own_d_jdk_65_method_59_38) k) ?_
      show own_E p e below _ s₁ (mkF m 39 #[rv a1, iv 0, iv 2, iv p1, iv 1, iv 1, iv 1, iv ea1] [.int 1, .int 1])
      refine own_st (fun t k => XS.iadd X0.here hx rfl (hb hby own_d_jdk_65_method_59_39) rfl k) ?_
      show own_E p e below _ s₁ (mkF m 40 #[rv a1, iv 0, iv 2, iv p1, iv 1, iv 1, iv 1, iv ea1] [.int 2])
      refine own_st (fun t k => XS.istore X0.here hx rfl (hb hby own_d_jdk_65_method_59_40) rfl (l' := #[rv a1, iv 0, iv 2, iv p1, iv 2, iv 1, iv 1, iv ea1]) rfl k) ?_
      show own_E p e below _ s₁ (mkF m 42 #[rv a1, iv 0, iv 2, iv p1, iv 2, iv 1, iv 1, iv ea1] [])
      refine own_st (fun t k => XS.goto X0.here hx rfl (pc0 := 42) (pc' := 63) rfl (hb hby own_d_jdk_65_method_59_42) (by decide) (by decide) k) ?_
      show own_E p e below _ s₁ (mkF m 63 #[rv a1, iv 0, iv 2, iv p1, iv 2, iv 1, iv 1, iv ea1] [])
      refine own_st (fun t k => XS.goto X0.here hx rfl (pc0 := 63) (pc' := 8) rfl (hb hby own_d_jdk_65_method_59_63) (by decide) (by decide) k) ?_
      show own_E p e below _ s₁ (mkF m 8 #[rv a1, iv 0, iv 2, iv p1, iv 2, iv 1, iv 1, iv ea1] [])
      refine own_st (fun t k => XS.iload X0.here hx rfl (hb hby own_d_jdk_65_method_59_8) rfl k) ?_
      show own_E p e below _ s₁ (mkF m 10 #[rv a1, iv 0, iv 2, iv p1, iv 2, iv 1, iv 1, iv ea1] [.int 2])
      refine own_st (fun t k => XS.iload X0.here hx rfl (hb hby own_d_jdk_65_method_59_10) rfl k) ?_
      show own_E p e below _ s₁ (mkF m 12 #[rv a1, iv 0, iv 2, iv p1, iv 2, iv 1, iv 1, iv ea1] [.int 1, .int 2])
      refine own_st (fun t k => XS.icmpYes X0.here hx rfl (pc0 := 12) (pc' := 66) rfl (hb hby own_d_jdk_65_method_59_12) rfl (by decide) (by decide) (by decide) k) ?_
      show own_E p e below _ s₁ (mkF m 66 #[rv a1, iv 0, iv 2, iv p1, iv 2, iv 1, iv 1, iv ea1] [])
      refine own_st (fun t k => XS.iload X0.here hx rfl (hb hby own_d_jdk_65_method_59_66) rfl k) ?_
      show own_E p e below _ s₁ (mkF m 68 #[rv a1, iv 0, iv 2, iv p1, iv 2, iv 1, iv 1, iv ea1] [.int 2])
      refine own_st (fun t k => XS.iconst X0.here hx rfl (hb hby own_d_jdk_65_method_59_68) k) ?_
      show own_E p e below _ s₁ (mkF m 69 #[rv a1, iv 0, iv 2, iv p1, iv 2, iv 1, iv 1, iv ea1] [.int 1, .int 2])
      refine own_st (fun t k => XS.iadd X0.here hx rfl (hb hby own_d_jdk_65_method_59_69) rfl k) ?_
      show own_E p e below _ s₁ (mkF m 70 #[rv a1, iv 0, iv 2, iv p1, iv 2, iv 1, iv 1, iv ea1] [.int 3])
      refine own_st (fun t k => XS.ineg X0.here hx rfl (hb hby own_d_jdk_65_method_59_70) rfl k) ?_
      show own_E p e below _ s₁ (mkF m 71 #[rv a1, iv 0, iv 2, iv p1, iv 2, iv 1, iv 1, iv ea1] [.int (-3)])
      refine own_retI X0 hx Bd.notSynchronized Bd.returns (hb hby own_d_jdk_65_method_59_71) (by decide) (by decide) ?_
      exact ⟨(Or.inl ⟨rfl, hc1, hc2⟩), e0, rfl⟩
    · refine own_st (fun t k => XS.icmpYes X0.here hx rfl (pc0 := 33) (pc' := 45) rfl (hb hby own_d_jdk_65_method_59_33) rfl (flt hc2).2.1 (by decide) (by decide) k) ?_
      show own_E p e below _ s₁ (mkF m 45 #[rv a1, iv 0, iv 2, iv p1, iv 1, iv 1, iv 1, iv ea1] [])
      refine own_st (fun t k => XS.iload X0.here hx rfl (hb hby own_d_jdk_65_method_59_45) rfl k) ?_
      show own_E p e below _ s₁ (mkF m 47 #[rv a1, iv 0, iv 2, iv p1, iv 1, iv 1, iv 1, iv ea1] [.int ea1])
      refine own_st (fun t k => XS.iloadN X0.here hx rfl (hb hby own_d_jdk_65_method_59_47) rfl k) ?_
      show own_E p e below _ s₁ (mkF m 48 #[rv a1, iv 0, iv 2, iv p1, iv 1, iv 1, iv 1, iv ea1] [.int p1, .int ea1])
      by_cases hc3 : p1 < ea1
      · refine own_st (fun t k => XS.icmpNo X0.here hx rfl (hb hby own_d_jdk_65_method_59_48) rfl (tlt hc3).2.2.2 k) ?_
        show own_E p e below _ s₁ (mkF m 51 #[rv a1, iv 0, iv 2, iv p1, iv 1, iv 1, iv 1, iv ea1] [])
        refine own_st (fun t k => XS.iload X0.here hx rfl (hb hby own_d_jdk_65_method_59_51) rfl k) ?_
        show own_E p e below _ s₁ (mkF m 53 #[rv a1, iv 0, iv 2, iv p1, iv 1, iv 1, iv 1, iv ea1] [.int 1])
        refine own_st (fun t k => XS.iconst X0.here hx rfl (hb hby own_d_jdk_65_method_59_53) k) ?_
        show own_E p e below _ s₁ (mkF m 54 #[rv a1, iv 0, iv 2, iv p1, iv 1, iv 1, iv 1, iv ea1] [.int 1, .int 1])
        refine own_st (fun t k => XS.isub X0.here hx rfl (hb hby own_d_jdk_65_method_59_54) rfl k) ?_
        show own_E p e below _ s₁ (mkF m 55 #[rv a1, iv 0, iv 2, iv p1, iv 1, iv 1, iv 1, iv ea1] [.int 0])
        refine own_st (fun t k => XS.istore X0.here hx rfl (hb hby own_d_jdk_65_method_59_55) rfl (l' := #[rv a1, iv 0, iv 2, iv p1, iv 1, iv 0, iv 1, iv ea1]) rfl k) ?_
        show own_E p e below _ s₁ (mkF m 57 #[rv a1, iv 0, iv 2, iv p1, iv 1, iv 0, iv 1, iv ea1] [])
        refine own_st (fun t k => XS.goto X0.here hx rfl (pc0 := 57) (pc' := 63) rfl (hb hby own_d_jdk_65_method_59_57) (by decide) (by decide) k) ?_
        show own_E p e below _ s₁ (mkF m 63 #[rv a1, iv 0, iv 2, iv p1, iv 1, iv 0, iv 1, iv ea1] [])
        refine own_st (fun t k => XS.goto X0.here hx rfl (pc0 := 63) (pc' := 8) rfl (hb hby own_d_jdk_65_method_59_63) (by decide) (by decide) k) ?_
        show own_E p e below _ s₁ (mkF m 8 #[rv a1, iv 0, iv 2, iv p1, iv 1, iv 0, iv 1, iv ea1] [])
        refine own_st (fun t k => XS.iload X0.here hx rfl (hb hby own_d_jdk_65_method_59_8) rfl k) ?_
        show own_E p e below _ s₁ (mkF m 10 #[rv a1, iv 0, iv 2, iv p1, iv 1, iv 0, iv 1, iv ea1] [.int 1])
        refine own_st (fun t k => XS.iload X0.here hx rfl (hb hby own_d_jdk_65_method_59_10) rfl k) ?_
        show own_E p e below _ s₁ (mkF m 12 #[rv a1, iv 0, iv 2, iv p1, iv 1, iv 0, iv 1, iv ea1] [.int 0, .int 1])
        refine own_st (fun t k => XS.icmpYes X0.here hx rfl (pc0 := 12) (pc' := 66) rfl (hb hby own_d_jdk_65_method_59_12) rfl (by decide) (by decide) (by decide) k) ?_
        show own_E p e below _ s₁ (mkF m 66 #[rv a1, iv 0, iv 2, iv p1, iv 1, iv 0, iv 1, iv ea1] [])
        refine own_st (fun t k => XS.iload X0.here hx rfl (hb hby own_d_jdk_65_method_59_66) rfl k) ?_
        show own_E p e below _ s₁ (mkF m 68 #[rv a1, iv 0, iv 2, iv p1, iv 1, iv 0, iv 1, iv ea1] [.int 1])
        refine own_st (fun t k => XS.iconst X0.here hx rfl (hb hby own_d_jdk_65_method_59_68) k) ?_
        show own_E p e below _ s₁ (mkF m 69 #[rv a1, iv 0, iv 2, iv p1, iv 1, iv 0, iv 1, iv ea1] [.int 1, .int 1])
        refine own_st (fun t k => XS.iadd X0.here hx rfl (hb hby own_d_jdk_65_method_59_69) rfl k) ?_
        show own_E p e below _ s₁ (mkF m 70 #[rv a1, iv 0, iv 2, iv p1, iv 1, iv 0, iv 1, iv ea1] [.int 2])
        refine own_st (fun t k => XS.ineg X0.here hx rfl (hb hby own_d_jdk_65_method_59_70) rfl k) ?_
        show own_E p e below _ s₁ (mkF m 71 #[rv a1, iv 0, iv 2, iv p1, iv 1, iv 0, iv 1, iv ea1] [.int (-2)])
        refine own_retI X0 hx Bd.notSynchronized Bd.returns (hb hby own_d_jdk_65_method_59_71) (by decide) (by decide) ?_
        exact ⟨(Or.inr (Or.inl ⟨rfl, hc1, hc2, hc3⟩)), e0, rfl⟩
      · refine own_st (fun t k => XS.icmpYes X0.here hx rfl (pc0 := 48) (pc' := 60) rfl (hb hby own_d_jdk_65_method_59_48) rfl (flt hc3).2.2.2 (by decide) (by decide) k) ?_
        show own_E p e below _ s₁ (mkF m 60 #[rv a1, iv 0, iv 2, iv p1, iv 1, iv 1, iv 1, iv ea1] [])
        refine own_st (fun t k => XS.iload X0.here hx rfl (hb hby own_d_jdk_65_method_59_60) rfl k) ?_
        show own_E p e below _ s₁ (mkF m 62 #[rv a1, iv 0, iv 2, iv p1, iv 1, iv 1, iv 1, iv ea1] [.int 1])
        refine own_retI X0 hx Bd.notSynchronized Bd.returns (hb hby own_d_jdk_65_method_59_62) (by decide) (by decide) ?_
        exact ⟨(Or.inr (Or.inr (Or.inl ⟨rfl, hc1, hc2, hc3⟩))), e0, rfl⟩
  · refine own_st (fun t k => XS.icmpYes X0.here hx rfl (pc0 := 33) (pc' := 45) rfl (hb hby own_d_jdk_65_method_59_33) rfl (flt hc1).2.1 (by decide) (by decide) k) ?_
    show own_E p e below _ s₁ (mkF m 45 #[rv a1, iv 0, iv 2, iv p1, iv 0, iv 1, iv 0, iv ea0] [])
    refine own_st (fun t k => XS.iload X0.here hx rfl (hb hby own_d_jdk_65_method_59_45) rfl k) ?_
    show own_E p e below _ s₁ (mkF m 47 #[rv a1, iv 0, iv 2, iv p1, iv 0, iv 1, iv 0, iv ea0] [.int ea0])
    refine own_st (fun t k => XS.iloadN X0.here hx rfl (hb hby own_d_jdk_65_method_59_47) rfl k) ?_
    show own_E p e below _ s₁ (mkF m 48 #[rv a1, iv 0, iv 2, iv p1, iv 0, iv 1, iv 0, iv ea0] [.int p1, .int ea0])
    by_cases hc4 : p1 < ea0
    · refine own_st (fun t k => XS.icmpNo X0.here hx rfl (hb hby own_d_jdk_65_method_59_48) rfl (tlt hc4).2.2.2 k) ?_
      show own_E p e below _ s₁ (mkF m 51 #[rv a1, iv 0, iv 2, iv p1, iv 0, iv 1, iv 0, iv ea0] [])
      refine own_st (fun t k => XS.iload X0.here hx rfl (hb hby own_d_jdk_65_method_59_51) rfl k) ?_
      show own_E p e below _ s₁ (mkF m 53 #[rv a1, iv 0, iv 2, iv p1, iv 0, iv 1, iv 0, iv ea0] [.int 0])
      refine own_st (fun t k => XS.iconst X0.here hx rfl (hb hby own_d_jdk_65_method_59_53) k) ?_
      show own_E p e below _ s₁ (mkF m 54 #[rv a1, iv 0, iv 2, iv p1, iv 0, iv 1, iv 0, iv ea0] [.int 1, .int 0])
      refine own_st (fun t k => XS.isub X0.here hx rfl (hb hby own_d_jdk_65_method_59_54) rfl k) ?_
      show own_E p e below _ s₁ (mkF m 55 #[rv a1, iv 0, iv 2, iv p1, iv 0, iv 1, iv 0, iv ea0] [.int (-1)])
      refine own_st (fun t k => XS.istore X0.here hx rfl (hb hby own_d_jdk_65_method_59_55) rfl (l' := #[rv a1, iv 0, iv 2, iv p1, iv 0, iv (-1), iv 0, iv ea0]) rfl k) ?_
      show own_E p e below _ s₁ (mkF m 57 #[rv a1, iv 0, iv 2, iv p1, iv 0, iv (-1), iv 0, iv ea0] [])
      refine own_st (fun t k => XS.goto X0.here hx rfl (pc0 := 57) (pc' := 63) rfl (hb hby own_d_jdk_65_method_59_57) (by decide) (by decide) k) ?_
      show own_E p e below _ s₁ (mkF m 63 #[rv a1, iv 0, iv 2, iv p1, iv 0, iv (-1), iv 0, iv ea0] [])
      refine own_st (fun t k => XS.goto X0.here hx rfl (pc0 := 63) (pc' := 8) rfl (hb hby own_d_jdk_65_method_59_63) (by decide) (by decide) k) ?_
      show own_E p e below _ s₁ (mkF m 8 #[rv a1, iv 0, iv 2, iv p1, iv 0, iv (-1), iv 0, iv ea0] [])
      refine own_st (fun t k => XS.iload X0.here hx rfl (hb hby own_d_jdk_65_method_59_8) rfl k) ?_
      show own_E p e below _ s₁ (mkF m 10 #[rv a1, iv 0, iv 2, iv p1, iv 0, iv (-1), iv 0, iv ea0] [.int 0])
      refine own_st (fun t k => XS.iload X0.here hx rfl (hb hby own_d_jdk_65_method_59_10) rfl k) ?_
      show own_E p e below _ s₁ (mkF m 12 #[rv a1, iv 0, iv 2, iv p1, iv 0, iv (-1), iv 0, iv ea0] [.int (-1), .int 0])
      refine own_st (fun t k => XS.icmpYes X0.here hx rfl (pc0 := 12) (pc' := 66) rfl (hb hby own_d_jdk_65_method_59_12) rfl (by decide) (by decide) (by decide) k) ?_
      show own_E p e below _ s₁ (mkF m 66 #[rv a1, iv 0, iv 2, iv p1, iv 0, iv (-1), iv 0, iv ea0] [])
      refine own_st (fun t k => XS.iload X0.here hx rfl (hb hby own_d_jdk_65_method_59_66) rfl k) ?_
      show own_E p e below _ s₁ (mkF m 68 #[rv a1, iv 0, iv 2, iv p1, iv 0, iv (-1), iv 0, iv ea0] [.int 0])
      refine own_st (fun t k => XS.iconst X0.here hx rfl (hb hby own_d_jdk_65_method_59_68) k) ?_
      show own_E p e below _ s₁ (mkF m 69 #[rv a1, iv 0, iv 2, iv p1, iv 0, iv (-1), iv 0, iv ea0] [.int 1, .int 0])
      refine own_st (fun t k => XS.iadd X0.here hx rfl (hb hby own_d_jdk_65_method_59_69) rfl k) ?_
      show own_E p e below _ s₁ (mkF m 70 #[rv a1, iv 0, iv 2, iv p1, iv 0, iv (-1), iv 0, iv ea0] [.int 1])
      refine own_st (fun t k => XS.ineg X0.here hx rfl (hb hby own_d_jdk_65_method_59_70) rfl k) ?_
      show own_E p e below _ s₁ (mkF m 71 #[rv a1, iv 0, iv 2, iv p1, iv 0, iv (-1), iv 0, iv ea0] [.int (-1)])
      refine own_retI X0 hx Bd.notSynchronized Bd.returns (hb hby own_d_jdk_65_method_59_71) (by decide) (by decide) ?_
      exact ⟨(Or.inr (Or.inr (Or.inr (Or.inl ⟨rfl, hc1, hc4⟩)))), e0, rfl⟩
    · refine own_st (fun t k => XS.icmpYes X0.here hx rfl (pc0 := 48) (pc' := 60) rfl (hb hby own_d_jdk_65_method_59_48) rfl (flt hc4).2.2.2 (by decide) (by decide) k) ?_
      show own_E p e below _ s₁ (mkF m 60 #[rv a1, iv 0, iv 2, iv p1, iv 0, iv 1, iv 0, iv ea0] [])
      refine own_st (fun t k => XS.iload X0.here hx rfl (hb hby own_d_jdk_65_method_59_60) rfl k) ?_
      show own_E p e below _ s₁ (mkF m 62 #[rv a1, iv 0, iv 2, iv p1, iv 0, iv 1, iv 0, iv ea0] [.int 0])
      refine own_retI X0 hx Bd.notSynchronized Bd.returns (hb hby own_d_jdk_65_method_59_62) (by decide) (by decide) ?_
      exact ⟨(Or.inr (Or.inr (Or.inr (Or.inr ⟨rfl, hc1, hc4⟩)))), e0, rfl⟩
def own_bs_2_Q (a1 : Addr) (kc1 : ClassId) (p1 : Int32) (ea0 : Int32) (ea1 : Int32) (h0 : Heap) (v : Option Value) (h : Heap) (L : List Loc) : Prop := ((v = some (.int (-3 : Int32)) ∧ ea0 < p1 ∧ ea1 < p1) ∨ (v = some (.int (-2 : Int32)) ∧ ea0 < p1 ∧ ¬ (ea1 < p1) ∧ p1 < ea1) ∨ (v = some (.int (1 : Int32)) ∧ ea0 < p1 ∧ ¬ (ea1 < p1) ∧ ¬ (p1 < ea1)) ∨ (v = some (.int (-1 : Int32)) ∧ ¬ (ea0 < p1) ∧ p1 < ea0) ∨ (v = some (.int (0 : Int32)) ∧ ¬ (ea0 < p1) ∧ ¬ (p1 < ea0))) ∧ h = h0 ∧ L = []
theorem own_bs_2_ef (m : MethodId) (a1 : Addr) (kc1 : ClassId) (p1 : Int32) (ea0 : Int32) (ea1 : Int32) : entryFrame m #[(.ref a1), (.int (0 : Int32)), (.int (2 : Int32)), (.int p1)] 4 = mkF m 0 #[.val (.ref a1), .val (.int (0 : Int32)), .val (.int (2 : Int32)), .val (.int p1)] [] := by first | (simp [entryFrame, mkF, argsToLocals, Value.category]; done) | rfl
set_option maxRecDepth 65536 in
set_option maxHeartbeats 40000000 in
theorem own_bs_2 (l : Launch) (Z : State) (a0 : Array Value) (hw : ∀ d ∈ tables_1, d.before a0 Z = true) (ws : List Jvm.Cond) (a1 : Addr) (kc1 : ClassId) (p1 : Int32) (ea0 : Int32) (ea1 : Int32) (h0 : Heap) (n0 : Nat) (Z0 : n0 ≤ h0.size) (V_a1 : Arv Z h0 a1 kc1 .int (2 : Int32) [(.int ea0), (.int ea1)] (.int (0 : Int32))) :
    MetFree l own_y7 (head1 (Jvm.Cond.code own_y7 jdk_65_method_58_code 4 (some .int) :: ws) ({ frames := 1, cells := 0, slots := 0, locals := 19 } : Room)) (fun a U => a = #[(.ref a1), (.int (0 : Int32)), (.int (2 : Int32)), (.int p1)] ∧ Z.Warmed39 U.vm ∧ U.heap = h0) (fun _ _ _ _ _ => True) (fun _ U o U' => ∃ v L, o = .returned v ∧ own_bs_2_Q a1 kc1 p1 ea0 ea1 h0 v U'.heap L ∧ FrameEnd U o U' L ({ frames := 1, cells := 0, slots := 0, locals := 19 } : Room).cells ({ frames := 1, cells := 0, slots := 0, locals := 19 } : Room).slots) := by
  refine MetFree.of_bodySF (plainFor_of_name own_pn_Arrays) hisR ?_
  intro p e s m args below meth c s₁ Bd hml0 hP hK
  obtain ⟨rfl, hZ, hh⟩ := hP
  have hx := Bd.exec
  have hby := Bd.bytes
  have hml : c.maxLocals = 4 := hml0
  have hown : s.vm.findClass "java/util/Arrays" = some m.cls := findClass_of_methodNamed Bd.named
  have hnm := (name_of_methodNamed Bd.named Bd.method).1
  have X0 : Stand p l e ({ frames := 1, cells := 0, slots := 0, locals := 19 } : Room) s m #[(.ref a1), (.int (0 : Int32)), (.int (2 : Int32)), (.int p1)] below meth c s₁ [] 0 0 := Stand.of_body Bd
  have e0 : s₁.heap = h0 := by rw [← hh, Bd.state]; rfl
  show own_E p e below (own_K (own_bs_2_Q a1 kc1 p1 ea0 ea1 h0) s ({ frames := 1, cells := 0, slots := 0, locals := 19 } : Room).cells ({ frames := 1, cells := 0, slots := 0, locals := 19 } : Room).slots) s₁ (entryFrame m #[(.ref a1), (.int (0 : Int32)), (.int (2 : Int32)), (.int p1)] 4)
  refine own_pre (own_bs_2_ef m a1 kc1 p1 ea0 ea1) ?_
  show own_E p e below _ s₁ (mkF m 0 #[rv a1, iv 0, iv 2, iv p1] [])
  refine own_st (fun t k => XS.aloadN X0.here hx rfl (hb hby own_d_jdk_65_method_58_0) rfl rfl k) ?_
  show own_E p e below _ s₁ (mkF m 1 #[rv a1, iv 0, iv 2, iv p1] [.ref a1])
  refine own_st (own_alen X0 hx hZ e0 V_a1 (g := (mkF m 1 #[rv a1, iv 0, iv 2, iv p1] [.ref a1])) rfl rfl (hb hby own_d_jdk_65_method_58_1)) ?_
  show own_E p e below _ s₁ (mkF m 2 #[rv a1, iv 0, iv 2, iv p1] [.int 2])
  refine own_st (fun t k => XS.iloadN X0.here hx rfl (hb hby own_d_jdk_65_method_58_2) rfl k) ?_
  show own_E p e below _ s₁ (mkF m 3 #[rv a1, iv 0, iv 2, iv p1] [.int 0, .int 2])
  refine own_st (fun t k => XS.iloadN X0.here hx rfl (hb hby own_d_jdk_65_method_58_3) rfl k) ?_
  show own_E p e below _ s₁ (mkF m 4 #[rv a1, iv 0, iv 2, iv p1] [.int 2, .int 0, .int 2])
  obtain ⟨_, _, ⟨T1, L1, k1, n1⟩, -, X1, ⟨Lc1, hQ1, l1, y1, z1⟩, st1⟩ := Jvm.LawKit.callS X0 hx (y := own_y5) hown (mvT hZ (own_w hw 51 rfl)) (mvT hZ (own_w hw 52 rfl)) (mvT hZ (own_w hw 36 rfl)) (mvT hZ (own_w hw 53 rfl)) (by decide) (backOf (W := 0) (own_range2 l Z a0 hw []  h0 n0 Z0 ) hZ (own_w hw 53 rfl) (own_w hw 36 rfl) (by decide) (by decide)) (g := (mkF m 4 #[rv a1, iv 0, iv 2, iv p1] [.int 2, .int 0, .int 2])) rfl (by rw [hml]; rfl) (argsL := [(.int (2 : Int32)), (.int (0 : Int32)), (.int (2 : Int32))]) (rest := []) (lenOf own_pd_3 rfl) rfl (by show 2 * 0 + _ ≤ _; exact Nat.le_of_eq rfl) (hb hby own_d_jdk_65_method_58_4) (fun _ _ => ⟨rfl, e0, (by decide : 0 + 0 ≤ _), (by decide : 0 + 0 ≤ _)⟩)
  dsimp only [Pt.U, Pt.locs, Pt.cells, Pt.slots] at X1 l1 y1 z1 st1 hQ1
  subst l1 y1 z1
  obtain ⟨hR1, e1, rfl⟩ := hQ1
  have N1 := Fr.app (Fr.nil n0) (Fr.nil n0)
  obtain rfl := hR1
  refine own_st st1 ?_
  show own_E p e below _ T1 (mkF m 7 #[rv a1, iv 0, iv 2, iv p1] [])
  refine own_st (fun t k => XS.aloadN X1.here hx rfl (hb hby own_d_jdk_65_method_58_7) rfl rfl k) ?_
  show own_E p e below _ T1 (mkF m 8 #[rv a1, iv 0, iv 2, iv p1] [.ref a1])
  refine own_st (fun t k => XS.iloadN X1.here hx rfl (hb hby own_d_jdk_65_method_58_8) rfl k) ?_
  show own_E p e below _ T1 (mkF m 9 #[rv a1, iv 0, iv 2, iv p1] [.int 0, .ref a1])
  refine own_st (fun t k => XS.iloadN X1.here hx rfl (hb hby own_d_jdk_65_method_58_9) rfl k) ?_
  show own_E p e below _ T1 (mkF m 10 #[rv a1, iv 0, iv 2, iv p1] [.int 2, .int 0, .ref a1])
  refine own_st (fun t k => XS.iloadN X1.here hx rfl (hb hby own_d_jdk_65_method_58_10) rfl k) ?_
  show own_E p e below _ T1 (mkF m 11 #[rv a1, iv 0, iv 2, iv p1] [.int p1, .int 2, .int 0, .ref a1])
  obtain ⟨_, _, ⟨T2, L2, k2, n2⟩, -, X2, ⟨Lc2, hQ2, l2, y2, z2⟩, st2⟩ := Jvm.LawKit.callS X1 hx (y := own_y6) hown (mvT hZ (own_w hw 54 rfl)) (mvT hZ (own_w hw 55 rfl)) (mvT hZ (own_w hw 36 rfl)) (mvT hZ (own_w hw 56 rfl)) (by decide) (backOf (W := 0) (own_bs0_2 l Z a0 hw [] a1 kc1 p1 ea0 ea1 h0 n0 Z0 V_a1) hZ (own_w hw 56 rfl) (own_w hw 36 rfl) (by decide) (by decide)) (g := (mkF m 11 #[rv a1, iv 0, iv 2, iv p1] [.int p1, .int 2, .int 0, .ref a1])) rfl (by rw [hml]; rfl) (argsL := [(.ref a1), (.int (0 : Int32)), (.int (2 : Int32)), (.int p1)]) (rest := []) (lenOf own_pd_7 rfl) rfl (by show 2 * 0 + _ ≤ _; exact Nat.le_of_eq rfl) (hb hby own_d_jdk_65_method_58_11) (fun _ _ => ⟨rfl, e1, (by decide : 0 + 0 ≤ _), (by decide : 0 + 0 ≤ _)⟩)
  dsimp only [Pt.U, Pt.locs, Pt.cells, Pt.slots] at X2 l2 y2 z2 st2 hQ2
  subst l2 y2 z2
  obtain ⟨hR2, e2, rfl⟩ := hQ2
  have N2 := Fr.app N1 (Fr.nil n0)
  rcases hR2 with ⟨rfl, ha2_0, ha2_1⟩ | ⟨rfl, ha2_0, ha2_1, ha2_2⟩ | ⟨rfl, ha2_0, ha2_1, ha2_2⟩ | ⟨rfl, ha2_0, ha2_1⟩ | ⟨rfl, ha2_0, ha2_1⟩
  · refine own_st st2 ?_
    show own_E p e below _ T2 (mkF m 14 #[rv a1, iv 0, iv 2, iv p1] [.int (-3)])
    refine own_retI X2 hx Bd.notSynchronized Bd.returns (hb hby own_d_jdk_65_method_58_14) (by decide) (by decide) ?_
    exact ⟨(Or.inl ⟨rfl, ha2_0, ha2_1⟩), e2, rfl⟩
  · refine own_st st2 ?_
    show own_E p e below _ T2 (mkF m 14 #[rv a1, iv 0, iv 2, iv p1] [.int (-2)])
    refine own_retI X2 hx Bd.notSynchronized Bd.returns (hb hby own_d_jdk_65_method_58_14) (by decide) (by decide) ?_
    exact ⟨(Or.inr (Or.inl ⟨rfl, ha2_0, ha2_1, ha2_2⟩)), e2, rfl⟩
  · refine own_st st2 ?_
    show own_E p e below _ T2 (mkF m 14 #[rv a1, iv 0, iv 2, iv p1] [.int 1])
    refine own_retI X2 hx Bd.notSynchronized Bd.returns (hb hby own_d_jdk_65_method_58_14) (by decide) (by decide) ?_
    exact ⟨(Or.inr (Or.inr (Or.inl ⟨rfl, ha2_0, ha2_1, ha2_2⟩))), e2, rfl⟩
  · refine own_st st2 ?_
    show own_E p e below _ T2 (mkF m 14 #[rv a1, iv 0, iv 2, iv p1] [.int (-1)])
    refine own_retI X2 hx Bd.notSynchronized Bd.returns (hb hby own_d_jdk_65_method_58_14) (by decide) (by decide) ?_
    exact ⟨(Or.inr (Or.inr (Or.inr (Or.inl ⟨rfl, ha2_0, ha2_1⟩)))), e2, rfl⟩
  · refine own_st st2 ?_
    show own_E p e below _ T2 (mkF m 14 #[rv a1, iv 0, iv 2, iv p1] [.int 0])
    refine own_retI X2 hx Bd.notSynchronized Bd.returns (hb hby own_d_jdk_65_method_58_14) (by decide) (by decide) ?_
    exact ⟨(Or.inr (Or.inr (Or.inr (Or.inr ⟨rfl, ha2_0, ha2_1⟩)))), e2, rfl⟩
def own_freq2_Q (a1 : Addr) (a2 : Addr) (a3 : Addr) (kc1 : ClassId) (kc2 : ClassId) (p1 : Int32) (ea0 : Int32) (ea1 : Int32) (eb0 : Int32) (eb1 : Int32) (h0 : Heap) (v : Option Value) (h : Heap) (L : List Loc) : Prop := ((v = some (.int (0 : Int32)) ∧ ea0 < p1 ∧ ea1 < p1) ∨ (v = some (.int (0 : Int32)) ∧ ea0 < p1 ∧ ¬ (ea1 < p1) ∧ p1 < ea1) ∨ (v = some (.int eb1) ∧ ea0 < p1 ∧ ¬ (ea1 < p1) ∧ ¬ (p1 < ea1)) ∨ (v = some (.int (0 : Int32)) ∧ ¬ (ea0 < p1) ∧ p1 < ea0) ∨ (v = some (.int eb0) ∧ ¬ (ea0 < p1) ∧ ¬ (p1 < ea0))) ∧ h = h0 ∧ L = []
theorem own_freq2_ef (m : MethodId) (a1 : Addr) (a2 : Addr) (a3 : Addr) (kc1 : ClassId) (kc2 : ClassId) (p1 : Int32) (ea0 : Int32) (ea1 : Int32) (eb0 : Int32) (eb1 : Int32) : entryFrame m #[(.ref a1), (.int p1)] 3 = mkF m 0 #[.val (.ref a1), .val (.int p1), .unset] [] := by first | (simp [entryFrame, mkF, argsToLocals, Value.category]; done) | rfl
set_option maxRecDepth 65536 in
set_option maxHeartbeats 40000000 in
theorem own_freq2 (l : Launch) (Z : State) (a0 : Array Value) (hw : ∀ d ∈ tables_1, d.before a0 Z = true) (ws : List Jvm.Cond) (a1 : Addr) (a2 : Addr) (a3 : Addr) (kc1 : ClassId) (kc2 : ClassId) (p1 : Int32) (ea0 : Int32) (ea1 : Int32) (eb0 : Int32) (eb1 : Int32) (h0 : Heap) (n0 : Nat) (Z0 : n0 ≤ h0.size) (F_documents_a1 : Fld Z h0 a1 "com/example/lean_scorer/leanscorer/Postings" "documents" "[I" (.ref a2)) (F_frequencies_a1 : Fld Z h0 a1 "com/example/lean_scorer/leanscorer/Postings" "frequencies" "[I" (.ref a3)) (F_size_a1 : Fld Z h0 a1 "com/example/lean_scorer/leanscorer/Postings" "size" "I" (.int (2 : Int32))) (V_a2 : Arv Z h0 a2 kc1 .int (2 : Int32) [(.int ea0), (.int ea1)] (.int (0 : Int32))) (V_a3 : Arv Z h0 a3 kc2 .int (2 : Int32) [(.int eb0), (.int eb1)] (.int (0 : Int32))) :
    MetFree l own_y8 (head1 (Jvm.Cond.code own_y8 prog_14_method_3_code 3 (some .int) :: ws) ({ frames := 2, cells := 0, slots := 0, locals := 34 } : Room)) (fun a U => a = #[(.ref a1), (.int p1)] ∧ Z.Warmed39 U.vm ∧ U.heap = h0) (fun _ _ _ _ _ => True) (fun _ U o U' => ∃ v L, o = .returned v ∧ own_freq2_Q a1 a2 a3 kc1 kc2 p1 ea0 ea1 eb0 eb1 h0 v U'.heap L ∧ FrameEnd U o U' L ({ frames := 2, cells := 0, slots := 0, locals := 34 } : Room).cells ({ frames := 2, cells := 0, slots := 0, locals := 34 } : Room).slots) := by
  refine MetFree.of_bodySF (plainFor_of_name own_pn_Postings) hisR ?_
  intro p e s m args below meth c s₁ Bd hml0 hP hK
  obtain ⟨rfl, hZ, hh⟩ := hP
  have hx := Bd.exec
  have hby := Bd.bytes
  have hml : c.maxLocals = 3 := hml0
  have hown : s.vm.findClass "com/example/lean_scorer/leanscorer/Postings" = some m.cls := findClass_of_methodNamed Bd.named
  have hnm := (name_of_methodNamed Bd.named Bd.method).1
  have X0 : Stand p l e ({ frames := 2, cells := 0, slots := 0, locals := 34 } : Room) s m #[(.ref a1), (.int p1)] below meth c s₁ [] 0 0 := Stand.of_body Bd
  have e0 : s₁.heap = h0 := by rw [← hh, Bd.state]; rfl
  show own_E p e below (own_K (own_freq2_Q a1 a2 a3 kc1 kc2 p1 ea0 ea1 eb0 eb1 h0) s ({ frames := 2, cells := 0, slots := 0, locals := 34 } : Room).cells ({ frames := 2, cells := 0, slots := 0, locals := 34 } : Room).slots) s₁ (entryFrame m #[(.ref a1), (.int p1)] 3)
  refine own_pre (own_freq2_ef m a1 a2 a3 kc1 kc2 p1 ea0 ea1 eb0 eb1) ?_
  show own_E p e below _ s₁ (mkF m 0 #[rv a1, iv p1, .unset] [])
  refine own_st (fun t k => XS.aloadN X0.here hx rfl (hb hby own_d_prog_14_method_3_0) rfl rfl k) ?_
  show own_E p e below _ s₁ (mkF m 1 #[rv a1, iv p1, .unset] [.ref a1])
  obtain ⟨T1, X1, e1, st1⟩ := getF X0 hx hZ hown (host := "") (Or.inl (own_w hw 11 rfl)) Via.refl e0 F_documents_a1 (g := (mkF m 1 #[rv a1, iv p1, .unset] [.ref a1])) rfl rfl (hb hby own_d_prog_14_method_3_1)
  refine own_st st1 ?_
  show own_E p e below _ T1 (mkF m 4 #[rv a1, iv p1, .unset] [.ref a2])
  refine own_st (fun t k => XS.iconst X1.here hx rfl (hb hby own_d_prog_14_method_3_4) k) ?_
  show own_E p e below _ T1 (mkF m 5 #[rv a1, iv p1, .unset] [.int 0, .ref a2])
  refine own_st (fun t k => XS.aloadN X1.here hx rfl (hb hby own_d_prog_14_method_3_5) rfl rfl k) ?_
  show own_E p e below _ T1 (mkF m 6 #[rv a1, iv p1, .unset] [.ref a1, .int 0, .ref a2])
  obtain ⟨T2, X2, e2, st2⟩ := getF X1 hx hZ hown (host := "") (Or.inl (own_w hw 23 rfl)) Via.refl e1 F_size_a1 (g := (mkF m 6 #[rv a1, iv p1, .unset] [.ref a1, .int 0, .ref a2])) rfl rfl (hb hby own_d_prog_14_method_3_6)
  refine own_st st2 ?_
  show own_E p e below _ T2 (mkF m 9 #[rv a1, iv p1, .unset] [.int 2, .int 0, .ref a2])
  refine own_st (fun t k => XS.iloadN X2.here hx rfl (hb hby own_d_prog_14_method_3_9) rfl k) ?_
  show own_E p e below _ T2 (mkF m 10 #[rv a1, iv p1, .unset] [.int p1, .int 2, .int 0, .ref a2])
  obtain ⟨_, _, ⟨T3, L3, k3, n3⟩, -, X3, ⟨Lc3, hQ3, l3, y3, z3⟩, st3⟩ := Jvm.LawKit.callS X2 hx (y := own_y7) hown (mvT hZ (own_w hw 48 rfl)) (mvT hZ (own_w hw 49 rfl)) (mvT hZ (own_w hw 36 rfl)) (mvT hZ (own_w hw 50 rfl)) (by decide) (backOf (W := 0) (own_bs_2 l Z a0 hw [] a2 kc1 p1 ea0 ea1 h0 n0 Z0 V_a2) hZ (own_w hw 50 rfl) (own_w hw 36 rfl) (by decide) (by decide)) (g := (mkF m 10 #[rv a1, iv p1, .unset] [.int p1, .int 2, .int 0, .ref a2])) rfl (by rw [hml]; rfl) (argsL := [(.ref a2), (.int (0 : Int32)), (.int (2 : Int32)), (.int p1)]) (rest := []) (lenOf own_pd_7 rfl) rfl (by show 2 * 0 + _ ≤ _; exact Nat.le_of_eq rfl) (hb hby own_d_prog_14_method_3_10) (fun _ _ => ⟨rfl, e2, (by decide : 0 + 0 ≤ _), (by decide : 0 + 0 ≤ _)⟩)
  dsimp only [Pt.U, Pt.locs, Pt.cells, Pt.slots] at X3 l3 y3 z3 st3 hQ3
  subst l3 y3 z3
  obtain ⟨hR3, e3, rfl⟩ := hQ3
  have N3 := Fr.app (Fr.nil n0) (Fr.nil n0)
  rcases hR3 with ⟨rfl, ha3_0, ha3_1⟩ | ⟨rfl, ha3_0, ha3_1, ha3_2⟩ | ⟨rfl, ha3_0, ha3_1, ha3_2⟩ | ⟨rfl, ha3_0, ha3_1⟩ | ⟨rfl, ha3_0, ha3_1⟩
  · refine own_st st3 ?_
    show own_E p e below _ T3 (mkF m 13 #[rv a1, iv p1, .unset] [.int (-3)])
    refine own_st (fun t k => XS.istoreN X3.here hx rfl (hb hby own_d_prog_14_method_3_13) rfl (l' := #[rv a1, iv p1, iv (-3)]) rfl k) ?_
    show own_E p e below _ T3 (mkF m 14 #[rv a1, iv p1, iv (-3)] [])
    refine own_st (fun t k => XS.iloadN X3.here hx rfl (hb hby own_d_prog_14_method_3_14) rfl k) ?_
    show own_E p e below _ T3 (mkF m 15 #[rv a1, iv p1, iv (-3)] [.int (-3)])
    refine own_st (fun t k => XS.ifYes X3.here hx rfl (pc0 := 15) (pc' := 27) rfl (hb hby own_d_prog_14_method_3_15) rfl (by decide) (by decide) (by decide) k) ?_
    show own_E p e below _ T3 (mkF m 27 #[rv a1, iv p1, iv (-3)] [])
    refine own_st (fun t k => XS.iconst X3.here hx rfl (hb hby own_d_prog_14_method_3_27) k) ?_
    show own_E p e below _ T3 (mkF m 28 #[rv a1, iv p1, iv (-3)] [.int 0])
    refine own_retI X3 hx Bd.notSynchronized Bd.returns (hb hby own_d_prog_14_method_3_28) (by decide) (by decide) ?_
    exact ⟨(Or.inl ⟨rfl, ha3_0, ha3_1⟩), e3, rfl⟩
  · refine own_st st3 ?_
    show own_E p e below _ T3 (mkF m 13 #[rv a1, iv p1, .unset] [.int (-2)])
    refine own_st (fun t k => XS.istoreN X3.here hx rfl (hb hby own_d_prog_14_method_3_13) rfl (l' := #[rv a1, iv p1, iv (-2)]) rfl k) ?_
    show own_E p e below _ T3 (mkF m 14 #[rv a1, iv p1, iv (-2)] [])
    refine own_st (fun t k => XS.iloadN X3.here hx rfl (hb hby own_d_prog_14_method_3_14) rfl k) ?_
    show own_E p e below _ T3 (mkF m 15 #[rv a1, iv p1, iv (-2)] [.int (-2)])
    refine own_st (fun t k => XS.ifYes X3.here hx rfl (pc0 := 15) (pc' := 27) rfl (hb hby own_d_prog_14_method_3_15) rfl (by decide) (by decide) (by decide) k) ?_
    show own_E p e below _ T3 (mkF m 27 #[rv a1, iv p1, iv (-2)] [])
    refine own_st (fun t k => XS.iconst X3.here hx rfl (hb hby own_d_prog_14_method_3_27) k) ?_
    show own_E p e below _ T3 (mkF m 28 #[rv a1, iv p1, iv (-2)] [.int 0])
    refine own_retI X3 hx Bd.notSynchronized Bd.returns (hb hby own_d_prog_14_method_3_28) (by decide) (by decide) ?_
    exact ⟨(Or.inr (Or.inl ⟨rfl, ha3_0, ha3_1, ha3_2⟩)), e3, rfl⟩
  · refine own_st st3 ?_
    show own_E p e below _ T3 (mkF m 13 #[rv a1, iv p1, .unset] [.int 1])
    refine own_st (fun t k => XS.istoreN X3.here hx rfl (hb hby own_d_prog_14_method_3_13) rfl (l' := #[rv a1, iv p1, iv 1]) rfl k) ?_
    show own_E p e below _ T3 (mkF m 14 #[rv a1, iv p1, iv 1] [])
    refine own_st (fun t k => XS.iloadN X3.here hx rfl (hb hby own_d_prog_14_method_3_14) rfl k) ?_
    show own_E p e below _ T3 (mkF m 15 #[rv a1, iv p1, iv 1] [.int 1])
    refine own_st (fun t k => XS.ifNo X3.here hx rfl (hb hby own_d_prog_14_method_3_15) rfl (by decide) k) ?_
    show own_E p e below _ T3 (mkF m 18 #[rv a1, iv p1, iv 1] [])
    refine own_st (fun t k => XS.aloadN X3.here hx rfl (hb hby own_d_prog_14_method_3_18) rfl rfl k) ?_
    show own_E p e below _ T3 (mkF m 19 #[rv a1, iv p1, iv 1] [.ref a1])
    obtain ⟨T4, X4, e4, st4⟩ := getF X3 hx hZ hown (host := "") (Or.inl (own_w hw 13 rfl)) Via.refl e3 F_frequencies_a1 (g := (mkF m 19 #[rv a1, iv p1, iv 1] [.ref a1])) rfl rfl (hb hby own_d_prog_14_method_3_19)
    refine own_st st4 ?_
    show own_E p e below _ T4 (mkF m 22 #[rv a1, iv p1, iv 1] [.ref a3])
    refine own_st (fun t k => XS.iloadN X4.here hx rfl (hb hby own_d_prog_14_method_3_22) rfl k) ?_
    show own_E p e below _ T4 (mkF m 23 #[rv a1, iv p1, iv 1] [.int 1, .ref a3])
    refine own_st (own_ald X4 hx hZ e4 V_a3 (j := (1 : Int32)) ⟨by decide, by decide⟩ (v := (.int eb1)) rfl (g := (mkF m 23 #[rv a1, iv p1, iv 1] [.int 1, .ref a3])) rfl rfl (hb hby own_d_prog_14_method_3_23)) ?_
    show own_E p e below _ T4 (mkF m 24 #[rv a1, iv p1, iv 1] [.int eb1])
    refine own_st (fun t k => XS.goto X4.here hx rfl (pc0 := 24) (pc' := 28) rfl (hb hby own_d_prog_14_method_3_24) (by decide) (by decide) k) ?_
    show own_E p e below _ T4 (mkF m 28 #[rv a1, iv p1, iv 1] [.int eb1])
    refine own_retI X4 hx Bd.notSynchronized Bd.returns (hb hby own_d_prog_14_method_3_28) (by decide) (by decide) ?_
    exact ⟨(Or.inr (Or.inr (Or.inl ⟨rfl, ha3_0, ha3_1, ha3_2⟩))), e4, rfl⟩
  · refine own_st st3 ?_
    show own_E p e below _ T3 (mkF m 13 #[rv a1, iv p1, .unset] [.int (-1)])
    refine own_st (fun t k => XS.istoreN X3.here hx rfl (hb hby own_d_prog_14_method_3_13) rfl (l' := #[rv a1, iv p1, iv (-1)]) rfl k) ?_
    show own_E p e below _ T3 (mkF m 14 #[rv a1, iv p1, iv (-1)] [])
    refine own_st (fun t k => XS.iloadN X3.here hx rfl (hb hby own_d_prog_14_method_3_14) rfl k) ?_
    show own_E p e below _ T3 (mkF m 15 #[rv a1, iv p1, iv (-1)] [.int (-1)])
    refine own_st (fun t k => XS.ifYes X3.here hx rfl (pc0 := 15) (pc' := 27) rfl (hb hby own_d_prog_14_method_3_15) rfl (by decide) (by decide) (by decide) k) ?_
    show own_E p e below _ T3 (mkF m 27 #[rv a1, iv p1, iv (-1)] [])
    refine own_st (fun t k => XS.iconst X3.here hx rfl (hb hby own_d_prog_14_method_3_27) k) ?_
    show own_E p e below _ T3 (mkF m 28 #[rv a1, iv p1, iv (-1)] [.int 0])
    refine own_retI X3 hx Bd.notSynchronized Bd.returns (hb hby own_d_prog_14_method_3_28) (by decide) (by decide) ?_
    exact ⟨(Or.inr (Or.inr (Or.inr (Or.inl ⟨rfl, ha3_0, ha3_1⟩)))), e3, rfl⟩
  · refine own_st st3 ?_
    show own_E p e below _ T3 (mkF m 13 #[rv a1, iv p1, .unset] [.int 0])
    refine own_st (fun t k => XS.istoreN X3.here hx rfl (hb hby own_d_prog_14_method_3_13) rfl (l' := #[rv a1, iv p1, iv 0]) rfl k) ?_
    show own_E p e below _ T3 (mkF m 14 #[rv a1, iv p1, iv 0] [])
    refine own_st (fun t k => XS.iloadN X3.here hx rfl (hb hby own_d_prog_14_method_3_14) rfl k) ?_
    show own_E p e below _ T3 (mkF m 15 #[rv a1, iv p1, iv 0] [.int 0])
    refine own_st (fun t k => XS.ifNo X3.here hx rfl (hb hby own_d_prog_14_method_3_15) rfl (by decide) k) ?_
    show own_E p e below _ T3 (mkF m 18 #[rv a1, iv p1, iv 0] [])
    refine own_st (fun t k => XS.aloadN X3.here hx rfl (hb hby own_d_prog_14_method_3_18) rfl rfl k) ?_
    show own_E p e below _ T3 (mkF m 19 #[rv a1, iv p1, iv 0] [.ref a1])
    obtain ⟨T5, X5, e5, st5⟩ := getF X3 hx hZ hown (host := "") (Or.inl (own_w hw 13 rfl)) Via.refl e3 F_frequencies_a1 (g := (mkF m 19 #[rv a1, iv p1, iv 0] [.ref a1])) rfl rfl (hb hby own_d_prog_14_method_3_19)
    refine own_st st5 ?_
    show own_E p e below _ T5 (mkF m 22 #[rv a1, iv p1, iv 0] [.ref a3])
    refine own_st (fun t k => XS.iloadN X5.here hx rfl (hb hby own_d_prog_14_method_3_22) rfl k) ?_
    show own_E p e below _ T5 (mkF m 23 #[rv a1, iv p1, iv 0] [.int 0, .ref a3])
    refine own_st (own_ald X5 hx hZ e5 V_a3 (j := (0 : Int32)) ⟨by decide, by decide⟩ (v := (.int eb0)) rfl (g := (mkF m 23 #[rv a1, iv p1, iv 0] [.int 0, .ref a3])) rfl rfl (hb hby own_d_prog_14_method_3_23)) ?_
    show own_E p e below _ T5 (mkF m 24 #[rv a1, iv p1, iv 0] [.int eb0])
    refine own_st (fun t k => XS.goto X5.here hx rfl (pc0 := 24) (pc' := 28) rfl (hb hby own_d_prog_14_method_3_24) (by decide) (by decide) k) ?_
    show own_E p e below _ T5 (mkF m 28 #[rv a1, iv p1, iv 0] [.int eb0])
    refine own_retI X5 hx Bd.notSynchronized Bd.returns (hb hby own_d_prog_14_method_3_28) (by decide) (by decide) ?_
    exact ⟨(Or.inr (Or.inr (Or.inr (Or.inr ⟨rfl, ha3_0, ha3_1⟩)))), e5, rfl⟩
def own_range3_Q  (h0 : Heap) (v : Option Value) (h : Heap) (L : List Loc) : Prop := ((v = none)) ∧ h = h0 ∧ L = []
theorem own_range3_ef (m : MethodId)  : entryFrame m #[(.int (4 : Int32)), (.int (0 : Int32)), (.int (3 : Int32))] 3 = mkF m 0 #[.val (.int (4 : Int32)), .val (.int (0 : Int32)), .val (.int (3 : Int32))] [] := by first | (simp [entryFrame, mkF, argsToLocals, Value.category]; done) | rfl
set_option maxRecDepth 65536 in
set_option maxHeartbeats 40000000 in
theorem own_range3 (l : Launch) (Z : State) (a0 : Array Value) (hw : ∀ d ∈ tables_1, d.before a0 Z = true) (ws : List Jvm.Cond)  (h0 : Heap) (n0 : Nat) (Z0 : n0 ≤ h0.size)  :
    MetFree l own_y5 (head1 (Jvm.Cond.code own_y5 jdk_65_method_30_code 3 none :: ws) ({ frames := 0, cells := 0, slots := 0, locals := 0 } : Room)) (fun a U => a = #[(.int (4 : Int32)), (.int (0 : Int32)), (.int (3 : Int32))] ∧ Z.Warmed39 U.vm ∧ U.heap = h0) (fun _ _ _ _ _ => True) (fun _ U o U' => ∃ v L, o = .returned v ∧ own_range3_Q  h0 v U'.heap L ∧ FrameEnd U o U' L ({ frames := 0, cells := 0, slots := 0, locals := 0 } : Room).cells ({ frames := 0, cells := 0, slots := 0, locals := 0 } : Room).slots) := by
  refine MetFree.of_bodySF (plainFor_of_name own_pn_Arrays) hisR ?_
  intro p e s m args below meth c s₁ Bd hml0 hP hK
  obtain ⟨rfl, hZ, hh⟩ := hP
  have hx := Bd.exec
  have hby := Bd.bytes
  have hml : c.maxLocals = 3 := hml0
  have hown : s.vm.findClass "java/util/Arrays" = some m.cls := findClass_of_methodNamed Bd.named
  have hnm := (name_of_methodNamed Bd.named Bd.method).1
  have X0 : Stand p l e ({ frames := 0, cells := 0, slots := 0, locals := 0 } : Room) s m #[(.int (4 : Int32)), (.int (0 : Int32)), (.int (3 : Int32))] below meth c s₁ [] 0 0 := Stand.of_body Bd
  have e0 : s₁.heap = h0 := by rw [← hh, Bd.state]; rfl
  show own_E p e below (own_K (own_range3_Q  h0) s ({ frames := 0, cells := 0, slots := 0, locals := 0 } : Room).cells ({ frames := 0, cells := 0, slots := 0, locals := 0 } : Room).slots) s₁ (entryFrame m #[(.int (4 : Int32)), (.int (0 : Int32)), (.int (3 : Int32))] 3)
  refine own_pre (own_range3_ef m ) ?_
  show own_E p e below _ s₁ (mkF m 0 #[iv 4, iv 0, iv 3] [])
  refine own_st (fun t k => XS.iloadN X0.here hx rfl (hb hby own_d_jdk_65_method_30_0) rfl k) ?_
  show own_E p e below _ s₁ (mkF m 1 #[iv 4, iv 0, iv 3] [.int 0])
  refine own_st (fun t k => XS.iloadN X0.here hx rfl (hb hby own_d_jdk_65_method_30_1) rfl k) ?_
  show own_E p e below _ s₁ (mkF m 2 #[iv 4, iv 0, iv 3] [.int 3, .int 0])
  refine own_st (fun t k => XS.icmpYes X0.here hx rfl (pc0 := 2) (pc' := 46) rfl (hb hby own_d_jdk_65_method_30_2) rfl (by decide) (by decide) (by decide) k) ?_
  show own_E p e below _ s₁ (mkF m 46 #[iv 4, iv 0, iv 3] [])
  refine own_st (fun t k => XS.iloadN X0.here hx rfl (hb hby own_d_jdk_65_method_30_46) rfl k) ?_
  show own_E p e below _ s₁ (mkF m 47 #[iv 4, iv 0, iv 3] [.int 0])
  refine own_st (fun t k => XS.ifYes X0.here hx rfl (pc0 := 47) (pc' := 59) rfl (hb hby own_d_jdk_65_method_30_47) rfl (by decide) (by decide) (by decide) k) ?_
  show own_E p e below _ s₁ (mkF m 59 #[iv 4, iv 0, iv 3] [])
  refine own_st (fun t k => XS.iloadN X0.here hx rfl (hb hby own_d_jdk_65_method_30_59) rfl k) ?_
  show own_E p e below _ s₁ (mkF m 60 #[iv 4, iv 0, iv 3] [.int 3])
  refine own_st (fun t k => XS.iloadN X0.here hx rfl (hb hby own_d_jdk_65_method_30_60) rfl k) ?_
  show own_E p e below _ s₁ (mkF m 61 #[iv 4, iv 0, iv 3] [.int 4, .int 3])
  refine own_st (fun t k => XS.icmpYes X0.here hx rfl (pc0 := 61) (pc' := 73) rfl (hb hby own_d_jdk_65_method_30_61) rfl (by decide) (by decide) (by decide) k) ?_
  show own_E p e below _ s₁ (mkF m 73 #[iv 4, iv 0, iv 3] [])
  refine own_retV X0 hx Bd.notSynchronized Bd.returns (hb hby own_d_jdk_65_method_30_73) (by decide) (by decide) ?_
  exact ⟨rfl, e0, rfl⟩
def own_bs0_3_Q (a1 : Addr) (kc1 : ClassId) (p1 : Int32) (ea0 : Int32) (ea1 : Int32) (ea2 : Int32) (ea3 : Int32) (h0 : Heap) (v : Option Value) (h : Heap) (L : List Loc) : Prop := ((v = some (.int (-4 : Int32)) ∧ ea1 < p1 ∧ ea2 < p1) ∨ (v = some (.int (-3 : Int32)) ∧ ea1 < p1 ∧ ¬ (ea2 < p1) ∧ p1 < ea2) ∨ (v = some (.int (2 : Int32)) ∧ ea1 < p1 ∧ ¬ (ea2 < p1) ∧ ¬ (p1 < ea2)) ∨ (v = some (.int (-2 : Int32)) ∧ ¬ (ea1 < p1) ∧ p1 < ea1 ∧ ea0 < p1) ∨ (v = some (.int (-1 : Int32)) ∧ ¬ (ea1 < p1) ∧ p1 < ea1 ∧ ¬ (ea0 < p1) ∧ p1 < ea0) ∨ (v = some (.int (0 : Int32)) ∧ ¬ (ea1 < p1) ∧ p1 < ea1 ∧ ¬ (ea0 < p1) ∧ ¬ (p1 < ea0)) ∨ (v = some (.int (1 : Int32)) ∧ ¬ (ea1 < p1) ∧ ¬ (p1 < ea1))) ∧ h = h0 ∧ L = []
theorem own_bs0_3_ef (m : MethodId) (a1 : Addr) (kc1 : ClassId) (p1 : Int32) (ea0 : Int32) (ea1 : Int32) (ea2 : Int32) (ea3 : Int32) : entryFrame m #[(.ref a1), (.int (0 : Int32)), (.int (3 : Int32)), (.int p1)] 8 = mkF m 0 #[.val (.ref a1), .val (.int (0 : Int32)), .val (.int (3 : Int32)), .val (.int p1), .unset, .unset, .unset, .unset] [] := by first | (simp [entryFrame, mkF, argsToLocals, Value.category]; done) | rfl
set_option maxRecDepth 65536 in
set_option maxHeartbeats 40000000 in
theorem own_bs0_3 (l : Launch) (Z : State) (a0 : Array Value) (hw : ∀ d ∈ tables_1, d.before a0 Z = true) (ws : List Jvm.Cond) (a1 : Addr) (kc1 : ClassId) (p1 : Int32) (ea0 : Int32) (ea1 : Int32) (ea2 : Int32) (ea3 : Int32) (h0 : Heap) (n0 : Nat) (Z0 : n0 ≤ h0.size) (V_a1 : Arv Z h0 a1 kc1 .int (4 : Int32) [(.int ea0), (.int ea1), (.int ea2), (.int ea3)] (.int (0 : Int32))) :
    MetFree l own_y6 (head1 (Jvm.Cond.code own_y6 jdk_65_method_59_code 8 (some .int) :: ws) ({ frames := 0, cells := 0, slots := 0, locals := 0 } : Room)) (fun a U => a = #[(.ref a1), (.int (0 : Int32)), (.int (3 : Int32)), (.int p1)] ∧ Z.Warmed39 U.vm ∧ U.heap = h0) (fun _ _ _ _ _ => True) (fun _ U o U' => ∃ v L, o = .returned v ∧ own_bs0_3_Q a1 kc1 p1 ea0 ea1 ea2 ea3 h0 v U'.heap L ∧ FrameEnd U o U' L ({ frames := 0, cells := 0, slots := 0, locals := 0 } : Room).cells ({ frames := 0, cells := 0, slots := 0, locals := 0 } : Room).slots) := by
  refine MetFree.of_bodySF (plainFor_of_name own_pn_Arrays) hisR ?_
  intro p e s m args below meth c s₁ Bd hml0 hP hK
  obtain ⟨rfl, hZ, hh⟩ := hP
  have hx := Bd.exec
  have hby := Bd.bytes
  have hml : c.maxLocals = 8 := hml0
  have hown : s.vm.findClass "java/util/Arrays" = some m.cls := findClass_of_methodNamed Bd.named
  have hnm := (name_of_methodNamed Bd.named Bd.method).1
  have X0 : Stand p l e ({ frames := 0, cells := 0, slots := 0, locals := 0 } : Room) s m #[(.ref a1), (.int (0 : Int32)), (.int (3 : Int32)), (.int p1)] below meth c s₁ [] 0 0 := Stand.of_body Bd
  have e0 : s₁.heap = h0 := by rw [← hh, Bd.state]; rfl
  show own_E p e below (own_K (own_bs0_3_Q a1 kc1 p1 ea0 ea1 ea2 ea3 h0) s ({ frames := 0, cells := 0, slots := 0, locals := 0 } : Room).cells ({ frames := 0, cells := 0, slots := 0, locals := 0 } : Room).slots) s₁ (entryFrame m #[(.ref a1), (.int (0 : Int32)), (.int (3 : Int32)), (.int p1)] 8)
  refine own_pre (own_bs0_3_ef m a1 kc1 p1 ea0 ea1 ea2 ea3) ?_
  show own_E p e below _ s₁ (mkF m 0 #[rv a1, iv 0, iv 3, iv p1, .unset, .unset, .unset, .unset] [])
  refine own_st (fun t k => XS.iloadN X0.here hx rfl (hb hby own_d_jdk_65_method_59_0) rfl k) ?_
  show own_E p e below _ s₁ (mkF m 1 #[rv a1, iv 0, iv 3, iv p1, .unset, .unset, .unset, .unset] [.int 0])
  refine own_st (fun t k => XS.istore X0.here hx rfl (hb hby own_d_jdk_65_method_59_1) rfl (l' := #[rv a1, iv 0, iv 3, iv p1, iv 0, .unset, .unset, .unset]) rfl k) ?_
  show own_E p e below _ s₁ (mkF m 3 #[rv a1, iv 0, iv 3, iv p1, iv 0, .unset, .unset, .unset] [])
  refine own_st (fun t k => XS.iloadN X0.here hx rfl (hb hby own_d_jdk_65_method_59_3) rfl k) ?_
  show own_E p e below _ s₁ (mkF m 4 #[rv a1, iv 0, iv 3, iv p1, iv 0, .unset, .unset, .unset] [.int 3])
  refine own_st (fun t k => XS.iconst X0.here hx rfl (hb hby own_d_jdk_65_method_59_4) k) ?_
  show own_E p e below _ s₁ (mkF m 5 #[rv a1, iv 0, iv 3, iv p1, iv 0, .unset, .unset, .unset] [.int 1, .int 3])
  refine own_st (fun t k => XS.isub X0.here hx rfl (hb hby own_d_jdk_65_method_59_5) rfl k) ?_
  show own_E p e below _ s₁ (mkF m 6 #[rv a1, iv 0, iv 3, iv p1, iv 0, .unset, .unset, .unset] [.int 2])
  refine own_st (fun t k => XS.istore X0.here hx rfl (hb hby own_d_jdk_65_method_59_6) rfl (l' := #[rv a1, iv 0, iv 3, iv p1, iv 0, iv 2, .unset, .unset]) rfl k) ?_
  show own_E p e below _ s₁ (mkF m 8 #[rv a1, iv 0, iv 3, iv p1, iv 0, iv 2, .unset, .unset] [])
  refine own_st (fun t k => XS.iload X0.here hx rfl (hb hby own_d_jdk_65_method_59_8) rfl k) ?_
  show own_E p e below _ s₁ (mkF m 10 #[rv a1, iv 0, iv 3, iv p1, iv 0, iv 2, .unset, .unset] [.int 0])
  refine own_st (fun t k => XS.iload X0.here hx rfl (hb hby own_d_jdk_65_method_59_10) rfl k) ?_
  show own_E p e below _ s₁ (mkF m 12 #[rv a1, iv 0, iv 3, iv p1, iv 0, iv 2, .unset, .unset] [.int 2, .int 0])
  refine own_st (fun t k => XS.icmpNo X0.here hx rfl (hb hby own_d_jdk_65_method_59_12) rfl (by decide) k) ?_
  show own_E p e below _ s₁ (mkF m 15 #[rv a1, iv 0, iv 3, iv p1, iv 0, iv 2, .unset, .unset] [])
  refine own_st (fun t k => XS.iload X0.here hx rfl (hb hby own_d_jdk_65_method_59_15) rfl k) ?_
  show own_E p e below _ s₁ (mkF m 17 #[rv a1, iv 0, iv 3, iv p1, iv 0, iv 2, .unset, .unset] [.int 0])
  refine own_st (fun t k => XS.iload X0.here hx rfl (hb hby own_d_jdk_65_method_59_17) rfl k) ?_
  show own_E p e below _ s₁ (mkF m 19 #[rv a1, iv 0, iv 3, iv p1, iv 0, iv 2, .unset, .unset] [.int 2, .int 0])
  refine own_st (fun t k => XS.iadd X0.here hx rfl (hb hby own_d_jdk_65_method_59_19) rfl k) ?_
  show own_E p e below _ s₁ (mkF m 20 #[rv a1, iv 0, iv 3, iv p1, iv 0, iv 2, .unset, .unset] [.int 2])
  refine own_st (fun t k => XS.iconst X0.here hx rfl (hb hby own_d_jdk_65_method_59_20) k) ?_
  show own_E p e below _ s₁ (mkF m 21 #[rv a1, iv 0, iv 3, iv p1, iv 0, iv 2, .unset, .unset] [.int 1, .int 2])
  refine own_st (fun t k => XS.iushr X0.here hx rfl (hb hby own_d_jdk_65_method_59_21) rfl k) ?_
  show own_E p e below _ s₁ (mkF m 22 #[rv a1, iv 0, iv 3, iv p1, iv 0, iv 2, .unset, .unset] [.int 1])
  refine own_st (fun t k => XS.istore X0.here hx rfl (hb hby own_d_jdk_65_method_59_22) rfl (l' := #[rv a1, iv 0, iv 3, iv p1, iv 0, iv 2, iv 1, .unset]) rfl k) ?_
  show own_E p e below _ s₁ (mkF m 24 #[rv a1, iv 0, iv 3, iv p1, iv 0, iv 2, iv 1, .unset] [])
  refine own_st (fun t k => XS.aloadN X0.here hx rfl (hb hby own_d_jdk_65_method_59_24) rfl rfl k) ?_
  show own_E p e below _ s₁ (mkF m 25 #[rv a1, iv 0, iv 3, iv p1, iv 0, iv 2, iv 1, .unset] [.ref a1])
  refine own_st (fun t k => XS.iload X0.here hx rfl (hb hby own_d_jdk_65_method_59_25) rfl k) ?_
  show own_E p e below _ s₁ (mkF m 27 #[rv a1, iv 0, iv 3, iv p1, iv 0, iv 2, iv 1, .unset] [.int 1, .ref a1])
  refine own_st (own_ald X0 hx hZ e0 V_a1 (j := (1 : Int32)) ⟨by decide, by decide⟩ (v := (.int ea1)) rfl (g := (mkF m 27 #[rv a1, iv 0, iv 3, iv p1, iv 0, iv 2, iv 1, .unset] [.int 1, .ref a1])) rfl rfl (hb hby own_d_jdk_65_method_59_27)) ?_
  show own_E p e below _ s₁ (mkF m 28 #[rv a1, iv 0, iv 3, iv p1, iv 0, iv 2, iv 1, .unset] [.int ea1])
  refine own_st (fun t k => XS.istore X0.here hx rfl (hb hby own_d_jdk_65_method_59_28) rfl (l' := #[rv a1, iv 0, iv 3, iv p1, iv 0, iv 2, iv 1, iv ea1]) rfl k) ?_
  show own_E p e below _ s₁ (mkF m 30 #[rv a1, iv 0, iv 3, iv p1, iv 0, iv 2, iv 1, iv ea1] [])
  refine own_st (fun t k => XS.iload X0.here hx rfl (hb hby own_d_jdk_65_method_59_30) rfl k) ?_
  show own_E p e below _ s₁ (mkF m 32 #[rv a1, iv 0, iv 3, iv p1, iv 0, iv 2, iv 1, iv ea1] [.int ea1])
  refine own_st (fun t k => XS.iloadN X0.here hx rfl (hb hby own_d_jdk_65_method_59_32) rfl k) ?_
  show own_E p e below _ s₁ (mkF m 33 #[rv a1, iv 0, iv 3, iv p1, iv 0, iv 2, iv 1, iv ea1] [.int p1, .int ea1])
  by_cases hc1 : ea1 < p1
  · refine own_st (fun t k => XS.icmpNo X0.here hx rfl (hb hby own_d_jdk_65_method_59_33) rfl (tlt hc1).2.1 k) ?_
    show own_E p e below _ s₁ (mkF m 36 #[rv a1, iv 0, iv 3, iv p1, iv 0, iv 2, iv 1, iv ea1] [])
    refine own_st (fun t k => XS.iload X0.here hx rfl (hb hby own_d_jdk_65_method_59_36) rfl k) ?_
    show own_E p e below _ s₁ (mkF m 38 #[rv a1, iv 0, iv 3, iv p1, iv 0, iv 2, iv 1, iv ea1] [.int 1])
    refine own_st (fun t k => XS.iconst X0.here hx rfl (hb hby own_d_jdk_65_method_59_38) k) ?_
    show own_E p e below _ s₁ (mkF m 39 #[rv a1, iv 0, iv 3, iv p1, iv 0, iv 2, iv 1, iv ea1] [.int 1, .int 1])
    refine own_st (fun t k => XS.iadd X0.here hx rfl (hb hby own_d_jdk_65_method_59_39) rfl k) ?_
    show own_E p e below _ s₁ (mkF m 40 #[rv a1, iv 0, iv 3, iv p1, iv 0, iv 2, iv 1, iv ea1] [.int 2])
    refine own_st (fun t k => XS.istore X0.here hx rfl (hb hby own_d_jdk_65_method_59_40) rfl (l' := #[rv a1, iv 0, iv 3, iv p1, iv 2, iv 2, iv 1, iv ea1]) rfl k) ?_
    show own_E p e below _ s₁ (mkF m 42 #[rv a1, iv 0, iv 3, iv p1, iv 2, iv 2, iv 1, iv ea1] [])
    refine own_st (fun t k => XS.goto X0.here hx rfl (pc0 := 42) (pc' := 63) rfl (hb hby own_d_jdk_65_method_59_42) (by decide) (by decide) k) ?_
    show own_E p e below _ s₁ (mkF m 63 #[rv a1, iv 0, iv 3, iv p1, iv 2, iv 2, iv 1, iv ea1] [])
    refine own_st (fun t k => XS.goto X0.here hx rfl (pc0 := 63) (pc' := 8) rfl (hb hby own_d_jdk_65_method_59_63) (by decide) (by decide) k) ?_
    show own_E p e below _ s₁ (mkF m 8 #[rv a1, iv 0, iv 3, iv p1, iv 2, iv 2, iv 1, iv ea1] [])
    refine own_st (fun t k => XS.iload X0.here hx rfl (hb hby own_d_jdk_65_method_59_8) rfl k) ?_
    show own_E p e below _ s₁ (mkF m 10 #[rv a1, iv 0, iv 3, iv p1, iv 2, iv 2, iv 1, iv ea1] [.int 2])
    refine own_st (fun t k => XS.iload X0.here hx rfl (hb hby own_d_jdk_65_method_59_10) rfl k) ?_
    show own_E p e below _ s₁ (mkF m 12 #[rv a1, iv 0, iv 3, iv p1, iv 2, iv 2, iv 1, iv ea1] [.int 2, .int 2])
    refine own_st (fun t k => XS.icmpNo X0.here hx rfl (hb hby own_d_jdk_65_method_59_12) rfl (by decide) k) ?_
    show own_E p e below _ s₁ (mkF m 15 #[rv a1, iv 0, iv 3, iv p1, iv 2, iv 2, iv 1, iv ea1] [])
    refine own_st (fun t k => XS.iload X0.here hx rfl (hb hby own_d_jdk_65_method_59_15) rfl k) ?_
    show own_E p e below _ s₁ (mkF m 17 #[rv a1, iv 0, iv 3, iv p1, iv 2, iv 2, iv 1, iv ea1] [.int 2])
    refine own_st (fun t k => XS.iload X0.here hx rfl (hb hby own_d_jdk_65_method_59_17) rfl k) ?_
    show own_E p e below _ s₁ (mkF m 19 #[rv a1, iv 0, iv 3, iv p1, iv 2, iv 2, iv 1, iv ea1] [.int 2, .int 2])
    refine own_st (fun t k => XS.iadd X0.here hx rfl (hb hby own_d_jdk_65_method_59_19) rfl k) ?_
    show own_E p e below _ s₁ (mkF m 20 #[rv a1, iv 0, iv 3, iv p1, iv 2, iv 2, iv 1, iv ea1] [.int 4])
    refine own_st (fun t k => XS.iconst X0.here hx rfl (hb hby own_d_jdk_65_method_59_20) k) ?_
    show own_E p e below _ s₁ (mkF m 21 #[rv a1, iv 0, iv 3, iv p1, iv 2, iv 2, iv 1, iv ea1] [.int 1, .int 4])
    refine own_st (fun t k => XS.iushr X0.here hx rfl (hb hby own_d_jdk_65_method_59_21) rfl k) ?_
    show own_E p e below _ s₁ (mkF m 22 #[rv a1, iv 0, iv 3, iv p1, iv 2, iv 2, iv 1, iv ea1] [.int 2])
    refine own_st (fun t k => XS.istore X0.here hx rfl (hb hby own_d_jdk_65_method_59_22) rfl (l' := #[rv a1, iv 0, iv 3, iv p1, iv 2, iv 2, iv 2, iv ea1]) rfl k) ?_
    show own_E p e below _ s₁ (mkF m 24 #[rv a1, iv 0, iv 3, iv p1, iv 2, iv 2, iv 2, iv ea1] [])
    refine own_st (fun t k => XS.aloadN X0.here hx rfl (hb hby own_d_jdk_65_method_59_24) rfl rfl k) ?_
    show own_E p e below _ s₁ (mkF m 25 #[rv a1, iv 0, iv 3, iv p1, iv 2, iv 2, iv 2, iv ea1] [.ref a1])
    refine own_st (fun t k => XS.iload X0.here hx rfl (hb hby own_d_jdk_65_method_59_25) rfl k) ?_
    show own_E p e below _ s₁ (mkF m 27 #[rv a1, iv 0, iv 3, iv p1, iv 2, iv 2, iv 2, iv ea1] [.int 2, .ref a1])
    refine own_st (own_ald X0 hx hZ e0 V_a1 (j := (2 : Int32)) ⟨by decide, by decide⟩ (v := (.int ea2)) rfl (g := (mkF m 27 #[rv a1, iv 0, iv 3, iv p1, iv 2, iv 2, iv 2, iv ea1] [.int 2, .ref a1])) rfl rfl (hb hby own_d_jdk_65_method_59_27)) ?_
    show own_E p e below _ s₁ (mkF m 28 #[rv a1, iv 0, iv 3, iv p1, iv 2, iv 2, iv 2, iv ea1] [.int ea2])
    refine own_st (fun t k => XS.istore X0.here hx rfl (hb hby own_d_jdk_65_method_59_28) rfl (l' := #[rv a1, iv 0, iv 3, iv p1, iv 2, iv 2, iv 2, iv ea2]) rfl k) ?_
    show own_E p e below _ s₁ (mkF m 30 #[rv a1, iv 0, iv 3, iv p1, iv 2, iv 2, iv 2, iv ea2] [])
    refine own_st (fun t k => XS.iload X0.here hx rfl (hb hby own_d_jdk_65_method_59_30) rfl k) ?_
    show own_E p e below _ s₁ (mkF m 32 #[rv a1, iv 0, iv 3, iv p1, iv 2, iv 2, iv 2, iv ea2] [.int ea2])
    refine own_st (fun t k => XS.iloadN X0.here hx rfl (hb hby own_d_jdk_65_method_59_32) rfl k) ?_
    show own_E p e below _ s₁ (mkF m 33 #[rv a1, iv 0, iv 3, iv p1, iv 2, iv 2, iv 2, iv ea2] [.int p1, .int ea2])
    by_cases hc2 : ea2 < p1
    · refine own_st (fun t k => XS.icmpNo X0.here hx rfl (hb hby own_d_jdk_65_method_59_33) rfl (tlt hc2).2.1 k) ?_
      show own_E p e below _ s₁ (mkF m 36 #[rv a1, iv 0, iv 3, iv p1, iv 2, iv 2, iv 2, iv ea2] [])
      refine own_st (fun t k => XS.iload X0.here hx rfl (hb hby own_d_jdk_65_method_59_36) rfl k) ?_
      show own_E p e below _ s₁ (mkF m 38 #[rv a1, iv 0, iv 3, iv p1, iv 2, iv 2, iv 2, iv ea2] [.int 2])
      refine own_st (fun t k => XS.iconst X0.here hx rfl (hb hby own_d_jdk_65_method_59_38) k) ?_
      show own_E p e below _ s₁ (mkF m 39 #[rv a1, iv 0, iv 3, iv p1, iv 2, iv 2, iv 2, iv ea2] [.int 1, .int 2])
      refine own_st (fun t k => XS.iadd X0.here hx rfl (hb hby own_d_jdk_65_method_59_39) rfl k) ?_
      show own_E p e below _ s₁ (mkF m 40 #[rv a1, iv 0, iv 3, iv p1, iv 2, iv 2, iv 2, iv ea2] [.int 3])
      refine own_st (fun t k => XS.istore X0.here hx rfl (hb hby own_d_jdk_65_method_59_40) rfl (l' := #[rv a1, iv 0, iv 3, iv p1, iv 3, iv 2, iv 2, iv ea2]) rfl k) ?_
      show own_E p e below _ s₁ (mkF m 42 #[rv a1, iv 0, iv 3, iv p1, iv 3, iv 2, iv 2, iv ea2] [])
      refine own_st (fun t k => XS.goto X0.here hx rfl (pc0 := 42) (pc' := 63) rfl (hb hby own_d_jdk_65_method_59_42) (by decide) (by decide) k) ?_
      show own_E p e below _ s₁ (mkF m 63 #[rv a1, iv 0, iv 3, iv p1, iv 3, iv 2, iv 2, iv ea2] [])
      refine own_st (fun t k => XS.goto X0.here hx rfl (pc0 := 63) (pc' := 8) rfl (hb hby own_d_jdk_65_method_59_63) (by decide) (by decide) k) ?_
      show own_E p e below _ s₁ (mkF m 8 #[rv a1, iv 0, iv 3, iv p1, iv 3, iv 2, iv 2, iv ea2] [])
      refine own_st (fun t k => XS.iload X0.here hx rfl (hb hby own_d_jdk_65_method_59_8) rfl k) ?_
      show own_E p e below _ s₁ (mkF m 10 #[rv a1, iv 0, iv 3, iv p1, iv 3, iv 2, iv 2, iv ea2] [.int 3])
      refine own_st (fun t k => XS.iload X0.here hx rfl (hb hby own_d_jdk_65_method_59_10) rfl k) ?_
      show own_E p e below _ s₁ (mkF m 12 #[rv a1, iv 0, iv 3, iv p1, iv 3, iv 2, iv 2, iv ea2] [.int 2, .int 3])
      refine own_st (fun t k => XS.icmpYes X0.here hx rfl (pc0 := 12) (pc' := 66) rfl (hb hby own_d_jdk_65_method_59_12) rfl (by decide) (by decide) (by decide) k) ?_
      show own_E p e below _ s₁ (mkF m 66 #[rv a1, iv 0, iv 3, iv p1, iv 3, iv 2, iv 2, iv ea2] [])
      refine own_st (fun t k => XS.iload X0.here hx rfl (hb hby own_d_jdk_65_method_59_66) rfl k) ?_
      show own_E p e below _ s₁ (mkF m 68 #[rv a1, iv 0, iv 3, iv p1, iv 3, iv 2, iv 2, iv ea2] [.int 3])
      refine own_st (fun t k => XS.iconst X0.here hx rfl (hb hby own_d_jdk_65_method_59_68) k) ?_
      show own_E p e below _ s₁ (mkF m 69 #[rv a1, iv 0, iv 3, iv p1, iv 3, iv 2, iv 2, iv ea2] [.int 1, .int 3])
      refine own_st (fun t k => XS.iadd X0.here hx rfl (hb hby own_d_jdk_65_method_59_69) rfl k) ?_
      show own_E p e below _ s₁ (mkF m 70 #[rv a1, iv 0, iv 3, iv p1, iv 3, iv 2, iv 2, iv ea2] [.int 4])
      refine own_st (fun t k => XS.ineg X0.here hx rfl (hb hby own_d_jdk_65_method_59_70) rfl k) ?_
      show own_E p e below _ s₁ (mkF m 71 #[rv a1, iv 0, iv 3, iv p1, iv 3, iv 2, iv 2, iv ea2] [.int (-4)])
      refine own_retI X0 hx Bd.notSynchronized Bd.returns (hb hby own_d_jdk_65_method_59_71) (by decide) (by decide) ?_
      exact ⟨(Or.inl ⟨rfl, hc1, hc2⟩), e0, rfl⟩
    · refine own_st (fun t k => XS.icmpYes X0.here hx rfl (pc0 := 33) (pc' := 45) rfl (hb hby own_d_jdk_65_method_59_33) rfl (flt hc2).2.1 (by decide) (by decide) k) ?_
      show own_E p e below _ s₁ (mkF m 45 #[rv a1, iv 0, iv 3, iv p1, iv 2, iv 2, iv 2, iv ea2] [])
      refine own_st (fun t k => XS.iload X0.here hx rfl (hb hby own_d_jdk_65_method_59_45) rfl k) ?_
      show own_E p e below _ s₁ (mkF m 47 #[rv a1, iv 0, iv 3, iv p1, iv 2, iv 2, iv 2, iv ea2] [.int ea2])
      refine own_st (fun t k => XS.iloadN X0.here hx rfl (hb hby own_d_jdk_65_method_59_47) rfl k) ?_
      show own_E p e below _ s₁ (mkF m 48 #[rv a1, iv 0, iv 3, iv p1, iv 2, iv 2, iv 2, iv ea2] [.int p1, .int ea2])
      by_cases hc3 : p1 < ea2
      · refine own_st (fun t k => XS.icmpNo X0.here hx rfl (hb hby own_d_jdk_65_method_59_48) rfl (tlt hc3).2.2.2 k) ?_
        show own_E p e below _ s₁ (mkF m 51 #[rv a1, iv 0, iv 3, iv p1, iv 2, iv 2, iv 2, iv ea2] [])
        refine own_st (fun t k => XS.iload X0.here hx rfl (hb hby own_d_jdk_65_method_59_51) rfl k) ?_
        show own_E p e below _ s₁ (mkF m 53 #[rv a1, iv 0, iv 3, iv p1, iv 2, iv 2, iv 2, iv ea2] [.int 2])
        refine own_st (fun t k => XS.iconst X0.here hx rfl (hb hby own_d_jdk_65_method_59_53) k) ?_
        show own_E p e below _ s₁ (mkF m 54 #[rv a1, iv 0, iv 3, iv p1, iv 2, iv 2, iv 2, iv ea2] [.int 1, .int 2])
        refine own_st (fun t k => XS.isub X0.here hx rfl (hb hby own_d_jdk_65_method_59_54) rfl k) ?_
        show own_E p e below _ s₁ (mkF m 55 #[rv a1, iv 0, iv 3, iv p1, iv 2, iv 2, iv 2, iv ea2] [.int 1])
        refine own_st (fun t k => XS.istore X0.here hx rfl (hb hby own_d_jdk_65_method_59_55) rfl (l' := #[rv a1, iv 0, iv 3, iv p1, iv 2, iv 1, iv 2, iv ea2]) rfl k) ?_
        show own_E p e below _ s₁ (mkF m 57 #[rv a1, iv 0, iv 3, iv p1, iv 2, iv 1, iv 2, iv ea2] [])
        refine own_st (fun t k => XS.goto X0.here hx rfl (pc0 := 57) (pc' := 63) rfl (hb hby own_d_jdk_65_method_59_57) (by decide) (by decide) k) ?_
        show own_E p e below _ s₁ (mkF m 63 #[rv a1, iv 0, iv 3, iv p1, iv 2, iv 1, iv 2, iv ea2] [])
        refine own_st (fun t k => XS.goto X0.here hx rfl (pc0 := 63) (pc' := 8) rfl (hb hby own_d_jdk_65_method_59_63) (by decide) (by decide) k) ?_
        show own_E p e below _ s₁ (mkF m 8 #[rv a1, iv 0, iv 3, iv p1, iv 2, iv 1, iv 2, iv ea2] [])
        refine own_st (fun t k => XS.iload X0.here hx rfl (hb hby own_d_jdk_65_method_59_8) rfl k) ?_
        show own_E p e below _ s₁ (mkF m 10 #[rv a1, iv 0, iv 3, iv p1, iv 2, iv 1, iv 2, iv ea2] [.int 2])
        refine own_st (fun t k => XS.iload X0.here hx rfl (hb hby own_d_jdk_65_method_59_10) rfl k) ?_
        show own_E p e below _ s₁ (mkF m 12 #[rv a1, iv 0, iv 3, iv p1, iv 2, iv 1, iv 2, iv ea2] [.int 1, .int 2])
        refine own_st (fun t k => XS.icmpYes X0.here hx rfl (pc0 := 12) (pc' := 66) rfl (hb hby own_d_jdk_65_method_59_12) rfl (by decide) (by decide) (by decide) k) ?_
        show own_E p e below _ s₁ (mkF m 66 #[rv a1, iv 0, iv 3, iv p1, iv 2, iv 1, iv 2, iv ea2] [])
        refine own_st (fun t k => XS.iload X0.here hx rfl (hb hby own_d_jdk_65_method_59_66) rfl k) ?_
        show own_E p e below _ s₁ (mkF m 68 #[rv a1, iv 0, iv 3, iv p1, iv 2, iv 1, iv 2, iv ea2] [.int 2])
        refine own_st (fun t k => XS.iconst X0.here hx rfl (hb hby own_d_jdk_65_method_59_68) k) ?_
        show own_E p e below _ s₁ (mkF m 69 #[rv a1, iv 0, iv 3, iv p1, iv 2, iv 1, iv 2, iv ea2] [.int 1, .int 2])
        refine own_st (fun t k => XS.iadd X0.here hx rfl (hb hby own_d_jdk_65_method_59_69) rfl k) ?_
        show own_E p e below _ s₁ (mkF m 70 #[rv a1, iv 0, iv 3, iv p1, iv 2, iv 1, iv 2, iv ea2] [.int 3])
        refine own_st (fun t k => XS.ineg X0.here hx rfl (hb hby own_d_jdk_65_method_59_70) rfl k) ?_
        show own_E p e below _ s₁ (mkF m 71 #[rv a1, iv 0, iv 3, iv p1, iv 2, iv 1, iv 2, iv ea2] [.int (-3)])
        refine own_retI X0 hx Bd.notSynchronized Bd.returns (hb hby own_d_jdk_65_method_59_71) (by decide) (by decide) ?_
        exact ⟨(Or.inr (Or.inl ⟨rfl, hc1, hc2, hc3⟩)), e0, rfl⟩
      · refine own_st (fun t k => XS.icmpYes X0.here hx rfl (pc0 := 48) (pc' := 60) rfl (hb hby own_d_jdk_65_method_59_48) rfl (flt hc3).2.2.2 (by decide) (by decide) k) ?_
        show own_E p e below _ s₁ (mkF m 60 #[rv a1, iv 0, iv 3, iv p1, iv 2, iv 2, iv 2, iv ea2] [])
        refine own_st (fun t k => XS.iload X0.here hx rfl (hb hby own_d_jdk_65_method_59_60) rfl k) ?_
        show own_E p e below _ s₁ (mkF m 62 #[rv a1, iv 0, iv 3, iv p1, iv 2, iv 2, iv 2, iv ea2] [.int 2])
        refine own_retI X0 hx Bd.notSynchronized Bd.returns (hb hby own_d_jdk_65_method_59_62) (by decide) (by decide) ?_
        exact ⟨(Or.inr (Or.inr (Or.inl ⟨rfl, hc1, hc2, hc3⟩))), e0, rfl⟩
  · refine own_st (fun t k => XS.icmpYes X0.here hx rfl (pc0 := 33) (pc' := 45) rfl (hb hby own_d_jdk_65_method_59_33) rfl (flt hc1).2.1 (by decide) (by decide) k) ?_
    show own_E p e below _ s₁ (mkF m 45 #[rv a1, iv 0, iv 3, iv p1, iv 0, iv 2, iv 1, iv ea1] [])
    refine own_st (fun t k => XS.iload X0.here hx rfl (hb hby own_d_jdk_65_method_59_45) rfl k) ?_
    show own_E p e below _ s₁ (mkF m 47 #[rv a1, iv 0, iv 3, iv p1, iv 0, iv 2, iv 1, iv ea1] [.int ea1])
    refine own_st (fun t k => XS.iloadN X0.here hx rfl (hb hby own_d_jdk_65_method_59_47) rfl k) ?_
    show own_E p e below _ s₁ (mkF m 48 #[rv a1, iv 0, iv 3, iv p1, iv 0, iv 2, iv 1, iv ea1] [.int p1, .int ea1])
    by_cases hc4 : p1 < ea1
    · refine own_st (fun t k => XS.icmpNo X0.here hx rfl (hb hby own_d_jdk_65_method_59_48) rfl (tlt hc4).2.2.2 k) ?_
      show own_E p e below _ s₁ (mkF m 51 #[rv a1, iv 0, iv 3, iv p1, iv 0, iv 2, iv 1, iv ea1] [])
      refine own_st (fun t k => XS.iload X0.here hx rfl (hb hby own_d_jdk_65_method_59_51) rfl k) ?_
      show own_E p e below _ s₁ (mkF m 53 #[rv a1, iv 0, iv 3, iv p1, iv 0, iv 2, iv 1, iv ea1] [.int 1])
      refine own_st (fun t k => XS.iconst X0.here hx rfl (hb hby own_d_jdk_65_method_59_53) k) ?_
      show own_E p e below _ s₁ (mkF m 54 #[rv a1, iv 0, iv 3, iv p1, iv 0, iv 2, iv 1, iv ea1] [.int 1, .int 1])
      refine own_st (fun t k => XS.isub X0.here hx rfl (hb hby own_d_jdk_65_method_59_54) rfl k) ?_
      show own_E p e below _ s₁ (mkF m 55 #[rv a1, iv 0, iv 3, iv p1, iv 0, iv 2, iv 1, iv ea1] [.int 0])
      refine own_st (fun t k => XS.istore X0.here hx rfl (hb hby own_d_jdk_65_method_59_55) rfl (l' := #[rv a1, iv 0, iv 3, iv p1, iv 0, iv 0, iv 1, iv ea1]) rfl k) ?_
      show own_E p e below _ s₁ (mkF m 57 #[rv a1, iv 0, iv 3, iv p1, iv 0, iv 0, iv 1, iv ea1] [])
      refine own_st (fun t k => XS.goto X0.here hx rfl (pc0 := 57) (pc' := 63) rfl (hb hby own_d_jdk_65_method_59_57) (by decide) (by decide) k) ?_
      show own_E p e below _ s₁ (mkF m 63 #[rv a1, iv 0, iv 3, iv p1, iv 0, iv 0, iv 1, iv ea1] [])
      refine own_st (fun t k => XS.goto X0.here hx rfl (pc0 := 63) (pc' := 8) rfl (hb hby own_d_jdk_65_method_59_63) (by decide) (by decide) k) ?_
      show own_E p e below _ s₁ (mkF m 8 #[rv a1, iv 0, iv 3, iv p1, iv 0, iv 0, iv 1, iv ea1] [])
      refine own_st (fun t k => XS.iload X0.here hx rfl (hb hby own_d_jdk_65_method_59_8) rfl k) ?_
      show own_E p e below _ s₁ (mkF m 10 #[rv a1, iv 0, iv 3, iv p1, iv 0, iv 0, iv 1, iv ea1] [.int 0])
      refine own_st (fun t k => XS.iload X0.here hx rfl (hb hby own_d_jdk_65_method_59_10) rfl k) ?_
      show own_E p e below _ s₁ (mkF m 12 #[rv a1, iv 0, iv 3, iv p1, iv 0, iv 0, iv 1, iv ea1] [.int 0, .int 0])
      refine own_st (fun t k => XS.icmpNo X0.here hx rfl (hb hby own_d_jdk_65_method_59_12) rfl (by decide) k) ?_
      show own_E p e below _ s₁ (mkF m 15 #[rv a1, iv 0, iv 3, iv p1, iv 0, iv 0, iv 1, iv ea1] [])
      refine own_st (fun t k => XS.iload X0.here hx rfl (hb hby own_d_jdk_65_method_59_15) rfl k) ?_
      show own_E p e below _ s₁ (mkF m 17 #[rv a1, iv 0, iv 3, iv p1, iv 0, iv 0, iv 1, iv ea1] [.int 0])
      refine own_st (fun t k => XS.iload X0.here hx rfl (hb hby own_d_jdk_65_method_59_17) rfl k) ?_
      show own_E p e below _ s₁ (mkF m 19 #[rv a1, iv 0, iv 3, iv p1, iv 0, iv 0, iv 1, iv ea1] [.int 0, .int 0])
      refine own_st (fun t k => XS.iadd X0.here hx rfl (hb hby own_d_jdk_65_method_59_19) rfl k) ?_
      show own_E p e below _ s₁ (mkF m 20 #[rv a1, iv 0, iv 3, iv p1, iv 0, iv 0, iv 1, iv ea1] [.int 0])
      refine own_st (fun t k => XS.iconst X0.here hx rfl (hb hby own_d_jdk_65_method_59_20) k) ?_
      show own_E p e below _ s₁ (mkF m 21 #[rv a1, iv 0, iv 3, iv p1, iv 0, iv 0, iv 1, iv ea1] [.int 1, .int 0])
      refine own_st (fun t k => XS.iushr X0.here hx rfl (hb hby own_d_jdk_65_method_59_21) rfl k) ?_
      show own_E p e below _ s₁ (mkF m 22 #[rv a1, iv 0, iv 3, iv p1, iv 0, iv 0, iv 1, iv ea1] [.int 0])
      refine own_st (fun t k => XS.istore X0.here hx rfl (hb hby own_d_jdk_65_method_59_22) rfl (l' := #[rv a1, iv 0, iv 3, iv p1, iv 0, iv 0, iv 0, iv ea1]) rfl k) ?_
      show own_E p e below _ s₁ (mkF m 24 #[rv a1, iv 0, iv 3, iv p1, iv 0, iv 0, iv 0, iv ea1] [])
      refine own_st (fun t k => XS.aloadN X0.here hx rfl (hb hby own_d_jdk_65_method_59_24) rfl rfl k) ?_
      show own_E p e below _ s₁ (mkF m 25 #[rv a1, iv 0, iv 3, iv p1, iv 0, iv 0, iv 0, iv ea1] [.ref a1])
      refine own_st (fun t k => XS.iload X0.here hx rfl (hb hby own_d_jdk_65_method_59_25) rfl k) ?_
      show own_E p e below _ s₁ (mkF m 27 #[rv a1, iv 0, iv 3, iv p1, iv 0, iv 0, iv 0, iv ea1] [.int 0, .ref a1])
      refine own_st (own_ald X0 hx hZ e0 V_a1 (j := (0 : Int32)) ⟨by decide, by decide⟩ (v := (.int ea0)) rfl (g := (mkF m 27 #[rv a1, iv 0, iv 3, iv p1, iv 0, iv 0, iv 0, iv ea1] [.int 0, .ref a1])) rfl rfl (hb hby own_d_jdk_65_method_59_27)) ?_
      show own_E p e below _ s₁ (mkF m 28 #[rv a1, iv 0, iv 3, iv p1, iv 0, iv 0, iv 0, iv ea1] [.int ea0])
      refine own_st (fun t k => XS.istore X0.here hx rfl (hb hby own_d_jdk_65_method_59_28) rfl (l' := #[rv a1, iv 0, iv 3, iv p1, iv 0, iv 0, iv 0, iv ea0]) rfl k) ?_
      show own_E p e below _ s₁ (mkF m 30 #[rv a1, iv 0, iv 3, iv p1, iv 0, iv 0, iv 0, iv ea0] [])
      refine own_st (fun t k => XS.iload X0.here hx rfl (hb hby own_d_jdk_65_method_59_30) rfl k) ?_
      show own_E p e below _ s₁ (mkF m 32 #[rv a1, iv 0, iv 3, iv p1, iv 0, iv 0, iv 0, iv ea0] [.int ea0])
      refine own_st (fun t k => XS.iloadN X0.here hx rfl (hb hby own_d_jdk_65_method_59_32) rfl k) ?_
      show own_E p e below _ s₁ (mkF m 33 #[rv a1, iv 0, iv 3, iv p1, iv 0, iv 0, iv 0, iv ea0] [.int p1, .int ea0])
      by_cases hc5 : ea0 < p1
      · refine own_st (fun t k => XS.icmpNo X0.here hx rfl (hb hby own_d_jdk_65_method_59_33) rfl (tlt hc5).2.1 k) ?_
        show own_E p e below _ s₁ (mkF m 36 #[rv a1, iv 0, iv 3, iv p1, iv 0, iv 0, iv 0, iv ea0] [])
        refine own_st (fun t k => XS.iload X0.here hx rfl (hb hby own_d_jdk_65_method_59_36) rfl k) ?_
        show own_E p e below _ s₁ (mkF m 38 #[rv a1, iv 0, iv 3, iv p1, iv 0, iv 0, iv 0, iv ea0] [.int 0])
        refine own_st (fun t k => XS.iconst X0.here hx rfl (hb hby own_d_jdk_65_method_59_38) k) ?_
        show own_E p e below _ s₁ (mkF m 39 #[rv a1, iv 0, iv 3, iv p1, iv 0, iv 0, iv 0, iv ea0] [.int 1, .int 0])
        refine own_st (fun t k => XS.iadd X0.here hx rfl (hb hby own_d_jdk_65_method_59_39) rfl k) ?_
        show own_E p e below _ s₁ (mkF m 40 #[rv a1, iv 0, iv 3, iv p1, iv 0, iv 0, iv 0, iv ea0] [.int 1])
        refine own_st (fun t k => XS.istore X0.here hx rfl (hb hby own_d_jdk_65_method_59_40) rfl (l' := #[rv a1, iv 0, iv 3, iv p1, iv 1, iv 0, iv 0, iv ea0]) rfl k) ?_
        show own_E p e below _ s₁ (mkF m 42 #[rv a1, iv 0, iv 3, iv p1, iv 1, iv 0, iv 0, iv ea0] [])
        refine own_st (fun t k => XS.goto X0.here hx rfl (pc0 := 42) (pc' := 63) rfl (hb hby own_d_jdk_65_method_59_42) (by decide) (by decide) k) ?_
        show own_E p e below _ s₁ (mkF m 63 #[rv a1, iv 0, iv 3, iv p1, iv 1, iv 0, iv 0, iv ea0] [])
        refine own_st (fun t k => XS.goto X0.here hx rfl (pc0 := 63) (pc' := 8) rfl (hb hby own_d_jdk_65_method_59_63) (by decide) (by decide) k) ?_
        show own_E p e below _ s₁ (mkF m 8 #[rv a1, iv 0, iv 3, iv p1, iv 1, iv 0, iv 0, iv ea0] [])
        refine own_st (fun t k => XS.iload X0.here hx rfl (hb hby own_d_jdk_65_method_59_8) rfl k) ?_
        show own_E p e below _ s₁ (mkF m 10 #[rv a1, iv 0, iv 3, iv p1, iv 1, iv 0, iv 0, iv ea0] [.int 1])
        refine own_st (fun t k => XS.iload X0.here hx rfl (hb hby own_d_jdk_65_method_59_10) rfl k) ?_
        show own_E p e below _ s₁ (mkF m 12 #[rv a1, iv 0, iv 3, iv p1, iv 1, iv 0, iv 0, iv ea0] [.int 0, .int 1])
        refine own_st (fun t k => XS.icmpYes X0.here hx rfl (pc0 := 12) (pc' := 66) rfl (hb hby own_d_jdk_65_method_59_12) rfl (by decide) (by decide) (by decide) k) ?_
        show own_E p e below _ s₁ (mkF m 66 #[rv a1, iv 0, iv 3, iv p1, iv 1, iv 0, iv 0, iv ea0] [])
        refine own_st (fun t k => XS.iload X0.here hx rfl (hb hby own_d_jdk_65_method_59_66) rfl k) ?_
        show own_E p e below _ s₁ (mkF m 68 #[rv a1, iv 0, iv 3, iv p1, iv 1, iv 0, iv 0, iv ea0] [.int 1])
        refine own_st (fun t k => XS.iconst X0.here hx rfl (hb hby own_d_jdk_65_method_59_68) k) ?_
        show own_E p e below _ s₁ (mkF m 69 #[rv a1, iv 0, iv 3, iv p1, iv 1, iv 0, iv 0, iv ea0] [.int 1, .int 1])
        refine own_st (fun t k => XS.iadd X0.here hx rfl (hb hby own_d_jdk_65_method_59_69) rfl k) ?_
        show own_E p e below _ s₁ (mkF m 70 #[rv a1, iv 0, iv 3, iv p1, iv 1, iv 0, iv 0, iv ea0] [.int 2])
        refine own_st (fun t k => XS.ineg X0.here hx rfl (hb hby own_d_jdk_65_method_59_70) rfl k) ?_
        show own_E p e below _ s₁ (mkF m 71 #[rv a1, iv 0, iv 3, iv p1, iv 1, iv 0, iv 0, iv ea0] [.int (-2)])
        refine own_retI X0 hx Bd.notSynchronized Bd.returns (hb hby own_d_jdk_65_method_59_71) (by decide) (by decide) ?_
        exact ⟨(Or.inr (Or.inr (Or.inr (Or.inl ⟨rfl, hc1, hc4, hc5⟩)))), e0, rfl⟩
      · refine own_st (fun t k => XS.icmpYes X0.here hx rfl (pc0 := 33) (pc' := 45) rfl (hb hby own_d_jdk_65_method_59_33) rfl (flt hc5).2.1 (by decide) (by decide) k) ?_
        show own_E p e below _ s₁ (mkF m 45 #[rv a1, iv 0, iv 3, iv p1, iv 0, iv 0, iv 0, iv ea0] [])
        refine own_st (fun t k => XS.iload X0.here hx rfl (hb hby own_d_jdk_65_method_59_45) rfl k) ?_
        show own_E p e below _ s₁ (mkF m 47 #[rv a1, iv 0, iv 3, iv p1, iv 0, iv 0, iv 0, iv ea0] [.int ea0])
        refine own_st (fun t k => XS.iloadN X0.here hx rfl (hb hby own_d_jdk_65_method_59_47) rfl k) ?_
        show own_E p e below _ s₁ (mkF m 48 #[rv a1, iv 0, iv 3, iv p1, iv 0, iv 0, iv 0, iv ea0] [.int p1, .int ea0])
        by_cases hc6 : p1 < ea0
        · refine own_st (fun t k => XS.icmpNo X0.here hx rfl (hb hby own_d_jdk_65_method_59_48) rfl (tlt hc6).2.2.2 k) ?_
          show own_E p e below _ s₁ (mkF m 51 #[rv a1, iv 0, iv 3, iv p1, iv 0, iv 0, iv 0, iv ea0] [])
          refine own_st (fun t k => XS.iload X0.here hx rfl (hb hby own_d_jdk_65_method_59_51) rfl k) ?_
          show own_E p e below _ s₁ (mkF m 53 #[rv a1, iv 0, iv 3, iv p1, iv 0, iv 0, iv 0, iv ea0] [.int 0])
          refine own_st (fun t k => XS.iconst X0.here hx rfl (hb hby own_d_jdk_65_method_59_53) k) ?_
          show own_E p e below _ s₁ (mkF m 54 #[rv a1, iv 0, iv 3, iv p1, iv 0, iv 0, iv 0, iv ea0] [.int 1, .int 0])
          refine own_st (fun t k => XS.isub X0.here hx rfl (hb hby own_d_jdk_65_method_59_54) rfl k) ?_
          show own_E p e below _ s₁ (mkF m 55 #[rv a1, iv 0, iv 3, iv p1, iv 0, iv 0, iv 0, iv ea0] [.int (-1)])
          refine own_st (fun t k => XS.istore X0.here hx rfl (hb hby own_d_jdk_65_method_59_55) rfl (l' := #[rv a1, iv 0, iv 3, iv p1, iv 0, iv (-1), iv 0, iv ea0]) rfl k) ?_
          show own_E p e below _ s₁ (mkF m 57 #[rv a1, iv 0, iv 3, iv p1, iv 0, iv (-1), iv 0, iv ea0] [])
          refine own_st (fun t k => XS.goto X0.here hx rfl (pc0 := 57) (pc' := 63) rfl (hb hby own_d_jdk_65_method_59_57) (by decide) (by decide) k) ?_
          show own_E p e below _ s₁ (mkF m 63 #[rv a1, iv 0, iv 3, iv p1, iv 0, iv (-1), iv 0, iv ea0] [])
          refine own_st (fun t k => XS.goto X0.here hx rfl (pc0 := 63) (pc' := 8) rfl (hb hby own_d_jdk_65_method_59_63) (by decide) (by decide) k) ?_
          show own_E p e below _ s₁ (mkF m 8 #[rv a1, iv 0, iv 3, iv p1, iv 0, iv (-1), iv 0, iv ea0] [])
          refine own_st (fun t k => XS.iload X0.here hx rfl (hb hby own_d_jdk_65_method_59_8) rfl k) ?_
          show own_E p e below _ s₁ (mkF m 10 #[rv a1, iv 0, iv 3, iv p1, iv 0, iv (-1), iv 0, iv ea0] [.int 0])
          refine own_st (fun t k => XS.iload X0.here hx rfl (hb hby own_d_jdk_65_method_59_10) rfl k) ?_
          show own_E p e below _ s₁ (mkF m 12 #[rv a1, iv 0, iv 3, iv p1, iv 0, iv (-1), iv 0, iv ea0] [.int (-1), .int 0])
          refine own_st (fun t k => XS.icmpYes X0.here hx rfl (pc0 := 12) (pc' := 66) rfl (hb hby own_d_jdk_65_method_59_12) rfl (by decide) (by decide) (by decide) k) ?_
          show own_E p e below _ s₁ (mkF m 66 #[rv a1, iv 0, iv 3, iv p1, iv 0, iv (-1), iv 0, iv ea0] [])
          refine own_st (fun t k => XS.iload X0.here hx rfl (hb hby own_d_jdk_65_method_59_66) rfl k) ?_
          show own_E p e below _ s₁ (mkF m 68 #[rv a1, iv 0, iv 3, iv p1, iv 0, iv (-1), iv 0, iv ea0] [.int 0])
          refine own_st (fun t k => XS.iconst X0.here hx rfl (hb hby own_d_jdk_65_method_59_68) k) ?_
          show own_E p e below _ s₁ (mkF m 69 #[rv a1, iv 0, iv 3, iv p1, iv 0, iv (-1), iv 0, iv ea0] [.int 1, .int 0])
          refine own_st (fun t k => XS.iadd X0.here hx rfl (hb hby own_d_jdk_65_method_59_69) rfl k) ?_
          show own_E p e below _ s₁ (mkF m 70 #[rv a1, iv 0, iv 3, iv p1, iv 0, iv (-1), iv 0, iv ea0] [.int 1])
          refine own_st (fun t k => XS.ineg X0.here hx rfl (hb hby own_d_jdk_65_method_59_70) rfl k) ?_
          show own_E p e below _ s₁ (mkF m 71 #[rv a1, iv 0, iv 3, iv p1, iv 0, iv (-1), iv 0, iv ea0] [.int (-1)])
          refine own_retI X0 hx Bd.notSynchronized Bd.returns (hb hby own_d_jdk_65_method_59_71) (by decide) (by decide) ?_
          exact ⟨(Or.inr (Or.inr (Or.inr (Or.inr (Or.inl ⟨rfl, hc1, hc4, hc5, hc6⟩))))), e0, rfl⟩
        · refine own_st (fun t k => XS.icmpYes X0.here hx rfl (pc0 := 48) (pc' := 60) rfl (hb hby own_d_jdk_65_method_59_48) rfl (flt hc6).2.2.2 (by decide) (by decide) k) ?_
          show own_E p e below _ s₁ (mkF m 60 #[rv a1, iv 0, iv 3, iv p1, iv 0, iv 0, iv 0, iv ea0] [])
          refine own_st (fun t k => XS.iload X0.here hx rfl (hb hby own_d_jdk_65_method_59_60) rfl k) ?_
          show own_E p e below _ s₁ (mkF m 62 #[rv a1, iv 0, iv 3, iv p1, iv 0, iv 0, iv 0, iv ea0] [.int 0])
          refine own_retI X0 hx Bd.notSynchronized Bd.returns (hb hby own_d_jdk_65_method_59_62) (by decide) (by decide) ?_
          exact ⟨(Or.inr (Or.inr (Or.inr (Or.inr (Or.inr (Or.inl ⟨rfl, hc1, hc4, hc5, hc6⟩)))))), e0, rfl⟩
    · refine own_st (fun t k => XS.icmpYes X0.here hx rfl (pc0 := 48) (pc' := 60) rfl (hb hby own_d_jdk_65_method_59_48) rfl (flt hc4).2.2.2 (by decide) (by decide) k) ?_
      show own_E p e below _ s₁ (mkF m 60 #[rv a1, iv 0, iv 3, iv p1, iv 0, iv 2, iv 1, iv ea1] [])
      refine own_st (fun t k => XS.iload X0.here hx rfl (hb hby own_d_jdk_65_method_59_60) rfl k) ?_
      show own_E p e below _ s₁ (mkF m 62 #[rv a1, iv 0, iv 3, iv p1, iv 0, iv 2, iv 1, iv ea1] [.int 1])
      refine own_retI X0 hx Bd.notSynchronized Bd.returns (hb hby own_d_jdk_65_method_59_62) (by decide) (by decide) ?_
      exact ⟨(Or.inr (Or.inr (Or.inr (Or.inr (Or.inr (Or.inr ⟨rfl, hc1, hc4⟩)))))), e0, rfl⟩
def own_bs_3_Q (a1 : Addr) (kc1 : ClassId) (p1 : Int32) (ea0 : Int32) (ea1 : Int32) (ea2 : Int32) (ea3 : Int32) (h0 : Heap) (v : Option Value) (h : Heap) (L : List Loc) : Prop := ((v = some (.int (-4 : Int32)) ∧ ea1 < p1 ∧ ea2 < p1) ∨ (v = some (.int (-3 : Int32)) ∧ ea1 < p1 ∧ ¬ (ea2 < p1) ∧ p1 < ea2) ∨ (v = some (.int (2 : Int32)) ∧ ea1 < p1 ∧ ¬ (ea2 < p1) ∧ ¬ (p1 < ea2)) ∨ (v = some (.int (-2 : Int32)) ∧ ¬ (ea1 < p1) ∧ p1 < ea1 ∧ ea0 < p1) ∨ (v = some (.int (-1 : Int32)) ∧ ¬ (ea1 < p1) ∧ p1 < ea1 ∧ ¬ (ea0 < p1) ∧ p1 < ea0) ∨ (v = some (.int (0 : Int32)) ∧ ¬ (ea1 < p1) ∧ p1 < ea1 ∧ ¬ (ea0 < p1) ∧ ¬ (p1 < ea0)) ∨ (v = some (.int (1 : Int32)) ∧ ¬ (ea1 < p1) ∧ ¬ (p1 < ea1))) ∧ h = h0 ∧ L = []
theorem own_bs_3_ef (m : MethodId) (a1 : Addr) (kc1 : ClassId) (p1 : Int32) (ea0 : Int32) (ea1 : Int32) (ea2 : Int32) (ea3 : Int32) : entryFrame m #[(.ref a1), (.int (0 : Int32)), (.int (3 : Int32)), (.int p1)] 4 = mkF m 0 #[.val (.ref a1), .val (.int (0 : Int32)), .val (.int (3 : Int32)), .val (.int p1)] [] := by first | (simp [entryFrame, mkF, argsToLocals, Value.category]; done) | rfl
set_option maxRecDepth 65536 in
set_option maxHeartbeats 40000000 in
theorem own_bs_3 (l : Launch) (Z : State) (a0 : Array Value) (hw : ∀ d ∈ tables_1, d.before a0 Z = true) (ws : List Jvm.Cond) (a1 : Addr) (kc1 : ClassId) (p1 : Int32) (ea0 : Int32) (ea1 : Int32) (ea2 : Int32) (ea3 : Int32) (h0 : Heap) (n0 : Nat) (Z0 : n0 ≤ h0.size) (V_a1 : Arv Z h0 a1 kc1 .int (4 : Int32) [(.int ea0), (.int ea1), (.int ea2), (.int ea3)] (.int (0 : Int32))) :
    MetFree l own_y7 (head1 (Jvm.Cond.code own_y7 jdk_65_method_58_code 4 (some .int) :: ws) ({ frames := 1, cells := 0, slots := 0, locals := 19 } : Room)) (fun a U => a = #[(.ref a1), (.int (0 : Int32)), (.int (3 : Int32)), (.int p1)] ∧ Z.Warmed39 U.vm ∧ U.heap = h0) (fun _ _ _ _ _ => True) (fun _ U o U' => ∃ v L, o = .returned v ∧ own_bs_3_Q a1 kc1 p1 ea0 ea1 ea2 ea3 h0 v U'.heap L ∧ FrameEnd U o U' L ({ frames := 1, cells := 0, slots := 0, locals := 19 } : Room).cells ({ frames := 1, cells := 0, slots := 0, locals := 19 } : Room).slots) := by
  refine MetFree.of_bodySF (plainFor_of_name own_pn_Arrays) hisR ?_
  intro p e s m args below meth c s₁ Bd hml0 hP hK
  obtain ⟨rfl, hZ, hh⟩ := hP
  have hx := Bd.exec
  have hby := Bd.bytes
  have hml : c.maxLocals = 4 := hml0
  have hown : s.vm.findClass "java/util/Arrays" = some m.cls := findClass_of_methodNamed Bd.named
  have hnm := (name_of_methodNamed Bd.named Bd.method).1
  have X0 : Stand p l e ({ frames := 1, cells := 0, slots := 0, locals := 19 } : Room) s m #[(.ref a1), (.int (0 : Int32)), (.int (3 : Int32)), (.int p1)] below meth c s₁ [] 0 0 := Stand.of_body Bd
  have e0 : s₁.heap = h0 := by rw [← hh, Bd.state]; rfl
  show own_E p e below (own_K (own_bs_3_Q a1 kc1 p1 ea0 ea1 ea2 ea3 h0) s ({ frames := 1, cells := 0, slots := 0, locals := 19 } : Room).cells ({ frames := 1, cells := 0, slots := 0, locals := 19 } : Room).slots) s₁ (entryFrame m #[(.ref a1), (.int (0 : Int32)), (.int (3 : Int32)), (.int p1)] 4)
  refine own_pre (own_bs_3_ef m a1 kc1 p1 ea0 ea1 ea2 ea3) ?_
  show own_E p e below _ s₁ (mkF m 0 #[rv a1, iv 0, iv 3, iv p1] [])
  refine own_st (fun t k => XS.aloadN X0.here hx rfl (hb hby own_d_jdk_65_method_58_0) rfl rfl k) ?_
  show own_E p e below _ s₁ (mkF m 1 #[rv a1, iv 0, iv 3, iv p1] [.ref a1])
  refine own_st (own_alen X0 hx hZ e0 V_a1 (g := (mkF m 1 #[rv a1, iv 0, iv 3, iv p1] [.ref a1])) rfl rfl (hb hby own_d_jdk_65_method_58_1)) ?_
  show own_E p e below _ s₁ (mkF m 2 #[rv a1, iv 0, iv 3, iv p1] [.int 4])
  refine own_st (fun t k => XS.iloadN X0.here hx rfl (hb hby own_d_jdk_65_method_58_2) rfl k) ?_
  show own_E p e below _ s₁ (mkF m 3 #[rv a1, iv 0, iv 3, iv p1] [.int 0, .int 4])
  refine own_st (fun t k => XS.iloadN X0.here hx rfl (hb hby own_d_jdk_65_method_58_3) rfl k) ?_
  show own_E p e below _ s₁ (mkF m 4 #[rv a1, iv 0, iv 3, iv p1] [.int 3, .int 0, .int 4])
  obtain ⟨_, _, ⟨T1, L1, k1, n1⟩, -, X1, ⟨Lc1, hQ1, l1, y1, z1⟩, st1⟩ := Jvm.LawKit.callS X0 hx (y := own_y5) hown (mvT hZ (own_w hw 51 rfl)) (mvT hZ (own_w hw 52 rfl)) (mvT hZ (own_w hw 36 rfl)) (mvT hZ (own_w hw 53 rfl)) (by decide) (backOf (W := 0) (own_range3 l Z a0 hw []  h0 n0 Z0 ) hZ (own_w hw 53 rfl) (own_w hw 36 rfl) (by decide) (by decide)) (g := (mkF m 4 #[rv a1, iv 0, iv 3, iv p1] [.int 3, .int 0, .int 4])) rfl (by rw [hml]; rfl) (argsL := [(.int (4 : Int32)), (.int (0 : Int32)), (.int (3 : Int32))]) (rest := []) (lenOf own_pd_3 rfl) rfl (by show 2 * 0 + _ ≤ _; exact Nat.le_of_eq rfl) (hb hby own_d_jdk_65_method_58_4) (fun _ _ => ⟨rfl, e0, (by decide : 0 + 0 ≤ _), (by decide : 0 + 0 ≤ _)⟩)
  dsimp only [Pt.U, Pt.locs, Pt.cells, Pt.slots] at X1 l1 y1 z1 st1 hQ1
  subst l1 y1 z1
  obtain ⟨hR1, e1, rfl⟩ := hQ1
  have N1 := Fr.app (Fr.nil n0) (Fr.nil n0)
  obtain rfl := hR1
  refine own_st st1 ?_
  show own_E p e below _ T1 (mkF m 7 #[rv a1, iv 0, iv 3, iv p1] [])
  refine own_st (fun t k => XS.aloadN X1.here hx rfl (hb hby own_d_jdk_65_method_58_7) rfl rfl k) ?_
  show own_E p e below _ T1 (mkF m 8 #[rv a1, iv 0, iv 3, iv p1] [.ref a1])
  refine own_st (fun t k => XS.iloadN X1.here hx rfl (hb hby own_d_jdk_65_method_58_8) rfl k) ?_
  show own_E p e below _ T1 (mkF m 9 #[rv a1, iv 0, iv 3, iv p1] [.int 0, .ref a1])
  refine own_st (fun t k => XS.iloadN X1.here hx rfl (hb hby own_d_jdk_65_method_58_9) rfl k) ?_
  show own_E p e below _ T1 (mkF m 10 #[rv a1, iv 0, iv 3, iv p1] [.int 3, .int 0, .ref a1])
  refine own_st (fun t k => XS.iloadN X1.here hx rfl (hb hby own_d_jdk_65_method_58_10) rfl k) ?_
  show own_E p e below _ T1 (mkF m 11 #[rv a1, iv 0, iv 3, iv p1] [.int p1, .int 3, .int 0, .ref a1])
  obtain ⟨_, _, ⟨T2, L2, k2, n2⟩, -, X2, ⟨Lc2, hQ2, l2, y2, z2⟩, st2⟩ := Jvm.LawKit.callS X1 hx (y := own_y6) hown (mvT hZ (own_w hw 54 rfl)) (mvT hZ (own_w hw 55 rfl)) (mvT hZ (own_w hw 36 rfl)) (mvT hZ (own_w hw 56 rfl)) (by decide) (backOf (W := 0) (own_bs0_3 l Z a0 hw [] a1 kc1 p1 ea0 ea1 ea2 ea3 h0 n0 Z0 V_a1) hZ (own_w hw 56 rfl) (own_w hw 36 rfl) (by decide) (by decide)) (g := (mkF m 11 #[rv a1, iv 0, iv 3, iv p1] [.int p1, .int 3, .int 0, .ref a1])) rfl (by rw [hml]; rfl) (argsL := [(.ref a1), (.int (0 : Int32)), (.int (3 : Int32)), (.int p1)]) (rest := []) (lenOf own_pd_7 rfl) rfl (by show 2 * 0 + _ ≤ _; exact Nat.le_of_eq rfl) (hb hby own_d_jdk_65_method_58_11) (fun _ _ => ⟨rfl, e1, (by decide : 0 + 0 ≤ _), (by decide : 0 + 0 ≤ _)⟩)
  dsimp only [Pt.U, Pt.locs, Pt.cells, Pt.slots] at X2 l2 y2 z2 st2 hQ2
  subst l2 y2 z2
  obtain ⟨hR2, e2, rfl⟩ := hQ2
  have N2 := Fr.app N1 (Fr.nil n0)
  rcases hR2 with ⟨rfl, ha2_0, ha2_1⟩ | ⟨rfl, ha2_0, ha2_1, ha2_2⟩ | ⟨rfl, ha2_0, ha2_1, ha2_2⟩ | ⟨rfl, ha2_0, ha2_1, ha2_2⟩ | ⟨rfl, ha2_0, ha2_1, ha2_2, ha2_3⟩ | ⟨rfl, ha2_0, ha2_1, ha2_2, ha2_3⟩ | ⟨rfl, ha2_0, ha2_1⟩
  · refine own_st st2 ?_
    show own_E p e below _ T2 (mkF m 14 #[rv a1, iv 0, iv 3, iv p1] [.int (-4)])
    refine own_retI X2 hx Bd.notSynchronized Bd.returns (hb hby own_d_jdk_65_method_58_14) (by decide) (by decide) ?_
    exact ⟨(Or.inl ⟨rfl, ha2_0, ha2_1⟩), e2, rfl⟩
  · refine own_st st2 ?_
    show own_E p e below _ T2 (mkF m 14 #[rv a1, iv 0, iv 3, iv p1] [.int (-3)])
    refine own_retI X2 hx Bd.notSynchronized Bd.returns (hb hby own_d_jdk_65_method_58_14) (by decide) (by decide) ?_
    exact ⟨(Or.inr (Or.inl ⟨rfl, ha2_0, ha2_1, ha2_2⟩)), e2, rfl⟩
  · refine own_st st2 ?_
    show own_E p e below _ T2 (mkF m 14 #[rv a1, iv 0, iv 3, iv p1] [.int 2])
    refine own_retI X2 hx Bd.notSynchronized Bd.returns (hb hby own_d_jdk_65_method_58_14) (by decide) (by decide) ?_
    exact ⟨(Or.inr (Or.inr (Or.inl ⟨rfl, ha2_0, ha2_1, ha2_2⟩))), e2, rfl⟩
  · refine own_st st2 ?_
    show own_E p e below _ T2 (mkF m 14 #[rv a1, iv 0, iv 3, iv p1] [.int (-2)])
    refine own_retI X2 hx Bd.notSynchronized Bd.returns (hb hby own_d_jdk_65_method_58_14) (by decide) (by decide) ?_
    exact ⟨(Or.inr (Or.inr (Or.inr (Or.inl ⟨rfl, ha2_0, ha2_1, ha2_2⟩)))), e2, rfl⟩
  · refine own_st st2 ?_
    show own_E p e below _ T2 (mkF m 14 #[rv a1, iv 0, iv 3, iv p1] [.int (-1)])
    refine own_retI X2 hx Bd.notSynchronized Bd.returns (hb hby own_d_jdk_65_method_58_14) (by decide) (by decide) ?_
    exact ⟨(Or.inr (Or.inr (Or.inr (Or.inr (Or.inl ⟨rfl, ha2_0, ha2_1, ha2_2, ha2_3⟩))))), e2, rfl⟩
  · refine own_st st2 ?_
    show own_E p e below _ T2 (mkF m 14 #[rv a1, iv 0, iv 3, iv p1] [.int 0])
    refine own_retI X2 hx Bd.notSynchronized Bd.returns (hb hby own_d_jdk_65_method_58_14) (by decide) (by decide) ?_
    exact ⟨(Or.inr (Or.inr (Or.inr (Or.inr (Or.inr (Or.inl ⟨rfl, ha2_0, ha2_1, ha2_2, ha2_3⟩)))))), e2, rfl⟩
  · refine own_st st2 ?_
    show own_E p e below _ T2 (mkF m 14 #[rv a1, iv 0, iv 3, iv p1] [.int 1])
    refine own_retI X2 hx Bd.notSynchronized Bd.returns (hb hby own_d_jdk_65_method_58_14) (by decide) (by decide) ?_
    exact ⟨(Or.inr (Or.inr (Or.inr (Or.inr (Or.inr (Or.inr ⟨rfl, ha2_0, ha2_1⟩)))))), e2, rfl⟩
def own_freq3_Q (a1 : Addr) (a2 : Addr) (a3 : Addr) (kc1 : ClassId) (kc2 : ClassId) (p1 : Int32) (ea0 : Int32) (ea1 : Int32) (ea2 : Int32) (ea3 : Int32) (eb0 : Int32) (eb1 : Int32) (eb2 : Int32) (eb3 : Int32) (h0 : Heap) (v : Option Value) (h : Heap) (L : List Loc) : Prop := ((v = some (.int (0 : Int32)) ∧ ea1 < p1 ∧ ea2 < p1) ∨ (v = some (.int (0 : Int32)) ∧ ea1 < p1 ∧ ¬ (ea2 < p1) ∧ p1 < ea2) ∨ (v = some (.int eb2) ∧ ea1 < p1 ∧ ¬ (ea2 < p1) ∧ ¬ (p1 < ea2)) ∨ (v = some (.int (0 : Int32)) ∧ ¬ (ea1 < p1) ∧ p1 < ea1 ∧ ea0 < p1) ∨ (v = some (.int (0 : Int32)) ∧ ¬ (ea1 < p1) ∧ p1 < ea1 ∧ ¬ (ea0 < p1) ∧ p1 < ea0) ∨ (v = some (.int eb0) ∧ ¬ (ea1 < p1) ∧ p1 < ea1 ∧ ¬ (ea0 < p1) ∧ ¬ (p1 < ea0)) ∨ (v = some (.int eb1) ∧ ¬ (ea1 < p1) ∧ ¬ (p1 < ea1))) ∧ h = h0 ∧ L = []
theorem own_freq3_ef (m : MethodId) (a1 : Addr) (a2 : Addr) (a3 : Addr) (kc1 : ClassId) (kc2 : ClassId) (p1 : Int32) (ea0 : Int32) (ea1 : Int32) (ea2 : Int32) (ea3 : Int32) (eb0 : Int32) (eb1 : Int32) (eb2 : Int32) (eb3 : Int32) : entryFrame m #[(.ref a1), (.int p1)] 3 = mkF m 0 #[.val (.ref a1), .val (.int p1), .unset] [] := by first | (simp [entryFrame, mkF, argsToLocals, Value.category]; done) | rfl
set_option maxRecDepth 65536 in
set_option maxHeartbeats 40000000 in
theorem own_freq3 (l : Launch) (Z : State) (a0 : Array Value) (hw : ∀ d ∈ tables_1, d.before a0 Z = true) (ws : List Jvm.Cond) (a1 : Addr) (a2 : Addr) (a3 : Addr) (kc1 : ClassId) (kc2 : ClassId) (p1 : Int32) (ea0 : Int32) (ea1 : Int32) (ea2 : Int32) (ea3 : Int32) (eb0 : Int32) (eb1 : Int32) (eb2 : Int32) (eb3 : Int32) (h0 : Heap) (n0 : Nat) (Z0 : n0 ≤ h0.size) (F_documents_a1 : Fld Z h0 a1 "com/example/lean_scorer/leanscorer/Postings" "documents" "[I" (.ref a2)) (F_frequencies_a1 : Fld Z h0 a1 "com/example/lean_scorer/leanscorer/Postings" "frequencies" "[I" (.ref a3)) (F_size_a1 : Fld Z h0 a1 "com/example/lean_scorer/leanscorer/Postings" "size" "I" (.int (3 : Int32))) (V_a2 : Arv Z h0 a2 kc1 .int (4 : Int32) [(.int ea0), (.int ea1), (.int ea2), (.int ea3)] (.int (0 : Int32))) (V_a3 : Arv Z h0 a3 kc2 .int (4 : Int32) [(.int eb0), (.int eb1), (.int eb2), (.int eb3)] (.int (0 : Int32))) :
    MetFree l own_y8 (head1 (Jvm.Cond.code own_y8 prog_14_method_3_code 3 (some .int) :: ws) ({ frames := 2, cells := 0, slots := 0, locals := 34 } : Room)) (fun a U => a = #[(.ref a1), (.int p1)] ∧ Z.Warmed39 U.vm ∧ U.heap = h0) (fun _ _ _ _ _ => True) (fun _ U o U' => ∃ v L, o = .returned v ∧ own_freq3_Q a1 a2 a3 kc1 kc2 p1 ea0 ea1 ea2 ea3 eb0 eb1 eb2 eb3 h0 v U'.heap L ∧ FrameEnd U o U' L ({ frames := 2, cells := 0, slots := 0, locals := 34 } : Room).cells ({ frames := 2, cells := 0, slots := 0, locals := 34 } : Room).slots) := by
  refine MetFree.of_bodySF (plainFor_of_name own_pn_Postings) hisR ?_
  intro p e s m args below meth c s₁ Bd hml0 hP hK
  obtain ⟨rfl, hZ, hh⟩ := hP
  have hx := Bd.exec
  have hby := Bd.bytes
  have hml : c.maxLocals = 3 := hml0
  have hown : s.vm.findClass "com/example/lean_scorer/leanscorer/Postings" = some m.cls := findClass_of_methodNamed Bd.named
  have hnm := (name_of_methodNamed Bd.named Bd.method).1
  have X0 : Stand p l e ({ frames := 2, cells := 0, slots := 0, locals := 34 } : Room) s m #[(.ref a1), (.int p1)] below meth c s₁ [] 0 0 := Stand.of_body Bd
  have e0 : s₁.heap = h0 := by rw [← hh, Bd.state]; rfl
  show own_E p e below (own_K (own_freq3_Q a1 a2 a3 kc1 kc2 p1 ea0 ea1 ea2 ea3 eb0 eb1 eb2 eb3 h0) s ({ frames := 2, cells := 0, slots := 0, locals := 34 } : Room).cells ({ frames := 2, cells := 0, slots := 0, locals := 34 } : Room).slots) s₁ (entryFrame m #[(.ref a1), (.int p1)] 3)
  refine own_pre (own_freq3_ef m a1 a2 a3 kc1 kc2 p1 ea0 ea1 ea2 ea3 eb0 eb1 eb2 eb3) ?_
  show own_E p e below _ s₁ (mkF m 0 #[rv a1, iv p1, .unset] [])
  refine own_st (fun t k => XS.aloadN X0.here hx rfl (hb hby own_d_prog_14_method_3_0) rfl rfl k) ?_
  show own_E p e below _ s₁ (mkF m 1 #[rv a1, iv p1, .unset] [.ref a1])
  obtain ⟨T1, X1, e1, st1⟩ := getF X0 hx hZ hown (host := "") (Or.inl (own_w hw 11 rfl)) Via.refl e0 F_documents_a1 (g := (mkF m 1 #[rv a1, iv p1, .unset] [.ref a1])) rfl rfl (hb hby own_d_prog_14_method_3_1)
  refine own_st st1 ?_
  show own_E p e below _ T1 (mkF m 4 #[rv a1, iv p1, .unset] [.ref a2])
  refine own_st (fun t k => XS.iconst X1.here hx rfl (hb hby own_d_prog_14_method_3_4) k) ?_
  show own_E p e below _ T1 (mkF m 5 #[rv a1, iv p1, .unset] [.int 0, .ref a2])
  refine own_st (fun t k => XS.aloadN X1.here hx rfl (hb hby own_d_prog_14_method_3_5) rfl rfl k) ?_
  show own_E p e below _ T1 (mkF m 6 #[rv a1, iv p1, .unset] [.ref a1, .int 0, .ref a2])
  obtain ⟨T2, X2, e2, st2⟩ := getF X1 hx hZ hown (host := "") (Or.inl (own_w hw 23 rfl)) Via.refl e1 F_size_a1 (g := (mkF m 6 #[rv a1, iv p1, .unset] [.ref a1, .int 0, .ref a2])) rfl rfl (hb hby own_d_prog_14_method_3_6)
  refine own_st st2 ?_
  show own_E p e below _ T2 (mkF m 9 #[rv a1, iv p1, .unset] [.int 3, .int 0, .ref a2])
  refine own_st (fun t k => XS.iloadN X2.here hx rfl (hb hby own_d_prog_14_method_3_9) rfl k) ?_
  show own_E p e below _ T2 (mkF m 10 #[rv a1, iv p1, .unset] [.int p1, .int 3, .int 0, .ref a2])
  obtain ⟨_, _, ⟨T3, L3, k3, n3⟩, -, X3, ⟨Lc3, hQ3, l3, y3, z3⟩, st3⟩ := Jvm.LawKit.callS X2 hx (y := own_y7) hown (mvT hZ (own_w hw 48 rfl)) (mvT hZ (own_w hw 49 rfl)) (mvT hZ (own_w hw 36 rfl)) (mvT hZ (own_w hw 50 rfl)) (by decide) (backOf (W := 0) (own_bs_3 l Z a0 hw [] a2 kc1 p1 ea0 ea1 ea2 ea3 h0 n0 Z0 V_a2) hZ (own_w hw 50 rfl) (own_w hw 36 rfl) (by decide) (by decide)) (g := (mkF m 10 #[rv a1, iv p1, .unset] [.int p1, .int 3, .int 0, .ref a2])) rfl (by rw [hml]; rfl) (argsL := [(.ref a2), (.int (0 : Int32)), (.int (3 : Int32)), (.int p1)]) (rest := []) (lenOf own_pd_7 rfl) rfl (by show 2 * 0 + _ ≤ _; exact Nat.le_of_eq rfl) (hb hby own_d_prog_14_method_3_10) (fun _ _ => ⟨rfl, e2, (by decide : 0 + 0 ≤ _), (by decide : 0 + 0 ≤ _)⟩)
  dsimp only [Pt.U, Pt.locs, Pt.cells, Pt.slots] at X3 l3 y3 z3 st3 hQ3
  subst l3 y3 z3
  obtain ⟨hR3, e3, rfl⟩ := hQ3
  have N3 := Fr.app (Fr.nil n0) (Fr.nil n0)
  rcases hR3 with ⟨rfl, ha3_0, ha3_1⟩ | ⟨rfl, ha3_0, ha3_1, ha3_2⟩ | ⟨rfl, ha3_0, ha3_1, ha3_2⟩ | ⟨rfl, ha3_0, ha3_1, ha3_2⟩ | ⟨rfl, ha3_0, ha3_1, ha3_2, ha3_3⟩ | ⟨rfl, ha3_0, ha3_1, ha3_2, ha3_3⟩ | ⟨rfl, ha3_0, ha3_1⟩
  · refine own_st st3 ?_
    show own_E p e below _ T3 (mkF m 13 #[rv a1, iv p1, .unset] [.int (-4)])
    refine own_st (fun t k => XS.istoreN X3.here hx rfl (hb hby own_d_prog_14_method_3_13) rfl (l' := #[rv a1, iv p1, iv (-4)]) rfl k) ?_
    show own_E p e below _ T3 (mkF m 14 #[rv a1, iv p1, iv (-4)] [])
    refine own_st (fun t k => XS.iloadN X3.here hx rfl (hb hby own_d_prog_14_method_3_14) rfl k) ?_
    show own_E p e below _ T3 (mkF m 15 #[rv a1, iv p1, iv (-4)] [.int (-4)])
    refine own_st (fun t k => XS.ifYes X3.here hx rfl (pc0 := 15) (pc' := 27) rfl (hb hby own_d_prog_14_method_3_15) rfl (by decide) (by decide) (by decide) k) ?_
    show own_E p e below _ T3 (mkF m 27 #[rv a1, iv p1, iv (-4)] [])
    refine own_st (fun t k => XS.iconst X3.here hx rfl (hb hby own_d_prog_14_method_3_27) k) ?_
    show own_E p e below _ T3 (mkF m 28 #[rv a1, iv p1, iv (-4)] [.int 0])
    refine own_retI X3 hx Bd.notSynchronized Bd.returns (hb hby own_d_prog_14_method_3_28) (by decide) (by decide) ?_
    exact ⟨(Or.inl ⟨rfl, ha3_0, ha3_1⟩), e3, rfl⟩
  · refine own_st st3 ?_
    show own_E p e below _ T3 (mkF m 13 #[rv a1, iv p1, .unset] [.int (-3)])
    refine own_st (fun t k => XS.istoreN X3.here hx rfl (hb hby own_d_prog_14_method_3_13) rfl (l' := #[rv a1, iv p1, iv (-3)]) rfl k) ?_
    show own_E p e below _ T3 (mkF m 14 #[rv a1, iv p1, iv (-3)] [])
    refine own_st (fun t k => XS.iloadN X3.here hx rfl (hb hby own_d_prog_14_method_3_14) rfl k) ?_
    show own_E p e below _ T3 (mkF m 15 #[rv a1, iv p1, iv (-3)] [.int (-3)])
    refine own_st (fun t k => XS.ifYes X3.here hx rfl (pc0 := 15) (pc' := 27) rfl (hb hby own_d_prog_14_method_3_15) rfl (by decide) (by decide) (by decide) k) ?_
    show own_E p e below _ T3 (mkF m 27 #[rv a1, iv p1, iv (-3)] [])
    refine own_st (fun t k => XS.iconst X3.here hx rfl (hb hby own_d_prog_14_method_3_27) k) ?_
    show own_E p e below _ T3 (mkF m 28 #[rv a1, iv p1, iv (-3)] [.int 0])
    refine own_retI X3 hx Bd.notSynchronized Bd.returns (hb hby own_d_prog_14_method_3_28) (by decide) (by decide) ?_
    exact ⟨(Or.inr (Or.inl ⟨rfl, ha3_0, ha3_1, ha3_2⟩)), e3, rfl⟩
  · refine own_st st3 ?_
    show own_E p e below _ T3 (mkF m 13 #[rv a1, iv p1, .unset] [.int 2])
    refine own_st (fun t k => XS.istoreN X3.here hx rfl (hb hby own_d_prog_14_method_3_13) rfl (l' := #[rv a1, iv p1, iv 2]) rfl k) ?_
    show own_E p e below _ T3 (mkF m 14 #[rv a1, iv p1, iv 2] [])
    refine own_st (fun t k => XS.iloadN X3.here hx rfl (hb hby own_d_prog_14_method_3_14) rfl k) ?_
    show own_E p e below _ T3 (mkF m 15 #[rv a1, iv p1, iv 2] [.int 2])
    refine own_st (fun t k => XS.ifNo X3.here hx rfl (hb hby own_d_prog_14_method_3_15) rfl (by decide) k) ?_
    show own_E p e below _ T3 (mkF m 18 #[rv a1, iv p1, iv 2] [])
    refine own_st (fun t k => XS.aloadN X3.here hx rfl (hb hby own_d_prog_14_method_3_18) rfl rfl k) ?_
    show own_E p e below _ T3 (mkF m 19 #[rv a1, iv p1, iv 2] [.ref a1])
    obtain ⟨T4, X4, e4, st4⟩ := getF X3 hx hZ hown (host := "") (Or.inl (own_w hw 13 rfl)) Via.refl e3 F_frequencies_a1 (g := (mkF m 19 #[rv a1, iv p1, iv 2] [.ref a1])) rfl rfl (hb hby own_d_prog_14_method_3_19)
    refine own_st st4 ?_
    show own_E p e below _ T4 (mkF m 22 #[rv a1, iv p1, iv 2] [.ref a3])
    refine own_st (fun t k => XS.iloadN X4.here hx rfl (hb hby own_d_prog_14_method_3_22) rfl k) ?_
    show own_E p e below _ T4 (mkF m 23 #[rv a1, iv p1, iv 2] [.int 2, .ref a3])
    refine own_st (own_ald X4 hx hZ e4 V_a3 (j := (2 : Int32)) ⟨by decide, by decide⟩ (v := (.int eb2)) rfl (g := (mkF m 23 #[rv a1, iv p1, iv 2] [.int 2, .ref a3])) rfl rfl (hb hby own_d_prog_14_method_3_23)) ?_
    show own_E p e below _ T4 (mkF m 24 #[rv a1, iv p1, iv 2] [.int eb2])
    refine own_st (fun t k => XS.goto X4.here hx rfl (pc0 := 24) (pc' := 28) rfl (hb hby own_d_prog_14_method_3_24) (by decide) (by decide) k) ?_
    show own_E p e below _ T4 (mkF m 28 #[rv a1, iv p1, iv 2] [.int eb2])
    refine own_retI X4 hx Bd.notSynchronized Bd.returns (hb hby own_d_prog_14_method_3_28) (by decide) (by decide) ?_
    exact ⟨(Or.inr (Or.inr (Or.inl ⟨rfl, ha3_0, ha3_1, ha3_2⟩))), e4, rfl⟩
  · refine own_st st3 ?_
    show own_E p e below _ T3 (mkF m 13 #[rv a1, iv p1, .unset] [.int (-2)])
    refine own_st (fun t k => XS.istoreN X3.here hx rfl (hb hby own_d_prog_14_method_3_13) rfl (l' := #[rv a1, iv p1, iv (-2)]) rfl k) ?_
    show own_E p e below _ T3 (mkF m 14 #[rv a1, iv p1, iv (-2)] [])
    refine own_st (fun t k => XS.iloadN X3.here hx rfl (hb hby own_d_prog_14_method_3_14) rfl k) ?_
    show own_E p e below _ T3 (mkF m 15 #[rv a1, iv p1, iv (-2)] [.int (-2)])
    refine own_st (fun t k => XS.ifYes X3.here hx rfl (pc0 := 15) (pc' := 27) rfl (hb hby own_d_prog_14_method_3_15) rfl (by decide) (by decide) (by decide) k) ?_
    show own_E p e below _ T3 (mkF m 27 #[rv a1, iv p1, iv (-2)] [])
    refine own_st (fun t k => XS.iconst X3.here hx rfl (hb hby own_d_prog_14_method_3_27) k) ?_
    show own_E p e below _ T3 (mkF m 28 #[rv a1, iv p1, iv (-2)] [.int 0])
    refine own_retI X3 hx Bd.notSynchronized Bd.returns (hb hby own_d_prog_14_method_3_28) (by decide) (by decide) ?_
    exact ⟨(Or.inr (Or.inr (Or.inr (Or.inl ⟨rfl, ha3_0, ha3_1, ha3_2⟩)))), e3, rfl⟩
  · refine own_st st3 ?_
    show own_E p e below _ T3 (mkF m 13 #[rv a1, iv p1, .unset] [.int (-1)])
    refine own_st (fun t k => XS.istoreN X3.here hx rfl (hb hby own_d_prog_14_method_3_13) rfl (l' := #[rv a1, iv p1, iv (-1)]) rfl k) ?_
    show own_E p e below _ T3 (mkF m 14 #[rv a1, iv p1, iv (-1)] [])
    refine own_st (fun t k => XS.iloadN X3.here hx rfl (hb hby own_d_prog_14_method_3_14) rfl k) ?_
    show own_E p e below _ T3 (mkF m 15 #[rv a1, iv p1, iv (-1)] [.int (-1)])
    refine own_st (fun t k => XS.ifYes X3.here hx rfl (pc0 := 15) (pc' := 27) rfl (hb hby own_d_prog_14_method_3_15) rfl (by decide) (by decide) (by decide) k) ?_
    show own_E p e below _ T3 (mkF m 27 #[rv a1, iv p1, iv (-1)] [])
    refine own_st (fun t k => XS.iconst X3.here hx rfl (hb hby own_d_prog_14_method_3_27) k) ?_
    show own_E p e below _ T3 (mkF m 28 #[rv a1, iv p1, iv (-1)] [.int 0])
    refine own_retI X3 hx Bd.notSynchronized Bd.returns (hb hby own_d_prog_14_method_3_28) (by decide) (by decide) ?_
    exact ⟨(Or.inr (Or.inr (Or.inr (Or.inr (Or.inl ⟨rfl, ha3_0, ha3_1, ha3_2, ha3_3⟩))))), e3, rfl⟩
  · refine own_st st3 ?_
    show own_E p e below _ T3 (mkF m 13 #[rv a1, iv p1, .unset] [.int 0])
    refine own_st (fun t k => XS.istoreN X3.here hx rfl (hb hby own_d_prog_14_method_3_13) rfl (l' := #[rv a1, iv p1, iv 0]) rfl k) ?_
    show own_E p e below _ T3 (mkF m 14 #[rv a1, iv p1, iv 0] [])
    refine own_st (fun t k => XS.iloadN X3.here hx rfl (hb hby own_d_prog_14_method_3_14) rfl k) ?_
    show own_E p e below _ T3 (mkF m 15 #[rv a1, iv p1, iv 0] [.int 0])
    refine own_st (fun t k => XS.ifNo X3.here hx rfl (hb hby own_d_prog_14_method_3_15) rfl (by decide) k) ?_
    show own_E p e below _ T3 (mkF m 18 #[rv a1, iv p1, iv 0] [])
    refine own_st (fun t k => XS.aloadN X3.here hx rfl (hb hby own_d_prog_14_method_3_18) rfl rfl k) ?_
    show own_E p e below _ T3 (mkF m 19 #[rv a1, iv p1, iv 0] [.ref a1])
    obtain ⟨T5, X5, e5, st5⟩ := getF X3 hx hZ hown (host := "") (Or.inl (own_w hw 13 rfl)) Via.refl e3 F_frequencies_a1 (g := (mkF m 19 #[rv a1, iv p1, iv 0] [.ref a1])) rfl rfl (hb hby own_d_prog_14_method_3_19)
    refine own_st st5 ?_
    show own_E p e below _ T5 (mkF m 22 #[rv a1, iv p1, iv 0] [.ref a3])
    refine own_st (fun t k => XS.iloadN X5.here hx rfl (hb hby own_d_prog_14_method_3_22) rfl k) ?_
    show own_E p e below _ T5 (mkF m 23 #[rv a1, iv p1, iv 0] [.int 0, .ref a3])
    refine own_st (own_ald X5 hx hZ e5 V_a3 (j := (0 : Int32)) ⟨by decide, by decide⟩ (v := (.int eb0)) rfl (g := (mkF m 23 #[rv a1, iv p1, iv 0] [.int 0, .ref a3])) rfl rfl (hb hby own_d_prog_14_method_3_23)) ?_
    show own_E p e below _ T5 (mkF m 24 #[rv a1, iv p1, iv 0] [.int eb0])
    refine own_st (fun t k => XS.goto X5.here hx rfl (pc0 := 24) (pc' := 28) rfl (hb hby own_d_prog_14_method_3_24) (by decide) (by decide) k) ?_
    show own_E p e below _ T5 (mkF m 28 #[rv a1, iv p1, iv 0] [.int eb0])
    refine own_retI X5 hx Bd.notSynchronized Bd.returns (hb hby own_d_prog_14_method_3_28) (by decide) (by decide) ?_
    exact ⟨(Or.inr (Or.inr (Or.inr (Or.inr (Or.inr (Or.inl ⟨rfl, ha3_0, ha3_1, ha3_2, ha3_3⟩)))))), e5, rfl⟩
  · refine own_st st3 ?_
    show own_E p e below _ T3 (mkF m 13 #[rv a1, iv p1, .unset] [.int 1])
    refine own_st (fun t k => XS.istoreN X3.here hx rfl (hb hby own_d_prog_14_method_3_13) rfl (l' := #[rv a1, iv p1, iv 1]) rfl k) ?_
    show own_E p e below _ T3 (mkF m 14 #[rv a1, iv p1, iv 1] [])
    refine own_st (fun t k => XS.iloadN X3.here hx rfl (hb hby own_d_prog_14_method_3_14) rfl k) ?_
    show own_E p e below _ T3 (mkF m 15 #[rv a1, iv p1, iv 1] [.int 1])
    refine own_st (fun t k => XS.ifNo X3.here hx rfl (hb hby own_d_prog_14_method_3_15) rfl (by decide) k) ?_
    show own_E p e below _ T3 (mkF m 18 #[rv a1, iv p1, iv 1] [])
    refine own_st (fun t k => XS.aloadN X3.here hx rfl (hb hby own_d_prog_14_method_3_18) rfl rfl k) ?_
    show own_E p e below _ T3 (mkF m 19 #[rv a1, iv p1, iv 1] [.ref a1])
    obtain ⟨T6, X6, e6, st6⟩ := getF X3 hx hZ hown (host := "") (Or.inl (own_w hw 13 rfl)) Via.refl e3 F_frequencies_a1 (g := (mkF m 19 #[rv a1, iv p1, iv 1] [.ref a1])) rfl rfl (hb hby own_d_prog_14_method_3_19)
    refine own_st st6 ?_
    show own_E p e below _ T6 (mkF m 22 #[rv a1, iv p1, iv 1] [.ref a3])
    refine own_st (fun t k => XS.iloadN X6.here hx rfl (hb hby own_d_prog_14_method_3_22) rfl k) ?_
    show own_E p e below _ T6 (mkF m 23 #[rv a1, iv p1, iv 1] [.int 1, .ref a3])
    refine own_st (own_ald X6 hx hZ e6 V_a3 (j := (1 : Int32)) ⟨by decide, by decide⟩ (v := (.int eb1)) rfl (g := (mkF m 23 #[rv a1, iv p1, iv 1] [.int 1, .ref a3])) rfl rfl (hb hby own_d_prog_14_method_3_23)) ?_
    show own_E p e below _ T6 (mkF m 24 #[rv a1, iv p1, iv 1] [.int eb1])
    refine own_st (fun t k => XS.goto X6.here hx rfl (pc0 := 24) (pc' := 28) rfl (hb hby own_d_prog_14_method_3_24) (by decide) (by decide) k) ?_
    show own_E p e below _ T6 (mkF m 28 #[rv a1, iv p1, iv 1] [.int eb1])
    refine own_retI X6 hx Bd.notSynchronized Bd.returns (hb hby own_d_prog_14_method_3_28) (by decide) (by decide) ?_
    exact ⟨(Or.inr (Or.inr (Or.inr (Or.inr (Or.inr (Or.inr ⟨rfl, ha3_0, ha3_1⟩)))))), e6, rfl⟩
theorem own_and3 (x : Int32) : (x &&& (3 : Int32)) = (0 : Int32) ∨ (x &&& (3 : Int32)) = (1 : Int32) ∨ (x &&& (3 : Int32)) = (2 : Int32) ∨ (x &&& (3 : Int32)) = (3 : Int32) := by
  have h1 : (x &&& (3 : Int32)).toInt = x.toInt % 4 := c_mask x 3 2 (by decide) (by decide)
  simp only [← Int32.toInt_inj]
  have k0 : (0 : Int32).toInt = 0 := rfl
  have k1 : (1 : Int32).toInt = 1 := rfl
  have k2 : (2 : Int32).toInt = 2 := rfl
  have k3 : (3 : Int32).toInt = 3 := rfl
  omega
theorem own_pd_0 : parseMethodDescriptor "()V" = some ⟨[], none⟩ := by decide +kernel
theorem own_pd_1 : parseMethodDescriptor "(I)I" = some ⟨[.int], some .int⟩ := by decide +kernel
def own_law_Q (n0 : Nat) (v : Option Value) (h : Heap) (L : List Loc) : Prop := v = some (.int 1) ∧ Fr n0 L
theorem own_pn_PostingsFrequencyPinLaw : plainName "com/example/lean_scorer/leanscorer/PostingsFrequencyPinLaw" = true := by first | (simp [plainName, overriddenIn]; done) | decide +kernel
theorem own_law_ef (m : MethodId) (p1 : Int32) (p2 : Int32) (p3 : Int32) (p4 : Int32) (p5 : Int32) (p6 : Int32) : entryFrame m #[(.int p1), (.int p2), (.int p3), (.int p4), (.int p5), (.int p6)] maxLocals = mkF m 0 #[.val (.int p1), .val (.int p2), .val (.int p3), .val (.int p4), .val (.int p5), .val (.int p6), .unset, .unset, .unset, .unset, .unset, .unset, .unset] [] := by first | (simp [entryFrame, mkF, argsToLocals, Value.category, maxLocals]; done) | rfl
set_option maxRecDepth 65536 in
set_option maxHeartbeats 40000000 in
theorem own_law (l : Launch) (Z : State) (a0 : Array Value) (hw : ∀ d ∈ tables_1, d.before a0 Z = true) (ws : List Jvm.Cond) (p1 : Int32) (p2 : Int32) (p3 : Int32) (p4 : Int32) (p5 : Int32) (p6 : Int32) (h0 : Heap) (n0 : Nat) (Z0 : n0 ≤ h0.size)  :
    MetFree l x (head1 (Jvm.Cond.code x code maxLocals ret :: ws) room_1) (fun a U => a = #[(.int p1), (.int p2), (.int p3), (.int p4), (.int p5), (.int p6)] ∧ Z.Warmed39 U.vm ∧ U.heap = h0) (fun _ _ _ _ _ => True) (fun _ U o U' => ∃ v L, o = .returned v ∧ own_law_Q n0 v U'.heap L ∧ FrameEnd U o U' L room_1.cells room_1.slots) := by
  refine MetFree.of_bodySF (plainFor_of_name own_pn_PostingsFrequencyPinLaw) hisR ?_
  intro p e s m args below meth c s₁ Bd hml0 hP hK
  obtain ⟨rfl, hZ, hh⟩ := hP
  have hx := Bd.exec
  have hby := Bd.bytes
  have hml : c.maxLocals = 13 := hml0
  have hown : s.vm.findClass "com/example/lean_scorer/leanscorer/PostingsFrequencyPinLaw" = some m.cls := findClass_of_methodNamed Bd.named
  have hnm := (name_of_methodNamed Bd.named Bd.method).1
  have X0 : Stand p l e room_1 s m #[(.int p1), (.int p2), (.int p3), (.int p4), (.int p5), (.int p6)] below meth c s₁ [] 0 0 := Stand.of_body Bd
  have e0 : s₁.heap = h0 := by rw [← hh, Bd.state]; rfl
  show own_E p e below (own_K (own_law_Q n0) s room_1.cells room_1.slots) s₁ (entryFrame m #[(.int p1), (.int p2), (.int p3), (.int p4), (.int p5), (.int p6)] maxLocals)
  refine own_pre (own_law_ef m p1 p2 p3 p4 p5 p6) ?_
  show own_E p e below _ s₁ (mkF m 0 #[iv p1, iv p2, iv p3, iv p4, iv p5, iv p6, .unset, .unset, .unset, .unset, .unset, .unset, .unset] [])
  refine own_st (fun t k => XS.iload X0.here hx rfl (hb hby at_0) rfl k) ?_
  show own_E p e below _ s₁ (mkF m 2 #[iv p1, iv p2, iv p3, iv p4, iv p5, iv p6, .unset, .unset, .unset, .unset, .unset, .unset, .unset] [.int p6])
  refine own_st (fun t k => XS.iconst X0.here hx rfl (hb hby at_2) k) ?_
  show own_E p e below _ s₁ (mkF m 3 #[iv p1, iv p2, iv p3, iv p4, iv p5, iv p6, .unset, .unset, .unset, .unset, .unset, .unset, .unset] [.int 3, .int p6])
  refine own_st (fun t k => XS.iand X0.here hx rfl (hb hby at_3) rfl k) ?_
  show own_E p e below _ s₁ (mkF m 4 #[iv p1, iv p2, iv p3, iv p4, iv p5, iv p6, .unset, .unset, .unset, .unset, .unset, .unset, .unset] [.int (p6 &&& (3 : Int32))])
  refine own_st (fun t k => XS.istore X0.here hx rfl (hb hby at_4) rfl (l' := #[iv p1, iv p2, iv p3, iv p4, iv p5, iv p6, iv (p6 &&& (3 : Int32)), .unset, .unset, .unset, .unset, .unset, .unset]) rfl k) ?_
  show own_E p e below _ s₁ (mkF m 6 #[iv p1, iv p2, iv p3, iv p4, iv p5, iv p6, iv (p6 &&& (3 : Int32)), .unset, .unset, .unset, .unset, .unset, .unset] [])
  rcases own_and3 p6 with hs1 | hs1 | hs1 | hs1
  · rw [hs1]
    show own_E p e below _ s₁ (mkF m 6 #[iv p1, iv p2, iv p3, iv p4, iv p5, iv p6, iv 0, .unset, .unset, .unset, .unset, .unset, .unset] [])
    refine own_st (fun t k => XS.iloadN X0.here hx rfl (hb hby at_6) rfl k) ?_
    show own_E p e below _ s₁ (mkF m 7 #[iv p1, iv p2, iv p3, iv p4, iv p5, iv p6, iv 0, .unset, .unset, .unset, .unset, .unset, .unset] [.int p1])
    refine own_st (X0.ldcInt hx hown (mvT hZ (own_w hw 0 rfl)) (g := (mkF m 7 #[iv p1, iv p2, iv p3, iv p4, iv p5, iv p6, iv 0, .unset, .unset, .unset, .unset, .unset, .unset] [.int p1])) rfl (hb hby at_7)) ?_
    show own_E p e below _ s₁ (mkF m 9 #[iv p1, iv p2, iv p3, iv p4, iv p5, iv p6, iv 0, .unset, .unset, .unset, .unset, .unset, .unset] [.int 1073741823, .int p1])
    refine own_st (fun t k => XS.iand X0.here hx rfl (hb hby at_9) rfl k) ?_
    show own_E p e below _ s₁ (mkF m 10 #[iv p1, iv p2, iv p3, iv p4, iv p5, iv p6, iv 0, .unset, .unset, .unset, .unset, .unset, .unset] [.int (p1 &&& (1073741823 : Int32))])
    refine own_st (fun t k => XS.istore X0.here hx rfl (hb hby at_10) rfl (l' := #[iv p1, iv p2, iv p3, iv p4, iv p5, iv p6, iv 0, iv (p1 &&& (1073741823 : Int32)), .unset, .unset, .unset, .unset, .unset]) rfl k) ?_
    show own_E p e below _ s₁ (mkF m 12 #[iv p1, iv p2, iv p3, iv p4, iv p5, iv p6, iv 0, iv (p1 &&& (1073741823 : Int32)), .unset, .unset, .unset, .unset, .unset] [])
    refine own_st (fun t k => XS.iload X0.here hx rfl (hb hby at_12) rfl k) ?_
    show own_E p e below _ s₁ (mkF m 14 #[iv p1, iv p2, iv p3, iv p4, iv p5, iv p6, iv 0, iv (p1 &&& (1073741823 : Int32)), .unset, .unset, .unset, .unset, .unset] [.int (p1 &&& (1073741823 : Int32))])
    refine own_st (fun t k => XS.iconst X0.here hx rfl (hb hby at_14) k) ?_
    show own_E p e below _ s₁ (mkF m 15 #[iv p1, iv p2, iv p3, iv p4, iv p5, iv p6, iv 0, iv (p1 &&& (1073741823 : Int32)), .unset, .unset, .unset, .unset, .unset] [.int 1, .int (p1 &&& (1073741823 : Int32))])
    refine own_st (fun t k => XS.iadd X0.here hx rfl (hb hby at_15) rfl k) ?_
    show own_E p e below _ s₁ (mkF m 16 #[iv p1, iv p2, iv p3, iv p4, iv p5, iv p6, iv 0, iv (p1 &&& (1073741823 : Int32)), .unset, .unset, .unset, .unset, .unset] [.int ((p1 &&& (1073741823 : Int32)) + (1 : Int32))])
    refine own_st (fun t k => XS.iloadN X0.here hx rfl (hb hby at_16) rfl k) ?_
    show own_E p e below _ s₁ (mkF m 17 #[iv p1, iv p2, iv p3, iv p4, iv p5, iv p6, iv 0, iv (p1 &&& (1073741823 : Int32)), .unset, .unset, .unset, .unset, .unset] [.int p2, .int ((p1 &&& (1073741823 : Int32)) + (1 : Int32))])
    refine own_st (fun t k => XS.sipush X0.here hx rfl (hb hby at_17) k) ?_
    show own_E p e below _ s₁ (mkF m 20 #[iv p1, iv p2, iv p3, iv p4, iv p5, iv p6, iv 0, iv (p1 &&& (1073741823 : Int32)), .unset, .unset, .unset, .unset, .unset] [.int 255, .int p2, .int ((p1 &&& (1073741823 : Int32)) + (1 : Int32))])
    refine own_st (fun t k => XS.iand X0.here hx rfl (hb hby at_20) rfl k) ?_
    show own_E p e below _ s₁ (mkF m 21 #[iv p1, iv p2, iv p3, iv p4, iv p5, iv p6, iv 0, iv (p1 &&& (1073741823 : Int32)), .unset, .unset, .unset, .unset, .unset] [.int (p2 &&& (255 : Int32)), .int ((p1 &&& (1073741823 : Int32)) + (1 : Int32))])
    refine own_st (fun t k => XS.iadd X0.here hx rfl (hb hby at_21) rfl k) ?_
    show own_E p e below _ s₁ (mkF m 22 #[iv p1, iv p2, iv p3, iv p4, iv p5, iv p6, iv 0, iv (p1 &&& (1073741823 : Int32)), .unset, .unset, .unset, .unset, .unset] [.int (((p1 &&& (1073741823 : Int32)) + (1 : Int32)) + (p2 &&& (255 : Int32)))])
    refine own_st (fun t k => XS.istore X0.here hx rfl (hb hby at_22) rfl (l' := #[iv p1, iv p2, iv p3, iv p4, iv p5, iv p6, iv 0, iv (p1 &&& (1073741823 : Int32)), iv (((p1 &&& (1073741823 : Int32)) + (1 : Int32)) + (p2 &&& (255 : Int32))), .unset, .unset, .unset, .unset]) rfl k) ?_
    show own_E p e below _ s₁ (mkF m 24 #[iv p1, iv p2, iv p3, iv p4, iv p5, iv p6, iv 0, iv (p1 &&& (1073741823 : Int32)), iv (((p1 &&& (1073741823 : Int32)) + (1 : Int32)) + (p2 &&& (255 : Int32))), .unset, .unset, .unset, .unset] [])
    refine own_st (fun t k => XS.iload X0.here hx rfl (hb hby at_24) rfl k) ?_
    show own_E p e below _ s₁ (mkF m 26 #[iv p1, iv p2, iv p3, iv p4, iv p5, iv p6, iv 0, iv (p1 &&& (1073741823 : Int32)), iv (((p1 &&& (1073741823 : Int32)) + (1 : Int32)) + (p2 &&& (255 : Int32))), .unset, .unset, .unset, .unset] [.int (((p1 &&& (1073741823 : Int32)) + (1 : Int32)) + (p2 &&& (255 : Int32)))])
    refine own_st (fun t k => XS.iconst X0.here hx rfl (hb hby at_26) k) ?_
    show own_E p e below _ s₁ (mkF m 27 #[iv p1, iv p2, iv p3, iv p4, iv p5, iv p6, iv 0, iv (p1 &&& (1073741823 : Int32)), iv (((p1 &&& (1073741823 : Int32)) + (1 : Int32)) + (p2 &&& (255 : Int32))), .unset, .unset, .unset, .unset] [.int 1, .int (((p1 &&& (1073741823 : Int32)) + (1 : Int32)) + (p2 &&& (255 : Int32)))])
    refine own_st (fun t k => XS.iadd X0.here hx rfl (hb hby at_27) rfl k) ?_
    show own_E p e below _ s₁ (mkF m 28 #[iv p1, iv p2, iv p3, iv p4, iv p5, iv p6, iv 0, iv (p1 &&& (1073741823 : Int32)), iv (((p1 &&& (1073741823 : Int32)) + (1 : Int32)) + (p2 &&& (255 : Int32))), .unset, .unset, .unset, .unset] [.int ((((p1 &&& (1073741823 : Int32)) + (1 : Int32)) + (p2 &&& (255 : Int32))) + (1 : Int32))])
    refine own_st (fun t k => XS.iloadN X0.here hx rfl (hb hby at_28) rfl k) ?_
    show own_E p e below _ s₁ (mkF m 29 #[iv p1, iv p2, iv p3, iv p4, iv p5, iv p6, iv 0, iv (p1 &&& (1073741823 : Int32)), iv (((p1 &&& (1073741823 : Int32)) + (1 : Int32)) + (p2 &&& (255 : Int32))), .unset, .unset, .unset, .unset] [.int p2, .int ((((p1 &&& (1073741823 : Int32)) + (1 : Int32)) + (p2 &&& (255 : Int32))) + (1 : Int32))])
    refine own_st (fun t k => XS.bipush X0.here hx rfl (hb hby at_29) k) ?_
    show own_E p e below _ s₁ (mkF m 31 #[iv p1, iv p2, iv p3, iv p4, iv p5, iv p6, iv 0, iv (p1 &&& (1073741823 : Int32)), iv (((p1 &&& (1073741823 : Int32)) + (1 : Int32)) + (p2 &&& (255 : Int32))), .unset, .unset, .unset, .unset] [.int 8, .int p2, .int ((((p1 &&& (1073741823 : Int32)) + (1 : Int32)) + (p2 &&& (255 : Int32))) + (1 : Int32))])
    refine own_st (fun t k => XS.iushr X0.here hx rfl (hb hby at_31) rfl k) ?_
    show own_E p e below _ s₁ (mkF m 32 #[iv p1, iv p2, iv p3, iv p4, iv p5, iv p6, iv 0, iv (p1 &&& (1073741823 : Int32)), iv (((p1 &&& (1073741823 : Int32)) + (1 : Int32)) + (p2 &&& (255 : Int32))), .unset, .unset, .unset, .unset] [.int ((p2.toUInt32 >>> ((8 : Int32) &&& 31).toUInt32).toInt32), .int ((((p1 &&& (1073741823 : Int32)) + (1 : Int32)) + (p2 &&& (255 : Int32))) + (1 : Int32))])
    refine own_st (fun t k => XS.sipush X0.here hx rfl (hb hby at_32) k) ?_
    show own_E p e below _ s₁ (mkF m 35 #[iv p1, iv p2, iv p3, iv p4, iv p5, iv p6, iv 0, iv (p1 &&& (1073741823 : Int32)), iv (((p1 &&& (1073741823 : Int32)) + (1 : Int32)) + (p2 &&& (255 : Int32))), .unset, .unset, .unset, .unset] [.int 255, .int ((p2.toUInt32 >>> ((8 : Int32) &&& 31).toUInt32).toInt32), .int ((((p1 &&& (1073741823 : Int32)) + (1 : Int32)) + (p2 &&& (255 : Int32))) + (1 : Int32))])
    refine own_st (fun t k => XS.iand X0.here hx rfl (hb hby at_35) rfl k) ?_
    show own_E p e below _ s₁ (mkF m 36 #[iv p1, iv p2, iv p3, iv p4, iv p5, iv p6, iv 0, iv (p1 &&& (1073741823 : Int32)), iv (((p1 &&& (1073741823 : Int32)) + (1 : Int32)) + (p2 &&& (255 : Int32))), .unset, .unset, .unset, .unset] [.int (((p2.toUInt32 >>> ((8 : Int32) &&& 31).toUInt32).toInt32) &&& (255 : Int32)), .int ((((p1 &&& (1073741823 : Int32)) + (1 : Int32)) + (p2 &&& (255 : Int32))) + (1 : Int32))])
    refine own_st (fun t k => XS.iadd X0.here hx rfl (hb hby at_36) rfl k) ?_
    show own_E p e below _ s₁ (mkF m 37 #[iv p1, iv p2, iv p3, iv p4, iv p5, iv p6, iv 0, iv (p1 &&& (1073741823 : Int32)), iv (((p1 &&& (1073741823 : Int32)) + (1 : Int32)) + (p2 &&& (255 : Int32))), .unset, .unset, .unset, .unset] [.int (((((p1 &&& (1073741823 : Int32)) + (1 : Int32)) + (p2 &&& (255 : Int32))) + (1 : Int32)) + (((p2.toUInt32 >>> ((8 : Int32) &&& 31).toUInt32).toInt32) &&& (255 : Int32)))])
    refine own_st (fun t k => XS.istore X0.here hx rfl (hb hby at_37) rfl (l' := #[iv p1, iv p2, iv p3, iv p4, iv p5, iv p6, iv 0, iv (p1 &&& (1073741823 : Int32)), iv (((p1 &&& (1073741823 : Int32)) + (1 : Int32)) + (p2 &&& (255 : Int32))), iv (((((p1 &&& (1073741823 : Int32)) + (1 : Int32)) + (p2 &&& (255 : Int32))) + (1 : Int32)) + (((p2.toUInt32 >>> ((8 : Int32) &&& 31).toUInt32).toInt32) &&& (255 : Int32))), .unset, .unset, .unset]) rfl k) ?_
    show own_E p e below _ s₁ (mkF m 39 #[iv p1, iv p2, iv p3, iv p4, iv p5, iv p6, iv 0, iv (p1 &&& (1073741823 : Int32)), iv (((p1 &&& (1073741823 : Int32)) + (1 : Int32)) + (p2 &&& (255 : Int32))), iv (((((p1 &&& (1073741823 : Int32)) + (1 : Int32)) + (p2 &&& (255 : Int32))) + (1 : Int32)) + (((p2.toUInt32 >>> ((8 : Int32) &&& 31).toUInt32).toInt32) &&& (255 : Int32))), .unset, .unset, .unset] [])
    refine own_st (fun t k => XS.iload X0.here hx rfl (hb hby at_39) rfl k) ?_
    show own_E p e below _ s₁ (mkF m 41 #[iv p1, iv p2, iv p3, iv p4, iv p5, iv p6, iv 0, iv (p1 &&& (1073741823 : Int32)), iv (((p1 &&& (1073741823 : Int32)) + (1 : Int32)) + (p2 &&& (255 : Int32))), iv (((((p1 &&& (1073741823 : Int32)) + (1 : Int32)) + (p2 &&& (255 : Int32))) + (1 : Int32)) + (((p2.toUInt32 >>> ((8 : Int32) &&& 31).toUInt32).toInt32) &&& (255 : Int32))), .unset, .unset, .unset] [.int (p1 &&& (1073741823 : Int32))])
    refine own_st (fun t k => XS.iconst X0.here hx rfl (hb hby at_41) k) ?_
    show own_E p e below _ s₁ (mkF m 42 #[iv p1, iv p2, iv p3, iv p4, iv p5, iv p6, iv 0, iv (p1 &&& (1073741823 : Int32)), iv (((p1 &&& (1073741823 : Int32)) + (1 : Int32)) + (p2 &&& (255 : Int32))), iv (((((p1 &&& (1073741823 : Int32)) + (1 : Int32)) + (p2 &&& (255 : Int32))) + (1 : Int32)) + (((p2.toUInt32 >>> ((8 : Int32) &&& 31).toUInt32).toInt32) &&& (255 : Int32))), .unset, .unset, .unset] [.int 4, .int (p1 &&& (1073741823 : Int32))])
    refine own_st (fun t k => XS.isub X0.here hx rfl (hb hby at_42) rfl k) ?_
    show own_E p e below _ s₁ (mkF m 43 #[iv p1, iv p2, iv p3, iv p4, iv p5, iv p6, iv 0, iv (p1 &&& (1073741823 : Int32)), iv (((p1 &&& (1073741823 : Int32)) + (1 : Int32)) + (p2 &&& (255 : Int32))), iv (((((p1 &&& (1073741823 : Int32)) + (1 : Int32)) + (p2 &&& (255 : Int32))) + (1 : Int32)) + (((p2.toUInt32 >>> ((8 : Int32) &&& 31).toUInt32).toInt32) &&& (255 : Int32))), .unset, .unset, .unset] [.int ((p1 &&& (1073741823 : Int32)) - (4 : Int32))])
    refine own_st (fun t k => XS.iload X0.here hx rfl (hb hby at_43) rfl k) ?_
    show own_E p e below _ s₁ (mkF m 45 #[iv p1, iv p2, iv p3, iv p4, iv p5, iv p6, iv 0, iv (p1 &&& (1073741823 : Int32)), iv (((p1 &&& (1073741823 : Int32)) + (1 : Int32)) + (p2 &&& (255 : Int32))), iv (((((p1 &&& (1073741823 : Int32)) + (1 : Int32)) + (p2 &&& (255 : Int32))) + (1 : Int32)) + (((p2.toUInt32 >>> ((8 : Int32) &&& 31).toUInt32).toInt32) &&& (255 : Int32))), .unset, .unset, .unset] [.int p6, .int ((p1 &&& (1073741823 : Int32)) - (4 : Int32))])
    refine own_st (fun t k => XS.iconst X0.here hx rfl (hb hby at_45) k) ?_
    show own_E p e below _ s₁ (mkF m 46 #[iv p1, iv p2, iv p3, iv p4, iv p5, iv p6, iv 0, iv (p1 &&& (1073741823 : Int32)), iv (((p1 &&& (1073741823 : Int32)) + (1 : Int32)) + (p2 &&& (255 : Int32))), iv (((((p1 &&& (1073741823 : Int32)) + (1 : Int32)) + (p2 &&& (255 : Int32))) + (1 : Int32)) + (((p2.toUInt32 >>> ((8 : Int32) &&& 31).toUInt32).toInt32) &&& (255 : Int32))), .unset, .unset, .unset] [.int 2, .int p6, .int ((p1 &&& (1073741823 : Int32)) - (4 : Int32))])
    refine own_st (fun t k => XS.iushr X0.here hx rfl (hb hby at_46) rfl k) ?_
    show own_E p e below _ s₁ (mkF m 47 #[iv p1, iv p2, iv p3, iv p4, iv p5, iv p6, iv 0, iv (p1 &&& (1073741823 : Int32)), iv (((p1 &&& (1073741823 : Int32)) + (1 : Int32)) + (p2 &&& (255 : Int32))), iv (((((p1 &&& (1073741823 : Int32)) + (1 : Int32)) + (p2 &&& (255 : Int32))) + (1 : Int32)) + (((p2.toUInt32 >>> ((8 : Int32) &&& 31).toUInt32).toInt32) &&& (255 : Int32))), .unset, .unset, .unset] [.int ((p6.toUInt32 >>> ((2 : Int32) &&& 31).toUInt32).toInt32), .int ((p1 &&& (1073741823 : Int32)) - (4 : Int32))])
    refine own_st (fun t k => XS.sipush X0.here hx rfl (hb hby at_47) k) ?_
    show own_E p e below _ s₁ (mkF m 50 #[iv p1, iv p2, iv p3, iv p4, iv p5, iv p6, iv 0, iv (p1 &&& (1073741823 : Int32)), iv (((p1 &&& (1073741823 : Int32)) + (1 : Int32)) + (p2 &&& (255 : Int32))), iv (((((p1 &&& (1073741823 : Int32)) + (1 : Int32)) + (p2 &&& (255 : Int32))) + (1 : Int32)) + (((p2.toUInt32 >>> ((8 : Int32) &&& 31).toUInt32).toInt32) &&& (255 : Int32))), .unset, .unset, .unset] [.int 1023, .int ((p6.toUInt32 >>> ((2 : Int32) &&& 31).toUInt32).toInt32), .int ((p1 &&& (1073741823 : Int32)) - (4 : Int32))])
    refine own_st (fun t k => XS.iand X0.here hx rfl (hb hby at_50) rfl k) ?_
    show own_E p e below _ s₁ (mkF m 51 #[iv p1, iv p2, iv p3, iv p4, iv p5, iv p6, iv 0, iv (p1 &&& (1073741823 : Int32)), iv (((p1 &&& (1073741823 : Int32)) + (1 : Int32)) + (p2 &&& (255 : Int32))), iv (((((p1 &&& (1073741823 : Int32)) + (1 : Int32)) + (p2 &&& (255 : Int32))) + (1 : Int32)) + (((p2.toUInt32 >>> ((8 : Int32) &&& 31).toUInt32).toInt32) &&& (255 : Int32))), .unset, .unset, .unset] [.int (((p6.toUInt32 >>> ((2 : Int32) &&& 31).toUInt32).toInt32) &&& (1023 : Int32)), .int ((p1 &&& (1073741823 : Int32)) - (4 : Int32))])
    refine own_st (fun t k => XS.iadd X0.here hx rfl (hb hby at_51) rfl k) ?_
    show own_E p e below _ s₁ (mkF m 52 #[iv p1, iv p2, iv p3, iv p4, iv p5, iv p6, iv 0, iv (p1 &&& (1073741823 : Int32)), iv (((p1 &&& (1073741823 : Int32)) + (1 : Int32)) + (p2 &&& (255 : Int32))), iv (((((p1 &&& (1073741823 : Int32)) + (1 : Int32)) + (p2 &&& (255 : Int32))) + (1 : Int32)) + (((p2.toUInt32 >>> ((8 : Int32) &&& 31).toUInt32).toInt32) &&& (255 : Int32))), .unset, .unset, .unset] [.int (((p1 &&& (1073741823 : Int32)) - (4 : Int32)) + (((p6.toUInt32 >>> ((2 : Int32) &&& 31).toUInt32).toInt32) &&& (1023 : Int32)))])
    refine own_st (fun t k => XS.istore X0.here hx rfl (hb hby at_52) rfl (l' := #[iv p1, iv p2, iv p3, iv p4, iv p5, iv p6, iv 0, iv (p1 &&& (1073741823 : Int32)), iv (((p1 &&& (1073741823 : Int32)) + (1 : Int32)) + (p2 &&& (255 : Int32))), iv (((((p1 &&& (1073741823 : Int32)) + (1 : Int32)) + (p2 &&& (255 : Int32))) + (1 : Int32)) + (((p2.toUInt32 >>> ((8 : Int32) &&& 31).toUInt32).toInt32) &&& (255 : Int32))), iv (((p1 &&& (1073741823 : Int32)) - (4 : Int32)) + (((p6.toUInt32 >>> ((2 : Int32) &&& 31).toUInt32).toInt32) &&& (1023 : Int32))), .unset, .unset]) rfl k) ?_
    show own_E p e below _ s₁ (mkF m 54 #[iv p1, iv p2, iv p3, iv p4, iv p5, iv p6, iv 0, iv (p1 &&& (1073741823 : Int32)), iv (((p1 &&& (1073741823 : Int32)) + (1 : Int32)) + (p2 &&& (255 : Int32))), iv (((((p1 &&& (1073741823 : Int32)) + (1 : Int32)) + (p2 &&& (255 : Int32))) + (1 : Int32)) + (((p2.toUInt32 >>> ((8 : Int32) &&& 31).toUInt32).toInt32) &&& (255 : Int32))), iv (((p1 &&& (1073741823 : Int32)) - (4 : Int32)) + (((p6.toUInt32 >>> ((2 : Int32) &&& 31).toUInt32).toInt32) &&& (1023 : Int32))), .unset, .unset] [])
    obtain ⟨T2, h2, X2, e2, E2, A2, D2, -, st2⟩ := newO X0 hx hZ hown (own_w hw 1 rfl) (own_w hw 2 rfl) (own_w hw 3 rfl) e0 (g := (mkF m 54 #[iv p1, iv p2, iv p3, iv p4, iv p5, iv p6, iv 0, iv (p1 &&& (1073741823 : Int32)), iv (((p1 &&& (1073741823 : Int32)) + (1 : Int32)) + (p2 &&& (255 : Int32))), iv (((((p1 &&& (1073741823 : Int32)) + (1 : Int32)) + (p2 &&& (255 : Int32))) + (1 : Int32)) + (((p2.toUInt32 >>> ((8 : Int32) &&& 31).toUInt32).toInt32) &&& (255 : Int32))), iv (((p1 &&& (1073741823 : Int32)) - (4 : Int32)) + (((p6.toUInt32 >>> ((2 : Int32) &&& 31).toUInt32).toInt32) &&& (1023 : Int32))), .unset, .unset] [])) rfl (hb hby at_54) (by decide) (by decide)
    obtain ⟨b2, g2⟩ : ∃ z, z = h0.size := ⟨_, rfl⟩
    rw [← g2] at A2 D2 st2
    have g_b2 : n0 ≤ b2 := Nat.le_trans Z0 (Nat.le_of_eq g2.symm)
    have Z3 := Nat.le_trans Z0 E2.1
    have F_documents_b2 : Fld Z h2 b2 "com/example/lean_scorer/leanscorer/Postings" "documents" "[I" .null := D2 (Or.inl (own_w hw 12 rfl)) (ty := (.array .int)) (by decide)
    have F_frequencies_b2 : Fld Z h2 b2 "com/example/lean_scorer/leanscorer/Postings" "frequencies" "[I" .null := D2 (Or.inl (own_w hw 14 rfl)) (ty := (.array .int)) (by decide)
    have F_minLength_b2 : Fld Z h2 b2 "com/example/lean_scorer/leanscorer/Postings" "minLength" "I" (.int (0 : Int32)) := D2 (Or.inl (own_w hw 17 rfl)) (ty := .int) (by decide)
    have F_size_b2 : Fld Z h2 b2 "com/example/lean_scorer/leanscorer/Postings" "size" "I" (.int (0 : Int32)) := D2 (Or.inl (own_w hw 24 rfl)) (ty := .int) (by decide)
    have F_maxFrequency_b2 : Fld Z h2 b2 "com/example/lean_scorer/leanscorer/Postings" "maxFrequency" "I" (.int (0 : Int32)) := D2 (Or.inl (own_w hw 26 rfl)) (ty := .int) (by decide)
    refine own_st st2 ?_
    show own_E p e below _ T2 (mkF m 57 #[iv p1, iv p2, iv p3, iv p4, iv p5, iv p6, iv 0, iv (p1 &&& (1073741823 : Int32)), iv (((p1 &&& (1073741823 : Int32)) + (1 : Int32)) + (p2 &&& (255 : Int32))), iv (((((p1 &&& (1073741823 : Int32)) + (1 : Int32)) + (p2 &&& (255 : Int32))) + (1 : Int32)) + (((p2.toUInt32 >>> ((8 : Int32) &&& 31).toUInt32).toInt32) &&& (255 : Int32))), iv (((p1 &&& (1073741823 : Int32)) - (4 : Int32)) + (((p6.toUInt32 >>> ((2 : Int32) &&& 31).toUInt32).toInt32) &&& (1023 : Int32))), .unset, .unset] [.ref b2])
    refine own_st (fun t k => XS.dup X2.here hx rfl (hb hby at_57) rfl rfl k) ?_
    show own_E p e below _ T2 (mkF m 58 #[iv p1, iv p2, iv p3, iv p4, iv p5, iv p6, iv 0, iv (p1 &&& (1073741823 : Int32)), iv (((p1 &&& (1073741823 : Int32)) + (1 : Int32)) + (p2 &&& (255 : Int32))), iv (((((p1 &&& (1073741823 : Int32)) + (1 : Int32)) + (p2 &&& (255 : Int32))) + (1 : Int32)) + (((p2.toUInt32 >>> ((8 : Int32) &&& 31).toUInt32).toInt32) &&& (255 : Int32))), iv (((p1 &&& (1073741823 : Int32)) - (4 : Int32)) + (((p6.toUInt32 >>> ((2 : Int32) &&& 31).toUInt32).toInt32) &&& (1023 : Int32))), .unset, .unset] [.ref b2, .ref b2])
    obtain ⟨_, _, ⟨T4, L4, k4, n4⟩, -, X4, ⟨Lc4, hQ4, l4, y4, z4⟩, st4⟩ := X2.specialBack hx (y := own_y3) rfl hown (mvT hZ (own_w hw 4 rfl)) (mvT hZ (own_w hw 5 rfl)) (mvT hZ (own_w hw 6 rfl)) (by decide) (backOf (W := 1) (own_init l Z a0 hw [] b2 h2 n0 Z3 A2 F_documents_b2 F_frequencies_b2 F_minLength_b2 F_maxFrequency_b2 F_size_b2 g_b2) hZ (own_w hw 6 rfl) (own_w hw 3 rfl) (by decide) (by decide)) (g := (mkF m 58 #[iv p1, iv p2, iv p3, iv p4, iv p5, iv p6, iv 0, iv (p1 &&& (1073741823 : Int32)), iv (((p1 &&& (1073741823 : Int32)) + (1 : Int32)) + (p2 &&& (255 : Int32))), iv (((((p1 &&& (1073741823 : Int32)) + (1 : Int32)) + (p2 &&& (255 : Int32))) + (1 : Int32)) + (((p2.toUInt32 >>> ((8 : Int32) &&& 31).toUInt32).toInt32) &&& (255 : Int32))), iv (((p1 &&& (1073741823 : Int32)) - (4 : Int32)) + (((p6.toUInt32 >>> ((2 : Int32) &&& 31).toUInt32).toInt32) &&& (1023 : Int32))), .unset, .unset] [.ref b2, .ref b2])) rfl (by rw [hml]; rfl) (Steps.refl _) (a := b2) (argsL := []) (rest := [(.ref b2)]) (lenOf own_pd_0 rfl) rfl (by show 2 * 0 + _ ≤ _; exact Nat.le_of_eq rfl) (hb hby at_58) (fun _ _ => ⟨rfl, e2, (by decide : 1 + 2 ≤ _), (by decide : 5 + 2 ≤ _)⟩)
    dsimp only [Pt.U, Pt.locs, Pt.cells, Pt.slots] at X4 l4 y4 z4 st4 hQ4
    subst l4 y4 z4
    obtain ⟨b4_o0, b4_o1, k4_o2, k4_o3, rfl, Nq4, Kq4, sz4_0, sz4_1, nq4_0_1, P4_0, P4_1, P4_2, P4_3, P4_4, P4_5, P4_6, P4_7⟩ := hQ4
    have N4 := Fr.app (Fr.nil n0) Nq4
    have ne_b2_b4_o0 : b2 ≠ b4_o0 := Nat.ne_of_lt (Nat.lt_of_lt_of_le A2.lt sz4_0)
    have g_b4_o0 : n0 ≤ b4_o0 := Nat.le_trans Z3 sz4_0
    have ne_b2_b4_o1 : b2 ≠ b4_o1 := Nat.ne_of_lt (Nat.lt_of_lt_of_le A2.lt sz4_1)
    have g_b4_o1 : n0 ≤ b4_o1 := Nat.le_trans Z3 sz4_1
    have e4 : T4.heap = T4.heap := rfl
    have Z5 := Nat.le_trans Z3 Kq4.1
    refine own_tr st4 ?_
    show own_E p e below _ T4 (mkF m 61 #[iv p1, iv p2, iv p3, iv p4, iv p5, iv p6, iv 0, iv (p1 &&& (1073741823 : Int32)), iv (((p1 &&& (1073741823 : Int32)) + (1 : Int32)) + (p2 &&& (255 : Int32))), iv (((((p1 &&& (1073741823 : Int32)) + (1 : Int32)) + (p2 &&& (255 : Int32))) + (1 : Int32)) + (((p2.toUInt32 >>> ((8 : Int32) &&& 31).toUInt32).toInt32) &&& (255 : Int32))), iv (((p1 &&& (1073741823 : Int32)) - (4 : Int32)) + (((p6.toUInt32 >>> ((2 : Int32) &&& 31).toUInt32).toInt32) &&& (1023 : Int32))), .unset, .unset] [.ref b2])
    refine own_st (fun t k => XS.astore X4.here hx rfl (hb hby at_61) rfl rfl (l' := #[iv p1, iv p2, iv p3, iv p4, iv p5, iv p6, iv 0, iv (p1 &&& (1073741823 : Int32)), iv (((p1 &&& (1073741823 : Int32)) + (1 : Int32)) + (p2 &&& (255 : Int32))), iv (((((p1 &&& (1073741823 : Int32)) + (1 : Int32)) + (p2 &&& (255 : Int32))) + (1 : Int32)) + (((p2.toUInt32 >>> ((8 : Int32) &&& 31).toUInt32).toInt32) &&& (255 : Int32))), iv (((p1 &&& (1073741823 : Int32)) - (4 : Int32)) + (((p6.toUInt32 >>> ((2 : Int32) &&& 31).toUInt32).toInt32) &&& (1023 : Int32))), rv b2, .unset]) rfl k) ?_
    show own_E p e below _ T4 (mkF m 63 #[iv p1, iv p2, iv p3, iv p4, iv p5, iv p6, iv 0, iv (p1 &&& (1073741823 : Int32)), iv (((p1 &&& (1073741823 : Int32)) + (1 : Int32)) + (p2 &&& (255 : Int32))), iv (((((p1 &&& (1073741823 : Int32)) + (1 : Int32)) + (p2 &&& (255 : Int32))) + (1 : Int32)) + (((p2.toUInt32 >>> ((8 : Int32) &&& 31).toUInt32).toInt32) &&& (255 : Int32))), iv (((p1 &&& (1073741823 : Int32)) - (4 : Int32)) + (((p6.toUInt32 >>> ((2 : Int32) &&& 31).toUInt32).toInt32) &&& (1023 : Int32))), rv b2, .unset] [])
    refine own_st (fun t k => XS.iload X4.here hx rfl (hb hby at_63) rfl k) ?_
    show own_E p e below _ T4 (mkF m 65 #[iv p1, iv p2, iv p3, iv p4, iv p5, iv p6, iv 0, iv (p1 &&& (1073741823 : Int32)), iv (((p1 &&& (1073741823 : Int32)) + (1 : Int32)) + (p2 &&& (255 : Int32))), iv (((((p1 &&& (1073741823 : Int32)) + (1 : Int32)) + (p2 &&& (255 : Int32))) + (1 : Int32)) + (((p2.toUInt32 >>> ((8 : Int32) &&& 31).toUInt32).toInt32) &&& (255 : Int32))), iv (((p1 &&& (1073741823 : Int32)) - (4 : Int32)) + (((p6.toUInt32 >>> ((2 : Int32) &&& 31).toUInt32).toInt32) &&& (1023 : Int32))), rv b2, .unset] [.int 0])
    refine own_st (fun t k => XS.iconst X4.here hx rfl (hb hby at_65) k) ?_
    show own_E p e below _ T4 (mkF m 66 #[iv p1, iv p2, iv p3, iv p4, iv p5, iv p6, iv 0, iv (p1 &&& (1073741823 : Int32)), iv (((p1 &&& (1073741823 : Int32)) + (1 : Int32)) + (p2 &&& (255 : Int32))), iv (((((p1 &&& (1073741823 : Int32)) + (1 : Int32)) + (p2 &&& (255 : Int32))) + (1 : Int32)) + (((p2.toUInt32 >>> ((8 : Int32) &&& 31).toUInt32).toInt32) &&& (255 : Int32))), iv (((p1 &&& (1073741823 : Int32)) - (4 : Int32)) + (((p6.toUInt32 >>> ((2 : Int32) &&& 31).toUInt32).toInt32) &&& (1023 : Int32))), rv b2, .unset] [.int 1, .int 0])
    refine own_st (fun t k => XS.icmpYes X4.here hx rfl (pc0 := 66) (pc' := 78) rfl (hb hby at_66) rfl (by decide) (by decide) (by decide) k) ?_
    show own_E p e below _ T4 (mkF m 78 #[iv p1, iv p2, iv p3, iv p4, iv p5, iv p6, iv 0, iv (p1 &&& (1073741823 : Int32)), iv (((p1 &&& (1073741823 : Int32)) + (1 : Int32)) + (p2 &&& (255 : Int32))), iv (((((p1 &&& (1073741823 : Int32)) + (1 : Int32)) + (p2 &&& (255 : Int32))) + (1 : Int32)) + (((p2.toUInt32 >>> ((8 : Int32) &&& 31).toUInt32).toInt32) &&& (255 : Int32))), iv (((p1 &&& (1073741823 : Int32)) - (4 : Int32)) + (((p6.toUInt32 >>> ((2 : Int32) &&& 31).toUInt32).toInt32) &&& (1023 : Int32))), rv b2, .unset] [])
    refine own_st (fun t k => XS.iload X4.here hx rfl (hb hby at_78) rfl k) ?_
    show own_E p e below _ T4 (mkF m 80 #[iv p1, iv p2, iv p3, iv p4, iv p5, iv p6, iv 0, iv (p1 &&& (1073741823 : Int32)), iv (((p1 &&& (1073741823 : Int32)) + (1 : Int32)) + (p2 &&& (255 : Int32))), iv (((((p1 &&& (1073741823 : Int32)) + (1 : Int32)) + (p2 &&& (255 : Int32))) + (1 : Int32)) + (((p2.toUInt32 >>> ((8 : Int32) &&& 31).toUInt32).toInt32) &&& (255 : Int32))), iv (((p1 &&& (1073741823 : Int32)) - (4 : Int32)) + (((p6.toUInt32 >>> ((2 : Int32) &&& 31).toUInt32).toInt32) &&& (1023 : Int32))), rv b2, .unset] [.int 0])
    refine own_st (fun t k => XS.iconst X4.here hx rfl (hb hby at_80) k) ?_
    show own_E p e below _ T4 (mkF m 81 #[iv p1, iv p2, iv p3, iv p4, iv p5, iv p6, iv 0, iv (p1 &&& (1073741823 : Int32)), iv (((p1 &&& (1073741823 : Int32)) + (1 : Int32)) + (p2 &&& (255 : Int32))), iv (((((p1 &&& (1073741823 : Int32)) + (1 : Int32)) + (p2 &&& (255 : Int32))) + (1 : Int32)) + (((p2.toUInt32 >>> ((8 : Int32) &&& 31).toUInt32).toInt32) &&& (255 : Int32))), iv (((p1 &&& (1073741823 : Int32)) - (4 : Int32)) + (((p6.toUInt32 >>> ((2 : Int32) &&& 31).toUInt32).toInt32) &&& (1023 : Int32))), rv b2, .unset] [.int 2, .int 0])
    refine own_st (fun t k => XS.icmpYes X4.here hx rfl (pc0 := 81) (pc' := 93) rfl (hb hby at_81) rfl (by decide) (by decide) (by decide) k) ?_
    show own_E p e below _ T4 (mkF m 93 #[iv p1, iv p2, iv p3, iv p4, iv p5, iv p6, iv 0, iv (p1 &&& (1073741823 : Int32)), iv (((p1 &&& (1073741823 : Int32)) + (1 : Int32)) + (p2 &&& (255 : Int32))), iv (((((p1 &&& (1073741823 : Int32)) + (1 : Int32)) + (p2 &&& (255 : Int32))) + (1 : Int32)) + (((p2.toUInt32 >>> ((8 : Int32) &&& 31).toUInt32).toInt32) &&& (255 : Int32))), iv (((p1 &&& (1073741823 : Int32)) - (4 : Int32)) + (((p6.toUInt32 >>> ((2 : Int32) &&& 31).toUInt32).toInt32) &&& (1023 : Int32))), rv b2, .unset] [])
    refine own_st (fun t k => XS.iload X4.here hx rfl (hb hby at_93) rfl k) ?_
    show own_E p e below _ T4 (mkF m 95 #[iv p1, iv p2, iv p3, iv p4, iv p5, iv p6, iv 0, iv (p1 &&& (1073741823 : Int32)), iv (((p1 &&& (1073741823 : Int32)) + (1 : Int32)) + (p2 &&& (255 : Int32))), iv (((((p1 &&& (1073741823 : Int32)) + (1 : Int32)) + (p2 &&& (255 : Int32))) + (1 : Int32)) + (((p2.toUInt32 >>> ((8 : Int32) &&& 31).toUInt32).toInt32) &&& (255 : Int32))), iv (((p1 &&& (1073741823 : Int32)) - (4 : Int32)) + (((p6.toUInt32 >>> ((2 : Int32) &&& 31).toUInt32).toInt32) &&& (1023 : Int32))), rv b2, .unset] [.int 0])
    refine own_st (fun t k => XS.iconst X4.here hx rfl (hb hby at_95) k) ?_
    show own_E p e below _ T4 (mkF m 96 #[iv p1, iv p2, iv p3, iv p4, iv p5, iv p6, iv 0, iv (p1 &&& (1073741823 : Int32)), iv (((p1 &&& (1073741823 : Int32)) + (1 : Int32)) + (p2 &&& (255 : Int32))), iv (((((p1 &&& (1073741823 : Int32)) + (1 : Int32)) + (p2 &&& (255 : Int32))) + (1 : Int32)) + (((p2.toUInt32 >>> ((8 : Int32) &&& 31).toUInt32).toInt32) &&& (255 : Int32))), iv (((p1 &&& (1073741823 : Int32)) - (4 : Int32)) + (((p6.toUInt32 >>> ((2 : Int32) &&& 31).toUInt32).toInt32) &&& (1023 : Int32))), rv b2, .unset] [.int 3, .int 0])
    refine own_st (fun t k => XS.icmpYes X4.here hx rfl (pc0 := 96) (pc' := 109) rfl (hb hby at_96) rfl (by decide) (by decide) (by decide) k) ?_
    show own_E p e below _ T4 (mkF m 109 #[iv p1, iv p2, iv p3, iv p4, iv p5, iv p6, iv 0, iv (p1 &&& (1073741823 : Int32)), iv (((p1 &&& (1073741823 : Int32)) + (1 : Int32)) + (p2 &&& (255 : Int32))), iv (((((p1 &&& (1073741823 : Int32)) + (1 : Int32)) + (p2 &&& (255 : Int32))) + (1 : Int32)) + (((p2.toUInt32 >>> ((8 : Int32) &&& 31).toUInt32).toInt32) &&& (255 : Int32))), iv (((p1 &&& (1073741823 : Int32)) - (4 : Int32)) + (((p6.toUInt32 >>> ((2 : Int32) &&& 31).toUInt32).toInt32) &&& (1023 : Int32))), rv b2, .unset] [])
    refine own_st (fun t k => XS.iconst X4.here hx rfl (hb hby at_109) k) ?_
    show own_E p e below _ T4 (mkF m 110 #[iv p1, iv p2, iv p3, iv p4, iv p5, iv p6, iv 0, iv (p1 &&& (1073741823 : Int32)), iv (((p1 &&& (1073741823 : Int32)) + (1 : Int32)) + (p2 &&& (255 : Int32))), iv (((((p1 &&& (1073741823 : Int32)) + (1 : Int32)) + (p2 &&& (255 : Int32))) + (1 : Int32)) + (((p2.toUInt32 >>> ((8 : Int32) &&& 31).toUInt32).toInt32) &&& (255 : Int32))), iv (((p1 &&& (1073741823 : Int32)) - (4 : Int32)) + (((p6.toUInt32 >>> ((2 : Int32) &&& 31).toUInt32).toInt32) &&& (1023 : Int32))), rv b2, .unset] [.int 0])
    refine own_st (fun t k => XS.istore X4.here hx rfl (hb hby at_110) rfl (l' := #[iv p1, iv p2, iv p3, iv p4, iv p5, iv p6, iv 0, iv (p1 &&& (1073741823 : Int32)), iv (((p1 &&& (1073741823 : Int32)) + (1 : Int32)) + (p2 &&& (255 : Int32))), iv (((((p1 &&& (1073741823 : Int32)) + (1 : Int32)) + (p2 &&& (255 : Int32))) + (1 : Int32)) + (((p2.toUInt32 >>> ((8 : Int32) &&& 31).toUInt32).toInt32) &&& (255 : Int32))), iv (((p1 &&& (1073741823 : Int32)) - (4 : Int32)) + (((p6.toUInt32 >>> ((2 : Int32) &&& 31).toUInt32).toInt32) &&& (1023 : Int32))), rv b2, iv 0]) rfl k) ?_
    show own_E p e below _ T4 (mkF m 112 #[iv p1, iv p2, iv p3, iv p4, iv p5, iv p6, iv 0, iv (p1 &&& (1073741823 : Int32)), iv (((p1 &&& (1073741823 : Int32)) + (1 : Int32)) + (p2 &&& (255 : Int32))), iv (((((p1 &&& (1073741823 : Int32)) + (1 : Int32)) + (p2 &&& (255 : Int32))) + (1 : Int32)) + (((p2.toUInt32 >>> ((8 : Int32) &&& 31).toUInt32).toInt32) &&& (255 : Int32))), iv (((p1 &&& (1073741823 : Int32)) - (4 : Int32)) + (((p6.toUInt32 >>> ((2 : Int32) &&& 31).toUInt32).toInt32) &&& (1023 : Int32))), rv b2, iv 0] [])
    refine own_st (fun t k => XS.iload X4.here hx rfl (hb hby at_112) rfl k) ?_
    show own_E p e below _ T4 (mkF m 114 #[iv p1, iv p2, iv p3, iv p4, iv p5, iv p6, iv 0, iv (p1 &&& (1073741823 : Int32)), iv (((p1 &&& (1073741823 : Int32)) + (1 : Int32)) + (p2 &&& (255 : Int32))), iv (((((p1 &&& (1073741823 : Int32)) + (1 : Int32)) + (p2 &&& (255 : Int32))) + (1 : Int32)) + (((p2.toUInt32 >>> ((8 : Int32) &&& 31).toUInt32).toInt32) &&& (255 : Int32))), iv (((p1 &&& (1073741823 : Int32)) - (4 : Int32)) + (((p6.toUInt32 >>> ((2 : Int32) &&& 31).toUInt32).toInt32) &&& (1023 : Int32))), rv b2, iv 0] [.int 0])
    refine own_st (fun t k => XS.iconst X4.here hx rfl (hb hby at_114) k) ?_
    show own_E p e below _ T4 (mkF m 115 #[iv p1, iv p2, iv p3, iv p4, iv p5, iv p6, iv 0, iv (p1 &&& (1073741823 : Int32)), iv (((p1 &&& (1073741823 : Int32)) + (1 : Int32)) + (p2 &&& (255 : Int32))), iv (((((p1 &&& (1073741823 : Int32)) + (1 : Int32)) + (p2 &&& (255 : Int32))) + (1 : Int32)) + (((p2.toUInt32 >>> ((8 : Int32) &&& 31).toUInt32).toInt32) &&& (255 : Int32))), iv (((p1 &&& (1073741823 : Int32)) - (4 : Int32)) + (((p6.toUInt32 >>> ((2 : Int32) &&& 31).toUInt32).toInt32) &&& (1023 : Int32))), rv b2, iv 0] [.int 1, .int 0])
    refine own_st (fun t k => XS.icmpYes X4.here hx rfl (pc0 := 115) (pc' := 128) rfl (hb hby at_115) rfl (by decide) (by decide) (by decide) k) ?_
    show own_E p e below _ T4 (mkF m 128 #[iv p1, iv p2, iv p3, iv p4, iv p5, iv p6, iv 0, iv (p1 &&& (1073741823 : Int32)), iv (((p1 &&& (1073741823 : Int32)) + (1 : Int32)) + (p2 &&& (255 : Int32))), iv (((((p1 &&& (1073741823 : Int32)) + (1 : Int32)) + (p2 &&& (255 : Int32))) + (1 : Int32)) + (((p2.toUInt32 >>> ((8 : Int32) &&& 31).toUInt32).toInt32) &&& (255 : Int32))), iv (((p1 &&& (1073741823 : Int32)) - (4 : Int32)) + (((p6.toUInt32 >>> ((2 : Int32) &&& 31).toUInt32).toInt32) &&& (1023 : Int32))), rv b2, iv 0] [])
    refine own_st (fun t k => XS.iload X4.here hx rfl (hb hby at_128) rfl k) ?_
    show own_E p e below _ T4 (mkF m 130 #[iv p1, iv p2, iv p3, iv p4, iv p5, iv p6, iv 0, iv (p1 &&& (1073741823 : Int32)), iv (((p1 &&& (1073741823 : Int32)) + (1 : Int32)) + (p2 &&& (255 : Int32))), iv (((((p1 &&& (1073741823 : Int32)) + (1 : Int32)) + (p2 &&& (255 : Int32))) + (1 : Int32)) + (((p2.toUInt32 >>> ((8 : Int32) &&& 31).toUInt32).toInt32) &&& (255 : Int32))), iv (((p1 &&& (1073741823 : Int32)) - (4 : Int32)) + (((p6.toUInt32 >>> ((2 : Int32) &&& 31).toUInt32).toInt32) &&& (1023 : Int32))), rv b2, iv 0] [.int 0])
    refine own_st (fun t k => XS.iconst X4.here hx rfl (hb hby at_130) k) ?_
    show own_E p e below _ T4 (mkF m 131 #[iv p1, iv p2, iv p3, iv p4, iv p5, iv p6, iv 0, iv (p1 &&& (1073741823 : Int32)), iv (((p1 &&& (1073741823 : Int32)) + (1 : Int32)) + (p2 &&& (255 : Int32))), iv (((((p1 &&& (1073741823 : Int32)) + (1 : Int32)) + (p2 &&& (255 : Int32))) + (1 : Int32)) + (((p2.toUInt32 >>> ((8 : Int32) &&& 31).toUInt32).toInt32) &&& (255 : Int32))), iv (((p1 &&& (1073741823 : Int32)) - (4 : Int32)) + (((p6.toUInt32 >>> ((2 : Int32) &&& 31).toUInt32).toInt32) &&& (1023 : Int32))), rv b2, iv 0] [.int 2, .int 0])
    refine own_st (fun t k => XS.icmpYes X4.here hx rfl (pc0 := 131) (pc' := 144) rfl (hb hby at_131) rfl (by decide) (by decide) (by decide) k) ?_
    show own_E p e below _ T4 (mkF m 144 #[iv p1, iv p2, iv p3, iv p4, iv p5, iv p6, iv 0, iv (p1 &&& (1073741823 : Int32)), iv (((p1 &&& (1073741823 : Int32)) + (1 : Int32)) + (p2 &&& (255 : Int32))), iv (((((p1 &&& (1073741823 : Int32)) + (1 : Int32)) + (p2 &&& (255 : Int32))) + (1 : Int32)) + (((p2.toUInt32 >>> ((8 : Int32) &&& 31).toUInt32).toInt32) &&& (255 : Int32))), iv (((p1 &&& (1073741823 : Int32)) - (4 : Int32)) + (((p6.toUInt32 >>> ((2 : Int32) &&& 31).toUInt32).toInt32) &&& (1023 : Int32))), rv b2, iv 0] [])
    refine own_st (fun t k => XS.iload X4.here hx rfl (hb hby at_144) rfl k) ?_
    show own_E p e below _ T4 (mkF m 146 #[iv p1, iv p2, iv p3, iv p4, iv p5, iv p6, iv 0, iv (p1 &&& (1073741823 : Int32)), iv (((p1 &&& (1073741823 : Int32)) + (1 : Int32)) + (p2 &&& (255 : Int32))), iv (((((p1 &&& (1073741823 : Int32)) + (1 : Int32)) + (p2 &&& (255 : Int32))) + (1 : Int32)) + (((p2.toUInt32 >>> ((8 : Int32) &&& 31).toUInt32).toInt32) &&& (255 : Int32))), iv (((p1 &&& (1073741823 : Int32)) - (4 : Int32)) + (((p6.toUInt32 >>> ((2 : Int32) &&& 31).toUInt32).toInt32) &&& (1023 : Int32))), rv b2, iv 0] [.int 0])
    refine own_st (fun t k => XS.iconst X4.here hx rfl (hb hby at_146) k) ?_
    show own_E p e below _ T4 (mkF m 147 #[iv p1, iv p2, iv p3, iv p4, iv p5, iv p6, iv 0, iv (p1 &&& (1073741823 : Int32)), iv (((p1 &&& (1073741823 : Int32)) + (1 : Int32)) + (p2 &&& (255 : Int32))), iv (((((p1 &&& (1073741823 : Int32)) + (1 : Int32)) + (p2 &&& (255 : Int32))) + (1 : Int32)) + (((p2.toUInt32 >>> ((8 : Int32) &&& 31).toUInt32).toInt32) &&& (255 : Int32))), iv (((p1 &&& (1073741823 : Int32)) - (4 : Int32)) + (((p6.toUInt32 >>> ((2 : Int32) &&& 31).toUInt32).toInt32) &&& (1023 : Int32))), rv b2, iv 0] [.int 3, .int 0])
    refine own_st (fun t k => XS.icmpYes X4.here hx rfl (pc0 := 147) (pc' := 161) rfl (hb hby at_147) rfl (by decide) (by decide) (by decide) k) ?_
    show own_E p e below _ T4 (mkF m 161 #[iv p1, iv p2, iv p3, iv p4, iv p5, iv p6, iv 0, iv (p1 &&& (1073741823 : Int32)), iv (((p1 &&& (1073741823 : Int32)) + (1 : Int32)) + (p2 &&& (255 : Int32))), iv (((((p1 &&& (1073741823 : Int32)) + (1 : Int32)) + (p2 &&& (255 : Int32))) + (1 : Int32)) + (((p2.toUInt32 >>> ((8 : Int32) &&& 31).toUInt32).toInt32) &&& (255 : Int32))), iv (((p1 &&& (1073741823 : Int32)) - (4 : Int32)) + (((p6.toUInt32 >>> ((2 : Int32) &&& 31).toUInt32).toInt32) &&& (1023 : Int32))), rv b2, iv 0] [])
    refine own_st (fun t k => XS.aload X4.here hx rfl (hb hby at_161) rfl rfl k) ?_
    show own_E p e below _ T4 (mkF m 163 #[iv p1, iv p2, iv p3, iv p4, iv p5, iv p6, iv 0, iv (p1 &&& (1073741823 : Int32)), iv (((p1 &&& (1073741823 : Int32)) + (1 : Int32)) + (p2 &&& (255 : Int32))), iv (((((p1 &&& (1073741823 : Int32)) + (1 : Int32)) + (p2 &&& (255 : Int32))) + (1 : Int32)) + (((p2.toUInt32 >>> ((8 : Int32) &&& 31).toUInt32).toInt32) &&& (255 : Int32))), iv (((p1 &&& (1073741823 : Int32)) - (4 : Int32)) + (((p6.toUInt32 >>> ((2 : Int32) &&& 31).toUInt32).toInt32) &&& (1023 : Int32))), rv b2, iv 0] [.ref b2])
    refine own_st (fun t k => XS.iload X4.here hx rfl (hb hby at_163) rfl k) ?_
    show own_E p e below _ T4 (mkF m 165 #[iv p1, iv p2, iv p3, iv p4, iv p5, iv p6, iv 0, iv (p1 &&& (1073741823 : Int32)), iv (((p1 &&& (1073741823 : Int32)) + (1 : Int32)) + (p2 &&& (255 : Int32))), iv (((((p1 &&& (1073741823 : Int32)) + (1 : Int32)) + (p2 &&& (255 : Int32))) + (1 : Int32)) + (((p2.toUInt32 >>> ((8 : Int32) &&& 31).toUInt32).toInt32) &&& (255 : Int32))), iv (((p1 &&& (1073741823 : Int32)) - (4 : Int32)) + (((p6.toUInt32 >>> ((2 : Int32) &&& 31).toUInt32).toInt32) &&& (1023 : Int32))), rv b2, iv 0] [.int (((p1 &&& (1073741823 : Int32)) - (4 : Int32)) + (((p6.toUInt32 >>> ((2 : Int32) &&& 31).toUInt32).toInt32) &&& (1023 : Int32))), .ref b2])
    obtain ⟨cq6, kq6, q6a, q6b, q6c⟩ := isOf hZ e4 P4_0
    obtain ⟨_, _, ⟨T6, L6, k6, n6⟩, -, X6, ⟨Lc6, hQ6, l6, y6, z6⟩, st6⟩ := X4.virtualBack hx (y := own_y8) (z := own_y8) hown (mvT hZ (own_w hw 43 rfl)) (mvT hZ (own_w hw 44 rfl)) (notFace_of_selects (args := #[]) (mvT hZ (own_w hw 46 rfl))) (mvT hZ (own_w hw 46 rfl)) (mvT hZ (own_w hw 45 rfl)) (by decide) (backOf (W := 0) (own_freq0 l Z a0 hw [] b2 b4_o0 b4_o1 k4_o2 k4_o3 (((p1 &&& (1073741823 : Int32)) - (4 : Int32)) + (((p6.toUInt32 >>> ((2 : Int32) &&& 31).toUInt32).toInt32) &&& (1023 : Int32))) (0 : Int32) (0 : Int32) T4.heap n0 Z5 P4_1 P4_2 P4_5 P4_6 P4_7) hZ (own_w hw 47 rfl) (own_w hw 3 rfl) (by decide) (by decide)) q6a q6c (g := (mkF m 165 #[iv p1, iv p2, iv p3, iv p4, iv p5, iv p6, iv 0, iv (p1 &&& (1073741823 : Int32)), iv (((p1 &&& (1073741823 : Int32)) + (1 : Int32)) + (p2 &&& (255 : Int32))), iv (((((p1 &&& (1073741823 : Int32)) + (1 : Int32)) + (p2 &&& (255 : Int32))) + (1 : Int32)) + (((p2.toUInt32 >>> ((8 : Int32) &&& 31).toUInt32).toInt32) &&& (255 : Int32))), iv (((p1 &&& (1073741823 : Int32)) - (4 : Int32)) + (((p6.toUInt32 >>> ((2 : Int32) &&& 31).toUInt32).toInt32) &&& (1023 : Int32))), rv b2, iv 0] [.int (((p1 &&& (1073741823 : Int32)) - (4 : Int32)) + (((p6.toUInt32 >>> ((2 : Int32) &&& 31).toUInt32).toInt32) &&& (1023 : Int32))), .ref b2])) rfl (by rw [hml]; rfl) (Steps.refl _) (argsL := [(.int (((p1 &&& (1073741823 : Int32)) - (4 : Int32)) + (((p6.toUInt32 >>> ((2 : Int32) &&& 31).toUInt32).toInt32) &&& (1023 : Int32))))]) (rest := []) (lenOf own_pd_1 rfl) rfl (by show 2 * 0 + _ ≤ _; exact Nat.le_of_eq rfl) (hb hby at_165) (fun _ _ => ⟨rfl, e4, (by decide : 3 + 0 ≤ _), (by decide : 7 + 0 ≤ _)⟩)
    dsimp only [Pt.U, Pt.locs, Pt.cells, Pt.slots] at X6 l6 y6 z6 st6 hQ6
    subst l6 y6 z6
    obtain ⟨hR6, e6, rfl⟩ := hQ6
    have N6 := Fr.app N4 (Fr.nil n0)
    obtain rfl := hR6
    refine own_tr st6 ?_
    show own_E p e below _ T6 (mkF m 168 #[iv p1, iv p2, iv p3, iv p4, iv p5, iv p6, iv 0, iv (p1 &&& (1073741823 : Int32)), iv (((p1 &&& (1073741823 : Int32)) + (1 : Int32)) + (p2 &&& (255 : Int32))), iv (((((p1 &&& (1073741823 : Int32)) + (1 : Int32)) + (p2 &&& (255 : Int32))) + (1 : Int32)) + (((p2.toUInt32 >>> ((8 : Int32) &&& 31).toUInt32).toInt32) &&& (255 : Int32))), iv (((p1 &&& (1073741823 : Int32)) - (4 : Int32)) + (((p6.toUInt32 >>> ((2 : Int32) &&& 31).toUInt32).toInt32) &&& (1023 : Int32))), rv b2, iv 0] [.int 0])
    refine own_st (fun t k => XS.iload X6.here hx rfl (hb hby at_168) rfl k) ?_
    show own_E p e below _ T6 (mkF m 170 #[iv p1, iv p2, iv p3, iv p4, iv p5, iv p6, iv 0, iv (p1 &&& (1073741823 : Int32)), iv (((p1 &&& (1073741823 : Int32)) + (1 : Int32)) + (p2 &&& (255 : Int32))), iv (((((p1 &&& (1073741823 : Int32)) + (1 : Int32)) + (p2 &&& (255 : Int32))) + (1 : Int32)) + (((p2.toUInt32 >>> ((8 : Int32) &&& 31).toUInt32).toInt32) &&& (255 : Int32))), iv (((p1 &&& (1073741823 : Int32)) - (4 : Int32)) + (((p6.toUInt32 >>> ((2 : Int32) &&& 31).toUInt32).toInt32) &&& (1023 : Int32))), rv b2, iv 0] [.int 0, .int 0])
    refine own_st (fun t k => XS.icmpNo X6.here hx rfl (hb hby at_170) rfl (by decide) k) ?_
    show own_E p e below _ T6 (mkF m 173 #[iv p1, iv p2, iv p3, iv p4, iv p5, iv p6, iv 0, iv (p1 &&& (1073741823 : Int32)), iv (((p1 &&& (1073741823 : Int32)) + (1 : Int32)) + (p2 &&& (255 : Int32))), iv (((((p1 &&& (1073741823 : Int32)) + (1 : Int32)) + (p2 &&& (255 : Int32))) + (1 : Int32)) + (((p2.toUInt32 >>> ((8 : Int32) &&& 31).toUInt32).toInt32) &&& (255 : Int32))), iv (((p1 &&& (1073741823 : Int32)) - (4 : Int32)) + (((p6.toUInt32 >>> ((2 : Int32) &&& 31).toUInt32).toInt32) &&& (1023 : Int32))), rv b2, iv 0] [])
    refine own_st (fun t k => XS.iconst X6.here hx rfl (hb hby at_173) k) ?_
    show own_E p e below _ T6 (mkF m 174 #[iv p1, iv p2, iv p3, iv p4, iv p5, iv p6, iv 0, iv (p1 &&& (1073741823 : Int32)), iv (((p1 &&& (1073741823 : Int32)) + (1 : Int32)) + (p2 &&& (255 : Int32))), iv (((((p1 &&& (1073741823 : Int32)) + (1 : Int32)) + (p2 &&& (255 : Int32))) + (1 : Int32)) + (((p2.toUInt32 >>> ((8 : Int32) &&& 31).toUInt32).toInt32) &&& (255 : Int32))), iv (((p1 &&& (1073741823 : Int32)) - (4 : Int32)) + (((p6.toUInt32 >>> ((2 : Int32) &&& 31).toUInt32).toInt32) &&& (1023 : Int32))), rv b2, iv 0] [.int 1])
    refine own_st (fun t k => XS.goto X6.here hx rfl (pc0 := 174) (pc' := 178) rfl (hb hby at_174) (by decide) (by decide) k) ?_
    show own_E p e below _ T6 (mkF m 178 #[iv p1, iv p2, iv p3, iv p4, iv p5, iv p6, iv 0, iv (p1 &&& (1073741823 : Int32)), iv (((p1 &&& (1073741823 : Int32)) + (1 : Int32)) + (p2 &&& (255 : Int32))), iv (((((p1 &&& (1073741823 : Int32)) + (1 : Int32)) + (p2 &&& (255 : Int32))) + (1 : Int32)) + (((p2.toUInt32 >>> ((8 : Int32) &&& 31).toUInt32).toInt32) &&& (255 : Int32))), iv (((p1 &&& (1073741823 : Int32)) - (4 : Int32)) + (((p6.toUInt32 >>> ((2 : Int32) &&& 31).toUInt32).toInt32) &&& (1023 : Int32))), rv b2, iv 0] [.int 1])
    refine own_retS X6 hx Bd.notSynchronized Bd.returns rfl (by decide) (hb hby at_178) (by decide) (by decide) ?_
    exact ⟨rfl, N6⟩
  · rw [hs1]
    show own_E p e below _ s₁ (mkF m 6 #[iv p1, iv p2, iv p3, iv p4, iv p5, iv p6, iv 1, .unset, .unset, .unset, .unset, .unset, .unset] [])
    refine own_st (fun t k => XS.iloadN X0.here hx rfl (hb hby at_6) rfl k) ?_
    show own_E p e below _ s₁ (mkF m 7 #[iv p1, iv p2, iv p3, iv p4, iv p5, iv p6, iv 1, .unset, .unset, .unset, .unset, .unset, .unset] [.int p1])
    refine own_st (X0.ldcInt hx hown (mvT hZ (own_w hw 0 rfl)) (g := (mkF m 7 #[iv p1, iv p2, iv p3, iv p4, iv p5, iv p6, iv 1, .unset, .unset, .unset, .unset, .unset, .unset] [.int p1])) rfl (hb hby at_7)) ?_
    show own_E p e below _ s₁ (mkF m 9 #[iv p1, iv p2, iv p3, iv p4, iv p5, iv p6, iv 1, .unset, .unset, .unset, .unset, .unset, .unset] [.int 1073741823, .int p1])
    refine own_st (fun t k => XS.iand X0.here hx rfl (hb hby at_9) rfl k) ?_
    show own_E p e below _ s₁ (mkF m 10 #[iv p1, iv p2, iv p3, iv p4, iv p5, iv p6, iv 1, .unset, .unset, .unset, .unset, .unset, .unset] [.int (p1 &&& (1073741823 : Int32))])
    refine own_st (fun t k => XS.istore X0.here hx rfl (hb hby at_10) rfl (l' := #[iv p1, iv p2, iv p3, iv p4, iv p5, iv p6, iv 1, iv (p1 &&& (1073741823 : Int32)), .unset, .unset, .unset, .unset, .unset]) rfl k) ?_
    show own_E p e below _ s₁ (mkF m 12 #[iv p1, iv p2, iv p3, iv p4, iv p5, iv p6, iv 1, iv (p1 &&& (1073741823 : Int32)), .unset, .unset, .unset, .unset, .unset] [])
    refine own_st (fun t k => XS.iload X0.here hx rfl (hb hby at_12) rfl k) ?_
    show own_E p e below _ s₁ (mkF m 14 #[iv p1, iv p2, iv p3, iv p4, iv p5, iv p6, iv 1, iv (p1 &&& (1073741823 : Int32)), .unset, .unset, .unset, .unset, .unset] [.int (p1 &&& (1073741823 : Int32))])
    refine own_st (fun t k => XS.iconst X0.here hx rfl (hb hby at_14) k) ?_
    show own_E p e below _ s₁ (mkF m 15 #[iv p1, iv p2, iv p3, iv p4, iv p5, iv p6, iv 1, iv (p1 &&& (1073741823 : Int32)), .unset, .unset, .unset, .unset, .unset] [.int 1, .int (p1 &&& (1073741823 : Int32))])
    refine own_st (fun t k => XS.iadd X0.here hx rfl (hb hby at_15) rfl k) ?_
    show own_E p e below _ s₁ (mkF m 16 #[iv p1, iv p2, iv p3, iv p4, iv p5, iv p6, iv 1, iv (p1 &&& (1073741823 : Int32)), .unset, .unset, .unset, .unset, .unset] [.int ((p1 &&& (1073741823 : Int32)) + (1 : Int32))])
    refine own_st (fun t k => XS.iloadN X0.here hx rfl (hb hby at_16) rfl k) ?_
    show own_E p e below _ s₁ (mkF m 17 #[iv p1, iv p2, iv p3, iv p4, iv p5, iv p6, iv 1, iv (p1 &&& (1073741823 : Int32)), .unset, .unset, .unset, .unset, .unset] [.int p2, .int ((p1 &&& (1073741823 : Int32)) + (1 : Int32))])
    refine own_st (fun t k => XS.sipush X0.here hx rfl (hb hby at_17) k) ?_
    show own_E p e below _ s₁ (mkF m 20 #[iv p1, iv p2, iv p3, iv p4, iv p5, iv p6, iv 1, iv (p1 &&& (1073741823 : Int32)), .unset, .unset, .unset, .unset, .unset] [.int 255, .int p2, .int ((p1 &&& (1073741823 : Int32)) + (1 : Int32))])
    refine own_st (fun t k => XS.iand X0.here hx rfl (hb hby at_20) rfl k) ?_
    show own_E p e below _ s₁ (mkF m 21 #[iv p1, iv p2, iv p3, iv p4, iv p5, iv p6, iv 1, iv (p1 &&& (1073741823 : Int32)), .unset, .unset, .unset, .unset, .unset] [.int (p2 &&& (255 : Int32)), .int ((p1 &&& (1073741823 : Int32)) + (1 : Int32))])
    refine own_st (fun t k => XS.iadd X0.here hx rfl (hb hby at_21) rfl k) ?_
    show own_E p e below _ s₁ (mkF m 22 #[iv p1, iv p2, iv p3, iv p4, iv p5, iv p6, iv 1, iv (p1 &&& (1073741823 : Int32)), .unset, .unset, .unset, .unset, .unset] [.int (((p1 &&& (1073741823 : Int32)) + (1 : Int32)) + (p2 &&& (255 : Int32)))])
    refine own_st (fun t k => XS.istore X0.here hx rfl (hb hby at_22) rfl (l' := #[iv p1, iv p2, iv p3, iv p4, iv p5, iv p6, iv 1, iv (p1 &&& (1073741823 : Int32)), iv (((p1 &&& (1073741823 : Int32)) + (1 : Int32)) + (p2 &&& (255 : Int32))), .unset, .unset, .unset, .unset]) rfl k) ?_
    show own_E p e below _ s₁ (mkF m 24 #[iv p1, iv p2, iv p3, iv p4, iv p5, iv p6, iv 1, iv (p1 &&& (1073741823 : Int32)), iv (((p1 &&& (1073741823 : Int32)) + (1 : Int32)) + (p2 &&& (255 : Int32))), .unset, .unset, .unset, .unset] [])
    refine own_st (fun t k => XS.iload X0.here hx rfl (hb hby at_24) rfl k) ?_
    show own_E p e below _ s₁ (mkF m 26 #[iv p1, iv p2, iv p3, iv p4, iv p5, iv p6, iv 1, iv (p1 &&& (1073741823 : Int32)), iv (((p1 &&& (1073741823 : Int32)) + (1 : Int32)) + (p2 &&& (255 : Int32))), .unset, .unset, .unset, .unset] [.int (((p1 &&& (1073741823 : Int32)) + (1 : Int32)) + (p2 &&& (255 : Int32)))])
    refine own_st (fun t k => XS.iconst X0.here hx rfl (hb hby at_26) k) ?_
    show own_E p e below _ s₁ (mkF m 27 #[iv p1, iv p2, iv p3, iv p4, iv p5, iv p6, iv 1, iv (p1 &&& (1073741823 : Int32)), iv (((p1 &&& (1073741823 : Int32)) + (1 : Int32)) + (p2 &&& (255 : Int32))), .unset, .unset, .unset, .unset] [.int 1, .int (((p1 &&& (1073741823 : Int32)) + (1 : Int32)) + (p2 &&& (255 : Int32)))])
    refine own_st (fun t k => XS.iadd X0.here hx rfl (hb hby at_27) rfl k) ?_
    show own_E p e below _ s₁ (mkF m 28 #[iv p1, iv p2, iv p3, iv p4, iv p5, iv p6, iv 1, iv (p1 &&& (1073741823 : Int32)), iv (((p1 &&& (1073741823 : Int32)) + (1 : Int32)) + (p2 &&& (255 : Int32))), .unset, .unset, .unset, .unset] [.int ((((p1 &&& (1073741823 : Int32)) + (1 : Int32)) + (p2 &&& (255 : Int32))) + (1 : Int32))])
    refine own_st (fun t k => XS.iloadN X0.here hx rfl (hb hby at_28) rfl k) ?_
    show own_E p e below _ s₁ (mkF m 29 #[iv p1, iv p2, iv p3, iv p4, iv p5, iv p6, iv 1, iv (p1 &&& (1073741823 : Int32)), iv (((p1 &&& (1073741823 : Int32)) + (1 : Int32)) + (p2 &&& (255 : Int32))), .unset, .unset, .unset, .unset] [.int p2, .int ((((p1 &&& (1073741823 : Int32)) + (1 : Int32)) + (p2 &&& (255 : Int32))) + (1 : Int32))])
    refine own_st (fun t k => XS.bipush X0.here hx rfl (hb hby at_29) k) ?_
    show own_E p e below _ s₁ (mkF m 31 #[iv p1, iv p2, iv p3, iv p4, iv p5, iv p6, iv 1, iv (p1 &&& (1073741823 : Int32)), iv (((p1 &&& (1073741823 : Int32)) + (1 : Int32)) + (p2 &&& (255 : Int32))), .unset, .unset, .unset, .unset] [.int 8, .int p2, .int ((((p1 &&& (1073741823 : Int32)) + (1 : Int32)) + (p2 &&& (255 : Int32))) + (1 : Int32))])
    refine own_st (fun t k => XS.iushr X0.here hx rfl (hb hby at_31) rfl k) ?_
    show own_E p e below _ s₁ (mkF m 32 #[iv p1, iv p2, iv p3, iv p4, iv p5, iv p6, iv 1, iv (p1 &&& (1073741823 : Int32)), iv (((p1 &&& (1073741823 : Int32)) + (1 : Int32)) + (p2 &&& (255 : Int32))), .unset, .unset, .unset, .unset] [.int ((p2.toUInt32 >>> ((8 : Int32) &&& 31).toUInt32).toInt32), .int ((((p1 &&& (1073741823 : Int32)) + (1 : Int32)) + (p2 &&& (255 : Int32))) + (1 : Int32))])
    refine own_st (fun t k => XS.sipush X0.here hx rfl (hb hby at_32) k) ?_
    show own_E p e below _ s₁ (mkF m 35 #[iv p1, iv p2, iv p3, iv p4, iv p5, iv p6, iv 1, iv (p1 &&& (1073741823 : Int32)), iv (((p1 &&& (1073741823 : Int32)) + (1 : Int32)) + (p2 &&& (255 : Int32))), .unset, .unset, .unset, .unset] [.int 255, .int ((p2.toUInt32 >>> ((8 : Int32) &&& 31).toUInt32).toInt32), .int ((((p1 &&& (1073741823 : Int32)) + (1 : Int32)) + (p2 &&& (255 : Int32))) + (1 : Int32))])
    refine own_st (fun t k => XS.iand X0.here hx rfl (hb hby at_35) rfl k) ?_
    show own_E p e below _ s₁ (mkF m 36 #[iv p1, iv p2, iv p3, iv p4, iv p5, iv p6, iv 1, iv (p1 &&& (1073741823 : Int32)), iv (((p1 &&& (1073741823 : Int32)) + (1 : Int32)) + (p2 &&& (255 : Int32))), .unset, .unset, .unset, .unset] [.int (((p2.toUInt32 >>> ((8 : Int32) &&& 31).toUInt32).toInt32) &&& (255 : Int32)), .int ((((p1 &&& (1073741823 : Int32)) + (1 : Int32)) + (p2 &&& (255 : Int32))) + (1 : Int32))])
    refine own_st (fun t k => XS.iadd X0.here hx rfl (hb hby at_36) rfl k) ?_
    show own_E p e below _ s₁ (mkF m 37 #[iv p1, iv p2, iv p3, iv p4, iv p5, iv p6, iv 1, iv (p1 &&& (1073741823 : Int32)), iv (((p1 &&& (1073741823 : Int32)) + (1 : Int32)) + (p2 &&& (255 : Int32))), .unset, .unset, .unset, .unset] [.int (((((p1 &&& (1073741823 : Int32)) + (1 : Int32)) + (p2 &&& (255 : Int32))) + (1 : Int32)) + (((p2.toUInt32 >>> ((8 : Int32) &&& 31).toUInt32).toInt32) &&& (255 : Int32)))])
    refine own_st (fun t k => XS.istore X0.here hx rfl (hb hby at_37) rfl (l' := #[iv p1, iv p2, iv p3, iv p4, iv p5, iv p6, iv 1, iv (p1 &&& (1073741823 : Int32)), iv (((p1 &&& (1073741823 : Int32)) + (1 : Int32)) + (p2 &&& (255 : Int32))), iv (((((p1 &&& (1073741823 : Int32)) + (1 : Int32)) + (p2 &&& (255 : Int32))) + (1 : Int32)) + (((p2.toUInt32 >>> ((8 : Int32) &&& 31).toUInt32).toInt32) &&& (255 : Int32))), .unset, .unset, .unset]) rfl k) ?_
    show own_E p e below _ s₁ (mkF m 39 #[iv p1, iv p2, iv p3, iv p4, iv p5, iv p6, iv 1, iv (p1 &&& (1073741823 : Int32)), iv (((p1 &&& (1073741823 : Int32)) + (1 : Int32)) + (p2 &&& (255 : Int32))), iv (((((p1 &&& (1073741823 : Int32)) + (1 : Int32)) + (p2 &&& (255 : Int32))) + (1 : Int32)) + (((p2.toUInt32 >>> ((8 : Int32) &&& 31).toUInt32).toInt32) &&& (255 : Int32))), .unset, .unset, .unset] [])
    refine own_st (fun t k => XS.iload X0.here hx rfl (hb hby at_39) rfl k) ?_
    show own_E p e below _ s₁ (mkF m 41 #[iv p1, iv p2, iv p3, iv p4, iv p5, iv p6, iv 1, iv (p1 &&& (1073741823 : Int32)), iv (((p1 &&& (1073741823 : Int32)) + (1 : Int32)) + (p2 &&& (255 : Int32))), iv (((((p1 &&& (1073741823 : Int32)) + (1 : Int32)) + (p2 &&& (255 : Int32))) + (1 : Int32)) + (((p2.toUInt32 >>> ((8 : Int32) &&& 31).toUInt32).toInt32) &&& (255 : Int32))), .unset, .unset, .unset] [.int (p1 &&& (1073741823 : Int32))])
    refine own_st (fun t k => XS.iconst X0.here hx rfl (hb hby at_41) k) ?_
    show own_E p e below _ s₁ (mkF m 42 #[iv p1, iv p2, iv p3, iv p4, iv p5, iv p6, iv 1, iv (p1 &&& (1073741823 : Int32)), iv (((p1 &&& (1073741823 : Int32)) + (1 : Int32)) + (p2 &&& (255 : Int32))), iv (((((p1 &&& (1073741823 : Int32)) + (1 : Int32)) + (p2 &&& (255 : Int32))) + (1 : Int32)) + (((p2.toUInt32 >>> ((8 : Int32) &&& 31).toUInt32).toInt32) &&& (255 : Int32))), .unset, .unset, .unset] [.int 4, .int (p1 &&& (1073741823 : Int32))])
    refine own_st (fun t k => XS.isub X0.here hx rfl (hb hby at_42) rfl k) ?_
    show own_E p e below _ s₁ (mkF m 43 #[iv p1, iv p2, iv p3, iv p4, iv p5, iv p6, iv 1, iv (p1 &&& (1073741823 : Int32)), iv (((p1 &&& (1073741823 : Int32)) + (1 : Int32)) + (p2 &&& (255 : Int32))), iv (((((p1 &&& (1073741823 : Int32)) + (1 : Int32)) + (p2 &&& (255 : Int32))) + (1 : Int32)) + (((p2.toUInt32 >>> ((8 : Int32) &&& 31).toUInt32).toInt32) &&& (255 : Int32))), .unset, .unset, .unset] [.int ((p1 &&& (1073741823 : Int32)) - (4 : Int32))])
    refine own_st (fun t k => XS.iload X0.here hx rfl (hb hby at_43) rfl k) ?_
    show own_E p e below _ s₁ (mkF m 45 #[iv p1, iv p2, iv p3, iv p4, iv p5, iv p6, iv 1, iv (p1 &&& (1073741823 : Int32)), iv (((p1 &&& (1073741823 : Int32)) + (1 : Int32)) + (p2 &&& (255 : Int32))), iv (((((p1 &&& (1073741823 : Int32)) + (1 : Int32)) + (p2 &&& (255 : Int32))) + (1 : Int32)) + (((p2.toUInt32 >>> ((8 : Int32) &&& 31).toUInt32).toInt32) &&& (255 : Int32))), .unset, .unset, .unset] [.int p6, .int ((p1 &&& (1073741823 : Int32)) - (4 : Int32))])
    refine own_st (fun t k => XS.iconst X0.here hx rfl (hb hby at_45) k) ?_
    show own_E p e below _ s₁ (mkF m 46 #[iv p1, iv p2, iv p3, iv p4, iv p5, iv p6, iv 1, iv (p1 &&& (1073741823 : Int32)), iv (((p1 &&& (1073741823 : Int32)) + (1 : Int32)) + (p2 &&& (255 : Int32))), iv (((((p1 &&& (1073741823 : Int32)) + (1 : Int32)) + (p2 &&& (255 : Int32))) + (1 : Int32)) + (((p2.toUInt32 >>> ((8 : Int32) &&& 31).toUInt32).toInt32) &&& (255 : Int32))), .unset, .unset, .unset] [.int 2, .int p6, .int ((p1 &&& (1073741823 : Int32)) - (4 : Int32))])
    refine own_st (fun t k => XS.iushr X0.here hx rfl (hb hby at_46) rfl k) ?_
    show own_E p e below _ s₁ (mkF m 47 #[iv p1, iv p2, iv p3, iv p4, iv p5, iv p6, iv 1, iv (p1 &&& (1073741823 : Int32)), iv (((p1 &&& (1073741823 : Int32)) + (1 : Int32)) + (p2 &&& (255 : Int32))), iv (((((p1 &&& (1073741823 : Int32)) + (1 : Int32)) + (p2 &&& (255 : Int32))) + (1 : Int32)) + (((p2.toUInt32 >>> ((8 : Int32) &&& 31).toUInt32).toInt32) &&& (255 : Int32))), .unset, .unset, .unset] [.int ((p6.toUInt32 >>> ((2 : Int32) &&& 31).toUInt32).toInt32), .int ((p1 &&& (1073741823 : Int32)) - (4 : Int32))])
    refine own_st (fun t k => XS.sipush X0.here hx rfl (hb hby at_47) k) ?_
    show own_E p e below _ s₁ (mkF m 50 #[iv p1, iv p2, iv p3, iv p4, iv p5, iv p6, iv 1, iv (p1 &&& (1073741823 : Int32)), iv (((p1 &&& (1073741823 : Int32)) + (1 : Int32)) + (p2 &&& (255 : Int32))), iv (((((p1 &&& (1073741823 : Int32)) + (1 : Int32)) + (p2 &&& (255 : Int32))) + (1 : Int32)) + (((p2.toUInt32 >>> ((8 : Int32) &&& 31).toUInt32).toInt32) &&& (255 : Int32))), .unset, .unset, .unset] [.int 1023, .int ((p6.toUInt32 >>> ((2 : Int32) &&& 31).toUInt32).toInt32), .int ((p1 &&& (1073741823 : Int32)) - (4 : Int32))])
    refine own_st (fun t k => XS.iand X0.here hx rfl (hb hby at_50) rfl k) ?_
    show own_E p e below _ s₁ (mkF m 51 #[iv p1, iv p2, iv p3, iv p4, iv p5, iv p6, iv 1, iv (p1 &&& (1073741823 : Int32)), iv (((p1 &&& (1073741823 : Int32)) + (1 : Int32)) + (p2 &&& (255 : Int32))), iv (((((p1 &&& (1073741823 : Int32)) + (1 : Int32)) + (p2 &&& (255 : Int32))) + (1 : Int32)) + (((p2.toUInt32 >>> ((8 : Int32) &&& 31).toUInt32).toInt32) &&& (255 : Int32))), .unset, .unset, .unset] [.int (((p6.toUInt32 >>> ((2 : Int32) &&& 31).toUInt32).toInt32) &&& (1023 : Int32)), .int ((p1 &&& (1073741823 : Int32)) - (4 : Int32))])
    refine own_st (fun t k => XS.iadd X0.here hx rfl (hb hby at_51) rfl k) ?_
    show own_E p e below _ s₁ (mkF m 52 #[iv p1, iv p2, iv p3, iv p4, iv p5, iv p6, iv 1, iv (p1 &&& (1073741823 : Int32)), iv (((p1 &&& (1073741823 : Int32)) + (1 : Int32)) + (p2 &&& (255 : Int32))), iv (((((p1 &&& (1073741823 : Int32)) + (1 : Int32)) + (p2 &&& (255 : Int32))) + (1 : Int32)) + (((p2.toUInt32 >>> ((8 : Int32) &&& 31).toUInt32).toInt32) &&& (255 : Int32))), .unset, .unset, .unset] [.int (((p1 &&& (1073741823 : Int32)) - (4 : Int32)) + (((p6.toUInt32 >>> ((2 : Int32) &&& 31).toUInt32).toInt32) &&& (1023 : Int32)))])
    refine own_st (fun t k => XS.istore X0.here hx rfl (hb hby at_52) rfl (l' := #[iv p1, iv p2, iv p3, iv p4, iv p5, iv p6, iv 1, iv (p1 &&& (1073741823 : Int32)), iv (((p1 &&& (1073741823 : Int32)) + (1 : Int32)) + (p2 &&& (255 : Int32))), iv (((((p1 &&& (1073741823 : Int32)) + (1 : Int32)) + (p2 &&& (255 : Int32))) + (1 : Int32)) + (((p2.toUInt32 >>> ((8 : Int32) &&& 31).toUInt32).toInt32) &&& (255 : Int32))), iv (((p1 &&& (1073741823 : Int32)) - (4 : Int32)) + (((p6.toUInt32 >>> ((2 : Int32) &&& 31).toUInt32).toInt32) &&& (1023 : Int32))), .unset, .unset]) rfl k) ?_
    show own_E p e below _ s₁ (mkF m 54 #[iv p1, iv p2, iv p3, iv p4, iv p5, iv p6, iv 1, iv (p1 &&& (1073741823 : Int32)), iv (((p1 &&& (1073741823 : Int32)) + (1 : Int32)) + (p2 &&& (255 : Int32))), iv (((((p1 &&& (1073741823 : Int32)) + (1 : Int32)) + (p2 &&& (255 : Int32))) + (1 : Int32)) + (((p2.toUInt32 >>> ((8 : Int32) &&& 31).toUInt32).toInt32) &&& (255 : Int32))), iv (((p1 &&& (1073741823 : Int32)) - (4 : Int32)) + (((p6.toUInt32 >>> ((2 : Int32) &&& 31).toUInt32).toInt32) &&& (1023 : Int32))), .unset, .unset] [])
    obtain ⟨T7, h7, X7, e7, E7, A7, D7, -, st7⟩ := newO X0 hx hZ hown (own_w hw 1 rfl) (own_w hw 2 rfl) (own_w hw 3 rfl) e0 (g := (mkF m 54 #[iv p1, iv p2, iv p3, iv p4, iv p5, iv p6, iv 1, iv (p1 &&& (1073741823 : Int32)), iv (((p1 &&& (1073741823 : Int32)) + (1 : Int32)) + (p2 &&& (255 : Int32))), iv (((((p1 &&& (1073741823 : Int32)) + (1 : Int32)) + (p2 &&& (255 : Int32))) + (1 : Int32)) + (((p2.toUInt32 >>> ((8 : Int32) &&& 31).toUInt32).toInt32) &&& (255 : Int32))), iv (((p1 &&& (1073741823 : Int32)) - (4 : Int32)) + (((p6.toUInt32 >>> ((2 : Int32) &&& 31).toUInt32).toInt32) &&& (1023 : Int32))), .unset, .unset] [])) rfl (hb hby at_54) (by decide) (by decide)
    obtain ⟨b7, g7⟩ : ∃ z, z = h0.size := ⟨_, rfl⟩
    rw [← g7] at A7 D7 st7
    have g_b7 : n0 ≤ b7 := Nat.le_trans Z0 (Nat.le_of_eq g7.symm)
    have Z8 := Nat.le_trans Z0 E7.1
    have F_documents_b7 : Fld Z h7 b7 "com/example/lean_scorer/leanscorer/Postings" "documents" "[I" .null := D7 (Or.inl (own_w hw 12 rfl)) (ty := (.array .int)) (by decide)
    have F_frequencies_b7 : Fld Z h7 b7 "com/example/lean_scorer/leanscorer/Postings" "frequencies" "[I" .null := D7 (Or.inl (own_w hw 14 rfl)) (ty := (.array .int)) (by decide)
    have F_minLength_b7 : Fld Z h7 b7 "com/example/lean_scorer/leanscorer/Postings" "minLength" "I" (.int (0 : Int32)) := D7 (Or.inl (own_w hw 17 rfl)) (ty := .int) (by decide)
    have F_size_b7 : Fld Z h7 b7 "com/example/lean_scorer/leanscorer/Postings" "size" "I" (.int (0 : Int32)) := D7 (Or.inl (own_w hw 24 rfl)) (ty := .int) (by decide)
    have F_maxFrequency_b7 : Fld Z h7 b7 "com/example/lean_scorer/leanscorer/Postings" "maxFrequency" "I" (.int (0 : Int32)) := D7 (Or.inl (own_w hw 26 rfl)) (ty := .int) (by decide)
    refine own_st st7 ?_
    show own_E p e below _ T7 (mkF m 57 #[iv p1, iv p2, iv p3, iv p4, iv p5, iv p6, iv 1, iv (p1 &&& (1073741823 : Int32)), iv (((p1 &&& (1073741823 : Int32)) + (1 : Int32)) + (p2 &&& (255 : Int32))), iv (((((p1 &&& (1073741823 : Int32)) + (1 : Int32)) + (p2 &&& (255 : Int32))) + (1 : Int32)) + (((p2.toUInt32 >>> ((8 : Int32) &&& 31).toUInt32).toInt32) &&& (255 : Int32))), iv (((p1 &&& (1073741823 : Int32)) - (4 : Int32)) + (((p6.toUInt32 >>> ((2 : Int32) &&& 31).toUInt32).toInt32) &&& (1023 : Int32))), .unset, .unset] [.ref b7])
    refine own_st (fun t k => XS.dup X7.here hx rfl (hb hby at_57) rfl rfl k) ?_
    show own_E p e below _ T7 (mkF m 58 #[iv p1, iv p2, iv p3, iv p4, iv p5, iv p6, iv 1, iv (p1 &&& (1073741823 : Int32)), iv (((p1 &&& (1073741823 : Int32)) + (1 : Int32)) + (p2 &&& (255 : Int32))), iv (((((p1 &&& (1073741823 : Int32)) + (1 : Int32)) + (p2 &&& (255 : Int32))) + (1 : Int32)) + (((p2.toUInt32 >>> ((8 : Int32) &&& 31).toUInt32).toInt32) &&& (255 : Int32))), iv (((p1 &&& (1073741823 : Int32)) - (4 : Int32)) + (((p6.toUInt32 >>> ((2 : Int32) &&& 31).toUInt32).toInt32) &&& (1023 : Int32))), .unset, .unset] [.ref b7, .ref b7])
    obtain ⟨_, _, ⟨T9, L9, k9, n9⟩, -, X9, ⟨Lc9, hQ9, l9, y9, z9⟩, st9⟩ := X7.specialBack hx (y := own_y3) rfl hown (mvT hZ (own_w hw 4 rfl)) (mvT hZ (own_w hw 5 rfl)) (mvT hZ (own_w hw 6 rfl)) (by decide) (backOf (W := 1) (own_init l Z a0 hw [] b7 h7 n0 Z8 A7 F_documents_b7 F_frequencies_b7 F_minLength_b7 F_maxFrequency_b7 F_size_b7 g_b7) hZ (own_w hw 6 rfl) (own_w hw 3 rfl) (by decide) (by decide)) (g := (mkF m 58 #[iv p1, iv p2, iv p3, iv p4, iv p5, iv p6, iv 1, iv (p1 &&& (1073741823 : Int32)), iv (((p1 &&& (1073741823 : Int32)) + (1 : Int32)) + (p2 &&& (255 : Int32))), iv (((((p1 &&& (1073741823 : Int32)) + (1 : Int32)) + (p2 &&& (255 : Int32))) + (1 : Int32)) + (((p2.toUInt32 >>> ((8 : Int32) &&& 31).toUInt32).toInt32) &&& (255 : Int32))), iv (((p1 &&& (1073741823 : Int32)) - (4 : Int32)) + (((p6.toUInt32 >>> ((2 : Int32) &&& 31).toUInt32).toInt32) &&& (1023 : Int32))), .unset, .unset] [.ref b7, .ref b7])) rfl (by rw [hml]; rfl) (Steps.refl _) (a := b7) (argsL := []) (rest := [(.ref b7)]) (lenOf own_pd_0 rfl) rfl (by show 2 * 0 + _ ≤ _; exact Nat.le_of_eq rfl) (hb hby at_58) (fun _ _ => ⟨rfl, e7, (by decide : 1 + 2 ≤ _), (by decide : 5 + 2 ≤ _)⟩)
    dsimp only [Pt.U, Pt.locs, Pt.cells, Pt.slots] at X9 l9 y9 z9 st9 hQ9
    subst l9 y9 z9
    obtain ⟨b9_o0, b9_o1, k9_o2, k9_o3, rfl, Nq9, Kq9, sz9_0, sz9_1, nq9_0_1, P9_0, P9_1, P9_2, P9_3, P9_4, P9_5, P9_6, P9_7⟩ := hQ9
    have N9 := Fr.app (Fr.nil n0) Nq9
    have ne_b7_b9_o0 : b7 ≠ b9_o0 := Nat.ne_of_lt (Nat.lt_of_lt_of_le A7.lt sz9_0)
    have g_b9_o0 : n0 ≤ b9_o0 := Nat.le_trans Z8 sz9_0
    have ne_b7_b9_o1 : b7 ≠ b9_o1 := Nat.ne_of_lt (Nat.lt_of_lt_of_le A7.lt sz9_1)
    have g_b9_o1 : n0 ≤ b9_o1 := Nat.le_trans Z8 sz9_1
    have e9 : T9.heap = T9.heap := rfl
    have Z10 := Nat.le_trans Z8 Kq9.1
    refine own_tr st9 ?_
    show own_E p e below _ T9 (mkF m 61 #[iv p1, iv p2, iv p3, iv p4, iv p5, iv p6, iv 1, iv (p1 &&& (1073741823 : Int32)), iv (((p1 &&& (1073741823 : Int32)) + (1 : Int32)) + (p2 &&& (255 : Int32))), iv (((((p1 &&& (1073741823 : Int32)) + (1 : Int32)) + (p2 &&& (255 : Int32))) + (1 : Int32)) + (((p2.toUInt32 >>> ((8 : Int32) &&& 31).toUInt32).toInt32) &&& (255 : Int32))), iv (((p1 &&& (1073741823 : Int32)) - (4 : Int32)) + (((p6.toUInt32 >>> ((2 : Int32) &&& 31).toUInt32).toInt32) &&& (1023 : Int32))), .unset, .unset] [.ref b7])
    refine own_st (fun t k => XS.astore X9.here hx rfl (hb hby at_61) rfl rfl (l' := #[iv p1, iv p2, iv p3, iv p4, iv p5, iv p6, iv 1, iv (p1 &&& (1073741823 : Int32)), iv (((p1 &&& (1073741823 : Int32)) + (1 : Int32)) + (p2 &&& (255 : Int32))), iv (((((p1 &&& (1073741823 : Int32)) + (1 : Int32)) + (p2 &&& (255 : Int32))) + (1 : Int32)) + (((p2.toUInt32 >>> ((8 : Int32) &&& 31).toUInt32).toInt32) &&& (255 : Int32))), iv (((p1 &&& (1073741823 : Int32)) - (4 : Int32)) + (((p6.toUInt32 >>> ((2 : Int32) &&& 31).toUInt32).toInt32) &&& (1023 : Int32))), rv b7, .unset]) rfl k) ?_
    show own_E p e below _ T9 (mkF m 63 #[iv p1, iv p2, iv p3, iv p4, iv p5, iv p6, iv 1, iv (p1 &&& (1073741823 : Int32)), iv (((p1 &&& (1073741823 : Int32)) + (1 : Int32)) + (p2 &&& (255 : Int32))), iv (((((p1 &&& (1073741823 : Int32)) + (1 : Int32)) + (p2 &&& (255 : Int32))) + (1 : Int32)) + (((p2.toUInt32 >>> ((8 : Int32) &&& 31).toUInt32).toInt32) &&& (255 : Int32))), iv (((p1 &&& (1073741823 : Int32)) - (4 : Int32)) + (((p6.toUInt32 >>> ((2 : Int32) &&& 31).toUInt32).toInt32) &&& (1023 : Int32))), rv b7, .unset] [])
    refine own_st (fun t k => XS.iload X9.here hx rfl (hb hby at_63) rfl k) ?_
    show own_E p e below _ T9 (mkF m 65 #[iv p1, iv p2, iv p3, iv p4, iv p5, iv p6, iv 1, iv (p1 &&& (1073741823 : Int32)), iv (((p1 &&& (1073741823 : Int32)) + (1 : Int32)) + (p2 &&& (255 : Int32))), iv (((((p1 &&& (1073741823 : Int32)) + (1 : Int32)) + (p2 &&& (255 : Int32))) + (1 : Int32)) + (((p2.toUInt32 >>> ((8 : Int32) &&& 31).toUInt32).toInt32) &&& (255 : Int32))), iv (((p1 &&& (1073741823 : Int32)) - (4 : Int32)) + (((p6.toUInt32 >>> ((2 : Int32) &&& 31).toUInt32).toInt32) &&& (1023 : Int32))), rv b7, .unset] [.int 1])
    refine own_st (fun t k => XS.iconst X9.here hx rfl (hb hby at_65) k) ?_
    show own_E p e below _ T9 (mkF m 66 #[iv p1, iv p2, iv p3, iv p4, iv p5, iv p6, iv 1, iv (p1 &&& (1073741823 : Int32)), iv (((p1 &&& (1073741823 : Int32)) + (1 : Int32)) + (p2 &&& (255 : Int32))), iv (((((p1 &&& (1073741823 : Int32)) + (1 : Int32)) + (p2 &&& (255 : Int32))) + (1 : Int32)) + (((p2.toUInt32 >>> ((8 : Int32) &&& 31).toUInt32).toInt32) &&& (255 : Int32))), iv (((p1 &&& (1073741823 : Int32)) - (4 : Int32)) + (((p6.toUInt32 >>> ((2 : Int32) &&& 31).toUInt32).toInt32) &&& (1023 : Int32))), rv b7, .unset] [.int 1, .int 1])
    refine own_st (fun t k => XS.icmpNo X9.here hx rfl (hb hby at_66) rfl (by decide) k) ?_
    show own_E p e below _ T9 (mkF m 69 #[iv p1, iv p2, iv p3, iv p4, iv p5, iv p6, iv 1, iv (p1 &&& (1073741823 : Int32)), iv (((p1 &&& (1073741823 : Int32)) + (1 : Int32)) + (p2 &&& (255 : Int32))), iv (((((p1 &&& (1073741823 : Int32)) + (1 : Int32)) + (p2 &&& (255 : Int32))) + (1 : Int32)) + (((p2.toUInt32 >>> ((8 : Int32) &&& 31).toUInt32).toInt32) &&& (255 : Int32))), iv (((p1 &&& (1073741823 : Int32)) - (4 : Int32)) + (((p6.toUInt32 >>> ((2 : Int32) &&& 31).toUInt32).toInt32) &&& (1023 : Int32))), rv b7, .unset] [])
    refine own_st (fun t k => XS.aload X9.here hx rfl (hb hby at_69) rfl rfl k) ?_
    show own_E p e below _ T9 (mkF m 71 #[iv p1, iv p2, iv p3, iv p4, iv p5, iv p6, iv 1, iv (p1 &&& (1073741823 : Int32)), iv (((p1 &&& (1073741823 : Int32)) + (1 : Int32)) + (p2 &&& (255 : Int32))), iv (((((p1 &&& (1073741823 : Int32)) + (1 : Int32)) + (p2 &&& (255 : Int32))) + (1 : Int32)) + (((p2.toUInt32 >>> ((8 : Int32) &&& 31).toUInt32).toInt32) &&& (255 : Int32))), iv (((p1 &&& (1073741823 : Int32)) - (4 : Int32)) + (((p6.toUInt32 >>> ((2 : Int32) &&& 31).toUInt32).toInt32) &&& (1023 : Int32))), rv b7, .unset] [.ref b7])
    refine own_st (fun t k => XS.iload X9.here hx rfl (hb hby at_71) rfl k) ?_
    show own_E p e below _ T9 (mkF m 73 #[iv p1, iv p2, iv p3, iv p4, iv p5, iv p6, iv 1, iv (p1 &&& (1073741823 : Int32)), iv (((p1 &&& (1073741823 : Int32)) + (1 : Int32)) + (p2 &&& (255 : Int32))), iv (((((p1 &&& (1073741823 : Int32)) + (1 : Int32)) + (p2 &&& (255 : Int32))) + (1 : Int32)) + (((p2.toUInt32 >>> ((8 : Int32) &&& 31).toUInt32).toInt32) &&& (255 : Int32))), iv (((p1 &&& (1073741823 : Int32)) - (4 : Int32)) + (((p6.toUInt32 >>> ((2 : Int32) &&& 31).toUInt32).toInt32) &&& (1023 : Int32))), rv b7, .unset] [.int (p1 &&& (1073741823 : Int32)), .ref b7])
    refine own_st (fun t k => XS.iloadN X9.here hx rfl (hb hby at_73) rfl k) ?_
    show own_E p e below _ T9 (mkF m 74 #[iv p1, iv p2, iv p3, iv p4, iv p5, iv p6, iv 1, iv (p1 &&& (1073741823 : Int32)), iv (((p1 &&& (1073741823 : Int32)) + (1 : Int32)) + (p2 &&& (255 : Int32))), iv (((((p1 &&& (1073741823 : Int32)) + (1 : Int32)) + (p2 &&& (255 : Int32))) + (1 : Int32)) + (((p2.toUInt32 >>> ((8 : Int32) &&& 31).toUInt32).toInt32) &&& (255 : Int32))), iv (((p1 &&& (1073741823 : Int32)) - (4 : Int32)) + (((p6.toUInt32 >>> ((2 : Int32) &&& 31).toUInt32).toInt32) &&& (1023 : Int32))), rv b7, .unset] [.int p3, .int (p1 &&& (1073741823 : Int32)), .ref b7])
    refine own_st (fun t k => XS.iconst X9.here hx rfl (hb hby at_74) k) ?_
    show own_E p e below _ T9 (mkF m 75 #[iv p1, iv p2, iv p3, iv p4, iv p5, iv p6, iv 1, iv (p1 &&& (1073741823 : Int32)), iv (((p1 &&& (1073741823 : Int32)) + (1 : Int32)) + (p2 &&& (255 : Int32))), iv (((((p1 &&& (1073741823 : Int32)) + (1 : Int32)) + (p2 &&& (255 : Int32))) + (1 : Int32)) + (((p2.toUInt32 >>> ((8 : Int32) &&& 31).toUInt32).toInt32) &&& (255 : Int32))), iv (((p1 &&& (1073741823 : Int32)) - (4 : Int32)) + (((p6.toUInt32 >>> ((2 : Int32) &&& 31).toUInt32).toInt32) &&& (1023 : Int32))), rv b7, .unset] [.int 1, .int p3, .int (p1 &&& (1073741823 : Int32)), .ref b7])
    obtain ⟨cq11, kq11, q11a, q11b, q11c⟩ := isOf hZ e9 P9_0
    obtain ⟨_, _, ⟨T11, L11, k11, n11⟩, -, X11, ⟨Lc11, hQ11, l11, y11, z11⟩, st11⟩ := X9.virtualBack hx (y := own_y4) (z := own_y4) hown (mvT hZ (own_w hw 18 rfl)) (mvT hZ (own_w hw 19 rfl)) (notFace_of_selects (args := #[]) (mvT hZ (own_w hw 21 rfl))) (mvT hZ (own_w hw 21 rfl)) (mvT hZ (own_w hw 20 rfl)) (by decide) (backOf (W := 0) (own_add0 l Z a0 hw [] b7 b9_o0 b9_o1 k9_o2 k9_o3 (p1 &&& (1073741823 : Int32)) p3 (1 : Int32) (2147483647 : Int32) (0 : Int32) (0 : Int32) (0 : Int32) T9.heap n0 Z10 P9_0 P9_1 P9_2 P9_3 P9_4 P9_5 P9_6 P9_7 ne_b7_b9_o0 ne_b7_b9_o1 nq9_0_1 g_b7 g_b9_o0 g_b9_o1) hZ (own_w hw 22 rfl) (own_w hw 3 rfl) (by decide) (by decide)) q11a q11c (g := (mkF m 75 #[iv p1, iv p2, iv p3, iv p4, iv p5, iv p6, iv 1, iv (p1 &&& (1073741823 : Int32)), iv (((p1 &&& (1073741823 : Int32)) + (1 : Int32)) + (p2 &&& (255 : Int32))), iv (((((p1 &&& (1073741823 : Int32)) + (1 : Int32)) + (p2 &&& (255 : Int32))) + (1 : Int32)) + (((p2.toUInt32 >>> ((8 : Int32) &&& 31).toUInt32).toInt32) &&& (255 : Int32))), iv (((p1 &&& (1073741823 : Int32)) - (4 : Int32)) + (((p6.toUInt32 >>> ((2 : Int32) &&& 31).toUInt32).toInt32) &&& (1023 : Int32))), rv b7, .unset] [.int 1, .int p3, .int (p1 &&& (1073741823 : Int32)), .ref b7])) rfl (by rw [hml]; rfl) (Steps.refl _) (argsL := [(.int (p1 &&& (1073741823 : Int32))), (.int p3), (.int (1 : Int32))]) (rest := []) (lenOf own_pd_3 rfl) rfl (by show 2 * 0 + _ ≤ _; exact Nat.le_of_eq rfl) (hb hby at_75) (fun _ _ => ⟨rfl, e9, (by decide : 3 + 0 ≤ _), (by decide : 7 + 0 ≤ _)⟩)
    dsimp only [Pt.U, Pt.locs, Pt.cells, Pt.slots] at X11 l11 y11 z11 st11 hQ11
    subst l11 y11 z11
    obtain ⟨rfl, Nq11, Kq11, P11_0, P11_1, P11_2, P11_3, P11_4, P11_5, P11_6, P11_7⟩ := hQ11
    have N11 := Fr.app N9 Nq11
    have e11 : T11.heap = T11.heap := rfl
    have Z12 := Nat.le_trans Z10 Kq11.1
    refine own_tr st11 ?_
    show own_E p e below _ T11 (mkF m 78 #[iv p1, iv p2, iv p3, iv p4, iv p5, iv p6, iv 1, iv (p1 &&& (1073741823 : Int32)), iv (((p1 &&& (1073741823 : Int32)) + (1 : Int32)) + (p2 &&& (255 : Int32))), iv (((((p1 &&& (1073741823 : Int32)) + (1 : Int32)) + (p2 &&& (255 : Int32))) + (1 : Int32)) + (((p2.toUInt32 >>> ((8 : Int32) &&& 31).toUInt32).toInt32) &&& (255 : Int32))), iv (((p1 &&& (1073741823 : Int32)) - (4 : Int32)) + (((p6.toUInt32 >>> ((2 : Int32) &&& 31).toUInt32).toInt32) &&& (1023 : Int32))), rv b7, .unset] [])
    refine own_st (fun t k => XS.iload X11.here hx rfl (hb hby at_78) rfl k) ?_
    show own_E p e below _ T11 (mkF m 80 #[iv p1, iv p2, iv p3, iv p4, iv p5, iv p6, iv 1, iv (p1 &&& (1073741823 : Int32)), iv (((p1 &&& (1073741823 : Int32)) + (1 : Int32)) + (p2 &&& (255 : Int32))), iv (((((p1 &&& (1073741823 : Int32)) + (1 : Int32)) + (p2 &&& (255 : Int32))) + (1 : Int32)) + (((p2.toUInt32 >>> ((8 : Int32) &&& 31).toUInt32).toInt32) &&& (255 : Int32))), iv (((p1 &&& (1073741823 : Int32)) - (4 : Int32)) + (((p6.toUInt32 >>> ((2 : Int32) &&& 31).toUInt32).toInt32) &&& (1023 : Int32))), rv b7, .unset] [.int 1])
    refine own_st (fun t k => XS.iconst X11.here hx rfl (hb hby at_80) k) ?_
    show own_E p e below _ T11 (mkF m 81 #[iv p1, iv p2, iv p3, iv p4, iv p5, iv p6, iv 1, iv (p1 &&& (1073741823 : Int32)), iv (((p1 &&& (1073741823 : Int32)) + (1 : Int32)) + (p2 &&& (255 : Int32))), iv (((((p1 &&& (1073741823 : Int32)) + (1 : Int32)) + (p2 &&& (255 : Int32))) + (1 : Int32)) + (((p2.toUInt32 >>> ((8 : Int32) &&& 31).toUInt32).toInt32) &&& (255 : Int32))), iv (((p1 &&& (1073741823 : Int32)) - (4 : Int32)) + (((p6.toUInt32 >>> ((2 : Int32) &&& 31).toUInt32).toInt32) &&& (1023 : Int32))), rv b7, .unset] [.int 2, .int 1])
    refine own_st (fun t k => XS.icmpYes X11.here hx rfl (pc0 := 81) (pc' := 93) rfl (hb hby at_81) rfl (by decide) (by decide) (by decide) k) ?_
    show own_E p e below _ T11 (mkF m 93 #[iv p1, iv p2, iv p3, iv p4, iv p5, iv p6, iv 1, iv (p1 &&& (1073741823 : Int32)), iv (((p1 &&& (1073741823 : Int32)) + (1 : Int32)) + (p2 &&& (255 : Int32))), iv (((((p1 &&& (1073741823 : Int32)) + (1 : Int32)) + (p2 &&& (255 : Int32))) + (1 : Int32)) + (((p2.toUInt32 >>> ((8 : Int32) &&& 31).toUInt32).toInt32) &&& (255 : Int32))), iv (((p1 &&& (1073741823 : Int32)) - (4 : Int32)) + (((p6.toUInt32 >>> ((2 : Int32) &&& 31).toUInt32).toInt32) &&& (1023 : Int32))), rv b7, .unset] [])
    refine own_st (fun t k => XS.iload X11.here hx rfl (hb hby at_93) rfl k) ?_
    show own_E p e below _ T11 (mkF m 95 #[iv p1, iv p2, iv p3, iv p4, iv p5, iv p6, iv 1, iv (p1 &&& (1073741823 : Int32)), iv (((p1 &&& (1073741823 : Int32)) + (1 : Int32)) + (p2 &&& (255 : Int32))), iv (((((p1 &&& (1073741823 : Int32)) + (1 : Int32)) + (p2 &&& (255 : Int32))) + (1 : Int32)) + (((p2.toUInt32 >>> ((8 : Int32) &&& 31).toUInt32).toInt32) &&& (255 : Int32))), iv (((p1 &&& (1073741823 : Int32)) - (4 : Int32)) + (((p6.toUInt32 >>> ((2 : Int32) &&& 31).toUInt32).toInt32) &&& (1023 : Int32))), rv b7, .unset] [.int 1])
    refine own_st (fun t k => XS.iconst X11.here hx rfl (hb hby at_95) k) ?_
    show own_E p e below _ T11 (mkF m 96 #[iv p1, iv p2, iv p3, iv p4, iv p5, iv p6, iv 1, iv (p1 &&& (1073741823 : Int32)), iv (((p1 &&& (1073741823 : Int32)) + (1 : Int32)) + (p2 &&& (255 : Int32))), iv (((((p1 &&& (1073741823 : Int32)) + (1 : Int32)) + (p2 &&& (255 : Int32))) + (1 : Int32)) + (((p2.toUInt32 >>> ((8 : Int32) &&& 31).toUInt32).toInt32) &&& (255 : Int32))), iv (((p1 &&& (1073741823 : Int32)) - (4 : Int32)) + (((p6.toUInt32 >>> ((2 : Int32) &&& 31).toUInt32).toInt32) &&& (1023 : Int32))), rv b7, .unset] [.int 3, .int 1])
    refine own_st (fun t k => XS.icmpYes X11.here hx rfl (pc0 := 96) (pc' := 109) rfl (hb hby at_96) rfl (by decide) (by decide) (by decide) k) ?_
    show own_E p e below _ T11 (mkF m 109 #[iv p1, iv p2, iv p3, iv p4, iv p5, iv p6, iv 1, iv (p1 &&& (1073741823 : Int32)), iv (((p1 &&& (1073741823 : Int32)) + (1 : Int32)) + (p2 &&& (255 : Int32))), iv (((((p1 &&& (1073741823 : Int32)) + (1 : Int32)) + (p2 &&& (255 : Int32))) + (1 : Int32)) + (((p2.toUInt32 >>> ((8 : Int32) &&& 31).toUInt32).toInt32) &&& (255 : Int32))), iv (((p1 &&& (1073741823 : Int32)) - (4 : Int32)) + (((p6.toUInt32 >>> ((2 : Int32) &&& 31).toUInt32).toInt32) &&& (1023 : Int32))), rv b7, .unset] [])
    refine own_st (fun t k => XS.iconst X11.here hx rfl (hb hby at_109) k) ?_
    show own_E p e below _ T11 (mkF m 110 #[iv p1, iv p2, iv p3, iv p4, iv p5, iv p6, iv 1, iv (p1 &&& (1073741823 : Int32)), iv (((p1 &&& (1073741823 : Int32)) + (1 : Int32)) + (p2 &&& (255 : Int32))), iv (((((p1 &&& (1073741823 : Int32)) + (1 : Int32)) + (p2 &&& (255 : Int32))) + (1 : Int32)) + (((p2.toUInt32 >>> ((8 : Int32) &&& 31).toUInt32).toInt32) &&& (255 : Int32))), iv (((p1 &&& (1073741823 : Int32)) - (4 : Int32)) + (((p6.toUInt32 >>> ((2 : Int32) &&& 31).toUInt32).toInt32) &&& (1023 : Int32))), rv b7, .unset] [.int 0])
    refine own_st (fun t k => XS.istore X11.here hx rfl (hb hby at_110) rfl (l' := #[iv p1, iv p2, iv p3, iv p4, iv p5, iv p6, iv 1, iv (p1 &&& (1073741823 : Int32)), iv (((p1 &&& (1073741823 : Int32)) + (1 : Int32)) + (p2 &&& (255 : Int32))), iv (((((p1 &&& (1073741823 : Int32)) + (1 : Int32)) + (p2 &&& (255 : Int32))) + (1 : Int32)) + (((p2.toUInt32 >>> ((8 : Int32) &&& 31).toUInt32).toInt32) &&& (255 : Int32))), iv (((p1 &&& (1073741823 : Int32)) - (4 : Int32)) + (((p6.toUInt32 >>> ((2 : Int32) &&& 31).toUInt32).toInt32) &&& (1023 : Int32))), rv b7, iv 0]) rfl k) ?_
    show own_E p e below _ T11 (mkF m 112 #[iv p1, iv p2, iv p3, iv p4, iv p5, iv p6, iv 1, iv (p1 &&& (1073741823 : Int32)), iv (((p1 &&& (1073741823 : Int32)) + (1 : Int32)) + (p2 &&& (255 : Int32))), iv (((((p1 &&& (1073741823 : Int32)) + (1 : Int32)) + (p2 &&& (255 : Int32))) + (1 : Int32)) + (((p2.toUInt32 >>> ((8 : Int32) &&& 31).toUInt32).toInt32) &&& (255 : Int32))), iv (((p1 &&& (1073741823 : Int32)) - (4 : Int32)) + (((p6.toUInt32 >>> ((2 : Int32) &&& 31).toUInt32).toInt32) &&& (1023 : Int32))), rv b7, iv 0] [])
    refine own_st (fun t k => XS.iload X11.here hx rfl (hb hby at_112) rfl k) ?_
    show own_E p e below _ T11 (mkF m 114 #[iv p1, iv p2, iv p3, iv p4, iv p5, iv p6, iv 1, iv (p1 &&& (1073741823 : Int32)), iv (((p1 &&& (1073741823 : Int32)) + (1 : Int32)) + (p2 &&& (255 : Int32))), iv (((((p1 &&& (1073741823 : Int32)) + (1 : Int32)) + (p2 &&& (255 : Int32))) + (1 : Int32)) + (((p2.toUInt32 >>> ((8 : Int32) &&& 31).toUInt32).toInt32) &&& (255 : Int32))), iv (((p1 &&& (1073741823 : Int32)) - (4 : Int32)) + (((p6.toUInt32 >>> ((2 : Int32) &&& 31).toUInt32).toInt32) &&& (1023 : Int32))), rv b7, iv 0] [.int 1])
    refine own_st (fun t k => XS.iconst X11.here hx rfl (hb hby at_114) k) ?_
    show own_E p e below _ T11 (mkF m 115 #[iv p1, iv p2, iv p3, iv p4, iv p5, iv p6, iv 1, iv (p1 &&& (1073741823 : Int32)), iv (((p1 &&& (1073741823 : Int32)) + (1 : Int32)) + (p2 &&& (255 : Int32))), iv (((((p1 &&& (1073741823 : Int32)) + (1 : Int32)) + (p2 &&& (255 : Int32))) + (1 : Int32)) + (((p2.toUInt32 >>> ((8 : Int32) &&& 31).toUInt32).toInt32) &&& (255 : Int32))), iv (((p1 &&& (1073741823 : Int32)) - (4 : Int32)) + (((p6.toUInt32 >>> ((2 : Int32) &&& 31).toUInt32).toInt32) &&& (1023 : Int32))), rv b7, iv 0] [.int 1, .int 1])
    refine own_st (fun t k => XS.icmpNo X11.here hx rfl (hb hby at_115) rfl (by decide) k) ?_
    show own_E p e below _ T11 (mkF m 118 #[iv p1, iv p2, iv p3, iv p4, iv p5, iv p6, iv 1, iv (p1 &&& (1073741823 : Int32)), iv (((p1 &&& (1073741823 : Int32)) + (1 : Int32)) + (p2 &&& (255 : Int32))), iv (((((p1 &&& (1073741823 : Int32)) + (1 : Int32)) + (p2 &&& (255 : Int32))) + (1 : Int32)) + (((p2.toUInt32 >>> ((8 : Int32) &&& 31).toUInt32).toInt32) &&& (255 : Int32))), iv (((p1 &&& (1073741823 : Int32)) - (4 : Int32)) + (((p6.toUInt32 >>> ((2 : Int32) &&& 31).toUInt32).toInt32) &&& (1023 : Int32))), rv b7, iv 0] [])
    refine own_st (fun t k => XS.iload X11.here hx rfl (hb hby at_118) rfl k) ?_
    show own_E p e below _ T11 (mkF m 120 #[iv p1, iv p2, iv p3, iv p4, iv p5, iv p6, iv 1, iv (p1 &&& (1073741823 : Int32)), iv (((p1 &&& (1073741823 : Int32)) + (1 : Int32)) + (p2 &&& (255 : Int32))), iv (((((p1 &&& (1073741823 : Int32)) + (1 : Int32)) + (p2 &&& (255 : Int32))) + (1 : Int32)) + (((p2.toUInt32 >>> ((8 : Int32) &&& 31).toUInt32).toInt32) &&& (255 : Int32))), iv (((p1 &&& (1073741823 : Int32)) - (4 : Int32)) + (((p6.toUInt32 >>> ((2 : Int32) &&& 31).toUInt32).toInt32) &&& (1023 : Int32))), rv b7, iv 0] [.int (((p1 &&& (1073741823 : Int32)) - (4 : Int32)) + (((p6.toUInt32 >>> ((2 : Int32) &&& 31).toUInt32).toInt32) &&& (1023 : Int32)))])
    refine own_st (fun t k => XS.iload X11.here hx rfl (hb hby at_120) rfl k) ?_
    show own_E p e below _ T11 (mkF m 122 #[iv p1, iv p2, iv p3, iv p4, iv p5, iv p6, iv 1, iv (p1 &&& (1073741823 : Int32)), iv (((p1 &&& (1073741823 : Int32)) + (1 : Int32)) + (p2 &&& (255 : Int32))), iv (((((p1 &&& (1073741823 : Int32)) + (1 : Int32)) + (p2 &&& (255 : Int32))) + (1 : Int32)) + (((p2.toUInt32 >>> ((8 : Int32) &&& 31).toUInt32).toInt32) &&& (255 : Int32))), iv (((p1 &&& (1073741823 : Int32)) - (4 : Int32)) + (((p6.toUInt32 >>> ((2 : Int32) &&& 31).toUInt32).toInt32) &&& (1023 : Int32))), rv b7, iv 0] [.int (p1 &&& (1073741823 : Int32)), .int (((p1 &&& (1073741823 : Int32)) - (4 : Int32)) + (((p6.toUInt32 >>> ((2 : Int32) &&& 31).toUInt32).toInt32) &&& (1023 : Int32)))])
    by_cases hc13 : (((p1 &&& (1073741823 : Int32)) - (4 : Int32)) + (((p6.toUInt32 >>> ((2 : Int32) &&& 31).toUInt32).toInt32) &&& (1023 : Int32))) = (p1 &&& (1073741823 : Int32))
    · refine own_st (fun t k => XS.icmpNo X11.here hx rfl (hb hby at_122) rfl (teq hc13).2 k) ?_
      show own_E p e below _ T11 (mkF m 125 #[iv p1, iv p2, iv p3, iv p4, iv p5, iv p6, iv 1, iv (p1 &&& (1073741823 : Int32)), iv (((p1 &&& (1073741823 : Int32)) + (1 : Int32)) + (p2 &&& (255 : Int32))), iv (((((p1 &&& (1073741823 : Int32)) + (1 : Int32)) + (p2 &&& (255 : Int32))) + (1 : Int32)) + (((p2.toUInt32 >>> ((8 : Int32) &&& 31).toUInt32).toInt32) &&& (255 : Int32))), iv (((p1 &&& (1073741823 : Int32)) - (4 : Int32)) + (((p6.toUInt32 >>> ((2 : Int32) &&& 31).toUInt32).toInt32) &&& (1023 : Int32))), rv b7, iv 0] [])
      refine own_st (fun t k => XS.iloadN X11.here hx rfl (hb hby at_125) rfl k) ?_
      show own_E p e below _ T11 (mkF m 126 #[iv p1, iv p2, iv p3, iv p4, iv p5, iv p6, iv 1, iv (p1 &&& (1073741823 : Int32)), iv (((p1 &&& (1073741823 : Int32)) + (1 : Int32)) + (p2 &&& (255 : Int32))), iv (((((p1 &&& (1073741823 : Int32)) + (1 : Int32)) + (p2 &&& (255 : Int32))) + (1 : Int32)) + (((p2.toUInt32 >>> ((8 : Int32) &&& 31).toUInt32).toInt32) &&& (255 : Int32))), iv (((p1 &&& (1073741823 : Int32)) - (4 : Int32)) + (((p6.toUInt32 >>> ((2 : Int32) &&& 31).toUInt32).toInt32) &&& (1023 : Int32))), rv b7, iv 0] [.int p3])
      refine own_st (fun t k => XS.istore X11.here hx rfl (hb hby at_126) rfl (l' := #[iv p1, iv p2, iv p3, iv p4, iv p5, iv p6, iv 1, iv (p1 &&& (1073741823 : Int32)), iv (((p1 &&& (1073741823 : Int32)) + (1 : Int32)) + (p2 &&& (255 : Int32))), iv (((((p1 &&& (1073741823 : Int32)) + (1 : Int32)) + (p2 &&& (255 : Int32))) + (1 : Int32)) + (((p2.toUInt32 >>> ((8 : Int32) &&& 31).toUInt32).toInt32) &&& (255 : Int32))), iv (((p1 &&& (1073741823 : Int32)) - (4 : Int32)) + (((p6.toUInt32 >>> ((2 : Int32) &&& 31).toUInt32).toInt32) &&& (1023 : Int32))), rv b7, iv p3]) rfl k) ?_
      show own_E p e below _ T11 (mkF m 128 #[iv p1, iv p2, iv p3, iv p4, iv p5, iv p6, iv 1, iv (p1 &&& (1073741823 : Int32)), iv (((p1 &&& (1073741823 : Int32)) + (1 : Int32)) + (p2 &&& (255 : Int32))), iv (((((p1 &&& (1073741823 : Int32)) + (1 : Int32)) + (p2 &&& (255 : Int32))) + (1 : Int32)) + (((p2.toUInt32 >>> ((8 : Int32) &&& 31).toUInt32).toInt32) &&& (255 : Int32))), iv (((p1 &&& (1073741823 : Int32)) - (4 : Int32)) + (((p6.toUInt32 >>> ((2 : Int32) &&& 31).toUInt32).toInt32) &&& (1023 : Int32))), rv b7, iv p3] [])
      refine own_st (fun t k => XS.iload X11.here hx rfl (hb hby at_128) rfl k) ?_
      show own_E p e below _ T11 (mkF m 130 #[iv p1, iv p2, iv p3, iv p4, iv p5, iv p6, iv 1, iv (p1 &&& (1073741823 : Int32)), iv (((p1 &&& (1073741823 : Int32)) + (1 : Int32)) + (p2 &&& (255 : Int32))), iv (((((p1 &&& (1073741823 : Int32)) + (1 : Int32)) + (p2 &&& (255 : Int32))) + (1 : Int32)) + (((p2.toUInt32 >>> ((8 : Int32) &&& 31).toUInt32).toInt32) &&& (255 : Int32))), iv (((p1 &&& (1073741823 : Int32)) - (4 : Int32)) + (((p6.toUInt32 >>> ((2 : Int32) &&& 31).toUInt32).toInt32) &&& (1023 : Int32))), rv b7, iv p3] [.int 1])
      refine own_st (fun t k => XS.iconst X11.here hx rfl (hb hby at_130) k) ?_
      show own_E p e below _ T11 (mkF m 131 #[iv p1, iv p2, iv p3, iv p4, iv p5, iv p6, iv 1, iv (p1 &&& (1073741823 : Int32)), iv (((p1 &&& (1073741823 : Int32)) + (1 : Int32)) + (p2 &&& (255 : Int32))), iv (((((p1 &&& (1073741823 : Int32)) + (1 : Int32)) + (p2 &&& (255 : Int32))) + (1 : Int32)) + (((p2.toUInt32 >>> ((8 : Int32) &&& 31).toUInt32).toInt32) &&& (255 : Int32))), iv (((p1 &&& (1073741823 : Int32)) - (4 : Int32)) + (((p6.toUInt32 >>> ((2 : Int32) &&& 31).toUInt32).toInt32) &&& (1023 : Int32))), rv b7, iv p3] [.int 2, .int 1])
      refine own_st (fun t k => XS.icmpYes X11.here hx rfl (pc0 := 131) (pc' := 144) rfl (hb hby at_131) rfl (by decide) (by decide) (by decide) k) ?_
      show own_E p e below _ T11 (mkF m 144 #[iv p1, iv p2, iv p3, iv p4, iv p5, iv p6, iv 1, iv (p1 &&& (1073741823 : Int32)), iv (((p1 &&& (1073741823 : Int32)) + (1 : Int32)) + (p2 &&& (255 : Int32))), iv (((((p1 &&& (1073741823 : Int32)) + (1 : Int32)) + (p2 &&& (255 : Int32))) + (1 : Int32)) + (((p2.toUInt32 >>> ((8 : Int32) &&& 31).toUInt32).toInt32) &&& (255 : Int32))), iv (((p1 &&& (1073741823 : Int32)) - (4 : Int32)) + (((p6.toUInt32 >>> ((2 : Int32) &&& 31).toUInt32).toInt32) &&& (1023 : Int32))), rv b7, iv p3] [])
      refine own_st (fun t k => XS.iload X11.here hx rfl (hb hby at_144) rfl k) ?_
      show own_E p e below _ T11 (mkF m 146 #[iv p1, iv p2, iv p3, iv p4, iv p5, iv p6, iv 1, iv (p1 &&& (1073741823 : Int32)), iv (((p1 &&& (1073741823 : Int32)) + (1 : Int32)) + (p2 &&& (255 : Int32))), iv (((((p1 &&& (1073741823 : Int32)) + (1 : Int32)) + (p2 &&& (255 : Int32))) + (1 : Int32)) + (((p2.toUInt32 >>> ((8 : Int32) &&& 31).toUInt32).toInt32) &&& (255 : Int32))), iv (((p1 &&& (1073741823 : Int32)) - (4 : Int32)) + (((p6.toUInt32 >>> ((2 : Int32) &&& 31).toUInt32).toInt32) &&& (1023 : Int32))), rv b7, iv p3] [.int 1])
      refine own_st (fun t k => XS.iconst X11.here hx rfl (hb hby at_146) k) ?_
      show own_E p e below _ T11 (mkF m 147 #[iv p1, iv p2, iv p3, iv p4, iv p5, iv p6, iv 1, iv (p1 &&& (1073741823 : Int32)), iv (((p1 &&& (1073741823 : Int32)) + (1 : Int32)) + (p2 &&& (255 : Int32))), iv (((((p1 &&& (1073741823 : Int32)) + (1 : Int32)) + (p2 &&& (255 : Int32))) + (1 : Int32)) + (((p2.toUInt32 >>> ((8 : Int32) &&& 31).toUInt32).toInt32) &&& (255 : Int32))), iv (((p1 &&& (1073741823 : Int32)) - (4 : Int32)) + (((p6.toUInt32 >>> ((2 : Int32) &&& 31).toUInt32).toInt32) &&& (1023 : Int32))), rv b7, iv p3] [.int 3, .int 1])
      refine own_st (fun t k => XS.icmpYes X11.here hx rfl (pc0 := 147) (pc' := 161) rfl (hb hby at_147) rfl (by decide) (by decide) (by decide) k) ?_
      show own_E p e below _ T11 (mkF m 161 #[iv p1, iv p2, iv p3, iv p4, iv p5, iv p6, iv 1, iv (p1 &&& (1073741823 : Int32)), iv (((p1 &&& (1073741823 : Int32)) + (1 : Int32)) + (p2 &&& (255 : Int32))), iv (((((p1 &&& (1073741823 : Int32)) + (1 : Int32)) + (p2 &&& (255 : Int32))) + (1 : Int32)) + (((p2.toUInt32 >>> ((8 : Int32) &&& 31).toUInt32).toInt32) &&& (255 : Int32))), iv (((p1 &&& (1073741823 : Int32)) - (4 : Int32)) + (((p6.toUInt32 >>> ((2 : Int32) &&& 31).toUInt32).toInt32) &&& (1023 : Int32))), rv b7, iv p3] [])
      refine own_st (fun t k => XS.aload X11.here hx rfl (hb hby at_161) rfl rfl k) ?_
      show own_E p e below _ T11 (mkF m 163 #[iv p1, iv p2, iv p3, iv p4, iv p5, iv p6, iv 1, iv (p1 &&& (1073741823 : Int32)), iv (((p1 &&& (1073741823 : Int32)) + (1 : Int32)) + (p2 &&& (255 : Int32))), iv (((((p1 &&& (1073741823 : Int32)) + (1 : Int32)) + (p2 &&& (255 : Int32))) + (1 : Int32)) + (((p2.toUInt32 >>> ((8 : Int32) &&& 31).toUInt32).toInt32) &&& (255 : Int32))), iv (((p1 &&& (1073741823 : Int32)) - (4 : Int32)) + (((p6.toUInt32 >>> ((2 : Int32) &&& 31).toUInt32).toInt32) &&& (1023 : Int32))), rv b7, iv p3] [.ref b7])
      refine own_st (fun t k => XS.iload X11.here hx rfl (hb hby at_163) rfl k) ?_
      show own_E p e below _ T11 (mkF m 165 #[iv p1, iv p2, iv p3, iv p4, iv p5, iv p6, iv 1, iv (p1 &&& (1073741823 : Int32)), iv (((p1 &&& (1073741823 : Int32)) + (1 : Int32)) + (p2 &&& (255 : Int32))), iv (((((p1 &&& (1073741823 : Int32)) + (1 : Int32)) + (p2 &&& (255 : Int32))) + (1 : Int32)) + (((p2.toUInt32 >>> ((8 : Int32) &&& 31).toUInt32).toInt32) &&& (255 : Int32))), iv (((p1 &&& (1073741823 : Int32)) - (4 : Int32)) + (((p6.toUInt32 >>> ((2 : Int32) &&& 31).toUInt32).toInt32) &&& (1023 : Int32))), rv b7, iv p3] [.int (((p1 &&& (1073741823 : Int32)) - (4 : Int32)) + (((p6.toUInt32 >>> ((2 : Int32) &&& 31).toUInt32).toInt32) &&& (1023 : Int32))), .ref b7])
      obtain ⟨cq14, kq14, q14a, q14b, q14c⟩ := isOf hZ e11 P11_0
      obtain ⟨_, _, ⟨T14, L14, k14, n14⟩, -, X14, ⟨Lc14, hQ14, l14, y14, z14⟩, st14⟩ := X11.virtualBack hx (y := own_y8) (z := own_y8) hown (mvT hZ (own_w hw 43 rfl)) (mvT hZ (own_w hw 44 rfl)) (notFace_of_selects (args := #[]) (mvT hZ (own_w hw 46 rfl))) (mvT hZ (own_w hw 46 rfl)) (mvT hZ (own_w hw 45 rfl)) (by decide) (backOf (W := 0) (own_freq1 l Z a0 hw [] b7 b9_o0 b9_o1 k9_o2 k9_o3 (((p1 &&& (1073741823 : Int32)) - (4 : Int32)) + (((p6.toUInt32 >>> ((2 : Int32) &&& 31).toUInt32).toInt32) &&& (1023 : Int32))) (p1 &&& (1073741823 : Int32)) p3 T11.heap n0 Z12 P11_1 P11_2 P11_5 P11_6 P11_7) hZ (own_w hw 47 rfl) (own_w hw 3 rfl) (by decide) (by decide)) q14a q14c (g := (mkF m 165 #[iv p1, iv p2, iv p3, iv p4, iv p5, iv p6, iv 1, iv (p1 &&& (1073741823 : Int32)), iv (((p1 &&& (1073741823 : Int32)) + (1 : Int32)) + (p2 &&& (255 : Int32))), iv (((((p1 &&& (1073741823 : Int32)) + (1 : Int32)) + (p2 &&& (255 : Int32))) + (1 : Int32)) + (((p2.toUInt32 >>> ((8 : Int32) &&& 31).toUInt32).toInt32) &&& (255 : Int32))), iv (((p1 &&& (1073741823 : Int32)) - (4 : Int32)) + (((p6.toUInt32 >>> ((2 : Int32) &&& 31).toUInt32).toInt32) &&& (1023 : Int32))), rv b7, iv p3] [.int (((p1 &&& (1073741823 : Int32)) - (4 : Int32)) + (((p6.toUInt32 >>> ((2 : Int32) &&& 31).toUInt32).toInt32) &&& (1023 : Int32))), .ref b7])) rfl (by rw [hml]; rfl) (Steps.refl _) (argsL := [(.int (((p1 &&& (1073741823 : Int32)) - (4 : Int32)) + (((p6.toUInt32 >>> ((2 : Int32) &&& 31).toUInt32).toInt32) &&& (1023 : Int32))))]) (rest := []) (lenOf own_pd_1 rfl) rfl (by show 2 * 0 + _ ≤ _; exact Nat.le_of_eq rfl) (hb hby at_165) (fun _ _ => ⟨rfl, e11, (by decide : 3 + 0 ≤ _), (by decide : 7 + 0 ≤ _)⟩)
      dsimp only [Pt.U, Pt.locs, Pt.cells, Pt.slots] at X14 l14 y14 z14 st14 hQ14
      subst l14 y14 z14
      obtain ⟨hR14, e14, rfl⟩ := hQ14
      have N14 := Fr.app N11 (Fr.nil n0)
      rcases hR14 with ⟨rfl, ha14_0⟩ | ⟨rfl, ha14_0, ha14_1⟩ | ⟨rfl, ha14_0, ha14_1⟩
      · exfalso
        have f15 := rng32 p6
        have f16 : (3 : Int32).toInt = 3 := rfl
        have f17 := rng32 (p6 &&& (3 : Int32))
        have f18 : (p6 &&& (3 : Int32)).toInt = p6.toInt % 4 := c_mask p6 (3 : Int32) 2 (by decide) (by decide)
        have f19 : (1 : Int32).toInt = 1 := rfl
        have f20 := rng32 p1
        have f21 : (1073741823 : Int32).toInt = 1073741823 := rfl
        have f22 := rng32 (p1 &&& (1073741823 : Int32))
        have f23 : (p1 &&& (1073741823 : Int32)).toInt = p1.toInt % 1073741824 := c_mask p1 (1073741823 : Int32) 30 (by decide) (by decide)
        have f24 : (4 : Int32).toInt = 4 := rfl
        have f25 := rng32 ((p1 &&& (1073741823 : Int32)) - (4 : Int32))
        have f26 : ((p1 &&& (1073741823 : Int32)) - (4 : Int32)).toInt = (p1 &&& (1073741823 : Int32)).toInt - (4 : Int32).toInt := by have h := c_isub (p1 &&& (1073741823 : Int32)) (4 : Int32); omega
        have f27 : (2 : Int32).toInt = 2 := rfl
        have f28 := rng32 ((p6.toUInt32 >>> ((2 : Int32) &&& 31).toUInt32).toInt32)
        have f29 : ((p6.toUInt32 >>> ((2 : Int32) &&& 31).toUInt32).toInt32).toInt = (p6.toInt % 4294967296) / 4 := c_iushr p6 (2 : Int32) 2 (by decide) (by decide)
        have f30 : (1023 : Int32).toInt = 1023 := rfl
        have f31 := rng32 (((p6.toUInt32 >>> ((2 : Int32) &&& 31).toUInt32).toInt32) &&& (1023 : Int32))
        have f32 : (((p6.toUInt32 >>> ((2 : Int32) &&& 31).toUInt32).toInt32) &&& (1023 : Int32)).toInt = ((p6.toUInt32 >>> ((2 : Int32) &&& 31).toUInt32).toInt32).toInt % 1024 := c_mask ((p6.toUInt32 >>> ((2 : Int32) &&& 31).toUInt32).toInt32) (1023 : Int32) 10 (by decide) (by decide)
        have f33 := rng32 (((p1 &&& (1073741823 : Int32)) - (4 : Int32)) + (((p6.toUInt32 >>> ((2 : Int32) &&& 31).toUInt32).toInt32) &&& (1023 : Int32)))
        have f34 : (((p1 &&& (1073741823 : Int32)) - (4 : Int32)) + (((p6.toUInt32 >>> ((2 : Int32) &&& 31).toUInt32).toInt32) &&& (1023 : Int32))).toInt = ((p1 &&& (1073741823 : Int32)) - (4 : Int32)).toInt + (((p6.toUInt32 >>> ((2 : Int32) &&& 31).toUInt32).toInt32) &&& (1023 : Int32)).toInt := by have h := c_iadd ((p1 &&& (1073741823 : Int32)) - (4 : Int32)) (((p6.toUInt32 >>> ((2 : Int32) &&& 31).toUInt32).toInt32) &&& (1023 : Int32)); omega
        have g35 := hs1
        rw [← Int32.toInt_inj] at g35
        have g36 := hc13
        rw [← Int32.toInt_inj] at g36
        have g37 := ha14_0
        rw [Int32.lt_iff_toInt_lt] at g37
        omega
      · exfalso
        have f38 := rng32 p6
        have f39 : (3 : Int32).toInt = 3 := rfl
        have f40 := rng32 (p6 &&& (3 : Int32))
        have f41 : (p6 &&& (3 : Int32)).toInt = p6.toInt % 4 := c_mask p6 (3 : Int32) 2 (by decide) (by decide)
        have f42 : (1 : Int32).toInt = 1 := rfl
        have f43 := rng32 p1
        have f44 : (1073741823 : Int32).toInt = 1073741823 := rfl
        have f45 := rng32 (p1 &&& (1073741823 : Int32))
        have f46 : (p1 &&& (1073741823 : Int32)).toInt = p1.toInt % 1073741824 := c_mask p1 (1073741823 : Int32) 30 (by decide) (by decide)
        have f47 : (4 : Int32).toInt = 4 := rfl
        have f48 := rng32 ((p1 &&& (1073741823 : Int32)) - (4 : Int32))
        have f49 : ((p1 &&& (1073741823 : Int32)) - (4 : Int32)).toInt = (p1 &&& (1073741823 : Int32)).toInt - (4 : Int32).toInt := by have h := c_isub (p1 &&& (1073741823 : Int32)) (4 : Int32); omega
        have f50 : (2 : Int32).toInt = 2 := rfl
        have f51 := rng32 ((p6.toUInt32 >>> ((2 : Int32) &&& 31).toUInt32).toInt32)
        have f52 : ((p6.toUInt32 >>> ((2 : Int32) &&& 31).toUInt32).toInt32).toInt = (p6.toInt % 4294967296) / 4 := c_iushr p6 (2 : Int32) 2 (by decide) (by decide)
        have f53 : (1023 : Int32).toInt = 1023 := rfl
        have f54 := rng32 (((p6.toUInt32 >>> ((2 : Int32) &&& 31).toUInt32).toInt32) &&& (1023 : Int32))
        have f55 : (((p6.toUInt32 >>> ((2 : Int32) &&& 31).toUInt32).toInt32) &&& (1023 : Int32)).toInt = ((p6.toUInt32 >>> ((2 : Int32) &&& 31).toUInt32).toInt32).toInt % 1024 := c_mask ((p6.toUInt32 >>> ((2 : Int32) &&& 31).toUInt32).toInt32) (1023 : Int32) 10 (by decide) (by decide)
        have f56 := rng32 (((p1 &&& (1073741823 : Int32)) - (4 : Int32)) + (((p6.toUInt32 >>> ((2 : Int32) &&& 31).toUInt32).toInt32) &&& (1023 : Int32)))
        have f57 : (((p1 &&& (1073741823 : Int32)) - (4 : Int32)) + (((p6.toUInt32 >>> ((2 : Int32) &&& 31).toUInt32).toInt32) &&& (1023 : Int32))).toInt = ((p1 &&& (1073741823 : Int32)) - (4 : Int32)).toInt + (((p6.toUInt32 >>> ((2 : Int32) &&& 31).toUInt32).toInt32) &&& (1023 : Int32)).toInt := by have h := c_iadd ((p1 &&& (1073741823 : Int32)) - (4 : Int32)) (((p6.toUInt32 >>> ((2 : Int32) &&& 31).toUInt32).toInt32) &&& (1023 : Int32)); omega
        have g58 := hs1
        rw [← Int32.toInt_inj] at g58
        have g59 := hc13
        rw [← Int32.toInt_inj] at g59
        have g60 := ha14_0
        rw [Int32.lt_iff_toInt_lt] at g60
        have g61 := ha14_1
        rw [Int32.lt_iff_toInt_lt] at g61
        omega
      · refine own_tr st14 ?_
        show own_E p e below _ T14 (mkF m 168 #[iv p1, iv p2, iv p3, iv p4, iv p5, iv p6, iv 1, iv (p1 &&& (1073741823 : Int32)), iv (((p1 &&& (1073741823 : Int32)) + (1 : Int32)) + (p2 &&& (255 : Int32))), iv (((((p1 &&& (1073741823 : Int32)) + (1 : Int32)) + (p2 &&& (255 : Int32))) + (1 : Int32)) + (((p2.toUInt32 >>> ((8 : Int32) &&& 31).toUInt32).toInt32) &&& (255 : Int32))), iv (((p1 &&& (1073741823 : Int32)) - (4 : Int32)) + (((p6.toUInt32 >>> ((2 : Int32) &&& 31).toUInt32).toInt32) &&& (1023 : Int32))), rv b7, iv p3] [.int p3])
        refine own_st (fun t k => XS.iload X14.here hx rfl (hb hby at_168) rfl k) ?_
        show own_E p e below _ T14 (mkF m 170 #[iv p1, iv p2, iv p3, iv p4, iv p5, iv p6, iv 1, iv (p1 &&& (1073741823 : Int32)), iv (((p1 &&& (1073741823 : Int32)) + (1 : Int32)) + (p2 &&& (255 : Int32))), iv (((((p1 &&& (1073741823 : Int32)) + (1 : Int32)) + (p2 &&& (255 : Int32))) + (1 : Int32)) + (((p2.toUInt32 >>> ((8 : Int32) &&& 31).toUInt32).toInt32) &&& (255 : Int32))), iv (((p1 &&& (1073741823 : Int32)) - (4 : Int32)) + (((p6.toUInt32 >>> ((2 : Int32) &&& 31).toUInt32).toInt32) &&& (1023 : Int32))), rv b7, iv p3] [.int p3, .int p3])
        refine own_st (fun t k => XS.icmpNo X14.here hx rfl (hb hby at_170) rfl (teq rfl).2 k) ?_
        show own_E p e below _ T14 (mkF m 173 #[iv p1, iv p2, iv p3, iv p4, iv p5, iv p6, iv 1, iv (p1 &&& (1073741823 : Int32)), iv (((p1 &&& (1073741823 : Int32)) + (1 : Int32)) + (p2 &&& (255 : Int32))), iv (((((p1 &&& (1073741823 : Int32)) + (1 : Int32)) + (p2 &&& (255 : Int32))) + (1 : Int32)) + (((p2.toUInt32 >>> ((8 : Int32) &&& 31).toUInt32).toInt32) &&& (255 : Int32))), iv (((p1 &&& (1073741823 : Int32)) - (4 : Int32)) + (((p6.toUInt32 >>> ((2 : Int32) &&& 31).toUInt32).toInt32) &&& (1023 : Int32))), rv b7, iv p3] [])
        refine own_st (fun t k => XS.iconst X14.here hx rfl (hb hby at_173) k) ?_
        show own_E p e below _ T14 (mkF m 174 #[iv p1, iv p2, iv p3, iv p4, iv p5, iv p6, iv 1, iv (p1 &&& (1073741823 : Int32)), iv (((p1 &&& (1073741823 : Int32)) + (1 : Int32)) + (p2 &&& (255 : Int32))), iv (((((p1 &&& (1073741823 : Int32)) + (1 : Int32)) + (p2 &&& (255 : Int32))) + (1 : Int32)) + (((p2.toUInt32 >>> ((8 : Int32) &&& 31).toUInt32).toInt32) &&& (255 : Int32))), iv (((p1 &&& (1073741823 : Int32)) - (4 : Int32)) + (((p6.toUInt32 >>> ((2 : Int32) &&& 31).toUInt32).toInt32) &&& (1023 : Int32))), rv b7, iv p3] [.int 1])
        refine own_st (fun t k => XS.goto X14.here hx rfl (pc0 := 174) (pc' := 178) rfl (hb hby at_174) (by decide) (by decide) k) ?_
        show own_E p e below _ T14 (mkF m 178 #[iv p1, iv p2, iv p3, iv p4, iv p5, iv p6, iv 1, iv (p1 &&& (1073741823 : Int32)), iv (((p1 &&& (1073741823 : Int32)) + (1 : Int32)) + (p2 &&& (255 : Int32))), iv (((((p1 &&& (1073741823 : Int32)) + (1 : Int32)) + (p2 &&& (255 : Int32))) + (1 : Int32)) + (((p2.toUInt32 >>> ((8 : Int32) &&& 31).toUInt32).toInt32) &&& (255 : Int32))), iv (((p1 &&& (1073741823 : Int32)) - (4 : Int32)) + (((p6.toUInt32 >>> ((2 : Int32) &&& 31).toUInt32).toInt32) &&& (1023 : Int32))), rv b7, iv p3] [.int 1])
        refine own_retS X14 hx Bd.notSynchronized Bd.returns rfl (by decide) (hb hby at_178) (by decide) (by decide) ?_
        exact ⟨rfl, N14⟩
    · refine own_st (fun t k => XS.icmpYes X11.here hx rfl (pc0 := 122) (pc' := 128) rfl (hb hby at_122) rfl (feq hc13).2 (by decide) (by decide) k) ?_
      show own_E p e below _ T11 (mkF m 128 #[iv p1, iv p2, iv p3, iv p4, iv p5, iv p6, iv 1, iv (p1 &&& (1073741823 : Int32)), iv (((p1 &&& (1073741823 : Int32)) + (1 : Int32)) + (p2 &&& (255 : Int32))), iv (((((p1 &&& (1073741823 : Int32)) + (1 : Int32)) + (p2 &&& (255 : Int32))) + (1 : Int32)) + (((p2.toUInt32 >>> ((8 : Int32) &&& 31).toUInt32).toInt32) &&& (255 : Int32))), iv (((p1 &&& (1073741823 : Int32)) - (4 : Int32)) + (((p6.toUInt32 >>> ((2 : Int32) &&& 31).toUInt32).toInt32) &&& (1023 : Int32))), rv b7, iv 0] [])
      refine own_st (fun t k => XS.iload X11.here hx rfl (hb hby at_128) rfl k) ?_
      show own_E p e below _ T11 (mkF m 130 #[iv p1, iv p2, iv p3, iv p4, iv p5, iv p6, iv 1, iv (p1 &&& (1073741823 : Int32)), iv (((p1 &&& (1073741823 : Int32)) + (1 : Int32)) + (p2 &&& (255 : Int32))), iv (((((p1 &&& (1073741823 : Int32)) + (1 : Int32)) + (p2 &&& (255 : Int32))) + (1 : Int32)) + (((p2.toUInt32 >>> ((8 : Int32) &&& 31).toUInt32).toInt32) &&& (255 : Int32))), iv (((p1 &&& (1073741823 : Int32)) - (4 : Int32)) + (((p6.toUInt32 >>> ((2 : Int32) &&& 31).toUInt32).toInt32) &&& (1023 : Int32))), rv b7, iv 0] [.int 1])
      refine own_st (fun t k => XS.iconst X11.here hx rfl (hb hby at_130) k) ?_
      show own_E p e below _ T11 (mkF m 131 #[iv p1, iv p2, iv p3, iv p4, iv p5, iv p6, iv 1, iv (p1 &&& (1073741823 : Int32)), iv (((p1 &&& (1073741823 : Int32)) + (1 : Int32)) + (p2 &&& (255 : Int32))), iv (((((p1 &&& (1073741823 : Int32)) + (1 : Int32)) + (p2 &&& (255 : Int32))) + (1 : Int32)) + (((p2.toUInt32 >>> ((8 : Int32) &&& 31).toUInt32).toInt32) &&& (255 : Int32))), iv (((p1 &&& (1073741823 : Int32)) - (4 : Int32)) + (((p6.toUInt32 >>> ((2 : Int32) &&& 31).toUInt32).toInt32) &&& (1023 : Int32))), rv b7, iv 0] [.int 2, .int 1])
      refine own_st (fun t k => XS.icmpYes X11.here hx rfl (pc0 := 131) (pc' := 144) rfl (hb hby at_131) rfl (by decide) (by decide) (by decide) k) ?_
      show own_E p e below _ T11 (mkF m 144 #[iv p1, iv p2, iv p3, iv p4, iv p5, iv p6, iv 1, iv (p1 &&& (1073741823 : Int32)), iv (((p1 &&& (1073741823 : Int32)) + (1 : Int32)) + (p2 &&& (255 : Int32))), iv (((((p1 &&& (1073741823 : Int32)) + (1 : Int32)) + (p2 &&& (255 : Int32))) + (1 : Int32)) + (((p2.toUInt32 >>> ((8 : Int32) &&& 31).toUInt32).toInt32) &&& (255 : Int32))), iv (((p1 &&& (1073741823 : Int32)) - (4 : Int32)) + (((p6.toUInt32 >>> ((2 : Int32) &&& 31).toUInt32).toInt32) &&& (1023 : Int32))), rv b7, iv 0] [])
      refine own_st (fun t k => XS.iload X11.here hx rfl (hb hby at_144) rfl k) ?_
      show own_E p e below _ T11 (mkF m 146 #[iv p1, iv p2, iv p3, iv p4, iv p5, iv p6, iv 1, iv (p1 &&& (1073741823 : Int32)), iv (((p1 &&& (1073741823 : Int32)) + (1 : Int32)) + (p2 &&& (255 : Int32))), iv (((((p1 &&& (1073741823 : Int32)) + (1 : Int32)) + (p2 &&& (255 : Int32))) + (1 : Int32)) + (((p2.toUInt32 >>> ((8 : Int32) &&& 31).toUInt32).toInt32) &&& (255 : Int32))), iv (((p1 &&& (1073741823 : Int32)) - (4 : Int32)) + (((p6.toUInt32 >>> ((2 : Int32) &&& 31).toUInt32).toInt32) &&& (1023 : Int32))), rv b7, iv 0] [.int 1])
      refine own_st (fun t k => XS.iconst X11.here hx rfl (hb hby at_146) k) ?_
      show own_E p e below _ T11 (mkF m 147 #[iv p1, iv p2, iv p3, iv p4, iv p5, iv p6, iv 1, iv (p1 &&& (1073741823 : Int32)), iv (((p1 &&& (1073741823 : Int32)) + (1 : Int32)) + (p2 &&& (255 : Int32))), iv (((((p1 &&& (1073741823 : Int32)) + (1 : Int32)) + (p2 &&& (255 : Int32))) + (1 : Int32)) + (((p2.toUInt32 >>> ((8 : Int32) &&& 31).toUInt32).toInt32) &&& (255 : Int32))), iv (((p1 &&& (1073741823 : Int32)) - (4 : Int32)) + (((p6.toUInt32 >>> ((2 : Int32) &&& 31).toUInt32).toInt32) &&& (1023 : Int32))), rv b7, iv 0] [.int 3, .int 1])
      refine own_st (fun t k => XS.icmpYes X11.here hx rfl (pc0 := 147) (pc' := 161) rfl (hb hby at_147) rfl (by decide) (by decide) (by decide) k) ?_
      show own_E p e below _ T11 (mkF m 161 #[iv p1, iv p2, iv p3, iv p4, iv p5, iv p6, iv 1, iv (p1 &&& (1073741823 : Int32)), iv (((p1 &&& (1073741823 : Int32)) + (1 : Int32)) + (p2 &&& (255 : Int32))), iv (((((p1 &&& (1073741823 : Int32)) + (1 : Int32)) + (p2 &&& (255 : Int32))) + (1 : Int32)) + (((p2.toUInt32 >>> ((8 : Int32) &&& 31).toUInt32).toInt32) &&& (255 : Int32))), iv (((p1 &&& (1073741823 : Int32)) - (4 : Int32)) + (((p6.toUInt32 >>> ((2 : Int32) &&& 31).toUInt32).toInt32) &&& (1023 : Int32))), rv b7, iv 0] [])
      refine own_st (fun t k => XS.aload X11.here hx rfl (hb hby at_161) rfl rfl k) ?_
      show own_E p e below _ T11 (mkF m 163 #[iv p1, iv p2, iv p3, iv p4, iv p5, iv p6, iv 1, iv (p1 &&& (1073741823 : Int32)), iv (((p1 &&& (1073741823 : Int32)) + (1 : Int32)) + (p2 &&& (255 : Int32))), iv (((((p1 &&& (1073741823 : Int32)) + (1 : Int32)) + (p2 &&& (255 : Int32))) + (1 : Int32)) + (((p2.toUInt32 >>> ((8 : Int32) &&& 31).toUInt32).toInt32) &&& (255 : Int32))), iv (((p1 &&& (1073741823 : Int32)) - (4 : Int32)) + (((p6.toUInt32 >>> ((2 : Int32) &&& 31).toUInt32).toInt32) &&& (1023 : Int32))), rv b7, iv 0] [.ref b7])
      refine own_st (fun t k => XS.iload X11.here hx rfl (hb hby at_163) rfl k) ?_
      show own_E p e below _ T11 (mkF m 165 #[iv p1, iv p2, iv p3, iv p4, iv p5, iv p6, iv 1, iv (p1 &&& (1073741823 : Int32)), iv (((p1 &&& (1073741823 : Int32)) + (1 : Int32)) + (p2 &&& (255 : Int32))), iv (((((p1 &&& (1073741823 : Int32)) + (1 : Int32)) + (p2 &&& (255 : Int32))) + (1 : Int32)) + (((p2.toUInt32 >>> ((8 : Int32) &&& 31).toUInt32).toInt32) &&& (255 : Int32))), iv (((p1 &&& (1073741823 : Int32)) - (4 : Int32)) + (((p6.toUInt32 >>> ((2 : Int32) &&& 31).toUInt32).toInt32) &&& (1023 : Int32))), rv b7, iv 0] [.int (((p1 &&& (1073741823 : Int32)) - (4 : Int32)) + (((p6.toUInt32 >>> ((2 : Int32) &&& 31).toUInt32).toInt32) &&& (1023 : Int32))), .ref b7])
      obtain ⟨cq62, kq62, q62a, q62b, q62c⟩ := isOf hZ e11 P11_0
      obtain ⟨_, _, ⟨T62, L62, k62, n62⟩, -, X62, ⟨Lc62, hQ62, l62, y62, z62⟩, st62⟩ := X11.virtualBack hx (y := own_y8) (z := own_y8) hown (mvT hZ (own_w hw 43 rfl)) (mvT hZ (own_w hw 44 rfl)) (notFace_of_selects (args := #[]) (mvT hZ (own_w hw 46 rfl))) (mvT hZ (own_w hw 46 rfl)) (mvT hZ (own_w hw 45 rfl)) (by decide) (backOf (W := 0) (own_freq1 l Z a0 hw [] b7 b9_o0 b9_o1 k9_o2 k9_o3 (((p1 &&& (1073741823 : Int32)) - (4 : Int32)) + (((p6.toUInt32 >>> ((2 : Int32) &&& 31).toUInt32).toInt32) &&& (1023 : Int32))) (p1 &&& (1073741823 : Int32)) p3 T11.heap n0 Z12 P11_1 P11_2 P11_5 P11_6 P11_7) hZ (own_w hw 47 rfl) (own_w hw 3 rfl) (by decide) (by decide)) q62a q62c (g := (mkF m 165 #[iv p1, iv p2, iv p3, iv p4, iv p5, iv p6, iv 1, iv (p1 &&& (1073741823 : Int32)), iv (((p1 &&& (1073741823 : Int32)) + (1 : Int32)) + (p2 &&& (255 : Int32))), iv (((((p1 &&& (1073741823 : Int32)) + (1 : Int32)) + (p2 &&& (255 : Int32))) + (1 : Int32)) + (((p2.toUInt32 >>> ((8 : Int32) &&& 31).toUInt32).toInt32) &&& (255 : Int32))), iv (((p1 &&& (1073741823 : Int32)) - (4 : Int32)) + (((p6.toUInt32 >>> ((2 : Int32) &&& 31).toUInt32).toInt32) &&& (1023 : Int32))), rv b7, iv 0] [.int (((p1 &&& (1073741823 : Int32)) - (4 : Int32)) + (((p6.toUInt32 >>> ((2 : Int32) &&& 31).toUInt32).toInt32) &&& (1023 : Int32))), .ref b7])) rfl (by rw [hml]; rfl) (Steps.refl _) (argsL := [(.int (((p1 &&& (1073741823 : Int32)) - (4 : Int32)) + (((p6.toUInt32 >>> ((2 : Int32) &&& 31).toUInt32).toInt32) &&& (1023 : Int32))))]) (rest := []) (lenOf own_pd_1 rfl) rfl (by show 2 * 0 + _ ≤ _; exact Nat.le_of_eq rfl) (hb hby at_165) (fun _ _ => ⟨rfl, e11, (by decide : 3 + 0 ≤ _), (by decide : 7 + 0 ≤ _)⟩)
      dsimp only [Pt.U, Pt.locs, Pt.cells, Pt.slots] at X62 l62 y62 z62 st62 hQ62
      subst l62 y62 z62
      obtain ⟨hR62, e62, rfl⟩ := hQ62
      have N62 := Fr.app N11 (Fr.nil n0)
      rcases hR62 with ⟨rfl, ha62_0⟩ | ⟨rfl, ha62_0, ha62_1⟩ | ⟨rfl, ha62_0, ha62_1⟩
      · refine own_tr st62 ?_
        show own_E p e below _ T62 (mkF m 168 #[iv p1, iv p2, iv p3, iv p4, iv p5, iv p6, iv 1, iv (p1 &&& (1073741823 : Int32)), iv (((p1 &&& (1073741823 : Int32)) + (1 : Int32)) + (p2 &&& (255 : Int32))), iv (((((p1 &&& (1073741823 : Int32)) + (1 : Int32)) + (p2 &&& (255 : Int32))) + (1 : Int32)) + (((p2.toUInt32 >>> ((8 : Int32) &&& 31).toUInt32).toInt32) &&& (255 : Int32))), iv (((p1 &&& (1073741823 : Int32)) - (4 : Int32)) + (((p6.toUInt32 >>> ((2 : Int32) &&& 31).toUInt32).toInt32) &&& (1023 : Int32))), rv b7, iv 0] [.int 0])
        refine own_st (fun t k => XS.iload X62.here hx rfl (hb hby at_168) rfl k) ?_
        show own_E p e below _ T62 (mkF m 170 #[iv p1, iv p2, iv p3, iv p4, iv p5, iv p6, iv 1, iv (p1 &&& (1073741823 : Int32)), iv (((p1 &&& (1073741823 : Int32)) + (1 : Int32)) + (p2 &&& (255 : Int32))), iv (((((p1 &&& (1073741823 : Int32)) + (1 : Int32)) + (p2 &&& (255 : Int32))) + (1 : Int32)) + (((p2.toUInt32 >>> ((8 : Int32) &&& 31).toUInt32).toInt32) &&& (255 : Int32))), iv (((p1 &&& (1073741823 : Int32)) - (4 : Int32)) + (((p6.toUInt32 >>> ((2 : Int32) &&& 31).toUInt32).toInt32) &&& (1023 : Int32))), rv b7, iv 0] [.int 0, .int 0])
        refine own_st (fun t k => XS.icmpNo X62.here hx rfl (hb hby at_170) rfl (by decide) k) ?_
        show own_E p e below _ T62 (mkF m 173 #[iv p1, iv p2, iv p3, iv p4, iv p5, iv p6, iv 1, iv (p1 &&& (1073741823 : Int32)), iv (((p1 &&& (1073741823 : Int32)) + (1 : Int32)) + (p2 &&& (255 : Int32))), iv (((((p1 &&& (1073741823 : Int32)) + (1 : Int32)) + (p2 &&& (255 : Int32))) + (1 : Int32)) + (((p2.toUInt32 >>> ((8 : Int32) &&& 31).toUInt32).toInt32) &&& (255 : Int32))), iv (((p1 &&& (1073741823 : Int32)) - (4 : Int32)) + (((p6.toUInt32 >>> ((2 : Int32) &&& 31).toUInt32).toInt32) &&& (1023 : Int32))), rv b7, iv 0] [])
        refine own_st (fun t k => XS.iconst X62.here hx rfl (hb hby at_173) k) ?_
        show own_E p e below _ T62 (mkF m 174 #[iv p1, iv p2, iv p3, iv p4, iv p5, iv p6, iv 1, iv (p1 &&& (1073741823 : Int32)), iv (((p1 &&& (1073741823 : Int32)) + (1 : Int32)) + (p2 &&& (255 : Int32))), iv (((((p1 &&& (1073741823 : Int32)) + (1 : Int32)) + (p2 &&& (255 : Int32))) + (1 : Int32)) + (((p2.toUInt32 >>> ((8 : Int32) &&& 31).toUInt32).toInt32) &&& (255 : Int32))), iv (((p1 &&& (1073741823 : Int32)) - (4 : Int32)) + (((p6.toUInt32 >>> ((2 : Int32) &&& 31).toUInt32).toInt32) &&& (1023 : Int32))), rv b7, iv 0] [.int 1])
        refine own_st (fun t k => XS.goto X62.here hx rfl (pc0 := 174) (pc' := 178) rfl (hb hby at_174) (by decide) (by decide) k) ?_
        show own_E p e below _ T62 (mkF m 178 #[iv p1, iv p2, iv p3, iv p4, iv p5, iv p6, iv 1, iv (p1 &&& (1073741823 : Int32)), iv (((p1 &&& (1073741823 : Int32)) + (1 : Int32)) + (p2 &&& (255 : Int32))), iv (((((p1 &&& (1073741823 : Int32)) + (1 : Int32)) + (p2 &&& (255 : Int32))) + (1 : Int32)) + (((p2.toUInt32 >>> ((8 : Int32) &&& 31).toUInt32).toInt32) &&& (255 : Int32))), iv (((p1 &&& (1073741823 : Int32)) - (4 : Int32)) + (((p6.toUInt32 >>> ((2 : Int32) &&& 31).toUInt32).toInt32) &&& (1023 : Int32))), rv b7, iv 0] [.int 1])
        refine own_retS X62 hx Bd.notSynchronized Bd.returns rfl (by decide) (hb hby at_178) (by decide) (by decide) ?_
        exact ⟨rfl, N62⟩
      · refine own_tr st62 ?_
        show own_E p e below _ T62 (mkF m 168 #[iv p1, iv p2, iv p3, iv p4, iv p5, iv p6, iv 1, iv (p1 &&& (1073741823 : Int32)), iv (((p1 &&& (1073741823 : Int32)) + (1 : Int32)) + (p2 &&& (255 : Int32))), iv (((((p1 &&& (1073741823 : Int32)) + (1 : Int32)) + (p2 &&& (255 : Int32))) + (1 : Int32)) + (((p2.toUInt32 >>> ((8 : Int32) &&& 31).toUInt32).toInt32) &&& (255 : Int32))), iv (((p1 &&& (1073741823 : Int32)) - (4 : Int32)) + (((p6.toUInt32 >>> ((2 : Int32) &&& 31).toUInt32).toInt32) &&& (1023 : Int32))), rv b7, iv 0] [.int 0])
        refine own_st (fun t k => XS.iload X62.here hx rfl (hb hby at_168) rfl k) ?_
        show own_E p e below _ T62 (mkF m 170 #[iv p1, iv p2, iv p3, iv p4, iv p5, iv p6, iv 1, iv (p1 &&& (1073741823 : Int32)), iv (((p1 &&& (1073741823 : Int32)) + (1 : Int32)) + (p2 &&& (255 : Int32))), iv (((((p1 &&& (1073741823 : Int32)) + (1 : Int32)) + (p2 &&& (255 : Int32))) + (1 : Int32)) + (((p2.toUInt32 >>> ((8 : Int32) &&& 31).toUInt32).toInt32) &&& (255 : Int32))), iv (((p1 &&& (1073741823 : Int32)) - (4 : Int32)) + (((p6.toUInt32 >>> ((2 : Int32) &&& 31).toUInt32).toInt32) &&& (1023 : Int32))), rv b7, iv 0] [.int 0, .int 0])
        refine own_st (fun t k => XS.icmpNo X62.here hx rfl (hb hby at_170) rfl (by decide) k) ?_
        show own_E p e below _ T62 (mkF m 173 #[iv p1, iv p2, iv p3, iv p4, iv p5, iv p6, iv 1, iv (p1 &&& (1073741823 : Int32)), iv (((p1 &&& (1073741823 : Int32)) + (1 : Int32)) + (p2 &&& (255 : Int32))), iv (((((p1 &&& (1073741823 : Int32)) + (1 : Int32)) + (p2 &&& (255 : Int32))) + (1 : Int32)) + (((p2.toUInt32 >>> ((8 : Int32) &&& 31).toUInt32).toInt32) &&& (255 : Int32))), iv (((p1 &&& (1073741823 : Int32)) - (4 : Int32)) + (((p6.toUInt32 >>> ((2 : Int32) &&& 31).toUInt32).toInt32) &&& (1023 : Int32))), rv b7, iv 0] [])
        refine own_st (fun t k => XS.iconst X62.here hx rfl (hb hby at_173) k) ?_
        show own_E p e below _ T62 (mkF m 174 #[iv p1, iv p2, iv p3, iv p4, iv p5, iv p6, iv 1, iv (p1 &&& (1073741823 : Int32)), iv (((p1 &&& (1073741823 : Int32)) + (1 : Int32)) + (p2 &&& (255 : Int32))), iv (((((p1 &&& (1073741823 : Int32)) + (1 : Int32)) + (p2 &&& (255 : Int32))) + (1 : Int32)) + (((p2.toUInt32 >>> ((8 : Int32) &&& 31).toUInt32).toInt32) &&& (255 : Int32))), iv (((p1 &&& (1073741823 : Int32)) - (4 : Int32)) + (((p6.toUInt32 >>> ((2 : Int32) &&& 31).toUInt32).toInt32) &&& (1023 : Int32))), rv b7, iv 0] [.int 1])
        refine own_st (fun t k => XS.goto X62.here hx rfl (pc0 := 174) (pc' := 178) rfl (hb hby at_174) (by decide) (by decide) k) ?_
        show own_E p e below _ T62 (mkF m 178 #[iv p1, iv p2, iv p3, iv p4, iv p5, iv p6, iv 1, iv (p1 &&& (1073741823 : Int32)), iv (((p1 &&& (1073741823 : Int32)) + (1 : Int32)) + (p2 &&& (255 : Int32))), iv (((((p1 &&& (1073741823 : Int32)) + (1 : Int32)) + (p2 &&& (255 : Int32))) + (1 : Int32)) + (((p2.toUInt32 >>> ((8 : Int32) &&& 31).toUInt32).toInt32) &&& (255 : Int32))), iv (((p1 &&& (1073741823 : Int32)) - (4 : Int32)) + (((p6.toUInt32 >>> ((2 : Int32) &&& 31).toUInt32).toInt32) &&& (1023 : Int32))), rv b7, iv 0] [.int 1])
        refine own_retS X62 hx Bd.notSynchronized Bd.returns rfl (by decide) (hb hby at_178) (by decide) (by decide) ?_
        exact ⟨rfl, N62⟩
      · exfalso
        have f63 := rng32 p6
        have f64 : (3 : Int32).toInt = 3 := rfl
        have f65 := rng32 (p6 &&& (3 : Int32))
        have f66 : (p6 &&& (3 : Int32)).toInt = p6.toInt % 4 := c_mask p6 (3 : Int32) 2 (by decide) (by decide)
        have f67 : (1 : Int32).toInt = 1 := rfl
        have f68 := rng32 p1
        have f69 : (1073741823 : Int32).toInt = 1073741823 := rfl
        have f70 := rng32 (p1 &&& (1073741823 : Int32))
        have f71 : (p1 &&& (1073741823 : Int32)).toInt = p1.toInt % 1073741824 := c_mask p1 (1073741823 : Int32) 30 (by decide) (by decide)
        have f72 : (4 : Int32).toInt = 4 := rfl
        have f73 := rng32 ((p1 &&& (1073741823 : Int32)) - (4 : Int32))
        have f74 : ((p1 &&& (1073741823 : Int32)) - (4 : Int32)).toInt = (p1 &&& (1073741823 : Int32)).toInt - (4 : Int32).toInt := by have h := c_isub (p1 &&& (1073741823 : Int32)) (4 : Int32); omega
        have f75 : (2 : Int32).toInt = 2 := rfl
        have f76 := rng32 ((p6.toUInt32 >>> ((2 : Int32) &&& 31).toUInt32).toInt32)
        have f77 : ((p6.toUInt32 >>> ((2 : Int32) &&& 31).toUInt32).toInt32).toInt = (p6.toInt % 4294967296) / 4 := c_iushr p6 (2 : Int32) 2 (by decide) (by decide)
        have f78 : (1023 : Int32).toInt = 1023 := rfl
        have f79 := rng32 (((p6.toUInt32 >>> ((2 : Int32) &&& 31).toUInt32).toInt32) &&& (1023 : Int32))
        have f80 : (((p6.toUInt32 >>> ((2 : Int32) &&& 31).toUInt32).toInt32) &&& (1023 : Int32)).toInt = ((p6.toUInt32 >>> ((2 : Int32) &&& 31).toUInt32).toInt32).toInt % 1024 := c_mask ((p6.toUInt32 >>> ((2 : Int32) &&& 31).toUInt32).toInt32) (1023 : Int32) 10 (by decide) (by decide)
        have f81 := rng32 (((p1 &&& (1073741823 : Int32)) - (4 : Int32)) + (((p6.toUInt32 >>> ((2 : Int32) &&& 31).toUInt32).toInt32) &&& (1023 : Int32)))
        have f82 : (((p1 &&& (1073741823 : Int32)) - (4 : Int32)) + (((p6.toUInt32 >>> ((2 : Int32) &&& 31).toUInt32).toInt32) &&& (1023 : Int32))).toInt = ((p1 &&& (1073741823 : Int32)) - (4 : Int32)).toInt + (((p6.toUInt32 >>> ((2 : Int32) &&& 31).toUInt32).toInt32) &&& (1023 : Int32)).toInt := by have h := c_iadd ((p1 &&& (1073741823 : Int32)) - (4 : Int32)) (((p6.toUInt32 >>> ((2 : Int32) &&& 31).toUInt32).toInt32) &&& (1023 : Int32)); omega
        have g83 := hs1
        rw [← Int32.toInt_inj] at g83
        have g84 := hc13
        rw [← Int32.toInt_inj] at g84
        have g85 := ha62_0
        rw [Int32.lt_iff_toInt_lt] at g85
        have g86 := ha62_1
        rw [Int32.lt_iff_toInt_lt] at g86
        omega
  · rw [hs1]
    show own_E p e below _ s₁ (mkF m 6 #[iv p1, iv p2, iv p3, iv p4, iv p5, iv p6, iv 2, .unset, .unset, .unset, .unset, .unset, .unset] [])
    refine own_st (fun t k => XS.iloadN X0.here hx rfl (hb hby at_6) rfl k) ?_
    show own_E p e below _ s₁ (mkF m 7 #[iv p1, iv p2, iv p3, iv p4, iv p5, iv p6, iv 2, .unset, .unset, .unset, .unset, .unset, .unset] [.int p1])
    refine own_st (X0.ldcInt hx hown (mvT hZ (own_w hw 0 rfl)) (g := (mkF m 7 #[iv p1, iv p2, iv p3, iv p4, iv p5, iv p6, iv 2, .unset, .unset, .unset, .unset, .unset, .unset] [.int p1])) rfl (hb hby at_7)) ?_
    show own_E p e below _ s₁ (mkF m 9 #[iv p1, iv p2, iv p3, iv p4, iv p5, iv p6, iv 2, .unset, .unset, .unset, .unset, .unset, .unset] [.int 1073741823, .int p1])
    refine own_st (fun t k => XS.iand X0.here hx rfl (hb hby at_9) rfl k) ?_
    show own_E p e below _ s₁ (mkF m 10 #[iv p1, iv p2, iv p3, iv p4, iv p5, iv p6, iv 2, .unset, .unset, .unset, .unset, .unset, .unset] [.int (p1 &&& (1073741823 : Int32))])
    refine own_st (fun t k => XS.istore X0.here hx rfl (hb hby at_10) rfl (l' := #[iv p1, iv p2, iv p3, iv p4, iv p5, iv p6, iv 2, iv (p1 &&& (1073741823 : Int32)), .unset, .unset, .unset, .unset, .unset]) rfl k) ?_
    show own_E p e below _ s₁ (mkF m 12 #[iv p1, iv p2, iv p3, iv p4, iv p5, iv p6, iv 2, iv (p1 &&& (1073741823 : Int32)), .unset, .unset, .unset, .unset, .unset] [])
    refine own_st (fun t k => XS.iload X0.here hx rfl (hb hby at_12) rfl k) ?_
    show own_E p e below _ s₁ (mkF m 14 #[iv p1, iv p2, iv p3, iv p4, iv p5, iv p6, iv 2, iv (p1 &&& (1073741823 : Int32)), .unset, .unset, .unset, .unset, .unset] [.int (p1 &&& (1073741823 : Int32))])
    refine own_st (fun t k => XS.iconst X0.here hx rfl (hb hby at_14) k) ?_
    show own_E p e below _ s₁ (mkF m 15 #[iv p1, iv p2, iv p3, iv p4, iv p5, iv p6, iv 2, iv (p1 &&& (1073741823 : Int32)), .unset, .unset, .unset, .unset, .unset] [.int 1, .int (p1 &&& (1073741823 : Int32))])
    refine own_st (fun t k => XS.iadd X0.here hx rfl (hb hby at_15) rfl k) ?_
    show own_E p e below _ s₁ (mkF m 16 #[iv p1, iv p2, iv p3, iv p4, iv p5, iv p6, iv 2, iv (p1 &&& (1073741823 : Int32)), .unset, .unset, .unset, .unset, .unset] [.int ((p1 &&& (1073741823 : Int32)) + (1 : Int32))])
    refine own_st (fun t k => XS.iloadN X0.here hx rfl (hb hby at_16) rfl k) ?_
    show own_E p e below _ s₁ (mkF m 17 #[iv p1, iv p2, iv p3, iv p4, iv p5, iv p6, iv 2, iv (p1 &&& (1073741823 : Int32)), .unset, .unset, .unset, .unset, .unset] [.int p2, .int ((p1 &&& (1073741823 : Int32)) + (1 : Int32))])
    refine own_st (fun t k => XS.sipush X0.here hx rfl (hb hby at_17) k) ?_
    show own_E p e below _ s₁ (mkF m 20 #[iv p1, iv p2, iv p3, iv p4, iv p5, iv p6, iv 2, iv (p1 &&& (1073741823 : Int32)), .unset, .unset, .unset, .unset, .unset] [.int 255, .int p2, .int ((p1 &&& (1073741823 : Int32)) + (1 : Int32))])
    refine own_st (fun t k => XS.iand X0.here hx rfl (hb hby at_20) rfl k) ?_
    show own_E p e below _ s₁ (mkF m 21 #[iv p1, iv p2, iv p3, iv p4, iv p5, iv p6, iv 2, iv (p1 &&& (1073741823 : Int32)), .unset, .unset, .unset, .unset, .unset] [.int (p2 &&& (255 : Int32)), .int ((p1 &&& (1073741823 : Int32)) + (1 : Int32))])
    refine own_st (fun t k => XS.iadd X0.here hx rfl (hb hby at_21) rfl k) ?_
    show own_E p e below _ s₁ (mkF m 22 #[iv p1, iv p2, iv p3, iv p4, iv p5, iv p6, iv 2, iv (p1 &&& (1073741823 : Int32)), .unset, .unset, .unset, .unset, .unset] [.int (((p1 &&& (1073741823 : Int32)) + (1 : Int32)) + (p2 &&& (255 : Int32)))])
    refine own_st (fun t k => XS.istore X0.here hx rfl (hb hby at_22) rfl (l' := #[iv p1, iv p2, iv p3, iv p4, iv p5, iv p6, iv 2, iv (p1 &&& (1073741823 : Int32)), iv (((p1 &&& (1073741823 : Int32)) + (1 : Int32)) + (p2 &&& (255 : Int32))), .unset, .unset, .unset, .unset]) rfl k) ?_
    show own_E p e below _ s₁ (mkF m 24 #[iv p1, iv p2, iv p3, iv p4, iv p5, iv p6, iv 2, iv (p1 &&& (1073741823 : Int32)), iv (((p1 &&& (1073741823 : Int32)) + (1 : Int32)) + (p2 &&& (255 : Int32))), .unset, .unset, .unset, .unset] [])
    refine own_st (fun t k => XS.iload X0.here hx rfl (hb hby at_24) rfl k) ?_
    show own_E p e below _ s₁ (mkF m 26 #[iv p1, iv p2, iv p3, iv p4, iv p5, iv p6, iv 2, iv (p1 &&& (1073741823 : Int32)), iv (((p1 &&& (1073741823 : Int32)) + (1 : Int32)) + (p2 &&& (255 : Int32))), .unset, .unset, .unset, .unset] [.int (((p1 &&& (1073741823 : Int32)) + (1 : Int32)) + (p2 &&& (255 : Int32)))])
    refine own_st (fun t k => XS.iconst X0.here hx rfl (hb hby at_26) k) ?_
    show own_E p e below _ s₁ (mkF m 27 #[iv p1, iv p2, iv p3, iv p4, iv p5, iv p6, iv 2, iv (p1 &&& (1073741823 : Int32)), iv (((p1 &&& (1073741823 : Int32)) + (1 : Int32)) + (p2 &&& (255 : Int32))), .unset, .unset, .unset, .unset] [.int 1, .int (((p1 &&& (1073741823 : Int32)) + (1 : Int32)) + (p2 &&& (255 : Int32)))])
    refine own_st (fun t k => XS.iadd X0.here hx rfl (hb hby at_27) rfl k) ?_
    show own_E p e below _ s₁ (mkF m 28 #[iv p1, iv p2, iv p3, iv p4, iv p5, iv p6, iv 2, iv (p1 &&& (1073741823 : Int32)), iv (((p1 &&& (1073741823 : Int32)) + (1 : Int32)) + (p2 &&& (255 : Int32))), .unset, .unset, .unset, .unset] [.int ((((p1 &&& (1073741823 : Int32)) + (1 : Int32)) + (p2 &&& (255 : Int32))) + (1 : Int32))])
    refine own_st (fun t k => XS.iloadN X0.here hx rfl (hb hby at_28) rfl k) ?_
    show own_E p e below _ s₁ (mkF m 29 #[iv p1, iv p2, iv p3, iv p4, iv p5, iv p6, iv 2, iv (p1 &&& (1073741823 : Int32)), iv (((p1 &&& (1073741823 : Int32)) + (1 : Int32)) + (p2 &&& (255 : Int32))), .unset, .unset, .unset, .unset] [.int p2, .int ((((p1 &&& (1073741823 : Int32)) + (1 : Int32)) + (p2 &&& (255 : Int32))) + (1 : Int32))])
    refine own_st (fun t k => XS.bipush X0.here hx rfl (hb hby at_29) k) ?_
    show own_E p e below _ s₁ (mkF m 31 #[iv p1, iv p2, iv p3, iv p4, iv p5, iv p6, iv 2, iv (p1 &&& (1073741823 : Int32)), iv (((p1 &&& (1073741823 : Int32)) + (1 : Int32)) + (p2 &&& (255 : Int32))), .unset, .unset, .unset, .unset] [.int 8, .int p2, .int ((((p1 &&& (1073741823 : Int32)) + (1 : Int32)) + (p2 &&& (255 : Int32))) + (1 : Int32))])
    refine own_st (fun t k => XS.iushr X0.here hx rfl (hb hby at_31) rfl k) ?_
    show own_E p e below _ s₁ (mkF m 32 #[iv p1, iv p2, iv p3, iv p4, iv p5, iv p6, iv 2, iv (p1 &&& (1073741823 : Int32)), iv (((p1 &&& (1073741823 : Int32)) + (1 : Int32)) + (p2 &&& (255 : Int32))), .unset, .unset, .unset, .unset] [.int ((p2.toUInt32 >>> ((8 : Int32) &&& 31).toUInt32).toInt32), .int ((((p1 &&& (1073741823 : Int32)) + (1 : Int32)) + (p2 &&& (255 : Int32))) + (1 : Int32))])
    refine own_st (fun t k => XS.sipush X0.here hx rfl (hb hby at_32) k) ?_
    show own_E p e below _ s₁ (mkF m 35 #[iv p1, iv p2, iv p3, iv p4, iv p5, iv p6, iv 2, iv (p1 &&& (1073741823 : Int32)), iv (((p1 &&& (1073741823 : Int32)) + (1 : Int32)) + (p2 &&& (255 : Int32))), .unset, .unset, .unset, .unset] [.int 255, .int ((p2.toUInt32 >>> ((8 : Int32) &&& 31).toUInt32).toInt32), .int ((((p1 &&& (1073741823 : Int32)) + (1 : Int32)) + (p2 &&& (255 : Int32))) + (1 : Int32))])
    refine own_st (fun t k => XS.iand X0.here hx rfl (hb hby at_35) rfl k) ?_
    show own_E p e below _ s₁ (mkF m 36 #[iv p1, iv p2, iv p3, iv p4, iv p5, iv p6, iv 2, iv (p1 &&& (1073741823 : Int32)), iv (((p1 &&& (1073741823 : Int32)) + (1 : Int32)) + (p2 &&& (255 : Int32))), .unset, .unset, .unset, .unset] [.int (((p2.toUInt32 >>> ((8 : Int32) &&& 31).toUInt32).toInt32) &&& (255 : Int32)), .int ((((p1 &&& (1073741823 : Int32)) + (1 : Int32)) + (p2 &&& (255 : Int32))) + (1 : Int32))])
    refine own_st (fun t k => XS.iadd X0.here hx rfl (hb hby at_36) rfl k) ?_
    show own_E p e below _ s₁ (mkF m 37 #[iv p1, iv p2, iv p3, iv p4, iv p5, iv p6, iv 2, iv (p1 &&& (1073741823 : Int32)), iv (((p1 &&& (1073741823 : Int32)) + (1 : Int32)) + (p2 &&& (255 : Int32))), .unset, .unset, .unset, .unset] [.int (((((p1 &&& (1073741823 : Int32)) + (1 : Int32)) + (p2 &&& (255 : Int32))) + (1 : Int32)) + (((p2.toUInt32 >>> ((8 : Int32) &&& 31).toUInt32).toInt32) &&& (255 : Int32)))])
    refine own_st (fun t k => XS.istore X0.here hx rfl (hb hby at_37) rfl (l' := #[iv p1, iv p2, iv p3, iv p4, iv p5, iv p6, iv 2, iv (p1 &&& (1073741823 : Int32)), iv (((p1 &&& (1073741823 : Int32)) + (1 : Int32)) + (p2 &&& (255 : Int32))), iv (((((p1 &&& (1073741823 : Int32)) + (1 : Int32)) + (p2 &&& (255 : Int32))) + (1 : Int32)) + (((p2.toUInt32 >>> ((8 : Int32) &&& 31).toUInt32).toInt32) &&& (255 : Int32))), .unset, .unset, .unset]) rfl k) ?_
    show own_E p e below _ s₁ (mkF m 39 #[iv p1, iv p2, iv p3, iv p4, iv p5, iv p6, iv 2, iv (p1 &&& (1073741823 : Int32)), iv (((p1 &&& (1073741823 : Int32)) + (1 : Int32)) + (p2 &&& (255 : Int32))), iv (((((p1 &&& (1073741823 : Int32)) + (1 : Int32)) + (p2 &&& (255 : Int32))) + (1 : Int32)) + (((p2.toUInt32 >>> ((8 : Int32) &&& 31).toUInt32).toInt32) &&& (255 : Int32))), .unset, .unset, .unset] [])
    refine own_st (fun t k => XS.iload X0.here hx rfl (hb hby at_39) rfl k) ?_
    show own_E p e below _ s₁ (mkF m 41 #[iv p1, iv p2, iv p3, iv p4, iv p5, iv p6, iv 2, iv (p1 &&& (1073741823 : Int32)), iv (((p1 &&& (1073741823 : Int32)) + (1 : Int32)) + (p2 &&& (255 : Int32))), iv (((((p1 &&& (1073741823 : Int32)) + (1 : Int32)) + (p2 &&& (255 : Int32))) + (1 : Int32)) + (((p2.toUInt32 >>> ((8 : Int32) &&& 31).toUInt32).toInt32) &&& (255 : Int32))), .unset, .unset, .unset] [.int (p1 &&& (1073741823 : Int32))])
    refine own_st (fun t k => XS.iconst X0.here hx rfl (hb hby at_41) k) ?_
    show own_E p e below _ s₁ (mkF m 42 #[iv p1, iv p2, iv p3, iv p4, iv p5, iv p6, iv 2, iv (p1 &&& (1073741823 : Int32)), iv (((p1 &&& (1073741823 : Int32)) + (1 : Int32)) + (p2 &&& (255 : Int32))), iv (((((p1 &&& (1073741823 : Int32)) + (1 : Int32)) + (p2 &&& (255 : Int32))) + (1 : Int32)) + (((p2.toUInt32 >>> ((8 : Int32) &&& 31).toUInt32).toInt32) &&& (255 : Int32))), .unset, .unset, .unset] [.int 4, .int (p1 &&& (1073741823 : Int32))])
    refine own_st (fun t k => XS.isub X0.here hx rfl (hb hby at_42) rfl k) ?_
    show own_E p e below _ s₁ (mkF m 43 #[iv p1, iv p2, iv p3, iv p4, iv p5, iv p6, iv 2, iv (p1 &&& (1073741823 : Int32)), iv (((p1 &&& (1073741823 : Int32)) + (1 : Int32)) + (p2 &&& (255 : Int32))), iv (((((p1 &&& (1073741823 : Int32)) + (1 : Int32)) + (p2 &&& (255 : Int32))) + (1 : Int32)) + (((p2.toUInt32 >>> ((8 : Int32) &&& 31).toUInt32).toInt32) &&& (255 : Int32))), .unset, .unset, .unset] [.int ((p1 &&& (1073741823 : Int32)) - (4 : Int32))])
    refine own_st (fun t k => XS.iload X0.here hx rfl (hb hby at_43) rfl k) ?_
    show own_E p e below _ s₁ (mkF m 45 #[iv p1, iv p2, iv p3, iv p4, iv p5, iv p6, iv 2, iv (p1 &&& (1073741823 : Int32)), iv (((p1 &&& (1073741823 : Int32)) + (1 : Int32)) + (p2 &&& (255 : Int32))), iv (((((p1 &&& (1073741823 : Int32)) + (1 : Int32)) + (p2 &&& (255 : Int32))) + (1 : Int32)) + (((p2.toUInt32 >>> ((8 : Int32) &&& 31).toUInt32).toInt32) &&& (255 : Int32))), .unset, .unset, .unset] [.int p6, .int ((p1 &&& (1073741823 : Int32)) - (4 : Int32))])
    refine own_st (fun t k => XS.iconst X0.here hx rfl (hb hby at_45) k) ?_
    show own_E p e below _ s₁ (mkF m 46 #[iv p1, iv p2, iv p3, iv p4, iv p5, iv p6, iv 2, iv (p1 &&& (1073741823 : Int32)), iv (((p1 &&& (1073741823 : Int32)) + (1 : Int32)) + (p2 &&& (255 : Int32))), iv (((((p1 &&& (1073741823 : Int32)) + (1 : Int32)) + (p2 &&& (255 : Int32))) + (1 : Int32)) + (((p2.toUInt32 >>> ((8 : Int32) &&& 31).toUInt32).toInt32) &&& (255 : Int32))), .unset, .unset, .unset] [.int 2, .int p6, .int ((p1 &&& (1073741823 : Int32)) - (4 : Int32))])
    refine own_st (fun t k => XS.iushr X0.here hx rfl (hb hby at_46) rfl k) ?_
    show own_E p e below _ s₁ (mkF m 47 #[iv p1, iv p2, iv p3, iv p4, iv p5, iv p6, iv 2, iv (p1 &&& (1073741823 : Int32)), iv (((p1 &&& (1073741823 : Int32)) + (1 : Int32)) + (p2 &&& (255 : Int32))), iv (((((p1 &&& (1073741823 : Int32)) + (1 : Int32)) + (p2 &&& (255 : Int32))) + (1 : Int32)) + (((p2.toUInt32 >>> ((8 : Int32) &&& 31).toUInt32).toInt32) &&& (255 : Int32))), .unset, .unset, .unset] [.int ((p6.toUInt32 >>> ((2 : Int32) &&& 31).toUInt32).toInt32), .int ((p1 &&& (1073741823 : Int32)) - (4 : Int32))])
    refine own_st (fun t k => XS.sipush X0.here hx rfl (hb hby at_47) k) ?_
    show own_E p e below _ s₁ (mkF m 50 #[iv p1, iv p2, iv p3, iv p4, iv p5, iv p6, iv 2, iv (p1 &&& (1073741823 : Int32)), iv (((p1 &&& (1073741823 : Int32)) + (1 : Int32)) + (p2 &&& (255 : Int32))), iv (((((p1 &&& (1073741823 : Int32)) + (1 : Int32)) + (p2 &&& (255 : Int32))) + (1 : Int32)) + (((p2.toUInt32 >>> ((8 : Int32) &&& 31).toUInt32).toInt32) &&& (255 : Int32))), .unset, .unset, .unset] [.int 1023, .int ((p6.toUInt32 >>> ((2 : Int32) &&& 31).toUInt32).toInt32), .int ((p1 &&& (1073741823 : Int32)) - (4 : Int32))])
    refine own_st (fun t k => XS.iand X0.here hx rfl (hb hby at_50) rfl k) ?_
    show own_E p e below _ s₁ (mkF m 51 #[iv p1, iv p2, iv p3, iv p4, iv p5, iv p6, iv 2, iv (p1 &&& (1073741823 : Int32)), iv (((p1 &&& (1073741823 : Int32)) + (1 : Int32)) + (p2 &&& (255 : Int32))), iv (((((p1 &&& (1073741823 : Int32)) + (1 : Int32)) + (p2 &&& (255 : Int32))) + (1 : Int32)) + (((p2.toUInt32 >>> ((8 : Int32) &&& 31).toUInt32).toInt32) &&& (255 : Int32))), .unset, .unset, .unset] [.int (((p6.toUInt32 >>> ((2 : Int32) &&& 31).toUInt32).toInt32) &&& (1023 : Int32)), .int ((p1 &&& (1073741823 : Int32)) - (4 : Int32))])
    refine own_st (fun t k => XS.iadd X0.here hx rfl (hb hby at_51) rfl k) ?_
    show own_E p e below _ s₁ (mkF m 52 #[iv p1, iv p2, iv p3, iv p4, iv p5, iv p6, iv 2, iv (p1 &&& (1073741823 : Int32)), iv (((p1 &&& (1073741823 : Int32)) + (1 : Int32)) + (p2 &&& (255 : Int32))), iv (((((p1 &&& (1073741823 : Int32)) + (1 : Int32)) + (p2 &&& (255 : Int32))) + (1 : Int32)) + (((p2.toUInt32 >>> ((8 : Int32) &&& 31).toUInt32).toInt32) &&& (255 : Int32))), .unset, .unset, .unset] [.int (((p1 &&& (1073741823 : Int32)) - (4 : Int32)) + (((p6.toUInt32 >>> ((2 : Int32) &&& 31).toUInt32).toInt32) &&& (1023 : Int32)))])
    refine own_st (fun t k => XS.istore X0.here hx rfl (hb hby at_52) rfl (l' := #[iv p1, iv p2, iv p3, iv p4, iv p5, iv p6, iv 2, iv (p1 &&& (1073741823 : Int32)), iv (((p1 &&& (1073741823 : Int32)) + (1 : Int32)) + (p2 &&& (255 : Int32))), iv (((((p1 &&& (1073741823 : Int32)) + (1 : Int32)) + (p2 &&& (255 : Int32))) + (1 : Int32)) + (((p2.toUInt32 >>> ((8 : Int32) &&& 31).toUInt32).toInt32) &&& (255 : Int32))), iv (((p1 &&& (1073741823 : Int32)) - (4 : Int32)) + (((p6.toUInt32 >>> ((2 : Int32) &&& 31).toUInt32).toInt32) &&& (1023 : Int32))), .unset, .unset]) rfl k) ?_
    show own_E p e below _ s₁ (mkF m 54 #[iv p1, iv p2, iv p3, iv p4, iv p5, iv p6, iv 2, iv (p1 &&& (1073741823 : Int32)), iv (((p1 &&& (1073741823 : Int32)) + (1 : Int32)) + (p2 &&& (255 : Int32))), iv (((((p1 &&& (1073741823 : Int32)) + (1 : Int32)) + (p2 &&& (255 : Int32))) + (1 : Int32)) + (((p2.toUInt32 >>> ((8 : Int32) &&& 31).toUInt32).toInt32) &&& (255 : Int32))), iv (((p1 &&& (1073741823 : Int32)) - (4 : Int32)) + (((p6.toUInt32 >>> ((2 : Int32) &&& 31).toUInt32).toInt32) &&& (1023 : Int32))), .unset, .unset] [])
    obtain ⟨T87, h87, X87, e87, E87, A87, D87, -, st87⟩ := newO X0 hx hZ hown (own_w hw 1 rfl) (own_w hw 2 rfl) (own_w hw 3 rfl) e0 (g := (mkF m 54 #[iv p1, iv p2, iv p3, iv p4, iv p5, iv p6, iv 2, iv (p1 &&& (1073741823 : Int32)), iv (((p1 &&& (1073741823 : Int32)) + (1 : Int32)) + (p2 &&& (255 : Int32))), iv (((((p1 &&& (1073741823 : Int32)) + (1 : Int32)) + (p2 &&& (255 : Int32))) + (1 : Int32)) + (((p2.toUInt32 >>> ((8 : Int32) &&& 31).toUInt32).toInt32) &&& (255 : Int32))), iv (((p1 &&& (1073741823 : Int32)) - (4 : Int32)) + (((p6.toUInt32 >>> ((2 : Int32) &&& 31).toUInt32).toInt32) &&& (1023 : Int32))), .unset, .unset] [])) rfl (hb hby at_54) (by decide) (by decide)
    obtain ⟨b87, g87⟩ : ∃ z, z = h0.size := ⟨_, rfl⟩
    rw [← g87] at A87 D87 st87
    have g_b87 : n0 ≤ b87 := Nat.le_trans Z0 (Nat.le_of_eq g87.symm)
    have Z88 := Nat.le_trans Z0 E87.1
    have F_documents_b87 : Fld Z h87 b87 "com/example/lean_scorer/leanscorer/Postings" "documents" "[I" .null := D87 (Or.inl (own_w hw 12 rfl)) (ty := (.array .int)) (by decide)
    have F_frequencies_b87 : Fld Z h87 b87 "com/example/lean_scorer/leanscorer/Postings" "frequencies" "[I" .null := D87 (Or.inl (own_w hw 14 rfl)) (ty := (.array .int)) (by decide)
    have F_minLength_b87 : Fld Z h87 b87 "com/example/lean_scorer/leanscorer/Postings" "minLength" "I" (.int (0 : Int32)) := D87 (Or.inl (own_w hw 17 rfl)) (ty := .int) (by decide)
    have F_size_b87 : Fld Z h87 b87 "com/example/lean_scorer/leanscorer/Postings" "size" "I" (.int (0 : Int32)) := D87 (Or.inl (own_w hw 24 rfl)) (ty := .int) (by decide)
    have F_maxFrequency_b87 : Fld Z h87 b87 "com/example/lean_scorer/leanscorer/Postings" "maxFrequency" "I" (.int (0 : Int32)) := D87 (Or.inl (own_w hw 26 rfl)) (ty := .int) (by decide)
    refine own_st st87 ?_
    show own_E p e below _ T87 (mkF m 57 #[iv p1, iv p2, iv p3, iv p4, iv p5, iv p6, iv 2, iv (p1 &&& (1073741823 : Int32)), iv (((p1 &&& (1073741823 : Int32)) + (1 : Int32)) + (p2 &&& (255 : Int32))), iv (((((p1 &&& (1073741823 : Int32)) + (1 : Int32)) + (p2 &&& (255 : Int32))) + (1 : Int32)) + (((p2.toUInt32 >>> ((8 : Int32) &&& 31).toUInt32).toInt32) &&& (255 : Int32))), iv (((p1 &&& (1073741823 : Int32)) - (4 : Int32)) + (((p6.toUInt32 >>> ((2 : Int32) &&& 31).toUInt32).toInt32) &&& (1023 : Int32))), .unset, .unset] [.ref b87])
    refine own_st (fun t k => XS.dup X87.here hx rfl (hb hby at_57) rfl rfl k) ?_
    show own_E p e below _ T87 (mkF m 58 #[iv p1, iv p2, iv p3, iv p4, iv p5, iv p6, iv 2, iv (p1 &&& (1073741823 : Int32)), iv (((p1 &&& (1073741823 : Int32)) + (1 : Int32)) + (p2 &&& (255 : Int32))), iv (((((p1 &&& (1073741823 : Int32)) + (1 : Int32)) + (p2 &&& (255 : Int32))) + (1 : Int32)) + (((p2.toUInt32 >>> ((8 : Int32) &&& 31).toUInt32).toInt32) &&& (255 : Int32))), iv (((p1 &&& (1073741823 : Int32)) - (4 : Int32)) + (((p6.toUInt32 >>> ((2 : Int32) &&& 31).toUInt32).toInt32) &&& (1023 : Int32))), .unset, .unset] [.ref b87, .ref b87])
    obtain ⟨_, _, ⟨T89, L89, k89, n89⟩, -, X89, ⟨Lc89, hQ89, l89, y89, z89⟩, st89⟩ := X87.specialBack hx (y := own_y3) rfl hown (mvT hZ (own_w hw 4 rfl)) (mvT hZ (own_w hw 5 rfl)) (mvT hZ (own_w hw 6 rfl)) (by decide) (backOf (W := 1) (own_init l Z a0 hw [] b87 h87 n0 Z88 A87 F_documents_b87 F_frequencies_b87 F_minLength_b87 F_maxFrequency_b87 F_size_b87 g_b87) hZ (own_w hw 6 rfl) (own_w hw 3 rfl) (by decide) (by decide)) (g := (mkF m 58 #[iv p1, iv p2, iv p3, iv p4, iv p5, iv p6, iv 2, iv (p1 &&& (1073741823 : Int32)), iv (((p1 &&& (1073741823 : Int32)) + (1 : Int32)) + (p2 &&& (255 : Int32))), iv (((((p1 &&& (1073741823 : Int32)) + (1 : Int32)) + (p2 &&& (255 : Int32))) + (1 : Int32)) + (((p2.toUInt32 >>> ((8 : Int32) &&& 31).toUInt32).toInt32) &&& (255 : Int32))), iv (((p1 &&& (1073741823 : Int32)) - (4 : Int32)) + (((p6.toUInt32 >>> ((2 : Int32) &&& 31).toUInt32).toInt32) &&& (1023 : Int32))), .unset, .unset] [.ref b87, .ref b87])) rfl (by rw [hml]; rfl) (Steps.refl _) (a := b87) (argsL := []) (rest := [(.ref b87)]) (lenOf own_pd_0 rfl) rfl (by show 2 * 0 + _ ≤ _; exact Nat.le_of_eq rfl) (hb hby at_58) (fun _ _ => ⟨rfl, e87, (by decide : 1 + 2 ≤ _), (by decide : 5 + 2 ≤ _)⟩)
    dsimp only [Pt.U, Pt.locs, Pt.cells, Pt.slots] at X89 l89 y89 z89 st89 hQ89
    subst l89 y89 z89
    obtain ⟨b89_o0, b89_o1, k89_o2, k89_o3, rfl, Nq89, Kq89, sz89_0, sz89_1, nq89_0_1, P89_0, P89_1, P89_2, P89_3, P89_4, P89_5, P89_6, P89_7⟩ := hQ89
    have N89 := Fr.app (Fr.nil n0) Nq89
    have ne_b87_b89_o0 : b87 ≠ b89_o0 := Nat.ne_of_lt (Nat.lt_of_lt_of_le A87.lt sz89_0)
    have g_b89_o0 : n0 ≤ b89_o0 := Nat.le_trans Z88 sz89_0
    have ne_b87_b89_o1 : b87 ≠ b89_o1 := Nat.ne_of_lt (Nat.lt_of_lt_of_le A87.lt sz89_1)
    have g_b89_o1 : n0 ≤ b89_o1 := Nat.le_trans Z88 sz89_1
    have e89 : T89.heap = T89.heap := rfl
    have Z90 := Nat.le_trans Z88 Kq89.1
    refine own_tr st89 ?_
    show own_E p e below _ T89 (mkF m 61 #[iv p1, iv p2, iv p3, iv p4, iv p5, iv p6, iv 2, iv (p1 &&& (1073741823 : Int32)), iv (((p1 &&& (1073741823 : Int32)) + (1 : Int32)) + (p2 &&& (255 : Int32))), iv (((((p1 &&& (1073741823 : Int32)) + (1 : Int32)) + (p2 &&& (255 : Int32))) + (1 : Int32)) + (((p2.toUInt32 >>> ((8 : Int32) &&& 31).toUInt32).toInt32) &&& (255 : Int32))), iv (((p1 &&& (1073741823 : Int32)) - (4 : Int32)) + (((p6.toUInt32 >>> ((2 : Int32) &&& 31).toUInt32).toInt32) &&& (1023 : Int32))), .unset, .unset] [.ref b87])
    refine own_st (fun t k => XS.astore X89.here hx rfl (hb hby at_61) rfl rfl (l' := #[iv p1, iv p2, iv p3, iv p4, iv p5, iv p6, iv 2, iv (p1 &&& (1073741823 : Int32)), iv (((p1 &&& (1073741823 : Int32)) + (1 : Int32)) + (p2 &&& (255 : Int32))), iv (((((p1 &&& (1073741823 : Int32)) + (1 : Int32)) + (p2 &&& (255 : Int32))) + (1 : Int32)) + (((p2.toUInt32 >>> ((8 : Int32) &&& 31).toUInt32).toInt32) &&& (255 : Int32))), iv (((p1 &&& (1073741823 : Int32)) - (4 : Int32)) + (((p6.toUInt32 >>> ((2 : Int32) &&& 31).toUInt32).toInt32) &&& (1023 : Int32))), rv b87, .unset]) rfl k) ?_
    show own_E p e below _ T89 (mkF m 63 #[iv p1, iv p2, iv p3, iv p4, iv p5, iv p6, iv 2, iv (p1 &&& (1073741823 : Int32)), iv (((p1 &&& (1073741823 : Int32)) + (1 : Int32)) + (p2 &&& (255 : Int32))), iv (((((p1 &&& (1073741823 : Int32)) + (1 : Int32)) + (p2 &&& (255 : Int32))) + (1 : Int32)) + (((p2.toUInt32 >>> ((8 : Int32) &&& 31).toUInt32).toInt32) &&& (255 : Int32))), iv (((p1 &&& (1073741823 : Int32)) - (4 : Int32)) + (((p6.toUInt32 >>> ((2 : Int32) &&& 31).toUInt32).toInt32) &&& (1023 : Int32))), rv b87, .unset] [])
    refine own_st (fun t k => XS.iload X89.here hx rfl (hb hby at_63) rfl k) ?_
    show own_E p e below _ T89 (mkF m 65 #[iv p1, iv p2, iv p3, iv p4, iv p5, iv p6, iv 2, iv (p1 &&& (1073741823 : Int32)), iv (((p1 &&& (1073741823 : Int32)) + (1 : Int32)) + (p2 &&& (255 : Int32))), iv (((((p1 &&& (1073741823 : Int32)) + (1 : Int32)) + (p2 &&& (255 : Int32))) + (1 : Int32)) + (((p2.toUInt32 >>> ((8 : Int32) &&& 31).toUInt32).toInt32) &&& (255 : Int32))), iv (((p1 &&& (1073741823 : Int32)) - (4 : Int32)) + (((p6.toUInt32 >>> ((2 : Int32) &&& 31).toUInt32).toInt32) &&& (1023 : Int32))), rv b87, .unset] [.int 2])
    refine own_st (fun t k => XS.iconst X89.here hx rfl (hb hby at_65) k) ?_
    show own_E p e below _ T89 (mkF m 66 #[iv p1, iv p2, iv p3, iv p4, iv p5, iv p6, iv 2, iv (p1 &&& (1073741823 : Int32)), iv (((p1 &&& (1073741823 : Int32)) + (1 : Int32)) + (p2 &&& (255 : Int32))), iv (((((p1 &&& (1073741823 : Int32)) + (1 : Int32)) + (p2 &&& (255 : Int32))) + (1 : Int32)) + (((p2.toUInt32 >>> ((8 : Int32) &&& 31).toUInt32).toInt32) &&& (255 : Int32))), iv (((p1 &&& (1073741823 : Int32)) - (4 : Int32)) + (((p6.toUInt32 >>> ((2 : Int32) &&& 31).toUInt32).toInt32) &&& (1023 : Int32))), rv b87, .unset] [.int 1, .int 2])
    refine own_st (fun t k => XS.icmpNo X89.here hx rfl (hb hby at_66) rfl (by decide) k) ?_
    show own_E p e below _ T89 (mkF m 69 #[iv p1, iv p2, iv p3, iv p4, iv p5, iv p6, iv 2, iv (p1 &&& (1073741823 : Int32)), iv (((p1 &&& (1073741823 : Int32)) + (1 : Int32)) + (p2 &&& (255 : Int32))), iv (((((p1 &&& (1073741823 : Int32)) + (1 : Int32)) + (p2 &&& (255 : Int32))) + (1 : Int32)) + (((p2.toUInt32 >>> ((8 : Int32) &&& 31).toUInt32).toInt32) &&& (255 : Int32))), iv (((p1 &&& (1073741823 : Int32)) - (4 : Int32)) + (((p6.toUInt32 >>> ((2 : Int32) &&& 31).toUInt32).toInt32) &&& (1023 : Int32))), rv b87, .unset] [])
    refine own_st (fun t k => XS.aload X89.here hx rfl (hb hby at_69) rfl rfl k) ?_
    show own_E p e below _ T89 (mkF m 71 #[iv p1, iv p2, iv p3, iv p4, iv p5, iv p6, iv 2, iv (p1 &&& (1073741823 : Int32)), iv (((p1 &&& (1073741823 : Int32)) + (1 : Int32)) + (p2 &&& (255 : Int32))), iv (((((p1 &&& (1073741823 : Int32)) + (1 : Int32)) + (p2 &&& (255 : Int32))) + (1 : Int32)) + (((p2.toUInt32 >>> ((8 : Int32) &&& 31).toUInt32).toInt32) &&& (255 : Int32))), iv (((p1 &&& (1073741823 : Int32)) - (4 : Int32)) + (((p6.toUInt32 >>> ((2 : Int32) &&& 31).toUInt32).toInt32) &&& (1023 : Int32))), rv b87, .unset] [.ref b87])
    refine own_st (fun t k => XS.iload X89.here hx rfl (hb hby at_71) rfl k) ?_
    show own_E p e below _ T89 (mkF m 73 #[iv p1, iv p2, iv p3, iv p4, iv p5, iv p6, iv 2, iv (p1 &&& (1073741823 : Int32)), iv (((p1 &&& (1073741823 : Int32)) + (1 : Int32)) + (p2 &&& (255 : Int32))), iv (((((p1 &&& (1073741823 : Int32)) + (1 : Int32)) + (p2 &&& (255 : Int32))) + (1 : Int32)) + (((p2.toUInt32 >>> ((8 : Int32) &&& 31).toUInt32).toInt32) &&& (255 : Int32))), iv (((p1 &&& (1073741823 : Int32)) - (4 : Int32)) + (((p6.toUInt32 >>> ((2 : Int32) &&& 31).toUInt32).toInt32) &&& (1023 : Int32))), rv b87, .unset] [.int (p1 &&& (1073741823 : Int32)), .ref b87])
    refine own_st (fun t k => XS.iloadN X89.here hx rfl (hb hby at_73) rfl k) ?_
    show own_E p e below _ T89 (mkF m 74 #[iv p1, iv p2, iv p3, iv p4, iv p5, iv p6, iv 2, iv (p1 &&& (1073741823 : Int32)), iv (((p1 &&& (1073741823 : Int32)) + (1 : Int32)) + (p2 &&& (255 : Int32))), iv (((((p1 &&& (1073741823 : Int32)) + (1 : Int32)) + (p2 &&& (255 : Int32))) + (1 : Int32)) + (((p2.toUInt32 >>> ((8 : Int32) &&& 31).toUInt32).toInt32) &&& (255 : Int32))), iv (((p1 &&& (1073741823 : Int32)) - (4 : Int32)) + (((p6.toUInt32 >>> ((2 : Int32) &&& 31).toUInt32).toInt32) &&& (1023 : Int32))), rv b87, .unset] [.int p3, .int (p1 &&& (1073741823 : Int32)), .ref b87])
    refine own_st (fun t k => XS.iconst X89.here hx rfl (hb hby at_74) k) ?_
    show own_E p e below _ T89 (mkF m 75 #[iv p1, iv p2, iv p3, iv p4, iv p5, iv p6, iv 2, iv (p1 &&& (1073741823 : Int32)), iv (((p1 &&& (1073741823 : Int32)) + (1 : Int32)) + (p2 &&& (255 : Int32))), iv (((((p1 &&& (1073741823 : Int32)) + (1 : Int32)) + (p2 &&& (255 : Int32))) + (1 : Int32)) + (((p2.toUInt32 >>> ((8 : Int32) &&& 31).toUInt32).toInt32) &&& (255 : Int32))), iv (((p1 &&& (1073741823 : Int32)) - (4 : Int32)) + (((p6.toUInt32 >>> ((2 : Int32) &&& 31).toUInt32).toInt32) &&& (1023 : Int32))), rv b87, .unset] [.int 1, .int p3, .int (p1 &&& (1073741823 : Int32)), .ref b87])
    obtain ⟨cq91, kq91, q91a, q91b, q91c⟩ := isOf hZ e89 P89_0
    obtain ⟨_, _, ⟨T91, L91, k91, n91⟩, -, X91, ⟨Lc91, hQ91, l91, y91, z91⟩, st91⟩ := X89.virtualBack hx (y := own_y4) (z := own_y4) hown (mvT hZ (own_w hw 18 rfl)) (mvT hZ (own_w hw 19 rfl)) (notFace_of_selects (args := #[]) (mvT hZ (own_w hw 21 rfl))) (mvT hZ (own_w hw 21 rfl)) (mvT hZ (own_w hw 20 rfl)) (by decide) (backOf (W := 0) (own_add0 l Z a0 hw [] b87 b89_o0 b89_o1 k89_o2 k89_o3 (p1 &&& (1073741823 : Int32)) p3 (1 : Int32) (2147483647 : Int32) (0 : Int32) (0 : Int32) (0 : Int32) T89.heap n0 Z90 P89_0 P89_1 P89_2 P89_3 P89_4 P89_5 P89_6 P89_7 ne_b87_b89_o0 ne_b87_b89_o1 nq89_0_1 g_b87 g_b89_o0 g_b89_o1) hZ (own_w hw 22 rfl) (own_w hw 3 rfl) (by decide) (by decide)) q91a q91c (g := (mkF m 75 #[iv p1, iv p2, iv p3, iv p4, iv p5, iv p6, iv 2, iv (p1 &&& (1073741823 : Int32)), iv (((p1 &&& (1073741823 : Int32)) + (1 : Int32)) + (p2 &&& (255 : Int32))), iv (((((p1 &&& (1073741823 : Int32)) + (1 : Int32)) + (p2 &&& (255 : Int32))) + (1 : Int32)) + (((p2.toUInt32 >>> ((8 : Int32) &&& 31).toUInt32).toInt32) &&& (255 : Int32))), iv (((p1 &&& (1073741823 : Int32)) - (4 : Int32)) + (((p6.toUInt32 >>> ((2 : Int32) &&& 31).toUInt32).toInt32) &&& (1023 : Int32))), rv b87, .unset] [.int 1, .int p3, .int (p1 &&& (1073741823 : Int32)), .ref b87])) rfl (by rw [hml]; rfl) (Steps.refl _) (argsL := [(.int (p1 &&& (1073741823 : Int32))), (.int p3), (.int (1 : Int32))]) (rest := []) (lenOf own_pd_3 rfl) rfl (by show 2 * 0 + _ ≤ _; exact Nat.le_of_eq rfl) (hb hby at_75) (fun _ _ => ⟨rfl, e89, (by decide : 3 + 0 ≤ _), (by decide : 7 + 0 ≤ _)⟩)
    dsimp only [Pt.U, Pt.locs, Pt.cells, Pt.slots] at X91 l91 y91 z91 st91 hQ91
    subst l91 y91 z91
    obtain ⟨rfl, Nq91, Kq91, P91_0, P91_1, P91_2, P91_3, P91_4, P91_5, P91_6, P91_7⟩ := hQ91
    have N91 := Fr.app N89 Nq91
    have e91 : T91.heap = T91.heap := rfl
    have Z92 := Nat.le_trans Z90 Kq91.1
    refine own_tr st91 ?_
    show own_E p e below _ T91 (mkF m 78 #[iv p1, iv p2, iv p3, iv p4, iv p5, iv p6, iv 2, iv (p1 &&& (1073741823 : Int32)), iv (((p1 &&& (1073741823 : Int32)) + (1 : Int32)) + (p2 &&& (255 : Int32))), iv (((((p1 &&& (1073741823 : Int32)) + (1 : Int32)) + (p2 &&& (255 : Int32))) + (1 : Int32)) + (((p2.toUInt32 >>> ((8 : Int32) &&& 31).toUInt32).toInt32) &&& (255 : Int32))), iv (((p1 &&& (1073741823 : Int32)) - (4 : Int32)) + (((p6.toUInt32 >>> ((2 : Int32) &&& 31).toUInt32).toInt32) &&& (1023 : Int32))), rv b87, .unset] [])
    refine own_st (fun t k => XS.iload X91.here hx rfl (hb hby at_78) rfl k) ?_
    show own_E p e below _ T91 (mkF m 80 #[iv p1, iv p2, iv p3, iv p4, iv p5, iv p6, iv 2, iv (p1 &&& (1073741823 : Int32)), iv (((p1 &&& (1073741823 : Int32)) + (1 : Int32)) + (p2 &&& (255 : Int32))), iv (((((p1 &&& (1073741823 : Int32)) + (1 : Int32)) + (p2 &&& (255 : Int32))) + (1 : Int32)) + (((p2.toUInt32 >>> ((8 : Int32) &&& 31).toUInt32).toInt32) &&& (255 : Int32))), iv (((p1 &&& (1073741823 : Int32)) - (4 : Int32)) + (((p6.toUInt32 >>> ((2 : Int32) &&& 31).toUInt32).toInt32) &&& (1023 : Int32))), rv b87, .unset] [.int 2])
    refine own_st (fun t k => XS.iconst X91.here hx rfl (hb hby at_80) k) ?_
    show own_E p e below _ T91 (mkF m 81 #[iv p1, iv p2, iv p3, iv p4, iv p5, iv p6, iv 2, iv (p1 &&& (1073741823 : Int32)), iv (((p1 &&& (1073741823 : Int32)) + (1 : Int32)) + (p2 &&& (255 : Int32))), iv (((((p1 &&& (1073741823 : Int32)) + (1 : Int32)) + (p2 &&& (255 : Int32))) + (1 : Int32)) + (((p2.toUInt32 >>> ((8 : Int32) &&& 31).toUInt32).toInt32) &&& (255 : Int32))), iv (((p1 &&& (1073741823 : Int32)) - (4 : Int32)) + (((p6.toUInt32 >>> ((2 : Int32) &&& 31).toUInt32).toInt32) &&& (1023 : Int32))), rv b87, .unset] [.int 2, .int 2])
    refine own_st (fun t k => XS.icmpNo X91.here hx rfl (hb hby at_81) rfl (by decide) k) ?_
    show own_E p e below _ T91 (mkF m 84 #[iv p1, iv p2, iv p3, iv p4, iv p5, iv p6, iv 2, iv (p1 &&& (1073741823 : Int32)), iv (((p1 &&& (1073741823 : Int32)) + (1 : Int32)) + (p2 &&& (255 : Int32))), iv (((((p1 &&& (1073741823 : Int32)) + (1 : Int32)) + (p2 &&& (255 : Int32))) + (1 : Int32)) + (((p2.toUInt32 >>> ((8 : Int32) &&& 31).toUInt32).toInt32) &&& (255 : Int32))), iv (((p1 &&& (1073741823 : Int32)) - (4 : Int32)) + (((p6.toUInt32 >>> ((2 : Int32) &&& 31).toUInt32).toInt32) &&& (1023 : Int32))), rv b87, .unset] [])
    refine own_st (fun t k => XS.aload X91.here hx rfl (hb hby at_84) rfl rfl k) ?_
    show own_E p e below _ T91 (mkF m 86 #[iv p1, iv p2, iv p3, iv p4, iv p5, iv p6, iv 2, iv (p1 &&& (1073741823 : Int32)), iv (((p1 &&& (1073741823 : Int32)) + (1 : Int32)) + (p2 &&& (255 : Int32))), iv (((((p1 &&& (1073741823 : Int32)) + (1 : Int32)) + (p2 &&& (255 : Int32))) + (1 : Int32)) + (((p2.toUInt32 >>> ((8 : Int32) &&& 31).toUInt32).toInt32) &&& (255 : Int32))), iv (((p1 &&& (1073741823 : Int32)) - (4 : Int32)) + (((p6.toUInt32 >>> ((2 : Int32) &&& 31).toUInt32).toInt32) &&& (1023 : Int32))), rv b87, .unset] [.ref b87])
    refine own_st (fun t k => XS.iload X91.here hx rfl (hb hby at_86) rfl k) ?_
    show own_E p e below _ T91 (mkF m 88 #[iv p1, iv p2, iv p3, iv p4, iv p5, iv p6, iv 2, iv (p1 &&& (1073741823 : Int32)), iv (((p1 &&& (1073741823 : Int32)) + (1 : Int32)) + (p2 &&& (255 : Int32))), iv (((((p1 &&& (1073741823 : Int32)) + (1 : Int32)) + (p2 &&& (255 : Int32))) + (1 : Int32)) + (((p2.toUInt32 >>> ((8 : Int32) &&& 31).toUInt32).toInt32) &&& (255 : Int32))), iv (((p1 &&& (1073741823 : Int32)) - (4 : Int32)) + (((p6.toUInt32 >>> ((2 : Int32) &&& 31).toUInt32).toInt32) &&& (1023 : Int32))), rv b87, .unset] [.int (((p1 &&& (1073741823 : Int32)) + (1 : Int32)) + (p2 &&& (255 : Int32))), .ref b87])
    refine own_st (fun t k => XS.iloadN X91.here hx rfl (hb hby at_88) rfl k) ?_
    show own_E p e below _ T91 (mkF m 89 #[iv p1, iv p2, iv p3, iv p4, iv p5, iv p6, iv 2, iv (p1 &&& (1073741823 : Int32)), iv (((p1 &&& (1073741823 : Int32)) + (1 : Int32)) + (p2 &&& (255 : Int32))), iv (((((p1 &&& (1073741823 : Int32)) + (1 : Int32)) + (p2 &&& (255 : Int32))) + (1 : Int32)) + (((p2.toUInt32 >>> ((8 : Int32) &&& 31).toUInt32).toInt32) &&& (255 : Int32))), iv (((p1 &&& (1073741823 : Int32)) - (4 : Int32)) + (((p6.toUInt32 >>> ((2 : Int32) &&& 31).toUInt32).toInt32) &&& (1023 : Int32))), rv b87, .unset] [.int p4, .int (((p1 &&& (1073741823 : Int32)) + (1 : Int32)) + (p2 &&& (255 : Int32))), .ref b87])
    refine own_st (fun t k => XS.iconst X91.here hx rfl (hb hby at_89) k) ?_
    show own_E p e below _ T91 (mkF m 90 #[iv p1, iv p2, iv p3, iv p4, iv p5, iv p6, iv 2, iv (p1 &&& (1073741823 : Int32)), iv (((p1 &&& (1073741823 : Int32)) + (1 : Int32)) + (p2 &&& (255 : Int32))), iv (((((p1 &&& (1073741823 : Int32)) + (1 : Int32)) + (p2 &&& (255 : Int32))) + (1 : Int32)) + (((p2.toUInt32 >>> ((8 : Int32) &&& 31).toUInt32).toInt32) &&& (255 : Int32))), iv (((p1 &&& (1073741823 : Int32)) - (4 : Int32)) + (((p6.toUInt32 >>> ((2 : Int32) &&& 31).toUInt32).toInt32) &&& (1023 : Int32))), rv b87, .unset] [.int 1, .int p4, .int (((p1 &&& (1073741823 : Int32)) + (1 : Int32)) + (p2 &&& (255 : Int32))), .ref b87])
    obtain ⟨cq93, kq93, q93a, q93b, q93c⟩ := isOf hZ e91 P91_0
    obtain ⟨_, _, ⟨T93, L93, k93, n93⟩, -, X93, ⟨Lc93, hQ93, l93, y93, z93⟩, st93⟩ := X91.virtualBack hx (y := own_y4) (z := own_y4) hown (mvT hZ (own_w hw 18 rfl)) (mvT hZ (own_w hw 19 rfl)) (notFace_of_selects (args := #[]) (mvT hZ (own_w hw 21 rfl))) (mvT hZ (own_w hw 21 rfl)) (mvT hZ (own_w hw 20 rfl)) (by decide) (backOf (W := 0) (own_add1 l Z a0 hw [] b87 b89_o0 b89_o1 k89_o2 k89_o3 (((p1 &&& (1073741823 : Int32)) + (1 : Int32)) + (p2 &&& (255 : Int32))) p4 (1 : Int32) (own_min (2147483647 : Int32) (1 : Int32)) (own_max (0 : Int32) p3) (p1 &&& (1073741823 : Int32)) p3 T91.heap n0 Z92 P91_0 P91_1 P91_2 P91_3 P91_4 P91_5 P91_6 P91_7 ne_b87_b89_o0 ne_b87_b89_o1 nq89_0_1 g_b87) hZ (own_w hw 22 rfl) (own_w hw 3 rfl) (by decide) (by decide)) q93a q93c (g := (mkF m 90 #[iv p1, iv p2, iv p3, iv p4, iv p5, iv p6, iv 2, iv (p1 &&& (1073741823 : Int32)), iv (((p1 &&& (1073741823 : Int32)) + (1 : Int32)) + (p2 &&& (255 : Int32))), iv (((((p1 &&& (1073741823 : Int32)) + (1 : Int32)) + (p2 &&& (255 : Int32))) + (1 : Int32)) + (((p2.toUInt32 >>> ((8 : Int32) &&& 31).toUInt32).toInt32) &&& (255 : Int32))), iv (((p1 &&& (1073741823 : Int32)) - (4 : Int32)) + (((p6.toUInt32 >>> ((2 : Int32) &&& 31).toUInt32).toInt32) &&& (1023 : Int32))), rv b87, .unset] [.int 1, .int p4, .int (((p1 &&& (1073741823 : Int32)) + (1 : Int32)) + (p2 &&& (255 : Int32))), .ref b87])) rfl (by rw [hml]; rfl) (Steps.refl _) (argsL := [(.int (((p1 &&& (1073741823 : Int32)) + (1 : Int32)) + (p2 &&& (255 : Int32)))), (.int p4), (.int (1 : Int32))]) (rest := []) (lenOf own_pd_3 rfl) rfl (by show 2 * 0 + _ ≤ _; exact Nat.le_of_eq rfl) (hb hby at_90) (fun _ _ => ⟨rfl, e91, (by decide : 3 + 2 ≤ _), (by decide : 7 + 4 ≤ _)⟩)
    dsimp only [Pt.U, Pt.locs, Pt.cells, Pt.slots] at X93 l93 y93 z93 st93 hQ93
    subst l93 y93 z93
    obtain ⟨b93_o0, b93_o1, k93_o2, k93_o3, rfl, Nq93, Kq93, sz93_0, sz93_1, nq93_0_1, P93_0, P93_1, P93_2, P93_3, P93_4, P93_5, P93_6, P93_7⟩ := hQ93
    have N93 := Fr.app N91 Nq93
    have ne_b87_b93_o0 : b87 ≠ b93_o0 := Nat.ne_of_lt (Nat.lt_of_lt_of_le P91_0.lt sz93_0)
    have ne_b89_o0_b93_o0 : b89_o0 ≠ b93_o0 := Nat.ne_of_lt (Nat.lt_of_lt_of_le P91_6.lt sz93_0)
    have ne_b89_o1_b93_o0 : b89_o1 ≠ b93_o0 := Nat.ne_of_lt (Nat.lt_of_lt_of_le P91_7.lt sz93_0)
    have g_b93_o0 : n0 ≤ b93_o0 := Nat.le_trans Z92 sz93_0
    have ne_b87_b93_o1 : b87 ≠ b93_o1 := Nat.ne_of_lt (Nat.lt_of_lt_of_le P91_0.lt sz93_1)
    have ne_b89_o0_b93_o1 : b89_o0 ≠ b93_o1 := Nat.ne_of_lt (Nat.lt_of_lt_of_le P91_6.lt sz93_1)
    have ne_b89_o1_b93_o1 : b89_o1 ≠ b93_o1 := Nat.ne_of_lt (Nat.lt_of_lt_of_le P91_7.lt sz93_1)
    have g_b93_o1 : n0 ≤ b93_o1 := Nat.le_trans Z92 sz93_1
    have e93 : T93.heap = T93.heap := rfl
    have Z94 := Nat.le_trans Z92 Kq93.1
    refine own_tr st93 ?_
    show own_E p e below _ T93 (mkF m 93 #[iv p1, iv p2, iv p3, iv p4, iv p5, iv p6, iv 2, iv (p1 &&& (1073741823 : Int32)), iv (((p1 &&& (1073741823 : Int32)) + (1 : Int32)) + (p2 &&& (255 : Int32))), iv (((((p1 &&& (1073741823 : Int32)) + (1 : Int32)) + (p2 &&& (255 : Int32))) + (1 : Int32)) + (((p2.toUInt32 >>> ((8 : Int32) &&& 31).toUInt32).toInt32) &&& (255 : Int32))), iv (((p1 &&& (1073741823 : Int32)) - (4 : Int32)) + (((p6.toUInt32 >>> ((2 : Int32) &&& 31).toUInt32).toInt32) &&& (1023 : Int32))), rv b87, .unset] [])
    refine own_st (fun t k => XS.iload X93.here hx rfl (hb hby at_93) rfl k) ?_
    show own_E p e below _ T93 (mkF m 95 #[iv p1, iv p2, iv p3, iv p4, iv p5, iv p6, iv 2, iv (p1 &&& (1073741823 : Int32)), iv (((p1 &&& (1073741823 : Int32)) + (1 : Int32)) + (p2 &&& (255 : Int32))), iv (((((p1 &&& (1073741823 : Int32)) + (1 : Int32)) + (p2 &&& (255 : Int32))) + (1 : Int32)) + (((p2.toUInt32 >>> ((8 : Int32) &&& 31).toUInt32).toInt32) &&& (255 : Int32))), iv (((p1 &&& (1073741823 : Int32)) - (4 : Int32)) + (((p6.toUInt32 >>> ((2 : Int32) &&& 31).toUInt32).toInt32) &&& (1023 : Int32))), rv b87, .unset] [.int 2])
    refine own_st (fun t k => XS.iconst X93.here hx rfl (hb hby at_95) k) ?_
    show own_E p e below _ T93 (mkF m 96 #[iv p1, iv p2, iv p3, iv p4, iv p5, iv p6, iv 2, iv (p1 &&& (1073741823 : Int32)), iv (((p1 &&& (1073741823 : Int32)) + (1 : Int32)) + (p2 &&& (255 : Int32))), iv (((((p1 &&& (1073741823 : Int32)) + (1 : Int32)) + (p2 &&& (255 : Int32))) + (1 : Int32)) + (((p2.toUInt32 >>> ((8 : Int32) &&& 31).toUInt32).toInt32) &&& (255 : Int32))), iv (((p1 &&& (1073741823 : Int32)) - (4 : Int32)) + (((p6.toUInt32 >>> ((2 : Int32) &&& 31).toUInt32).toInt32) &&& (1023 : Int32))), rv b87, .unset] [.int 3, .int 2])
    refine own_st (fun t k => XS.icmpYes X93.here hx rfl (pc0 := 96) (pc' := 109) rfl (hb hby at_96) rfl (by decide) (by decide) (by decide) k) ?_
    show own_E p e below _ T93 (mkF m 109 #[iv p1, iv p2, iv p3, iv p4, iv p5, iv p6, iv 2, iv (p1 &&& (1073741823 : Int32)), iv (((p1 &&& (1073741823 : Int32)) + (1 : Int32)) + (p2 &&& (255 : Int32))), iv (((((p1 &&& (1073741823 : Int32)) + (1 : Int32)) + (p2 &&& (255 : Int32))) + (1 : Int32)) + (((p2.toUInt32 >>> ((8 : Int32) &&& 31).toUInt32).toInt32) &&& (255 : Int32))), iv (((p1 &&& (1073741823 : Int32)) - (4 : Int32)) + (((p6.toUInt32 >>> ((2 : Int32) &&& 31).toUInt32).toInt32) &&& (1023 : Int32))), rv b87, .unset] [])
    refine own_st (fun t k => XS.iconst X93.here hx rfl (hb hby at_109) k) ?_
    show own_E p e below _ T93 (mkF m 110 #[iv p1, iv p2, iv p3, iv p4, iv p5, iv p6, iv 2, iv (p1 &&& (1073741823 : Int32)), iv (((p1 &&& (1073741823 : Int32)) + (1 : Int32)) + (p2 &&& (255 : Int32))), iv (((((p1 &&& (1073741823 : Int32)) + (1 : Int32)) + (p2 &&& (255 : Int32))) + (1 : Int32)) + (((p2.toUInt32 >>> ((8 : Int32) &&& 31).toUInt32).toInt32) &&& (255 : Int32))), iv (((p1 &&& (1073741823 : Int32)) - (4 : Int32)) + (((p6.toUInt32 >>> ((2 : Int32) &&& 31).toUInt32).toInt32) &&& (1023 : Int32))), rv b87, .unset] [.int 0])
    refine own_st (fun t k => XS.istore X93.here hx rfl (hb hby at_110) rfl (l' := #[iv p1, iv p2, iv p3, iv p4, iv p5, iv p6, iv 2, iv (p1 &&& (1073741823 : Int32)), iv (((p1 &&& (1073741823 : Int32)) + (1 : Int32)) + (p2 &&& (255 : Int32))), iv (((((p1 &&& (1073741823 : Int32)) + (1 : Int32)) + (p2 &&& (255 : Int32))) + (1 : Int32)) + (((p2.toUInt32 >>> ((8 : Int32) &&& 31).toUInt32).toInt32) &&& (255 : Int32))), iv (((p1 &&& (1073741823 : Int32)) - (4 : Int32)) + (((p6.toUInt32 >>> ((2 : Int32) &&& 31).toUInt32).toInt32) &&& (1023 : Int32))), rv b87, iv 0]) rfl k) ?_
    show own_E p e below _ T93 (mkF m 112 #[iv p1, iv p2, iv p3, iv p4, iv p5, iv p6, iv 2, iv (p1 &&& (1073741823 : Int32)), iv (((p1 &&& (1073741823 : Int32)) + (1 : Int32)) + (p2 &&& (255 : Int32))), iv (((((p1 &&& (1073741823 : Int32)) + (1 : Int32)) + (p2 &&& (255 : Int32))) + (1 : Int32)) + (((p2.toUInt32 >>> ((8 : Int32) &&& 31).toUInt32).toInt32) &&& (255 : Int32))), iv (((p1 &&& (1073741823 : Int32)) - (4 : Int32)) + (((p6.toUInt32 >>> ((2 : Int32) &&& 31).toUInt32).toInt32) &&& (1023 : Int32))), rv b87, iv 0] [])
    refine own_st (fun t k => XS.iload X93.here hx rfl (hb hby at_112) rfl k) ?_
    show own_E p e below _ T93 (mkF m 114 #[iv p1, iv p2, iv p3, iv p4, iv p5, iv p6, iv 2, iv (p1 &&& (1073741823 : Int32)), iv (((p1 &&& (1073741823 : Int32)) + (1 : Int32)) + (p2 &&& (255 : Int32))), iv (((((p1 &&& (1073741823 : Int32)) + (1 : Int32)) + (p2 &&& (255 : Int32))) + (1 : Int32)) + (((p2.toUInt32 >>> ((8 : Int32) &&& 31).toUInt32).toInt32) &&& (255 : Int32))), iv (((p1 &&& (1073741823 : Int32)) - (4 : Int32)) + (((p6.toUInt32 >>> ((2 : Int32) &&& 31).toUInt32).toInt32) &&& (1023 : Int32))), rv b87, iv 0] [.int 2])
    refine own_st (fun t k => XS.iconst X93.here hx rfl (hb hby at_114) k) ?_
    show own_E p e below _ T93 (mkF m 115 #[iv p1, iv p2, iv p3, iv p4, iv p5, iv p6, iv 2, iv (p1 &&& (1073741823 : Int32)), iv (((p1 &&& (1073741823 : Int32)) + (1 : Int32)) + (p2 &&& (255 : Int32))), iv (((((p1 &&& (1073741823 : Int32)) + (1 : Int32)) + (p2 &&& (255 : Int32))) + (1 : Int32)) + (((p2.toUInt32 >>> ((8 : Int32) &&& 31).toUInt32).toInt32) &&& (255 : Int32))), iv (((p1 &&& (1073741823 : Int32)) - (4 : Int32)) + (((p6.toUInt32 >>> ((2 : Int32) &&& 31).toUInt32).toInt32) &&& (1023 : Int32))), rv b87, iv 0] [.int 1, .int 2])
    refine own_st (fun t k => XS.icmpNo X93.here hx rfl (hb hby at_115) rfl (by decide) k) ?_
    show own_E p e below _ T93 (mkF m 118 #[iv p1, iv p2, iv p3, iv p4, iv p5, iv p6, iv 2, iv (p1 &&& (1073741823 : Int32)), iv (((p1 &&& (1073741823 : Int32)) + (1 : Int32)) + (p2 &&& (255 : Int32))), iv (((((p1 &&& (1073741823 : Int32)) + (1 : Int32)) + (p2 &&& (255 : Int32))) + (1 : Int32)) + (((p2.toUInt32 >>> ((8 : Int32) &&& 31).toUInt32).toInt32) &&& (255 : Int32))), iv (((p1 &&& (1073741823 : Int32)) - (4 : Int32)) + (((p6.toUInt32 >>> ((2 : Int32) &&& 31).toUInt32).toInt32) &&& (1023 : Int32))), rv b87, iv 0] [])
    refine own_st (fun t k => XS.iload X93.here hx rfl (hb hby at_118) rfl k) ?_
    show own_E p e below _ T93 (mkF m 120 #[iv p1, iv p2, iv p3, iv p4, iv p5, iv p6, iv 2, iv (p1 &&& (1073741823 : Int32)), iv (((p1 &&& (1073741823 : Int32)) + (1 : Int32)) + (p2 &&& (255 : Int32))), iv (((((p1 &&& (1073741823 : Int32)) + (1 : Int32)) + (p2 &&& (255 : Int32))) + (1 : Int32)) + (((p2.toUInt32 >>> ((8 : Int32) &&& 31).toUInt32).toInt32) &&& (255 : Int32))), iv (((p1 &&& (1073741823 : Int32)) - (4 : Int32)) + (((p6.toUInt32 >>> ((2 : Int32) &&& 31).toUInt32).toInt32) &&& (1023 : Int32))), rv b87, iv 0] [.int (((p1 &&& (1073741823 : Int32)) - (4 : Int32)) + (((p6.toUInt32 >>> ((2 : Int32) &&& 31).toUInt32).toInt32) &&& (1023 : Int32)))])
    refine own_st (fun t k => XS.iload X93.here hx rfl (hb hby at_120) rfl k) ?_
    show own_E p e below _ T93 (mkF m 122 #[iv p1, iv p2, iv p3, iv p4, iv p5, iv p6, iv 2, iv (p1 &&& (1073741823 : Int32)), iv (((p1 &&& (1073741823 : Int32)) + (1 : Int32)) + (p2 &&& (255 : Int32))), iv (((((p1 &&& (1073741823 : Int32)) + (1 : Int32)) + (p2 &&& (255 : Int32))) + (1 : Int32)) + (((p2.toUInt32 >>> ((8 : Int32) &&& 31).toUInt32).toInt32) &&& (255 : Int32))), iv (((p1 &&& (1073741823 : Int32)) - (4 : Int32)) + (((p6.toUInt32 >>> ((2 : Int32) &&& 31).toUInt32).toInt32) &&& (1023 : Int32))), rv b87, iv 0] [.int (p1 &&& (1073741823 : Int32)), .int (((p1 &&& (1073741823 : Int32)) - (4 : Int32)) + (((p6.toUInt32 >>> ((2 : Int32) &&& 31).toUInt32).toInt32) &&& (1023 : Int32)))])
    by_cases hc95 : (((p1 &&& (1073741823 : Int32)) - (4 : Int32)) + (((p6.toUInt32 >>> ((2 : Int32) &&& 31).toUInt32).toInt32) &&& (1023 : Int32))) = (p1 &&& (1073741823 : Int32))
    · refine own_st (fun t k => XS.icmpNo X93.here hx rfl (hb hby at_122) rfl (teq hc95).2 k) ?_
      show own_E p e below _ T93 (mkF m 125 #[iv p1, iv p2, iv p3, iv p4, iv p5, iv p6, iv 2, iv (p1 &&& (1073741823 : Int32)), iv (((p1 &&& (1073741823 : Int32)) + (1 : Int32)) + (p2 &&& (255 : Int32))), iv (((((p1 &&& (1073741823 : Int32)) + (1 : Int32)) + (p2 &&& (255 : Int32))) + (1 : Int32)) + (((p2.toUInt32 >>> ((8 : Int32) &&& 31).toUInt32).toInt32) &&& (255 : Int32))), iv (((p1 &&& (1073741823 : Int32)) - (4 : Int32)) + (((p6.toUInt32 >>> ((2 : Int32) &&& 31).toUInt32).toInt32) &&& (1023 : Int32))), rv b87, iv 0] [])
      refine own_st (fun t k => XS.iloadN X93.here hx rfl (hb hby at_125) rfl k) ?_
      show own_E p e below _ T93 (mkF m 126 #[iv p1, iv p2, iv p3, iv p4, iv p5, iv p6, iv 2, iv (p1 &&& (1073741823 : Int32)), iv (((p1 &&& (1073741823 : Int32)) + (1 : Int32)) + (p2 &&& (255 : Int32))), iv (((((p1 &&& (1073741823 : Int32)) + (1 : Int32)) + (p2 &&& (255 : Int32))) + (1 : Int32)) + (((p2.toUInt32 >>> ((8 : Int32) &&& 31).toUInt32).toInt32) &&& (255 : Int32))), iv (((p1 &&& (1073741823 : Int32)) - (4 : Int32)) + (((p6.toUInt32 >>> ((2 : Int32) &&& 31).toUInt32).toInt32) &&& (1023 : Int32))), rv b87, iv 0] [.int p3])
      refine own_st (fun t k => XS.istore X93.here hx rfl (hb hby at_126) rfl (l' := #[iv p1, iv p2, iv p3, iv p4, iv p5, iv p6, iv 2, iv (p1 &&& (1073741823 : Int32)), iv (((p1 &&& (1073741823 : Int32)) + (1 : Int32)) + (p2 &&& (255 : Int32))), iv (((((p1 &&& (1073741823 : Int32)) + (1 : Int32)) + (p2 &&& (255 : Int32))) + (1 : Int32)) + (((p2.toUInt32 >>> ((8 : Int32) &&& 31).toUInt32).toInt32) &&& (255 : Int32))), iv (((p1 &&& (1073741823 : Int32)) - (4 : Int32)) + (((p6.toUInt32 >>> ((2 : Int32) &&& 31).toUInt32).toInt32) &&& (1023 : Int32))), rv b87, iv p3]) rfl k) ?_
      show own_E p e below _ T93 (mkF m 128 #[iv p1, iv p2, iv p3, iv p4, iv p5, iv p6, iv 2, iv (p1 &&& (1073741823 : Int32)), iv (((p1 &&& (1073741823 : Int32)) + (1 : Int32)) + (p2 &&& (255 : Int32))), iv (((((p1 &&& (1073741823 : Int32)) + (1 : Int32)) + (p2 &&& (255 : Int32))) + (1 : Int32)) + (((p2.toUInt32 >>> ((8 : Int32) &&& 31).toUInt32).toInt32) &&& (255 : Int32))), iv (((p1 &&& (1073741823 : Int32)) - (4 : Int32)) + (((p6.toUInt32 >>> ((2 : Int32) &&& 31).toUInt32).toInt32) &&& (1023 : Int32))), rv b87, iv p3] [])
      refine own_st (fun t k => XS.iload X93.here hx rfl (hb hby at_128) rfl k) ?_
      show own_E p e below _ T93 (mkF m 130 #[iv p1, iv p2, iv p3, iv p4, iv p5, iv p6, iv 2, iv (p1 &&& (1073741823 : Int32)), iv (((p1 &&& (1073741823 : Int32)) + (1 : Int32)) + (p2 &&& (255 : Int32))), iv (((((p1 &&& (1073741823 : Int32)) + (1 : Int32)) + (p2 &&& (255 : Int32))) + (1 : Int32)) + (((p2.toUInt32 >>> ((8 : Int32) &&& 31).toUInt32).toInt32) &&& (255 : Int32))), iv (((p1 &&& (1073741823 : Int32)) - (4 : Int32)) + (((p6.toUInt32 >>> ((2 : Int32) &&& 31).toUInt32).toInt32) &&& (1023 : Int32))), rv b87, iv p3] [.int 2])
      refine own_st (fun t k => XS.iconst X93.here hx rfl (hb hby at_130) k) ?_
      show own_E p e below _ T93 (mkF m 131 #[iv p1, iv p2, iv p3, iv p4, iv p5, iv p6, iv 2, iv (p1 &&& (1073741823 : Int32)), iv (((p1 &&& (1073741823 : Int32)) + (1 : Int32)) + (p2 &&& (255 : Int32))), iv (((((p1 &&& (1073741823 : Int32)) + (1 : Int32)) + (p2 &&& (255 : Int32))) + (1 : Int32)) + (((p2.toUInt32 >>> ((8 : Int32) &&& 31).toUInt32).toInt32) &&& (255 : Int32))), iv (((p1 &&& (1073741823 : Int32)) - (4 : Int32)) + (((p6.toUInt32 >>> ((2 : Int32) &&& 31).toUInt32).toInt32) &&& (1023 : Int32))), rv b87, iv p3] [.int 2, .int 2])
      refine own_st (fun t k => XS.icmpNo X93.here hx rfl (hb hby at_131) rfl (by decide) k) ?_
      show own_E p e below _ T93 (mkF m 134 #[iv p1, iv p2, iv p3, iv p4, iv p5, iv p6, iv 2, iv (p1 &&& (1073741823 : Int32)), iv (((p1 &&& (1073741823 : Int32)) + (1 : Int32)) + (p2 &&& (255 : Int32))), iv (((((p1 &&& (1073741823 : Int32)) + (1 : Int32)) + (p2 &&& (255 : Int32))) + (1 : Int32)) + (((p2.toUInt32 >>> ((8 : Int32) &&& 31).toUInt32).toInt32) &&& (255 : Int32))), iv (((p1 &&& (1073741823 : Int32)) - (4 : Int32)) + (((p6.toUInt32 >>> ((2 : Int32) &&& 31).toUInt32).toInt32) &&& (1023 : Int32))), rv b87, iv p3] [])
      refine own_st (fun t k => XS.iload X93.here hx rfl (hb hby at_134) rfl k) ?_
      show own_E p e below _ T93 (mkF m 136 #[iv p1, iv p2, iv p3, iv p4, iv p5, iv p6, iv 2, iv (p1 &&& (1073741823 : Int32)), iv (((p1 &&& (1073741823 : Int32)) + (1 : Int32)) + (p2 &&& (255 : Int32))), iv (((((p1 &&& (1073741823 : Int32)) + (1 : Int32)) + (p2 &&& (255 : Int32))) + (1 : Int32)) + (((p2.toUInt32 >>> ((8 : Int32) &&& 31).toUInt32).toInt32) &&& (255 : Int32))), iv (((p1 &&& (1073741823 : Int32)) - (4 : Int32)) + (((p6.toUInt32 >>> ((2 : Int32) &&& 31).toUInt32).toInt32) &&& (1023 : Int32))), rv b87, iv p3] [.int (((p1 &&& (1073741823 : Int32)) - (4 : Int32)) + (((p6.toUInt32 >>> ((2 : Int32) &&& 31).toUInt32).toInt32) &&& (1023 : Int32)))])
      refine own_st (fun t k => XS.iload X93.here hx rfl (hb hby at_136) rfl k) ?_
      show own_E p e below _ T93 (mkF m 138 #[iv p1, iv p2, iv p3, iv p4, iv p5, iv p6, iv 2, iv (p1 &&& (1073741823 : Int32)), iv (((p1 &&& (1073741823 : Int32)) + (1 : Int32)) + (p2 &&& (255 : Int32))), iv (((((p1 &&& (1073741823 : Int32)) + (1 : Int32)) + (p2 &&& (255 : Int32))) + (1 : Int32)) + (((p2.toUInt32 >>> ((8 : Int32) &&& 31).toUInt32).toInt32) &&& (255 : Int32))), iv (((p1 &&& (1073741823 : Int32)) - (4 : Int32)) + (((p6.toUInt32 >>> ((2 : Int32) &&& 31).toUInt32).toInt32) &&& (1023 : Int32))), rv b87, iv p3] [.int (((p1 &&& (1073741823 : Int32)) + (1 : Int32)) + (p2 &&& (255 : Int32))), .int (((p1 &&& (1073741823 : Int32)) - (4 : Int32)) + (((p6.toUInt32 >>> ((2 : Int32) &&& 31).toUInt32).toInt32) &&& (1023 : Int32)))])
      by_cases hc96 : (((p1 &&& (1073741823 : Int32)) - (4 : Int32)) + (((p6.toUInt32 >>> ((2 : Int32) &&& 31).toUInt32).toInt32) &&& (1023 : Int32))) = (((p1 &&& (1073741823 : Int32)) + (1 : Int32)) + (p2 &&& (255 : Int32)))
      · exfalso
        have f97 := rng32 p6
        have f98 : (3 : Int32).toInt = 3 := rfl
        have f99 := rng32 (p6 &&& (3 : Int32))
        have f100 : (p6 &&& (3 : Int32)).toInt = p6.toInt % 4 := c_mask p6 (3 : Int32) 2 (by decide) (by decide)
        have f101 : (2 : Int32).toInt = 2 := rfl
        have f102 := rng32 p1
        have f103 : (1073741823 : Int32).toInt = 1073741823 := rfl
        have f104 := rng32 (p1 &&& (1073741823 : Int32))
        have f105 : (p1 &&& (1073741823 : Int32)).toInt = p1.toInt % 1073741824 := c_mask p1 (1073741823 : Int32) 30 (by decide) (by decide)
        have f106 : (4 : Int32).toInt = 4 := rfl
        have f107 := rng32 ((p1 &&& (1073741823 : Int32)) - (4 : Int32))
        have f108 : ((p1 &&& (1073741823 : Int32)) - (4 : Int32)).toInt = (p1 &&& (1073741823 : Int32)).toInt - (4 : Int32).toInt := by have h := c_isub (p1 &&& (1073741823 : Int32)) (4 : Int32); omega
        have f109 := rng32 ((p6.toUInt32 >>> ((2 : Int32) &&& 31).toUInt32).toInt32)
        have f110 : ((p6.toUInt32 >>> ((2 : Int32) &&& 31).toUInt32).toInt32).toInt = (p6.toInt % 4294967296) / 4 := c_iushr p6 (2 : Int32) 2 (by decide) (by decide)
        have f111 : (1023 : Int32).toInt = 1023 := rfl
        have f112 := rng32 (((p6.toUInt32 >>> ((2 : Int32) &&& 31).toUInt32).toInt32) &&& (1023 : Int32))
        have f113 : (((p6.toUInt32 >>> ((2 : Int32) &&& 31).toUInt32).toInt32) &&& (1023 : Int32)).toInt = ((p6.toUInt32 >>> ((2 : Int32) &&& 31).toUInt32).toInt32).toInt % 1024 := c_mask ((p6.toUInt32 >>> ((2 : Int32) &&& 31).toUInt32).toInt32) (1023 : Int32) 10 (by decide) (by decide)
        have f114 := rng32 (((p1 &&& (1073741823 : Int32)) - (4 : Int32)) + (((p6.toUInt32 >>> ((2 : Int32) &&& 31).toUInt32).toInt32) &&& (1023 : Int32)))
        have f115 : (((p1 &&& (1073741823 : Int32)) - (4 : Int32)) + (((p6.toUInt32 >>> ((2 : Int32) &&& 31).toUInt32).toInt32) &&& (1023 : Int32))).toInt = ((p1 &&& (1073741823 : Int32)) - (4 : Int32)).toInt + (((p6.toUInt32 >>> ((2 : Int32) &&& 31).toUInt32).toInt32) &&& (1023 : Int32)).toInt := by have h := c_iadd ((p1 &&& (1073741823 : Int32)) - (4 : Int32)) (((p6.toUInt32 >>> ((2 : Int32) &&& 31).toUInt32).toInt32) &&& (1023 : Int32)); omega
        have f116 : (1 : Int32).toInt = 1 := rfl
        have f117 := rng32 ((p1 &&& (1073741823 : Int32)) + (1 : Int32))
        have f118 : ((p1 &&& (1073741823 : Int32)) + (1 : Int32)).toInt = (p1 &&& (1073741823 : Int32)).toInt + (1 : Int32).toInt := by have h := c_iadd (p1 &&& (1073741823 : Int32)) (1 : Int32); omega
        have f119 := rng32 p2
        have f120 : (255 : Int32).toInt = 255 := rfl
        have f121 := rng32 (p2 &&& (255 : Int32))
        have f122 : (p2 &&& (255 : Int32)).toInt = p2.toInt % 256 := c_mask p2 (255 : Int32) 8 (by decide) (by decide)
        have f123 := rng32 (((p1 &&& (1073741823 : Int32)) + (1 : Int32)) + (p2 &&& (255 : Int32)))
        have f124 : (((p1 &&& (1073741823 : Int32)) + (1 : Int32)) + (p2 &&& (255 : Int32))).toInt = ((p1 &&& (1073741823 : Int32)) + (1 : Int32)).toInt + (p2 &&& (255 : Int32)).toInt := by have h := c_iadd ((p1 &&& (1073741823 : Int32)) + (1 : Int32)) (p2 &&& (255 : Int32)); omega
        have g125 := hs1
        rw [← Int32.toInt_inj] at g125
        have g126 := hc95
        rw [← Int32.toInt_inj] at g126
        have g127 := hc96
        rw [← Int32.toInt_inj] at g127
        omega
      · refine own_st (fun t k => XS.icmpYes X93.here hx rfl (pc0 := 138) (pc' := 144) rfl (hb hby at_138) rfl (feq hc96).2 (by decide) (by decide) k) ?_
        show own_E p e below _ T93 (mkF m 144 #[iv p1, iv p2, iv p3, iv p4, iv p5, iv p6, iv 2, iv (p1 &&& (1073741823 : Int32)), iv (((p1 &&& (1073741823 : Int32)) + (1 : Int32)) + (p2 &&& (255 : Int32))), iv (((((p1 &&& (1073741823 : Int32)) + (1 : Int32)) + (p2 &&& (255 : Int32))) + (1 : Int32)) + (((p2.toUInt32 >>> ((8 : Int32) &&& 31).toUInt32).toInt32) &&& (255 : Int32))), iv (((p1 &&& (1073741823 : Int32)) - (4 : Int32)) + (((p6.toUInt32 >>> ((2 : Int32) &&& 31).toUInt32).toInt32) &&& (1023 : Int32))), rv b87, iv p3] [])
        refine own_st (fun t k => XS.iload X93.here hx rfl (hb hby at_144) rfl k) ?_
        show own_E p e below _ T93 (mkF m 146 #[iv p1, iv p2, iv p3, iv p4, iv p5, iv p6, iv 2, iv (p1 &&& (1073741823 : Int32)), iv (((p1 &&& (1073741823 : Int32)) + (1 : Int32)) + (p2 &&& (255 : Int32))), iv (((((p1 &&& (1073741823 : Int32)) + (1 : Int32)) + (p2 &&& (255 : Int32))) + (1 : Int32)) + (((p2.toUInt32 >>> ((8 : Int32) &&& 31).toUInt32).toInt32) &&& (255 : Int32))), iv (((p1 &&& (1073741823 : Int32)) - (4 : Int32)) + (((p6.toUInt32 >>> ((2 : Int32) &&& 31).toUInt32).toInt32) &&& (1023 : Int32))), rv b87, iv p3] [.int 2])
        refine own_st (fun t k => XS.iconst X93.here hx rfl (hb hby at_146) k) ?_
        show own_E p e below _ T93 (mkF m 147 #[iv p1, iv p2, iv p3, iv p4, iv p5, iv p6, iv 2, iv (p1 &&& (1073741823 : Int32)), iv (((p1 &&& (1073741823 : Int32)) + (1 : Int32)) + (p2 &&& (255 : Int32))), iv (((((p1 &&& (1073741823 : Int32)) + (1 : Int32)) + (p2 &&& (255 : Int32))) + (1 : Int32)) + (((p2.toUInt32 >>> ((8 : Int32) &&& 31).toUInt32).toInt32) &&& (255 : Int32))), iv (((p1 &&& (1073741823 : Int32)) - (4 : Int32)) + (((p6.toUInt32 >>> ((2 : Int32) &&& 31).toUInt32).toInt32) &&& (1023 : Int32))), rv b87, iv p3] [.int 3, .int 2])
        refine own_st (fun t k => XS.icmpYes X93.here hx rfl (pc0 := 147) (pc' := 161) rfl (hb hby at_147) rfl (by decide) (by decide) (by decide) k) ?_
        show own_E p e below _ T93 (mkF m 161 #[iv p1, iv p2, iv p3, iv p4, iv p5, iv p6, iv 2, iv (p1 &&& (1073741823 : Int32)), iv (((p1 &&& (1073741823 : Int32)) + (1 : Int32)) + (p2 &&& (255 : Int32))), iv (((((p1 &&& (1073741823 : Int32)) + (1 : Int32)) + (p2 &&& (255 : Int32))) + (1 : Int32)) + (((p2.toUInt32 >>> ((8 : Int32) &&& 31).toUInt32).toInt32) &&& (255 : Int32))), iv (((p1 &&& (1073741823 : Int32)) - (4 : Int32)) + (((p6.toUInt32 >>> ((2 : Int32) &&& 31).toUInt32).toInt32) &&& (1023 : Int32))), rv b87, iv p3] [])
        refine own_st (fun t k => XS.aload X93.here hx rfl (hb hby at_161) rfl rfl k) ?_
        show own_E p e below _ T93 (mkF m 163 #[iv p1, iv p2, iv p3, iv p4, iv p5, iv p6, iv 2, iv (p1 &&& (1073741823 : Int32)), iv (((p1 &&& (1073741823 : Int32)) + (1 : Int32)) + (p2 &&& (255 : Int32))), iv (((((p1 &&& (1073741823 : Int32)) + (1 : Int32)) + (p2 &&& (255 : Int32))) + (1 : Int32)) + (((p2.toUInt32 >>> ((8 : Int32) &&& 31).toUInt32).toInt32) &&& (255 : Int32))), iv (((p1 &&& (1073741823 : Int32)) - (4 : Int32)) + (((p6.toUInt32 >>> ((2 : Int32) &&& 31).toUInt32).toInt32) &&& (1023 : Int32))), rv b87, iv p3] [.ref b87])
        refine own_st (fun t k => XS.iload X93.here hx rfl (hb hby at_163) rfl k) ?_
        show own_E p e below _ T93 (mkF m 165 #[iv p1, iv p2, iv p3, iv p4, iv p5, iv p6, iv 2, iv (p1 &&& (1073741823 : Int32)), iv (((p1 &&& (1073741823 : Int32)) + (1 : Int32)) + (p2 &&& (255 : Int32))), iv (((((p1 &&& (1073741823 : Int32)) + (1 : Int32)) + (p2 &&& (255 : Int32))) + (1 : Int32)) + (((p2.toUInt32 >>> ((8 : Int32) &&& 31).toUInt32).toInt32) &&& (255 : Int32))), iv (((p1 &&& (1073741823 : Int32)) - (4 : Int32)) + (((p6.toUInt32 >>> ((2 : Int32) &&& 31).toUInt32).toInt32) &&& (1023 : Int32))), rv b87, iv p3] [.int (((p1 &&& (1073741823 : Int32)) - (4 : Int32)) + (((p6.toUInt32 >>> ((2 : Int32) &&& 31).toUInt32).toInt32) &&& (1023 : Int32))), .ref b87])
        obtain ⟨cq128, kq128, q128a, q128b, q128c⟩ := isOf hZ e93 P93_0
        obtain ⟨_, _, ⟨T128, L128, k128, n128⟩, -, X128, ⟨Lc128, hQ128, l128, y128, z128⟩, st128⟩ := X93.virtualBack hx (y := own_y8) (z := own_y8) hown (mvT hZ (own_w hw 43 rfl)) (mvT hZ (own_w hw 44 rfl)) (notFace_of_selects (args := #[]) (mvT hZ (own_w hw 46 rfl))) (mvT hZ (own_w hw 46 rfl)) (mvT hZ (own_w hw 45 rfl)) (by decide) (backOf (W := 0) (own_freq2 l Z a0 hw [] b87 b93_o0 b93_o1 k93_o2 k93_o3 (((p1 &&& (1073741823 : Int32)) - (4 : Int32)) + (((p6.toUInt32 >>> ((2 : Int32) &&& 31).toUInt32).toInt32) &&& (1023 : Int32))) (p1 &&& (1073741823 : Int32)) (((p1 &&& (1073741823 : Int32)) + (1 : Int32)) + (p2 &&& (255 : Int32))) p3 p4 T93.heap n0 Z94 P93_1 P93_2 P93_5 P93_6 P93_7) hZ (own_w hw 47 rfl) (own_w hw 3 rfl) (by decide) (by decide)) q128a q128c (g := (mkF m 165 #[iv p1, iv p2, iv p3, iv p4, iv p5, iv p6, iv 2, iv (p1 &&& (1073741823 : Int32)), iv (((p1 &&& (1073741823 : Int32)) + (1 : Int32)) + (p2 &&& (255 : Int32))), iv (((((p1 &&& (1073741823 : Int32)) + (1 : Int32)) + (p2 &&& (255 : Int32))) + (1 : Int32)) + (((p2.toUInt32 >>> ((8 : Int32) &&& 31).toUInt32).toInt32) &&& (255 : Int32))), iv (((p1 &&& (1073741823 : Int32)) - (4 : Int32)) + (((p6.toUInt32 >>> ((2 : Int32) &&& 31).toUInt32).toInt32) &&& (1023 : Int32))), rv b87, iv p3] [.int (((p1 &&& (1073741823 : Int32)) - (4 : Int32)) + (((p6.toUInt32 >>> ((2 : Int32) &&& 31).toUInt32).toInt32) &&& (1023 : Int32))), .ref b87])) rfl (by rw [hml]; rfl) (Steps.refl _) (argsL := [(.int (((p1 &&& (1073741823 : Int32)) - (4 : Int32)) + (((p6.toUInt32 >>> ((2 : Int32) &&& 31).toUInt32).toInt32) &&& (1023 : Int32))))]) (rest := []) (lenOf own_pd_1 rfl) rfl (by show 2 * 0 + _ ≤ _; exact Nat.le_of_eq rfl) (hb hby at_165) (fun _ _ => ⟨rfl, e93, (by decide : 5 + 0 ≤ _), (by decide : 11 + 0 ≤ _)⟩)
        dsimp only [Pt.U, Pt.locs, Pt.cells, Pt.slots] at X128 l128 y128 z128 st128 hQ128
        subst l128 y128 z128
        obtain ⟨hR128, e128, rfl⟩ := hQ128
        have N128 := Fr.app N93 (Fr.nil n0)
        rcases hR128 with ⟨rfl, ha128_0, ha128_1⟩ | ⟨rfl, ha128_0, ha128_1, ha128_2⟩ | ⟨rfl, ha128_0, ha128_1, ha128_2⟩ | ⟨rfl, ha128_0, ha128_1⟩ | ⟨rfl, ha128_0, ha128_1⟩
        · exfalso
          have f129 := rng32 p6
          have f130 : (3 : Int32).toInt = 3 := rfl
          have f131 := rng32 (p6 &&& (3 : Int32))
          have f132 : (p6 &&& (3 : Int32)).toInt = p6.toInt % 4 := c_mask p6 (3 : Int32) 2 (by decide) (by decide)
          have f133 : (2 : Int32).toInt = 2 := rfl
          have f134 := rng32 p1
          have f135 : (1073741823 : Int32).toInt = 1073741823 := rfl
          have f136 := rng32 (p1 &&& (1073741823 : Int32))
          have f137 : (p1 &&& (1073741823 : Int32)).toInt = p1.toInt % 1073741824 := c_mask p1 (1073741823 : Int32) 30 (by decide) (by decide)
          have f138 : (4 : Int32).toInt = 4 := rfl
          have f139 := rng32 ((p1 &&& (1073741823 : Int32)) - (4 : Int32))
          have f140 : ((p1 &&& (1073741823 : Int32)) - (4 : Int32)).toInt = (p1 &&& (1073741823 : Int32)).toInt - (4 : Int32).toInt := by have h := c_isub (p1 &&& (1073741823 : Int32)) (4 : Int32); omega
          have f141 := rng32 ((p6.toUInt32 >>> ((2 : Int32) &&& 31).toUInt32).toInt32)
          have f142 : ((p6.toUInt32 >>> ((2 : Int32) &&& 31).toUInt32).toInt32).toInt = (p6.toInt % 4294967296) / 4 := c_iushr p6 (2 : Int32) 2 (by decide) (by decide)
          have f143 : (1023 : Int32).toInt = 1023 := rfl
          have f144 := rng32 (((p6.toUInt32 >>> ((2 : Int32) &&& 31).toUInt32).toInt32) &&& (1023 : Int32))
          have f145 : (((p6.toUInt32 >>> ((2 : Int32) &&& 31).toUInt32).toInt32) &&& (1023 : Int32)).toInt = ((p6.toUInt32 >>> ((2 : Int32) &&& 31).toUInt32).toInt32).toInt % 1024 := c_mask ((p6.toUInt32 >>> ((2 : Int32) &&& 31).toUInt32).toInt32) (1023 : Int32) 10 (by decide) (by decide)
          have f146 := rng32 (((p1 &&& (1073741823 : Int32)) - (4 : Int32)) + (((p6.toUInt32 >>> ((2 : Int32) &&& 31).toUInt32).toInt32) &&& (1023 : Int32)))
          have f147 : (((p1 &&& (1073741823 : Int32)) - (4 : Int32)) + (((p6.toUInt32 >>> ((2 : Int32) &&& 31).toUInt32).toInt32) &&& (1023 : Int32))).toInt = ((p1 &&& (1073741823 : Int32)) - (4 : Int32)).toInt + (((p6.toUInt32 >>> ((2 : Int32) &&& 31).toUInt32).toInt32) &&& (1023 : Int32)).toInt := by have h := c_iadd ((p1 &&& (1073741823 : Int32)) - (4 : Int32)) (((p6.toUInt32 >>> ((2 : Int32) &&& 31).toUInt32).toInt32) &&& (1023 : Int32)); omega
          have f148 : (1 : Int32).toInt = 1 := rfl
          have f149 := rng32 ((p1 &&& (1073741823 : Int32)) + (1 : Int32))
          have f150 : ((p1 &&& (1073741823 : Int32)) + (1 : Int32)).toInt = (p1 &&& (1073741823 : Int32)).toInt + (1 : Int32).toInt := by have h := c_iadd (p1 &&& (1073741823 : Int32)) (1 : Int32); omega
          have f151 := rng32 p2
          have f152 : (255 : Int32).toInt = 255 := rfl
          have f153 := rng32 (p2 &&& (255 : Int32))
          have f154 : (p2 &&& (255 : Int32)).toInt = p2.toInt % 256 := c_mask p2 (255 : Int32) 8 (by decide) (by decide)
          have f155 := rng32 (((p1 &&& (1073741823 : Int32)) + (1 : Int32)) + (p2 &&& (255 : Int32)))
          have f156 : (((p1 &&& (1073741823 : Int32)) + (1 : Int32)) + (p2 &&& (255 : Int32))).toInt = ((p1 &&& (1073741823 : Int32)) + (1 : Int32)).toInt + (p2 &&& (255 : Int32)).toInt := by have h := c_iadd ((p1 &&& (1073741823 : Int32)) + (1 : Int32)) (p2 &&& (255 : Int32)); omega
          have g157 := hs1
          rw [← Int32.toInt_inj] at g157
          have g158 := hc95
          rw [← Int32.toInt_inj] at g158
          have g159 := hc96
          rw [← Int32.toInt_inj] at g159
          have g160 := ha128_0
          rw [Int32.lt_iff_toInt_lt] at g160
          have g161 := ha128_1
          rw [Int32.lt_iff_toInt_lt] at g161
          omega
        · exfalso
          have f162 := rng32 p6
          have f163 : (3 : Int32).toInt = 3 := rfl
          have f164 := rng32 (p6 &&& (3 : Int32))
          have f165 : (p6 &&& (3 : Int32)).toInt = p6.toInt % 4 := c_mask p6 (3 : Int32) 2 (by decide) (by decide)
          have f166 : (2 : Int32).toInt = 2 := rfl
          have f167 := rng32 p1
          have f168 : (1073741823 : Int32).toInt = 1073741823 := rfl
          have f169 := rng32 (p1 &&& (1073741823 : Int32))
          have f170 : (p1 &&& (1073741823 : Int32)).toInt = p1.toInt % 1073741824 := c_mask p1 (1073741823 : Int32) 30 (by decide) (by decide)
          have f171 : (4 : Int32).toInt = 4 := rfl
          have f172 := rng32 ((p1 &&& (1073741823 : Int32)) - (4 : Int32))
          have f173 : ((p1 &&& (1073741823 : Int32)) - (4 : Int32)).toInt = (p1 &&& (1073741823 : Int32)).toInt - (4 : Int32).toInt := by have h := c_isub (p1 &&& (1073741823 : Int32)) (4 : Int32); omega
          have f174 := rng32 ((p6.toUInt32 >>> ((2 : Int32) &&& 31).toUInt32).toInt32)
          have f175 : ((p6.toUInt32 >>> ((2 : Int32) &&& 31).toUInt32).toInt32).toInt = (p6.toInt % 4294967296) / 4 := c_iushr p6 (2 : Int32) 2 (by decide) (by decide)
          have f176 : (1023 : Int32).toInt = 1023 := rfl
          have f177 := rng32 (((p6.toUInt32 >>> ((2 : Int32) &&& 31).toUInt32).toInt32) &&& (1023 : Int32))
          have f178 : (((p6.toUInt32 >>> ((2 : Int32) &&& 31).toUInt32).toInt32) &&& (1023 : Int32)).toInt = ((p6.toUInt32 >>> ((2 : Int32) &&& 31).toUInt32).toInt32).toInt % 1024 := c_mask ((p6.toUInt32 >>> ((2 : Int32) &&& 31).toUInt32).toInt32) (1023 : Int32) 10 (by decide) (by decide)
          have f179 := rng32 (((p1 &&& (1073741823 : Int32)) - (4 : Int32)) + (((p6.toUInt32 >>> ((2 : Int32) &&& 31).toUInt32).toInt32) &&& (1023 : Int32)))
          have f180 : (((p1 &&& (1073741823 : Int32)) - (4 : Int32)) + (((p6.toUInt32 >>> ((2 : Int32) &&& 31).toUInt32).toInt32) &&& (1023 : Int32))).toInt = ((p1 &&& (1073741823 : Int32)) - (4 : Int32)).toInt + (((p6.toUInt32 >>> ((2 : Int32) &&& 31).toUInt32).toInt32) &&& (1023 : Int32)).toInt := by have h := c_iadd ((p1 &&& (1073741823 : Int32)) - (4 : Int32)) (((p6.toUInt32 >>> ((2 : Int32) &&& 31).toUInt32).toInt32) &&& (1023 : Int32)); omega
          have f181 : (1 : Int32).toInt = 1 := rfl
          have f182 := rng32 ((p1 &&& (1073741823 : Int32)) + (1 : Int32))
          have f183 : ((p1 &&& (1073741823 : Int32)) + (1 : Int32)).toInt = (p1 &&& (1073741823 : Int32)).toInt + (1 : Int32).toInt := by have h := c_iadd (p1 &&& (1073741823 : Int32)) (1 : Int32); omega
          have f184 := rng32 p2
          have f185 : (255 : Int32).toInt = 255 := rfl
          have f186 := rng32 (p2 &&& (255 : Int32))
          have f187 : (p2 &&& (255 : Int32)).toInt = p2.toInt % 256 := c_mask p2 (255 : Int32) 8 (by decide) (by decide)
          have f188 := rng32 (((p1 &&& (1073741823 : Int32)) + (1 : Int32)) + (p2 &&& (255 : Int32)))
          have f189 : (((p1 &&& (1073741823 : Int32)) + (1 : Int32)) + (p2 &&& (255 : Int32))).toInt = ((p1 &&& (1073741823 : Int32)) + (1 : Int32)).toInt + (p2 &&& (255 : Int32)).toInt := by have h := c_iadd ((p1 &&& (1073741823 : Int32)) + (1 : Int32)) (p2 &&& (255 : Int32)); omega
          have g190 := hs1
          rw [← Int32.toInt_inj] at g190
          have g191 := hc95
          rw [← Int32.toInt_inj] at g191
          have g192 := hc96
          rw [← Int32.toInt_inj] at g192
          have g193 := ha128_0
          rw [Int32.lt_iff_toInt_lt] at g193
          have g194 := ha128_1
          rw [Int32.lt_iff_toInt_lt] at g194
          have g195 := ha128_2
          rw [Int32.lt_iff_toInt_lt] at g195
          omega
        · exfalso
          have f196 := rng32 p6
          have f197 : (3 : Int32).toInt = 3 := rfl
          have f198 := rng32 (p6 &&& (3 : Int32))
          have f199 : (p6 &&& (3 : Int32)).toInt = p6.toInt % 4 := c_mask p6 (3 : Int32) 2 (by decide) (by decide)
          have f200 : (2 : Int32).toInt = 2 := rfl
          have f201 := rng32 p1
          have f202 : (1073741823 : Int32).toInt = 1073741823 := rfl
          have f203 := rng32 (p1 &&& (1073741823 : Int32))
          have f204 : (p1 &&& (1073741823 : Int32)).toInt = p1.toInt % 1073741824 := c_mask p1 (1073741823 : Int32) 30 (by decide) (by decide)
          have f205 : (4 : Int32).toInt = 4 := rfl
          have f206 := rng32 ((p1 &&& (1073741823 : Int32)) - (4 : Int32))
          have f207 : ((p1 &&& (1073741823 : Int32)) - (4 : Int32)).toInt = (p1 &&& (1073741823 : Int32)).toInt - (4 : Int32).toInt := by have h := c_isub (p1 &&& (1073741823 : Int32)) (4 : Int32); omega
          have f208 := rng32 ((p6.toUInt32 >>> ((2 : Int32) &&& 31).toUInt32).toInt32)
          have f209 : ((p6.toUInt32 >>> ((2 : Int32) &&& 31).toUInt32).toInt32).toInt = (p6.toInt % 4294967296) / 4 := c_iushr p6 (2 : Int32) 2 (by decide) (by decide)
          have f210 : (1023 : Int32).toInt = 1023 := rfl
          have f211 := rng32 (((p6.toUInt32 >>> ((2 : Int32) &&& 31).toUInt32).toInt32) &&& (1023 : Int32))
          have f212 : (((p6.toUInt32 >>> ((2 : Int32) &&& 31).toUInt32).toInt32) &&& (1023 : Int32)).toInt = ((p6.toUInt32 >>> ((2 : Int32) &&& 31).toUInt32).toInt32).toInt % 1024 := c_mask ((p6.toUInt32 >>> ((2 : Int32) &&& 31).toUInt32).toInt32) (1023 : Int32) 10 (by decide) (by decide)
          have f213 := rng32 (((p1 &&& (1073741823 : Int32)) - (4 : Int32)) + (((p6.toUInt32 >>> ((2 : Int32) &&& 31).toUInt32).toInt32) &&& (1023 : Int32)))
          have f214 : (((p1 &&& (1073741823 : Int32)) - (4 : Int32)) + (((p6.toUInt32 >>> ((2 : Int32) &&& 31).toUInt32).toInt32) &&& (1023 : Int32))).toInt = ((p1 &&& (1073741823 : Int32)) - (4 : Int32)).toInt + (((p6.toUInt32 >>> ((2 : Int32) &&& 31).toUInt32).toInt32) &&& (1023 : Int32)).toInt := by have h := c_iadd ((p1 &&& (1073741823 : Int32)) - (4 : Int32)) (((p6.toUInt32 >>> ((2 : Int32) &&& 31).toUInt32).toInt32) &&& (1023 : Int32)); omega
          have f215 : (1 : Int32).toInt = 1 := rfl
          have f216 := rng32 ((p1 &&& (1073741823 : Int32)) + (1 : Int32))
          have f217 : ((p1 &&& (1073741823 : Int32)) + (1 : Int32)).toInt = (p1 &&& (1073741823 : Int32)).toInt + (1 : Int32).toInt := by have h := c_iadd (p1 &&& (1073741823 : Int32)) (1 : Int32); omega
          have f218 := rng32 p2
          have f219 : (255 : Int32).toInt = 255 := rfl
          have f220 := rng32 (p2 &&& (255 : Int32))
          have f221 : (p2 &&& (255 : Int32)).toInt = p2.toInt % 256 := c_mask p2 (255 : Int32) 8 (by decide) (by decide)
          have f222 := rng32 (((p1 &&& (1073741823 : Int32)) + (1 : Int32)) + (p2 &&& (255 : Int32)))
          have f223 : (((p1 &&& (1073741823 : Int32)) + (1 : Int32)) + (p2 &&& (255 : Int32))).toInt = ((p1 &&& (1073741823 : Int32)) + (1 : Int32)).toInt + (p2 &&& (255 : Int32)).toInt := by have h := c_iadd ((p1 &&& (1073741823 : Int32)) + (1 : Int32)) (p2 &&& (255 : Int32)); omega
          have g224 := hs1
          rw [← Int32.toInt_inj] at g224
          have g225 := hc95
          rw [← Int32.toInt_inj] at g225
          have g226 := hc96
          rw [← Int32.toInt_inj] at g226
          have g227 := ha128_0
          rw [Int32.lt_iff_toInt_lt] at g227
          have g228 := ha128_1
          rw [Int32.lt_iff_toInt_lt] at g228
          have g229 := ha128_2
          rw [Int32.lt_iff_toInt_lt] at g229
          omega
        · exfalso
          have f230 := rng32 p6
          have f231 : (3 : Int32).toInt = 3 := rfl
          have f232 := rng32 (p6 &&& (3 : Int32))
          have f233 : (p6 &&& (3 : Int32)).toInt = p6.toInt % 4 := c_mask p6 (3 : Int32) 2 (by decide) (by decide)
          have f234 : (2 : Int32).toInt = 2 := rfl
          have f235 := rng32 p1
          have f236 : (1073741823 : Int32).toInt = 1073741823 := rfl
          have f237 := rng32 (p1 &&& (1073741823 : Int32))
          have f238 : (p1 &&& (1073741823 : Int32)).toInt = p1.toInt % 1073741824 := c_mask p1 (1073741823 : Int32) 30 (by decide) (by decide)
          have f239 : (4 : Int32).toInt = 4 := rfl
          have f240 := rng32 ((p1 &&& (1073741823 : Int32)) - (4 : Int32))
          have f241 : ((p1 &&& (1073741823 : Int32)) - (4 : Int32)).toInt = (p1 &&& (1073741823 : Int32)).toInt - (4 : Int32).toInt := by have h := c_isub (p1 &&& (1073741823 : Int32)) (4 : Int32); omega
          have f242 := rng32 ((p6.toUInt32 >>> ((2 : Int32) &&& 31).toUInt32).toInt32)
          have f243 : ((p6.toUInt32 >>> ((2 : Int32) &&& 31).toUInt32).toInt32).toInt = (p6.toInt % 4294967296) / 4 := c_iushr p6 (2 : Int32) 2 (by decide) (by decide)
          have f244 : (1023 : Int32).toInt = 1023 := rfl
          have f245 := rng32 (((p6.toUInt32 >>> ((2 : Int32) &&& 31).toUInt32).toInt32) &&& (1023 : Int32))
          have f246 : (((p6.toUInt32 >>> ((2 : Int32) &&& 31).toUInt32).toInt32) &&& (1023 : Int32)).toInt = ((p6.toUInt32 >>> ((2 : Int32) &&& 31).toUInt32).toInt32).toInt % 1024 := c_mask ((p6.toUInt32 >>> ((2 : Int32) &&& 31).toUInt32).toInt32) (1023 : Int32) 10 (by decide) (by decide)
          have f247 := rng32 (((p1 &&& (1073741823 : Int32)) - (4 : Int32)) + (((p6.toUInt32 >>> ((2 : Int32) &&& 31).toUInt32).toInt32) &&& (1023 : Int32)))
          have f248 : (((p1 &&& (1073741823 : Int32)) - (4 : Int32)) + (((p6.toUInt32 >>> ((2 : Int32) &&& 31).toUInt32).toInt32) &&& (1023 : Int32))).toInt = ((p1 &&& (1073741823 : Int32)) - (4 : Int32)).toInt + (((p6.toUInt32 >>> ((2 : Int32) &&& 31).toUInt32).toInt32) &&& (1023 : Int32)).toInt := by have h := c_iadd ((p1 &&& (1073741823 : Int32)) - (4 : Int32)) (((p6.toUInt32 >>> ((2 : Int32) &&& 31).toUInt32).toInt32) &&& (1023 : Int32)); omega
          have f249 : (1 : Int32).toInt = 1 := rfl
          have f250 := rng32 ((p1 &&& (1073741823 : Int32)) + (1 : Int32))
          have f251 : ((p1 &&& (1073741823 : Int32)) + (1 : Int32)).toInt = (p1 &&& (1073741823 : Int32)).toInt + (1 : Int32).toInt := by have h := c_iadd (p1 &&& (1073741823 : Int32)) (1 : Int32); omega
          have f252 := rng32 p2
          have f253 : (255 : Int32).toInt = 255 := rfl
          have f254 := rng32 (p2 &&& (255 : Int32))
          have f255 : (p2 &&& (255 : Int32)).toInt = p2.toInt % 256 := c_mask p2 (255 : Int32) 8 (by decide) (by decide)
          have f256 := rng32 (((p1 &&& (1073741823 : Int32)) + (1 : Int32)) + (p2 &&& (255 : Int32)))
          have f257 : (((p1 &&& (1073741823 : Int32)) + (1 : Int32)) + (p2 &&& (255 : Int32))).toInt = ((p1 &&& (1073741823 : Int32)) + (1 : Int32)).toInt + (p2 &&& (255 : Int32)).toInt := by have h := c_iadd ((p1 &&& (1073741823 : Int32)) + (1 : Int32)) (p2 &&& (255 : Int32)); omega
          have g258 := hs1
          rw [← Int32.toInt_inj] at g258
          have g259 := hc95
          rw [← Int32.toInt_inj] at g259
          have g260 := hc96
          rw [← Int32.toInt_inj] at g260
          have g261 := ha128_0
          rw [Int32.lt_iff_toInt_lt] at g261
          have g262 := ha128_1
          rw [Int32.lt_iff_toInt_lt] at g262
          omega
        · refine own_tr st128 ?_
          show own_E p e below _ T128 (mkF m 168 #[iv p1, iv p2, iv p3, iv p4, iv p5, iv p6, iv 2, iv (p1 &&& (1073741823 : Int32)), iv (((p1 &&& (1073741823 : Int32)) + (1 : Int32)) + (p2 &&& (255 : Int32))), iv (((((p1 &&& (1073741823 : Int32)) + (1 : Int32)) + (p2 &&& (255 : Int32))) + (1 : Int32)) + (((p2.toUInt32 >>> ((8 : Int32) &&& 31).toUInt32).toInt32) &&& (255 : Int32))), iv (((p1 &&& (1073741823 : Int32)) - (4 : Int32)) + (((p6.toUInt32 >>> ((2 : Int32) &&& 31).toUInt32).toInt32) &&& (1023 : Int32))), rv b87, iv p3] [.int p3])
          refine own_st (fun t k => XS.iload X128.here hx rfl (hb hby at_168) rfl k) ?_
          show own_E p e below _ T128 (mkF m 170 #[iv p1, iv p2, iv p3, iv p4, iv p5, iv p6, iv 2, iv (p1 &&& (1073741823 : Int32)), iv (((p1 &&& (1073741823 : Int32)) + (1 : Int32)) + (p2 &&& (255 : Int32))), iv (((((p1 &&& (1073741823 : Int32)) + (1 : Int32)) + (p2 &&& (255 : Int32))) + (1 : Int32)) + (((p2.toUInt32 >>> ((8 : Int32) &&& 31).toUInt32).toInt32) &&& (255 : Int32))), iv (((p1 &&& (1073741823 : Int32)) - (4 : Int32)) + (((p6.toUInt32 >>> ((2 : Int32) &&& 31).toUInt32).toInt32) &&& (1023 : Int32))), rv b87, iv p3] [.int p3, .int p3])
          refine own_st (fun t k => XS.icmpNo X128.here hx rfl (hb hby at_170) rfl (teq rfl).2 k) ?_
          show own_E p e below _ T128 (mkF m 173 #[iv p1, iv p2, iv p3, iv p4, iv p5, iv p6, iv 2, iv (p1 &&& (1073741823 : Int32)), iv (((p1 &&& (1073741823 : Int32)) + (1 : Int32)) + (p2 &&& (255 : Int32))), iv (((((p1 &&& (1073741823 : Int32)) + (1 : Int32)) + (p2 &&& (255 : Int32))) + (1 : Int32)) + (((p2.toUInt32 >>> ((8 : Int32) &&& 31).toUInt32).toInt32) &&& (255 : Int32))), iv (((p1 &&& (1073741823 : Int32)) - (4 : Int32)) + (((p6.toUInt32 >>> ((2 : Int32) &&& 31).toUInt32).toInt32) &&& (1023 : Int32))), rv b87, iv p3] [])
          refine own_st (fun t k => XS.iconst X128.here hx rfl (hb hby at_173) k) ?_
          show own_E p e below _ T128 (mkF m 174 #[iv p1, iv p2, iv p3, iv p4, iv p5, iv p6, iv 2, iv (p1 &&& (1073741823 : Int32)), iv (((p1 &&& (1073741823 : Int32)) + (1 : Int32)) + (p2 &&& (255 : Int32))), iv (((((p1 &&& (1073741823 : Int32)) + (1 : Int32)) + (p2 &&& (255 : Int32))) + (1 : Int32)) + (((p2.toUInt32 >>> ((8 : Int32) &&& 31).toUInt32).toInt32) &&& (255 : Int32))), iv (((p1 &&& (1073741823 : Int32)) - (4 : Int32)) + (((p6.toUInt32 >>> ((2 : Int32) &&& 31).toUInt32).toInt32) &&& (1023 : Int32))), rv b87, iv p3] [.int 1])
          refine own_st (fun t k => XS.goto X128.here hx rfl (pc0 := 174) (pc' := 178) rfl (hb hby at_174) (by decide) (by decide) k) ?_
          show own_E p e below _ T128 (mkF m 178 #[iv p1, iv p2, iv p3, iv p4, iv p5, iv p6, iv 2, iv (p1 &&& (1073741823 : Int32)), iv (((p1 &&& (1073741823 : Int32)) + (1 : Int32)) + (p2 &&& (255 : Int32))), iv (((((p1 &&& (1073741823 : Int32)) + (1 : Int32)) + (p2 &&& (255 : Int32))) + (1 : Int32)) + (((p2.toUInt32 >>> ((8 : Int32) &&& 31).toUInt32).toInt32) &&& (255 : Int32))), iv (((p1 &&& (1073741823 : Int32)) - (4 : Int32)) + (((p6.toUInt32 >>> ((2 : Int32) &&& 31).toUInt32).toInt32) &&& (1023 : Int32))), rv b87, iv p3] [.int 1])
          refine own_retS X128 hx Bd.notSynchronized Bd.returns rfl (by decide) (hb hby at_178) (by decide) (by decide) ?_
          exact ⟨rfl, N128⟩
    · refine own_st (fun t k => XS.icmpYes X93.here hx rfl (pc0 := 122) (pc' := 128) rfl (hb hby at_122) rfl (feq hc95).2 (by decide) (by decide) k) ?_
      show own_E p e below _ T93 (mkF m 128 #[iv p1, iv p2, iv p3, iv p4, iv p5, iv p6, iv 2, iv (p1 &&& (1073741823 : Int32)), iv (((p1 &&& (1073741823 : Int32)) + (1 : Int32)) + (p2 &&& (255 : Int32))), iv (((((p1 &&& (1073741823 : Int32)) + (1 : Int32)) + (p2 &&& (255 : Int32))) + (1 : Int32)) + (((p2.toUInt32 >>> ((8 : Int32) &&& 31).toUInt32).toInt32) &&& (255 : Int32))), iv (((p1 &&& (1073741823 : Int32)) - (4 : Int32)) + (((p6.toUInt32 >>> ((2 : Int32) &&& 31).toUInt32).toInt32) &&& (1023 : Int32))), rv b87, iv 0] [])
      refine own_st (fun t k => XS.iload X93.here hx rfl (hb hby at_128) rfl k) ?_
      show own_E p e below _ T93 (mkF m 130 #[iv p1, iv p2, iv p3, iv p4, iv p5, iv p6, iv 2, iv (p1 &&& (1073741823 : Int32)), iv (((p1 &&& (1073741823 : Int32)) + (1 : Int32)) + (p2 &&& (255 : Int32))), iv (((((p1 &&& (1073741823 : Int32)) + (1 : Int32)) + (p2 &&& (255 : Int32))) + (1 : Int32)) + (((p2.toUInt32 >>> ((8 : Int32) &&& 31).toUInt32).toInt32) &&& (255 : Int32))), iv (((p1 &&& (1073741823 : Int32)) - (4 : Int32)) + (((p6.toUInt32 >>> ((2 : Int32) &&& 31).toUInt32).toInt32) &&& (1023 : Int32))), rv b87, iv 0] [.int 2])
      refine own_st (fun t k => XS.iconst X93.here hx rfl (hb hby at_130) k) ?_
      show own_E p e below _ T93 (mkF m 131 #[iv p1, iv p2, iv p3, iv p4, iv p5, iv p6, iv 2, iv (p1 &&& (1073741823 : Int32)), iv (((p1 &&& (1073741823 : Int32)) + (1 : Int32)) + (p2 &&& (255 : Int32))), iv (((((p1 &&& (1073741823 : Int32)) + (1 : Int32)) + (p2 &&& (255 : Int32))) + (1 : Int32)) + (((p2.toUInt32 >>> ((8 : Int32) &&& 31).toUInt32).toInt32) &&& (255 : Int32))), iv (((p1 &&& (1073741823 : Int32)) - (4 : Int32)) + (((p6.toUInt32 >>> ((2 : Int32) &&& 31).toUInt32).toInt32) &&& (1023 : Int32))), rv b87, iv 0] [.int 2, .int 2])
      refine own_st (fun t k => XS.icmpNo X93.here hx rfl (hb hby at_131) rfl (by decide) k) ?_
      show own_E p e below _ T93 (mkF m 134 #[iv p1, iv p2, iv p3, iv p4, iv p5, iv p6, iv 2, iv (p1 &&& (1073741823 : Int32)), iv (((p1 &&& (1073741823 : Int32)) + (1 : Int32)) + (p2 &&& (255 : Int32))), iv (((((p1 &&& (1073741823 : Int32)) + (1 : Int32)) + (p2 &&& (255 : Int32))) + (1 : Int32)) + (((p2.toUInt32 >>> ((8 : Int32) &&& 31).toUInt32).toInt32) &&& (255 : Int32))), iv (((p1 &&& (1073741823 : Int32)) - (4 : Int32)) + (((p6.toUInt32 >>> ((2 : Int32) &&& 31).toUInt32).toInt32) &&& (1023 : Int32))), rv b87, iv 0] [])
      refine own_st (fun t k => XS.iload X93.here hx rfl (hb hby at_134) rfl k) ?_
      show own_E p e below _ T93 (mkF m 136 #[iv p1, iv p2, iv p3, iv p4, iv p5, iv p6, iv 2, iv (p1 &&& (1073741823 : Int32)), iv (((p1 &&& (1073741823 : Int32)) + (1 : Int32)) + (p2 &&& (255 : Int32))), iv (((((p1 &&& (1073741823 : Int32)) + (1 : Int32)) + (p2 &&& (255 : Int32))) + (1 : Int32)) + (((p2.toUInt32 >>> ((8 : Int32) &&& 31).toUInt32).toInt32) &&& (255 : Int32))), iv (((p1 &&& (1073741823 : Int32)) - (4 : Int32)) + (((p6.toUInt32 >>> ((2 : Int32) &&& 31).toUInt32).toInt32) &&& (1023 : Int32))), rv b87, iv 0] [.int (((p1 &&& (1073741823 : Int32)) - (4 : Int32)) + (((p6.toUInt32 >>> ((2 : Int32) &&& 31).toUInt32).toInt32) &&& (1023 : Int32)))])
      refine own_st (fun t k => XS.iload X93.here hx rfl (hb hby at_136) rfl k) ?_
      show own_E p e below _ T93 (mkF m 138 #[iv p1, iv p2, iv p3, iv p4, iv p5, iv p6, iv 2, iv (p1 &&& (1073741823 : Int32)), iv (((p1 &&& (1073741823 : Int32)) + (1 : Int32)) + (p2 &&& (255 : Int32))), iv (((((p1 &&& (1073741823 : Int32)) + (1 : Int32)) + (p2 &&& (255 : Int32))) + (1 : Int32)) + (((p2.toUInt32 >>> ((8 : Int32) &&& 31).toUInt32).toInt32) &&& (255 : Int32))), iv (((p1 &&& (1073741823 : Int32)) - (4 : Int32)) + (((p6.toUInt32 >>> ((2 : Int32) &&& 31).toUInt32).toInt32) &&& (1023 : Int32))), rv b87, iv 0] [.int (((p1 &&& (1073741823 : Int32)) + (1 : Int32)) + (p2 &&& (255 : Int32))), .int (((p1 &&& (1073741823 : Int32)) - (4 : Int32)) + (((p6.toUInt32 >>> ((2 : Int32) &&& 31).toUInt32).toInt32) &&& (1023 : Int32)))])
      by_cases hc263 : (((p1 &&& (1073741823 : Int32)) - (4 : Int32)) + (((p6.toUInt32 >>> ((2 : Int32) &&& 31).toUInt32).toInt32) &&& (1023 : Int32))) = (((p1 &&& (1073741823 : Int32)) + (1 : Int32)) + (p2 &&& (255 : Int32)))
      · refine own_st (fun t k => XS.icmpNo X93.here hx rfl (hb hby at_138) rfl (teq hc263).2 k) ?_
        show own_E p e below _ T93 (mkF m 141 #[iv p1, iv p2, iv p3, iv p4, iv p5, iv p6, iv 2, iv (p1 &&& (1073741823 : Int32)), iv (((p1 &&& (1073741823 : Int32)) + (1 : Int32)) + (p2 &&& (255 : Int32))), iv (((((p1 &&& (1073741823 : Int32)) + (1 : Int32)) + (p2 &&& (255 : Int32))) + (1 : Int32)) + (((p2.toUInt32 >>> ((8 : Int32) &&& 31).toUInt32).toInt32) &&& (255 : Int32))), iv (((p1 &&& (1073741823 : Int32)) - (4 : Int32)) + (((p6.toUInt32 >>> ((2 : Int32) &&& 31).toUInt32).toInt32) &&& (1023 : Int32))), rv b87, iv 0] [])
        refine own_st (fun t k => XS.iloadN X93.here hx rfl (hb hby at_141) rfl k) ?_
        show own_E p e below _ T93 (mkF m 142 #[iv p1, iv p2, iv p3, iv p4, iv p5, iv p6, iv 2, iv (p1 &&& (1073741823 : Int32)), iv (((p1 &&& (1073741823 : Int32)) + (1 : Int32)) + (p2 &&& (255 : Int32))), iv (((((p1 &&& (1073741823 : Int32)) + (1 : Int32)) + (p2 &&& (255 : Int32))) + (1 : Int32)) + (((p2.toUInt32 >>> ((8 : Int32) &&& 31).toUInt32).toInt32) &&& (255 : Int32))), iv (((p1 &&& (1073741823 : Int32)) - (4 : Int32)) + (((p6.toUInt32 >>> ((2 : Int32) &&& 31).toUInt32).toInt32) &&& (1023 : Int32))), rv b87, iv 0] [.int p4])
        refine own_st (fun t k => XS.istore X93.here hx rfl (hb hby at_142) rfl (l' := #[iv p1, iv p2, iv p3, iv p4, iv p5, iv p6, iv 2, iv (p1 &&& (1073741823 : Int32)), iv (((p1 &&& (1073741823 : Int32)) + (1 : Int32)) + (p2 &&& (255 : Int32))), iv (((((p1 &&& (1073741823 : Int32)) + (1 : Int32)) + (p2 &&& (255 : Int32))) + (1 : Int32)) + (((p2.toUInt32 >>> ((8 : Int32) &&& 31).toUInt32).toInt32) &&& (255 : Int32))), iv (((p1 &&& (1073741823 : Int32)) - (4 : Int32)) + (((p6.toUInt32 >>> ((2 : Int32) &&& 31).toUInt32).toInt32) &&& (1023 : Int32))), rv b87, iv p4]) rfl k) ?_
        show own_E p e below _ T93 (mkF m 144 #[iv p1, iv p2, iv p3, iv p4, iv p5, iv p6, iv 2, iv (p1 &&& (1073741823 : Int32)), iv (((p1 &&& (1073741823 : Int32)) + (1 : Int32)) + (p2 &&& (255 : Int32))), iv (((((p1 &&& (1073741823 : Int32)) + (1 : Int32)) + (p2 &&& (255 : Int32))) + (1 : Int32)) + (((p2.toUInt32 >>> ((8 : Int32) &&& 31).toUInt32).toInt32) &&& (255 : Int32))), iv (((p1 &&& (1073741823 : Int32)) - (4 : Int32)) + (((p6.toUInt32 >>> ((2 : Int32) &&& 31).toUInt32).toInt32) &&& (1023 : Int32))), rv b87, iv p4] [])
        refine own_st (fun t k => XS.iload X93.here hx rfl (hb hby at_144) rfl k) ?_
        show own_E p e below _ T93 (mkF m 146 #[iv p1, iv p2, iv p3, iv p4, iv p5, iv p6, iv 2, iv (p1 &&& (1073741823 : Int32)), iv (((p1 &&& (1073741823 : Int32)) + (1 : Int32)) + (p2 &&& (255 : Int32))), iv (((((p1 &&& (1073741823 : Int32)) + (1 : Int32)) + (p2 &&& (255 : Int32))) + (1 : Int32)) + (((p2.toUInt32 >>> ((8 : Int32) &&& 31).toUInt32).toInt32) &&& (255 : Int32))), iv (((p1 &&& (1073741823 : Int32)) - (4 : Int32)) + (((p6.toUInt32 >>> ((2 : Int32) &&& 31).toUInt32).toInt32) &&& (1023 : Int32))), rv b87, iv p4] [.int 2])
        refine own_st (fun t k => XS.iconst X93.here hx rfl (hb hby at_146) k) ?_
        show own_E p e below _ T93 (mkF m 147 #[iv p1, iv p2, iv p3, iv p4, iv p5, iv p6, iv 2, iv (p1 &&& (1073741823 : Int32)), iv (((p1 &&& (1073741823 : Int32)) + (1 : Int32)) + (p2 &&& (255 : Int32))), iv (((((p1 &&& (1073741823 : Int32)) + (1 : Int32)) + (p2 &&& (255 : Int32))) + (1 : Int32)) + (((p2.toUInt32 >>> ((8 : Int32) &&& 31).toUInt32).toInt32) &&& (255 : Int32))), iv (((p1 &&& (1073741823 : Int32)) - (4 : Int32)) + (((p6.toUInt32 >>> ((2 : Int32) &&& 31).toUInt32).toInt32) &&& (1023 : Int32))), rv b87, iv p4] [.int 3, .int 2])
        refine own_st (fun t k => XS.icmpYes X93.here hx rfl (pc0 := 147) (pc' := 161) rfl (hb hby at_147) rfl (by decide) (by decide) (by decide) k) ?_
        show own_E p e below _ T93 (mkF m 161 #[iv p1, iv p2, iv p3, iv p4, iv p5, iv p6, iv 2, iv (p1 &&& (1073741823 : Int32)), iv (((p1 &&& (1073741823 : Int32)) + (1 : Int32)) + (p2 &&& (255 : Int32))), iv (((((p1 &&& (1073741823 : Int32)) + (1 : Int32)) + (p2 &&& (255 : Int32))) + (1 : Int32)) + (((p2.toUInt32 >>> ((8 : Int32) &&& 31).toUInt32).toInt32) &&& (255 : Int32))), iv (((p1 &&& (1073741823 : Int32)) - (4 : Int32)) + (((p6.toUInt32 >>> ((2 : Int32) &&& 31).toUInt32).toInt32) &&& (1023 : Int32))), rv b87, iv p4] [])
        refine own_st (fun t k => XS.aload X93.here hx rfl (hb hby at_161) rfl rfl k) ?_
        show own_E p e below _ T93 (mkF m 163 #[iv p1, iv p2, iv p3, iv p4, iv p5, iv p6, iv 2, iv (p1 &&& (1073741823 : Int32)), iv (((p1 &&& (1073741823 : Int32)) + (1 : Int32)) + (p2 &&& (255 : Int32))), iv (((((p1 &&& (1073741823 : Int32)) + (1 : Int32)) + (p2 &&& (255 : Int32))) + (1 : Int32)) + (((p2.toUInt32 >>> ((8 : Int32) &&& 31).toUInt32).toInt32) &&& (255 : Int32))), iv (((p1 &&& (1073741823 : Int32)) - (4 : Int32)) + (((p6.toUInt32 >>> ((2 : Int32) &&& 31).toUInt32).toInt32) &&& (1023 : Int32))), rv b87, iv p4] [.ref b87])
        refine own_st (fun t k => XS.iload X93.here hx rfl (hb hby at_163) rfl k) ?_
        show own_E p e below _ T93 (mkF m 165 #[iv p1, iv p2, iv p3, iv p4, iv p5, iv p6, iv 2, iv (p1 &&& (1073741823 : Int32)), iv (((p1 &&& (1073741823 : Int32)) + (1 : Int32)) + (p2 &&& (255 : Int32))), iv (((((p1 &&& (1073741823 : Int32)) + (1 : Int32)) + (p2 &&& (255 : Int32))) + (1 : Int32)) + (((p2.toUInt32 >>> ((8 : Int32) &&& 31).toUInt32).toInt32) &&& (255 : Int32))), iv (((p1 &&& (1073741823 : Int32)) - (4 : Int32)) + (((p6.toUInt32 >>> ((2 : Int32) &&& 31).toUInt32).toInt32) &&& (1023 : Int32))), rv b87, iv p4] [.int (((p1 &&& (1073741823 : Int32)) - (4 : Int32)) + (((p6.toUInt32 >>> ((2 : Int32) &&& 31).toUInt32).toInt32) &&& (1023 : Int32))), .ref b87])
        obtain ⟨cq264, kq264, q264a, q264b, q264c⟩ := isOf hZ e93 P93_0
        obtain ⟨_, _, ⟨T264, L264, k264, n264⟩, -, X264, ⟨Lc264, hQ264, l264, y264, z264⟩, st264⟩ := X93.virtualBack hx (y := own_y8) (z := own_y8) hown (mvT hZ (own_w hw 43 rfl)) (mvT hZ (own_w hw 44 rfl)) (notFace_of_selects (args := #[]) (mvT hZ (own_w hw 46 rfl))) (mvT hZ (own_w hw 46 rfl)) (mvT hZ (own_w hw 45 rfl)) (by decide) (backOf (W := 0) (own_freq2 l Z a0 hw [] b87 b93_o0 b93_o1 k93_o2 k93_o3 (((p1 &&& (1073741823 : Int32)) - (4 : Int32)) + (((p6.toUInt32 >>> ((2 : Int32) &&& 31).toUInt32).toInt32) &&& (1023 : Int32))) (p1 &&& (1073741823 : Int32)) (((p1 &&& (1073741823 : Int32)) + (1 : Int32)) + (p2 &&& (255 : Int32))) p3 p4 T93.heap n0 Z94 P93_1 P93_2 P93_5 P93_6 P93_7) hZ (own_w hw 47 rfl) (own_w hw 3 rfl) (by decide) (by decide)) q264a q264c (g := (mkF m 165 #[iv p1, iv p2, iv p3, iv p4, iv p5, iv p6, iv 2, iv (p1 &&& (1073741823 : Int32)), iv (((p1 &&& (1073741823 : Int32)) + (1 : Int32)) + (p2 &&& (255 : Int32))), iv (((((p1 &&& (1073741823 : Int32)) + (1 : Int32)) + (p2 &&& (255 : Int32))) + (1 : Int32)) + (((p2.toUInt32 >>> ((8 : Int32) &&& 31).toUInt32).toInt32) &&& (255 : Int32))), iv (((p1 &&& (1073741823 : Int32)) - (4 : Int32)) + (((p6.toUInt32 >>> ((2 : Int32) &&& 31).toUInt32).toInt32) &&& (1023 : Int32))), rv b87, iv p4] [.int (((p1 &&& (1073741823 : Int32)) - (4 : Int32)) + (((p6.toUInt32 >>> ((2 : Int32) &&& 31).toUInt32).toInt32) &&& (1023 : Int32))), .ref b87])) rfl (by rw [hml]; rfl) (Steps.refl _) (argsL := [(.int (((p1 &&& (1073741823 : Int32)) - (4 : Int32)) + (((p6.toUInt32 >>> ((2 : Int32) &&& 31).toUInt32).toInt32) &&& (1023 : Int32))))]) (rest := []) (lenOf own_pd_1 rfl) rfl (by show 2 * 0 + _ ≤ _; exact Nat.le_of_eq rfl) (hb hby at_165) (fun _ _ => ⟨rfl, e93, (by decide : 5 + 0 ≤ _), (by decide : 11 + 0 ≤ _)⟩)
        dsimp only [Pt.U, Pt.locs, Pt.cells, Pt.slots] at X264 l264 y264 z264 st264 hQ264
        subst l264 y264 z264
        obtain ⟨hR264, e264, rfl⟩ := hQ264
        have N264 := Fr.app N93 (Fr.nil n0)
        rcases hR264 with ⟨rfl, ha264_0, ha264_1⟩ | ⟨rfl, ha264_0, ha264_1, ha264_2⟩ | ⟨rfl, ha264_0, ha264_1, ha264_2⟩ | ⟨rfl, ha264_0, ha264_1⟩ | ⟨rfl, ha264_0, ha264_1⟩
        · exfalso
          have f265 := rng32 p6
          have f266 : (3 : Int32).toInt = 3 := rfl
          have f267 := rng32 (p6 &&& (3 : Int32))
          have f268 : (p6 &&& (3 : Int32)).toInt = p6.toInt % 4 := c_mask p6 (3 : Int32) 2 (by decide) (by decide)
          have f269 : (2 : Int32).toInt = 2 := rfl
          have f270 := rng32 p1
          have f271 : (1073741823 : Int32).toInt = 1073741823 := rfl
          have f272 := rng32 (p1 &&& (1073741823 : Int32))
          have f273 : (p1 &&& (1073741823 : Int32)).toInt = p1.toInt % 1073741824 := c_mask p1 (1073741823 : Int32) 30 (by decide) (by decide)
          have f274 : (4 : Int32).toInt = 4 := rfl
          have f275 := rng32 ((p1 &&& (1073741823 : Int32)) - (4 : Int32))
          have f276 : ((p1 &&& (1073741823 : Int32)) - (4 : Int32)).toInt = (p1 &&& (1073741823 : Int32)).toInt - (4 : Int32).toInt := by have h := c_isub (p1 &&& (1073741823 : Int32)) (4 : Int32); omega
          have f277 := rng32 ((p6.toUInt32 >>> ((2 : Int32) &&& 31).toUInt32).toInt32)
          have f278 : ((p6.toUInt32 >>> ((2 : Int32) &&& 31).toUInt32).toInt32).toInt = (p6.toInt % 4294967296) / 4 := c_iushr p6 (2 : Int32) 2 (by decide) (by decide)
          have f279 : (1023 : Int32).toInt = 1023 := rfl
          have f280 := rng32 (((p6.toUInt32 >>> ((2 : Int32) &&& 31).toUInt32).toInt32) &&& (1023 : Int32))
          have f281 : (((p6.toUInt32 >>> ((2 : Int32) &&& 31).toUInt32).toInt32) &&& (1023 : Int32)).toInt = ((p6.toUInt32 >>> ((2 : Int32) &&& 31).toUInt32).toInt32).toInt % 1024 := c_mask ((p6.toUInt32 >>> ((2 : Int32) &&& 31).toUInt32).toInt32) (1023 : Int32) 10 (by decide) (by decide)
          have f282 := rng32 (((p1 &&& (1073741823 : Int32)) - (4 : Int32)) + (((p6.toUInt32 >>> ((2 : Int32) &&& 31).toUInt32).toInt32) &&& (1023 : Int32)))
          have f283 : (((p1 &&& (1073741823 : Int32)) - (4 : Int32)) + (((p6.toUInt32 >>> ((2 : Int32) &&& 31).toUInt32).toInt32) &&& (1023 : Int32))).toInt = ((p1 &&& (1073741823 : Int32)) - (4 : Int32)).toInt + (((p6.toUInt32 >>> ((2 : Int32) &&& 31).toUInt32).toInt32) &&& (1023 : Int32)).toInt := by have h := c_iadd ((p1 &&& (1073741823 : Int32)) - (4 : Int32)) (((p6.toUInt32 >>> ((2 : Int32) &&& 31).toUInt32).toInt32) &&& (1023 : Int32)); omega
          have f284 : (1 : Int32).toInt = 1 := rfl
          have f285 := rng32 ((p1 &&& (1073741823 : Int32)) + (1 : Int32))
          have f286 : ((p1 &&& (1073741823 : Int32)) + (1 : Int32)).toInt = (p1 &&& (1073741823 : Int32)).toInt + (1 : Int32).toInt := by have h := c_iadd (p1 &&& (1073741823 : Int32)) (1 : Int32); omega
          have f287 := rng32 p2
          have f288 : (255 : Int32).toInt = 255 := rfl
          have f289 := rng32 (p2 &&& (255 : Int32))
          have f290 : (p2 &&& (255 : Int32)).toInt = p2.toInt % 256 := c_mask p2 (255 : Int32) 8 (by decide) (by decide)
          have f291 := rng32 (((p1 &&& (1073741823 : Int32)) + (1 : Int32)) + (p2 &&& (255 : Int32)))
          have f292 : (((p1 &&& (1073741823 : Int32)) + (1 : Int32)) + (p2 &&& (255 : Int32))).toInt = ((p1 &&& (1073741823 : Int32)) + (1 : Int32)).toInt + (p2 &&& (255 : Int32)).toInt := by have h := c_iadd ((p1 &&& (1073741823 : Int32)) + (1 : Int32)) (p2 &&& (255 : Int32)); omega
          have g293 := hs1
          rw [← Int32.toInt_inj] at g293
          have g294 := hc95
          rw [← Int32.toInt_inj] at g294
          have g295 := hc263
          rw [← Int32.toInt_inj] at g295
          have g296 := ha264_0
          rw [Int32.lt_iff_toInt_lt] at g296
          have g297 := ha264_1
          rw [Int32.lt_iff_toInt_lt] at g297
          omega
        · exfalso
          have f298 := rng32 p6
          have f299 : (3 : Int32).toInt = 3 := rfl
          have f300 := rng32 (p6 &&& (3 : Int32))
          have f301 : (p6 &&& (3 : Int32)).toInt = p6.toInt % 4 := c_mask p6 (3 : Int32) 2 (by decide) (by decide)
          have f302 : (2 : Int32).toInt = 2 := rfl
          have f303 := rng32 p1
          have f304 : (1073741823 : Int32).toInt = 1073741823 := rfl
          have f305 := rng32 (p1 &&& (1073741823 : Int32))
          have f306 : (p1 &&& (1073741823 : Int32)).toInt = p1.toInt % 1073741824 := c_mask p1 (1073741823 : Int32) 30 (by decide) (by decide)
          have f307 : (4 : Int32).toInt = 4 := rfl
          have f308 := rng32 ((p1 &&& (1073741823 : Int32)) - (4 : Int32))
          have f309 : ((p1 &&& (1073741823 : Int32)) - (4 : Int32)).toInt = (p1 &&& (1073741823 : Int32)).toInt - (4 : Int32).toInt := by have h := c_isub (p1 &&& (1073741823 : Int32)) (4 : Int32); omega
          have f310 := rng32 ((p6.toUInt32 >>> ((2 : Int32) &&& 31).toUInt32).toInt32)
          have f311 : ((p6.toUInt32 >>> ((2 : Int32) &&& 31).toUInt32).toInt32).toInt = (p6.toInt % 4294967296) / 4 := c_iushr p6 (2 : Int32) 2 (by decide) (by decide)
          have f312 : (1023 : Int32).toInt = 1023 := rfl
          have f313 := rng32 (((p6.toUInt32 >>> ((2 : Int32) &&& 31).toUInt32).toInt32) &&& (1023 : Int32))
          have f314 : (((p6.toUInt32 >>> ((2 : Int32) &&& 31).toUInt32).toInt32) &&& (1023 : Int32)).toInt = ((p6.toUInt32 >>> ((2 : Int32) &&& 31).toUInt32).toInt32).toInt % 1024 := c_mask ((p6.toUInt32 >>> ((2 : Int32) &&& 31).toUInt32).toInt32) (1023 : Int32) 10 (by decide) (by decide)
          have f315 := rng32 (((p1 &&& (1073741823 : Int32)) - (4 : Int32)) + (((p6.toUInt32 >>> ((2 : Int32) &&& 31).toUInt32).toInt32) &&& (1023 : Int32)))
          have f316 : (((p1 &&& (1073741823 : Int32)) - (4 : Int32)) + (((p6.toUInt32 >>> ((2 : Int32) &&& 31).toUInt32).toInt32) &&& (1023 : Int32))).toInt = ((p1 &&& (1073741823 : Int32)) - (4 : Int32)).toInt + (((p6.toUInt32 >>> ((2 : Int32) &&& 31).toUInt32).toInt32) &&& (1023 : Int32)).toInt := by have h := c_iadd ((p1 &&& (1073741823 : Int32)) - (4 : Int32)) (((p6.toUInt32 >>> ((2 : Int32) &&& 31).toUInt32).toInt32) &&& (1023 : Int32)); omega
          have f317 : (1 : Int32).toInt = 1 := rfl
          have f318 := rng32 ((p1 &&& (1073741823 : Int32)) + (1 : Int32))
          have f319 : ((p1 &&& (1073741823 : Int32)) + (1 : Int32)).toInt = (p1 &&& (1073741823 : Int32)).toInt + (1 : Int32).toInt := by have h := c_iadd (p1 &&& (1073741823 : Int32)) (1 : Int32); omega
          have f320 := rng32 p2
          have f321 : (255 : Int32).toInt = 255 := rfl
          have f322 := rng32 (p2 &&& (255 : Int32))
          have f323 : (p2 &&& (255 : Int32)).toInt = p2.toInt % 256 := c_mask p2 (255 : Int32) 8 (by decide) (by decide)
          have f324 := rng32 (((p1 &&& (1073741823 : Int32)) + (1 : Int32)) + (p2 &&& (255 : Int32)))
          have f325 : (((p1 &&& (1073741823 : Int32)) + (1 : Int32)) + (p2 &&& (255 : Int32))).toInt = ((p1 &&& (1073741823 : Int32)) + (1 : Int32)).toInt + (p2 &&& (255 : Int32)).toInt := by have h := c_iadd ((p1 &&& (1073741823 : Int32)) + (1 : Int32)) (p2 &&& (255 : Int32)); omega
          have g326 := hs1
          rw [← Int32.toInt_inj] at g326
          have g327 := hc95
          rw [← Int32.toInt_inj] at g327
          have g328 := hc263
          rw [← Int32.toInt_inj] at g328
          have g329 := ha264_0
          rw [Int32.lt_iff_toInt_lt] at g329
          have g330 := ha264_1
          rw [Int32.lt_iff_toInt_lt] at g330
          have g331 := ha264_2
          rw [Int32.lt_iff_toInt_lt] at g331
          omega
        · refine own_tr st264 ?_
          show own_E p e below _ T264 (mkF m 168 #[iv p1, iv p2, iv p3, iv p4, iv p5, iv p6, iv 2, iv (p1 &&& (1073741823 : Int32)), iv (((p1 &&& (1073741823 : Int32)) + (1 : Int32)) + (p2 &&& (255 : Int32))), iv (((((p1 &&& (1073741823 : Int32)) + (1 : Int32)) + (p2 &&& (255 : Int32))) + (1 : Int32)) + (((p2.toUInt32 >>> ((8 : Int32) &&& 31).toUInt32).toInt32) &&& (255 : Int32))), iv (((p1 &&& (1073741823 : Int32)) - (4 : Int32)) + (((p6.toUInt32 >>> ((2 : Int32) &&& 31).toUInt32).toInt32) &&& (1023 : Int32))), rv b87, iv p4] [.int p4])
          refine own_st (fun t k => XS.iload X264.here hx rfl (hb hby at_168) rfl k) ?_
          show own_E p e below _ T264 (mkF m 170 #[iv p1, iv p2, iv p3, iv p4, iv p5, iv p6, iv 2, iv (p1 &&& (1073741823 : Int32)), iv (((p1 &&& (1073741823 : Int32)) + (1 : Int32)) + (p2 &&& (255 : Int32))), iv (((((p1 &&& (1073741823 : Int32)) + (1 : Int32)) + (p2 &&& (255 : Int32))) + (1 : Int32)) + (((p2.toUInt32 >>> ((8 : Int32) &&& 31).toUInt32).toInt32) &&& (255 : Int32))), iv (((p1 &&& (1073741823 : Int32)) - (4 : Int32)) + (((p6.toUInt32 >>> ((2 : Int32) &&& 31).toUInt32).toInt32) &&& (1023 : Int32))), rv b87, iv p4] [.int p4, .int p4])
          refine own_st (fun t k => XS.icmpNo X264.here hx rfl (hb hby at_170) rfl (teq rfl).2 k) ?_
          show own_E p e below _ T264 (mkF m 173 #[iv p1, iv p2, iv p3, iv p4, iv p5, iv p6, iv 2, iv (p1 &&& (1073741823 : Int32)), iv (((p1 &&& (1073741823 : Int32)) + (1 : Int32)) + (p2 &&& (255 : Int32))), iv (((((p1 &&& (1073741823 : Int32)) + (1 : Int32)) + (p2 &&& (255 : Int32))) + (1 : Int32)) + (((p2.toUInt32 >>> ((8 : Int32) &&& 31).toUInt32).toInt32) &&& (255 : Int32))), iv (((p1 &&& (1073741823 : Int32)) - (4 : Int32)) + (((p6.toUInt32 >>> ((2 : Int32) &&& 31).toUInt32).toInt32) &&& (1023 : Int32))), rv b87, iv p4] [])
          refine own_st (fun t k => XS.iconst X264.here hx rfl (hb hby at_173) k) ?_
          show own_E p e below _ T264 (mkF m 174 #[iv p1, iv p2, iv p3, iv p4, iv p5, iv p6, iv 2, iv (p1 &&& (1073741823 : Int32)), iv (((p1 &&& (1073741823 : Int32)) + (1 : Int32)) + (p2 &&& (255 : Int32))), iv (((((p1 &&& (1073741823 : Int32)) + (1 : Int32)) + (p2 &&& (255 : Int32))) + (1 : Int32)) + (((p2.toUInt32 >>> ((8 : Int32) &&& 31).toUInt32).toInt32) &&& (255 : Int32))), iv (((p1 &&& (1073741823 : Int32)) - (4 : Int32)) + (((p6.toUInt32 >>> ((2 : Int32) &&& 31).toUInt32).toInt32) &&& (1023 : Int32))), rv b87, iv p4] [.int 1])
          refine own_st (fun t k => XS.goto X264.here hx rfl (pc0 := 174) (pc' := 178) rfl (hb hby at_174) (by decide) (by decide) k) ?_
          show own_E p e below _ T264 (mkF m 178 #[iv p1, iv p2, iv p3, iv p4, iv p5, iv p6, iv 2, iv (p1 &&& (1073741823 : Int32)), iv (((p1 &&& (1073741823 : Int32)) + (1 : Int32)) + (p2 &&& (255 : Int32))), iv (((((p1 &&& (1073741823 : Int32)) + (1 : Int32)) + (p2 &&& (255 : Int32))) + (1 : Int32)) + (((p2.toUInt32 >>> ((8 : Int32) &&& 31).toUInt32).toInt32) &&& (255 : Int32))), iv (((p1 &&& (1073741823 : Int32)) - (4 : Int32)) + (((p6.toUInt32 >>> ((2 : Int32) &&& 31).toUInt32).toInt32) &&& (1023 : Int32))), rv b87, iv p4] [.int 1])
          refine own_retS X264 hx Bd.notSynchronized Bd.returns rfl (by decide) (hb hby at_178) (by decide) (by decide) ?_
          exact ⟨rfl, N264⟩
        · exfalso
          have f332 := rng32 p6
          have f333 : (3 : Int32).toInt = 3 := rfl
          have f334 := rng32 (p6 &&& (3 : Int32))
          have f335 : (p6 &&& (3 : Int32)).toInt = p6.toInt % 4 := c_mask p6 (3 : Int32) 2 (by decide) (by decide)
          have f336 : (2 : Int32).toInt = 2 := rfl
          have f337 := rng32 p1
          have f338 : (1073741823 : Int32).toInt = 1073741823 := rfl
          have f339 := rng32 (p1 &&& (1073741823 : Int32))
          have f340 : (p1 &&& (1073741823 : Int32)).toInt = p1.toInt % 1073741824 := c_mask p1 (1073741823 : Int32) 30 (by decide) (by decide)
          have f341 : (4 : Int32).toInt = 4 := rfl
          have f342 := rng32 ((p1 &&& (1073741823 : Int32)) - (4 : Int32))
          have f343 : ((p1 &&& (1073741823 : Int32)) - (4 : Int32)).toInt = (p1 &&& (1073741823 : Int32)).toInt - (4 : Int32).toInt := by have h := c_isub (p1 &&& (1073741823 : Int32)) (4 : Int32); omega
          have f344 := rng32 ((p6.toUInt32 >>> ((2 : Int32) &&& 31).toUInt32).toInt32)
          have f345 : ((p6.toUInt32 >>> ((2 : Int32) &&& 31).toUInt32).toInt32).toInt = (p6.toInt % 4294967296) / 4 := c_iushr p6 (2 : Int32) 2 (by decide) (by decide)
          have f346 : (1023 : Int32).toInt = 1023 := rfl
          have f347 := rng32 (((p6.toUInt32 >>> ((2 : Int32) &&& 31).toUInt32).toInt32) &&& (1023 : Int32))
          have f348 : (((p6.toUInt32 >>> ((2 : Int32) &&& 31).toUInt32).toInt32) &&& (1023 : Int32)).toInt = ((p6.toUInt32 >>> ((2 : Int32) &&& 31).toUInt32).toInt32).toInt % 1024 := c_mask ((p6.toUInt32 >>> ((2 : Int32) &&& 31).toUInt32).toInt32) (1023 : Int32) 10 (by decide) (by decide)
          have f349 := rng32 (((p1 &&& (1073741823 : Int32)) - (4 : Int32)) + (((p6.toUInt32 >>> ((2 : Int32) &&& 31).toUInt32).toInt32) &&& (1023 : Int32)))
          have f350 : (((p1 &&& (1073741823 : Int32)) - (4 : Int32)) + (((p6.toUInt32 >>> ((2 : Int32) &&& 31).toUInt32).toInt32) &&& (1023 : Int32))).toInt = ((p1 &&& (1073741823 : Int32)) - (4 : Int32)).toInt + (((p6.toUInt32 >>> ((2 : Int32) &&& 31).toUInt32).toInt32) &&& (1023 : Int32)).toInt := by have h := c_iadd ((p1 &&& (1073741823 : Int32)) - (4 : Int32)) (((p6.toUInt32 >>> ((2 : Int32) &&& 31).toUInt32).toInt32) &&& (1023 : Int32)); omega
          have f351 : (1 : Int32).toInt = 1 := rfl
          have f352 := rng32 ((p1 &&& (1073741823 : Int32)) + (1 : Int32))
          have f353 : ((p1 &&& (1073741823 : Int32)) + (1 : Int32)).toInt = (p1 &&& (1073741823 : Int32)).toInt + (1 : Int32).toInt := by have h := c_iadd (p1 &&& (1073741823 : Int32)) (1 : Int32); omega
          have f354 := rng32 p2
          have f355 : (255 : Int32).toInt = 255 := rfl
          have f356 := rng32 (p2 &&& (255 : Int32))
          have f357 : (p2 &&& (255 : Int32)).toInt = p2.toInt % 256 := c_mask p2 (255 : Int32) 8 (by decide) (by decide)
          have f358 := rng32 (((p1 &&& (1073741823 : Int32)) + (1 : Int32)) + (p2 &&& (255 : Int32)))
          have f359 : (((p1 &&& (1073741823 : Int32)) + (1 : Int32)) + (p2 &&& (255 : Int32))).toInt = ((p1 &&& (1073741823 : Int32)) + (1 : Int32)).toInt + (p2 &&& (255 : Int32)).toInt := by have h := c_iadd ((p1 &&& (1073741823 : Int32)) + (1 : Int32)) (p2 &&& (255 : Int32)); omega
          have g360 := hs1
          rw [← Int32.toInt_inj] at g360
          have g361 := hc95
          rw [← Int32.toInt_inj] at g361
          have g362 := hc263
          rw [← Int32.toInt_inj] at g362
          have g363 := ha264_0
          rw [Int32.lt_iff_toInt_lt] at g363
          have g364 := ha264_1
          rw [Int32.lt_iff_toInt_lt] at g364
          omega
        · exfalso
          have f365 := rng32 p6
          have f366 : (3 : Int32).toInt = 3 := rfl
          have f367 := rng32 (p6 &&& (3 : Int32))
          have f368 : (p6 &&& (3 : Int32)).toInt = p6.toInt % 4 := c_mask p6 (3 : Int32) 2 (by decide) (by decide)
          have f369 : (2 : Int32).toInt = 2 := rfl
          have f370 := rng32 p1
          have f371 : (1073741823 : Int32).toInt = 1073741823 := rfl
          have f372 := rng32 (p1 &&& (1073741823 : Int32))
          have f373 : (p1 &&& (1073741823 : Int32)).toInt = p1.toInt % 1073741824 := c_mask p1 (1073741823 : Int32) 30 (by decide) (by decide)
          have f374 : (4 : Int32).toInt = 4 := rfl
          have f375 := rng32 ((p1 &&& (1073741823 : Int32)) - (4 : Int32))
          have f376 : ((p1 &&& (1073741823 : Int32)) - (4 : Int32)).toInt = (p1 &&& (1073741823 : Int32)).toInt - (4 : Int32).toInt := by have h := c_isub (p1 &&& (1073741823 : Int32)) (4 : Int32); omega
          have f377 := rng32 ((p6.toUInt32 >>> ((2 : Int32) &&& 31).toUInt32).toInt32)
          have f378 : ((p6.toUInt32 >>> ((2 : Int32) &&& 31).toUInt32).toInt32).toInt = (p6.toInt % 4294967296) / 4 := c_iushr p6 (2 : Int32) 2 (by decide) (by decide)
          have f379 : (1023 : Int32).toInt = 1023 := rfl
          have f380 := rng32 (((p6.toUInt32 >>> ((2 : Int32) &&& 31).toUInt32).toInt32) &&& (1023 : Int32))
          have f381 : (((p6.toUInt32 >>> ((2 : Int32) &&& 31).toUInt32).toInt32) &&& (1023 : Int32)).toInt = ((p6.toUInt32 >>> ((2 : Int32) &&& 31).toUInt32).toInt32).toInt % 1024 := c_mask ((p6.toUInt32 >>> ((2 : Int32) &&& 31).toUInt32).toInt32) (1023 : Int32) 10 (by decide) (by decide)
          have f382 := rng32 (((p1 &&& (1073741823 : Int32)) - (4 : Int32)) + (((p6.toUInt32 >>> ((2 : Int32) &&& 31).toUInt32).toInt32) &&& (1023 : Int32)))
          have f383 : (((p1 &&& (1073741823 : Int32)) - (4 : Int32)) + (((p6.toUInt32 >>> ((2 : Int32) &&& 31).toUInt32).toInt32) &&& (1023 : Int32))).toInt = ((p1 &&& (1073741823 : Int32)) - (4 : Int32)).toInt + (((p6.toUInt32 >>> ((2 : Int32) &&& 31).toUInt32).toInt32) &&& (1023 : Int32)).toInt := by have h := c_iadd ((p1 &&& (1073741823 : Int32)) - (4 : Int32)) (((p6.toUInt32 >>> ((2 : Int32) &&& 31).toUInt32).toInt32) &&& (1023 : Int32)); omega
          have f384 : (1 : Int32).toInt = 1 := rfl
          have f385 := rng32 ((p1 &&& (1073741823 : Int32)) + (1 : Int32))
          have f386 : ((p1 &&& (1073741823 : Int32)) + (1 : Int32)).toInt = (p1 &&& (1073741823 : Int32)).toInt + (1 : Int32).toInt := by have h := c_iadd (p1 &&& (1073741823 : Int32)) (1 : Int32); omega
          have f387 := rng32 p2
          have f388 : (255 : Int32).toInt = 255 := rfl
          have f389 := rng32 (p2 &&& (255 : Int32))
          have f390 : (p2 &&& (255 : Int32)).toInt = p2.toInt % 256 := c_mask p2 (255 : Int32) 8 (by decide) (by decide)
          have f391 := rng32 (((p1 &&& (1073741823 : Int32)) + (1 : Int32)) + (p2 &&& (255 : Int32)))
          have f392 : (((p1 &&& (1073741823 : Int32)) + (1 : Int32)) + (p2 &&& (255 : Int32))).toInt = ((p1 &&& (1073741823 : Int32)) + (1 : Int32)).toInt + (p2 &&& (255 : Int32)).toInt := by have h := c_iadd ((p1 &&& (1073741823 : Int32)) + (1 : Int32)) (p2 &&& (255 : Int32)); omega
          have g393 := hs1
          rw [← Int32.toInt_inj] at g393
          have g394 := hc95
          rw [← Int32.toInt_inj] at g394
          have g395 := hc263
          rw [← Int32.toInt_inj] at g395
          have g396 := ha264_0
          rw [Int32.lt_iff_toInt_lt] at g396
          have g397 := ha264_1
          rw [Int32.lt_iff_toInt_lt] at g397
          omega
      · refine own_st (fun t k => XS.icmpYes X93.here hx rfl (pc0 := 138) (pc' := 144) rfl (hb hby at_138) rfl (feq hc263).2 (by decide) (by decide) k) ?_
        show own_E p e below _ T93 (mkF m 144 #[iv p1, iv p2, iv p3, iv p4, iv p5, iv p6, iv 2, iv (p1 &&& (1073741823 : Int32)), iv (((p1 &&& (1073741823 : Int32)) + (1 : Int32)) + (p2 &&& (255 : Int32))), iv (((((p1 &&& (1073741823 : Int32)) + (1 : Int32)) + (p2 &&& (255 : Int32))) + (1 : Int32)) + (((p2.toUInt32 >>> ((8 : Int32) &&& 31).toUInt32).toInt32) &&& (255 : Int32))), iv (((p1 &&& (1073741823 : Int32)) - (4 : Int32)) + (((p6.toUInt32 >>> ((2 : Int32) &&& 31).toUInt32).toInt32) &&& (1023 : Int32))), rv b87, iv 0] [])
        refine own_st (fun t k => XS.iload X93.here hx rfl (hb hby at_144) rfl k) ?_
        show own_E p e below _ T93 (mkF m 146 #[iv p1, iv p2, iv p3, iv p4, iv p5, iv p6, iv 2, iv (p1 &&& (1073741823 : Int32)), iv (((p1 &&& (1073741823 : Int32)) + (1 : Int32)) + (p2 &&& (255 : Int32))), iv (((((p1 &&& (1073741823 : Int32)) + (1 : Int32)) + (p2 &&& (255 : Int32))) + (1 : Int32)) + (((p2.toUInt32 >>> ((8 : Int32) &&& 31).toUInt32).toInt32) &&& (255 : Int32))), iv (((p1 &&& (1073741823 : Int32)) - (4 : Int32)) + (((p6.toUInt32 >>> ((2 : Int32) &&& 31).toUInt32).toInt32) &&& (1023 : Int32))), rv b87, iv 0] [.int 2])
        refine own_st (fun t k => XS.iconst X93.here hx rfl (hb hby at_146) k) ?_
        show own_E p e below _ T93 (mkF m 147 #[iv p1, iv p2, iv p3, iv p4, iv p5, iv p6, iv 2, iv (p1 &&& (1073741823 : Int32)), iv (((p1 &&& (1073741823 : Int32)) + (1 : Int32)) + (p2 &&& (255 : Int32))), iv (((((p1 &&& (1073741823 : Int32)) + (1 : Int32)) + (p2 &&& (255 : Int32))) + (1 : Int32)) + (((p2.toUInt32 >>> ((8 : Int32) &&& 31).toUInt32).toInt32) &&& (255 : Int32))), iv (((p1 &&& (1073741823 : Int32)) - (4 : Int32)) + (((p6.toUInt32 >>> ((2 : Int32) &&& 31).toUInt32).toInt32) &&& (1023 : Int32))), rv b87, iv 0] [.int 3, .int 2])
        refine own_st (fun t k => XS.icmpYes X93.here hx rfl (pc0 := 147) (pc' := 161) rfl (hb hby at_147) rfl (by decide) (by decide) (by decide) k) ?_
        show own_E p e below _ T93 (mkF m 161 #[iv p1, iv p2, iv p3, iv p4, iv p5, iv p6, iv 2, iv (p1 &&& (1073741823 : Int32)), iv (((p1 &&& (1073741823 : Int32)) + (1 : Int32)) + (p2 &&& (255 : Int32))), iv (((((p1 &&& (1073741823 : Int32)) + (1 : Int32)) + (p2 &&& (255 : Int32))) + (1 : Int32)) + (((p2.toUInt32 >>> ((8 : Int32) &&& 31).toUInt32).toInt32) &&& (255 : Int32))), iv (((p1 &&& (1073741823 : Int32)) - (4 : Int32)) + (((p6.toUInt32 >>> ((2 : Int32) &&& 31).toUInt32).toInt32) &&& (1023 : Int32))), rv b87, iv 0] [])
        refine own_st (fun t k => XS.aload X93.here hx rfl (hb hby at_161) rfl rfl k) ?_
        show own_E p e below _ T93 (mkF m 163 #[iv p1, iv p2, iv p3, iv p4, iv p5, iv p6, iv 2, iv (p1 &&& (1073741823 : Int32)), iv (((p1 &&& (1073741823 : Int32)) + (1 : Int32)) + (p2 &&& (255 : Int32))), iv (((((p1 &&& (1073741823 : Int32)) + (1 : Int32)) + (p2 &&& (255 : Int32))) + (1 : Int32)) + (((p2.toUInt32 >>> ((8 : Int32) &&& 31).toUInt32).toInt32) &&& (255 : Int32))), iv (((p1 &&& (1073741823 : Int32)) - (4 : Int32)) + (((p6.toUInt32 >>> ((2 : Int32) &&& 31).toUInt32).toInt32) &&& (1023 : Int32))), rv b87, iv 0] [.ref b87])
        refine own_st (fun t k => XS.iload X93.here hx rfl (hb hby at_163) rfl k) ?_
        show own_E p e below _ T93 (mkF m 165 #[iv p1, iv p2, iv p3, iv p4, iv p5, iv p6, iv 2, iv (p1 &&& (1073741823 : Int32)), iv (((p1 &&& (1073741823 : Int32)) + (1 : Int32)) + (p2 &&& (255 : Int32))), iv (((((p1 &&& (1073741823 : Int32)) + (1 : Int32)) + (p2 &&& (255 : Int32))) + (1 : Int32)) + (((p2.toUInt32 >>> ((8 : Int32) &&& 31).toUInt32).toInt32) &&& (255 : Int32))), iv (((p1 &&& (1073741823 : Int32)) - (4 : Int32)) + (((p6.toUInt32 >>> ((2 : Int32) &&& 31).toUInt32).toInt32) &&& (1023 : Int32))), rv b87, iv 0] [.int (((p1 &&& (1073741823 : Int32)) - (4 : Int32)) + (((p6.toUInt32 >>> ((2 : Int32) &&& 31).toUInt32).toInt32) &&& (1023 : Int32))), .ref b87])
        obtain ⟨cq398, kq398, q398a, q398b, q398c⟩ := isOf hZ e93 P93_0
        obtain ⟨_, _, ⟨T398, L398, k398, n398⟩, -, X398, ⟨Lc398, hQ398, l398, y398, z398⟩, st398⟩ := X93.virtualBack hx (y := own_y8) (z := own_y8) hown (mvT hZ (own_w hw 43 rfl)) (mvT hZ (own_w hw 44 rfl)) (notFace_of_selects (args := #[]) (mvT hZ (own_w hw 46 rfl))) (mvT hZ (own_w hw 46 rfl)) (mvT hZ (own_w hw 45 rfl)) (by decide) (backOf (W := 0) (own_freq2 l Z a0 hw [] b87 b93_o0 b93_o1 k93_o2 k93_o3 (((p1 &&& (1073741823 : Int32)) - (4 : Int32)) + (((p6.toUInt32 >>> ((2 : Int32) &&& 31).toUInt32).toInt32) &&& (1023 : Int32))) (p1 &&& (1073741823 : Int32)) (((p1 &&& (1073741823 : Int32)) + (1 : Int32)) + (p2 &&& (255 : Int32))) p3 p4 T93.heap n0 Z94 P93_1 P93_2 P93_5 P93_6 P93_7) hZ (own_w hw 47 rfl) (own_w hw 3 rfl) (by decide) (by decide)) q398a q398c (g := (mkF m 165 #[iv p1, iv p2, iv p3, iv p4, iv p5, iv p6, iv 2, iv (p1 &&& (1073741823 : Int32)), iv (((p1 &&& (1073741823 : Int32)) + (1 : Int32)) + (p2 &&& (255 : Int32))), iv (((((p1 &&& (1073741823 : Int32)) + (1 : Int32)) + (p2 &&& (255 : Int32))) + (1 : Int32)) + (((p2.toUInt32 >>> ((8 : Int32) &&& 31).toUInt32).toInt32) &&& (255 : Int32))), iv (((p1 &&& (1073741823 : Int32)) - (4 : Int32)) + (((p6.toUInt32 >>> ((2 : Int32) &&& 31).toUInt32).toInt32) &&& (1023 : Int32))), rv b87, iv 0] [.int (((p1 &&& (1073741823 : Int32)) - (4 : Int32)) + (((p6.toUInt32 >>> ((2 : Int32) &&& 31).toUInt32).toInt32) &&& (1023 : Int32))), .ref b87])) rfl (by rw [hml]; rfl) (Steps.refl _) (argsL := [(.int (((p1 &&& (1073741823 : Int32)) - (4 : Int32)) + (((p6.toUInt32 >>> ((2 : Int32) &&& 31).toUInt32).toInt32) &&& (1023 : Int32))))]) (rest := []) (lenOf own_pd_1 rfl) rfl (by show 2 * 0 + _ ≤ _; exact Nat.le_of_eq rfl) (hb hby at_165) (fun _ _ => ⟨rfl, e93, (by decide : 5 + 0 ≤ _), (by decide : 11 + 0 ≤ _)⟩)
        dsimp only [Pt.U, Pt.locs, Pt.cells, Pt.slots] at X398 l398 y398 z398 st398 hQ398
        subst l398 y398 z398
        obtain ⟨hR398, e398, rfl⟩ := hQ398
        have N398 := Fr.app N93 (Fr.nil n0)
        rcases hR398 with ⟨rfl, ha398_0, ha398_1⟩ | ⟨rfl, ha398_0, ha398_1, ha398_2⟩ | ⟨rfl, ha398_0, ha398_1, ha398_2⟩ | ⟨rfl, ha398_0, ha398_1⟩ | ⟨rfl, ha398_0, ha398_1⟩
        · refine own_tr st398 ?_
          show own_E p e below _ T398 (mkF m 168 #[iv p1, iv p2, iv p3, iv p4, iv p5, iv p6, iv 2, iv (p1 &&& (1073741823 : Int32)), iv (((p1 &&& (1073741823 : Int32)) + (1 : Int32)) + (p2 &&& (255 : Int32))), iv (((((p1 &&& (1073741823 : Int32)) + (1 : Int32)) + (p2 &&& (255 : Int32))) + (1 : Int32)) + (((p2.toUInt32 >>> ((8 : Int32) &&& 31).toUInt32).toInt32) &&& (255 : Int32))), iv (((p1 &&& (1073741823 : Int32)) - (4 : Int32)) + (((p6.toUInt32 >>> ((2 : Int32) &&& 31).toUInt32).toInt32) &&& (1023 : Int32))), rv b87, iv 0] [.int 0])
          refine own_st (fun t k => XS.iload X398.here hx rfl (hb hby at_168) rfl k) ?_
          show own_E p e below _ T398 (mkF m 170 #[iv p1, iv p2, iv p3, iv p4, iv p5, iv p6, iv 2, iv (p1 &&& (1073741823 : Int32)), iv (((p1 &&& (1073741823 : Int32)) + (1 : Int32)) + (p2 &&& (255 : Int32))), iv (((((p1 &&& (1073741823 : Int32)) + (1 : Int32)) + (p2 &&& (255 : Int32))) + (1 : Int32)) + (((p2.toUInt32 >>> ((8 : Int32) &&& 31).toUInt32).toInt32) &&& (255 : Int32))), iv (((p1 &&& (1073741823 : Int32)) - (4 : Int32)) + (((p6.toUInt32 >>> ((2 : Int32) &&& 31).toUInt32).toInt32) &&& (1023 : Int32))), rv b87, iv 0] [.int 0, .int 0])
          refine own_st (fun t k => XS.icmpNo X398.here hx rfl (hb hby at_170) rfl (by decide) k) ?_
          show own_E p e below _ T398 (mkF m 173 #[iv p1, iv p2, iv p3, iv p4, iv p5, iv p6, iv 2, iv (p1 &&& (1073741823 : Int32)), iv (((p1 &&& (1073741823 : Int32)) + (1 : Int32)) + (p2 &&& (255 : Int32))), iv (((((p1 &&& (1073741823 : Int32)) + (1 : Int32)) + (p2 &&& (255 : Int32))) + (1 : Int32)) + (((p2.toUInt32 >>> ((8 : Int32) &&& 31).toUInt32).toInt32) &&& (255 : Int32))), iv (((p1 &&& (1073741823 : Int32)) - (4 : Int32)) + (((p6.toUInt32 >>> ((2 : Int32) &&& 31).toUInt32).toInt32) &&& (1023 : Int32))), rv b87, iv 0] [])
          refine own_st (fun t k => XS.iconst X398.here hx rfl (hb hby at_173) k) ?_
          show own_E p e below _ T398 (mkF m 174 #[iv p1, iv p2, iv p3, iv p4, iv p5, iv p6, iv 2, iv (p1 &&& (1073741823 : Int32)), iv (((p1 &&& (1073741823 : Int32)) + (1 : Int32)) + (p2 &&& (255 : Int32))), iv (((((p1 &&& (1073741823 : Int32)) + (1 : Int32)) + (p2 &&& (255 : Int32))) + (1 : Int32)) + (((p2.toUInt32 >>> ((8 : Int32) &&& 31).toUInt32).toInt32) &&& (255 : Int32))), iv (((p1 &&& (1073741823 : Int32)) - (4 : Int32)) + (((p6.toUInt32 >>> ((2 : Int32) &&& 31).toUInt32).toInt32) &&& (1023 : Int32))), rv b87, iv 0] [.int 1])
          refine own_st (fun t k => XS.goto X398.here hx rfl (pc0 := 174) (pc' := 178) rfl (hb hby at_174) (by decide) (by decide) k) ?_
          show own_E p e below _ T398 (mkF m 178 #[iv p1, iv p2, iv p3, iv p4, iv p5, iv p6, iv 2, iv (p1 &&& (1073741823 : Int32)), iv (((p1 &&& (1073741823 : Int32)) + (1 : Int32)) + (p2 &&& (255 : Int32))), iv (((((p1 &&& (1073741823 : Int32)) + (1 : Int32)) + (p2 &&& (255 : Int32))) + (1 : Int32)) + (((p2.toUInt32 >>> ((8 : Int32) &&& 31).toUInt32).toInt32) &&& (255 : Int32))), iv (((p1 &&& (1073741823 : Int32)) - (4 : Int32)) + (((p6.toUInt32 >>> ((2 : Int32) &&& 31).toUInt32).toInt32) &&& (1023 : Int32))), rv b87, iv 0] [.int 1])
          refine own_retS X398 hx Bd.notSynchronized Bd.returns rfl (by decide) (hb hby at_178) (by decide) (by decide) ?_
          exact ⟨rfl, N398⟩
        · refine own_tr st398 ?_
          show own_E p e below _ T398 (mkF m 168 #[iv p1, iv p2, iv p3, iv p4, iv p5, iv p6, iv 2, iv (p1 &&& (1073741823 : Int32)), iv (((p1 &&& (1073741823 : Int32)) + (1 : Int32)) + (p2 &&& (255 : Int32))), iv (((((p1 &&& (1073741823 : Int32)) + (1 : Int32)) + (p2 &&& (255 : Int32))) + (1 : Int32)) + (((p2.toUInt32 >>> ((8 : Int32) &&& 31).toUInt32).toInt32) &&& (255 : Int32))), iv (((p1 &&& (1073741823 : Int32)) - (4 : Int32)) + (((p6.toUInt32 >>> ((2 : Int32) &&& 31).toUInt32).toInt32) &&& (1023 : Int32))), rv b87, iv 0] [.int 0])
          refine own_st (fun t k => XS.iload X398.here hx rfl (hb hby at_168) rfl k) ?_
          show own_E p e below _ T398 (mkF m 170 #[iv p1, iv p2, iv p3, iv p4, iv p5, iv p6, iv 2, iv (p1 &&& (1073741823 : Int32)), iv (((p1 &&& (1073741823 : Int32)) + (1 : Int32)) + (p2 &&& (255 : Int32))), iv (((((p1 &&& (1073741823 : Int32)) + (1 : Int32)) + (p2 &&& (255 : Int32))) + (1 : Int32)) + (((p2.toUInt32 >>> ((8 : Int32) &&& 31).toUInt32).toInt32) &&& (255 : Int32))), iv (((p1 &&& (1073741823 : Int32)) - (4 : Int32)) + (((p6.toUInt32 >>> ((2 : Int32) &&& 31).toUInt32).toInt32) &&& (1023 : Int32))), rv b87, iv 0] [.int 0, .int 0])
          refine own_st (fun t k => XS.icmpNo X398.here hx rfl (hb hby at_170) rfl (by decide) k) ?_
          show own_E p e below _ T398 (mkF m 173 #[iv p1, iv p2, iv p3, iv p4, iv p5, iv p6, iv 2, iv (p1 &&& (1073741823 : Int32)), iv (((p1 &&& (1073741823 : Int32)) + (1 : Int32)) + (p2 &&& (255 : Int32))), iv (((((p1 &&& (1073741823 : Int32)) + (1 : Int32)) + (p2 &&& (255 : Int32))) + (1 : Int32)) + (((p2.toUInt32 >>> ((8 : Int32) &&& 31).toUInt32).toInt32) &&& (255 : Int32))), iv (((p1 &&& (1073741823 : Int32)) - (4 : Int32)) + (((p6.toUInt32 >>> ((2 : Int32) &&& 31).toUInt32).toInt32) &&& (1023 : Int32))), rv b87, iv 0] [])
          refine own_st (fun t k => XS.iconst X398.here hx rfl (hb hby at_173) k) ?_
          show own_E p e below _ T398 (mkF m 174 #[iv p1, iv p2, iv p3, iv p4, iv p5, iv p6, iv 2, iv (p1 &&& (1073741823 : Int32)), iv (((p1 &&& (1073741823 : Int32)) + (1 : Int32)) + (p2 &&& (255 : Int32))), iv (((((p1 &&& (1073741823 : Int32)) + (1 : Int32)) + (p2 &&& (255 : Int32))) + (1 : Int32)) + (((p2.toUInt32 >>> ((8 : Int32) &&& 31).toUInt32).toInt32) &&& (255 : Int32))), iv (((p1 &&& (1073741823 : Int32)) - (4 : Int32)) + (((p6.toUInt32 >>> ((2 : Int32) &&& 31).toUInt32).toInt32) &&& (1023 : Int32))), rv b87, iv 0] [.int 1])
          refine own_st (fun t k => XS.goto X398.here hx rfl (pc0 := 174) (pc' := 178) rfl (hb hby at_174) (by decide) (by decide) k) ?_
          show own_E p e below _ T398 (mkF m 178 #[iv p1, iv p2, iv p3, iv p4, iv p5, iv p6, iv 2, iv (p1 &&& (1073741823 : Int32)), iv (((p1 &&& (1073741823 : Int32)) + (1 : Int32)) + (p2 &&& (255 : Int32))), iv (((((p1 &&& (1073741823 : Int32)) + (1 : Int32)) + (p2 &&& (255 : Int32))) + (1 : Int32)) + (((p2.toUInt32 >>> ((8 : Int32) &&& 31).toUInt32).toInt32) &&& (255 : Int32))), iv (((p1 &&& (1073741823 : Int32)) - (4 : Int32)) + (((p6.toUInt32 >>> ((2 : Int32) &&& 31).toUInt32).toInt32) &&& (1023 : Int32))), rv b87, iv 0] [.int 1])
          refine own_retS X398 hx Bd.notSynchronized Bd.returns rfl (by decide) (hb hby at_178) (by decide) (by decide) ?_
          exact ⟨rfl, N398⟩
        · exfalso
          have f399 := rng32 p6
          have f400 : (3 : Int32).toInt = 3 := rfl
          have f401 := rng32 (p6 &&& (3 : Int32))
          have f402 : (p6 &&& (3 : Int32)).toInt = p6.toInt % 4 := c_mask p6 (3 : Int32) 2 (by decide) (by decide)
          have f403 : (2 : Int32).toInt = 2 := rfl
          have f404 := rng32 p1
          have f405 : (1073741823 : Int32).toInt = 1073741823 := rfl
          have f406 := rng32 (p1 &&& (1073741823 : Int32))
          have f407 : (p1 &&& (1073741823 : Int32)).toInt = p1.toInt % 1073741824 := c_mask p1 (1073741823 : Int32) 30 (by decide) (by decide)
          have f408 : (4 : Int32).toInt = 4 := rfl
          have f409 := rng32 ((p1 &&& (1073741823 : Int32)) - (4 : Int32))
          have f410 : ((p1 &&& (1073741823 : Int32)) - (4 : Int32)).toInt = (p1 &&& (1073741823 : Int32)).toInt - (4 : Int32).toInt := by have h := c_isub (p1 &&& (1073741823 : Int32)) (4 : Int32); omega
          have f411 := rng32 ((p6.toUInt32 >>> ((2 : Int32) &&& 31).toUInt32).toInt32)
          have f412 : ((p6.toUInt32 >>> ((2 : Int32) &&& 31).toUInt32).toInt32).toInt = (p6.toInt % 4294967296) / 4 := c_iushr p6 (2 : Int32) 2 (by decide) (by decide)
          have f413 : (1023 : Int32).toInt = 1023 := rfl
          have f414 := rng32 (((p6.toUInt32 >>> ((2 : Int32) &&& 31).toUInt32).toInt32) &&& (1023 : Int32))
          have f415 : (((p6.toUInt32 >>> ((2 : Int32) &&& 31).toUInt32).toInt32) &&& (1023 : Int32)).toInt = ((p6.toUInt32 >>> ((2 : Int32) &&& 31).toUInt32).toInt32).toInt % 1024 := c_mask ((p6.toUInt32 >>> ((2 : Int32) &&& 31).toUInt32).toInt32) (1023 : Int32) 10 (by decide) (by decide)
          have f416 := rng32 (((p1 &&& (1073741823 : Int32)) - (4 : Int32)) + (((p6.toUInt32 >>> ((2 : Int32) &&& 31).toUInt32).toInt32) &&& (1023 : Int32)))
          have f417 : (((p1 &&& (1073741823 : Int32)) - (4 : Int32)) + (((p6.toUInt32 >>> ((2 : Int32) &&& 31).toUInt32).toInt32) &&& (1023 : Int32))).toInt = ((p1 &&& (1073741823 : Int32)) - (4 : Int32)).toInt + (((p6.toUInt32 >>> ((2 : Int32) &&& 31).toUInt32).toInt32) &&& (1023 : Int32)).toInt := by have h := c_iadd ((p1 &&& (1073741823 : Int32)) - (4 : Int32)) (((p6.toUInt32 >>> ((2 : Int32) &&& 31).toUInt32).toInt32) &&& (1023 : Int32)); omega
          have f418 : (1 : Int32).toInt = 1 := rfl
          have f419 := rng32 ((p1 &&& (1073741823 : Int32)) + (1 : Int32))
          have f420 : ((p1 &&& (1073741823 : Int32)) + (1 : Int32)).toInt = (p1 &&& (1073741823 : Int32)).toInt + (1 : Int32).toInt := by have h := c_iadd (p1 &&& (1073741823 : Int32)) (1 : Int32); omega
          have f421 := rng32 p2
          have f422 : (255 : Int32).toInt = 255 := rfl
          have f423 := rng32 (p2 &&& (255 : Int32))
          have f424 : (p2 &&& (255 : Int32)).toInt = p2.toInt % 256 := c_mask p2 (255 : Int32) 8 (by decide) (by decide)
          have f425 := rng32 (((p1 &&& (1073741823 : Int32)) + (1 : Int32)) + (p2 &&& (255 : Int32)))
          have f426 : (((p1 &&& (1073741823 : Int32)) + (1 : Int32)) + (p2 &&& (255 : Int32))).toInt = ((p1 &&& (1073741823 : Int32)) + (1 : Int32)).toInt + (p2 &&& (255 : Int32)).toInt := by have h := c_iadd ((p1 &&& (1073741823 : Int32)) + (1 : Int32)) (p2 &&& (255 : Int32)); omega
          have g427 := hs1
          rw [← Int32.toInt_inj] at g427
          have g428 := hc95
          rw [← Int32.toInt_inj] at g428
          have g429 := hc263
          rw [← Int32.toInt_inj] at g429
          have g430 := ha398_0
          rw [Int32.lt_iff_toInt_lt] at g430
          have g431 := ha398_1
          rw [Int32.lt_iff_toInt_lt] at g431
          have g432 := ha398_2
          rw [Int32.lt_iff_toInt_lt] at g432
          omega
        · refine own_tr st398 ?_
          show own_E p e below _ T398 (mkF m 168 #[iv p1, iv p2, iv p3, iv p4, iv p5, iv p6, iv 2, iv (p1 &&& (1073741823 : Int32)), iv (((p1 &&& (1073741823 : Int32)) + (1 : Int32)) + (p2 &&& (255 : Int32))), iv (((((p1 &&& (1073741823 : Int32)) + (1 : Int32)) + (p2 &&& (255 : Int32))) + (1 : Int32)) + (((p2.toUInt32 >>> ((8 : Int32) &&& 31).toUInt32).toInt32) &&& (255 : Int32))), iv (((p1 &&& (1073741823 : Int32)) - (4 : Int32)) + (((p6.toUInt32 >>> ((2 : Int32) &&& 31).toUInt32).toInt32) &&& (1023 : Int32))), rv b87, iv 0] [.int 0])
          refine own_st (fun t k => XS.iload X398.here hx rfl (hb hby at_168) rfl k) ?_
          show own_E p e below _ T398 (mkF m 170 #[iv p1, iv p2, iv p3, iv p4, iv p5, iv p6, iv 2, iv (p1 &&& (1073741823 : Int32)), iv (((p1 &&& (1073741823 : Int32)) + (1 : Int32)) + (p2 &&& (255 : Int32))), iv (((((p1 &&& (1073741823 : Int32)) + (1 : Int32)) + (p2 &&& (255 : Int32))) + (1 : Int32)) + (((p2.toUInt32 >>> ((8 : Int32) &&& 31).toUInt32).toInt32) &&& (255 : Int32))), iv (((p1 &&& (1073741823 : Int32)) - (4 : Int32)) + (((p6.toUInt32 >>> ((2 : Int32) &&& 31).toUInt32).toInt32) &&& (1023 : Int32))), rv b87, iv 0] [.int 0, .int 0])
          refine own_st (fun t k => XS.icmpNo X398.here hx rfl (hb hby at_170) rfl (by decide) k) ?_
          show own_E p e below _ T398 (mkF m 173 #[iv p1, iv p2, iv p3, iv p4, iv p5, iv p6, iv 2, iv (p1 &&& (1073741823 : Int32)), iv (((p1 &&& (1073741823 : Int32)) + (1 : Int32)) + (p2 &&& (255 : Int32))), iv (((((p1 &&& (1073741823 : Int32)) + (1 : Int32)) + (p2 &&& (255 : Int32))) + (1 : Int32)) + (((p2.toUInt32 >>> ((8 : Int32) &&& 31).toUInt32).toInt32) &&& (255 : Int32))), iv (((p1 &&& (1073741823 : Int32)) - (4 : Int32)) + (((p6.toUInt32 >>> ((2 : Int32) &&& 31).toUInt32).toInt32) &&& (1023 : Int32))), rv b87, iv 0] [])
          refine own_st (fun t k => XS.iconst X398.here hx rfl (hb hby at_173) k) ?_
          show own_E p e below _ T398 (mkF m 174 #[iv p1, iv p2, iv p3, iv p4, iv p5, iv p6, iv 2, iv (p1 &&& (1073741823 : Int32)), iv (((p1 &&& (1073741823 : Int32)) + (1 : Int32)) + (p2 &&& (255 : Int32))), iv (((((p1 &&& (1073741823 : Int32)) + (1 : Int32)) + (p2 &&& (255 : Int32))) + (1 : Int32)) + (((p2.toUInt32 >>> ((8 : Int32) &&& 31).toUInt32).toInt32) &&& (255 : Int32))), iv (((p1 &&& (1073741823 : Int32)) - (4 : Int32)) + (((p6.toUInt32 >>> ((2 : Int32) &&& 31).toUInt32).toInt32) &&& (1023 : Int32))), rv b87, iv 0] [.int 1])
          refine own_st (fun t k => XS.goto X398.here hx rfl (pc0 := 174) (pc' := 178) rfl (hb hby at_174) (by decide) (by decide) k) ?_
          show own_E p e below _ T398 (mkF m 178 #[iv p1, iv p2, iv p3, iv p4, iv p5, iv p6, iv 2, iv (p1 &&& (1073741823 : Int32)), iv (((p1 &&& (1073741823 : Int32)) + (1 : Int32)) + (p2 &&& (255 : Int32))), iv (((((p1 &&& (1073741823 : Int32)) + (1 : Int32)) + (p2 &&& (255 : Int32))) + (1 : Int32)) + (((p2.toUInt32 >>> ((8 : Int32) &&& 31).toUInt32).toInt32) &&& (255 : Int32))), iv (((p1 &&& (1073741823 : Int32)) - (4 : Int32)) + (((p6.toUInt32 >>> ((2 : Int32) &&& 31).toUInt32).toInt32) &&& (1023 : Int32))), rv b87, iv 0] [.int 1])
          refine own_retS X398 hx Bd.notSynchronized Bd.returns rfl (by decide) (hb hby at_178) (by decide) (by decide) ?_
          exact ⟨rfl, N398⟩
        · exfalso
          have f433 := rng32 p6
          have f434 : (3 : Int32).toInt = 3 := rfl
          have f435 := rng32 (p6 &&& (3 : Int32))
          have f436 : (p6 &&& (3 : Int32)).toInt = p6.toInt % 4 := c_mask p6 (3 : Int32) 2 (by decide) (by decide)
          have f437 : (2 : Int32).toInt = 2 := rfl
          have f438 := rng32 p1
          have f439 : (1073741823 : Int32).toInt = 1073741823 := rfl
          have f440 := rng32 (p1 &&& (1073741823 : Int32))
          have f441 : (p1 &&& (1073741823 : Int32)).toInt = p1.toInt % 1073741824 := c_mask p1 (1073741823 : Int32) 30 (by decide) (by decide)
          have f442 : (4 : Int32).toInt = 4 := rfl
          have f443 := rng32 ((p1 &&& (1073741823 : Int32)) - (4 : Int32))
          have f444 : ((p1 &&& (1073741823 : Int32)) - (4 : Int32)).toInt = (p1 &&& (1073741823 : Int32)).toInt - (4 : Int32).toInt := by have h := c_isub (p1 &&& (1073741823 : Int32)) (4 : Int32); omega
          have f445 := rng32 ((p6.toUInt32 >>> ((2 : Int32) &&& 31).toUInt32).toInt32)
          have f446 : ((p6.toUInt32 >>> ((2 : Int32) &&& 31).toUInt32).toInt32).toInt = (p6.toInt % 4294967296) / 4 := c_iushr p6 (2 : Int32) 2 (by decide) (by decide)
          have f447 : (1023 : Int32).toInt = 1023 := rfl
          have f448 := rng32 (((p6.toUInt32 >>> ((2 : Int32) &&& 31).toUInt32).toInt32) &&& (1023 : Int32))
          have f449 : (((p6.toUInt32 >>> ((2 : Int32) &&& 31).toUInt32).toInt32) &&& (1023 : Int32)).toInt = ((p6.toUInt32 >>> ((2 : Int32) &&& 31).toUInt32).toInt32).toInt % 1024 := c_mask ((p6.toUInt32 >>> ((2 : Int32) &&& 31).toUInt32).toInt32) (1023 : Int32) 10 (by decide) (by decide)
          have f450 := rng32 (((p1 &&& (1073741823 : Int32)) - (4 : Int32)) + (((p6.toUInt32 >>> ((2 : Int32) &&& 31).toUInt32).toInt32) &&& (1023 : Int32)))
          have f451 : (((p1 &&& (1073741823 : Int32)) - (4 : Int32)) + (((p6.toUInt32 >>> ((2 : Int32) &&& 31).toUInt32).toInt32) &&& (1023 : Int32))).toInt = ((p1 &&& (1073741823 : Int32)) - (4 : Int32)).toInt + (((p6.toUInt32 >>> ((2 : Int32) &&& 31).toUInt32).toInt32) &&& (1023 : Int32)).toInt := by have h := c_iadd ((p1 &&& (1073741823 : Int32)) - (4 : Int32)) (((p6.toUInt32 >>> ((2 : Int32) &&& 31).toUInt32).toInt32) &&& (1023 : Int32)); omega
          have f452 : (1 : Int32).toInt = 1 := rfl
          have f453 := rng32 ((p1 &&& (1073741823 : Int32)) + (1 : Int32))
          have f454 : ((p1 &&& (1073741823 : Int32)) + (1 : Int32)).toInt = (p1 &&& (1073741823 : Int32)).toInt + (1 : Int32).toInt := by have h := c_iadd (p1 &&& (1073741823 : Int32)) (1 : Int32); omega
          have f455 := rng32 p2
          have f456 : (255 : Int32).toInt = 255 := rfl
          have f457 := rng32 (p2 &&& (255 : Int32))
          have f458 : (p2 &&& (255 : Int32)).toInt = p2.toInt % 256 := c_mask p2 (255 : Int32) 8 (by decide) (by decide)
          have f459 := rng32 (((p1 &&& (1073741823 : Int32)) + (1 : Int32)) + (p2 &&& (255 : Int32)))
          have f460 : (((p1 &&& (1073741823 : Int32)) + (1 : Int32)) + (p2 &&& (255 : Int32))).toInt = ((p1 &&& (1073741823 : Int32)) + (1 : Int32)).toInt + (p2 &&& (255 : Int32)).toInt := by have h := c_iadd ((p1 &&& (1073741823 : Int32)) + (1 : Int32)) (p2 &&& (255 : Int32)); omega
          have g461 := hs1
          rw [← Int32.toInt_inj] at g461
          have g462 := hc95
          rw [← Int32.toInt_inj] at g462
          have g463 := hc263
          rw [← Int32.toInt_inj] at g463
          have g464 := ha398_0
          rw [Int32.lt_iff_toInt_lt] at g464
          have g465 := ha398_1
          rw [Int32.lt_iff_toInt_lt] at g465
          omega
  · rw [hs1]
    show own_E p e below _ s₁ (mkF m 6 #[iv p1, iv p2, iv p3, iv p4, iv p5, iv p6, iv 3, .unset, .unset, .unset, .unset, .unset, .unset] [])
    refine own_st (fun t k => XS.iloadN X0.here hx rfl (hb hby at_6) rfl k) ?_
    show own_E p e below _ s₁ (mkF m 7 #[iv p1, iv p2, iv p3, iv p4, iv p5, iv p6, iv 3, .unset, .unset, .unset, .unset, .unset, .unset] [.int p1])
    refine own_st (X0.ldcInt hx hown (mvT hZ (own_w hw 0 rfl)) (g := (mkF m 7 #[iv p1, iv p2, iv p3, iv p4, iv p5, iv p6, iv 3, .unset, .unset, .unset, .unset, .unset, .unset] [.int p1])) rfl (hb hby at_7)) ?_
    show own_E p e below _ s₁ (mkF m 9 #[iv p1, iv p2, iv p3, iv p4, iv p5, iv p6, iv 3, .unset, .unset, .unset, .unset, .unset, .unset] [.int 1073741823, .int p1])
    refine own_st (fun t k => XS.iand X0.here hx rfl (hb hby at_9) rfl k) ?_
    show own_E p e below _ s₁ (mkF m 10 #[iv p1, iv p2, iv p3, iv p4, iv p5, iv p6, iv 3, .unset, .unset, .unset, .unset, .unset, .unset] [.int (p1 &&& (1073741823 : Int32))])
    refine own_st (fun t k => XS.istore X0.here hx rfl (hb hby at_10) rfl (l' := #[iv p1, iv p2, iv p3, iv p4, iv p5, iv p6, iv 3, iv (p1 &&& (1073741823 : Int32)), .unset, .unset, .unset, .unset, .unset]) rfl k) ?_
    show own_E p e below _ s₁ (mkF m 12 #[iv p1, iv p2, iv p3, iv p4, iv p5, iv p6, iv 3, iv (p1 &&& (1073741823 : Int32)), .unset, .unset, .unset, .unset, .unset] [])
    refine own_st (fun t k => XS.iload X0.here hx rfl (hb hby at_12) rfl k) ?_
    show own_E p e below _ s₁ (mkF m 14 #[iv p1, iv p2, iv p3, iv p4, iv p5, iv p6, iv 3, iv (p1 &&& (1073741823 : Int32)), .unset, .unset, .unset, .unset, .unset] [.int (p1 &&& (1073741823 : Int32))])
    refine own_st (fun t k => XS.iconst X0.here hx rfl (hb hby at_14) k) ?_
    show own_E p e below _ s₁ (mkF m 15 #[iv p1, iv p2, iv p3, iv p4, iv p5, iv p6, iv 3, iv (p1 &&& (1073741823 : Int32)), .unset, .unset, .unset, .unset, .unset] [.int 1, .int (p1 &&& (1073741823 : Int32))])
    refine own_st (fun t k => XS.iadd X0.here hx rfl (hb hby at_15) rfl k) ?_
    show own_E p e below _ s₁ (mkF m 16 #[iv p1, iv p2, iv p3, iv p4, iv p5, iv p6, iv 3, iv (p1 &&& (1073741823 : Int32)), .unset, .unset, .unset, .unset, .unset] [.int ((p1 &&& (1073741823 : Int32)) + (1 : Int32))])
    refine own_st (fun t k => XS.iloadN X0.here hx rfl (hb hby at_16) rfl k) ?_
    show own_E p e below _ s₁ (mkF m 17 #[iv p1, iv p2, iv p3, iv p4, iv p5, iv p6, iv 3, iv (p1 &&& (1073741823 : Int32)), .unset, .unset, .unset, .unset, .unset] [.int p2, .int ((p1 &&& (1073741823 : Int32)) + (1 : Int32))])
    refine own_st (fun t k => XS.sipush X0.here hx rfl (hb hby at_17) k) ?_
    show own_E p e below _ s₁ (mkF m 20 #[iv p1, iv p2, iv p3, iv p4, iv p5, iv p6, iv 3, iv (p1 &&& (1073741823 : Int32)), .unset, .unset, .unset, .unset, .unset] [.int 255, .int p2, .int ((p1 &&& (1073741823 : Int32)) + (1 : Int32))])
    refine own_st (fun t k => XS.iand X0.here hx rfl (hb hby at_20) rfl k) ?_
    show own_E p e below _ s₁ (mkF m 21 #[iv p1, iv p2, iv p3, iv p4, iv p5, iv p6, iv 3, iv (p1 &&& (1073741823 : Int32)), .unset, .unset, .unset, .unset, .unset] [.int (p2 &&& (255 : Int32)), .int ((p1 &&& (1073741823 : Int32)) + (1 : Int32))])
    refine own_st (fun t k => XS.iadd X0.here hx rfl (hb hby at_21) rfl k) ?_
    show own_E p e below _ s₁ (mkF m 22 #[iv p1, iv p2, iv p3, iv p4, iv p5, iv p6, iv 3, iv (p1 &&& (1073741823 : Int32)), .unset, .unset, .unset, .unset, .unset] [.int (((p1 &&& (1073741823 : Int32)) + (1 : Int32)) + (p2 &&& (255 : Int32)))])
    refine own_st (fun t k => XS.istore X0.here hx rfl (hb hby at_22) rfl (l' := #[iv p1, iv p2, iv p3, iv p4, iv p5, iv p6, iv 3, iv (p1 &&& (1073741823 : Int32)), iv (((p1 &&& (1073741823 : Int32)) + (1 : Int32)) + (p2 &&& (255 : Int32))), .unset, .unset, .unset, .unset]) rfl k) ?_
    show own_E p e below _ s₁ (mkF m 24 #[iv p1, iv p2, iv p3, iv p4, iv p5, iv p6, iv 3, iv (p1 &&& (1073741823 : Int32)), iv (((p1 &&& (1073741823 : Int32)) + (1 : Int32)) + (p2 &&& (255 : Int32))), .unset, .unset, .unset, .unset] [])
    refine own_st (fun t k => XS.iload X0.here hx rfl (hb hby at_24) rfl k) ?_
    show own_E p e below _ s₁ (mkF m 26 #[iv p1, iv p2, iv p3, iv p4, iv p5, iv p6, iv 3, iv (p1 &&& (1073741823 : Int32)), iv (((p1 &&& (1073741823 : Int32)) + (1 : Int32)) + (p2 &&& (255 : Int32))), .unset, .unset, .unset, .unset] [.int (((p1 &&& (1073741823 : Int32)) + (1 : Int32)) + (p2 &&& (255 : Int32)))])
    refine own_st (fun t k => XS.iconst X0.here hx rfl (hb hby at_26) k) ?_
    show own_E p e below _ s₁ (mkF m 27 #[iv p1, iv p2, iv p3, iv p4, iv p5, iv p6, iv 3, iv (p1 &&& (1073741823 : Int32)), iv (((p1 &&& (1073741823 : Int32)) + (1 : Int32)) + (p2 &&& (255 : Int32))), .unset, .unset, .unset, .unset] [.int 1, .int (((p1 &&& (1073741823 : Int32)) + (1 : Int32)) + (p2 &&& (255 : Int32)))])
    refine own_st (fun t k => XS.iadd X0.here hx rfl (hb hby at_27) rfl k) ?_
    show own_E p e below _ s₁ (mkF m 28 #[iv p1, iv p2, iv p3, iv p4, iv p5, iv p6, iv 3, iv (p1 &&& (1073741823 : Int32)), iv (((p1 &&& (1073741823 : Int32)) + (1 : Int32)) + (p2 &&& (255 : Int32))), .unset, .unset, .unset, .unset] [.int ((((p1 &&& (1073741823 : Int32)) + (1 : Int32)) + (p2 &&& (255 : Int32))) + (1 : Int32))])
    refine own_st (fun t k => XS.iloadN X0.here hx rfl (hb hby at_28) rfl k) ?_
    show own_E p e below _ s₁ (mkF m 29 #[iv p1, iv p2, iv p3, iv p4, iv p5, iv p6, iv 3, iv (p1 &&& (1073741823 : Int32)), iv (((p1 &&& (1073741823 : Int32)) + (1 : Int32)) + (p2 &&& (255 : Int32))), .unset, .unset, .unset, .unset] [.int p2, .int ((((p1 &&& (1073741823 : Int32)) + (1 : Int32)) + (p2 &&& (255 : Int32))) + (1 : Int32))])
    refine own_st (fun t k => XS.bipush X0.here hx rfl (hb hby at_29) k) ?_
    show own_E p e below _ s₁ (mkF m 31 #[iv p1, iv p2, iv p3, iv p4, iv p5, iv p6, iv 3, iv (p1 &&& (1073741823 : Int32)), iv (((p1 &&& (1073741823 : Int32)) + (1 : Int32)) + (p2 &&& (255 : Int32))), .unset, .unset, .unset, .unset] [.int 8, .int p2, .int ((((p1 &&& (1073741823 : Int32)) + (1 : Int32)) + (p2 &&& (255 : Int32))) + (1 : Int32))])
    refine own_st (fun t k => XS.iushr X0.here hx rfl (hb hby at_31) rfl k) ?_
    show own_E p e below _ s₁ (mkF m 32 #[iv p1, iv p2, iv p3, iv p4, iv p5, iv p6, iv 3, iv (p1 &&& (1073741823 : Int32)), iv (((p1 &&& (1073741823 : Int32)) + (1 : Int32)) + (p2 &&& (255 : Int32))), .unset, .unset, .unset, .unset] [.int ((p2.toUInt32 >>> ((8 : Int32) &&& 31).toUInt32).toInt32), .int ((((p1 &&& (1073741823 : Int32)) + (1 : Int32)) + (p2 &&& (255 : Int32))) + (1 : Int32))])
    refine own_st (fun t k => XS.sipush X0.here hx rfl (hb hby at_32) k) ?_
    show own_E p e below _ s₁ (mkF m 35 #[iv p1, iv p2, iv p3, iv p4, iv p5, iv p6, iv 3, iv (p1 &&& (1073741823 : Int32)), iv (((p1 &&& (1073741823 : Int32)) + (1 : Int32)) + (p2 &&& (255 : Int32))), .unset, .unset, .unset, .unset] [.int 255, .int ((p2.toUInt32 >>> ((8 : Int32) &&& 31).toUInt32).toInt32), .int ((((p1 &&& (1073741823 : Int32)) + (1 : Int32)) + (p2 &&& (255 : Int32))) + (1 : Int32))])
    refine own_st (fun t k => XS.iand X0.here hx rfl (hb hby at_35) rfl k) ?_
    show own_E p e below _ s₁ (mkF m 36 #[iv p1, iv p2, iv p3, iv p4, iv p5, iv p6, iv 3, iv (p1 &&& (1073741823 : Int32)), iv (((p1 &&& (1073741823 : Int32)) + (1 : Int32)) + (p2 &&& (255 : Int32))), .unset, .unset, .unset, .unset] [.int (((p2.toUInt32 >>> ((8 : Int32) &&& 31).toUInt32).toInt32) &&& (255 : Int32)), .int ((((p1 &&& (1073741823 : Int32)) + (1 : Int32)) + (p2 &&& (255 : Int32))) + (1 : Int32))])
    refine own_st (fun t k => XS.iadd X0.here hx rfl (hb hby at_36) rfl k) ?_
    show own_E p e below _ s₁ (mkF m 37 #[iv p1, iv p2, iv p3, iv p4, iv p5, iv p6, iv 3, iv (p1 &&& (1073741823 : Int32)), iv (((p1 &&& (1073741823 : Int32)) + (1 : Int32)) + (p2 &&& (255 : Int32))), .unset, .unset, .unset, .unset] [.int (((((p1 &&& (1073741823 : Int32)) + (1 : Int32)) + (p2 &&& (255 : Int32))) + (1 : Int32)) + (((p2.toUInt32 >>> ((8 : Int32) &&& 31).toUInt32).toInt32) &&& (255 : Int32)))])
    refine own_st (fun t k => XS.istore X0.here hx rfl (hb hby at_37) rfl (l' := #[iv p1, iv p2, iv p3, iv p4, iv p5, iv p6, iv 3, iv (p1 &&& (1073741823 : Int32)), iv (((p1 &&& (1073741823 : Int32)) + (1 : Int32)) + (p2 &&& (255 : Int32))), iv (((((p1 &&& (1073741823 : Int32)) + (1 : Int32)) + (p2 &&& (255 : Int32))) + (1 : Int32)) + (((p2.toUInt32 >>> ((8 : Int32) &&& 31).toUInt32).toInt32) &&& (255 : Int32))), .unset, .unset, .unset]) rfl k) ?_
    show own_E p e below _ s₁ (mkF m 39 #[iv p1, iv p2, iv p3, iv p4, iv p5, iv p6, iv 3, iv (p1 &&& (1073741823 : Int32)), iv (((p1 &&& (1073741823 : Int32)) + (1 : Int32)) + (p2 &&& (255 : Int32))), iv (((((p1 &&& (1073741823 : Int32)) + (1 : Int32)) + (p2 &&& (255 : Int32))) + (1 : Int32)) + (((p2.toUInt32 >>> ((8 : Int32) &&& 31).toUInt32).toInt32) &&& (255 : Int32))), .unset, .unset, .unset] [])
    refine own_st (fun t k => XS.iload X0.here hx rfl (hb hby at_39) rfl k) ?_
    show own_E p e below _ s₁ (mkF m 41 #[iv p1, iv p2, iv p3, iv p4, iv p5, iv p6, iv 3, iv (p1 &&& (1073741823 : Int32)), iv (((p1 &&& (1073741823 : Int32)) + (1 : Int32)) + (p2 &&& (255 : Int32))), iv (((((p1 &&& (1073741823 : Int32)) + (1 : Int32)) + (p2 &&& (255 : Int32))) + (1 : Int32)) + (((p2.toUInt32 >>> ((8 : Int32) &&& 31).toUInt32).toInt32) &&& (255 : Int32))), .unset, .unset, .unset] [.int (p1 &&& (1073741823 : Int32))])
    refine own_st (fun t k => XS.iconst X0.here hx rfl (hb hby at_41) k) ?_
    show own_E p e below _ s₁ (mkF m 42 #[iv p1, iv p2, iv p3, iv p4, iv p5, iv p6, iv 3, iv (p1 &&& (1073741823 : Int32)), iv (((p1 &&& (1073741823 : Int32)) + (1 : Int32)) + (p2 &&& (255 : Int32))), iv (((((p1 &&& (1073741823 : Int32)) + (1 : Int32)) + (p2 &&& (255 : Int32))) + (1 : Int32)) + (((p2.toUInt32 >>> ((8 : Int32) &&& 31).toUInt32).toInt32) &&& (255 : Int32))), .unset, .unset, .unset] [.int 4, .int (p1 &&& (1073741823 : Int32))])
    refine own_st (fun t k => XS.isub X0.here hx rfl (hb hby at_42) rfl k) ?_
    show own_E p e below _ s₁ (mkF m 43 #[iv p1, iv p2, iv p3, iv p4, iv p5, iv p6, iv 3, iv (p1 &&& (1073741823 : Int32)), iv (((p1 &&& (1073741823 : Int32)) + (1 : Int32)) + (p2 &&& (255 : Int32))), iv (((((p1 &&& (1073741823 : Int32)) + (1 : Int32)) + (p2 &&& (255 : Int32))) + (1 : Int32)) + (((p2.toUInt32 >>> ((8 : Int32) &&& 31).toUInt32).toInt32) &&& (255 : Int32))), .unset, .unset, .unset] [.int ((p1 &&& (1073741823 : Int32)) - (4 : Int32))])
    refine own_st (fun t k => XS.iload X0.here hx rfl (hb hby at_43) rfl k) ?_
    show own_E p e below _ s₁ (mkF m 45 #[iv p1, iv p2, iv p3, iv p4, iv p5, iv p6, iv 3, iv (p1 &&& (1073741823 : Int32)), iv (((p1 &&& (1073741823 : Int32)) + (1 : Int32)) + (p2 &&& (255 : Int32))), iv (((((p1 &&& (1073741823 : Int32)) + (1 : Int32)) + (p2 &&& (255 : Int32))) + (1 : Int32)) + (((p2.toUInt32 >>> ((8 : Int32) &&& 31).toUInt32).toInt32) &&& (255 : Int32))), .unset, .unset, .unset] [.int p6, .int ((p1 &&& (1073741823 : Int32)) - (4 : Int32))])
    refine own_st (fun t k => XS.iconst X0.here hx rfl (hb hby at_45) k) ?_
    show own_E p e below _ s₁ (mkF m 46 #[iv p1, iv p2, iv p3, iv p4, iv p5, iv p6, iv 3, iv (p1 &&& (1073741823 : Int32)), iv (((p1 &&& (1073741823 : Int32)) + (1 : Int32)) + (p2 &&& (255 : Int32))), iv (((((p1 &&& (1073741823 : Int32)) + (1 : Int32)) + (p2 &&& (255 : Int32))) + (1 : Int32)) + (((p2.toUInt32 >>> ((8 : Int32) &&& 31).toUInt32).toInt32) &&& (255 : Int32))), .unset, .unset, .unset] [.int 2, .int p6, .int ((p1 &&& (1073741823 : Int32)) - (4 : Int32))])
    refine own_st (fun t k => XS.iushr X0.here hx rfl (hb hby at_46) rfl k) ?_
    show own_E p e below _ s₁ (mkF m 47 #[iv p1, iv p2, iv p3, iv p4, iv p5, iv p6, iv 3, iv (p1 &&& (1073741823 : Int32)), iv (((p1 &&& (1073741823 : Int32)) + (1 : Int32)) + (p2 &&& (255 : Int32))), iv (((((p1 &&& (1073741823 : Int32)) + (1 : Int32)) + (p2 &&& (255 : Int32))) + (1 : Int32)) + (((p2.toUInt32 >>> ((8 : Int32) &&& 31).toUInt32).toInt32) &&& (255 : Int32))), .unset, .unset, .unset] [.int ((p6.toUInt32 >>> ((2 : Int32) &&& 31).toUInt32).toInt32), .int ((p1 &&& (1073741823 : Int32)) - (4 : Int32))])
    refine own_st (fun t k => XS.sipush X0.here hx rfl (hb hby at_47) k) ?_
    show own_E p e below _ s₁ (mkF m 50 #[iv p1, iv p2, iv p3, iv p4, iv p5, iv p6, iv 3, iv (p1 &&& (1073741823 : Int32)), iv (((p1 &&& (1073741823 : Int32)) + (1 : Int32)) + (p2 &&& (255 : Int32))), iv (((((p1 &&& (1073741823 : Int32)) + (1 : Int32)) + (p2 &&& (255 : Int32))) + (1 : Int32)) + (((p2.toUInt32 >>> ((8 : Int32) &&& 31).toUInt32).toInt32) &&& (255 : Int32))), .unset, .unset, .unset] [.int 1023, .int ((p6.toUInt32 >>> ((2 : Int32) &&& 31).toUInt32).toInt32), .int ((p1 &&& (1073741823 : Int32)) - (4 : Int32))])
    refine own_st (fun t k => XS.iand X0.here hx rfl (hb hby at_50) rfl k) ?_
    show own_E p e below _ s₁ (mkF m 51 #[iv p1, iv p2, iv p3, iv p4, iv p5, iv p6, iv 3, iv (p1 &&& (1073741823 : Int32)), iv (((p1 &&& (1073741823 : Int32)) + (1 : Int32)) + (p2 &&& (255 : Int32))), iv (((((p1 &&& (1073741823 : Int32)) + (1 : Int32)) + (p2 &&& (255 : Int32))) + (1 : Int32)) + (((p2.toUInt32 >>> ((8 : Int32) &&& 31).toUInt32).toInt32) &&& (255 : Int32))), .unset, .unset, .unset] [.int (((p6.toUInt32 >>> ((2 : Int32) &&& 31).toUInt32).toInt32) &&& (1023 : Int32)), .int ((p1 &&& (1073741823 : Int32)) - (4 : Int32))])
    refine own_st (fun t k => XS.iadd X0.here hx rfl (hb hby at_51) rfl k) ?_
    show own_E p e below _ s₁ (mkF m 52 #[iv p1, iv p2, iv p3, iv p4, iv p5, iv p6, iv 3, iv (p1 &&& (1073741823 : Int32)), iv (((p1 &&& (1073741823 : Int32)) + (1 : Int32)) + (p2 &&& (255 : Int32))), iv (((((p1 &&& (1073741823 : Int32)) + (1 : Int32)) + (p2 &&& (255 : Int32))) + (1 : Int32)) + (((p2.toUInt32 >>> ((8 : Int32) &&& 31).toUInt32).toInt32) &&& (255 : Int32))), .unset, .unset, .unset] [.int (((p1 &&& (1073741823 : Int32)) - (4 : Int32)) + (((p6.toUInt32 >>> ((2 : Int32) &&& 31).toUInt32).toInt32) &&& (1023 : Int32)))])
    refine own_st (fun t k => XS.istore X0.here hx rfl (hb hby at_52) rfl (l' := #[iv p1, iv p2, iv p3, iv p4, iv p5, iv p6, iv 3, iv (p1 &&& (1073741823 : Int32)), iv (((p1 &&& (1073741823 : Int32)) + (1 : Int32)) + (p2 &&& (255 : Int32))), iv (((((p1 &&& (1073741823 : Int32)) + (1 : Int32)) + (p2 &&& (255 : Int32))) + (1 : Int32)) + (((p2.toUInt32 >>> ((8 : Int32) &&& 31).toUInt32).toInt32) &&& (255 : Int32))), iv (((p1 &&& (1073741823 : Int32)) - (4 : Int32)) + (((p6.toUInt32 >>> ((2 : Int32) &&& 31).toUInt32).toInt32) &&& (1023 : Int32))), .unset, .unset]) rfl k) ?_
    show own_E p e below _ s₁ (mkF m 54 #[iv p1, iv p2, iv p3, iv p4, iv p5, iv p6, iv 3, iv (p1 &&& (1073741823 : Int32)), iv (((p1 &&& (1073741823 : Int32)) + (1 : Int32)) + (p2 &&& (255 : Int32))), iv (((((p1 &&& (1073741823 : Int32)) + (1 : Int32)) + (p2 &&& (255 : Int32))) + (1 : Int32)) + (((p2.toUInt32 >>> ((8 : Int32) &&& 31).toUInt32).toInt32) &&& (255 : Int32))), iv (((p1 &&& (1073741823 : Int32)) - (4 : Int32)) + (((p6.toUInt32 >>> ((2 : Int32) &&& 31).toUInt32).toInt32) &&& (1023 : Int32))), .unset, .unset] [])
    obtain ⟨T466, h466, X466, e466, E466, A466, D466, -, st466⟩ := newO X0 hx hZ hown (own_w hw 1 rfl) (own_w hw 2 rfl) (own_w hw 3 rfl) e0 (g := (mkF m 54 #[iv p1, iv p2, iv p3, iv p4, iv p5, iv p6, iv 3, iv (p1 &&& (1073741823 : Int32)), iv (((p1 &&& (1073741823 : Int32)) + (1 : Int32)) + (p2 &&& (255 : Int32))), iv (((((p1 &&& (1073741823 : Int32)) + (1 : Int32)) + (p2 &&& (255 : Int32))) + (1 : Int32)) + (((p2.toUInt32 >>> ((8 : Int32) &&& 31).toUInt32).toInt32) &&& (255 : Int32))), iv (((p1 &&& (1073741823 : Int32)) - (4 : Int32)) + (((p6.toUInt32 >>> ((2 : Int32) &&& 31).toUInt32).toInt32) &&& (1023 : Int32))), .unset, .unset] [])) rfl (hb hby at_54) (by decide) (by decide)
    obtain ⟨b466, g466⟩ : ∃ z, z = h0.size := ⟨_, rfl⟩
    rw [← g466] at A466 D466 st466
    have g_b466 : n0 ≤ b466 := Nat.le_trans Z0 (Nat.le_of_eq g466.symm)
    have Z467 := Nat.le_trans Z0 E466.1
    have F_documents_b466 : Fld Z h466 b466 "com/example/lean_scorer/leanscorer/Postings" "documents" "[I" .null := D466 (Or.inl (own_w hw 12 rfl)) (ty := (.array .int)) (by decide)
    have F_frequencies_b466 : Fld Z h466 b466 "com/example/lean_scorer/leanscorer/Postings" "frequencies" "[I" .null := D466 (Or.inl (own_w hw 14 rfl)) (ty := (.array .int)) (by decide)
    have F_minLength_b466 : Fld Z h466 b466 "com/example/lean_scorer/leanscorer/Postings" "minLength" "I" (.int (0 : Int32)) := D466 (Or.inl (own_w hw 17 rfl)) (ty := .int) (by decide)
    have F_size_b466 : Fld Z h466 b466 "com/example/lean_scorer/leanscorer/Postings" "size" "I" (.int (0 : Int32)) := D466 (Or.inl (own_w hw 24 rfl)) (ty := .int) (by decide)
    have F_maxFrequency_b466 : Fld Z h466 b466 "com/example/lean_scorer/leanscorer/Postings" "maxFrequency" "I" (.int (0 : Int32)) := D466 (Or.inl (own_w hw 26 rfl)) (ty := .int) (by decide)
    refine own_st st466 ?_
    show own_E p e below _ T466 (mkF m 57 #[iv p1, iv p2, iv p3, iv p4, iv p5, iv p6, iv 3, iv (p1 &&& (1073741823 : Int32)), iv (((p1 &&& (1073741823 : Int32)) + (1 : Int32)) + (p2 &&& (255 : Int32))), iv (((((p1 &&& (1073741823 : Int32)) + (1 : Int32)) + (p2 &&& (255 : Int32))) + (1 : Int32)) + (((p2.toUInt32 >>> ((8 : Int32) &&& 31).toUInt32).toInt32) &&& (255 : Int32))), iv (((p1 &&& (1073741823 : Int32)) - (4 : Int32)) + (((p6.toUInt32 >>> ((2 : Int32) &&& 31).toUInt32).toInt32) &&& (1023 : Int32))), .unset, .unset] [.ref b466])
    refine own_st (fun t k => XS.dup X466.here hx rfl (hb hby at_57) rfl rfl k) ?_
    show own_E p e below _ T466 (mkF m 58 #[iv p1, iv p2, iv p3, iv p4, iv p5, iv p6, iv 3, iv (p1 &&& (1073741823 : Int32)), iv (((p1 &&& (1073741823 : Int32)) + (1 : Int32)) + (p2 &&& (255 : Int32))), iv (((((p1 &&& (1073741823 : Int32)) + (1 : Int32)) + (p2 &&& (255 : Int32))) + (1 : Int32)) + (((p2.toUInt32 >>> ((8 : Int32) &&& 31).toUInt32).toInt32) &&& (255 : Int32))), iv (((p1 &&& (1073741823 : Int32)) - (4 : Int32)) + (((p6.toUInt32 >>> ((2 : Int32) &&& 31).toUInt32).toInt32) &&& (1023 : Int32))), .unset, .unset] [.ref b466, .ref b466])
    obtain ⟨_, _, ⟨T468, L468, k468, n468⟩, -, X468, ⟨Lc468, hQ468, l468, y468, z468⟩, st468⟩ := X466.specialBack hx (y := own_y3) rfl hown (mvT hZ (own_w hw 4 rfl)) (mvT hZ (own_w hw 5 rfl)) (mvT hZ (own_w hw 6 rfl)) (by decide) (backOf (W := 1) (own_init l Z a0 hw [] b466 h466 n0 Z467 A466 F_documents_b466 F_frequencies_b466 F_minLength_b466 F_maxFrequency_b466 F_size_b466 g_b466) hZ (own_w hw 6 rfl) (own_w hw 3 rfl) (by decide) (by decide)) (g := (mkF m 58 #[iv p1, iv p2, iv p3, iv p4, iv p5, iv p6, iv 3, iv (p1 &&& (1073741823 : Int32)), iv (((p1 &&& (1073741823 : Int32)) + (1 : Int32)) + (p2 &&& (255 : Int32))), iv (((((p1 &&& (1073741823 : Int32)) + (1 : Int32)) + (p2 &&& (255 : Int32))) + (1 : Int32)) + (((p2.toUInt32 >>> ((8 : Int32) &&& 31).toUInt32).toInt32) &&& (255 : Int32))), iv (((p1 &&& (1073741823 : Int32)) - (4 : Int32)) + (((p6.toUInt32 >>> ((2 : Int32) &&& 31).toUInt32).toInt32) &&& (1023 : Int32))), .unset, .unset] [.ref b466, .ref b466])) rfl (by rw [hml]; rfl) (Steps.refl _) (a := b466) (argsL := []) (rest := [(.ref b466)]) (lenOf own_pd_0 rfl) rfl (by show 2 * 0 + _ ≤ _; exact Nat.le_of_eq rfl) (hb hby at_58) (fun _ _ => ⟨rfl, e466, (by decide : 1 + 2 ≤ _), (by decide : 5 + 2 ≤ _)⟩)
    dsimp only [Pt.U, Pt.locs, Pt.cells, Pt.slots] at X468 l468 y468 z468 st468 hQ468
    subst l468 y468 z468
    obtain ⟨b468_o0, b468_o1, k468_o2, k468_o3, rfl, Nq468, Kq468, sz468_0, sz468_1, nq468_0_1, P468_0, P468_1, P468_2, P468_3, P468_4, P468_5, P468_6, P468_7⟩ := hQ468
    have N468 := Fr.app (Fr.nil n0) Nq468
    have ne_b466_b468_o0 : b466 ≠ b468_o0 := Nat.ne_of_lt (Nat.lt_of_lt_of_le A466.lt sz468_0)
    have g_b468_o0 : n0 ≤ b468_o0 := Nat.le_trans Z467 sz468_0
    have ne_b466_b468_o1 : b466 ≠ b468_o1 := Nat.ne_of_lt (Nat.lt_of_lt_of_le A466.lt sz468_1)
    have g_b468_o1 : n0 ≤ b468_o1 := Nat.le_trans Z467 sz468_1
    have e468 : T468.heap = T468.heap := rfl
    have Z469 := Nat.le_trans Z467 Kq468.1
    refine own_tr st468 ?_
    show own_E p e below _ T468 (mkF m 61 #[iv p1, iv p2, iv p3, iv p4, iv p5, iv p6, iv 3, iv (p1 &&& (1073741823 : Int32)), iv (((p1 &&& (1073741823 : Int32)) + (1 : Int32)) + (p2 &&& (255 : Int32))), iv (((((p1 &&& (1073741823 : Int32)) + (1 : Int32)) + (p2 &&& (255 : Int32))) + (1 : Int32)) + (((p2.toUInt32 >>> ((8 : Int32) &&& 31).toUInt32).toInt32) &&& (255 : Int32))), iv (((p1 &&& (1073741823 : Int32)) - (4 : Int32)) + (((p6.toUInt32 >>> ((2 : Int32) &&& 31).toUInt32).toInt32) &&& (1023 : Int32))), .unset, .unset] [.ref b466])
    refine own_st (fun t k => XS.astore X468.here hx rfl (hb hby at_61) rfl rfl (l' := #[iv p1, iv p2, iv p3, iv p4, iv p5, iv p6, iv 3, iv (p1 &&& (1073741823 : Int32)), iv (((p1 &&& (1073741823 : Int32)) + (1 : Int32)) + (p2 &&& (255 : Int32))), iv (((((p1 &&& (1073741823 : Int32)) + (1 : Int32)) + (p2 &&& (255 : Int32))) + (1 : Int32)) + (((p2.toUInt32 >>> ((8 : Int32) &&& 31).toUInt32).toInt32) &&& (255 : Int32))), iv (((p1 &&& (1073741823 : Int32)) - (4 : Int32)) + (((p6.toUInt32 >>> ((2 : Int32) &&& 31).toUInt32).toInt32) &&& (1023 : Int32))), rv b466, .unset]) rfl k) ?_
    show own_E p e below _ T468 (mkF m 63 #[iv p1, iv p2, iv p3, iv p4, iv p5, iv p6, iv 3, iv (p1 &&& (1073741823 : Int32)), iv (((p1 &&& (1073741823 : Int32)) + (1 : Int32)) + (p2 &&& (255 : Int32))), iv (((((p1 &&& (1073741823 : Int32)) + (1 : Int32)) + (p2 &&& (255 : Int32))) + (1 : Int32)) + (((p2.toUInt32 >>> ((8 : Int32) &&& 31).toUInt32).toInt32) &&& (255 : Int32))), iv (((p1 &&& (1073741823 : Int32)) - (4 : Int32)) + (((p6.toUInt32 >>> ((2 : Int32) &&& 31).toUInt32).toInt32) &&& (1023 : Int32))), rv b466, .unset] [])
    refine own_st (fun t k => XS.iload X468.here hx rfl (hb hby at_63) rfl k) ?_
    show own_E p e below _ T468 (mkF m 65 #[iv p1, iv p2, iv p3, iv p4, iv p5, iv p6, iv 3, iv (p1 &&& (1073741823 : Int32)), iv (((p1 &&& (1073741823 : Int32)) + (1 : Int32)) + (p2 &&& (255 : Int32))), iv (((((p1 &&& (1073741823 : Int32)) + (1 : Int32)) + (p2 &&& (255 : Int32))) + (1 : Int32)) + (((p2.toUInt32 >>> ((8 : Int32) &&& 31).toUInt32).toInt32) &&& (255 : Int32))), iv (((p1 &&& (1073741823 : Int32)) - (4 : Int32)) + (((p6.toUInt32 >>> ((2 : Int32) &&& 31).toUInt32).toInt32) &&& (1023 : Int32))), rv b466, .unset] [.int 3])
    refine own_st (fun t k => XS.iconst X468.here hx rfl (hb hby at_65) k) ?_
    show own_E p e below _ T468 (mkF m 66 #[iv p1, iv p2, iv p3, iv p4, iv p5, iv p6, iv 3, iv (p1 &&& (1073741823 : Int32)), iv (((p1 &&& (1073741823 : Int32)) + (1 : Int32)) + (p2 &&& (255 : Int32))), iv (((((p1 &&& (1073741823 : Int32)) + (1 : Int32)) + (p2 &&& (255 : Int32))) + (1 : Int32)) + (((p2.toUInt32 >>> ((8 : Int32) &&& 31).toUInt32).toInt32) &&& (255 : Int32))), iv (((p1 &&& (1073741823 : Int32)) - (4 : Int32)) + (((p6.toUInt32 >>> ((2 : Int32) &&& 31).toUInt32).toInt32) &&& (1023 : Int32))), rv b466, .unset] [.int 1, .int 3])
    refine own_st (fun t k => XS.icmpNo X468.here hx rfl (hb hby at_66) rfl (by decide) k) ?_
    show own_E p e below _ T468 (mkF m 69 #[iv p1, iv p2, iv p3, iv p4, iv p5, iv p6, iv 3, iv (p1 &&& (1073741823 : Int32)), iv (((p1 &&& (1073741823 : Int32)) + (1 : Int32)) + (p2 &&& (255 : Int32))), iv (((((p1 &&& (1073741823 : Int32)) + (1 : Int32)) + (p2 &&& (255 : Int32))) + (1 : Int32)) + (((p2.toUInt32 >>> ((8 : Int32) &&& 31).toUInt32).toInt32) &&& (255 : Int32))), iv (((p1 &&& (1073741823 : Int32)) - (4 : Int32)) + (((p6.toUInt32 >>> ((2 : Int32) &&& 31).toUInt32).toInt32) &&& (1023 : Int32))), rv b466, .unset] [])
    refine own_st (fun t k => XS.aload X468.here hx rfl (hb hby at_69) rfl rfl k) ?_
    show own_E p e below _ T468 (mkF m 71 #[iv p1, iv p2, iv p3, iv p4, iv p5, iv p6, iv 3, iv (p1 &&& (1073741823 : Int32)), iv (((p1 &&& (1073741823 : Int32)) + (1 : Int32)) + (p2 &&& (255 : Int32))), iv (((((p1 &&& (1073741823 : Int32)) + (1 : Int32)) + (p2 &&& (255 : Int32))) + (1 : Int32)) + (((p2.toUInt32 >>> ((8 : Int32) &&& 31).toUInt32).toInt32) &&& (255 : Int32))), iv (((p1 &&& (1073741823 : Int32)) - (4 : Int32)) + (((p6.toUInt32 >>> ((2 : Int32) &&& 31).toUInt32).toInt32) &&& (1023 : Int32))), rv b466, .unset] [.ref b466])
    refine own_st (fun t k => XS.iload X468.here hx rfl (hb hby at_71) rfl k) ?_
    show own_E p e below _ T468 (mkF m 73 #[iv p1, iv p2, iv p3, iv p4, iv p5, iv p6, iv 3, iv (p1 &&& (1073741823 : Int32)), iv (((p1 &&& (1073741823 : Int32)) + (1 : Int32)) + (p2 &&& (255 : Int32))), iv (((((p1 &&& (1073741823 : Int32)) + (1 : Int32)) + (p2 &&& (255 : Int32))) + (1 : Int32)) + (((p2.toUInt32 >>> ((8 : Int32) &&& 31).toUInt32).toInt32) &&& (255 : Int32))), iv (((p1 &&& (1073741823 : Int32)) - (4 : Int32)) + (((p6.toUInt32 >>> ((2 : Int32) &&& 31).toUInt32).toInt32) &&& (1023 : Int32))), rv b466, .unset] [.int (p1 &&& (1073741823 : Int32)), .ref b466])
    refine own_st (fun t k => XS.iloadN X468.here hx rfl (hb hby at_73) rfl k) ?_
    show own_E p e below _ T468 (mkF m 74 #[iv p1, iv p2, iv p3, iv p4, iv p5, iv p6, iv 3, iv (p1 &&& (1073741823 : Int32)), iv (((p1 &&& (1073741823 : Int32)) + (1 : Int32)) + (p2 &&& (255 : Int32))), iv (((((p1 &&& (1073741823 : Int32)) + (1 : Int32)) + (p2 &&& (255 : Int32))) + (1 : Int32)) + (((p2.toUInt32 >>> ((8 : Int32) &&& 31).toUInt32).toInt32) &&& (255 : Int32))), iv (((p1 &&& (1073741823 : Int32)) - (4 : Int32)) + (((p6.toUInt32 >>> ((2 : Int32) &&& 31).toUInt32).toInt32) &&& (1023 : Int32))), rv b466, .unset] [.int p3, .int (p1 &&& (1073741823 : Int32)), .ref b466])
    refine own_st (fun t k => XS.iconst X468.here hx rfl (hb hby at_74) k) ?_
    show own_E p e below _ T468 (mkF m 75 #[iv p1, iv p2, iv p3, iv p4, iv p5, iv p6, iv 3, iv (p1 &&& (1073741823 : Int32)), iv (((p1 &&& (1073741823 : Int32)) + (1 : Int32)) + (p2 &&& (255 : Int32))), iv (((((p1 &&& (1073741823 : Int32)) + (1 : Int32)) + (p2 &&& (255 : Int32))) + (1 : Int32)) + (((p2.toUInt32 >>> ((8 : Int32) &&& 31).toUInt32).toInt32) &&& (255 : Int32))), iv (((p1 &&& (1073741823 : Int32)) - (4 : Int32)) + (((p6.toUInt32 >>> ((2 : Int32) &&& 31).toUInt32).toInt32) &&& (1023 : Int32))), rv b466, .unset] [.int 1, .int p3, .int (p1 &&& (1073741823 : Int32)), .ref b466])
    obtain ⟨cq470, kq470, q470a, q470b, q470c⟩ := isOf hZ e468 P468_0
    obtain ⟨_, _, ⟨T470, L470, k470, n470⟩, -, X470, ⟨Lc470, hQ470, l470, y470, z470⟩, st470⟩ := X468.virtualBack hx (y := own_y4) (z := own_y4) hown (mvT hZ (own_w hw 18 rfl)) (mvT hZ (own_w hw 19 rfl)) (notFace_of_selects (args := #[]) (mvT hZ (own_w hw 21 rfl))) (mvT hZ (own_w hw 21 rfl)) (mvT hZ (own_w hw 20 rfl)) (by decide) (backOf (W := 0) (own_add0 l Z a0 hw [] b466 b468_o0 b468_o1 k468_o2 k468_o3 (p1 &&& (1073741823 : Int32)) p3 (1 : Int32) (2147483647 : Int32) (0 : Int32) (0 : Int32) (0 : Int32) T468.heap n0 Z469 P468_0 P468_1 P468_2 P468_3 P468_4 P468_5 P468_6 P468_7 ne_b466_b468_o0 ne_b466_b468_o1 nq468_0_1 g_b466 g_b468_o0 g_b468_o1) hZ (own_w hw 22 rfl) (own_w hw 3 rfl) (by decide) (by decide)) q470a q470c (g := (mkF m 75 #[iv p1, iv p2, iv p3, iv p4, iv p5, iv p6, iv 3, iv (p1 &&& (1073741823 : Int32)), iv (((p1 &&& (1073741823 : Int32)) + (1 : Int32)) + (p2 &&& (255 : Int32))), iv (((((p1 &&& (1073741823 : Int32)) + (1 : Int32)) + (p2 &&& (255 : Int32))) + (1 : Int32)) + (((p2.toUInt32 >>> ((8 : Int32) &&& 31).toUInt32).toInt32) &&& (255 : Int32))), iv (((p1 &&& (1073741823 : Int32)) - (4 : Int32)) + (((p6.toUInt32 >>> ((2 : Int32) &&& 31).toUInt32).toInt32) &&& (1023 : Int32))), rv b466, .unset] [.int 1, .int p3, .int (p1 &&& (1073741823 : Int32)), .ref b466])) rfl (by rw [hml]; rfl) (Steps.refl _) (argsL := [(.int (p1 &&& (1073741823 : Int32))), (.int p3), (.int (1 : Int32))]) (rest := []) (lenOf own_pd_3 rfl) rfl (by show 2 * 0 + _ ≤ _; exact Nat.le_of_eq rfl) (hb hby at_75) (fun _ _ => ⟨rfl, e468, (by decide : 3 + 0 ≤ _), (by decide : 7 + 0 ≤ _)⟩)
    dsimp only [Pt.U, Pt.locs, Pt.cells, Pt.slots] at X470 l470 y470 z470 st470 hQ470
    subst l470 y470 z470
    obtain ⟨rfl, Nq470, Kq470, P470_0, P470_1, P470_2, P470_3, P470_4, P470_5, P470_6, P470_7⟩ := hQ470
    have N470 := Fr.app N468 Nq470
    have e470 : T470.heap = T470.heap := rfl
    have Z471 := Nat.le_trans Z469 Kq470.1
    refine own_tr st470 ?_
    show own_E p e below _ T470 (mkF m 78 #[iv p1, iv p2, iv p3, iv p4, iv p5, iv p6, iv 3, iv (p1 &&& (1073741823 : Int32)), iv (((p1 &&& (1073741823 : Int32)) + (1 : Int32)) + (p2 &&& (255 : Int32))), iv (((((p1 &&& (1073741823 : Int32)) + (1 : Int32)) + (p2 &&& (255 : Int32))) + (1 : Int32)) + (((p2.toUInt32 >>> ((8 : Int32) &&& 31).toUInt32).toInt32) &&& (255 : Int32))), iv (((p1 &&& (1073741823 : Int32)) - (4 : Int32)) + (((p6.toUInt32 >>> ((2 : Int32) &&& 31).toUInt32).toInt32) &&& (1023 : Int32))), rv b466, .unset] [])
    refine own_st (fun t k => XS.iload X470.here hx rfl (hb hby at_78) rfl k) ?_
    show own_E p e below _ T470 (mkF m 80 #[iv p1, iv p2, iv p3, iv p4, iv p5, iv p6, iv 3, iv (p1 &&& (1073741823 : Int32)), iv (((p1 &&& (1073741823 : Int32)) + (1 : Int32)) + (p2 &&& (255 : Int32))), iv (((((p1 &&& (1073741823 : Int32)) + (1 : Int32)) + (p2 &&& (255 : Int32))) + (1 : Int32)) + (((p2.toUInt32 >>> ((8 : Int32) &&& 31).toUInt32).toInt32) &&& (255 : Int32))), iv (((p1 &&& (1073741823 : Int32)) - (4 : Int32)) + (((p6.toUInt32 >>> ((2 : Int32) &&& 31).toUInt32).toInt32) &&& (1023 : Int32))), rv b466, .unset] [.int 3])
    refine own_st (fun t k => XS.iconst X470.here hx rfl (hb hby at_80) k) ?_
    show own_E p e below _ T470 (mkF m 81 #[iv p1, iv p2, iv p3, iv p4, iv p5, iv p6, iv 3, iv (p1 &&& (1073741823 : Int32)), iv (((p1 &&& (1073741823 : Int32)) + (1 : Int32)) + (p2 &&& (255 : Int32))), iv (((((p1 &&& (1073741823 : Int32)) + (1 : Int32)) + (p2 &&& (255 : Int32))) + (1 : Int32)) + (((p2.toUInt32 >>> ((8 : Int32) &&& 31).toUInt32).toInt32) &&& (255 : Int32))), iv (((p1 &&& (1073741823 : Int32)) - (4 : Int32)) + (((p6.toUInt32 >>> ((2 : Int32) &&& 31).toUInt32).toInt32) &&& (1023 : Int32))), rv b466, .unset] [.int 2, .int 3])
    refine own_st (fun t k => XS.icmpNo X470.here hx rfl (hb hby at_81) rfl (by decide) k) ?_
    show own_E p e below _ T470 (mkF m 84 #[iv p1, iv p2, iv p3, iv p4, iv p5, iv p6, iv 3, iv (p1 &&& (1073741823 : Int32)), iv (((p1 &&& (1073741823 : Int32)) + (1 : Int32)) + (p2 &&& (255 : Int32))), iv (((((p1 &&& (1073741823 : Int32)) + (1 : Int32)) + (p2 &&& (255 : Int32))) + (1 : Int32)) + (((p2.toUInt32 >>> ((8 : Int32) &&& 31).toUInt32).toInt32) &&& (255 : Int32))), iv (((p1 &&& (1073741823 : Int32)) - (4 : Int32)) + (((p6.toUInt32 >>> ((2 : Int32) &&& 31).toUInt32).toInt32) &&& (1023 : Int32))), rv b466, .unset] [])
    refine own_st (fun t k => XS.aload X470.here hx rfl (hb hby at_84) rfl rfl k) ?_
    show own_E p e below _ T470 (mkF m 86 #[iv p1, iv p2, iv p3, iv p4, iv p5, iv p6, iv 3, iv (p1 &&& (1073741823 : Int32)), iv (((p1 &&& (1073741823 : Int32)) + (1 : Int32)) + (p2 &&& (255 : Int32))), iv (((((p1 &&& (1073741823 : Int32)) + (1 : Int32)) + (p2 &&& (255 : Int32))) + (1 : Int32)) + (((p2.toUInt32 >>> ((8 : Int32) &&& 31).toUInt32).toInt32) &&& (255 : Int32))), iv (((p1 &&& (1073741823 : Int32)) - (4 : Int32)) + (((p6.toUInt32 >>> ((2 : Int32) &&& 31).toUInt32).toInt32) &&& (1023 : Int32))), rv b466, .unset] [.ref b466])
    refine own_st (fun t k => XS.iload X470.here hx rfl (hb hby at_86) rfl k) ?_
    show own_E p e below _ T470 (mkF m 88 #[iv p1, iv p2, iv p3, iv p4, iv p5, iv p6, iv 3, iv (p1 &&& (1073741823 : Int32)), iv (((p1 &&& (1073741823 : Int32)) + (1 : Int32)) + (p2 &&& (255 : Int32))), iv (((((p1 &&& (1073741823 : Int32)) + (1 : Int32)) + (p2 &&& (255 : Int32))) + (1 : Int32)) + (((p2.toUInt32 >>> ((8 : Int32) &&& 31).toUInt32).toInt32) &&& (255 : Int32))), iv (((p1 &&& (1073741823 : Int32)) - (4 : Int32)) + (((p6.toUInt32 >>> ((2 : Int32) &&& 31).toUInt32).toInt32) &&& (1023 : Int32))), rv b466, .unset] [.int (((p1 &&& (1073741823 : Int32)) + (1 : Int32)) + (p2 &&& (255 : Int32))), .ref b466])
    refine own_st (fun t k => XS.iloadN X470.here hx rfl (hb hby at_88) rfl k) ?_
    show own_E p e below _ T470 (mkF m 89 #[iv p1, iv p2, iv p3, iv p4, iv p5, iv p6, iv 3, iv (p1 &&& (1073741823 : Int32)), iv (((p1 &&& (1073741823 : Int32)) + (1 : Int32)) + (p2 &&& (255 : Int32))), iv (((((p1 &&& (1073741823 : Int32)) + (1 : Int32)) + (p2 &&& (255 : Int32))) + (1 : Int32)) + (((p2.toUInt32 >>> ((8 : Int32) &&& 31).toUInt32).toInt32) &&& (255 : Int32))), iv (((p1 &&& (1073741823 : Int32)) - (4 : Int32)) + (((p6.toUInt32 >>> ((2 : Int32) &&& 31).toUInt32).toInt32) &&& (1023 : Int32))), rv b466, .unset] [.int p4, .int (((p1 &&& (1073741823 : Int32)) + (1 : Int32)) + (p2 &&& (255 : Int32))), .ref b466])
    refine own_st (fun t k => XS.iconst X470.here hx rfl (hb hby at_89) k) ?_
    show own_E p e below _ T470 (mkF m 90 #[iv p1, iv p2, iv p3, iv p4, iv p5, iv p6, iv 3, iv (p1 &&& (1073741823 : Int32)), iv (((p1 &&& (1073741823 : Int32)) + (1 : Int32)) + (p2 &&& (255 : Int32))), iv (((((p1 &&& (1073741823 : Int32)) + (1 : Int32)) + (p2 &&& (255 : Int32))) + (1 : Int32)) + (((p2.toUInt32 >>> ((8 : Int32) &&& 31).toUInt32).toInt32) &&& (255 : Int32))), iv (((p1 &&& (1073741823 : Int32)) - (4 : Int32)) + (((p6.toUInt32 >>> ((2 : Int32) &&& 31).toUInt32).toInt32) &&& (1023 : Int32))), rv b466, .unset] [.int 1, .int p4, .int (((p1 &&& (1073741823 : Int32)) + (1 : Int32)) + (p2 &&& (255 : Int32))), .ref b466])
    obtain ⟨cq472, kq472, q472a, q472b, q472c⟩ := isOf hZ e470 P470_0
    obtain ⟨_, _, ⟨T472, L472, k472, n472⟩, -, X472, ⟨Lc472, hQ472, l472, y472, z472⟩, st472⟩ := X470.virtualBack hx (y := own_y4) (z := own_y4) hown (mvT hZ (own_w hw 18 rfl)) (mvT hZ (own_w hw 19 rfl)) (notFace_of_selects (args := #[]) (mvT hZ (own_w hw 21 rfl))) (mvT hZ (own_w hw 21 rfl)) (mvT hZ (own_w hw 20 rfl)) (by decide) (backOf (W := 0) (own_add1 l Z a0 hw [] b466 b468_o0 b468_o1 k468_o2 k468_o3 (((p1 &&& (1073741823 : Int32)) + (1 : Int32)) + (p2 &&& (255 : Int32))) p4 (1 : Int32) (own_min (2147483647 : Int32) (1 : Int32)) (own_max (0 : Int32) p3) (p1 &&& (1073741823 : Int32)) p3 T470.heap n0 Z471 P470_0 P470_1 P470_2 P470_3 P470_4 P470_5 P470_6 P470_7 ne_b466_b468_o0 ne_b466_b468_o1 nq468_0_1 g_b466) hZ (own_w hw 22 rfl) (own_w hw 3 rfl) (by decide) (by decide)) q472a q472c (g := (mkF m 90 #[iv p1, iv p2, iv p3, iv p4, iv p5, iv p6, iv 3, iv (p1 &&& (1073741823 : Int32)), iv (((p1 &&& (1073741823 : Int32)) + (1 : Int32)) + (p2 &&& (255 : Int32))), iv (((((p1 &&& (1073741823 : Int32)) + (1 : Int32)) + (p2 &&& (255 : Int32))) + (1 : Int32)) + (((p2.toUInt32 >>> ((8 : Int32) &&& 31).toUInt32).toInt32) &&& (255 : Int32))), iv (((p1 &&& (1073741823 : Int32)) - (4 : Int32)) + (((p6.toUInt32 >>> ((2 : Int32) &&& 31).toUInt32).toInt32) &&& (1023 : Int32))), rv b466, .unset] [.int 1, .int p4, .int (((p1 &&& (1073741823 : Int32)) + (1 : Int32)) + (p2 &&& (255 : Int32))), .ref b466])) rfl (by rw [hml]; rfl) (Steps.refl _) (argsL := [(.int (((p1 &&& (1073741823 : Int32)) + (1 : Int32)) + (p2 &&& (255 : Int32)))), (.int p4), (.int (1 : Int32))]) (rest := []) (lenOf own_pd_3 rfl) rfl (by show 2 * 0 + _ ≤ _; exact Nat.le_of_eq rfl) (hb hby at_90) (fun _ _ => ⟨rfl, e470, (by decide : 3 + 2 ≤ _), (by decide : 7 + 4 ≤ _)⟩)
    dsimp only [Pt.U, Pt.locs, Pt.cells, Pt.slots] at X472 l472 y472 z472 st472 hQ472
    subst l472 y472 z472
    obtain ⟨b472_o0, b472_o1, k472_o2, k472_o3, rfl, Nq472, Kq472, sz472_0, sz472_1, nq472_0_1, P472_0, P472_1, P472_2, P472_3, P472_4, P472_5, P472_6, P472_7⟩ := hQ472
    have N472 := Fr.app N470 Nq472
    have ne_b466_b472_o0 : b466 ≠ b472_o0 := Nat.ne_of_lt (Nat.lt_of_lt_of_le P470_0.lt sz472_0)
    have ne_b468_o0_b472_o0 : b468_o0 ≠ b472_o0 := Nat.ne_of_lt (Nat.lt_of_lt_of_le P470_6.lt sz472_0)
    have ne_b468_o1_b472_o0 : b468_o1 ≠ b472_o0 := Nat.ne_of_lt (Nat.lt_of_lt_of_le P470_7.lt sz472_0)
    have g_b472_o0 : n0 ≤ b472_o0 := Nat.le_trans Z471 sz472_0
    have ne_b466_b472_o1 : b466 ≠ b472_o1 := Nat.ne_of_lt (Nat.lt_of_lt_of_le P470_0.lt sz472_1)
    have ne_b468_o0_b472_o1 : b468_o0 ≠ b472_o1 := Nat.ne_of_lt (Nat.lt_of_lt_of_le P470_6.lt sz472_1)
    have ne_b468_o1_b472_o1 : b468_o1 ≠ b472_o1 := Nat.ne_of_lt (Nat.lt_of_lt_of_le P470_7.lt sz472_1)
    have g_b472_o1 : n0 ≤ b472_o1 := Nat.le_trans Z471 sz472_1
    have e472 : T472.heap = T472.heap := rfl
    have Z473 := Nat.le_trans Z471 Kq472.1
    refine own_tr st472 ?_
    show own_E p e below _ T472 (mkF m 93 #[iv p1, iv p2, iv p3, iv p4, iv p5, iv p6, iv 3, iv (p1 &&& (1073741823 : Int32)), iv (((p1 &&& (1073741823 : Int32)) + (1 : Int32)) + (p2 &&& (255 : Int32))), iv (((((p1 &&& (1073741823 : Int32)) + (1 : Int32)) + (p2 &&& (255 : Int32))) + (1 : Int32)) + (((p2.toUInt32 >>> ((8 : Int32) &&& 31).toUInt32).toInt32) &&& (255 : Int32))), iv (((p1 &&& (1073741823 : Int32)) - (4 : Int32)) + (((p6.toUInt32 >>> ((2 : Int32) &&& 31).toUInt32).toInt32) &&& (1023 : Int32))), rv b466, .unset] [])
    refine own_st (fun t k => XS.iload X472.here hx rfl (hb hby at_93) rfl k) ?_
    show own_E p e below _ T472 (mkF m 95 #[iv p1, iv p2, iv p3, iv p4, iv p5, iv p6, iv 3, iv (p1 &&& (1073741823 : Int32)), iv (((p1 &&& (1073741823 : Int32)) + (1 : Int32)) + (p2 &&& (255 : Int32))), iv (((((p1 &&& (1073741823 : Int32)) + (1 : Int32)) + (p2 &&& (255 : Int32))) + (1 : Int32)) + (((p2.toUInt32 >>> ((8 : Int32) &&& 31).toUInt32).toInt32) &&& (255 : Int32))), iv (((p1 &&& (1073741823 : Int32)) - (4 : Int32)) + (((p6.toUInt32 >>> ((2 : Int32) &&& 31).toUInt32).toInt32) &&& (1023 : Int32))), rv b466, .unset] [.int 3])
    refine own_st (fun t k => XS.iconst X472.here hx rfl (hb hby at_95) k) ?_
    show own_E p e below _ T472 (mkF m 96 #[iv p1, iv p2, iv p3, iv p4, iv p5, iv p6, iv 3, iv (p1 &&& (1073741823 : Int32)), iv (((p1 &&& (1073741823 : Int32)) + (1 : Int32)) + (p2 &&& (255 : Int32))), iv (((((p1 &&& (1073741823 : Int32)) + (1 : Int32)) + (p2 &&& (255 : Int32))) + (1 : Int32)) + (((p2.toUInt32 >>> ((8 : Int32) &&& 31).toUInt32).toInt32) &&& (255 : Int32))), iv (((p1 &&& (1073741823 : Int32)) - (4 : Int32)) + (((p6.toUInt32 >>> ((2 : Int32) &&& 31).toUInt32).toInt32) &&& (1023 : Int32))), rv b466, .unset] [.int 3, .int 3])
    refine own_st (fun t k => XS.icmpNo X472.here hx rfl (hb hby at_96) rfl (by decide) k) ?_
    show own_E p e below _ T472 (mkF m 99 #[iv p1, iv p2, iv p3, iv p4, iv p5, iv p6, iv 3, iv (p1 &&& (1073741823 : Int32)), iv (((p1 &&& (1073741823 : Int32)) + (1 : Int32)) + (p2 &&& (255 : Int32))), iv (((((p1 &&& (1073741823 : Int32)) + (1 : Int32)) + (p2 &&& (255 : Int32))) + (1 : Int32)) + (((p2.toUInt32 >>> ((8 : Int32) &&& 31).toUInt32).toInt32) &&& (255 : Int32))), iv (((p1 &&& (1073741823 : Int32)) - (4 : Int32)) + (((p6.toUInt32 >>> ((2 : Int32) &&& 31).toUInt32).toInt32) &&& (1023 : Int32))), rv b466, .unset] [])
    refine own_st (fun t k => XS.aload X472.here hx rfl (hb hby at_99) rfl rfl k) ?_
    show own_E p e below _ T472 (mkF m 101 #[iv p1, iv p2, iv p3, iv p4, iv p5, iv p6, iv 3, iv (p1 &&& (1073741823 : Int32)), iv (((p1 &&& (1073741823 : Int32)) + (1 : Int32)) + (p2 &&& (255 : Int32))), iv (((((p1 &&& (1073741823 : Int32)) + (1 : Int32)) + (p2 &&& (255 : Int32))) + (1 : Int32)) + (((p2.toUInt32 >>> ((8 : Int32) &&& 31).toUInt32).toInt32) &&& (255 : Int32))), iv (((p1 &&& (1073741823 : Int32)) - (4 : Int32)) + (((p6.toUInt32 >>> ((2 : Int32) &&& 31).toUInt32).toInt32) &&& (1023 : Int32))), rv b466, .unset] [.ref b466])
    refine own_st (fun t k => XS.iload X472.here hx rfl (hb hby at_101) rfl k) ?_
    show own_E p e below _ T472 (mkF m 103 #[iv p1, iv p2, iv p3, iv p4, iv p5, iv p6, iv 3, iv (p1 &&& (1073741823 : Int32)), iv (((p1 &&& (1073741823 : Int32)) + (1 : Int32)) + (p2 &&& (255 : Int32))), iv (((((p1 &&& (1073741823 : Int32)) + (1 : Int32)) + (p2 &&& (255 : Int32))) + (1 : Int32)) + (((p2.toUInt32 >>> ((8 : Int32) &&& 31).toUInt32).toInt32) &&& (255 : Int32))), iv (((p1 &&& (1073741823 : Int32)) - (4 : Int32)) + (((p6.toUInt32 >>> ((2 : Int32) &&& 31).toUInt32).toInt32) &&& (1023 : Int32))), rv b466, .unset] [.int (((((p1 &&& (1073741823 : Int32)) + (1 : Int32)) + (p2 &&& (255 : Int32))) + (1 : Int32)) + (((p2.toUInt32 >>> ((8 : Int32) &&& 31).toUInt32).toInt32) &&& (255 : Int32))), .ref b466])
    refine own_st (fun t k => XS.iload X472.here hx rfl (hb hby at_103) rfl k) ?_
    show own_E p e below _ T472 (mkF m 105 #[iv p1, iv p2, iv p3, iv p4, iv p5, iv p6, iv 3, iv (p1 &&& (1073741823 : Int32)), iv (((p1 &&& (1073741823 : Int32)) + (1 : Int32)) + (p2 &&& (255 : Int32))), iv (((((p1 &&& (1073741823 : Int32)) + (1 : Int32)) + (p2 &&& (255 : Int32))) + (1 : Int32)) + (((p2.toUInt32 >>> ((8 : Int32) &&& 31).toUInt32).toInt32) &&& (255 : Int32))), iv (((p1 &&& (1073741823 : Int32)) - (4 : Int32)) + (((p6.toUInt32 >>> ((2 : Int32) &&& 31).toUInt32).toInt32) &&& (1023 : Int32))), rv b466, .unset] [.int p5, .int (((((p1 &&& (1073741823 : Int32)) + (1 : Int32)) + (p2 &&& (255 : Int32))) + (1 : Int32)) + (((p2.toUInt32 >>> ((8 : Int32) &&& 31).toUInt32).toInt32) &&& (255 : Int32))), .ref b466])
    refine own_st (fun t k => XS.iconst X472.here hx rfl (hb hby at_105) k) ?_
    show own_E p e below _ T472 (mkF m 106 #[iv p1, iv p2, iv p3, iv p4, iv p5, iv p6, iv 3, iv (p1 &&& (1073741823 : Int32)), iv (((p1 &&& (1073741823 : Int32)) + (1 : Int32)) + (p2 &&& (255 : Int32))), iv (((((p1 &&& (1073741823 : Int32)) + (1 : Int32)) + (p2 &&& (255 : Int32))) + (1 : Int32)) + (((p2.toUInt32 >>> ((8 : Int32) &&& 31).toUInt32).toInt32) &&& (255 : Int32))), iv (((p1 &&& (1073741823 : Int32)) - (4 : Int32)) + (((p6.toUInt32 >>> ((2 : Int32) &&& 31).toUInt32).toInt32) &&& (1023 : Int32))), rv b466, .unset] [.int 1, .int p5, .int (((((p1 &&& (1073741823 : Int32)) + (1 : Int32)) + (p2 &&& (255 : Int32))) + (1 : Int32)) + (((p2.toUInt32 >>> ((8 : Int32) &&& 31).toUInt32).toInt32) &&& (255 : Int32))), .ref b466])
    obtain ⟨cq474, kq474, q474a, q474b, q474c⟩ := isOf hZ e472 P472_0
    obtain ⟨_, _, ⟨T474, L474, k474, n474⟩, -, X474, ⟨Lc474, hQ474, l474, y474, z474⟩, st474⟩ := X472.virtualBack hx (y := own_y4) (z := own_y4) hown (mvT hZ (own_w hw 18 rfl)) (mvT hZ (own_w hw 19 rfl)) (notFace_of_selects (args := #[]) (mvT hZ (own_w hw 21 rfl))) (mvT hZ (own_w hw 21 rfl)) (mvT hZ (own_w hw 20 rfl)) (by decide) (backOf (W := 0) (own_add2 l Z a0 hw [] b466 b472_o0 b472_o1 k472_o2 k472_o3 (((((p1 &&& (1073741823 : Int32)) + (1 : Int32)) + (p2 &&& (255 : Int32))) + (1 : Int32)) + (((p2.toUInt32 >>> ((8 : Int32) &&& 31).toUInt32).toInt32) &&& (255 : Int32))) p5 (1 : Int32) (own_min (own_min (2147483647 : Int32) (1 : Int32)) (1 : Int32)) (own_max (own_max (0 : Int32) p3) p4) (p1 &&& (1073741823 : Int32)) (((p1 &&& (1073741823 : Int32)) + (1 : Int32)) + (p2 &&& (255 : Int32))) p3 p4 T472.heap n0 Z473 P472_0 P472_1 P472_2 P472_3 P472_4 P472_5 P472_6 P472_7 ne_b466_b472_o0 ne_b466_b472_o1 nq472_0_1 g_b466) hZ (own_w hw 22 rfl) (own_w hw 3 rfl) (by decide) (by decide)) q474a q474c (g := (mkF m 106 #[iv p1, iv p2, iv p3, iv p4, iv p5, iv p6, iv 3, iv (p1 &&& (1073741823 : Int32)), iv (((p1 &&& (1073741823 : Int32)) + (1 : Int32)) + (p2 &&& (255 : Int32))), iv (((((p1 &&& (1073741823 : Int32)) + (1 : Int32)) + (p2 &&& (255 : Int32))) + (1 : Int32)) + (((p2.toUInt32 >>> ((8 : Int32) &&& 31).toUInt32).toInt32) &&& (255 : Int32))), iv (((p1 &&& (1073741823 : Int32)) - (4 : Int32)) + (((p6.toUInt32 >>> ((2 : Int32) &&& 31).toUInt32).toInt32) &&& (1023 : Int32))), rv b466, .unset] [.int 1, .int p5, .int (((((p1 &&& (1073741823 : Int32)) + (1 : Int32)) + (p2 &&& (255 : Int32))) + (1 : Int32)) + (((p2.toUInt32 >>> ((8 : Int32) &&& 31).toUInt32).toInt32) &&& (255 : Int32))), .ref b466])) rfl (by rw [hml]; rfl) (Steps.refl _) (argsL := [(.int (((((p1 &&& (1073741823 : Int32)) + (1 : Int32)) + (p2 &&& (255 : Int32))) + (1 : Int32)) + (((p2.toUInt32 >>> ((8 : Int32) &&& 31).toUInt32).toInt32) &&& (255 : Int32)))), (.int p5), (.int (1 : Int32))]) (rest := []) (lenOf own_pd_3 rfl) rfl (by show 2 * 0 + _ ≤ _; exact Nat.le_of_eq rfl) (hb hby at_106) (fun _ _ => ⟨rfl, e472, (by decide : 5 + 2 ≤ _), (by decide : 11 + 8 ≤ _)⟩)
    dsimp only [Pt.U, Pt.locs, Pt.cells, Pt.slots] at X474 l474 y474 z474 st474 hQ474
    subst l474 y474 z474
    obtain ⟨b474_o0, b474_o1, k474_o2, k474_o3, rfl, Nq474, Kq474, sz474_0, sz474_1, nq474_0_1, P474_0, P474_1, P474_2, P474_3, P474_4, P474_5, P474_6, P474_7⟩ := hQ474
    have N474 := Fr.app N472 Nq474
    have ne_b466_b474_o0 : b466 ≠ b474_o0 := Nat.ne_of_lt (Nat.lt_of_lt_of_le P472_0.lt sz474_0)
    have B475 := (P470_6.keep Kq472 (ninS (Ne.symm ne_b466_b468_o0) nin0))
    have ne_b468_o0_b474_o0 : b468_o0 ≠ b474_o0 := Nat.ne_of_lt (Nat.lt_of_lt_of_le B475.lt sz474_0)
    have B476 := (P470_7.keep Kq472 (ninS (Ne.symm ne_b466_b468_o1) nin0))
    have ne_b468_o1_b474_o0 : b468_o1 ≠ b474_o0 := Nat.ne_of_lt (Nat.lt_of_lt_of_le B476.lt sz474_0)
    have ne_b472_o0_b474_o0 : b472_o0 ≠ b474_o0 := Nat.ne_of_lt (Nat.lt_of_lt_of_le P472_6.lt sz474_0)
    have ne_b472_o1_b474_o0 : b472_o1 ≠ b474_o0 := Nat.ne_of_lt (Nat.lt_of_lt_of_le P472_7.lt sz474_0)
    have g_b474_o0 : n0 ≤ b474_o0 := Nat.le_trans Z473 sz474_0
    have ne_b466_b474_o1 : b466 ≠ b474_o1 := Nat.ne_of_lt (Nat.lt_of_lt_of_le P472_0.lt sz474_1)
    have ne_b468_o0_b474_o1 : b468_o0 ≠ b474_o1 := Nat.ne_of_lt (Nat.lt_of_lt_of_le B475.lt sz474_1)
    have ne_b468_o1_b474_o1 : b468_o1 ≠ b474_o1 := Nat.ne_of_lt (Nat.lt_of_lt_of_le B476.lt sz474_1)
    have ne_b472_o0_b474_o1 : b472_o0 ≠ b474_o1 := Nat.ne_of_lt (Nat.lt_of_lt_of_le P472_6.lt sz474_1)
    have ne_b472_o1_b474_o1 : b472_o1 ≠ b474_o1 := Nat.ne_of_lt (Nat.lt_of_lt_of_le P472_7.lt sz474_1)
    have g_b474_o1 : n0 ≤ b474_o1 := Nat.le_trans Z473 sz474_1
    have e474 : T474.heap = T474.heap := rfl
    have Z477 := Nat.le_trans Z473 Kq474.1
    refine own_tr st474 ?_
    show own_E p e below _ T474 (mkF m 109 #[iv p1, iv p2, iv p3, iv p4, iv p5, iv p6, iv 3, iv (p1 &&& (1073741823 : Int32)), iv (((p1 &&& (1073741823 : Int32)) + (1 : Int32)) + (p2 &&& (255 : Int32))), iv (((((p1 &&& (1073741823 : Int32)) + (1 : Int32)) + (p2 &&& (255 : Int32))) + (1 : Int32)) + (((p2.toUInt32 >>> ((8 : Int32) &&& 31).toUInt32).toInt32) &&& (255 : Int32))), iv (((p1 &&& (1073741823 : Int32)) - (4 : Int32)) + (((p6.toUInt32 >>> ((2 : Int32) &&& 31).toUInt32).toInt32) &&& (1023 : Int32))), rv b466, .unset] [])
    refine own_st (fun t k => XS.iconst X474.here hx rfl (hb hby at_109) k) ?_
    show own_E p e below _ T474 (mkF m 110 #[iv p1, iv p2, iv p3, iv p4, iv p5, iv p6, iv 3, iv (p1 &&& (1073741823 : Int32)), iv (((p1 &&& (1073741823 : Int32)) + (1 : Int32)) + (p2 &&& (255 : Int32))), iv (((((p1 &&& (1073741823 : Int32)) + (1 : Int32)) + (p2 &&& (255 : Int32))) + (1 : Int32)) + (((p2.toUInt32 >>> ((8 : Int32) &&& 31).toUInt32).toInt32) &&& (255 : Int32))), iv (((p1 &&& (1073741823 : Int32)) - (4 : Int32)) + (((p6.toUInt32 >>> ((2 : Int32) &&& 31).toUInt32).toInt32) &&& (1023 : Int32))), rv b466, .unset] [.int 0])
    refine own_st (fun t k => XS.istore X474.here hx rfl (hb hby at_110) rfl (l' := #[iv p1, iv p2, iv p3, iv p4, iv p5, iv p6, iv 3, iv (p1 &&& (1073741823 : Int32)), iv (((p1 &&& (1073741823 : Int32)) + (1 : Int32)) + (p2 &&& (255 : Int32))), iv (((((p1 &&& (1073741823 : Int32)) + (1 : Int32)) + (p2 &&& (255 : Int32))) + (1 : Int32)) + (((p2.toUInt32 >>> ((8 : Int32) &&& 31).toUInt32).toInt32) &&& (255 : Int32))), iv (((p1 &&& (1073741823 : Int32)) - (4 : Int32)) + (((p6.toUInt32 >>> ((2 : Int32) &&& 31).toUInt32).toInt32) &&& (1023 : Int32))), rv b466, iv 0]) rfl k) ?_
    show own_E p e below _ T474 (mkF m 112 #[iv p1, iv p2, iv p3, iv p4, iv p5, iv p6, iv 3, iv (p1 &&& (1073741823 : Int32)), iv (((p1 &&& (1073741823 : Int32)) + (1 : Int32)) + (p2 &&& (255 : Int32))), iv (((((p1 &&& (1073741823 : Int32)) + (1 : Int32)) + (p2 &&& (255 : Int32))) + (1 : Int32)) + (((p2.toUInt32 >>> ((8 : Int32) &&& 31).toUInt32).toInt32) &&& (255 : Int32))), iv (((p1 &&& (1073741823 : Int32)) - (4 : Int32)) + (((p6.toUInt32 >>> ((2 : Int32) &&& 31).toUInt32).toInt32) &&& (1023 : Int32))), rv b466, iv 0] [])
    refine own_st (fun t k => XS.iload X474.here hx rfl (hb hby at_112) rfl k) ?_
    show own_E p e below _ T474 (mkF m 114 #[iv p1, iv p2, iv p3, iv p4, iv p5, iv p6, iv 3, iv (p1 &&& (1073741823 : Int32)), iv (((p1 &&& (1073741823 : Int32)) + (1 : Int32)) + (p2 &&& (255 : Int32))), iv (((((p1 &&& (1073741823 : Int32)) + (1 : Int32)) + (p2 &&& (255 : Int32))) + (1 : Int32)) + (((p2.toUInt32 >>> ((8 : Int32) &&& 31).toUInt32).toInt32) &&& (255 : Int32))), iv (((p1 &&& (1073741823 : Int32)) - (4 : Int32)) + (((p6.toUInt32 >>> ((2 : Int32) &&& 31).toUInt32).toInt32) &&& (1023 : Int32))), rv b466, iv 0] [.int 3])
    refine own_st (fun t k => XS.iconst X474.here hx rfl (hb hby at_114) k) ?_
    show own_E p e below _ T474 (mkF m 115 #[iv p1, iv p2, iv p3, iv p4, iv p5, iv p6, iv 3, iv (p1 &&& (1073741823 : Int32)), iv (((p1 &&& (1073741823 : Int32)) + (1 : Int32)) + (p2 &&& (255 : Int32))), iv (((((p1 &&& (1073741823 : Int32)) + (1 : Int32)) + (p2 &&& (255 : Int32))) + (1 : Int32)) + (((p2.toUInt32 >>> ((8 : Int32) &&& 31).toUInt32).toInt32) &&& (255 : Int32))), iv (((p1 &&& (1073741823 : Int32)) - (4 : Int32)) + (((p6.toUInt32 >>> ((2 : Int32) &&& 31).toUInt32).toInt32) &&& (1023 : Int32))), rv b466, iv 0] [.int 1, .int 3])
    refine own_st (fun t k => XS.icmpNo X474.here hx rfl (hb hby at_115) rfl (by decide) k) ?_
    show own_E p e below _ T474 (mkF m 118 #[iv p1, iv p2, iv p3, iv p4, iv p5, iv p6, iv 3, iv (p1 &&& (1073741823 : Int32)), iv (((p1 &&& (1073741823 : Int32)) + (1 : Int32)) + (p2 &&& (255 : Int32))), iv (((((p1 &&& (1073741823 : Int32)) + (1 : Int32)) + (p2 &&& (255 : Int32))) + (1 : Int32)) + (((p2.toUInt32 >>> ((8 : Int32) &&& 31).toUInt32).toInt32) &&& (255 : Int32))), iv (((p1 &&& (1073741823 : Int32)) - (4 : Int32)) + (((p6.toUInt32 >>> ((2 : Int32) &&& 31).toUInt32).toInt32) &&& (1023 : Int32))), rv b466, iv 0] [])
    refine own_st (fun t k => XS.iload X474.here hx rfl (hb hby at_118) rfl k) ?_
    show own_E p e below _ T474 (mkF m 120 #[iv p1, iv p2, iv p3, iv p4, iv p5, iv p6, iv 3, iv (p1 &&& (1073741823 : Int32)), iv (((p1 &&& (1073741823 : Int32)) + (1 : Int32)) + (p2 &&& (255 : Int32))), iv (((((p1 &&& (1073741823 : Int32)) + (1 : Int32)) + (p2 &&& (255 : Int32))) + (1 : Int32)) + (((p2.toUInt32 >>> ((8 : Int32) &&& 31).toUInt32).toInt32) &&& (255 : Int32))), iv (((p1 &&& (1073741823 : Int32)) - (4 : Int32)) + (((p6.toUInt32 >>> ((2 : Int32) &&& 31).toUInt32).toInt32) &&& (1023 : Int32))), rv b466, iv 0] [.int (((p1 &&& (1073741823 : Int32)) - (4 : Int32)) + (((p6.toUInt32 >>> ((2 : Int32) &&& 31).toUInt32).toInt32) &&& (1023 : Int32)))])
    refine own_st (fun t k => XS.iload X474.here hx rfl (hb hby at_120) rfl k) ?_
    show own_E p e below _ T474 (mkF m 122 #[iv p1, iv p2, iv p3, iv p4, iv p5, iv p6, iv 3, iv (p1 &&& (1073741823 : Int32)), iv (((p1 &&& (1073741823 : Int32)) + (1 : Int32)) + (p2 &&& (255 : Int32))), iv (((((p1 &&& (1073741823 : Int32)) + (1 : Int32)) + (p2 &&& (255 : Int32))) + (1 : Int32)) + (((p2.toUInt32 >>> ((8 : Int32) &&& 31).toUInt32).toInt32) &&& (255 : Int32))), iv (((p1 &&& (1073741823 : Int32)) - (4 : Int32)) + (((p6.toUInt32 >>> ((2 : Int32) &&& 31).toUInt32).toInt32) &&& (1023 : Int32))), rv b466, iv 0] [.int (p1 &&& (1073741823 : Int32)), .int (((p1 &&& (1073741823 : Int32)) - (4 : Int32)) + (((p6.toUInt32 >>> ((2 : Int32) &&& 31).toUInt32).toInt32) &&& (1023 : Int32)))])
    by_cases hc478 : (((p1 &&& (1073741823 : Int32)) - (4 : Int32)) + (((p6.toUInt32 >>> ((2 : Int32) &&& 31).toUInt32).toInt32) &&& (1023 : Int32))) = (p1 &&& (1073741823 : Int32))
    · refine own_st (fun t k => XS.icmpNo X474.here hx rfl (hb hby at_122) rfl (teq hc478).2 k) ?_
      show own_E p e below _ T474 (mkF m 125 #[iv p1, iv p2, iv p3, iv p4, iv p5, iv p6, iv 3, iv (p1 &&& (1073741823 : Int32)), iv (((p1 &&& (1073741823 : Int32)) + (1 : Int32)) + (p2 &&& (255 : Int32))), iv (((((p1 &&& (1073741823 : Int32)) + (1 : Int32)) + (p2 &&& (255 : Int32))) + (1 : Int32)) + (((p2.toUInt32 >>> ((8 : Int32) &&& 31).toUInt32).toInt32) &&& (255 : Int32))), iv (((p1 &&& (1073741823 : Int32)) - (4 : Int32)) + (((p6.toUInt32 >>> ((2 : Int32) &&& 31).toUInt32).toInt32) &&& (1023 : Int32))), rv b466, iv 0] [])
      refine own_st (fun t k => XS.iloadN X474.here hx rfl (hb hby at_125) rfl k) ?_
      show own_E p e below _ T474 (mkF m 126 #[iv p1, iv p2, iv p3, iv p4, iv p5, iv p6, iv 3, iv (p1 &&& (1073741823 : Int32)), iv (((p1 &&& (1073741823 : Int32)) + (1 : Int32)) + (p2 &&& (255 : Int32))), iv (((((p1 &&& (1073741823 : Int32)) + (1 : Int32)) + (p2 &&& (255 : Int32))) + (1 : Int32)) + (((p2.toUInt32 >>> ((8 : Int32) &&& 31).toUInt32).toInt32) &&& (255 : Int32))), iv (((p1 &&& (1073741823 : Int32)) - (4 : Int32)) + (((p6.toUInt32 >>> ((2 : Int32) &&& 31).toUInt32).toInt32) &&& (1023 : Int32))), rv b466, iv 0] [.int p3])
      refine own_st (fun t k => XS.istore X474.here hx rfl (hb hby at_126) rfl (l' := #[iv p1, iv p2, iv p3, iv p4, iv p5, iv p6, iv 3, iv (p1 &&& (1073741823 : Int32)), iv (((p1 &&& (1073741823 : Int32)) + (1 : Int32)) + (p2 &&& (255 : Int32))), iv (((((p1 &&& (1073741823 : Int32)) + (1 : Int32)) + (p2 &&& (255 : Int32))) + (1 : Int32)) + (((p2.toUInt32 >>> ((8 : Int32) &&& 31).toUInt32).toInt32) &&& (255 : Int32))), iv (((p1 &&& (1073741823 : Int32)) - (4 : Int32)) + (((p6.toUInt32 >>> ((2 : Int32) &&& 31).toUInt32).toInt32) &&& (1023 : Int32))), rv b466, iv p3]) rfl k) ?_
      show own_E p e below _ T474 (mkF m 128 #[iv p1, iv p2, iv p3, iv p4, iv p5, iv p6, iv 3, iv (p1 &&& (1073741823 : Int32)), iv (((p1 &&& (1073741823 : Int32)) + (1 : Int32)) + (p2 &&& (255 : Int32))), iv (((((p1 &&& (1073741823 : Int32)) + (1 : Int32)) + (p2 &&& (255 : Int32))) + (1 : Int32)) + (((p2.toUInt32 >>> ((8 : Int32) &&& 31).toUInt32).toInt32) &&& (255 : Int32))), iv (((p1 &&& (1073741823 : Int32)) - (4 : Int32)) + (((p6.toUInt32 >>> ((2 : Int32) &&& 31).toUInt32).toInt32) &&& (1023 : Int32))), rv b466, iv p3] [])
      refine own_st (fun t k => XS.iload X474.here hx rfl (hb hby at_128) rfl k) ?_
      show own_E p e below _ T474 (mkF m 130 #[iv p1, iv p2, iv p3, iv p4, iv p5, iv p6, iv 3, iv (p1 &&& (1073741823 : Int32)), iv (((p1 &&& (1073741823 : Int32)) + (1 : Int32)) + (p2 &&& (255 : Int32))), iv (((((p1 &&& (1073741823 : Int32)) + (1 : Int32)) + (p2 &&& (255 : Int32))) + (1 : Int32)) + (((p2.toUInt32 >>> ((8 : Int32) &&& 31).toUInt32).toInt32) &&& (255 : Int32))), iv (((p1 &&& (1073741823 : Int32)) - (4 : Int32)) + (((p6.toUInt32 >>> ((2 : Int32) &&& 31).toUInt32).toInt32) &&& (1023 : Int32))), rv b466, iv p3] [.int 3])
      refine own_st (fun t k => XS.iconst X474.here hx rfl (hb hby at_130) k) ?_
      show own_E p e below _ T474 (mkF m 131 #[iv p1, iv p2, iv p3, iv p4, iv p5, iv p6, iv 3, iv (p1 &&& (1073741823 : Int32)), iv (((p1 &&& (1073741823 : Int32)) + (1 : Int32)) + (p2 &&& (255 : Int32))), iv (((((p1 &&& (1073741823 : Int32)) + (1 : Int32)) + (p2 &&& (255 : Int32))) + (1 : Int32)) + (((p2.toUInt32 >>> ((8 : Int32) &&& 31).toUInt32).toInt32) &&& (255 : Int32))), iv (((p1 &&& (1073741823 : Int32)) - (4 : Int32)) + (((p6.toUInt32 >>> ((2 : Int32) &&& 31).toUInt32).toInt32) &&& (1023 : Int32))), rv b466, iv p3] [.int 2, .int 3])
      refine own_st (fun t k => XS.icmpNo X474.here hx rfl (hb hby at_131) rfl (by decide) k) ?_
      show own_E p e below _ T474 (mkF m 134 #[iv p1, iv p2, iv p3, iv p4, iv p5, iv p6, iv 3, iv (p1 &&& (1073741823 : Int32)), iv (((p1 &&& (1073741823 : Int32)) + (1 : Int32)) + (p2 &&& (255 : Int32))), iv (((((p1 &&& (1073741823 : Int32)) + (1 : Int32)) + (p2 &&& (255 : Int32))) + (1 : Int32)) + (((p2.toUInt32 >>> ((8 : Int32) &&& 31).toUInt32).toInt32) &&& (255 : Int32))), iv (((p1 &&& (1073741823 : Int32)) - (4 : Int32)) + (((p6.toUInt32 >>> ((2 : Int32) &&& 31).toUInt32).toInt32) &&& (1023 : Int32))), rv b466, iv p3] [])
      refine own_st (fun t k => XS.iload X474.here hx rfl (hb hby at_134) rfl k) ?_
      show own_E p e below _ T474 (mkF m 136 #[iv p1, iv p2, iv p3, iv p4, iv p5, iv p6, iv 3, iv (p1 &&& (1073741823 : Int32)), iv (((p1 &&& (1073741823 : Int32)) + (1 : Int32)) + (p2 &&& (255 : Int32))), iv (((((p1 &&& (1073741823 : Int32)) + (1 : Int32)) + (p2 &&& (255 : Int32))) + (1 : Int32)) + (((p2.toUInt32 >>> ((8 : Int32) &&& 31).toUInt32).toInt32) &&& (255 : Int32))), iv (((p1 &&& (1073741823 : Int32)) - (4 : Int32)) + (((p6.toUInt32 >>> ((2 : Int32) &&& 31).toUInt32).toInt32) &&& (1023 : Int32))), rv b466, iv p3] [.int (((p1 &&& (1073741823 : Int32)) - (4 : Int32)) + (((p6.toUInt32 >>> ((2 : Int32) &&& 31).toUInt32).toInt32) &&& (1023 : Int32)))])
      refine own_st (fun t k => XS.iload X474.here hx rfl (hb hby at_136) rfl k) ?_
      show own_E p e below _ T474 (mkF m 138 #[iv p1, iv p2, iv p3, iv p4, iv p5, iv p6, iv 3, iv (p1 &&& (1073741823 : Int32)), iv (((p1 &&& (1073741823 : Int32)) + (1 : Int32)) + (p2 &&& (255 : Int32))), iv (((((p1 &&& (1073741823 : Int32)) + (1 : Int32)) + (p2 &&& (255 : Int32))) + (1 : Int32)) + (((p2.toUInt32 >>> ((8 : Int32) &&& 31).toUInt32).toInt32) &&& (255 : Int32))), iv (((p1 &&& (1073741823 : Int32)) - (4 : Int32)) + (((p6.toUInt32 >>> ((2 : Int32) &&& 31).toUInt32).toInt32) &&& (1023 : Int32))), rv b466, iv p3] [.int (((p1 &&& (1073741823 : Int32)) + (1 : Int32)) + (p2 &&& (255 : Int32))), .int (((p1 &&& (1073741823 : Int32)) - (4 : Int32)) + (((p6.toUInt32 >>> ((2 : Int32) &&& 31).toUInt32).toInt32) &&& (1023 : Int32)))])
      by_cases hc479 : (((p1 &&& (1073741823 : Int32)) - (4 : Int32)) + (((p6.toUInt32 >>> ((2 : Int32) &&& 31).toUInt32).toInt32) &&& (1023 : Int32))) = (((p1 &&& (1073741823 : Int32)) + (1 : Int32)) + (p2 &&& (255 : Int32)))
      · exfalso
        have f480 := rng32 p6
        have f481 : (3 : Int32).toInt = 3 := rfl
        have f482 := rng32 (p6 &&& (3 : Int32))
        have f483 : (p6 &&& (3 : Int32)).toInt = p6.toInt % 4 := c_mask p6 (3 : Int32) 2 (by decide) (by decide)
        have f484 := rng32 p1
        have f485 : (1073741823 : Int32).toInt = 1073741823 := rfl
        have f486 := rng32 (p1 &&& (1073741823 : Int32))
        have f487 : (p1 &&& (1073741823 : Int32)).toInt = p1.toInt % 1073741824 := c_mask p1 (1073741823 : Int32) 30 (by decide) (by decide)
        have f488 : (4 : Int32).toInt = 4 := rfl
        have f489 := rng32 ((p1 &&& (1073741823 : Int32)) - (4 : Int32))
        have f490 : ((p1 &&& (1073741823 : Int32)) - (4 : Int32)).toInt = (p1 &&& (1073741823 : Int32)).toInt - (4 : Int32).toInt := by have h := c_isub (p1 &&& (1073741823 : Int32)) (4 : Int32); omega
        have f491 : (2 : Int32).toInt = 2 := rfl
        have f492 := rng32 ((p6.toUInt32 >>> ((2 : Int32) &&& 31).toUInt32).toInt32)
        have f493 : ((p6.toUInt32 >>> ((2 : Int32) &&& 31).toUInt32).toInt32).toInt = (p6.toInt % 4294967296) / 4 := c_iushr p6 (2 : Int32) 2 (by decide) (by decide)
        have f494 : (1023 : Int32).toInt = 1023 := rfl
        have f495 := rng32 (((p6.toUInt32 >>> ((2 : Int32) &&& 31).toUInt32).toInt32) &&& (1023 : Int32))
        have f496 : (((p6.toUInt32 >>> ((2 : Int32) &&& 31).toUInt32).toInt32) &&& (1023 : Int32)).toInt = ((p6.toUInt32 >>> ((2 : Int32) &&& 31).toUInt32).toInt32).toInt % 1024 := c_mask ((p6.toUInt32 >>> ((2 : Int32) &&& 31).toUInt32).toInt32) (1023 : Int32) 10 (by decide) (by decide)
        have f497 := rng32 (((p1 &&& (1073741823 : Int32)) - (4 : Int32)) + (((p6.toUInt32 >>> ((2 : Int32) &&& 31).toUInt32).toInt32) &&& (1023 : Int32)))
        have f498 : (((p1 &&& (1073741823 : Int32)) - (4 : Int32)) + (((p6.toUInt32 >>> ((2 : Int32) &&& 31).toUInt32).toInt32) &&& (1023 : Int32))).toInt = ((p1 &&& (1073741823 : Int32)) - (4 : Int32)).toInt + (((p6.toUInt32 >>> ((2 : Int32) &&& 31).toUInt32).toInt32) &&& (1023 : Int32)).toInt := by have h := c_iadd ((p1 &&& (1073741823 : Int32)) - (4 : Int32)) (((p6.toUInt32 >>> ((2 : Int32) &&& 31).toUInt32).toInt32) &&& (1023 : Int32)); omega
        have f499 : (1 : Int32).toInt = 1 := rfl
        have f500 := rng32 ((p1 &&& (1073741823 : Int32)) + (1 : Int32))
        have f501 : ((p1 &&& (1073741823 : Int32)) + (1 : Int32)).toInt = (p1 &&& (1073741823 : Int32)).toInt + (1 : Int32).toInt := by have h := c_iadd (p1 &&& (1073741823 : Int32)) (1 : Int32); omega
        have f502 := rng32 p2
        have f503 : (255 : Int32).toInt = 255 := rfl
        have f504 := rng32 (p2 &&& (255 : Int32))
        have f505 : (p2 &&& (255 : Int32)).toInt = p2.toInt % 256 := c_mask p2 (255 : Int32) 8 (by decide) (by decide)
        have f506 := rng32 (((p1 &&& (1073741823 : Int32)) + (1 : Int32)) + (p2 &&& (255 : Int32)))
        have f507 : (((p1 &&& (1073741823 : Int32)) + (1 : Int32)) + (p2 &&& (255 : Int32))).toInt = ((p1 &&& (1073741823 : Int32)) + (1 : Int32)).toInt + (p2 &&& (255 : Int32)).toInt := by have h := c_iadd ((p1 &&& (1073741823 : Int32)) + (1 : Int32)) (p2 &&& (255 : Int32)); omega
        have g508 := hs1
        rw [← Int32.toInt_inj] at g508
        have g509 := hc478
        rw [← Int32.toInt_inj] at g509
        have g510 := hc479
        rw [← Int32.toInt_inj] at g510
        omega
      · refine own_st (fun t k => XS.icmpYes X474.here hx rfl (pc0 := 138) (pc' := 144) rfl (hb hby at_138) rfl (feq hc479).2 (by decide) (by decide) k) ?_
        show own_E p e below _ T474 (mkF m 144 #[iv p1, iv p2, iv p3, iv p4, iv p5, iv p6, iv 3, iv (p1 &&& (1073741823 : Int32)), iv (((p1 &&& (1073741823 : Int32)) + (1 : Int32)) + (p2 &&& (255 : Int32))), iv (((((p1 &&& (1073741823 : Int32)) + (1 : Int32)) + (p2 &&& (255 : Int32))) + (1 : Int32)) + (((p2.toUInt32 >>> ((8 : Int32) &&& 31).toUInt32).toInt32) &&& (255 : Int32))), iv (((p1 &&& (1073741823 : Int32)) - (4 : Int32)) + (((p6.toUInt32 >>> ((2 : Int32) &&& 31).toUInt32).toInt32) &&& (1023 : Int32))), rv b466, iv p3] [])
        refine own_st (fun t k => XS.iload X474.here hx rfl (hb hby at_144) rfl k) ?_
        show own_E p e below _ T474 (mkF m 146 #[iv p1, iv p2, iv p3, iv p4, iv p5, iv p6, iv 3, iv (p1 &&& (1073741823 : Int32)), iv (((p1 &&& (1073741823 : Int32)) + (1 : Int32)) + (p2 &&& (255 : Int32))), iv (((((p1 &&& (1073741823 : Int32)) + (1 : Int32)) + (p2 &&& (255 : Int32))) + (1 : Int32)) + (((p2.toUInt32 >>> ((8 : Int32) &&& 31).toUInt32).toInt32) &&& (255 : Int32))), iv (((p1 &&& (1073741823 : Int32)) - (4 : Int32)) + (((p6.toUInt32 >>> ((2 : Int32) &&& 31).toUInt32).toInt32) &&& (1023 : Int32))), rv b466, iv p3] [.int 3])
        refine own_st (fun t k => XS.iconst X474.here hx rfl (hb hby at_146) k) ?_
        show own_E p e below _ T474 (mkF m 147 #[iv p1, iv p2, iv p3, iv p4, iv p5, iv p6, iv 3, iv (p1 &&& (1073741823 : Int32)), iv (((p1 &&& (1073741823 : Int32)) + (1 : Int32)) + (p2 &&& (255 : Int32))), iv (((((p1 &&& (1073741823 : Int32)) + (1 : Int32)) + (p2 &&& (255 : Int32))) + (1 : Int32)) + (((p2.toUInt32 >>> ((8 : Int32) &&& 31).toUInt32).toInt32) &&& (255 : Int32))), iv (((p1 &&& (1073741823 : Int32)) - (4 : Int32)) + (((p6.toUInt32 >>> ((2 : Int32) &&& 31).toUInt32).toInt32) &&& (1023 : Int32))), rv b466, iv p3] [.int 3, .int 3])
        refine own_st (fun t k => XS.icmpNo X474.here hx rfl (hb hby at_147) rfl (by decide) k) ?_
        show own_E p e below _ T474 (mkF m 150 #[iv p1, iv p2, iv p3, iv p4, iv p5, iv p6, iv 3, iv (p1 &&& (1073741823 : Int32)), iv (((p1 &&& (1073741823 : Int32)) + (1 : Int32)) + (p2 &&& (255 : Int32))), iv (((((p1 &&& (1073741823 : Int32)) + (1 : Int32)) + (p2 &&& (255 : Int32))) + (1 : Int32)) + (((p2.toUInt32 >>> ((8 : Int32) &&& 31).toUInt32).toInt32) &&& (255 : Int32))), iv (((p1 &&& (1073741823 : Int32)) - (4 : Int32)) + (((p6.toUInt32 >>> ((2 : Int32) &&& 31).toUInt32).toInt32) &&& (1023 : Int32))), rv b466, iv p3] [])
        refine own_st (fun t k => XS.iload X474.here hx rfl (hb hby at_150) rfl k) ?_
        show own_E p e below _ T474 (mkF m 152 #[iv p1, iv p2, iv p3, iv p4, iv p5, iv p6, iv 3, iv (p1 &&& (1073741823 : Int32)), iv (((p1 &&& (1073741823 : Int32)) + (1 : Int32)) + (p2 &&& (255 : Int32))), iv (((((p1 &&& (1073741823 : Int32)) + (1 : Int32)) + (p2 &&& (255 : Int32))) + (1 : Int32)) + (((p2.toUInt32 >>> ((8 : Int32) &&& 31).toUInt32).toInt32) &&& (255 : Int32))), iv (((p1 &&& (1073741823 : Int32)) - (4 : Int32)) + (((p6.toUInt32 >>> ((2 : Int32) &&& 31).toUInt32).toInt32) &&& (1023 : Int32))), rv b466, iv p3] [.int (((p1 &&& (1073741823 : Int32)) - (4 : Int32)) + (((p6.toUInt32 >>> ((2 : Int32) &&& 31).toUInt32).toInt32) &&& (1023 : Int32)))])
        refine own_st (fun t k => XS.iload X474.here hx rfl (hb hby at_152) rfl k) ?_
        show own_E p e below _ T474 (mkF m 154 #[iv p1, iv p2, iv p3, iv p4, iv p5, iv p6, iv 3, iv (p1 &&& (1073741823 : Int32)), iv (((p1 &&& (1073741823 : Int32)) + (1 : Int32)) + (p2 &&& (255 : Int32))), iv (((((p1 &&& (1073741823 : Int32)) + (1 : Int32)) + (p2 &&& (255 : Int32))) + (1 : Int32)) + (((p2.toUInt32 >>> ((8 : Int32) &&& 31).toUInt32).toInt32) &&& (255 : Int32))), iv (((p1 &&& (1073741823 : Int32)) - (4 : Int32)) + (((p6.toUInt32 >>> ((2 : Int32) &&& 31).toUInt32).toInt32) &&& (1023 : Int32))), rv b466, iv p3] [.int (((((p1 &&& (1073741823 : Int32)) + (1 : Int32)) + (p2 &&& (255 : Int32))) + (1 : Int32)) + (((p2.toUInt32 >>> ((8 : Int32) &&& 31).toUInt32).toInt32) &&& (255 : Int32))), .int (((p1 &&& (1073741823 : Int32)) - (4 : Int32)) + (((p6.toUInt32 >>> ((2 : Int32) &&& 31).toUInt32).toInt32) &&& (1023 : Int32)))])
        by_cases hc511 : (((p1 &&& (1073741823 : Int32)) - (4 : Int32)) + (((p6.toUInt32 >>> ((2 : Int32) &&& 31).toUInt32).toInt32) &&& (1023 : Int32))) = (((((p1 &&& (1073741823 : Int32)) + (1 : Int32)) + (p2 &&& (255 : Int32))) + (1 : Int32)) + (((p2.toUInt32 >>> ((8 : Int32) &&& 31).toUInt32).toInt32) &&& (255 : Int32)))
        · exfalso
          have f512 := rng32 p6
          have f513 : (3 : Int32).toInt = 3 := rfl
          have f514 := rng32 (p6 &&& (3 : Int32))
          have f515 : (p6 &&& (3 : Int32)).toInt = p6.toInt % 4 := c_mask p6 (3 : Int32) 2 (by decide) (by decide)
          have f516 := rng32 p1
          have f517 : (1073741823 : Int32).toInt = 1073741823 := rfl
          have f518 := rng32 (p1 &&& (1073741823 : Int32))
          have f519 : (p1 &&& (1073741823 : Int32)).toInt = p1.toInt % 1073741824 := c_mask p1 (1073741823 : Int32) 30 (by decide) (by decide)
          have f520 : (4 : Int32).toInt = 4 := rfl
          have f521 := rng32 ((p1 &&& (1073741823 : Int32)) - (4 : Int32))
          have f522 : ((p1 &&& (1073741823 : Int32)) - (4 : Int32)).toInt = (p1 &&& (1073741823 : Int32)).toInt - (4 : Int32).toInt := by have h := c_isub (p1 &&& (1073741823 : Int32)) (4 : Int32); omega
          have f523 : (2 : Int32).toInt = 2 := rfl
          have f524 := rng32 ((p6.toUInt32 >>> ((2 : Int32) &&& 31).toUInt32).toInt32)
          have f525 : ((p6.toUInt32 >>> ((2 : Int32) &&& 31).toUInt32).toInt32).toInt = (p6.toInt % 4294967296) / 4 := c_iushr p6 (2 : Int32) 2 (by decide) (by decide)
          have f526 : (1023 : Int32).toInt = 1023 := rfl
          have f527 := rng32 (((p6.toUInt32 >>> ((2 : Int32) &&& 31).toUInt32).toInt32) &&& (1023 : Int32))
          have f528 : (((p6.toUInt32 >>> ((2 : Int32) &&& 31).toUInt32).toInt32) &&& (1023 : Int32)).toInt = ((p6.toUInt32 >>> ((2 : Int32) &&& 31).toUInt32).toInt32).toInt % 1024 := c_mask ((p6.toUInt32 >>> ((2 : Int32) &&& 31).toUInt32).toInt32) (1023 : Int32) 10 (by decide) (by decide)
          have f529 := rng32 (((p1 &&& (1073741823 : Int32)) - (4 : Int32)) + (((p6.toUInt32 >>> ((2 : Int32) &&& 31).toUInt32).toInt32) &&& (1023 : Int32)))
          have f530 : (((p1 &&& (1073741823 : Int32)) - (4 : Int32)) + (((p6.toUInt32 >>> ((2 : Int32) &&& 31).toUInt32).toInt32) &&& (1023 : Int32))).toInt = ((p1 &&& (1073741823 : Int32)) - (4 : Int32)).toInt + (((p6.toUInt32 >>> ((2 : Int32) &&& 31).toUInt32).toInt32) &&& (1023 : Int32)).toInt := by have h := c_iadd ((p1 &&& (1073741823 : Int32)) - (4 : Int32)) (((p6.toUInt32 >>> ((2 : Int32) &&& 31).toUInt32).toInt32) &&& (1023 : Int32)); omega
          have f531 : (1 : Int32).toInt = 1 := rfl
          have f532 := rng32 ((p1 &&& (1073741823 : Int32)) + (1 : Int32))
          have f533 : ((p1 &&& (1073741823 : Int32)) + (1 : Int32)).toInt = (p1 &&& (1073741823 : Int32)).toInt + (1 : Int32).toInt := by have h := c_iadd (p1 &&& (1073741823 : Int32)) (1 : Int32); omega
          have f534 := rng32 p2
          have f535 : (255 : Int32).toInt = 255 := rfl
          have f536 := rng32 (p2 &&& (255 : Int32))
          have f537 : (p2 &&& (255 : Int32)).toInt = p2.toInt % 256 := c_mask p2 (255 : Int32) 8 (by decide) (by decide)
          have f538 := rng32 (((p1 &&& (1073741823 : Int32)) + (1 : Int32)) + (p2 &&& (255 : Int32)))
          have f539 : (((p1 &&& (1073741823 : Int32)) + (1 : Int32)) + (p2 &&& (255 : Int32))).toInt = ((p1 &&& (1073741823 : Int32)) + (1 : Int32)).toInt + (p2 &&& (255 : Int32)).toInt := by have h := c_iadd ((p1 &&& (1073741823 : Int32)) + (1 : Int32)) (p2 &&& (255 : Int32)); omega
          have f540 := rng32 ((((p1 &&& (1073741823 : Int32)) + (1 : Int32)) + (p2 &&& (255 : Int32))) + (1 : Int32))
          have f541 : ((((p1 &&& (1073741823 : Int32)) + (1 : Int32)) + (p2 &&& (255 : Int32))) + (1 : Int32)).toInt = (((p1 &&& (1073741823 : Int32)) + (1 : Int32)) + (p2 &&& (255 : Int32))).toInt + (1 : Int32).toInt := by have h := c_iadd (((p1 &&& (1073741823 : Int32)) + (1 : Int32)) + (p2 &&& (255 : Int32))) (1 : Int32); omega
          have f542 : (8 : Int32).toInt = 8 := rfl
          have f543 := rng32 ((p2.toUInt32 >>> ((8 : Int32) &&& 31).toUInt32).toInt32)
          have f544 : ((p2.toUInt32 >>> ((8 : Int32) &&& 31).toUInt32).toInt32).toInt = (p2.toInt % 4294967296) / 256 := c_iushr p2 (8 : Int32) 8 (by decide) (by decide)
          have f545 := rng32 (((p2.toUInt32 >>> ((8 : Int32) &&& 31).toUInt32).toInt32) &&& (255 : Int32))
          have f546 : (((p2.toUInt32 >>> ((8 : Int32) &&& 31).toUInt32).toInt32) &&& (255 : Int32)).toInt = ((p2.toUInt32 >>> ((8 : Int32) &&& 31).toUInt32).toInt32).toInt % 256 := c_mask ((p2.toUInt32 >>> ((8 : Int32) &&& 31).toUInt32).toInt32) (255 : Int32) 8 (by decide) (by decide)
          have f547 := rng32 (((((p1 &&& (1073741823 : Int32)) + (1 : Int32)) + (p2 &&& (255 : Int32))) + (1 : Int32)) + (((p2.toUInt32 >>> ((8 : Int32) &&& 31).toUInt32).toInt32) &&& (255 : Int32)))
          have f548 : (((((p1 &&& (1073741823 : Int32)) + (1 : Int32)) + (p2 &&& (255 : Int32))) + (1 : Int32)) + (((p2.toUInt32 >>> ((8 : Int32) &&& 31).toUInt32).toInt32) &&& (255 : Int32))).toInt = ((((p1 &&& (1073741823 : Int32)) + (1 : Int32)) + (p2 &&& (255 : Int32))) + (1 : Int32)).toInt + (((p2.toUInt32 >>> ((8 : Int32) &&& 31).toUInt32).toInt32) &&& (255 : Int32)).toInt := by have h := c_iadd ((((p1 &&& (1073741823 : Int32)) + (1 : Int32)) + (p2 &&& (255 : Int32))) + (1 : Int32)) (((p2.toUInt32 >>> ((8 : Int32) &&& 31).toUInt32).toInt32) &&& (255 : Int32)); omega
          have g549 := hs1
          rw [← Int32.toInt_inj] at g549
          have g550 := hc478
          rw [← Int32.toInt_inj] at g550
          have g551 := hc479
          rw [← Int32.toInt_inj] at g551
          have g552 := hc511
          rw [← Int32.toInt_inj] at g552
          omega
        · refine own_st (fun t k => XS.icmpYes X474.here hx rfl (pc0 := 154) (pc' := 161) rfl (hb hby at_154) rfl (feq hc511).2 (by decide) (by decide) k) ?_
          show own_E p e below _ T474 (mkF m 161 #[iv p1, iv p2, iv p3, iv p4, iv p5, iv p6, iv 3, iv (p1 &&& (1073741823 : Int32)), iv (((p1 &&& (1073741823 : Int32)) + (1 : Int32)) + (p2 &&& (255 : Int32))), iv (((((p1 &&& (1073741823 : Int32)) + (1 : Int32)) + (p2 &&& (255 : Int32))) + (1 : Int32)) + (((p2.toUInt32 >>> ((8 : Int32) &&& 31).toUInt32).toInt32) &&& (255 : Int32))), iv (((p1 &&& (1073741823 : Int32)) - (4 : Int32)) + (((p6.toUInt32 >>> ((2 : Int32) &&& 31).toUInt32).toInt32) &&& (1023 : Int32))), rv b466, iv p3] [])
          refine own_st (fun t k => XS.aload X474.here hx rfl (hb hby at_161) rfl rfl k) ?_
          show own_E p e below _ T474 (mkF m 163 #[iv p1, iv p2, iv p3, iv p4, iv p5, iv p6, iv 3, iv (p1 &&& (1073741823 : Int32)), iv (((p1 &&& (1073741823 : Int32)) + (1 : Int32)) + (p2 &&& (255 : Int32))), iv (((((p1 &&& (1073741823 : Int32)) + (1 : Int32)) + (p2 &&& (255 : Int32))) + (1 : Int32)) + (((p2.toUInt32 >>> ((8 : Int32) &&& 31).toUInt32).toInt32) &&& (255 : Int32))), iv (((p1 &&& (1073741823 : Int32)) - (4 : Int32)) + (((p6.toUInt32 >>> ((2 : Int32) &&& 31).toUInt32).toInt32) &&& (1023 : Int32))), rv b466, iv p3] [.ref b466])
          refine own_st (fun t k => XS.iload X474.here hx rfl (hb hby at_163) rfl k) ?_
          show own_E p e below _ T474 (mkF m 165 #[iv p1, iv p2, iv p3, iv p4, iv p5, iv p6, iv 3, iv (p1 &&& (1073741823 : Int32)), iv (((p1 &&& (1073741823 : Int32)) + (1 : Int32)) + (p2 &&& (255 : Int32))), iv (((((p1 &&& (1073741823 : Int32)) + (1 : Int32)) + (p2 &&& (255 : Int32))) + (1 : Int32)) + (((p2.toUInt32 >>> ((8 : Int32) &&& 31).toUInt32).toInt32) &&& (255 : Int32))), iv (((p1 &&& (1073741823 : Int32)) - (4 : Int32)) + (((p6.toUInt32 >>> ((2 : Int32) &&& 31).toUInt32).toInt32) &&& (1023 : Int32))), rv b466, iv p3] [.int (((p1 &&& (1073741823 : Int32)) - (4 : Int32)) + (((p6.toUInt32 >>> ((2 : Int32) &&& 31).toUInt32).toInt32) &&& (1023 : Int32))), .ref b466])
          obtain ⟨cq553, kq553, q553a, q553b, q553c⟩ := isOf hZ e474 P474_0
          obtain ⟨_, _, ⟨T553, L553, k553, n553⟩, -, X553, ⟨Lc553, hQ553, l553, y553, z553⟩, st553⟩ := X474.virtualBack hx (y := own_y8) (z := own_y8) hown (mvT hZ (own_w hw 43 rfl)) (mvT hZ (own_w hw 44 rfl)) (notFace_of_selects (args := #[]) (mvT hZ (own_w hw 46 rfl))) (mvT hZ (own_w hw 46 rfl)) (mvT hZ (own_w hw 45 rfl)) (by decide) (backOf (W := 0) (own_freq3 l Z a0 hw [] b466 b474_o0 b474_o1 k474_o2 k474_o3 (((p1 &&& (1073741823 : Int32)) - (4 : Int32)) + (((p6.toUInt32 >>> ((2 : Int32) &&& 31).toUInt32).toInt32) &&& (1023 : Int32))) (p1 &&& (1073741823 : Int32)) (((p1 &&& (1073741823 : Int32)) + (1 : Int32)) + (p2 &&& (255 : Int32))) (((((p1 &&& (1073741823 : Int32)) + (1 : Int32)) + (p2 &&& (255 : Int32))) + (1 : Int32)) + (((p2.toUInt32 >>> ((8 : Int32) &&& 31).toUInt32).toInt32) &&& (255 : Int32))) (0 : Int32) p3 p4 p5 (0 : Int32) T474.heap n0 Z477 P474_1 P474_2 P474_5 P474_6 P474_7) hZ (own_w hw 47 rfl) (own_w hw 3 rfl) (by decide) (by decide)) q553a q553c (g := (mkF m 165 #[iv p1, iv p2, iv p3, iv p4, iv p5, iv p6, iv 3, iv (p1 &&& (1073741823 : Int32)), iv (((p1 &&& (1073741823 : Int32)) + (1 : Int32)) + (p2 &&& (255 : Int32))), iv (((((p1 &&& (1073741823 : Int32)) + (1 : Int32)) + (p2 &&& (255 : Int32))) + (1 : Int32)) + (((p2.toUInt32 >>> ((8 : Int32) &&& 31).toUInt32).toInt32) &&& (255 : Int32))), iv (((p1 &&& (1073741823 : Int32)) - (4 : Int32)) + (((p6.toUInt32 >>> ((2 : Int32) &&& 31).toUInt32).toInt32) &&& (1023 : Int32))), rv b466, iv p3] [.int (((p1 &&& (1073741823 : Int32)) - (4 : Int32)) + (((p6.toUInt32 >>> ((2 : Int32) &&& 31).toUInt32).toInt32) &&& (1023 : Int32))), .ref b466])) rfl (by rw [hml]; rfl) (Steps.refl _) (argsL := [(.int (((p1 &&& (1073741823 : Int32)) - (4 : Int32)) + (((p6.toUInt32 >>> ((2 : Int32) &&& 31).toUInt32).toInt32) &&& (1023 : Int32))))]) (rest := []) (lenOf own_pd_1 rfl) rfl (by show 2 * 0 + _ ≤ _; exact Nat.le_of_eq rfl) (hb hby at_165) (fun _ _ => ⟨rfl, e474, (by decide : 7 + 0 ≤ _), (by decide : 19 + 0 ≤ _)⟩)
          dsimp only [Pt.U, Pt.locs, Pt.cells, Pt.slots] at X553 l553 y553 z553 st553 hQ553
          subst l553 y553 z553
          obtain ⟨hR553, e553, rfl⟩ := hQ553
          have N553 := Fr.app N474 (Fr.nil n0)
          rcases hR553 with ⟨rfl, ha553_0, ha553_1⟩ | ⟨rfl, ha553_0, ha553_1, ha553_2⟩ | ⟨rfl, ha553_0, ha553_1, ha553_2⟩ | ⟨rfl, ha553_0, ha553_1, ha553_2⟩ | ⟨rfl, ha553_0, ha553_1, ha553_2, ha553_3⟩ | ⟨rfl, ha553_0, ha553_1, ha553_2, ha553_3⟩ | ⟨rfl, ha553_0, ha553_1⟩
          · exfalso
            have f554 := rng32 p6
            have f555 : (3 : Int32).toInt = 3 := rfl
            have f556 := rng32 (p6 &&& (3 : Int32))
            have f557 : (p6 &&& (3 : Int32)).toInt = p6.toInt % 4 := c_mask p6 (3 : Int32) 2 (by decide) (by decide)
            have f558 := rng32 p1
            have f559 : (1073741823 : Int32).toInt = 1073741823 := rfl
            have f560 := rng32 (p1 &&& (1073741823 : Int32))
            have f561 : (p1 &&& (1073741823 : Int32)).toInt = p1.toInt % 1073741824 := c_mask p1 (1073741823 : Int32) 30 (by decide) (by decide)
            have f562 : (4 : Int32).toInt = 4 := rfl
            have f563 := rng32 ((p1 &&& (1073741823 : Int32)) - (4 : Int32))
            have f564 : ((p1 &&& (1073741823 : Int32)) - (4 : Int32)).toInt = (p1 &&& (1073741823 : Int32)).toInt - (4 : Int32).toInt := by have h := c_isub (p1 &&& (1073741823 : Int32)) (4 : Int32); omega
            have f565 : (2 : Int32).toInt = 2 := rfl
            have f566 := rng32 ((p6.toUInt32 >>> ((2 : Int32) &&& 31).toUInt32).toInt32)
            have f567 : ((p6.toUInt32 >>> ((2 : Int32) &&& 31).toUInt32).toInt32).toInt = (p6.toInt % 4294967296) / 4 := c_iushr p6 (2 : Int32) 2 (by decide) (by decide)
            have f568 : (1023 : Int32).toInt = 1023 := rfl
            have f569 := rng32 (((p6.toUInt32 >>> ((2 : Int32) &&& 31).toUInt32).toInt32) &&& (1023 : Int32))
            have f570 : (((p6.toUInt32 >>> ((2 : Int32) &&& 31).toUInt32).toInt32) &&& (1023 : Int32)).toInt = ((p6.toUInt32 >>> ((2 : Int32) &&& 31).toUInt32).toInt32).toInt % 1024 := c_mask ((p6.toUInt32 >>> ((2 : Int32) &&& 31).toUInt32).toInt32) (1023 : Int32) 10 (by decide) (by decide)
            have f571 := rng32 (((p1 &&& (1073741823 : Int32)) - (4 : Int32)) + (((p6.toUInt32 >>> ((2 : Int32) &&& 31).toUInt32).toInt32) &&& (1023 : Int32)))
            have f572 : (((p1 &&& (1073741823 : Int32)) - (4 : Int32)) + (((p6.toUInt32 >>> ((2 : Int32) &&& 31).toUInt32).toInt32) &&& (1023 : Int32))).toInt = ((p1 &&& (1073741823 : Int32)) - (4 : Int32)).toInt + (((p6.toUInt32 >>> ((2 : Int32) &&& 31).toUInt32).toInt32) &&& (1023 : Int32)).toInt := by have h := c_iadd ((p1 &&& (1073741823 : Int32)) - (4 : Int32)) (((p6.toUInt32 >>> ((2 : Int32) &&& 31).toUInt32).toInt32) &&& (1023 : Int32)); omega
            have f573 : (1 : Int32).toInt = 1 := rfl
            have f574 := rng32 ((p1 &&& (1073741823 : Int32)) + (1 : Int32))
            have f575 : ((p1 &&& (1073741823 : Int32)) + (1 : Int32)).toInt = (p1 &&& (1073741823 : Int32)).toInt + (1 : Int32).toInt := by have h := c_iadd (p1 &&& (1073741823 : Int32)) (1 : Int32); omega
            have f576 := rng32 p2
            have f577 : (255 : Int32).toInt = 255 := rfl
            have f578 := rng32 (p2 &&& (255 : Int32))
            have f579 : (p2 &&& (255 : Int32)).toInt = p2.toInt % 256 := c_mask p2 (255 : Int32) 8 (by decide) (by decide)
            have f580 := rng32 (((p1 &&& (1073741823 : Int32)) + (1 : Int32)) + (p2 &&& (255 : Int32)))
            have f581 : (((p1 &&& (1073741823 : Int32)) + (1 : Int32)) + (p2 &&& (255 : Int32))).toInt = ((p1 &&& (1073741823 : Int32)) + (1 : Int32)).toInt + (p2 &&& (255 : Int32)).toInt := by have h := c_iadd ((p1 &&& (1073741823 : Int32)) + (1 : Int32)) (p2 &&& (255 : Int32)); omega
            have f582 := rng32 ((((p1 &&& (1073741823 : Int32)) + (1 : Int32)) + (p2 &&& (255 : Int32))) + (1 : Int32))
            have f583 : ((((p1 &&& (1073741823 : Int32)) + (1 : Int32)) + (p2 &&& (255 : Int32))) + (1 : Int32)).toInt = (((p1 &&& (1073741823 : Int32)) + (1 : Int32)) + (p2 &&& (255 : Int32))).toInt + (1 : Int32).toInt := by have h := c_iadd (((p1 &&& (1073741823 : Int32)) + (1 : Int32)) + (p2 &&& (255 : Int32))) (1 : Int32); omega
            have f584 : (8 : Int32).toInt = 8 := rfl
            have f585 := rng32 ((p2.toUInt32 >>> ((8 : Int32) &&& 31).toUInt32).toInt32)
            have f586 : ((p2.toUInt32 >>> ((8 : Int32) &&& 31).toUInt32).toInt32).toInt = (p2.toInt % 4294967296) / 256 := c_iushr p2 (8 : Int32) 8 (by decide) (by decide)
            have f587 := rng32 (((p2.toUInt32 >>> ((8 : Int32) &&& 31).toUInt32).toInt32) &&& (255 : Int32))
            have f588 : (((p2.toUInt32 >>> ((8 : Int32) &&& 31).toUInt32).toInt32) &&& (255 : Int32)).toInt = ((p2.toUInt32 >>> ((8 : Int32) &&& 31).toUInt32).toInt32).toInt % 256 := c_mask ((p2.toUInt32 >>> ((8 : Int32) &&& 31).toUInt32).toInt32) (255 : Int32) 8 (by decide) (by decide)
            have f589 := rng32 (((((p1 &&& (1073741823 : Int32)) + (1 : Int32)) + (p2 &&& (255 : Int32))) + (1 : Int32)) + (((p2.toUInt32 >>> ((8 : Int32) &&& 31).toUInt32).toInt32) &&& (255 : Int32)))
            have f590 : (((((p1 &&& (1073741823 : Int32)) + (1 : Int32)) + (p2 &&& (255 : Int32))) + (1 : Int32)) + (((p2.toUInt32 >>> ((8 : Int32) &&& 31).toUInt32).toInt32) &&& (255 : Int32))).toInt = ((((p1 &&& (1073741823 : Int32)) + (1 : Int32)) + (p2 &&& (255 : Int32))) + (1 : Int32)).toInt + (((p2.toUInt32 >>> ((8 : Int32) &&& 31).toUInt32).toInt32) &&& (255 : Int32)).toInt := by have h := c_iadd ((((p1 &&& (1073741823 : Int32)) + (1 : Int32)) + (p2 &&& (255 : Int32))) + (1 : Int32)) (((p2.toUInt32 >>> ((8 : Int32) &&& 31).toUInt32).toInt32) &&& (255 : Int32)); omega
            have g591 := hs1
            rw [← Int32.toInt_inj] at g591
            have g592 := hc478
            rw [← Int32.toInt_inj] at g592
            have g593 := hc479
            rw [← Int32.toInt_inj] at g593
            have g594 := hc511
            rw [← Int32.toInt_inj] at g594
            have g595 := ha553_0
            rw [Int32.lt_iff_toInt_lt] at g595
            have g596 := ha553_1
            rw [Int32.lt_iff_toInt_lt] at g596
            omega
          · exfalso
            have f597 := rng32 p6
            have f598 : (3 : Int32).toInt = 3 := rfl
            have f599 := rng32 (p6 &&& (3 : Int32))
            have f600 : (p6 &&& (3 : Int32)).toInt = p6.toInt % 4 := c_mask p6 (3 : Int32) 2 (by decide) (by decide)
            have f601 := rng32 p1
            have f602 : (1073741823 : Int32).toInt = 1073741823 := rfl
            have f603 := rng32 (p1 &&& (1073741823 : Int32))
            have f604 : (p1 &&& (1073741823 : Int32)).toInt = p1.toInt % 1073741824 := c_mask p1 (1073741823 : Int32) 30 (by decide) (by decide)
            have f605 : (4 : Int32).toInt = 4 := rfl
            have f606 := rng32 ((p1 &&& (1073741823 : Int32)) - (4 : Int32))
            have f607 : ((p1 &&& (1073741823 : Int32)) - (4 : Int32)).toInt = (p1 &&& (1073741823 : Int32)).toInt - (4 : Int32).toInt := by have h := c_isub (p1 &&& (1073741823 : Int32)) (4 : Int32); omega
            have f608 : (2 : Int32).toInt = 2 := rfl
            have f609 := rng32 ((p6.toUInt32 >>> ((2 : Int32) &&& 31).toUInt32).toInt32)
            have f610 : ((p6.toUInt32 >>> ((2 : Int32) &&& 31).toUInt32).toInt32).toInt = (p6.toInt % 4294967296) / 4 := c_iushr p6 (2 : Int32) 2 (by decide) (by decide)
            have f611 : (1023 : Int32).toInt = 1023 := rfl
            have f612 := rng32 (((p6.toUInt32 >>> ((2 : Int32) &&& 31).toUInt32).toInt32) &&& (1023 : Int32))
            have f613 : (((p6.toUInt32 >>> ((2 : Int32) &&& 31).toUInt32).toInt32) &&& (1023 : Int32)).toInt = ((p6.toUInt32 >>> ((2 : Int32) &&& 31).toUInt32).toInt32).toInt % 1024 := c_mask ((p6.toUInt32 >>> ((2 : Int32) &&& 31).toUInt32).toInt32) (1023 : Int32) 10 (by decide) (by decide)
            have f614 := rng32 (((p1 &&& (1073741823 : Int32)) - (4 : Int32)) + (((p6.toUInt32 >>> ((2 : Int32) &&& 31).toUInt32).toInt32) &&& (1023 : Int32)))
            have f615 : (((p1 &&& (1073741823 : Int32)) - (4 : Int32)) + (((p6.toUInt32 >>> ((2 : Int32) &&& 31).toUInt32).toInt32) &&& (1023 : Int32))).toInt = ((p1 &&& (1073741823 : Int32)) - (4 : Int32)).toInt + (((p6.toUInt32 >>> ((2 : Int32) &&& 31).toUInt32).toInt32) &&& (1023 : Int32)).toInt := by have h := c_iadd ((p1 &&& (1073741823 : Int32)) - (4 : Int32)) (((p6.toUInt32 >>> ((2 : Int32) &&& 31).toUInt32).toInt32) &&& (1023 : Int32)); omega
            have f616 : (1 : Int32).toInt = 1 := rfl
            have f617 := rng32 ((p1 &&& (1073741823 : Int32)) + (1 : Int32))
            have f618 : ((p1 &&& (1073741823 : Int32)) + (1 : Int32)).toInt = (p1 &&& (1073741823 : Int32)).toInt + (1 : Int32).toInt := by have h := c_iadd (p1 &&& (1073741823 : Int32)) (1 : Int32); omega
            have f619 := rng32 p2
            have f620 : (255 : Int32).toInt = 255 := rfl
            have f621 := rng32 (p2 &&& (255 : Int32))
            have f622 : (p2 &&& (255 : Int32)).toInt = p2.toInt % 256 := c_mask p2 (255 : Int32) 8 (by decide) (by decide)
            have f623 := rng32 (((p1 &&& (1073741823 : Int32)) + (1 : Int32)) + (p2 &&& (255 : Int32)))
            have f624 : (((p1 &&& (1073741823 : Int32)) + (1 : Int32)) + (p2 &&& (255 : Int32))).toInt = ((p1 &&& (1073741823 : Int32)) + (1 : Int32)).toInt + (p2 &&& (255 : Int32)).toInt := by have h := c_iadd ((p1 &&& (1073741823 : Int32)) + (1 : Int32)) (p2 &&& (255 : Int32)); omega
            have f625 := rng32 ((((p1 &&& (1073741823 : Int32)) + (1 : Int32)) + (p2 &&& (255 : Int32))) + (1 : Int32))
            have f626 : ((((p1 &&& (1073741823 : Int32)) + (1 : Int32)) + (p2 &&& (255 : Int32))) + (1 : Int32)).toInt = (((p1 &&& (1073741823 : Int32)) + (1 : Int32)) + (p2 &&& (255 : Int32))).toInt + (1 : Int32).toInt := by have h := c_iadd (((p1 &&& (1073741823 : Int32)) + (1 : Int32)) + (p2 &&& (255 : Int32))) (1 : Int32); omega
            have f627 : (8 : Int32).toInt = 8 := rfl
            have f628 := rng32 ((p2.toUInt32 >>> ((8 : Int32) &&& 31).toUInt32).toInt32)
            have f629 : ((p2.toUInt32 >>> ((8 : Int32) &&& 31).toUInt32).toInt32).toInt = (p2.toInt % 4294967296) / 256 := c_iushr p2 (8 : Int32) 8 (by decide) (by decide)
            have f630 := rng32 (((p2.toUInt32 >>> ((8 : Int32) &&& 31).toUInt32).toInt32) &&& (255 : Int32))
            have f631 : (((p2.toUInt32 >>> ((8 : Int32) &&& 31).toUInt32).toInt32) &&& (255 : Int32)).toInt = ((p2.toUInt32 >>> ((8 : Int32) &&& 31).toUInt32).toInt32).toInt % 256 := c_mask ((p2.toUInt32 >>> ((8 : Int32) &&& 31).toUInt32).toInt32) (255 : Int32) 8 (by decide) (by decide)
            have f632 := rng32 (((((p1 &&& (1073741823 : Int32)) + (1 : Int32)) + (p2 &&& (255 : Int32))) + (1 : Int32)) + (((p2.toUInt32 >>> ((8 : Int32) &&& 31).toUInt32).toInt32) &&& (255 : Int32)))
            have f633 : (((((p1 &&& (1073741823 : Int32)) + (1 : Int32)) + (p2 &&& (255 : Int32))) + (1 : Int32)) + (((p2.toUInt32 >>> ((8 : Int32) &&& 31).toUInt32).toInt32) &&& (255 : Int32))).toInt = ((((p1 &&& (1073741823 : Int32)) + (1 : Int32)) + (p2 &&& (255 : Int32))) + (1 : Int32)).toInt + (((p2.toUInt32 >>> ((8 : Int32) &&& 31).toUInt32).toInt32) &&& (255 : Int32)).toInt := by have h := c_iadd ((((p1 &&& (1073741823 : Int32)) + (1 : Int32)) + (p2 &&& (255 : Int32))) + (1 : Int32)) (((p2.toUInt32 >>> ((8 : Int32) &&& 31).toUInt32).toInt32) &&& (255 : Int32)); omega
            have g634 := hs1
            rw [← Int32.toInt_inj] at g634
            have g635 := hc478
            rw [← Int32.toInt_inj] at g635
            have g636 := hc479
            rw [← Int32.toInt_inj] at g636
            have g637 := hc511
            rw [← Int32.toInt_inj] at g637
            have g638 := ha553_0
            rw [Int32.lt_iff_toInt_lt] at g638
            have g639 := ha553_1
            rw [Int32.lt_iff_toInt_lt] at g639
            have g640 := ha553_2
            rw [Int32.lt_iff_toInt_lt] at g640
            omega
          · exfalso
            have f641 := rng32 p6
            have f642 : (3 : Int32).toInt = 3 := rfl
            have f643 := rng32 (p6 &&& (3 : Int32))
            have f644 : (p6 &&& (3 : Int32)).toInt = p6.toInt % 4 := c_mask p6 (3 : Int32) 2 (by decide) (by decide)
            have f645 := rng32 p1
            have f646 : (1073741823 : Int32).toInt = 1073741823 := rfl
            have f647 := rng32 (p1 &&& (1073741823 : Int32))
            have f648 : (p1 &&& (1073741823 : Int32)).toInt = p1.toInt % 1073741824 := c_mask p1 (1073741823 : Int32) 30 (by decide) (by decide)
            have f649 : (4 : Int32).toInt = 4 := rfl
            have f650 := rng32 ((p1 &&& (1073741823 : Int32)) - (4 : Int32))
            have f651 : ((p1 &&& (1073741823 : Int32)) - (4 : Int32)).toInt = (p1 &&& (1073741823 : Int32)).toInt - (4 : Int32).toInt := by have h := c_isub (p1 &&& (1073741823 : Int32)) (4 : Int32); omega
            have f652 : (2 : Int32).toInt = 2 := rfl
            have f653 := rng32 ((p6.toUInt32 >>> ((2 : Int32) &&& 31).toUInt32).toInt32)
            have f654 : ((p6.toUInt32 >>> ((2 : Int32) &&& 31).toUInt32).toInt32).toInt = (p6.toInt % 4294967296) / 4 := c_iushr p6 (2 : Int32) 2 (by decide) (by decide)
            have f655 : (1023 : Int32).toInt = 1023 := rfl
            have f656 := rng32 (((p6.toUInt32 >>> ((2 : Int32) &&& 31).toUInt32).toInt32) &&& (1023 : Int32))
            have f657 : (((p6.toUInt32 >>> ((2 : Int32) &&& 31).toUInt32).toInt32) &&& (1023 : Int32)).toInt = ((p6.toUInt32 >>> ((2 : Int32) &&& 31).toUInt32).toInt32).toInt % 1024 := c_mask ((p6.toUInt32 >>> ((2 : Int32) &&& 31).toUInt32).toInt32) (1023 : Int32) 10 (by decide) (by decide)
            have f658 := rng32 (((p1 &&& (1073741823 : Int32)) - (4 : Int32)) + (((p6.toUInt32 >>> ((2 : Int32) &&& 31).toUInt32).toInt32) &&& (1023 : Int32)))
            have f659 : (((p1 &&& (1073741823 : Int32)) - (4 : Int32)) + (((p6.toUInt32 >>> ((2 : Int32) &&& 31).toUInt32).toInt32) &&& (1023 : Int32))).toInt = ((p1 &&& (1073741823 : Int32)) - (4 : Int32)).toInt + (((p6.toUInt32 >>> ((2 : Int32) &&& 31).toUInt32).toInt32) &&& (1023 : Int32)).toInt := by have h := c_iadd ((p1 &&& (1073741823 : Int32)) - (4 : Int32)) (((p6.toUInt32 >>> ((2 : Int32) &&& 31).toUInt32).toInt32) &&& (1023 : Int32)); omega
            have f660 : (1 : Int32).toInt = 1 := rfl
            have f661 := rng32 ((p1 &&& (1073741823 : Int32)) + (1 : Int32))
            have f662 : ((p1 &&& (1073741823 : Int32)) + (1 : Int32)).toInt = (p1 &&& (1073741823 : Int32)).toInt + (1 : Int32).toInt := by have h := c_iadd (p1 &&& (1073741823 : Int32)) (1 : Int32); omega
            have f663 := rng32 p2
            have f664 : (255 : Int32).toInt = 255 := rfl
            have f665 := rng32 (p2 &&& (255 : Int32))
            have f666 : (p2 &&& (255 : Int32)).toInt = p2.toInt % 256 := c_mask p2 (255 : Int32) 8 (by decide) (by decide)
            have f667 := rng32 (((p1 &&& (1073741823 : Int32)) + (1 : Int32)) + (p2 &&& (255 : Int32)))
            have f668 : (((p1 &&& (1073741823 : Int32)) + (1 : Int32)) + (p2 &&& (255 : Int32))).toInt = ((p1 &&& (1073741823 : Int32)) + (1 : Int32)).toInt + (p2 &&& (255 : Int32)).toInt := by have h := c_iadd ((p1 &&& (1073741823 : Int32)) + (1 : Int32)) (p2 &&& (255 : Int32)); omega
            have f669 := rng32 ((((p1 &&& (1073741823 : Int32)) + (1 : Int32)) + (p2 &&& (255 : Int32))) + (1 : Int32))
            have f670 : ((((p1 &&& (1073741823 : Int32)) + (1 : Int32)) + (p2 &&& (255 : Int32))) + (1 : Int32)).toInt = (((p1 &&& (1073741823 : Int32)) + (1 : Int32)) + (p2 &&& (255 : Int32))).toInt + (1 : Int32).toInt := by have h := c_iadd (((p1 &&& (1073741823 : Int32)) + (1 : Int32)) + (p2 &&& (255 : Int32))) (1 : Int32); omega
            have f671 : (8 : Int32).toInt = 8 := rfl
            have f672 := rng32 ((p2.toUInt32 >>> ((8 : Int32) &&& 31).toUInt32).toInt32)
            have f673 : ((p2.toUInt32 >>> ((8 : Int32) &&& 31).toUInt32).toInt32).toInt = (p2.toInt % 4294967296) / 256 := c_iushr p2 (8 : Int32) 8 (by decide) (by decide)
            have f674 := rng32 (((p2.toUInt32 >>> ((8 : Int32) &&& 31).toUInt32).toInt32) &&& (255 : Int32))
            have f675 : (((p2.toUInt32 >>> ((8 : Int32) &&& 31).toUInt32).toInt32) &&& (255 : Int32)).toInt = ((p2.toUInt32 >>> ((8 : Int32) &&& 31).toUInt32).toInt32).toInt % 256 := c_mask ((p2.toUInt32 >>> ((8 : Int32) &&& 31).toUInt32).toInt32) (255 : Int32) 8 (by decide) (by decide)
            have f676 := rng32 (((((p1 &&& (1073741823 : Int32)) + (1 : Int32)) + (p2 &&& (255 : Int32))) + (1 : Int32)) + (((p2.toUInt32 >>> ((8 : Int32) &&& 31).toUInt32).toInt32) &&& (255 : Int32)))
            have f677 : (((((p1 &&& (1073741823 : Int32)) + (1 : Int32)) + (p2 &&& (255 : Int32))) + (1 : Int32)) + (((p2.toUInt32 >>> ((8 : Int32) &&& 31).toUInt32).toInt32) &&& (255 : Int32))).toInt = ((((p1 &&& (1073741823 : Int32)) + (1 : Int32)) + (p2 &&& (255 : Int32))) + (1 : Int32)).toInt + (((p2.toUInt32 >>> ((8 : Int32) &&& 31).toUInt32).toInt32) &&& (255 : Int32)).toInt := by have h := c_iadd ((((p1 &&& (1073741823 : Int32)) + (1 : Int32)) + (p2 &&& (255 : Int32))) + (1 : Int32)) (((p2.toUInt32 >>> ((8 : Int32) &&& 31).toUInt32).toInt32) &&& (255 : Int32)); omega
            have g678 := hs1
            rw [← Int32.toInt_inj] at g678
            have g679 := hc478
            rw [← Int32.toInt_inj] at g679
            have g680 := hc479
            rw [← Int32.toInt_inj] at g680
            have g681 := hc511
            rw [← Int32.toInt_inj] at g681
            have g682 := ha553_0
            rw [Int32.lt_iff_toInt_lt] at g682
            have g683 := ha553_1
            rw [Int32.lt_iff_toInt_lt] at g683
            have g684 := ha553_2
            rw [Int32.lt_iff_toInt_lt] at g684
            omega
          · exfalso
            have f685 := rng32 p6
            have f686 : (3 : Int32).toInt = 3 := rfl
            have f687 := rng32 (p6 &&& (3 : Int32))
            have f688 : (p6 &&& (3 : Int32)).toInt = p6.toInt % 4 := c_mask p6 (3 : Int32) 2 (by decide) (by decide)
            have f689 := rng32 p1
            have f690 : (1073741823 : Int32).toInt = 1073741823 := rfl
            have f691 := rng32 (p1 &&& (1073741823 : Int32))
            have f692 : (p1 &&& (1073741823 : Int32)).toInt = p1.toInt % 1073741824 := c_mask p1 (1073741823 : Int32) 30 (by decide) (by decide)
            have f693 : (4 : Int32).toInt = 4 := rfl
            have f694 := rng32 ((p1 &&& (1073741823 : Int32)) - (4 : Int32))
            have f695 : ((p1 &&& (1073741823 : Int32)) - (4 : Int32)).toInt = (p1 &&& (1073741823 : Int32)).toInt - (4 : Int32).toInt := by have h := c_isub (p1 &&& (1073741823 : Int32)) (4 : Int32); omega
            have f696 : (2 : Int32).toInt = 2 := rfl
            have f697 := rng32 ((p6.toUInt32 >>> ((2 : Int32) &&& 31).toUInt32).toInt32)
            have f698 : ((p6.toUInt32 >>> ((2 : Int32) &&& 31).toUInt32).toInt32).toInt = (p6.toInt % 4294967296) / 4 := c_iushr p6 (2 : Int32) 2 (by decide) (by decide)
            have f699 : (1023 : Int32).toInt = 1023 := rfl
            have f700 := rng32 (((p6.toUInt32 >>> ((2 : Int32) &&& 31).toUInt32).toInt32) &&& (1023 : Int32))
            have f701 : (((p6.toUInt32 >>> ((2 : Int32) &&& 31).toUInt32).toInt32) &&& (1023 : Int32)).toInt = ((p6.toUInt32 >>> ((2 : Int32) &&& 31).toUInt32).toInt32).toInt % 1024 := c_mask ((p6.toUInt32 >>> ((2 : Int32) &&& 31).toUInt32).toInt32) (1023 : Int32) 10 (by decide) (by decide)
            have f702 := rng32 (((p1 &&& (1073741823 : Int32)) - (4 : Int32)) + (((p6.toUInt32 >>> ((2 : Int32) &&& 31).toUInt32).toInt32) &&& (1023 : Int32)))
            have f703 : (((p1 &&& (1073741823 : Int32)) - (4 : Int32)) + (((p6.toUInt32 >>> ((2 : Int32) &&& 31).toUInt32).toInt32) &&& (1023 : Int32))).toInt = ((p1 &&& (1073741823 : Int32)) - (4 : Int32)).toInt + (((p6.toUInt32 >>> ((2 : Int32) &&& 31).toUInt32).toInt32) &&& (1023 : Int32)).toInt := by have h := c_iadd ((p1 &&& (1073741823 : Int32)) - (4 : Int32)) (((p6.toUInt32 >>> ((2 : Int32) &&& 31).toUInt32).toInt32) &&& (1023 : Int32)); omega
            have f704 : (1 : Int32).toInt = 1 := rfl
            have f705 := rng32 ((p1 &&& (1073741823 : Int32)) + (1 : Int32))
            have f706 : ((p1 &&& (1073741823 : Int32)) + (1 : Int32)).toInt = (p1 &&& (1073741823 : Int32)).toInt + (1 : Int32).toInt := by have h := c_iadd (p1 &&& (1073741823 : Int32)) (1 : Int32); omega
            have f707 := rng32 p2
            have f708 : (255 : Int32).toInt = 255 := rfl
            have f709 := rng32 (p2 &&& (255 : Int32))
            have f710 : (p2 &&& (255 : Int32)).toInt = p2.toInt % 256 := c_mask p2 (255 : Int32) 8 (by decide) (by decide)
            have f711 := rng32 (((p1 &&& (1073741823 : Int32)) + (1 : Int32)) + (p2 &&& (255 : Int32)))
            have f712 : (((p1 &&& (1073741823 : Int32)) + (1 : Int32)) + (p2 &&& (255 : Int32))).toInt = ((p1 &&& (1073741823 : Int32)) + (1 : Int32)).toInt + (p2 &&& (255 : Int32)).toInt := by have h := c_iadd ((p1 &&& (1073741823 : Int32)) + (1 : Int32)) (p2 &&& (255 : Int32)); omega
            have f713 := rng32 ((((p1 &&& (1073741823 : Int32)) + (1 : Int32)) + (p2 &&& (255 : Int32))) + (1 : Int32))
            have f714 : ((((p1 &&& (1073741823 : Int32)) + (1 : Int32)) + (p2 &&& (255 : Int32))) + (1 : Int32)).toInt = (((p1 &&& (1073741823 : Int32)) + (1 : Int32)) + (p2 &&& (255 : Int32))).toInt + (1 : Int32).toInt := by have h := c_iadd (((p1 &&& (1073741823 : Int32)) + (1 : Int32)) + (p2 &&& (255 : Int32))) (1 : Int32); omega
            have f715 : (8 : Int32).toInt = 8 := rfl
            have f716 := rng32 ((p2.toUInt32 >>> ((8 : Int32) &&& 31).toUInt32).toInt32)
            have f717 : ((p2.toUInt32 >>> ((8 : Int32) &&& 31).toUInt32).toInt32).toInt = (p2.toInt % 4294967296) / 256 := c_iushr p2 (8 : Int32) 8 (by decide) (by decide)
            have f718 := rng32 (((p2.toUInt32 >>> ((8 : Int32) &&& 31).toUInt32).toInt32) &&& (255 : Int32))
            have f719 : (((p2.toUInt32 >>> ((8 : Int32) &&& 31).toUInt32).toInt32) &&& (255 : Int32)).toInt = ((p2.toUInt32 >>> ((8 : Int32) &&& 31).toUInt32).toInt32).toInt % 256 := c_mask ((p2.toUInt32 >>> ((8 : Int32) &&& 31).toUInt32).toInt32) (255 : Int32) 8 (by decide) (by decide)
            have f720 := rng32 (((((p1 &&& (1073741823 : Int32)) + (1 : Int32)) + (p2 &&& (255 : Int32))) + (1 : Int32)) + (((p2.toUInt32 >>> ((8 : Int32) &&& 31).toUInt32).toInt32) &&& (255 : Int32)))
            have f721 : (((((p1 &&& (1073741823 : Int32)) + (1 : Int32)) + (p2 &&& (255 : Int32))) + (1 : Int32)) + (((p2.toUInt32 >>> ((8 : Int32) &&& 31).toUInt32).toInt32) &&& (255 : Int32))).toInt = ((((p1 &&& (1073741823 : Int32)) + (1 : Int32)) + (p2 &&& (255 : Int32))) + (1 : Int32)).toInt + (((p2.toUInt32 >>> ((8 : Int32) &&& 31).toUInt32).toInt32) &&& (255 : Int32)).toInt := by have h := c_iadd ((((p1 &&& (1073741823 : Int32)) + (1 : Int32)) + (p2 &&& (255 : Int32))) + (1 : Int32)) (((p2.toUInt32 >>> ((8 : Int32) &&& 31).toUInt32).toInt32) &&& (255 : Int32)); omega
            have g722 := hs1
            rw [← Int32.toInt_inj] at g722
            have g723 := hc478
            rw [← Int32.toInt_inj] at g723
            have g724 := hc479
            rw [← Int32.toInt_inj] at g724
            have g725 := hc511
            rw [← Int32.toInt_inj] at g725
            have g726 := ha553_0
            rw [Int32.lt_iff_toInt_lt] at g726
            have g727 := ha553_1
            rw [Int32.lt_iff_toInt_lt] at g727
            have g728 := ha553_2
            rw [Int32.lt_iff_toInt_lt] at g728
            omega
          · exfalso
            have f729 := rng32 p6
            have f730 : (3 : Int32).toInt = 3 := rfl
            have f731 := rng32 (p6 &&& (3 : Int32))
            have f732 : (p6 &&& (3 : Int32)).toInt = p6.toInt % 4 := c_mask p6 (3 : Int32) 2 (by decide) (by decide)
            have f733 := rng32 p1
            have f734 : (1073741823 : Int32).toInt = 1073741823 := rfl
            have f735 := rng32 (p1 &&& (1073741823 : Int32))
            have f736 : (p1 &&& (1073741823 : Int32)).toInt = p1.toInt % 1073741824 := c_mask p1 (1073741823 : Int32) 30 (by decide) (by decide)
            have f737 : (4 : Int32).toInt = 4 := rfl
            have f738 := rng32 ((p1 &&& (1073741823 : Int32)) - (4 : Int32))
            have f739 : ((p1 &&& (1073741823 : Int32)) - (4 : Int32)).toInt = (p1 &&& (1073741823 : Int32)).toInt - (4 : Int32).toInt := by have h := c_isub (p1 &&& (1073741823 : Int32)) (4 : Int32); omega
            have f740 : (2 : Int32).toInt = 2 := rfl
            have f741 := rng32 ((p6.toUInt32 >>> ((2 : Int32) &&& 31).toUInt32).toInt32)
            have f742 : ((p6.toUInt32 >>> ((2 : Int32) &&& 31).toUInt32).toInt32).toInt = (p6.toInt % 4294967296) / 4 := c_iushr p6 (2 : Int32) 2 (by decide) (by decide)
            have f743 : (1023 : Int32).toInt = 1023 := rfl
            have f744 := rng32 (((p6.toUInt32 >>> ((2 : Int32) &&& 31).toUInt32).toInt32) &&& (1023 : Int32))
            have f745 : (((p6.toUInt32 >>> ((2 : Int32) &&& 31).toUInt32).toInt32) &&& (1023 : Int32)).toInt = ((p6.toUInt32 >>> ((2 : Int32) &&& 31).toUInt32).toInt32).toInt % 1024 := c_mask ((p6.toUInt32 >>> ((2 : Int32) &&& 31).toUInt32).toInt32) (1023 : Int32) 10 (by decide) (by decide)
            have f746 := rng32 (((p1 &&& (1073741823 : Int32)) - (4 : Int32)) + (((p6.toUInt32 >>> ((2 : Int32) &&& 31).toUInt32).toInt32) &&& (1023 : Int32)))
            have f747 : (((p1 &&& (1073741823 : Int32)) - (4 : Int32)) + (((p6.toUInt32 >>> ((2 : Int32) &&& 31).toUInt32).toInt32) &&& (1023 : Int32))).toInt = ((p1 &&& (1073741823 : Int32)) - (4 : Int32)).toInt + (((p6.toUInt32 >>> ((2 : Int32) &&& 31).toUInt32).toInt32) &&& (1023 : Int32)).toInt := by have h := c_iadd ((p1 &&& (1073741823 : Int32)) - (4 : Int32)) (((p6.toUInt32 >>> ((2 : Int32) &&& 31).toUInt32).toInt32) &&& (1023 : Int32)); omega
            have f748 : (1 : Int32).toInt = 1 := rfl
            have f749 := rng32 ((p1 &&& (1073741823 : Int32)) + (1 : Int32))
            have f750 : ((p1 &&& (1073741823 : Int32)) + (1 : Int32)).toInt = (p1 &&& (1073741823 : Int32)).toInt + (1 : Int32).toInt := by have h := c_iadd (p1 &&& (1073741823 : Int32)) (1 : Int32); omega
            have f751 := rng32 p2
            have f752 : (255 : Int32).toInt = 255 := rfl
            have f753 := rng32 (p2 &&& (255 : Int32))
            have f754 : (p2 &&& (255 : Int32)).toInt = p2.toInt % 256 := c_mask p2 (255 : Int32) 8 (by decide) (by decide)
            have f755 := rng32 (((p1 &&& (1073741823 : Int32)) + (1 : Int32)) + (p2 &&& (255 : Int32)))
            have f756 : (((p1 &&& (1073741823 : Int32)) + (1 : Int32)) + (p2 &&& (255 : Int32))).toInt = ((p1 &&& (1073741823 : Int32)) + (1 : Int32)).toInt + (p2 &&& (255 : Int32)).toInt := by have h := c_iadd ((p1 &&& (1073741823 : Int32)) + (1 : Int32)) (p2 &&& (255 : Int32)); omega
            have f757 := rng32 ((((p1 &&& (1073741823 : Int32)) + (1 : Int32)) + (p2 &&& (255 : Int32))) + (1 : Int32))
            have f758 : ((((p1 &&& (1073741823 : Int32)) + (1 : Int32)) + (p2 &&& (255 : Int32))) + (1 : Int32)).toInt = (((p1 &&& (1073741823 : Int32)) + (1 : Int32)) + (p2 &&& (255 : Int32))).toInt + (1 : Int32).toInt := by have h := c_iadd (((p1 &&& (1073741823 : Int32)) + (1 : Int32)) + (p2 &&& (255 : Int32))) (1 : Int32); omega
            have f759 : (8 : Int32).toInt = 8 := rfl
            have f760 := rng32 ((p2.toUInt32 >>> ((8 : Int32) &&& 31).toUInt32).toInt32)
            have f761 : ((p2.toUInt32 >>> ((8 : Int32) &&& 31).toUInt32).toInt32).toInt = (p2.toInt % 4294967296) / 256 := c_iushr p2 (8 : Int32) 8 (by decide) (by decide)
            have f762 := rng32 (((p2.toUInt32 >>> ((8 : Int32) &&& 31).toUInt32).toInt32) &&& (255 : Int32))
            have f763 : (((p2.toUInt32 >>> ((8 : Int32) &&& 31).toUInt32).toInt32) &&& (255 : Int32)).toInt = ((p2.toUInt32 >>> ((8 : Int32) &&& 31).toUInt32).toInt32).toInt % 256 := c_mask ((p2.toUInt32 >>> ((8 : Int32) &&& 31).toUInt32).toInt32) (255 : Int32) 8 (by decide) (by decide)
            have f764 := rng32 (((((p1 &&& (1073741823 : Int32)) + (1 : Int32)) + (p2 &&& (255 : Int32))) + (1 : Int32)) + (((p2.toUInt32 >>> ((8 : Int32) &&& 31).toUInt32).toInt32) &&& (255 : Int32)))
            have f765 : (((((p1 &&& (1073741823 : Int32)) + (1 : Int32)) + (p2 &&& (255 : Int32))) + (1 : Int32)) + (((p2.toUInt32 >>> ((8 : Int32) &&& 31).toUInt32).toInt32) &&& (255 : Int32))).toInt = ((((p1 &&& (1073741823 : Int32)) + (1 : Int32)) + (p2 &&& (255 : Int32))) + (1 : Int32)).toInt + (((p2.toUInt32 >>> ((8 : Int32) &&& 31).toUInt32).toInt32) &&& (255 : Int32)).toInt := by have h := c_iadd ((((p1 &&& (1073741823 : Int32)) + (1 : Int32)) + (p2 &&& (255 : Int32))) + (1 : Int32)) (((p2.toUInt32 >>> ((8 : Int32) &&& 31).toUInt32).toInt32) &&& (255 : Int32)); omega
            have g766 := hs1
            rw [← Int32.toInt_inj] at g766
            have g767 := hc478
            rw [← Int32.toInt_inj] at g767
            have g768 := hc479
            rw [← Int32.toInt_inj] at g768
            have g769 := hc511
            rw [← Int32.toInt_inj] at g769
            have g770 := ha553_0
            rw [Int32.lt_iff_toInt_lt] at g770
            have g771 := ha553_1
            rw [Int32.lt_iff_toInt_lt] at g771
            have g772 := ha553_2
            rw [Int32.lt_iff_toInt_lt] at g772
            have g773 := ha553_3
            rw [Int32.lt_iff_toInt_lt] at g773
            omega
          · refine own_tr st553 ?_
            show own_E p e below _ T553 (mkF m 168 #[iv p1, iv p2, iv p3, iv p4, iv p5, iv p6, iv 3, iv (p1 &&& (1073741823 : Int32)), iv (((p1 &&& (1073741823 : Int32)) + (1 : Int32)) + (p2 &&& (255 : Int32))), iv (((((p1 &&& (1073741823 : Int32)) + (1 : Int32)) + (p2 &&& (255 : Int32))) + (1 : Int32)) + (((p2.toUInt32 >>> ((8 : Int32) &&& 31).toUInt32).toInt32) &&& (255 : Int32))), iv (((p1 &&& (1073741823 : Int32)) - (4 : Int32)) + (((p6.toUInt32 >>> ((2 : Int32) &&& 31).toUInt32).toInt32) &&& (1023 : Int32))), rv b466, iv p3] [.int p3])
            refine own_st (fun t k => XS.iload X553.here hx rfl (hb hby at_168) rfl k) ?_
            show own_E p e below _ T553 (mkF m 170 #[iv p1, iv p2, iv p3, iv p4, iv p5, iv p6, iv 3, iv (p1 &&& (1073741823 : Int32)), iv (((p1 &&& (1073741823 : Int32)) + (1 : Int32)) + (p2 &&& (255 : Int32))), iv (((((p1 &&& (1073741823 : Int32)) + (1 : Int32)) + (p2 &&& (255 : Int32))) + (1 : Int32)) + (((p2.toUInt32 >>> ((8 : Int32) &&& 31).toUInt32).toInt32) &&& (255 : Int32))), iv (((p1 &&& (1073741823 : Int32)) - (4 : Int32)) + (((p6.toUInt32 >>> ((2 : Int32) &&& 31).toUInt32).toInt32) &&& (1023 : Int32))), rv b466, iv p3] [.int p3, .int p3])
            refine own_st (fun t k => XS.icmpNo X553.here hx rfl (hb hby at_170) rfl (teq rfl).2 k) ?_
            show own_E p e below _ T553 (mkF m 173 #[iv p1, iv p2, iv p3, iv p4, iv p5, iv p6, iv 3, iv (p1 &&& (1073741823 : Int32)), iv (((p1 &&& (1073741823 : Int32)) + (1 : Int32)) + (p2 &&& (255 : Int32))), iv (((((p1 &&& (1073741823 : Int32)) + (1 : Int32)) + (p2 &&& (255 : Int32))) + (1 : Int32)) + (((p2.toUInt32 >>> ((8 : Int32) &&& 31).toUInt32).toInt32) &&& (255 : Int32))), iv (((p1 &&& (1073741823 : Int32)) - (4 : Int32)) + (((p6.toUInt32 >>> ((2 : Int32) &&& 31).toUInt32).toInt32) &&& (1023 : Int32))), rv b466, iv p3] [])
            refine own_st (fun t k => XS.iconst X553.here hx rfl (hb hby at_173) k) ?_
            show own_E p e below _ T553 (mkF m 174 #[iv p1, iv p2, iv p3, iv p4, iv p5, iv p6, iv 3, iv (p1 &&& (1073741823 : Int32)), iv (((p1 &&& (1073741823 : Int32)) + (1 : Int32)) + (p2 &&& (255 : Int32))), iv (((((p1 &&& (1073741823 : Int32)) + (1 : Int32)) + (p2 &&& (255 : Int32))) + (1 : Int32)) + (((p2.toUInt32 >>> ((8 : Int32) &&& 31).toUInt32).toInt32) &&& (255 : Int32))), iv (((p1 &&& (1073741823 : Int32)) - (4 : Int32)) + (((p6.toUInt32 >>> ((2 : Int32) &&& 31).toUInt32).toInt32) &&& (1023 : Int32))), rv b466, iv p3] [.int 1])
            refine own_st (fun t k => XS.goto X553.here hx rfl (pc0 := 174) (pc' := 178) rfl (hb hby at_174) (by decide) (by decide) k) ?_
            show own_E p e below _ T553 (mkF m 178 #[iv p1, iv p2, iv p3, iv p4, iv p5, iv p6, iv 3, iv (p1 &&& (1073741823 : Int32)), iv (((p1 &&& (1073741823 : Int32)) + (1 : Int32)) + (p2 &&& (255 : Int32))), iv (((((p1 &&& (1073741823 : Int32)) + (1 : Int32)) + (p2 &&& (255 : Int32))) + (1 : Int32)) + (((p2.toUInt32 >>> ((8 : Int32) &&& 31).toUInt32).toInt32) &&& (255 : Int32))), iv (((p1 &&& (1073741823 : Int32)) - (4 : Int32)) + (((p6.toUInt32 >>> ((2 : Int32) &&& 31).toUInt32).toInt32) &&& (1023 : Int32))), rv b466, iv p3] [.int 1])
            refine own_retS X553 hx Bd.notSynchronized Bd.returns rfl (by decide) (hb hby at_178) (by decide) (by decide) ?_
            exact ⟨rfl, N553⟩
          · exfalso
            have f774 := rng32 p6
            have f775 : (3 : Int32).toInt = 3 := rfl
            have f776 := rng32 (p6 &&& (3 : Int32))
            have f777 : (p6 &&& (3 : Int32)).toInt = p6.toInt % 4 := c_mask p6 (3 : Int32) 2 (by decide) (by decide)
            have f778 := rng32 p1
            have f779 : (1073741823 : Int32).toInt = 1073741823 := rfl
            have f780 := rng32 (p1 &&& (1073741823 : Int32))
            have f781 : (p1 &&& (1073741823 : Int32)).toInt = p1.toInt % 1073741824 := c_mask p1 (1073741823 : Int32) 30 (by decide) (by decide)
            have f782 : (4 : Int32).toInt = 4 := rfl
            have f783 := rng32 ((p1 &&& (1073741823 : Int32)) - (4 : Int32))
            have f784 : ((p1 &&& (1073741823 : Int32)) - (4 : Int32)).toInt = (p1 &&& (1073741823 : Int32)).toInt - (4 : Int32).toInt := by have h := c_isub (p1 &&& (1073741823 : Int32)) (4 : Int32); omega
            have f785 : (2 : Int32).toInt = 2 := rfl
            have f786 := rng32 ((p6.toUInt32 >>> ((2 : Int32) &&& 31).toUInt32).toInt32)
            have f787 : ((p6.toUInt32 >>> ((2 : Int32) &&& 31).toUInt32).toInt32).toInt = (p6.toInt % 4294967296) / 4 := c_iushr p6 (2 : Int32) 2 (by decide) (by decide)
            have f788 : (1023 : Int32).toInt = 1023 := rfl
            have f789 := rng32 (((p6.toUInt32 >>> ((2 : Int32) &&& 31).toUInt32).toInt32) &&& (1023 : Int32))
            have f790 : (((p6.toUInt32 >>> ((2 : Int32) &&& 31).toUInt32).toInt32) &&& (1023 : Int32)).toInt = ((p6.toUInt32 >>> ((2 : Int32) &&& 31).toUInt32).toInt32).toInt % 1024 := c_mask ((p6.toUInt32 >>> ((2 : Int32) &&& 31).toUInt32).toInt32) (1023 : Int32) 10 (by decide) (by decide)
            have f791 := rng32 (((p1 &&& (1073741823 : Int32)) - (4 : Int32)) + (((p6.toUInt32 >>> ((2 : Int32) &&& 31).toUInt32).toInt32) &&& (1023 : Int32)))
            have f792 : (((p1 &&& (1073741823 : Int32)) - (4 : Int32)) + (((p6.toUInt32 >>> ((2 : Int32) &&& 31).toUInt32).toInt32) &&& (1023 : Int32))).toInt = ((p1 &&& (1073741823 : Int32)) - (4 : Int32)).toInt + (((p6.toUInt32 >>> ((2 : Int32) &&& 31).toUInt32).toInt32) &&& (1023 : Int32)).toInt := by have h := c_iadd ((p1 &&& (1073741823 : Int32)) - (4 : Int32)) (((p6.toUInt32 >>> ((2 : Int32) &&& 31).toUInt32).toInt32) &&& (1023 : Int32)); omega
            have f793 : (1 : Int32).toInt = 1 := rfl
            have f794 := rng32 ((p1 &&& (1073741823 : Int32)) + (1 : Int32))
            have f795 : ((p1 &&& (1073741823 : Int32)) + (1 : Int32)).toInt = (p1 &&& (1073741823 : Int32)).toInt + (1 : Int32).toInt := by have h := c_iadd (p1 &&& (1073741823 : Int32)) (1 : Int32); omega
            have f796 := rng32 p2
            have f797 : (255 : Int32).toInt = 255 := rfl
            have f798 := rng32 (p2 &&& (255 : Int32))
            have f799 : (p2 &&& (255 : Int32)).toInt = p2.toInt % 256 := c_mask p2 (255 : Int32) 8 (by decide) (by decide)
            have f800 := rng32 (((p1 &&& (1073741823 : Int32)) + (1 : Int32)) + (p2 &&& (255 : Int32)))
            have f801 : (((p1 &&& (1073741823 : Int32)) + (1 : Int32)) + (p2 &&& (255 : Int32))).toInt = ((p1 &&& (1073741823 : Int32)) + (1 : Int32)).toInt + (p2 &&& (255 : Int32)).toInt := by have h := c_iadd ((p1 &&& (1073741823 : Int32)) + (1 : Int32)) (p2 &&& (255 : Int32)); omega
            have f802 := rng32 ((((p1 &&& (1073741823 : Int32)) + (1 : Int32)) + (p2 &&& (255 : Int32))) + (1 : Int32))
            have f803 : ((((p1 &&& (1073741823 : Int32)) + (1 : Int32)) + (p2 &&& (255 : Int32))) + (1 : Int32)).toInt = (((p1 &&& (1073741823 : Int32)) + (1 : Int32)) + (p2 &&& (255 : Int32))).toInt + (1 : Int32).toInt := by have h := c_iadd (((p1 &&& (1073741823 : Int32)) + (1 : Int32)) + (p2 &&& (255 : Int32))) (1 : Int32); omega
            have f804 : (8 : Int32).toInt = 8 := rfl
            have f805 := rng32 ((p2.toUInt32 >>> ((8 : Int32) &&& 31).toUInt32).toInt32)
            have f806 : ((p2.toUInt32 >>> ((8 : Int32) &&& 31).toUInt32).toInt32).toInt = (p2.toInt % 4294967296) / 256 := c_iushr p2 (8 : Int32) 8 (by decide) (by decide)
            have f807 := rng32 (((p2.toUInt32 >>> ((8 : Int32) &&& 31).toUInt32).toInt32) &&& (255 : Int32))
            have f808 : (((p2.toUInt32 >>> ((8 : Int32) &&& 31).toUInt32).toInt32) &&& (255 : Int32)).toInt = ((p2.toUInt32 >>> ((8 : Int32) &&& 31).toUInt32).toInt32).toInt % 256 := c_mask ((p2.toUInt32 >>> ((8 : Int32) &&& 31).toUInt32).toInt32) (255 : Int32) 8 (by decide) (by decide)
            have f809 := rng32 (((((p1 &&& (1073741823 : Int32)) + (1 : Int32)) + (p2 &&& (255 : Int32))) + (1 : Int32)) + (((p2.toUInt32 >>> ((8 : Int32) &&& 31).toUInt32).toInt32) &&& (255 : Int32)))
            have f810 : (((((p1 &&& (1073741823 : Int32)) + (1 : Int32)) + (p2 &&& (255 : Int32))) + (1 : Int32)) + (((p2.toUInt32 >>> ((8 : Int32) &&& 31).toUInt32).toInt32) &&& (255 : Int32))).toInt = ((((p1 &&& (1073741823 : Int32)) + (1 : Int32)) + (p2 &&& (255 : Int32))) + (1 : Int32)).toInt + (((p2.toUInt32 >>> ((8 : Int32) &&& 31).toUInt32).toInt32) &&& (255 : Int32)).toInt := by have h := c_iadd ((((p1 &&& (1073741823 : Int32)) + (1 : Int32)) + (p2 &&& (255 : Int32))) + (1 : Int32)) (((p2.toUInt32 >>> ((8 : Int32) &&& 31).toUInt32).toInt32) &&& (255 : Int32)); omega
            have g811 := hs1
            rw [← Int32.toInt_inj] at g811
            have g812 := hc478
            rw [← Int32.toInt_inj] at g812
            have g813 := hc479
            rw [← Int32.toInt_inj] at g813
            have g814 := hc511
            rw [← Int32.toInt_inj] at g814
            have g815 := ha553_0
            rw [Int32.lt_iff_toInt_lt] at g815
            have g816 := ha553_1
            rw [Int32.lt_iff_toInt_lt] at g816
            omega
    · refine own_st (fun t k => XS.icmpYes X474.here hx rfl (pc0 := 122) (pc' := 128) rfl (hb hby at_122) rfl (feq hc478).2 (by decide) (by decide) k) ?_
      show own_E p e below _ T474 (mkF m 128 #[iv p1, iv p2, iv p3, iv p4, iv p5, iv p6, iv 3, iv (p1 &&& (1073741823 : Int32)), iv (((p1 &&& (1073741823 : Int32)) + (1 : Int32)) + (p2 &&& (255 : Int32))), iv (((((p1 &&& (1073741823 : Int32)) + (1 : Int32)) + (p2 &&& (255 : Int32))) + (1 : Int32)) + (((p2.toUInt32 >>> ((8 : Int32) &&& 31).toUInt32).toInt32) &&& (255 : Int32))), iv (((p1 &&& (1073741823 : Int32)) - (4 : Int32)) + (((p6.toUInt32 >>> ((2 : Int32) &&& 31).toUInt32).toInt32) &&& (1023 : Int32))), rv b466, iv 0] [])
      refine own_st (fun t k => XS.iload X474.here hx rfl (hb hby at_128) rfl k) ?_
      show own_E p e below _ T474 (mkF m 130 #[iv p1, iv p2, iv p3, iv p4, iv p5, iv p6, iv 3, iv (p1 &&& (1073741823 : Int32)), iv (((p1 &&& (1073741823 : Int32)) + (1 : Int32)) + (p2 &&& (255 : Int32))), iv (((((p1 &&& (1073741823 : Int32)) + (1 : Int32)) + (p2 &&& (255 : Int32))) + (1 : Int32)) + (((p2.toUInt32 >>> ((8 : Int32) &&& 31).toUInt32).toInt32) &&& (255 : Int32))), iv (((p1 &&& (1073741823 : Int32)) - (4 : Int32)) + (((p6.toUInt32 >>> ((2 : Int32) &&& 31).toUInt32).toInt32) &&& (1023 : Int32))), rv b466, iv 0] [.int 3])
      refine own_st (fun t k => XS.iconst X474.here hx rfl (hb hby at_130) k) ?_
      show own_E p e below _ T474 (mkF m 131 #[iv p1, iv p2, iv p3, iv p4, iv p5, iv p6, iv 3, iv (p1 &&& (1073741823 : Int32)), iv (((p1 &&& (1073741823 : Int32)) + (1 : Int32)) + (p2 &&& (255 : Int32))), iv (((((p1 &&& (1073741823 : Int32)) + (1 : Int32)) + (p2 &&& (255 : Int32))) + (1 : Int32)) + (((p2.toUInt32 >>> ((8 : Int32) &&& 31).toUInt32).toInt32) &&& (255 : Int32))), iv (((p1 &&& (1073741823 : Int32)) - (4 : Int32)) + (((p6.toUInt32 >>> ((2 : Int32) &&& 31).toUInt32).toInt32) &&& (1023 : Int32))), rv b466, iv 0] [.int 2, .int 3])
      refine own_st (fun t k => XS.icmpNo X474.here hx rfl (hb hby at_131) rfl (by decide) k) ?_
      show own_E p e below _ T474 (mkF m 134 #[iv p1, iv p2, iv p3, iv p4, iv p5, iv p6, iv 3, iv (p1 &&& (1073741823 : Int32)), iv (((p1 &&& (1073741823 : Int32)) + (1 : Int32)) + (p2 &&& (255 : Int32))), iv (((((p1 &&& (1073741823 : Int32)) + (1 : Int32)) + (p2 &&& (255 : Int32))) + (1 : Int32)) + (((p2.toUInt32 >>> ((8 : Int32) &&& 31).toUInt32).toInt32) &&& (255 : Int32))), iv (((p1 &&& (1073741823 : Int32)) - (4 : Int32)) + (((p6.toUInt32 >>> ((2 : Int32) &&& 31).toUInt32).toInt32) &&& (1023 : Int32))), rv b466, iv 0] [])
      refine own_st (fun t k => XS.iload X474.here hx rfl (hb hby at_134) rfl k) ?_
      show own_E p e below _ T474 (mkF m 136 #[iv p1, iv p2, iv p3, iv p4, iv p5, iv p6, iv 3, iv (p1 &&& (1073741823 : Int32)), iv (((p1 &&& (1073741823 : Int32)) + (1 : Int32)) + (p2 &&& (255 : Int32))), iv (((((p1 &&& (1073741823 : Int32)) + (1 : Int32)) + (p2 &&& (255 : Int32))) + (1 : Int32)) + (((p2.toUInt32 >>> ((8 : Int32) &&& 31).toUInt32).toInt32) &&& (255 : Int32))), iv (((p1 &&& (1073741823 : Int32)) - (4 : Int32)) + (((p6.toUInt32 >>> ((2 : Int32) &&& 31).toUInt32).toInt32) &&& (1023 : Int32))), rv b466, iv 0] [.int (((p1 &&& (1073741823 : Int32)) - (4 : Int32)) + (((p6.toUInt32 >>> ((2 : Int32) &&& 31).toUInt32).toInt32) &&& (1023 : Int32)))])
      refine own_st (fun t k => XS.iload X474.here hx rfl (hb hby at_136) rfl k) ?_
      show own_E p e below _ T474 (mkF m 138 #[iv p1, iv p2, iv p3, iv p4, iv p5, iv p6, iv 3, iv (p1 &&& (1073741823 : Int32)), iv (((p1 &&& (1073741823 : Int32)) + (1 : Int32)) + (p2 &&& (255 : Int32))), iv (((((p1 &&& (1073741823 : Int32)) + (1 : Int32)) + (p2 &&& (255 : Int32))) + (1 : Int32)) + (((p2.toUInt32 >>> ((8 : Int32) &&& 31).toUInt32).toInt32) &&& (255 : Int32))), iv (((p1 &&& (1073741823 : Int32)) - (4 : Int32)) + (((p6.toUInt32 >>> ((2 : Int32) &&& 31).toUInt32).toInt32) &&& (1023 : Int32))), rv b466, iv 0] [.int (((p1 &&& (1073741823 : Int32)) + (1 : Int32)) + (p2 &&& (255 : Int32))), .int (((p1 &&& (1073741823 : Int32)) - (4 : Int32)) + (((p6.toUInt32 >>> ((2 : Int32) &&& 31).toUInt32).toInt32) &&& (1023 : Int32)))])
      by_cases hc817 : (((p1 &&& (1073741823 : Int32)) - (4 : Int32)) + (((p6.toUInt32 >>> ((2 : Int32) &&& 31).toUInt32).toInt32) &&& (1023 : Int32))) = (((p1 &&& (1073741823 : Int32)) + (1 : Int32)) + (p2 &&& (255 : Int32)))
      · refine own_st (fun t k => XS.icmpNo X474.here hx rfl (hb hby at_138) rfl (teq hc817).2 k) ?_
        show own_E p e below _ T474 (mkF m 141 #[iv p1, iv p2, iv p3, iv p4, iv p5, iv p6, iv 3, iv (p1 &&& (1073741823 : Int32)), iv (((p1 &&& (1073741823 : Int32)) + (1 : Int32)) + (p2 &&& (255 : Int32))), iv (((((p1 &&& (1073741823 : Int32)) + (1 : Int32)) + (p2 &&& (255 : Int32))) + (1 : Int32)) + (((p2.toUInt32 >>> ((8 : Int32) &&& 31).toUInt32).toInt32) &&& (255 : Int32))), iv (((p1 &&& (1073741823 : Int32)) - (4 : Int32)) + (((p6.toUInt32 >>> ((2 : Int32) &&& 31).toUInt32).toInt32) &&& (1023 : Int32))), rv b466, iv 0] [])
        refine own_st (fun t k => XS.iloadN X474.here hx rfl (hb hby at_141) rfl k) ?_
        show own_E p e below _ T474 (mkF m 142 #[iv p1, iv p2, iv p3, iv p4, iv p5, iv p6, iv 3, iv (p1 &&& (1073741823 : Int32)), iv (((p1 &&& (1073741823 : Int32)) + (1 : Int32)) + (p2 &&& (255 : Int32))), iv (((((p1 &&& (1073741823 : Int32)) + (1 : Int32)) + (p2 &&& (255 : Int32))) + (1 : Int32)) + (((p2.toUInt32 >>> ((8 : Int32) &&& 31).toUInt32).toInt32) &&& (255 : Int32))), iv (((p1 &&& (1073741823 : Int32)) - (4 : Int32)) + (((p6.toUInt32 >>> ((2 : Int32) &&& 31).toUInt32).toInt32) &&& (1023 : Int32))), rv b466, iv 0] [.int p4])
        refine own_st (fun t k => XS.istore X474.here hx rfl (hb hby at_142) rfl (l' := #[iv p1, iv p2, iv p3, iv p4, iv p5, iv p6, iv 3, iv (p1 &&& (1073741823 : Int32)), iv (((p1 &&& (1073741823 : Int32)) + (1 : Int32)) + (p2 &&& (255 : Int32))), iv (((((p1 &&& (1073741823 : Int32)) + (1 : Int32)) + (p2 &&& (255 : Int32))) + (1 : Int32)) + (((p2.toUInt32 >>> ((8 : Int32) &&& 31).toUInt32).toInt32) &&& (255 : Int32))), iv (((p1 &&& (1073741823 : Int32)) - (4 : Int32)) + (((p6.toUInt32 >>> ((2 : Int32) &&& 31).toUInt32).toInt32) &&& (1023 : Int32))), rv b466, iv p4]) rfl k) ?_
        show own_E p e below _ T474 (mkF m 144 #[iv p1, iv p2, iv p3, iv p4, iv p5, iv p6, iv 3, iv (p1 &&& (1073741823 : Int32)), iv (((p1 &&& (1073741823 : Int32)) + (1 : Int32)) + (p2 &&& (255 : Int32))), iv (((((p1 &&& (1073741823 : Int32)) + (1 : Int32)) + (p2 &&& (255 : Int32))) + (1 : Int32)) + (((p2.toUInt32 >>> ((8 : Int32) &&& 31).toUInt32).toInt32) &&& (255 : Int32))), iv (((p1 &&& (1073741823 : Int32)) - (4 : Int32)) + (((p6.toUInt32 >>> ((2 : Int32) &&& 31).toUInt32).toInt32) &&& (1023 : Int32))), rv b466, iv p4] [])
        refine own_st (fun t k => XS.iload X474.here hx rfl (hb hby at_144) rfl k) ?_
        show own_E p e below _ T474 (mkF m 146 #[iv p1, iv p2, iv p3, iv p4, iv p5, iv p6, iv 3, iv (p1 &&& (1073741823 : Int32)), iv (((p1 &&& (1073741823 : Int32)) + (1 : Int32)) + (p2 &&& (255 : Int32))), iv (((((p1 &&& (1073741823 : Int32)) + (1 : Int32)) + (p2 &&& (255 : Int32))) + (1 : Int32)) + (((p2.toUInt32 >>> ((8 : Int32) &&& 31).toUInt32).toInt32) &&& (255 : Int32))), iv (((p1 &&& (1073741823 : Int32)) - (4 : Int32)) + (((p6.toUInt32 >>> ((2 : Int32) &&& 31).toUInt32).toInt32) &&& (1023 : Int32))), rv b466, iv p4] [.int 3])
        refine own_st (fun t k => XS.iconst X474.here hx rfl (hb hby at_146) k) ?_
        show own_E p e below _ T474 (mkF m 147 #[iv p1, iv p2, iv p3, iv p4, iv p5, iv p6, iv 3, iv (p1 &&& (1073741823 : Int32)), iv (((p1 &&& (1073741823 : Int32)) + (1 : Int32)) + (p2 &&& (255 : Int32))), iv (((((p1 &&& (1073741823 : Int32)) + (1 : Int32)) + (p2 &&& (255 : Int32))) + (1 : Int32)) + (((p2.toUInt32 >>> ((8 : Int32) &&& 31).toUInt32).toInt32) &&& (255 : Int32))), iv (((p1 &&& (1073741823 : Int32)) - (4 : Int32)) + (((p6.toUInt32 >>> ((2 : Int32) &&& 31).toUInt32).toInt32) &&& (1023 : Int32))), rv b466, iv p4] [.int 3, .int 3])
        refine own_st (fun t k => XS.icmpNo X474.here hx rfl (hb hby at_147) rfl (by decide) k) ?_
        show own_E p e below _ T474 (mkF m 150 #[iv p1, iv p2, iv p3, iv p4, iv p5, iv p6, iv 3, iv (p1 &&& (1073741823 : Int32)), iv (((p1 &&& (1073741823 : Int32)) + (1 : Int32)) + (p2 &&& (255 : Int32))), iv (((((p1 &&& (1073741823 : Int32)) + (1 : Int32)) + (p2 &&& (255 : Int32))) + (1 : Int32)) + (((p2.toUInt32 >>> ((8 : Int32) &&& 31).toUInt32).toInt32) &&& (255 : Int32))), iv (((p1 &&& (1073741823 : Int32)) - (4 : Int32)) + (((p6.toUInt32 >>> ((2 : Int32) &&& 31).toUInt32).toInt32) &&& (1023 : Int32))), rv b466, iv p4] [])
        refine own_st (fun t k => XS.iload X474.here hx rfl (hb hby at_150) rfl k) ?_
        show own_E p e below _ T474 (mkF m 152 #[iv p1, iv p2, iv p3, iv p4, iv p5, iv p6, iv 3, iv (p1 &&& (1073741823 : Int32)), iv (((p1 &&& (1073741823 : Int32)) + (1 : Int32)) + (p2 &&& (255 : Int32))), iv (((((p1 &&& (1073741823 : Int32)) + (1 : Int32)) + (p2 &&& (255 : Int32))) + (1 : Int32)) + (((p2.toUInt32 >>> ((8 : Int32) &&& 31).toUInt32).toInt32) &&& (255 : Int32))), iv (((p1 &&& (1073741823 : Int32)) - (4 : Int32)) + (((p6.toUInt32 >>> ((2 : Int32) &&& 31).toUInt32).toInt32) &&& (1023 : Int32))), rv b466, iv p4] [.int (((p1 &&& (1073741823 : Int32)) - (4 : Int32)) + (((p6.toUInt32 >>> ((2 : Int32) &&& 31).toUInt32).toInt32) &&& (1023 : Int32)))])
        refine own_st (fun t k => XS.iload X474.here hx rfl (hb hby at_152) rfl k) ?_
        show own_E p e below _ T474 (mkF m 154 #[iv p1, iv p2, iv p3, iv p4, iv p5, iv p6, iv 3, iv (p1 &&& (1073741823 : Int32)), iv (((p1 &&& (1073741823 : Int32)) + (1 : Int32)) + (p2 &&& (255 : Int32))), iv (((((p1 &&& (1073741823 : Int32)) + (1 : Int32)) + (p2 &&& (255 : Int32))) + (1 : Int32)) + (((p2.toUInt32 >>> ((8 : Int32) &&& 31).toUInt32).toInt32) &&& (255 : Int32))), iv (((p1 &&& (1073741823 : Int32)) - (4 : Int32)) + (((p6.toUInt32 >>> ((2 : Int32) &&& 31).toUInt32).toInt32) &&& (1023 : Int32))), rv b466, iv p4] [.int (((((p1 &&& (1073741823 : Int32)) + (1 : Int32)) + (p2 &&& (255 : Int32))) + (1 : Int32)) + (((p2.toUInt32 >>> ((8 : Int32) &&& 31).toUInt32).toInt32) &&& (255 : Int32))), .int (((p1 &&& (1073741823 : Int32)) - (4 : Int32)) + (((p6.toUInt32 >>> ((2 : Int32) &&& 31).toUInt32).toInt32) &&& (1023 : Int32)))])
        by_cases hc818 : (((p1 &&& (1073741823 : Int32)) - (4 : Int32)) + (((p6.toUInt32 >>> ((2 : Int32) &&& 31).toUInt32).toInt32) &&& (1023 : Int32))) = (((((p1 &&& (1073741823 : Int32)) + (1 : Int32)) + (p2 &&& (255 : Int32))) + (1 : Int32)) + (((p2.toUInt32 >>> ((8 : Int32) &&& 31).toUInt32).toInt32) &&& (255 : Int32)))
        · exfalso
          have f819 := rng32 p6
          have f820 : (3 : Int32).toInt = 3 := rfl
          have f821 := rng32 (p6 &&& (3 : Int32))
          have f822 : (p6 &&& (3 : Int32)).toInt = p6.toInt % 4 := c_mask p6 (3 : Int32) 2 (by decide) (by decide)
          have f823 := rng32 p1
          have f824 : (1073741823 : Int32).toInt = 1073741823 := rfl
          have f825 := rng32 (p1 &&& (1073741823 : Int32))
          have f826 : (p1 &&& (1073741823 : Int32)).toInt = p1.toInt % 1073741824 := c_mask p1 (1073741823 : Int32) 30 (by decide) (by decide)
          have f827 : (4 : Int32).toInt = 4 := rfl
          have f828 := rng32 ((p1 &&& (1073741823 : Int32)) - (4 : Int32))
          have f829 : ((p1 &&& (1073741823 : Int32)) - (4 : Int32)).toInt = (p1 &&& (1073741823 : Int32)).toInt - (4 : Int32).toInt := by have h := c_isub (p1 &&& (1073741823 : Int32)) (4 : Int32); omega
          have f830 : (2 : Int32).toInt = 2 := rfl
          have f831 := rng32 ((p6.toUInt32 >>> ((2 : Int32) &&& 31).toUInt32).toInt32)
          have f832 : ((p6.toUInt32 >>> ((2 : Int32) &&& 31).toUInt32).toInt32).toInt = (p6.toInt % 4294967296) / 4 := c_iushr p6 (2 : Int32) 2 (by decide) (by decide)
          have f833 : (1023 : Int32).toInt = 1023 := rfl
          have f834 := rng32 (((p6.toUInt32 >>> ((2 : Int32) &&& 31).toUInt32).toInt32) &&& (1023 : Int32))
          have f835 : (((p6.toUInt32 >>> ((2 : Int32) &&& 31).toUInt32).toInt32) &&& (1023 : Int32)).toInt = ((p6.toUInt32 >>> ((2 : Int32) &&& 31).toUInt32).toInt32).toInt % 1024 := c_mask ((p6.toUInt32 >>> ((2 : Int32) &&& 31).toUInt32).toInt32) (1023 : Int32) 10 (by decide) (by decide)
          have f836 := rng32 (((p1 &&& (1073741823 : Int32)) - (4 : Int32)) + (((p6.toUInt32 >>> ((2 : Int32) &&& 31).toUInt32).toInt32) &&& (1023 : Int32)))
          have f837 : (((p1 &&& (1073741823 : Int32)) - (4 : Int32)) + (((p6.toUInt32 >>> ((2 : Int32) &&& 31).toUInt32).toInt32) &&& (1023 : Int32))).toInt = ((p1 &&& (1073741823 : Int32)) - (4 : Int32)).toInt + (((p6.toUInt32 >>> ((2 : Int32) &&& 31).toUInt32).toInt32) &&& (1023 : Int32)).toInt := by have h := c_iadd ((p1 &&& (1073741823 : Int32)) - (4 : Int32)) (((p6.toUInt32 >>> ((2 : Int32) &&& 31).toUInt32).toInt32) &&& (1023 : Int32)); omega
          have f838 : (1 : Int32).toInt = 1 := rfl
          have f839 := rng32 ((p1 &&& (1073741823 : Int32)) + (1 : Int32))
          have f840 : ((p1 &&& (1073741823 : Int32)) + (1 : Int32)).toInt = (p1 &&& (1073741823 : Int32)).toInt + (1 : Int32).toInt := by have h := c_iadd (p1 &&& (1073741823 : Int32)) (1 : Int32); omega
          have f841 := rng32 p2
          have f842 : (255 : Int32).toInt = 255 := rfl
          have f843 := rng32 (p2 &&& (255 : Int32))
          have f844 : (p2 &&& (255 : Int32)).toInt = p2.toInt % 256 := c_mask p2 (255 : Int32) 8 (by decide) (by decide)
          have f845 := rng32 (((p1 &&& (1073741823 : Int32)) + (1 : Int32)) + (p2 &&& (255 : Int32)))
          have f846 : (((p1 &&& (1073741823 : Int32)) + (1 : Int32)) + (p2 &&& (255 : Int32))).toInt = ((p1 &&& (1073741823 : Int32)) + (1 : Int32)).toInt + (p2 &&& (255 : Int32)).toInt := by have h := c_iadd ((p1 &&& (1073741823 : Int32)) + (1 : Int32)) (p2 &&& (255 : Int32)); omega
          have f847 := rng32 ((((p1 &&& (1073741823 : Int32)) + (1 : Int32)) + (p2 &&& (255 : Int32))) + (1 : Int32))
          have f848 : ((((p1 &&& (1073741823 : Int32)) + (1 : Int32)) + (p2 &&& (255 : Int32))) + (1 : Int32)).toInt = (((p1 &&& (1073741823 : Int32)) + (1 : Int32)) + (p2 &&& (255 : Int32))).toInt + (1 : Int32).toInt := by have h := c_iadd (((p1 &&& (1073741823 : Int32)) + (1 : Int32)) + (p2 &&& (255 : Int32))) (1 : Int32); omega
          have f849 : (8 : Int32).toInt = 8 := rfl
          have f850 := rng32 ((p2.toUInt32 >>> ((8 : Int32) &&& 31).toUInt32).toInt32)
          have f851 : ((p2.toUInt32 >>> ((8 : Int32) &&& 31).toUInt32).toInt32).toInt = (p2.toInt % 4294967296) / 256 := c_iushr p2 (8 : Int32) 8 (by decide) (by decide)
          have f852 := rng32 (((p2.toUInt32 >>> ((8 : Int32) &&& 31).toUInt32).toInt32) &&& (255 : Int32))
          have f853 : (((p2.toUInt32 >>> ((8 : Int32) &&& 31).toUInt32).toInt32) &&& (255 : Int32)).toInt = ((p2.toUInt32 >>> ((8 : Int32) &&& 31).toUInt32).toInt32).toInt % 256 := c_mask ((p2.toUInt32 >>> ((8 : Int32) &&& 31).toUInt32).toInt32) (255 : Int32) 8 (by decide) (by decide)
          have f854 := rng32 (((((p1 &&& (1073741823 : Int32)) + (1 : Int32)) + (p2 &&& (255 : Int32))) + (1 : Int32)) + (((p2.toUInt32 >>> ((8 : Int32) &&& 31).toUInt32).toInt32) &&& (255 : Int32)))
          have f855 : (((((p1 &&& (1073741823 : Int32)) + (1 : Int32)) + (p2 &&& (255 : Int32))) + (1 : Int32)) + (((p2.toUInt32 >>> ((8 : Int32) &&& 31).toUInt32).toInt32) &&& (255 : Int32))).toInt = ((((p1 &&& (1073741823 : Int32)) + (1 : Int32)) + (p2 &&& (255 : Int32))) + (1 : Int32)).toInt + (((p2.toUInt32 >>> ((8 : Int32) &&& 31).toUInt32).toInt32) &&& (255 : Int32)).toInt := by have h := c_iadd ((((p1 &&& (1073741823 : Int32)) + (1 : Int32)) + (p2 &&& (255 : Int32))) + (1 : Int32)) (((p2.toUInt32 >>> ((8 : Int32) &&& 31).toUInt32).toInt32) &&& (255 : Int32)); omega
          have g856 := hs1
          rw [← Int32.toInt_inj] at g856
          have g857 := hc478
          rw [← Int32.toInt_inj] at g857
          have g858 := hc817
          rw [← Int32.toInt_inj] at g858
          have g859 := hc818
          rw [← Int32.toInt_inj] at g859
          omega
        · refine own_st (fun t k => XS.icmpYes X474.here hx rfl (pc0 := 154) (pc' := 161) rfl (hb hby at_154) rfl (feq hc818).2 (by decide) (by decide) k) ?_
          show own_E p e below _ T474 (mkF m 161 #[iv p1, iv p2, iv p3, iv p4, iv p5, iv p6, iv 3, iv (p1 &&& (1073741823 : Int32)), iv (((p1 &&& (1073741823 : Int32)) + (1 : Int32)) + (p2 &&& (255 : Int32))), iv (((((p1 &&& (1073741823 : Int32)) + (1 : Int32)) + (p2 &&& (255 : Int32))) + (1 : Int32)) + (((p2.toUInt32 >>> ((8 : Int32) &&& 31).toUInt32).toInt32) &&& (255 : Int32))), iv (((p1 &&& (1073741823 : Int32)) - (4 : Int32)) + (((p6.toUInt32 >>> ((2 : Int32) &&& 31).toUInt32).toInt32) &&& (1023 : Int32))), rv b466, iv p4] [])
          refine own_st (fun t k => XS.aload X474.here hx rfl (hb hby at_161) rfl rfl k) ?_
          show own_E p e below _ T474 (mkF m 163 #[iv p1, iv p2, iv p3, iv p4, iv p5, iv p6, iv 3, iv (p1 &&& (1073741823 : Int32)), iv (((p1 &&& (1073741823 : Int32)) + (1 : Int32)) + (p2 &&& (255 : Int32))), iv (((((p1 &&& (1073741823 : Int32)) + (1 : Int32)) + (p2 &&& (255 : Int32))) + (1 : Int32)) + (((p2.toUInt32 >>> ((8 : Int32) &&& 31).toUInt32).toInt32) &&& (255 : Int32))), iv (((p1 &&& (1073741823 : Int32)) - (4 : Int32)) + (((p6.toUInt32 >>> ((2 : Int32) &&& 31).toUInt32).toInt32) &&& (1023 : Int32))), rv b466, iv p4] [.ref b466])
          refine own_st (fun t k => XS.iload X474.here hx rfl (hb hby at_163) rfl k) ?_
          show own_E p e below _ T474 (mkF m 165 #[iv p1, iv p2, iv p3, iv p4, iv p5, iv p6, iv 3, iv (p1 &&& (1073741823 : Int32)), iv (((p1 &&& (1073741823 : Int32)) + (1 : Int32)) + (p2 &&& (255 : Int32))), iv (((((p1 &&& (1073741823 : Int32)) + (1 : Int32)) + (p2 &&& (255 : Int32))) + (1 : Int32)) + (((p2.toUInt32 >>> ((8 : Int32) &&& 31).toUInt32).toInt32) &&& (255 : Int32))), iv (((p1 &&& (1073741823 : Int32)) - (4 : Int32)) + (((p6.toUInt32 >>> ((2 : Int32) &&& 31).toUInt32).toInt32) &&& (1023 : Int32))), rv b466, iv p4] [.int (((p1 &&& (1073741823 : Int32)) - (4 : Int32)) + (((p6.toUInt32 >>> ((2 : Int32) &&& 31).toUInt32).toInt32) &&& (1023 : Int32))), .ref b466])
          obtain ⟨cq860, kq860, q860a, q860b, q860c⟩ := isOf hZ e474 P474_0
          obtain ⟨_, _, ⟨T860, L860, k860, n860⟩, -, X860, ⟨Lc860, hQ860, l860, y860, z860⟩, st860⟩ := X474.virtualBack hx (y := own_y8) (z := own_y8) hown (mvT hZ (own_w hw 43 rfl)) (mvT hZ (own_w hw 44 rfl)) (notFace_of_selects (args := #[]) (mvT hZ (own_w hw 46 rfl))) (mvT hZ (own_w hw 46 rfl)) (mvT hZ (own_w hw 45 rfl)) (by decide) (backOf (W := 0) (own_freq3 l Z a0 hw [] b466 b474_o0 b474_o1 k474_o2 k474_o3 (((p1 &&& (1073741823 : Int32)) - (4 : Int32)) + (((p6.toUInt32 >>> ((2 : Int32) &&& 31).toUInt32).toInt32) &&& (1023 : Int32))) (p1 &&& (1073741823 : Int32)) (((p1 &&& (1073741823 : Int32)) + (1 : Int32)) + (p2 &&& (255 : Int32))) (((((p1 &&& (1073741823 : Int32)) + (1 : Int32)) + (p2 &&& (255 : Int32))) + (1 : Int32)) + (((p2.toUInt32 >>> ((8 : Int32) &&& 31).toUInt32).toInt32) &&& (255 : Int32))) (0 : Int32) p3 p4 p5 (0 : Int32) T474.heap n0 Z477 P474_1 P474_2 P474_5 P474_6 P474_7) hZ (own_w hw 47 rfl) (own_w hw 3 rfl) (by decide) (by decide)) q860a q860c (g := (mkF m 165 #[iv p1, iv p2, iv p3, iv p4, iv p5, iv p6, iv 3, iv (p1 &&& (1073741823 : Int32)), iv (((p1 &&& (1073741823 : Int32)) + (1 : Int32)) + (p2 &&& (255 : Int32))), iv (((((p1 &&& (1073741823 : Int32)) + (1 : Int32)) + (p2 &&& (255 : Int32))) + (1 : Int32)) + (((p2.toUInt32 >>> ((8 : Int32) &&& 31).toUInt32).toInt32) &&& (255 : Int32))), iv (((p1 &&& (1073741823 : Int32)) - (4 : Int32)) + (((p6.toUInt32 >>> ((2 : Int32) &&& 31).toUInt32).toInt32) &&& (1023 : Int32))), rv b466, iv p4] [.int (((p1 &&& (1073741823 : Int32)) - (4 : Int32)) + (((p6.toUInt32 >>> ((2 : Int32) &&& 31).toUInt32).toInt32) &&& (1023 : Int32))), .ref b466])) rfl (by rw [hml]; rfl) (Steps.refl _) (argsL := [(.int (((p1 &&& (1073741823 : Int32)) - (4 : Int32)) + (((p6.toUInt32 >>> ((2 : Int32) &&& 31).toUInt32).toInt32) &&& (1023 : Int32))))]) (rest := []) (lenOf own_pd_1 rfl) rfl (by show 2 * 0 + _ ≤ _; exact Nat.le_of_eq rfl) (hb hby at_165) (fun _ _ => ⟨rfl, e474, (by decide : 7 + 0 ≤ _), (by decide : 19 + 0 ≤ _)⟩)
          dsimp only [Pt.U, Pt.locs, Pt.cells, Pt.slots] at X860 l860 y860 z860 st860 hQ860
          subst l860 y860 z860
          obtain ⟨hR860, e860, rfl⟩ := hQ860
          have N860 := Fr.app N474 (Fr.nil n0)
          rcases hR860 with ⟨rfl, ha860_0, ha860_1⟩ | ⟨rfl, ha860_0, ha860_1, ha860_2⟩ | ⟨rfl, ha860_0, ha860_1, ha860_2⟩ | ⟨rfl, ha860_0, ha860_1, ha860_2⟩ | ⟨rfl, ha860_0, ha860_1, ha860_2, ha860_3⟩ | ⟨rfl, ha860_0, ha860_1, ha860_2, ha860_3⟩ | ⟨rfl, ha860_0, ha860_1⟩
          · exfalso
            have f861 := rng32 p6
            have f862 : (3 : Int32).toInt = 3 := rfl
            have f863 := rng32 (p6 &&& (3 : Int32))
            have f864 : (p6 &&& (3 : Int32)).toInt = p6.toInt % 4 := c_mask p6 (3 : Int32) 2 (by decide) (by decide)
            have f865 := rng32 p1
            have f866 : (1073741823 : Int32).toInt = 1073741823 := rfl
            have f867 := rng32 (p1 &&& (1073741823 : Int32))
            have f868 : (p1 &&& (1073741823 : Int32)).toInt = p1.toInt % 1073741824 := c_mask p1 (1073741823 : Int32) 30 (by decide) (by decide)
            have f869 : (4 : Int32).toInt = 4 := rfl
            have f870 := rng32 ((p1 &&& (1073741823 : Int32)) - (4 : Int32))
            have f871 : ((p1 &&& (1073741823 : Int32)) - (4 : Int32)).toInt = (p1 &&& (1073741823 : Int32)).toInt - (4 : Int32).toInt := by have h := c_isub (p1 &&& (1073741823 : Int32)) (4 : Int32); omega
            have f872 : (2 : Int32).toInt = 2 := rfl
            have f873 := rng32 ((p6.toUInt32 >>> ((2 : Int32) &&& 31).toUInt32).toInt32)
            have f874 : ((p6.toUInt32 >>> ((2 : Int32) &&& 31).toUInt32).toInt32).toInt = (p6.toInt % 4294967296) / 4 := c_iushr p6 (2 : Int32) 2 (by decide) (by decide)
            have f875 : (1023 : Int32).toInt = 1023 := rfl
            have f876 := rng32 (((p6.toUInt32 >>> ((2 : Int32) &&& 31).toUInt32).toInt32) &&& (1023 : Int32))
            have f877 : (((p6.toUInt32 >>> ((2 : Int32) &&& 31).toUInt32).toInt32) &&& (1023 : Int32)).toInt = ((p6.toUInt32 >>> ((2 : Int32) &&& 31).toUInt32).toInt32).toInt % 1024 := c_mask ((p6.toUInt32 >>> ((2 : Int32) &&& 31).toUInt32).toInt32) (1023 : Int32) 10 (by decide) (by decide)
            have f878 := rng32 (((p1 &&& (1073741823 : Int32)) - (4 : Int32)) + (((p6.toUInt32 >>> ((2 : Int32) &&& 31).toUInt32).toInt32) &&& (1023 : Int32)))
            have f879 : (((p1 &&& (1073741823 : Int32)) - (4 : Int32)) + (((p6.toUInt32 >>> ((2 : Int32) &&& 31).toUInt32).toInt32) &&& (1023 : Int32))).toInt = ((p1 &&& (1073741823 : Int32)) - (4 : Int32)).toInt + (((p6.toUInt32 >>> ((2 : Int32) &&& 31).toUInt32).toInt32) &&& (1023 : Int32)).toInt := by have h := c_iadd ((p1 &&& (1073741823 : Int32)) - (4 : Int32)) (((p6.toUInt32 >>> ((2 : Int32) &&& 31).toUInt32).toInt32) &&& (1023 : Int32)); omega
            have f880 : (1 : Int32).toInt = 1 := rfl
            have f881 := rng32 ((p1 &&& (1073741823 : Int32)) + (1 : Int32))
            have f882 : ((p1 &&& (1073741823 : Int32)) + (1 : Int32)).toInt = (p1 &&& (1073741823 : Int32)).toInt + (1 : Int32).toInt := by have h := c_iadd (p1 &&& (1073741823 : Int32)) (1 : Int32); omega
            have f883 := rng32 p2
            have f884 : (255 : Int32).toInt = 255 := rfl
            have f885 := rng32 (p2 &&& (255 : Int32))
            have f886 : (p2 &&& (255 : Int32)).toInt = p2.toInt % 256 := c_mask p2 (255 : Int32) 8 (by decide) (by decide)
            have f887 := rng32 (((p1 &&& (1073741823 : Int32)) + (1 : Int32)) + (p2 &&& (255 : Int32)))
            have f888 : (((p1 &&& (1073741823 : Int32)) + (1 : Int32)) + (p2 &&& (255 : Int32))).toInt = ((p1 &&& (1073741823 : Int32)) + (1 : Int32)).toInt + (p2 &&& (255 : Int32)).toInt := by have h := c_iadd ((p1 &&& (1073741823 : Int32)) + (1 : Int32)) (p2 &&& (255 : Int32)); omega
            have f889 := rng32 ((((p1 &&& (1073741823 : Int32)) + (1 : Int32)) + (p2 &&& (255 : Int32))) + (1 : Int32))
            have f890 : ((((p1 &&& (1073741823 : Int32)) + (1 : Int32)) + (p2 &&& (255 : Int32))) + (1 : Int32)).toInt = (((p1 &&& (1073741823 : Int32)) + (1 : Int32)) + (p2 &&& (255 : Int32))).toInt + (1 : Int32).toInt := by have h := c_iadd (((p1 &&& (1073741823 : Int32)) + (1 : Int32)) + (p2 &&& (255 : Int32))) (1 : Int32); omega
            have f891 : (8 : Int32).toInt = 8 := rfl
            have f892 := rng32 ((p2.toUInt32 >>> ((8 : Int32) &&& 31).toUInt32).toInt32)
            have f893 : ((p2.toUInt32 >>> ((8 : Int32) &&& 31).toUInt32).toInt32).toInt = (p2.toInt % 4294967296) / 256 := c_iushr p2 (8 : Int32) 8 (by decide) (by decide)
            have f894 := rng32 (((p2.toUInt32 >>> ((8 : Int32) &&& 31).toUInt32).toInt32) &&& (255 : Int32))
            have f895 : (((p2.toUInt32 >>> ((8 : Int32) &&& 31).toUInt32).toInt32) &&& (255 : Int32)).toInt = ((p2.toUInt32 >>> ((8 : Int32) &&& 31).toUInt32).toInt32).toInt % 256 := c_mask ((p2.toUInt32 >>> ((8 : Int32) &&& 31).toUInt32).toInt32) (255 : Int32) 8 (by decide) (by decide)
            have f896 := rng32 (((((p1 &&& (1073741823 : Int32)) + (1 : Int32)) + (p2 &&& (255 : Int32))) + (1 : Int32)) + (((p2.toUInt32 >>> ((8 : Int32) &&& 31).toUInt32).toInt32) &&& (255 : Int32)))
            have f897 : (((((p1 &&& (1073741823 : Int32)) + (1 : Int32)) + (p2 &&& (255 : Int32))) + (1 : Int32)) + (((p2.toUInt32 >>> ((8 : Int32) &&& 31).toUInt32).toInt32) &&& (255 : Int32))).toInt = ((((p1 &&& (1073741823 : Int32)) + (1 : Int32)) + (p2 &&& (255 : Int32))) + (1 : Int32)).toInt + (((p2.toUInt32 >>> ((8 : Int32) &&& 31).toUInt32).toInt32) &&& (255 : Int32)).toInt := by have h := c_iadd ((((p1 &&& (1073741823 : Int32)) + (1 : Int32)) + (p2 &&& (255 : Int32))) + (1 : Int32)) (((p2.toUInt32 >>> ((8 : Int32) &&& 31).toUInt32).toInt32) &&& (255 : Int32)); omega
            have g898 := hs1
            rw [← Int32.toInt_inj] at g898
            have g899 := hc478
            rw [← Int32.toInt_inj] at g899
            have g900 := hc817
            rw [← Int32.toInt_inj] at g900
            have g901 := hc818
            rw [← Int32.toInt_inj] at g901
            have g902 := ha860_0
            rw [Int32.lt_iff_toInt_lt] at g902
            have g903 := ha860_1
            rw [Int32.lt_iff_toInt_lt] at g903
            omega
          · exfalso
            have f904 := rng32 p6
            have f905 : (3 : Int32).toInt = 3 := rfl
            have f906 := rng32 (p6 &&& (3 : Int32))
            have f907 : (p6 &&& (3 : Int32)).toInt = p6.toInt % 4 := c_mask p6 (3 : Int32) 2 (by decide) (by decide)
            have f908 := rng32 p1
            have f909 : (1073741823 : Int32).toInt = 1073741823 := rfl
            have f910 := rng32 (p1 &&& (1073741823 : Int32))
            have f911 : (p1 &&& (1073741823 : Int32)).toInt = p1.toInt % 1073741824 := c_mask p1 (1073741823 : Int32) 30 (by decide) (by decide)
            have f912 : (4 : Int32).toInt = 4 := rfl
            have f913 := rng32 ((p1 &&& (1073741823 : Int32)) - (4 : Int32))
            have f914 : ((p1 &&& (1073741823 : Int32)) - (4 : Int32)).toInt = (p1 &&& (1073741823 : Int32)).toInt - (4 : Int32).toInt := by have h := c_isub (p1 &&& (1073741823 : Int32)) (4 : Int32); omega
            have f915 : (2 : Int32).toInt = 2 := rfl
            have f916 := rng32 ((p6.toUInt32 >>> ((2 : Int32) &&& 31).toUInt32).toInt32)
            have f917 : ((p6.toUInt32 >>> ((2 : Int32) &&& 31).toUInt32).toInt32).toInt = (p6.toInt % 4294967296) / 4 := c_iushr p6 (2 : Int32) 2 (by decide) (by decide)
            have f918 : (1023 : Int32).toInt = 1023 := rfl
            have f919 := rng32 (((p6.toUInt32 >>> ((2 : Int32) &&& 31).toUInt32).toInt32) &&& (1023 : Int32))
            have f920 : (((p6.toUInt32 >>> ((2 : Int32) &&& 31).toUInt32).toInt32) &&& (1023 : Int32)).toInt = ((p6.toUInt32 >>> ((2 : Int32) &&& 31).toUInt32).toInt32).toInt % 1024 := c_mask ((p6.toUInt32 >>> ((2 : Int32) &&& 31).toUInt32).toInt32) (1023 : Int32) 10 (by decide) (by decide)
            have f921 := rng32 (((p1 &&& (1073741823 : Int32)) - (4 : Int32)) + (((p6.toUInt32 >>> ((2 : Int32) &&& 31).toUInt32).toInt32) &&& (1023 : Int32)))
            have f922 : (((p1 &&& (1073741823 : Int32)) - (4 : Int32)) + (((p6.toUInt32 >>> ((2 : Int32) &&& 31).toUInt32).toInt32) &&& (1023 : Int32))).toInt = ((p1 &&& (1073741823 : Int32)) - (4 : Int32)).toInt + (((p6.toUInt32 >>> ((2 : Int32) &&& 31).toUInt32).toInt32) &&& (1023 : Int32)).toInt := by have h := c_iadd ((p1 &&& (1073741823 : Int32)) - (4 : Int32)) (((p6.toUInt32 >>> ((2 : Int32) &&& 31).toUInt32).toInt32) &&& (1023 : Int32)); omega
            have f923 : (1 : Int32).toInt = 1 := rfl
            have f924 := rng32 ((p1 &&& (1073741823 : Int32)) + (1 : Int32))
            have f925 : ((p1 &&& (1073741823 : Int32)) + (1 : Int32)).toInt = (p1 &&& (1073741823 : Int32)).toInt + (1 : Int32).toInt := by have h := c_iadd (p1 &&& (1073741823 : Int32)) (1 : Int32); omega
            have f926 := rng32 p2
            have f927 : (255 : Int32).toInt = 255 := rfl
            have f928 := rng32 (p2 &&& (255 : Int32))
            have f929 : (p2 &&& (255 : Int32)).toInt = p2.toInt % 256 := c_mask p2 (255 : Int32) 8 (by decide) (by decide)
            have f930 := rng32 (((p1 &&& (1073741823 : Int32)) + (1 : Int32)) + (p2 &&& (255 : Int32)))
            have f931 : (((p1 &&& (1073741823 : Int32)) + (1 : Int32)) + (p2 &&& (255 : Int32))).toInt = ((p1 &&& (1073741823 : Int32)) + (1 : Int32)).toInt + (p2 &&& (255 : Int32)).toInt := by have h := c_iadd ((p1 &&& (1073741823 : Int32)) + (1 : Int32)) (p2 &&& (255 : Int32)); omega
            have f932 := rng32 ((((p1 &&& (1073741823 : Int32)) + (1 : Int32)) + (p2 &&& (255 : Int32))) + (1 : Int32))
            have f933 : ((((p1 &&& (1073741823 : Int32)) + (1 : Int32)) + (p2 &&& (255 : Int32))) + (1 : Int32)).toInt = (((p1 &&& (1073741823 : Int32)) + (1 : Int32)) + (p2 &&& (255 : Int32))).toInt + (1 : Int32).toInt := by have h := c_iadd (((p1 &&& (1073741823 : Int32)) + (1 : Int32)) + (p2 &&& (255 : Int32))) (1 : Int32); omega
            have f934 : (8 : Int32).toInt = 8 := rfl
            have f935 := rng32 ((p2.toUInt32 >>> ((8 : Int32) &&& 31).toUInt32).toInt32)
            have f936 : ((p2.toUInt32 >>> ((8 : Int32) &&& 31).toUInt32).toInt32).toInt = (p2.toInt % 4294967296) / 256 := c_iushr p2 (8 : Int32) 8 (by decide) (by decide)
            have f937 := rng32 (((p2.toUInt32 >>> ((8 : Int32) &&& 31).toUInt32).toInt32) &&& (255 : Int32))
            have f938 : (((p2.toUInt32 >>> ((8 : Int32) &&& 31).toUInt32).toInt32) &&& (255 : Int32)).toInt = ((p2.toUInt32 >>> ((8 : Int32) &&& 31).toUInt32).toInt32).toInt % 256 := c_mask ((p2.toUInt32 >>> ((8 : Int32) &&& 31).toUInt32).toInt32) (255 : Int32) 8 (by decide) (by decide)
            have f939 := rng32 (((((p1 &&& (1073741823 : Int32)) + (1 : Int32)) + (p2 &&& (255 : Int32))) + (1 : Int32)) + (((p2.toUInt32 >>> ((8 : Int32) &&& 31).toUInt32).toInt32) &&& (255 : Int32)))
            have f940 : (((((p1 &&& (1073741823 : Int32)) + (1 : Int32)) + (p2 &&& (255 : Int32))) + (1 : Int32)) + (((p2.toUInt32 >>> ((8 : Int32) &&& 31).toUInt32).toInt32) &&& (255 : Int32))).toInt = ((((p1 &&& (1073741823 : Int32)) + (1 : Int32)) + (p2 &&& (255 : Int32))) + (1 : Int32)).toInt + (((p2.toUInt32 >>> ((8 : Int32) &&& 31).toUInt32).toInt32) &&& (255 : Int32)).toInt := by have h := c_iadd ((((p1 &&& (1073741823 : Int32)) + (1 : Int32)) + (p2 &&& (255 : Int32))) + (1 : Int32)) (((p2.toUInt32 >>> ((8 : Int32) &&& 31).toUInt32).toInt32) &&& (255 : Int32)); omega
            have g941 := hs1
            rw [← Int32.toInt_inj] at g941
            have g942 := hc478
            rw [← Int32.toInt_inj] at g942
            have g943 := hc817
            rw [← Int32.toInt_inj] at g943
            have g944 := hc818
            rw [← Int32.toInt_inj] at g944
            have g945 := ha860_0
            rw [Int32.lt_iff_toInt_lt] at g945
            have g946 := ha860_1
            rw [Int32.lt_iff_toInt_lt] at g946
            have g947 := ha860_2
            rw [Int32.lt_iff_toInt_lt] at g947
            omega
          · exfalso
            have f948 := rng32 p6
            have f949 : (3 : Int32).toInt = 3 := rfl
            have f950 := rng32 (p6 &&& (3 : Int32))
            have f951 : (p6 &&& (3 : Int32)).toInt = p6.toInt % 4 := c_mask p6 (3 : Int32) 2 (by decide) (by decide)
            have f952 := rng32 p1
            have f953 : (1073741823 : Int32).toInt = 1073741823 := rfl
            have f954 := rng32 (p1 &&& (1073741823 : Int32))
            have f955 : (p1 &&& (1073741823 : Int32)).toInt = p1.toInt % 1073741824 := c_mask p1 (1073741823 : Int32) 30 (by decide) (by decide)
            have f956 : (4 : Int32).toInt = 4 := rfl
            have f957 := rng32 ((p1 &&& (1073741823 : Int32)) - (4 : Int32))
            have f958 : ((p1 &&& (1073741823 : Int32)) - (4 : Int32)).toInt = (p1 &&& (1073741823 : Int32)).toInt - (4 : Int32).toInt := by have h := c_isub (p1 &&& (1073741823 : Int32)) (4 : Int32); omega
            have f959 : (2 : Int32).toInt = 2 := rfl
            have f960 := rng32 ((p6.toUInt32 >>> ((2 : Int32) &&& 31).toUInt32).toInt32)
            have f961 : ((p6.toUInt32 >>> ((2 : Int32) &&& 31).toUInt32).toInt32).toInt = (p6.toInt % 4294967296) / 4 := c_iushr p6 (2 : Int32) 2 (by decide) (by decide)
            have f962 : (1023 : Int32).toInt = 1023 := rfl
            have f963 := rng32 (((p6.toUInt32 >>> ((2 : Int32) &&& 31).toUInt32).toInt32) &&& (1023 : Int32))
            have f964 : (((p6.toUInt32 >>> ((2 : Int32) &&& 31).toUInt32).toInt32) &&& (1023 : Int32)).toInt = ((p6.toUInt32 >>> ((2 : Int32) &&& 31).toUInt32).toInt32).toInt % 1024 := c_mask ((p6.toUInt32 >>> ((2 : Int32) &&& 31).toUInt32).toInt32) (1023 : Int32) 10 (by decide) (by decide)
            have f965 := rng32 (((p1 &&& (1073741823 : Int32)) - (4 : Int32)) + (((p6.toUInt32 >>> ((2 : Int32) &&& 31).toUInt32).toInt32) &&& (1023 : Int32)))
            have f966 : (((p1 &&& (1073741823 : Int32)) - (4 : Int32)) + (((p6.toUInt32 >>> ((2 : Int32) &&& 31).toUInt32).toInt32) &&& (1023 : Int32))).toInt = ((p1 &&& (1073741823 : Int32)) - (4 : Int32)).toInt + (((p6.toUInt32 >>> ((2 : Int32) &&& 31).toUInt32).toInt32) &&& (1023 : Int32)).toInt := by have h := c_iadd ((p1 &&& (1073741823 : Int32)) - (4 : Int32)) (((p6.toUInt32 >>> ((2 : Int32) &&& 31).toUInt32).toInt32) &&& (1023 : Int32)); omega
            have f967 : (1 : Int32).toInt = 1 := rfl
            have f968 := rng32 ((p1 &&& (1073741823 : Int32)) + (1 : Int32))
            have f969 : ((p1 &&& (1073741823 : Int32)) + (1 : Int32)).toInt = (p1 &&& (1073741823 : Int32)).toInt + (1 : Int32).toInt := by have h := c_iadd (p1 &&& (1073741823 : Int32)) (1 : Int32); omega
            have f970 := rng32 p2
            have f971 : (255 : Int32).toInt = 255 := rfl
            have f972 := rng32 (p2 &&& (255 : Int32))
            have f973 : (p2 &&& (255 : Int32)).toInt = p2.toInt % 256 := c_mask p2 (255 : Int32) 8 (by decide) (by decide)
            have f974 := rng32 (((p1 &&& (1073741823 : Int32)) + (1 : Int32)) + (p2 &&& (255 : Int32)))
            have f975 : (((p1 &&& (1073741823 : Int32)) + (1 : Int32)) + (p2 &&& (255 : Int32))).toInt = ((p1 &&& (1073741823 : Int32)) + (1 : Int32)).toInt + (p2 &&& (255 : Int32)).toInt := by have h := c_iadd ((p1 &&& (1073741823 : Int32)) + (1 : Int32)) (p2 &&& (255 : Int32)); omega
            have f976 := rng32 ((((p1 &&& (1073741823 : Int32)) + (1 : Int32)) + (p2 &&& (255 : Int32))) + (1 : Int32))
            have f977 : ((((p1 &&& (1073741823 : Int32)) + (1 : Int32)) + (p2 &&& (255 : Int32))) + (1 : Int32)).toInt = (((p1 &&& (1073741823 : Int32)) + (1 : Int32)) + (p2 &&& (255 : Int32))).toInt + (1 : Int32).toInt := by have h := c_iadd (((p1 &&& (1073741823 : Int32)) + (1 : Int32)) + (p2 &&& (255 : Int32))) (1 : Int32); omega
            have f978 : (8 : Int32).toInt = 8 := rfl
            have f979 := rng32 ((p2.toUInt32 >>> ((8 : Int32) &&& 31).toUInt32).toInt32)
            have f980 : ((p2.toUInt32 >>> ((8 : Int32) &&& 31).toUInt32).toInt32).toInt = (p2.toInt % 4294967296) / 256 := c_iushr p2 (8 : Int32) 8 (by decide) (by decide)
            have f981 := rng32 (((p2.toUInt32 >>> ((8 : Int32) &&& 31).toUInt32).toInt32) &&& (255 : Int32))
            have f982 : (((p2.toUInt32 >>> ((8 : Int32) &&& 31).toUInt32).toInt32) &&& (255 : Int32)).toInt = ((p2.toUInt32 >>> ((8 : Int32) &&& 31).toUInt32).toInt32).toInt % 256 := c_mask ((p2.toUInt32 >>> ((8 : Int32) &&& 31).toUInt32).toInt32) (255 : Int32) 8 (by decide) (by decide)
            have f983 := rng32 (((((p1 &&& (1073741823 : Int32)) + (1 : Int32)) + (p2 &&& (255 : Int32))) + (1 : Int32)) + (((p2.toUInt32 >>> ((8 : Int32) &&& 31).toUInt32).toInt32) &&& (255 : Int32)))
            have f984 : (((((p1 &&& (1073741823 : Int32)) + (1 : Int32)) + (p2 &&& (255 : Int32))) + (1 : Int32)) + (((p2.toUInt32 >>> ((8 : Int32) &&& 31).toUInt32).toInt32) &&& (255 : Int32))).toInt = ((((p1 &&& (1073741823 : Int32)) + (1 : Int32)) + (p2 &&& (255 : Int32))) + (1 : Int32)).toInt + (((p2.toUInt32 >>> ((8 : Int32) &&& 31).toUInt32).toInt32) &&& (255 : Int32)).toInt := by have h := c_iadd ((((p1 &&& (1073741823 : Int32)) + (1 : Int32)) + (p2 &&& (255 : Int32))) + (1 : Int32)) (((p2.toUInt32 >>> ((8 : Int32) &&& 31).toUInt32).toInt32) &&& (255 : Int32)); omega
            have g985 := hs1
            rw [← Int32.toInt_inj] at g985
            have g986 := hc478
            rw [← Int32.toInt_inj] at g986
            have g987 := hc817
            rw [← Int32.toInt_inj] at g987
            have g988 := hc818
            rw [← Int32.toInt_inj] at g988
            have g989 := ha860_0
            rw [Int32.lt_iff_toInt_lt] at g989
            have g990 := ha860_1
            rw [Int32.lt_iff_toInt_lt] at g990
            have g991 := ha860_2
            rw [Int32.lt_iff_toInt_lt] at g991
            omega
          · exfalso
            have f992 := rng32 p6
            have f993 : (3 : Int32).toInt = 3 := rfl
            have f994 := rng32 (p6 &&& (3 : Int32))
            have f995 : (p6 &&& (3 : Int32)).toInt = p6.toInt % 4 := c_mask p6 (3 : Int32) 2 (by decide) (by decide)
            have f996 := rng32 p1
            have f997 : (1073741823 : Int32).toInt = 1073741823 := rfl
            have f998 := rng32 (p1 &&& (1073741823 : Int32))
            have f999 : (p1 &&& (1073741823 : Int32)).toInt = p1.toInt % 1073741824 := c_mask p1 (1073741823 : Int32) 30 (by decide) (by decide)
            have f1000 : (4 : Int32).toInt = 4 := rfl
            have f1001 := rng32 ((p1 &&& (1073741823 : Int32)) - (4 : Int32))
            have f1002 : ((p1 &&& (1073741823 : Int32)) - (4 : Int32)).toInt = (p1 &&& (1073741823 : Int32)).toInt - (4 : Int32).toInt := by have h := c_isub (p1 &&& (1073741823 : Int32)) (4 : Int32); omega
            have f1003 : (2 : Int32).toInt = 2 := rfl
            have f1004 := rng32 ((p6.toUInt32 >>> ((2 : Int32) &&& 31).toUInt32).toInt32)
            have f1005 : ((p6.toUInt32 >>> ((2 : Int32) &&& 31).toUInt32).toInt32).toInt = (p6.toInt % 4294967296) / 4 := c_iushr p6 (2 : Int32) 2 (by decide) (by decide)
            have f1006 : (1023 : Int32).toInt = 1023 := rfl
            have f1007 := rng32 (((p6.toUInt32 >>> ((2 : Int32) &&& 31).toUInt32).toInt32) &&& (1023 : Int32))
            have f1008 : (((p6.toUInt32 >>> ((2 : Int32) &&& 31).toUInt32).toInt32) &&& (1023 : Int32)).toInt = ((p6.toUInt32 >>> ((2 : Int32) &&& 31).toUInt32).toInt32).toInt % 1024 := c_mask ((p6.toUInt32 >>> ((2 : Int32) &&& 31).toUInt32).toInt32) (1023 : Int32) 10 (by decide) (by decide)
            have f1009 := rng32 (((p1 &&& (1073741823 : Int32)) - (4 : Int32)) + (((p6.toUInt32 >>> ((2 : Int32) &&& 31).toUInt32).toInt32) &&& (1023 : Int32)))
            have f1010 : (((p1 &&& (1073741823 : Int32)) - (4 : Int32)) + (((p6.toUInt32 >>> ((2 : Int32) &&& 31).toUInt32).toInt32) &&& (1023 : Int32))).toInt = ((p1 &&& (1073741823 : Int32)) - (4 : Int32)).toInt + (((p6.toUInt32 >>> ((2 : Int32) &&& 31).toUInt32).toInt32) &&& (1023 : Int32)).toInt := by have h := c_iadd ((p1 &&& (1073741823 : Int32)) - (4 : Int32)) (((p6.toUInt32 >>> ((2 : Int32) &&& 31).toUInt32).toInt32) &&& (1023 : Int32)); omega
            have f1011 : (1 : Int32).toInt = 1 := rfl
            have f1012 := rng32 ((p1 &&& (1073741823 : Int32)) + (1 : Int32))
            have f1013 : ((p1 &&& (1073741823 : Int32)) + (1 : Int32)).toInt = (p1 &&& (1073741823 : Int32)).toInt + (1 : Int32).toInt := by have h := c_iadd (p1 &&& (1073741823 : Int32)) (1 : Int32); omega
            have f1014 := rng32 p2
            have f1015 : (255 : Int32).toInt = 255 := rfl
            have f1016 := rng32 (p2 &&& (255 : Int32))
            have f1017 : (p2 &&& (255 : Int32)).toInt = p2.toInt % 256 := c_mask p2 (255 : Int32) 8 (by decide) (by decide)
            have f1018 := rng32 (((p1 &&& (1073741823 : Int32)) + (1 : Int32)) + (p2 &&& (255 : Int32)))
            have f1019 : (((p1 &&& (1073741823 : Int32)) + (1 : Int32)) + (p2 &&& (255 : Int32))).toInt = ((p1 &&& (1073741823 : Int32)) + (1 : Int32)).toInt + (p2 &&& (255 : Int32)).toInt := by have h := c_iadd ((p1 &&& (1073741823 : Int32)) + (1 : Int32)) (p2 &&& (255 : Int32)); omega
            have f1020 := rng32 ((((p1 &&& (1073741823 : Int32)) + (1 : Int32)) + (p2 &&& (255 : Int32))) + (1 : Int32))
            have f1021 : ((((p1 &&& (1073741823 : Int32)) + (1 : Int32)) + (p2 &&& (255 : Int32))) + (1 : Int32)).toInt = (((p1 &&& (1073741823 : Int32)) + (1 : Int32)) + (p2 &&& (255 : Int32))).toInt + (1 : Int32).toInt := by have h := c_iadd (((p1 &&& (1073741823 : Int32)) + (1 : Int32)) + (p2 &&& (255 : Int32))) (1 : Int32); omega
            have f1022 : (8 : Int32).toInt = 8 := rfl
            have f1023 := rng32 ((p2.toUInt32 >>> ((8 : Int32) &&& 31).toUInt32).toInt32)
            have f1024 : ((p2.toUInt32 >>> ((8 : Int32) &&& 31).toUInt32).toInt32).toInt = (p2.toInt % 4294967296) / 256 := c_iushr p2 (8 : Int32) 8 (by decide) (by decide)
            have f1025 := rng32 (((p2.toUInt32 >>> ((8 : Int32) &&& 31).toUInt32).toInt32) &&& (255 : Int32))
            have f1026 : (((p2.toUInt32 >>> ((8 : Int32) &&& 31).toUInt32).toInt32) &&& (255 : Int32)).toInt = ((p2.toUInt32 >>> ((8 : Int32) &&& 31).toUInt32).toInt32).toInt % 256 := c_mask ((p2.toUInt32 >>> ((8 : Int32) &&& 31).toUInt32).toInt32) (255 : Int32) 8 (by decide) (by decide)
            have f1027 := rng32 (((((p1 &&& (1073741823 : Int32)) + (1 : Int32)) + (p2 &&& (255 : Int32))) + (1 : Int32)) + (((p2.toUInt32 >>> ((8 : Int32) &&& 31).toUInt32).toInt32) &&& (255 : Int32)))
            have f1028 : (((((p1 &&& (1073741823 : Int32)) + (1 : Int32)) + (p2 &&& (255 : Int32))) + (1 : Int32)) + (((p2.toUInt32 >>> ((8 : Int32) &&& 31).toUInt32).toInt32) &&& (255 : Int32))).toInt = ((((p1 &&& (1073741823 : Int32)) + (1 : Int32)) + (p2 &&& (255 : Int32))) + (1 : Int32)).toInt + (((p2.toUInt32 >>> ((8 : Int32) &&& 31).toUInt32).toInt32) &&& (255 : Int32)).toInt := by have h := c_iadd ((((p1 &&& (1073741823 : Int32)) + (1 : Int32)) + (p2 &&& (255 : Int32))) + (1 : Int32)) (((p2.toUInt32 >>> ((8 : Int32) &&& 31).toUInt32).toInt32) &&& (255 : Int32)); omega
            have g1029 := hs1
            rw [← Int32.toInt_inj] at g1029
            have g1030 := hc478
            rw [← Int32.toInt_inj] at g1030
            have g1031 := hc817
            rw [← Int32.toInt_inj] at g1031
            have g1032 := hc818
            rw [← Int32.toInt_inj] at g1032
            have g1033 := ha860_0
            rw [Int32.lt_iff_toInt_lt] at g1033
            have g1034 := ha860_1
            rw [Int32.lt_iff_toInt_lt] at g1034
            have g1035 := ha860_2
            rw [Int32.lt_iff_toInt_lt] at g1035
            omega
          · exfalso
            have f1036 := rng32 p6
            have f1037 : (3 : Int32).toInt = 3 := rfl
            have f1038 := rng32 (p6 &&& (3 : Int32))
            have f1039 : (p6 &&& (3 : Int32)).toInt = p6.toInt % 4 := c_mask p6 (3 : Int32) 2 (by decide) (by decide)
            have f1040 := rng32 p1
            have f1041 : (1073741823 : Int32).toInt = 1073741823 := rfl
            have f1042 := rng32 (p1 &&& (1073741823 : Int32))
            have f1043 : (p1 &&& (1073741823 : Int32)).toInt = p1.toInt % 1073741824 := c_mask p1 (1073741823 : Int32) 30 (by decide) (by decide)
            have f1044 : (4 : Int32).toInt = 4 := rfl
            have f1045 := rng32 ((p1 &&& (1073741823 : Int32)) - (4 : Int32))
            have f1046 : ((p1 &&& (1073741823 : Int32)) - (4 : Int32)).toInt = (p1 &&& (1073741823 : Int32)).toInt - (4 : Int32).toInt := by have h := c_isub (p1 &&& (1073741823 : Int32)) (4 : Int32); omega
            have f1047 : (2 : Int32).toInt = 2 := rfl
            have f1048 := rng32 ((p6.toUInt32 >>> ((2 : Int32) &&& 31).toUInt32).toInt32)
            have f1049 : ((p6.toUInt32 >>> ((2 : Int32) &&& 31).toUInt32).toInt32).toInt = (p6.toInt % 4294967296) / 4 := c_iushr p6 (2 : Int32) 2 (by decide) (by decide)
            have f1050 : (1023 : Int32).toInt = 1023 := rfl
            have f1051 := rng32 (((p6.toUInt32 >>> ((2 : Int32) &&& 31).toUInt32).toInt32) &&& (1023 : Int32))
            have f1052 : (((p6.toUInt32 >>> ((2 : Int32) &&& 31).toUInt32).toInt32) &&& (1023 : Int32)).toInt = ((p6.toUInt32 >>> ((2 : Int32) &&& 31).toUInt32).toInt32).toInt % 1024 := c_mask ((p6.toUInt32 >>> ((2 : Int32) &&& 31).toUInt32).toInt32) (1023 : Int32) 10 (by decide) (by decide)
            have f1053 := rng32 (((p1 &&& (1073741823 : Int32)) - (4 : Int32)) + (((p6.toUInt32 >>> ((2 : Int32) &&& 31).toUInt32).toInt32) &&& (1023 : Int32)))
            have f1054 : (((p1 &&& (1073741823 : Int32)) - (4 : Int32)) + (((p6.toUInt32 >>> ((2 : Int32) &&& 31).toUInt32).toInt32) &&& (1023 : Int32))).toInt = ((p1 &&& (1073741823 : Int32)) - (4 : Int32)).toInt + (((p6.toUInt32 >>> ((2 : Int32) &&& 31).toUInt32).toInt32) &&& (1023 : Int32)).toInt := by have h := c_iadd ((p1 &&& (1073741823 : Int32)) - (4 : Int32)) (((p6.toUInt32 >>> ((2 : Int32) &&& 31).toUInt32).toInt32) &&& (1023 : Int32)); omega
            have f1055 : (1 : Int32).toInt = 1 := rfl
            have f1056 := rng32 ((p1 &&& (1073741823 : Int32)) + (1 : Int32))
            have f1057 : ((p1 &&& (1073741823 : Int32)) + (1 : Int32)).toInt = (p1 &&& (1073741823 : Int32)).toInt + (1 : Int32).toInt := by have h := c_iadd (p1 &&& (1073741823 : Int32)) (1 : Int32); omega
            have f1058 := rng32 p2
            have f1059 : (255 : Int32).toInt = 255 := rfl
            have f1060 := rng32 (p2 &&& (255 : Int32))
            have f1061 : (p2 &&& (255 : Int32)).toInt = p2.toInt % 256 := c_mask p2 (255 : Int32) 8 (by decide) (by decide)
            have f1062 := rng32 (((p1 &&& (1073741823 : Int32)) + (1 : Int32)) + (p2 &&& (255 : Int32)))
            have f1063 : (((p1 &&& (1073741823 : Int32)) + (1 : Int32)) + (p2 &&& (255 : Int32))).toInt = ((p1 &&& (1073741823 : Int32)) + (1 : Int32)).toInt + (p2 &&& (255 : Int32)).toInt := by have h := c_iadd ((p1 &&& (1073741823 : Int32)) + (1 : Int32)) (p2 &&& (255 : Int32)); omega
            have f1064 := rng32 ((((p1 &&& (1073741823 : Int32)) + (1 : Int32)) + (p2 &&& (255 : Int32))) + (1 : Int32))
            have f1065 : ((((p1 &&& (1073741823 : Int32)) + (1 : Int32)) + (p2 &&& (255 : Int32))) + (1 : Int32)).toInt = (((p1 &&& (1073741823 : Int32)) + (1 : Int32)) + (p2 &&& (255 : Int32))).toInt + (1 : Int32).toInt := by have h := c_iadd (((p1 &&& (1073741823 : Int32)) + (1 : Int32)) + (p2 &&& (255 : Int32))) (1 : Int32); omega
            have f1066 : (8 : Int32).toInt = 8 := rfl
            have f1067 := rng32 ((p2.toUInt32 >>> ((8 : Int32) &&& 31).toUInt32).toInt32)
            have f1068 : ((p2.toUInt32 >>> ((8 : Int32) &&& 31).toUInt32).toInt32).toInt = (p2.toInt % 4294967296) / 256 := c_iushr p2 (8 : Int32) 8 (by decide) (by decide)
            have f1069 := rng32 (((p2.toUInt32 >>> ((8 : Int32) &&& 31).toUInt32).toInt32) &&& (255 : Int32))
            have f1070 : (((p2.toUInt32 >>> ((8 : Int32) &&& 31).toUInt32).toInt32) &&& (255 : Int32)).toInt = ((p2.toUInt32 >>> ((8 : Int32) &&& 31).toUInt32).toInt32).toInt % 256 := c_mask ((p2.toUInt32 >>> ((8 : Int32) &&& 31).toUInt32).toInt32) (255 : Int32) 8 (by decide) (by decide)
            have f1071 := rng32 (((((p1 &&& (1073741823 : Int32)) + (1 : Int32)) + (p2 &&& (255 : Int32))) + (1 : Int32)) + (((p2.toUInt32 >>> ((8 : Int32) &&& 31).toUInt32).toInt32) &&& (255 : Int32)))
            have f1072 : (((((p1 &&& (1073741823 : Int32)) + (1 : Int32)) + (p2 &&& (255 : Int32))) + (1 : Int32)) + (((p2.toUInt32 >>> ((8 : Int32) &&& 31).toUInt32).toInt32) &&& (255 : Int32))).toInt = ((((p1 &&& (1073741823 : Int32)) + (1 : Int32)) + (p2 &&& (255 : Int32))) + (1 : Int32)).toInt + (((p2.toUInt32 >>> ((8 : Int32) &&& 31).toUInt32).toInt32) &&& (255 : Int32)).toInt := by have h := c_iadd ((((p1 &&& (1073741823 : Int32)) + (1 : Int32)) + (p2 &&& (255 : Int32))) + (1 : Int32)) (((p2.toUInt32 >>> ((8 : Int32) &&& 31).toUInt32).toInt32) &&& (255 : Int32)); omega
            have g1073 := hs1
            rw [← Int32.toInt_inj] at g1073
            have g1074 := hc478
            rw [← Int32.toInt_inj] at g1074
            have g1075 := hc817
            rw [← Int32.toInt_inj] at g1075
            have g1076 := hc818
            rw [← Int32.toInt_inj] at g1076
            have g1077 := ha860_0
            rw [Int32.lt_iff_toInt_lt] at g1077
            have g1078 := ha860_1
            rw [Int32.lt_iff_toInt_lt] at g1078
            have g1079 := ha860_2
            rw [Int32.lt_iff_toInt_lt] at g1079
            have g1080 := ha860_3
            rw [Int32.lt_iff_toInt_lt] at g1080
            omega
          · exfalso
            have f1081 := rng32 p6
            have f1082 : (3 : Int32).toInt = 3 := rfl
            have f1083 := rng32 (p6 &&& (3 : Int32))
            have f1084 : (p6 &&& (3 : Int32)).toInt = p6.toInt % 4 := c_mask p6 (3 : Int32) 2 (by decide) (by decide)
            have f1085 := rng32 p1
            have f1086 : (1073741823 : Int32).toInt = 1073741823 := rfl
            have f1087 := rng32 (p1 &&& (1073741823 : Int32))
            have f1088 : (p1 &&& (1073741823 : Int32)).toInt = p1.toInt % 1073741824 := c_mask p1 (1073741823 : Int32) 30 (by decide) (by decide)
            have f1089 : (4 : Int32).toInt = 4 := rfl
            have f1090 := rng32 ((p1 &&& (1073741823 : Int32)) - (4 : Int32))
            have f1091 : ((p1 &&& (1073741823 : Int32)) - (4 : Int32)).toInt = (p1 &&& (1073741823 : Int32)).toInt - (4 : Int32).toInt := by have h := c_isub (p1 &&& (1073741823 : Int32)) (4 : Int32); omega
            have f1092 : (2 : Int32).toInt = 2 := rfl
            have f1093 := rng32 ((p6.toUInt32 >>> ((2 : Int32) &&& 31).toUInt32).toInt32)
            have f1094 : ((p6.toUInt32 >>> ((2 : Int32) &&& 31).toUInt32).toInt32).toInt = (p6.toInt % 4294967296) / 4 := c_iushr p6 (2 : Int32) 2 (by decide) (by decide)
            have f1095 : (1023 : Int32).toInt = 1023 := rfl
            have f1096 := rng32 (((p6.toUInt32 >>> ((2 : Int32) &&& 31).toUInt32).toInt32) &&& (1023 : Int32))
            have f1097 : (((p6.toUInt32 >>> ((2 : Int32) &&& 31).toUInt32).toInt32) &&& (1023 : Int32)).toInt = ((p6.toUInt32 >>> ((2 : Int32) &&& 31).toUInt32).toInt32).toInt % 1024 := c_mask ((p6.toUInt32 >>> ((2 : Int32) &&& 31).toUInt32).toInt32) (1023 : Int32) 10 (by decide) (by decide)
            have f1098 := rng32 (((p1 &&& (1073741823 : Int32)) - (4 : Int32)) + (((p6.toUInt32 >>> ((2 : Int32) &&& 31).toUInt32).toInt32) &&& (1023 : Int32)))
            have f1099 : (((p1 &&& (1073741823 : Int32)) - (4 : Int32)) + (((p6.toUInt32 >>> ((2 : Int32) &&& 31).toUInt32).toInt32) &&& (1023 : Int32))).toInt = ((p1 &&& (1073741823 : Int32)) - (4 : Int32)).toInt + (((p6.toUInt32 >>> ((2 : Int32) &&& 31).toUInt32).toInt32) &&& (1023 : Int32)).toInt := by have h := c_iadd ((p1 &&& (1073741823 : Int32)) - (4 : Int32)) (((p6.toUInt32 >>> ((2 : Int32) &&& 31).toUInt32).toInt32) &&& (1023 : Int32)); omega
            have f1100 : (1 : Int32).toInt = 1 := rfl
            have f1101 := rng32 ((p1 &&& (1073741823 : Int32)) + (1 : Int32))
            have f1102 : ((p1 &&& (1073741823 : Int32)) + (1 : Int32)).toInt = (p1 &&& (1073741823 : Int32)).toInt + (1 : Int32).toInt := by have h := c_iadd (p1 &&& (1073741823 : Int32)) (1 : Int32); omega
            have f1103 := rng32 p2
            have f1104 : (255 : Int32).toInt = 255 := rfl
            have f1105 := rng32 (p2 &&& (255 : Int32))
            have f1106 : (p2 &&& (255 : Int32)).toInt = p2.toInt % 256 := c_mask p2 (255 : Int32) 8 (by decide) (by decide)
            have f1107 := rng32 (((p1 &&& (1073741823 : Int32)) + (1 : Int32)) + (p2 &&& (255 : Int32)))
            have f1108 : (((p1 &&& (1073741823 : Int32)) + (1 : Int32)) + (p2 &&& (255 : Int32))).toInt = ((p1 &&& (1073741823 : Int32)) + (1 : Int32)).toInt + (p2 &&& (255 : Int32)).toInt := by have h := c_iadd ((p1 &&& (1073741823 : Int32)) + (1 : Int32)) (p2 &&& (255 : Int32)); omega
            have f1109 := rng32 ((((p1 &&& (1073741823 : Int32)) + (1 : Int32)) + (p2 &&& (255 : Int32))) + (1 : Int32))
            have f1110 : ((((p1 &&& (1073741823 : Int32)) + (1 : Int32)) + (p2 &&& (255 : Int32))) + (1 : Int32)).toInt = (((p1 &&& (1073741823 : Int32)) + (1 : Int32)) + (p2 &&& (255 : Int32))).toInt + (1 : Int32).toInt := by have h := c_iadd (((p1 &&& (1073741823 : Int32)) + (1 : Int32)) + (p2 &&& (255 : Int32))) (1 : Int32); omega
            have f1111 : (8 : Int32).toInt = 8 := rfl
            have f1112 := rng32 ((p2.toUInt32 >>> ((8 : Int32) &&& 31).toUInt32).toInt32)
            have f1113 : ((p2.toUInt32 >>> ((8 : Int32) &&& 31).toUInt32).toInt32).toInt = (p2.toInt % 4294967296) / 256 := c_iushr p2 (8 : Int32) 8 (by decide) (by decide)
            have f1114 := rng32 (((p2.toUInt32 >>> ((8 : Int32) &&& 31).toUInt32).toInt32) &&& (255 : Int32))
            have f1115 : (((p2.toUInt32 >>> ((8 : Int32) &&& 31).toUInt32).toInt32) &&& (255 : Int32)).toInt = ((p2.toUInt32 >>> ((8 : Int32) &&& 31).toUInt32).toInt32).toInt % 256 := c_mask ((p2.toUInt32 >>> ((8 : Int32) &&& 31).toUInt32).toInt32) (255 : Int32) 8 (by decide) (by decide)
            have f1116 := rng32 (((((p1 &&& (1073741823 : Int32)) + (1 : Int32)) + (p2 &&& (255 : Int32))) + (1 : Int32)) + (((p2.toUInt32 >>> ((8 : Int32) &&& 31).toUInt32).toInt32) &&& (255 : Int32)))
            have f1117 : (((((p1 &&& (1073741823 : Int32)) + (1 : Int32)) + (p2 &&& (255 : Int32))) + (1 : Int32)) + (((p2.toUInt32 >>> ((8 : Int32) &&& 31).toUInt32).toInt32) &&& (255 : Int32))).toInt = ((((p1 &&& (1073741823 : Int32)) + (1 : Int32)) + (p2 &&& (255 : Int32))) + (1 : Int32)).toInt + (((p2.toUInt32 >>> ((8 : Int32) &&& 31).toUInt32).toInt32) &&& (255 : Int32)).toInt := by have h := c_iadd ((((p1 &&& (1073741823 : Int32)) + (1 : Int32)) + (p2 &&& (255 : Int32))) + (1 : Int32)) (((p2.toUInt32 >>> ((8 : Int32) &&& 31).toUInt32).toInt32) &&& (255 : Int32)); omega
            have g1118 := hs1
            rw [← Int32.toInt_inj] at g1118
            have g1119 := hc478
            rw [← Int32.toInt_inj] at g1119
            have g1120 := hc817
            rw [← Int32.toInt_inj] at g1120
            have g1121 := hc818
            rw [← Int32.toInt_inj] at g1121
            have g1122 := ha860_0
            rw [Int32.lt_iff_toInt_lt] at g1122
            have g1123 := ha860_1
            rw [Int32.lt_iff_toInt_lt] at g1123
            have g1124 := ha860_2
            rw [Int32.lt_iff_toInt_lt] at g1124
            have g1125 := ha860_3
            rw [Int32.lt_iff_toInt_lt] at g1125
            omega
          · refine own_tr st860 ?_
            show own_E p e below _ T860 (mkF m 168 #[iv p1, iv p2, iv p3, iv p4, iv p5, iv p6, iv 3, iv (p1 &&& (1073741823 : Int32)), iv (((p1 &&& (1073741823 : Int32)) + (1 : Int32)) + (p2 &&& (255 : Int32))), iv (((((p1 &&& (1073741823 : Int32)) + (1 : Int32)) + (p2 &&& (255 : Int32))) + (1 : Int32)) + (((p2.toUInt32 >>> ((8 : Int32) &&& 31).toUInt32).toInt32) &&& (255 : Int32))), iv (((p1 &&& (1073741823 : Int32)) - (4 : Int32)) + (((p6.toUInt32 >>> ((2 : Int32) &&& 31).toUInt32).toInt32) &&& (1023 : Int32))), rv b466, iv p4] [.int p4])
            refine own_st (fun t k => XS.iload X860.here hx rfl (hb hby at_168) rfl k) ?_
            show own_E p e below _ T860 (mkF m 170 #[iv p1, iv p2, iv p3, iv p4, iv p5, iv p6, iv 3, iv (p1 &&& (1073741823 : Int32)), iv (((p1 &&& (1073741823 : Int32)) + (1 : Int32)) + (p2 &&& (255 : Int32))), iv (((((p1 &&& (1073741823 : Int32)) + (1 : Int32)) + (p2 &&& (255 : Int32))) + (1 : Int32)) + (((p2.toUInt32 >>> ((8 : Int32) &&& 31).toUInt32).toInt32) &&& (255 : Int32))), iv (((p1 &&& (1073741823 : Int32)) - (4 : Int32)) + (((p6.toUInt32 >>> ((2 : Int32) &&& 31).toUInt32).toInt32) &&& (1023 : Int32))), rv b466, iv p4] [.int p4, .int p4])
            refine own_st (fun t k => XS.icmpNo X860.here hx rfl (hb hby at_170) rfl (teq rfl).2 k) ?_
            show own_E p e below _ T860 (mkF m 173 #[iv p1, iv p2, iv p3, iv p4, iv p5, iv p6, iv 3, iv (p1 &&& (1073741823 : Int32)), iv (((p1 &&& (1073741823 : Int32)) + (1 : Int32)) + (p2 &&& (255 : Int32))), iv (((((p1 &&& (1073741823 : Int32)) + (1 : Int32)) + (p2 &&& (255 : Int32))) + (1 : Int32)) + (((p2.toUInt32 >>> ((8 : Int32) &&& 31).toUInt32).toInt32) &&& (255 : Int32))), iv (((p1 &&& (1073741823 : Int32)) - (4 : Int32)) + (((p6.toUInt32 >>> ((2 : Int32) &&& 31).toUInt32).toInt32) &&& (1023 : Int32))), rv b466, iv p4] [])
            refine own_st (fun t k => XS.iconst X860.here hx rfl (hb hby at_173) k) ?_
            show own_E p e below _ T860 (mkF m 174 #[iv p1, iv p2, iv p3, iv p4, iv p5, iv p6, iv 3, iv (p1 &&& (1073741823 : Int32)), iv (((p1 &&& (1073741823 : Int32)) + (1 : Int32)) + (p2 &&& (255 : Int32))), iv (((((p1 &&& (1073741823 : Int32)) + (1 : Int32)) + (p2 &&& (255 : Int32))) + (1 : Int32)) + (((p2.toUInt32 >>> ((8 : Int32) &&& 31).toUInt32).toInt32) &&& (255 : Int32))), iv (((p1 &&& (1073741823 : Int32)) - (4 : Int32)) + (((p6.toUInt32 >>> ((2 : Int32) &&& 31).toUInt32).toInt32) &&& (1023 : Int32))), rv b466, iv p4] [.int 1])
            refine own_st (fun t k => XS.goto X860.here hx rfl (pc0 := 174) (pc' := 178) rfl (hb hby at_174) (by decide) (by decide) k) ?_
            show own_E p e below _ T860 (mkF m 178 #[iv p1, iv p2, iv p3, iv p4, iv p5, iv p6, iv 3, iv (p1 &&& (1073741823 : Int32)), iv (((p1 &&& (1073741823 : Int32)) + (1 : Int32)) + (p2 &&& (255 : Int32))), iv (((((p1 &&& (1073741823 : Int32)) + (1 : Int32)) + (p2 &&& (255 : Int32))) + (1 : Int32)) + (((p2.toUInt32 >>> ((8 : Int32) &&& 31).toUInt32).toInt32) &&& (255 : Int32))), iv (((p1 &&& (1073741823 : Int32)) - (4 : Int32)) + (((p6.toUInt32 >>> ((2 : Int32) &&& 31).toUInt32).toInt32) &&& (1023 : Int32))), rv b466, iv p4] [.int 1])
            refine own_retS X860 hx Bd.notSynchronized Bd.returns rfl (by decide) (hb hby at_178) (by decide) (by decide) ?_
            exact ⟨rfl, N860⟩
      · refine own_st (fun t k => XS.icmpYes X474.here hx rfl (pc0 := 138) (pc' := 144) rfl (hb hby at_138) rfl (feq hc817).2 (by decide) (by decide) k) ?_
        show own_E p e below _ T474 (mkF m 144 #[iv p1, iv p2, iv p3, iv p4, iv p5, iv p6, iv 3, iv (p1 &&& (1073741823 : Int32)), iv (((p1 &&& (1073741823 : Int32)) + (1 : Int32)) + (p2 &&& (255 : Int32))), iv (((((p1 &&& (1073741823 : Int32)) + (1 : Int32)) + (p2 &&& (255 : Int32))) + (1 : Int32)) + (((p2.toUInt32 >>> ((8 : Int32) &&& 31).toUInt32).toInt32) &&& (255 : Int32))), iv (((p1 &&& (1073741823 : Int32)) - (4 : Int32)) + (((p6.toUInt32 >>> ((2 : Int32) &&& 31).toUInt32).toInt32) &&& (1023 : Int32))), rv b466, iv 0] [])
        refine own_st (fun t k => XS.iload X474.here hx rfl (hb hby at_144) rfl k) ?_
        show own_E p e below _ T474 (mkF m 146 #[iv p1, iv p2, iv p3, iv p4, iv p5, iv p6, iv 3, iv (p1 &&& (1073741823 : Int32)), iv (((p1 &&& (1073741823 : Int32)) + (1 : Int32)) + (p2 &&& (255 : Int32))), iv (((((p1 &&& (1073741823 : Int32)) + (1 : Int32)) + (p2 &&& (255 : Int32))) + (1 : Int32)) + (((p2.toUInt32 >>> ((8 : Int32) &&& 31).toUInt32).toInt32) &&& (255 : Int32))), iv (((p1 &&& (1073741823 : Int32)) - (4 : Int32)) + (((p6.toUInt32 >>> ((2 : Int32) &&& 31).toUInt32).toInt32) &&& (1023 : Int32))), rv b466, iv 0] [.int 3])
        refine own_st (fun t k => XS.iconst X474.here hx rfl (hb hby at_146) k) ?_
        show own_E p e below _ T474 (mkF m 147 #[iv p1, iv p2, iv p3, iv p4, iv p5, iv p6, iv 3, iv (p1 &&& (1073741823 : Int32)), iv (((p1 &&& (1073741823 : Int32)) + (1 : Int32)) + (p2 &&& (255 : Int32))), iv (((((p1 &&& (1073741823 : Int32)) + (1 : Int32)) + (p2 &&& (255 : Int32))) + (1 : Int32)) + (((p2.toUInt32 >>> ((8 : Int32) &&& 31).toUInt32).toInt32) &&& (255 : Int32))), iv (((p1 &&& (1073741823 : Int32)) - (4 : Int32)) + (((p6.toUInt32 >>> ((2 : Int32) &&& 31).toUInt32).toInt32) &&& (1023 : Int32))), rv b466, iv 0] [.int 3, .int 3])
        refine own_st (fun t k => XS.icmpNo X474.here hx rfl (hb hby at_147) rfl (by decide) k) ?_
        show own_E p e below _ T474 (mkF m 150 #[iv p1, iv p2, iv p3, iv p4, iv p5, iv p6, iv 3, iv (p1 &&& (1073741823 : Int32)), iv (((p1 &&& (1073741823 : Int32)) + (1 : Int32)) + (p2 &&& (255 : Int32))), iv (((((p1 &&& (1073741823 : Int32)) + (1 : Int32)) + (p2 &&& (255 : Int32))) + (1 : Int32)) + (((p2.toUInt32 >>> ((8 : Int32) &&& 31).toUInt32).toInt32) &&& (255 : Int32))), iv (((p1 &&& (1073741823 : Int32)) - (4 : Int32)) + (((p6.toUInt32 >>> ((2 : Int32) &&& 31).toUInt32).toInt32) &&& (1023 : Int32))), rv b466, iv 0] [])
        refine own_st (fun t k => XS.iload X474.here hx rfl (hb hby at_150) rfl k) ?_
        show own_E p e below _ T474 (mkF m 152 #[iv p1, iv p2, iv p3, iv p4, iv p5, iv p6, iv 3, iv (p1 &&& (1073741823 : Int32)), iv (((p1 &&& (1073741823 : Int32)) + (1 : Int32)) + (p2 &&& (255 : Int32))), iv (((((p1 &&& (1073741823 : Int32)) + (1 : Int32)) + (p2 &&& (255 : Int32))) + (1 : Int32)) + (((p2.toUInt32 >>> ((8 : Int32) &&& 31).toUInt32).toInt32) &&& (255 : Int32))), iv (((p1 &&& (1073741823 : Int32)) - (4 : Int32)) + (((p6.toUInt32 >>> ((2 : Int32) &&& 31).toUInt32).toInt32) &&& (1023 : Int32))), rv b466, iv 0] [.int (((p1 &&& (1073741823 : Int32)) - (4 : Int32)) + (((p6.toUInt32 >>> ((2 : Int32) &&& 31).toUInt32).toInt32) &&& (1023 : Int32)))])
        refine own_st (fun t k => XS.iload X474.here hx rfl (hb hby at_152) rfl k) ?_
        show own_E p e below _ T474 (mkF m 154 #[iv p1, iv p2, iv p3, iv p4, iv p5, iv p6, iv 3, iv (p1 &&& (1073741823 : Int32)), iv (((p1 &&& (1073741823 : Int32)) + (1 : Int32)) + (p2 &&& (255 : Int32))), iv (((((p1 &&& (1073741823 : Int32)) + (1 : Int32)) + (p2 &&& (255 : Int32))) + (1 : Int32)) + (((p2.toUInt32 >>> ((8 : Int32) &&& 31).toUInt32).toInt32) &&& (255 : Int32))), iv (((p1 &&& (1073741823 : Int32)) - (4 : Int32)) + (((p6.toUInt32 >>> ((2 : Int32) &&& 31).toUInt32).toInt32) &&& (1023 : Int32))), rv b466, iv 0] [.int (((((p1 &&& (1073741823 : Int32)) + (1 : Int32)) + (p2 &&& (255 : Int32))) + (1 : Int32)) + (((p2.toUInt32 >>> ((8 : Int32) &&& 31).toUInt32).toInt32) &&& (255 : Int32))), .int (((p1 &&& (1073741823 : Int32)) - (4 : Int32)) + (((p6.toUInt32 >>> ((2 : Int32) &&& 31).toUInt32).toInt32) &&& (1023 : Int32)))])
        by_cases hc1126 : (((p1 &&& (1073741823 : Int32)) - (4 : Int32)) + (((p6.toUInt32 >>> ((2 : Int32) &&& 31).toUInt32).toInt32) &&& (1023 : Int32))) = (((((p1 &&& (1073741823 : Int32)) + (1 : Int32)) + (p2 &&& (255 : Int32))) + (1 : Int32)) + (((p2.toUInt32 >>> ((8 : Int32) &&& 31).toUInt32).toInt32) &&& (255 : Int32)))
        · refine own_st (fun t k => XS.icmpNo X474.here hx rfl (hb hby at_154) rfl (teq hc1126).2 k) ?_
          show own_E p e below _ T474 (mkF m 157 #[iv p1, iv p2, iv p3, iv p4, iv p5, iv p6, iv 3, iv (p1 &&& (1073741823 : Int32)), iv (((p1 &&& (1073741823 : Int32)) + (1 : Int32)) + (p2 &&& (255 : Int32))), iv (((((p1 &&& (1073741823 : Int32)) + (1 : Int32)) + (p2 &&& (255 : Int32))) + (1 : Int32)) + (((p2.toUInt32 >>> ((8 : Int32) &&& 31).toUInt32).toInt32) &&& (255 : Int32))), iv (((p1 &&& (1073741823 : Int32)) - (4 : Int32)) + (((p6.toUInt32 >>> ((2 : Int32) &&& 31).toUInt32).toInt32) &&& (1023 : Int32))), rv b466, iv 0] [])
          refine own_st (fun t k => XS.iload X474.here hx rfl (hb hby at_157) rfl k) ?_
          show own_E p e below _ T474 (mkF m 159 #[iv p1, iv p2, iv p3, iv p4, iv p5, iv p6, iv 3, iv (p1 &&& (1073741823 : Int32)), iv (((p1 &&& (1073741823 : Int32)) + (1 : Int32)) + (p2 &&& (255 : Int32))), iv (((((p1 &&& (1073741823 : Int32)) + (1 : Int32)) + (p2 &&& (255 : Int32))) + (1 : Int32)) + (((p2.toUInt32 >>> ((8 : Int32) &&& 31).toUInt32).toInt32) &&& (255 : Int32))), iv (((p1 &&& (1073741823 : Int32)) - (4 : Int32)) + (((p6.toUInt32 >>> ((2 : Int32) &&& 31).toUInt32).toInt32) &&& (1023 : Int32))), rv b466, iv 0] [.int p5])
          refine own_st (fun t k => XS.istore X474.here hx rfl (hb hby at_159) rfl (l' := #[iv p1, iv p2, iv p3, iv p4, iv p5, iv p6, iv 3, iv (p1 &&& (1073741823 : Int32)), iv (((p1 &&& (1073741823 : Int32)) + (1 : Int32)) + (p2 &&& (255 : Int32))), iv (((((p1 &&& (1073741823 : Int32)) + (1 : Int32)) + (p2 &&& (255 : Int32))) + (1 : Int32)) + (((p2.toUInt32 >>> ((8 : Int32) &&& 31).toUInt32).toInt32) &&& (255 : Int32))), iv (((p1 &&& (1073741823 : Int32)) - (4 : Int32)) + (((p6.toUInt32 >>> ((2 : Int32) &&& 31).toUInt32).toInt32) &&& (1023 : Int32))), rv b466, iv p5]) rfl k) ?_
          show own_E p e below _ T474 (mkF m 161 #[iv p1, iv p2, iv p3, iv p4, iv p5, iv p6, iv 3, iv (p1 &&& (1073741823 : Int32)), iv (((p1 &&& (1073741823 : Int32)) + (1 : Int32)) + (p2 &&& (255 : Int32))), iv (((((p1 &&& (1073741823 : Int32)) + (1 : Int32)) + (p2 &&& (255 : Int32))) + (1 : Int32)) + (((p2.toUInt32 >>> ((8 : Int32) &&& 31).toUInt32).toInt32) &&& (255 : Int32))), iv (((p1 &&& (1073741823 : Int32)) - (4 : Int32)) + (((p6.toUInt32 >>> ((2 : Int32) &&& 31).toUInt32).toInt32) &&& (1023 : Int32))), rv b466, iv p5] [])
          refine own_st (fun t k => XS.aload X474.here hx rfl (hb hby at_161) rfl rfl k) ?_
          show own_E p e below _ T474 (mkF m 163 #[iv p1, iv p2, iv p3, iv p4, iv p5, iv p6, iv 3, iv (p1 &&& (1073741823 : Int32)), iv (((p1 &&& (1073741823 : Int32)) + (1 : Int32)) + (p2 &&& (255 : Int32))), iv (((((p1 &&& (1073741823 : Int32)) + (1 : Int32)) + (p2 &&& (255 : Int32))) + (1 : Int32)) + (((p2.toUInt32 >>> ((8 : Int32) &&& 31).toUInt32).toInt32) &&& (255 : Int32))), iv (((p1 &&& (1073741823 : Int32)) - (4 : Int32)) + (((p6.toUInt32 >>> ((2 : Int32) &&& 31).toUInt32).toInt32) &&& (1023 : Int32))), rv b466, iv p5] [.ref b466])
          refine own_st (fun t k => XS.iload X474.here hx rfl (hb hby at_163) rfl k) ?_
          show own_E p e below _ T474 (mkF m 165 #[iv p1, iv p2, iv p3, iv p4, iv p5, iv p6, iv 3, iv (p1 &&& (1073741823 : Int32)), iv (((p1 &&& (1073741823 : Int32)) + (1 : Int32)) + (p2 &&& (255 : Int32))), iv (((((p1 &&& (1073741823 : Int32)) + (1 : Int32)) + (p2 &&& (255 : Int32))) + (1 : Int32)) + (((p2.toUInt32 >>> ((8 : Int32) &&& 31).toUInt32).toInt32) &&& (255 : Int32))), iv (((p1 &&& (1073741823 : Int32)) - (4 : Int32)) + (((p6.toUInt32 >>> ((2 : Int32) &&& 31).toUInt32).toInt32) &&& (1023 : Int32))), rv b466, iv p5] [.int (((p1 &&& (1073741823 : Int32)) - (4 : Int32)) + (((p6.toUInt32 >>> ((2 : Int32) &&& 31).toUInt32).toInt32) &&& (1023 : Int32))), .ref b466])
          obtain ⟨cq1127, kq1127, q1127a, q1127b, q1127c⟩ := isOf hZ e474 P474_0
          obtain ⟨_, _, ⟨T1127, L1127, k1127, n1127⟩, -, X1127, ⟨Lc1127, hQ1127, l1127, y1127, z1127⟩, st1127⟩ := X474.virtualBack hx (y := own_y8) (z := own_y8) hown (mvT hZ (own_w hw 43 rfl)) (mvT hZ (own_w hw 44 rfl)) (notFace_of_selects (args := #[]) (mvT hZ (own_w hw 46 rfl))) (mvT hZ (own_w hw 46 rfl)) (mvT hZ (own_w hw 45 rfl)) (by decide) (backOf (W := 0) (own_freq3 l Z a0 hw [] b466 b474_o0 b474_o1 k474_o2 k474_o3 (((p1 &&& (1073741823 : Int32)) - (4 : Int32)) + (((p6.toUInt32 >>> ((2 : Int32) &&& 31).toUInt32).toInt32) &&& (1023 : Int32))) (p1 &&& (1073741823 : Int32)) (((p1 &&& (1073741823 : Int32)) + (1 : Int32)) + (p2 &&& (255 : Int32))) (((((p1 &&& (1073741823 : Int32)) + (1 : Int32)) + (p2 &&& (255 : Int32))) + (1 : Int32)) + (((p2.toUInt32 >>> ((8 : Int32) &&& 31).toUInt32).toInt32) &&& (255 : Int32))) (0 : Int32) p3 p4 p5 (0 : Int32) T474.heap n0 Z477 P474_1 P474_2 P474_5 P474_6 P474_7) hZ (own_w hw 47 rfl) (own_w hw 3 rfl) (by decide) (by decide)) q1127a q1127c (g := (mkF m 165 #[iv p1, iv p2, iv p3, iv p4, iv p5, iv p6, iv 3, iv (p1 &&& (1073741823 : Int32)), iv (((p1 &&& (1073741823 : Int32)) + (1 : Int32)) + (p2 &&& (255 : Int32))), iv (((((p1 &&& (1073741823 : Int32)) + (1 : Int32)) + (p2 &&& (255 : Int32))) + (1 : Int32)) + (((p2.toUInt32 >>> ((8 : Int32) &&& 31).toUInt32).toInt32) &&& (255 : Int32))), iv (((p1 &&& (1073741823 : Int32)) - (4 : Int32)) + (((p6.toUInt32 >>> ((2 : Int32) &&& 31).toUInt32).toInt32) &&& (1023 : Int32))), rv b466, iv p5] [.int (((p1 &&& (1073741823 : Int32)) - (4 : Int32)) + (((p6.toUInt32 >>> ((2 : Int32) &&& 31).toUInt32).toInt32) &&& (1023 : Int32))), .ref b466])) rfl (by rw [hml]; rfl) (Steps.refl _) (argsL := [(.int (((p1 &&& (1073741823 : Int32)) - (4 : Int32)) + (((p6.toUInt32 >>> ((2 : Int32) &&& 31).toUInt32).toInt32) &&& (1023 : Int32))))]) (rest := []) (lenOf own_pd_1 rfl) rfl (by show 2 * 0 + _ ≤ _; exact Nat.le_of_eq rfl) (hb hby at_165) (fun _ _ => ⟨rfl, e474, (by decide : 7 + 0 ≤ _), (by decide : 19 + 0 ≤ _)⟩)
          dsimp only [Pt.U, Pt.locs, Pt.cells, Pt.slots] at X1127 l1127 y1127 z1127 st1127 hQ1127
          subst l1127 y1127 z1127
          obtain ⟨hR1127, e1127, rfl⟩ := hQ1127
          have N1127 := Fr.app N474 (Fr.nil n0)
          rcases hR1127 with ⟨rfl, ha1127_0, ha1127_1⟩ | ⟨rfl, ha1127_0, ha1127_1, ha1127_2⟩ | ⟨rfl, ha1127_0, ha1127_1, ha1127_2⟩ | ⟨rfl, ha1127_0, ha1127_1, ha1127_2⟩ | ⟨rfl, ha1127_0, ha1127_1, ha1127_2, ha1127_3⟩ | ⟨rfl, ha1127_0, ha1127_1, ha1127_2, ha1127_3⟩ | ⟨rfl, ha1127_0, ha1127_1⟩
          · exfalso
            have f1128 := rng32 p6
            have f1129 : (3 : Int32).toInt = 3 := rfl
            have f1130 := rng32 (p6 &&& (3 : Int32))
            have f1131 : (p6 &&& (3 : Int32)).toInt = p6.toInt % 4 := c_mask p6 (3 : Int32) 2 (by decide) (by decide)
            have f1132 := rng32 p1
            have f1133 : (1073741823 : Int32).toInt = 1073741823 := rfl
            have f1134 := rng32 (p1 &&& (1073741823 : Int32))
            have f1135 : (p1 &&& (1073741823 : Int32)).toInt = p1.toInt % 1073741824 := c_mask p1 (1073741823 : Int32) 30 (by decide) (by decide)
            have f1136 : (4 : Int32).toInt = 4 := rfl
            have f1137 := rng32 ((p1 &&& (1073741823 : Int32)) - (4 : Int32))
            have f1138 : ((p1 &&& (1073741823 : Int32)) - (4 : Int32)).toInt = (p1 &&& (1073741823 : Int32)).toInt - (4 : Int32).toInt := by have h := c_isub (p1 &&& (1073741823 : Int32)) (4 : Int32); omega
            have f1139 : (2 : Int32).toInt = 2 := rfl
            have f1140 := rng32 ((p6.toUInt32 >>> ((2 : Int32) &&& 31).toUInt32).toInt32)
            have f1141 : ((p6.toUInt32 >>> ((2 : Int32) &&& 31).toUInt32).toInt32).toInt = (p6.toInt % 4294967296) / 4 := c_iushr p6 (2 : Int32) 2 (by decide) (by decide)
            have f1142 : (1023 : Int32).toInt = 1023 := rfl
            have f1143 := rng32 (((p6.toUInt32 >>> ((2 : Int32) &&& 31).toUInt32).toInt32) &&& (1023 : Int32))
            have f1144 : (((p6.toUInt32 >>> ((2 : Int32) &&& 31).toUInt32).toInt32) &&& (1023 : Int32)).toInt = ((p6.toUInt32 >>> ((2 : Int32) &&& 31).toUInt32).toInt32).toInt % 1024 := c_mask ((p6.toUInt32 >>> ((2 : Int32) &&& 31).toUInt32).toInt32) (1023 : Int32) 10 (by decide) (by decide)
            have f1145 := rng32 (((p1 &&& (1073741823 : Int32)) - (4 : Int32)) + (((p6.toUInt32 >>> ((2 : Int32) &&& 31).toUInt32).toInt32) &&& (1023 : Int32)))
            have f1146 : (((p1 &&& (1073741823 : Int32)) - (4 : Int32)) + (((p6.toUInt32 >>> ((2 : Int32) &&& 31).toUInt32).toInt32) &&& (1023 : Int32))).toInt = ((p1 &&& (1073741823 : Int32)) - (4 : Int32)).toInt + (((p6.toUInt32 >>> ((2 : Int32) &&& 31).toUInt32).toInt32) &&& (1023 : Int32)).toInt := by have h := c_iadd ((p1 &&& (1073741823 : Int32)) - (4 : Int32)) (((p6.toUInt32 >>> ((2 : Int32) &&& 31).toUInt32).toInt32) &&& (1023 : Int32)); omega
            have f1147 : (1 : Int32).toInt = 1 := rfl
            have f1148 := rng32 ((p1 &&& (1073741823 : Int32)) + (1 : Int32))
            have f1149 : ((p1 &&& (1073741823 : Int32)) + (1 : Int32)).toInt = (p1 &&& (1073741823 : Int32)).toInt + (1 : Int32).toInt := by have h := c_iadd (p1 &&& (1073741823 : Int32)) (1 : Int32); omega
            have f1150 := rng32 p2
            have f1151 : (255 : Int32).toInt = 255 := rfl
            have f1152 := rng32 (p2 &&& (255 : Int32))
            have f1153 : (p2 &&& (255 : Int32)).toInt = p2.toInt % 256 := c_mask p2 (255 : Int32) 8 (by decide) (by decide)
            have f1154 := rng32 (((p1 &&& (1073741823 : Int32)) + (1 : Int32)) + (p2 &&& (255 : Int32)))
            have f1155 : (((p1 &&& (1073741823 : Int32)) + (1 : Int32)) + (p2 &&& (255 : Int32))).toInt = ((p1 &&& (1073741823 : Int32)) + (1 : Int32)).toInt + (p2 &&& (255 : Int32)).toInt := by have h := c_iadd ((p1 &&& (1073741823 : Int32)) + (1 : Int32)) (p2 &&& (255 : Int32)); omega
            have f1156 := rng32 ((((p1 &&& (1073741823 : Int32)) + (1 : Int32)) + (p2 &&& (255 : Int32))) + (1 : Int32))
            have f1157 : ((((p1 &&& (1073741823 : Int32)) + (1 : Int32)) + (p2 &&& (255 : Int32))) + (1 : Int32)).toInt = (((p1 &&& (1073741823 : Int32)) + (1 : Int32)) + (p2 &&& (255 : Int32))).toInt + (1 : Int32).toInt := by have h := c_iadd (((p1 &&& (1073741823 : Int32)) + (1 : Int32)) + (p2 &&& (255 : Int32))) (1 : Int32); omega
            have f1158 : (8 : Int32).toInt = 8 := rfl
            have f1159 := rng32 ((p2.toUInt32 >>> ((8 : Int32) &&& 31).toUInt32).toInt32)
            have f1160 : ((p2.toUInt32 >>> ((8 : Int32) &&& 31).toUInt32).toInt32).toInt = (p2.toInt % 4294967296) / 256 := c_iushr p2 (8 : Int32) 8 (by decide) (by decide)
            have f1161 := rng32 (((p2.toUInt32 >>> ((8 : Int32) &&& 31).toUInt32).toInt32) &&& (255 : Int32))
            have f1162 : (((p2.toUInt32 >>> ((8 : Int32) &&& 31).toUInt32).toInt32) &&& (255 : Int32)).toInt = ((p2.toUInt32 >>> ((8 : Int32) &&& 31).toUInt32).toInt32).toInt % 256 := c_mask ((p2.toUInt32 >>> ((8 : Int32) &&& 31).toUInt32).toInt32) (255 : Int32) 8 (by decide) (by decide)
            have f1163 := rng32 (((((p1 &&& (1073741823 : Int32)) + (1 : Int32)) + (p2 &&& (255 : Int32))) + (1 : Int32)) + (((p2.toUInt32 >>> ((8 : Int32) &&& 31).toUInt32).toInt32) &&& (255 : Int32)))
            have f1164 : (((((p1 &&& (1073741823 : Int32)) + (1 : Int32)) + (p2 &&& (255 : Int32))) + (1 : Int32)) + (((p2.toUInt32 >>> ((8 : Int32) &&& 31).toUInt32).toInt32) &&& (255 : Int32))).toInt = ((((p1 &&& (1073741823 : Int32)) + (1 : Int32)) + (p2 &&& (255 : Int32))) + (1 : Int32)).toInt + (((p2.toUInt32 >>> ((8 : Int32) &&& 31).toUInt32).toInt32) &&& (255 : Int32)).toInt := by have h := c_iadd ((((p1 &&& (1073741823 : Int32)) + (1 : Int32)) + (p2 &&& (255 : Int32))) + (1 : Int32)) (((p2.toUInt32 >>> ((8 : Int32) &&& 31).toUInt32).toInt32) &&& (255 : Int32)); omega
            have g1165 := hs1
            rw [← Int32.toInt_inj] at g1165
            have g1166 := hc478
            rw [← Int32.toInt_inj] at g1166
            have g1167 := hc817
            rw [← Int32.toInt_inj] at g1167
            have g1168 := hc1126
            rw [← Int32.toInt_inj] at g1168
            have g1169 := ha1127_0
            rw [Int32.lt_iff_toInt_lt] at g1169
            have g1170 := ha1127_1
            rw [Int32.lt_iff_toInt_lt] at g1170
            omega
          · exfalso
            have f1171 := rng32 p6
            have f1172 : (3 : Int32).toInt = 3 := rfl
            have f1173 := rng32 (p6 &&& (3 : Int32))
            have f1174 : (p6 &&& (3 : Int32)).toInt = p6.toInt % 4 := c_mask p6 (3 : Int32) 2 (by decide) (by decide)
            have f1175 := rng32 p1
            have f1176 : (1073741823 : Int32).toInt = 1073741823 := rfl
            have f1177 := rng32 (p1 &&& (1073741823 : Int32))
            have f1178 : (p1 &&& (1073741823 : Int32)).toInt = p1.toInt % 1073741824 := c_mask p1 (1073741823 : Int32) 30 (by decide) (by decide)
            have f1179 : (4 : Int32).toInt = 4 := rfl
            have f1180 := rng32 ((p1 &&& (1073741823 : Int32)) - (4 : Int32))
            have f1181 : ((p1 &&& (1073741823 : Int32)) - (4 : Int32)).toInt = (p1 &&& (1073741823 : Int32)).toInt - (4 : Int32).toInt := by have h := c_isub (p1 &&& (1073741823 : Int32)) (4 : Int32); omega
            have f1182 : (2 : Int32).toInt = 2 := rfl
            have f1183 := rng32 ((p6.toUInt32 >>> ((2 : Int32) &&& 31).toUInt32).toInt32)
            have f1184 : ((p6.toUInt32 >>> ((2 : Int32) &&& 31).toUInt32).toInt32).toInt = (p6.toInt % 4294967296) / 4 := c_iushr p6 (2 : Int32) 2 (by decide) (by decide)
            have f1185 : (1023 : Int32).toInt = 1023 := rfl
            have f1186 := rng32 (((p6.toUInt32 >>> ((2 : Int32) &&& 31).toUInt32).toInt32) &&& (1023 : Int32))
            have f1187 : (((p6.toUInt32 >>> ((2 : Int32) &&& 31).toUInt32).toInt32) &&& (1023 : Int32)).toInt = ((p6.toUInt32 >>> ((2 : Int32) &&& 31).toUInt32).toInt32).toInt % 1024 := c_mask ((p6.toUInt32 >>> ((2 : Int32) &&& 31).toUInt32).toInt32) (1023 : Int32) 10 (by decide) (by decide)
            have f1188 := rng32 (((p1 &&& (1073741823 : Int32)) - (4 : Int32)) + (((p6.toUInt32 >>> ((2 : Int32) &&& 31).toUInt32).toInt32) &&& (1023 : Int32)))
            have f1189 : (((p1 &&& (1073741823 : Int32)) - (4 : Int32)) + (((p6.toUInt32 >>> ((2 : Int32) &&& 31).toUInt32).toInt32) &&& (1023 : Int32))).toInt = ((p1 &&& (1073741823 : Int32)) - (4 : Int32)).toInt + (((p6.toUInt32 >>> ((2 : Int32) &&& 31).toUInt32).toInt32) &&& (1023 : Int32)).toInt := by have h := c_iadd ((p1 &&& (1073741823 : Int32)) - (4 : Int32)) (((p6.toUInt32 >>> ((2 : Int32) &&& 31).toUInt32).toInt32) &&& (1023 : Int32)); omega
            have f1190 : (1 : Int32).toInt = 1 := rfl
            have f1191 := rng32 ((p1 &&& (1073741823 : Int32)) + (1 : Int32))
            have f1192 : ((p1 &&& (1073741823 : Int32)) + (1 : Int32)).toInt = (p1 &&& (1073741823 : Int32)).toInt + (1 : Int32).toInt := by have h := c_iadd (p1 &&& (1073741823 : Int32)) (1 : Int32); omega
            have f1193 := rng32 p2
            have f1194 : (255 : Int32).toInt = 255 := rfl
            have f1195 := rng32 (p2 &&& (255 : Int32))
            have f1196 : (p2 &&& (255 : Int32)).toInt = p2.toInt % 256 := c_mask p2 (255 : Int32) 8 (by decide) (by decide)
            have f1197 := rng32 (((p1 &&& (1073741823 : Int32)) + (1 : Int32)) + (p2 &&& (255 : Int32)))
            have f1198 : (((p1 &&& (1073741823 : Int32)) + (1 : Int32)) + (p2 &&& (255 : Int32))).toInt = ((p1 &&& (1073741823 : Int32)) + (1 : Int32)).toInt + (p2 &&& (255 : Int32)).toInt := by have h := c_iadd ((p1 &&& (1073741823 : Int32)) + (1 : Int32)) (p2 &&& (255 : Int32)); omega
            have f1199 := rng32 ((((p1 &&& (1073741823 : Int32)) + (1 : Int32)) + (p2 &&& (255 : Int32))) + (1 : Int32))
            have f1200 : ((((p1 &&& (1073741823 : Int32)) + (1 : Int32)) + (p2 &&& (255 : Int32))) + (1 : Int32)).toInt = (((p1 &&& (1073741823 : Int32)) + (1 : Int32)) + (p2 &&& (255 : Int32))).toInt + (1 : Int32).toInt := by have h := c_iadd (((p1 &&& (1073741823 : Int32)) + (1 : Int32)) + (p2 &&& (255 : Int32))) (1 : Int32); omega
            have f1201 : (8 : Int32).toInt = 8 := rfl
            have f1202 := rng32 ((p2.toUInt32 >>> ((8 : Int32) &&& 31).toUInt32).toInt32)
            have f1203 : ((p2.toUInt32 >>> ((8 : Int32) &&& 31).toUInt32).toInt32).toInt = (p2.toInt % 4294967296) / 256 := c_iushr p2 (8 : Int32) 8 (by decide) (by decide)
            have f1204 := rng32 (((p2.toUInt32 >>> ((8 : Int32) &&& 31).toUInt32).toInt32) &&& (255 : Int32))
            have f1205 : (((p2.toUInt32 >>> ((8 : Int32) &&& 31).toUInt32).toInt32) &&& (255 : Int32)).toInt = ((p2.toUInt32 >>> ((8 : Int32) &&& 31).toUInt32).toInt32).toInt % 256 := c_mask ((p2.toUInt32 >>> ((8 : Int32) &&& 31).toUInt32).toInt32) (255 : Int32) 8 (by decide) (by decide)
            have f1206 := rng32 (((((p1 &&& (1073741823 : Int32)) + (1 : Int32)) + (p2 &&& (255 : Int32))) + (1 : Int32)) + (((p2.toUInt32 >>> ((8 : Int32) &&& 31).toUInt32).toInt32) &&& (255 : Int32)))
            have f1207 : (((((p1 &&& (1073741823 : Int32)) + (1 : Int32)) + (p2 &&& (255 : Int32))) + (1 : Int32)) + (((p2.toUInt32 >>> ((8 : Int32) &&& 31).toUInt32).toInt32) &&& (255 : Int32))).toInt = ((((p1 &&& (1073741823 : Int32)) + (1 : Int32)) + (p2 &&& (255 : Int32))) + (1 : Int32)).toInt + (((p2.toUInt32 >>> ((8 : Int32) &&& 31).toUInt32).toInt32) &&& (255 : Int32)).toInt := by have h := c_iadd ((((p1 &&& (1073741823 : Int32)) + (1 : Int32)) + (p2 &&& (255 : Int32))) + (1 : Int32)) (((p2.toUInt32 >>> ((8 : Int32) &&& 31).toUInt32).toInt32) &&& (255 : Int32)); omega
            have g1208 := hs1
            rw [← Int32.toInt_inj] at g1208
            have g1209 := hc478
            rw [← Int32.toInt_inj] at g1209
            have g1210 := hc817
            rw [← Int32.toInt_inj] at g1210
            have g1211 := hc1126
            rw [← Int32.toInt_inj] at g1211
            have g1212 := ha1127_0
            rw [Int32.lt_iff_toInt_lt] at g1212
            have g1213 := ha1127_1
            rw [Int32.lt_iff_toInt_lt] at g1213
            have g1214 := ha1127_2
            rw [Int32.lt_iff_toInt_lt] at g1214
            omega
          · refine own_tr st1127 ?_
            show own_E p e below _ T1127 (mkF m 168 #[iv p1, iv p2, iv p3, iv p4, iv p5, iv p6, iv 3, iv (p1 &&& (1073741823 : Int32)), iv (((p1 &&& (1073741823 : Int32)) + (1 : Int32)) + (p2 &&& (255 : Int32))), iv (((((p1 &&& (1073741823 : Int32)) + (1 : Int32)) + (p2 &&& (255 : Int32))) + (1 : Int32)) + (((p2.toUInt32 >>> ((8 : Int32) &&& 31).toUInt32).toInt32) &&& (255 : Int32))), iv (((p1 &&& (1073741823 : Int32)) - (4 : Int32)) + (((p6.toUInt32 >>> ((2 : Int32) &&& 31).toUInt32).toInt32) &&& (1023 : Int32))), rv b466, iv p5] [.int p5])
            refine own_st (fun t k => XS.iload X1127.here hx rfl (hb hby at_168) rfl k) ?_
            show own_E p e below _ T1127 (mkF m 170 #[iv p1, iv p2, iv p3, iv p4, iv p5, iv p6, iv 3, iv (p1 &&& (1073741823 : Int32)), iv (((p1 &&& (1073741823 : Int32)) + (1 : Int32)) + (p2 &&& (255 : Int32))), iv (((((p1 &&& (1073741823 : Int32)) + (1 : Int32)) + (p2 &&& (255 : Int32))) + (1 : Int32)) + (((p2.toUInt32 >>> ((8 : Int32) &&& 31).toUInt32).toInt32) &&& (255 : Int32))), iv (((p1 &&& (1073741823 : Int32)) - (4 : Int32)) + (((p6.toUInt32 >>> ((2 : Int32) &&& 31).toUInt32).toInt32) &&& (1023 : Int32))), rv b466, iv p5] [.int p5, .int p5])
            refine own_st (fun t k => XS.icmpNo X1127.here hx rfl (hb hby at_170) rfl (teq rfl).2 k) ?_
            show own_E p e below _ T1127 (mkF m 173 #[iv p1, iv p2, iv p3, iv p4, iv p5, iv p6, iv 3, iv (p1 &&& (1073741823 : Int32)), iv (((p1 &&& (1073741823 : Int32)) + (1 : Int32)) + (p2 &&& (255 : Int32))), iv (((((p1 &&& (1073741823 : Int32)) + (1 : Int32)) + (p2 &&& (255 : Int32))) + (1 : Int32)) + (((p2.toUInt32 >>> ((8 : Int32) &&& 31).toUInt32).toInt32) &&& (255 : Int32))), iv (((p1 &&& (1073741823 : Int32)) - (4 : Int32)) + (((p6.toUInt32 >>> ((2 : Int32) &&& 31).toUInt32).toInt32) &&& (1023 : Int32))), rv b466, iv p5] [])
            refine own_st (fun t k => XS.iconst X1127.here hx rfl (hb hby at_173) k) ?_
            show own_E p e below _ T1127 (mkF m 174 #[iv p1, iv p2, iv p3, iv p4, iv p5, iv p6, iv 3, iv (p1 &&& (1073741823 : Int32)), iv (((p1 &&& (1073741823 : Int32)) + (1 : Int32)) + (p2 &&& (255 : Int32))), iv (((((p1 &&& (1073741823 : Int32)) + (1 : Int32)) + (p2 &&& (255 : Int32))) + (1 : Int32)) + (((p2.toUInt32 >>> ((8 : Int32) &&& 31).toUInt32).toInt32) &&& (255 : Int32))), iv (((p1 &&& (1073741823 : Int32)) - (4 : Int32)) + (((p6.toUInt32 >>> ((2 : Int32) &&& 31).toUInt32).toInt32) &&& (1023 : Int32))), rv b466, iv p5] [.int 1])
            refine own_st (fun t k => XS.goto X1127.here hx rfl (pc0 := 174) (pc' := 178) rfl (hb hby at_174) (by decide) (by decide) k) ?_
            show own_E p e below _ T1127 (mkF m 178 #[iv p1, iv p2, iv p3, iv p4, iv p5, iv p6, iv 3, iv (p1 &&& (1073741823 : Int32)), iv (((p1 &&& (1073741823 : Int32)) + (1 : Int32)) + (p2 &&& (255 : Int32))), iv (((((p1 &&& (1073741823 : Int32)) + (1 : Int32)) + (p2 &&& (255 : Int32))) + (1 : Int32)) + (((p2.toUInt32 >>> ((8 : Int32) &&& 31).toUInt32).toInt32) &&& (255 : Int32))), iv (((p1 &&& (1073741823 : Int32)) - (4 : Int32)) + (((p6.toUInt32 >>> ((2 : Int32) &&& 31).toUInt32).toInt32) &&& (1023 : Int32))), rv b466, iv p5] [.int 1])
            refine own_retS X1127 hx Bd.notSynchronized Bd.returns rfl (by decide) (hb hby at_178) (by decide) (by decide) ?_
            exact ⟨rfl, N1127⟩
          · exfalso
            have f1215 := rng32 p6
            have f1216 : (3 : Int32).toInt = 3 := rfl
            have f1217 := rng32 (p6 &&& (3 : Int32))
            have f1218 : (p6 &&& (3 : Int32)).toInt = p6.toInt % 4 := c_mask p6 (3 : Int32) 2 (by decide) (by decide)
            have f1219 := rng32 p1
            have f1220 : (1073741823 : Int32).toInt = 1073741823 := rfl
            have f1221 := rng32 (p1 &&& (1073741823 : Int32))
            have f1222 : (p1 &&& (1073741823 : Int32)).toInt = p1.toInt % 1073741824 := c_mask p1 (1073741823 : Int32) 30 (by decide) (by decide)
            have f1223 : (4 : Int32).toInt = 4 := rfl
            have f1224 := rng32 ((p1 &&& (1073741823 : Int32)) - (4 : Int32))
            have f1225 : ((p1 &&& (1073741823 : Int32)) - (4 : Int32)).toInt = (p1 &&& (1073741823 : Int32)).toInt - (4 : Int32).toInt := by have h := c_isub (p1 &&& (1073741823 : Int32)) (4 : Int32); omega
            have f1226 : (2 : Int32).toInt = 2 := rfl
            have f1227 := rng32 ((p6.toUInt32 >>> ((2 : Int32) &&& 31).toUInt32).toInt32)
            have f1228 : ((p6.toUInt32 >>> ((2 : Int32) &&& 31).toUInt32).toInt32).toInt = (p6.toInt % 4294967296) / 4 := c_iushr p6 (2 : Int32) 2 (by decide) (by decide)
            have f1229 : (1023 : Int32).toInt = 1023 := rfl
            have f1230 := rng32 (((p6.toUInt32 >>> ((2 : Int32) &&& 31).toUInt32).toInt32) &&& (1023 : Int32))
            have f1231 : (((p6.toUInt32 >>> ((2 : Int32) &&& 31).toUInt32).toInt32) &&& (1023 : Int32)).toInt = ((p6.toUInt32 >>> ((2 : Int32) &&& 31).toUInt32).toInt32).toInt % 1024 := c_mask ((p6.toUInt32 >>> ((2 : Int32) &&& 31).toUInt32).toInt32) (1023 : Int32) 10 (by decide) (by decide)
            have f1232 := rng32 (((p1 &&& (1073741823 : Int32)) - (4 : Int32)) + (((p6.toUInt32 >>> ((2 : Int32) &&& 31).toUInt32).toInt32) &&& (1023 : Int32)))
            have f1233 : (((p1 &&& (1073741823 : Int32)) - (4 : Int32)) + (((p6.toUInt32 >>> ((2 : Int32) &&& 31).toUInt32).toInt32) &&& (1023 : Int32))).toInt = ((p1 &&& (1073741823 : Int32)) - (4 : Int32)).toInt + (((p6.toUInt32 >>> ((2 : Int32) &&& 31).toUInt32).toInt32) &&& (1023 : Int32)).toInt := by have h := c_iadd ((p1 &&& (1073741823 : Int32)) - (4 : Int32)) (((p6.toUInt32 >>> ((2 : Int32) &&& 31).toUInt32).toInt32) &&& (1023 : Int32)); omega
            have f1234 : (1 : Int32).toInt = 1 := rfl
            have f1235 := rng32 ((p1 &&& (1073741823 : Int32)) + (1 : Int32))
            have f1236 : ((p1 &&& (1073741823 : Int32)) + (1 : Int32)).toInt = (p1 &&& (1073741823 : Int32)).toInt + (1 : Int32).toInt := by have h := c_iadd (p1 &&& (1073741823 : Int32)) (1 : Int32); omega
            have f1237 := rng32 p2
            have f1238 : (255 : Int32).toInt = 255 := rfl
            have f1239 := rng32 (p2 &&& (255 : Int32))
            have f1240 : (p2 &&& (255 : Int32)).toInt = p2.toInt % 256 := c_mask p2 (255 : Int32) 8 (by decide) (by decide)
            have f1241 := rng32 (((p1 &&& (1073741823 : Int32)) + (1 : Int32)) + (p2 &&& (255 : Int32)))
            have f1242 : (((p1 &&& (1073741823 : Int32)) + (1 : Int32)) + (p2 &&& (255 : Int32))).toInt = ((p1 &&& (1073741823 : Int32)) + (1 : Int32)).toInt + (p2 &&& (255 : Int32)).toInt := by have h := c_iadd ((p1 &&& (1073741823 : Int32)) + (1 : Int32)) (p2 &&& (255 : Int32)); omega
            have f1243 := rng32 ((((p1 &&& (1073741823 : Int32)) + (1 : Int32)) + (p2 &&& (255 : Int32))) + (1 : Int32))
            have f1244 : ((((p1 &&& (1073741823 : Int32)) + (1 : Int32)) + (p2 &&& (255 : Int32))) + (1 : Int32)).toInt = (((p1 &&& (1073741823 : Int32)) + (1 : Int32)) + (p2 &&& (255 : Int32))).toInt + (1 : Int32).toInt := by have h := c_iadd (((p1 &&& (1073741823 : Int32)) + (1 : Int32)) + (p2 &&& (255 : Int32))) (1 : Int32); omega
            have f1245 : (8 : Int32).toInt = 8 := rfl
            have f1246 := rng32 ((p2.toUInt32 >>> ((8 : Int32) &&& 31).toUInt32).toInt32)
            have f1247 : ((p2.toUInt32 >>> ((8 : Int32) &&& 31).toUInt32).toInt32).toInt = (p2.toInt % 4294967296) / 256 := c_iushr p2 (8 : Int32) 8 (by decide) (by decide)
            have f1248 := rng32 (((p2.toUInt32 >>> ((8 : Int32) &&& 31).toUInt32).toInt32) &&& (255 : Int32))
            have f1249 : (((p2.toUInt32 >>> ((8 : Int32) &&& 31).toUInt32).toInt32) &&& (255 : Int32)).toInt = ((p2.toUInt32 >>> ((8 : Int32) &&& 31).toUInt32).toInt32).toInt % 256 := c_mask ((p2.toUInt32 >>> ((8 : Int32) &&& 31).toUInt32).toInt32) (255 : Int32) 8 (by decide) (by decide)
            have f1250 := rng32 (((((p1 &&& (1073741823 : Int32)) + (1 : Int32)) + (p2 &&& (255 : Int32))) + (1 : Int32)) + (((p2.toUInt32 >>> ((8 : Int32) &&& 31).toUInt32).toInt32) &&& (255 : Int32)))
            have f1251 : (((((p1 &&& (1073741823 : Int32)) + (1 : Int32)) + (p2 &&& (255 : Int32))) + (1 : Int32)) + (((p2.toUInt32 >>> ((8 : Int32) &&& 31).toUInt32).toInt32) &&& (255 : Int32))).toInt = ((((p1 &&& (1073741823 : Int32)) + (1 : Int32)) + (p2 &&& (255 : Int32))) + (1 : Int32)).toInt + (((p2.toUInt32 >>> ((8 : Int32) &&& 31).toUInt32).toInt32) &&& (255 : Int32)).toInt := by have h := c_iadd ((((p1 &&& (1073741823 : Int32)) + (1 : Int32)) + (p2 &&& (255 : Int32))) + (1 : Int32)) (((p2.toUInt32 >>> ((8 : Int32) &&& 31).toUInt32).toInt32) &&& (255 : Int32)); omega
            have g1252 := hs1
            rw [← Int32.toInt_inj] at g1252
            have g1253 := hc478
            rw [← Int32.toInt_inj] at g1253
            have g1254 := hc817
            rw [← Int32.toInt_inj] at g1254
            have g1255 := hc1126
            rw [← Int32.toInt_inj] at g1255
            have g1256 := ha1127_0
            rw [Int32.lt_iff_toInt_lt] at g1256
            have g1257 := ha1127_1
            rw [Int32.lt_iff_toInt_lt] at g1257
            have g1258 := ha1127_2
            rw [Int32.lt_iff_toInt_lt] at g1258
            omega
          · exfalso
            have f1259 := rng32 p6
            have f1260 : (3 : Int32).toInt = 3 := rfl
            have f1261 := rng32 (p6 &&& (3 : Int32))
            have f1262 : (p6 &&& (3 : Int32)).toInt = p6.toInt % 4 := c_mask p6 (3 : Int32) 2 (by decide) (by decide)
            have f1263 := rng32 p1
            have f1264 : (1073741823 : Int32).toInt = 1073741823 := rfl
            have f1265 := rng32 (p1 &&& (1073741823 : Int32))
            have f1266 : (p1 &&& (1073741823 : Int32)).toInt = p1.toInt % 1073741824 := c_mask p1 (1073741823 : Int32) 30 (by decide) (by decide)
            have f1267 : (4 : Int32).toInt = 4 := rfl
            have f1268 := rng32 ((p1 &&& (1073741823 : Int32)) - (4 : Int32))
            have f1269 : ((p1 &&& (1073741823 : Int32)) - (4 : Int32)).toInt = (p1 &&& (1073741823 : Int32)).toInt - (4 : Int32).toInt := by have h := c_isub (p1 &&& (1073741823 : Int32)) (4 : Int32); omega
            have f1270 : (2 : Int32).toInt = 2 := rfl
            have f1271 := rng32 ((p6.toUInt32 >>> ((2 : Int32) &&& 31).toUInt32).toInt32)
            have f1272 : ((p6.toUInt32 >>> ((2 : Int32) &&& 31).toUInt32).toInt32).toInt = (p6.toInt % 4294967296) / 4 := c_iushr p6 (2 : Int32) 2 (by decide) (by decide)
            have f1273 : (1023 : Int32).toInt = 1023 := rfl
            have f1274 := rng32 (((p6.toUInt32 >>> ((2 : Int32) &&& 31).toUInt32).toInt32) &&& (1023 : Int32))
            have f1275 : (((p6.toUInt32 >>> ((2 : Int32) &&& 31).toUInt32).toInt32) &&& (1023 : Int32)).toInt = ((p6.toUInt32 >>> ((2 : Int32) &&& 31).toUInt32).toInt32).toInt % 1024 := c_mask ((p6.toUInt32 >>> ((2 : Int32) &&& 31).toUInt32).toInt32) (1023 : Int32) 10 (by decide) (by decide)
            have f1276 := rng32 (((p1 &&& (1073741823 : Int32)) - (4 : Int32)) + (((p6.toUInt32 >>> ((2 : Int32) &&& 31).toUInt32).toInt32) &&& (1023 : Int32)))
            have f1277 : (((p1 &&& (1073741823 : Int32)) - (4 : Int32)) + (((p6.toUInt32 >>> ((2 : Int32) &&& 31).toUInt32).toInt32) &&& (1023 : Int32))).toInt = ((p1 &&& (1073741823 : Int32)) - (4 : Int32)).toInt + (((p6.toUInt32 >>> ((2 : Int32) &&& 31).toUInt32).toInt32) &&& (1023 : Int32)).toInt := by have h := c_iadd ((p1 &&& (1073741823 : Int32)) - (4 : Int32)) (((p6.toUInt32 >>> ((2 : Int32) &&& 31).toUInt32).toInt32) &&& (1023 : Int32)); omega
            have f1278 : (1 : Int32).toInt = 1 := rfl
            have f1279 := rng32 ((p1 &&& (1073741823 : Int32)) + (1 : Int32))
            have f1280 : ((p1 &&& (1073741823 : Int32)) + (1 : Int32)).toInt = (p1 &&& (1073741823 : Int32)).toInt + (1 : Int32).toInt := by have h := c_iadd (p1 &&& (1073741823 : Int32)) (1 : Int32); omega
            have f1281 := rng32 p2
            have f1282 : (255 : Int32).toInt = 255 := rfl
            have f1283 := rng32 (p2 &&& (255 : Int32))
            have f1284 : (p2 &&& (255 : Int32)).toInt = p2.toInt % 256 := c_mask p2 (255 : Int32) 8 (by decide) (by decide)
            have f1285 := rng32 (((p1 &&& (1073741823 : Int32)) + (1 : Int32)) + (p2 &&& (255 : Int32)))
            have f1286 : (((p1 &&& (1073741823 : Int32)) + (1 : Int32)) + (p2 &&& (255 : Int32))).toInt = ((p1 &&& (1073741823 : Int32)) + (1 : Int32)).toInt + (p2 &&& (255 : Int32)).toInt := by have h := c_iadd ((p1 &&& (1073741823 : Int32)) + (1 : Int32)) (p2 &&& (255 : Int32)); omega
            have f1287 := rng32 ((((p1 &&& (1073741823 : Int32)) + (1 : Int32)) + (p2 &&& (255 : Int32))) + (1 : Int32))
            have f1288 : ((((p1 &&& (1073741823 : Int32)) + (1 : Int32)) + (p2 &&& (255 : Int32))) + (1 : Int32)).toInt = (((p1 &&& (1073741823 : Int32)) + (1 : Int32)) + (p2 &&& (255 : Int32))).toInt + (1 : Int32).toInt := by have h := c_iadd (((p1 &&& (1073741823 : Int32)) + (1 : Int32)) + (p2 &&& (255 : Int32))) (1 : Int32); omega
            have f1289 : (8 : Int32).toInt = 8 := rfl
            have f1290 := rng32 ((p2.toUInt32 >>> ((8 : Int32) &&& 31).toUInt32).toInt32)
            have f1291 : ((p2.toUInt32 >>> ((8 : Int32) &&& 31).toUInt32).toInt32).toInt = (p2.toInt % 4294967296) / 256 := c_iushr p2 (8 : Int32) 8 (by decide) (by decide)
            have f1292 := rng32 (((p2.toUInt32 >>> ((8 : Int32) &&& 31).toUInt32).toInt32) &&& (255 : Int32))
            have f1293 : (((p2.toUInt32 >>> ((8 : Int32) &&& 31).toUInt32).toInt32) &&& (255 : Int32)).toInt = ((p2.toUInt32 >>> ((8 : Int32) &&& 31).toUInt32).toInt32).toInt % 256 := c_mask ((p2.toUInt32 >>> ((8 : Int32) &&& 31).toUInt32).toInt32) (255 : Int32) 8 (by decide) (by decide)
            have f1294 := rng32 (((((p1 &&& (1073741823 : Int32)) + (1 : Int32)) + (p2 &&& (255 : Int32))) + (1 : Int32)) + (((p2.toUInt32 >>> ((8 : Int32) &&& 31).toUInt32).toInt32) &&& (255 : Int32)))
            have f1295 : (((((p1 &&& (1073741823 : Int32)) + (1 : Int32)) + (p2 &&& (255 : Int32))) + (1 : Int32)) + (((p2.toUInt32 >>> ((8 : Int32) &&& 31).toUInt32).toInt32) &&& (255 : Int32))).toInt = ((((p1 &&& (1073741823 : Int32)) + (1 : Int32)) + (p2 &&& (255 : Int32))) + (1 : Int32)).toInt + (((p2.toUInt32 >>> ((8 : Int32) &&& 31).toUInt32).toInt32) &&& (255 : Int32)).toInt := by have h := c_iadd ((((p1 &&& (1073741823 : Int32)) + (1 : Int32)) + (p2 &&& (255 : Int32))) + (1 : Int32)) (((p2.toUInt32 >>> ((8 : Int32) &&& 31).toUInt32).toInt32) &&& (255 : Int32)); omega
            have g1296 := hs1
            rw [← Int32.toInt_inj] at g1296
            have g1297 := hc478
            rw [← Int32.toInt_inj] at g1297
            have g1298 := hc817
            rw [← Int32.toInt_inj] at g1298
            have g1299 := hc1126
            rw [← Int32.toInt_inj] at g1299
            have g1300 := ha1127_0
            rw [Int32.lt_iff_toInt_lt] at g1300
            have g1301 := ha1127_1
            rw [Int32.lt_iff_toInt_lt] at g1301
            have g1302 := ha1127_2
            rw [Int32.lt_iff_toInt_lt] at g1302
            have g1303 := ha1127_3
            rw [Int32.lt_iff_toInt_lt] at g1303
            omega
          · exfalso
            have f1304 := rng32 p6
            have f1305 : (3 : Int32).toInt = 3 := rfl
            have f1306 := rng32 (p6 &&& (3 : Int32))
            have f1307 : (p6 &&& (3 : Int32)).toInt = p6.toInt % 4 := c_mask p6 (3 : Int32) 2 (by decide) (by decide)
            have f1308 := rng32 p1
            have f1309 : (1073741823 : Int32).toInt = 1073741823 := rfl
            have f1310 := rng32 (p1 &&& (1073741823 : Int32))
            have f1311 : (p1 &&& (1073741823 : Int32)).toInt = p1.toInt % 1073741824 := c_mask p1 (1073741823 : Int32) 30 (by decide) (by decide)
            have f1312 : (4 : Int32).toInt = 4 := rfl
            have f1313 := rng32 ((p1 &&& (1073741823 : Int32)) - (4 : Int32))
            have f1314 : ((p1 &&& (1073741823 : Int32)) - (4 : Int32)).toInt = (p1 &&& (1073741823 : Int32)).toInt - (4 : Int32).toInt := by have h := c_isub (p1 &&& (1073741823 : Int32)) (4 : Int32); omega
            have f1315 : (2 : Int32).toInt = 2 := rfl
            have f1316 := rng32 ((p6.toUInt32 >>> ((2 : Int32) &&& 31).toUInt32).toInt32)
            have f1317 : ((p6.toUInt32 >>> ((2 : Int32) &&& 31).toUInt32).toInt32).toInt = (p6.toInt % 4294967296) / 4 := c_iushr p6 (2 : Int32) 2 (by decide) (by decide)
            have f1318 : (1023 : Int32).toInt = 1023 := rfl
            have f1319 := rng32 (((p6.toUInt32 >>> ((2 : Int32) &&& 31).toUInt32).toInt32) &&& (1023 : Int32))
            have f1320 : (((p6.toUInt32 >>> ((2 : Int32) &&& 31).toUInt32).toInt32) &&& (1023 : Int32)).toInt = ((p6.toUInt32 >>> ((2 : Int32) &&& 31).toUInt32).toInt32).toInt % 1024 := c_mask ((p6.toUInt32 >>> ((2 : Int32) &&& 31).toUInt32).toInt32) (1023 : Int32) 10 (by decide) (by decide)
            have f1321 := rng32 (((p1 &&& (1073741823 : Int32)) - (4 : Int32)) + (((p6.toUInt32 >>> ((2 : Int32) &&& 31).toUInt32).toInt32) &&& (1023 : Int32)))
            have f1322 : (((p1 &&& (1073741823 : Int32)) - (4 : Int32)) + (((p6.toUInt32 >>> ((2 : Int32) &&& 31).toUInt32).toInt32) &&& (1023 : Int32))).toInt = ((p1 &&& (1073741823 : Int32)) - (4 : Int32)).toInt + (((p6.toUInt32 >>> ((2 : Int32) &&& 31).toUInt32).toInt32) &&& (1023 : Int32)).toInt := by have h := c_iadd ((p1 &&& (1073741823 : Int32)) - (4 : Int32)) (((p6.toUInt32 >>> ((2 : Int32) &&& 31).toUInt32).toInt32) &&& (1023 : Int32)); omega
            have f1323 : (1 : Int32).toInt = 1 := rfl
            have f1324 := rng32 ((p1 &&& (1073741823 : Int32)) + (1 : Int32))
            have f1325 : ((p1 &&& (1073741823 : Int32)) + (1 : Int32)).toInt = (p1 &&& (1073741823 : Int32)).toInt + (1 : Int32).toInt := by have h := c_iadd (p1 &&& (1073741823 : Int32)) (1 : Int32); omega
            have f1326 := rng32 p2
            have f1327 : (255 : Int32).toInt = 255 := rfl
            have f1328 := rng32 (p2 &&& (255 : Int32))
            have f1329 : (p2 &&& (255 : Int32)).toInt = p2.toInt % 256 := c_mask p2 (255 : Int32) 8 (by decide) (by decide)
            have f1330 := rng32 (((p1 &&& (1073741823 : Int32)) + (1 : Int32)) + (p2 &&& (255 : Int32)))
            have f1331 : (((p1 &&& (1073741823 : Int32)) + (1 : Int32)) + (p2 &&& (255 : Int32))).toInt = ((p1 &&& (1073741823 : Int32)) + (1 : Int32)).toInt + (p2 &&& (255 : Int32)).toInt := by have h := c_iadd ((p1 &&& (1073741823 : Int32)) + (1 : Int32)) (p2 &&& (255 : Int32)); omega
            have f1332 := rng32 ((((p1 &&& (1073741823 : Int32)) + (1 : Int32)) + (p2 &&& (255 : Int32))) + (1 : Int32))
            have f1333 : ((((p1 &&& (1073741823 : Int32)) + (1 : Int32)) + (p2 &&& (255 : Int32))) + (1 : Int32)).toInt = (((p1 &&& (1073741823 : Int32)) + (1 : Int32)) + (p2 &&& (255 : Int32))).toInt + (1 : Int32).toInt := by have h := c_iadd (((p1 &&& (1073741823 : Int32)) + (1 : Int32)) + (p2 &&& (255 : Int32))) (1 : Int32); omega
            have f1334 : (8 : Int32).toInt = 8 := rfl
            have f1335 := rng32 ((p2.toUInt32 >>> ((8 : Int32) &&& 31).toUInt32).toInt32)
            have f1336 : ((p2.toUInt32 >>> ((8 : Int32) &&& 31).toUInt32).toInt32).toInt = (p2.toInt % 4294967296) / 256 := c_iushr p2 (8 : Int32) 8 (by decide) (by decide)
            have f1337 := rng32 (((p2.toUInt32 >>> ((8 : Int32) &&& 31).toUInt32).toInt32) &&& (255 : Int32))
            have f1338 : (((p2.toUInt32 >>> ((8 : Int32) &&& 31).toUInt32).toInt32) &&& (255 : Int32)).toInt = ((p2.toUInt32 >>> ((8 : Int32) &&& 31).toUInt32).toInt32).toInt % 256 := c_mask ((p2.toUInt32 >>> ((8 : Int32) &&& 31).toUInt32).toInt32) (255 : Int32) 8 (by decide) (by decide)
            have f1339 := rng32 (((((p1 &&& (1073741823 : Int32)) + (1 : Int32)) + (p2 &&& (255 : Int32))) + (1 : Int32)) + (((p2.toUInt32 >>> ((8 : Int32) &&& 31).toUInt32).toInt32) &&& (255 : Int32)))
            have f1340 : (((((p1 &&& (1073741823 : Int32)) + (1 : Int32)) + (p2 &&& (255 : Int32))) + (1 : Int32)) + (((p2.toUInt32 >>> ((8 : Int32) &&& 31).toUInt32).toInt32) &&& (255 : Int32))).toInt = ((((p1 &&& (1073741823 : Int32)) + (1 : Int32)) + (p2 &&& (255 : Int32))) + (1 : Int32)).toInt + (((p2.toUInt32 >>> ((8 : Int32) &&& 31).toUInt32).toInt32) &&& (255 : Int32)).toInt := by have h := c_iadd ((((p1 &&& (1073741823 : Int32)) + (1 : Int32)) + (p2 &&& (255 : Int32))) + (1 : Int32)) (((p2.toUInt32 >>> ((8 : Int32) &&& 31).toUInt32).toInt32) &&& (255 : Int32)); omega
            have g1341 := hs1
            rw [← Int32.toInt_inj] at g1341
            have g1342 := hc478
            rw [← Int32.toInt_inj] at g1342
            have g1343 := hc817
            rw [← Int32.toInt_inj] at g1343
            have g1344 := hc1126
            rw [← Int32.toInt_inj] at g1344
            have g1345 := ha1127_0
            rw [Int32.lt_iff_toInt_lt] at g1345
            have g1346 := ha1127_1
            rw [Int32.lt_iff_toInt_lt] at g1346
            have g1347 := ha1127_2
            rw [Int32.lt_iff_toInt_lt] at g1347
            have g1348 := ha1127_3
            rw [Int32.lt_iff_toInt_lt] at g1348
            omega
          · exfalso
            have f1349 := rng32 p6
            have f1350 : (3 : Int32).toInt = 3 := rfl
            have f1351 := rng32 (p6 &&& (3 : Int32))
            have f1352 : (p6 &&& (3 : Int32)).toInt = p6.toInt % 4 := c_mask p6 (3 : Int32) 2 (by decide) (by decide)
            have f1353 := rng32 p1
            have f1354 : (1073741823 : Int32).toInt = 1073741823 := rfl
            have f1355 := rng32 (p1 &&& (1073741823 : Int32))
            have f1356 : (p1 &&& (1073741823 : Int32)).toInt = p1.toInt % 1073741824 := c_mask p1 (1073741823 : Int32) 30 (by decide) (by decide)
            have f1357 : (4 : Int32).toInt = 4 := rfl
            have f1358 := rng32 ((p1 &&& (1073741823 : Int32)) - (4 : Int32))
            have f1359 : ((p1 &&& (1073741823 : Int32)) - (4 : Int32)).toInt = (p1 &&& (1073741823 : Int32)).toInt - (4 : Int32).toInt := by have h := c_isub (p1 &&& (1073741823 : Int32)) (4 : Int32); omega
            have f1360 : (2 : Int32).toInt = 2 := rfl
            have f1361 := rng32 ((p6.toUInt32 >>> ((2 : Int32) &&& 31).toUInt32).toInt32)
            have f1362 : ((p6.toUInt32 >>> ((2 : Int32) &&& 31).toUInt32).toInt32).toInt = (p6.toInt % 4294967296) / 4 := c_iushr p6 (2 : Int32) 2 (by decide) (by decide)
            have f1363 : (1023 : Int32).toInt = 1023 := rfl
            have f1364 := rng32 (((p6.toUInt32 >>> ((2 : Int32) &&& 31).toUInt32).toInt32) &&& (1023 : Int32))
            have f1365 : (((p6.toUInt32 >>> ((2 : Int32) &&& 31).toUInt32).toInt32) &&& (1023 : Int32)).toInt = ((p6.toUInt32 >>> ((2 : Int32) &&& 31).toUInt32).toInt32).toInt % 1024 := c_mask ((p6.toUInt32 >>> ((2 : Int32) &&& 31).toUInt32).toInt32) (1023 : Int32) 10 (by decide) (by decide)
            have f1366 := rng32 (((p1 &&& (1073741823 : Int32)) - (4 : Int32)) + (((p6.toUInt32 >>> ((2 : Int32) &&& 31).toUInt32).toInt32) &&& (1023 : Int32)))
            have f1367 : (((p1 &&& (1073741823 : Int32)) - (4 : Int32)) + (((p6.toUInt32 >>> ((2 : Int32) &&& 31).toUInt32).toInt32) &&& (1023 : Int32))).toInt = ((p1 &&& (1073741823 : Int32)) - (4 : Int32)).toInt + (((p6.toUInt32 >>> ((2 : Int32) &&& 31).toUInt32).toInt32) &&& (1023 : Int32)).toInt := by have h := c_iadd ((p1 &&& (1073741823 : Int32)) - (4 : Int32)) (((p6.toUInt32 >>> ((2 : Int32) &&& 31).toUInt32).toInt32) &&& (1023 : Int32)); omega
            have f1368 : (1 : Int32).toInt = 1 := rfl
            have f1369 := rng32 ((p1 &&& (1073741823 : Int32)) + (1 : Int32))
            have f1370 : ((p1 &&& (1073741823 : Int32)) + (1 : Int32)).toInt = (p1 &&& (1073741823 : Int32)).toInt + (1 : Int32).toInt := by have h := c_iadd (p1 &&& (1073741823 : Int32)) (1 : Int32); omega
            have f1371 := rng32 p2
            have f1372 : (255 : Int32).toInt = 255 := rfl
            have f1373 := rng32 (p2 &&& (255 : Int32))
            have f1374 : (p2 &&& (255 : Int32)).toInt = p2.toInt % 256 := c_mask p2 (255 : Int32) 8 (by decide) (by decide)
            have f1375 := rng32 (((p1 &&& (1073741823 : Int32)) + (1 : Int32)) + (p2 &&& (255 : Int32)))
            have f1376 : (((p1 &&& (1073741823 : Int32)) + (1 : Int32)) + (p2 &&& (255 : Int32))).toInt = ((p1 &&& (1073741823 : Int32)) + (1 : Int32)).toInt + (p2 &&& (255 : Int32)).toInt := by have h := c_iadd ((p1 &&& (1073741823 : Int32)) + (1 : Int32)) (p2 &&& (255 : Int32)); omega
            have f1377 := rng32 ((((p1 &&& (1073741823 : Int32)) + (1 : Int32)) + (p2 &&& (255 : Int32))) + (1 : Int32))
            have f1378 : ((((p1 &&& (1073741823 : Int32)) + (1 : Int32)) + (p2 &&& (255 : Int32))) + (1 : Int32)).toInt = (((p1 &&& (1073741823 : Int32)) + (1 : Int32)) + (p2 &&& (255 : Int32))).toInt + (1 : Int32).toInt := by have h := c_iadd (((p1 &&& (1073741823 : Int32)) + (1 : Int32)) + (p2 &&& (255 : Int32))) (1 : Int32); omega
            have f1379 : (8 : Int32).toInt = 8 := rfl
            have f1380 := rng32 ((p2.toUInt32 >>> ((8 : Int32) &&& 31).toUInt32).toInt32)
            have f1381 : ((p2.toUInt32 >>> ((8 : Int32) &&& 31).toUInt32).toInt32).toInt = (p2.toInt % 4294967296) / 256 := c_iushr p2 (8 : Int32) 8 (by decide) (by decide)
            have f1382 := rng32 (((p2.toUInt32 >>> ((8 : Int32) &&& 31).toUInt32).toInt32) &&& (255 : Int32))
            have f1383 : (((p2.toUInt32 >>> ((8 : Int32) &&& 31).toUInt32).toInt32) &&& (255 : Int32)).toInt = ((p2.toUInt32 >>> ((8 : Int32) &&& 31).toUInt32).toInt32).toInt % 256 := c_mask ((p2.toUInt32 >>> ((8 : Int32) &&& 31).toUInt32).toInt32) (255 : Int32) 8 (by decide) (by decide)
            have f1384 := rng32 (((((p1 &&& (1073741823 : Int32)) + (1 : Int32)) + (p2 &&& (255 : Int32))) + (1 : Int32)) + (((p2.toUInt32 >>> ((8 : Int32) &&& 31).toUInt32).toInt32) &&& (255 : Int32)))
            have f1385 : (((((p1 &&& (1073741823 : Int32)) + (1 : Int32)) + (p2 &&& (255 : Int32))) + (1 : Int32)) + (((p2.toUInt32 >>> ((8 : Int32) &&& 31).toUInt32).toInt32) &&& (255 : Int32))).toInt = ((((p1 &&& (1073741823 : Int32)) + (1 : Int32)) + (p2 &&& (255 : Int32))) + (1 : Int32)).toInt + (((p2.toUInt32 >>> ((8 : Int32) &&& 31).toUInt32).toInt32) &&& (255 : Int32)).toInt := by have h := c_iadd ((((p1 &&& (1073741823 : Int32)) + (1 : Int32)) + (p2 &&& (255 : Int32))) + (1 : Int32)) (((p2.toUInt32 >>> ((8 : Int32) &&& 31).toUInt32).toInt32) &&& (255 : Int32)); omega
            have g1386 := hs1
            rw [← Int32.toInt_inj] at g1386
            have g1387 := hc478
            rw [← Int32.toInt_inj] at g1387
            have g1388 := hc817
            rw [← Int32.toInt_inj] at g1388
            have g1389 := hc1126
            rw [← Int32.toInt_inj] at g1389
            have g1390 := ha1127_0
            rw [Int32.lt_iff_toInt_lt] at g1390
            have g1391 := ha1127_1
            rw [Int32.lt_iff_toInt_lt] at g1391
            omega
        · refine own_st (fun t k => XS.icmpYes X474.here hx rfl (pc0 := 154) (pc' := 161) rfl (hb hby at_154) rfl (feq hc1126).2 (by decide) (by decide) k) ?_
          show own_E p e below _ T474 (mkF m 161 #[iv p1, iv p2, iv p3, iv p4, iv p5, iv p6, iv 3, iv (p1 &&& (1073741823 : Int32)), iv (((p1 &&& (1073741823 : Int32)) + (1 : Int32)) + (p2 &&& (255 : Int32))), iv (((((p1 &&& (1073741823 : Int32)) + (1 : Int32)) + (p2 &&& (255 : Int32))) + (1 : Int32)) + (((p2.toUInt32 >>> ((8 : Int32) &&& 31).toUInt32).toInt32) &&& (255 : Int32))), iv (((p1 &&& (1073741823 : Int32)) - (4 : Int32)) + (((p6.toUInt32 >>> ((2 : Int32) &&& 31).toUInt32).toInt32) &&& (1023 : Int32))), rv b466, iv 0] [])
          refine own_st (fun t k => XS.aload X474.here hx rfl (hb hby at_161) rfl rfl k) ?_
          show own_E p e below _ T474 (mkF m 163 #[iv p1, iv p2, iv p3, iv p4, iv p5, iv p6, iv 3, iv (p1 &&& (1073741823 : Int32)), iv (((p1 &&& (1073741823 : Int32)) + (1 : Int32)) + (p2 &&& (255 : Int32))), iv (((((p1 &&& (1073741823 : Int32)) + (1 : Int32)) + (p2 &&& (255 : Int32))) + (1 : Int32)) + (((p2.toUInt32 >>> ((8 : Int32) &&& 31).toUInt32).toInt32) &&& (255 : Int32))), iv (((p1 &&& (1073741823 : Int32)) - (4 : Int32)) + (((p6.toUInt32 >>> ((2 : Int32) &&& 31).toUInt32).toInt32) &&& (1023 : Int32))), rv b466, iv 0] [.ref b466])
          refine own_st (fun t k => XS.iload X474.here hx rfl (hb hby at_163) rfl k) ?_
          show own_E p e below _ T474 (mkF m 165 #[iv p1, iv p2, iv p3, iv p4, iv p5, iv p6, iv 3, iv (p1 &&& (1073741823 : Int32)), iv (((p1 &&& (1073741823 : Int32)) + (1 : Int32)) + (p2 &&& (255 : Int32))), iv (((((p1 &&& (1073741823 : Int32)) + (1 : Int32)) + (p2 &&& (255 : Int32))) + (1 : Int32)) + (((p2.toUInt32 >>> ((8 : Int32) &&& 31).toUInt32).toInt32) &&& (255 : Int32))), iv (((p1 &&& (1073741823 : Int32)) - (4 : Int32)) + (((p6.toUInt32 >>> ((2 : Int32) &&& 31).toUInt32).toInt32) &&& (1023 : Int32))), rv b466, iv 0] [.int (((p1 &&& (1073741823 : Int32)) - (4 : Int32)) + (((p6.toUInt32 >>> ((2 : Int32) &&& 31).toUInt32).toInt32) &&& (1023 : Int32))), .ref b466])
          obtain ⟨cq1392, kq1392, q1392a, q1392b, q1392c⟩ := isOf hZ e474 P474_0
          obtain ⟨_, _, ⟨T1392, L1392, k1392, n1392⟩, -, X1392, ⟨Lc1392, hQ1392, l1392, y1392, z1392⟩, st1392⟩ := X474.virtualBack hx (y := own_y8) (z := own_y8) hown (mvT hZ (own_w hw 43 rfl)) (mvT hZ (own_w hw 44 rfl)) (notFace_of_selects (args := #[]) (mvT hZ (own_w hw 46 rfl))) (mvT hZ (own_w hw 46 rfl)) (mvT hZ (own_w hw 45 rfl)) (by decide) (backOf (W := 0) (own_freq3 l Z a0 hw [] b466 b474_o0 b474_o1 k474_o2 k474_o3 (((p1 &&& (1073741823 : Int32)) - (4 : Int32)) + (((p6.toUInt32 >>> ((2 : Int32) &&& 31).toUInt32).toInt32) &&& (1023 : Int32))) (p1 &&& (1073741823 : Int32)) (((p1 &&& (1073741823 : Int32)) + (1 : Int32)) + (p2 &&& (255 : Int32))) (((((p1 &&& (1073741823 : Int32)) + (1 : Int32)) + (p2 &&& (255 : Int32))) + (1 : Int32)) + (((p2.toUInt32 >>> ((8 : Int32) &&& 31).toUInt32).toInt32) &&& (255 : Int32))) (0 : Int32) p3 p4 p5 (0 : Int32) T474.heap n0 Z477 P474_1 P474_2 P474_5 P474_6 P474_7) hZ (own_w hw 47 rfl) (own_w hw 3 rfl) (by decide) (by decide)) q1392a q1392c (g := (mkF m 165 #[iv p1, iv p2, iv p3, iv p4, iv p5, iv p6, iv 3, iv (p1 &&& (1073741823 : Int32)), iv (((p1 &&& (1073741823 : Int32)) + (1 : Int32)) + (p2 &&& (255 : Int32))), iv (((((p1 &&& (1073741823 : Int32)) + (1 : Int32)) + (p2 &&& (255 : Int32))) + (1 : Int32)) + (((p2.toUInt32 >>> ((8 : Int32) &&& 31).toUInt32).toInt32) &&& (255 : Int32))), iv (((p1 &&& (1073741823 : Int32)) - (4 : Int32)) + (((p6.toUInt32 >>> ((2 : Int32) &&& 31).toUInt32).toInt32) &&& (1023 : Int32))), rv b466, iv 0] [.int (((p1 &&& (1073741823 : Int32)) - (4 : Int32)) + (((p6.toUInt32 >>> ((2 : Int32) &&& 31).toUInt32).toInt32) &&& (1023 : Int32))), .ref b466])) rfl (by rw [hml]; rfl) (Steps.refl _) (argsL := [(.int (((p1 &&& (1073741823 : Int32)) - (4 : Int32)) + (((p6.toUInt32 >>> ((2 : Int32) &&& 31).toUInt32).toInt32) &&& (1023 : Int32))))]) (rest := []) (lenOf own_pd_1 rfl) rfl (by show 2 * 0 + _ ≤ _; exact Nat.le_of_eq rfl) (hb hby at_165) (fun _ _ => ⟨rfl, e474, (by decide : 7 + 0 ≤ _), (by decide : 19 + 0 ≤ _)⟩)
          dsimp only [Pt.U, Pt.locs, Pt.cells, Pt.slots] at X1392 l1392 y1392 z1392 st1392 hQ1392
          subst l1392 y1392 z1392
          obtain ⟨hR1392, e1392, rfl⟩ := hQ1392
          have N1392 := Fr.app N474 (Fr.nil n0)
          rcases hR1392 with ⟨rfl, ha1392_0, ha1392_1⟩ | ⟨rfl, ha1392_0, ha1392_1, ha1392_2⟩ | ⟨rfl, ha1392_0, ha1392_1, ha1392_2⟩ | ⟨rfl, ha1392_0, ha1392_1, ha1392_2⟩ | ⟨rfl, ha1392_0, ha1392_1, ha1392_2, ha1392_3⟩ | ⟨rfl, ha1392_0, ha1392_1, ha1392_2, ha1392_3⟩ | ⟨rfl, ha1392_0, ha1392_1⟩
          · refine own_tr st1392 ?_
            show own_E p e below _ T1392 (mkF m 168 #[iv p1, iv p2, iv p3, iv p4, iv p5, iv p6, iv 3, iv (p1 &&& (1073741823 : Int32)), iv (((p1 &&& (1073741823 : Int32)) + (1 : Int32)) + (p2 &&& (255 : Int32))), iv (((((p1 &&& (1073741823 : Int32)) + (1 : Int32)) + (p2 &&& (255 : Int32))) + (1 : Int32)) + (((p2.toUInt32 >>> ((8 : Int32) &&& 31).toUInt32).toInt32) &&& (255 : Int32))), iv (((p1 &&& (1073741823 : Int32)) - (4 : Int32)) + (((p6.toUInt32 >>> ((2 : Int32) &&& 31).toUInt32).toInt32) &&& (1023 : Int32))), rv b466, iv 0] [.int 0])
            refine own_st (fun t k => XS.iload X1392.here hx rfl (hb hby at_168) rfl k) ?_
            show own_E p e below _ T1392 (mkF m 170 #[iv p1, iv p2, iv p3, iv p4, iv p5, iv p6, iv 3, iv (p1 &&& (1073741823 : Int32)), iv (((p1 &&& (1073741823 : Int32)) + (1 : Int32)) + (p2 &&& (255 : Int32))), iv (((((p1 &&& (1073741823 : Int32)) + (1 : Int32)) + (p2 &&& (255 : Int32))) + (1 : Int32)) + (((p2.toUInt32 >>> ((8 : Int32) &&& 31).toUInt32).toInt32) &&& (255 : Int32))), iv (((p1 &&& (1073741823 : Int32)) - (4 : Int32)) + (((p6.toUInt32 >>> ((2 : Int32) &&& 31).toUInt32).toInt32) &&& (1023 : Int32))), rv b466, iv 0] [.int 0, .int 0])
            refine own_st (fun t k => XS.icmpNo X1392.here hx rfl (hb hby at_170) rfl (by decide) k) ?_
            show own_E p e below _ T1392 (mkF m 173 #[iv p1, iv p2, iv p3, iv p4, iv p5, iv p6, iv 3, iv (p1 &&& (1073741823 : Int32)), iv (((p1 &&& (1073741823 : Int32)) + (1 : Int32)) + (p2 &&& (255 : Int32))), iv (((((p1 &&& (1073741823 : Int32)) + (1 : Int32)) + (p2 &&& (255 : Int32))) + (1 : Int32)) + (((p2.toUInt32 >>> ((8 : Int32) &&& 31).toUInt32).toInt32) &&& (255 : Int32))), iv (((p1 &&& (1073741823 : Int32)) - (4 : Int32)) + (((p6.toUInt32 >>> ((2 : Int32) &&& 31).toUInt32).toInt32) &&& (1023 : Int32))), rv b466, iv 0] [])
            refine own_st (fun t k => XS.iconst X1392.here hx rfl (hb hby at_173) k) ?_
            show own_E p e below _ T1392 (mkF m 174 #[iv p1, iv p2, iv p3, iv p4, iv p5, iv p6, iv 3, iv (p1 &&& (1073741823 : Int32)), iv (((p1 &&& (1073741823 : Int32)) + (1 : Int32)) + (p2 &&& (255 : Int32))), iv (((((p1 &&& (1073741823 : Int32)) + (1 : Int32)) + (p2 &&& (255 : Int32))) + (1 : Int32)) + (((p2.toUInt32 >>> ((8 : Int32) &&& 31).toUInt32).toInt32) &&& (255 : Int32))), iv (((p1 &&& (1073741823 : Int32)) - (4 : Int32)) + (((p6.toUInt32 >>> ((2 : Int32) &&& 31).toUInt32).toInt32) &&& (1023 : Int32))), rv b466, iv 0] [.int 1])
            refine own_st (fun t k => XS.goto X1392.here hx rfl (pc0 := 174) (pc' := 178) rfl (hb hby at_174) (by decide) (by decide) k) ?_
            show own_E p e below _ T1392 (mkF m 178 #[iv p1, iv p2, iv p3, iv p4, iv p5, iv p6, iv 3, iv (p1 &&& (1073741823 : Int32)), iv (((p1 &&& (1073741823 : Int32)) + (1 : Int32)) + (p2 &&& (255 : Int32))), iv (((((p1 &&& (1073741823 : Int32)) + (1 : Int32)) + (p2 &&& (255 : Int32))) + (1 : Int32)) + (((p2.toUInt32 >>> ((8 : Int32) &&& 31).toUInt32).toInt32) &&& (255 : Int32))), iv (((p1 &&& (1073741823 : Int32)) - (4 : Int32)) + (((p6.toUInt32 >>> ((2 : Int32) &&& 31).toUInt32).toInt32) &&& (1023 : Int32))), rv b466, iv 0] [.int 1])
            refine own_retS X1392 hx Bd.notSynchronized Bd.returns rfl (by decide) (hb hby at_178) (by decide) (by decide) ?_
            exact ⟨rfl, N1392⟩
          · refine own_tr st1392 ?_
            show own_E p e below _ T1392 (mkF m 168 #[iv p1, iv p2, iv p3, iv p4, iv p5, iv p6, iv 3, iv (p1 &&& (1073741823 : Int32)), iv (((p1 &&& (1073741823 : Int32)) + (1 : Int32)) + (p2 &&& (255 : Int32))), iv (((((p1 &&& (1073741823 : Int32)) + (1 : Int32)) + (p2 &&& (255 : Int32))) + (1 : Int32)) + (((p2.toUInt32 >>> ((8 : Int32) &&& 31).toUInt32).toInt32) &&& (255 : Int32))), iv (((p1 &&& (1073741823 : Int32)) - (4 : Int32)) + (((p6.toUInt32 >>> ((2 : Int32) &&& 31).toUInt32).toInt32) &&& (1023 : Int32))), rv b466, iv 0] [.int 0])
            refine own_st (fun t k => XS.iload X1392.here hx rfl (hb hby at_168) rfl k) ?_
            show own_E p e below _ T1392 (mkF m 170 #[iv p1, iv p2, iv p3, iv p4, iv p5, iv p6, iv 3, iv (p1 &&& (1073741823 : Int32)), iv (((p1 &&& (1073741823 : Int32)) + (1 : Int32)) + (p2 &&& (255 : Int32))), iv (((((p1 &&& (1073741823 : Int32)) + (1 : Int32)) + (p2 &&& (255 : Int32))) + (1 : Int32)) + (((p2.toUInt32 >>> ((8 : Int32) &&& 31).toUInt32).toInt32) &&& (255 : Int32))), iv (((p1 &&& (1073741823 : Int32)) - (4 : Int32)) + (((p6.toUInt32 >>> ((2 : Int32) &&& 31).toUInt32).toInt32) &&& (1023 : Int32))), rv b466, iv 0] [.int 0, .int 0])
            refine own_st (fun t k => XS.icmpNo X1392.here hx rfl (hb hby at_170) rfl (by decide) k) ?_
            show own_E p e below _ T1392 (mkF m 173 #[iv p1, iv p2, iv p3, iv p4, iv p5, iv p6, iv 3, iv (p1 &&& (1073741823 : Int32)), iv (((p1 &&& (1073741823 : Int32)) + (1 : Int32)) + (p2 &&& (255 : Int32))), iv (((((p1 &&& (1073741823 : Int32)) + (1 : Int32)) + (p2 &&& (255 : Int32))) + (1 : Int32)) + (((p2.toUInt32 >>> ((8 : Int32) &&& 31).toUInt32).toInt32) &&& (255 : Int32))), iv (((p1 &&& (1073741823 : Int32)) - (4 : Int32)) + (((p6.toUInt32 >>> ((2 : Int32) &&& 31).toUInt32).toInt32) &&& (1023 : Int32))), rv b466, iv 0] [])
            refine own_st (fun t k => XS.iconst X1392.here hx rfl (hb hby at_173) k) ?_
            show own_E p e below _ T1392 (mkF m 174 #[iv p1, iv p2, iv p3, iv p4, iv p5, iv p6, iv 3, iv (p1 &&& (1073741823 : Int32)), iv (((p1 &&& (1073741823 : Int32)) + (1 : Int32)) + (p2 &&& (255 : Int32))), iv (((((p1 &&& (1073741823 : Int32)) + (1 : Int32)) + (p2 &&& (255 : Int32))) + (1 : Int32)) + (((p2.toUInt32 >>> ((8 : Int32) &&& 31).toUInt32).toInt32) &&& (255 : Int32))), iv (((p1 &&& (1073741823 : Int32)) - (4 : Int32)) + (((p6.toUInt32 >>> ((2 : Int32) &&& 31).toUInt32).toInt32) &&& (1023 : Int32))), rv b466, iv 0] [.int 1])
            refine own_st (fun t k => XS.goto X1392.here hx rfl (pc0 := 174) (pc' := 178) rfl (hb hby at_174) (by decide) (by decide) k) ?_
            show own_E p e below _ T1392 (mkF m 178 #[iv p1, iv p2, iv p3, iv p4, iv p5, iv p6, iv 3, iv (p1 &&& (1073741823 : Int32)), iv (((p1 &&& (1073741823 : Int32)) + (1 : Int32)) + (p2 &&& (255 : Int32))), iv (((((p1 &&& (1073741823 : Int32)) + (1 : Int32)) + (p2 &&& (255 : Int32))) + (1 : Int32)) + (((p2.toUInt32 >>> ((8 : Int32) &&& 31).toUInt32).toInt32) &&& (255 : Int32))), iv (((p1 &&& (1073741823 : Int32)) - (4 : Int32)) + (((p6.toUInt32 >>> ((2 : Int32) &&& 31).toUInt32).toInt32) &&& (1023 : Int32))), rv b466, iv 0] [.int 1])
            refine own_retS X1392 hx Bd.notSynchronized Bd.returns rfl (by decide) (hb hby at_178) (by decide) (by decide) ?_
            exact ⟨rfl, N1392⟩
          · exfalso
            have f1393 := rng32 p6
            have f1394 : (3 : Int32).toInt = 3 := rfl
            have f1395 := rng32 (p6 &&& (3 : Int32))
            have f1396 : (p6 &&& (3 : Int32)).toInt = p6.toInt % 4 := c_mask p6 (3 : Int32) 2 (by decide) (by decide)
            have f1397 := rng32 p1
            have f1398 : (1073741823 : Int32).toInt = 1073741823 := rfl
            have f1399 := rng32 (p1 &&& (1073741823 : Int32))
            have f1400 : (p1 &&& (1073741823 : Int32)).toInt = p1.toInt % 1073741824 := c_mask p1 (1073741823 : Int32) 30 (by decide) (by decide)
            have f1401 : (4 : Int32).toInt = 4 := rfl
            have f1402 := rng32 ((p1 &&& (1073741823 : Int32)) - (4 : Int32))
            have f1403 : ((p1 &&& (1073741823 : Int32)) - (4 : Int32)).toInt = (p1 &&& (1073741823 : Int32)).toInt - (4 : Int32).toInt := by have h := c_isub (p1 &&& (1073741823 : Int32)) (4 : Int32); omega
            have f1404 : (2 : Int32).toInt = 2 := rfl
            have f1405 := rng32 ((p6.toUInt32 >>> ((2 : Int32) &&& 31).toUInt32).toInt32)
            have f1406 : ((p6.toUInt32 >>> ((2 : Int32) &&& 31).toUInt32).toInt32).toInt = (p6.toInt % 4294967296) / 4 := c_iushr p6 (2 : Int32) 2 (by decide) (by decide)
            have f1407 : (1023 : Int32).toInt = 1023 := rfl
            have f1408 := rng32 (((p6.toUInt32 >>> ((2 : Int32) &&& 31).toUInt32).toInt32) &&& (1023 : Int32))
            have f1409 : (((p6.toUInt32 >>> ((2 : Int32) &&& 31).toUInt32).toInt32) &&& (1023 : Int32)).toInt = ((p6.toUInt32 >>> ((2 : Int32) &&& 31).toUInt32).toInt32).toInt % 1024 := c_mask ((p6.toUInt32 >>> ((2 : Int32) &&& 31).toUInt32).toInt32) (1023 : Int32) 10 (by decide) (by decide)
            have f1410 := rng32 (((p1 &&& (1073741823 : Int32)) - (4 : Int32)) + (((p6.toUInt32 >>> ((2 : Int32) &&& 31).toUInt32).toInt32) &&& (1023 : Int32)))
            have f1411 : (((p1 &&& (1073741823 : Int32)) - (4 : Int32)) + (((p6.toUInt32 >>> ((2 : Int32) &&& 31).toUInt32).toInt32) &&& (1023 : Int32))).toInt = ((p1 &&& (1073741823 : Int32)) - (4 : Int32)).toInt + (((p6.toUInt32 >>> ((2 : Int32) &&& 31).toUInt32).toInt32) &&& (1023 : Int32)).toInt := by have h := c_iadd ((p1 &&& (1073741823 : Int32)) - (4 : Int32)) (((p6.toUInt32 >>> ((2 : Int32) &&& 31).toUInt32).toInt32) &&& (1023 : Int32)); omega
            have f1412 : (1 : Int32).toInt = 1 := rfl
            have f1413 := rng32 ((p1 &&& (1073741823 : Int32)) + (1 : Int32))
            have f1414 : ((p1 &&& (1073741823 : Int32)) + (1 : Int32)).toInt = (p1 &&& (1073741823 : Int32)).toInt + (1 : Int32).toInt := by have h := c_iadd (p1 &&& (1073741823 : Int32)) (1 : Int32); omega
            have f1415 := rng32 p2
            have f1416 : (255 : Int32).toInt = 255 := rfl
            have f1417 := rng32 (p2 &&& (255 : Int32))
            have f1418 : (p2 &&& (255 : Int32)).toInt = p2.toInt % 256 := c_mask p2 (255 : Int32) 8 (by decide) (by decide)
            have f1419 := rng32 (((p1 &&& (1073741823 : Int32)) + (1 : Int32)) + (p2 &&& (255 : Int32)))
            have f1420 : (((p1 &&& (1073741823 : Int32)) + (1 : Int32)) + (p2 &&& (255 : Int32))).toInt = ((p1 &&& (1073741823 : Int32)) + (1 : Int32)).toInt + (p2 &&& (255 : Int32)).toInt := by have h := c_iadd ((p1 &&& (1073741823 : Int32)) + (1 : Int32)) (p2 &&& (255 : Int32)); omega
            have f1421 := rng32 ((((p1 &&& (1073741823 : Int32)) + (1 : Int32)) + (p2 &&& (255 : Int32))) + (1 : Int32))
            have f1422 : ((((p1 &&& (1073741823 : Int32)) + (1 : Int32)) + (p2 &&& (255 : Int32))) + (1 : Int32)).toInt = (((p1 &&& (1073741823 : Int32)) + (1 : Int32)) + (p2 &&& (255 : Int32))).toInt + (1 : Int32).toInt := by have h := c_iadd (((p1 &&& (1073741823 : Int32)) + (1 : Int32)) + (p2 &&& (255 : Int32))) (1 : Int32); omega
            have f1423 : (8 : Int32).toInt = 8 := rfl
            have f1424 := rng32 ((p2.toUInt32 >>> ((8 : Int32) &&& 31).toUInt32).toInt32)
            have f1425 : ((p2.toUInt32 >>> ((8 : Int32) &&& 31).toUInt32).toInt32).toInt = (p2.toInt % 4294967296) / 256 := c_iushr p2 (8 : Int32) 8 (by decide) (by decide)
            have f1426 := rng32 (((p2.toUInt32 >>> ((8 : Int32) &&& 31).toUInt32).toInt32) &&& (255 : Int32))
            have f1427 : (((p2.toUInt32 >>> ((8 : Int32) &&& 31).toUInt32).toInt32) &&& (255 : Int32)).toInt = ((p2.toUInt32 >>> ((8 : Int32) &&& 31).toUInt32).toInt32).toInt % 256 := c_mask ((p2.toUInt32 >>> ((8 : Int32) &&& 31).toUInt32).toInt32) (255 : Int32) 8 (by decide) (by decide)
            have f1428 := rng32 (((((p1 &&& (1073741823 : Int32)) + (1 : Int32)) + (p2 &&& (255 : Int32))) + (1 : Int32)) + (((p2.toUInt32 >>> ((8 : Int32) &&& 31).toUInt32).toInt32) &&& (255 : Int32)))
            have f1429 : (((((p1 &&& (1073741823 : Int32)) + (1 : Int32)) + (p2 &&& (255 : Int32))) + (1 : Int32)) + (((p2.toUInt32 >>> ((8 : Int32) &&& 31).toUInt32).toInt32) &&& (255 : Int32))).toInt = ((((p1 &&& (1073741823 : Int32)) + (1 : Int32)) + (p2 &&& (255 : Int32))) + (1 : Int32)).toInt + (((p2.toUInt32 >>> ((8 : Int32) &&& 31).toUInt32).toInt32) &&& (255 : Int32)).toInt := by have h := c_iadd ((((p1 &&& (1073741823 : Int32)) + (1 : Int32)) + (p2 &&& (255 : Int32))) + (1 : Int32)) (((p2.toUInt32 >>> ((8 : Int32) &&& 31).toUInt32).toInt32) &&& (255 : Int32)); omega
            have g1430 := hs1
            rw [← Int32.toInt_inj] at g1430
            have g1431 := hc478
            rw [← Int32.toInt_inj] at g1431
            have g1432 := hc817
            rw [← Int32.toInt_inj] at g1432
            have g1433 := hc1126
            rw [← Int32.toInt_inj] at g1433
            have g1434 := ha1392_0
            rw [Int32.lt_iff_toInt_lt] at g1434
            have g1435 := ha1392_1
            rw [Int32.lt_iff_toInt_lt] at g1435
            have g1436 := ha1392_2
            rw [Int32.lt_iff_toInt_lt] at g1436
            omega
          · refine own_tr st1392 ?_
            show own_E p e below _ T1392 (mkF m 168 #[iv p1, iv p2, iv p3, iv p4, iv p5, iv p6, iv 3, iv (p1 &&& (1073741823 : Int32)), iv (((p1 &&& (1073741823 : Int32)) + (1 : Int32)) + (p2 &&& (255 : Int32))), iv (((((p1 &&& (1073741823 : Int32)) + (1 : Int32)) + (p2 &&& (255 : Int32))) + (1 : Int32)) + (((p2.toUInt32 >>> ((8 : Int32) &&& 31).toUInt32).toInt32) &&& (255 : Int32))), iv (((p1 &&& (1073741823 : Int32)) - (4 : Int32)) + (((p6.toUInt32 >>> ((2 : Int32) &&& 31).toUInt32).toInt32) &&& (1023 : Int32))), rv b466, iv 0] [.int 0])
            refine own_st (fun t k => XS.iload X1392.here hx rfl (hb hby at_168) rfl k) ?_
            show own_E p e below _ T1392 (mkF m 170 #[iv p1, iv p2, iv p3, iv p4, iv p5, iv p6, iv 3, iv (p1 &&& (1073741823 : Int32)), iv (((p1 &&& (1073741823 : Int32)) + (1 : Int32)) + (p2 &&& (255 : Int32))), iv (((((p1 &&& (1073741823 : Int32)) + (1 : Int32)) + (p2 &&& (255 : Int32))) + (1 : Int32)) + (((p2.toUInt32 >>> ((8 : Int32) &&& 31).toUInt32).toInt32) &&& (255 : Int32))), iv (((p1 &&& (1073741823 : Int32)) - (4 : Int32)) + (((p6.toUInt32 >>> ((2 : Int32) &&& 31).toUInt32).toInt32) &&& (1023 : Int32))), rv b466, iv 0] [.int 0, .int 0])
            refine own_st (fun t k => XS.icmpNo X1392.here hx rfl (hb hby at_170) rfl (by decide) k) ?_
            show own_E p e below _ T1392 (mkF m 173 #[iv p1, iv p2, iv p3, iv p4, iv p5, iv p6, iv 3, iv (p1 &&& (1073741823 : Int32)), iv (((p1 &&& (1073741823 : Int32)) + (1 : Int32)) + (p2 &&& (255 : Int32))), iv (((((p1 &&& (1073741823 : Int32)) + (1 : Int32)) + (p2 &&& (255 : Int32))) + (1 : Int32)) + (((p2.toUInt32 >>> ((8 : Int32) &&& 31).toUInt32).toInt32) &&& (255 : Int32))), iv (((p1 &&& (1073741823 : Int32)) - (4 : Int32)) + (((p6.toUInt32 >>> ((2 : Int32) &&& 31).toUInt32).toInt32) &&& (1023 : Int32))), rv b466, iv 0] [])
            refine own_st (fun t k => XS.iconst X1392.here hx rfl (hb hby at_173) k) ?_
            show own_E p e below _ T1392 (mkF m 174 #[iv p1, iv p2, iv p3, iv p4, iv p5, iv p6, iv 3, iv (p1 &&& (1073741823 : Int32)), iv (((p1 &&& (1073741823 : Int32)) + (1 : Int32)) + (p2 &&& (255 : Int32))), iv (((((p1 &&& (1073741823 : Int32)) + (1 : Int32)) + (p2 &&& (255 : Int32))) + (1 : Int32)) + (((p2.toUInt32 >>> ((8 : Int32) &&& 31).toUInt32).toInt32) &&& (255 : Int32))), iv (((p1 &&& (1073741823 : Int32)) - (4 : Int32)) + (((p6.toUInt32 >>> ((2 : Int32) &&& 31).toUInt32).toInt32) &&& (1023 : Int32))), rv b466, iv 0] [.int 1])
            refine own_st (fun t k => XS.goto X1392.here hx rfl (pc0 := 174) (pc' := 178) rfl (hb hby at_174) (by decide) (by decide) k) ?_
            show own_E p e below _ T1392 (mkF m 178 #[iv p1, iv p2, iv p3, iv p4, iv p5, iv p6, iv 3, iv (p1 &&& (1073741823 : Int32)), iv (((p1 &&& (1073741823 : Int32)) + (1 : Int32)) + (p2 &&& (255 : Int32))), iv (((((p1 &&& (1073741823 : Int32)) + (1 : Int32)) + (p2 &&& (255 : Int32))) + (1 : Int32)) + (((p2.toUInt32 >>> ((8 : Int32) &&& 31).toUInt32).toInt32) &&& (255 : Int32))), iv (((p1 &&& (1073741823 : Int32)) - (4 : Int32)) + (((p6.toUInt32 >>> ((2 : Int32) &&& 31).toUInt32).toInt32) &&& (1023 : Int32))), rv b466, iv 0] [.int 1])
            refine own_retS X1392 hx Bd.notSynchronized Bd.returns rfl (by decide) (hb hby at_178) (by decide) (by decide) ?_
            exact ⟨rfl, N1392⟩
          · refine own_tr st1392 ?_
            show own_E p e below _ T1392 (mkF m 168 #[iv p1, iv p2, iv p3, iv p4, iv p5, iv p6, iv 3, iv (p1 &&& (1073741823 : Int32)), iv (((p1 &&& (1073741823 : Int32)) + (1 : Int32)) + (p2 &&& (255 : Int32))), iv (((((p1 &&& (1073741823 : Int32)) + (1 : Int32)) + (p2 &&& (255 : Int32))) + (1 : Int32)) + (((p2.toUInt32 >>> ((8 : Int32) &&& 31).toUInt32).toInt32) &&& (255 : Int32))), iv (((p1 &&& (1073741823 : Int32)) - (4 : Int32)) + (((p6.toUInt32 >>> ((2 : Int32) &&& 31).toUInt32).toInt32) &&& (1023 : Int32))), rv b466, iv 0] [.int 0])
            refine own_st (fun t k => XS.iload X1392.here hx rfl (hb hby at_168) rfl k) ?_
            show own_E p e below _ T1392 (mkF m 170 #[iv p1, iv p2, iv p3, iv p4, iv p5, iv p6, iv 3, iv (p1 &&& (1073741823 : Int32)), iv (((p1 &&& (1073741823 : Int32)) + (1 : Int32)) + (p2 &&& (255 : Int32))), iv (((((p1 &&& (1073741823 : Int32)) + (1 : Int32)) + (p2 &&& (255 : Int32))) + (1 : Int32)) + (((p2.toUInt32 >>> ((8 : Int32) &&& 31).toUInt32).toInt32) &&& (255 : Int32))), iv (((p1 &&& (1073741823 : Int32)) - (4 : Int32)) + (((p6.toUInt32 >>> ((2 : Int32) &&& 31).toUInt32).toInt32) &&& (1023 : Int32))), rv b466, iv 0] [.int 0, .int 0])
            refine own_st (fun t k => XS.icmpNo X1392.here hx rfl (hb hby at_170) rfl (by decide) k) ?_
            show own_E p e below _ T1392 (mkF m 173 #[iv p1, iv p2, iv p3, iv p4, iv p5, iv p6, iv 3, iv (p1 &&& (1073741823 : Int32)), iv (((p1 &&& (1073741823 : Int32)) + (1 : Int32)) + (p2 &&& (255 : Int32))), iv (((((p1 &&& (1073741823 : Int32)) + (1 : Int32)) + (p2 &&& (255 : Int32))) + (1 : Int32)) + (((p2.toUInt32 >>> ((8 : Int32) &&& 31).toUInt32).toInt32) &&& (255 : Int32))), iv (((p1 &&& (1073741823 : Int32)) - (4 : Int32)) + (((p6.toUInt32 >>> ((2 : Int32) &&& 31).toUInt32).toInt32) &&& (1023 : Int32))), rv b466, iv 0] [])
            refine own_st (fun t k => XS.iconst X1392.here hx rfl (hb hby at_173) k) ?_
            show own_E p e below _ T1392 (mkF m 174 #[iv p1, iv p2, iv p3, iv p4, iv p5, iv p6, iv 3, iv (p1 &&& (1073741823 : Int32)), iv (((p1 &&& (1073741823 : Int32)) + (1 : Int32)) + (p2 &&& (255 : Int32))), iv (((((p1 &&& (1073741823 : Int32)) + (1 : Int32)) + (p2 &&& (255 : Int32))) + (1 : Int32)) + (((p2.toUInt32 >>> ((8 : Int32) &&& 31).toUInt32).toInt32) &&& (255 : Int32))), iv (((p1 &&& (1073741823 : Int32)) - (4 : Int32)) + (((p6.toUInt32 >>> ((2 : Int32) &&& 31).toUInt32).toInt32) &&& (1023 : Int32))), rv b466, iv 0] [.int 1])
            refine own_st (fun t k => XS.goto X1392.here hx rfl (pc0 := 174) (pc' := 178) rfl (hb hby at_174) (by decide) (by decide) k) ?_
            show own_E p e below _ T1392 (mkF m 178 #[iv p1, iv p2, iv p3, iv p4, iv p5, iv p6, iv 3, iv (p1 &&& (1073741823 : Int32)), iv (((p1 &&& (1073741823 : Int32)) + (1 : Int32)) + (p2 &&& (255 : Int32))), iv (((((p1 &&& (1073741823 : Int32)) + (1 : Int32)) + (p2 &&& (255 : Int32))) + (1 : Int32)) + (((p2.toUInt32 >>> ((8 : Int32) &&& 31).toUInt32).toInt32) &&& (255 : Int32))), iv (((p1 &&& (1073741823 : Int32)) - (4 : Int32)) + (((p6.toUInt32 >>> ((2 : Int32) &&& 31).toUInt32).toInt32) &&& (1023 : Int32))), rv b466, iv 0] [.int 1])
            refine own_retS X1392 hx Bd.notSynchronized Bd.returns rfl (by decide) (hb hby at_178) (by decide) (by decide) ?_
            exact ⟨rfl, N1392⟩
          · exfalso
            have f1437 := rng32 p6
            have f1438 : (3 : Int32).toInt = 3 := rfl
            have f1439 := rng32 (p6 &&& (3 : Int32))
            have f1440 : (p6 &&& (3 : Int32)).toInt = p6.toInt % 4 := c_mask p6 (3 : Int32) 2 (by decide) (by decide)
            have f1441 := rng32 p1
            have f1442 : (1073741823 : Int32).toInt = 1073741823 := rfl
            have f1443 := rng32 (p1 &&& (1073741823 : Int32))
            have f1444 : (p1 &&& (1073741823 : Int32)).toInt = p1.toInt % 1073741824 := c_mask p1 (1073741823 : Int32) 30 (by decide) (by decide)
            have f1445 : (4 : Int32).toInt = 4 := rfl
            have f1446 := rng32 ((p1 &&& (1073741823 : Int32)) - (4 : Int32))
            have f1447 : ((p1 &&& (1073741823 : Int32)) - (4 : Int32)).toInt = (p1 &&& (1073741823 : Int32)).toInt - (4 : Int32).toInt := by have h := c_isub (p1 &&& (1073741823 : Int32)) (4 : Int32); omega
            have f1448 : (2 : Int32).toInt = 2 := rfl
            have f1449 := rng32 ((p6.toUInt32 >>> ((2 : Int32) &&& 31).toUInt32).toInt32)
            have f1450 : ((p6.toUInt32 >>> ((2 : Int32) &&& 31).toUInt32).toInt32).toInt = (p6.toInt % 4294967296) / 4 := c_iushr p6 (2 : Int32) 2 (by decide) (by decide)
            have f1451 : (1023 : Int32).toInt = 1023 := rfl
            have f1452 := rng32 (((p6.toUInt32 >>> ((2 : Int32) &&& 31).toUInt32).toInt32) &&& (1023 : Int32))
            have f1453 : (((p6.toUInt32 >>> ((2 : Int32) &&& 31).toUInt32).toInt32) &&& (1023 : Int32)).toInt = ((p6.toUInt32 >>> ((2 : Int32) &&& 31).toUInt32).toInt32).toInt % 1024 := c_mask ((p6.toUInt32 >>> ((2 : Int32) &&& 31).toUInt32).toInt32) (1023 : Int32) 10 (by decide) (by decide)
            have f1454 := rng32 (((p1 &&& (1073741823 : Int32)) - (4 : Int32)) + (((p6.toUInt32 >>> ((2 : Int32) &&& 31).toUInt32).toInt32) &&& (1023 : Int32)))
            have f1455 : (((p1 &&& (1073741823 : Int32)) - (4 : Int32)) + (((p6.toUInt32 >>> ((2 : Int32) &&& 31).toUInt32).toInt32) &&& (1023 : Int32))).toInt = ((p1 &&& (1073741823 : Int32)) - (4 : Int32)).toInt + (((p6.toUInt32 >>> ((2 : Int32) &&& 31).toUInt32).toInt32) &&& (1023 : Int32)).toInt := by have h := c_iadd ((p1 &&& (1073741823 : Int32)) - (4 : Int32)) (((p6.toUInt32 >>> ((2 : Int32) &&& 31).toUInt32).toInt32) &&& (1023 : Int32)); omega
            have f1456 : (1 : Int32).toInt = 1 := rfl
            have f1457 := rng32 ((p1 &&& (1073741823 : Int32)) + (1 : Int32))
            have f1458 : ((p1 &&& (1073741823 : Int32)) + (1 : Int32)).toInt = (p1 &&& (1073741823 : Int32)).toInt + (1 : Int32).toInt := by have h := c_iadd (p1 &&& (1073741823 : Int32)) (1 : Int32); omega
            have f1459 := rng32 p2
            have f1460 : (255 : Int32).toInt = 255 := rfl
            have f1461 := rng32 (p2 &&& (255 : Int32))
            have f1462 : (p2 &&& (255 : Int32)).toInt = p2.toInt % 256 := c_mask p2 (255 : Int32) 8 (by decide) (by decide)
            have f1463 := rng32 (((p1 &&& (1073741823 : Int32)) + (1 : Int32)) + (p2 &&& (255 : Int32)))
            have f1464 : (((p1 &&& (1073741823 : Int32)) + (1 : Int32)) + (p2 &&& (255 : Int32))).toInt = ((p1 &&& (1073741823 : Int32)) + (1 : Int32)).toInt + (p2 &&& (255 : Int32)).toInt := by have h := c_iadd ((p1 &&& (1073741823 : Int32)) + (1 : Int32)) (p2 &&& (255 : Int32)); omega
            have f1465 := rng32 ((((p1 &&& (1073741823 : Int32)) + (1 : Int32)) + (p2 &&& (255 : Int32))) + (1 : Int32))
            have f1466 : ((((p1 &&& (1073741823 : Int32)) + (1 : Int32)) + (p2 &&& (255 : Int32))) + (1 : Int32)).toInt = (((p1 &&& (1073741823 : Int32)) + (1 : Int32)) + (p2 &&& (255 : Int32))).toInt + (1 : Int32).toInt := by have h := c_iadd (((p1 &&& (1073741823 : Int32)) + (1 : Int32)) + (p2 &&& (255 : Int32))) (1 : Int32); omega
            have f1467 : (8 : Int32).toInt = 8 := rfl
            have f1468 := rng32 ((p2.toUInt32 >>> ((8 : Int32) &&& 31).toUInt32).toInt32)
            have f1469 : ((p2.toUInt32 >>> ((8 : Int32) &&& 31).toUInt32).toInt32).toInt = (p2.toInt % 4294967296) / 256 := c_iushr p2 (8 : Int32) 8 (by decide) (by decide)
            have f1470 := rng32 (((p2.toUInt32 >>> ((8 : Int32) &&& 31).toUInt32).toInt32) &&& (255 : Int32))
            have f1471 : (((p2.toUInt32 >>> ((8 : Int32) &&& 31).toUInt32).toInt32) &&& (255 : Int32)).toInt = ((p2.toUInt32 >>> ((8 : Int32) &&& 31).toUInt32).toInt32).toInt % 256 := c_mask ((p2.toUInt32 >>> ((8 : Int32) &&& 31).toUInt32).toInt32) (255 : Int32) 8 (by decide) (by decide)
            have f1472 := rng32 (((((p1 &&& (1073741823 : Int32)) + (1 : Int32)) + (p2 &&& (255 : Int32))) + (1 : Int32)) + (((p2.toUInt32 >>> ((8 : Int32) &&& 31).toUInt32).toInt32) &&& (255 : Int32)))
            have f1473 : (((((p1 &&& (1073741823 : Int32)) + (1 : Int32)) + (p2 &&& (255 : Int32))) + (1 : Int32)) + (((p2.toUInt32 >>> ((8 : Int32) &&& 31).toUInt32).toInt32) &&& (255 : Int32))).toInt = ((((p1 &&& (1073741823 : Int32)) + (1 : Int32)) + (p2 &&& (255 : Int32))) + (1 : Int32)).toInt + (((p2.toUInt32 >>> ((8 : Int32) &&& 31).toUInt32).toInt32) &&& (255 : Int32)).toInt := by have h := c_iadd ((((p1 &&& (1073741823 : Int32)) + (1 : Int32)) + (p2 &&& (255 : Int32))) + (1 : Int32)) (((p2.toUInt32 >>> ((8 : Int32) &&& 31).toUInt32).toInt32) &&& (255 : Int32)); omega
            have g1474 := hs1
            rw [← Int32.toInt_inj] at g1474
            have g1475 := hc478
            rw [← Int32.toInt_inj] at g1475
            have g1476 := hc817
            rw [← Int32.toInt_inj] at g1476
            have g1477 := hc1126
            rw [← Int32.toInt_inj] at g1477
            have g1478 := ha1392_0
            rw [Int32.lt_iff_toInt_lt] at g1478
            have g1479 := ha1392_1
            rw [Int32.lt_iff_toInt_lt] at g1479
            have g1480 := ha1392_2
            rw [Int32.lt_iff_toInt_lt] at g1480
            have g1481 := ha1392_3
            rw [Int32.lt_iff_toInt_lt] at g1481
            omega
          · exfalso
            have f1482 := rng32 p6
            have f1483 : (3 : Int32).toInt = 3 := rfl
            have f1484 := rng32 (p6 &&& (3 : Int32))
            have f1485 : (p6 &&& (3 : Int32)).toInt = p6.toInt % 4 := c_mask p6 (3 : Int32) 2 (by decide) (by decide)
            have f1486 := rng32 p1
            have f1487 : (1073741823 : Int32).toInt = 1073741823 := rfl
            have f1488 := rng32 (p1 &&& (1073741823 : Int32))
            have f1489 : (p1 &&& (1073741823 : Int32)).toInt = p1.toInt % 1073741824 := c_mask p1 (1073741823 : Int32) 30 (by decide) (by decide)
            have f1490 : (4 : Int32).toInt = 4 := rfl
            have f1491 := rng32 ((p1 &&& (1073741823 : Int32)) - (4 : Int32))
            have f1492 : ((p1 &&& (1073741823 : Int32)) - (4 : Int32)).toInt = (p1 &&& (1073741823 : Int32)).toInt - (4 : Int32).toInt := by have h := c_isub (p1 &&& (1073741823 : Int32)) (4 : Int32); omega
            have f1493 : (2 : Int32).toInt = 2 := rfl
            have f1494 := rng32 ((p6.toUInt32 >>> ((2 : Int32) &&& 31).toUInt32).toInt32)
            have f1495 : ((p6.toUInt32 >>> ((2 : Int32) &&& 31).toUInt32).toInt32).toInt = (p6.toInt % 4294967296) / 4 := c_iushr p6 (2 : Int32) 2 (by decide) (by decide)
            have f1496 : (1023 : Int32).toInt = 1023 := rfl
            have f1497 := rng32 (((p6.toUInt32 >>> ((2 : Int32) &&& 31).toUInt32).toInt32) &&& (1023 : Int32))
            have f1498 : (((p6.toUInt32 >>> ((2 : Int32) &&& 31).toUInt32).toInt32) &&& (1023 : Int32)).toInt = ((p6.toUInt32 >>> ((2 : Int32) &&& 31).toUInt32).toInt32).toInt % 1024 := c_mask ((p6.toUInt32 >>> ((2 : Int32) &&& 31).toUInt32).toInt32) (1023 : Int32) 10 (by decide) (by decide)
            have f1499 := rng32 (((p1 &&& (1073741823 : Int32)) - (4 : Int32)) + (((p6.toUInt32 >>> ((2 : Int32) &&& 31).toUInt32).toInt32) &&& (1023 : Int32)))
            have f1500 : (((p1 &&& (1073741823 : Int32)) - (4 : Int32)) + (((p6.toUInt32 >>> ((2 : Int32) &&& 31).toUInt32).toInt32) &&& (1023 : Int32))).toInt = ((p1 &&& (1073741823 : Int32)) - (4 : Int32)).toInt + (((p6.toUInt32 >>> ((2 : Int32) &&& 31).toUInt32).toInt32) &&& (1023 : Int32)).toInt := by have h := c_iadd ((p1 &&& (1073741823 : Int32)) - (4 : Int32)) (((p6.toUInt32 >>> ((2 : Int32) &&& 31).toUInt32).toInt32) &&& (1023 : Int32)); omega
            have f1501 : (1 : Int32).toInt = 1 := rfl
            have f1502 := rng32 ((p1 &&& (1073741823 : Int32)) + (1 : Int32))
            have f1503 : ((p1 &&& (1073741823 : Int32)) + (1 : Int32)).toInt = (p1 &&& (1073741823 : Int32)).toInt + (1 : Int32).toInt := by have h := c_iadd (p1 &&& (1073741823 : Int32)) (1 : Int32); omega
            have f1504 := rng32 p2
            have f1505 : (255 : Int32).toInt = 255 := rfl
            have f1506 := rng32 (p2 &&& (255 : Int32))
            have f1507 : (p2 &&& (255 : Int32)).toInt = p2.toInt % 256 := c_mask p2 (255 : Int32) 8 (by decide) (by decide)
            have f1508 := rng32 (((p1 &&& (1073741823 : Int32)) + (1 : Int32)) + (p2 &&& (255 : Int32)))
            have f1509 : (((p1 &&& (1073741823 : Int32)) + (1 : Int32)) + (p2 &&& (255 : Int32))).toInt = ((p1 &&& (1073741823 : Int32)) + (1 : Int32)).toInt + (p2 &&& (255 : Int32)).toInt := by have h := c_iadd ((p1 &&& (1073741823 : Int32)) + (1 : Int32)) (p2 &&& (255 : Int32)); omega
            have f1510 := rng32 ((((p1 &&& (1073741823 : Int32)) + (1 : Int32)) + (p2 &&& (255 : Int32))) + (1 : Int32))
            have f1511 : ((((p1 &&& (1073741823 : Int32)) + (1 : Int32)) + (p2 &&& (255 : Int32))) + (1 : Int32)).toInt = (((p1 &&& (1073741823 : Int32)) + (1 : Int32)) + (p2 &&& (255 : Int32))).toInt + (1 : Int32).toInt := by have h := c_iadd (((p1 &&& (1073741823 : Int32)) + (1 : Int32)) + (p2 &&& (255 : Int32))) (1 : Int32); omega
            have f1512 : (8 : Int32).toInt = 8 := rfl
            have f1513 := rng32 ((p2.toUInt32 >>> ((8 : Int32) &&& 31).toUInt32).toInt32)
            have f1514 : ((p2.toUInt32 >>> ((8 : Int32) &&& 31).toUInt32).toInt32).toInt = (p2.toInt % 4294967296) / 256 := c_iushr p2 (8 : Int32) 8 (by decide) (by decide)
            have f1515 := rng32 (((p2.toUInt32 >>> ((8 : Int32) &&& 31).toUInt32).toInt32) &&& (255 : Int32))
            have f1516 : (((p2.toUInt32 >>> ((8 : Int32) &&& 31).toUInt32).toInt32) &&& (255 : Int32)).toInt = ((p2.toUInt32 >>> ((8 : Int32) &&& 31).toUInt32).toInt32).toInt % 256 := c_mask ((p2.toUInt32 >>> ((8 : Int32) &&& 31).toUInt32).toInt32) (255 : Int32) 8 (by decide) (by decide)
            have f1517 := rng32 (((((p1 &&& (1073741823 : Int32)) + (1 : Int32)) + (p2 &&& (255 : Int32))) + (1 : Int32)) + (((p2.toUInt32 >>> ((8 : Int32) &&& 31).toUInt32).toInt32) &&& (255 : Int32)))
            have f1518 : (((((p1 &&& (1073741823 : Int32)) + (1 : Int32)) + (p2 &&& (255 : Int32))) + (1 : Int32)) + (((p2.toUInt32 >>> ((8 : Int32) &&& 31).toUInt32).toInt32) &&& (255 : Int32))).toInt = ((((p1 &&& (1073741823 : Int32)) + (1 : Int32)) + (p2 &&& (255 : Int32))) + (1 : Int32)).toInt + (((p2.toUInt32 >>> ((8 : Int32) &&& 31).toUInt32).toInt32) &&& (255 : Int32)).toInt := by have h := c_iadd ((((p1 &&& (1073741823 : Int32)) + (1 : Int32)) + (p2 &&& (255 : Int32))) + (1 : Int32)) (((p2.toUInt32 >>> ((8 : Int32) &&& 31).toUInt32).toInt32) &&& (255 : Int32)); omega
            have g1519 := hs1
            rw [← Int32.toInt_inj] at g1519
            have g1520 := hc478
            rw [← Int32.toInt_inj] at g1520
            have g1521 := hc817
            rw [← Int32.toInt_inj] at g1521
            have g1522 := hc1126
            rw [← Int32.toInt_inj] at g1522
            have g1523 := ha1392_0
            rw [Int32.lt_iff_toInt_lt] at g1523
            have g1524 := ha1392_1
            rw [Int32.lt_iff_toInt_lt] at g1524
            omega
set_option maxRecDepth 65536 in
set_option maxHeartbeats 40000000 in
theorem comes_1 {Post : Tables → Env → Array Value → State → Outcome → State → Prop} (hpost : ∀ tb e args s v u, (limb_1_1.after args s (.returned v) u = true ∧ limb_1_2.after args s (.returned v) u = true ∧ True) → FrameEnd s (.returned v) u (Jvm.fieldLocs frame_1_writes args s ++ Jvm.arrayLocs frame_1_arrays args s ++ Jvm.staticLocs frame_1_statics s) 24 128 → Post tb e args s (.returned v) u) :
    ArmFor flags0 classFile x code maxLocals ret World_1 tables_1 room_1 Calls_1 rest_1 Pre_1 Post := by
  intro l hfl _ _ p e ha hc hk s m args below hf hA hF happ hP
  obtain ⟨hcalls, hrest, hpre⟩ := hP
  obtain ⟨-, -, -, hnamed, -, -, -, hat⟩ := (Spec.applies_iff hf).mp happ
  obtain ⟨hg, hn⟩ := and_e (Cond.before_iff.mp (show (Jvm.Cond.and given_1 narrow_1).before args s = true from hpre))
  obtain ⟨hg0, hg1⟩ := and_e hg
  obtain ⟨hv0, hg2⟩ := and_e hg1
  obtain ⟨hv1, hg3⟩ := and_e hg2
  obtain ⟨hv2, hg4⟩ := and_e hg3
  obtain ⟨hv3, hg5⟩ := and_e hg4
  obtain ⟨hv4, hg6⟩ := and_e hg5
  have hv5 := hg6
  obtain ⟨w0, w1, w2, w3, w4, w5, rfl⟩ : ∃ w0 w1 w2 w3 w4 w5 : Value, args = #[w0, w1, w2, w3, w4, w5] := by
    have hs : args.size = 6 := by simpa [Cond.value, given_1] using hg0
    obtain ⟨L⟩ := args
    match L, hs with
    | [w0, w1, w2, w3, w4, w5], _ => exact ⟨w0, w1, w2, w3, w4, w5, rfl⟩
  have hw := fun d (hd : d ∈ tables_1) => atoms_spec (ws := Jvm.Cond.code x code maxLocals ret :: tables_1) hat d (List.mem_cons_of_mem _ hd)
  have hfit : Fit s := fun {y c} hc i hi => by
    obtain ⟨ha, rfl⟩ := Array.getElem?_eq_some_iff.mp hc
    have q := List.all_eq_true.mp ((Array.all_eq_true_iff_forall_mem.mp hF) _ (Array.getElem_mem ha)) i (List.mem_range.mpr hi)
    simpa [Array.getElem?_eq_getElem hi] using q
  obtain ⟨i0, ev0⟩ := is_v hv0
  obtain rfl : w0 = (.int i0) := Option.some.inj ev0
  obtain ⟨i1, ev1⟩ := is_v hv1
  obtain rfl : w1 = (.int i1) := Option.some.inj ev1
  obtain ⟨i2, ev2⟩ := is_v hv2
  obtain rfl : w2 = (.int i2) := Option.some.inj ev2
  obtain ⟨i3, ev3⟩ := is_v hv3
  obtain rfl : w3 = (.int i3) := Option.some.inj ev3
  obtain ⟨i4, ev4⟩ := is_v hv4
  obtain rfl : w4 = (.int i4) := Option.some.inj ev4
  obtain ⟨i5, ev5⟩ := is_v hv5
  obtain rfl : w5 = (.int i5) := Option.some.inj ev5
  obtain ⟨n, o, h1, h2, h3, _, L, rfl, ⟨rfl, N⟩, hq⟩ := own_law l s _ hw tables_1 i0 i1 i2 i3 i4 i5 s.heap s.heap.size (Nat.le_refl _)  p e ha hc hk s m _ below hf ((Spec.applies_iff_loose hf).mp happ).1 ⟨rfl, State.Warmed39.refl s, rfl⟩ trivial
  refine ⟨n, _, h1, h2, h3, hpost _ _ _ _ _ _ ⟨Cond.after_iff.mpr rfl, Cond.after_iff.mpr (eq_i res_at (Term.int_eval (1)) rfl), trivial⟩ ⟨hq.1, hq.2.1, (hq.2.2.sift fun y hy => Or.inr (N y hy)).mono (by decide) (by decide)⟩⟩
theorem main_1_1 : Claimed_1_1 := comes_1 fun _ _ _ _ _ _ h hF => ⟨h.1, hF⟩
theorem main_1_2 : Claimed_1_2 := comes_1 fun _ _ _ _ _ _ h hF => ⟨h.2.1, hF⟩
end Jvm.Pilot.@@N@@
namespace Jvm.Pilot.@@N@@
open Jvm Jvm.ClassFile Sem Op Lib Jvm.Free Jvm.Stand Jvm.Pilot.@@N@@.Jvm.D
/-! MADE BY PROGRAM (witnessworld.py) out of the Statement's table words and the real class files: 12 classes; the members and pool entries that the words name. The judged class is class 1, her method 1. -/
namespace start1
open Jvm.ClassFile
def u (s : String) : CpInfo := .utf8 (stringToUtf16 s)
/-- a pool by its gaps: so many unusable entries, then the entry; so many at the end -/
def gap : Nat → List CpInfo → List CpInfo
  | 0, r => r
  | n + 1, r => .unusable :: gap n r
def poolList (es : List (Nat × CpInfo)) (last : Nat) : List CpInfo := es.foldr (fun e r => gap e.1 (e.2 :: r)) (gap last [])
def pool (es : List (Nat × CpInfo)) (last : Nat) : Array CpInfo := ⟨poolList es last⟩
def fileOf (pool : Array CpInfo) (this : Nat) (attrs : Array Attribute := #[]) (ms : Array MethodInfo := #[]) (fl : Nat := 33) (sup : Nat := 0) (ifs : Array Nat := #[]) (fds : Array FieldInfo := #[]) : ClassFile where
  minorVersion := 0
  majorVersion := 65
  constantPool := pool
  accessFlags := fl
  thisClass := this
  superClass := sup
  interfaces := ifs
  fields := fds
  methods := ms
  attributes := attrs
def plain (name : String) (sup : Option ClassId) : Class where
  name := name
  kind := .ordinary
  loader := none
  accessFlags := 33
  super := sup
  interfaces := #[]
  cf := none
  fields := #[]
  methods := #[]
  instanceTypes := #[]
  staticTypes := #[]
  resolved := #[]
  callSites := []
  init := .initialized
  statics := none
  mirror := none

def pool0 : Array CpInfo := pool [(5, u "<init>"), (0, u "()V"), (1, .class_ 10), (1, u "java/lang/Object")] 113

def k0c0 : Code := { maxStack := 0, maxLocals := 1, code := object_method_1_code, exceptionTable := #[], attributes := #[] }
def k0m0 : Method := { name := "<init>", desc := "()V", sig := { parameters := [], returnType := none }, accessFlags := 1, code := some k0c0 }
/-- java/lang/Object -/
def k0 : Class := { plain "java/lang/Object" none with
  accessFlags := 33
  interfaces := #[]
  cf := some (fileOf pool0 8 #[] #[{ accessFlags := 1, nameIndex := 5, descriptorIndex := 6, attributes := #[] }] 33 0 #[] #[])
  fields := #[]
  methods := #[k0m0]
  instanceTypes := #[]
  staticTypes := #[]
  resolved := Array.replicate 124 none
  statics := none }

def pool1 : Array CpInfo := pool [(2, .class_ 4), (0, .nameAndType 5 6), (0, u "java/lang/Object"), (0, u "<init>"), (0, u "()V"), (0, .integer 1073741823), (0, .class_ 9), (0, u "com/example/lean_scorer/leanscorer/Postings"), (0, .methodref 8 3), (0, .methodref 8 12), (0, .nameAndType 13 14), (0, u "add"), (0, u "(III)V"), (0, .methodref 8 16), (0, .nameAndType 17 18), (0, u "frequency"), (0, u "(I)I"), (0, .class_ 20), (0, u "com/example/lean_scorer/leanscorer/PostingsFrequencyPinLaw"), (2, u "law"), (0, u "(IIIIII)Z")] 3

def k1m0 : Method := { name := "<init>", desc := "()V", sig := { parameters := [], returnType := none }, accessFlags := 1, code := none }
def k1c1 : Code := { maxStack := 4, maxLocals := 13, code := code, exceptionTable := #[], attributes := #[] }
def k1m1 : Method := { name := "law", desc := "(IIIIII)Z", sig := { parameters := [.int, .int, .int, .int, .int, .int], returnType := some .boolean }, accessFlags := 9, code := some k1c1 }
/-- com/example/lean_scorer/leanscorer/PostingsFrequencyPinLaw -/
def k1 : Class := { plain "com/example/lean_scorer/leanscorer/PostingsFrequencyPinLaw" (some 0) with
  accessFlags := 49
  interfaces := #[]
  cf := some (fileOf pool1 19 #[] #[{ accessFlags := 1, nameIndex := 5, descriptorIndex := 6, attributes := #[] }, { accessFlags := 9, nameIndex := 23, descriptorIndex := 24, attributes := #[] }] 49 2 #[] #[])
  fields := #[]
  methods := #[k1m0, k1m1]
  instanceTypes := #[]
  staticTypes := #[]
  resolved := Array.replicate 28 none
  statics := none }

def pool2 : Array CpInfo := pool [(1, .methodref 2 3), (0, .class_ 4), (0, .nameAndType 5 6), (0, u "java/lang/Object"), (0, u "<init>"), (0, u "()V"), (0, .fieldref 8 9), (0, .class_ 10), (0, .nameAndType 11 12), (0, u "com/example/lean_scorer/leanscorer/Postings"), (0, u "documents"), (0, u "[I"), (0, .fieldref 8 14), (0, .nameAndType 15 12), (0, u "frequencies"), (2, .integer 2147483647), (0, .fieldref 8 20), (0, .nameAndType 21 22), (0, u "minLength"), (0, u "I"), (0, .fieldref 8 24), (0, .nameAndType 25 22), (0, u "size"), (0, .methodref 27 28), (0, .class_ 29), (0, .nameAndType 30 31), (0, u "java/util/Arrays"), (0, u "copyOf"), (0, u "([II)[I"), (0, .fieldref 8 33), (0, .nameAndType 34 22), (0, u "maxFrequency"), (0, .methodref 36 37), (0, .class_ 38), (0, .nameAndType 39 40), (0, u "java/lang/Math"), (0, u "max"), (0, u "(II)I"), (0, .methodref 36 42), (0, .nameAndType 43 40), (0, u "min"), (0, .methodref 27 45), (0, .nameAndType 46 47), (0, u "binarySearch"), (0, u "([IIII)I"), (7, u "add"), (0, u "(III)V"), (1, u "frequency"), (0, u "(I)I")] 4

def k2c0 : Code := { maxStack := 2, maxLocals := 1, code := prog_14_method_1_code, exceptionTable := #[], attributes := #[] }
def k2m0 : Method := { name := "<init>", desc := "()V", sig := { parameters := [], returnType := none }, accessFlags := 0, code := some k2c0 }
def k2c1 : Code := { maxStack := 4, maxLocals := 4, code := prog_14_method_2_code, exceptionTable := #[], attributes := #[] }
def k2m1 : Method := { name := "add", desc := "(III)V", sig := { parameters := [.int, .int, .int], returnType := none }, accessFlags := 0, code := some k2c1 }
def k2c2 : Code := { maxStack := 4, maxLocals := 3, code := prog_14_method_3_code, exceptionTable := #[], attributes := #[] }
def k2m2 : Method := { name := "frequency", desc := "(I)I", sig := { parameters := [.int], returnType := some .int }, accessFlags := 0, code := some k2c2 }
/-- com/example/lean_scorer/leanscorer/Postings -/
def k2 : Class := { plain "com/example/lean_scorer/leanscorer/Postings" (some 0) with
  accessFlags := 48
  interfaces := #[]
  cf := some (fileOf pool2 8 #[] #[{ accessFlags := 0, nameIndex := 5, descriptorIndex := 6, attributes := #[] }, { accessFlags := 0, nameIndex := 55, descriptorIndex := 56, attributes := #[] }, { accessFlags := 0, nameIndex := 58, descriptorIndex := 59, attributes := #[] }] 48 2 #[] #[{ accessFlags := 0, nameIndex := 11, descriptorIndex := 12, attributes := #[] }, { accessFlags := 0, nameIndex := 15, descriptorIndex := 12, attributes := #[] }, { accessFlags := 0, nameIndex := 25, descriptorIndex := 22, attributes := #[] }, { accessFlags := 0, nameIndex := 34, descriptorIndex := 22, attributes := #[] }, { accessFlags := 0, nameIndex := 21, descriptorIndex := 22, attributes := #[] }])
  fields := #[{ name := "documents", type := (.array .int), accessFlags := 0, slot := 0, constantValue := 0 }, { name := "frequencies", type := (.array .int), accessFlags := 0, slot := 1, constantValue := 0 }, { name := "size", type := .int, accessFlags := 0, slot := 2, constantValue := 0 }, { name := "maxFrequency", type := .int, accessFlags := 0, slot := 3, constantValue := 0 }, { name := "minLength", type := .int, accessFlags := 0, slot := 4, constantValue := 0 }]
  methods := #[k2m0, k2m1, k2m2]
  instanceTypes := #[(.array .int), (.array .int), .int, .int, .int]
  staticTypes := #[]
  resolved := Array.replicate 64 none
  statics := none }

def pool3 : Array CpInfo := pool [(1, .class_ 2), (0, u "java/lang/Math"), (1, .class_ 6), (1, u "java/lang/Object"), (0, u "<init>"), (0, u "()V"), (89, .class_ 100), (1, u "java/lang/Math$RandomNumberGeneratorHolder"), (71, u "negativeZeroFloatBits"), (0, u "J"), (2, u "negativeZeroDoubleBits"), (21, u "max"), (2, u "min"), (43, u "$assertionsDisabled"), (0, u "Z"), (88, u "(II)I"), (2, u "twoToTheDoubleScaleDown"), (0, u "D"), (4, u "twoToTheDoubleScaleUp"), (9, u "E"), (3, u "PI"), (2, u "TAU"), (2, u "DEGREES_TO_RADIANS"), (0, u "RADIANS_TO_DEGREES")] 94

def k3m0 : Method := { name := "<init>", desc := "()V", sig := { parameters := [], returnType := none }, accessFlags := 2, code := none }
def k3c1 : Code := { maxStack := 2, maxLocals := 2, code := jdk_29_method_65_code, exceptionTable := #[], attributes := #[] }
def k3m1 : Method := { name := "max", desc := "(II)I", sig := { parameters := [.int, .int], returnType := some .int }, accessFlags := 9, code := some k3c1 }
def k3c2 : Code := { maxStack := 2, maxLocals := 2, code := jdk_29_method_69_code, exceptionTable := #[], attributes := #[] }
def k3m2 : Method := { name := "min", desc := "(II)I", sig := { parameters := [.int, .int], returnType := some .int }, accessFlags := 9, code := some k3c2 }
/-- java/lang/Math -/
def k3 : Class := { plain "java/lang/Math" (some 0) with
  accessFlags := 49
  interfaces := #[]
  cf := some (fileOf pool3 1 #[.nestMembers #[98]] #[{ accessFlags := 2, nameIndex := 7, descriptorIndex := 8, attributes := #[] }, { accessFlags := 9, nameIndex := 198, descriptorIndex := 335, attributes := #[] }, { accessFlags := 9, nameIndex := 201, descriptorIndex := 335, attributes := #[] }] 49 4 #[] #[{ accessFlags := 25, nameIndex := 354, descriptorIndex := 339, attributes := #[] }, { accessFlags := 25, nameIndex := 358, descriptorIndex := 339, attributes := #[] }, { accessFlags := 25, nameIndex := 361, descriptorIndex := 339, attributes := #[] }, { accessFlags := 26, nameIndex := 364, descriptorIndex := 339, attributes := #[] }, { accessFlags := 26, nameIndex := 365, descriptorIndex := 339, attributes := #[] }, { accessFlags := 26, nameIndex := 172, descriptorIndex := 173, attributes := #[] }, { accessFlags := 26, nameIndex := 176, descriptorIndex := 173, attributes := #[] }, { accessFlags := 8, nameIndex := 344, descriptorIndex := 339, attributes := #[] }, { accessFlags := 8, nameIndex := 338, descriptorIndex := 339, attributes := #[] }, { accessFlags := 4120, nameIndex := 245, descriptorIndex := 246, attributes := #[] }])
  fields := #[{ name := "E", type := .double, accessFlags := 25, slot := 0, constantValue := 0 }, { name := "PI", type := .double, accessFlags := 25, slot := 1, constantValue := 0 }, { name := "TAU", type := .double, accessFlags := 25, slot := 2, constantValue := 0 }, { name := "DEGREES_TO_RADIANS", type := .double, accessFlags := 26, slot := 3, constantValue := 0 }, { name := "RADIANS_TO_DEGREES", type := .double, accessFlags := 26, slot := 4, constantValue := 0 }, { name := "negativeZeroFloatBits", type := .long, accessFlags := 26, slot := 5, constantValue := 0 }, { name := "negativeZeroDoubleBits", type := .long, accessFlags := 26, slot := 6, constantValue := 0 }, { name := "twoToTheDoubleScaleUp", type := .double, accessFlags := 8, slot := 7, constantValue := 0 }, { name := "twoToTheDoubleScaleDown", type := .double, accessFlags := 8, slot := 8, constantValue := 0 }, { name := "$assertionsDisabled", type := .boolean, accessFlags := 4120, slot := 9, constantValue := 0 }]
  methods := #[k3m0, k3m1, k3m2]
  instanceTypes := #[]
  staticTypes := #[.double, .double, .double, .double, .double, .long, .long, .double, .double, .boolean]
  resolved := Array.replicate 460 none
  statics := none }

def pool4 : Array CpInfo := pool [(2, .class_ 4), (1, u "java/lang/Object"), (0, u "<init>"), (0, u "()V"), (6, .methodref 14 15), (0, .class_ 16), (0, .nameAndType 17 18), (0, u "java/util/Arrays"), (0, u "rangeCheck"), (0, u "(III)V"), (55, .class_ 76), (1, u "java/util/Arrays$NaturalOrder"), (36, .class_ 115), (1, u "java/util/Arrays$LegacyMergeSort"), (1, u "Z"), (32, .methodref 151 152), (0, .class_ 153), (0, .nameAndType 154 155), (0, u "java/lang/System"), (0, u "arraycopy"), (0, u "(Ljava/lang/Object;ILjava/lang/Object;II)V"), (51, u "binarySearch0"), (1, .methodref 14 210), (0, .nameAndType 207 211), (0, u "([IIII)I"), (90, u "copyOf"), (1, .methodref 305 306), (0, .class_ 307), (0, .nameAndType 308 309), (0, u "java/lang/Math"), (0, u "min"), (0, u "(II)I"), (65, .class_ 376), (0, u "java/util/Arrays$ArrayList"), (68, u "$assertionsDisabled"), (269, u "MIN_ARRAY_SORT_GRAN"), (0, u "I"), (2, u "INSERTIONSORT_THRESHOLD"), (74, u "binarySearch"), (76, u "([II)[I"), (103, .class_ 976), (0, u "java/util/Arrays$ArrayItr")] 52

def k4m0 : Method := { name := "<init>", desc := "()V", sig := { parameters := [], returnType := none }, accessFlags := 2, code := none }
def k4c1 : Code := { maxStack := 4, maxLocals := 3, code := jdk_65_method_30_code, exceptionTable := #[], attributes := #[] }
def k4m1 : Method := { name := "rangeCheck", desc := "(III)V", sig := { parameters := [.int, .int, .int], returnType := none }, accessFlags := 8, code := some k4c1 }
def k4c2 : Code := { maxStack := 4, maxLocals := 4, code := jdk_65_method_58_code, exceptionTable := #[], attributes := #[] }
def k4m2 : Method := { name := "binarySearch", desc := "([IIII)I", sig := { parameters := [(.array .int), .int, .int, .int], returnType := some .int }, accessFlags := 9, code := some k4c2 }
def k4c3 : Code := { maxStack := 2, maxLocals := 8, code := jdk_65_method_59_code, exceptionTable := #[], attributes := #[] }
def k4m3 : Method := { name := "binarySearch0", desc := "([IIII)I", sig := { parameters := [(.array .int), .int, .int, .int], returnType := some .int }, accessFlags := 10, code := some k4c3 }
def k4c4 : Code := { maxStack := 6, maxLocals := 3, code := jdk_65_method_123_code, exceptionTable := #[], attributes := #[] }
def k4m4 : Method := { name := "copyOf", desc := "([II)[I", sig := { parameters := [(.array .int), .int], returnType := some (.array .int) }, accessFlags := 9, code := some k4c4 }
/-- java/util/Arrays -/
def k4 : Class := { plain "java/util/Arrays" (some 0) with
  accessFlags := 49
  interfaces := #[]
  cf := some (fileOf pool4 14 #[.nestMembers #[975, 375, 113, 74]] #[{ accessFlags := 2, nameIndex := 5, descriptorIndex := 6, attributes := #[] }, { accessFlags := 8, nameIndex := 17, descriptorIndex := 18, attributes := #[] }, { accessFlags := 9, nameIndex := 794, descriptorIndex := 211, attributes := #[] }, { accessFlags := 10, nameIndex := 207, descriptorIndex := 211, attributes := #[] }, { accessFlags := 9, nameIndex := 302, descriptorIndex := 871, attributes := #[] }] 49 2 #[] #[{ accessFlags := 26, nameIndex := 715, descriptorIndex := 716, attributes := #[] }, { accessFlags := 26, nameIndex := 719, descriptorIndex := 716, attributes := #[] }, { accessFlags := 4120, nameIndex := 445, descriptorIndex := 117, attributes := #[] }])
  fields := #[{ name := "MIN_ARRAY_SORT_GRAN", type := .int, accessFlags := 26, slot := 0, constantValue := 0 }, { name := "INSERTIONSORT_THRESHOLD", type := .int, accessFlags := 26, slot := 1, constantValue := 0 }, { name := "$assertionsDisabled", type := .boolean, accessFlags := 4120, slot := 2, constantValue := 0 }]
  methods := #[k4m0, k4m1, k4m2, k4m3, k4m4]
  instanceTypes := #[]
  staticTypes := #[.int, .int, .boolean]
  resolved := Array.replicate 1029 none
  statics := none }

def pool5 : Array CpInfo := pool [(2, .class_ 4), (1, u "java/lang/Object"), (0, u "<init>"), (0, u "()V"), (1, .class_ 10), (1, u "java/lang/System"), (0, u "allowSecurityManager"), (0, u "I"), (16, u "cons"), (0, u "Ljava/io/Console;"), (77, .class_ 110), (1, u "java/lang/System$CallersHolder"), (43, u "initialErrStream"), (0, u "Ljava/io/PrintStream;"), (19, u "security"), (0, u "Ljava/lang/SecurityManager;"), (31, .class_ 209), (0, u "java/lang/System$1"), (7, u "props"), (0, u "Ljava/util/Properties;"), (2, u "lineSeparator"), (0, u "Ljava/lang/String;"), (96, .class_ 321), (1, u "java/lang/System$LoggerFinder"), (5, .class_ 328), (0, u "java/lang/System$Logger"), (67, u "err"), (2, u "out"), (91, u "notSupportedJnuEncoding"), (15, u "in"), (17, u "initialIn"), (0, u "Ljava/io/InputStream;"), (35, u "bootLayer"), (0, u "Ljava/lang/ModuleLayer;"), (99, .class_ 664), (0, u "java/lang/System$2"), (9, u "NEVER"), (2, u "MAYBE"), (49, u "arraycopy"), (0, u "(Ljava/lang/Object;ILjava/lang/Object;II)V"), (72, .class_ 802), (0, u "java/lang/System$Logger$Level")] 31

def k5m0 : Method := { name := "<init>", desc := "()V", sig := { parameters := [], returnType := none }, accessFlags := 2, code := none }
def k5m1 : Method := { name := "arraycopy", desc := "(Ljava/lang/Object;ILjava/lang/Object;II)V", sig := { parameters := [(.object "java/lang/Object"), .int, (.object "java/lang/Object"), .int, .int], returnType := none }, accessFlags := 265, code := none }
/-- java/lang/System -/
def k5 : Class := { plain "java/lang/System" (some 0) with
  accessFlags := 49
  interfaces := #[]
  cf := some (fileOf pool5 8 #[.nestMembers #[319, 327, 801, 108, 663, 208]] #[{ accessFlags := 2, nameIndex := 5, descriptorIndex := 6, attributes := #[] }, { accessFlags := 265, nameIndex := 727, descriptorIndex := 728, attributes := #[] }] 49 2 #[] #[{ accessFlags := 25, nameIndex := 507, descriptorIndex := 526, attributes := #[] }, { accessFlags := 25, nameIndex := 399, descriptorIndex := 155, attributes := #[] }, { accessFlags := 25, nameIndex := 396, descriptorIndex := 155, attributes := #[] }, { accessFlags := 10, nameIndex := 525, descriptorIndex := 526, attributes := #[] }, { accessFlags := 26, nameIndex := 674, descriptorIndex := 12, attributes := #[] }, { accessFlags := 26, nameIndex := 677, descriptorIndex := 12, attributes := #[] }, { accessFlags := 10, nameIndex := 11, descriptorIndex := 12, attributes := #[] }, { accessFlags := 74, nameIndex := 175, descriptorIndex := 176, attributes := #[] }, { accessFlags := 10, nameIndex := 491, descriptorIndex := 222, attributes := #[] }, { accessFlags := 74, nameIndex := 29, descriptorIndex := 30, attributes := #[] }, { accessFlags := 74, nameIndex := 154, descriptorIndex := 155, attributes := #[] }, { accessFlags := 10, nameIndex := 217, descriptorIndex := 218, attributes := #[] }, { accessFlags := 10, nameIndex := 221, descriptorIndex := 222, attributes := #[] }, { accessFlags := 8, nameIndex := 562, descriptorIndex := 563, attributes := #[] }])
  fields := #[{ name := "in", type := (.object "java/io/InputStream"), accessFlags := 25, slot := 0, constantValue := 0 }, { name := "out", type := (.object "java/io/PrintStream"), accessFlags := 25, slot := 1, constantValue := 0 }, { name := "err", type := (.object "java/io/PrintStream"), accessFlags := 25, slot := 2, constantValue := 0 }, { name := "initialIn", type := (.object "java/io/InputStream"), accessFlags := 10, slot := 3, constantValue := 0 }, { name := "NEVER", type := .int, accessFlags := 26, slot := 4, constantValue := 0 }, { name := "MAYBE", type := .int, accessFlags := 26, slot := 5, constantValue := 0 }, { name := "allowSecurityManager", type := .int, accessFlags := 10, slot := 6, constantValue := 0 }, { name := "security", type := (.object "java/lang/SecurityManager"), accessFlags := 74, slot := 7, constantValue := 0 }, { name := "notSupportedJnuEncoding", type := (.object "java/lang/String"), accessFlags := 10, slot := 8, constantValue := 0 }, { name := "cons", type := (.object "java/io/Console"), accessFlags := 74, slot := 9, constantValue := 0 }, { name := "initialErrStream", type := (.object "java/io/PrintStream"), accessFlags := 74, slot := 10, constantValue := 0 }, { name := "props", type := (.object "java/util/Properties"), accessFlags := 10, slot := 11, constantValue := 0 }, { name := "lineSeparator", type := (.object "java/lang/String"), accessFlags := 10, slot := 12, constantValue := 0 }, { name := "bootLayer", type := (.object "java/lang/ModuleLayer"), accessFlags := 8, slot := 13, constantValue := 0 }]
  methods := #[k5m0, k5m1]
  instanceTypes := #[]
  staticTypes := #[(.object "java/io/InputStream"), (.object "java/io/PrintStream"), (.object "java/io/PrintStream"), (.object "java/io/InputStream"), .int, .int, .int, (.object "java/lang/SecurityManager"), (.object "java/lang/String"), (.object "java/io/Console"), (.object "java/io/PrintStream"), (.object "java/util/Properties"), (.object "java/lang/String"), (.object "java/lang/ModuleLayer")]
  resolved := Array.replicate 834 none
  statics := none }

def pool6 : Array CpInfo := pool [(1, u "java/lang/Cloneable"), (0, .class_ 1), (0, u "java/lang/Object"), (0, .class_ 3)] 3

/-- java/lang/Cloneable -/
def k6 : Class := { plain "java/lang/Cloneable" (some 0) with
  accessFlags := 1537
  interfaces := #[]
  cf := some (fileOf pool6 2 #[] #[] 1537 4 #[] #[])
  fields := #[]
  methods := #[]
  instanceTypes := #[]
  staticTypes := #[]
  resolved := Array.replicate 8 none
  statics := none }

def pool7 : Array CpInfo := pool [(1, u "java/io/Serializable"), (0, .class_ 1), (0, u "java/lang/Object"), (0, .class_ 3)] 3

/-- java/io/Serializable -/
def k7 : Class := { plain "java/io/Serializable" (some 0) with
  accessFlags := 1537
  interfaces := #[]
  cf := some (fileOf pool7 2 #[] #[] 1537 4 #[] #[])
  fields := #[]
  methods := #[]
  instanceTypes := #[]
  staticTypes := #[]
  resolved := Array.replicate 8 none
  statics := none }

/-- the primitive byte -/
def k8 : Class := { plain "byte" none with kind := .primitive 'B', accessFlags := 0x411 }
/-- [B -/
def k9 : Class := { plain "[B" (some 0) with kind := .array 8 .byte, interfaces := #[6, 7], accessFlags := 1041 }

/-- the primitive int -/
def k10 : Class := { plain "int" none with kind := .primitive 'I', accessFlags := 0x411 }
/-- [I -/
def k11 : Class := { plain "[I" (some 0) with kind := .array 10 .int, interfaces := #[6, 7], accessFlags := 1041 }

def heap : Heap := #[]
def classes : Array Class := #[k0, k1, k2, k3, k4, k5, k6, k7, k8, k9, k10, k11]
def interned : List (Array UInt16 × Addr) := []
def slotsUsed : Nat := 0
def theMethod : MethodId := ⟨1, 1⟩
def args0 : Array Value := #[.int 1, .int 2, .int 3, .int 4, .int 5, .int 6]
def aboutOver (below : List Frame) : State where
  vm := { classes := classes, interned := interned.toArray }
  heap := heap
  slotsUsed := slotsUsed
  threads := #[{ frames := .invoking theMethod args0 :: below }]
def below0 : List Frame := [.native { method := ⟨0, 0⟩, args := #[] }]
def about1 : State := aboutOver below0
def p0 : Program := .bare "" "" ""
def e0 : Env := launch0.env 0 0 0
theorem w_frames : about1.frames = Frame.invoking theMethod args0 :: below0 := rfl
set_option maxRecDepth 65536 in
theorem w_args : argsFit about1.vm theMethod args0 = true := by decide +kernel
set_option maxRecDepth 65536 in
theorem w_heap : heapFits about1 = true := by decide +kernel
set_option maxRecDepth 65536 in
theorem w_runnable : about1.curStatus? = some .runnable := by decide +kernel
set_option maxRecDepth 65536 in
theorem w_alone : about1.alone = true := by decide +kernel
set_option maxRecDepth 65536 in
theorem w_named : about1.methodNamed? x = some theMethod := by decide +kernel
set_option maxRecDepth 65536 in
theorem w_hears : about1.hears theMethod below0 = true := by decide +kernel
set_option maxRecDepth 65536 in
theorem w_ripe : about1.ripe theMethod args0 below0 = true := by decide +kernel
theorem w_running : about1.status = .running := rfl
set_option maxRecDepth 65536 in
theorem w_room : about1.hasRoom e0.platform room_1 = true :=
  launch0.hasRoom_least _ room_1 (by decide +kernel) (by decide +kernel) (by decide +kernel) (by decide +kernel) (by decide +kernel) (by decide +kernel)
theorem allAtoms_all (ts : List Jvm.Cond) (a : Array Jvm.Value) (st : Jvm.State) : (allAtoms ts).before a st = ts.all (fun c => c.before a st) := by
  induction ts with
  | nil => rfl
  | cons c t ih =>
    show (Jvm.Cond.and c (allAtoms t)).before a st = _
    rw [Jvm.Cond.before_and, ih, List.all_cons]
def words1 : List Jvm.Cond := Jvm.Cond.code x code maxLocals ret :: tables_1
/-- a 'code' word, met by the world's own term for the bytes: nothing is compared byte by byte -/
theorem code_word {y : MethodName} {bytes : ByteArray} {mx : Nat} {rt : Option FieldType} {a : Array Value} {s : State} {m : MethodId} {meth : Method} {c : Code} (h1 : s.methodNamed? y = some m) (h2 : s.vm.method? m = some meth) (h3 : meth.code = some c) (h4 : c.code = bytes)
    (h5 : (c.maxLocals == mx && c.exceptionTable.isEmpty && decide (c.maxStack ≤ mostOperands) && decide (meth.sig.returnType = rt) && !meth.locks && decide (parseMethodDescriptor y.desc = some meth.sig)) = true) : (Jvm.Cond.code y bytes mx rt).before a s = true := by
  simp only [Bool.and_eq_true, beq_iff_eq, Bool.not_eq_true', decide_eq_true_eq] at h5
  obtain ⟨⟨⟨⟨⟨g1, g2⟩, g3⟩, g4⟩, g5⟩, g6⟩ := h5
  simp [Cond.before, Cond.holds, Cond.value, h1, h2, h3, h4, g1, g2, g3, g4, g5, g6]
def isCode : Jvm.Cond → Bool
  | .code _ _ _ _ => true
  | _ => false
theorem all_split {L : List Jvm.Cond} {P : Jvm.Cond → Bool} (h1 : L.all (fun c => isCode c || P c) = true) (h2 : ∀ c ∈ L.filter isCode, P c = true) : L.all P = true := by
  refine List.all_eq_true.mpr fun c hc => ?_
  have h := List.all_eq_true.mp h1 c hc
  rcases Bool.eq_false_or_eq_true (isCode c) with hi | hi
  · exact h2 c (List.mem_filter.mpr ⟨hc, hi⟩)
  · simpa [hi] using h
set_option maxRecDepth 65536 in
theorem w_c0 : (Jvm.Cond.code x code maxLocals ret).before args0 about1 = true := code_word (m := ⟨1, 1⟩) (meth := k1m1) (c := k1c1) (by decide +kernel) rfl rfl rfl (by decide +kernel)
set_option maxRecDepth 65536 in
theorem w_c1 : (Jvm.Cond.code ({ cls := "com/example/lean_scorer/leanscorer/Postings", name := "<init>", desc := "()V" } : Jvm.MethodName) prog_14_method_1_code (1 : Nat) (Option.none : Option Jvm.ClassFile.FieldType)).before args0 about1 = true := code_word (m := ⟨2, 0⟩) (meth := k2m0) (c := k2c0) (by decide +kernel) rfl rfl rfl (by decide +kernel)
set_option maxRecDepth 65536 in
theorem w_c2 : (Jvm.Cond.code ({ cls := "java/lang/Object", name := "<init>", desc := "()V" } : Jvm.MethodName) object_method_1_code (1 : Nat) (Option.none : Option Jvm.ClassFile.FieldType)).before args0 about1 = true := code_word (m := ⟨0, 0⟩) (meth := k0m0) (c := k0c0) (by decide +kernel) rfl rfl rfl (by decide +kernel)
set_option maxRecDepth 65536 in
theorem w_c3 : (Jvm.Cond.code ({ cls := "com/example/lean_scorer/leanscorer/Postings", name := "add", desc := "(III)V" } : Jvm.MethodName) prog_14_method_2_code (4 : Nat) (Option.none : Option Jvm.ClassFile.FieldType)).before args0 about1 = true := code_word (m := ⟨2, 1⟩) (meth := k2m1) (c := k2c1) (by decide +kernel) rfl rfl rfl (by decide +kernel)
set_option maxRecDepth 65536 in
theorem w_c4 : (Jvm.Cond.code ({ cls := "java/lang/Math", name := "max", desc := "(II)I" } : Jvm.MethodName) jdk_29_method_65_code (2 : Nat) (Option.some Jvm.ClassFile.FieldType.int)).before args0 about1 = true := code_word (m := ⟨3, 1⟩) (meth := k3m1) (c := k3c1) (by decide +kernel) rfl rfl rfl (by decide +kernel)
set_option maxRecDepth 65536 in
theorem w_c5 : (Jvm.Cond.code ({ cls := "java/lang/Math", name := "min", desc := "(II)I" } : Jvm.MethodName) jdk_29_method_69_code (2 : Nat) (Option.some Jvm.ClassFile.FieldType.int)).before args0 about1 = true := code_word (m := ⟨3, 2⟩) (meth := k3m2) (c := k3c2) (by decide +kernel) rfl rfl rfl (by decide +kernel)
set_option maxRecDepth 65536 in
theorem w_c6 : (Jvm.Cond.code ({ cls := "java/util/Arrays", name := "copyOf", desc := "([II)[I" } : Jvm.MethodName) jdk_65_method_123_code (3 : Nat) (Option.some (Jvm.ClassFile.FieldType.array Jvm.ClassFile.FieldType.int))).before args0 about1 = true := code_word (m := ⟨4, 4⟩) (meth := k4m4) (c := k4c4) (by decide +kernel) rfl rfl rfl (by decide +kernel)
set_option maxRecDepth 65536 in
theorem w_c7 : (Jvm.Cond.code ({ cls := "com/example/lean_scorer/leanscorer/Postings", name := "frequency", desc := "(I)I" } : Jvm.MethodName) prog_14_method_3_code (3 : Nat) (Option.some Jvm.ClassFile.FieldType.int)).before args0 about1 = true := code_word (m := ⟨2, 2⟩) (meth := k2m2) (c := k2c2) (by decide +kernel) rfl rfl rfl (by decide +kernel)
set_option maxRecDepth 65536 in
theorem w_c8 : (Jvm.Cond.code ({ cls := "java/util/Arrays", name := "binarySearch", desc := "([IIII)I" } : Jvm.MethodName) jdk_65_method_58_code (4 : Nat) (Option.some Jvm.ClassFile.FieldType.int)).before args0 about1 = true := code_word (m := ⟨4, 2⟩) (meth := k4m2) (c := k4c2) (by decide +kernel) rfl rfl rfl (by decide +kernel)
set_option maxRecDepth 65536 in
theorem w_c9 : (Jvm.Cond.code ({ cls := "java/util/Arrays", name := "rangeCheck", desc := "(III)V" } : Jvm.MethodName) jdk_65_method_30_code (3 : Nat) (Option.none : Option Jvm.ClassFile.FieldType)).before args0 about1 = true := code_word (m := ⟨4, 1⟩) (meth := k4m1) (c := k4c1) (by decide +kernel) rfl rfl rfl (by decide +kernel)
set_option maxRecDepth 65536 in
theorem w_c10 : (Jvm.Cond.code ({ cls := "java/util/Arrays", name := "binarySearch0", desc := "([IIII)I" } : Jvm.MethodName) jdk_65_method_59_code (8 : Nat) (Option.some Jvm.ClassFile.FieldType.int)).before args0 about1 = true := code_word (m := ⟨4, 3⟩) (meth := k4m3) (c := k4c3) (by decide +kernel) rfl rfl rfl (by decide +kernel)
def codes1 : List Jvm.Cond := [Jvm.Cond.code x code maxLocals ret, Jvm.Cond.code ({ cls := "com/example/lean_scorer/leanscorer/Postings", name := "<init>", desc := "()V" } : Jvm.MethodName) prog_14_method_1_code (1 : Nat) (Option.none : Option Jvm.ClassFile.FieldType), Jvm.Cond.code ({ cls := "java/lang/Object", name := "<init>", desc := "()V" } : Jvm.MethodName) object_method_1_code (1 : Nat) (Option.none : Option Jvm.ClassFile.FieldType), Jvm.Cond.code ({ cls := "com/example/lean_scorer/leanscorer/Postings", name := "add", desc := "(III)V" } : Jvm.MethodName) prog_14_method_2_code (4 : Nat) (Option.none : Option Jvm.ClassFile.FieldType), Jvm.Cond.code ({ cls := "java/lang/Math", name := "max", desc := "(II)I" } : Jvm.MethodName) jdk_29_method_65_code (2 : Nat) (Option.some Jvm.ClassFile.FieldType.int), Jvm.Cond.code ({ cls := "java/lang/Math", name := "min", desc := "(II)I" } : Jvm.MethodName) jdk_29_method_69_code (2 : Nat) (Option.some Jvm.ClassFile.FieldType.int), Jvm.Cond.code ({ cls := "java/util/Arrays", name := "copyOf", desc := "([II)[I" } : Jvm.MethodName) jdk_65_method_123_code (3 : Nat) (Option.some (Jvm.ClassFile.FieldType.array Jvm.ClassFile.FieldType.int)), Jvm.Cond.code ({ cls := "com/example/lean_scorer/leanscorer/Postings", name := "frequency", desc := "(I)I" } : Jvm.MethodName) prog_14_method_3_code (3 : Nat) (Option.some Jvm.ClassFile.FieldType.int), Jvm.Cond.code ({ cls := "java/util/Arrays", name := "binarySearch", desc := "([IIII)I" } : Jvm.MethodName) jdk_65_method_58_code (4 : Nat) (Option.some Jvm.ClassFile.FieldType.int), Jvm.Cond.code ({ cls := "java/util/Arrays", name := "rangeCheck", desc := "(III)V" } : Jvm.MethodName) jdk_65_method_30_code (3 : Nat) (Option.none : Option Jvm.ClassFile.FieldType), Jvm.Cond.code ({ cls := "java/util/Arrays", name := "binarySearch0", desc := "([IIII)I" } : Jvm.MethodName) jdk_65_method_59_code (8 : Nat) (Option.some Jvm.ClassFile.FieldType.int)]
set_option maxRecDepth 65536 in
theorem codes_eq : words1.filter isCode = codes1 := rfl
theorem w_codes : ∀ c ∈ words1.filter isCode, c.before args0 about1 = true := by
  rw [codes_eq]
  intro c hc
  simp only [codes1, List.mem_cons, List.not_mem_nil, or_false] at hc
  rcases hc with rfl | rfl | rfl | rfl | rfl | rfl | rfl | rfl | rfl | rfl | rfl
  · exact w_c0
  · exact w_c1
  · exact w_c2
  · exact w_c3
  · exact w_c4
  · exact w_c5
  · exact w_c6
  · exact w_c7
  · exact w_c8
  · exact w_c9
  · exact w_c10
set_option maxRecDepth 65536 in
theorem w_t1 : (words1.take 24).all (fun c => isCode c || c.before args0 about1) = true := by decide +kernel
set_option maxRecDepth 65536 in
theorem w_t2 : ((words1.drop 24).take 24).all (fun c => isCode c || c.before args0 about1) = true := by decide +kernel
set_option maxRecDepth 65536 in
theorem w_t3 : ((words1.drop 24).drop 24).all (fun c => isCode c || c.before args0 about1) = true := by decide +kernel
theorem w_tables : (allAtoms (Jvm.Cond.code x code maxLocals ret :: tables_1)).before args0 about1 = true := by
  rw [allAtoms_all]
  show words1.all (fun c => c.before args0 about1) = true
  refine all_split ?_ w_codes
  rw [← List.take_append_drop 24 words1, List.all_append, w_t1, ← List.take_append_drop 24 (words1.drop 24), List.all_append, w_t2, w_t3]
  rfl
set_option maxRecDepth 65536 in
theorem w_case : (Jvm.Cond.and given_1 narrow_1).before args0 about1 = true := by decide +kernel
theorem w_applies : (headSpec (Jvm.Cond.code x code maxLocals ret :: tables_1) room_1).applies x e0.platform about1 = true :=
  (Spec.applies_iff w_frames).mpr ⟨w_running, w_runnable, w_alone, w_named, w_hears, w_ripe, w_room, w_tables⟩
theorem atStart : AtStart classFile x code maxLocals ret World_1 tables_1 room_1 Calls_1 rest_1 Pre_1 launch0 p0 e0 about1 theMethod args0 below0 :=
  ⟨lists_1, trivial, launch0.admits_env _ _ _, launch0.least_env, fairChoices_fair.cas, fairChoices_fair.clock, w_frames, w_args, w_heap, w_applies, trivial, trivial, w_case⟩
end start1
theorem witness_1 : WitnessClaimed_1 := ⟨start1.p0, start1.e0, start1.about1, start1.theMethod, start1.args0, start1.below0, start1.atStart⟩
end Jvm.Pilot.@@N@@
