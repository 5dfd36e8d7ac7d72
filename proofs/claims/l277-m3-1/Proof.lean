import JvmDerived
import JvmDerived.Pilot.@@N@@Statement
import JvmDerived.Pilot.@@N@@Code
set_option linter.unusedVariables false
set_option linter.unusedSimpArgs false
namespace Jvm.Pilot.@@N@@
open Jvm Jvm.ClassFile Sem Op Lib Jvm.Free Jvm.Stand Jvm.LawKit Jvm.RoadKit Bundle Jvm.Pilot.@@N@@.Jvm.D
theorem own_w {a0 : Array Value} {Z : State} (hw : ∀ d ∈ tables_1, d.before a0 Z = true) (i : Nat) {d : Jvm.Cond} (h : tables_1[i]? = some d) : d.before a0 Z = true := hw d (List.mem_of_getElem? h)
section Own
variable {p : Program} {l : Launch} {e : Env} {R : Room} {s : State} {m : MethodId} {args : Array Value} {below : List Frame} {meth : Method} {c : Code} {T T' : State} {locs : List Loc} {cells slots : Nat} {g g' : JFrame} {K : Outcome → State → Prop} {Q : Option Value → Heap → List Loc → Prop} {kc ks : Nat}
/-- from this state, with this frame on top, the run comes to an end at which K holds -/
def own_E (p : Program) (e : Env) (below : List Frame) (K : Outcome → State → Prop) (T : State) (g : JFrame) : Prop :=
  ∃ s₂ o, Steps p.tables e below (T.setTop g) s₂ ∧ s₂.status = .running ∧ Ended s₂ below o ∧ K o s₂
def own_K (Q : Option Value → Heap → List Loc → Prop) (s : State) (kc ks : Nat) : Outcome → State → Prop :=
  fun o U' => ∃ v L, o = .returned v ∧ Q v U'.heap L ∧ FrameEnd s o U' L kc ks
theorem own_st (st : ∀ t, Steps p.tables e below (T'.setTop g') t → Steps p.tables e below (T.setTop g) t) (k : own_E p e below K T' g') : own_E p e below K T g := by
  obtain ⟨s2, o, h1, h2⟩ := k
  exact ⟨s2, o, st _ h1, h2⟩
theorem own_tr (st : Steps p.tables e below (T.setTop g) (T'.setTop g')) (k : own_E p e below K T' g') : own_E p e below K T g :=
  own_st (fun _ h => st.trans h) k
theorem own_pre (q : g = g') (k : own_E p e below K T g') : own_E p e below K T g := q ▸ k
theorem own_end (X : Stand p l e R s m args below meth c T locs cells slots) (hlk : meth.locks = false) {v : Option Value} (hv : meth.sig.returnType = none → v = none)
    (hr : ∀ fs : List Frame, (∀ (f : JFrame) (acts : List Action), f.method = m → f.locked = none → f.entered = [] → (doReturn e (T.setTop f) acts v).1 = T.setFrames fs) → Steps p.tables e below (T.setTop g) (T.setFrames fs))
    (hc : cells ≤ kc) (hs : slots ≤ ks) (hQ : Q v T.heap locs) : own_E p e below (own_K Q s kc ks) T g := by
  obtain ⟨fs, h1, hrun, hended, hW, hsame⟩ := X.leave (v := v) hv hlk
  exact ⟨_, _, hr fs h1, hrun, hended, _, _, rfl, hQ, ⟨_, rfl⟩, hW, hsame.mono hc hs⟩
theorem own_retV (X : Stand p l e R s m args below meth c T locs cells slots) (hx : p.tables.exec = Jvm.exec) (hlk : meth.locks = false) {pc : Nat} {Ls : Array Slot} (hret : meth.sig.returnType = none)
    (hd : decode c.code pc = .ok (.return_, 1)) (hc : cells ≤ kc) (hs : slots ≤ ks) (hQ : Q none T.heap locs) : own_E p e below (own_K Q s kc ks) T (mkF m pc Ls []) :=
  own_end X hlk (fun _ => rfl) (fun fs h => X.returnOut hx hret hd h) hc hs hQ
theorem own_retG (X : Stand p l e R s m args below meth c T locs cells slots) (hx : p.tables.exec = Jvm.exec) (hlk : meth.locks = false) {pc : Nat} {Ls : Array Slot} {w : Value} {t : FieldType} {i : Instr} {rest : List Value} (hret : meth.sig.returnType = some t) (hn : narrow t w = w)
    (hi : (i = .ireturn ∧ (t = .int ∨ t = .boolean ∨ t = .byte ∨ t = .char ∨ t = .short) ∧ ∃ z, w = .int z) ∨ (i = .lreturn ∧ t = .long ∧ ∃ z, w = .long z) ∨ (i = .dreturn ∧ t = .double ∧ ∃ z, w = .double z) ∨ (i = .freturn ∧ t = .float ∧ ∃ z, w = .float z) ∨ (i = .areturn ∧ t.isReference = true ∧ w.isRef = true))
    (hd : decode c.code pc = .ok (i, 1)) (hc : cells ≤ kc) (hs : slots ≤ ks) (hQ : Q (some w) T.heap locs) : own_E p e below (own_K Q s kc ks) T (mkF m pc Ls (w :: rest)) :=
  own_end X hlk (fun h => by rw [hret] at h; cases h) (fun fs h => retOut X hx hret hn hi hd h) hc hs hQ
theorem own_retI (X : Stand p l e R s m args below meth c T locs cells slots) (hx : p.tables.exec = Jvm.exec) (hlk : meth.locks = false) {pc : Nat} {Ls : Array Slot} {z : Int32} {rest : List Value} (hret : meth.sig.returnType = some .int)
    (hd : decode c.code pc = .ok (.ireturn, 1)) (hc : cells ≤ kc) (hs : slots ≤ ks) (hQ : Q (some (.int z)) T.heap locs) : own_E p e below (own_K Q s kc ks) T (mkF m pc Ls (.int z :: rest)) :=
  own_retG X hx hlk hret rfl (Or.inl ⟨rfl, Or.inl rfl, z, rfl⟩) hd hc hs hQ
theorem own_retS (X : Stand p l e R s m args below meth c T locs cells slots) (hx : p.tables.exec = Jvm.exec) (hlk : meth.locks = false) {pc : Nat} {Ls : Array Slot} {z : Int32} {t : FieldType} {rest : List Value} (hret : meth.sig.returnType = some t) (hn : narrow t (.int z) = .int z)
    (ht : t = .int ∨ t = .boolean ∨ t = .byte ∨ t = .char ∨ t = .short) (hd : decode c.code pc = .ok (.ireturn, 1)) (hc : cells ≤ kc) (hs : slots ≤ ks) (hQ : Q (some (.int z)) T.heap locs) : own_E p e below (own_K Q s kc ks) T (mkF m pc Ls (.int z :: rest)) :=
  own_retG X hx hlk hret hn (Or.inl ⟨rfl, ht, z, rfl⟩) hd hc hs hQ
theorem own_retN (X : Stand p l e R s m args below meth c T locs cells slots) (hx : p.tables.exec = Jvm.exec) (hlk : meth.locks = false) {pc : Nat} {Ls : Array Slot} {z : Int32} {t : FieldType} {rest : List Value} (hret : meth.sig.returnType = some t)
    (ht : t = .boolean ∨ t = .byte ∨ t = .char ∨ t = .short) (hd : decode c.code pc = .ok (.ireturn, 1)) (hc : cells ≤ kc) (hs : slots ≤ ks) (hQ : Q (some (.int (nar t z))) T.heap locs) : own_E p e below (own_K Q s kc ks) T (mkF m pc Ls (.int z :: rest)) :=
  own_end X hlk (fun h => by rw [hret] at h; cases h) (fun fs h => retN X hx hret ht hd h) hc hs hQ
theorem own_retJ (X : Stand p l e R s m args below meth c T locs cells slots) (hx : p.tables.exec = Jvm.exec) (hlk : meth.locks = false) {pc : Nat} {Ls : Array Slot} {z : Int64} {rest : List Value} (hret : meth.sig.returnType = some .long)
    (hd : decode c.code pc = .ok (.lreturn, 1)) (hc : cells ≤ kc) (hs : slots ≤ ks) (hQ : Q (some (.long z)) T.heap locs) : own_E p e below (own_K Q s kc ks) T (mkF m pc Ls (.long z :: rest)) :=
  own_retG X hx hlk hret rfl (Or.inr (Or.inl ⟨rfl, rfl, z, rfl⟩)) hd hc hs hQ
theorem own_retA (X : Stand p l e R s m args below meth c T locs cells slots) (hx : p.tables.exec = Jvm.exec) (hlk : meth.locks = false) {pc : Nat} {Ls : Array Slot} {w : Value} {t : FieldType} {rest : List Value} (hret : meth.sig.returnType = some t) (ht : t.isReference = true) (hw : w.isRef = true)
    (hd : decode c.code pc = .ok (.areturn, 1)) (hc : cells ≤ kc) (hs : slots ≤ ks) (hQ : Q (some w) T.heap locs) : own_E p e below (own_K Q s kc ks) T (mkF m pc Ls (w :: rest)) :=
  own_retG X hx hlk hret (by cases w <;> cases t <;> first | rfl | (simp [Value.isRef] at hw) | (simp [FieldType.isReference] at ht)) (Or.inr (Or.inr (Or.inr (Or.inr ⟨rfl, ht, hw⟩)))) hd hc hs hQ
end Own
theorem own_StaK {Z : State} {h h' : Heap} {C n d : String} {v : Value} (F : Sta Z h C n d v) (K : Keep h h' []) : Sta Z h' C n d v := Sta.ext ⟨K.1, fun a c q => K.2.1 a c q nin0⟩ F
section OwnArr
variable {p : Program} {l : Launch} {e : Env} {R : Room} {s : State} {m : MethodId} {args : Array Value} {below : List Frame} {meth : Method} {c : Code} {T : State} {locs : List Loc} {cells slots : Nat} {Z : State} {h : Heap} {a : Addr} {k : ClassId} {z : Int32} {vs : List Value} {dv : Value}
theorem own_alen (X : Stand p l e R s m args below meth c T locs cells slots) (hx : p.tables.exec = Jvm.exec) (hZ : Z.Warmed39 s.vm) (eT : T.heap = h) {ty : FieldType} (F : Arv Z h a k ty z vs dv) {g : JFrame} (hg : g.method = m) {rest : List Value} (hs : g.stack = .ref a :: rest) (hd : decode c.code g.pc = .ok (.arraylength, 1)) :
    ∀ target, Steps p.tables e below (T.setTop { g with pc := g.pc + 1, stack := .int z :: rest }) target → Steps p.tables e below (T.setTop g) target := by
  obtain ⟨cl, A, q, S, N, H, G⟩ := F
  intro target hr
  refine X.arraylength hx (by rw [eT]; exact A.1) (State.isArrayOf_alike hZ.alike A.2.1) hg hs hd _ ?_
  rw [len_of S N]; exact hr
theorem own_ald (X : Stand p l e R s m args below meth c T locs cells slots) (hx : p.tables.exec = Jvm.exec) (hZ : Z.Warmed39 s.vm) (eT : T.heap = h) (F : Arv Z h a k .int z vs dv) {j : Int32} (hj : ¬ j < 0 ∧ j < z) {v : Value} (hv : vs.getD j.toNatClampNeg dv = v) {g : JFrame} (hg : g.method = m) {rest : List Value} (hs : g.stack = .int j :: .ref a :: rest) (hd : decode c.code g.pc = .ok (.iaload, 1)) :
    ∀ target, Steps p.tables e below (T.setTop { g with pc := g.pc + 1, stack := v :: rest }) target → Steps p.tables e below (T.setTop g) target := by
  obtain ⟨cl, A, q, S, N, H, G⟩ := F
  have hin := inb_of S hj
  exact X.iaload hx (by rw [eT]; exact A.1) (State.isArrayOf_alike hZ.alike A.2.1) A.2.2 hin (H.at hin hv) hg hs hd
theorem own_ast (X : Stand p l e R s m args below meth c T locs cells slots) (hx : p.tables.exec = Jvm.exec) (hZ : Z.Warmed39 s.vm) (eT : T.heap = h) (F : Arv Z h a k .int z vs dv) {j : Int32} (hj : ¬ j < 0 ∧ j < z) {x : Int32} {i : Nat} (hi : j.toNatClampNeg = i) (hl : i < vs.length) {g : JFrame} (hg : g.method = m) {rest : List Value} (hs : g.stack = .int x :: .int j :: .ref a :: rest) (hd : decode c.code g.pc = .ok (.iastore, 1)) :
    ∃ T' h', Stand p l e R s m args below meth c T' (locs ++ [⟨a, j.toNatClampNeg⟩]) cells slots ∧ T'.heap = h' ∧ Wr h h' a j.toNatClampNeg (.int x) ∧ Arv Z h' a k .int z (vs.set i (.int x)) dv ∧ ∀ target, Steps p.tables e below (T'.setTop { g with pc := g.pc + 1, stack := rest }) target → Steps p.tables e below (T.setTop g) target := by
  obtain ⟨cl, A, q, S, N, H, G⟩ := F
  have hin := inb_of S hj
  obtain ⟨T', h', X', e', W, st⟩ := stI X hx hZ eT A hin hg hs hd
  exact ⟨T', h', X', e', W, Arv.set A q S N H G rfl W i hi hl, st⟩
theorem own_cst (X : Stand p l e R s m args below meth c T locs cells slots) (hx : p.tables.exec = Jvm.exec) (hZ : Z.Warmed39 s.vm) (eT : T.heap = h) (F : Arv Z h a k .char z vs dv) {j : Int32} (hj : ¬ j < 0 ∧ j < z) {x : Int32} {i : Nat} (hi : j.toNatClampNeg = i) (hl : i < vs.length) {g : JFrame} (hg : g.method = m) {rest : List Value} (hs : g.stack = .int x :: .int j :: .ref a :: rest) (hd : decode c.code g.pc = .ok (.castore, 1)) :
    ∃ T' h', Stand p l e R s m args below meth c T' (locs ++ [⟨a, j.toNatClampNeg⟩]) cells slots ∧ T'.heap = h' ∧ Wr h h' a j.toNatClampNeg (.int (nar .char x)) ∧ Arv Z h' a k .char z (vs.set i (.int (nar .char x))) dv ∧ ∀ target, Steps p.tables e below (T'.setTop { g with pc := g.pc + 1, stack := rest }) target → Steps p.tables e below (T.setTop g) target := by
  obtain ⟨cl, A, q, S, N, H, G⟩ := F
  have hin := inb_of S hj
  obtain ⟨T', h', X', e', W, st⟩ := stC X hx hZ eT A hin hg hs hd
  exact ⟨T', h', X', e', W, Arv.set A q S N H G (fits_nar_char _) W i hi hl, st⟩
end OwnArr
theorem own_d_jdk_30_method_1_0 : decode jdk_30_method_1_code 0 = .ok (.aload_n 0, 1) := by decide +kernel
theorem own_d_jdk_30_method_1_1 : decode jdk_30_method_1_code 1 = .ok (.invokespecial 1, 3) := by decide +kernel
theorem own_d_jdk_30_method_1_4 : decode jdk_30_method_1_code 4 = .ok (.return_, 1) := by decide +kernel
def own_rec_Q (a1 : Addr) (h0 : Heap) (v : Option Value) (h : Heap) (L : List Loc) : Prop := ((v = none)) ∧ h = h0 ∧ L = []
abbrev own_y0 : MethodName := ⟨"java/lang/Record", "<init>", "()V"⟩
theorem own_pn_Record : plainName "java/lang/Record" = true := by first | (simp [plainName, overriddenIn]; done) | decide +kernel
theorem own_rec_ef (m : MethodId) (a1 : Addr) : entryFrame m #[(.ref a1)] 1 = mkF m 0 #[.val (.ref a1)] [] := by first | (simp [entryFrame, mkF, argsToLocals, Value.category]; done) | rfl
set_option maxRecDepth 65536 in
set_option maxHeartbeats 40000000 in
theorem own_rec (l : Launch) (Z : State) (a0 : Array Value) (hw : ∀ d ∈ tables_1, d.before a0 Z = true) (ws : List Jvm.Cond) (a1 : Addr) (h0 : Heap) (n0 : Nat) (Z0 : n0 ≤ h0.size)  :
    MetFree l own_y0 (head1 (Jvm.Cond.code own_y0 jdk_30_method_1_code 1 none :: ws) ({ frames := 1, cells := 0, slots := 0, locals := 12 } : Room)) (fun a U => a = #[(.ref a1)] ∧ Z.Warmed39 U.vm ∧ U.heap = h0) (fun _ _ _ _ _ => True) (fun _ U o U' => ∃ v L, o = .returned v ∧ own_rec_Q a1 h0 v U'.heap L ∧ FrameEnd U o U' L ({ frames := 1, cells := 0, slots := 0, locals := 12 } : Room).cells ({ frames := 1, cells := 0, slots := 0, locals := 12 } : Room).slots) := by
  refine MetFree.of_bodySF (plainFor_of_name own_pn_Record) hisR ?_
  intro p e s m args below meth c s₁ Bd hml0 hP hK
  obtain ⟨rfl, hZ, hh⟩ := hP
  have hx := Bd.exec
  have hby := Bd.bytes
  have hml : c.maxLocals = 1 := hml0
  have hown : s.vm.findClass "java/lang/Record" = some m.cls := findClass_of_methodNamed Bd.named
  have hnm := (name_of_methodNamed Bd.named Bd.method).1
  have X0 : Stand p l e ({ frames := 1, cells := 0, slots := 0, locals := 12 } : Room) s m #[(.ref a1)] below meth c s₁ [] 0 0 := Stand.of_body Bd
  have e0 : s₁.heap = h0 := by rw [← hh, Bd.state]; rfl
  show own_E p e below (own_K (own_rec_Q a1 h0) s ({ frames := 1, cells := 0, slots := 0, locals := 12 } : Room).cells ({ frames := 1, cells := 0, slots := 0, locals := 12 } : Room).slots) s₁ (entryFrame m #[(.ref a1)] 1)
  refine own_pre (own_rec_ef m a1) ?_
  show own_E p e below _ s₁ (mkF m 0 #[rv a1] [])
  refine own_st (fun t k => XS.aloadN X0.here hx rfl (hb hby own_d_jdk_30_method_1_0) rfl rfl k) ?_
  show own_E p e below _ s₁ (mkF m 1 #[rv a1] [.ref a1])
  obtain ⟨T1, X1, e1, st1⟩ := initO X0 hx hZ hown (own_w hw 11 rfl) (own_w hw 12 rfl) (own_w hw 13 rfl) e0 (g := (mkF m 1 #[rv a1] [.ref a1])) rfl (by rw [hml]; rfl) rfl (hb hby own_d_jdk_30_method_1_1) (by decide) (W := 0) (by show 2 * 0 + _ ≤ _; exact Nat.le_of_eq rfl) (by decide)
  refine own_st st1 ?_
  show own_E p e below _ T1 (mkF m 4 #[rv a1] [])
  refine own_retV X1 hx Bd.notSynchronized Bd.returns (hb hby own_d_jdk_30_method_1_4) (by decide) (by decide) ?_
  exact ⟨rfl, e1, rfl⟩
theorem own_d_prog_32_method_1_0 : decode prog_32_method_1_code 0 = .ok (.aload_n 0, 1) := by decide +kernel
theorem own_d_prog_32_method_1_1 : decode prog_32_method_1_code 1 = .ok (.invokespecial 1, 3) := by decide +kernel
theorem own_pd_0 : parseMethodDescriptor "()V" = some ⟨[], none⟩ := by decide +kernel
theorem own_d_prog_32_method_1_4 : decode prog_32_method_1_code 4 = .ok (.aload_n 0, 1) := by decide +kernel
theorem own_d_prog_32_method_1_5 : decode prog_32_method_1_code 5 = .ok (.iload_n 1, 1) := by decide +kernel
theorem own_d_prog_32_method_1_6 : decode prog_32_method_1_code 6 = .ok (.putfield 7, 3) := by decide +kernel
theorem own_d_prog_32_method_1_9 : decode prog_32_method_1_code 9 = .ok (.aload_n 0, 1) := by decide +kernel
theorem own_d_prog_32_method_1_10 : decode prog_32_method_1_code 10 = .ok (.iload_n 2, 1) := by decide +kernel
theorem own_d_prog_32_method_1_11 : decode prog_32_method_1_code 11 = .ok (.putfield 13, 3) := by decide +kernel
theorem own_d_prog_32_method_1_14 : decode prog_32_method_1_code 14 = .ok (.return_, 1) := by decide +kernel
def own_init_Q (Z : State) (a1 : Addr) (p1 : Int32) (p2 : Int32) (h0 : Heap) (n0 : Nat) (v : Option Value) (h : Heap) (L : List Loc) : Prop := v = none ∧ Fr n0 L ∧ Keep h0 h [a1] ∧ Exa Z h a1 "com/example/lockstep/lockstep/plan/Position" ∧ Fld Z h a1 "com/example/lockstep/lockstep/plan/Position" "line" "I" (.int p1) ∧ Fld Z h a1 "com/example/lockstep/lockstep/plan/Position" "column" "I" (.int p2)
abbrev own_y1 : MethodName := ⟨"com/example/lockstep/lockstep/plan/Position", "<init>", "(II)V"⟩
theorem own_pn_Position : plainName "com/example/lockstep/lockstep/plan/Position" = true := by first | (simp [plainName, overriddenIn]; done) | decide +kernel
theorem own_init_ef (m : MethodId) (a1 : Addr) (p1 : Int32) (p2 : Int32) : entryFrame m #[(.ref a1), (.int p1), (.int p2)] 3 = mkF m 0 #[.val (.ref a1), .val (.int p1), .val (.int p2)] [] := by first | (simp [entryFrame, mkF, argsToLocals, Value.category]; done) | rfl
set_option maxRecDepth 65536 in
set_option maxHeartbeats 40000000 in
theorem own_init (l : Launch) (Z : State) (a0 : Array Value) (hw : ∀ d ∈ tables_1, d.before a0 Z = true) (ws : List Jvm.Cond) (a1 : Addr) (p1 : Int32) (p2 : Int32) (h0 : Heap) (n0 : Nat) (Z0 : n0 ≤ h0.size) (E_a1 : Exa Z h0 a1 "com/example/lockstep/lockstep/plan/Position") (F_line_a1 : Fld Z h0 a1 "com/example/lockstep/lockstep/plan/Position" "line" "I" (.int (0 : Int32))) (F_column_a1 : Fld Z h0 a1 "com/example/lockstep/lockstep/plan/Position" "column" "I" (.int (0 : Int32))) (g_a1 : n0 ≤ a1) :
    MetFree l own_y1 (head1 (Jvm.Cond.code own_y1 prog_32_method_1_code 3 none :: ws) ({ frames := 2, cells := 0, slots := 0, locals := 24 } : Room)) (fun a U => a = #[(.ref a1), (.int p1), (.int p2)] ∧ Z.Warmed39 U.vm ∧ U.heap = h0) (fun _ _ _ _ _ => True) (fun _ U o U' => ∃ v L, o = .returned v ∧ own_init_Q Z a1 p1 p2 h0 n0 v U'.heap L ∧ FrameEnd U o U' L ({ frames := 2, cells := 0, slots := 0, locals := 24 } : Room).cells ({ frames := 2, cells := 0, slots := 0, locals := 24 } : Room).slots) := by
  refine MetFree.of_bodySF (plainFor_of_name own_pn_Position) hisR ?_
  intro p e s m args below meth c s₁ Bd hml0 hP hK
  obtain ⟨rfl, hZ, hh⟩ := hP
  have hx := Bd.exec
  have hby := Bd.bytes
  have hml : c.maxLocals = 3 := hml0
  have hown : s.vm.findClass "com/example/lockstep/lockstep/plan/Position" = some m.cls := findClass_of_methodNamed Bd.named
  have hnm := (name_of_methodNamed Bd.named Bd.method).1
  have X0 : Stand p l e ({ frames := 2, cells := 0, slots := 0, locals := 24 } : Room) s m #[(.ref a1), (.int p1), (.int p2)] below meth c s₁ [] 0 0 := Stand.of_body Bd
  have e0 : s₁.heap = h0 := by rw [← hh, Bd.state]; rfl
  show own_E p e below (own_K (own_init_Q Z a1 p1 p2 h0 n0) s ({ frames := 2, cells := 0, slots := 0, locals := 24 } : Room).cells ({ frames := 2, cells := 0, slots := 0, locals := 24 } : Room).slots) s₁ (entryFrame m #[(.ref a1), (.int p1), (.int p2)] 3)
  refine own_pre (own_init_ef m a1 p1 p2) ?_
  show own_E p e below _ s₁ (mkF m 0 #[rv a1, iv p1, iv p2] [])
  refine own_st (fun t k => XS.aloadN X0.here hx rfl (hb hby own_d_prog_32_method_1_0) rfl rfl k) ?_
  show own_E p e below _ s₁ (mkF m 1 #[rv a1, iv p1, iv p2] [.ref a1])
  obtain ⟨_, _, ⟨T1, L1, k1, n1⟩, -, X1, ⟨Lc1, hQ1, l1, y1, z1⟩, st1⟩ := X0.specialBack hx (y := own_y0) rfl hown (mvT hZ (own_w hw 6 rfl)) (mvT hZ (own_w hw 7 rfl)) (mvT hZ (own_w hw 10 rfl)) (by decide) (backOf (W := 0) (own_rec l Z a0 hw [] a1 h0 n0 Z0 ) hZ (own_w hw 10 rfl) (own_w hw 9 rfl) (by decide) (by decide)) (g := (mkF m 1 #[rv a1, iv p1, iv p2] [.ref a1])) rfl (by rw [hml]; rfl) (Steps.refl _) (a := a1) (argsL := []) (rest := []) (lenOf own_pd_0 rfl) rfl (by show 2 * 0 + _ ≤ _; exact Nat.le_of_eq rfl) (hb hby own_d_prog_32_method_1_1) (fun _ _ => ⟨rfl, e0, (by decide : 0 + 0 ≤ _), (by decide : 0 + 0 ≤ _)⟩)
  dsimp only [Pt.U, Pt.locs, Pt.cells, Pt.slots] at X1 l1 y1 z1 st1 hQ1
  subst l1 y1 z1
  obtain ⟨hR1, e1, rfl⟩ := hQ1
  have N1 := Fr.app (Fr.nil n0) (Fr.nil n0)
  obtain rfl := hR1
  refine own_tr st1 ?_
  show own_E p e below _ T1 (mkF m 4 #[rv a1, iv p1, iv p2] [])
  refine own_st (fun t k => XS.aloadN X1.here hx rfl (hb hby own_d_prog_32_method_1_4) rfl rfl k) ?_
  show own_E p e below _ T1 (mkF m 5 #[rv a1, iv p1, iv p2] [.ref a1])
  refine own_st (fun t k => XS.iloadN X1.here hx rfl (hb hby own_d_prog_32_method_1_5) rfl k) ?_
  show own_E p e below _ T1 (mkF m 6 #[rv a1, iv p1, iv p2] [.int p1, .ref a1])
  obtain ⟨T2, h2, X2, e2, W2, st2⟩ := putF X1 hx hZ hown (host := "") (Or.inl (own_w hw 14 rfl)) Via.refl e1 F_line_a1 E_a1 (Or.inr ⟨(own_w hw 15 rfl), rfl, hnm⟩) (own_w hw 1 rfl) (ty := .int) (by decide) rfl rfl (g := (mkF m 6 #[rv a1, iv p1, iv p2] [.int p1, .ref a1])) rfl rfl (hb hby own_d_prog_32_method_1_6)
  have N2 := Fr.snoc X2 N1 g_a1
  have Fw2 := F_line_a1.same W2
  have Z3 := Nat.le_trans Z0 (Keep.of_wr W2).1
  have K4 : Keep h0 _ [a1] := (Keep.refl h0 [a1]).wr W2 (Or.inl (List.mem_of_getElem? (i := 0) rfl))
  refine own_st st2 ?_
  show own_E p e below _ T2 (mkF m 9 #[rv a1, iv p1, iv p2] [])
  refine own_st (fun t k => XS.aloadN X2.here hx rfl (hb hby own_d_prog_32_method_1_9) rfl rfl k) ?_
  show own_E p e below _ T2 (mkF m 10 #[rv a1, iv p1, iv p2] [.ref a1])
  refine own_st (fun t k => XS.iloadN X2.here hx rfl (hb hby own_d_prog_32_method_1_10) rfl k) ?_
  show own_E p e below _ T2 (mkF m 11 #[rv a1, iv p1, iv p2] [.int p2, .ref a1])
  have B6 := (F_column_a1.other W2 (Or.inr (slot_ne (Or.inr (own_w hw 17 rfl)) (Or.inr (own_w hw 15 rfl)) (by decide) (t := .int) (t' := .int) (by decide) (by decide))))
  have B7 := (E_a1.wr W2)
  obtain ⟨T5, h5, X5, e5, W5, st5⟩ := putF X2 hx hZ hown (host := "") (Or.inl (own_w hw 16 rfl)) Via.refl e2 B6 B7 (Or.inr ⟨(own_w hw 17 rfl), rfl, hnm⟩) (own_w hw 1 rfl) (ty := .int) (by decide) rfl rfl (g := (mkF m 11 #[rv a1, iv p1, iv p2] [.int p2, .ref a1])) rfl rfl (hb hby own_d_prog_32_method_1_11)
  have N5 := Fr.snoc X5 N2 g_a1
  have Fw5 := B6.same W5
  have Z8 := Nat.le_trans Z3 (Keep.of_wr W5).1
  have K9 : Keep h0 _ [a1] := K4.wr W5 (Or.inl (List.mem_of_getElem? (i := 0) rfl))
  refine own_st st5 ?_
  show own_E p e below _ T5 (mkF m 14 #[rv a1, iv p1, iv p2] [])
  refine own_retV X5 hx Bd.notSynchronized Bd.returns (hb hby own_d_prog_32_method_1_14) (by decide) (by decide) ?_
  have B10 := (B7.wr W5)
  have B11 := (Fw2.other W5 (Or.inr (slot_ne (Or.inr (own_w hw 15 rfl)) (Or.inr (own_w hw 17 rfl)) (by decide) (t := .int) (t' := .int) (by decide) (by decide))))
  show own_init_Q Z a1 p1 p2 h0 n0 _ T5.heap _
  rw [e5]
  exact ⟨rfl, N5, K9, B10, B11, Fw5⟩
theorem own_d_jdk_33_method_40_0 : decode jdk_33_method_40_code 0 = .ok (.iload_n 0, 1) := by decide +kernel
theorem own_d_jdk_33_method_40_1 : decode jdk_33_method_40_code 1 = .ok (.iload_n 1, 1) := by decide +kernel
theorem own_d_jdk_33_method_40_2 : decode jdk_33_method_40_code 2 = .ok (.if_icmp .ge 7, 3) := by decide +kernel
theorem own_d_jdk_33_method_40_5 : decode jdk_33_method_40_code 5 = .ok (.iconst (-1), 1) := by decide +kernel
theorem own_d_jdk_33_method_40_6 : decode jdk_33_method_40_code 6 = .ok (.goto 13, 3) := by decide +kernel
theorem own_d_jdk_33_method_40_19 : decode jdk_33_method_40_code 19 = .ok (.ireturn, 1) := by decide +kernel
theorem own_d_jdk_33_method_40_9 : decode jdk_33_method_40_code 9 = .ok (.iload_n 0, 1) := by decide +kernel
theorem own_d_jdk_33_method_40_10 : decode jdk_33_method_40_code 10 = .ok (.iload_n 1, 1) := by decide +kernel
theorem own_d_jdk_33_method_40_11 : decode jdk_33_method_40_code 11 = .ok (.if_icmp .ne 7, 3) := by decide +kernel
theorem own_d_jdk_33_method_40_14 : decode jdk_33_method_40_code 14 = .ok (.iconst 0, 1) := by decide +kernel
theorem own_d_jdk_33_method_40_15 : decode jdk_33_method_40_code 15 = .ok (.goto 4, 3) := by decide +kernel
theorem own_d_jdk_33_method_40_18 : decode jdk_33_method_40_code 18 = .ok (.iconst 1, 1) := by decide +kernel
def own_cmp_Q (p1 : Int32) (p2 : Int32) (h0 : Heap) (v : Option Value) (h : Heap) (L : List Loc) : Prop := ((v = some (.int (-1 : Int32)) ∧ p1 < p2) ∨ (v = some (.int (0 : Int32)) ∧ ¬ (p1 < p2) ∧ p1 = p2) ∨ (v = some (.int (1 : Int32)) ∧ ¬ (p1 < p2) ∧ ¬ (p1 = p2))) ∧ h = h0 ∧ L = []
abbrev own_y2 : MethodName := ⟨"java/lang/Integer", "compare", "(II)I"⟩
theorem own_pn_Integer : plainName "java/lang/Integer" = true := by first | (simp [plainName, overriddenIn]; done) | decide +kernel
theorem own_cmp_ef (m : MethodId) (p1 : Int32) (p2 : Int32) : entryFrame m #[(.int p1), (.int p2)] 2 = mkF m 0 #[.val (.int p1), .val (.int p2)] [] := by first | (simp [entryFrame, mkF, argsToLocals, Value.category]; done) | rfl
set_option maxRecDepth 65536 in
set_option maxHeartbeats 40000000 in
theorem own_cmp (l : Launch) (Z : State) (a0 : Array Value) (hw : ∀ d ∈ tables_1, d.before a0 Z = true) (ws : List Jvm.Cond) (p1 : Int32) (p2 : Int32) (h0 : Heap) (n0 : Nat) (Z0 : n0 ≤ h0.size)  :
    MetFree l own_y2 (head1 (Jvm.Cond.code own_y2 jdk_33_method_40_code 2 (some .int) :: ws) ({ frames := 0, cells := 0, slots := 0, locals := 0 } : Room)) (fun a U => a = #[(.int p1), (.int p2)] ∧ Z.Warmed39 U.vm ∧ U.heap = h0) (fun _ _ _ _ _ => True) (fun _ U o U' => ∃ v L, o = .returned v ∧ own_cmp_Q p1 p2 h0 v U'.heap L ∧ FrameEnd U o U' L ({ frames := 0, cells := 0, slots := 0, locals := 0 } : Room).cells ({ frames := 0, cells := 0, slots := 0, locals := 0 } : Room).slots) := by
  refine MetFree.of_bodySF (plainFor_of_name own_pn_Integer) hisR ?_
  intro p e s m args below meth c s₁ Bd hml0 hP hK
  obtain ⟨rfl, hZ, hh⟩ := hP
  have hx := Bd.exec
  have hby := Bd.bytes
  have hml : c.maxLocals = 2 := hml0
  have hown : s.vm.findClass "java/lang/Integer" = some m.cls := findClass_of_methodNamed Bd.named
  have hnm := (name_of_methodNamed Bd.named Bd.method).1
  have X0 : Stand p l e ({ frames := 0, cells := 0, slots := 0, locals := 0 } : Room) s m #[(.int p1), (.int p2)] below meth c s₁ [] 0 0 := Stand.of_body Bd
  have e0 : s₁.heap = h0 := by rw [← hh, Bd.state]; rfl
  show own_E p e below (own_K (own_cmp_Q p1 p2 h0) s ({ frames := 0, cells := 0, slots := 0, locals := 0 } : Room).cells ({ frames := 0, cells := 0, slots := 0, locals := 0 } : Room).slots) s₁ (entryFrame m #[(.int p1), (.int p2)] 2)
  refine own_pre (own_cmp_ef m p1 p2) ?_
  show own_E p e below _ s₁ (mkF m 0 #[iv p1, iv p2] [])
  refine own_st (fun t k => XS.iloadN X0.here hx rfl (hb hby own_d_jdk_33_method_40_0) rfl k) ?_
  show own_E p e below _ s₁ (mkF m 1 #[iv p1, iv p2] [.int p1])
  refine own_st (fun t k => XS.iloadN X0.here hx rfl (hb hby own_d_jdk_33_method_40_1) rfl k) ?_
  show own_E p e below _ s₁ (mkF m 2 #[iv p1, iv p2] [.int p2, .int p1])
  by_cases hc1 : p1 < p2
  · refine own_st (fun t k => XS.icmpNo X0.here hx rfl (hb hby own_d_jdk_33_method_40_2) rfl (tlt hc1).2.1 k) ?_
    show own_E p e below _ s₁ (mkF m 5 #[iv p1, iv p2] [])
    refine own_st (fun t k => XS.iconst X0.here hx rfl (hb hby own_d_jdk_33_method_40_5) k) ?_
    show own_E p e below _ s₁ (mkF m 6 #[iv p1, iv p2] [.int (-1)])
    refine own_st (fun t k => XS.goto X0.here hx rfl (pc0 := 6) (pc' := 19) rfl (hb hby own_d_jdk_33_method_40_6) (by decide) (by decide) k) ?_
    show own_E p e below _ s₁ (mkF m 19 #[iv p1, iv p2] [.int (-1)])
    refine own_retI X0 hx Bd.notSynchronized Bd.returns (hb hby own_d_jdk_33_method_40_19) (by decide) (by decide) ?_
    exact ⟨(Or.inl ⟨rfl, hc1⟩), e0, rfl⟩
  · refine own_st (fun t k => XS.icmpYes X0.here hx rfl (pc0 := 2) (pc' := 9) rfl (hb hby own_d_jdk_33_method_40_2) rfl (flt hc1).2.1 (by decide) (by decide) k) ?_
    show own_E p e below _ s₁ (mkF m 9 #[iv p1, iv p2] [])
    refine own_st (fun t k => XS.iloadN X0.here hx rfl (hb hby own_d_jdk_33_method_40_9) rfl k) ?_
    show own_E p e below _ s₁ (mkF m 10 #[iv p1, iv p2] [.int p1])
    refine own_st (fun t k => XS.iloadN X0.here hx rfl (hb hby own_d_jdk_33_method_40_10) rfl k) ?_
    show own_E p e below _ s₁ (mkF m 11 #[iv p1, iv p2] [.int p2, .int p1])
    by_cases hc2 : p1 = p2
    · refine own_st (fun t k => XS.icmpNo X0.here hx rfl (hb hby own_d_jdk_33_method_40_11) rfl (teq hc2).2 k) ?_
      show own_E p e below _ s₁ (mkF m 14 #[iv p1, iv p2] [])
      refine own_st (fun t k => XS.iconst X0.here hx rfl (hb hby own_d_jdk_33_method_40_14) k) ?_
      show own_E p e below _ s₁ (mkF m 15 #[iv p1, iv p2] [.int 0])
      refine own_st (fun t k => XS.goto X0.here hx rfl (pc0 := 15) (pc' := 19) rfl (hb hby own_d_jdk_33_method_40_15) (by decide) (by decide) k) ?_
      show own_E p e below _ s₁ (mkF m 19 #[iv p1, iv p2] [.int 0])
      refine own_retI X0 hx Bd.notSynchronized Bd.returns (hb hby own_d_jdk_33_method_40_19) (by decide) (by decide) ?_
      exact ⟨(Or.inr (Or.inl ⟨rfl, hc1, hc2⟩)), e0, rfl⟩
    · refine own_st (fun t k => XS.icmpYes X0.here hx rfl (pc0 := 11) (pc' := 18) rfl (hb hby own_d_jdk_33_method_40_11) rfl (feq hc2).2 (by decide) (by decide) k) ?_
      show own_E p e below _ s₁ (mkF m 18 #[iv p1, iv p2] [])
      refine own_st (fun t k => XS.iconst X0.here hx rfl (hb hby own_d_jdk_33_method_40_18) k) ?_
      show own_E p e below _ s₁ (mkF m 19 #[iv p1, iv p2] [.int 1])
      refine own_retI X0 hx Bd.notSynchronized Bd.returns (hb hby own_d_jdk_33_method_40_19) (by decide) (by decide) ?_
      exact ⟨(Or.inr (Or.inr ⟨rfl, hc1, hc2⟩)), e0, rfl⟩
theorem own_d_prog_32_method_2_0 : decode prog_32_method_2_code 0 = .ok (.aload_n 0, 1) := by decide +kernel
theorem own_d_prog_32_method_2_1 : decode prog_32_method_2_code 1 = .ok (.getfield 7, 3) := by decide +kernel
theorem own_d_prog_32_method_2_4 : decode prog_32_method_2_code 4 = .ok (.aload_n 1, 1) := by decide +kernel
theorem own_d_prog_32_method_2_5 : decode prog_32_method_2_code 5 = .ok (.getfield 7, 3) := by decide +kernel
theorem own_d_prog_32_method_2_8 : decode prog_32_method_2_code 8 = .ok (.if_icmp .eq 17, 3) := by decide +kernel
theorem own_d_prog_32_method_2_25 : decode prog_32_method_2_code 25 = .ok (.aload_n 0, 1) := by decide +kernel
theorem own_d_prog_32_method_2_26 : decode prog_32_method_2_code 26 = .ok (.getfield 13, 3) := by decide +kernel
theorem own_d_prog_32_method_2_29 : decode prog_32_method_2_code 29 = .ok (.aload_n 1, 1) := by decide +kernel
theorem own_d_prog_32_method_2_30 : decode prog_32_method_2_code 30 = .ok (.getfield 13, 3) := by decide +kernel
theorem own_d_prog_32_method_2_33 : decode prog_32_method_2_code 33 = .ok (.invokestatic 16, 3) := by decide +kernel
theorem own_pd_2 : parseMethodDescriptor "(II)I" = some ⟨[.int, .int], some .int⟩ := by decide +kernel
theorem own_d_prog_32_method_2_36 : decode prog_32_method_2_code 36 = .ok (.ireturn, 1) := by decide +kernel
theorem own_d_prog_32_method_2_11 : decode prog_32_method_2_code 11 = .ok (.aload_n 0, 1) := by decide +kernel
theorem own_d_prog_32_method_2_12 : decode prog_32_method_2_code 12 = .ok (.getfield 7, 3) := by decide +kernel
theorem own_d_prog_32_method_2_15 : decode prog_32_method_2_code 15 = .ok (.aload_n 1, 1) := by decide +kernel
theorem own_d_prog_32_method_2_16 : decode prog_32_method_2_code 16 = .ok (.getfield 7, 3) := by decide +kernel
theorem own_d_prog_32_method_2_19 : decode prog_32_method_2_code 19 = .ok (.invokestatic 16, 3) := by decide +kernel
theorem own_d_prog_32_method_2_22 : decode prog_32_method_2_code 22 = .ok (.goto 14, 3) := by decide +kernel
def own_cto_Q (a1 : Addr) (a2 : Addr) (p1 : Int32) (p2 : Int32) (p3 : Int32) (p4 : Int32) (h0 : Heap) (v : Option Value) (h : Heap) (L : List Loc) : Prop := ((v = some (.int (-1 : Int32)) ∧ p1 = p3 ∧ p2 < p4) ∨ (v = some (.int (0 : Int32)) ∧ p1 = p3 ∧ ¬ (p2 < p4) ∧ p2 = p4) ∨ (v = some (.int (1 : Int32)) ∧ p1 = p3 ∧ ¬ (p2 < p4) ∧ ¬ (p2 = p4)) ∨ (v = some (.int (-1 : Int32)) ∧ ¬ (p1 = p3) ∧ p1 < p3) ∨ (v = some (.int (1 : Int32)) ∧ ¬ (p1 = p3) ∧ ¬ (p1 < p3))) ∧ h = h0 ∧ L = []
abbrev own_y3 : MethodName := ⟨"com/example/lockstep/lockstep/plan/Position", "compareTo", "(Lcom/example/lockstep/lockstep/plan/Position;)I"⟩
theorem own_cto_ef (m : MethodId) (a1 : Addr) (a2 : Addr) (p1 : Int32) (p2 : Int32) (p3 : Int32) (p4 : Int32) : entryFrame m #[(.ref a1), (.ref a2)] 2 = mkF m 0 #[.val (.ref a1), .val (.ref a2)] [] := by first | (simp [entryFrame, mkF, argsToLocals, Value.category]; done) | rfl
set_option maxRecDepth 65536 in
set_option maxHeartbeats 40000000 in
theorem own_cto (l : Launch) (Z : State) (a0 : Array Value) (hw : ∀ d ∈ tables_1, d.before a0 Z = true) (ws : List Jvm.Cond) (a1 : Addr) (a2 : Addr) (p1 : Int32) (p2 : Int32) (p3 : Int32) (p4 : Int32) (h0 : Heap) (n0 : Nat) (Z0 : n0 ≤ h0.size) (F_line_a1 : Fld Z h0 a1 "com/example/lockstep/lockstep/plan/Position" "line" "I" (.int p1)) (F_column_a1 : Fld Z h0 a1 "com/example/lockstep/lockstep/plan/Position" "column" "I" (.int p2)) (F_line_a2 : Fld Z h0 a2 "com/example/lockstep/lockstep/plan/Position" "line" "I" (.int p3)) (F_column_a2 : Fld Z h0 a2 "com/example/lockstep/lockstep/plan/Position" "column" "I" (.int p4)) :
    MetFree l own_y3 (head1 (Jvm.Cond.code own_y3 prog_32_method_2_code 2 (some .int) :: ws) ({ frames := 1, cells := 0, slots := 0, locals := 13 } : Room)) (fun a U => a = #[(.ref a1), (.ref a2)] ∧ Z.Warmed39 U.vm ∧ U.heap = h0) (fun _ _ _ _ _ => True) (fun _ U o U' => ∃ v L, o = .returned v ∧ own_cto_Q a1 a2 p1 p2 p3 p4 h0 v U'.heap L ∧ FrameEnd U o U' L ({ frames := 1, cells := 0, slots := 0, locals := 13 } : Room).cells ({ frames := 1, cells := 0, slots := 0, locals := 13 } : Room).slots) := by
  refine MetFree.of_bodySF (plainFor_of_name own_pn_Position) hisR ?_
  intro p e s m args below meth c s₁ Bd hml0 hP hK
  obtain ⟨rfl, hZ, hh⟩ := hP
  have hx := Bd.exec
  have hby := Bd.bytes
  have hml : c.maxLocals = 2 := hml0
  have hown : s.vm.findClass "com/example/lockstep/lockstep/plan/Position" = some m.cls := findClass_of_methodNamed Bd.named
  have hnm := (name_of_methodNamed Bd.named Bd.method).1
  have X0 : Stand p l e ({ frames := 1, cells := 0, slots := 0, locals := 13 } : Room) s m #[(.ref a1), (.ref a2)] below meth c s₁ [] 0 0 := Stand.of_body Bd
  have e0 : s₁.heap = h0 := by rw [← hh, Bd.state]; rfl
  show own_E p e below (own_K (own_cto_Q a1 a2 p1 p2 p3 p4 h0) s ({ frames := 1, cells := 0, slots := 0, locals := 13 } : Room).cells ({ frames := 1, cells := 0, slots := 0, locals := 13 } : Room).slots) s₁ (entryFrame m #[(.ref a1), (.ref a2)] 2)
  refine own_pre (own_cto_ef m a1 a2 p1 p2 p3 p4) ?_
  show own_E p e below _ s₁ (mkF m 0 #[rv a1, rv a2] [])
  refine own_st (fun t k => XS.aloadN X0.here hx rfl (hb hby own_d_prog_32_method_2_0) rfl rfl k) ?_
  show own_E p e below _ s₁ (mkF m 1 #[rv a1, rv a2] [.ref a1])
  obtain ⟨T1, X1, e1, st1⟩ := getF X0 hx hZ hown (host := "") (Or.inl (own_w hw 14 rfl)) Via.refl e0 F_line_a1 (g := (mkF m 1 #[rv a1, rv a2] [.ref a1])) rfl rfl (hb hby own_d_prog_32_method_2_1)
  refine own_st st1 ?_
  show own_E p e below _ T1 (mkF m 4 #[rv a1, rv a2] [.int p1])
  refine own_st (fun t k => XS.aloadN X1.here hx rfl (hb hby own_d_prog_32_method_2_4) rfl rfl k) ?_
  show own_E p e below _ T1 (mkF m 5 #[rv a1, rv a2] [.ref a2, .int p1])
  obtain ⟨T2, X2, e2, st2⟩ := getF X1 hx hZ hown (host := "") (Or.inl (own_w hw 14 rfl)) Via.refl e1 F_line_a2 (g := (mkF m 5 #[rv a1, rv a2] [.ref a2, .int p1])) rfl rfl (hb hby own_d_prog_32_method_2_5)
  refine own_st st2 ?_
  show own_E p e below _ T2 (mkF m 8 #[rv a1, rv a2] [.int p3, .int p1])
  by_cases hc3 : p1 = p3
  · refine own_st (fun t k => XS.icmpYes X2.here hx rfl (pc0 := 8) (pc' := 25) rfl (hb hby own_d_prog_32_method_2_8) rfl (teq hc3).1 (by decide) (by decide) k) ?_
    show own_E p e below _ T2 (mkF m 25 #[rv a1, rv a2] [])
    refine own_st (fun t k => XS.aloadN X2.here hx rfl (hb hby own_d_prog_32_method_2_25) rfl rfl k) ?_
    show own_E p e below _ T2 (mkF m 26 #[rv a1, rv a2] [.ref a1])
    obtain ⟨T4, X4, e4, st4⟩ := getF X2 hx hZ hown (host := "") (Or.inl (own_w hw 16 rfl)) Via.refl e2 F_column_a1 (g := (mkF m 26 #[rv a1, rv a2] [.ref a1])) rfl rfl (hb hby own_d_prog_32_method_2_26)
    refine own_st st4 ?_
    show own_E p e below _ T4 (mkF m 29 #[rv a1, rv a2] [.int p2])
    refine own_st (fun t k => XS.aloadN X4.here hx rfl (hb hby own_d_prog_32_method_2_29) rfl rfl k) ?_
    show own_E p e below _ T4 (mkF m 30 #[rv a1, rv a2] [.ref a2, .int p2])
    obtain ⟨T5, X5, e5, st5⟩ := getF X4 hx hZ hown (host := "") (Or.inl (own_w hw 16 rfl)) Via.refl e4 F_column_a2 (g := (mkF m 30 #[rv a1, rv a2] [.ref a2, .int p2])) rfl rfl (hb hby own_d_prog_32_method_2_30)
    refine own_st st5 ?_
    show own_E p e below _ T5 (mkF m 33 #[rv a1, rv a2] [.int p4, .int p2])
    obtain ⟨_, _, ⟨T6, L6, k6, n6⟩, -, X6, ⟨Lc6, hQ6, l6, y6, z6⟩, st6⟩ := Jvm.LawKit.callS X5 hx (y := own_y2) hown (mvT hZ (own_w hw 23 rfl)) (mvT hZ (own_w hw 24 rfl)) (mvT hZ (own_w hw 25 rfl)) (mvT hZ (own_w hw 26 rfl)) (by decide) (backOf (W := 0) (own_cmp l Z a0 hw [] p2 p4 h0 n0 Z0 ) hZ (own_w hw 26 rfl) (own_w hw 25 rfl) (by decide) (by decide)) (g := (mkF m 33 #[rv a1, rv a2] [.int p4, .int p2])) rfl (by rw [hml]; rfl) (argsL := [(.int p2), (.int p4)]) (rest := []) (lenOf own_pd_2 rfl) rfl (by show 2 * 0 + _ ≤ _; exact Nat.le_of_eq rfl) (hb hby own_d_prog_32_method_2_33) (fun _ _ => ⟨rfl, e5, (by decide : 0 + 0 ≤ _), (by decide : 0 + 0 ≤ _)⟩)
    dsimp only [Pt.U, Pt.locs, Pt.cells, Pt.slots] at X6 l6 y6 z6 st6 hQ6
    subst l6 y6 z6
    obtain ⟨hR6, e6, rfl⟩ := hQ6
    have N6 := Fr.app (Fr.nil n0) (Fr.nil n0)
    rcases hR6 with ⟨rfl, ha6_0⟩ | ⟨rfl, ha6_0, ha6_1⟩ | ⟨rfl, ha6_0, ha6_1⟩
    · refine own_st st6 ?_
      show own_E p e below _ T6 (mkF m 36 #[rv a1, rv a2] [.int (-1)])
      refine own_retI X6 hx Bd.notSynchronized Bd.returns (hb hby own_d_prog_32_method_2_36) (by decide) (by decide) ?_
      exact ⟨(Or.inl ⟨rfl, hc3, ha6_0⟩), e6, rfl⟩
    · refine own_st st6 ?_
      show own_E p e below _ T6 (mkF m 36 #[rv a1, rv a2] [.int 0])
      refine own_retI X6 hx Bd.notSynchronized Bd.returns (hb hby own_d_prog_32_method_2_36) (by decide) (by decide) ?_
      exact ⟨(Or.inr (Or.inl ⟨rfl, hc3, ha6_0, ha6_1⟩)), e6, rfl⟩
    · refine own_st st6 ?_
      show own_E p e below _ T6 (mkF m 36 #[rv a1, rv a2] [.int 1])
      refine own_retI X6 hx Bd.notSynchronized Bd.returns (hb hby own_d_prog_32_method_2_36) (by decide) (by decide) ?_
      exact ⟨(Or.inr (Or.inr (Or.inl ⟨rfl, hc3, ha6_0, ha6_1⟩))), e6, rfl⟩
  · refine own_st (fun t k => XS.icmpNo X2.here hx rfl (hb hby own_d_prog_32_method_2_8) rfl (feq hc3).1 k) ?_
    show own_E p e below _ T2 (mkF m 11 #[rv a1, rv a2] [])
    refine own_st (fun t k => XS.aloadN X2.here hx rfl (hb hby own_d_prog_32_method_2_11) rfl rfl k) ?_
    show own_E p e below _ T2 (mkF m 12 #[rv a1, rv a2] [.ref a1])
    obtain ⟨T7, X7, e7, st7⟩ := getF X2 hx hZ hown (host := "") (Or.inl (own_w hw 14 rfl)) Via.refl e2 F_line_a1 (g := (mkF m 12 #[rv a1, rv a2] [.ref a1])) rfl rfl (hb hby own_d_prog_32_method_2_12)
    refine own_st st7 ?_
    show own_E p e below _ T7 (mkF m 15 #[rv a1, rv a2] [.int p1])
    refine own_st (fun t k => XS.aloadN X7.here hx rfl (hb hby own_d_prog_32_method_2_15) rfl rfl k) ?_
    show own_E p e below _ T7 (mkF m 16 #[rv a1, rv a2] [.ref a2, .int p1])
    obtain ⟨T8, X8, e8, st8⟩ := getF X7 hx hZ hown (host := "") (Or.inl (own_w hw 14 rfl)) Via.refl e7 F_line_a2 (g := (mkF m 16 #[rv a1, rv a2] [.ref a2, .int p1])) rfl rfl (hb hby own_d_prog_32_method_2_16)
    refine own_st st8 ?_
    show own_E p e below _ T8 (mkF m 19 #[rv a1, rv a2] [.int p3, .int p1])
    obtain ⟨_, _, ⟨T9, L9, k9, n9⟩, -, X9, ⟨Lc9, hQ9, l9, y9, z9⟩, st9⟩ := Jvm.LawKit.callS X8 hx (y := own_y2) hown (mvT hZ (own_w hw 23 rfl)) (mvT hZ (own_w hw 24 rfl)) (mvT hZ (own_w hw 25 rfl)) (mvT hZ (own_w hw 26 rfl)) (by decide) (backOf (W := 0) (own_cmp l Z a0 hw [] p1 p3 h0 n0 Z0 ) hZ (own_w hw 26 rfl) (own_w hw 25 rfl) (by decide) (by decide)) (g := (mkF m 19 #[rv a1, rv a2] [.int p3, .int p1])) rfl (by rw [hml]; rfl) (argsL := [(.int p1), (.int p3)]) (rest := []) (lenOf own_pd_2 rfl) rfl (by show 2 * 0 + _ ≤ _; exact Nat.le_of_eq rfl) (hb hby own_d_prog_32_method_2_19) (fun _ _ => ⟨rfl, e8, (by decide : 0 + 0 ≤ _), (by decide : 0 + 0 ≤ _)⟩)
    dsimp only [Pt.U, Pt.locs, Pt.cells, Pt.slots] at X9 l9 y9 z9 st9 hQ9
    subst l9 y9 z9
    obtain ⟨hR9, e9, rfl⟩ := hQ9
    have N9 := Fr.app (Fr.nil n0) (Fr.nil n0)
    rcases hR9 with ⟨rfl, ha9_0⟩ | ⟨rfl, ha9_0, ha9_1⟩ | ⟨rfl, ha9_0, ha9_1⟩
    · refine own_st st9 ?_
      show own_E p e below _ T9 (mkF m 22 #[rv a1, rv a2] [.int (-1)])
      refine own_st (fun t k => XS.goto X9.here hx rfl (pc0 := 22) (pc' := 36) rfl (hb hby own_d_prog_32_method_2_22) (by decide) (by decide) k) ?_
      show own_E p e below _ T9 (mkF m 36 #[rv a1, rv a2] [.int (-1)])
      refine own_retI X9 hx Bd.notSynchronized Bd.returns (hb hby own_d_prog_32_method_2_36) (by decide) (by decide) ?_
      exact ⟨(Or.inr (Or.inr (Or.inr (Or.inl ⟨rfl, hc3, ha9_0⟩)))), e9, rfl⟩
    · exact absurd ha9_1 hc3
    · refine own_st st9 ?_
      show own_E p e below _ T9 (mkF m 22 #[rv a1, rv a2] [.int 1])
      refine own_st (fun t k => XS.goto X9.here hx rfl (pc0 := 22) (pc' := 36) rfl (hb hby own_d_prog_32_method_2_22) (by decide) (by decide) k) ?_
      show own_E p e below _ T9 (mkF m 36 #[rv a1, rv a2] [.int 1])
      refine own_retI X9 hx Bd.notSynchronized Bd.returns (hb hby own_d_prog_32_method_2_36) (by decide) (by decide) ?_
      exact ⟨(Or.inr (Or.inr (Or.inr (Or.inr ⟨rfl, hc3, ha9_0⟩)))), e9, rfl⟩
theorem own_d_method_2_0 : decode method_2_code 0 = .ok (.iload_n 0, 1) := by decide +kernel
theorem own_d_method_2_1 : decode method_2_code 1 = .ok (.ifCond .ge 5, 3) := by decide +kernel
theorem own_d_method_2_4 : decode method_2_code 4 = .ok (.iconst (-1), 1) := by decide +kernel
theorem own_d_method_2_5 : decode method_2_code 5 = .ok (.ireturn, 1) := by decide +kernel
theorem own_d_method_2_6 : decode method_2_code 6 = .ok (.iload_n 0, 1) := by decide +kernel
theorem own_d_method_2_7 : decode method_2_code 7 = .ok (.ifCond .le 5, 3) := by decide +kernel
theorem own_d_method_2_10 : decode method_2_code 10 = .ok (.iconst 1, 1) := by decide +kernel
theorem own_d_method_2_11 : decode method_2_code 11 = .ok (.ireturn, 1) := by decide +kernel
theorem own_d_method_2_12 : decode method_2_code 12 = .ok (.iconst 0, 1) := by decide +kernel
theorem own_d_method_2_13 : decode method_2_code 13 = .ok (.ireturn, 1) := by decide +kernel
def own_sign_Q (p1 : Int32) (h0 : Heap) (v : Option Value) (h : Heap) (L : List Loc) : Prop := ((v = some (.int (-1 : Int32)) ∧ p1 < (0 : Int32)) ∨ (v = some (.int (1 : Int32)) ∧ ¬ (p1 < (0 : Int32)) ∧ (0 : Int32) < p1) ∨ (v = some (.int (0 : Int32)) ∧ ¬ (p1 < (0 : Int32)) ∧ ¬ ((0 : Int32) < p1))) ∧ h = h0 ∧ L = []
abbrev own_y4 : MethodName := ⟨"com/example/lockstep/lockstep/plan/PositionCompareToPinLaw", "sign", "(I)I"⟩
theorem own_pn_PositionCompareToPinLaw : plainName "com/example/lockstep/lockstep/plan/PositionCompareToPinLaw" = true := by first | (simp [plainName, overriddenIn]; done) | decide +kernel
theorem own_sign_ef (m : MethodId) (p1 : Int32) : entryFrame m #[(.int p1)] 1 = mkF m 0 #[.val (.int p1)] [] := by first | (simp [entryFrame, mkF, argsToLocals, Value.category]; done) | rfl
set_option maxRecDepth 65536 in
set_option maxHeartbeats 40000000 in
theorem own_sign (l : Launch) (Z : State) (a0 : Array Value) (hw : ∀ d ∈ tables_1, d.before a0 Z = true) (ws : List Jvm.Cond) (p1 : Int32) (h0 : Heap) (n0 : Nat) (Z0 : n0 ≤ h0.size)  :
    MetFree l own_y4 (head1 (Jvm.Cond.code own_y4 method_2_code 1 (some .int) :: ws) ({ frames := 0, cells := 0, slots := 0, locals := 0 } : Room)) (fun a U => a = #[(.int p1)] ∧ Z.Warmed39 U.vm ∧ U.heap = h0) (fun _ _ _ _ _ => True) (fun _ U o U' => ∃ v L, o = .returned v ∧ own_sign_Q p1 h0 v U'.heap L ∧ FrameEnd U o U' L ({ frames := 0, cells := 0, slots := 0, locals := 0 } : Room).cells ({ frames := 0, cells := 0, slots := 0, locals := 0 } : Room).slots) := by
  refine MetFree.of_bodySF (plainFor_of_name own_pn_PositionCompareToPinLaw) hisR ?_
  intro p e s m args below meth c s₁ Bd hml0 hP hK
  obtain ⟨rfl, hZ, hh⟩ := hP
  have hx := Bd.exec
  have hby := Bd.bytes
  have hml : c.maxLocals = 1 := hml0
  have hown : s.vm.findClass "com/example/lockstep/lockstep/plan/PositionCompareToPinLaw" = some m.cls := findClass_of_methodNamed Bd.named
  have hnm := (name_of_methodNamed Bd.named Bd.method).1
  have X0 : Stand p l e ({ frames := 0, cells := 0, slots := 0, locals := 0 } : Room) s m #[(.int p1)] below meth c s₁ [] 0 0 := Stand.of_body Bd
  have e0 : s₁.heap = h0 := by rw [← hh, Bd.state]; rfl
  show own_E p e below (own_K (own_sign_Q p1 h0) s ({ frames := 0, cells := 0, slots := 0, locals := 0 } : Room).cells ({ frames := 0, cells := 0, slots := 0, locals := 0 } : Room).slots) s₁ (entryFrame m #[(.int p1)] 1)
  refine own_pre (own_sign_ef m p1) ?_
  show own_E p e below _ s₁ (mkF m 0 #[iv p1] [])
  refine own_st (fun t k => XS.iloadN X0.here hx rfl (hb hby own_d_method_2_0) rfl k) ?_
  show own_E p e below _ s₁ (mkF m 1 #[iv p1] [.int p1])
  by_cases hc1 : p1 < (0 : Int32)
  · refine own_st (fun t k => XS.ifNo X0.here hx rfl (hb hby own_d_method_2_1) rfl ((if0 _ _).trans (tlt hc1).2.1) k) ?_
    show own_E p e below _ s₁ (mkF m 4 #[iv p1] [])
    refine own_st (fun t k => XS.iconst X0.here hx rfl (hb hby own_d_method_2_4) k) ?_
    show own_E p e below _ s₁ (mkF m 5 #[iv p1] [.int (-1)])
    refine own_retI X0 hx Bd.notSynchronized Bd.returns (hb hby own_d_method_2_5) (by decide) (by decide) ?_
    exact ⟨(Or.inl ⟨rfl, hc1⟩), e0, rfl⟩
  · refine own_st (fun t k => XS.ifYes X0.here hx rfl (pc0 := 1) (pc' := 6) rfl (hb hby own_d_method_2_1) rfl ((if0 _ _).trans (flt hc1).2.1) (by decide) (by decide) k) ?_
    show own_E p e below _ s₁ (mkF m 6 #[iv p1] [])
    refine own_st (fun t k => XS.iloadN X0.here hx rfl (hb hby own_d_method_2_6) rfl k) ?_
    show own_E p e below _ s₁ (mkF m 7 #[iv p1] [.int p1])
    by_cases hc2 : (0 : Int32) < p1
    · refine own_st (fun t k => XS.ifNo X0.here hx rfl (hb hby own_d_method_2_7) rfl ((if0 _ _).trans (tlt hc2).2.2.2) k) ?_
      show own_E p e below _ s₁ (mkF m 10 #[iv p1] [])
      refine own_st (fun t k => XS.iconst X0.here hx rfl (hb hby own_d_method_2_10) k) ?_
      show own_E p e below _ s₁ (mkF m 11 #[iv p1] [.int 1])
      refine own_retI X0 hx Bd.notSynchronized Bd.returns (hb hby own_d_method_2_11) (by decide) (by decide) ?_
      exact ⟨(Or.inr (Or.inl ⟨rfl, hc1, hc2⟩)), e0, rfl⟩
    · refine own_st (fun t k => XS.ifYes X0.here hx rfl (pc0 := 7) (pc' := 12) rfl (hb hby own_d_method_2_7) rfl ((if0 _ _).trans (flt hc2).2.2.2) (by decide) (by decide) k) ?_
      show own_E p e below _ s₁ (mkF m 12 #[iv p1] [])
      refine own_st (fun t k => XS.iconst X0.here hx rfl (hb hby own_d_method_2_12) k) ?_
      show own_E p e below _ s₁ (mkF m 13 #[iv p1] [.int 0])
      refine own_retI X0 hx Bd.notSynchronized Bd.returns (hb hby own_d_method_2_13) (by decide) (by decide) ?_
      exact ⟨(Or.inr (Or.inr ⟨rfl, hc1, hc2⟩)), e0, rfl⟩
theorem own_d_method_3_0 : decode method_3_code 0 = .ok (.iload_n 0, 1) := by decide +kernel
theorem own_d_method_3_1 : decode method_3_code 1 = .ok (.iload_n 2, 1) := by decide +kernel
theorem own_d_method_3_2 : decode method_3_code 2 = .ok (.if_icmp .ge 5, 3) := by decide +kernel
theorem own_d_method_3_5 : decode method_3_code 5 = .ok (.iconst (-1), 1) := by decide +kernel
theorem own_d_method_3_6 : decode method_3_code 6 = .ok (.ireturn, 1) := by decide +kernel
theorem own_d_method_3_7 : decode method_3_code 7 = .ok (.iload_n 0, 1) := by decide +kernel
theorem own_d_method_3_8 : decode method_3_code 8 = .ok (.iload_n 2, 1) := by decide +kernel
theorem own_d_method_3_9 : decode method_3_code 9 = .ok (.if_icmp .le 5, 3) := by decide +kernel
theorem own_d_method_3_12 : decode method_3_code 12 = .ok (.iconst 1, 1) := by decide +kernel
theorem own_d_method_3_13 : decode method_3_code 13 = .ok (.ireturn, 1) := by decide +kernel
theorem own_d_method_3_14 : decode method_3_code 14 = .ok (.iload_n 1, 1) := by decide +kernel
theorem own_d_method_3_15 : decode method_3_code 15 = .ok (.iload_n 3, 1) := by decide +kernel
theorem own_d_method_3_16 : decode method_3_code 16 = .ok (.if_icmp .ge 5, 3) := by decide +kernel
theorem own_d_method_3_19 : decode method_3_code 19 = .ok (.iconst (-1), 1) := by decide +kernel
theorem own_d_method_3_20 : decode method_3_code 20 = .ok (.ireturn, 1) := by decide +kernel
theorem own_d_method_3_21 : decode method_3_code 21 = .ok (.iload_n 1, 1) := by decide +kernel
theorem own_d_method_3_22 : decode method_3_code 22 = .ok (.iload_n 3, 1) := by decide +kernel
theorem own_d_method_3_23 : decode method_3_code 23 = .ok (.if_icmp .le 5, 3) := by decide +kernel
theorem own_d_method_3_26 : decode method_3_code 26 = .ok (.iconst 1, 1) := by decide +kernel
theorem own_d_method_3_27 : decode method_3_code 27 = .ok (.ireturn, 1) := by decide +kernel
theorem own_d_method_3_28 : decode method_3_code 28 = .ok (.iconst 0, 1) := by decide +kernel
theorem own_d_method_3_29 : decode method_3_code 29 = .ok (.ireturn, 1) := by decide +kernel
def own_exp_Q (p1 : Int32) (p2 : Int32) (p3 : Int32) (p4 : Int32) (h0 : Heap) (v : Option Value) (h : Heap) (L : List Loc) : Prop := ((v = some (.int (-1 : Int32)) ∧ p1 < p3) ∨ (v = some (.int (1 : Int32)) ∧ ¬ (p1 < p3) ∧ p3 < p1) ∨ (v = some (.int (-1 : Int32)) ∧ ¬ (p1 < p3) ∧ ¬ (p3 < p1) ∧ p2 < p4) ∨ (v = some (.int (1 : Int32)) ∧ ¬ (p1 < p3) ∧ ¬ (p3 < p1) ∧ ¬ (p2 < p4) ∧ p4 < p2) ∨ (v = some (.int (0 : Int32)) ∧ ¬ (p1 < p3) ∧ ¬ (p3 < p1) ∧ ¬ (p2 < p4) ∧ ¬ (p4 < p2))) ∧ h = h0 ∧ L = []
abbrev own_y5 : MethodName := ⟨"com/example/lockstep/lockstep/plan/PositionCompareToPinLaw", "expected", "(IIII)I"⟩
theorem own_exp_ef (m : MethodId) (p1 : Int32) (p2 : Int32) (p3 : Int32) (p4 : Int32) : entryFrame m #[(.int p1), (.int p2), (.int p3), (.int p4)] 4 = mkF m 0 #[.val (.int p1), .val (.int p2), .val (.int p3), .val (.int p4)] [] := by first | (simp [entryFrame, mkF, argsToLocals, Value.category]; done) | rfl
set_option maxRecDepth 65536 in
set_option maxHeartbeats 40000000 in
theorem own_exp (l : Launch) (Z : State) (a0 : Array Value) (hw : ∀ d ∈ tables_1, d.before a0 Z = true) (ws : List Jvm.Cond) (p1 : Int32) (p2 : Int32) (p3 : Int32) (p4 : Int32) (h0 : Heap) (n0 : Nat) (Z0 : n0 ≤ h0.size)  :
    MetFree l own_y5 (head1 (Jvm.Cond.code own_y5 method_3_code 4 (some .int) :: ws) ({ frames := 0, cells := 0, slots := 0, locals := 0 } : Room)) (fun a U => a = #[(.int p1), (.int p2), (.int p3), (.int p4)] ∧ Z.Warmed39 U.vm ∧ U.heap = h0) (fun _ _ _ _ _ => True) (fun _ U o U' => ∃ v L, o = .returned v ∧ own_exp_Q p1 p2 p3 p4 h0 v U'.heap L ∧ FrameEnd U o U' L ({ frames := 0, cells := 0, slots := 0, locals := 0 } : Room).cells ({ frames := 0, cells := 0, slots := 0, locals := 0 } : Room).slots) := by
  refine MetFree.of_bodySF (plainFor_of_name own_pn_PositionCompareToPinLaw) hisR ?_
  intro p e s m args below meth c s₁ Bd hml0 hP hK
  obtain ⟨rfl, hZ, hh⟩ := hP
  have hx := Bd.exec
  have hby := Bd.bytes
  have hml : c.maxLocals = 4 := hml0
  have hown : s.vm.findClass "com/example/lockstep/lockstep/plan/PositionCompareToPinLaw" = some m.cls := findClass_of_methodNamed Bd.named
  have hnm := (name_of_methodNamed Bd.named Bd.method).1
  have X0 : Stand p l e ({ frames := 0, cells := 0, slots := 0, locals := 0 } : Room) s m #[(.int p1), (.int p2), (.int p3), (.int p4)] below meth c s₁ [] 0 0 := Stand.of_body Bd
  have e0 : s₁.heap = h0 := by rw [← hh, Bd.state]; rfl
  show own_E p e below (own_K (own_exp_Q p1 p2 p3 p4 h0) s ({ frames := 0, cells := 0, slots := 0, locals := 0 } : Room).cells ({ frames := 0, cells := 0, slots := 0, locals := 0 } : Room).slots) s₁ (entryFrame m #[(.int p1), (.int p2), (.int p3), (.int p4)] 4)
  refine own_pre (own_exp_ef m p1 p2 p3 p4) ?_
  show own_E p e below _ s₁ (mkF m 0 #[iv p1, iv p2, iv p3, iv p4] [])
  refine own_st (fun t k => XS.iloadN X0.here hx rfl (hb hby own_d_method_3_0) rfl k) ?_
  show own_E p e below _ s₁ (mkF m 1 #[iv p1, iv p2, iv p3, iv p4] [.int p1])
  refine own_st (fun t k => XS.iloadN X0.here hx rfl (hb hby own_d_method_3_1) rfl k) ?_
  show own_E p e below _ s₁ (mkF m 2 #[iv p1, iv p2, iv p3, iv p4] [.int p3, .int p1])
  by_cases hc1 : p1 < p3
  · refine own_st (fun t k => XS.icmpNo X0.here hx rfl (hb hby own_d_method_3_2) rfl (tlt hc1).2.1 k) ?_
    show own_E p e below _ s₁ (mkF m 5 #[iv p1, iv p2, iv p3, iv p4] [])
    refine own_st (fun t k => XS.iconst X0.here hx rfl (hb hby own_d_method_3_5) k) ?_
    show own_E p e below _ s₁ (mkF m 6 #[iv p1, iv p2, iv p3, iv p4] [.int (-1)])
    refine own_retI X0 hx Bd.notSynchronized Bd.returns (hb hby own_d_method_3_6) (by decide) (by decide) ?_
    exact ⟨(Or.inl ⟨rfl, hc1⟩), e0, rfl⟩
  · refine own_st (fun t k => XS.icmpYes X0.here hx rfl (pc0 := 2) (pc' := 7) rfl (hb hby own_d_method_3_2) rfl (flt hc1).2.1 (by decide) (by decide) k) ?_
    show own_E p e below _ s₁ (mkF m 7 #[iv p1, iv p2, iv p3, iv p4] [])
    refine own_st (fun t k => XS.iloadN X0.here hx rfl (hb hby own_d_method_3_7) rfl k) ?_
    show own_E p e below _ s₁ (mkF m 8 #[iv p1, iv p2, iv p3, iv p4] [.int p1])
    refine own_st (fun t k => XS.iloadN X0.here hx rfl (hb hby own_d_method_3_8) rfl k) ?_
    show own_E p e below _ s₁ (mkF m 9 #[iv p1, iv p2, iv p3, iv p4] [.int p3, .int p1])
    by_cases hc2 : p3 < p1
    · refine own_st (fun t k => XS.icmpNo X0.here hx rfl (hb hby own_d_method_3_9) rfl (tlt hc2).2.2.2 k) ?_
      show own_E p e below _ s₁ (mkF m 12 #[iv p1, iv p2, iv p3, iv p4] [])
      refine own_st (fun t k => XS.iconst X0.here hx rfl (hb hby own_d_method_3_12) k) ?_
      show own_E p e below _ s₁ (mkF m 13 #[iv p1, iv p2, iv p3, iv p4] [.int 1])
      refine own_retI X0 hx Bd.notSynchronized Bd.returns (hb hby own_d_method_3_13) (by decide) (by decide) ?_
      exact ⟨(Or.inr (Or.inl ⟨rfl, hc1, hc2⟩)), e0, rfl⟩
    · refine own_st (fun t k => XS.icmpYes X0.here hx rfl (pc0 := 9) (pc' := 14) rfl (hb hby own_d_method_3_9) rfl (flt hc2).2.2.2 (by decide) (by decide) k) ?_
      show own_E p e below _ s₁ (mkF m 14 #[iv p1, iv p2, iv p3, iv p4] [])
      refine own_st (fun t k => XS.iloadN X0.here hx rfl (hb hby own_d_method_3_14) rfl k) ?_
      show own_E p e below _ s₁ (mkF m 15 #[iv p1, iv p2, iv p3, iv p4] [.int p2])
      refine own_st (fun t k => XS.iloadN X0.here hx rfl (hb hby own_d_method_3_15) rfl k) ?_
      show own_E p e below _ s₁ (mkF m 16 #[iv p1, iv p2, iv p3, iv p4] [.int p4, .int p2])
      by_cases hc3 : p2 < p4
      · refine own_st (fun t k => XS.icmpNo X0.here hx rfl (hb hby own_d_method_3_16) rfl (tlt hc3).2.1 k) ?_
        show own_E p e below _ s₁ (mkF m 19 #[iv p1, iv p2, iv p3, iv p4] [])
        refine own_st (fun t k => XS.iconst X0.here hx rfl (hb hby own_d_method_3_19) k) ?_
        show own_E p e below _ s₁ (mkF m 20 #[iv p1, iv p2, iv p3, iv p4] [.int (-1)])
        refine own_retI X0 hx Bd.notSynchronized Bd.returns (hb hby own_d_method_3_20) (by decide) (by decide) ?_
        exact ⟨(Or.inr (Or.inr (Or.inl ⟨rfl, hc1, hc2, hc3⟩))), e0, rfl⟩
      · refine own_st (fun t k => XS.icmpYes X0.here hx rfl (pc0 := 16) (pc' := 21) rfl (hb hby own_d_method_3_16) rfl (flt hc3).2.1 (by decide) (by decide) k) ?_
        show own_E p e below _ s₁ (mkF m 21 #[iv p1, iv p2, iv p3, iv p4] [])
        refine own_st (fun t k => XS.iloadN X0.here hx rfl (hb hby own_d_method_3_21) rfl k) ?_
        show own_E p e below _ s₁ (mkF m 22 #[iv p1, iv p2, iv p3, iv p4] [.int p2])
        refine own_st (fun t k => XS.iloadN X0.here hx rfl (hb hby own_d_method_3_22) rfl k) ?_
        show own_E p e below _ s₁ (mkF m 23 #[iv p1, iv p2, iv p3, iv p4] [.int p4, .int p2])
        by_cases hc4 : p4 < p2
        · refine own_st (fun t k => XS.icmpNo X0.here hx rfl (hb hby own_d_method_3_23) rfl (tlt hc4).2.2.2 k) ?_
          show own_E p e below _ s₁ (mkF m 26 #[iv p1, iv p2, iv p3, iv p4] [])
          refine own_st (fun t k => XS.iconst X0.here hx rfl (hb hby own_d_method_3_26) k) ?_
          show own_E p e below _ s₁ (mkF m 27 #[iv p1, iv p2, iv p3, iv p4] [.int 1])
          refine own_retI X0 hx Bd.notSynchronized Bd.returns (hb hby own_d_method_3_27) (by decide) (by decide) ?_
          exact ⟨(Or.inr (Or.inr (Or.inr (Or.inl ⟨rfl, hc1, hc2, hc3, hc4⟩)))), e0, rfl⟩
        · refine own_st (fun t k => XS.icmpYes X0.here hx rfl (pc0 := 23) (pc' := 28) rfl (hb hby own_d_method_3_23) rfl (flt hc4).2.2.2 (by decide) (by decide) k) ?_
          show own_E p e below _ s₁ (mkF m 28 #[iv p1, iv p2, iv p3, iv p4] [])
          refine own_st (fun t k => XS.iconst X0.here hx rfl (hb hby own_d_method_3_28) k) ?_
          show own_E p e below _ s₁ (mkF m 29 #[iv p1, iv p2, iv p3, iv p4] [.int 0])
          refine own_retI X0 hx Bd.notSynchronized Bd.returns (hb hby own_d_method_3_29) (by decide) (by decide) ?_
          exact ⟨(Or.inr (Or.inr (Or.inr (Or.inr ⟨rfl, hc1, hc2, hc3, hc4⟩)))), e0, rfl⟩
theorem own_pd_3 : parseMethodDescriptor "(II)V" = some ⟨[.int, .int], none⟩ := by decide +kernel
theorem own_pd_6 : parseMethodDescriptor "(Lcom/example/lockstep/lockstep/plan/Position;)I" = some ⟨[(.object "com/example/lockstep/lockstep/plan/Position")], some .int⟩ := by decide +kernel
theorem own_pd_1 : parseMethodDescriptor "(I)I" = some ⟨[.int], some .int⟩ := by decide +kernel
theorem own_pd_4 : parseMethodDescriptor "(IIII)I" = some ⟨[.int, .int, .int, .int], some .int⟩ := by decide +kernel
def own_law_Q (n0 : Nat) (v : Option Value) (h : Heap) (L : List Loc) : Prop := v = some (.int 1) ∧ Fr n0 L
theorem own_law_ef (m : MethodId) (p1 : Int32) (p2 : Int32) (p3 : Int32) (p4 : Int32) (p5 : Int32) : entryFrame m #[(.int p1), (.int p2), (.int p3), (.int p4), (.int p5)] maxLocals = mkF m 0 #[.val (.int p1), .val (.int p2), .val (.int p3), .val (.int p4), .val (.int p5), .unset, .unset, .unset, .unset, .unset] [] := by first | (simp [entryFrame, mkF, argsToLocals, Value.category, maxLocals]; done) | rfl
set_option maxRecDepth 65536 in
set_option maxHeartbeats 40000000 in
theorem own_law (l : Launch) (Z : State) (a0 : Array Value) (hw : ∀ d ∈ tables_1, d.before a0 Z = true) (ws : List Jvm.Cond) (p1 : Int32) (p2 : Int32) (p3 : Int32) (p4 : Int32) (p5 : Int32) (h0 : Heap) (n0 : Nat) (Z0 : n0 ≤ h0.size)  :
    MetFree l x (head1 (Jvm.Cond.code x code maxLocals ret :: ws) room_1) (fun a U => a = #[(.int p1), (.int p2), (.int p3), (.int p4), (.int p5)] ∧ Z.Warmed39 U.vm ∧ U.heap = h0) (fun _ _ _ _ _ => True) (fun _ U o U' => ∃ v L, o = .returned v ∧ own_law_Q n0 v U'.heap L ∧ FrameEnd U o U' L room_1.cells room_1.slots) := by
  refine MetFree.of_bodySF (plainFor_of_name own_pn_PositionCompareToPinLaw) hisR ?_
  intro p e s m args below meth c s₁ Bd hml0 hP hK
  obtain ⟨rfl, hZ, hh⟩ := hP
  have hx := Bd.exec
  have hby := Bd.bytes
  have hml : c.maxLocals = 10 := hml0
  have hown : s.vm.findClass "com/example/lockstep/lockstep/plan/PositionCompareToPinLaw" = some m.cls := findClass_of_methodNamed Bd.named
  have hnm := (name_of_methodNamed Bd.named Bd.method).1
  have X0 : Stand p l e room_1 s m #[(.int p1), (.int p2), (.int p3), (.int p4), (.int p5)] below meth c s₁ [] 0 0 := Stand.of_body Bd
  have e0 : s₁.heap = h0 := by rw [← hh, Bd.state]; rfl
  show own_E p e below (own_K (own_law_Q n0) s room_1.cells room_1.slots) s₁ (entryFrame m #[(.int p1), (.int p2), (.int p3), (.int p4), (.int p5)] maxLocals)
  refine own_pre (own_law_ef m p1 p2 p3 p4 p5) ?_
  show own_E p e below _ s₁ (mkF m 0 #[iv p1, iv p2, iv p3, iv p4, iv p5, .unset, .unset, .unset, .unset, .unset] [])
  refine own_st (fun t k => XS.iloadN X0.here hx rfl (hb hby at_0) rfl k) ?_
  show own_E p e below _ s₁ (mkF m 1 #[iv p1, iv p2, iv p3, iv p4, iv p5, .unset, .unset, .unset, .unset, .unset] [.int p3])
  refine own_st (fun t k => XS.istore X0.here hx rfl (hb hby at_1) rfl (l' := #[iv p1, iv p2, iv p3, iv p4, iv p5, iv p3, .unset, .unset, .unset, .unset]) rfl k) ?_
  show own_E p e below _ s₁ (mkF m 3 #[iv p1, iv p2, iv p3, iv p4, iv p5, iv p3, .unset, .unset, .unset, .unset] [])
  refine own_st (fun t k => XS.iloadN X0.here hx rfl (hb hby at_3) rfl k) ?_
  show own_E p e below _ s₁ (mkF m 4 #[iv p1, iv p2, iv p3, iv p4, iv p5, iv p3, .unset, .unset, .unset, .unset] [.int p4])
  refine own_st (fun t k => XS.istore X0.here hx rfl (hb hby at_4) rfl (l' := #[iv p1, iv p2, iv p3, iv p4, iv p5, iv p3, iv p4, .unset, .unset, .unset]) rfl k) ?_
  show own_E p e below _ s₁ (mkF m 6 #[iv p1, iv p2, iv p3, iv p4, iv p5, iv p3, iv p4, .unset, .unset, .unset] [])
  refine own_st (fun t k => XS.iload X0.here hx rfl (hb hby at_6) rfl k) ?_
  show own_E p e below _ s₁ (mkF m 8 #[iv p1, iv p2, iv p3, iv p4, iv p5, iv p3, iv p4, .unset, .unset, .unset] [.int p5])
  refine own_st (fun t k => XS.iconst X0.here hx rfl (hb hby at_8) k) ?_
  show own_E p e below _ s₁ (mkF m 9 #[iv p1, iv p2, iv p3, iv p4, iv p5, iv p3, iv p4, .unset, .unset, .unset] [.int 1, .int p5])
  refine own_st (fun t k => XS.iand X0.here hx rfl (hb hby at_9) rfl k) ?_
  show own_E p e below _ s₁ (mkF m 10 #[iv p1, iv p2, iv p3, iv p4, iv p5, iv p3, iv p4, .unset, .unset, .unset] [.int (p5 &&& (1 : Int32))])
  by_cases hc1 : (p5 &&& (1 : Int32)) = (0 : Int32)
  · refine own_st (fun t k => XS.ifYes X0.here hx rfl (pc0 := 10) (pc' := 16) rfl (hb hby at_10) rfl ((if0 _ _).trans (teq hc1).1) (by decide) (by decide) k) ?_
    show own_E p e below _ s₁ (mkF m 16 #[iv p1, iv p2, iv p3, iv p4, iv p5, iv p3, iv p4, .unset, .unset, .unset] [])
    refine own_st (fun t k => XS.iload X0.here hx rfl (hb hby at_16) rfl k) ?_
    show own_E p e below _ s₁ (mkF m 18 #[iv p1, iv p2, iv p3, iv p4, iv p5, iv p3, iv p4, .unset, .unset, .unset] [.int p5])
    refine own_st (fun t k => XS.iconst X0.here hx rfl (hb hby at_18) k) ?_
    show own_E p e below _ s₁ (mkF m 19 #[iv p1, iv p2, iv p3, iv p4, iv p5, iv p3, iv p4, .unset, .unset, .unset] [.int 2, .int p5])
    refine own_st (fun t k => XS.iand X0.here hx rfl (hb hby at_19) rfl k) ?_
    show own_E p e below _ s₁ (mkF m 20 #[iv p1, iv p2, iv p3, iv p4, iv p5, iv p3, iv p4, .unset, .unset, .unset] [.int (p5 &&& (2 : Int32))])
    by_cases hc2 : (p5 &&& (2 : Int32)) = (0 : Int32)
    · refine own_st (fun t k => XS.ifYes X0.here hx rfl (pc0 := 20) (pc' := 26) rfl (hb hby at_20) rfl ((if0 _ _).trans (teq hc2).1) (by decide) (by decide) k) ?_
      show own_E p e below _ s₁ (mkF m 26 #[iv p1, iv p2, iv p3, iv p4, iv p5, iv p3, iv p4, .unset, .unset, .unset] [])
      obtain ⟨T3, h3, X3, e3, E3, A3, D3, -, st3⟩ := newO X0 hx hZ hown (own_w hw 0 rfl) (own_w hw 1 rfl) (own_w hw 2 rfl) e0 (g := (mkF m 26 #[iv p1, iv p2, iv p3, iv p4, iv p5, iv p3, iv p4, .unset, .unset, .unset] [])) rfl (hb hby at_26) (by decide) (by decide)
      obtain ⟨b3, g3⟩ : ∃ z, z = h0.size := ⟨_, rfl⟩
      rw [← g3] at A3 D3 st3
      have g_b3 : n0 ≤ b3 := Nat.le_trans Z0 (Nat.le_of_eq g3.symm)
      have Z4 := Nat.le_trans Z0 E3.1
      have F_line_b3 : Fld Z h3 b3 "com/example/lockstep/lockstep/plan/Position" "line" "I" (.int (0 : Int32)) := D3 (Or.inr (own_w hw 15 rfl)) (ty := .int) (by decide)
      have F_column_b3 : Fld Z h3 b3 "com/example/lockstep/lockstep/plan/Position" "column" "I" (.int (0 : Int32)) := D3 (Or.inr (own_w hw 17 rfl)) (ty := .int) (by decide)
      refine own_st st3 ?_
      show own_E p e below _ T3 (mkF m 29 #[iv p1, iv p2, iv p3, iv p4, iv p5, iv p3, iv p4, .unset, .unset, .unset] [.ref b3])
      refine own_st (fun t k => XS.dup X3.here hx rfl (hb hby at_29) rfl rfl k) ?_
      show own_E p e below _ T3 (mkF m 30 #[iv p1, iv p2, iv p3, iv p4, iv p5, iv p3, iv p4, .unset, .unset, .unset] [.ref b3, .ref b3])
      refine own_st (fun t k => XS.iloadN X3.here hx rfl (hb hby at_30) rfl k) ?_
      show own_E p e below _ T3 (mkF m 31 #[iv p1, iv p2, iv p3, iv p4, iv p5, iv p3, iv p4, .unset, .unset, .unset] [.int p1, .ref b3, .ref b3])
      refine own_st (fun t k => XS.iloadN X3.here hx rfl (hb hby at_31) rfl k) ?_
      show own_E p e below _ T3 (mkF m 32 #[iv p1, iv p2, iv p3, iv p4, iv p5, iv p3, iv p4, .unset, .unset, .unset] [.int p2, .int p1, .ref b3, .ref b3])
      obtain ⟨_, _, ⟨T5, L5, k5, n5⟩, -, X5, ⟨Lc5, hQ5, l5, y5, z5⟩, st5⟩ := X3.specialBack hx (y := own_y1) rfl hown (mvT hZ (own_w hw 3 rfl)) (mvT hZ (own_w hw 4 rfl)) (mvT hZ (own_w hw 5 rfl)) (by decide) (backOf (W := 1) (own_init l Z a0 hw [] b3 p1 p2 h3 n0 Z4 A3 F_line_b3 F_column_b3 g_b3) hZ (own_w hw 5 rfl) (own_w hw 2 rfl) (by decide) (by decide)) (g := (mkF m 32 #[iv p1, iv p2, iv p3, iv p4, iv p5, iv p3, iv p4, .unset, .unset, .unset] [.int p2, .int p1, .ref b3, .ref b3])) rfl (by rw [hml]; rfl) (Steps.refl _) (a := b3) (argsL := [(.int p1), (.int p2)]) (rest := [(.ref b3)]) (lenOf own_pd_3 rfl) rfl (by show 2 * 0 + _ ≤ _; exact Nat.le_of_eq rfl) (hb hby at_32) (fun _ _ => ⟨rfl, e3, (by decide : 1 + 0 ≤ _), (by decide : 2 + 0 ≤ _)⟩)
      dsimp only [Pt.U, Pt.locs, Pt.cells, Pt.slots] at X5 l5 y5 z5 st5 hQ5
      subst l5 y5 z5
      obtain ⟨rfl, Nq5, Kq5, P5_0, P5_1, P5_2⟩ := hQ5
      have N5 := Fr.app (Fr.nil n0) Nq5
      have e5 : T5.heap = T5.heap := rfl
      have Z6 := Nat.le_trans Z4 Kq5.1
      refine own_tr st5 ?_
      show own_E p e below _ T5 (mkF m 35 #[iv p1, iv p2, iv p3, iv p4, iv p5, iv p3, iv p4, .unset, .unset, .unset] [.ref b3])
      refine own_st (fun t k => XS.astore X5.here hx rfl (hb hby at_35) rfl rfl (l' := #[iv p1, iv p2, iv p3, iv p4, iv p5, iv p3, iv p4, rv b3, .unset, .unset]) rfl k) ?_
      show own_E p e below _ T5 (mkF m 37 #[iv p1, iv p2, iv p3, iv p4, iv p5, iv p3, iv p4, rv b3, .unset, .unset] [])
      obtain ⟨T7, h7, X7, e7, E7, A7, D7, -, st7⟩ := newO X5 hx hZ hown (own_w hw 0 rfl) (own_w hw 1 rfl) (own_w hw 2 rfl) e5 (g := (mkF m 37 #[iv p1, iv p2, iv p3, iv p4, iv p5, iv p3, iv p4, rv b3, .unset, .unset] [])) rfl (hb hby at_37) (by decide) (by decide)
      obtain ⟨b7, g7⟩ : ∃ z, z = T5.heap.size := ⟨_, rfl⟩
      rw [← g7] at A7 D7 st7
      have ne_b3_b7 : b3 ≠ b7 := Nat.ne_of_lt (Nat.lt_of_lt_of_le P5_0.lt (Nat.le_of_eq g7.symm))
      have g_b7 : n0 ≤ b7 := Nat.le_trans Z6 (Nat.le_of_eq g7.symm)
      have Z8 := Nat.le_trans Z6 E7.1
      have F_line_b7 : Fld Z h7 b7 "com/example/lockstep/lockstep/plan/Position" "line" "I" (.int (0 : Int32)) := D7 (Or.inr (own_w hw 15 rfl)) (ty := .int) (by decide)
      have F_column_b7 : Fld Z h7 b7 "com/example/lockstep/lockstep/plan/Position" "column" "I" (.int (0 : Int32)) := D7 (Or.inr (own_w hw 17 rfl)) (ty := .int) (by decide)
      refine own_st st7 ?_
      show own_E p e below _ T7 (mkF m 40 #[iv p1, iv p2, iv p3, iv p4, iv p5, iv p3, iv p4, rv b3, .unset, .unset] [.ref b7])
      refine own_st (fun t k => XS.dup X7.here hx rfl (hb hby at_40) rfl rfl k) ?_
      show own_E p e below _ T7 (mkF m 41 #[iv p1, iv p2, iv p3, iv p4, iv p5, iv p3, iv p4, rv b3, .unset, .unset] [.ref b7, .ref b7])
      refine own_st (fun t k => XS.iload X7.here hx rfl (hb hby at_41) rfl k) ?_
      show own_E p e below _ T7 (mkF m 43 #[iv p1, iv p2, iv p3, iv p4, iv p5, iv p3, iv p4, rv b3, .unset, .unset] [.int p3, .ref b7, .ref b7])
      refine own_st (fun t k => XS.iload X7.here hx rfl (hb hby at_43) rfl k) ?_
      show own_E p e below _ T7 (mkF m 45 #[iv p1, iv p2, iv p3, iv p4, iv p5, iv p3, iv p4, rv b3, .unset, .unset] [.int p4, .int p3, .ref b7, .ref b7])
      obtain ⟨_, _, ⟨T9, L9, k9, n9⟩, -, X9, ⟨Lc9, hQ9, l9, y9, z9⟩, st9⟩ := X7.specialBack hx (y := own_y1) rfl hown (mvT hZ (own_w hw 3 rfl)) (mvT hZ (own_w hw 4 rfl)) (mvT hZ (own_w hw 5 rfl)) (by decide) (backOf (W := 1) (own_init l Z a0 hw [] b7 p3 p4 h7 n0 Z8 A7 F_line_b7 F_column_b7 g_b7) hZ (own_w hw 5 rfl) (own_w hw 2 rfl) (by decide) (by decide)) (g := (mkF m 45 #[iv p1, iv p2, iv p3, iv p4, iv p5, iv p3, iv p4, rv b3, .unset, .unset] [.int p4, .int p3, .ref b7, .ref b7])) rfl (by rw [hml]; rfl) (Steps.refl _) (a := b7) (argsL := [(.int p3), (.int p4)]) (rest := [(.ref b7)]) (lenOf own_pd_3 rfl) rfl (by show 2 * 0 + _ ≤ _; exact Nat.le_of_eq rfl) (hb hby at_45) (fun _ _ => ⟨rfl, e7, (by decide : 2 + 0 ≤ _), (by decide : 4 + 0 ≤ _)⟩)
      dsimp only [Pt.U, Pt.locs, Pt.cells, Pt.slots] at X9 l9 y9 z9 st9 hQ9
      subst l9 y9 z9
      obtain ⟨rfl, Nq9, Kq9, P9_0, P9_1, P9_2⟩ := hQ9
      have N9 := Fr.app N5 Nq9
      have e9 : T9.heap = T9.heap := rfl
      have Z10 := Nat.le_trans Z8 Kq9.1
      refine own_tr st9 ?_
      show own_E p e below _ T9 (mkF m 48 #[iv p1, iv p2, iv p3, iv p4, iv p5, iv p3, iv p4, rv b3, .unset, .unset] [.ref b7])
      refine own_st (fun t k => XS.astore X9.here hx rfl (hb hby at_48) rfl rfl (l' := #[iv p1, iv p2, iv p3, iv p4, iv p5, iv p3, iv p4, rv b3, rv b7, .unset]) rfl k) ?_
      show own_E p e below _ T9 (mkF m 50 #[iv p1, iv p2, iv p3, iv p4, iv p5, iv p3, iv p4, rv b3, rv b7, .unset] [])
      refine own_st (fun t k => XS.aload X9.here hx rfl (hb hby at_50) rfl rfl k) ?_
      show own_E p e below _ T9 (mkF m 52 #[iv p1, iv p2, iv p3, iv p4, iv p5, iv p3, iv p4, rv b3, rv b7, .unset] [.ref b3])
      refine own_st (fun t k => XS.aload X9.here hx rfl (hb hby at_52) rfl rfl k) ?_
      show own_E p e below _ T9 (mkF m 54 #[iv p1, iv p2, iv p3, iv p4, iv p5, iv p3, iv p4, rv b3, rv b7, .unset] [.ref b7, .ref b3])
      have B11 := ((P5_1.ext E7).keep Kq9 (ninS ne_b3_b7 nin0))
      have B12 := ((P5_2.ext E7).keep Kq9 (ninS ne_b3_b7 nin0))
      have B14 := ((P5_0.ext E7).keep Kq9)
      obtain ⟨cq13, kq13, q13a, q13b, q13c⟩ := isOf hZ e9 B14
      obtain ⟨_, _, ⟨T13, L13, k13, n13⟩, -, X13, ⟨Lc13, hQ13, l13, y13, z13⟩, st13⟩ := X9.virtualBack hx (y := own_y3) (z := own_y3) hown (mvT hZ (own_w hw 18 rfl)) (mvT hZ (own_w hw 19 rfl)) (notFace_of_selects (args := #[]) (mvT hZ (own_w hw 21 rfl))) (mvT hZ (own_w hw 21 rfl)) (mvT hZ (own_w hw 20 rfl)) (by decide) (backOf (W := 0) (own_cto l Z a0 hw [] b3 b7 p1 p2 p3 p4 T9.heap n0 Z10 B11 B12 P9_1 P9_2) hZ (own_w hw 22 rfl) (own_w hw 2 rfl) (by decide) (by decide)) q13a q13c (g := (mkF m 54 #[iv p1, iv p2, iv p3, iv p4, iv p5, iv p3, iv p4, rv b3, rv b7, .unset] [.ref b7, .ref b3])) rfl (by rw [hml]; rfl) (Steps.refl _) (argsL := [(.ref b7)]) (rest := []) (lenOf own_pd_6 rfl) rfl (by show 2 * 0 + _ ≤ _; exact Nat.le_of_eq rfl) (hb hby at_54) (fun _ _ => ⟨rfl, e9, (by decide : 2 + 0 ≤ _), (by decide : 4 + 0 ≤ _)⟩)
      dsimp only [Pt.U, Pt.locs, Pt.cells, Pt.slots] at X13 l13 y13 z13 st13 hQ13
      subst l13 y13 z13
      obtain ⟨hR13, e13, rfl⟩ := hQ13
      have N13 := Fr.app N9 (Fr.nil n0)
      rcases hR13 with ⟨rfl, ha13_0, ha13_1⟩ | ⟨rfl, ha13_0, ha13_1, ha13_2⟩ | ⟨rfl, ha13_0, ha13_1, ha13_2⟩ | ⟨rfl, ha13_0, ha13_1⟩ | ⟨rfl, ha13_0, ha13_1⟩
      · refine own_tr st13 ?_
        show own_E p e below _ T13 (mkF m 57 #[iv p1, iv p2, iv p3, iv p4, iv p5, iv p3, iv p4, rv b3, rv b7, .unset] [.int (-1)])
        refine own_st (fun t k => XS.istore X13.here hx rfl (hb hby at_57) rfl (l' := #[iv p1, iv p2, iv p3, iv p4, iv p5, iv p3, iv p4, rv b3, rv b7, iv (-1)]) rfl k) ?_
        show own_E p e below _ T13 (mkF m 59 #[iv p1, iv p2, iv p3, iv p4, iv p5, iv p3, iv p4, rv b3, rv b7, iv (-1)] [])
        refine own_st (fun t k => XS.iload X13.here hx rfl (hb hby at_59) rfl k) ?_
        show own_E p e below _ T13 (mkF m 61 #[iv p1, iv p2, iv p3, iv p4, iv p5, iv p3, iv p4, rv b3, rv b7, iv (-1)] [.int (-1)])
        obtain ⟨_, _, ⟨T15, L15, k15, n15⟩, -, X15, ⟨Lc15, hQ15, l15, y15, z15⟩, st15⟩ := Jvm.LawKit.callS X13 hx (y := own_y4) hown (mvT hZ (own_w hw 27 rfl)) (mvT hZ (own_w hw 28 rfl)) (mvT hZ (own_w hw 29 rfl)) (mvT hZ (own_w hw 30 rfl)) (by decide) (backOf (W := 0) (own_sign l Z a0 hw [] (-1 : Int32) T9.heap n0 Z10 ) hZ (own_w hw 30 rfl) (own_w hw 29 rfl) (by decide) (by decide)) (g := (mkF m 61 #[iv p1, iv p2, iv p3, iv p4, iv p5, iv p3, iv p4, rv b3, rv b7, iv (-1)] [.int (-1)])) rfl (by rw [hml]; rfl) (argsL := [(.int (-1 : Int32))]) (rest := []) (lenOf own_pd_1 rfl) rfl (by show 2 * 0 + _ ≤ _; exact Nat.le_of_eq rfl) (hb hby at_61) (fun _ _ => ⟨rfl, e13, (by decide : 2 + 0 ≤ _), (by decide : 4 + 0 ≤ _)⟩)
        dsimp only [Pt.U, Pt.locs, Pt.cells, Pt.slots] at X15 l15 y15 z15 st15 hQ15
        subst l15 y15 z15
        obtain ⟨hR15, e15, rfl⟩ := hQ15
        have N15 := Fr.app N13 (Fr.nil n0)
        rcases hR15 with ⟨rfl, ha15_0⟩ | ⟨rfl, ha15_0, ha15_1⟩ | ⟨rfl, ha15_0, ha15_1⟩
        · refine own_st st15 ?_
          show own_E p e below _ T15 (mkF m 64 #[iv p1, iv p2, iv p3, iv p4, iv p5, iv p3, iv p4, rv b3, rv b7, iv (-1)] [.int (-1)])
          refine own_st (fun t k => XS.iloadN X15.here hx rfl (hb hby at_64) rfl k) ?_
          show own_E p e below _ T15 (mkF m 65 #[iv p1, iv p2, iv p3, iv p4, iv p5, iv p3, iv p4, rv b3, rv b7, iv (-1)] [.int p1, .int (-1)])
          refine own_st (fun t k => XS.iloadN X15.here hx rfl (hb hby at_65) rfl k) ?_
          show own_E p e below _ T15 (mkF m 66 #[iv p1, iv p2, iv p3, iv p4, iv p5, iv p3, iv p4, rv b3, rv b7, iv (-1)] [.int p2, .int p1, .int (-1)])
          refine own_st (fun t k => XS.iload X15.here hx rfl (hb hby at_66) rfl k) ?_
          show own_E p e below _ T15 (mkF m 68 #[iv p1, iv p2, iv p3, iv p4, iv p5, iv p3, iv p4, rv b3, rv b7, iv (-1)] [.int p3, .int p2, .int p1, .int (-1)])
          refine own_st (fun t k => XS.iload X15.here hx rfl (hb hby at_68) rfl k) ?_
          show own_E p e below _ T15 (mkF m 70 #[iv p1, iv p2, iv p3, iv p4, iv p5, iv p3, iv p4, rv b3, rv b7, iv (-1)] [.int p4, .int p3, .int p2, .int p1, .int (-1)])
          obtain ⟨_, _, ⟨T16, L16, k16, n16⟩, -, X16, ⟨Lc16, hQ16, l16, y16, z16⟩, st16⟩ := Jvm.LawKit.callS X15 hx (y := own_y5) hown (mvT hZ (own_w hw 31 rfl)) (mvT hZ (own_w hw 32 rfl)) (mvT hZ (own_w hw 29 rfl)) (mvT hZ (own_w hw 33 rfl)) (by decide) (backOf (W := 1) (own_exp l Z a0 hw [] p1 p2 p3 p4 T9.heap n0 Z10 ) hZ (own_w hw 33 rfl) (own_w hw 29 rfl) (by decide) (by decide)) (g := (mkF m 70 #[iv p1, iv p2, iv p3, iv p4, iv p5, iv p3, iv p4, rv b3, rv b7, iv (-1)] [.int p4, .int p3, .int p2, .int p1, .int (-1)])) rfl (by rw [hml]; rfl) (argsL := [(.int p1), (.int p2), (.int p3), (.int p4)]) (rest := [(.int (-1 : Int32))]) (lenOf own_pd_4 rfl) rfl (by show 2 * 0 + _ ≤ _; exact Nat.le_of_eq rfl) (hb hby at_70) (fun _ _ => ⟨rfl, e15, (by decide : 2 + 0 ≤ _), (by decide : 4 + 0 ≤ _)⟩)
          dsimp only [Pt.U, Pt.locs, Pt.cells, Pt.slots] at X16 l16 y16 z16 st16 hQ16
          subst l16 y16 z16
          obtain ⟨hR16, e16, rfl⟩ := hQ16
          have N16 := Fr.app N15 (Fr.nil n0)
          rcases hR16 with ⟨rfl, ha16_0⟩ | ⟨rfl, ha16_0, ha16_1⟩ | ⟨rfl, ha16_0, ha16_1, ha16_2⟩ | ⟨rfl, ha16_0, ha16_1, ha16_2, ha16_3⟩ | ⟨rfl, ha16_0, ha16_1, ha16_2, ha16_3⟩
          · exfalso
            have f17 := rng32 p5
            have f18 : (1 : Int32).toInt = 1 := rfl
            have f19 := rng32 (p5 &&& (1 : Int32))
            have f20 : (p5 &&& (1 : Int32)).toInt = p5.toInt % 2 := c_mask p5 (1 : Int32) 1 (by decide) (by decide)
            have f21 : (0 : Int32).toInt = 0 := rfl
            have f22 : (2 : Int32).toInt = 2 := rfl
            have f23 := rng32 (p5 &&& (2 : Int32))
            have f24 := c_and p5 (2 : Int32) (by decide)
            have f25 := rng32 p1
            have f26 := rng32 p3
            have f27 := rng32 p2
            have f28 := rng32 p4
            have g29 := hc1
            rw [← Int32.toInt_inj] at g29
            have g30 := hc2
            rw [← Int32.toInt_inj] at g30
            have g31 := ha13_0
            rw [← Int32.toInt_inj] at g31
            have g32 := ha13_1
            rw [Int32.lt_iff_toInt_lt] at g32
            have g33 := ha16_0
            rw [Int32.lt_iff_toInt_lt] at g33
            omega
          · exfalso
            have f34 := rng32 p5
            have f35 : (1 : Int32).toInt = 1 := rfl
            have f36 := rng32 (p5 &&& (1 : Int32))
            have f37 : (p5 &&& (1 : Int32)).toInt = p5.toInt % 2 := c_mask p5 (1 : Int32) 1 (by decide) (by decide)
            have f38 : (0 : Int32).toInt = 0 := rfl
            have f39 : (2 : Int32).toInt = 2 := rfl
            have f40 := rng32 (p5 &&& (2 : Int32))
            have f41 := c_and p5 (2 : Int32) (by decide)
            have f42 := rng32 p1
            have f43 := rng32 p3
            have f44 := rng32 p2
            have f45 := rng32 p4
            have g46 := hc1
            rw [← Int32.toInt_inj] at g46
            have g47 := hc2
            rw [← Int32.toInt_inj] at g47
            have g48 := ha13_0
            rw [← Int32.toInt_inj] at g48
            have g49 := ha13_1
            rw [Int32.lt_iff_toInt_lt] at g49
            have g50 := ha16_0
            rw [Int32.lt_iff_toInt_lt] at g50
            have g51 := ha16_1
            rw [Int32.lt_iff_toInt_lt] at g51
            omega
          · refine own_st st16 ?_
            show own_E p e below _ T16 (mkF m 73 #[iv p1, iv p2, iv p3, iv p4, iv p5, iv p3, iv p4, rv b3, rv b7, iv (-1)] [.int (-1), .int (-1)])
            refine own_st (fun t k => XS.icmpNo X16.here hx rfl (hb hby at_73) rfl (by decide) k) ?_
            show own_E p e below _ T16 (mkF m 76 #[iv p1, iv p2, iv p3, iv p4, iv p5, iv p3, iv p4, rv b3, rv b7, iv (-1)] [])
            refine own_st (fun t k => XS.iconst X16.here hx rfl (hb hby at_76) k) ?_
            show own_E p e below _ T16 (mkF m 77 #[iv p1, iv p2, iv p3, iv p4, iv p5, iv p3, iv p4, rv b3, rv b7, iv (-1)] [.int 1])
            refine own_st (fun t k => XS.goto X16.here hx rfl (pc0 := 77) (pc' := 81) rfl (hb hby at_77) (by decide) (by decide) k) ?_
            show own_E p e below _ T16 (mkF m 81 #[iv p1, iv p2, iv p3, iv p4, iv p5, iv p3, iv p4, rv b3, rv b7, iv (-1)] [.int 1])
            refine own_retS X16 hx Bd.notSynchronized Bd.returns rfl (by decide) (hb hby at_81) (by decide) (by decide) ?_
            exact ⟨rfl, N16⟩
          · exact absurd ha13_1 ha16_2
          · exact absurd ha13_1 ha16_2
        · exact absurd ha15_0 (by decide)
        · exact absurd ha15_0 (by decide)
      · refine own_tr st13 ?_
        show own_E p e below _ T13 (mkF m 57 #[iv p1, iv p2, iv p3, iv p4, iv p5, iv p3, iv p4, rv b3, rv b7, .unset] [.int 0])
        refine own_st (fun t k => XS.istore X13.here hx rfl (hb hby at_57) rfl (l' := #[iv p1, iv p2, iv p3, iv p4, iv p5, iv p3, iv p4, rv b3, rv b7, iv 0]) rfl k) ?_
        show own_E p e below _ T13 (mkF m 59 #[iv p1, iv p2, iv p3, iv p4, iv p5, iv p3, iv p4, rv b3, rv b7, iv 0] [])
        refine own_st (fun t k => XS.iload X13.here hx rfl (hb hby at_59) rfl k) ?_
        show own_E p e below _ T13 (mkF m 61 #[iv p1, iv p2, iv p3, iv p4, iv p5, iv p3, iv p4, rv b3, rv b7, iv 0] [.int 0])
        obtain ⟨_, _, ⟨T52, L52, k52, n52⟩, -, X52, ⟨Lc52, hQ52, l52, y52, z52⟩, st52⟩ := Jvm.LawKit.callS X13 hx (y := own_y4) hown (mvT hZ (own_w hw 27 rfl)) (mvT hZ (own_w hw 28 rfl)) (mvT hZ (own_w hw 29 rfl)) (mvT hZ (own_w hw 30 rfl)) (by decide) (backOf (W := 0) (own_sign l Z a0 hw [] (0 : Int32) T9.heap n0 Z10 ) hZ (own_w hw 30 rfl) (own_w hw 29 rfl) (by decide) (by decide)) (g := (mkF m 61 #[iv p1, iv p2, iv p3, iv p4, iv p5, iv p3, iv p4, rv b3, rv b7, iv 0] [.int 0])) rfl (by rw [hml]; rfl) (argsL := [(.int (0 : Int32))]) (rest := []) (lenOf own_pd_1 rfl) rfl (by show 2 * 0 + _ ≤ _; exact Nat.le_of_eq rfl) (hb hby at_61) (fun _ _ => ⟨rfl, e13, (by decide : 2 + 0 ≤ _), (by decide : 4 + 0 ≤ _)⟩)
        dsimp only [Pt.U, Pt.locs, Pt.cells, Pt.slots] at X52 l52 y52 z52 st52 hQ52
        subst l52 y52 z52
        obtain ⟨hR52, e52, rfl⟩ := hQ52
        have N52 := Fr.app N13 (Fr.nil n0)
        rcases hR52 with ⟨rfl, ha52_0⟩ | ⟨rfl, ha52_0, ha52_1⟩ | ⟨rfl, ha52_0, ha52_1⟩
        · exact absurd ha52_0 (by decide)
        · exact absurd ha52_1 (by decide)
        · refine own_st st52 ?_
          show own_E p e below _ T52 (mkF m 64 #[iv p1, iv p2, iv p3, iv p4, iv p5, iv p3, iv p4, rv b3, rv b7, iv 0] [.int 0])
          refine own_st (fun t k => XS.iloadN X52.here hx rfl (hb hby at_64) rfl k) ?_
          show own_E p e below _ T52 (mkF m 65 #[iv p1, iv p2, iv p3, iv p4, iv p5, iv p3, iv p4, rv b3, rv b7, iv 0] [.int p1, .int 0])
          refine own_st (fun t k => XS.iloadN X52.here hx rfl (hb hby at_65) rfl k) ?_
          show own_E p e below _ T52 (mkF m 66 #[iv p1, iv p2, iv p3, iv p4, iv p5, iv p3, iv p4, rv b3, rv b7, iv 0] [.int p2, .int p1, .int 0])
          refine own_st (fun t k => XS.iload X52.here hx rfl (hb hby at_66) rfl k) ?_
          show own_E p e below _ T52 (mkF m 68 #[iv p1, iv p2, iv p3, iv p4, iv p5, iv p3, iv p4, rv b3, rv b7, iv 0] [.int p3, .int p2, .int p1, .int 0])
          refine own_st (fun t k => XS.iload X52.here hx rfl (hb hby at_68) rfl k) ?_
          show own_E p e below _ T52 (mkF m 70 #[iv p1, iv p2, iv p3, iv p4, iv p5, iv p3, iv p4, rv b3, rv b7, iv 0] [.int p4, .int p3, .int p2, .int p1, .int 0])
          obtain ⟨_, _, ⟨T53, L53, k53, n53⟩, -, X53, ⟨Lc53, hQ53, l53, y53, z53⟩, st53⟩ := Jvm.LawKit.callS X52 hx (y := own_y5) hown (mvT hZ (own_w hw 31 rfl)) (mvT hZ (own_w hw 32 rfl)) (mvT hZ (own_w hw 29 rfl)) (mvT hZ (own_w hw 33 rfl)) (by decide) (backOf (W := 1) (own_exp l Z a0 hw [] p1 p2 p3 p4 T9.heap n0 Z10 ) hZ (own_w hw 33 rfl) (own_w hw 29 rfl) (by decide) (by decide)) (g := (mkF m 70 #[iv p1, iv p2, iv p3, iv p4, iv p5, iv p3, iv p4, rv b3, rv b7, iv 0] [.int p4, .int p3, .int p2, .int p1, .int 0])) rfl (by rw [hml]; rfl) (argsL := [(.int p1), (.int p2), (.int p3), (.int p4)]) (rest := [(.int (0 : Int32))]) (lenOf own_pd_4 rfl) rfl (by show 2 * 0 + _ ≤ _; exact Nat.le_of_eq rfl) (hb hby at_70) (fun _ _ => ⟨rfl, e52, (by decide : 2 + 0 ≤ _), (by decide : 4 + 0 ≤ _)⟩)
          dsimp only [Pt.U, Pt.locs, Pt.cells, Pt.slots] at X53 l53 y53 z53 st53 hQ53
          subst l53 y53 z53
          obtain ⟨hR53, e53, rfl⟩ := hQ53
          have N53 := Fr.app N52 (Fr.nil n0)
          rcases hR53 with ⟨rfl, ha53_0⟩ | ⟨rfl, ha53_0, ha53_1⟩ | ⟨rfl, ha53_0, ha53_1, ha53_2⟩ | ⟨rfl, ha53_0, ha53_1, ha53_2, ha53_3⟩ | ⟨rfl, ha53_0, ha53_1, ha53_2, ha53_3⟩
          · exfalso
            have f54 := rng32 p5
            have f55 : (1 : Int32).toInt = 1 := rfl
            have f56 := rng32 (p5 &&& (1 : Int32))
            have f57 : (p5 &&& (1 : Int32)).toInt = p5.toInt % 2 := c_mask p5 (1 : Int32) 1 (by decide) (by decide)
            have f58 : (0 : Int32).toInt = 0 := rfl
            have f59 : (2 : Int32).toInt = 2 := rfl
            have f60 := rng32 (p5 &&& (2 : Int32))
            have f61 := c_and p5 (2 : Int32) (by decide)
            have f62 := rng32 p1
            have f63 := rng32 p3
            have f64 := rng32 p2
            have f65 := rng32 p4
            have g66 := hc1
            rw [← Int32.toInt_inj] at g66
            have g67 := hc2
            rw [← Int32.toInt_inj] at g67
            have g68 := ha13_0
            rw [← Int32.toInt_inj] at g68
            have g69 := ha13_1
            rw [Int32.lt_iff_toInt_lt] at g69
            have g70 := ha13_2
            rw [← Int32.toInt_inj] at g70
            have g71 := ha53_0
            rw [Int32.lt_iff_toInt_lt] at g71
            omega
          · exfalso
            have f72 := rng32 p5
            have f73 : (1 : Int32).toInt = 1 := rfl
            have f74 := rng32 (p5 &&& (1 : Int32))
            have f75 : (p5 &&& (1 : Int32)).toInt = p5.toInt % 2 := c_mask p5 (1 : Int32) 1 (by decide) (by decide)
            have f76 : (0 : Int32).toInt = 0 := rfl
            have f77 : (2 : Int32).toInt = 2 := rfl
            have f78 := rng32 (p5 &&& (2 : Int32))
            have f79 := c_and p5 (2 : Int32) (by decide)
            have f80 := rng32 p1
            have f81 := rng32 p3
            have f82 := rng32 p2
            have f83 := rng32 p4
            have g84 := hc1
            rw [← Int32.toInt_inj] at g84
            have g85 := hc2
            rw [← Int32.toInt_inj] at g85
            have g86 := ha13_0
            rw [← Int32.toInt_inj] at g86
            have g87 := ha13_1
            rw [Int32.lt_iff_toInt_lt] at g87
            have g88 := ha13_2
            rw [← Int32.toInt_inj] at g88
            have g89 := ha53_0
            rw [Int32.lt_iff_toInt_lt] at g89
            have g90 := ha53_1
            rw [Int32.lt_iff_toInt_lt] at g90
            omega
          · exact absurd ha53_2 ha13_1
          · exfalso
            have f91 := rng32 p5
            have f92 : (1 : Int32).toInt = 1 := rfl
            have f93 := rng32 (p5 &&& (1 : Int32))
            have f94 : (p5 &&& (1 : Int32)).toInt = p5.toInt % 2 := c_mask p5 (1 : Int32) 1 (by decide) (by decide)
            have f95 : (0 : Int32).toInt = 0 := rfl
            have f96 : (2 : Int32).toInt = 2 := rfl
            have f97 := rng32 (p5 &&& (2 : Int32))
            have f98 := c_and p5 (2 : Int32) (by decide)
            have f99 := rng32 p1
            have f100 := rng32 p3
            have f101 := rng32 p2
            have f102 := rng32 p4
            have g103 := hc1
            rw [← Int32.toInt_inj] at g103
            have g104 := hc2
            rw [← Int32.toInt_inj] at g104
            have g105 := ha13_0
            rw [← Int32.toInt_inj] at g105
            have g106 := ha13_1
            rw [Int32.lt_iff_toInt_lt] at g106
            have g107 := ha13_2
            rw [← Int32.toInt_inj] at g107
            have g108 := ha53_0
            rw [Int32.lt_iff_toInt_lt] at g108
            have g109 := ha53_1
            rw [Int32.lt_iff_toInt_lt] at g109
            have g110 := ha53_3
            rw [Int32.lt_iff_toInt_lt] at g110
            omega
          · refine own_st st53 ?_
            show own_E p e below _ T53 (mkF m 73 #[iv p1, iv p2, iv p3, iv p4, iv p5, iv p3, iv p4, rv b3, rv b7, iv 0] [.int 0, .int 0])
            refine own_st (fun t k => XS.icmpNo X53.here hx rfl (hb hby at_73) rfl (by decide) k) ?_
            show own_E p e below _ T53 (mkF m 76 #[iv p1, iv p2, iv p3, iv p4, iv p5, iv p3, iv p4, rv b3, rv b7, iv 0] [])
            refine own_st (fun t k => XS.iconst X53.here hx rfl (hb hby at_76) k) ?_
            show own_E p e below _ T53 (mkF m 77 #[iv p1, iv p2, iv p3, iv p4, iv p5, iv p3, iv p4, rv b3, rv b7, iv 0] [.int 1])
            refine own_st (fun t k => XS.goto X53.here hx rfl (pc0 := 77) (pc' := 81) rfl (hb hby at_77) (by decide) (by decide) k) ?_
            show own_E p e below _ T53 (mkF m 81 #[iv p1, iv p2, iv p3, iv p4, iv p5, iv p3, iv p4, rv b3, rv b7, iv 0] [.int 1])
            refine own_retS X53 hx Bd.notSynchronized Bd.returns rfl (by decide) (hb hby at_81) (by decide) (by decide) ?_
            exact ⟨rfl, N53⟩
      · refine own_tr st13 ?_
        show own_E p e below _ T13 (mkF m 57 #[iv p1, iv p2, iv p3, iv p4, iv p5, iv p3, iv p4, rv b3, rv b7, .unset] [.int 1])
        refine own_st (fun t k => XS.istore X13.here hx rfl (hb hby at_57) rfl (l' := #[iv p1, iv p2, iv p3, iv p4, iv p5, iv p3, iv p4, rv b3, rv b7, iv 1]) rfl k) ?_
        show own_E p e below _ T13 (mkF m 59 #[iv p1, iv p2, iv p3, iv p4, iv p5, iv p3, iv p4, rv b3, rv b7, iv 1] [])
        refine own_st (fun t k => XS.iload X13.here hx rfl (hb hby at_59) rfl k) ?_
        show own_E p e below _ T13 (mkF m 61 #[iv p1, iv p2, iv p3, iv p4, iv p5, iv p3, iv p4, rv b3, rv b7, iv 1] [.int 1])
        obtain ⟨_, _, ⟨T111, L111, k111, n111⟩, -, X111, ⟨Lc111, hQ111, l111, y111, z111⟩, st111⟩ := Jvm.LawKit.callS X13 hx (y := own_y4) hown (mvT hZ (own_w hw 27 rfl)) (mvT hZ (own_w hw 28 rfl)) (mvT hZ (own_w hw 29 rfl)) (mvT hZ (own_w hw 30 rfl)) (by decide) (backOf (W := 0) (own_sign l Z a0 hw [] (1 : Int32) T9.heap n0 Z10 ) hZ (own_w hw 30 rfl) (own_w hw 29 rfl) (by decide) (by decide)) (g := (mkF m 61 #[iv p1, iv p2, iv p3, iv p4, iv p5, iv p3, iv p4, rv b3, rv b7, iv 1] [.int 1])) rfl (by rw [hml]; rfl) (argsL := [(.int (1 : Int32))]) (rest := []) (lenOf own_pd_1 rfl) rfl (by show 2 * 0 + _ ≤ _; exact Nat.le_of_eq rfl) (hb hby at_61) (fun _ _ => ⟨rfl, e13, (by decide : 2 + 0 ≤ _), (by decide : 4 + 0 ≤ _)⟩)
        dsimp only [Pt.U, Pt.locs, Pt.cells, Pt.slots] at X111 l111 y111 z111 st111 hQ111
        subst l111 y111 z111
        obtain ⟨hR111, e111, rfl⟩ := hQ111
        have N111 := Fr.app N13 (Fr.nil n0)
        rcases hR111 with ⟨rfl, ha111_0⟩ | ⟨rfl, ha111_0, ha111_1⟩ | ⟨rfl, ha111_0, ha111_1⟩
        · exact absurd ha111_0 (by decide)
        · refine own_st st111 ?_
          show own_E p e below _ T111 (mkF m 64 #[iv p1, iv p2, iv p3, iv p4, iv p5, iv p3, iv p4, rv b3, rv b7, iv 1] [.int 1])
          refine own_st (fun t k => XS.iloadN X111.here hx rfl (hb hby at_64) rfl k) ?_
          show own_E p e below _ T111 (mkF m 65 #[iv p1, iv p2, iv p3, iv p4, iv p5, iv p3, iv p4, rv b3, rv b7, iv 1] [.int p1, .int 1])
          refine own_st (fun t k => XS.iloadN X111.here hx rfl (hb hby at_65) rfl k) ?_
          show own_E p e below _ T111 (mkF m 66 #[iv p1, iv p2, iv p3, iv p4, iv p5, iv p3, iv p4, rv b3, rv b7, iv 1] [.int p2, .int p1, .int 1])
          refine own_st (fun t k => XS.iload X111.here hx rfl (hb hby at_66) rfl k) ?_
          show own_E p e below _ T111 (mkF m 68 #[iv p1, iv p2, iv p3, iv p4, iv p5, iv p3, iv p4, rv b3, rv b7, iv 1] [.int p3, .int p2, .int p1, .int 1])
          refine own_st (fun t k => XS.iload X111.here hx rfl (hb hby at_68) rfl k) ?_
          show own_E p e below _ T111 (mkF m 70 #[iv p1, iv p2, iv p3, iv p4, iv p5, iv p3, iv p4, rv b3, rv b7, iv 1] [.int p4, .int p3, .int p2, .int p1, .int 1])
          obtain ⟨_, _, ⟨T112, L112, k112, n112⟩, -, X112, ⟨Lc112, hQ112, l112, y112, z112⟩, st112⟩ := Jvm.LawKit.callS X111 hx (y := own_y5) hown (mvT hZ (own_w hw 31 rfl)) (mvT hZ (own_w hw 32 rfl)) (mvT hZ (own_w hw 29 rfl)) (mvT hZ (own_w hw 33 rfl)) (by decide) (backOf (W := 1) (own_exp l Z a0 hw [] p1 p2 p3 p4 T9.heap n0 Z10 ) hZ (own_w hw 33 rfl) (own_w hw 29 rfl) (by decide) (by decide)) (g := (mkF m 70 #[iv p1, iv p2, iv p3, iv p4, iv p5, iv p3, iv p4, rv b3, rv b7, iv 1] [.int p4, .int p3, .int p2, .int p1, .int 1])) rfl (by rw [hml]; rfl) (argsL := [(.int p1), (.int p2), (.int p3), (.int p4)]) (rest := [(.int (1 : Int32))]) (lenOf own_pd_4 rfl) rfl (by show 2 * 0 + _ ≤ _; exact Nat.le_of_eq rfl) (hb hby at_70) (fun _ _ => ⟨rfl, e111, (by decide : 2 + 0 ≤ _), (by decide : 4 + 0 ≤ _)⟩)
          dsimp only [Pt.U, Pt.locs, Pt.cells, Pt.slots] at X112 l112 y112 z112 st112 hQ112
          subst l112 y112 z112
          obtain ⟨hR112, e112, rfl⟩ := hQ112
          have N112 := Fr.app N111 (Fr.nil n0)
          rcases hR112 with ⟨rfl, ha112_0⟩ | ⟨rfl, ha112_0, ha112_1⟩ | ⟨rfl, ha112_0, ha112_1, ha112_2⟩ | ⟨rfl, ha112_0, ha112_1, ha112_2, ha112_3⟩ | ⟨rfl, ha112_0, ha112_1, ha112_2, ha112_3⟩
          · exfalso
            have f113 := rng32 p5
            have f114 : (1 : Int32).toInt = 1 := rfl
            have f115 := rng32 (p5 &&& (1 : Int32))
            have f116 : (p5 &&& (1 : Int32)).toInt = p5.toInt % 2 := c_mask p5 (1 : Int32) 1 (by decide) (by decide)
            have f117 : (0 : Int32).toInt = 0 := rfl
            have f118 : (2 : Int32).toInt = 2 := rfl
            have f119 := rng32 (p5 &&& (2 : Int32))
            have f120 := c_and p5 (2 : Int32) (by decide)
            have f121 := rng32 p1
            have f122 := rng32 p3
            have f123 := rng32 p2
            have f124 := rng32 p4
            have g125 := hc1
            rw [← Int32.toInt_inj] at g125
            have g126 := hc2
            rw [← Int32.toInt_inj] at g126
            have g127 := ha13_0
            rw [← Int32.toInt_inj] at g127
            have g128 := ha13_1
            rw [Int32.lt_iff_toInt_lt] at g128
            have g129 := ha13_2
            rw [← Int32.toInt_inj] at g129
            have g130 := ha112_0
            rw [Int32.lt_iff_toInt_lt] at g130
            omega
          · exfalso
            have f131 := rng32 p5
            have f132 : (1 : Int32).toInt = 1 := rfl
            have f133 := rng32 (p5 &&& (1 : Int32))
            have f134 : (p5 &&& (1 : Int32)).toInt = p5.toInt % 2 := c_mask p5 (1 : Int32) 1 (by decide) (by decide)
            have f135 : (0 : Int32).toInt = 0 := rfl
            have f136 : (2 : Int32).toInt = 2 := rfl
            have f137 := rng32 (p5 &&& (2 : Int32))
            have f138 := c_and p5 (2 : Int32) (by decide)
            have f139 := rng32 p1
            have f140 := rng32 p3
            have f141 := rng32 p2
            have f142 := rng32 p4
            have g143 := hc1
            rw [← Int32.toInt_inj] at g143
            have g144 := hc2
            rw [← Int32.toInt_inj] at g144
            have g145 := ha13_0
            rw [← Int32.toInt_inj] at g145
            have g146 := ha13_1
            rw [Int32.lt_iff_toInt_lt] at g146
            have g147 := ha13_2
            rw [← Int32.toInt_inj] at g147
            have g148 := ha112_0
            rw [Int32.lt_iff_toInt_lt] at g148
            have g149 := ha112_1
            rw [Int32.lt_iff_toInt_lt] at g149
            omega
          · exact absurd ha112_2 ha13_1
          · refine own_st st112 ?_
            show own_E p e below _ T112 (mkF m 73 #[iv p1, iv p2, iv p3, iv p4, iv p5, iv p3, iv p4, rv b3, rv b7, iv 1] [.int 1, .int 1])
            refine own_st (fun t k => XS.icmpNo X112.here hx rfl (hb hby at_73) rfl (by decide) k) ?_
            show own_E p e below _ T112 (mkF m 76 #[iv p1, iv p2, iv p3, iv p4, iv p5, iv p3, iv p4, rv b3, rv b7, iv 1] [])
            refine own_st (fun t k => XS.iconst X112.here hx rfl (hb hby at_76) k) ?_
            show own_E p e below _ T112 (mkF m 77 #[iv p1, iv p2, iv p3, iv p4, iv p5, iv p3, iv p4, rv b3, rv b7, iv 1] [.int 1])
            refine own_st (fun t k => XS.goto X112.here hx rfl (pc0 := 77) (pc' := 81) rfl (hb hby at_77) (by decide) (by decide) k) ?_
            show own_E p e below _ T112 (mkF m 81 #[iv p1, iv p2, iv p3, iv p4, iv p5, iv p3, iv p4, rv b3, rv b7, iv 1] [.int 1])
            refine own_retS X112 hx Bd.notSynchronized Bd.returns rfl (by decide) (hb hby at_81) (by decide) (by decide) ?_
            exact ⟨rfl, N112⟩
          · exfalso
            have f150 := rng32 p5
            have f151 : (1 : Int32).toInt = 1 := rfl
            have f152 := rng32 (p5 &&& (1 : Int32))
            have f153 : (p5 &&& (1 : Int32)).toInt = p5.toInt % 2 := c_mask p5 (1 : Int32) 1 (by decide) (by decide)
            have f154 : (0 : Int32).toInt = 0 := rfl
            have f155 : (2 : Int32).toInt = 2 := rfl
            have f156 := rng32 (p5 &&& (2 : Int32))
            have f157 := c_and p5 (2 : Int32) (by decide)
            have f158 := rng32 p1
            have f159 := rng32 p3
            have f160 := rng32 p2
            have f161 := rng32 p4
            have g162 := hc1
            rw [← Int32.toInt_inj] at g162
            have g163 := hc2
            rw [← Int32.toInt_inj] at g163
            have g164 := ha13_0
            rw [← Int32.toInt_inj] at g164
            have g165 := ha13_1
            rw [Int32.lt_iff_toInt_lt] at g165
            have g166 := ha13_2
            rw [← Int32.toInt_inj] at g166
            have g167 := ha112_0
            rw [Int32.lt_iff_toInt_lt] at g167
            have g168 := ha112_1
            rw [Int32.lt_iff_toInt_lt] at g168
            have g169 := ha112_3
            rw [Int32.lt_iff_toInt_lt] at g169
            omega
        · exact absurd ha111_1 (by decide)
      · refine own_tr st13 ?_
        show own_E p e below _ T13 (mkF m 57 #[iv p1, iv p2, iv p3, iv p4, iv p5, iv p3, iv p4, rv b3, rv b7, .unset] [.int (-1)])
        refine own_st (fun t k => XS.istore X13.here hx rfl (hb hby at_57) rfl (l' := #[iv p1, iv p2, iv p3, iv p4, iv p5, iv p3, iv p4, rv b3, rv b7, iv (-1)]) rfl k) ?_
        show own_E p e below _ T13 (mkF m 59 #[iv p1, iv p2, iv p3, iv p4, iv p5, iv p3, iv p4, rv b3, rv b7, iv (-1)] [])
        refine own_st (fun t k => XS.iload X13.here hx rfl (hb hby at_59) rfl k) ?_
        show own_E p e below _ T13 (mkF m 61 #[iv p1, iv p2, iv p3, iv p4, iv p5, iv p3, iv p4, rv b3, rv b7, iv (-1)] [.int (-1)])
        obtain ⟨_, _, ⟨T170, L170, k170, n170⟩, -, X170, ⟨Lc170, hQ170, l170, y170, z170⟩, st170⟩ := Jvm.LawKit.callS X13 hx (y := own_y4) hown (mvT hZ (own_w hw 27 rfl)) (mvT hZ (own_w hw 28 rfl)) (mvT hZ (own_w hw 29 rfl)) (mvT hZ (own_w hw 30 rfl)) (by decide) (backOf (W := 0) (own_sign l Z a0 hw [] (-1 : Int32) T9.heap n0 Z10 ) hZ (own_w hw 30 rfl) (own_w hw 29 rfl) (by decide) (by decide)) (g := (mkF m 61 #[iv p1, iv p2, iv p3, iv p4, iv p5, iv p3, iv p4, rv b3, rv b7, iv (-1)] [.int (-1)])) rfl (by rw [hml]; rfl) (argsL := [(.int (-1 : Int32))]) (rest := []) (lenOf own_pd_1 rfl) rfl (by show 2 * 0 + _ ≤ _; exact Nat.le_of_eq rfl) (hb hby at_61) (fun _ _ => ⟨rfl, e13, (by decide : 2 + 0 ≤ _), (by decide : 4 + 0 ≤ _)⟩)
        dsimp only [Pt.U, Pt.locs, Pt.cells, Pt.slots] at X170 l170 y170 z170 st170 hQ170
        subst l170 y170 z170
        obtain ⟨hR170, e170, rfl⟩ := hQ170
        have N170 := Fr.app N13 (Fr.nil n0)
        rcases hR170 with ⟨rfl, ha170_0⟩ | ⟨rfl, ha170_0, ha170_1⟩ | ⟨rfl, ha170_0, ha170_1⟩
        · refine own_st st170 ?_
          show own_E p e below _ T170 (mkF m 64 #[iv p1, iv p2, iv p3, iv p4, iv p5, iv p3, iv p4, rv b3, rv b7, iv (-1)] [.int (-1)])
          refine own_st (fun t k => XS.iloadN X170.here hx rfl (hb hby at_64) rfl k) ?_
          show own_E p e below _ T170 (mkF m 65 #[iv p1, iv p2, iv p3, iv p4, iv p5, iv p3, iv p4, rv b3, rv b7, iv (-1)] [.int p1, .int (-1)])
          refine own_st (fun t k => XS.iloadN X170.here hx rfl (hb hby at_65) rfl k) ?_
          show own_E p e below _ T170 (mkF m 66 #[iv p1, iv p2, iv p3, iv p4, iv p5, iv p3, iv p4, rv b3, rv b7, iv (-1)] [.int p2, .int p1, .int (-1)])
          refine own_st (fun t k => XS.iload X170.here hx rfl (hb hby at_66) rfl k) ?_
          show own_E p e below _ T170 (mkF m 68 #[iv p1, iv p2, iv p3, iv p4, iv p5, iv p3, iv p4, rv b3, rv b7, iv (-1)] [.int p3, .int p2, .int p1, .int (-1)])
          refine own_st (fun t k => XS.iload X170.here hx rfl (hb hby at_68) rfl k) ?_
          show own_E p e below _ T170 (mkF m 70 #[iv p1, iv p2, iv p3, iv p4, iv p5, iv p3, iv p4, rv b3, rv b7, iv (-1)] [.int p4, .int p3, .int p2, .int p1, .int (-1)])
          obtain ⟨_, _, ⟨T171, L171, k171, n171⟩, -, X171, ⟨Lc171, hQ171, l171, y171, z171⟩, st171⟩ := Jvm.LawKit.callS X170 hx (y := own_y5) hown (mvT hZ (own_w hw 31 rfl)) (mvT hZ (own_w hw 32 rfl)) (mvT hZ (own_w hw 29 rfl)) (mvT hZ (own_w hw 33 rfl)) (by decide) (backOf (W := 1) (own_exp l Z a0 hw [] p1 p2 p3 p4 T9.heap n0 Z10 ) hZ (own_w hw 33 rfl) (own_w hw 29 rfl) (by decide) (by decide)) (g := (mkF m 70 #[iv p1, iv p2, iv p3, iv p4, iv p5, iv p3, iv p4, rv b3, rv b7, iv (-1)] [.int p4, .int p3, .int p2, .int p1, .int (-1)])) rfl (by rw [hml]; rfl) (argsL := [(.int p1), (.int p2), (.int p3), (.int p4)]) (rest := [(.int (-1 : Int32))]) (lenOf own_pd_4 rfl) rfl (by show 2 * 0 + _ ≤ _; exact Nat.le_of_eq rfl) (hb hby at_70) (fun _ _ => ⟨rfl, e170, (by decide : 2 + 0 ≤ _), (by decide : 4 + 0 ≤ _)⟩)
          dsimp only [Pt.U, Pt.locs, Pt.cells, Pt.slots] at X171 l171 y171 z171 st171 hQ171
          subst l171 y171 z171
          obtain ⟨hR171, e171, rfl⟩ := hQ171
          have N171 := Fr.app N170 (Fr.nil n0)
          rcases hR171 with ⟨rfl, ha171_0⟩ | ⟨rfl, ha171_0, ha171_1⟩ | ⟨rfl, ha171_0, ha171_1, ha171_2⟩ | ⟨rfl, ha171_0, ha171_1, ha171_2, ha171_3⟩ | ⟨rfl, ha171_0, ha171_1, ha171_2, ha171_3⟩
          · refine own_st st171 ?_
            show own_E p e below _ T171 (mkF m 73 #[iv p1, iv p2, iv p3, iv p4, iv p5, iv p3, iv p4, rv b3, rv b7, iv (-1)] [.int (-1), .int (-1)])
            refine own_st (fun t k => XS.icmpNo X171.here hx rfl (hb hby at_73) rfl (by decide) k) ?_
            show own_E p e below _ T171 (mkF m 76 #[iv p1, iv p2, iv p3, iv p4, iv p5, iv p3, iv p4, rv b3, rv b7, iv (-1)] [])
            refine own_st (fun t k => XS.iconst X171.here hx rfl (hb hby at_76) k) ?_
            show own_E p e below _ T171 (mkF m 77 #[iv p1, iv p2, iv p3, iv p4, iv p5, iv p3, iv p4, rv b3, rv b7, iv (-1)] [.int 1])
            refine own_st (fun t k => XS.goto X171.here hx rfl (pc0 := 77) (pc' := 81) rfl (hb hby at_77) (by decide) (by decide) k) ?_
            show own_E p e below _ T171 (mkF m 81 #[iv p1, iv p2, iv p3, iv p4, iv p5, iv p3, iv p4, rv b3, rv b7, iv (-1)] [.int 1])
            refine own_retS X171 hx Bd.notSynchronized Bd.returns rfl (by decide) (hb hby at_81) (by decide) (by decide) ?_
            exact ⟨rfl, N171⟩
          · exact absurd ha13_1 ha171_0
          · exact absurd ha13_1 ha171_0
          · exact absurd ha13_1 ha171_0
          · exact absurd ha13_1 ha171_0
        · exact absurd ha170_0 (by decide)
        · exact absurd ha170_0 (by decide)
      · refine own_tr st13 ?_
        show own_E p e below _ T13 (mkF m 57 #[iv p1, iv p2, iv p3, iv p4, iv p5, iv p3, iv p4, rv b3, rv b7, .unset] [.int 1])
        refine own_st (fun t k => XS.istore X13.here hx rfl (hb hby at_57) rfl (l' := #[iv p1, iv p2, iv p3, iv p4, iv p5, iv p3, iv p4, rv b3, rv b7, iv 1]) rfl k) ?_
        show own_E p e below _ T13 (mkF m 59 #[iv p1, iv p2, iv p3, iv p4, iv p5, iv p3, iv p4, rv b3, rv b7, iv 1] [])
        refine own_st (fun t k => XS.iload X13.here hx rfl (hb hby at_59) rfl k) ?_
        show own_E p e below _ T13 (mkF m 61 #[iv p1, iv p2, iv p3, iv p4, iv p5, iv p3, iv p4, rv b3, rv b7, iv 1] [.int 1])
        obtain ⟨_, _, ⟨T172, L172, k172, n172⟩, -, X172, ⟨Lc172, hQ172, l172, y172, z172⟩, st172⟩ := Jvm.LawKit.callS X13 hx (y := own_y4) hown (mvT hZ (own_w hw 27 rfl)) (mvT hZ (own_w hw 28 rfl)) (mvT hZ (own_w hw 29 rfl)) (mvT hZ (own_w hw 30 rfl)) (by decide) (backOf (W := 0) (own_sign l Z a0 hw [] (1 : Int32) T9.heap n0 Z10 ) hZ (own_w hw 30 rfl) (own_w hw 29 rfl) (by decide) (by decide)) (g := (mkF m 61 #[iv p1, iv p2, iv p3, iv p4, iv p5, iv p3, iv p4, rv b3, rv b7, iv 1] [.int 1])) rfl (by rw [hml]; rfl) (argsL := [(.int (1 : Int32))]) (rest := []) (lenOf own_pd_1 rfl) rfl (by show 2 * 0 + _ ≤ _; exact Nat.le_of_eq rfl) (hb hby at_61) (fun _ _ => ⟨rfl, e13, (by decide : 2 + 0 ≤ _), (by decide : 4 + 0 ≤ _)⟩)
        dsimp only [Pt.U, Pt.locs, Pt.cells, Pt.slots] at X172 l172 y172 z172 st172 hQ172
        subst l172 y172 z172
        obtain ⟨hR172, e172, rfl⟩ := hQ172
        have N172 := Fr.app N13 (Fr.nil n0)
        rcases hR172 with ⟨rfl, ha172_0⟩ | ⟨rfl, ha172_0, ha172_1⟩ | ⟨rfl, ha172_0, ha172_1⟩
        · exact absurd ha172_0 (by decide)
        · refine own_st st172 ?_
          show own_E p e below _ T172 (mkF m 64 #[iv p1, iv p2, iv p3, iv p4, iv p5, iv p3, iv p4, rv b3, rv b7, iv 1] [.int 1])
          refine own_st (fun t k => XS.iloadN X172.here hx rfl (hb hby at_64) rfl k) ?_
          show own_E p e below _ T172 (mkF m 65 #[iv p1, iv p2, iv p3, iv p4, iv p5, iv p3, iv p4, rv b3, rv b7, iv 1] [.int p1, .int 1])
          refine own_st (fun t k => XS.iloadN X172.here hx rfl (hb hby at_65) rfl k) ?_
          show own_E p e below _ T172 (mkF m 66 #[iv p1, iv p2, iv p3, iv p4, iv p5, iv p3, iv p4, rv b3, rv b7, iv 1] [.int p2, .int p1, .int 1])
          refine own_st (fun t k => XS.iload X172.here hx rfl (hb hby at_66) rfl k) ?_
          show own_E p e below _ T172 (mkF m 68 #[iv p1, iv p2, iv p3, iv p4, iv p5, iv p3, iv p4, rv b3, rv b7, iv 1] [.int p3, .int p2, .int p1, .int 1])
          refine own_st (fun t k => XS.iload X172.here hx rfl (hb hby at_68) rfl k) ?_
          show own_E p e below _ T172 (mkF m 70 #[iv p1, iv p2, iv p3, iv p4, iv p5, iv p3, iv p4, rv b3, rv b7, iv 1] [.int p4, .int p3, .int p2, .int p1, .int 1])
          obtain ⟨_, _, ⟨T173, L173, k173, n173⟩, -, X173, ⟨Lc173, hQ173, l173, y173, z173⟩, st173⟩ := Jvm.LawKit.callS X172 hx (y := own_y5) hown (mvT hZ (own_w hw 31 rfl)) (mvT hZ (own_w hw 32 rfl)) (mvT hZ (own_w hw 29 rfl)) (mvT hZ (own_w hw 33 rfl)) (by decide) (backOf (W := 1) (own_exp l Z a0 hw [] p1 p2 p3 p4 T9.heap n0 Z10 ) hZ (own_w hw 33 rfl) (own_w hw 29 rfl) (by decide) (by decide)) (g := (mkF m 70 #[iv p1, iv p2, iv p3, iv p4, iv p5, iv p3, iv p4, rv b3, rv b7, iv 1] [.int p4, .int p3, .int p2, .int p1, .int 1])) rfl (by rw [hml]; rfl) (argsL := [(.int p1), (.int p2), (.int p3), (.int p4)]) (rest := [(.int (1 : Int32))]) (lenOf own_pd_4 rfl) rfl (by show 2 * 0 + _ ≤ _; exact Nat.le_of_eq rfl) (hb hby at_70) (fun _ _ => ⟨rfl, e172, (by decide : 2 + 0 ≤ _), (by decide : 4 + 0 ≤ _)⟩)
          dsimp only [Pt.U, Pt.locs, Pt.cells, Pt.slots] at X173 l173 y173 z173 st173 hQ173
          subst l173 y173 z173
          obtain ⟨hR173, e173, rfl⟩ := hQ173
          have N173 := Fr.app N172 (Fr.nil n0)
          rcases hR173 with ⟨rfl, ha173_0⟩ | ⟨rfl, ha173_0, ha173_1⟩ | ⟨rfl, ha173_0, ha173_1, ha173_2⟩ | ⟨rfl, ha173_0, ha173_1, ha173_2, ha173_3⟩ | ⟨rfl, ha173_0, ha173_1, ha173_2, ha173_3⟩
          · exact absurd ha173_0 ha13_1
          · refine own_st st173 ?_
            show own_E p e below _ T173 (mkF m 73 #[iv p1, iv p2, iv p3, iv p4, iv p5, iv p3, iv p4, rv b3, rv b7, iv 1] [.int 1, .int 1])
            refine own_st (fun t k => XS.icmpNo X173.here hx rfl (hb hby at_73) rfl (by decide) k) ?_
            show own_E p e below _ T173 (mkF m 76 #[iv p1, iv p2, iv p3, iv p4, iv p5, iv p3, iv p4, rv b3, rv b7, iv 1] [])
            refine own_st (fun t k => XS.iconst X173.here hx rfl (hb hby at_76) k) ?_
            show own_E p e below _ T173 (mkF m 77 #[iv p1, iv p2, iv p3, iv p4, iv p5, iv p3, iv p4, rv b3, rv b7, iv 1] [.int 1])
            refine own_st (fun t k => XS.goto X173.here hx rfl (pc0 := 77) (pc' := 81) rfl (hb hby at_77) (by decide) (by decide) k) ?_
            show own_E p e below _ T173 (mkF m 81 #[iv p1, iv p2, iv p3, iv p4, iv p5, iv p3, iv p4, rv b3, rv b7, iv 1] [.int 1])
            refine own_retS X173 hx Bd.notSynchronized Bd.returns rfl (by decide) (hb hby at_81) (by decide) (by decide) ?_
            exact ⟨rfl, N173⟩
          · exfalso
            have f174 := rng32 p5
            have f175 : (1 : Int32).toInt = 1 := rfl
            have f176 := rng32 (p5 &&& (1 : Int32))
            have f177 : (p5 &&& (1 : Int32)).toInt = p5.toInt % 2 := c_mask p5 (1 : Int32) 1 (by decide) (by decide)
            have f178 : (0 : Int32).toInt = 0 := rfl
            have f179 : (2 : Int32).toInt = 2 := rfl
            have f180 := rng32 (p5 &&& (2 : Int32))
            have f181 := c_and p5 (2 : Int32) (by decide)
            have f182 := rng32 p1
            have f183 := rng32 p3
            have f184 := rng32 p2
            have f185 := rng32 p4
            have g186 := hc1
            rw [← Int32.toInt_inj] at g186
            have g187 := hc2
            rw [← Int32.toInt_inj] at g187
            have g188 := ha13_0
            rw [← Int32.toInt_inj] at g188
            have g189 := ha13_1
            rw [Int32.lt_iff_toInt_lt] at g189
            have g190 := ha173_1
            rw [Int32.lt_iff_toInt_lt] at g190
            have g191 := ha173_2
            rw [Int32.lt_iff_toInt_lt] at g191
            omega
          · exfalso
            have f192 := rng32 p5
            have f193 : (1 : Int32).toInt = 1 := rfl
            have f194 := rng32 (p5 &&& (1 : Int32))
            have f195 : (p5 &&& (1 : Int32)).toInt = p5.toInt % 2 := c_mask p5 (1 : Int32) 1 (by decide) (by decide)
            have f196 : (0 : Int32).toInt = 0 := rfl
            have f197 : (2 : Int32).toInt = 2 := rfl
            have f198 := rng32 (p5 &&& (2 : Int32))
            have f199 := c_and p5 (2 : Int32) (by decide)
            have f200 := rng32 p1
            have f201 := rng32 p3
            have f202 := rng32 p2
            have f203 := rng32 p4
            have g204 := hc1
            rw [← Int32.toInt_inj] at g204
            have g205 := hc2
            rw [← Int32.toInt_inj] at g205
            have g206 := ha13_0
            rw [← Int32.toInt_inj] at g206
            have g207 := ha13_1
            rw [Int32.lt_iff_toInt_lt] at g207
            have g208 := ha173_1
            rw [Int32.lt_iff_toInt_lt] at g208
            have g209 := ha173_2
            rw [Int32.lt_iff_toInt_lt] at g209
            have g210 := ha173_3
            rw [Int32.lt_iff_toInt_lt] at g210
            omega
          · exfalso
            have f211 := rng32 p5
            have f212 : (1 : Int32).toInt = 1 := rfl
            have f213 := rng32 (p5 &&& (1 : Int32))
            have f214 : (p5 &&& (1 : Int32)).toInt = p5.toInt % 2 := c_mask p5 (1 : Int32) 1 (by decide) (by decide)
            have f215 : (0 : Int32).toInt = 0 := rfl
            have f216 : (2 : Int32).toInt = 2 := rfl
            have f217 := rng32 (p5 &&& (2 : Int32))
            have f218 := c_and p5 (2 : Int32) (by decide)
            have f219 := rng32 p1
            have f220 := rng32 p3
            have f221 := rng32 p2
            have f222 := rng32 p4
            have g223 := hc1
            rw [← Int32.toInt_inj] at g223
            have g224 := hc2
            rw [← Int32.toInt_inj] at g224
            have g225 := ha13_0
            rw [← Int32.toInt_inj] at g225
            have g226 := ha13_1
            rw [Int32.lt_iff_toInt_lt] at g226
            have g227 := ha173_1
            rw [Int32.lt_iff_toInt_lt] at g227
            have g228 := ha173_2
            rw [Int32.lt_iff_toInt_lt] at g228
            have g229 := ha173_3
            rw [Int32.lt_iff_toInt_lt] at g229
            omega
        · exact absurd ha172_1 (by decide)
    · refine own_st (fun t k => XS.ifNo X0.here hx rfl (hb hby at_20) rfl ((if0 _ _).trans (feq hc2).1) k) ?_
      show own_E p e below _ s₁ (mkF m 23 #[iv p1, iv p2, iv p3, iv p4, iv p5, iv p3, iv p4, .unset, .unset, .unset] [])
      refine own_st (fun t k => XS.iloadN X0.here hx rfl (hb hby at_23) rfl k) ?_
      show own_E p e below _ s₁ (mkF m 24 #[iv p1, iv p2, iv p3, iv p4, iv p5, iv p3, iv p4, .unset, .unset, .unset] [.int p2])
      refine own_st (fun t k => XS.istore X0.here hx rfl (hb hby at_24) rfl (l' := #[iv p1, iv p2, iv p3, iv p4, iv p5, iv p3, iv p2, .unset, .unset, .unset]) rfl k) ?_
      show own_E p e below _ s₁ (mkF m 26 #[iv p1, iv p2, iv p3, iv p4, iv p5, iv p3, iv p2, .unset, .unset, .unset] [])
      obtain ⟨T230, h230, X230, e230, E230, A230, D230, -, st230⟩ := newO X0 hx hZ hown (own_w hw 0 rfl) (own_w hw 1 rfl) (own_w hw 2 rfl) e0 (g := (mkF m 26 #[iv p1, iv p2, iv p3, iv p4, iv p5, iv p3, iv p2, .unset, .unset, .unset] [])) rfl (hb hby at_26) (by decide) (by decide)
      obtain ⟨b230, g230⟩ : ∃ z, z = h0.size := ⟨_, rfl⟩
      rw [← g230] at A230 D230 st230
      have g_b230 : n0 ≤ b230 := Nat.le_trans Z0 (Nat.le_of_eq g230.symm)
      have Z231 := Nat.le_trans Z0 E230.1
      have F_line_b230 : Fld Z h230 b230 "com/example/lockstep/lockstep/plan/Position" "line" "I" (.int (0 : Int32)) := D230 (Or.inr (own_w hw 15 rfl)) (ty := .int) (by decide)
      have F_column_b230 : Fld Z h230 b230 "com/example/lockstep/lockstep/plan/Position" "column" "I" (.int (0 : Int32)) := D230 (Or.inr (own_w hw 17 rfl)) (ty := .int) (by decide)
      refine own_st st230 ?_
      show own_E p e below _ T230 (mkF m 29 #[iv p1, iv p2, iv p3, iv p4, iv p5, iv p3, iv p2, .unset, .unset, .unset] [.ref b230])
      refine own_st (fun t k => XS.dup X230.here hx rfl (hb hby at_29) rfl rfl k) ?_
      show own_E p e below _ T230 (mkF m 30 #[iv p1, iv p2, iv p3, iv p4, iv p5, iv p3, iv p2, .unset, .unset, .unset] [.ref b230, .ref b230])
      refine own_st (fun t k => XS.iloadN X230.here hx rfl (hb hby at_30) rfl k) ?_
      show own_E p e below _ T230 (mkF m 31 #[iv p1, iv p2, iv p3, iv p4, iv p5, iv p3, iv p2, .unset, .unset, .unset] [.int p1, .ref b230, .ref b230])
      refine own_st (fun t k => XS.iloadN X230.here hx rfl (hb hby at_31) rfl k) ?_
      show own_E p e below _ T230 (mkF m 32 #[iv p1, iv p2, iv p3, iv p4, iv p5, iv p3, iv p2, .unset, .unset, .unset] [.int p2, .int p1, .ref b230, .ref b230])
      obtain ⟨_, _, ⟨T232, L232, k232, n232⟩, -, X232, ⟨Lc232, hQ232, l232, y232, z232⟩, st232⟩ := X230.specialBack hx (y := own_y1) rfl hown (mvT hZ (own_w hw 3 rfl)) (mvT hZ (own_w hw 4 rfl)) (mvT hZ (own_w hw 5 rfl)) (by decide) (backOf (W := 1) (own_init l Z a0 hw [] b230 p1 p2 h230 n0 Z231 A230 F_line_b230 F_column_b230 g_b230) hZ (own_w hw 5 rfl) (own_w hw 2 rfl) (by decide) (by decide)) (g := (mkF m 32 #[iv p1, iv p2, iv p3, iv p4, iv p5, iv p3, iv p2, .unset, .unset, .unset] [.int p2, .int p1, .ref b230, .ref b230])) rfl (by rw [hml]; rfl) (Steps.refl _) (a := b230) (argsL := [(.int p1), (.int p2)]) (rest := [(.ref b230)]) (lenOf own_pd_3 rfl) rfl (by show 2 * 0 + _ ≤ _; exact Nat.le_of_eq rfl) (hb hby at_32) (fun _ _ => ⟨rfl, e230, (by decide : 1 + 0 ≤ _), (by decide : 2 + 0 ≤ _)⟩)
      dsimp only [Pt.U, Pt.locs, Pt.cells, Pt.slots] at X232 l232 y232 z232 st232 hQ232
      subst l232 y232 z232
      obtain ⟨rfl, Nq232, Kq232, P232_0, P232_1, P232_2⟩ := hQ232
      have N232 := Fr.app (Fr.nil n0) Nq232
      have e232 : T232.heap = T232.heap := rfl
      have Z233 := Nat.le_trans Z231 Kq232.1
      refine own_tr st232 ?_
      show own_E p e below _ T232 (mkF m 35 #[iv p1, iv p2, iv p3, iv p4, iv p5, iv p3, iv p2, .unset, .unset, .unset] [.ref b230])
      refine own_st (fun t k => XS.astore X232.here hx rfl (hb hby at_35) rfl rfl (l' := #[iv p1, iv p2, iv p3, iv p4, iv p5, iv p3, iv p2, rv b230, .unset, .unset]) rfl k) ?_
      show own_E p e below _ T232 (mkF m 37 #[iv p1, iv p2, iv p3, iv p4, iv p5, iv p3, iv p2, rv b230, .unset, .unset] [])
      obtain ⟨T234, h234, X234, e234, E234, A234, D234, -, st234⟩ := newO X232 hx hZ hown (own_w hw 0 rfl) (own_w hw 1 rfl) (own_w hw 2 rfl) e232 (g := (mkF m 37 #[iv p1, iv p2, iv p3, iv p4, iv p5, iv p3, iv p2, rv b230, .unset, .unset] [])) rfl (hb hby at_37) (by decide) (by decide)
      obtain ⟨b234, g234⟩ : ∃ z, z = T232.heap.size := ⟨_, rfl⟩
      rw [← g234] at A234 D234 st234
      have ne_b230_b234 : b230 ≠ b234 := Nat.ne_of_lt (Nat.lt_of_lt_of_le P232_0.lt (Nat.le_of_eq g234.symm))
      have g_b234 : n0 ≤ b234 := Nat.le_trans Z233 (Nat.le_of_eq g234.symm)
      have Z235 := Nat.le_trans Z233 E234.1
      have F_line_b234 : Fld Z h234 b234 "com/example/lockstep/lockstep/plan/Position" "line" "I" (.int (0 : Int32)) := D234 (Or.inr (own_w hw 15 rfl)) (ty := .int) (by decide)
      have F_column_b234 : Fld Z h234 b234 "com/example/lockstep/lockstep/plan/Position" "column" "I" (.int (0 : Int32)) := D234 (Or.inr (own_w hw 17 rfl)) (ty := .int) (by decide)
      refine own_st st234 ?_
      show own_E p e below _ T234 (mkF m 40 #[iv p1, iv p2, iv p3, iv p4, iv p5, iv p3, iv p2, rv b230, .unset, .unset] [.ref b234])
      refine own_st (fun t k => XS.dup X234.here hx rfl (hb hby at_40) rfl rfl k) ?_
      show own_E p e below _ T234 (mkF m 41 #[iv p1, iv p2, iv p3, iv p4, iv p5, iv p3, iv p2, rv b230, .unset, .unset] [.ref b234, .ref b234])
      refine own_st (fun t k => XS.iload X234.here hx rfl (hb hby at_41) rfl k) ?_
      show own_E p e below _ T234 (mkF m 43 #[iv p1, iv p2, iv p3, iv p4, iv p5, iv p3, iv p2, rv b230, .unset, .unset] [.int p3, .ref b234, .ref b234])
      refine own_st (fun t k => XS.iload X234.here hx rfl (hb hby at_43) rfl k) ?_
      show own_E p e below _ T234 (mkF m 45 #[iv p1, iv p2, iv p3, iv p4, iv p5, iv p3, iv p2, rv b230, .unset, .unset] [.int p2, .int p3, .ref b234, .ref b234])
      obtain ⟨_, _, ⟨T236, L236, k236, n236⟩, -, X236, ⟨Lc236, hQ236, l236, y236, z236⟩, st236⟩ := X234.specialBack hx (y := own_y1) rfl hown (mvT hZ (own_w hw 3 rfl)) (mvT hZ (own_w hw 4 rfl)) (mvT hZ (own_w hw 5 rfl)) (by decide) (backOf (W := 1) (own_init l Z a0 hw [] b234 p3 p2 h234 n0 Z235 A234 F_line_b234 F_column_b234 g_b234) hZ (own_w hw 5 rfl) (own_w hw 2 rfl) (by decide) (by decide)) (g := (mkF m 45 #[iv p1, iv p2, iv p3, iv p4, iv p5, iv p3, iv p2, rv b230, .unset, .unset] [.int p2, .int p3, .ref b234, .ref b234])) rfl (by rw [hml]; rfl) (Steps.refl _) (a := b234) (argsL := [(.int p3), (.int p2)]) (rest := [(.ref b234)]) (lenOf own_pd_3 rfl) rfl (by show 2 * 0 + _ ≤ _; exact Nat.le_of_eq rfl) (hb hby at_45) (fun _ _ => ⟨rfl, e234, (by decide : 2 + 0 ≤ _), (by decide : 4 + 0 ≤ _)⟩)
      dsimp only [Pt.U, Pt.locs, Pt.cells, Pt.slots] at X236 l236 y236 z236 st236 hQ236
      subst l236 y236 z236
      obtain ⟨rfl, Nq236, Kq236, P236_0, P236_1, P236_2⟩ := hQ236
      have N236 := Fr.app N232 Nq236
      have e236 : T236.heap = T236.heap := rfl
      have Z237 := Nat.le_trans Z235 Kq236.1
      refine own_tr st236 ?_
      show own_E p e below _ T236 (mkF m 48 #[iv p1, iv p2, iv p3, iv p4, iv p5, iv p3, iv p2, rv b230, .unset, .unset] [.ref b234])
      refine own_st (fun t k => XS.astore X236.here hx rfl (hb hby at_48) rfl rfl (l' := #[iv p1, iv p2, iv p3, iv p4, iv p5, iv p3, iv p2, rv b230, rv b234, .unset]) rfl k) ?_
      show own_E p e below _ T236 (mkF m 50 #[iv p1, iv p2, iv p3, iv p4, iv p5, iv p3, iv p2, rv b230, rv b234, .unset] [])
      refine own_st (fun t k => XS.aload X236.here hx rfl (hb hby at_50) rfl rfl k) ?_
      show own_E p e below _ T236 (mkF m 52 #[iv p1, iv p2, iv p3, iv p4, iv p5, iv p3, iv p2, rv b230, rv b234, .unset] [.ref b230])
      refine own_st (fun t k => XS.aload X236.here hx rfl (hb hby at_52) rfl rfl k) ?_
      show own_E p e below _ T236 (mkF m 54 #[iv p1, iv p2, iv p3, iv p4, iv p5, iv p3, iv p2, rv b230, rv b234, .unset] [.ref b234, .ref b230])
      have B238 := ((P232_1.ext E234).keep Kq236 (ninS ne_b230_b234 nin0))
      have B239 := ((P232_2.ext E234).keep Kq236 (ninS ne_b230_b234 nin0))
      have B241 := ((P232_0.ext E234).keep Kq236)
      obtain ⟨cq240, kq240, q240a, q240b, q240c⟩ := isOf hZ e236 B241
      obtain ⟨_, _, ⟨T240, L240, k240, n240⟩, -, X240, ⟨Lc240, hQ240, l240, y240, z240⟩, st240⟩ := X236.virtualBack hx (y := own_y3) (z := own_y3) hown (mvT hZ (own_w hw 18 rfl)) (mvT hZ (own_w hw 19 rfl)) (notFace_of_selects (args := #[]) (mvT hZ (own_w hw 21 rfl))) (mvT hZ (own_w hw 21 rfl)) (mvT hZ (own_w hw 20 rfl)) (by decide) (backOf (W := 0) (own_cto l Z a0 hw [] b230 b234 p1 p2 p3 p2 T236.heap n0 Z237 B238 B239 P236_1 P236_2) hZ (own_w hw 22 rfl) (own_w hw 2 rfl) (by decide) (by decide)) q240a q240c (g := (mkF m 54 #[iv p1, iv p2, iv p3, iv p4, iv p5, iv p3, iv p2, rv b230, rv b234, .unset] [.ref b234, .ref b230])) rfl (by rw [hml]; rfl) (Steps.refl _) (argsL := [(.ref b234)]) (rest := []) (lenOf own_pd_6 rfl) rfl (by show 2 * 0 + _ ≤ _; exact Nat.le_of_eq rfl) (hb hby at_54) (fun _ _ => ⟨rfl, e236, (by decide : 2 + 0 ≤ _), (by decide : 4 + 0 ≤ _)⟩)
      dsimp only [Pt.U, Pt.locs, Pt.cells, Pt.slots] at X240 l240 y240 z240 st240 hQ240
      subst l240 y240 z240
      obtain ⟨hR240, e240, rfl⟩ := hQ240
      have N240 := Fr.app N236 (Fr.nil n0)
      rcases hR240 with ⟨rfl, ha240_0, ha240_1⟩ | ⟨rfl, ha240_0, ha240_1, ha240_2⟩ | ⟨rfl, ha240_0, ha240_1, ha240_2⟩ | ⟨rfl, ha240_0, ha240_1⟩ | ⟨rfl, ha240_0, ha240_1⟩
      · exfalso
        have f242 := rng32 p5
        have f243 : (1 : Int32).toInt = 1 := rfl
        have f244 := rng32 (p5 &&& (1 : Int32))
        have f245 : (p5 &&& (1 : Int32)).toInt = p5.toInt % 2 := c_mask p5 (1 : Int32) 1 (by decide) (by decide)
        have f246 : (0 : Int32).toInt = 0 := rfl
        have f247 : (2 : Int32).toInt = 2 := rfl
        have f248 := rng32 (p5 &&& (2 : Int32))
        have f249 := c_and p5 (2 : Int32) (by decide)
        have f250 := rng32 p1
        have f251 := rng32 p3
        have f252 := rng32 p2
        have g253 := hc1
        rw [← Int32.toInt_inj] at g253
        have g254 := hc2
        rw [← Int32.toInt_inj] at g254
        have g255 := ha240_0
        rw [← Int32.toInt_inj] at g255
        have g256 := ha240_1
        rw [Int32.lt_iff_toInt_lt] at g256
        omega
      · refine own_tr st240 ?_
        show own_E p e below _ T240 (mkF m 57 #[iv p1, iv p2, iv p3, iv p4, iv p5, iv p3, iv p2, rv b230, rv b234, .unset] [.int 0])
        refine own_st (fun t k => XS.istore X240.here hx rfl (hb hby at_57) rfl (l' := #[iv p1, iv p2, iv p3, iv p4, iv p5, iv p3, iv p2, rv b230, rv b234, iv 0]) rfl k) ?_
        show own_E p e below _ T240 (mkF m 59 #[iv p1, iv p2, iv p3, iv p4, iv p5, iv p3, iv p2, rv b230, rv b234, iv 0] [])
        refine own_st (fun t k => XS.iload X240.here hx rfl (hb hby at_59) rfl k) ?_
        show own_E p e below _ T240 (mkF m 61 #[iv p1, iv p2, iv p3, iv p4, iv p5, iv p3, iv p2, rv b230, rv b234, iv 0] [.int 0])
        obtain ⟨_, _, ⟨T257, L257, k257, n257⟩, -, X257, ⟨Lc257, hQ257, l257, y257, z257⟩, st257⟩ := Jvm.LawKit.callS X240 hx (y := own_y4) hown (mvT hZ (own_w hw 27 rfl)) (mvT hZ (own_w hw 28 rfl)) (mvT hZ (own_w hw 29 rfl)) (mvT hZ (own_w hw 30 rfl)) (by decide) (backOf (W := 0) (own_sign l Z a0 hw [] (0 : Int32) T236.heap n0 Z237 ) hZ (own_w hw 30 rfl) (own_w hw 29 rfl) (by decide) (by decide)) (g := (mkF m 61 #[iv p1, iv p2, iv p3, iv p4, iv p5, iv p3, iv p2, rv b230, rv b234, iv 0] [.int 0])) rfl (by rw [hml]; rfl) (argsL := [(.int (0 : Int32))]) (rest := []) (lenOf own_pd_1 rfl) rfl (by show 2 * 0 + _ ≤ _; exact Nat.le_of_eq rfl) (hb hby at_61) (fun _ _ => ⟨rfl, e240, (by decide : 2 + 0 ≤ _), (by decide : 4 + 0 ≤ _)⟩)
        dsimp only [Pt.U, Pt.locs, Pt.cells, Pt.slots] at X257 l257 y257 z257 st257 hQ257
        subst l257 y257 z257
        obtain ⟨hR257, e257, rfl⟩ := hQ257
        have N257 := Fr.app N240 (Fr.nil n0)
        rcases hR257 with ⟨rfl, ha257_0⟩ | ⟨rfl, ha257_0, ha257_1⟩ | ⟨rfl, ha257_0, ha257_1⟩
        · exact absurd ha257_0 (by decide)
        · exact absurd ha257_1 (by decide)
        · refine own_st st257 ?_
          show own_E p e below _ T257 (mkF m 64 #[iv p1, iv p2, iv p3, iv p4, iv p5, iv p3, iv p2, rv b230, rv b234, iv 0] [.int 0])
          refine own_st (fun t k => XS.iloadN X257.here hx rfl (hb hby at_64) rfl k) ?_
          show own_E p e below _ T257 (mkF m 65 #[iv p1, iv p2, iv p3, iv p4, iv p5, iv p3, iv p2, rv b230, rv b234, iv 0] [.int p1, .int 0])
          refine own_st (fun t k => XS.iloadN X257.here hx rfl (hb hby at_65) rfl k) ?_
          show own_E p e below _ T257 (mkF m 66 #[iv p1, iv p2, iv p3, iv p4, iv p5, iv p3, iv p2, rv b230, rv b234, iv 0] [.int p2, .int p1, .int 0])
          refine own_st (fun t k => XS.iload X257.here hx rfl (hb hby at_66) rfl k) ?_
          show own_E p e below _ T257 (mkF m 68 #[iv p1, iv p2, iv p3, iv p4, iv p5, iv p3, iv p2, rv b230, rv b234, iv 0] [.int p3, .int p2, .int p1, .int 0])
          refine own_st (fun t k => XS.iload X257.here hx rfl (hb hby at_68) rfl k) ?_
          show own_E p e below _ T257 (mkF m 70 #[iv p1, iv p2, iv p3, iv p4, iv p5, iv p3, iv p2, rv b230, rv b234, iv 0] [.int p2, .int p3, .int p2, .int p1, .int 0])
          obtain ⟨_, _, ⟨T258, L258, k258, n258⟩, -, X258, ⟨Lc258, hQ258, l258, y258, z258⟩, st258⟩ := Jvm.LawKit.callS X257 hx (y := own_y5) hown (mvT hZ (own_w hw 31 rfl)) (mvT hZ (own_w hw 32 rfl)) (mvT hZ (own_w hw 29 rfl)) (mvT hZ (own_w hw 33 rfl)) (by decide) (backOf (W := 1) (own_exp l Z a0 hw [] p1 p2 p3 p2 T236.heap n0 Z237 ) hZ (own_w hw 33 rfl) (own_w hw 29 rfl) (by decide) (by decide)) (g := (mkF m 70 #[iv p1, iv p2, iv p3, iv p4, iv p5, iv p3, iv p2, rv b230, rv b234, iv 0] [.int p2, .int p3, .int p2, .int p1, .int 0])) rfl (by rw [hml]; rfl) (argsL := [(.int p1), (.int p2), (.int p3), (.int p2)]) (rest := [(.int (0 : Int32))]) (lenOf own_pd_4 rfl) rfl (by show 2 * 0 + _ ≤ _; exact Nat.le_of_eq rfl) (hb hby at_70) (fun _ _ => ⟨rfl, e257, (by decide : 2 + 0 ≤ _), (by decide : 4 + 0 ≤ _)⟩)
          dsimp only [Pt.U, Pt.locs, Pt.cells, Pt.slots] at X258 l258 y258 z258 st258 hQ258
          subst l258 y258 z258
          obtain ⟨hR258, e258, rfl⟩ := hQ258
          have N258 := Fr.app N257 (Fr.nil n0)
          rcases hR258 with ⟨rfl, ha258_0⟩ | ⟨rfl, ha258_0, ha258_1⟩ | ⟨rfl, ha258_0, ha258_1, ha258_2⟩ | ⟨rfl, ha258_0, ha258_1, ha258_2, ha258_3⟩ | ⟨rfl, ha258_0, ha258_1, ha258_2, ha258_3⟩
          · exfalso
            have f259 := rng32 p5
            have f260 : (1 : Int32).toInt = 1 := rfl
            have f261 := rng32 (p5 &&& (1 : Int32))
            have f262 : (p5 &&& (1 : Int32)).toInt = p5.toInt % 2 := c_mask p5 (1 : Int32) 1 (by decide) (by decide)
            have f263 : (0 : Int32).toInt = 0 := rfl
            have f264 : (2 : Int32).toInt = 2 := rfl
            have f265 := rng32 (p5 &&& (2 : Int32))
            have f266 := c_and p5 (2 : Int32) (by decide)
            have f267 := rng32 p1
            have f268 := rng32 p3
            have f269 := rng32 p2
            have g270 := hc1
            rw [← Int32.toInt_inj] at g270
            have g271 := hc2
            rw [← Int32.toInt_inj] at g271
            have g272 := ha240_0
            rw [← Int32.toInt_inj] at g272
            have g273 := ha240_1
            rw [Int32.lt_iff_toInt_lt] at g273
            have g274 := ha240_2
            rw [← Int32.toInt_inj] at g274
            have g275 := ha258_0
            rw [Int32.lt_iff_toInt_lt] at g275
            omega
          · exfalso
            have f276 := rng32 p5
            have f277 : (1 : Int32).toInt = 1 := rfl
            have f278 := rng32 (p5 &&& (1 : Int32))
            have f279 : (p5 &&& (1 : Int32)).toInt = p5.toInt % 2 := c_mask p5 (1 : Int32) 1 (by decide) (by decide)
            have f280 : (0 : Int32).toInt = 0 := rfl
            have f281 : (2 : Int32).toInt = 2 := rfl
            have f282 := rng32 (p5 &&& (2 : Int32))
            have f283 := c_and p5 (2 : Int32) (by decide)
            have f284 := rng32 p1
            have f285 := rng32 p3
            have f286 := rng32 p2
            have g287 := hc1
            rw [← Int32.toInt_inj] at g287
            have g288 := hc2
            rw [← Int32.toInt_inj] at g288
            have g289 := ha240_0
            rw [← Int32.toInt_inj] at g289
            have g290 := ha240_1
            rw [Int32.lt_iff_toInt_lt] at g290
            have g291 := ha240_2
            rw [← Int32.toInt_inj] at g291
            have g292 := ha258_0
            rw [Int32.lt_iff_toInt_lt] at g292
            have g293 := ha258_1
            rw [Int32.lt_iff_toInt_lt] at g293
            omega
          · exact absurd ha258_2 ha240_1
          · exact absurd ha258_3 ha240_1
          · refine own_st st258 ?_
            show own_E p e below _ T258 (mkF m 73 #[iv p1, iv p2, iv p3, iv p4, iv p5, iv p3, iv p2, rv b230, rv b234, iv 0] [.int 0, .int 0])
            refine own_st (fun t k => XS.icmpNo X258.here hx rfl (hb hby at_73) rfl (by decide) k) ?_
            show own_E p e below _ T258 (mkF m 76 #[iv p1, iv p2, iv p3, iv p4, iv p5, iv p3, iv p2, rv b230, rv b234, iv 0] [])
            refine own_st (fun t k => XS.iconst X258.here hx rfl (hb hby at_76) k) ?_
            show own_E p e below _ T258 (mkF m 77 #[iv p1, iv p2, iv p3, iv p4, iv p5, iv p3, iv p2, rv b230, rv b234, iv 0] [.int 1])
            refine own_st (fun t k => XS.goto X258.here hx rfl (pc0 := 77) (pc' := 81) rfl (hb hby at_77) (by decide) (by decide) k) ?_
            show own_E p e below _ T258 (mkF m 81 #[iv p1, iv p2, iv p3, iv p4, iv p5, iv p3, iv p2, rv b230, rv b234, iv 0] [.int 1])
            refine own_retS X258 hx Bd.notSynchronized Bd.returns rfl (by decide) (hb hby at_81) (by decide) (by decide) ?_
            exact ⟨rfl, N258⟩
      · exfalso
        have f294 := rng32 p5
        have f295 : (1 : Int32).toInt = 1 := rfl
        have f296 := rng32 (p5 &&& (1 : Int32))
        have f297 : (p5 &&& (1 : Int32)).toInt = p5.toInt % 2 := c_mask p5 (1 : Int32) 1 (by decide) (by decide)
        have f298 : (0 : Int32).toInt = 0 := rfl
        have f299 : (2 : Int32).toInt = 2 := rfl
        have f300 := rng32 (p5 &&& (2 : Int32))
        have f301 := c_and p5 (2 : Int32) (by decide)
        have f302 := rng32 p1
        have f303 := rng32 p3
        have f304 := rng32 p2
        have g305 := hc1
        rw [← Int32.toInt_inj] at g305
        have g306 := hc2
        rw [← Int32.toInt_inj] at g306
        have g307 := ha240_0
        rw [← Int32.toInt_inj] at g307
        have g308 := ha240_1
        rw [Int32.lt_iff_toInt_lt] at g308
        have g309 := ha240_2
        rw [← Int32.toInt_inj] at g309
        omega
      · refine own_tr st240 ?_
        show own_E p e below _ T240 (mkF m 57 #[iv p1, iv p2, iv p3, iv p4, iv p5, iv p3, iv p2, rv b230, rv b234, .unset] [.int (-1)])
        refine own_st (fun t k => XS.istore X240.here hx rfl (hb hby at_57) rfl (l' := #[iv p1, iv p2, iv p3, iv p4, iv p5, iv p3, iv p2, rv b230, rv b234, iv (-1)]) rfl k) ?_
        show own_E p e below _ T240 (mkF m 59 #[iv p1, iv p2, iv p3, iv p4, iv p5, iv p3, iv p2, rv b230, rv b234, iv (-1)] [])
        refine own_st (fun t k => XS.iload X240.here hx rfl (hb hby at_59) rfl k) ?_
        show own_E p e below _ T240 (mkF m 61 #[iv p1, iv p2, iv p3, iv p4, iv p5, iv p3, iv p2, rv b230, rv b234, iv (-1)] [.int (-1)])
        obtain ⟨_, _, ⟨T310, L310, k310, n310⟩, -, X310, ⟨Lc310, hQ310, l310, y310, z310⟩, st310⟩ := Jvm.LawKit.callS X240 hx (y := own_y4) hown (mvT hZ (own_w hw 27 rfl)) (mvT hZ (own_w hw 28 rfl)) (mvT hZ (own_w hw 29 rfl)) (mvT hZ (own_w hw 30 rfl)) (by decide) (backOf (W := 0) (own_sign l Z a0 hw [] (-1 : Int32) T236.heap n0 Z237 ) hZ (own_w hw 30 rfl) (own_w hw 29 rfl) (by decide) (by decide)) (g := (mkF m 61 #[iv p1, iv p2, iv p3, iv p4, iv p5, iv p3, iv p2, rv b230, rv b234, iv (-1)] [.int (-1)])) rfl (by rw [hml]; rfl) (argsL := [(.int (-1 : Int32))]) (rest := []) (lenOf own_pd_1 rfl) rfl (by show 2 * 0 + _ ≤ _; exact Nat.le_of_eq rfl) (hb hby at_61) (fun _ _ => ⟨rfl, e240, (by decide : 2 + 0 ≤ _), (by decide : 4 + 0 ≤ _)⟩)
        dsimp only [Pt.U, Pt.locs, Pt.cells, Pt.slots] at X310 l310 y310 z310 st310 hQ310
        subst l310 y310 z310
        obtain ⟨hR310, e310, rfl⟩ := hQ310
        have N310 := Fr.app N240 (Fr.nil n0)
        rcases hR310 with ⟨rfl, ha310_0⟩ | ⟨rfl, ha310_0, ha310_1⟩ | ⟨rfl, ha310_0, ha310_1⟩
        · refine own_st st310 ?_
          show own_E p e below _ T310 (mkF m 64 #[iv p1, iv p2, iv p3, iv p4, iv p5, iv p3, iv p2, rv b230, rv b234, iv (-1)] [.int (-1)])
          refine own_st (fun t k => XS.iloadN X310.here hx rfl (hb hby at_64) rfl k) ?_
          show own_E p e below _ T310 (mkF m 65 #[iv p1, iv p2, iv p3, iv p4, iv p5, iv p3, iv p2, rv b230, rv b234, iv (-1)] [.int p1, .int (-1)])
          refine own_st (fun t k => XS.iloadN X310.here hx rfl (hb hby at_65) rfl k) ?_
          show own_E p e below _ T310 (mkF m 66 #[iv p1, iv p2, iv p3, iv p4, iv p5, iv p3, iv p2, rv b230, rv b234, iv (-1)] [.int p2, .int p1, .int (-1)])
          refine own_st (fun t k => XS.iload X310.here hx rfl (hb hby at_66) rfl k) ?_
          show own_E p e below _ T310 (mkF m 68 #[iv p1, iv p2, iv p3, iv p4, iv p5, iv p3, iv p2, rv b230, rv b234, iv (-1)] [.int p3, .int p2, .int p1, .int (-1)])
          refine own_st (fun t k => XS.iload X310.here hx rfl (hb hby at_68) rfl k) ?_
          show own_E p e below _ T310 (mkF m 70 #[iv p1, iv p2, iv p3, iv p4, iv p5, iv p3, iv p2, rv b230, rv b234, iv (-1)] [.int p2, .int p3, .int p2, .int p1, .int (-1)])
          obtain ⟨_, _, ⟨T311, L311, k311, n311⟩, -, X311, ⟨Lc311, hQ311, l311, y311, z311⟩, st311⟩ := Jvm.LawKit.callS X310 hx (y := own_y5) hown (mvT hZ (own_w hw 31 rfl)) (mvT hZ (own_w hw 32 rfl)) (mvT hZ (own_w hw 29 rfl)) (mvT hZ (own_w hw 33 rfl)) (by decide) (backOf (W := 1) (own_exp l Z a0 hw [] p1 p2 p3 p2 T236.heap n0 Z237 ) hZ (own_w hw 33 rfl) (own_w hw 29 rfl) (by decide) (by decide)) (g := (mkF m 70 #[iv p1, iv p2, iv p3, iv p4, iv p5, iv p3, iv p2, rv b230, rv b234, iv (-1)] [.int p2, .int p3, .int p2, .int p1, .int (-1)])) rfl (by rw [hml]; rfl) (argsL := [(.int p1), (.int p2), (.int p3), (.int p2)]) (rest := [(.int (-1 : Int32))]) (lenOf own_pd_4 rfl) rfl (by show 2 * 0 + _ ≤ _; exact Nat.le_of_eq rfl) (hb hby at_70) (fun _ _ => ⟨rfl, e310, (by decide : 2 + 0 ≤ _), (by decide : 4 + 0 ≤ _)⟩)
          dsimp only [Pt.U, Pt.locs, Pt.cells, Pt.slots] at X311 l311 y311 z311 st311 hQ311
          subst l311 y311 z311
          obtain ⟨hR311, e311, rfl⟩ := hQ311
          have N311 := Fr.app N310 (Fr.nil n0)
          rcases hR311 with ⟨rfl, ha311_0⟩ | ⟨rfl, ha311_0, ha311_1⟩ | ⟨rfl, ha311_0, ha311_1, ha311_2⟩ | ⟨rfl, ha311_0, ha311_1, ha311_2, ha311_3⟩ | ⟨rfl, ha311_0, ha311_1, ha311_2, ha311_3⟩
          · refine own_st st311 ?_
            show own_E p e below _ T311 (mkF m 73 #[iv p1, iv p2, iv p3, iv p4, iv p5, iv p3, iv p2, rv b230, rv b234, iv (-1)] [.int (-1), .int (-1)])
            refine own_st (fun t k => XS.icmpNo X311.here hx rfl (hb hby at_73) rfl (by decide) k) ?_
            show own_E p e below _ T311 (mkF m 76 #[iv p1, iv p2, iv p3, iv p4, iv p5, iv p3, iv p2, rv b230, rv b234, iv (-1)] [])
            refine own_st (fun t k => XS.iconst X311.here hx rfl (hb hby at_76) k) ?_
            show own_E p e below _ T311 (mkF m 77 #[iv p1, iv p2, iv p3, iv p4, iv p5, iv p3, iv p2, rv b230, rv b234, iv (-1)] [.int 1])
            refine own_st (fun t k => XS.goto X311.here hx rfl (pc0 := 77) (pc' := 81) rfl (hb hby at_77) (by decide) (by decide) k) ?_
            show own_E p e below _ T311 (mkF m 81 #[iv p1, iv p2, iv p3, iv p4, iv p5, iv p3, iv p2, rv b230, rv b234, iv (-1)] [.int 1])
            refine own_retS X311 hx Bd.notSynchronized Bd.returns rfl (by decide) (hb hby at_81) (by decide) (by decide) ?_
            exact ⟨rfl, N311⟩
          · exact absurd ha240_1 ha311_0
          · exact absurd ha240_1 ha311_0
          · exact absurd ha240_1 ha311_0
          · exact absurd ha240_1 ha311_0
        · exact absurd ha310_0 (by decide)
        · exact absurd ha310_0 (by decide)
      · refine own_tr st240 ?_
        show own_E p e below _ T240 (mkF m 57 #[iv p1, iv p2, iv p3, iv p4, iv p5, iv p3, iv p2, rv b230, rv b234, .unset] [.int 1])
        refine own_st (fun t k => XS.istore X240.here hx rfl (hb hby at_57) rfl (l' := #[iv p1, iv p2, iv p3, iv p4, iv p5, iv p3, iv p2, rv b230, rv b234, iv 1]) rfl k) ?_
        show own_E p e below _ T240 (mkF m 59 #[iv p1, iv p2, iv p3, iv p4, iv p5, iv p3, iv p2, rv b230, rv b234, iv 1] [])
        refine own_st (fun t k => XS.iload X240.here hx rfl (hb hby at_59) rfl k) ?_
        show own_E p e below _ T240 (mkF m 61 #[iv p1, iv p2, iv p3, iv p4, iv p5, iv p3, iv p2, rv b230, rv b234, iv 1] [.int 1])
        obtain ⟨_, _, ⟨T312, L312, k312, n312⟩, -, X312, ⟨Lc312, hQ312, l312, y312, z312⟩, st312⟩ := Jvm.LawKit.callS X240 hx (y := own_y4) hown (mvT hZ (own_w hw 27 rfl)) (mvT hZ (own_w hw 28 rfl)) (mvT hZ (own_w hw 29 rfl)) (mvT hZ (own_w hw 30 rfl)) (by decide) (backOf (W := 0) (own_sign l Z a0 hw [] (1 : Int32) T236.heap n0 Z237 ) hZ (own_w hw 30 rfl) (own_w hw 29 rfl) (by decide) (by decide)) (g := (mkF m 61 #[iv p1, iv p2, iv p3, iv p4, iv p5, iv p3, iv p2, rv b230, rv b234, iv 1] [.int 1])) rfl (by rw [hml]; rfl) (argsL := [(.int (1 : Int32))]) (rest := []) (lenOf own_pd_1 rfl) rfl (by show 2 * 0 + _ ≤ _; exact Nat.le_of_eq rfl) (hb hby at_61) (fun _ _ => ⟨rfl, e240, (by decide : 2 + 0 ≤ _), (by decide : 4 + 0 ≤ _)⟩)
        dsimp only [Pt.U, Pt.locs, Pt.cells, Pt.slots] at X312 l312 y312 z312 st312 hQ312
        subst l312 y312 z312
        obtain ⟨hR312, e312, rfl⟩ := hQ312
        have N312 := Fr.app N240 (Fr.nil n0)
        rcases hR312 with ⟨rfl, ha312_0⟩ | ⟨rfl, ha312_0, ha312_1⟩ | ⟨rfl, ha312_0, ha312_1⟩
        · exact absurd ha312_0 (by decide)
        · refine own_st st312 ?_
          show own_E p e below _ T312 (mkF m 64 #[iv p1, iv p2, iv p3, iv p4, iv p5, iv p3, iv p2, rv b230, rv b234, iv 1] [.int 1])
          refine own_st (fun t k => XS.iloadN X312.here hx rfl (hb hby at_64) rfl k) ?_
          show own_E p e below _ T312 (mkF m 65 #[iv p1, iv p2, iv p3, iv p4, iv p5, iv p3, iv p2, rv b230, rv b234, iv 1] [.int p1, .int 1])
          refine own_st (fun t k => XS.iloadN X312.here hx rfl (hb hby at_65) rfl k) ?_
          show own_E p e below _ T312 (mkF m 66 #[iv p1, iv p2, iv p3, iv p4, iv p5, iv p3, iv p2, rv b230, rv b234, iv 1] [.int p2, .int p1, .int 1])
          refine own_st (fun t k => XS.iload X312.here hx rfl (hb hby at_66) rfl k) ?_
          show own_E p e below _ T312 (mkF m 68 #[iv p1, iv p2, iv p3, iv p4, iv p5, iv p3, iv p2, rv b230, rv b234, iv 1] [.int p3, .int p2, .int p1, .int 1])
          refine own_st (fun t k => XS.iload X312.here hx rfl (hb hby at_68) rfl k) ?_
          show own_E p e below _ T312 (mkF m 70 #[iv p1, iv p2, iv p3, iv p4, iv p5, iv p3, iv p2, rv b230, rv b234, iv 1] [.int p2, .int p3, .int p2, .int p1, .int 1])
          obtain ⟨_, _, ⟨T313, L313, k313, n313⟩, -, X313, ⟨Lc313, hQ313, l313, y313, z313⟩, st313⟩ := Jvm.LawKit.callS X312 hx (y := own_y5) hown (mvT hZ (own_w hw 31 rfl)) (mvT hZ (own_w hw 32 rfl)) (mvT hZ (own_w hw 29 rfl)) (mvT hZ (own_w hw 33 rfl)) (by decide) (backOf (W := 1) (own_exp l Z a0 hw [] p1 p2 p3 p2 T236.heap n0 Z237 ) hZ (own_w hw 33 rfl) (own_w hw 29 rfl) (by decide) (by decide)) (g := (mkF m 70 #[iv p1, iv p2, iv p3, iv p4, iv p5, iv p3, iv p2, rv b230, rv b234, iv 1] [.int p2, .int p3, .int p2, .int p1, .int 1])) rfl (by rw [hml]; rfl) (argsL := [(.int p1), (.int p2), (.int p3), (.int p2)]) (rest := [(.int (1 : Int32))]) (lenOf own_pd_4 rfl) rfl (by show 2 * 0 + _ ≤ _; exact Nat.le_of_eq rfl) (hb hby at_70) (fun _ _ => ⟨rfl, e312, (by decide : 2 + 0 ≤ _), (by decide : 4 + 0 ≤ _)⟩)
          dsimp only [Pt.U, Pt.locs, Pt.cells, Pt.slots] at X313 l313 y313 z313 st313 hQ313
          subst l313 y313 z313
          obtain ⟨hR313, e313, rfl⟩ := hQ313
          have N313 := Fr.app N312 (Fr.nil n0)
          rcases hR313 with ⟨rfl, ha313_0⟩ | ⟨rfl, ha313_0, ha313_1⟩ | ⟨rfl, ha313_0, ha313_1, ha313_2⟩ | ⟨rfl, ha313_0, ha313_1, ha313_2, ha313_3⟩ | ⟨rfl, ha313_0, ha313_1, ha313_2, ha313_3⟩
          · exact absurd ha313_0 ha240_1
          · refine own_st st313 ?_
            show own_E p e below _ T313 (mkF m 73 #[iv p1, iv p2, iv p3, iv p4, iv p5, iv p3, iv p2, rv b230, rv b234, iv 1] [.int 1, .int 1])
            refine own_st (fun t k => XS.icmpNo X313.here hx rfl (hb hby at_73) rfl (by decide) k) ?_
            show own_E p e below _ T313 (mkF m 76 #[iv p1, iv p2, iv p3, iv p4, iv p5, iv p3, iv p2, rv b230, rv b234, iv 1] [])
            refine own_st (fun t k => XS.iconst X313.here hx rfl (hb hby at_76) k) ?_
            show own_E p e below _ T313 (mkF m 77 #[iv p1, iv p2, iv p3, iv p4, iv p5, iv p3, iv p2, rv b230, rv b234, iv 1] [.int 1])
            refine own_st (fun t k => XS.goto X313.here hx rfl (pc0 := 77) (pc' := 81) rfl (hb hby at_77) (by decide) (by decide) k) ?_
            show own_E p e below _ T313 (mkF m 81 #[iv p1, iv p2, iv p3, iv p4, iv p5, iv p3, iv p2, rv b230, rv b234, iv 1] [.int 1])
            refine own_retS X313 hx Bd.notSynchronized Bd.returns rfl (by decide) (hb hby at_81) (by decide) (by decide) ?_
            exact ⟨rfl, N313⟩
          · exfalso
            have f314 := rng32 p5
            have f315 : (1 : Int32).toInt = 1 := rfl
            have f316 := rng32 (p5 &&& (1 : Int32))
            have f317 : (p5 &&& (1 : Int32)).toInt = p5.toInt % 2 := c_mask p5 (1 : Int32) 1 (by decide) (by decide)
            have f318 : (0 : Int32).toInt = 0 := rfl
            have f319 : (2 : Int32).toInt = 2 := rfl
            have f320 := rng32 (p5 &&& (2 : Int32))
            have f321 := c_and p5 (2 : Int32) (by decide)
            have f322 := rng32 p1
            have f323 := rng32 p3
            have f324 := rng32 p2
            have g325 := hc1
            rw [← Int32.toInt_inj] at g325
            have g326 := hc2
            rw [← Int32.toInt_inj] at g326
            have g327 := ha240_0
            rw [← Int32.toInt_inj] at g327
            have g328 := ha240_1
            rw [Int32.lt_iff_toInt_lt] at g328
            have g329 := ha313_1
            rw [Int32.lt_iff_toInt_lt] at g329
            have g330 := ha313_2
            rw [Int32.lt_iff_toInt_lt] at g330
            omega
          · exact absurd ha313_3 ha313_2
          · exfalso
            have f331 := rng32 p5
            have f332 : (1 : Int32).toInt = 1 := rfl
            have f333 := rng32 (p5 &&& (1 : Int32))
            have f334 : (p5 &&& (1 : Int32)).toInt = p5.toInt % 2 := c_mask p5 (1 : Int32) 1 (by decide) (by decide)
            have f335 : (0 : Int32).toInt = 0 := rfl
            have f336 : (2 : Int32).toInt = 2 := rfl
            have f337 := rng32 (p5 &&& (2 : Int32))
            have f338 := c_and p5 (2 : Int32) (by decide)
            have f339 := rng32 p1
            have f340 := rng32 p3
            have f341 := rng32 p2
            have g342 := hc1
            rw [← Int32.toInt_inj] at g342
            have g343 := hc2
            rw [← Int32.toInt_inj] at g343
            have g344 := ha240_0
            rw [← Int32.toInt_inj] at g344
            have g345 := ha240_1
            rw [Int32.lt_iff_toInt_lt] at g345
            have g346 := ha313_1
            rw [Int32.lt_iff_toInt_lt] at g346
            have g347 := ha313_2
            rw [Int32.lt_iff_toInt_lt] at g347
            omega
        · exact absurd ha312_1 (by decide)
  · refine own_st (fun t k => XS.ifNo X0.here hx rfl (hb hby at_10) rfl ((if0 _ _).trans (feq hc1).1) k) ?_
    show own_E p e below _ s₁ (mkF m 13 #[iv p1, iv p2, iv p3, iv p4, iv p5, iv p3, iv p4, .unset, .unset, .unset] [])
    refine own_st (fun t k => XS.iloadN X0.here hx rfl (hb hby at_13) rfl k) ?_
    show own_E p e below _ s₁ (mkF m 14 #[iv p1, iv p2, iv p3, iv p4, iv p5, iv p3, iv p4, .unset, .unset, .unset] [.int p1])
    refine own_st (fun t k => XS.istore X0.here hx rfl (hb hby at_14) rfl (l' := #[iv p1, iv p2, iv p3, iv p4, iv p5, iv p1, iv p4, .unset, .unset, .unset]) rfl k) ?_
    show own_E p e below _ s₁ (mkF m 16 #[iv p1, iv p2, iv p3, iv p4, iv p5, iv p1, iv p4, .unset, .unset, .unset] [])
    refine own_st (fun t k => XS.iload X0.here hx rfl (hb hby at_16) rfl k) ?_
    show own_E p e below _ s₁ (mkF m 18 #[iv p1, iv p2, iv p3, iv p4, iv p5, iv p1, iv p4, .unset, .unset, .unset] [.int p5])
    refine own_st (fun t k => XS.iconst X0.here hx rfl (hb hby at_18) k) ?_
    show own_E p e below _ s₁ (mkF m 19 #[iv p1, iv p2, iv p3, iv p4, iv p5, iv p1, iv p4, .unset, .unset, .unset] [.int 2, .int p5])
    refine own_st (fun t k => XS.iand X0.here hx rfl (hb hby at_19) rfl k) ?_
    show own_E p e below _ s₁ (mkF m 20 #[iv p1, iv p2, iv p3, iv p4, iv p5, iv p1, iv p4, .unset, .unset, .unset] [.int (p5 &&& (2 : Int32))])
    by_cases hc348 : (p5 &&& (2 : Int32)) = (0 : Int32)
    · refine own_st (fun t k => XS.ifYes X0.here hx rfl (pc0 := 20) (pc' := 26) rfl (hb hby at_20) rfl ((if0 _ _).trans (teq hc348).1) (by decide) (by decide) k) ?_
      show own_E p e below _ s₁ (mkF m 26 #[iv p1, iv p2, iv p3, iv p4, iv p5, iv p1, iv p4, .unset, .unset, .unset] [])
      obtain ⟨T349, h349, X349, e349, E349, A349, D349, -, st349⟩ := newO X0 hx hZ hown (own_w hw 0 rfl) (own_w hw 1 rfl) (own_w hw 2 rfl) e0 (g := (mkF m 26 #[iv p1, iv p2, iv p3, iv p4, iv p5, iv p1, iv p4, .unset, .unset, .unset] [])) rfl (hb hby at_26) (by decide) (by decide)
      obtain ⟨b349, g349⟩ : ∃ z, z = h0.size := ⟨_, rfl⟩
      rw [← g349] at A349 D349 st349
      have g_b349 : n0 ≤ b349 := Nat.le_trans Z0 (Nat.le_of_eq g349.symm)
      have Z350 := Nat.le_trans Z0 E349.1
      have F_line_b349 : Fld Z h349 b349 "com/example/lockstep/lockstep/plan/Position" "line" "I" (.int (0 : Int32)) := D349 (Or.inr (own_w hw 15 rfl)) (ty := .int) (by decide)
      have F_column_b349 : Fld Z h349 b349 "com/example/lockstep/lockstep/plan/Position" "column" "I" (.int (0 : Int32)) := D349 (Or.inr (own_w hw 17 rfl)) (ty := .int) (by decide)
      refine own_st st349 ?_
      show own_E p e below _ T349 (mkF m 29 #[iv p1, iv p2, iv p3, iv p4, iv p5, iv p1, iv p4, .unset, .unset, .unset] [.ref b349])
      refine own_st (fun t k => XS.dup X349.here hx rfl (hb hby at_29) rfl rfl k) ?_
      show own_E p e below _ T349 (mkF m 30 #[iv p1, iv p2, iv p3, iv p4, iv p5, iv p1, iv p4, .unset, .unset, .unset] [.ref b349, .ref b349])
      refine own_st (fun t k => XS.iloadN X349.here hx rfl (hb hby at_30) rfl k) ?_
      show own_E p e below _ T349 (mkF m 31 #[iv p1, iv p2, iv p3, iv p4, iv p5, iv p1, iv p4, .unset, .unset, .unset] [.int p1, .ref b349, .ref b349])
      refine own_st (fun t k => XS.iloadN X349.here hx rfl (hb hby at_31) rfl k) ?_
      show own_E p e below _ T349 (mkF m 32 #[iv p1, iv p2, iv p3, iv p4, iv p5, iv p1, iv p4, .unset, .unset, .unset] [.int p2, .int p1, .ref b349, .ref b349])
      obtain ⟨_, _, ⟨T351, L351, k351, n351⟩, -, X351, ⟨Lc351, hQ351, l351, y351, z351⟩, st351⟩ := X349.specialBack hx (y := own_y1) rfl hown (mvT hZ (own_w hw 3 rfl)) (mvT hZ (own_w hw 4 rfl)) (mvT hZ (own_w hw 5 rfl)) (by decide) (backOf (W := 1) (own_init l Z a0 hw [] b349 p1 p2 h349 n0 Z350 A349 F_line_b349 F_column_b349 g_b349) hZ (own_w hw 5 rfl) (own_w hw 2 rfl) (by decide) (by decide)) (g := (mkF m 32 #[iv p1, iv p2, iv p3, iv p4, iv p5, iv p1, iv p4, .unset, .unset, .unset] [.int p2, .int p1, .ref b349, .ref b349])) rfl (by rw [hml]; rfl) (Steps.refl _) (a := b349) (argsL := [(.int p1), (.int p2)]) (rest := [(.ref b349)]) (lenOf own_pd_3 rfl) rfl (by show 2 * 0 + _ ≤ _; exact Nat.le_of_eq rfl) (hb hby at_32) (fun _ _ => ⟨rfl, e349, (by decide : 1 + 0 ≤ _), (by decide : 2 + 0 ≤ _)⟩)
      dsimp only [Pt.U, Pt.locs, Pt.cells, Pt.slots] at X351 l351 y351 z351 st351 hQ351
      subst l351 y351 z351
      obtain ⟨rfl, Nq351, Kq351, P351_0, P351_1, P351_2⟩ := hQ351
      have N351 := Fr.app (Fr.nil n0) Nq351
      have e351 : T351.heap = T351.heap := rfl
      have Z352 := Nat.le_trans Z350 Kq351.1
      refine own_tr st351 ?_
      show own_E p e below _ T351 (mkF m 35 #[iv p1, iv p2, iv p3, iv p4, iv p5, iv p1, iv p4, .unset, .unset, .unset] [.ref b349])
      refine own_st (fun t k => XS.astore X351.here hx rfl (hb hby at_35) rfl rfl (l' := #[iv p1, iv p2, iv p3, iv p4, iv p5, iv p1, iv p4, rv b349, .unset, .unset]) rfl k) ?_
      show own_E p e below _ T351 (mkF m 37 #[iv p1, iv p2, iv p3, iv p4, iv p5, iv p1, iv p4, rv b349, .unset, .unset] [])
      obtain ⟨T353, h353, X353, e353, E353, A353, D353, -, st353⟩ := newO X351 hx hZ hown (own_w hw 0 rfl) (own_w hw 1 rfl) (own_w hw 2 rfl) e351 (g := (mkF m 37 #[iv p1, iv p2, iv p3, iv p4, iv p5, iv p1, iv p4, rv b349, .unset, .unset] [])) rfl (hb hby at_37) (by decide) (by decide)
      obtain ⟨b353, g353⟩ : ∃ z, z = T351.heap.size := ⟨_, rfl⟩
      rw [← g353] at A353 D353 st353
      have ne_b349_b353 : b349 ≠ b353 := Nat.ne_of_lt (Nat.lt_of_lt_of_le P351_0.lt (Nat.le_of_eq g353.symm))
      have g_b353 : n0 ≤ b353 := Nat.le_trans Z352 (Nat.le_of_eq g353.symm)
      have Z354 := Nat.le_trans Z352 E353.1
      have F_line_b353 : Fld Z h353 b353 "com/example/lockstep/lockstep/plan/Position" "line" "I" (.int (0 : Int32)) := D353 (Or.inr (own_w hw 15 rfl)) (ty := .int) (by decide)
      have F_column_b353 : Fld Z h353 b353 "com/example/lockstep/lockstep/plan/Position" "column" "I" (.int (0 : Int32)) := D353 (Or.inr (own_w hw 17 rfl)) (ty := .int) (by decide)
      refine own_st st353 ?_
      show own_E p e below _ T353 (mkF m 40 #[iv p1, iv p2, iv p3, iv p4, iv p5, iv p1, iv p4, rv b349, .unset, .unset] [.ref b353])
      refine own_st (fun t k => XS.dup X353.here hx rfl (hb hby at_40) rfl rfl k) ?_
      show own_E p e below _ T353 (mkF m 41 #[iv p1, iv p2, iv p3, iv p4, iv p5, iv p1, iv p4, rv b349, .unset, .unset] [.ref b353, .ref b353])
      refine own_st (fun t k => XS.iload X353.here hx rfl (hb hby at_41) rfl k) ?_
      show own_E p e below _ T353 (mkF m 43 #[iv p1, iv p2, iv p3, iv p4, iv p5, iv p1, iv p4, rv b349, .unset, .unset] [.int p1, .ref b353, .ref b353])
      refine own_st (fun t k => XS.iload X353.here hx rfl (hb hby at_43) rfl k) ?_
      show own_E p e below _ T353 (mkF m 45 #[iv p1, iv p2, iv p3, iv p4, iv p5, iv p1, iv p4, rv b349, .unset, .unset] [.int p4, .int p1, .ref b353, .ref b353])
      obtain ⟨_, _, ⟨T355, L355, k355, n355⟩, -, X355, ⟨Lc355, hQ355, l355, y355, z355⟩, st355⟩ := X353.specialBack hx (y := own_y1) rfl hown (mvT hZ (own_w hw 3 rfl)) (mvT hZ (own_w hw 4 rfl)) (mvT hZ (own_w hw 5 rfl)) (by decide) (backOf (W := 1) (own_init l Z a0 hw [] b353 p1 p4 h353 n0 Z354 A353 F_line_b353 F_column_b353 g_b353) hZ (own_w hw 5 rfl) (own_w hw 2 rfl) (by decide) (by decide)) (g := (mkF m 45 #[iv p1, iv p2, iv p3, iv p4, iv p5, iv p1, iv p4, rv b349, .unset, .unset] [.int p4, .int p1, .ref b353, .ref b353])) rfl (by rw [hml]; rfl) (Steps.refl _) (a := b353) (argsL := [(.int p1), (.int p4)]) (rest := [(.ref b353)]) (lenOf own_pd_3 rfl) rfl (by show 2 * 0 + _ ≤ _; exact Nat.le_of_eq rfl) (hb hby at_45) (fun _ _ => ⟨rfl, e353, (by decide : 2 + 0 ≤ _), (by decide : 4 + 0 ≤ _)⟩)
      dsimp only [Pt.U, Pt.locs, Pt.cells, Pt.slots] at X355 l355 y355 z355 st355 hQ355
      subst l355 y355 z355
      obtain ⟨rfl, Nq355, Kq355, P355_0, P355_1, P355_2⟩ := hQ355
      have N355 := Fr.app N351 Nq355
      have e355 : T355.heap = T355.heap := rfl
      have Z356 := Nat.le_trans Z354 Kq355.1
      refine own_tr st355 ?_
      show own_E p e below _ T355 (mkF m 48 #[iv p1, iv p2, iv p3, iv p4, iv p5, iv p1, iv p4, rv b349, .unset, .unset] [.ref b353])
      refine own_st (fun t k => XS.astore X355.here hx rfl (hb hby at_48) rfl rfl (l' := #[iv p1, iv p2, iv p3, iv p4, iv p5, iv p1, iv p4, rv b349, rv b353, .unset]) rfl k) ?_
      show own_E p e below _ T355 (mkF m 50 #[iv p1, iv p2, iv p3, iv p4, iv p5, iv p1, iv p4, rv b349, rv b353, .unset] [])
      refine own_st (fun t k => XS.aload X355.here hx rfl (hb hby at_50) rfl rfl k) ?_
      show own_E p e below _ T355 (mkF m 52 #[iv p1, iv p2, iv p3, iv p4, iv p5, iv p1, iv p4, rv b349, rv b353, .unset] [.ref b349])
      refine own_st (fun t k => XS.aload X355.here hx rfl (hb hby at_52) rfl rfl k) ?_
      show own_E p e below _ T355 (mkF m 54 #[iv p1, iv p2, iv p3, iv p4, iv p5, iv p1, iv p4, rv b349, rv b353, .unset] [.ref b353, .ref b349])
      have B357 := ((P351_1.ext E353).keep Kq355 (ninS ne_b349_b353 nin0))
      have B358 := ((P351_2.ext E353).keep Kq355 (ninS ne_b349_b353 nin0))
      have B360 := ((P351_0.ext E353).keep Kq355)
      obtain ⟨cq359, kq359, q359a, q359b, q359c⟩ := isOf hZ e355 B360
      obtain ⟨_, _, ⟨T359, L359, k359, n359⟩, -, X359, ⟨Lc359, hQ359, l359, y359, z359⟩, st359⟩ := X355.virtualBack hx (y := own_y3) (z := own_y3) hown (mvT hZ (own_w hw 18 rfl)) (mvT hZ (own_w hw 19 rfl)) (notFace_of_selects (args := #[]) (mvT hZ (own_w hw 21 rfl))) (mvT hZ (own_w hw 21 rfl)) (mvT hZ (own_w hw 20 rfl)) (by decide) (backOf (W := 0) (own_cto l Z a0 hw [] b349 b353 p1 p2 p1 p4 T355.heap n0 Z356 B357 B358 P355_1 P355_2) hZ (own_w hw 22 rfl) (own_w hw 2 rfl) (by decide) (by decide)) q359a q359c (g := (mkF m 54 #[iv p1, iv p2, iv p3, iv p4, iv p5, iv p1, iv p4, rv b349, rv b353, .unset] [.ref b353, .ref b349])) rfl (by rw [hml]; rfl) (Steps.refl _) (argsL := [(.ref b353)]) (rest := []) (lenOf own_pd_6 rfl) rfl (by show 2 * 0 + _ ≤ _; exact Nat.le_of_eq rfl) (hb hby at_54) (fun _ _ => ⟨rfl, e355, (by decide : 2 + 0 ≤ _), (by decide : 4 + 0 ≤ _)⟩)
      dsimp only [Pt.U, Pt.locs, Pt.cells, Pt.slots] at X359 l359 y359 z359 st359 hQ359
      subst l359 y359 z359
      obtain ⟨hR359, e359, rfl⟩ := hQ359
      have N359 := Fr.app N355 (Fr.nil n0)
      rcases hR359 with ⟨rfl, ha359_0, ha359_1⟩ | ⟨rfl, ha359_0, ha359_1, ha359_2⟩ | ⟨rfl, ha359_0, ha359_1, ha359_2⟩ | ⟨rfl, ha359_0, ha359_1⟩ | ⟨rfl, ha359_0, ha359_1⟩
      · refine own_tr st359 ?_
        show own_E p e below _ T359 (mkF m 57 #[iv p1, iv p2, iv p3, iv p4, iv p5, iv p1, iv p4, rv b349, rv b353, .unset] [.int (-1)])
        refine own_st (fun t k => XS.istore X359.here hx rfl (hb hby at_57) rfl (l' := #[iv p1, iv p2, iv p3, iv p4, iv p5, iv p1, iv p4, rv b349, rv b353, iv (-1)]) rfl k) ?_
        show own_E p e below _ T359 (mkF m 59 #[iv p1, iv p2, iv p3, iv p4, iv p5, iv p1, iv p4, rv b349, rv b353, iv (-1)] [])
        refine own_st (fun t k => XS.iload X359.here hx rfl (hb hby at_59) rfl k) ?_
        show own_E p e below _ T359 (mkF m 61 #[iv p1, iv p2, iv p3, iv p4, iv p5, iv p1, iv p4, rv b349, rv b353, iv (-1)] [.int (-1)])
        obtain ⟨_, _, ⟨T361, L361, k361, n361⟩, -, X361, ⟨Lc361, hQ361, l361, y361, z361⟩, st361⟩ := Jvm.LawKit.callS X359 hx (y := own_y4) hown (mvT hZ (own_w hw 27 rfl)) (mvT hZ (own_w hw 28 rfl)) (mvT hZ (own_w hw 29 rfl)) (mvT hZ (own_w hw 30 rfl)) (by decide) (backOf (W := 0) (own_sign l Z a0 hw [] (-1 : Int32) T355.heap n0 Z356 ) hZ (own_w hw 30 rfl) (own_w hw 29 rfl) (by decide) (by decide)) (g := (mkF m 61 #[iv p1, iv p2, iv p3, iv p4, iv p5, iv p1, iv p4, rv b349, rv b353, iv (-1)] [.int (-1)])) rfl (by rw [hml]; rfl) (argsL := [(.int (-1 : Int32))]) (rest := []) (lenOf own_pd_1 rfl) rfl (by show 2 * 0 + _ ≤ _; exact Nat.le_of_eq rfl) (hb hby at_61) (fun _ _ => ⟨rfl, e359, (by decide : 2 + 0 ≤ _), (by decide : 4 + 0 ≤ _)⟩)
        dsimp only [Pt.U, Pt.locs, Pt.cells, Pt.slots] at X361 l361 y361 z361 st361 hQ361
        subst l361 y361 z361
        obtain ⟨hR361, e361, rfl⟩ := hQ361
        have N361 := Fr.app N359 (Fr.nil n0)
        rcases hR361 with ⟨rfl, ha361_0⟩ | ⟨rfl, ha361_0, ha361_1⟩ | ⟨rfl, ha361_0, ha361_1⟩
        · refine own_st st361 ?_
          show own_E p e below _ T361 (mkF m 64 #[iv p1, iv p2, iv p3, iv p4, iv p5, iv p1, iv p4, rv b349, rv b353, iv (-1)] [.int (-1)])
          refine own_st (fun t k => XS.iloadN X361.here hx rfl (hb hby at_64) rfl k) ?_
          show own_E p e below _ T361 (mkF m 65 #[iv p1, iv p2, iv p3, iv p4, iv p5, iv p1, iv p4, rv b349, rv b353, iv (-1)] [.int p1, .int (-1)])
          refine own_st (fun t k => XS.iloadN X361.here hx rfl (hb hby at_65) rfl k) ?_
          show own_E p e below _ T361 (mkF m 66 #[iv p1, iv p2, iv p3, iv p4, iv p5, iv p1, iv p4, rv b349, rv b353, iv (-1)] [.int p2, .int p1, .int (-1)])
          refine own_st (fun t k => XS.iload X361.here hx rfl (hb hby at_66) rfl k) ?_
          show own_E p e below _ T361 (mkF m 68 #[iv p1, iv p2, iv p3, iv p4, iv p5, iv p1, iv p4, rv b349, rv b353, iv (-1)] [.int p1, .int p2, .int p1, .int (-1)])
          refine own_st (fun t k => XS.iload X361.here hx rfl (hb hby at_68) rfl k) ?_
          show own_E p e below _ T361 (mkF m 70 #[iv p1, iv p2, iv p3, iv p4, iv p5, iv p1, iv p4, rv b349, rv b353, iv (-1)] [.int p4, .int p1, .int p2, .int p1, .int (-1)])
          obtain ⟨_, _, ⟨T362, L362, k362, n362⟩, -, X362, ⟨Lc362, hQ362, l362, y362, z362⟩, st362⟩ := Jvm.LawKit.callS X361 hx (y := own_y5) hown (mvT hZ (own_w hw 31 rfl)) (mvT hZ (own_w hw 32 rfl)) (mvT hZ (own_w hw 29 rfl)) (mvT hZ (own_w hw 33 rfl)) (by decide) (backOf (W := 1) (own_exp l Z a0 hw [] p1 p2 p1 p4 T355.heap n0 Z356 ) hZ (own_w hw 33 rfl) (own_w hw 29 rfl) (by decide) (by decide)) (g := (mkF m 70 #[iv p1, iv p2, iv p3, iv p4, iv p5, iv p1, iv p4, rv b349, rv b353, iv (-1)] [.int p4, .int p1, .int p2, .int p1, .int (-1)])) rfl (by rw [hml]; rfl) (argsL := [(.int p1), (.int p2), (.int p1), (.int p4)]) (rest := [(.int (-1 : Int32))]) (lenOf own_pd_4 rfl) rfl (by show 2 * 0 + _ ≤ _; exact Nat.le_of_eq rfl) (hb hby at_70) (fun _ _ => ⟨rfl, e361, (by decide : 2 + 0 ≤ _), (by decide : 4 + 0 ≤ _)⟩)
          dsimp only [Pt.U, Pt.locs, Pt.cells, Pt.slots] at X362 l362 y362 z362 st362 hQ362
          subst l362 y362 z362
          obtain ⟨hR362, e362, rfl⟩ := hQ362
          have N362 := Fr.app N361 (Fr.nil n0)
          rcases hR362 with ⟨rfl, ha362_0⟩ | ⟨rfl, ha362_0, ha362_1⟩ | ⟨rfl, ha362_0, ha362_1, ha362_2⟩ | ⟨rfl, ha362_0, ha362_1, ha362_2, ha362_3⟩ | ⟨rfl, ha362_0, ha362_1, ha362_2, ha362_3⟩
          · exfalso
            have f363 := rng32 p5
            have f364 : (1 : Int32).toInt = 1 := rfl
            have f365 := rng32 (p5 &&& (1 : Int32))
            have f366 : (p5 &&& (1 : Int32)).toInt = p5.toInt % 2 := c_mask p5 (1 : Int32) 1 (by decide) (by decide)
            have f367 : (0 : Int32).toInt = 0 := rfl
            have f368 : (2 : Int32).toInt = 2 := rfl
            have f369 := rng32 (p5 &&& (2 : Int32))
            have f370 := c_and p5 (2 : Int32) (by decide)
            have f371 := rng32 p1
            have f372 := rng32 p2
            have f373 := rng32 p4
            have g374 := hc1
            rw [← Int32.toInt_inj] at g374
            have g375 := hc348
            rw [← Int32.toInt_inj] at g375
            have g376 := ha359_0
            rw [← Int32.toInt_inj] at g376
            have g377 := ha359_1
            rw [Int32.lt_iff_toInt_lt] at g377
            have g378 := ha362_0
            rw [Int32.lt_iff_toInt_lt] at g378
            omega
          · exact absurd ha362_1 ha362_0
          · refine own_st st362 ?_
            show own_E p e below _ T362 (mkF m 73 #[iv p1, iv p2, iv p3, iv p4, iv p5, iv p1, iv p4, rv b349, rv b353, iv (-1)] [.int (-1), .int (-1)])
            refine own_st (fun t k => XS.icmpNo X362.here hx rfl (hb hby at_73) rfl (by decide) k) ?_
            show own_E p e below _ T362 (mkF m 76 #[iv p1, iv p2, iv p3, iv p4, iv p5, iv p1, iv p4, rv b349, rv b353, iv (-1)] [])
            refine own_st (fun t k => XS.iconst X362.here hx rfl (hb hby at_76) k) ?_
            show own_E p e below _ T362 (mkF m 77 #[iv p1, iv p2, iv p3, iv p4, iv p5, iv p1, iv p4, rv b349, rv b353, iv (-1)] [.int 1])
            refine own_st (fun t k => XS.goto X362.here hx rfl (pc0 := 77) (pc' := 81) rfl (hb hby at_77) (by decide) (by decide) k) ?_
            show own_E p e below _ T362 (mkF m 81 #[iv p1, iv p2, iv p3, iv p4, iv p5, iv p1, iv p4, rv b349, rv b353, iv (-1)] [.int 1])
            refine own_retS X362 hx Bd.notSynchronized Bd.returns rfl (by decide) (hb hby at_81) (by decide) (by decide) ?_
            exact ⟨rfl, N362⟩
          · exact absurd ha359_1 ha362_2
          · exact absurd ha359_1 ha362_2
        · exact absurd ha361_0 (by decide)
        · exact absurd ha361_0 (by decide)
      · refine own_tr st359 ?_
        show own_E p e below _ T359 (mkF m 57 #[iv p1, iv p2, iv p3, iv p4, iv p5, iv p1, iv p4, rv b349, rv b353, .unset] [.int 0])
        refine own_st (fun t k => XS.istore X359.here hx rfl (hb hby at_57) rfl (l' := #[iv p1, iv p2, iv p3, iv p4, iv p5, iv p1, iv p4, rv b349, rv b353, iv 0]) rfl k) ?_
        show own_E p e below _ T359 (mkF m 59 #[iv p1, iv p2, iv p3, iv p4, iv p5, iv p1, iv p4, rv b349, rv b353, iv 0] [])
        refine own_st (fun t k => XS.iload X359.here hx rfl (hb hby at_59) rfl k) ?_
        show own_E p e below _ T359 (mkF m 61 #[iv p1, iv p2, iv p3, iv p4, iv p5, iv p1, iv p4, rv b349, rv b353, iv 0] [.int 0])
        obtain ⟨_, _, ⟨T379, L379, k379, n379⟩, -, X379, ⟨Lc379, hQ379, l379, y379, z379⟩, st379⟩ := Jvm.LawKit.callS X359 hx (y := own_y4) hown (mvT hZ (own_w hw 27 rfl)) (mvT hZ (own_w hw 28 rfl)) (mvT hZ (own_w hw 29 rfl)) (mvT hZ (own_w hw 30 rfl)) (by decide) (backOf (W := 0) (own_sign l Z a0 hw [] (0 : Int32) T355.heap n0 Z356 ) hZ (own_w hw 30 rfl) (own_w hw 29 rfl) (by decide) (by decide)) (g := (mkF m 61 #[iv p1, iv p2, iv p3, iv p4, iv p5, iv p1, iv p4, rv b349, rv b353, iv 0] [.int 0])) rfl (by rw [hml]; rfl) (argsL := [(.int (0 : Int32))]) (rest := []) (lenOf own_pd_1 rfl) rfl (by show 2 * 0 + _ ≤ _; exact Nat.le_of_eq rfl) (hb hby at_61) (fun _ _ => ⟨rfl, e359, (by decide : 2 + 0 ≤ _), (by decide : 4 + 0 ≤ _)⟩)
        dsimp only [Pt.U, Pt.locs, Pt.cells, Pt.slots] at X379 l379 y379 z379 st379 hQ379
        subst l379 y379 z379
        obtain ⟨hR379, e379, rfl⟩ := hQ379
        have N379 := Fr.app N359 (Fr.nil n0)
        rcases hR379 with ⟨rfl, ha379_0⟩ | ⟨rfl, ha379_0, ha379_1⟩ | ⟨rfl, ha379_0, ha379_1⟩
        · exact absurd ha379_0 (by decide)
        · exact absurd ha379_1 (by decide)
        · refine own_st st379 ?_
          show own_E p e below _ T379 (mkF m 64 #[iv p1, iv p2, iv p3, iv p4, iv p5, iv p1, iv p4, rv b349, rv b353, iv 0] [.int 0])
          refine own_st (fun t k => XS.iloadN X379.here hx rfl (hb hby at_64) rfl k) ?_
          show own_E p e below _ T379 (mkF m 65 #[iv p1, iv p2, iv p3, iv p4, iv p5, iv p1, iv p4, rv b349, rv b353, iv 0] [.int p1, .int 0])
          refine own_st (fun t k => XS.iloadN X379.here hx rfl (hb hby at_65) rfl k) ?_
          show own_E p e below _ T379 (mkF m 66 #[iv p1, iv p2, iv p3, iv p4, iv p5, iv p1, iv p4, rv b349, rv b353, iv 0] [.int p2, .int p1, .int 0])
          refine own_st (fun t k => XS.iload X379.here hx rfl (hb hby at_66) rfl k) ?_
          show own_E p e below _ T379 (mkF m 68 #[iv p1, iv p2, iv p3, iv p4, iv p5, iv p1, iv p4, rv b349, rv b353, iv 0] [.int p1, .int p2, .int p1, .int 0])
          refine own_st (fun t k => XS.iload X379.here hx rfl (hb hby at_68) rfl k) ?_
          show own_E p e below _ T379 (mkF m 70 #[iv p1, iv p2, iv p3, iv p4, iv p5, iv p1, iv p4, rv b349, rv b353, iv 0] [.int p4, .int p1, .int p2, .int p1, .int 0])
          obtain ⟨_, _, ⟨T380, L380, k380, n380⟩, -, X380, ⟨Lc380, hQ380, l380, y380, z380⟩, st380⟩ := Jvm.LawKit.callS X379 hx (y := own_y5) hown (mvT hZ (own_w hw 31 rfl)) (mvT hZ (own_w hw 32 rfl)) (mvT hZ (own_w hw 29 rfl)) (mvT hZ (own_w hw 33 rfl)) (by decide) (backOf (W := 1) (own_exp l Z a0 hw [] p1 p2 p1 p4 T355.heap n0 Z356 ) hZ (own_w hw 33 rfl) (own_w hw 29 rfl) (by decide) (by decide)) (g := (mkF m 70 #[iv p1, iv p2, iv p3, iv p4, iv p5, iv p1, iv p4, rv b349, rv b353, iv 0] [.int p4, .int p1, .int p2, .int p1, .int 0])) rfl (by rw [hml]; rfl) (argsL := [(.int p1), (.int p2), (.int p1), (.int p4)]) (rest := [(.int (0 : Int32))]) (lenOf own_pd_4 rfl) rfl (by show 2 * 0 + _ ≤ _; exact Nat.le_of_eq rfl) (hb hby at_70) (fun _ _ => ⟨rfl, e379, (by decide : 2 + 0 ≤ _), (by decide : 4 + 0 ≤ _)⟩)
          dsimp only [Pt.U, Pt.locs, Pt.cells, Pt.slots] at X380 l380 y380 z380 st380 hQ380
          subst l380 y380 z380
          obtain ⟨hR380, e380, rfl⟩ := hQ380
          have N380 := Fr.app N379 (Fr.nil n0)
          rcases hR380 with ⟨rfl, ha380_0⟩ | ⟨rfl, ha380_0, ha380_1⟩ | ⟨rfl, ha380_0, ha380_1, ha380_2⟩ | ⟨rfl, ha380_0, ha380_1, ha380_2, ha380_3⟩ | ⟨rfl, ha380_0, ha380_1, ha380_2, ha380_3⟩
          · exfalso
            have f381 := rng32 p5
            have f382 : (1 : Int32).toInt = 1 := rfl
            have f383 := rng32 (p5 &&& (1 : Int32))
            have f384 : (p5 &&& (1 : Int32)).toInt = p5.toInt % 2 := c_mask p5 (1 : Int32) 1 (by decide) (by decide)
            have f385 : (0 : Int32).toInt = 0 := rfl
            have f386 : (2 : Int32).toInt = 2 := rfl
            have f387 := rng32 (p5 &&& (2 : Int32))
            have f388 := c_and p5 (2 : Int32) (by decide)
            have f389 := rng32 p1
            have f390 := rng32 p2
            have f391 := rng32 p4
            have g392 := hc1
            rw [← Int32.toInt_inj] at g392
            have g393 := hc348
            rw [← Int32.toInt_inj] at g393
            have g394 := ha359_0
            rw [← Int32.toInt_inj] at g394
            have g395 := ha359_1
            rw [Int32.lt_iff_toInt_lt] at g395
            have g396 := ha359_2
            rw [← Int32.toInt_inj] at g396
            have g397 := ha380_0
            rw [Int32.lt_iff_toInt_lt] at g397
            omega
          · exact absurd ha380_1 ha380_0
          · exact absurd ha380_2 ha359_1
          · exfalso
            have f398 := rng32 p5
            have f399 : (1 : Int32).toInt = 1 := rfl
            have f400 := rng32 (p5 &&& (1 : Int32))
            have f401 : (p5 &&& (1 : Int32)).toInt = p5.toInt % 2 := c_mask p5 (1 : Int32) 1 (by decide) (by decide)
            have f402 : (0 : Int32).toInt = 0 := rfl
            have f403 : (2 : Int32).toInt = 2 := rfl
            have f404 := rng32 (p5 &&& (2 : Int32))
            have f405 := c_and p5 (2 : Int32) (by decide)
            have f406 := rng32 p1
            have f407 := rng32 p2
            have f408 := rng32 p4
            have g409 := hc1
            rw [← Int32.toInt_inj] at g409
            have g410 := hc348
            rw [← Int32.toInt_inj] at g410
            have g411 := ha359_0
            rw [← Int32.toInt_inj] at g411
            have g412 := ha359_1
            rw [Int32.lt_iff_toInt_lt] at g412
            have g413 := ha359_2
            rw [← Int32.toInt_inj] at g413
            have g414 := ha380_0
            rw [Int32.lt_iff_toInt_lt] at g414
            have g415 := ha380_3
            rw [Int32.lt_iff_toInt_lt] at g415
            omega
          · refine own_st st380 ?_
            show own_E p e below _ T380 (mkF m 73 #[iv p1, iv p2, iv p3, iv p4, iv p5, iv p1, iv p4, rv b349, rv b353, iv 0] [.int 0, .int 0])
            refine own_st (fun t k => XS.icmpNo X380.here hx rfl (hb hby at_73) rfl (by decide) k) ?_
            show own_E p e below _ T380 (mkF m 76 #[iv p1, iv p2, iv p3, iv p4, iv p5, iv p1, iv p4, rv b349, rv b353, iv 0] [])
            refine own_st (fun t k => XS.iconst X380.here hx rfl (hb hby at_76) k) ?_
            show own_E p e below _ T380 (mkF m 77 #[iv p1, iv p2, iv p3, iv p4, iv p5, iv p1, iv p4, rv b349, rv b353, iv 0] [.int 1])
            refine own_st (fun t k => XS.goto X380.here hx rfl (pc0 := 77) (pc' := 81) rfl (hb hby at_77) (by decide) (by decide) k) ?_
            show own_E p e below _ T380 (mkF m 81 #[iv p1, iv p2, iv p3, iv p4, iv p5, iv p1, iv p4, rv b349, rv b353, iv 0] [.int 1])
            refine own_retS X380 hx Bd.notSynchronized Bd.returns rfl (by decide) (hb hby at_81) (by decide) (by decide) ?_
            exact ⟨rfl, N380⟩
      · refine own_tr st359 ?_
        show own_E p e below _ T359 (mkF m 57 #[iv p1, iv p2, iv p3, iv p4, iv p5, iv p1, iv p4, rv b349, rv b353, .unset] [.int 1])
        refine own_st (fun t k => XS.istore X359.here hx rfl (hb hby at_57) rfl (l' := #[iv p1, iv p2, iv p3, iv p4, iv p5, iv p1, iv p4, rv b349, rv b353, iv 1]) rfl k) ?_
        show own_E p e below _ T359 (mkF m 59 #[iv p1, iv p2, iv p3, iv p4, iv p5, iv p1, iv p4, rv b349, rv b353, iv 1] [])
        refine own_st (fun t k => XS.iload X359.here hx rfl (hb hby at_59) rfl k) ?_
        show own_E p e below _ T359 (mkF m 61 #[iv p1, iv p2, iv p3, iv p4, iv p5, iv p1, iv p4, rv b349, rv b353, iv 1] [.int 1])
        obtain ⟨_, _, ⟨T416, L416, k416, n416⟩, -, X416, ⟨Lc416, hQ416, l416, y416, z416⟩, st416⟩ := Jvm.LawKit.callS X359 hx (y := own_y4) hown (mvT hZ (own_w hw 27 rfl)) (mvT hZ (own_w hw 28 rfl)) (mvT hZ (own_w hw 29 rfl)) (mvT hZ (own_w hw 30 rfl)) (by decide) (backOf (W := 0) (own_sign l Z a0 hw [] (1 : Int32) T355.heap n0 Z356 ) hZ (own_w hw 30 rfl) (own_w hw 29 rfl) (by decide) (by decide)) (g := (mkF m 61 #[iv p1, iv p2, iv p3, iv p4, iv p5, iv p1, iv p4, rv b349, rv b353, iv 1] [.int 1])) rfl (by rw [hml]; rfl) (argsL := [(.int (1 : Int32))]) (rest := []) (lenOf own_pd_1 rfl) rfl (by show 2 * 0 + _ ≤ _; exact Nat.le_of_eq rfl) (hb hby at_61) (fun _ _ => ⟨rfl, e359, (by decide : 2 + 0 ≤ _), (by decide : 4 + 0 ≤ _)⟩)
        dsimp only [Pt.U, Pt.locs, Pt.cells, Pt.slots] at X416 l416 y416 z416 st416 hQ416
        subst l416 y416 z416
        obtain ⟨hR416, e416, rfl⟩ := hQ416
        have N416 := Fr.app N359 (Fr.nil n0)
        rcases hR416 with ⟨rfl, ha416_0⟩ | ⟨rfl, ha416_0, ha416_1⟩ | ⟨rfl, ha416_0, ha416_1⟩
        · exact absurd ha416_0 (by decide)
        · refine own_st st416 ?_
          show own_E p e below _ T416 (mkF m 64 #[iv p1, iv p2, iv p3, iv p4, iv p5, iv p1, iv p4, rv b349, rv b353, iv 1] [.int 1])
          refine own_st (fun t k => XS.iloadN X416.here hx rfl (hb hby at_64) rfl k) ?_
          show own_E p e below _ T416 (mkF m 65 #[iv p1, iv p2, iv p3, iv p4, iv p5, iv p1, iv p4, rv b349, rv b353, iv 1] [.int p1, .int 1])
          refine own_st (fun t k => XS.iloadN X416.here hx rfl (hb hby at_65) rfl k) ?_
          show own_E p e below _ T416 (mkF m 66 #[iv p1, iv p2, iv p3, iv p4, iv p5, iv p1, iv p4, rv b349, rv b353, iv 1] [.int p2, .int p1, .int 1])
          refine own_st (fun t k => XS.iload X416.here hx rfl (hb hby at_66) rfl k) ?_
          show own_E p e below _ T416 (mkF m 68 #[iv p1, iv p2, iv p3, iv p4, iv p5, iv p1, iv p4, rv b349, rv b353, iv 1] [.int p1, .int p2, .int p1, .int 1])
          refine own_st (fun t k => XS.iload X416.here hx rfl (hb hby at_68) rfl k) ?_
          show own_E p e below _ T416 (mkF m 70 #[iv p1, iv p2, iv p3, iv p4, iv p5, iv p1, iv p4, rv b349, rv b353, iv 1] [.int p4, .int p1, .int p2, .int p1, .int 1])
          obtain ⟨_, _, ⟨T417, L417, k417, n417⟩, -, X417, ⟨Lc417, hQ417, l417, y417, z417⟩, st417⟩ := Jvm.LawKit.callS X416 hx (y := own_y5) hown (mvT hZ (own_w hw 31 rfl)) (mvT hZ (own_w hw 32 rfl)) (mvT hZ (own_w hw 29 rfl)) (mvT hZ (own_w hw 33 rfl)) (by decide) (backOf (W := 1) (own_exp l Z a0 hw [] p1 p2 p1 p4 T355.heap n0 Z356 ) hZ (own_w hw 33 rfl) (own_w hw 29 rfl) (by decide) (by decide)) (g := (mkF m 70 #[iv p1, iv p2, iv p3, iv p4, iv p5, iv p1, iv p4, rv b349, rv b353, iv 1] [.int p4, .int p1, .int p2, .int p1, .int 1])) rfl (by rw [hml]; rfl) (argsL := [(.int p1), (.int p2), (.int p1), (.int p4)]) (rest := [(.int (1 : Int32))]) (lenOf own_pd_4 rfl) rfl (by show 2 * 0 + _ ≤ _; exact Nat.le_of_eq rfl) (hb hby at_70) (fun _ _ => ⟨rfl, e416, (by decide : 2 + 0 ≤ _), (by decide : 4 + 0 ≤ _)⟩)
          dsimp only [Pt.U, Pt.locs, Pt.cells, Pt.slots] at X417 l417 y417 z417 st417 hQ417
          subst l417 y417 z417
          obtain ⟨hR417, e417, rfl⟩ := hQ417
          have N417 := Fr.app N416 (Fr.nil n0)
          rcases hR417 with ⟨rfl, ha417_0⟩ | ⟨rfl, ha417_0, ha417_1⟩ | ⟨rfl, ha417_0, ha417_1, ha417_2⟩ | ⟨rfl, ha417_0, ha417_1, ha417_2, ha417_3⟩ | ⟨rfl, ha417_0, ha417_1, ha417_2, ha417_3⟩
          · exfalso
            have f418 := rng32 p5
            have f419 : (1 : Int32).toInt = 1 := rfl
            have f420 := rng32 (p5 &&& (1 : Int32))
            have f421 : (p5 &&& (1 : Int32)).toInt = p5.toInt % 2 := c_mask p5 (1 : Int32) 1 (by decide) (by decide)
            have f422 : (0 : Int32).toInt = 0 := rfl
            have f423 : (2 : Int32).toInt = 2 := rfl
            have f424 := rng32 (p5 &&& (2 : Int32))
            have f425 := c_and p5 (2 : Int32) (by decide)
            have f426 := rng32 p1
            have f427 := rng32 p2
            have f428 := rng32 p4
            have g429 := hc1
            rw [← Int32.toInt_inj] at g429
            have g430 := hc348
            rw [← Int32.toInt_inj] at g430
            have g431 := ha359_0
            rw [← Int32.toInt_inj] at g431
            have g432 := ha359_1
            rw [Int32.lt_iff_toInt_lt] at g432
            have g433 := ha359_2
            rw [← Int32.toInt_inj] at g433
            have g434 := ha417_0
            rw [Int32.lt_iff_toInt_lt] at g434
            omega
          · exact absurd ha417_1 ha417_0
          · exact absurd ha417_2 ha359_1
          · refine own_st st417 ?_
            show own_E p e below _ T417 (mkF m 73 #[iv p1, iv p2, iv p3, iv p4, iv p5, iv p1, iv p4, rv b349, rv b353, iv 1] [.int 1, .int 1])
            refine own_st (fun t k => XS.icmpNo X417.here hx rfl (hb hby at_73) rfl (by decide) k) ?_
            show own_E p e below _ T417 (mkF m 76 #[iv p1, iv p2, iv p3, iv p4, iv p5, iv p1, iv p4, rv b349, rv b353, iv 1] [])
            refine own_st (fun t k => XS.iconst X417.here hx rfl (hb hby at_76) k) ?_
            show own_E p e below _ T417 (mkF m 77 #[iv p1, iv p2, iv p3, iv p4, iv p5, iv p1, iv p4, rv b349, rv b353, iv 1] [.int 1])
            refine own_st (fun t k => XS.goto X417.here hx rfl (pc0 := 77) (pc' := 81) rfl (hb hby at_77) (by decide) (by decide) k) ?_
            show own_E p e below _ T417 (mkF m 81 #[iv p1, iv p2, iv p3, iv p4, iv p5, iv p1, iv p4, rv b349, rv b353, iv 1] [.int 1])
            refine own_retS X417 hx Bd.notSynchronized Bd.returns rfl (by decide) (hb hby at_81) (by decide) (by decide) ?_
            exact ⟨rfl, N417⟩
          · exfalso
            have f435 := rng32 p5
            have f436 : (1 : Int32).toInt = 1 := rfl
            have f437 := rng32 (p5 &&& (1 : Int32))
            have f438 : (p5 &&& (1 : Int32)).toInt = p5.toInt % 2 := c_mask p5 (1 : Int32) 1 (by decide) (by decide)
            have f439 : (0 : Int32).toInt = 0 := rfl
            have f440 : (2 : Int32).toInt = 2 := rfl
            have f441 := rng32 (p5 &&& (2 : Int32))
            have f442 := c_and p5 (2 : Int32) (by decide)
            have f443 := rng32 p1
            have f444 := rng32 p2
            have f445 := rng32 p4
            have g446 := hc1
            rw [← Int32.toInt_inj] at g446
            have g447 := hc348
            rw [← Int32.toInt_inj] at g447
            have g448 := ha359_0
            rw [← Int32.toInt_inj] at g448
            have g449 := ha359_1
            rw [Int32.lt_iff_toInt_lt] at g449
            have g450 := ha359_2
            rw [← Int32.toInt_inj] at g450
            have g451 := ha417_0
            rw [Int32.lt_iff_toInt_lt] at g451
            have g452 := ha417_3
            rw [Int32.lt_iff_toInt_lt] at g452
            omega
        · exact absurd ha416_1 (by decide)
      · exfalso
        have f453 := rng32 p5
        have f454 : (1 : Int32).toInt = 1 := rfl
        have f455 := rng32 (p5 &&& (1 : Int32))
        have f456 : (p5 &&& (1 : Int32)).toInt = p5.toInt % 2 := c_mask p5 (1 : Int32) 1 (by decide) (by decide)
        have f457 : (0 : Int32).toInt = 0 := rfl
        have f458 : (2 : Int32).toInt = 2 := rfl
        have f459 := rng32 (p5 &&& (2 : Int32))
        have f460 := c_and p5 (2 : Int32) (by decide)
        have f461 := rng32 p1
        have g462 := hc1
        rw [← Int32.toInt_inj] at g462
        have g463 := hc348
        rw [← Int32.toInt_inj] at g463
        have g464 := ha359_0
        rw [← Int32.toInt_inj] at g464
        have g465 := ha359_1
        rw [Int32.lt_iff_toInt_lt] at g465
        omega
      · exfalso
        have f466 := rng32 p5
        have f467 : (1 : Int32).toInt = 1 := rfl
        have f468 := rng32 (p5 &&& (1 : Int32))
        have f469 : (p5 &&& (1 : Int32)).toInt = p5.toInt % 2 := c_mask p5 (1 : Int32) 1 (by decide) (by decide)
        have f470 : (0 : Int32).toInt = 0 := rfl
        have f471 : (2 : Int32).toInt = 2 := rfl
        have f472 := rng32 (p5 &&& (2 : Int32))
        have f473 := c_and p5 (2 : Int32) (by decide)
        have f474 := rng32 p1
        have g475 := hc1
        rw [← Int32.toInt_inj] at g475
        have g476 := hc348
        rw [← Int32.toInt_inj] at g476
        have g477 := ha359_0
        rw [← Int32.toInt_inj] at g477
        have g478 := ha359_1
        rw [Int32.lt_iff_toInt_lt] at g478
        omega
    · refine own_st (fun t k => XS.ifNo X0.here hx rfl (hb hby at_20) rfl ((if0 _ _).trans (feq hc348).1) k) ?_
      show own_E p e below _ s₁ (mkF m 23 #[iv p1, iv p2, iv p3, iv p4, iv p5, iv p1, iv p4, .unset, .unset, .unset] [])
      refine own_st (fun t k => XS.iloadN X0.here hx rfl (hb hby at_23) rfl k) ?_
      show own_E p e below _ s₁ (mkF m 24 #[iv p1, iv p2, iv p3, iv p4, iv p5, iv p1, iv p4, .unset, .unset, .unset] [.int p2])
      refine own_st (fun t k => XS.istore X0.here hx rfl (hb hby at_24) rfl (l' := #[iv p1, iv p2, iv p3, iv p4, iv p5, iv p1, iv p2, .unset, .unset, .unset]) rfl k) ?_
      show own_E p e below _ s₁ (mkF m 26 #[iv p1, iv p2, iv p3, iv p4, iv p5, iv p1, iv p2, .unset, .unset, .unset] [])
      obtain ⟨T479, h479, X479, e479, E479, A479, D479, -, st479⟩ := newO X0 hx hZ hown (own_w hw 0 rfl) (own_w hw 1 rfl) (own_w hw 2 rfl) e0 (g := (mkF m 26 #[iv p1, iv p2, iv p3, iv p4, iv p5, iv p1, iv p2, .unset, .unset, .unset] [])) rfl (hb hby at_26) (by decide) (by decide)
      obtain ⟨b479, g479⟩ : ∃ z, z = h0.size := ⟨_, rfl⟩
      rw [← g479] at A479 D479 st479
      have g_b479 : n0 ≤ b479 := Nat.le_trans Z0 (Nat.le_of_eq g479.symm)
      have Z480 := Nat.le_trans Z0 E479.1
      have F_line_b479 : Fld Z h479 b479 "com/example/lockstep/lockstep/plan/Position" "line" "I" (.int (0 : Int32)) := D479 (Or.inr (own_w hw 15 rfl)) (ty := .int) (by decide)
      have F_column_b479 : Fld Z h479 b479 "com/example/lockstep/lockstep/plan/Position" "column" "I" (.int (0 : Int32)) := D479 (Or.inr (own_w hw 17 rfl)) (ty := .int) (by decide)
      refine own_st st479 ?_
      show own_E p e below _ T479 (mkF m 29 #[iv p1, iv p2, iv p3, iv p4, iv p5, iv p1, iv p2, .unset, .unset, .unset] [.ref b479])
      refine own_st (fun t k => XS.dup X479.here hx rfl (hb hby at_29) rfl rfl k) ?_
      show own_E p e below _ T479 (mkF m 30 #[iv p1, iv p2, iv p3, iv p4, iv p5, iv p1, iv p2, .unset, .unset, .unset] [.ref b479, .ref b479])
      refine own_st (fun t k => XS.iloadN X479.here hx rfl (hb hby at_30) rfl k) ?_
      show own_E p e below _ T479 (mkF m 31 #[iv p1, iv p2, iv p3, iv p4, iv p5, iv p1, iv p2, .unset, .unset, .unset] [.int p1, .ref b479, .ref b479])
      refine own_st (fun t k => XS.iloadN X479.here hx rfl (hb hby at_31) rfl k) ?_
      show own_E p e below _ T479 (mkF m 32 #[iv p1, iv p2, iv p3, iv p4, iv p5, iv p1, iv p2, .unset, .unset, .unset] [.int p2, .int p1, .ref b479, .ref b479])
      obtain ⟨_, _, ⟨T481, L481, k481, n481⟩, -, X481, ⟨Lc481, hQ481, l481, y481, z481⟩, st481⟩ := X479.specialBack hx (y := own_y1) rfl hown (mvT hZ (own_w hw 3 rfl)) (mvT hZ (own_w hw 4 rfl)) (mvT hZ (own_w hw 5 rfl)) (by decide) (backOf (W := 1) (own_init l Z a0 hw [] b479 p1 p2 h479 n0 Z480 A479 F_line_b479 F_column_b479 g_b479) hZ (own_w hw 5 rfl) (own_w hw 2 rfl) (by decide) (by decide)) (g := (mkF m 32 #[iv p1, iv p2, iv p3, iv p4, iv p5, iv p1, iv p2, .unset, .unset, .unset] [.int p2, .int p1, .ref b479, .ref b479])) rfl (by rw [hml]; rfl) (Steps.refl _) (a := b479) (argsL := [(.int p1), (.int p2)]) (rest := [(.ref b479)]) (lenOf own_pd_3 rfl) rfl (by show 2 * 0 + _ ≤ _; exact Nat.le_of_eq rfl) (hb hby at_32) (fun _ _ => ⟨rfl, e479, (by decide : 1 + 0 ≤ _), (by decide : 2 + 0 ≤ _)⟩)
      dsimp only [Pt.U, Pt.locs, Pt.cells, Pt.slots] at X481 l481 y481 z481 st481 hQ481
      subst l481 y481 z481
      obtain ⟨rfl, Nq481, Kq481, P481_0, P481_1, P481_2⟩ := hQ481
      have N481 := Fr.app (Fr.nil n0) Nq481
      have e481 : T481.heap = T481.heap := rfl
      have Z482 := Nat.le_trans Z480 Kq481.1
      refine own_tr st481 ?_
      show own_E p e below _ T481 (mkF m 35 #[iv p1, iv p2, iv p3, iv p4, iv p5, iv p1, iv p2, .unset, .unset, .unset] [.ref b479])
      refine own_st (fun t k => XS.astore X481.here hx rfl (hb hby at_35) rfl rfl (l' := #[iv p1, iv p2, iv p3, iv p4, iv p5, iv p1, iv p2, rv b479, .unset, .unset]) rfl k) ?_
      show own_E p e below _ T481 (mkF m 37 #[iv p1, iv p2, iv p3, iv p4, iv p5, iv p1, iv p2, rv b479, .unset, .unset] [])
      obtain ⟨T483, h483, X483, e483, E483, A483, D483, -, st483⟩ := newO X481 hx hZ hown (own_w hw 0 rfl) (own_w hw 1 rfl) (own_w hw 2 rfl) e481 (g := (mkF m 37 #[iv p1, iv p2, iv p3, iv p4, iv p5, iv p1, iv p2, rv b479, .unset, .unset] [])) rfl (hb hby at_37) (by decide) (by decide)
      obtain ⟨b483, g483⟩ : ∃ z, z = T481.heap.size := ⟨_, rfl⟩
      rw [← g483] at A483 D483 st483
      have ne_b479_b483 : b479 ≠ b483 := Nat.ne_of_lt (Nat.lt_of_lt_of_le P481_0.lt (Nat.le_of_eq g483.symm))
      have g_b483 : n0 ≤ b483 := Nat.le_trans Z482 (Nat.le_of_eq g483.symm)
      have Z484 := Nat.le_trans Z482 E483.1
      have F_line_b483 : Fld Z h483 b483 "com/example/lockstep/lockstep/plan/Position" "line" "I" (.int (0 : Int32)) := D483 (Or.inr (own_w hw 15 rfl)) (ty := .int) (by decide)
      have F_column_b483 : Fld Z h483 b483 "com/example/lockstep/lockstep/plan/Position" "column" "I" (.int (0 : Int32)) := D483 (Or.inr (own_w hw 17 rfl)) (ty := .int) (by decide)
      refine own_st st483 ?_
      show own_E p e below _ T483 (mkF m 40 #[iv p1, iv p2, iv p3, iv p4, iv p5, iv p1, iv p2, rv b479, .unset, .unset] [.ref b483])
      refine own_st (fun t k => XS.dup X483.here hx rfl (hb hby at_40) rfl rfl k) ?_
      show own_E p e below _ T483 (mkF m 41 #[iv p1, iv p2, iv p3, iv p4, iv p5, iv p1, iv p2, rv b479, .unset, .unset] [.ref b483, .ref b483])
      refine own_st (fun t k => XS.iload X483.here hx rfl (hb hby at_41) rfl k) ?_
      show own_E p e below _ T483 (mkF m 43 #[iv p1, iv p2, iv p3, iv p4, iv p5, iv p1, iv p2, rv b479, .unset, .unset] [.int p1, .ref b483, .ref b483])
      refine own_st (fun t k => XS.iload X483.here hx rfl (hb hby at_43) rfl k) ?_
      show own_E p e below _ T483 (mkF m 45 #[iv p1, iv p2, iv p3, iv p4, iv p5, iv p1, iv p2, rv b479, .unset, .unset] [.int p2, .int p1, .ref b483, .ref b483])
      obtain ⟨_, _, ⟨T485, L485, k485, n485⟩, -, X485, ⟨Lc485, hQ485, l485, y485, z485⟩, st485⟩ := X483.specialBack hx (y := own_y1) rfl hown (mvT hZ (own_w hw 3 rfl)) (mvT hZ (own_w hw 4 rfl)) (mvT hZ (own_w hw 5 rfl)) (by decide) (backOf (W := 1) (own_init l Z a0 hw [] b483 p1 p2 h483 n0 Z484 A483 F_line_b483 F_column_b483 g_b483) hZ (own_w hw 5 rfl) (own_w hw 2 rfl) (by decide) (by decide)) (g := (mkF m 45 #[iv p1, iv p2, iv p3, iv p4, iv p5, iv p1, iv p2, rv b479, .unset, .unset] [.int p2, .int p1, .ref b483, .ref b483])) rfl (by rw [hml]; rfl) (Steps.refl _) (a := b483) (argsL := [(.int p1), (.int p2)]) (rest := [(.ref b483)]) (lenOf own_pd_3 rfl) rfl (by show 2 * 0 + _ ≤ _; exact Nat.le_of_eq rfl) (hb hby at_45) (fun _ _ => ⟨rfl, e483, (by decide : 2 + 0 ≤ _), (by decide : 4 + 0 ≤ _)⟩)
      dsimp only [Pt.U, Pt.locs, Pt.cells, Pt.slots] at X485 l485 y485 z485 st485 hQ485
      subst l485 y485 z485
      obtain ⟨rfl, Nq485, Kq485, P485_0, P485_1, P485_2⟩ := hQ485
      have N485 := Fr.app N481 Nq485
      have e485 : T485.heap = T485.heap := rfl
      have Z486 := Nat.le_trans Z484 Kq485.1
      refine own_tr st485 ?_
      show own_E p e below _ T485 (mkF m 48 #[iv p1, iv p2, iv p3, iv p4, iv p5, iv p1, iv p2, rv b479, .unset, .unset] [.ref b483])
      refine own_st (fun t k => XS.astore X485.here hx rfl (hb hby at_48) rfl rfl (l' := #[iv p1, iv p2, iv p3, iv p4, iv p5, iv p1, iv p2, rv b479, rv b483, .unset]) rfl k) ?_
      show own_E p e below _ T485 (mkF m 50 #[iv p1, iv p2, iv p3, iv p4, iv p5, iv p1, iv p2, rv b479, rv b483, .unset] [])
      refine own_st (fun t k => XS.aload X485.here hx rfl (hb hby at_50) rfl rfl k) ?_
      show own_E p e below _ T485 (mkF m 52 #[iv p1, iv p2, iv p3, iv p4, iv p5, iv p1, iv p2, rv b479, rv b483, .unset] [.ref b479])
      refine own_st (fun t k => XS.aload X485.here hx rfl (hb hby at_52) rfl rfl k) ?_
      show own_E p e below _ T485 (mkF m 54 #[iv p1, iv p2, iv p3, iv p4, iv p5, iv p1, iv p2, rv b479, rv b483, .unset] [.ref b483, .ref b479])
      have B487 := ((P481_1.ext E483).keep Kq485 (ninS ne_b479_b483 nin0))
      have B488 := ((P481_2.ext E483).keep Kq485 (ninS ne_b479_b483 nin0))
      have B490 := ((P481_0.ext E483).keep Kq485)
      obtain ⟨cq489, kq489, q489a, q489b, q489c⟩ := isOf hZ e485 B490
      obtain ⟨_, _, ⟨T489, L489, k489, n489⟩, -, X489, ⟨Lc489, hQ489, l489, y489, z489⟩, st489⟩ := X485.virtualBack hx (y := own_y3) (z := own_y3) hown (mvT hZ (own_w hw 18 rfl)) (mvT hZ (own_w hw 19 rfl)) (notFace_of_selects (args := #[]) (mvT hZ (own_w hw 21 rfl))) (mvT hZ (own_w hw 21 rfl)) (mvT hZ (own_w hw 20 rfl)) (by decide) (backOf (W := 0) (own_cto l Z a0 hw [] b479 b483 p1 p2 p1 p2 T485.heap n0 Z486 B487 B488 P485_1 P485_2) hZ (own_w hw 22 rfl) (own_w hw 2 rfl) (by decide) (by decide)) q489a q489c (g := (mkF m 54 #[iv p1, iv p2, iv p3, iv p4, iv p5, iv p1, iv p2, rv b479, rv b483, .unset] [.ref b483, .ref b479])) rfl (by rw [hml]; rfl) (Steps.refl _) (argsL := [(.ref b483)]) (rest := []) (lenOf own_pd_6 rfl) rfl (by show 2 * 0 + _ ≤ _; exact Nat.le_of_eq rfl) (hb hby at_54) (fun _ _ => ⟨rfl, e485, (by decide : 2 + 0 ≤ _), (by decide : 4 + 0 ≤ _)⟩)
      dsimp only [Pt.U, Pt.locs, Pt.cells, Pt.slots] at X489 l489 y489 z489 st489 hQ489
      subst l489 y489 z489
      obtain ⟨hR489, e489, rfl⟩ := hQ489
      have N489 := Fr.app N485 (Fr.nil n0)
      rcases hR489 with ⟨rfl, ha489_0, ha489_1⟩ | ⟨rfl, ha489_0, ha489_1, ha489_2⟩ | ⟨rfl, ha489_0, ha489_1, ha489_2⟩ | ⟨rfl, ha489_0, ha489_1⟩ | ⟨rfl, ha489_0, ha489_1⟩
      · exfalso
        have f491 := rng32 p5
        have f492 : (1 : Int32).toInt = 1 := rfl
        have f493 := rng32 (p5 &&& (1 : Int32))
        have f494 : (p5 &&& (1 : Int32)).toInt = p5.toInt % 2 := c_mask p5 (1 : Int32) 1 (by decide) (by decide)
        have f495 : (0 : Int32).toInt = 0 := rfl
        have f496 : (2 : Int32).toInt = 2 := rfl
        have f497 := rng32 (p5 &&& (2 : Int32))
        have f498 := c_and p5 (2 : Int32) (by decide)
        have f499 := rng32 p1
        have f500 := rng32 p2
        have g501 := hc1
        rw [← Int32.toInt_inj] at g501
        have g502 := hc348
        rw [← Int32.toInt_inj] at g502
        have g503 := ha489_0
        rw [← Int32.toInt_inj] at g503
        have g504 := ha489_1
        rw [Int32.lt_iff_toInt_lt] at g504
        omega
      · refine own_tr st489 ?_
        show own_E p e below _ T489 (mkF m 57 #[iv p1, iv p2, iv p3, iv p4, iv p5, iv p1, iv p2, rv b479, rv b483, .unset] [.int 0])
        refine own_st (fun t k => XS.istore X489.here hx rfl (hb hby at_57) rfl (l' := #[iv p1, iv p2, iv p3, iv p4, iv p5, iv p1, iv p2, rv b479, rv b483, iv 0]) rfl k) ?_
        show own_E p e below _ T489 (mkF m 59 #[iv p1, iv p2, iv p3, iv p4, iv p5, iv p1, iv p2, rv b479, rv b483, iv 0] [])
        refine own_st (fun t k => XS.iload X489.here hx rfl (hb hby at_59) rfl k) ?_
        show own_E p e below _ T489 (mkF m 61 #[iv p1, iv p2, iv p3, iv p4, iv p5, iv p1, iv p2, rv b479, rv b483, iv 0] [.int 0])
        obtain ⟨_, _, ⟨T505, L505, k505, n505⟩, -, X505, ⟨Lc505, hQ505, l505, y505, z505⟩, st505⟩ := Jvm.LawKit.callS X489 hx (y := own_y4) hown (mvT hZ (own_w hw 27 rfl)) (mvT hZ (own_w hw 28 rfl)) (mvT hZ (own_w hw 29 rfl)) (mvT hZ (own_w hw 30 rfl)) (by decide) (backOf (W := 0) (own_sign l Z a0 hw [] (0 : Int32) T485.heap n0 Z486 ) hZ (own_w hw 30 rfl) (own_w hw 29 rfl) (by decide) (by decide)) (g := (mkF m 61 #[iv p1, iv p2, iv p3, iv p4, iv p5, iv p1, iv p2, rv b479, rv b483, iv 0] [.int 0])) rfl (by rw [hml]; rfl) (argsL := [(.int (0 : Int32))]) (rest := []) (lenOf own_pd_1 rfl) rfl (by show 2 * 0 + _ ≤ _; exact Nat.le_of_eq rfl) (hb hby at_61) (fun _ _ => ⟨rfl, e489, (by decide : 2 + 0 ≤ _), (by decide : 4 + 0 ≤ _)⟩)
        dsimp only [Pt.U, Pt.locs, Pt.cells, Pt.slots] at X505 l505 y505 z505 st505 hQ505
        subst l505 y505 z505
        obtain ⟨hR505, e505, rfl⟩ := hQ505
        have N505 := Fr.app N489 (Fr.nil n0)
        rcases hR505 with ⟨rfl, ha505_0⟩ | ⟨rfl, ha505_0, ha505_1⟩ | ⟨rfl, ha505_0, ha505_1⟩
        · exact absurd ha505_0 (by decide)
        · exact absurd ha505_1 (by decide)
        · refine own_st st505 ?_
          show own_E p e below _ T505 (mkF m 64 #[iv p1, iv p2, iv p3, iv p4, iv p5, iv p1, iv p2, rv b479, rv b483, iv 0] [.int 0])
          refine own_st (fun t k => XS.iloadN X505.here hx rfl (hb hby at_64) rfl k) ?_
          show own_E p e below _ T505 (mkF m 65 #[iv p1, iv p2, iv p3, iv p4, iv p5, iv p1, iv p2, rv b479, rv b483, iv 0] [.int p1, .int 0])
          refine own_st (fun t k => XS.iloadN X505.here hx rfl (hb hby at_65) rfl k) ?_
          show own_E p e below _ T505 (mkF m 66 #[iv p1, iv p2, iv p3, iv p4, iv p5, iv p1, iv p2, rv b479, rv b483, iv 0] [.int p2, .int p1, .int 0])
          refine own_st (fun t k => XS.iload X505.here hx rfl (hb hby at_66) rfl k) ?_
          show own_E p e below _ T505 (mkF m 68 #[iv p1, iv p2, iv p3, iv p4, iv p5, iv p1, iv p2, rv b479, rv b483, iv 0] [.int p1, .int p2, .int p1, .int 0])
          refine own_st (fun t k => XS.iload X505.here hx rfl (hb hby at_68) rfl k) ?_
          show own_E p e below _ T505 (mkF m 70 #[iv p1, iv p2, iv p3, iv p4, iv p5, iv p1, iv p2, rv b479, rv b483, iv 0] [.int p2, .int p1, .int p2, .int p1, .int 0])
          obtain ⟨_, _, ⟨T506, L506, k506, n506⟩, -, X506, ⟨Lc506, hQ506, l506, y506, z506⟩, st506⟩ := Jvm.LawKit.callS X505 hx (y := own_y5) hown (mvT hZ (own_w hw 31 rfl)) (mvT hZ (own_w hw 32 rfl)) (mvT hZ (own_w hw 29 rfl)) (mvT hZ (own_w hw 33 rfl)) (by decide) (backOf (W := 1) (own_exp l Z a0 hw [] p1 p2 p1 p2 T485.heap n0 Z486 ) hZ (own_w hw 33 rfl) (own_w hw 29 rfl) (by decide) (by decide)) (g := (mkF m 70 #[iv p1, iv p2, iv p3, iv p4, iv p5, iv p1, iv p2, rv b479, rv b483, iv 0] [.int p2, .int p1, .int p2, .int p1, .int 0])) rfl (by rw [hml]; rfl) (argsL := [(.int p1), (.int p2), (.int p1), (.int p2)]) (rest := [(.int (0 : Int32))]) (lenOf own_pd_4 rfl) rfl (by show 2 * 0 + _ ≤ _; exact Nat.le_of_eq rfl) (hb hby at_70) (fun _ _ => ⟨rfl, e505, (by decide : 2 + 0 ≤ _), (by decide : 4 + 0 ≤ _)⟩)
          dsimp only [Pt.U, Pt.locs, Pt.cells, Pt.slots] at X506 l506 y506 z506 st506 hQ506
          subst l506 y506 z506
          obtain ⟨hR506, e506, rfl⟩ := hQ506
          have N506 := Fr.app N505 (Fr.nil n0)
          rcases hR506 with ⟨rfl, ha506_0⟩ | ⟨rfl, ha506_0, ha506_1⟩ | ⟨rfl, ha506_0, ha506_1, ha506_2⟩ | ⟨rfl, ha506_0, ha506_1, ha506_2, ha506_3⟩ | ⟨rfl, ha506_0, ha506_1, ha506_2, ha506_3⟩
          · exfalso
            have f507 := rng32 p5
            have f508 : (1 : Int32).toInt = 1 := rfl
            have f509 := rng32 (p5 &&& (1 : Int32))
            have f510 : (p5 &&& (1 : Int32)).toInt = p5.toInt % 2 := c_mask p5 (1 : Int32) 1 (by decide) (by decide)
            have f511 : (0 : Int32).toInt = 0 := rfl
            have f512 : (2 : Int32).toInt = 2 := rfl
            have f513 := rng32 (p5 &&& (2 : Int32))
            have f514 := c_and p5 (2 : Int32) (by decide)
            have f515 := rng32 p1
            have f516 := rng32 p2
            have g517 := hc1
            rw [← Int32.toInt_inj] at g517
            have g518 := hc348
            rw [← Int32.toInt_inj] at g518
            have g519 := ha489_0
            rw [← Int32.toInt_inj] at g519
            have g520 := ha489_1
            rw [Int32.lt_iff_toInt_lt] at g520
            have g521 := ha489_2
            rw [← Int32.toInt_inj] at g521
            have g522 := ha506_0
            rw [Int32.lt_iff_toInt_lt] at g522
            omega
          · exact absurd ha506_1 ha506_0
          · exact absurd ha506_2 ha489_1
          · exact absurd ha506_3 ha489_1
          · refine own_st st506 ?_
            show own_E p e below _ T506 (mkF m 73 #[iv p1, iv p2, iv p3, iv p4, iv p5, iv p1, iv p2, rv b479, rv b483, iv 0] [.int 0, .int 0])
            refine own_st (fun t k => XS.icmpNo X506.here hx rfl (hb hby at_73) rfl (by decide) k) ?_
            show own_E p e below _ T506 (mkF m 76 #[iv p1, iv p2, iv p3, iv p4, iv p5, iv p1, iv p2, rv b479, rv b483, iv 0] [])
            refine own_st (fun t k => XS.iconst X506.here hx rfl (hb hby at_76) k) ?_
            show own_E p e below _ T506 (mkF m 77 #[iv p1, iv p2, iv p3, iv p4, iv p5, iv p1, iv p2, rv b479, rv b483, iv 0] [.int 1])
            refine own_st (fun t k => XS.goto X506.here hx rfl (pc0 := 77) (pc' := 81) rfl (hb hby at_77) (by decide) (by decide) k) ?_
            show own_E p e below _ T506 (mkF m 81 #[iv p1, iv p2, iv p3, iv p4, iv p5, iv p1, iv p2, rv b479, rv b483, iv 0] [.int 1])
            refine own_retS X506 hx Bd.notSynchronized Bd.returns rfl (by decide) (hb hby at_81) (by decide) (by decide) ?_
            exact ⟨rfl, N506⟩
      · exfalso
        have f523 := rng32 p5
        have f524 : (1 : Int32).toInt = 1 := rfl
        have f525 := rng32 (p5 &&& (1 : Int32))
        have f526 : (p5 &&& (1 : Int32)).toInt = p5.toInt % 2 := c_mask p5 (1 : Int32) 1 (by decide) (by decide)
        have f527 : (0 : Int32).toInt = 0 := rfl
        have f528 : (2 : Int32).toInt = 2 := rfl
        have f529 := rng32 (p5 &&& (2 : Int32))
        have f530 := c_and p5 (2 : Int32) (by decide)
        have f531 := rng32 p1
        have f532 := rng32 p2
        have g533 := hc1
        rw [← Int32.toInt_inj] at g533
        have g534 := hc348
        rw [← Int32.toInt_inj] at g534
        have g535 := ha489_0
        rw [← Int32.toInt_inj] at g535
        have g536 := ha489_1
        rw [Int32.lt_iff_toInt_lt] at g536
        have g537 := ha489_2
        rw [← Int32.toInt_inj] at g537
        omega
      · exfalso
        have f538 := rng32 p5
        have f539 : (1 : Int32).toInt = 1 := rfl
        have f540 := rng32 (p5 &&& (1 : Int32))
        have f541 : (p5 &&& (1 : Int32)).toInt = p5.toInt % 2 := c_mask p5 (1 : Int32) 1 (by decide) (by decide)
        have f542 : (0 : Int32).toInt = 0 := rfl
        have f543 : (2 : Int32).toInt = 2 := rfl
        have f544 := rng32 (p5 &&& (2 : Int32))
        have f545 := c_and p5 (2 : Int32) (by decide)
        have f546 := rng32 p1
        have g547 := hc1
        rw [← Int32.toInt_inj] at g547
        have g548 := hc348
        rw [← Int32.toInt_inj] at g548
        have g549 := ha489_0
        rw [← Int32.toInt_inj] at g549
        have g550 := ha489_1
        rw [Int32.lt_iff_toInt_lt] at g550
        omega
      · exfalso
        have f551 := rng32 p5
        have f552 : (1 : Int32).toInt = 1 := rfl
        have f553 := rng32 (p5 &&& (1 : Int32))
        have f554 : (p5 &&& (1 : Int32)).toInt = p5.toInt % 2 := c_mask p5 (1 : Int32) 1 (by decide) (by decide)
        have f555 : (0 : Int32).toInt = 0 := rfl
        have f556 : (2 : Int32).toInt = 2 := rfl
        have f557 := rng32 (p5 &&& (2 : Int32))
        have f558 := c_and p5 (2 : Int32) (by decide)
        have f559 := rng32 p1
        have g560 := hc1
        rw [← Int32.toInt_inj] at g560
        have g561 := hc348
        rw [← Int32.toInt_inj] at g561
        have g562 := ha489_0
        rw [← Int32.toInt_inj] at g562
        have g563 := ha489_1
        rw [Int32.lt_iff_toInt_lt] at g563
        omega
set_option maxRecDepth 65536 in
set_option maxHeartbeats 40000000 in
theorem comes_1 {Post : Tables → Env → Array Value → State → Outcome → State → Prop} (hpost : ∀ tb e args s v u, (limb_1_1.after args s (.returned v) u = true ∧ limb_1_2.after args s (.returned v) u = true ∧ True) → FrameEnd s (.returned v) u (Jvm.fieldLocs frame_1_writes args s ++ Jvm.arrayLocs frame_1_arrays args s ++ Jvm.staticLocs frame_1_statics s) 16 128 → Post tb e args s (.returned v) u) :
    ArmFor flags0 classFile x code maxLocals ret World_1 tables_1 room_1 Calls_1 rest_1 Pre_1 Post := by
  intro l hfl _ _ p e ha hc hk s m args below hf hA hF happ hP
  obtain ⟨hcalls, hrest, hpre⟩ := hP
  obtain ⟨-, -, -, hnamed, -, -, -, hat⟩ := (Spec.applies_iff hf).mp happ
  obtain ⟨hg, hn⟩ := and_e (Cond.before_iff.mp (show (Jvm.Cond.and given_1 narrow_1).before args s = true from hpre))
  obtain ⟨hg0, hg1⟩ := and_e hg
  obtain ⟨hv0, hg2⟩ := and_e hg1
  obtain ⟨hv1, hg3⟩ := and_e hg2
  obtain ⟨hv2, hg4⟩ := and_e hg3
  obtain ⟨hv3, hg5⟩ := and_e hg4
  have hv4 := hg5
  obtain ⟨w0, w1, w2, w3, w4, rfl⟩ : ∃ w0 w1 w2 w3 w4 : Value, args = #[w0, w1, w2, w3, w4] := by
    have hs : args.size = 5 := by simpa [Cond.value, given_1] using hg0
    obtain ⟨L⟩ := args
    match L, hs with
    | [w0, w1, w2, w3, w4], _ => exact ⟨w0, w1, w2, w3, w4, rfl⟩
  have hw := fun d (hd : d ∈ tables_1) => atoms_spec (ws := Jvm.Cond.code x code maxLocals ret :: tables_1) hat d (List.mem_cons_of_mem _ hd)
  have hfit : Fit s := fun {y c} hc i hi => by
    obtain ⟨ha, rfl⟩ := Array.getElem?_eq_some_iff.mp hc
    have q := List.all_eq_true.mp ((Array.all_eq_true_iff_forall_mem.mp hF) _ (Array.getElem_mem ha)) i (List.mem_range.mpr hi)
    simpa [Array.getElem?_eq_getElem hi] using q
  obtain ⟨i0, ev0⟩ := is_v hv0
  obtain rfl : w0 = (.int i0) := Option.some.inj ev0
  obtain ⟨i1, ev1⟩ := is_v hv1
  obtain rfl : w1 = (.int i1) := Option.some.inj ev1
  obtain ⟨i2, ev2⟩ := is_v hv2
  obtain rfl : w2 = (.int i2) := Option.some.inj ev2
  obtain ⟨i3, ev3⟩ := is_v hv3
  obtain rfl : w3 = (.int i3) := Option.some.inj ev3
  obtain ⟨i4, ev4⟩ := is_v hv4
  obtain rfl : w4 = (.int i4) := Option.some.inj ev4
  obtain ⟨n, o, h1, h2, h3, _, L, rfl, ⟨rfl, N⟩, hq⟩ := own_law l s _ hw tables_1 i0 i1 i2 i3 i4 s.heap s.heap.size (Nat.le_refl _)  p e ha hc hk s m _ below hf ((Spec.applies_iff_loose hf).mp happ).1 ⟨rfl, State.Warmed39.refl s, rfl⟩ trivial
  refine ⟨n, _, h1, h2, h3, hpost _ _ _ _ _ _ ⟨Cond.after_iff.mpr rfl, Cond.after_iff.mpr (eq_i res_at (Term.int_eval (1)) rfl), trivial⟩ ⟨hq.1, hq.2.1, (hq.2.2.sift fun y hy => Or.inr (N y hy)).mono (by decide) (by decide)⟩⟩
theorem main_1_1 : Claimed_1_1 := comes_1 fun _ _ _ _ _ _ h hF => ⟨h.1, hF⟩
theorem main_1_2 : Claimed_1_2 := comes_1 fun _ _ _ _ _ _ h hF => ⟨h.2.1, hF⟩
end Jvm.Pilot.@@N@@
namespace Jvm.Pilot.@@N@@
open Jvm Jvm.ClassFile Sem Op Lib Jvm.Free Jvm.Stand Jvm.Pilot.@@N@@.Jvm.D
/-! MADE BY PROGRAM (witnessworld.py) out of the Statement's table words and the real class files: 15 classes; the members and pool entries that the words name. The judged class is class 1, her method 3. -/
namespace start1
open Jvm.ClassFile
def u (s : String) : CpInfo := .utf8 (stringToUtf16 s)
/-- a pool by its gaps: so many unusable entries, then the entry; so many at the end -/
def gap : Nat → List CpInfo → List CpInfo
  | 0, r => r
  | n + 1, r => .unusable :: gap n r
def poolList (es : List (Nat × CpInfo)) (last : Nat) : List CpInfo := es.foldr (fun e r => gap e.1 (e.2 :: r)) (gap last [])
def pool (es : List (Nat × CpInfo)) (last : Nat) : Array CpInfo := ⟨poolList es last⟩
def fileOf (pool : Array CpInfo) (this : Nat) (attrs : Array Attribute := #[]) (ms : Array MethodInfo := #[]) (fl : Nat := 33) (sup : Nat := 0) (ifs : Array Nat := #[]) (fds : Array FieldInfo := #[]) : ClassFile where
  minorVersion := 0
  majorVersion := 65
  constantPool := pool
  accessFlags := fl
  thisClass := this
  superClass := sup
  interfaces := ifs
  fields := fds
  methods := ms
  attributes := attrs
def plain (name : String) (sup : Option ClassId) : Class where
  name := name
  kind := .ordinary
  loader := none
  accessFlags := 33
  super := sup
  interfaces := #[]
  cf := none
  fields := #[]
  methods := #[]
  instanceTypes := #[]
  staticTypes := #[]
  resolved := #[]
  callSites := []
  init := .initialized
  statics := none
  mirror := none

def pool0 : Array CpInfo := pool [(5, u "<init>"), (0, u "()V"), (1, .class_ 10), (1, u "java/lang/Object")] 113

def k0c0 : Code := { maxStack := 0, maxLocals := 1, code := object_method_1_code, exceptionTable := #[], attributes := #[] }
def k0m0 : Method := { name := "<init>", desc := "()V", sig := { parameters := [], returnType := none }, accessFlags := 1, code := some k0c0 }
/-- java/lang/Object -/
def k0 : Class := { plain "java/lang/Object" none with
  accessFlags := 33
  interfaces := #[]
  cf := some (fileOf pool0 8 #[] #[{ accessFlags := 1, nameIndex := 5, descriptorIndex := 6, attributes := #[] }] 33 0 #[] #[])
  fields := #[]
  methods := #[k0m0]
  instanceTypes := #[]
  staticTypes := #[]
  resolved := Array.replicate 124 none
  statics := none }

def pool1 : Array CpInfo := pool [(2, .class_ 4), (1, u "java/lang/Object"), (0, u "<init>"), (0, u "()V"), (0, .class_ 8), (0, u "com/example/lockstep/lockstep/plan/Position"), (0, .methodref 7 10), (0, .nameAndType 5 11), (0, u "(II)V"), (0, .methodref 7 13), (0, .nameAndType 14 15), (0, u "compareTo"), (0, u "(Lcom/example/lockstep/lockstep/plan/Position;)I"), (0, .methodref 17 18), (0, .class_ 19), (0, .nameAndType 20 21), (0, u "com/example/lockstep/lockstep/plan/PositionCompareToPinLaw"), (0, u "sign"), (0, u "(I)I"), (0, .methodref 17 23), (0, .nameAndType 24 25), (0, u "expected"), (0, u "(IIII)I"), (3, u "law"), (0, u "(IIIII)Z")] 2

def k1m0 : Method := { name := "<init>", desc := "()V", sig := { parameters := [], returnType := none }, accessFlags := 1, code := none }
def k1c1 : Code := { maxStack := 1, maxLocals := 1, code := method_2_code, exceptionTable := #[], attributes := #[] }
def k1m1 : Method := { name := "sign", desc := "(I)I", sig := { parameters := [.int], returnType := some .int }, accessFlags := 10, code := some k1c1 }
def k1c2 : Code := { maxStack := 2, maxLocals := 4, code := method_3_code, exceptionTable := #[], attributes := #[] }
def k1m2 : Method := { name := "expected", desc := "(IIII)I", sig := { parameters := [.int, .int, .int, .int], returnType := some .int }, accessFlags := 10, code := some k1c2 }
def k1c3 : Code := { maxStack := 5, maxLocals := 10, code := code, exceptionTable := #[], attributes := #[] }
def k1m3 : Method := { name := "law", desc := "(IIIII)Z", sig := { parameters := [.int, .int, .int, .int, .int], returnType := some .boolean }, accessFlags := 9, code := some k1c3 }
/-- com/example/lockstep/lockstep/plan/PositionCompareToPinLaw -/
def k1 : Class := { plain "com/example/lockstep/lockstep/plan/PositionCompareToPinLaw" (some 0) with
  accessFlags := 49
  interfaces := #[]
  cf := some (fileOf pool1 17 #[] #[{ accessFlags := 1, nameIndex := 5, descriptorIndex := 6, attributes := #[] }, { accessFlags := 10, nameIndex := 20, descriptorIndex := 21, attributes := #[] }, { accessFlags := 10, nameIndex := 24, descriptorIndex := 25, attributes := #[] }, { accessFlags := 9, nameIndex := 29, descriptorIndex := 30, attributes := #[] }] 49 2 #[] #[])
  fields := #[]
  methods := #[k1m0, k1m1, k1m2, k1m3]
  instanceTypes := #[]
  staticTypes := #[]
  resolved := Array.replicate 33 none
  statics := none }

def pool2 : Array CpInfo := pool [(1, .methodref 2 3), (0, .class_ 4), (0, .nameAndType 5 6), (0, u "java/lang/Object"), (0, u "<init>"), (0, u "()V"), (0, .class_ 8), (0, u "java/lang/Record")] 13

def k2c0 : Code := { maxStack := 1, maxLocals := 1, code := jdk_30_method_1_code, exceptionTable := #[], attributes := #[] }
def k2m0 : Method := { name := "<init>", desc := "()V", sig := { parameters := [], returnType := none }, accessFlags := 4, code := some k2c0 }
/-- java/lang/Record -/
def k2 : Class := { plain "java/lang/Record" (some 0) with
  accessFlags := 1057
  interfaces := #[]
  cf := some (fileOf pool2 7 #[] #[{ accessFlags := 4, nameIndex := 5, descriptorIndex := 6, attributes := #[] }] 1057 2 #[] #[])
  fields := #[]
  methods := #[k2m0]
  instanceTypes := #[]
  staticTypes := #[]
  resolved := Array.replicate 22 none
  statics := none }

def pool3 : Array CpInfo := pool [(1, .class_ 2), (0, u "java/lang/Comparable"), (0, .class_ 4), (0, u "java/lang/Object")] 7

/-- java/lang/Comparable -/
def k3 : Class := { plain "java/lang/Comparable" (some 0) with
  accessFlags := 1537
  interfaces := #[]
  cf := some (fileOf pool3 1 #[] #[] 1537 3 #[] #[])
  fields := #[]
  methods := #[]
  instanceTypes := #[]
  staticTypes := #[]
  resolved := Array.replicate 12 none
  statics := none }

def pool4 : Array CpInfo := pool [(1, .methodref 2 3), (0, .class_ 4), (0, .nameAndType 5 6), (0, u "java/lang/Record"), (0, u "<init>"), (0, u "()V"), (0, .fieldref 8 9), (0, .class_ 10), (0, .nameAndType 11 12), (0, u "com/example/lockstep/lockstep/plan/Position"), (0, u "line"), (0, u "I"), (0, .fieldref 8 14), (0, .nameAndType 15 12), (0, u "column"), (0, .methodref 17 18), (0, .class_ 19), (0, .nameAndType 20 21), (0, u "java/lang/Integer"), (0, u "compare"), (0, u "(II)I"), (6, u "compareTo"), (0, u "(Lcom/example/lockstep/lockstep/plan/Position;)I"), (7, .class_ 38), (0, u "java/lang/Comparable"), (0, u "(II)V")] 40

def k4c0 : Code := { maxStack := 2, maxLocals := 3, code := prog_32_method_1_code, exceptionTable := #[], attributes := #[] }
def k4m0 : Method := { name := "<init>", desc := "(II)V", sig := { parameters := [.int, .int], returnType := none }, accessFlags := 1, code := some k4c0 }
def k4c1 : Code := { maxStack := 2, maxLocals := 2, code := prog_32_method_2_code, exceptionTable := #[], attributes := #[] }
def k4m1 : Method := { name := "compareTo", desc := "(Lcom/example/lockstep/lockstep/plan/Position;)I", sig := { parameters := [(.object "com/example/lockstep/lockstep/plan/Position")], returnType := some .int }, accessFlags := 1, code := some k4c1 }
/-- com/example/lockstep/lockstep/plan/Position -/
def k4 : Class := { plain "com/example/lockstep/lockstep/plan/Position" (some 2) with
  accessFlags := 49
  interfaces := #[3]
  cf := some (fileOf pool4 8 #[] #[{ accessFlags := 1, nameIndex := 5, descriptorIndex := 39, attributes := #[] }, { accessFlags := 1, nameIndex := 28, descriptorIndex := 29, attributes := #[] }] 49 2 #[37] #[{ accessFlags := 18, nameIndex := 11, descriptorIndex := 12, attributes := #[] }, { accessFlags := 18, nameIndex := 15, descriptorIndex := 12, attributes := #[] }])
  fields := #[{ name := "line", type := .int, accessFlags := 18, slot := 0, constantValue := 0 }, { name := "column", type := .int, accessFlags := 18, slot := 1, constantValue := 0 }]
  methods := #[k4m0, k4m1]
  instanceTypes := #[.int, .int]
  staticTypes := #[]
  resolved := Array.replicate 80 none
  statics := none }

def pool5 : Array CpInfo := pool [(1, .class_ 2), (0, u "java/io/Serializable"), (0, .class_ 4), (0, u "java/lang/Object")] 2

/-- java/io/Serializable -/
def k5 : Class := { plain "java/io/Serializable" (some 0) with
  accessFlags := 1537
  interfaces := #[]
  cf := some (fileOf pool5 1 #[] #[] 1537 3 #[] #[])
  fields := #[]
  methods := #[]
  instanceTypes := #[]
  staticTypes := #[]
  resolved := Array.replicate 7 none
  statics := none }

def pool6 : Array CpInfo := pool [(2, .class_ 4), (1, u "java/lang/Object"), (0, u "<init>"), (0, u "()V"), (1, .class_ 10), (1, u "java/lang/Number"), (2, .class_ 14), (0, u "java/io/Serializable"), (0, u "serialVersionUID"), (0, u "J")] 20

def k6m0 : Method := { name := "<init>", desc := "()V", sig := { parameters := [], returnType := none }, accessFlags := 1, code := none }
/-- java/lang/Number -/
def k6 : Class := { plain "java/lang/Number" (some 0) with
  accessFlags := 1057
  interfaces := #[5]
  cf := some (fileOf pool6 8 #[] #[{ accessFlags := 1, nameIndex := 5, descriptorIndex := 6, attributes := #[] }] 1057 2 #[13] #[{ accessFlags := 26, nameIndex := 15, descriptorIndex := 16, attributes := #[] }])
  fields := #[{ name := "serialVersionUID", type := .long, accessFlags := 26, slot := 0, constantValue := 0 }]
  methods := #[k6m0]
  instanceTypes := #[]
  staticTypes := #[.long]
  resolved := Array.replicate 37 none
  statics := none }

def pool7 : Array CpInfo := pool [(1, .class_ 2), (0, u "java/lang/constant/Constable"), (0, .class_ 4), (0, u "java/lang/Object")] 6

/-- java/lang/constant/Constable -/
def k7 : Class := { plain "java/lang/constant/Constable" (some 0) with
  accessFlags := 1537
  interfaces := #[]
  cf := some (fileOf pool7 1 #[] #[] 1537 3 #[] #[])
  fields := #[]
  methods := #[]
  instanceTypes := #[]
  staticTypes := #[]
  resolved := Array.replicate 11 none
  statics := none }

def pool8 : Array CpInfo := pool [(1, .class_ 2), (0, u "java/lang/constant/ConstantDesc"), (0, .class_ 4), (0, u "java/lang/Object")] 32

/-- java/lang/constant/ConstantDesc -/
def k8 : Class := { plain "java/lang/constant/ConstantDesc" (some 0) with
  accessFlags := 1537
  interfaces := #[]
  cf := some (fileOf pool8 1 #[] #[] 1537 3 #[] #[])
  fields := #[]
  methods := #[]
  instanceTypes := #[]
  staticTypes := #[]
  resolved := Array.replicate 37 none
  statics := none }

def pool9 : Array CpInfo := pool [(1, .class_ 2), (0, u "java/lang/Integer"), (16, u "digits"), (0, u "[C"), (39, u "(II)I"), (24, u "DigitOnes"), (0, u "[B"), (2, u "DigitTens"), (99, .class_ 190), (0, u "java/lang/Integer$IntegerCache"), (3, u "I"), (8, .class_ 204), (0, u "java/lang/Number"), (2, u "value"), (53, u "compare"), (40, u "TYPE"), (0, u "Ljava/lang/Class;"), (0, .class_ 305), (0, u "java/lang/Comparable"), (0, .class_ 307), (0, u "java/lang/constant/Constable"), (0, .class_ 309), (0, u "java/lang/constant/ConstantDesc"), (0, u "MIN_VALUE"), (1, u "MAX_VALUE"), (3, u "SIZE"), (1, u "BYTES"), (1, u "serialVersionUID"), (0, u "J")] 131

def k9c0 : Code := { maxStack := 2, maxLocals := 2, code := jdk_33_method_40_code, exceptionTable := #[], attributes := #[] }
def k9m0 : Method := { name := "compare", desc := "(II)I", sig := { parameters := [.int, .int], returnType := some .int }, accessFlags := 9, code := some k9c0 }
/-- java/lang/Integer -/
def k9 : Class := { plain "java/lang/Integer" (some 6) with
  accessFlags := 49
  interfaces := #[3, 7, 8]
  cf := some (fileOf pool9 1 #[.nestMembers #[189]] #[{ accessFlags := 9, nameIndex := 261, descriptorIndex := 60, attributes := #[] }] 49 203 #[304, 306, 308] #[{ accessFlags := 25, nameIndex := 310, descriptorIndex := 194, attributes := #[] }, { accessFlags := 25, nameIndex := 312, descriptorIndex := 194, attributes := #[] }, { accessFlags := 25, nameIndex := 302, descriptorIndex := 303, attributes := #[] }, { accessFlags := 24, nameIndex := 19, descriptorIndex := 20, attributes := #[] }, { accessFlags := 24, nameIndex := 89, descriptorIndex := 86, attributes := #[] }, { accessFlags := 24, nameIndex := 85, descriptorIndex := 86, attributes := #[] }, { accessFlags := 18, nameIndex := 207, descriptorIndex := 194, attributes := #[] }, { accessFlags := 25, nameIndex := 316, descriptorIndex := 194, attributes := #[] }, { accessFlags := 25, nameIndex := 318, descriptorIndex := 194, attributes := #[] }, { accessFlags := 26, nameIndex := 320, descriptorIndex := 321, attributes := #[] }])
  fields := #[{ name := "MIN_VALUE", type := .int, accessFlags := 25, slot := 0, constantValue := 0 }, { name := "MAX_VALUE", type := .int, accessFlags := 25, slot := 1, constantValue := 0 }, { name := "TYPE", type := (.object "java/lang/Class"), accessFlags := 25, slot := 2, constantValue := 0 }, { name := "digits", type := (.array .char), accessFlags := 24, slot := 3, constantValue := 0 }, { name := "DigitTens", type := (.array .byte), accessFlags := 24, slot := 4, constantValue := 0 }, { name := "DigitOnes", type := (.array .byte), accessFlags := 24, slot := 5, constantValue := 0 }, { name := "value", type := .int, accessFlags := 18, slot := 0, constantValue := 0 }, { name := "SIZE", type := .int, accessFlags := 25, slot := 6, constantValue := 0 }, { name := "BYTES", type := .int, accessFlags := 25, slot := 7, constantValue := 0 }, { name := "serialVersionUID", type := .long, accessFlags := 26, slot := 8, constantValue := 0 }]
  methods := #[k9m0]
  instanceTypes := #[.int]
  staticTypes := #[.int, .int, (.object "java/lang/Class"), (.array .char), (.array .byte), (.array .byte), .int, .int, .long]
  resolved := Array.replicate 453 none
  statics := none }

def pool10 : Array CpInfo := pool [(1, u "java/lang/Cloneable"), (0, .class_ 1), (0, u "java/lang/Object"), (0, .class_ 3)] 3

/-- java/lang/Cloneable -/
def k10 : Class := { plain "java/lang/Cloneable" (some 0) with
  accessFlags := 1537
  interfaces := #[]
  cf := some (fileOf pool10 2 #[] #[] 1537 4 #[] #[])
  fields := #[]
  methods := #[]
  instanceTypes := #[]
  staticTypes := #[]
  resolved := Array.replicate 8 none
  statics := none }

/-- the primitive byte -/
def k11 : Class := { plain "byte" none with kind := .primitive 'B', accessFlags := 0x411 }
/-- [B -/
def k12 : Class := { plain "[B" (some 0) with kind := .array 11 .byte, interfaces := #[10, 5], accessFlags := 1041 }

/-- the primitive int -/
def k13 : Class := { plain "int" none with kind := .primitive 'I', accessFlags := 0x411 }
/-- [I -/
def k14 : Class := { plain "[I" (some 0) with kind := .array 13 .int, interfaces := #[10, 5], accessFlags := 1041 }

def heap : Heap := #[]
def classes : Array Class := #[k0, k1, k2, k3, k4, k5, k6, k7, k8, k9, k10, k11, k12, k13, k14]
def interned : List (Array UInt16 × Addr) := []
def slotsUsed : Nat := 0
def theMethod : MethodId := ⟨1, 3⟩
def args0 : Array Value := #[.int 1, .int 2, .int 3, .int 4, .int 5]
def aboutOver (below : List Frame) : State where
  vm := { classes := classes, interned := interned.toArray }
  heap := heap
  slotsUsed := slotsUsed
  threads := #[{ frames := .invoking theMethod args0 :: below }]
def below0 : List Frame := [.native { method := ⟨0, 0⟩, args := #[] }]
def about1 : State := aboutOver below0
def p0 : Program := .bare "" "" ""
def e0 : Env := launch0.env 0 0 0
theorem w_frames : about1.frames = Frame.invoking theMethod args0 :: below0 := rfl
set_option maxRecDepth 65536 in
theorem w_args : argsFit about1.vm theMethod args0 = true := by decide +kernel
set_option maxRecDepth 65536 in
theorem w_heap : heapFits about1 = true := by decide +kernel
set_option maxRecDepth 65536 in
theorem w_runnable : about1.curStatus? = some .runnable := by decide +kernel
set_option maxRecDepth 65536 in
theorem w_alone : about1.alone = true := by decide +kernel
set_option maxRecDepth 65536 in
theorem w_named : about1.methodNamed? x = some theMethod := by decide +kernel
set_option maxRecDepth 65536 in
theorem w_hears : about1.hears theMethod below0 = true := by decide +kernel
set_option maxRecDepth 65536 in
theorem w_ripe : about1.ripe theMethod args0 below0 = true := by decide +kernel
theorem w_running : about1.status = .running := rfl
set_option maxRecDepth 65536 in
theorem w_room : about1.hasRoom e0.platform room_1 = true :=
  launch0.hasRoom_least _ room_1 (by decide +kernel) (by decide +kernel) (by decide +kernel) (by decide +kernel) (by decide +kernel) (by decide +kernel)
theorem allAtoms_all (ts : List Jvm.Cond) (a : Array Jvm.Value) (st : Jvm.State) : (allAtoms ts).before a st = ts.all (fun c => c.before a st) := by
  induction ts with
  | nil => rfl
  | cons c t ih =>
    show (Jvm.Cond.and c (allAtoms t)).before a st = _
    rw [Jvm.Cond.before_and, ih, List.all_cons]
def words1 : List Jvm.Cond := Jvm.Cond.code x code maxLocals ret :: tables_1
/-- a 'code' word, met by the world's own term for the bytes: nothing is compared byte by byte -/
theorem code_word {y : MethodName} {bytes : ByteArray} {mx : Nat} {rt : Option FieldType} {a : Array Value} {s : State} {m : MethodId} {meth : Method} {c : Code} (h1 : s.methodNamed? y = some m) (h2 : s.vm.method? m = some meth) (h3 : meth.code = some c) (h4 : c.code = bytes)
    (h5 : (c.maxLocals == mx && c.exceptionTable.isEmpty && decide (c.maxStack ≤ mostOperands) && decide (meth.sig.returnType = rt) && !meth.locks && decide (parseMethodDescriptor y.desc = some meth.sig)) = true) : (Jvm.Cond.code y bytes mx rt).before a s = true := by
  simp only [Bool.and_eq_true, beq_iff_eq, Bool.not_eq_true', decide_eq_true_eq] at h5
  obtain ⟨⟨⟨⟨⟨g1, g2⟩, g3⟩, g4⟩, g5⟩, g6⟩ := h5
  simp [Cond.before, Cond.holds, Cond.value, h1, h2, h3, h4, g1, g2, g3, g4, g5, g6]
def isCode : Jvm.Cond → Bool
  | .code _ _ _ _ => true
  | _ => false
theorem all_split {L : List Jvm.Cond} {P : Jvm.Cond → Bool} (h1 : L.all (fun c => isCode c || P c) = true) (h2 : ∀ c ∈ L.filter isCode, P c = true) : L.all P = true := by
  refine List.all_eq_true.mpr fun c hc => ?_
  have h := List.all_eq_true.mp h1 c hc
  rcases Bool.eq_false_or_eq_true (isCode c) with hi | hi
  · exact h2 c (List.mem_filter.mpr ⟨hc, hi⟩)
  · simpa [hi] using h
set_option maxRecDepth 65536 in
theorem w_c0 : (Jvm.Cond.code x code maxLocals ret).before args0 about1 = true := code_word (m := ⟨1, 3⟩) (meth := k1m3) (c := k1c3) (by decide +kernel) rfl rfl rfl (by decide +kernel)
set_option maxRecDepth 65536 in
theorem w_c1 : (Jvm.Cond.code ({ cls := "com/example/lockstep/lockstep/plan/Position", name := "<init>", desc := "(II)V" } : Jvm.MethodName) prog_32_method_1_code (3 : Nat) (Option.none : Option Jvm.ClassFile.FieldType)).before args0 about1 = true := code_word (m := ⟨4, 0⟩) (meth := k4m0) (c := k4c0) (by decide +kernel) rfl rfl rfl (by decide +kernel)
set_option maxRecDepth 65536 in
theorem w_c2 : (Jvm.Cond.code ({ cls := "java/lang/Record", name := "<init>", desc := "()V" } : Jvm.MethodName) jdk_30_method_1_code (1 : Nat) (Option.none : Option Jvm.ClassFile.FieldType)).before args0 about1 = true := code_word (m := ⟨2, 0⟩) (meth := k2m0) (c := k2c0) (by decide +kernel) rfl rfl rfl (by decide +kernel)
set_option maxRecDepth 65536 in
theorem w_c3 : (Jvm.Cond.code ({ cls := "java/lang/Object", name := "<init>", desc := "()V" } : Jvm.MethodName) object_method_1_code (1 : Nat) (Option.none : Option Jvm.ClassFile.FieldType)).before args0 about1 = true := code_word (m := ⟨0, 0⟩) (meth := k0m0) (c := k0c0) (by decide +kernel) rfl rfl rfl (by decide +kernel)
set_option maxRecDepth 65536 in
theorem w_c4 : (Jvm.Cond.code ({ cls := "com/example/lockstep/lockstep/plan/Position", name := "compareTo", desc := "(Lcom/example/lockstep/lockstep/plan/Position;)I" } : Jvm.MethodName) prog_32_method_2_code (2 : Nat) (Option.some Jvm.ClassFile.FieldType.int)).before args0 about1 = true := code_word (m := ⟨4, 1⟩) (meth := k4m1) (c := k4c1) (by decide +kernel) rfl rfl rfl (by decide +kernel)
set_option maxRecDepth 65536 in
theorem w_c5 : (Jvm.Cond.code ({ cls := "java/lang/Integer", name := "compare", desc := "(II)I" } : Jvm.MethodName) jdk_33_method_40_code (2 : Nat) (Option.some Jvm.ClassFile.FieldType.int)).before args0 about1 = true := code_word (m := ⟨9, 0⟩) (meth := k9m0) (c := k9c0) (by decide +kernel) rfl rfl rfl (by decide +kernel)
set_option maxRecDepth 65536 in
theorem w_c6 : (Jvm.Cond.code ({ cls := "com/example/lockstep/lockstep/plan/PositionCompareToPinLaw", name := "sign", desc := "(I)I" } : Jvm.MethodName) method_2_code (1 : Nat) (Option.some Jvm.ClassFile.FieldType.int)).before args0 about1 = true := code_word (m := ⟨1, 1⟩) (meth := k1m1) (c := k1c1) (by decide +kernel) rfl rfl rfl (by decide +kernel)
set_option maxRecDepth 65536 in
theorem w_c7 : (Jvm.Cond.code ({ cls := "com/example/lockstep/lockstep/plan/PositionCompareToPinLaw", name := "expected", desc := "(IIII)I" } : Jvm.MethodName) method_3_code (4 : Nat) (Option.some Jvm.ClassFile.FieldType.int)).before args0 about1 = true := code_word (m := ⟨1, 2⟩) (meth := k1m2) (c := k1c2) (by decide +kernel) rfl rfl rfl (by decide +kernel)
def codes1 : List Jvm.Cond := [Jvm.Cond.code x code maxLocals ret, Jvm.Cond.code ({ cls := "com/example/lockstep/lockstep/plan/Position", name := "<init>", desc := "(II)V" } : Jvm.MethodName) prog_32_method_1_code (3 : Nat) (Option.none : Option Jvm.ClassFile.FieldType), Jvm.Cond.code ({ cls := "java/lang/Record", name := "<init>", desc := "()V" } : Jvm.MethodName) jdk_30_method_1_code (1 : Nat) (Option.none : Option Jvm.ClassFile.FieldType), Jvm.Cond.code ({ cls := "java/lang/Object", name := "<init>", desc := "()V" } : Jvm.MethodName) object_method_1_code (1 : Nat) (Option.none : Option Jvm.ClassFile.FieldType), Jvm.Cond.code ({ cls := "com/example/lockstep/lockstep/plan/Position", name := "compareTo", desc := "(Lcom/example/lockstep/lockstep/plan/Position;)I" } : Jvm.MethodName) prog_32_method_2_code (2 : Nat) (Option.some Jvm.ClassFile.FieldType.int), Jvm.Cond.code ({ cls := "java/lang/Integer", name := "compare", desc := "(II)I" } : Jvm.MethodName) jdk_33_method_40_code (2 : Nat) (Option.some Jvm.ClassFile.FieldType.int), Jvm.Cond.code ({ cls := "com/example/lockstep/lockstep/plan/PositionCompareToPinLaw", name := "sign", desc := "(I)I" } : Jvm.MethodName) method_2_code (1 : Nat) (Option.some Jvm.ClassFile.FieldType.int), Jvm.Cond.code ({ cls := "com/example/lockstep/lockstep/plan/PositionCompareToPinLaw", name := "expected", desc := "(IIII)I" } : Jvm.MethodName) method_3_code (4 : Nat) (Option.some Jvm.ClassFile.FieldType.int)]
set_option maxRecDepth 65536 in
theorem codes_eq : words1.filter isCode = codes1 := rfl
theorem w_codes : ∀ c ∈ words1.filter isCode, c.before args0 about1 = true := by
  rw [codes_eq]
  intro c hc
  simp only [codes1, List.mem_cons, List.not_mem_nil, or_false] at hc
  rcases hc with rfl | rfl | rfl | rfl | rfl | rfl | rfl | rfl
  · exact w_c0
  · exact w_c1
  · exact w_c2
  · exact w_c3
  · exact w_c4
  · exact w_c5
  · exact w_c6
  · exact w_c7
set_option maxRecDepth 65536 in
theorem w_t1 : (words1.take 24).all (fun c => isCode c || c.before args0 about1) = true := by decide +kernel
set_option maxRecDepth 65536 in
theorem w_t2 : (words1.drop 24).all (fun c => isCode c || c.before args0 about1) = true := by decide +kernel
theorem w_tables : (allAtoms (Jvm.Cond.code x code maxLocals ret :: tables_1)).before args0 about1 = true := by
  rw [allAtoms_all]
  show words1.all (fun c => c.before args0 about1) = true
  refine all_split ?_ w_codes
  rw [← List.take_append_drop 24 words1, List.all_append, w_t1, w_t2]
  rfl
set_option maxRecDepth 65536 in
theorem w_case : (Jvm.Cond.and given_1 narrow_1).before args0 about1 = true := by decide +kernel
theorem w_applies : (headSpec (Jvm.Cond.code x code maxLocals ret :: tables_1) room_1).applies x e0.platform about1 = true :=
  (Spec.applies_iff w_frames).mpr ⟨w_running, w_runnable, w_alone, w_named, w_hears, w_ripe, w_room, w_tables⟩
theorem atStart : AtStart classFile x code maxLocals ret World_1 tables_1 room_1 Calls_1 rest_1 Pre_1 launch0 p0 e0 about1 theMethod args0 below0 :=
  ⟨lists_1, trivial, launch0.admits_env _ _ _, launch0.least_env, fairChoices_fair.cas, fairChoices_fair.clock, w_frames, w_args, w_heap, w_applies, trivial, trivial, w_case⟩
end start1
theorem witness_1 : WitnessClaimed_1 := ⟨start1.p0, start1.e0, start1.about1, start1.theMethod, start1.args0, start1.below0, start1.atStart⟩
end Jvm.Pilot.@@N@@
