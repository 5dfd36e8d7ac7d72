import JvmDerived
import JvmDerived.Pilot.@@N@@Statement
import JvmDerived.Pilot.@@N@@Code
set_option linter.unusedVariables false
set_option linter.unusedSimpArgs false
namespace Jvm.Pilot.@@N@@
open Jvm Jvm.ClassFile Sem Op Lib Jvm.Free Jvm.Stand Jvm.LawKit Jvm.RoadKit Bundle Jvm.Pilot.@@N@@.Jvm.D
theorem own_w {a0 : Array Value} {Z : State} (hw : ∀ d ∈ tables_1, d.before a0 Z = true) (i : Nat) {d : Jvm.Cond} (h : tables_1[i]? = some d) : d.before a0 Z = true := hw d (List.mem_of_getElem? h)
section Own
variable {p : Program} {l : Launch} {e : Env} {R : Room} {s : State} {m : MethodId} {args : Array Value} {below : List Frame} {meth : Method} {c : Code} {T T' : State} {locs : List Loc} {cells slots : Nat} {g g' : JFrame} {K : Outcome → State → Prop} {Q : Option Value → Heap → List Loc → Prop} {kc ks : Nat}
/-- from this state, with this frame on top, the run comes to an end at which K holds -/
def own_E (p : Program) (e : Env) (below : List Frame) (K : Outcome → State → Prop) (T : State) (g : JFrame) : Prop :=
  ∃ s₂ o, Steps p.tables e below (T.setTop g) s₂ ∧ s₂.status = .running ∧ Ended s₂ below o ∧ K o s₂
def own_K (Q : Option Value → Heap → List Loc → Prop) (s : State) (kc ks : Nat) : Outcome → State → Prop :=
  fun o U' => ∃ v L, o = .returned v ∧ Q v U'.heap L ∧ FrameEnd s o U' L kc ks
theorem own_st (st : ∀ t, Steps p.tables e below (T'.setTop g') t → Steps p.tables e below (T.setTop g) t) (k : own_E p e below K T' g') : own_E p e below K T g := by
  obtain ⟨s2, o, h1, h2⟩ := k
  exact ⟨s2, o, st _ h1, h2⟩
theorem own_tr (st : Steps p.tables e below (T.setTop g) (T'.setTop g')) (k : own_E p e below K T' g') : own_E p e below K T g :=
  own_st (fun _ h => st.trans h) k
theorem own_pre (q : g = g') (k : own_E p e below K T g') : own_E p e below K T g := q ▸ k
theorem own_end (X : Stand p l e R s m args below meth c T locs cells slots) (hlk : meth.locks = false) {v : Option Value} (hv : meth.sig.returnType = none → v = none)
    (hr : ∀ fs : List Frame, (∀ (f : JFrame) (acts : List Action), f.method = m → f.locked = none → f.entered = [] → (doReturn e (T.setTop f) acts v).1 = T.setFrames fs) → Steps p.tables e below (T.setTop g) (T.setFrames fs))
    (hc : cells ≤ kc) (hs : slots ≤ ks) (hQ : Q v T.heap locs) : own_E p e below (own_K Q s kc ks) T g := by
  obtain ⟨fs, h1, hrun, hended, hW, hsame⟩ := X.leave (v := v) hv hlk
  exact ⟨_, _, hr fs h1, hrun, hended, _, _, rfl, hQ, ⟨_, rfl⟩, hW, hsame.mono hc hs⟩
theorem own_retV (X : Stand p l e R s m args below meth c T locs cells slots) (hx : p.tables.exec = Jvm.exec) (hlk : meth.locks = false) {pc : Nat} {Ls : Array Slot} (hret : meth.sig.returnType = none)
    (hd : decode c.code pc = .ok (.return_, 1)) (hc : cells ≤ kc) (hs : slots ≤ ks) (hQ : Q none T.heap locs) : own_E p e below (own_K Q s kc ks) T (mkF m pc Ls []) :=
  own_end X hlk (fun _ => rfl) (fun fs h => X.returnOut hx hret hd h) hc hs hQ
theorem own_retG (X : Stand p l e R s m args below meth c T locs cells slots) (hx : p.tables.exec = Jvm.exec) (hlk : meth.locks = false) {pc : Nat} {Ls : Array Slot} {w : Value} {t : FieldType} {i : Instr} {rest : List Value} (hret : meth.sig.returnType = some t) (hn : narrow t w = w)
    (hi : (i = .ireturn ∧ (t = .int ∨ t = .boolean ∨ t = .byte ∨ t = .char ∨ t = .short) ∧ ∃ z, w = .int z) ∨ (i = .lreturn ∧ t = .long ∧ ∃ z, w = .long z) ∨ (i = .dreturn ∧ t = .double ∧ ∃ z, w = .double z) ∨ (i = .freturn ∧ t = .float ∧ ∃ z, w = .float z) ∨ (i = .areturn ∧ t.isReference = true ∧ w.isRef = true))
    (hd : decode c.code pc = .ok (i, 1)) (hc : cells ≤ kc) (hs : slots ≤ ks) (hQ : Q (some w) T.heap locs) : own_E p e below (own_K Q s kc ks) T (mkF m pc Ls (w :: rest)) :=
  own_end X hlk (fun h => by rw [hret] at h; cases h) (fun fs h => retOut X hx hret hn hi hd h) hc hs hQ
theorem own_retI (X : Stand p l e R s m args below meth c T locs cells slots) (hx : p.tables.exec = Jvm.exec) (hlk : meth.locks = false) {pc : Nat} {Ls : Array Slot} {z : Int32} {rest : List Value} (hret : meth.sig.returnType = some .int)
    (hd : decode c.code pc = .ok (.ireturn, 1)) (hc : cells ≤ kc) (hs : slots ≤ ks) (hQ : Q (some (.int z)) T.heap locs) : own_E p e below (own_K Q s kc ks) T (mkF m pc Ls (.int z :: rest)) :=
  own_retG X hx hlk hret rfl (Or.inl ⟨rfl, Or.inl rfl, z, rfl⟩) hd hc hs hQ
theorem own_retS (X : Stand p l e R s m args below meth c T locs cells slots) (hx : p.tables.exec = Jvm.exec) (hlk : meth.locks = false) {pc : Nat} {Ls : Array Slot} {z : Int32} {t : FieldType} {rest : List Value} (hret : meth.sig.returnType = some t) (hn : narrow t (.int z) = .int z)
    (ht : t = .int ∨ t = .boolean ∨ t = .byte ∨ t = .char ∨ t = .short) (hd : decode c.code pc = .ok (.ireturn, 1)) (hc : cells ≤ kc) (hs : slots ≤ ks) (hQ : Q (some (.int z)) T.heap locs) : own_E p e below (own_K Q s kc ks) T (mkF m pc Ls (.int z :: rest)) :=
  own_retG X hx hlk hret hn (Or.inl ⟨rfl, ht, z, rfl⟩) hd hc hs hQ
theorem own_retN (X : Stand p l e R s m args below meth c T locs cells slots) (hx : p.tables.exec = Jvm.exec) (hlk : meth.locks = false) {pc : Nat} {Ls : Array Slot} {z : Int32} {t : FieldType} {rest : List Value} (hret : meth.sig.returnType = some t)
    (ht : t = .boolean ∨ t = .byte ∨ t = .char ∨ t = .short) (hd : decode c.code pc = .ok (.ireturn, 1)) (hc : cells ≤ kc) (hs : slots ≤ ks) (hQ : Q (some (.int (nar t z))) T.heap locs) : own_E p e below (own_K Q s kc ks) T (mkF m pc Ls (.int z :: rest)) :=
  own_end X hlk (fun h => by rw [hret] at h; cases h) (fun fs h => retN X hx hret ht hd h) hc hs hQ
theorem own_retJ (X : Stand p l e R s m args below meth c T locs cells slots) (hx : p.tables.exec = Jvm.exec) (hlk : meth.locks = false) {pc : Nat} {Ls : Array Slot} {z : Int64} {rest : List Value} (hret : meth.sig.returnType = some .long)
    (hd : decode c.code pc = .ok (.lreturn, 1)) (hc : cells ≤ kc) (hs : slots ≤ ks) (hQ : Q (some (.long z)) T.heap locs) : own_E p e below (own_K Q s kc ks) T (mkF m pc Ls (.long z :: rest)) :=
  own_retG X hx hlk hret rfl (Or.inr (Or.inl ⟨rfl, rfl, z, rfl⟩)) hd hc hs hQ
theorem own_retA (X : Stand p l e R s m args below meth c T locs cells slots) (hx : p.tables.exec = Jvm.exec) (hlk : meth.locks = false) {pc : Nat} {Ls : Array Slot} {w : Value} {t : FieldType} {rest : List Value} (hret : meth.sig.returnType = some t) (ht : t.isReference = true) (hw : w.isRef = true)
    (hd : decode c.code pc = .ok (.areturn, 1)) (hc : cells ≤ kc) (hs : slots ≤ ks) (hQ : Q (some w) T.heap locs) : own_E p e below (own_K Q s kc ks) T (mkF m pc Ls (w :: rest)) :=
  own_retG X hx hlk hret (by cases w <;> cases t <;> first | rfl | (simp [Value.isRef] at hw) | (simp [FieldType.isReference] at ht)) (Or.inr (Or.inr (Or.inr (Or.inr ⟨rfl, ht, hw⟩)))) hd hc hs hQ
end Own
theorem own_StaK {Z : State} {h h' : Heap} {C n d : String} {v : Value} (F : Sta Z h C n d v) (K : Keep h h' []) : Sta Z h' C n d v := Sta.ext ⟨K.1, fun a c q => K.2.1 a c q nin0⟩ F
section OwnArr
variable {p : Program} {l : Launch} {e : Env} {R : Room} {s : State} {m : MethodId} {args : Array Value} {below : List Frame} {meth : Method} {c : Code} {T : State} {locs : List Loc} {cells slots : Nat} {Z : State} {h : Heap} {a : Addr} {k : ClassId} {z : Int32} {vs : List Value} {dv : Value}
theorem own_alen (X : Stand p l e R s m args below meth c T locs cells slots) (hx : p.tables.exec = Jvm.exec) (hZ : Z.Warmed39 s.vm) (eT : T.heap = h) {ty : FieldType} (F : Arv Z h a k ty z vs dv) {g : JFrame} (hg : g.method = m) {rest : List Value} (hs : g.stack = .ref a :: rest) (hd : decode c.code g.pc = .ok (.arraylength, 1)) :
    ∀ target, Steps p.tables e below (T.setTop { g with pc := g.pc + 1, stack := .int z :: rest }) target → Steps p.tables e below (T.setTop g) target := by
  obtain ⟨cl, A, q, S, N, H, G⟩ := F
  intro target hr
  refine X.arraylength hx (by rw [eT]; exact A.1) (State.isArrayOf_alike hZ.alike A.2.1) hg hs hd _ ?_
  rw [len_of S N]; exact hr
theorem own_ald (X : Stand p l e R s m args below meth c T locs cells slots) (hx : p.tables.exec = Jvm.exec) (hZ : Z.Warmed39 s.vm) (eT : T.heap = h) (F : Arv Z h a k .int z vs dv) {j : Int32} (hj : ¬ j < 0 ∧ j < z) {v : Value} (hv : vs.getD j.toNatClampNeg dv = v) {g : JFrame} (hg : g.method = m) {rest : List Value} (hs : g.stack = .int j :: .ref a :: rest) (hd : decode c.code g.pc = .ok (.iaload, 1)) :
    ∀ target, Steps p.tables e below (T.setTop { g with pc := g.pc + 1, stack := v :: rest }) target → Steps p.tables e below (T.setTop g) target := by
  obtain ⟨cl, A, q, S, N, H, G⟩ := F
  have hin := inb_of S hj
  exact X.iaload hx (by rw [eT]; exact A.1) (State.isArrayOf_alike hZ.alike A.2.1) A.2.2 hin (H.at hin hv) hg hs hd
theorem own_ast (X : Stand p l e R s m args below meth c T locs cells slots) (hx : p.tables.exec = Jvm.exec) (hZ : Z.Warmed39 s.vm) (eT : T.heap = h) (F : Arv Z h a k .int z vs dv) {j : Int32} (hj : ¬ j < 0 ∧ j < z) {x : Int32} {i : Nat} (hi : j.toNatClampNeg = i) (hl : i < vs.length) {g : JFrame} (hg : g.method = m) {rest : List Value} (hs : g.stack = .int x :: .int j :: .ref a :: rest) (hd : decode c.code g.pc = .ok (.iastore, 1)) :
    ∃ T' h', Stand p l e R s m args below meth c T' (locs ++ [⟨a, j.toNatClampNeg⟩]) cells slots ∧ T'.heap = h' ∧ Wr h h' a j.toNatClampNeg (.int x) ∧ Arv Z h' a k .int z (vs.set i (.int x)) dv ∧ ∀ target, Steps p.tables e below (T'.setTop { g with pc := g.pc + 1, stack := rest }) target → Steps p.tables e below (T.setTop g) target := by
  obtain ⟨cl, A, q, S, N, H, G⟩ := F
  have hin := inb_of S hj
  obtain ⟨T', h', X', e', W, st⟩ := stI X hx hZ eT A hin hg hs hd
  exact ⟨T', h', X', e', W, Arv.set A q S N H G rfl W i hi hl, st⟩
theorem own_cst (X : Stand p l e R s m args below meth c T locs cells slots) (hx : p.tables.exec = Jvm.exec) (hZ : Z.Warmed39 s.vm) (eT : T.heap = h) (F : Arv Z h a k .char z vs dv) {j : Int32} (hj : ¬ j < 0 ∧ j < z) {x : Int32} {i : Nat} (hi : j.toNatClampNeg = i) (hl : i < vs.length) {g : JFrame} (hg : g.method = m) {rest : List Value} (hs : g.stack = .int x :: .int j :: .ref a :: rest) (hd : decode c.code g.pc = .ok (.castore, 1)) :
    ∃ T' h', Stand p l e R s m args below meth c T' (locs ++ [⟨a, j.toNatClampNeg⟩]) cells slots ∧ T'.heap = h' ∧ Wr h h' a j.toNatClampNeg (.int (nar .char x)) ∧ Arv Z h' a k .char z (vs.set i (.int (nar .char x))) dv ∧ ∀ target, Steps p.tables e below (T'.setTop { g with pc := g.pc + 1, stack := rest }) target → Steps p.tables e below (T.setTop g) target := by
  obtain ⟨cl, A, q, S, N, H, G⟩ := F
  have hin := inb_of S hj
  obtain ⟨T', h', X', e', W, st⟩ := stC X hx hZ eT A hin hg hs hd
  exact ⟨T', h', X', e', W, Arv.set A q S N H G (fits_nar_char _) W i hi hl, st⟩
end OwnArr
theorem own_eqi {args : Array Value} {s : State} {t : Term} {a : Addr} {C n d : String} {k : Int32} (ht : t.eval args s none [] s = some (.ref a)) (h : (Jvm.Cond.eq (.field t C n d) (.int k)).value args s none s [] = some true) : s.fieldOf? a C n d = some (.int k) := by
  simp only [Jvm.Cond.value, fld_at ht] at h
  generalize s.fieldOf? a C n d = o at h
  rcases o with _ | w
  · simp [Term.eval] at h
  · cases w <;> simp [Term.eval] at h
    rw [h]
theorem own_d_prog_24_method_4_0 : decode prog_24_method_4_code 0 = .ok (.aload_n 0, 1) := by decide +kernel
theorem own_d_prog_24_method_4_1 : decode prog_24_method_4_code 1 = .ok (.getstatic 16, 3) := by decide +kernel
theorem own_d_prog_24_method_4_4 : decode prog_24_method_4_code 4 = .ok (.if_acmp .ne 9, 3) := by decide +kernel
theorem own_d_prog_24_method_4_13 : decode prog_24_method_4_code 13 = .ok (.aload_n 0, 1) := by decide +kernel
theorem own_d_prog_24_method_4_14 : decode prog_24_method_4_code 14 = .ok (.areturn, 1) := by decide +kernel
def own_carr_REAL_Q (aREAL : Addr) (aENUMERATION : Addr) (aSTRING : Addr) (aINTEGER : Addr) (aBOOLEAN : Addr) (h0 : Heap) (v : Option Value) (h : Heap) (L : List Loc) : Prop := ((v = some (.ref aREAL))) ∧ h = h0 ∧ L = []
abbrev own_y0 : MethodName := ⟨"com/example/lockstep/lockstep/fmi/VariableType", "carriedAs", "()Lcom/example/lockstep/lockstep/fmi/VariableType;"⟩
theorem own_pn_VariableType : plainName "com/example/lockstep/lockstep/fmi/VariableType" = true := by first | (simp [plainName, overriddenIn]; done) | decide +kernel
theorem own_carr_REAL_ef (m : MethodId) (aREAL : Addr) (aENUMERATION : Addr) (aSTRING : Addr) (aINTEGER : Addr) (aBOOLEAN : Addr) : entryFrame m #[(.ref aREAL)] 1 = mkF m 0 #[.val (.ref aREAL)] [] := by first | (simp [entryFrame, mkF, argsToLocals, Value.category]; done) | rfl
set_option maxRecDepth 65536 in
set_option maxHeartbeats 40000000 in
theorem own_carr_REAL (l : Launch) (Z : State) (a0 : Array Value) (hw : ∀ d ∈ tables_1, d.before a0 Z = true) (ws : List Jvm.Cond) (aREAL : Addr) (aENUMERATION : Addr) (aSTRING : Addr) (aINTEGER : Addr) (aBOOLEAN : Addr) (h0 : Heap) (n0 : Nat) (Z0 : n0 ≤ h0.size) (S_REAL : Sta Z h0 "com/example/lockstep/lockstep/fmi/VariableType" "REAL" "Lcom/example/lockstep/lockstep/fmi/VariableType;" (.ref aREAL)) (S_ENUMERATION : Sta Z h0 "com/example/lockstep/lockstep/fmi/VariableType" "ENUMERATION" "Lcom/example/lockstep/lockstep/fmi/VariableType;" (.ref aENUMERATION)) (S_STRING : Sta Z h0 "com/example/lockstep/lockstep/fmi/VariableType" "STRING" "Lcom/example/lockstep/lockstep/fmi/VariableType;" (.ref aSTRING)) (S_INTEGER : Sta Z h0 "com/example/lockstep/lockstep/fmi/VariableType" "INTEGER" "Lcom/example/lockstep/lockstep/fmi/VariableType;" (.ref aINTEGER)) (S_BOOLEAN : Sta Z h0 "com/example/lockstep/lockstep/fmi/VariableType" "BOOLEAN" "Lcom/example/lockstep/lockstep/fmi/VariableType;" (.ref aBOOLEAN)) (E_REAL : Exa Z h0 aREAL "com/example/lockstep/lockstep/fmi/VariableType") (E_ENUMERATION : Exa Z h0 aENUMERATION "com/example/lockstep/lockstep/fmi/VariableType") (E_STRING : Exa Z h0 aSTRING "com/example/lockstep/lockstep/fmi/VariableType") (E_INTEGER : Exa Z h0 aINTEGER "com/example/lockstep/lockstep/fmi/VariableType") (E_BOOLEAN : Exa Z h0 aBOOLEAN "com/example/lockstep/lockstep/fmi/VariableType") (ne_REAL_ENUMERATION : ¬ aREAL = aENUMERATION) (ne_REAL_STRING : ¬ aREAL = aSTRING) (ne_REAL_INTEGER : ¬ aREAL = aINTEGER) (ne_REAL_BOOLEAN : ¬ aREAL = aBOOLEAN) (ne_ENUMERATION_STRING : ¬ aENUMERATION = aSTRING) (ne_ENUMERATION_INTEGER : ¬ aENUMERATION = aINTEGER) (ne_ENUMERATION_BOOLEAN : ¬ aENUMERATION = aBOOLEAN) (ne_STRING_INTEGER : ¬ aSTRING = aINTEGER) (ne_STRING_BOOLEAN : ¬ aSTRING = aBOOLEAN) (ne_INTEGER_BOOLEAN : ¬ aINTEGER = aBOOLEAN) :
    MetFree l own_y0 (head1 (Jvm.Cond.code own_y0 prog_24_method_4_code 1 (some (.object "com/example/lockstep/lockstep/fmi/VariableType")) :: ws) ({ frames := 0, cells := 0, slots := 0, locals := 0 } : Room)) (fun a U => a = #[(.ref aREAL)] ∧ Z.Warmed39 U.vm ∧ U.heap = h0) (fun _ _ _ _ _ => True) (fun _ U o U' => ∃ v L, o = .returned v ∧ own_carr_REAL_Q aREAL aENUMERATION aSTRING aINTEGER aBOOLEAN h0 v U'.heap L ∧ FrameEnd U o U' L ({ frames := 0, cells := 0, slots := 0, locals := 0 } : Room).cells ({ frames := 0, cells := 0, slots := 0, locals := 0 } : Room).slots) := by
  refine MetFree.of_bodySF (plainFor_of_name own_pn_VariableType) hisR ?_
  intro p e s m args below meth c s₁ Bd hml0 hP hK
  obtain ⟨rfl, hZ, hh⟩ := hP
  have hx := Bd.exec
  have hby := Bd.bytes
  have hml : c.maxLocals = 1 := hml0
  have hown : s.vm.findClass "com/example/lockstep/lockstep/fmi/VariableType" = some m.cls := findClass_of_methodNamed Bd.named
  have hnm := (name_of_methodNamed Bd.named Bd.method).1
  have X0 : Stand p l e ({ frames := 0, cells := 0, slots := 0, locals := 0 } : Room) s m #[(.ref aREAL)] below meth c s₁ [] 0 0 := Stand.of_body Bd
  have e0 : s₁.heap = h0 := by rw [← hh, Bd.state]; rfl
  show own_E p e below (own_K (own_carr_REAL_Q aREAL aENUMERATION aSTRING aINTEGER aBOOLEAN h0) s ({ frames := 0, cells := 0, slots := 0, locals := 0 } : Room).cells ({ frames := 0, cells := 0, slots := 0, locals := 0 } : Room).slots) s₁ (entryFrame m #[(.ref aREAL)] 1)
  refine own_pre (own_carr_REAL_ef m aREAL aENUMERATION aSTRING aINTEGER aBOOLEAN) ?_
  show own_E p e below _ s₁ (mkF m 0 #[rv aREAL] [])
  refine own_st (fun t k => XS.aloadN X0.here hx rfl (hb hby own_d_prog_24_method_4_0) rfl rfl k) ?_
  show own_E p e below _ s₁ (mkF m 1 #[rv aREAL] [.ref aREAL])
  obtain ⟨T1, X1, e1, st1⟩ := getS2 X0 hx hZ hown (host := "") (Or.inl (own_w hw 9 rfl)) Via.refl e0 S_ENUMERATION (g := (mkF m 1 #[rv aREAL] [.ref aREAL])) rfl (hb hby own_d_prog_24_method_4_1)
  refine own_st st1 ?_
  show own_E p e below _ T1 (mkF m 4 #[rv aREAL] [.ref aENUMERATION, .ref aREAL])
  refine own_st (fun t k => Jvm.RoadKit.acmp (g := (mkF m 4 #[rv aREAL] [.ref aENUMERATION, .ref aREAL])) X1 hx rfl rfl rfl (pc0 := 4) (pc' := 13) (same := false) rfl (hb hby own_d_prog_24_method_4_4) rfl (decide_eq_false fun q => ne_REAL_ENUMERATION (Value.ref.inj q)) (by decide) (by decide) k) ?_
  show own_E p e below _ T1 (mkF m 13 #[rv aREAL] [])
  refine own_st (fun t k => XS.aloadN X1.here hx rfl (hb hby own_d_prog_24_method_4_13) rfl rfl k) ?_
  show own_E p e below _ T1 (mkF m 14 #[rv aREAL] [.ref aREAL])
  refine own_retA X1 hx Bd.notSynchronized Bd.returns rfl rfl (hb hby own_d_prog_24_method_4_14) (by decide) (by decide) ?_
  exact ⟨rfl, e1, rfl⟩
theorem own_d_prog_24_method_4_7 : decode prog_24_method_4_code 7 = .ok (.getstatic 7, 3) := by decide +kernel
theorem own_d_prog_24_method_4_10 : decode prog_24_method_4_code 10 = .ok (.goto 4, 3) := by decide +kernel
def own_carr_ENUMERATION_Q (aREAL : Addr) (aENUMERATION : Addr) (aSTRING : Addr) (aINTEGER : Addr) (aBOOLEAN : Addr) (h0 : Heap) (v : Option Value) (h : Heap) (L : List Loc) : Prop := ((v = some (.ref aINTEGER))) ∧ h = h0 ∧ L = []
theorem own_carr_ENUMERATION_ef (m : MethodId) (aREAL : Addr) (aENUMERATION : Addr) (aSTRING : Addr) (aINTEGER : Addr) (aBOOLEAN : Addr) : entryFrame m #[(.ref aENUMERATION)] 1 = mkF m 0 #[.val (.ref aENUMERATION)] [] := by first | (simp [entryFrame, mkF, argsToLocals, Value.category]; done) | rfl
set_option maxRecDepth 65536 in
set_option maxHeartbeats 40000000 in
theorem own_carr_ENUMERATION (l : Launch) (Z : State) (a0 : Array Value) (hw : ∀ d ∈ tables_1, d.before a0 Z = true) (ws : List Jvm.Cond) (aREAL : Addr) (aENUMERATION : Addr) (aSTRING : Addr) (aINTEGER : Addr) (aBOOLEAN : Addr) (h0 : Heap) (n0 : Nat) (Z0 : n0 ≤ h0.size) (S_REAL : Sta Z h0 "com/example/lockstep/lockstep/fmi/VariableType" "REAL" "Lcom/example/lockstep/lockstep/fmi/VariableType;" (.ref aREAL)) (S_ENUMERATION : Sta Z h0 "com/example/lockstep/lockstep/fmi/VariableType" "ENUMERATION" "Lcom/example/lockstep/lockstep/fmi/VariableType;" (.ref aENUMERATION)) (S_STRING : Sta Z h0 "com/example/lockstep/lockstep/fmi/VariableType" "STRING" "Lcom/example/lockstep/lockstep/fmi/VariableType;" (.ref aSTRING)) (S_INTEGER : Sta Z h0 "com/example/lockstep/lockstep/fmi/VariableType" "INTEGER" "Lcom/example/lockstep/lockstep/fmi/VariableType;" (.ref aINTEGER)) (S_BOOLEAN : Sta Z h0 "com/example/lockstep/lockstep/fmi/VariableType" "BOOLEAN" "Lcom/example/lockstep/lockstep/fmi/VariableType;" (.ref aBOOLEAN)) (E_REAL : Exa Z h0 aREAL "com/example/lockstep/lockstep/fmi/VariableType") (E_ENUMERATION : Exa Z h0 aENUMERATION "com/example/lockstep/lockstep/fmi/VariableType") (E_STRING : Exa Z h0 aSTRING "com/example/lockstep/lockstep/fmi/VariableType") (E_INTEGER : Exa Z h0 aINTEGER "com/example/lockstep/lockstep/fmi/VariableType") (E_BOOLEAN : Exa Z h0 aBOOLEAN "com/example/lockstep/lockstep/fmi/VariableType") (ne_REAL_ENUMERATION : ¬ aREAL = aENUMERATION) (ne_REAL_STRING : ¬ aREAL = aSTRING) (ne_REAL_INTEGER : ¬ aREAL = aINTEGER) (ne_REAL_BOOLEAN : ¬ aREAL = aBOOLEAN) (ne_ENUMERATION_STRING : ¬ aENUMERATION = aSTRING) (ne_ENUMERATION_INTEGER : ¬ aENUMERATION = aINTEGER) (ne_ENUMERATION_BOOLEAN : ¬ aENUMERATION = aBOOLEAN) (ne_STRING_INTEGER : ¬ aSTRING = aINTEGER) (ne_STRING_BOOLEAN : ¬ aSTRING = aBOOLEAN) (ne_INTEGER_BOOLEAN : ¬ aINTEGER = aBOOLEAN) :
    MetFree l own_y0 (head1 (Jvm.Cond.code own_y0 prog_24_method_4_code 1 (some (.object "com/example/lockstep/lockstep/fmi/VariableType")) :: ws) ({ frames := 0, cells := 0, slots := 0, locals := 0 } : Room)) (fun a U => a = #[(.ref aENUMERATION)] ∧ Z.Warmed39 U.vm ∧ U.heap = h0) (fun _ _ _ _ _ => True) (fun _ U o U' => ∃ v L, o = .returned v ∧ own_carr_ENUMERATION_Q aREAL aENUMERATION aSTRING aINTEGER aBOOLEAN h0 v U'.heap L ∧ FrameEnd U o U' L ({ frames := 0, cells := 0, slots := 0, locals := 0 } : Room).cells ({ frames := 0, cells := 0, slots := 0, locals := 0 } : Room).slots) := by
  refine MetFree.of_bodySF (plainFor_of_name own_pn_VariableType) hisR ?_
  intro p e s m args below meth c s₁ Bd hml0 hP hK
  obtain ⟨rfl, hZ, hh⟩ := hP
  have hx := Bd.exec
  have hby := Bd.bytes
  have hml : c.maxLocals = 1 := hml0
  have hown : s.vm.findClass "com/example/lockstep/lockstep/fmi/VariableType" = some m.cls := findClass_of_methodNamed Bd.named
  have hnm := (name_of_methodNamed Bd.named Bd.method).1
  have X0 : Stand p l e ({ frames := 0, cells := 0, slots := 0, locals := 0 } : Room) s m #[(.ref aENUMERATION)] below meth c s₁ [] 0 0 := Stand.of_body Bd
  have e0 : s₁.heap = h0 := by rw [← hh, Bd.state]; rfl
  show own_E p e below (own_K (own_carr_ENUMERATION_Q aREAL aENUMERATION aSTRING aINTEGER aBOOLEAN h0) s ({ frames := 0, cells := 0, slots := 0, locals := 0 } : Room).cells ({ frames := 0, cells := 0, slots := 0, locals := 0 } : Room).slots) s₁ (entryFrame m #[(.ref aENUMERATION)] 1)
  refine own_pre (own_carr_ENUMERATION_ef m aREAL aENUMERATION aSTRING aINTEGER aBOOLEAN) ?_
  show own_E p e below _ s₁ (mkF m 0 #[rv aENUMERATION] [])
  refine own_st (fun t k => XS.aloadN X0.here hx rfl (hb hby own_d_prog_24_method_4_0) rfl rfl k) ?_
  show own_E p e below _ s₁ (mkF m 1 #[rv aENUMERATION] [.ref aENUMERATION])
  obtain ⟨T1, X1, e1, st1⟩ := getS2 X0 hx hZ hown (host := "") (Or.inl (own_w hw 9 rfl)) Via.refl e0 S_ENUMERATION (g := (mkF m 1 #[rv aENUMERATION] [.ref aENUMERATION])) rfl (hb hby own_d_prog_24_method_4_1)
  refine own_st st1 ?_
  show own_E p e below _ T1 (mkF m 4 #[rv aENUMERATION] [.ref aENUMERATION, .ref aENUMERATION])
  refine own_st (fun t k => Jvm.RoadKit.acmp (g := (mkF m 4 #[rv aENUMERATION] [.ref aENUMERATION, .ref aENUMERATION])) X1 hx rfl rfl rfl (pc0 := 4) (pc' := 7) (same := true) rfl (hb hby own_d_prog_24_method_4_4) rfl (decide_eq_true rfl) (by decide) (by decide) k) ?_
  show own_E p e below _ T1 (mkF m 7 #[rv aENUMERATION] [])
  obtain ⟨T2, X2, e2, st2⟩ := getS2 X1 hx hZ hown (host := "") (Or.inl (own_w hw 16 rfl)) Via.refl e1 S_INTEGER (g := (mkF m 7 #[rv aENUMERATION] [])) rfl (hb hby own_d_prog_24_method_4_7)
  refine own_st st2 ?_
  show own_E p e below _ T2 (mkF m 10 #[rv aENUMERATION] [.ref aINTEGER])
  refine own_st (fun t k => XS.goto X2.here hx rfl (pc0 := 10) (pc' := 14) rfl (hb hby own_d_prog_24_method_4_10) (by decide) (by decide) k) ?_
  show own_E p e below _ T2 (mkF m 14 #[rv aENUMERATION] [.ref aINTEGER])
  refine own_retA X2 hx Bd.notSynchronized Bd.returns rfl rfl (hb hby own_d_prog_24_method_4_14) (by decide) (by decide) ?_
  exact ⟨rfl, e2, rfl⟩
def own_carr_STRING_Q (aREAL : Addr) (aENUMERATION : Addr) (aSTRING : Addr) (aINTEGER : Addr) (aBOOLEAN : Addr) (h0 : Heap) (v : Option Value) (h : Heap) (L : List Loc) : Prop := ((v = some (.ref aSTRING))) ∧ h = h0 ∧ L = []
theorem own_carr_STRING_ef (m : MethodId) (aREAL : Addr) (aENUMERATION : Addr) (aSTRING : Addr) (aINTEGER : Addr) (aBOOLEAN : Addr) : entryFrame m #[(.ref aSTRING)] 1 = mkF m 0 #[.val (.ref aSTRING)] [] := by first | (simp [entryFrame, mkF, argsToLocals, Value.category]; done) | rfl
set_option maxRecDepth 65536 in
set_option maxHeartbeats 40000000 in
theorem own_carr_STRING (l : Launch) (Z : State) (a0 : Array Value) (hw : ∀ d ∈ tables_1, d.before a0 Z = true) (ws : List Jvm.Cond) (aREAL : Addr) (aENUMERATION : Addr) (aSTRING : Addr) (aINTEGER : Addr) (aBOOLEAN : Addr) (h0 : Heap) (n0 : Nat) (Z0 : n0 ≤ h0.size) (S_REAL : Sta Z h0 "com/example/lockstep/lockstep/fmi/VariableType" "REAL" "Lcom/example/lockstep/lockstep/fmi/VariableType;" (.ref aREAL)) (S_ENUMERATION : Sta Z h0 "com/example/lockstep/lockstep/fmi/VariableType" "ENUMERATION" "Lcom/example/lockstep/lockstep/fmi/VariableType;" (.ref aENUMERATION)) (S_STRING : Sta Z h0 "com/example/lockstep/lockstep/fmi/VariableType" "STRING" "Lcom/example/lockstep/lockstep/fmi/VariableType;" (.ref aSTRING)) (S_INTEGER : Sta Z h0 "com/example/lockstep/lockstep/fmi/VariableType" "INTEGER" "Lcom/example/lockstep/lockstep/fmi/VariableType;" (.ref aINTEGER)) (S_BOOLEAN : Sta Z h0 "com/example/lockstep/lockstep/fmi/VariableType" "BOOLEAN" "Lcom/example/lockstep/lockstep/fmi/VariableType;" (.ref aBOOLEAN)) (E_REAL : Exa Z h0 aREAL "com/example/lockstep/lockstep/fmi/VariableType") (E_ENUMERATION : Exa Z h0 aENUMERATION "com/example/lockstep/lockstep/fmi/VariableType") (E_STRING : Exa Z h0 aSTRING "com/example/lockstep/lockstep/fmi/VariableType") (E_INTEGER : Exa Z h0 aINTEGER "com/example/lockstep/lockstep/fmi/VariableType") (E_BOOLEAN : Exa Z h0 aBOOLEAN "com/example/lockstep/lockstep/fmi/VariableType") (ne_REAL_ENUMERATION : ¬ aREAL = aENUMERATION) (ne_REAL_STRING : ¬ aREAL = aSTRING) (ne_REAL_INTEGER : ¬ aREAL = aINTEGER) (ne_REAL_BOOLEAN : ¬ aREAL = aBOOLEAN) (ne_ENUMERATION_STRING : ¬ aENUMERATION = aSTRING) (ne_ENUMERATION_INTEGER : ¬ aENUMERATION = aINTEGER) (ne_ENUMERATION_BOOLEAN : ¬ aENUMERATION = aBOOLEAN) (ne_STRING_INTEGER : ¬ aSTRING = aINTEGER) (ne_STRING_BOOLEAN : ¬ aSTRING = aBOOLEAN) (ne_INTEGER_BOOLEAN : ¬ aINTEGER = aBOOLEAN) :
    MetFree l own_y0 (head1 (Jvm.Cond.code own_y0 prog_24_method_4_code 1 (some (.object "com/example/lockstep/lockstep/fmi/VariableType")) :: ws) ({ frames := 0, cells := 0, slots := 0, locals := 0 } : Room)) (fun a U => a = #[(.ref aSTRING)] ∧ Z.Warmed39 U.vm ∧ U.heap = h0) (fun _ _ _ _ _ => True) (fun _ U o U' => ∃ v L, o = .returned v ∧ own_carr_STRING_Q aREAL aENUMERATION aSTRING aINTEGER aBOOLEAN h0 v U'.heap L ∧ FrameEnd U o U' L ({ frames := 0, cells := 0, slots := 0, locals := 0 } : Room).cells ({ frames := 0, cells := 0, slots := 0, locals := 0 } : Room).slots) := by
  refine MetFree.of_bodySF (plainFor_of_name own_pn_VariableType) hisR ?_
  intro p e s m args below meth c s₁ Bd hml0 hP hK
  obtain ⟨rfl, hZ, hh⟩ := hP
  have hx := Bd.exec
  have hby := Bd.bytes
  have hml : c.maxLocals = 1 := hml0
  have hown : s.vm.findClass "com/example/lockstep/lockstep/fmi/VariableType" = some m.cls := findClass_of_methodNamed Bd.named
  have hnm := (name_of_methodNamed Bd.named Bd.method).1
  have X0 : Stand p l e ({ frames := 0, cells := 0, slots := 0, locals := 0 } : Room) s m #[(.ref aSTRING)] below meth c s₁ [] 0 0 := Stand.of_body Bd
  have e0 : s₁.heap = h0 := by rw [← hh, Bd.state]; rfl
  show own_E p e below (own_K (own_carr_STRING_Q aREAL aENUMERATION aSTRING aINTEGER aBOOLEAN h0) s ({ frames := 0, cells := 0, slots := 0, locals := 0 } : Room).cells ({ frames := 0, cells := 0, slots := 0, locals := 0 } : Room).slots) s₁ (entryFrame m #[(.ref aSTRING)] 1)
  refine own_pre (own_carr_STRING_ef m aREAL aENUMERATION aSTRING aINTEGER aBOOLEAN) ?_
  show own_E p e below _ s₁ (mkF m 0 #[rv aSTRING] [])
  refine own_st (fun t k => XS.aloadN X0.here hx rfl (hb hby own_d_prog_24_method_4_0) rfl rfl k) ?_
  show own_E p e below _ s₁ (mkF m 1 #[rv aSTRING] [.ref aSTRING])
  obtain ⟨T1, X1, e1, st1⟩ := getS2 X0 hx hZ hown (host := "") (Or.inl (own_w hw 9 rfl)) Via.refl e0 S_ENUMERATION (g := (mkF m 1 #[rv aSTRING] [.ref aSTRING])) rfl (hb hby own_d_prog_24_method_4_1)
  refine own_st st1 ?_
  show own_E p e below _ T1 (mkF m 4 #[rv aSTRING] [.ref aENUMERATION, .ref aSTRING])
  refine own_st (fun t k => Jvm.RoadKit.acmp (g := (mkF m 4 #[rv aSTRING] [.ref aENUMERATION, .ref aSTRING])) X1 hx rfl rfl rfl (pc0 := 4) (pc' := 13) (same := false) rfl (hb hby own_d_prog_24_method_4_4) rfl (decide_eq_false fun q => ne_ENUMERATION_STRING (Value.ref.inj q).symm) (by decide) (by decide) k) ?_
  show own_E p e below _ T1 (mkF m 13 #[rv aSTRING] [])
  refine own_st (fun t k => XS.aloadN X1.here hx rfl (hb hby own_d_prog_24_method_4_13) rfl rfl k) ?_
  show own_E p e below _ T1 (mkF m 14 #[rv aSTRING] [.ref aSTRING])
  refine own_retA X1 hx Bd.notSynchronized Bd.returns rfl rfl (hb hby own_d_prog_24_method_4_14) (by decide) (by decide) ?_
  exact ⟨rfl, e1, rfl⟩
def own_carr_INTEGER_Q (aREAL : Addr) (aENUMERATION : Addr) (aSTRING : Addr) (aINTEGER : Addr) (aBOOLEAN : Addr) (h0 : Heap) (v : Option Value) (h : Heap) (L : List Loc) : Prop := ((v = some (.ref aINTEGER))) ∧ h = h0 ∧ L = []
theorem own_carr_INTEGER_ef (m : MethodId) (aREAL : Addr) (aENUMERATION : Addr) (aSTRING : Addr) (aINTEGER : Addr) (aBOOLEAN : Addr) : entryFrame m #[(.ref aINTEGER)] 1 = mkF m 0 #[.val (.ref aINTEGER)] [] := by first | (simp [entryFrame, mkF, argsToLocals, Value.category]; done) | rfl
set_option maxRecDepth 65536 in
set_option maxHeartbeats 40000000 in
theorem own_carr_INTEGER (l : Launch) (Z : State) (a0 : Array Value) (hw : ∀ d ∈ tables_1, d.before a0 Z = true) (ws : List Jvm.Cond) (aREAL : Addr) (aENUMERATION : Addr) (aSTRING : Addr) (aINTEGER : Addr) (aBOOLEAN : Addr) (h0 : Heap) (n0 : Nat) (Z0 : n0 ≤ h0.size) (S_REAL : Sta Z h0 "com/example/lockstep/lockstep/fmi/VariableType" "REAL" "Lcom/example/lockstep/lockstep/fmi/VariableType;" (.ref aREAL)) (S_ENUMERATION : Sta Z h0 "com/example/lockstep/lockstep/fmi/VariableType" "ENUMERATION" "Lcom/example/lockstep/lockstep/fmi/VariableType;" (.ref aENUMERATION)) (S_STRING : Sta Z h0 "com/example/lockstep/lockstep/fmi/VariableType" "STRING" "Lcom/example/lockstep/lockstep/fmi/VariableType;" (.ref aSTRING)) (S_INTEGER : Sta Z h0 "com/example/lockstep/lockstep/fmi/VariableType" "INTEGER" "Lcom/example/lockstep/lockstep/fmi/VariableType;" (.ref aINTEGER)) (S_BOOLEAN : Sta Z h0 "com/example/lockstep/lockstep/fmi/VariableType" "BOOLEAN" "Lcom/example/lockstep/lockstep/fmi/VariableType;" (.ref aBOOLEAN)) (E_REAL : Exa Z h0 aREAL "com/example/lockstep/lockstep/fmi/VariableType") (E_ENUMERATION : Exa Z h0 aENUMERATION "com/example/lockstep/lockstep/fmi/VariableType") (E_STRING : Exa Z h0 aSTRING "com/example/lockstep/lockstep/fmi/VariableType") (E_INTEGER : Exa Z h0 aINTEGER "com/example/lockstep/lockstep/fmi/VariableType") (E_BOOLEAN : Exa Z h0 aBOOLEAN "com/example/lockstep/lockstep/fmi/VariableType") (ne_REAL_ENUMERATION : ¬ aREAL = aENUMERATION) (ne_REAL_STRING : ¬ aREAL = aSTRING) (ne_REAL_INTEGER : ¬ aREAL = aINTEGER) (ne_REAL_BOOLEAN : ¬ aREAL = aBOOLEAN) (ne_ENUMERATION_STRING : ¬ aENUMERATION = aSTRING) (ne_ENUMERATION_INTEGER : ¬ aENUMERATION = aINTEGER) (ne_ENUMERATION_BOOLEAN : ¬ aENUMERATION = aBOOLEAN) (ne_STRING_INTEGER : ¬ aSTRING = aINTEGER) (ne_STRING_BOOLEAN : ¬ aSTRING = aBOOLEAN) (ne_INTEGER_BOOLEAN : ¬ aINTEGER = aBOOLEAN) :
    MetFree l own_y0 (head1 (Jvm.Cond.code own_y0 prog_24_method_4_code 1 (some (.object "com/example/lockstep/lockstep/fmi/VariableType")) :: ws) ({ frames := 0, cells := 0, slots := 0, locals := 0 } : Room)) (fun a U => a = #[(.ref aINTEGER)] ∧ Z.Warmed39 U.vm ∧ U.heap = h0) (fun _ _ _ _ _ => True) (fun _ U o U' => ∃ v L, o = .returned v ∧ own_carr_INTEGER_Q aREAL aENUMERATION aSTRING aINTEGER aBOOLEAN h0 v U'.heap L ∧ FrameEnd U o U' L ({ frames := 0, cells := 0, slots := 0, locals := 0 } : Room).cells ({ frames := 0, cells := 0, slots := 0, locals := 0 } : Room).slots) := by
  refine MetFree.of_bodySF (plainFor_of_name own_pn_VariableType) hisR ?_
  intro p e s m args below meth c s₁ Bd hml0 hP hK
  obtain ⟨rfl, hZ, hh⟩ := hP
  have hx := Bd.exec
  have hby := Bd.bytes
  have hml : c.maxLocals = 1 := hml0
  have hown : s.vm.findClass "com/example/lockstep/lockstep/fmi/VariableType" = some m.cls := findClass_of_methodNamed Bd.named
  have hnm := (name_of_methodNamed Bd.named Bd.method).1
  have X0 : Stand p l e ({ frames := 0, cells := 0, slots := 0, locals := 0 } : Room) s m #[(.ref aINTEGER)] below meth c s₁ [] 0 0 := Stand.of_body Bd
  have e0 : s₁.heap = h0 := by rw [← hh, Bd.state]; rfl
  show own_E p e below (own_K (own_carr_INTEGER_Q aREAL aENUMERATION aSTRING aINTEGER aBOOLEAN h0) s ({ frames := 0, cells := 0, slots := 0, locals := 0 } : Room).cells ({ frames := 0, cells := 0, slots := 0, locals := 0 } : Room).slots) s₁ (entryFrame m #[(.ref aINTEGER)] 1)
  refine own_pre (own_carr_INTEGER_ef m aREAL aENUMERATION aSTRING aINTEGER aBOOLEAN) ?_
  show own_E p e below _ s₁ (mkF m 0 #[rv aINTEGER] [])
  refine own_st (fun t k => XS.aloadN X0.here hx rfl (hb hby own_d_prog_24_method_4_0) rfl rfl k) ?_
  show own_E p e below _ s₁ (mkF m 1 #[rv aINTEGER] [.ref aINTEGER])
  obtain ⟨T1, X1, e1, st1⟩ := getS2 X0 hx hZ hown (host := "") (Or.inl (own_w hw 9 rfl)) Via.refl e0 S_ENUMERATION (g := (mkF m 1 #[rv aINTEGER] [.ref aINTEGER])) rfl (hb hby own_d_prog_24_method_4_1)
  refine own_st st1 ?_
  show own_E p e below _ T1 (mkF m 4 #[rv aINTEGER] [.ref aENUMERATION, .ref aINTEGER])
  refine own_st (fun t k => Jvm.RoadKit.acmp (g := (mkF m 4 #[rv aINTEGER] [.ref aENUMERATION, .ref aINTEGER])) X1 hx rfl rfl rfl (pc0 := 4) (pc' := 13) (same := false) rfl (hb hby own_d_prog_24_method_4_4) rfl (decide_eq_false fun q => ne_ENUMERATION_INTEGER (Value.ref.inj q).symm) (by decide) (by decide) k) ?_
  show own_E p e below _ T1 (mkF m 13 #[rv aINTEGER] [])
  refine own_st (fun t k => XS.aloadN X1.here hx rfl (hb hby own_d_prog_24_method_4_13) rfl rfl k) ?_
  show own_E p e below _ T1 (mkF m 14 #[rv aINTEGER] [.ref aINTEGER])
  refine own_retA X1 hx Bd.notSynchronized Bd.returns rfl rfl (hb hby own_d_prog_24_method_4_14) (by decide) (by decide) ?_
  exact ⟨rfl, e1, rfl⟩
def own_carr_BOOLEAN_Q (aREAL : Addr) (aENUMERATION : Addr) (aSTRING : Addr) (aINTEGER : Addr) (aBOOLEAN : Addr) (h0 : Heap) (v : Option Value) (h : Heap) (L : List Loc) : Prop := ((v = some (.ref aBOOLEAN))) ∧ h = h0 ∧ L = []
theorem own_carr_BOOLEAN_ef (m : MethodId) (aREAL : Addr) (aENUMERATION : Addr) (aSTRING : Addr) (aINTEGER : Addr) (aBOOLEAN : Addr) : entryFrame m #[(.ref aBOOLEAN)] 1 = mkF m 0 #[.val (.ref aBOOLEAN)] [] := by first | (simp [entryFrame, mkF, argsToLocals, Value.category]; done) | rfl
set_option maxRecDepth 65536 in
set_option maxHeartbeats 40000000 in
theorem own_carr_BOOLEAN (l : Launch) (Z : State) (a0 : Array Value) (hw : ∀ d ∈ tables_1, d.before a0 Z = true) (ws : List Jvm.Cond) (aREAL : Addr) (aENUMERATION : Addr) (aSTRING : Addr) (aINTEGER : Addr) (aBOOLEAN : Addr) (h0 : Heap) (n0 : Nat) (Z0 : n0 ≤ h0.size) (S_REAL : Sta Z h0 "com/example/lockstep/lockstep/fmi/VariableType" "REAL" "Lcom/example/lockstep/lockstep/fmi/VariableType;" (.ref aREAL)) (S_ENUMERATION : Sta Z h0 "com/example/lockstep/lockstep/fmi/VariableType" "ENUMERATION" "Lcom/example/lockstep/lockstep/fmi/VariableType;" (.ref aENUMERATION)) (S_STRING : Sta Z h0 "com/example/lockstep/lockstep/fmi/VariableType" "STRING" "Lcom/example/lockstep/lockstep/fmi/VariableType;" (.ref aSTRING)) (S_INTEGER : Sta Z h0 "com/example/lockstep/lockstep/fmi/VariableType" "INTEGER" "Lcom/example/lockstep/lockstep/fmi/VariableType;" (.ref aINTEGER)) (S_BOOLEAN : Sta Z h0 "com/example/lockstep/lockstep/fmi/VariableType" "BOOLEAN" "Lcom/example/lockstep/lockstep/fmi/VariableType;" (.ref aBOOLEAN)) (E_REAL : Exa Z h0 aREAL "com/example/lockstep/lockstep/fmi/VariableType") (E_ENUMERATION : Exa Z h0 aENUMERATION "com/example/lockstep/lockstep/fmi/VariableType") (E_STRING : Exa Z h0 aSTRING "com/example/lockstep/lockstep/fmi/VariableType") (E_INTEGER : Exa Z h0 aINTEGER "com/example/lockstep/lockstep/fmi/VariableType") (E_BOOLEAN : Exa Z h0 aBOOLEAN "com/example/lockstep/lockstep/fmi/VariableType") (ne_REAL_ENUMERATION : ¬ aREAL = aENUMERATION) (ne_REAL_STRING : ¬ aREAL = aSTRING) (ne_REAL_INTEGER : ¬ aREAL = aINTEGER) (ne_REAL_BOOLEAN : ¬ aREAL = aBOOLEAN) (ne_ENUMERATION_STRING : ¬ aENUMERATION = aSTRING) (ne_ENUMERATION_INTEGER : ¬ aENUMERATION = aINTEGER) (ne_ENUMERATION_BOOLEAN : ¬ aENUMERATION = aBOOLEAN) (ne_STRING_INTEGER : ¬ aSTRING = aINTEGER) (ne_STRING_BOOLEAN : ¬ aSTRING = aBOOLEAN) (ne_INTEGER_BOOLEAN : ¬ aINTEGER = aBOOLEAN) :
    MetFree l own_y0 (head1 (Jvm.Cond.code own_y0 prog_24_method_4_code 1 (some (.object "com/example/lockstep/lockstep/fmi/VariableType")) :: ws) ({ frames := 0, cells := 0, slots := 0, locals := 0 } : Room)) (fun a U => a = #[(.ref aBOOLEAN)] ∧ Z.Warmed39 U.vm ∧ U.heap = h0) (fun _ _ _ _ _ => True) (fun _ U o U' => ∃ v L, o = .returned v ∧ own_carr_BOOLEAN_Q aREAL aENUMERATION aSTRING aINTEGER aBOOLEAN h0 v U'.heap L ∧ FrameEnd U o U' L ({ frames := 0, cells := 0, slots := 0, locals := 0 } : Room).cells ({ frames := 0, cells := 0, slots := 0, locals := 0 } : Room).slots) := by
  refine MetFree.of_bodySF (plainFor_of_name own_pn_VariableType) hisR ?_
  intro p e s m args below meth c s₁ Bd hml0 hP hK
  obtain ⟨rfl, hZ, hh⟩ := hP
  have hx := Bd.exec
  have hby := Bd.bytes
  have hml : c.maxLocals = 1 := hml0
  have hown : s.vm.findClass "com/example/lockstep/lockstep/fmi/VariableType" = some m.cls := findClass_of_methodNamed Bd.named
  have hnm := (name_of_methodNamed Bd.named Bd.method).1
  have X0 : Stand p l e ({ frames := 0, cells := 0, slots := 0, locals := 0 } : Room) s m #[(.ref aBOOLEAN)] below meth c s₁ [] 0 0 := Stand.of_body Bd
  have e0 : s₁.heap = h0 := by rw [← hh, Bd.state]; rfl
  show own_E p e below (own_K (own_carr_BOOLEAN_Q aREAL aENUMERATION aSTRING aINTEGER aBOOLEAN h0) s ({ frames := 0, cells := 0, slots := 0, locals := 0 } : Room).cells ({ frames := 0, cells := 0, slots := 0, locals := 0 } : Room).slots) s₁ (entryFrame m #[(.ref aBOOLEAN)] 1)
  refine own_pre (own_carr_BOOLEAN_ef m aREAL aENUMERATION aSTRING aINTEGER aBOOLEAN) ?_
  show own_E p e below _ s₁ (mkF m 0 #[rv aBOOLEAN] [])
  refine own_st (fun t k => XS.aloadN X0.here hx rfl (hb hby own_d_prog_24_method_4_0) rfl rfl k) ?_
  show own_E p e below _ s₁ (mkF m 1 #[rv aBOOLEAN] [.ref aBOOLEAN])
  obtain ⟨T1, X1, e1, st1⟩ := getS2 X0 hx hZ hown (host := "") (Or.inl (own_w hw 9 rfl)) Via.refl e0 S_ENUMERATION (g := (mkF m 1 #[rv aBOOLEAN] [.ref aBOOLEAN])) rfl (hb hby own_d_prog_24_method_4_1)
  refine own_st st1 ?_
  show own_E p e below _ T1 (mkF m 4 #[rv aBOOLEAN] [.ref aENUMERATION, .ref aBOOLEAN])
  refine own_st (fun t k => Jvm.RoadKit.acmp (g := (mkF m 4 #[rv aBOOLEAN] [.ref aENUMERATION, .ref aBOOLEAN])) X1 hx rfl rfl rfl (pc0 := 4) (pc' := 13) (same := false) rfl (hb hby own_d_prog_24_method_4_4) rfl (decide_eq_false fun q => ne_ENUMERATION_BOOLEAN (Value.ref.inj q).symm) (by decide) (by decide) k) ?_
  show own_E p e below _ T1 (mkF m 13 #[rv aBOOLEAN] [])
  refine own_st (fun t k => XS.aloadN X1.here hx rfl (hb hby own_d_prog_24_method_4_13) rfl rfl k) ?_
  show own_E p e below _ T1 (mkF m 14 #[rv aBOOLEAN] [.ref aBOOLEAN])
  refine own_retA X1 hx Bd.notSynchronized Bd.returns rfl rfl (hb hby own_d_prog_24_method_4_14) (by decide) (by decide) ?_
  exact ⟨rfl, e1, rfl⟩
theorem own_pd_0 : parseMethodDescriptor "()Lcom/example/lockstep/lockstep/fmi/VariableType;" = some ⟨[], some (.object "com/example/lockstep/lockstep/fmi/VariableType")⟩ := by decide +kernel
def own_law_Q (n0 : Nat) (v : Option Value) (h : Heap) (L : List Loc) : Prop := v = some (.int 1) ∧ Fr n0 L
theorem own_pn_VariableTypeCarriedAsPinLaw : plainName "com/example/lockstep/lockstep/fmi/VariableTypeCarriedAsPinLaw" = true := by first | (simp [plainName, overriddenIn]; done) | decide +kernel
theorem own_law_ef (m : MethodId) (aREAL : Addr) (aENUMERATION : Addr) (aSTRING : Addr) (aINTEGER : Addr) (aBOOLEAN : Addr) (p1 : Int32) : entryFrame m #[(.int p1)] maxLocals = mkF m 0 #[.val (.int p1), .unset, .unset, .unset, .unset] [] := by first | (simp [entryFrame, mkF, argsToLocals, Value.category, maxLocals]; done) | rfl
set_option maxRecDepth 65536 in
set_option maxHeartbeats 40000000 in
theorem own_law (l : Launch) (Z : State) (a0 : Array Value) (hw : ∀ d ∈ tables_1, d.before a0 Z = true) (ws : List Jvm.Cond) (aREAL : Addr) (aENUMERATION : Addr) (aSTRING : Addr) (aINTEGER : Addr) (aBOOLEAN : Addr) (p1 : Int32) (h0 : Heap) (n0 : Nat) (Z0 : n0 ≤ h0.size) (S_REAL : Sta Z h0 "com/example/lockstep/lockstep/fmi/VariableType" "REAL" "Lcom/example/lockstep/lockstep/fmi/VariableType;" (.ref aREAL)) (S_ENUMERATION : Sta Z h0 "com/example/lockstep/lockstep/fmi/VariableType" "ENUMERATION" "Lcom/example/lockstep/lockstep/fmi/VariableType;" (.ref aENUMERATION)) (S_STRING : Sta Z h0 "com/example/lockstep/lockstep/fmi/VariableType" "STRING" "Lcom/example/lockstep/lockstep/fmi/VariableType;" (.ref aSTRING)) (S_INTEGER : Sta Z h0 "com/example/lockstep/lockstep/fmi/VariableType" "INTEGER" "Lcom/example/lockstep/lockstep/fmi/VariableType;" (.ref aINTEGER)) (S_BOOLEAN : Sta Z h0 "com/example/lockstep/lockstep/fmi/VariableType" "BOOLEAN" "Lcom/example/lockstep/lockstep/fmi/VariableType;" (.ref aBOOLEAN)) (E_REAL : Exa Z h0 aREAL "com/example/lockstep/lockstep/fmi/VariableType") (E_ENUMERATION : Exa Z h0 aENUMERATION "com/example/lockstep/lockstep/fmi/VariableType") (E_STRING : Exa Z h0 aSTRING "com/example/lockstep/lockstep/fmi/VariableType") (E_INTEGER : Exa Z h0 aINTEGER "com/example/lockstep/lockstep/fmi/VariableType") (E_BOOLEAN : Exa Z h0 aBOOLEAN "com/example/lockstep/lockstep/fmi/VariableType") (ne_REAL_ENUMERATION : ¬ aREAL = aENUMERATION) (ne_REAL_STRING : ¬ aREAL = aSTRING) (ne_REAL_INTEGER : ¬ aREAL = aINTEGER) (ne_REAL_BOOLEAN : ¬ aREAL = aBOOLEAN) (ne_ENUMERATION_STRING : ¬ aENUMERATION = aSTRING) (ne_ENUMERATION_INTEGER : ¬ aENUMERATION = aINTEGER) (ne_ENUMERATION_BOOLEAN : ¬ aENUMERATION = aBOOLEAN) (ne_STRING_INTEGER : ¬ aSTRING = aINTEGER) (ne_STRING_BOOLEAN : ¬ aSTRING = aBOOLEAN) (ne_INTEGER_BOOLEAN : ¬ aINTEGER = aBOOLEAN) :
    MetFree l x (head1 (Jvm.Cond.code x code maxLocals ret :: ws) room_1) (fun a U => a = #[(.int p1)] ∧ Z.Warmed39 U.vm ∧ U.heap = h0) (fun _ _ _ _ _ => True) (fun _ U o U' => ∃ v L, o = .returned v ∧ own_law_Q n0 v U'.heap L ∧ FrameEnd U o U' L room_1.cells room_1.slots) := by
  refine MetFree.of_bodySF (plainFor_of_name own_pn_VariableTypeCarriedAsPinLaw) hisR ?_
  intro p e s m args below meth c s₁ Bd hml0 hP hK
  obtain ⟨rfl, hZ, hh⟩ := hP
  have hx := Bd.exec
  have hby := Bd.bytes
  have hml : c.maxLocals = 5 := hml0
  have hown : s.vm.findClass "com/example/lockstep/lockstep/fmi/VariableTypeCarriedAsPinLaw" = some m.cls := findClass_of_methodNamed Bd.named
  have hnm := (name_of_methodNamed Bd.named Bd.method).1
  have X0 : Stand p l e room_1 s m #[(.int p1)] below meth c s₁ [] 0 0 := Stand.of_body Bd
  have e0 : s₁.heap = h0 := by rw [← hh, Bd.state]; rfl
  show own_E p e below (own_K (own_law_Q n0) s room_1.cells room_1.slots) s₁ (entryFrame m #[(.int p1)] maxLocals)
  refine own_pre (own_law_ef m aREAL aENUMERATION aSTRING aINTEGER aBOOLEAN p1) ?_
  show own_E p e below _ s₁ (mkF m 0 #[iv p1, .unset, .unset, .unset, .unset] [])
  refine own_st (fun t k => XS.iloadN X0.here hx rfl (hb hby at_0) rfl k) ?_
  show own_E p e below _ s₁ (mkF m 1 #[iv p1, .unset, .unset, .unset, .unset] [.int p1])
  refine own_st (X0.ldcInt hx hown (mvT hZ (own_w hw 0 rfl)) (g := (mkF m 1 #[iv p1, .unset, .unset, .unset, .unset] [.int p1])) rfl (hb hby at_1)) ?_
  show own_E p e below _ s₁ (mkF m 3 #[iv p1, .unset, .unset, .unset, .unset] [.int 2147483647, .int p1])
  refine own_st (fun t k => XS.iand X0.here hx rfl (hb hby at_3) rfl k) ?_
  show own_E p e below _ s₁ (mkF m 4 #[iv p1, .unset, .unset, .unset, .unset] [.int (p1 &&& (2147483647 : Int32))])
  refine own_st (fun t k => XS.iconst X0.here hx rfl (hb hby at_4) k) ?_
  show own_E p e below _ s₁ (mkF m 5 #[iv p1, .unset, .unset, .unset, .unset] [.int 5, .int (p1 &&& (2147483647 : Int32))])
  refine own_st (fun t k => iremM X0 hx rfl (hb hby at_5) rfl (by decide) k) ?_
  show own_E p e below _ s₁ (mkF m 6 #[iv p1, .unset, .unset, .unset, .unset] [.int ((p1 &&& (2147483647 : Int32)) % (5 : Int32))])
  refine own_st (fun t k => XS.istoreN X0.here hx rfl (hb hby at_6) rfl (l' := #[iv p1, iv ((p1 &&& (2147483647 : Int32)) % (5 : Int32)), .unset, .unset, .unset]) rfl k) ?_
  show own_E p e below _ s₁ (mkF m 7 #[iv p1, iv ((p1 &&& (2147483647 : Int32)) % (5 : Int32)), .unset, .unset, .unset] [])
  refine own_st (fun t k => XS.iloadN X0.here hx rfl (hb hby at_7) rfl k) ?_
  show own_E p e below _ s₁ (mkF m 8 #[iv p1, iv ((p1 &&& (2147483647 : Int32)) % (5 : Int32)), .unset, .unset, .unset] [.int ((p1 &&& (2147483647 : Int32)) % (5 : Int32))])
  by_cases hc1 : ((p1 &&& (2147483647 : Int32)) % (5 : Int32)) = (0 : Int32)
  · refine own_st (fun t k => XS.ifNo X0.here hx rfl (hb hby at_8) rfl ((if0 _ _).trans (teq hc1).2) k) ?_
    show own_E p e below _ s₁ (mkF m 11 #[iv p1, iv ((p1 &&& (2147483647 : Int32)) % (5 : Int32)), .unset, .unset, .unset] [])
    obtain ⟨T2, X2, e2, st2⟩ := getS2 X0 hx hZ hown (host := "") (Or.inl (own_w hw 1 rfl)) Via.refl e0 S_REAL (g := (mkF m 11 #[iv p1, iv ((p1 &&& (2147483647 : Int32)) % (5 : Int32)), .unset, .unset, .unset] [])) rfl (hb hby at_11)
    refine own_st st2 ?_
    show own_E p e below _ T2 (mkF m 14 #[iv p1, iv ((p1 &&& (2147483647 : Int32)) % (5 : Int32)), .unset, .unset, .unset] [.ref aREAL])
    refine own_st (fun t k => XS.astoreN X2.here hx rfl (hb hby at_14) rfl rfl (l' := #[iv p1, iv ((p1 &&& (2147483647 : Int32)) % (5 : Int32)), rv aREAL, .unset, .unset]) rfl k) ?_
    show own_E p e below _ T2 (mkF m 15 #[iv p1, iv ((p1 &&& (2147483647 : Int32)) % (5 : Int32)), rv aREAL, .unset, .unset] [])
    obtain ⟨T3, X3, e3, st3⟩ := getS2 X2 hx hZ hown (host := "") (Or.inl (own_w hw 1 rfl)) Via.refl e2 S_REAL (g := (mkF m 15 #[iv p1, iv ((p1 &&& (2147483647 : Int32)) % (5 : Int32)), rv aREAL, .unset, .unset] [])) rfl (hb hby at_15)
    refine own_st st3 ?_
    show own_E p e below _ T3 (mkF m 18 #[iv p1, iv ((p1 &&& (2147483647 : Int32)) % (5 : Int32)), rv aREAL, .unset, .unset] [.ref aREAL])
    refine own_st (fun t k => XS.astoreN X3.here hx rfl (hb hby at_18) rfl rfl (l' := #[iv p1, iv ((p1 &&& (2147483647 : Int32)) % (5 : Int32)), rv aREAL, rv aREAL, .unset]) rfl k) ?_
    show own_E p e below _ T3 (mkF m 19 #[iv p1, iv ((p1 &&& (2147483647 : Int32)) % (5 : Int32)), rv aREAL, rv aREAL, .unset] [])
    refine own_st (fun t k => XS.goto X3.here hx rfl (pc0 := 19) (pc' := 78) rfl (hb hby at_19) (by decide) (by decide) k) ?_
    show own_E p e below _ T3 (mkF m 78 #[iv p1, iv ((p1 &&& (2147483647 : Int32)) % (5 : Int32)), rv aREAL, rv aREAL, .unset] [])
    refine own_st (fun t k => XS.aloadN X3.here hx rfl (hb hby at_78) rfl rfl k) ?_
    show own_E p e below _ T3 (mkF m 79 #[iv p1, iv ((p1 &&& (2147483647 : Int32)) % (5 : Int32)), rv aREAL, rv aREAL, .unset] [.ref aREAL])
    obtain ⟨cq4, kq4, q4a, q4b, q4c⟩ := isOf hZ e3 E_REAL
    obtain ⟨_, _, ⟨T4, L4, k4, n4⟩, -, X4, ⟨Lc4, hQ4, l4, y4, z4⟩, st4⟩ := X3.virtualBack hx (y := own_y0) (z := own_y0) hown (mvT hZ (own_w hw 4 rfl)) (mvT hZ (own_w hw 5 rfl)) (notFace_of_selects (args := #[]) (mvT hZ (own_w hw 7 rfl))) (mvT hZ (own_w hw 7 rfl)) (mvT hZ (own_w hw 6 rfl)) (by decide) (backOf (W := 0) (own_carr_REAL l Z a0 hw [] aREAL aENUMERATION aSTRING aINTEGER aBOOLEAN h0 n0 Z0 S_REAL S_ENUMERATION S_STRING S_INTEGER S_BOOLEAN E_REAL E_ENUMERATION E_STRING E_INTEGER E_BOOLEAN ne_REAL_ENUMERATION ne_REAL_STRING ne_REAL_INTEGER ne_REAL_BOOLEAN ne_ENUMERATION_STRING ne_ENUMERATION_INTEGER ne_ENUMERATION_BOOLEAN ne_STRING_INTEGER ne_STRING_BOOLEAN ne_INTEGER_BOOLEAN) hZ (own_w hw 8 rfl) (own_w hw 2 rfl) (by decide) (by decide)) q4a q4c (g := (mkF m 79 #[iv p1, iv ((p1 &&& (2147483647 : Int32)) % (5 : Int32)), rv aREAL, rv aREAL, .unset] [.ref aREAL])) rfl (by rw [hml]; rfl) (Steps.refl _) (argsL := []) (rest := []) (lenOf own_pd_0 rfl) rfl (by show 2 * 0 + _ ≤ _; exact Nat.le_of_eq rfl) (hb hby at_79) (fun _ _ => ⟨rfl, e3, (by decide : 0 + 0 ≤ _), (by decide : 0 + 0 ≤ _)⟩)
    dsimp only [Pt.U, Pt.locs, Pt.cells, Pt.slots] at X4 l4 y4 z4 st4 hQ4
    subst l4 y4 z4
    obtain ⟨hR4, e4, rfl⟩ := hQ4
    obtain rfl := hR4
    refine own_tr st4 ?_
    show own_E p e below _ T4 (mkF m 82 #[iv p1, iv ((p1 &&& (2147483647 : Int32)) % (5 : Int32)), rv aREAL, rv aREAL, .unset] [.ref aREAL])
    refine own_st (fun t k => XS.astore X4.here hx rfl (hb hby at_82) rfl rfl (l' := #[iv p1, iv ((p1 &&& (2147483647 : Int32)) % (5 : Int32)), rv aREAL, rv aREAL, rv aREAL]) rfl k) ?_
    show own_E p e below _ T4 (mkF m 84 #[iv p1, iv ((p1 &&& (2147483647 : Int32)) % (5 : Int32)), rv aREAL, rv aREAL, rv aREAL] [])
    refine own_st (fun t k => XS.aload X4.here hx rfl (hb hby at_84) rfl rfl k) ?_
    show own_E p e below _ T4 (mkF m 86 #[iv p1, iv ((p1 &&& (2147483647 : Int32)) % (5 : Int32)), rv aREAL, rv aREAL, rv aREAL] [.ref aREAL])
    refine own_st (fun t k => XS.aloadN X4.here hx rfl (hb hby at_86) rfl rfl k) ?_
    show own_E p e below _ T4 (mkF m 87 #[iv p1, iv ((p1 &&& (2147483647 : Int32)) % (5 : Int32)), rv aREAL, rv aREAL, rv aREAL] [.ref aREAL, .ref aREAL])
    refine own_st (fun t k => Jvm.RoadKit.acmp (g := (mkF m 87 #[iv p1, iv ((p1 &&& (2147483647 : Int32)) % (5 : Int32)), rv aREAL, rv aREAL, rv aREAL] [.ref aREAL, .ref aREAL])) X4 hx rfl rfl rfl (pc0 := 87) (pc' := 90) (same := true) rfl (hb hby at_87) rfl (decide_eq_true rfl) (by decide) (by decide) k) ?_
    show own_E p e below _ T4 (mkF m 90 #[iv p1, iv ((p1 &&& (2147483647 : Int32)) % (5 : Int32)), rv aREAL, rv aREAL, rv aREAL] [])
    refine own_st (fun t k => XS.aload X4.here hx rfl (hb hby at_90) rfl rfl k) ?_
    show own_E p e below _ T4 (mkF m 92 #[iv p1, iv ((p1 &&& (2147483647 : Int32)) % (5 : Int32)), rv aREAL, rv aREAL, rv aREAL] [.ref aREAL])
    obtain ⟨cq5, kq5, q5a, q5b, q5c⟩ := isOf hZ e4 E_REAL
    obtain ⟨_, _, ⟨T5, L5, k5, n5⟩, -, X5, ⟨Lc5, hQ5, l5, y5, z5⟩, st5⟩ := X4.virtualBack hx (y := own_y0) (z := own_y0) hown (mvT hZ (own_w hw 4 rfl)) (mvT hZ (own_w hw 5 rfl)) (notFace_of_selects (args := #[]) (mvT hZ (own_w hw 7 rfl))) (mvT hZ (own_w hw 7 rfl)) (mvT hZ (own_w hw 6 rfl)) (by decide) (backOf (W := 0) (own_carr_REAL l Z a0 hw [] aREAL aENUMERATION aSTRING aINTEGER aBOOLEAN h0 n0 Z0 S_REAL S_ENUMERATION S_STRING S_INTEGER S_BOOLEAN E_REAL E_ENUMERATION E_STRING E_INTEGER E_BOOLEAN ne_REAL_ENUMERATION ne_REAL_STRING ne_REAL_INTEGER ne_REAL_BOOLEAN ne_ENUMERATION_STRING ne_ENUMERATION_INTEGER ne_ENUMERATION_BOOLEAN ne_STRING_INTEGER ne_STRING_BOOLEAN ne_INTEGER_BOOLEAN) hZ (own_w hw 8 rfl) (own_w hw 2 rfl) (by decide) (by decide)) q5a q5c (g := (mkF m 92 #[iv p1, iv ((p1 &&& (2147483647 : Int32)) % (5 : Int32)), rv aREAL, rv aREAL, rv aREAL] [.ref aREAL])) rfl (by rw [hml]; rfl) (Steps.refl _) (argsL := []) (rest := []) (lenOf own_pd_0 rfl) rfl (by show 2 * 0 + _ ≤ _; exact Nat.le_of_eq rfl) (hb hby at_92) (fun _ _ => ⟨rfl, e4, (by decide : 0 + 0 ≤ _), (by decide : 0 + 0 ≤ _)⟩)
    dsimp only [Pt.U, Pt.locs, Pt.cells, Pt.slots] at X5 l5 y5 z5 st5 hQ5
    subst l5 y5 z5
    obtain ⟨hR5, e5, rfl⟩ := hQ5
    obtain rfl := hR5
    refine own_tr st5 ?_
    show own_E p e below _ T5 (mkF m 95 #[iv p1, iv ((p1 &&& (2147483647 : Int32)) % (5 : Int32)), rv aREAL, rv aREAL, rv aREAL] [.ref aREAL])
    refine own_st (fun t k => XS.aload X5.here hx rfl (hb hby at_95) rfl rfl k) ?_
    show own_E p e below _ T5 (mkF m 97 #[iv p1, iv ((p1 &&& (2147483647 : Int32)) % (5 : Int32)), rv aREAL, rv aREAL, rv aREAL] [.ref aREAL, .ref aREAL])
    refine own_st (fun t k => Jvm.RoadKit.acmp (g := (mkF m 97 #[iv p1, iv ((p1 &&& (2147483647 : Int32)) % (5 : Int32)), rv aREAL, rv aREAL, rv aREAL] [.ref aREAL, .ref aREAL])) X5 hx rfl rfl rfl (pc0 := 97) (pc' := 100) (same := true) rfl (hb hby at_97) rfl (decide_eq_true rfl) (by decide) (by decide) k) ?_
    show own_E p e below _ T5 (mkF m 100 #[iv p1, iv ((p1 &&& (2147483647 : Int32)) % (5 : Int32)), rv aREAL, rv aREAL, rv aREAL] [])
    refine own_st (fun t k => XS.iconst X5.here hx rfl (hb hby at_100) k) ?_
    show own_E p e below _ T5 (mkF m 101 #[iv p1, iv ((p1 &&& (2147483647 : Int32)) % (5 : Int32)), rv aREAL, rv aREAL, rv aREAL] [.int 1])
    refine own_st (fun t k => XS.goto X5.here hx rfl (pc0 := 101) (pc' := 105) rfl (hb hby at_101) (by decide) (by decide) k) ?_
    show own_E p e below _ T5 (mkF m 105 #[iv p1, iv ((p1 &&& (2147483647 : Int32)) % (5 : Int32)), rv aREAL, rv aREAL, rv aREAL] [.int 1])
    refine own_retS X5 hx Bd.notSynchronized Bd.returns rfl (by decide) (hb hby at_105) (by decide) (by decide) ?_
    exact ⟨rfl, fun y hy => by simp at hy⟩
  · refine own_st (fun t k => XS.ifYes X0.here hx rfl (pc0 := 8) (pc' := 22) rfl (hb hby at_8) rfl ((if0 _ _).trans (feq hc1).2) (by decide) (by decide) k) ?_
    show own_E p e below _ s₁ (mkF m 22 #[iv p1, iv ((p1 &&& (2147483647 : Int32)) % (5 : Int32)), .unset, .unset, .unset] [])
    refine own_st (fun t k => XS.iloadN X0.here hx rfl (hb hby at_22) rfl k) ?_
    show own_E p e below _ s₁ (mkF m 23 #[iv p1, iv ((p1 &&& (2147483647 : Int32)) % (5 : Int32)), .unset, .unset, .unset] [.int ((p1 &&& (2147483647 : Int32)) % (5 : Int32))])
    refine own_st (fun t k => XS.iconst X0.here hx rfl (hb hby at_23) k) ?_
    show own_E p e below _ s₁ (mkF m 24 #[iv p1, iv ((p1 &&& (2147483647 : Int32)) % (5 : Int32)), .unset, .unset, .unset] [.int 1, .int ((p1 &&& (2147483647 : Int32)) % (5 : Int32))])
    by_cases hc6 : ((p1 &&& (2147483647 : Int32)) % (5 : Int32)) = (1 : Int32)
    · refine own_st (fun t k => XS.icmpNo X0.here hx rfl (hb hby at_24) rfl (teq hc6).2 k) ?_
      show own_E p e below _ s₁ (mkF m 27 #[iv p1, iv ((p1 &&& (2147483647 : Int32)) % (5 : Int32)), .unset, .unset, .unset] [])
      obtain ⟨T7, X7, e7, st7⟩ := getS2 X0 hx hZ hown (host := "") (Or.inl (own_w hw 13 rfl)) Via.refl e0 S_INTEGER (g := (mkF m 27 #[iv p1, iv ((p1 &&& (2147483647 : Int32)) % (5 : Int32)), .unset, .unset, .unset] [])) rfl (hb hby at_27)
      refine own_st st7 ?_
      show own_E p e below _ T7 (mkF m 30 #[iv p1, iv ((p1 &&& (2147483647 : Int32)) % (5 : Int32)), .unset, .unset, .unset] [.ref aINTEGER])
      refine own_st (fun t k => XS.astoreN X7.here hx rfl (hb hby at_30) rfl rfl (l' := #[iv p1, iv ((p1 &&& (2147483647 : Int32)) % (5 : Int32)), rv aINTEGER, .unset, .unset]) rfl k) ?_
      show own_E p e below _ T7 (mkF m 31 #[iv p1, iv ((p1 &&& (2147483647 : Int32)) % (5 : Int32)), rv aINTEGER, .unset, .unset] [])
      obtain ⟨T8, X8, e8, st8⟩ := getS2 X7 hx hZ hown (host := "") (Or.inl (own_w hw 13 rfl)) Via.refl e7 S_INTEGER (g := (mkF m 31 #[iv p1, iv ((p1 &&& (2147483647 : Int32)) % (5 : Int32)), rv aINTEGER, .unset, .unset] [])) rfl (hb hby at_31)
      refine own_st st8 ?_
      show own_E p e below _ T8 (mkF m 34 #[iv p1, iv ((p1 &&& (2147483647 : Int32)) % (5 : Int32)), rv aINTEGER, .unset, .unset] [.ref aINTEGER])
      refine own_st (fun t k => XS.astoreN X8.here hx rfl (hb hby at_34) rfl rfl (l' := #[iv p1, iv ((p1 &&& (2147483647 : Int32)) % (5 : Int32)), rv aINTEGER, rv aINTEGER, .unset]) rfl k) ?_
      show own_E p e below _ T8 (mkF m 35 #[iv p1, iv ((p1 &&& (2147483647 : Int32)) % (5 : Int32)), rv aINTEGER, rv aINTEGER, .unset] [])
      refine own_st (fun t k => XS.goto X8.here hx rfl (pc0 := 35) (pc' := 78) rfl (hb hby at_35) (by decide) (by decide) k) ?_
      show own_E p e below _ T8 (mkF m 78 #[iv p1, iv ((p1 &&& (2147483647 : Int32)) % (5 : Int32)), rv aINTEGER, rv aINTEGER, .unset] [])
      refine own_st (fun t k => XS.aloadN X8.here hx rfl (hb hby at_78) rfl rfl k) ?_
      show own_E p e below _ T8 (mkF m 79 #[iv p1, iv ((p1 &&& (2147483647 : Int32)) % (5 : Int32)), rv aINTEGER, rv aINTEGER, .unset] [.ref aINTEGER])
      obtain ⟨cq9, kq9, q9a, q9b, q9c⟩ := isOf hZ e8 E_INTEGER
      obtain ⟨_, _, ⟨T9, L9, k9, n9⟩, -, X9, ⟨Lc9, hQ9, l9, y9, z9⟩, st9⟩ := X8.virtualBack hx (y := own_y0) (z := own_y0) hown (mvT hZ (own_w hw 4 rfl)) (mvT hZ (own_w hw 5 rfl)) (notFace_of_selects (args := #[]) (mvT hZ (own_w hw 7 rfl))) (mvT hZ (own_w hw 7 rfl)) (mvT hZ (own_w hw 6 rfl)) (by decide) (backOf (W := 0) (own_carr_INTEGER l Z a0 hw [] aREAL aENUMERATION aSTRING aINTEGER aBOOLEAN h0 n0 Z0 S_REAL S_ENUMERATION S_STRING S_INTEGER S_BOOLEAN E_REAL E_ENUMERATION E_STRING E_INTEGER E_BOOLEAN ne_REAL_ENUMERATION ne_REAL_STRING ne_REAL_INTEGER ne_REAL_BOOLEAN ne_ENUMERATION_STRING ne_ENUMERATION_INTEGER ne_ENUMERATION_BOOLEAN ne_STRING_INTEGER ne_STRING_BOOLEAN ne_INTEGER_BOOLEAN) hZ (own_w hw 8 rfl) (own_w hw 2 rfl) (by decide) (by decide)) q9a q9c (g := (mkF m 79 #[iv p1, iv ((p1 &&& (2147483647 : Int32)) % (5 : Int32)), rv aINTEGER, rv aINTEGER, .unset] [.ref aINTEGER])) rfl (by rw [hml]; rfl) (Steps.refl _) (argsL := []) (rest := []) (lenOf own_pd_0 rfl) rfl (by show 2 * 0 + _ ≤ _; exact Nat.le_of_eq rfl) (hb hby at_79) (fun _ _ => ⟨rfl, e8, (by decide : 0 + 0 ≤ _), (by decide : 0 + 0 ≤ _)⟩)
      dsimp only [Pt.U, Pt.locs, Pt.cells, Pt.slots] at X9 l9 y9 z9 st9 hQ9
      subst l9 y9 z9
      obtain ⟨hR9, e9, rfl⟩ := hQ9
      obtain rfl := hR9
      refine own_tr st9 ?_
      show own_E p e below _ T9 (mkF m 82 #[iv p1, iv ((p1 &&& (2147483647 : Int32)) % (5 : Int32)), rv aINTEGER, rv aINTEGER, .unset] [.ref aINTEGER])
      refine own_st (fun t k => XS.astore X9.here hx rfl (hb hby at_82) rfl rfl (l' := #[iv p1, iv ((p1 &&& (2147483647 : Int32)) % (5 : Int32)), rv aINTEGER, rv aINTEGER, rv aINTEGER]) rfl k) ?_
      show own_E p e below _ T9 (mkF m 84 #[iv p1, iv ((p1 &&& (2147483647 : Int32)) % (5 : Int32)), rv aINTEGER, rv aINTEGER, rv aINTEGER] [])
      refine own_st (fun t k => XS.aload X9.here hx rfl (hb hby at_84) rfl rfl k) ?_
      show own_E p e below _ T9 (mkF m 86 #[iv p1, iv ((p1 &&& (2147483647 : Int32)) % (5 : Int32)), rv aINTEGER, rv aINTEGER, rv aINTEGER] [.ref aINTEGER])
      refine own_st (fun t k => XS.aloadN X9.here hx rfl (hb hby at_86) rfl rfl k) ?_
      show own_E p e below _ T9 (mkF m 87 #[iv p1, iv ((p1 &&& (2147483647 : Int32)) % (5 : Int32)), rv aINTEGER, rv aINTEGER, rv aINTEGER] [.ref aINTEGER, .ref aINTEGER])
      refine own_st (fun t k => Jvm.RoadKit.acmp (g := (mkF m 87 #[iv p1, iv ((p1 &&& (2147483647 : Int32)) % (5 : Int32)), rv aINTEGER, rv aINTEGER, rv aINTEGER] [.ref aINTEGER, .ref aINTEGER])) X9 hx rfl rfl rfl (pc0 := 87) (pc' := 90) (same := true) rfl (hb hby at_87) rfl (decide_eq_true rfl) (by decide) (by decide) k) ?_
      show own_E p e below _ T9 (mkF m 90 #[iv p1, iv ((p1 &&& (2147483647 : Int32)) % (5 : Int32)), rv aINTEGER, rv aINTEGER, rv aINTEGER] [])
      refine own_st (fun t k => XS.aload X9.here hx rfl (hb hby at_90) rfl rfl k) ?_
      show own_E p e below _ T9 (mkF m 92 #[iv p1, iv ((p1 &&& (2147483647 : Int32)) % (5 : Int32)), rv aINTEGER, rv aINTEGER, rv aINTEGER] [.ref aINTEGER])
      obtain ⟨cq10, kq10, q10a, q10b, q10c⟩ := isOf hZ e9 E_INTEGER
      obtain ⟨_, _, ⟨T10, L10, k10, n10⟩, -, X10, ⟨Lc10, hQ10, l10, y10, z10⟩, st10⟩ := X9.virtualBack hx (y := own_y0) (z := own_y0) hown (mvT hZ (own_w hw 4 rfl)) (mvT hZ (own_w hw 5 rfl)) (notFace_of_selects (args := #[]) (mvT hZ (own_w hw 7 rfl))) (mvT hZ (own_w hw 7 rfl)) (mvT hZ (own_w hw 6 rfl)) (by decide) (backOf (W := 0) (own_carr_INTEGER l Z a0 hw [] aREAL aENUMERATION aSTRING aINTEGER aBOOLEAN h0 n0 Z0 S_REAL S_ENUMERATION S_STRING S_INTEGER S_BOOLEAN E_REAL E_ENUMERATION E_STRING E_INTEGER E_BOOLEAN ne_REAL_ENUMERATION ne_REAL_STRING ne_REAL_INTEGER ne_REAL_BOOLEAN ne_ENUMERATION_STRING ne_ENUMERATION_INTEGER ne_ENUMERATION_BOOLEAN ne_STRING_INTEGER ne_STRING_BOOLEAN ne_INTEGER_BOOLEAN) hZ (own_w hw 8 rfl) (own_w hw 2 rfl) (by decide) (by decide)) q10a q10c (g := (mkF m 92 #[iv p1, iv ((p1 &&& (2147483647 : Int32)) % (5 : Int32)), rv aINTEGER, rv aINTEGER, rv aINTEGER] [.ref aINTEGER])) rfl (by rw [hml]; rfl) (Steps.refl _) (argsL := []) (rest := []) (lenOf own_pd_0 rfl) rfl (by show 2 * 0 + _ ≤ _; exact Nat.le_of_eq rfl) (hb hby at_92) (fun _ _ => ⟨rfl, e9, (by decide : 0 + 0 ≤ _), (by decide : 0 + 0 ≤ _)⟩)
      dsimp only [Pt.U, Pt.locs, Pt.cells, Pt.slots] at X10 l10 y10 z10 st10 hQ10
      subst l10 y10 z10
      obtain ⟨hR10, e10, rfl⟩ := hQ10
      obtain rfl := hR10
      refine own_tr st10 ?_
      show own_E p e below _ T10 (mkF m 95 #[iv p1, iv ((p1 &&& (2147483647 : Int32)) % (5 : Int32)), rv aINTEGER, rv aINTEGER, rv aINTEGER] [.ref aINTEGER])
      refine own_st (fun t k => XS.aload X10.here hx rfl (hb hby at_95) rfl rfl k) ?_
      show own_E p e below _ T10 (mkF m 97 #[iv p1, iv ((p1 &&& (2147483647 : Int32)) % (5 : Int32)), rv aINTEGER, rv aINTEGER, rv aINTEGER] [.ref aINTEGER, .ref aINTEGER])
      refine own_st (fun t k => Jvm.RoadKit.acmp (g := (mkF m 97 #[iv p1, iv ((p1 &&& (2147483647 : Int32)) % (5 : Int32)), rv aINTEGER, rv aINTEGER, rv aINTEGER] [.ref aINTEGER, .ref aINTEGER])) X10 hx rfl rfl rfl (pc0 := 97) (pc' := 100) (same := true) rfl (hb hby at_97) rfl (decide_eq_true rfl) (by decide) (by decide) k) ?_
      show own_E p e below _ T10 (mkF m 100 #[iv p1, iv ((p1 &&& (2147483647 : Int32)) % (5 : Int32)), rv aINTEGER, rv aINTEGER, rv aINTEGER] [])
      refine own_st (fun t k => XS.iconst X10.here hx rfl (hb hby at_100) k) ?_
      show own_E p e below _ T10 (mkF m 101 #[iv p1, iv ((p1 &&& (2147483647 : Int32)) % (5 : Int32)), rv aINTEGER, rv aINTEGER, rv aINTEGER] [.int 1])
      refine own_st (fun t k => XS.goto X10.here hx rfl (pc0 := 101) (pc' := 105) rfl (hb hby at_101) (by decide) (by decide) k) ?_
      show own_E p e below _ T10 (mkF m 105 #[iv p1, iv ((p1 &&& (2147483647 : Int32)) % (5 : Int32)), rv aINTEGER, rv aINTEGER, rv aINTEGER] [.int 1])
      refine own_retS X10 hx Bd.notSynchronized Bd.returns rfl (by decide) (hb hby at_105) (by decide) (by decide) ?_
      exact ⟨rfl, fun y hy => by simp at hy⟩
    · refine own_st (fun t k => XS.icmpYes X0.here hx rfl (pc0 := 24) (pc' := 38) rfl (hb hby at_24) rfl (feq hc6).2 (by decide) (by decide) k) ?_
      show own_E p e below _ s₁ (mkF m 38 #[iv p1, iv ((p1 &&& (2147483647 : Int32)) % (5 : Int32)), .unset, .unset, .unset] [])
      refine own_st (fun t k => XS.iloadN X0.here hx rfl (hb hby at_38) rfl k) ?_
      show own_E p e below _ s₁ (mkF m 39 #[iv p1, iv ((p1 &&& (2147483647 : Int32)) % (5 : Int32)), .unset, .unset, .unset] [.int ((p1 &&& (2147483647 : Int32)) % (5 : Int32))])
      refine own_st (fun t k => XS.iconst X0.here hx rfl (hb hby at_39) k) ?_
      show own_E p e below _ s₁ (mkF m 40 #[iv p1, iv ((p1 &&& (2147483647 : Int32)) % (5 : Int32)), .unset, .unset, .unset] [.int 2, .int ((p1 &&& (2147483647 : Int32)) % (5 : Int32))])
      by_cases hc11 : ((p1 &&& (2147483647 : Int32)) % (5 : Int32)) = (2 : Int32)
      · refine own_st (fun t k => XS.icmpNo X0.here hx rfl (hb hby at_40) rfl (teq hc11).2 k) ?_
        show own_E p e below _ s₁ (mkF m 43 #[iv p1, iv ((p1 &&& (2147483647 : Int32)) % (5 : Int32)), .unset, .unset, .unset] [])
        obtain ⟨T12, X12, e12, st12⟩ := getS2 X0 hx hZ hown (host := "") (Or.inl (own_w hw 17 rfl)) Via.refl e0 S_BOOLEAN (g := (mkF m 43 #[iv p1, iv ((p1 &&& (2147483647 : Int32)) % (5 : Int32)), .unset, .unset, .unset] [])) rfl (hb hby at_43)
        refine own_st st12 ?_
        show own_E p e below _ T12 (mkF m 46 #[iv p1, iv ((p1 &&& (2147483647 : Int32)) % (5 : Int32)), .unset, .unset, .unset] [.ref aBOOLEAN])
        refine own_st (fun t k => XS.astoreN X12.here hx rfl (hb hby at_46) rfl rfl (l' := #[iv p1, iv ((p1 &&& (2147483647 : Int32)) % (5 : Int32)), rv aBOOLEAN, .unset, .unset]) rfl k) ?_
        show own_E p e below _ T12 (mkF m 47 #[iv p1, iv ((p1 &&& (2147483647 : Int32)) % (5 : Int32)), rv aBOOLEAN, .unset, .unset] [])
        obtain ⟨T13, X13, e13, st13⟩ := getS2 X12 hx hZ hown (host := "") (Or.inl (own_w hw 17 rfl)) Via.refl e12 S_BOOLEAN (g := (mkF m 47 #[iv p1, iv ((p1 &&& (2147483647 : Int32)) % (5 : Int32)), rv aBOOLEAN, .unset, .unset] [])) rfl (hb hby at_47)
        refine own_st st13 ?_
        show own_E p e below _ T13 (mkF m 50 #[iv p1, iv ((p1 &&& (2147483647 : Int32)) % (5 : Int32)), rv aBOOLEAN, .unset, .unset] [.ref aBOOLEAN])
        refine own_st (fun t k => XS.astoreN X13.here hx rfl (hb hby at_50) rfl rfl (l' := #[iv p1, iv ((p1 &&& (2147483647 : Int32)) % (5 : Int32)), rv aBOOLEAN, rv aBOOLEAN, .unset]) rfl k) ?_
        show own_E p e below _ T13 (mkF m 51 #[iv p1, iv ((p1 &&& (2147483647 : Int32)) % (5 : Int32)), rv aBOOLEAN, rv aBOOLEAN, .unset] [])
        refine own_st (fun t k => XS.goto X13.here hx rfl (pc0 := 51) (pc' := 78) rfl (hb hby at_51) (by decide) (by decide) k) ?_
        show own_E p e below _ T13 (mkF m 78 #[iv p1, iv ((p1 &&& (2147483647 : Int32)) % (5 : Int32)), rv aBOOLEAN, rv aBOOLEAN, .unset] [])
        refine own_st (fun t k => XS.aloadN X13.here hx rfl (hb hby at_78) rfl rfl k) ?_
        show own_E p e below _ T13 (mkF m 79 #[iv p1, iv ((p1 &&& (2147483647 : Int32)) % (5 : Int32)), rv aBOOLEAN, rv aBOOLEAN, .unset] [.ref aBOOLEAN])
        obtain ⟨cq14, kq14, q14a, q14b, q14c⟩ := isOf hZ e13 E_BOOLEAN
        obtain ⟨_, _, ⟨T14, L14, k14, n14⟩, -, X14, ⟨Lc14, hQ14, l14, y14, z14⟩, st14⟩ := X13.virtualBack hx (y := own_y0) (z := own_y0) hown (mvT hZ (own_w hw 4 rfl)) (mvT hZ (own_w hw 5 rfl)) (notFace_of_selects (args := #[]) (mvT hZ (own_w hw 7 rfl))) (mvT hZ (own_w hw 7 rfl)) (mvT hZ (own_w hw 6 rfl)) (by decide) (backOf (W := 0) (own_carr_BOOLEAN l Z a0 hw [] aREAL aENUMERATION aSTRING aINTEGER aBOOLEAN h0 n0 Z0 S_REAL S_ENUMERATION S_STRING S_INTEGER S_BOOLEAN E_REAL E_ENUMERATION E_STRING E_INTEGER E_BOOLEAN ne_REAL_ENUMERATION ne_REAL_STRING ne_REAL_INTEGER ne_REAL_BOOLEAN ne_ENUMERATION_STRING ne_ENUMERATION_INTEGER ne_ENUMERATION_BOOLEAN ne_STRING_INTEGER ne_STRING_BOOLEAN ne_INTEGER_BOOLEAN) hZ (own_w hw 8 rfl) (own_w hw 2 rfl) (by decide) (by decide)) q14a q14c (g := (mkF m 79 #[iv p1, iv ((p1 &&& (2147483647 : Int32)) % (5 : Int32)), rv aBOOLEAN, rv aBOOLEAN, .unset] [.ref aBOOLEAN])) rfl (by rw [hml]; rfl) (Steps.refl _) (argsL := []) (rest := []) (lenOf own_pd_0 rfl) rfl (by show 2 * 0 + _ ≤ _; exact Nat.le_of_eq rfl) (hb hby at_79) (fun _ _ => ⟨rfl, e13, (by decide : 0 + 0 ≤ _), (by decide : 0 + 0 ≤ _)⟩)
        dsimp only [Pt.U, Pt.locs, Pt.cells, Pt.slots] at X14 l14 y14 z14 st14 hQ14
        subst l14 y14 z14
        obtain ⟨hR14, e14, rfl⟩ := hQ14
        obtain rfl := hR14
        refine own_tr st14 ?_
        show own_E p e below _ T14 (mkF m 82 #[iv p1, iv ((p1 &&& (2147483647 : Int32)) % (5 : Int32)), rv aBOOLEAN, rv aBOOLEAN, .unset] [.ref aBOOLEAN])
        refine own_st (fun t k => XS.astore X14.here hx rfl (hb hby at_82) rfl rfl (l' := #[iv p1, iv ((p1 &&& (2147483647 : Int32)) % (5 : Int32)), rv aBOOLEAN, rv aBOOLEAN, rv aBOOLEAN]) rfl k) ?_
        show own_E p e below _ T14 (mkF m 84 #[iv p1, iv ((p1 &&& (2147483647 : Int32)) % (5 : Int32)), rv aBOOLEAN, rv aBOOLEAN, rv aBOOLEAN] [])
        refine own_st (fun t k => XS.aload X14.here hx rfl (hb hby at_84) rfl rfl k) ?_
        show own_E p e below _ T14 (mkF m 86 #[iv p1, iv ((p1 &&& (2147483647 : Int32)) % (5 : Int32)), rv aBOOLEAN, rv aBOOLEAN, rv aBOOLEAN] [.ref aBOOLEAN])
        refine own_st (fun t k => XS.aloadN X14.here hx rfl (hb hby at_86) rfl rfl k) ?_
        show own_E p e below _ T14 (mkF m 87 #[iv p1, iv ((p1 &&& (2147483647 : Int32)) % (5 : Int32)), rv aBOOLEAN, rv aBOOLEAN, rv aBOOLEAN] [.ref aBOOLEAN, .ref aBOOLEAN])
        refine own_st (fun t k => Jvm.RoadKit.acmp (g := (mkF m 87 #[iv p1, iv ((p1 &&& (2147483647 : Int32)) % (5 : Int32)), rv aBOOLEAN, rv aBOOLEAN, rv aBOOLEAN] [.ref aBOOLEAN, .ref aBOOLEAN])) X14 hx rfl rfl rfl (pc0 := 87) (pc' := 90) (same := true) rfl (hb hby at_87) rfl (decide_eq_true rfl) (by decide) (by decide) k) ?_
        show own_E p e below _ T14 (mkF m 90 #[iv p1, iv ((p1 &&& (2147483647 : Int32)) % (5 : Int32)), rv aBOOLEAN, rv aBOOLEAN, rv aBOOLEAN] [])
        refine own_st (fun t k => XS.aload X14.here hx rfl (hb hby at_90) rfl rfl k) ?_
        show own_E p e below _ T14 (mkF m 92 #[iv p1, iv ((p1 &&& (2147483647 : Int32)) % (5 : Int32)), rv aBOOLEAN, rv aBOOLEAN, rv aBOOLEAN] [.ref aBOOLEAN])
        obtain ⟨cq15, kq15, q15a, q15b, q15c⟩ := isOf hZ e14 E_BOOLEAN
        obtain ⟨_, _, ⟨T15, L15, k15, n15⟩, -, X15, ⟨Lc15, hQ15, l15, y15, z15⟩, st15⟩ := X14.virtualBack hx (y := own_y0) (z := own_y0) hown (mvT hZ (own_w hw 4 rfl)) (mvT hZ (own_w hw 5 rfl)) (notFace_of_selects (args := #[]) (mvT hZ (own_w hw 7 rfl))) (mvT hZ (own_w hw 7 rfl)) (mvT hZ (own_w hw 6 rfl)) (by decide) (backOf (W := 0) (own_carr_BOOLEAN l Z a0 hw [] aREAL aENUMERATION aSTRING aINTEGER aBOOLEAN h0 n0 Z0 S_REAL S_ENUMERATION S_STRING S_INTEGER S_BOOLEAN E_REAL E_ENUMERATION E_STRING E_INTEGER E_BOOLEAN ne_REAL_ENUMERATION ne_REAL_STRING ne_REAL_INTEGER ne_REAL_BOOLEAN ne_ENUMERATION_STRING ne_ENUMERATION_INTEGER ne_ENUMERATION_BOOLEAN ne_STRING_INTEGER ne_STRING_BOOLEAN ne_INTEGER_BOOLEAN) hZ (own_w hw 8 rfl) (own_w hw 2 rfl) (by decide) (by decide)) q15a q15c (g := (mkF m 92 #[iv p1, iv ((p1 &&& (2147483647 : Int32)) % (5 : Int32)), rv aBOOLEAN, rv aBOOLEAN, rv aBOOLEAN] [.ref aBOOLEAN])) rfl (by rw [hml]; rfl) (Steps.refl _) (argsL := []) (rest := []) (lenOf own_pd_0 rfl) rfl (by show 2 * 0 + _ ≤ _; exact Nat.le_of_eq rfl) (hb hby at_92) (fun _ _ => ⟨rfl, e14, (by decide : 0 + 0 ≤ _), (by decide : 0 + 0 ≤ _)⟩)
        dsimp only [Pt.U, Pt.locs, Pt.cells, Pt.slots] at X15 l15 y15 z15 st15 hQ15
        subst l15 y15 z15
        obtain ⟨hR15, e15, rfl⟩ := hQ15
        obtain rfl := hR15
        refine own_tr st15 ?_
        show own_E p e below _ T15 (mkF m 95 #[iv p1, iv ((p1 &&& (2147483647 : Int32)) % (5 : Int32)), rv aBOOLEAN, rv aBOOLEAN, rv aBOOLEAN] [.ref aBOOLEAN])
        refine own_st (fun t k => XS.aload X15.here hx rfl (hb hby at_95) rfl rfl k) ?_
        show own_E p e below _ T15 (mkF m 97 #[iv p1, iv ((p1 &&& (2147483647 : Int32)) % (5 : Int32)), rv aBOOLEAN, rv aBOOLEAN, rv aBOOLEAN] [.ref aBOOLEAN, .ref aBOOLEAN])
        refine own_st (fun t k => Jvm.RoadKit.acmp (g := (mkF m 97 #[iv p1, iv ((p1 &&& (2147483647 : Int32)) % (5 : Int32)), rv aBOOLEAN, rv aBOOLEAN, rv aBOOLEAN] [.ref aBOOLEAN, .ref aBOOLEAN])) X15 hx rfl rfl rfl (pc0 := 97) (pc' := 100) (same := true) rfl (hb hby at_97) rfl (decide_eq_true rfl) (by decide) (by decide) k) ?_
        show own_E p e below _ T15 (mkF m 100 #[iv p1, iv ((p1 &&& (2147483647 : Int32)) % (5 : Int32)), rv aBOOLEAN, rv aBOOLEAN, rv aBOOLEAN] [])
        refine own_st (fun t k => XS.iconst X15.here hx rfl (hb hby at_100) k) ?_
        show own_E p e below _ T15 (mkF m 101 #[iv p1, iv ((p1 &&& (2147483647 : Int32)) % (5 : Int32)), rv aBOOLEAN, rv aBOOLEAN, rv aBOOLEAN] [.int 1])
        refine own_st (fun t k => XS.goto X15.here hx rfl (pc0 := 101) (pc' := 105) rfl (hb hby at_101) (by decide) (by decide) k) ?_
        show own_E p e below _ T15 (mkF m 105 #[iv p1, iv ((p1 &&& (2147483647 : Int32)) % (5 : Int32)), rv aBOOLEAN, rv aBOOLEAN, rv aBOOLEAN] [.int 1])
        refine own_retS X15 hx Bd.notSynchronized Bd.returns rfl (by decide) (hb hby at_105) (by decide) (by decide) ?_
        exact ⟨rfl, fun y hy => by simp at hy⟩
      · refine own_st (fun t k => XS.icmpYes X0.here hx rfl (pc0 := 40) (pc' := 54) rfl (hb hby at_40) rfl (feq hc11).2 (by decide) (by decide) k) ?_
        show own_E p e below _ s₁ (mkF m 54 #[iv p1, iv ((p1 &&& (2147483647 : Int32)) % (5 : Int32)), .unset, .unset, .unset] [])
        refine own_st (fun t k => XS.iloadN X0.here hx rfl (hb hby at_54) rfl k) ?_
        show own_E p e below _ s₁ (mkF m 55 #[iv p1, iv ((p1 &&& (2147483647 : Int32)) % (5 : Int32)), .unset, .unset, .unset] [.int ((p1 &&& (2147483647 : Int32)) % (5 : Int32))])
        refine own_st (fun t k => XS.iconst X0.here hx rfl (hb hby at_55) k) ?_
        show own_E p e below _ s₁ (mkF m 56 #[iv p1, iv ((p1 &&& (2147483647 : Int32)) % (5 : Int32)), .unset, .unset, .unset] [.int 3, .int ((p1 &&& (2147483647 : Int32)) % (5 : Int32))])
        by_cases hc16 : ((p1 &&& (2147483647 : Int32)) % (5 : Int32)) = (3 : Int32)
        · refine own_st (fun t k => XS.icmpNo X0.here hx rfl (hb hby at_56) rfl (teq hc16).2 k) ?_
          show own_E p e below _ s₁ (mkF m 59 #[iv p1, iv ((p1 &&& (2147483647 : Int32)) % (5 : Int32)), .unset, .unset, .unset] [])
          obtain ⟨T17, X17, e17, st17⟩ := getS2 X0 hx hZ hown (host := "") (Or.inl (own_w hw 11 rfl)) Via.refl e0 S_STRING (g := (mkF m 59 #[iv p1, iv ((p1 &&& (2147483647 : Int32)) % (5 : Int32)), .unset, .unset, .unset] [])) rfl (hb hby at_59)
          refine own_st st17 ?_
          show own_E p e below _ T17 (mkF m 62 #[iv p1, iv ((p1 &&& (2147483647 : Int32)) % (5 : Int32)), .unset, .unset, .unset] [.ref aSTRING])
          refine own_st (fun t k => XS.astoreN X17.here hx rfl (hb hby at_62) rfl rfl (l' := #[iv p1, iv ((p1 &&& (2147483647 : Int32)) % (5 : Int32)), rv aSTRING, .unset, .unset]) rfl k) ?_
          show own_E p e below _ T17 (mkF m 63 #[iv p1, iv ((p1 &&& (2147483647 : Int32)) % (5 : Int32)), rv aSTRING, .unset, .unset] [])
          obtain ⟨T18, X18, e18, st18⟩ := getS2 X17 hx hZ hown (host := "") (Or.inl (own_w hw 11 rfl)) Via.refl e17 S_STRING (g := (mkF m 63 #[iv p1, iv ((p1 &&& (2147483647 : Int32)) % (5 : Int32)), rv aSTRING, .unset, .unset] [])) rfl (hb hby at_63)
          refine own_st st18 ?_
          show own_E p e below _ T18 (mkF m 66 #[iv p1, iv ((p1 &&& (2147483647 : Int32)) % (5 : Int32)), rv aSTRING, .unset, .unset] [.ref aSTRING])
          refine own_st (fun t k => XS.astoreN X18.here hx rfl (hb hby at_66) rfl rfl (l' := #[iv p1, iv ((p1 &&& (2147483647 : Int32)) % (5 : Int32)), rv aSTRING, rv aSTRING, .unset]) rfl k) ?_
          show own_E p e below _ T18 (mkF m 67 #[iv p1, iv ((p1 &&& (2147483647 : Int32)) % (5 : Int32)), rv aSTRING, rv aSTRING, .unset] [])
          refine own_st (fun t k => XS.goto X18.here hx rfl (pc0 := 67) (pc' := 78) rfl (hb hby at_67) (by decide) (by decide) k) ?_
          show own_E p e below _ T18 (mkF m 78 #[iv p1, iv ((p1 &&& (2147483647 : Int32)) % (5 : Int32)), rv aSTRING, rv aSTRING, .unset] [])
          refine own_st (fun t k => XS.aloadN X18.here hx rfl (hb hby at_78) rfl rfl k) ?_
          show own_E p e below _ T18 (mkF m 79 #[iv p1, iv ((p1 &&& (2147483647 : Int32)) % (5 : Int32)), rv aSTRING, rv aSTRING, .unset] [.ref aSTRING])
          obtain ⟨cq19, kq19, q19a, q19b, q19c⟩ := isOf hZ e18 E_STRING
          obtain ⟨_, _, ⟨T19, L19, k19, n19⟩, -, X19, ⟨Lc19, hQ19, l19, y19, z19⟩, st19⟩ := X18.virtualBack hx (y := own_y0) (z := own_y0) hown (mvT hZ (own_w hw 4 rfl)) (mvT hZ (own_w hw 5 rfl)) (notFace_of_selects (args := #[]) (mvT hZ (own_w hw 7 rfl))) (mvT hZ (own_w hw 7 rfl)) (mvT hZ (own_w hw 6 rfl)) (by decide) (backOf (W := 0) (own_carr_STRING l Z a0 hw [] aREAL aENUMERATION aSTRING aINTEGER aBOOLEAN h0 n0 Z0 S_REAL S_ENUMERATION S_STRING S_INTEGER S_BOOLEAN E_REAL E_ENUMERATION E_STRING E_INTEGER E_BOOLEAN ne_REAL_ENUMERATION ne_REAL_STRING ne_REAL_INTEGER ne_REAL_BOOLEAN ne_ENUMERATION_STRING ne_ENUMERATION_INTEGER ne_ENUMERATION_BOOLEAN ne_STRING_INTEGER ne_STRING_BOOLEAN ne_INTEGER_BOOLEAN) hZ (own_w hw 8 rfl) (own_w hw 2 rfl) (by decide) (by decide)) q19a q19c (g := (mkF m 79 #[iv p1, iv ((p1 &&& (2147483647 : Int32)) % (5 : Int32)), rv aSTRING, rv aSTRING, .unset] [.ref aSTRING])) rfl (by rw [hml]; rfl) (Steps.refl _) (argsL := []) (rest := []) (lenOf own_pd_0 rfl) rfl (by show 2 * 0 + _ ≤ _; exact Nat.le_of_eq rfl) (hb hby at_79) (fun _ _ => ⟨rfl, e18, (by decide : 0 + 0 ≤ _), (by decide : 0 + 0 ≤ _)⟩)
          dsimp only [Pt.U, Pt.locs, Pt.cells, Pt.slots] at X19 l19 y19 z19 st19 hQ19
          subst l19 y19 z19
          obtain ⟨hR19, e19, rfl⟩ := hQ19
          obtain rfl := hR19
          refine own_tr st19 ?_
          show own_E p e below _ T19 (mkF m 82 #[iv p1, iv ((p1 &&& (2147483647 : Int32)) % (5 : Int32)), rv aSTRING, rv aSTRING, .unset] [.ref aSTRING])
          refine own_st (fun t k => XS.astore X19.here hx rfl (hb hby at_82) rfl rfl (l' := #[iv p1, iv ((p1 &&& (2147483647 : Int32)) % (5 : Int32)), rv aSTRING, rv aSTRING, rv aSTRING]) rfl k) ?_
          show own_E p e below _ T19 (mkF m 84 #[iv p1, iv ((p1 &&& (2147483647 : Int32)) % (5 : Int32)), rv aSTRING, rv aSTRING, rv aSTRING] [])
          refine own_st (fun t k => XS.aload X19.here hx rfl (hb hby at_84) rfl rfl k) ?_
          show own_E p e below _ T19 (mkF m 86 #[iv p1, iv ((p1 &&& (2147483647 : Int32)) % (5 : Int32)), rv aSTRING, rv aSTRING, rv aSTRING] [.ref aSTRING])
          refine own_st (fun t k => XS.aloadN X19.here hx rfl (hb hby at_86) rfl rfl k) ?_
          show own_E p e below _ T19 (mkF m 87 #[iv p1, iv ((p1 &&& (2147483647 : Int32)) % (5 : Int32)), rv aSTRING, rv aSTRING, rv aSTRING] [.ref aSTRING, .ref aSTRING])
          refine own_st (fun t k => Jvm.RoadKit.acmp (g := (mkF m 87 #[iv p1, iv ((p1 &&& (2147483647 : Int32)) % (5 : Int32)), rv aSTRING, rv aSTRING, rv aSTRING] [.ref aSTRING, .ref aSTRING])) X19 hx rfl rfl rfl (pc0 := 87) (pc' := 90) (same := true) rfl (hb hby at_87) rfl (decide_eq_true rfl) (by decide) (by decide) k) ?_
          show own_E p e below _ T19 (mkF m 90 #[iv p1, iv ((p1 &&& (2147483647 : Int32)) % (5 : Int32)), rv aSTRING, rv aSTRING, rv aSTRING] [])
          refine own_st (fun t k => XS.aload X19.here hx rfl (hb hby at_90) rfl rfl k) ?_
          show own_E p e below _ T19 (mkF m 92 #[iv p1, iv ((p1 &&& (2147483647 : Int32)) % (5 : Int32)), rv aSTRING, rv aSTRING, rv aSTRING] [.ref aSTRING])
          obtain ⟨cq20, kq20, q20a, q20b, q20c⟩ := isOf hZ e19 E_STRING
          obtain ⟨_, _, ⟨T20, L20, k20, n20⟩, -, X20, ⟨Lc20, hQ20, l20, y20, z20⟩, st20⟩ := X19.virtualBack hx (y := own_y0) (z := own_y0) hown (mvT hZ (own_w hw 4 rfl)) (mvT hZ (own_w hw 5 rfl)) (notFace_of_selects (args := #[]) (mvT hZ (own_w hw 7 rfl))) (mvT hZ (own_w hw 7 rfl)) (mvT hZ (own_w hw 6 rfl)) (by decide) (backOf (W := 0) (own_carr_STRING l Z a0 hw [] aREAL aENUMERATION aSTRING aINTEGER aBOOLEAN h0 n0 Z0 S_REAL S_ENUMERATION S_STRING S_INTEGER S_BOOLEAN E_REAL E_ENUMERATION E_STRING E_INTEGER E_BOOLEAN ne_REAL_ENUMERATION ne_REAL_STRING ne_REAL_INTEGER ne_REAL_BOOLEAN ne_ENUMERATION_STRING ne_ENUMERATION_INTEGER ne_ENUMERATION_BOOLEAN ne_STRING_INTEGER ne_STRING_BOOLEAN ne_INTEGER_BOOLEAN) hZ (own_w hw 8 rfl) (own_w hw 2 rfl) (by decide) (by decide)) q20a q20c (g := (mkF m 92 #[iv p1, iv ((p1 &&& (2147483647 : Int32)) % (5 : Int32)), rv aSTRING, rv aSTRING, rv aSTRING] [.ref aSTRING])) rfl (by rw [hml]; rfl) (Steps.refl _) (argsL := []) (rest := []) (lenOf own_pd_0 rfl) rfl (by show 2 * 0 + _ ≤ _; exact Nat.le_of_eq rfl) (hb hby at_92) (fun _ _ => ⟨rfl, e19, (by decide : 0 + 0 ≤ _), (by decide : 0 + 0 ≤ _)⟩)
          dsimp only [Pt.U, Pt.locs, Pt.cells, Pt.slots] at X20 l20 y20 z20 st20 hQ20
          subst l20 y20 z20
          obtain ⟨hR20, e20, rfl⟩ := hQ20
          obtain rfl := hR20
          refine own_tr st20 ?_
          show own_E p e below _ T20 (mkF m 95 #[iv p1, iv ((p1 &&& (2147483647 : Int32)) % (5 : Int32)), rv aSTRING, rv aSTRING, rv aSTRING] [.ref aSTRING])
          refine own_st (fun t k => XS.aload X20.here hx rfl (hb hby at_95) rfl rfl k) ?_
          show own_E p e below _ T20 (mkF m 97 #[iv p1, iv ((p1 &&& (2147483647 : Int32)) % (5 : Int32)), rv aSTRING, rv aSTRING, rv aSTRING] [.ref aSTRING, .ref aSTRING])
          refine own_st (fun t k => Jvm.RoadKit.acmp (g := (mkF m 97 #[iv p1, iv ((p1 &&& (2147483647 : Int32)) % (5 : Int32)), rv aSTRING, rv aSTRING, rv aSTRING] [.ref aSTRING, .ref aSTRING])) X20 hx rfl rfl rfl (pc0 := 97) (pc' := 100) (same := true) rfl (hb hby at_97) rfl (decide_eq_true rfl) (by decide) (by decide) k) ?_
          show own_E p e below _ T20 (mkF m 100 #[iv p1, iv ((p1 &&& (2147483647 : Int32)) % (5 : Int32)), rv aSTRING, rv aSTRING, rv aSTRING] [])
          refine own_st (fun t k => XS.iconst X20.here hx rfl (hb hby at_100) k) ?_
          show own_E p e below _ T20 (mkF m 101 #[iv p1, iv ((p1 &&& (2147483647 : Int32)) % (5 : Int32)), rv aSTRING, rv aSTRING, rv aSTRING] [.int 1])
          refine own_st (fun t k => XS.goto X20.here hx rfl (pc0 := 101) (pc' := 105) rfl (hb hby at_101) (by decide) (by decide) k) ?_
          show own_E p e below _ T20 (mkF m 105 #[iv p1, iv ((p1 &&& (2147483647 : Int32)) % (5 : Int32)), rv aSTRING, rv aSTRING, rv aSTRING] [.int 1])
          refine own_retS X20 hx Bd.notSynchronized Bd.returns rfl (by decide) (hb hby at_105) (by decide) (by decide) ?_
          exact ⟨rfl, fun y hy => by simp at hy⟩
        · refine own_st (fun t k => XS.icmpYes X0.here hx rfl (pc0 := 56) (pc' := 70) rfl (hb hby at_56) rfl (feq hc16).2 (by decide) (by decide) k) ?_
          show own_E p e below _ s₁ (mkF m 70 #[iv p1, iv ((p1 &&& (2147483647 : Int32)) % (5 : Int32)), .unset, .unset, .unset] [])
          obtain ⟨T21, X21, e21, st21⟩ := getS2 X0 hx hZ hown (host := "") (Or.inl (own_w hw 15 rfl)) Via.refl e0 S_ENUMERATION (g := (mkF m 70 #[iv p1, iv ((p1 &&& (2147483647 : Int32)) % (5 : Int32)), .unset, .unset, .unset] [])) rfl (hb hby at_70)
          refine own_st st21 ?_
          show own_E p e below _ T21 (mkF m 73 #[iv p1, iv ((p1 &&& (2147483647 : Int32)) % (5 : Int32)), .unset, .unset, .unset] [.ref aENUMERATION])
          refine own_st (fun t k => XS.astoreN X21.here hx rfl (hb hby at_73) rfl rfl (l' := #[iv p1, iv ((p1 &&& (2147483647 : Int32)) % (5 : Int32)), rv aENUMERATION, .unset, .unset]) rfl k) ?_
          show own_E p e below _ T21 (mkF m 74 #[iv p1, iv ((p1 &&& (2147483647 : Int32)) % (5 : Int32)), rv aENUMERATION, .unset, .unset] [])
          obtain ⟨T22, X22, e22, st22⟩ := getS2 X21 hx hZ hown (host := "") (Or.inl (own_w hw 13 rfl)) Via.refl e21 S_INTEGER (g := (mkF m 74 #[iv p1, iv ((p1 &&& (2147483647 : Int32)) % (5 : Int32)), rv aENUMERATION, .unset, .unset] [])) rfl (hb hby at_74)
          refine own_st st22 ?_
          show own_E p e below _ T22 (mkF m 77 #[iv p1, iv ((p1 &&& (2147483647 : Int32)) % (5 : Int32)), rv aENUMERATION, .unset, .unset] [.ref aINTEGER])
          refine own_st (fun t k => XS.astoreN X22.here hx rfl (hb hby at_77) rfl rfl (l' := #[iv p1, iv ((p1 &&& (2147483647 : Int32)) % (5 : Int32)), rv aENUMERATION, rv aINTEGER, .unset]) rfl k) ?_
          show own_E p e below _ T22 (mkF m 78 #[iv p1, iv ((p1 &&& (2147483647 : Int32)) % (5 : Int32)), rv aENUMERATION, rv aINTEGER, .unset] [])
          refine own_st (fun t k => XS.aloadN X22.here hx rfl (hb hby at_78) rfl rfl k) ?_
          show own_E p e below _ T22 (mkF m 79 #[iv p1, iv ((p1 &&& (2147483647 : Int32)) % (5 : Int32)), rv aENUMERATION, rv aINTEGER, .unset] [.ref aENUMERATION])
          obtain ⟨cq23, kq23, q23a, q23b, q23c⟩ := isOf hZ e22 E_ENUMERATION
          obtain ⟨_, _, ⟨T23, L23, k23, n23⟩, -, X23, ⟨Lc23, hQ23, l23, y23, z23⟩, st23⟩ := X22.virtualBack hx (y := own_y0) (z := own_y0) hown (mvT hZ (own_w hw 4 rfl)) (mvT hZ (own_w hw 5 rfl)) (notFace_of_selects (args := #[]) (mvT hZ (own_w hw 7 rfl))) (mvT hZ (own_w hw 7 rfl)) (mvT hZ (own_w hw 6 rfl)) (by decide) (backOf (W := 0) (own_carr_ENUMERATION l Z a0 hw [] aREAL aENUMERATION aSTRING aINTEGER aBOOLEAN h0 n0 Z0 S_REAL S_ENUMERATION S_STRING S_INTEGER S_BOOLEAN E_REAL E_ENUMERATION E_STRING E_INTEGER E_BOOLEAN ne_REAL_ENUMERATION ne_REAL_STRING ne_REAL_INTEGER ne_REAL_BOOLEAN ne_ENUMERATION_STRING ne_ENUMERATION_INTEGER ne_ENUMERATION_BOOLEAN ne_STRING_INTEGER ne_STRING_BOOLEAN ne_INTEGER_BOOLEAN) hZ (own_w hw 8 rfl) (own_w hw 2 rfl) (by decide) (by decide)) q23a q23c (g := (mkF m 79 #[iv p1, iv ((p1 &&& (2147483647 : Int32)) % (5 : Int32)), rv aENUMERATION, rv aINTEGER, .unset] [.ref aENUMERATION])) rfl (by rw [hml]; rfl) (Steps.refl _) (argsL := []) (rest := []) (lenOf own_pd_0 rfl) rfl (by show 2 * 0 + _ ≤ _; exact Nat.le_of_eq rfl) (hb hby at_79) (fun _ _ => ⟨rfl, e22, (by decide : 0 + 0 ≤ _), (by decide : 0 + 0 ≤ _)⟩)
          dsimp only [Pt.U, Pt.locs, Pt.cells, Pt.slots] at X23 l23 y23 z23 st23 hQ23
          subst l23 y23 z23
          obtain ⟨hR23, e23, rfl⟩ := hQ23
          obtain rfl := hR23
          refine own_tr st23 ?_
          show own_E p e below _ T23 (mkF m 82 #[iv p1, iv ((p1 &&& (2147483647 : Int32)) % (5 : Int32)), rv aENUMERATION, rv aINTEGER, .unset] [.ref aINTEGER])
          refine own_st (fun t k => XS.astore X23.here hx rfl (hb hby at_82) rfl rfl (l' := #[iv p1, iv ((p1 &&& (2147483647 : Int32)) % (5 : Int32)), rv aENUMERATION, rv aINTEGER, rv aINTEGER]) rfl k) ?_
          show own_E p e below _ T23 (mkF m 84 #[iv p1, iv ((p1 &&& (2147483647 : Int32)) % (5 : Int32)), rv aENUMERATION, rv aINTEGER, rv aINTEGER] [])
          refine own_st (fun t k => XS.aload X23.here hx rfl (hb hby at_84) rfl rfl k) ?_
          show own_E p e below _ T23 (mkF m 86 #[iv p1, iv ((p1 &&& (2147483647 : Int32)) % (5 : Int32)), rv aENUMERATION, rv aINTEGER, rv aINTEGER] [.ref aINTEGER])
          refine own_st (fun t k => XS.aloadN X23.here hx rfl (hb hby at_86) rfl rfl k) ?_
          show own_E p e below _ T23 (mkF m 87 #[iv p1, iv ((p1 &&& (2147483647 : Int32)) % (5 : Int32)), rv aENUMERATION, rv aINTEGER, rv aINTEGER] [.ref aINTEGER, .ref aINTEGER])
          refine own_st (fun t k => Jvm.RoadKit.acmp (g := (mkF m 87 #[iv p1, iv ((p1 &&& (2147483647 : Int32)) % (5 : Int32)), rv aENUMERATION, rv aINTEGER, rv aINTEGER] [.ref aINTEGER, .ref aINTEGER])) X23 hx rfl rfl rfl (pc0 := 87) (pc' := 90) (same := true) rfl (hb hby at_87) rfl (decide_eq_true rfl) (by decide) (by decide) k) ?_
          show own_E p e below _ T23 (mkF m 90 #[iv p1, iv ((p1 &&& (2147483647 : Int32)) % (5 : Int32)), rv aENUMERATION, rv aINTEGER, rv aINTEGER] [])
          refine own_st (fun t k => XS.aload X23.here hx rfl (hb hby at_90) rfl rfl k) ?_
          show own_E p e below _ T23 (mkF m 92 #[iv p1, iv ((p1 &&& (2147483647 : Int32)) % (5 : Int32)), rv aENUMERATION, rv aINTEGER, rv aINTEGER] [.ref aINTEGER])
          obtain ⟨cq24, kq24, q24a, q24b, q24c⟩ := isOf hZ e23 E_INTEGER
          obtain ⟨_, _, ⟨T24, L24, k24, n24⟩, -, X24, ⟨Lc24, hQ24, l24, y24, z24⟩, st24⟩ := X23.virtualBack hx (y := own_y0) (z := own_y0) hown (mvT hZ (own_w hw 4 rfl)) (mvT hZ (own_w hw 5 rfl)) (notFace_of_selects (args := #[]) (mvT hZ (own_w hw 7 rfl))) (mvT hZ (own_w hw 7 rfl)) (mvT hZ (own_w hw 6 rfl)) (by decide) (backOf (W := 0) (own_carr_INTEGER l Z a0 hw [] aREAL aENUMERATION aSTRING aINTEGER aBOOLEAN h0 n0 Z0 S_REAL S_ENUMERATION S_STRING S_INTEGER S_BOOLEAN E_REAL E_ENUMERATION E_STRING E_INTEGER E_BOOLEAN ne_REAL_ENUMERATION ne_REAL_STRING ne_REAL_INTEGER ne_REAL_BOOLEAN ne_ENUMERATION_STRING ne_ENUMERATION_INTEGER ne_ENUMERATION_BOOLEAN ne_STRING_INTEGER ne_STRING_BOOLEAN ne_INTEGER_BOOLEAN) hZ (own_w hw 8 rfl) (own_w hw 2 rfl) (by decide) (by decide)) q24a q24c (g := (mkF m 92 #[iv p1, iv ((p1 &&& (2147483647 : Int32)) % (5 : Int32)), rv aENUMERATION, rv aINTEGER, rv aINTEGER] [.ref aINTEGER])) rfl (by rw [hml]; rfl) (Steps.refl _) (argsL := []) (rest := []) (lenOf own_pd_0 rfl) rfl (by show 2 * 0 + _ ≤ _; exact Nat.le_of_eq rfl) (hb hby at_92) (fun _ _ => ⟨rfl, e23, (by decide : 0 + 0 ≤ _), (by decide : 0 + 0 ≤ _)⟩)
          dsimp only [Pt.U, Pt.locs, Pt.cells, Pt.slots] at X24 l24 y24 z24 st24 hQ24
          subst l24 y24 z24
          obtain ⟨hR24, e24, rfl⟩ := hQ24
          obtain rfl := hR24
          refine own_tr st24 ?_
          show own_E p e below _ T24 (mkF m 95 #[iv p1, iv ((p1 &&& (2147483647 : Int32)) % (5 : Int32)), rv aENUMERATION, rv aINTEGER, rv aINTEGER] [.ref aINTEGER])
          refine own_st (fun t k => XS.aload X24.here hx rfl (hb hby at_95) rfl rfl k) ?_
          show own_E p e below _ T24 (mkF m 97 #[iv p1, iv ((p1 &&& (2147483647 : Int32)) % (5 : Int32)), rv aENUMERATION, rv aINTEGER, rv aINTEGER] [.ref aINTEGER, .ref aINTEGER])
          refine own_st (fun t k => Jvm.RoadKit.acmp (g := (mkF m 97 #[iv p1, iv ((p1 &&& (2147483647 : Int32)) % (5 : Int32)), rv aENUMERATION, rv aINTEGER, rv aINTEGER] [.ref aINTEGER, .ref aINTEGER])) X24 hx rfl rfl rfl (pc0 := 97) (pc' := 100) (same := true) rfl (hb hby at_97) rfl (decide_eq_true rfl) (by decide) (by decide) k) ?_
          show own_E p e below _ T24 (mkF m 100 #[iv p1, iv ((p1 &&& (2147483647 : Int32)) % (5 : Int32)), rv aENUMERATION, rv aINTEGER, rv aINTEGER] [])
          refine own_st (fun t k => XS.iconst X24.here hx rfl (hb hby at_100) k) ?_
          show own_E p e below _ T24 (mkF m 101 #[iv p1, iv ((p1 &&& (2147483647 : Int32)) % (5 : Int32)), rv aENUMERATION, rv aINTEGER, rv aINTEGER] [.int 1])
          refine own_st (fun t k => XS.goto X24.here hx rfl (pc0 := 101) (pc' := 105) rfl (hb hby at_101) (by decide) (by decide) k) ?_
          show own_E p e below _ T24 (mkF m 105 #[iv p1, iv ((p1 &&& (2147483647 : Int32)) % (5 : Int32)), rv aENUMERATION, rv aINTEGER, rv aINTEGER] [.int 1])
          refine own_retS X24 hx Bd.notSynchronized Bd.returns rfl (by decide) (hb hby at_105) (by decide) (by decide) ?_
          exact ⟨rfl, fun y hy => by simp at hy⟩
set_option maxRecDepth 65536 in
set_option maxHeartbeats 40000000 in
theorem comes_1 {Post : Tables → Env → Array Value → State → Outcome → State → Prop} (hpost : ∀ tb e args s v u, (limb_1_1.after args s (.returned v) u = true ∧ limb_1_2.after args s (.returned v) u = true ∧ True) → FrameEnd s (.returned v) u (Jvm.fieldLocs frame_1_writes args s ++ Jvm.arrayLocs frame_1_arrays args s ++ Jvm.staticLocs frame_1_statics s) 0 0 → Post tb e args s (.returned v) u) :
    ArmFor flags0 classFile x code maxLocals ret World_1 tables_1 room_1 Calls_1 rest_1 Pre_1 Post := by
  intro l hfl _ _ p e ha hc hk s m args below hf hA hF happ hP
  obtain ⟨hcalls, hrest, hpre⟩ := hP
  obtain ⟨-, -, -, hnamed, -, -, -, hat⟩ := (Spec.applies_iff hf).mp happ
  obtain ⟨hg, hn⟩ := and_e (Cond.before_iff.mp (show (Jvm.Cond.and given_1 narrow_1).before args s = true from hpre))
  obtain ⟨hg0, hg1⟩ := and_e hg
  have hv0 := hg1
  obtain ⟨w0, rfl⟩ : ∃ w0 : Value, args = #[w0] := by
    have hs : args.size = 1 := by simpa [Cond.value, given_1] using hg0
    obtain ⟨L⟩ := args
    match L, hs with
    | [w0], _ => exact ⟨w0, rfl⟩
  have hw := fun d (hd : d ∈ tables_1) => atoms_spec (ws := Jvm.Cond.code x code maxLocals ret :: tables_1) hat d (List.mem_cons_of_mem _ hd)
  have hfit : Fit s := fun {y c} hc i hi => by
    obtain ⟨ha, rfl⟩ := Array.getElem?_eq_some_iff.mp hc
    have q := List.all_eq_true.mp ((Array.all_eq_true_iff_forall_mem.mp hF) _ (Array.getElem_mem ha)) i (List.mem_range.mpr hi)
    simpa [Array.getElem?_eq_getElem hi] using q
  obtain ⟨i0, ev0⟩ := is_v hv0
  obtain rfl : w0 = (.int i0) := Option.some.inj ev0
  obtain ⟨hp0, hq0⟩ := and_e hn
  obtain ⟨hp1, hq1⟩ := and_e hq0
  obtain ⟨hp2, hq2⟩ := and_e hq1
  obtain ⟨hp3, hq3⟩ := and_e hq2
  obtain ⟨hp4, hq4⟩ := and_e hq3
  obtain ⟨hp5, hq5⟩ := and_e hq4
  obtain ⟨hp6, hq6⟩ := and_e hq5
  obtain ⟨hp7, hq7⟩ := and_e hq6
  obtain ⟨hp8, hq8⟩ := and_e hq7
  have hp9 := hq8
  obtain ⟨aREAL, evREAL⟩ := exa_v hp0
  have S_REAL := Sta.start evREAL (Or.inr ⟨(own_w hw 2 rfl), (own_w hw 3 rfl)⟩)
  have E_REAL := Exa.start evREAL hp0
  obtain ⟨aENUMERATION, evENUMERATION⟩ := exa_v hp1
  have S_ENUMERATION := Sta.start evENUMERATION (Or.inr ⟨(own_w hw 2 rfl), (own_w hw 10 rfl)⟩)
  have E_ENUMERATION := Exa.start evENUMERATION hp1
  obtain ⟨aSTRING, evSTRING⟩ := exa_v hp4
  have S_STRING := Sta.start evSTRING (Or.inr ⟨(own_w hw 2 rfl), (own_w hw 12 rfl)⟩)
  have E_STRING := Exa.start evSTRING hp4
  obtain ⟨aINTEGER, evINTEGER⟩ := exa_v hp6
  have S_INTEGER := Sta.start evINTEGER (Or.inr ⟨(own_w hw 2 rfl), (own_w hw 14 rfl)⟩)
  have E_INTEGER := Exa.start evINTEGER hp6
  obtain ⟨aBOOLEAN, evBOOLEAN⟩ := exa_v hp8
  have S_BOOLEAN := Sta.start evBOOLEAN (Or.inr ⟨(own_w hw 2 rfl), (own_w hw 18 rfl)⟩)
  have E_BOOLEAN := Exa.start evBOOLEAN hp8
  have O_REAL := Fld.start (own_eqi evREAL hp2)
  have O_ENUMERATION := Fld.start (own_eqi evENUMERATION hp3)
  have O_STRING := Fld.start (own_eqi evSTRING hp5)
  have O_INTEGER := Fld.start (own_eqi evINTEGER hp7)
  have O_BOOLEAN := Fld.start (own_eqi evBOOLEAN hp9)
  have ne_REAL_ENUMERATION : ¬ aREAL = aENUMERATION := Fld.ne O_REAL O_ENUMERATION (by decide)
  have ne_REAL_STRING : ¬ aREAL = aSTRING := Fld.ne O_REAL O_STRING (by decide)
  have ne_REAL_INTEGER : ¬ aREAL = aINTEGER := Fld.ne O_REAL O_INTEGER (by decide)
  have ne_REAL_BOOLEAN : ¬ aREAL = aBOOLEAN := Fld.ne O_REAL O_BOOLEAN (by decide)
  have ne_ENUMERATION_STRING : ¬ aENUMERATION = aSTRING := Fld.ne O_ENUMERATION O_STRING (by decide)
  have ne_ENUMERATION_INTEGER : ¬ aENUMERATION = aINTEGER := Fld.ne O_ENUMERATION O_INTEGER (by decide)
  have ne_ENUMERATION_BOOLEAN : ¬ aENUMERATION = aBOOLEAN := Fld.ne O_ENUMERATION O_BOOLEAN (by decide)
  have ne_STRING_INTEGER : ¬ aSTRING = aINTEGER := Fld.ne O_STRING O_INTEGER (by decide)
  have ne_STRING_BOOLEAN : ¬ aSTRING = aBOOLEAN := Fld.ne O_STRING O_BOOLEAN (by decide)
  have ne_INTEGER_BOOLEAN : ¬ aINTEGER = aBOOLEAN := Fld.ne O_INTEGER O_BOOLEAN (by decide)
  obtain ⟨n, o, h1, h2, h3, _, L, rfl, ⟨rfl, N⟩, hq⟩ := own_law l s _ hw tables_1 aREAL aENUMERATION aSTRING aINTEGER aBOOLEAN i0 s.heap s.heap.size (Nat.le_refl _) S_REAL S_ENUMERATION S_STRING S_INTEGER S_BOOLEAN E_REAL E_ENUMERATION E_STRING E_INTEGER E_BOOLEAN ne_REAL_ENUMERATION ne_REAL_STRING ne_REAL_INTEGER ne_REAL_BOOLEAN ne_ENUMERATION_STRING ne_ENUMERATION_INTEGER ne_ENUMERATION_BOOLEAN ne_STRING_INTEGER ne_STRING_BOOLEAN ne_INTEGER_BOOLEAN p e ha hc hk s m _ below hf ((Spec.applies_iff_loose hf).mp happ).1 ⟨rfl, State.Warmed39.refl s, rfl⟩ trivial
  refine ⟨n, _, h1, h2, h3, hpost _ _ _ _ _ _ ⟨Cond.after_iff.mpr rfl, Cond.after_iff.mpr (eq_i res_at (Term.int_eval (1)) rfl), trivial⟩ ⟨hq.1, hq.2.1, (hq.2.2.sift fun y hy => Or.inr (N y hy)).mono (by decide) (by decide)⟩⟩
theorem main_1_1 : Claimed_1_1 := comes_1 fun _ _ _ _ _ _ h hF => ⟨h.1, hF⟩
theorem main_1_2 : Claimed_1_2 := comes_1 fun _ _ _ _ _ _ h hF => ⟨h.2.1, hF⟩
end Jvm.Pilot.@@N@@
namespace Jvm.Pilot.@@N@@
open Jvm Jvm.ClassFile Sem Op Lib Jvm.Free Jvm.Stand Jvm.Pilot.@@N@@.Jvm.D
/-! MADE BY PROGRAM (witnessworld.py) out of the Statement's table words and the real class files: 12 classes; the members and pool entries that the words name. The judged class is class 1, her method 1. -/
namespace start1
open Jvm.ClassFile
def u (s : String) : CpInfo := .utf8 (stringToUtf16 s)
/-- a pool by its gaps: so many unusable entries, then the entry; so many at the end -/
def gap : Nat → List CpInfo → List CpInfo
  | 0, r => r
  | n + 1, r => .unusable :: gap n r
def poolList (es : List (Nat × CpInfo)) (last : Nat) : List CpInfo := es.foldr (fun e r => gap e.1 (e.2 :: r)) (gap last [])
def pool (es : List (Nat × CpInfo)) (last : Nat) : Array CpInfo := ⟨poolList es last⟩
def fileOf (pool : Array CpInfo) (this : Nat) (attrs : Array Attribute := #[]) (ms : Array MethodInfo := #[]) (fl : Nat := 33) (sup : Nat := 0) (ifs : Array Nat := #[]) (fds : Array FieldInfo := #[]) : ClassFile where
  minorVersion := 0
  majorVersion := 65
  constantPool := pool
  accessFlags := fl
  thisClass := this
  superClass := sup
  interfaces := ifs
  fields := fds
  methods := ms
  attributes := attrs
def plain (name : String) (sup : Option ClassId) : Class where
  name := name
  kind := .ordinary
  loader := none
  accessFlags := 33
  super := sup
  interfaces := #[]
  cf := none
  fields := #[]
  methods := #[]
  instanceTypes := #[]
  staticTypes := #[]
  resolved := #[]
  callSites := []
  init := .initialized
  statics := none
  mirror := none

def pool0 : Array CpInfo := pool [(5, u "<init>"), (0, u "()V"), (1, .class_ 10), (1, u "java/lang/Object")] 113

def k0m0 : Method := { name := "<init>", desc := "()V", sig := { parameters := [], returnType := none }, accessFlags := 1, code := none }
/-- java/lang/Object -/
def k0 : Class := { plain "java/lang/Object" none with
  accessFlags := 33
  interfaces := #[]
  cf := some (fileOf pool0 8 #[] #[{ accessFlags := 1, nameIndex := 5, descriptorIndex := 6, attributes := #[] }] 33 0 #[] #[])
  fields := #[]
  methods := #[k0m0]
  instanceTypes := #[]
  staticTypes := #[]
  resolved := Array.replicate 124 none
  statics := none }

def pool1 : Array CpInfo := pool [(2, .class_ 4), (1, u "java/lang/Object"), (0, u "<init>"), (0, u "()V"), (0, .integer 2147483647), (0, .fieldref 9 10), (0, .class_ 11), (0, .nameAndType 12 13), (0, u "com/example/lockstep/lockstep/fmi/VariableType"), (0, u "REAL"), (0, u "Lcom/example/lockstep/lockstep/fmi/VariableType;"), (0, .fieldref 9 15), (0, .nameAndType 16 13), (0, u "INTEGER"), (0, .fieldref 9 18), (0, .nameAndType 19 13), (0, u "BOOLEAN"), (0, .fieldref 9 21), (0, .nameAndType 22 13), (0, u "STRING"), (0, .fieldref 9 24), (0, .nameAndType 25 13), (0, u "ENUMERATION"), (0, .methodref 9 27), (0, .nameAndType 28 29), (0, u "carriedAs"), (0, u "()Lcom/example/lockstep/lockstep/fmi/VariableType;"), (0, .class_ 31), (0, u "com/example/lockstep/lockstep/fmi/VariableTypeCarriedAsPinLaw"), (2, u "law"), (0, u "(I)Z")] 3

def k1m0 : Method := { name := "<init>", desc := "()V", sig := { parameters := [], returnType := none }, accessFlags := 1, code := none }
def k1c1 : Code := { maxStack := 2, maxLocals := 5, code := code, exceptionTable := #[], attributes := #[] }
def k1m1 : Method := { name := "law", desc := "(I)Z", sig := { parameters := [.int], returnType := some .boolean }, accessFlags := 9, code := some k1c1 }
/-- com/example/lockstep/lockstep/fmi/VariableTypeCarriedAsPinLaw -/
def k1 : Class := { plain "com/example/lockstep/lockstep/fmi/VariableTypeCarriedAsPinLaw" (some 0) with
  accessFlags := 49
  interfaces := #[]
  cf := some (fileOf pool1 30 #[] #[{ accessFlags := 1, nameIndex := 5, descriptorIndex := 6, attributes := #[] }, { accessFlags := 9, nameIndex := 34, descriptorIndex := 35, attributes := #[] }] 49 2 #[] #[])
  fields := #[]
  methods := #[k1m0, k1m1]
  instanceTypes := #[]
  staticTypes := #[]
  resolved := Array.replicate 39 none
  statics := none }

def pool2 : Array CpInfo := pool [(1, .class_ 2), (0, u "java/lang/constant/Constable"), (0, .class_ 4), (0, u "java/lang/Object")] 6

/-- java/lang/constant/Constable -/
def k2 : Class := { plain "java/lang/constant/Constable" (some 0) with
  accessFlags := 1537
  interfaces := #[]
  cf := some (fileOf pool2 1 #[] #[] 1537 3 #[] #[])
  fields := #[]
  methods := #[]
  instanceTypes := #[]
  staticTypes := #[]
  resolved := Array.replicate 11 none
  statics := none }

def pool3 : Array CpInfo := pool [(1, .class_ 2), (0, u "java/lang/Comparable"), (0, .class_ 4), (0, u "java/lang/Object")] 7

/-- java/lang/Comparable -/
def k3 : Class := { plain "java/lang/Comparable" (some 0) with
  accessFlags := 1537
  interfaces := #[]
  cf := some (fileOf pool3 1 #[] #[] 1537 3 #[] #[])
  fields := #[]
  methods := #[]
  instanceTypes := #[]
  staticTypes := #[]
  resolved := Array.replicate 12 none
  statics := none }

def pool4 : Array CpInfo := pool [(1, .class_ 2), (0, u "java/io/Serializable"), (0, .class_ 4), (0, u "java/lang/Object")] 2

/-- java/io/Serializable -/
def k4 : Class := { plain "java/io/Serializable" (some 0) with
  accessFlags := 1537
  interfaces := #[]
  cf := some (fileOf pool4 1 #[] #[] 1537 3 #[] #[])
  fields := #[]
  methods := #[]
  instanceTypes := #[]
  staticTypes := #[]
  resolved := Array.replicate 7 none
  statics := none }

def pool5 : Array CpInfo := pool [(2, .class_ 4), (1, u "java/lang/Enum"), (0, u "name"), (0, u "Ljava/lang/String;"), (2, u "ordinal"), (0, u "I"), (1, .class_ 14), (1, u "java/lang/Object"), (4, u "hash"), (86, .class_ 108), (1, u "java/lang/Enum$EnumDesc"), (2, .class_ 112), (0, u "java/lang/constant/Constable"), (0, .class_ 114), (0, u "java/lang/Comparable"), (0, .class_ 116), (0, u "java/io/Serializable")] 87

/-- java/lang/Enum -/
def k5 : Class := { plain "java/lang/Enum" (some 0) with
  accessFlags := 1057
  interfaces := #[2, 3, 4]
  cf := some (fileOf pool5 2 #[.nestMembers #[106]] #[] 1057 12 #[111, 113, 115] #[{ accessFlags := 18, nameIndex := 5, descriptorIndex := 6, attributes := #[] }, { accessFlags := 18, nameIndex := 9, descriptorIndex := 10, attributes := #[] }, { accessFlags := 2, nameIndex := 19, descriptorIndex := 10, attributes := #[] }])
  fields := #[{ name := "name", type := (.object "java/lang/String"), accessFlags := 18, slot := 0, constantValue := 0 }, { name := "ordinal", type := .int, accessFlags := 18, slot := 1, constantValue := 0 }, { name := "hash", type := .int, accessFlags := 2, slot := 2, constantValue := 0 }]
  methods := #[]
  instanceTypes := #[(.object "java/lang/String"), .int, .int]
  staticTypes := #[]
  resolved := Array.replicate 204 none
  statics := none }

def pool6 : Array CpInfo := pool [(1, .class_ 2), (0, u "com/example/lockstep/lockstep/fmi/VariableType"), (2, u "REAL"), (0, u "Lcom/example/lockstep/lockstep/fmi/VariableType;"), (0, .fieldref 1 8), (0, .nameAndType 9 6), (0, u "INTEGER"), (2, u "BOOLEAN"), (2, u "STRING"), (0, .fieldref 1 17), (0, .nameAndType 18 6), (0, u "ENUMERATION"), (2, u "$VALUES"), (0, u "[Lcom/example/lockstep/lockstep/fmi/VariableType;"), (6, .class_ 31), (1, u "java/lang/Enum"), (8, u "xmlName"), (0, u "Ljava/lang/String;"), (29, u "carriedAs"), (0, u "()Lcom/example/lockstep/lockstep/fmi/VariableType;")] 8

def k6c0 : Code := { maxStack := 2, maxLocals := 1, code := prog_24_method_4_code, exceptionTable := #[], attributes := #[] }
def k6m0 : Method := { name := "carriedAs", desc := "()Lcom/example/lockstep/lockstep/fmi/VariableType;", sig := { parameters := [], returnType := some (.object "com/example/lockstep/lockstep/fmi/VariableType") }, accessFlags := 1, code := some k6c0 }
/-- com/example/lockstep/lockstep/fmi/VariableType -/
def k6 : Class := { plain "com/example/lockstep/lockstep/fmi/VariableType" (some 5) with
  accessFlags := 16433
  interfaces := #[]
  cf := some (fileOf pool6 1 #[] #[{ accessFlags := 1, nameIndex := 71, descriptorIndex := 72, attributes := #[] }] 16433 29 #[] #[{ accessFlags := 16409, nameIndex := 5, descriptorIndex := 6, attributes := #[] }, { accessFlags := 16409, nameIndex := 9, descriptorIndex := 6, attributes := #[] }, { accessFlags := 16409, nameIndex := 12, descriptorIndex := 6, attributes := #[] }, { accessFlags := 16409, nameIndex := 15, descriptorIndex := 6, attributes := #[] }, { accessFlags := 16409, nameIndex := 18, descriptorIndex := 6, attributes := #[] }, { accessFlags := 18, nameIndex := 40, descriptorIndex := 41, attributes := #[] }, { accessFlags := 4122, nameIndex := 21, descriptorIndex := 22, attributes := #[] }])
  fields := #[{ name := "REAL", type := (.object "com/example/lockstep/lockstep/fmi/VariableType"), accessFlags := 16409, slot := 0, constantValue := 0 }, { name := "INTEGER", type := (.object "com/example/lockstep/lockstep/fmi/VariableType"), accessFlags := 16409, slot := 1, constantValue := 0 }, { name := "BOOLEAN", type := (.object "com/example/lockstep/lockstep/fmi/VariableType"), accessFlags := 16409, slot := 2, constantValue := 0 }, { name := "STRING", type := (.object "com/example/lockstep/lockstep/fmi/VariableType"), accessFlags := 16409, slot := 3, constantValue := 0 }, { name := "ENUMERATION", type := (.object "com/example/lockstep/lockstep/fmi/VariableType"), accessFlags := 16409, slot := 4, constantValue := 0 }, { name := "xmlName", type := (.object "java/lang/String"), accessFlags := 18, slot := 3, constantValue := 0 }, { name := "$VALUES", type := (.array (.object "com/example/lockstep/lockstep/fmi/VariableType")), accessFlags := 4122, slot := 5, constantValue := 0 }]
  methods := #[k6m0]
  instanceTypes := #[(.object "java/lang/String"), .int, .int, (.object "java/lang/String")]
  staticTypes := #[(.object "com/example/lockstep/lockstep/fmi/VariableType"), (.object "com/example/lockstep/lockstep/fmi/VariableType"), (.object "com/example/lockstep/lockstep/fmi/VariableType"), (.object "com/example/lockstep/lockstep/fmi/VariableType"), (.object "com/example/lockstep/lockstep/fmi/VariableType"), (.array (.object "com/example/lockstep/lockstep/fmi/VariableType"))]
  resolved := Array.replicate 81 none
  statics := some 0 }

def pool7 : Array CpInfo := pool [(1, u "java/lang/Cloneable"), (0, .class_ 1), (0, u "java/lang/Object"), (0, .class_ 3)] 3

/-- java/lang/Cloneable -/
def k7 : Class := { plain "java/lang/Cloneable" (some 0) with
  accessFlags := 1537
  interfaces := #[]
  cf := some (fileOf pool7 2 #[] #[] 1537 4 #[] #[])
  fields := #[]
  methods := #[]
  instanceTypes := #[]
  staticTypes := #[]
  resolved := Array.replicate 8 none
  statics := none }

/-- the primitive byte -/
def k8 : Class := { plain "byte" none with kind := .primitive 'B', accessFlags := 0x411 }
/-- [B -/
def k9 : Class := { plain "[B" (some 0) with kind := .array 8 .byte, interfaces := #[7, 4], accessFlags := 1041 }

/-- the primitive int -/
def k10 : Class := { plain "int" none with kind := .primitive 'I', accessFlags := 0x411 }
/-- [I -/
def k11 : Class := { plain "[I" (some 0) with kind := .array 10 .int, interfaces := #[7, 4], accessFlags := 1041 }

def heap : Heap := #[{ cls := 6, slots := #[.ref 1, .ref 4, .ref 5, .ref 3, .ref 2, .null], vm := .statics 6 },
  { cls := 6, slots := #[.null, .int 0, .int 0, .null], vm := .none },
  { cls := 6, slots := #[.null, .int 4, .int 0, .null], vm := .none },
  { cls := 6, slots := #[.null, .int 3, .int 0, .null], vm := .none },
  { cls := 6, slots := #[.null, .int 1, .int 0, .null], vm := .none },
  { cls := 6, slots := #[.null, .int 2, .int 0, .null], vm := .none }]
def classes : Array Class := #[k0, k1, k2, k3, k4, k5, k6, k7, k8, k9, k10, k11]
def interned : List (Array UInt16 × Addr) := []
def slotsUsed : Nat := 26
def theMethod : MethodId := ⟨1, 1⟩
def args0 : Array Value := #[.int 5]
def aboutOver (below : List Frame) : State where
  vm := { classes := classes, interned := interned.toArray }
  heap := heap
  slotsUsed := slotsUsed
  threads := #[{ frames := .invoking theMethod args0 :: below }]
def below0 : List Frame := [.native { method := ⟨0, 0⟩, args := #[] }]
def about1 : State := aboutOver below0
def p0 : Program := .bare "" "" ""
def e0 : Env := launch0.env 0 0 0
theorem w_frames : about1.frames = Frame.invoking theMethod args0 :: below0 := rfl
set_option maxRecDepth 65536 in
theorem w_args : argsFit about1.vm theMethod args0 = true := by decide +kernel
set_option maxRecDepth 65536 in
theorem w_heap : heapFits about1 = true := by decide +kernel
set_option maxRecDepth 65536 in
theorem w_runnable : about1.curStatus? = some .runnable := by decide +kernel
set_option maxRecDepth 65536 in
theorem w_alone : about1.alone = true := by decide +kernel
set_option maxRecDepth 65536 in
theorem w_named : about1.methodNamed? x = some theMethod := by decide +kernel
set_option maxRecDepth 65536 in
theorem w_hears : about1.hears theMethod below0 = true := by decide +kernel
set_option maxRecDepth 65536 in
theorem w_ripe : about1.ripe theMethod args0 below0 = true := by decide +kernel
theorem w_running : about1.status = .running := rfl
set_option maxRecDepth 65536 in
theorem w_room : about1.hasRoom e0.platform room_1 = true :=
  launch0.hasRoom_least _ room_1 (by decide +kernel) (by decide +kernel) (by decide +kernel) (by decide +kernel) (by decide +kernel) (by decide +kernel)
theorem allAtoms_all (ts : List Jvm.Cond) (a : Array Jvm.Value) (st : Jvm.State) : (allAtoms ts).before a st = ts.all (fun c => c.before a st) := by
  induction ts with
  | nil => rfl
  | cons c t ih =>
    show (Jvm.Cond.and c (allAtoms t)).before a st = _
    rw [Jvm.Cond.before_and, ih, List.all_cons]
def words1 : List Jvm.Cond := Jvm.Cond.code x code maxLocals ret :: tables_1
/-- a 'code' word, met by the world's own term for the bytes: nothing is compared byte by byte -/
theorem code_word {y : MethodName} {bytes : ByteArray} {mx : Nat} {rt : Option FieldType} {a : Array Value} {s : State} {m : MethodId} {meth : Method} {c : Code} (h1 : s.methodNamed? y = some m) (h2 : s.vm.method? m = some meth) (h3 : meth.code = some c) (h4 : c.code = bytes)
    (h5 : (c.maxLocals == mx && c.exceptionTable.isEmpty && decide (c.maxStack ≤ mostOperands) && decide (meth.sig.returnType = rt) && !meth.locks && decide (parseMethodDescriptor y.desc = some meth.sig)) = true) : (Jvm.Cond.code y bytes mx rt).before a s = true := by
  simp only [Bool.and_eq_true, beq_iff_eq, Bool.not_eq_true', decide_eq_true_eq] at h5
  obtain ⟨⟨⟨⟨⟨g1, g2⟩, g3⟩, g4⟩, g5⟩, g6⟩ := h5
  simp [Cond.before, Cond.holds, Cond.value, h1, h2, h3, h4, g1, g2, g3, g4, g5, g6]
def isCode : Jvm.Cond → Bool
  | .code _ _ _ _ => true
  | _ => false
theorem all_split {L : List Jvm.Cond} {P : Jvm.Cond → Bool} (h1 : L.all (fun c => isCode c || P c) = true) (h2 : ∀ c ∈ L.filter isCode, P c = true) : L.all P = true := by
  refine List.all_eq_true.mpr fun c hc => ?_
  have h := List.all_eq_true.mp h1 c hc
  rcases Bool.eq_false_or_eq_true (isCode c) with hi | hi
  · exact h2 c (List.mem_filter.mpr ⟨hc, hi⟩)
  · simpa [hi] using h
set_option maxRecDepth 65536 in
theorem w_c0 : (Jvm.Cond.code x code maxLocals ret).before args0 about1 = true := code_word (m := ⟨1, 1⟩) (meth := k1m1) (c := k1c1) (by decide +kernel) rfl rfl rfl (by decide +kernel)
set_option maxRecDepth 65536 in
theorem w_c1 : (Jvm.Cond.code ({ cls := "com/example/lockstep/lockstep/fmi/VariableType", name := "carriedAs", desc := "()Lcom/example/lockstep/lockstep/fmi/VariableType;" } : Jvm.MethodName) prog_24_method_4_code (1 : Nat) (Option.some (Jvm.ClassFile.FieldType.object "com/example/lockstep/lockstep/fmi/VariableType"))).before args0 about1 = true := code_word (m := ⟨6, 0⟩) (meth := k6m0) (c := k6c0) (by decide +kernel) rfl rfl rfl (by decide +kernel)
def codes1 : List Jvm.Cond := [Jvm.Cond.code x code maxLocals ret, Jvm.Cond.code ({ cls := "com/example/lockstep/lockstep/fmi/VariableType", name := "carriedAs", desc := "()Lcom/example/lockstep/lockstep/fmi/VariableType;" } : Jvm.MethodName) prog_24_method_4_code (1 : Nat) (Option.some (Jvm.ClassFile.FieldType.object "com/example/lockstep/lockstep/fmi/VariableType"))]
set_option maxRecDepth 65536 in
theorem codes_eq : words1.filter isCode = codes1 := rfl
theorem w_codes : ∀ c ∈ words1.filter isCode, c.before args0 about1 = true := by
  rw [codes_eq]
  intro c hc
  simp only [codes1, List.mem_cons, List.not_mem_nil, or_false] at hc
  rcases hc with rfl | rfl
  · exact w_c0
  · exact w_c1
set_option maxRecDepth 65536 in
theorem w_t1 : words1.all (fun c => isCode c || c.before args0 about1) = true := by decide +kernel
theorem w_tables : (allAtoms (Jvm.Cond.code x code maxLocals ret :: tables_1)).before args0 about1 = true := by
  rw [allAtoms_all]
  show words1.all (fun c => c.before args0 about1) = true
  refine all_split ?_ w_codes
  rw [w_t1]
set_option maxRecDepth 65536 in
theorem w_case : (Jvm.Cond.and given_1 narrow_1).before args0 about1 = true := by decide +kernel
theorem w_applies : (headSpec (Jvm.Cond.code x code maxLocals ret :: tables_1) room_1).applies x e0.platform about1 = true :=
  (Spec.applies_iff w_frames).mpr ⟨w_running, w_runnable, w_alone, w_named, w_hears, w_ripe, w_room, w_tables⟩
theorem atStart : AtStart classFile x code maxLocals ret World_1 tables_1 room_1 Calls_1 rest_1 Pre_1 launch0 p0 e0 about1 theMethod args0 below0 :=
  ⟨lists_1, trivial, launch0.admits_env _ _ _, launch0.least_env, fairChoices_fair.cas, fairChoices_fair.clock, w_frames, w_args, w_heap, w_applies, trivial, trivial, w_case⟩
end start1
theorem witness_1 : WitnessClaimed_1 := ⟨start1.p0, start1.e0, start1.about1, start1.theMethod, start1.args0, start1.below0, start1.atStart⟩
end Jvm.Pilot.@@N@@
