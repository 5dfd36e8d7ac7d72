import JvmDerived
import JvmDerived.Pilot.@@N@@Statement
import JvmDerived.Pilot.@@N@@Code
set_option linter.unusedVariables false
set_option linter.unusedSimpArgs false
namespace Jvm.Pilot.@@N@@
open Jvm Jvm.ClassFile Sem Op Lib Jvm.Free Jvm.Stand Jvm.LawKit Jvm.RoadKit Bundle Jvm.Pilot.@@N@@.Jvm.D
theorem own_w {a0 : Array Value} {Z : State} (hw : ∀ d ∈ tables_1, d.before a0 Z = true) (i : Nat) {d : Jvm.Cond} (h : tables_1[i]? = some d) : d.before a0 Z = true := hw d (List.mem_of_getElem? h)
section Own
variable {p : Program} {l : Launch} {e : Env} {R : Room} {s : State} {m : MethodId} {args : Array Value} {below : List Frame} {meth : Method} {c : Code} {T T' : State} {locs : List Loc} {cells slots : Nat} {g g' : JFrame} {K : Outcome → State → Prop} {Q : Option Value → Heap → List Loc → Prop} {kc ks : Nat}
/-- from this state, with this frame on top, the run comes to an end at which K holds -/
def own_E (p : Program) (e : Env) (below : List Frame) (K : Outcome → State → Prop) (T : State) (g : JFrame) : Prop :=
  ∃ s₂ o, Steps p.tables e below (T.setTop g) s₂ ∧ s₂.status = .running ∧ Ended s₂ below o ∧ K o s₂
def own_K (Q : Option Value → Heap → List Loc → Prop) (s : State) (kc ks : Nat) : Outcome → State → Prop :=
  fun o U' => ∃ v L, o = .returned v ∧ Q v U'.heap L ∧ FrameEnd s o U' L kc ks
theorem own_st (st : ∀ t, Steps p.tables e below (T'.setTop g') t → Steps p.tables e below (T.setTop g) t) (k : own_E p e below K T' g') : own_E p e below K T g := by
  obtain ⟨s2, o, h1, h2⟩ := k
  exact ⟨s2, o, st _ h1, h2⟩
theorem own_tr (st : Steps p.tables e below (T.setTop g) (T'.setTop g')) (k : own_E p e below K T' g') : own_E p e below K T g :=
  own_st (fun _ h => st.trans h) k
theorem own_pre (q : g = g') (k : own_E p e below K T g') : own_E p e below K T g := q ▸ k
theorem own_end (X : Stand p l e R s m args below meth c T locs cells slots) (hlk : meth.locks = false) {v : Option Value} (hv : meth.sig.returnType = none → v = none)
    (hr : ∀ fs : List Frame, (∀ (f : JFrame) (acts : List Action), f.method = m → f.locked = none → f.entered = [] → (doReturn e (T.setTop f) acts v).1 = T.setFrames fs) → Steps p.tables e below (T.setTop g) (T.setFrames fs))
    (hc : cells ≤ kc) (hs : slots ≤ ks) (hQ : Q v T.heap locs) : own_E p e below (own_K Q s kc ks) T g := by
  obtain ⟨fs, h1, hrun, hended, hW, hsame⟩ := X.leave (v := v) hv hlk
  exact ⟨_, _, hr fs h1, hrun, hended, _, _, rfl, hQ, ⟨_, rfl⟩, hW, hsame.mono hc hs⟩
theorem own_retV (X : Stand p l e R s m args below meth c T locs cells slots) (hx : p.tables.exec = Jvm.exec) (hlk : meth.locks = false) {pc : Nat} {Ls : Array Slot} (hret : meth.sig.returnType = none)
    (hd : decode c.code pc = .ok (.return_, 1)) (hc : cells ≤ kc) (hs : slots ≤ ks) (hQ : Q none T.heap locs) : own_E p e below (own_K Q s kc ks) T (mkF m pc Ls []) :=
  own_end X hlk (fun _ => rfl) (fun fs h => X.returnOut hx hret hd h) hc hs hQ
theorem own_retG (X : Stand p l e R s m args below meth c T locs cells slots) (hx : p.tables.exec = Jvm.exec) (hlk : meth.locks = false) {pc : Nat} {Ls : Array Slot} {w : Value} {t : FieldType} {i : Instr} {rest : List Value} (hret : meth.sig.returnType = some t) (hn : narrow t w = w)
    (hi : (i = .ireturn ∧ (t = .int ∨ t = .boolean ∨ t = .byte ∨ t = .char ∨ t = .short) ∧ ∃ z, w = .int z) ∨ (i = .lreturn ∧ t = .long ∧ ∃ z, w = .long z) ∨ (i = .dreturn ∧ t = .double ∧ ∃ z, w = .double z) ∨ (i = .freturn ∧ t = .float ∧ ∃ z, w = .float z) ∨ (i = .areturn ∧ t.isReference = true ∧ w.isRef = true))
    (hd : decode c.code pc = .ok (i, 1)) (hc : cells ≤ kc) (hs : slots ≤ ks) (hQ : Q (some w) T.heap locs) : own_E p e below (own_K Q s kc ks) T (mkF m pc Ls (w :: rest)) :=
  own_end X hlk (fun h => by rw [hret] at h; cases h) (fun fs h => retOut X hx hret hn hi hd h) hc hs hQ
theorem own_retI (X : Stand p l e R s m args below meth c T locs cells slots) (hx : p.tables.exec = Jvm.exec) (hlk : meth.locks = false) {pc : Nat} {Ls : Array Slot} {z : Int32} {rest : List Value} (hret : meth.sig.returnType = some .int)
    (hd : decode c.code pc = .ok (.ireturn, 1)) (hc : cells ≤ kc) (hs : slots ≤ ks) (hQ : Q (some (.int z)) T.heap locs) : own_E p e below (own_K Q s kc ks) T (mkF m pc Ls (.int z :: rest)) :=
  own_retG X hx hlk hret rfl (Or.inl ⟨rfl, Or.inl rfl, z, rfl⟩) hd hc hs hQ
theorem own_retS (X : Stand p l e R s m args below meth c T locs cells slots) (hx : p.tables.exec = Jvm.exec) (hlk : meth.locks = false) {pc : Nat} {Ls : Array Slot} {z : Int32} {t : FieldType} {rest : List Value} (hret : meth.sig.returnType = some t) (hn : narrow t (.int z) = .int z)
    (ht : t = .int ∨ t = .boolean ∨ t = .byte ∨ t = .char ∨ t = .short) (hd : decode c.code pc = .ok (.ireturn, 1)) (hc : cells ≤ kc) (hs : slots ≤ ks) (hQ : Q (some (.int z)) T.heap locs) : own_E p e below (own_K Q s kc ks) T (mkF m pc Ls (.int z :: rest)) :=
  own_retG X hx hlk hret hn (Or.inl ⟨rfl, ht, z, rfl⟩) hd hc hs hQ
theorem own_retN (X : Stand p l e R s m args below meth c T locs cells slots) (hx : p.tables.exec = Jvm.exec) (hlk : meth.locks = false) {pc : Nat} {Ls : Array Slot} {z : Int32} {t : FieldType} {rest : List Value} (hret : meth.sig.returnType = some t)
    (ht : t = .boolean ∨ t = .byte ∨ t = .char ∨ t = .short) (hd : decode c.code pc = .ok (.ireturn, 1)) (hc : cells ≤ kc) (hs : slots ≤ ks) (hQ : Q (some (.int (nar t z))) T.heap locs) : own_E p e below (own_K Q s kc ks) T (mkF m pc Ls (.int z :: rest)) :=
  own_end X hlk (fun h => by rw [hret] at h; cases h) (fun fs h => retN X hx hret ht hd h) hc hs hQ
theorem own_retJ (X : Stand p l e R s m args below meth c T locs cells slots) (hx : p.tables.exec = Jvm.exec) (hlk : meth.locks = false) {pc : Nat} {Ls : Array Slot} {z : Int64} {rest : List Value} (hret : meth.sig.returnType = some .long)
    (hd : decode c.code pc = .ok (.lreturn, 1)) (hc : cells ≤ kc) (hs : slots ≤ ks) (hQ : Q (some (.long z)) T.heap locs) : own_E p e below (own_K Q s kc ks) T (mkF m pc Ls (.long z :: rest)) :=
  own_retG X hx hlk hret rfl (Or.inr (Or.inl ⟨rfl, rfl, z, rfl⟩)) hd hc hs hQ
theorem own_retA (X : Stand p l e R s m args below meth c T locs cells slots) (hx : p.tables.exec = Jvm.exec) (hlk : meth.locks = false) {pc : Nat} {Ls : Array Slot} {w : Value} {t : FieldType} {rest : List Value} (hret : meth.sig.returnType = some t) (ht : t.isReference = true) (hw : w.isRef = true)
    (hd : decode c.code pc = .ok (.areturn, 1)) (hc : cells ≤ kc) (hs : slots ≤ ks) (hQ : Q (some w) T.heap locs) : own_E p e below (own_K Q s kc ks) T (mkF m pc Ls (w :: rest)) :=
  own_retG X hx hlk hret (by cases w <;> cases t <;> first | rfl | (simp [Value.isRef] at hw) | (simp [FieldType.isReference] at ht)) (Or.inr (Or.inr (Or.inr (Or.inr ⟨rfl, ht, hw⟩)))) hd hc hs hQ
end Own
theorem own_StaK {Z : State} {h h' : Heap} {C n d : String} {v : Value} (F : Sta Z h C n d v) (K : Keep h h' []) : Sta Z h' C n d v := Sta.ext ⟨K.1, fun a c q => K.2.1 a c q nin0⟩ F
section OwnArr
variable {p : Program} {l : Launch} {e : Env} {R : Room} {s : State} {m : MethodId} {args : Array Value} {below : List Frame} {meth : Method} {c : Code} {T : State} {locs : List Loc} {cells slots : Nat} {Z : State} {h : Heap} {a : Addr} {k : ClassId} {z : Int32} {vs : List Value} {dv : Value}
theorem own_alen (X : Stand p l e R s m args below meth c T locs cells slots) (hx : p.tables.exec = Jvm.exec) (hZ : Z.Warmed39 s.vm) (eT : T.heap = h) {ty : FieldType} (F : Arv Z h a k ty z vs dv) {g : JFrame} (hg : g.method = m) {rest : List Value} (hs : g.stack = .ref a :: rest) (hd : decode c.code g.pc = .ok (.arraylength, 1)) :
    ∀ target, Steps p.tables e below (T.setTop { g with pc := g.pc + 1, stack := .int z :: rest }) target → Steps p.tables e below (T.setTop g) target := by
  obtain ⟨cl, A, q, S, N, H, G⟩ := F
  intro target hr
  refine X.arraylength hx (by rw [eT]; exact A.1) (State.isArrayOf_alike hZ.alike A.2.1) hg hs hd _ ?_
  rw [len_of S N]; exact hr
theorem own_ald (X : Stand p l e R s m args below meth c T locs cells slots) (hx : p.tables.exec = Jvm.exec) (hZ : Z.Warmed39 s.vm) (eT : T.heap = h) (F : Arv Z h a k .int z vs dv) {j : Int32} (hj : ¬ j < 0 ∧ j < z) {v : Value} (hv : vs.getD j.toNatClampNeg dv = v) {g : JFrame} (hg : g.method = m) {rest : List Value} (hs : g.stack = .int j :: .ref a :: rest) (hd : decode c.code g.pc = .ok (.iaload, 1)) :
    ∀ target, Steps p.tables e below (T.setTop { g with pc := g.pc + 1, stack := v :: rest }) target → Steps p.tables e below (T.setTop g) target := by
  obtain ⟨cl, A, q, S, N, H, G⟩ := F
  have hin := inb_of S hj
  exact X.iaload hx (by rw [eT]; exact A.1) (State.isArrayOf_alike hZ.alike A.2.1) A.2.2 hin (H.at hin hv) hg hs hd
theorem own_ast (X : Stand p l e R s m args below meth c T locs cells slots) (hx : p.tables.exec = Jvm.exec) (hZ : Z.Warmed39 s.vm) (eT : T.heap = h) (F : Arv Z h a k .int z vs dv) {j : Int32} (hj : ¬ j < 0 ∧ j < z) {x : Int32} {i : Nat} (hi : j.toNatClampNeg = i) (hl : i < vs.length) {g : JFrame} (hg : g.method = m) {rest : List Value} (hs : g.stack = .int x :: .int j :: .ref a :: rest) (hd : decode c.code g.pc = .ok (.iastore, 1)) :
    ∃ T' h', Stand p l e R s m args below meth c T' (locs ++ [⟨a, j.toNatClampNeg⟩]) cells slots ∧ T'.heap = h' ∧ Wr h h' a j.toNatClampNeg (.int x) ∧ Arv Z h' a k .int z (vs.set i (.int x)) dv ∧ ∀ target, Steps p.tables e below (T'.setTop { g with pc := g.pc + 1, stack := rest }) target → Steps p.tables e below (T.setTop g) target := by
  obtain ⟨cl, A, q, S, N, H, G⟩ := F
  have hin := inb_of S hj
  obtain ⟨T', h', X', e', W, st⟩ := stI X hx hZ eT A hin hg hs hd
  exact ⟨T', h', X', e', W, Arv.set A q S N H G rfl W i hi hl, st⟩
theorem own_cst (X : Stand p l e R s m args below meth c T locs cells slots) (hx : p.tables.exec = Jvm.exec) (hZ : Z.Warmed39 s.vm) (eT : T.heap = h) (F : Arv Z h a k .char z vs dv) {j : Int32} (hj : ¬ j < 0 ∧ j < z) {x : Int32} {i : Nat} (hi : j.toNatClampNeg = i) (hl : i < vs.length) {g : JFrame} (hg : g.method = m) {rest : List Value} (hs : g.stack = .int x :: .int j :: .ref a :: rest) (hd : decode c.code g.pc = .ok (.castore, 1)) :
    ∃ T' h', Stand p l e R s m args below meth c T' (locs ++ [⟨a, j.toNatClampNeg⟩]) cells slots ∧ T'.heap = h' ∧ Wr h h' a j.toNatClampNeg (.int (nar .char x)) ∧ Arv Z h' a k .char z (vs.set i (.int (nar .char x))) dv ∧ ∀ target, Steps p.tables e below (T'.setTop { g with pc := g.pc + 1, stack := rest }) target → Steps p.tables e below (T.setTop g) target := by
  obtain ⟨cl, A, q, S, N, H, G⟩ := F
  have hin := inb_of S hj
  obtain ⟨T', h', X', e', W, st⟩ := stC X hx hZ eT A hin hg hs hd
  exact ⟨T', h', X', e', W, Arv.set A q S N H G (fits_nar_char _) W i hi hl, st⟩
end OwnArr
theorem own_eqi {args : Array Value} {s : State} {t : Term} {a : Addr} {C n d : String} {k : Int32} (ht : t.eval args s none [] s = some (.ref a)) (h : (Jvm.Cond.eq (.field t C n d) (.int k)).value args s none s [] = some true) : s.fieldOf? a C n d = some (.int k) := by
  simp only [Jvm.Cond.value, fld_at ht] at h
  generalize s.fieldOf? a C n d = o at h
  rcases o with _ | w
  · simp [Term.eval] at h
  · cases w <;> simp [Term.eval] at h
    rw [h]
theorem own_d_prog_84_method_4_0 : decode prog_84_method_4_code 0 = .ok (.aload_n 0, 1) := by decide +kernel
theorem own_d_prog_84_method_4_1 : decode prog_84_method_4_code 1 = .ok (.getstatic 9, 3) := by decide +kernel
theorem own_d_prog_84_method_4_4 : decode prog_84_method_4_code 4 = .ok (.if_acmp .eq 17, 3) := by decide +kernel
theorem own_d_prog_84_method_4_7 : decode prog_84_method_4_code 7 = .ok (.aload_n 0, 1) := by decide +kernel
theorem own_d_prog_84_method_4_8 : decode prog_84_method_4_code 8 = .ok (.getstatic 12, 3) := by decide +kernel
theorem own_d_prog_84_method_4_11 : decode prog_84_method_4_code 11 = .ok (.if_acmp .eq 10, 3) := by decide +kernel
theorem own_d_prog_84_method_4_14 : decode prog_84_method_4_code 14 = .ok (.aload_n 0, 1) := by decide +kernel
theorem own_d_prog_84_method_4_15 : decode prog_84_method_4_code 15 = .ok (.getstatic 15, 3) := by decide +kernel
theorem own_d_prog_84_method_4_18 : decode prog_84_method_4_code 18 = .ok (.if_acmp .ne 7, 3) := by decide +kernel
theorem own_d_prog_84_method_4_25 : decode prog_84_method_4_code 25 = .ok (.iconst 0, 1) := by decide +kernel
theorem own_d_prog_84_method_4_26 : decode prog_84_method_4_code 26 = .ok (.ireturn, 1) := by decide +kernel
def own_takes_DATE_Q (aDATE : Addr) (aDATETIME : Addr) (aTIMESTAMP : Addr) (aTIME : Addr) (aYEAR : Addr) (h0 : Heap) (v : Option Value) (h : Heap) (L : List Loc) : Prop := ((v = some (.int (0 : Int32)))) ∧ h = h0 ∧ L = []
abbrev own_y0 : MethodName := ⟨"com/example/tight_fence/tightfence/engine/TemporalType$Kind", "takesPrecision", "()Z"⟩
theorem own_pn_TemporalType_Kind : plainName "com/example/tight_fence/tightfence/engine/TemporalType$Kind" = true := by first | (simp [plainName, overriddenIn]; done) | decide +kernel
theorem own_takes_DATE_ef (m : MethodId) (aDATE : Addr) (aDATETIME : Addr) (aTIMESTAMP : Addr) (aTIME : Addr) (aYEAR : Addr) : entryFrame m #[(.ref aDATE)] 1 = mkF m 0 #[.val (.ref aDATE)] [] := by first | (simp [entryFrame, mkF, argsToLocals, Value.category]; done) | rfl
set_option maxRecDepth 65536 in
set_option maxHeartbeats 40000000 in
theorem own_takes_DATE (l : Launch) (Z : State) (a0 : Array Value) (hw : ∀ d ∈ tables_1, d.before a0 Z = true) (ws : List Jvm.Cond) (aDATE : Addr) (aDATETIME : Addr) (aTIMESTAMP : Addr) (aTIME : Addr) (aYEAR : Addr) (h0 : Heap) (n0 : Nat) (Z0 : n0 ≤ h0.size) (S_DATE : Sta Z h0 "com/example/tight_fence/tightfence/engine/TemporalType$Kind" "DATE" "Lcom/example/tight_fence/tightfence/engine/TemporalType$Kind;" (.ref aDATE)) (S_DATETIME : Sta Z h0 "com/example/tight_fence/tightfence/engine/TemporalType$Kind" "DATETIME" "Lcom/example/tight_fence/tightfence/engine/TemporalType$Kind;" (.ref aDATETIME)) (S_TIMESTAMP : Sta Z h0 "com/example/tight_fence/tightfence/engine/TemporalType$Kind" "TIMESTAMP" "Lcom/example/tight_fence/tightfence/engine/TemporalType$Kind;" (.ref aTIMESTAMP)) (S_TIME : Sta Z h0 "com/example/tight_fence/tightfence/engine/TemporalType$Kind" "TIME" "Lcom/example/tight_fence/tightfence/engine/TemporalType$Kind;" (.ref aTIME)) (S_YEAR : Sta Z h0 "com/example/tight_fence/tightfence/engine/TemporalType$Kind" "YEAR" "Lcom/example/tight_fence/tightfence/engine/TemporalType$Kind;" (.ref aYEAR)) (E_DATE : Exa Z h0 aDATE "com/example/tight_fence/tightfence/engine/TemporalType$Kind") (E_DATETIME : Exa Z h0 aDATETIME "com/example/tight_fence/tightfence/engine/TemporalType$Kind") (E_TIMESTAMP : Exa Z h0 aTIMESTAMP "com/example/tight_fence/tightfence/engine/TemporalType$Kind") (E_TIME : Exa Z h0 aTIME "com/example/tight_fence/tightfence/engine/TemporalType$Kind") (E_YEAR : Exa Z h0 aYEAR "com/example/tight_fence/tightfence/engine/TemporalType$Kind") (ne_DATE_DATETIME : ¬ aDATE = aDATETIME) (ne_DATE_TIMESTAMP : ¬ aDATE = aTIMESTAMP) (ne_DATE_TIME : ¬ aDATE = aTIME) (ne_DATE_YEAR : ¬ aDATE = aYEAR) (ne_DATETIME_TIMESTAMP : ¬ aDATETIME = aTIMESTAMP) (ne_DATETIME_TIME : ¬ aDATETIME = aTIME) (ne_DATETIME_YEAR : ¬ aDATETIME = aYEAR) (ne_TIMESTAMP_TIME : ¬ aTIMESTAMP = aTIME) (ne_TIMESTAMP_YEAR : ¬ aTIMESTAMP = aYEAR) (ne_TIME_YEAR : ¬ aTIME = aYEAR) :
    MetFree l own_y0 (head1 (Jvm.Cond.code own_y0 prog_84_method_4_code 1 (some .boolean) :: ws) ({ frames := 0, cells := 0, slots := 0, locals := 0 } : Room)) (fun a U => a = #[(.ref aDATE)] ∧ Z.Warmed39 U.vm ∧ U.heap = h0) (fun _ _ _ _ _ => True) (fun _ U o U' => ∃ v L, o = .returned v ∧ own_takes_DATE_Q aDATE aDATETIME aTIMESTAMP aTIME aYEAR h0 v U'.heap L ∧ FrameEnd U o U' L ({ frames := 0, cells := 0, slots := 0, locals := 0 } : Room).cells ({ frames := 0, cells := 0, slots := 0, locals := 0 } : Room).slots) := by
  refine MetFree.of_bodySF (plainFor_of_name own_pn_TemporalType_Kind) hisR ?_
  intro p e s m args below meth c s₁ Bd hml0 hP hK
  obtain ⟨rfl, hZ, hh⟩ := hP
  have hx := Bd.exec
  have hby := Bd.bytes
  have hml : c.maxLocals = 1 := hml0
  have hown : s.vm.findClass "com/example/tight_fence/tightfence/engine/TemporalType$Kind" = some m.cls := findClass_of_methodNamed Bd.named
  have hnm := (name_of_methodNamed Bd.named Bd.method).1
  have X0 : Stand p l e ({ frames := 0, cells := 0, slots := 0, locals := 0 } : Room) s m #[(.ref aDATE)] below meth c s₁ [] 0 0 := Stand.of_body Bd
  have e0 : s₁.heap = h0 := by rw [← hh, Bd.state]; rfl
  show own_E p e below (own_K (own_takes_DATE_Q aDATE aDATETIME aTIMESTAMP aTIME aYEAR h0) s ({ frames := 0, cells := 0, slots := 0, locals := 0 } : Room).cells ({ frames := 0, cells := 0, slots := 0, locals := 0 } : Room).slots) s₁ (entryFrame m #[(.ref aDATE)] 1)
  refine own_pre (own_takes_DATE_ef m aDATE aDATETIME aTIMESTAMP aTIME aYEAR) ?_
  show own_E p e below _ s₁ (mkF m 0 #[rv aDATE] [])
  refine own_st (fun t k => XS.aloadN X0.here hx rfl (hb hby own_d_prog_84_method_4_0) rfl rfl k) ?_
  show own_E p e below _ s₁ (mkF m 1 #[rv aDATE] [.ref aDATE])
  obtain ⟨T1, X1, e1, st1⟩ := getS2 X0 hx hZ hown (host := "") (Or.inl (own_w hw 9 rfl)) Via.refl e0 S_DATETIME (g := (mkF m 1 #[rv aDATE] [.ref aDATE])) rfl (hb hby own_d_prog_84_method_4_1)
  refine own_st st1 ?_
  show own_E p e below _ T1 (mkF m 4 #[rv aDATE] [.ref aDATETIME, .ref aDATE])
  refine own_st (fun t k => Jvm.RoadKit.acmp (g := (mkF m 4 #[rv aDATE] [.ref aDATETIME, .ref aDATE])) X1 hx rfl rfl rfl (pc0 := 4) (pc' := 7) (same := false) rfl (hb hby own_d_prog_84_method_4_4) rfl (decide_eq_false fun q => ne_DATE_DATETIME (Value.ref.inj q)) (by decide) (by decide) k) ?_
  show own_E p e below _ T1 (mkF m 7 #[rv aDATE] [])
  refine own_st (fun t k => XS.aloadN X1.here hx rfl (hb hby own_d_prog_84_method_4_7) rfl rfl k) ?_
  show own_E p e below _ T1 (mkF m 8 #[rv aDATE] [.ref aDATE])
  obtain ⟨T2, X2, e2, st2⟩ := getS2 X1 hx hZ hown (host := "") (Or.inl (own_w hw 11 rfl)) Via.refl e1 S_TIMESTAMP (g := (mkF m 8 #[rv aDATE] [.ref aDATE])) rfl (hb hby own_d_prog_84_method_4_8)
  refine own_st st2 ?_
  show own_E p e below _ T2 (mkF m 11 #[rv aDATE] [.ref aTIMESTAMP, .ref aDATE])
  refine own_st (fun t k => Jvm.RoadKit.acmp (g := (mkF m 11 #[rv aDATE] [.ref aTIMESTAMP, .ref aDATE])) X2 hx rfl rfl rfl (pc0 := 11) (pc' := 14) (same := false) rfl (hb hby own_d_prog_84_method_4_11) rfl (decide_eq_false fun q => ne_DATE_TIMESTAMP (Value.ref.inj q)) (by decide) (by decide) k) ?_
  show own_E p e below _ T2 (mkF m 14 #[rv aDATE] [])
  refine own_st (fun t k => XS.aloadN X2.here hx rfl (hb hby own_d_prog_84_method_4_14) rfl rfl k) ?_
  show own_E p e below _ T2 (mkF m 15 #[rv aDATE] [.ref aDATE])
  obtain ⟨T3, X3, e3, st3⟩ := getS2 X2 hx hZ hown (host := "") (Or.inl (own_w hw 13 rfl)) Via.refl e2 S_TIME (g := (mkF m 15 #[rv aDATE] [.ref aDATE])) rfl (hb hby own_d_prog_84_method_4_15)
  refine own_st st3 ?_
  show own_E p e below _ T3 (mkF m 18 #[rv aDATE] [.ref aTIME, .ref aDATE])
  refine own_st (fun t k => Jvm.RoadKit.acmp (g := (mkF m 18 #[rv aDATE] [.ref aTIME, .ref aDATE])) X3 hx rfl rfl rfl (pc0 := 18) (pc' := 25) (same := false) rfl (hb hby own_d_prog_84_method_4_18) rfl (decide_eq_false fun q => ne_DATE_TIME (Value.ref.inj q)) (by decide) (by decide) k) ?_
  show own_E p e below _ T3 (mkF m 25 #[rv aDATE] [])
  refine own_st (fun t k => XS.iconst X3.here hx rfl (hb hby own_d_prog_84_method_4_25) k) ?_
  show own_E p e below _ T3 (mkF m 26 #[rv aDATE] [.int 0])
  refine own_retS X3 hx Bd.notSynchronized Bd.returns rfl (by decide) (hb hby own_d_prog_84_method_4_26) (by decide) (by decide) ?_
  exact ⟨rfl, e3, rfl⟩
theorem own_d_prog_84_method_4_21 : decode prog_84_method_4_code 21 = .ok (.iconst 1, 1) := by decide +kernel
theorem own_d_prog_84_method_4_22 : decode prog_84_method_4_code 22 = .ok (.goto 4, 3) := by decide +kernel
def own_takes_DATETIME_Q (aDATE : Addr) (aDATETIME : Addr) (aTIMESTAMP : Addr) (aTIME : Addr) (aYEAR : Addr) (h0 : Heap) (v : Option Value) (h : Heap) (L : List Loc) : Prop := ((v = some (.int (1 : Int32)))) ∧ h = h0 ∧ L = []
theorem own_takes_DATETIME_ef (m : MethodId) (aDATE : Addr) (aDATETIME : Addr) (aTIMESTAMP : Addr) (aTIME : Addr) (aYEAR : Addr) : entryFrame m #[(.ref aDATETIME)] 1 = mkF m 0 #[.val (.ref aDATETIME)] [] := by first | (simp [entryFrame, mkF, argsToLocals, Value.category]; done) | rfl
set_option maxRecDepth 65536 in
set_option maxHeartbeats 40000000 in
theorem own_takes_DATETIME (l : Launch) (Z : State) (a0 : Array Value) (hw : ∀ d ∈ tables_1, d.before a0 Z = true) (ws : List Jvm.Cond) (aDATE : Addr) (aDATETIME : Addr) (aTIMESTAMP : Addr) (aTIME : Addr) (aYEAR : Addr) (h0 : Heap) (n0 : Nat) (Z0 : n0 ≤ h0.size) (S_DATE : Sta Z h0 "com/example/tight_fence/tightfence/engine/TemporalType$Kind" "DATE" "Lcom/example/tight_fence/tightfence/engine/TemporalType$Kind;" (.ref aDATE)) (S_DATETIME : Sta Z h0 "com/example/tight_fence/tightfence/engine/TemporalType$Kind" "DATETIME" "Lcom/example/tight_fence/tightfence/engine/TemporalType$Kind;" (.ref aDATETIME)) (S_TIMESTAMP : Sta Z h0 "com/example/tight_fence/tightfence/engine/TemporalType$Kind" "TIMESTAMP" "Lcom/example/tight_fence/tightfence/engine/TemporalType$Kind;" (.ref aTIMESTAMP)) (S_TIME : Sta Z h0 "com/example/tight_fence/tightfence/engine/TemporalType$Kind" "TIME" "Lcom/example/tight_fence/tightfence/engine/TemporalType$Kind;" (.ref aTIME)) (S_YEAR : Sta Z h0 "com/example/tight_fence/tightfence/engine/TemporalType$Kind" "YEAR" "Lcom/example/tight_fence/tightfence/engine/TemporalType$Kind;" (.ref aYEAR)) (E_DATE : Exa Z h0 aDATE "com/example/tight_fence/tightfence/engine/TemporalType$Kind") (E_DATETIME : Exa Z h0 aDATETIME "com/example/tight_fence/tightfence/engine/TemporalType$Kind") (E_TIMESTAMP : Exa Z h0 aTIMESTAMP "com/example/tight_fence/tightfence/engine/TemporalType$Kind") (E_TIME : Exa Z h0 aTIME "com/example/tight_fence/tightfence/engine/TemporalType$Kind") (E_YEAR : Exa Z h0 aYEAR "com/example/tight_fence/tightfence/engine/TemporalType$Kind") (ne_DATE_DATETIME : ¬ aDATE = aDATETIME) (ne_DATE_TIMESTAMP : ¬ aDATE = aTIMESTAMP) (ne_DATE_TIME : ¬ aDATE = aTIME) (ne_DATE_YEAR : ¬ aDATE = aYEAR) (ne_DATETIME_TIMESTAMP : ¬ aDATETIME = aTIMESTAMP) (ne_DATETIME_TIME : ¬ aDATETIME = aTIME) (ne_DATETIME_YEAR : ¬ aDATETIME = aYEAR) (ne_TIMESTAMP_TIME : ¬ aTIMESTAMP = aTIME) (ne_TIMESTAMP_YEAR : ¬ aTIMESTAMP = aYEAR) (ne_TIME_YEAR : ¬ aTIME = aYEAR) :
    MetFree l own_y0 (head1 (Jvm.Cond.code own_y0 prog_84_method_4_code 1 (some .boolean) :: ws) ({ frames := 0, cells := 0, slots := 0, locals := 0 } : Room)) (fun a U => a = #[(.ref aDATETIME)] ∧ Z.Warmed39 U.vm ∧ U.heap = h0) (fun _ _ _ _ _ => True) (fun _ U o U' => ∃ v L, o = .returned v ∧ own_takes_DATETIME_Q aDATE aDATETIME aTIMESTAMP aTIME aYEAR h0 v U'.heap L ∧ FrameEnd U o U' L ({ frames := 0, cells := 0, slots := 0, locals := 0 } : Room).cells ({ frames := 0, cells := 0, slots := 0, locals := 0 } : Room).slots) := by
  refine MetFree.of_bodySF (plainFor_of_name own_pn_TemporalType_Kind) hisR ?_
  intro p e s m args below meth c s₁ Bd hml0 hP hK
  obtain ⟨rfl, hZ, hh⟩ := hP
  have hx := Bd.exec
  have hby := Bd.bytes
  have hml : c.maxLocals = 1 := hml0
  have hown : s.vm.findClass "com/example/tight_fence/tightfence/engine/TemporalType$Kind" = some m.cls := findClass_of_methodNamed Bd.named
  have hnm := (name_of_methodNamed Bd.named Bd.method).1
  have X0 : Stand p l e ({ frames := 0, cells := 0, slots := 0, locals := 0 } : Room) s m #[(.ref aDATETIME)] below meth c s₁ [] 0 0 := Stand.of_body Bd
  have e0 : s₁.heap = h0 := by rw [← hh, Bd.state]; rfl
  show own_E p e below (own_K (own_takes_DATETIME_Q aDATE aDATETIME aTIMESTAMP aTIME aYEAR h0) s ({ frames := 0, cells := 0, slots := 0, locals := 0 } : Room).cells ({ frames := 0, cells := 0, slots := 0, locals := 0 } : Room).slots) s₁ (entryFrame m #[(.ref aDATETIME)] 1)
  refine own_pre (own_takes_DATETIME_ef m aDATE aDATETIME aTIMESTAMP aTIME aYEAR) ?_
  show own_E p e below _ s₁ (mkF m 0 #[rv aDATETIME] [])
  refine own_st (fun t k => XS.aloadN X0.here hx rfl (hb hby own_d_prog_84_method_4_0) rfl rfl k) ?_
  show own_E p e below _ s₁ (mkF m 1 #[rv aDATETIME] [.ref aDATETIME])
  obtain ⟨T1, X1, e1, st1⟩ := getS2 X0 hx hZ hown (host := "") (Or.inl (own_w hw 9 rfl)) Via.refl e0 S_DATETIME (g := (mkF m 1 #[rv aDATETIME] [.ref aDATETIME])) rfl (hb hby own_d_prog_84_method_4_1)
  refine own_st st1 ?_
  show own_E p e below _ T1 (mkF m 4 #[rv aDATETIME] [.ref aDATETIME, .ref aDATETIME])
  refine own_st (fun t k => Jvm.RoadKit.acmp (g := (mkF m 4 #[rv aDATETIME] [.ref aDATETIME, .ref aDATETIME])) X1 hx rfl rfl rfl (pc0 := 4) (pc' := 21) (same := true) rfl (hb hby own_d_prog_84_method_4_4) rfl (decide_eq_true rfl) (by decide) (by decide) k) ?_
  show own_E p e below _ T1 (mkF m 21 #[rv aDATETIME] [])
  refine own_st (fun t k => XS.iconst X1.here hx rfl (hb hby own_d_prog_84_method_4_21) k) ?_
  show own_E p e below _ T1 (mkF m 22 #[rv aDATETIME] [.int 1])
  refine own_st (fun t k => XS.goto X1.here hx rfl (pc0 := 22) (pc' := 26) rfl (hb hby own_d_prog_84_method_4_22) (by decide) (by decide) k) ?_
  show own_E p e below _ T1 (mkF m 26 #[rv aDATETIME] [.int 1])
  refine own_retS X1 hx Bd.notSynchronized Bd.returns rfl (by decide) (hb hby own_d_prog_84_method_4_26) (by decide) (by decide) ?_
  exact ⟨rfl, e1, rfl⟩
def own_takes_TIMESTAMP_Q (aDATE : Addr) (aDATETIME : Addr) (aTIMESTAMP : Addr) (aTIME : Addr) (aYEAR : Addr) (h0 : Heap) (v : Option Value) (h : Heap) (L : List Loc) : Prop := ((v = some (.int (1 : Int32)))) ∧ h = h0 ∧ L = []
theorem own_takes_TIMESTAMP_ef (m : MethodId) (aDATE : Addr) (aDATETIME : Addr) (aTIMESTAMP : Addr) (aTIME : Addr) (aYEAR : Addr) : entryFrame m #[(.ref aTIMESTAMP)] 1 = mkF m 0 #[.val (.ref aTIMESTAMP)] [] := by first | (simp [entryFrame, mkF, argsToLocals, Value.category]; done) | rfl
set_option maxRecDepth 65536 in
set_option maxHeartbeats 40000000 in
theorem own_takes_TIMESTAMP (l : Launch) (Z : State) (a0 : Array Value) (hw : ∀ d ∈ tables_1, d.before a0 Z = true) (ws : List Jvm.Cond) (aDATE : Addr) (aDATETIME : Addr) (aTIMESTAMP : Addr) (aTIME : Addr) (aYEAR : Addr) (h0 : Heap) (n0 : Nat) (Z0 : n0 ≤ h0.size) (S_DATE : Sta Z h0 "com/example/tight_fence/tightfence/engine/TemporalType$Kind" "DATE" "Lcom/example/tight_fence/tightfence/engine/TemporalType$Kind;" (.ref aDATE)) (S_DATETIME : Sta Z h0 "com/example/tight_fence/tightfence/engine/TemporalType$Kind" "DATETIME" "Lcom/example/tight_fence/tightfence/engine/TemporalType$Kind;" (.ref aDATETIME)) (S_TIMESTAMP : Sta Z h0 "com/example/tight_fence/tightfence/engine/TemporalType$Kind" "TIMESTAMP" "Lcom/example/tight_fence/tightfence/engine/TemporalType$Kind;" (.ref aTIMESTAMP)) (S_TIME : Sta Z h0 "com/example/tight_fence/tightfence/engine/TemporalType$Kind" "TIME" "Lcom/example/tight_fence/tightfence/engine/TemporalType$Kind;" (.ref aTIME)) (S_YEAR : Sta Z h0 "com/example/tight_fence/tightfence/engine/TemporalType$Kind" "YEAR" "Lcom/example/tight_fence/tightfence/engine/TemporalType$Kind;" (.ref aYEAR)) (E_DATE : Exa Z h0 aDATE "com/example/tight_fence/tightfence/engine/TemporalType$Kind") (E_DATETIME : Exa Z h0 aDATETIME "com/example/tight_fence/tightfence/engine/TemporalType$Kind") (E_TIMESTAMP : Exa Z h0 aTIMESTAMP "com/example/tight_fence/tightfence/engine/TemporalType$Kind") (E_TIME : Exa Z h0 aTIME "com/example/tight_fence/tightfence/engine/TemporalType$Kind") (E_YEAR : Exa Z h0 aYEAR "com/example/tight_fence/tightfence/engine/TemporalType$Kind") (ne_DATE_DATETIME : ¬ aDATE = aDATETIME) (ne_DATE_TIMESTAMP : ¬ aDATE = aTIMESTAMP) (ne_DATE_TIME : ¬ aDATE = aTIME) (ne_DATE_YEAR : ¬ aDATE = aYEAR) (ne_DATETIME_TIMESTAMP : ¬ aDATETIME = aTIMESTAMP) (ne_DATETIME_TIME : ¬ aDATETIME = aTIME) (ne_DATETIME_YEAR : ¬ aDATETIME = aYEAR) (ne_TIMESTAMP_TIME : ¬ aTIMESTAMP = aTIME) (ne_TIMESTAMP_YEAR : ¬ aTIMESTAMP = aYEAR) (ne_TIME_YEAR : ¬ aTIME = aYEAR) :
    MetFree l own_y0 (head1 (Jvm.Cond.code own_y0 prog_84_method_4_code 1 (some .boolean) :: ws) ({ frames := 0, cells := 0, slots := 0, locals := 0 } : Room)) (fun a U => a = #[(.ref aTIMESTAMP)] ∧ Z.Warmed39 U.vm ∧ U.heap = h0) (fun _ _ _ _ _ => True) (fun _ U o U' => ∃ v L, o = .returned v ∧ own_takes_TIMESTAMP_Q aDATE aDATETIME aTIMESTAMP aTIME aYEAR h0 v U'.heap L ∧ FrameEnd U o U' L ({ frames := 0, cells := 0, slots := 0, locals := 0 } : Room).cells ({ frames := 0, cells := 0, slots := 0, locals := 0 } : Room).slots) := by
  refine MetFree.of_bodySF (plainFor_of_name own_pn_TemporalType_Kind) hisR ?_
  intro p e s m args below meth c s₁ Bd hml0 hP hK
  obtain ⟨rfl, hZ, hh⟩ := hP
  have hx := Bd.exec
  have hby := Bd.bytes
  have hml : c.maxLocals = 1 := hml0
  have hown : s.vm.findClass "com/example/tight_fence/tightfence/engine/TemporalType$Kind" = some m.cls := findClass_of_methodNamed Bd.named
  have hnm := (name_of_methodNamed Bd.named Bd.method).1
  have X0 : Stand p l e ({ frames := 0, cells := 0, slots := 0, locals := 0 } : Room) s m #[(.ref aTIMESTAMP)] below meth c s₁ [] 0 0 := Stand.of_body Bd
  have e0 : s₁.heap = h0 := by rw [← hh, Bd.state]; rfl
  show own_E p e below (own_K (own_takes_TIMESTAMP_Q aDATE aDATETIME aTIMESTAMP aTIME aYEAR h0) s ({ frames := 0, cells := 0, slots := 0, locals := 0 } : Room).cells ({ frames := 0, cells := 0, slots := 0, locals := 0 } : Room).slots) s₁ (entryFrame m #[(.ref aTIMESTAMP)] 1)
  refine own_pre (own_takes_TIMESTAMP_ef m aDATE aDATETIME aTIMESTAMP aTIME aYEAR) ?_
  show own_E p e below _ s₁ (mkF m 0 #[rv aTIMESTAMP] [])
  refine own_st (fun t k => XS.aloadN X0.here hx rfl (hb hby own_d_prog_84_method_4_0) rfl rfl k) ?_
  show own_E p e below _ s₁ (mkF m 1 #[rv aTIMESTAMP] [.ref aTIMESTAMP])
  obtain ⟨T1, X1, e1, st1⟩ := getS2 X0 hx hZ hown (host := "") (Or.inl (own_w hw 9 rfl)) Via.refl e0 S_DATETIME (g := (mkF m 1 #[rv aTIMESTAMP] [.ref aTIMESTAMP])) rfl (hb hby own_d_prog_84_method_4_1)
  refine own_st st1 ?_
  show own_E p e below _ T1 (mkF m 4 #[rv aTIMESTAMP] [.ref aDATETIME, .ref aTIMESTAMP])
  refine own_st (fun t k => Jvm.RoadKit.acmp (g := (mkF m 4 #[rv aTIMESTAMP] [.ref aDATETIME, .ref aTIMESTAMP])) X1 hx rfl rfl rfl (pc0 := 4) (pc' := 7) (same := false) rfl (hb hby own_d_prog_84_method_4_4) rfl (decide_eq_false fun q => ne_DATETIME_TIMESTAMP (Value.ref.inj q).symm) (by decide) (by decide) k) ?_
  show own_E p e below _ T1 (mkF m 7 #[rv aTIMESTAMP] [])
  refine own_st (fun t k => XS.aloadN X1.here hx rfl (hb hby own_d_prog_84_method_4_7) rfl rfl k) ?_
  show own_E p e below _ T1 (mkF m 8 #[rv aTIMESTAMP] [.ref aTIMESTAMP])
  obtain ⟨T2, X2, e2, st2⟩ := getS2 X1 hx hZ hown (host := "") (Or.inl (own_w hw 11 rfl)) Via.refl e1 S_TIMESTAMP (g := (mkF m 8 #[rv aTIMESTAMP] [.ref aTIMESTAMP])) rfl (hb hby own_d_prog_84_method_4_8)
  refine own_st st2 ?_
  show own_E p e below _ T2 (mkF m 11 #[rv aTIMESTAMP] [.ref aTIMESTAMP, .ref aTIMESTAMP])
  refine own_st (fun t k => Jvm.RoadKit.acmp (g := (mkF m 11 #[rv aTIMESTAMP] [.ref aTIMESTAMP, .ref aTIMESTAMP])) X2 hx rfl rfl rfl (pc0 := 11) (pc' := 21) (same := true) rfl (hb hby own_d_prog_84_method_4_11) rfl (decide_eq_true rfl) (by decide) (by decide) k) ?_
  show own_E p e below _ T2 (mkF m 21 #[rv aTIMESTAMP] [])
  refine own_st (fun t k => XS.iconst X2.here hx rfl (hb hby own_d_prog_84_method_4_21) k) ?_
  show own_E p e below _ T2 (mkF m 22 #[rv aTIMESTAMP] [.int 1])
  refine own_st (fun t k => XS.goto X2.here hx rfl (pc0 := 22) (pc' := 26) rfl (hb hby own_d_prog_84_method_4_22) (by decide) (by decide) k) ?_
  show own_E p e below _ T2 (mkF m 26 #[rv aTIMESTAMP] [.int 1])
  refine own_retS X2 hx Bd.notSynchronized Bd.returns rfl (by decide) (hb hby own_d_prog_84_method_4_26) (by decide) (by decide) ?_
  exact ⟨rfl, e2, rfl⟩
def own_takes_TIME_Q (aDATE : Addr) (aDATETIME : Addr) (aTIMESTAMP : Addr) (aTIME : Addr) (aYEAR : Addr) (h0 : Heap) (v : Option Value) (h : Heap) (L : List Loc) : Prop := ((v = some (.int (1 : Int32)))) ∧ h = h0 ∧ L = []
theorem own_takes_TIME_ef (m : MethodId) (aDATE : Addr) (aDATETIME : Addr) (aTIMESTAMP : Addr) (aTIME : Addr) (aYEAR : Addr) : entryFrame m #[(.ref aTIME)] 1 = mkF m 0 #[.val (.ref aTIME)] [] := by first | (simp [entryFrame, mkF, argsToLocals, Value.category]; done) | rfl
set_option maxRecDepth 65536 in
set_option maxHeartbeats 40000000 in
theorem own_takes_TIME (l : Launch) (Z : State) (a0 : Array Value) (hw : ∀ d ∈ tables_1, d.before a0 Z = true) (ws : List Jvm.Cond) (aDATE : Addr) (aDATETIME : Addr) (aTIMESTAMP : Addr) (aTIME : Addr) (aYEAR : Addr) (h0 : Heap) (n0 : Nat) (Z0 : n0 ≤ h0.size) (S_DATE : Sta Z h0 "com/example/tight_fence/tightfence/engine/TemporalType$Kind" "DATE" "Lcom/example/tight_fence/tightfence/engine/TemporalType$Kind;" (.ref aDATE)) (S_DATETIME : Sta Z h0 "com/example/tight_fence/tightfence/engine/TemporalType$Kind" "DATETIME" "Lcom/example/tight_fence/tightfence/engine/TemporalType$Kind;" (.ref aDATETIME)) (S_TIMESTAMP : Sta Z h0 "com/example/tight_fence/tightfence/engine/TemporalType$Kind" "TIMESTAMP" "Lcom/example/tight_fence/tightfence/engine/TemporalType$Kind;" (.ref aTIMESTAMP)) (S_TIME : Sta Z h0 "com/example/tight_fence/tightfence/engine/TemporalType$Kind" "TIME" "Lcom/example/tight_fence/tightfence/engine/TemporalType$Kind;" (.ref aTIME)) (S_YEAR : Sta Z h0 "com/example/tight_fence/tightfence/engine/TemporalType$Kind" "YEAR" "Lcom/example/tight_fence/tightfence/engine/TemporalType$Kind;" (.ref aYEAR)) (E_DATE : Exa Z h0 aDATE "com/example/tight_fence/tightfence/engine/TemporalType$Kind") (E_DATETIME : Exa Z h0 aDATETIME "com/example/tight_fence/tightfence/engine/TemporalType$Kind") (E_TIMESTAMP : Exa Z h0 aTIMESTAMP "com/example/tight_fence/tightfence/engine/TemporalType$Kind") (E_TIME : Exa Z h0 aTIME "com/example/tight_fence/tightfence/engine/TemporalType$Kind") (E_YEAR : Exa Z h0 aYEAR "com/example/tight_fence/tightfence/engine/TemporalType$Kind") (ne_DATE_DATETIME : ¬ aDATE = aDATETIME) (ne_DATE_TIMESTAMP : ¬ aDATE = aTIMESTAMP) (ne_DATE_TIME : ¬ aDATE = aTIME) (ne_DATE_YEAR : ¬ aDATE = aYEAR) (ne_DATETIME_TIMESTAMP : ¬ aDATETIME = aTIMESTAMP) (ne_DATETIME_TIME : ¬ aDATETIME = aTIME) (ne_DATETIME_YEAR : ¬ aDATETIME = aYEAR) (ne_TIMESTAMP_TIME : ¬ aTIMESTAMP = aTIME) (ne_TIMESTAMP_YEAR : ¬ aTIMESTAMP = aYEAR) (ne_TIME_YEAR : ¬ aTIME = aYEAR) :
    MetFree l own_y0 (head1 (Jvm.Cond.code own_y0 prog_84_method_4_code 1 (some .boolean) :: ws) ({ frames := 0, cells := 0, slots := 0, locals := 0 } : Room)) (fun a U => a = #[(.ref aTIME)] ∧ Z.Warmed39 U.vm ∧ U.heap = h0) (fun _ _ _ _ _ => True) (fun _ U o U' => ∃ v L, o = .returned v ∧ own_takes_TIME_Q aDATE aDATETIME aTIMESTAMP aTIME aYEAR h0 v U'.heap L ∧ FrameEnd U o U' L ({ frames := 0, cells := 0, slots := 0, locals := 0 } : Room).cells ({ frames := 0, cells := 0, slots := 0, locals := 0 } : Room).slots) := by
  refine MetFree.of_bodySF (plainFor_of_name own_pn_TemporalType_Kind) hisR ?_
  intro p e s m args below meth c s₁ Bd hml0 hP hK
  obtain ⟨rfl, hZ, hh⟩ := hP
  have hx := Bd.exec
  have hby := Bd.bytes
  have hml : c.maxLocals = 1 := hml0
  have hown : s.vm.findClass "com/example/tight_fence/tightfence/engine/TemporalType$Kind" = some m.cls := findClass_of_methodNamed Bd.named
  have hnm := (name_of_methodNamed Bd.named Bd.method).1
  have X0 : Stand p l e ({ frames := 0, cells := 0, slots := 0, locals := 0 } : Room) s m #[(.ref aTIME)] below meth c s₁ [] 0 0 := Stand.of_body Bd
  have e0 : s₁.heap = h0 := by rw [← hh, Bd.state]; rfl
  show own_E p e below (own_K (own_takes_TIME_Q aDATE aDATETIME aTIMESTAMP aTIME aYEAR h0) s ({ frames := 0, cells := 0, slots := 0, locals := 0 } : Room).cells ({ frames := 0, cells := 0, slots := 0, locals := 0 } : Room).slots) s₁ (entryFrame m #[(.ref aTIME)] 1)
  refine own_pre (own_takes_TIME_ef m aDATE aDATETIME aTIMESTAMP aTIME aYEAR) ?_
  show own_E p e below _ s₁ (mkF m 0 #[rv aTIME] [])
  refine own_st (fun t k => XS.aloadN X0.here hx rfl (hb hby own_d_prog_84_method_4_0) rfl rfl k) ?_
  show own_E p e below _ s₁ (mkF m 1 #[rv aTIME] [.ref aTIME])
  obtain ⟨T1, X1, e1, st1⟩ := getS2 X0 hx hZ hown (host := "") (Or.inl (own_w hw 9 rfl)) Via.refl e0 S_DATETIME (g := (mkF m 1 #[rv aTIME] [.ref aTIME])) rfl (hb hby own_d_prog_84_method_4_1)
  refine own_st st1 ?_
  show own_E p e below _ T1 (mkF m 4 #[rv aTIME] [.ref aDATETIME, .ref aTIME])
  refine own_st (fun t k => Jvm.RoadKit.acmp (g := (mkF m 4 #[rv aTIME] [.ref aDATETIME, .ref aTIME])) X1 hx rfl rfl rfl (pc0 := 4) (pc' := 7) (same := false) rfl (hb hby own_d_prog_84_method_4_4) rfl (decide_eq_false fun q => ne_DATETIME_TIME (Value.ref.inj q).symm) (by decide) (by decide) k) ?_
  show own_E p e below _ T1 (mkF m 7 #[rv aTIME] [])
  refine own_st (fun t k => XS.aloadN X1.here hx rfl (hb hby own_d_prog_84_method_4_7) rfl rfl k) ?_
  show own_E p e below _ T1 (mkF m 8 #[rv aTIME] [.ref aTIME])
  obtain ⟨T2, X2, e2, st2⟩ := getS2 X1 hx hZ hown (host := "") (Or.inl (own_w hw 11 rfl)) Via.refl e1 S_TIMESTAMP (g := (mkF m 8 #[rv aTIME] [.ref aTIME])) rfl (hb hby own_d_prog_84_method_4_8)
  refine own_st st2 ?_
  show own_E p e below _ T2 (mkF m 11 #[rv aTIME] [.ref aTIMESTAMP, .ref aTIME])
  refine own_st (fun t k => Jvm.RoadKit.acmp (g := (mkF m 11 #[rv aTIME] [.ref aTIMESTAMP, .ref aTIME])) X2 hx rfl rfl rfl (pc0 := 11) (pc' := 14) (same := false) rfl (hb hby own_d_prog_84_method_4_11) rfl (decide_eq_false fun q => ne_TIMESTAMP_TIME (Value.ref.inj q).symm) (by decide) (by decide) k) ?_
  show own_E p e below _ T2 (mkF m 14 #[rv aTIME] [])
  refine own_st (fun t k => XS.aloadN X2.here hx rfl (hb hby own_d_prog_84_method_4_14) rfl rfl k) ?_
  show own_E p e below _ T2 (mkF m 15 #[rv aTIME] [.ref aTIME])
  obtain ⟨T3, X3, e3, st3⟩ := getS2 X2 hx hZ hown (host := "") (Or.inl (own_w hw 13 rfl)) Via.refl e2 S_TIME (g := (mkF m 15 #[rv aTIME] [.ref aTIME])) rfl (hb hby own_d_prog_84_method_4_15)
  refine own_st st3 ?_
  show own_E p e below _ T3 (mkF m 18 #[rv aTIME] [.ref aTIME, .ref aTIME])
  refine own_st (fun t k => Jvm.RoadKit.acmp (g := (mkF m 18 #[rv aTIME] [.ref aTIME, .ref aTIME])) X3 hx rfl rfl rfl (pc0 := 18) (pc' := 21) (same := true) rfl (hb hby own_d_prog_84_method_4_18) rfl (decide_eq_true rfl) (by decide) (by decide) k) ?_
  show own_E p e below _ T3 (mkF m 21 #[rv aTIME] [])
  refine own_st (fun t k => XS.iconst X3.here hx rfl (hb hby own_d_prog_84_method_4_21) k) ?_
  show own_E p e below _ T3 (mkF m 22 #[rv aTIME] [.int 1])
  refine own_st (fun t k => XS.goto X3.here hx rfl (pc0 := 22) (pc' := 26) rfl (hb hby own_d_prog_84_method_4_22) (by decide) (by decide) k) ?_
  show own_E p e below _ T3 (mkF m 26 #[rv aTIME] [.int 1])
  refine own_retS X3 hx Bd.notSynchronized Bd.returns rfl (by decide) (hb hby own_d_prog_84_method_4_26) (by decide) (by decide) ?_
  exact ⟨rfl, e3, rfl⟩
def own_takes_YEAR_Q (aDATE : Addr) (aDATETIME : Addr) (aTIMESTAMP : Addr) (aTIME : Addr) (aYEAR : Addr) (h0 : Heap) (v : Option Value) (h : Heap) (L : List Loc) : Prop := ((v = some (.int (0 : Int32)))) ∧ h = h0 ∧ L = []
theorem own_takes_YEAR_ef (m : MethodId) (aDATE : Addr) (aDATETIME : Addr) (aTIMESTAMP : Addr) (aTIME : Addr) (aYEAR : Addr) : entryFrame m #[(.ref aYEAR)] 1 = mkF m 0 #[.val (.ref aYEAR)] [] := by first | (simp [entryFrame, mkF, argsToLocals, Value.category]; done) | rfl
set_option maxRecDepth 65536 in
set_option maxHeartbeats 40000000 in
theorem own_takes_YEAR (l : Launch) (Z : State) (a0 : Array Value) (hw : ∀ d ∈ tables_1, d.before a0 Z = true) (ws : List Jvm.Cond) (aDATE : Addr) (aDATETIME : Addr) (aTIMESTAMP : Addr) (aTIME : Addr) (aYEAR : Addr) (h0 : Heap) (n0 : Nat) (Z0 : n0 ≤ h0.size) (S_DATE : Sta Z h0 "com/example/tight_fence/tightfence/engine/TemporalType$Kind" "DATE" "Lcom/example/tight_fence/tightfence/engine/TemporalType$Kind;" (.ref aDATE)) (S_DATETIME : Sta Z h0 "com/example/tight_fence/tightfence/engine/TemporalType$Kind" "DATETIME" "Lcom/example/tight_fence/tightfence/engine/TemporalType$Kind;" (.ref aDATETIME)) (S_TIMESTAMP : Sta Z h0 "com/example/tight_fence/tightfence/engine/TemporalType$Kind" "TIMESTAMP" "Lcom/example/tight_fence/tightfence/engine/TemporalType$Kind;" (.ref aTIMESTAMP)) (S_TIME : Sta Z h0 "com/example/tight_fence/tightfence/engine/TemporalType$Kind" "TIME" "Lcom/example/tight_fence/tightfence/engine/TemporalType$Kind;" (.ref aTIME)) (S_YEAR : Sta Z h0 "com/example/tight_fence/tightfence/engine/TemporalType$Kind" "YEAR" "Lcom/example/tight_fence/tightfence/engine/TemporalType$Kind;" (.ref aYEAR)) (E_DATE : Exa Z h0 aDATE "com/example/tight_fence/tightfence/engine/TemporalType$Kind") (E_DATETIME : Exa Z h0 aDATETIME "com/example/tight_fence/tightfence/engine/TemporalType$Kind") (E_TIMESTAMP : Exa Z h0 aTIMESTAMP "com/example/tight_fence/tightfence/engine/TemporalType$Kind") (E_TIME : Exa Z h0 aTIME "com/example/tight_fence/tightfence/engine/TemporalType$Kind") (E_YEAR : Exa Z h0 aYEAR "com/example/tight_fence/tightfence/engine/TemporalType$Kind") (ne_DATE_DATETIME : ¬ aDATE = aDATETIME) (ne_DATE_TIMESTAMP : ¬ aDATE = aTIMESTAMP) (ne_DATE_TIME : ¬ aDATE = aTIME) (ne_DATE_YEAR : ¬ aDATE = aYEAR) (ne_DATETIME_TIMESTAMP : ¬ aDATETIME = aTIMESTAMP) (ne_DATETIME_TIME : ¬ aDATETIME = aTIME) (ne_DATETIME_YEAR : ¬ aDATETIME = aYEAR) (ne_TIMESTAMP_TIME : ¬ aTIMESTAMP = aTIME) (ne_TIMESTAMP_YEAR : ¬ aTIMESTAMP = aYEAR) (ne_TIME_YEAR : ¬ aTIME = aYEAR) :
    MetFree l own_y0 (head1 (Jvm.Cond.code own_y0 prog_84_method_4_code 1 (some .boolean) :: ws) ({ frames := 0, cells := 0, slots := 0, locals := 0 } : Room)) (fun a U => a = #[(.ref aYEAR)] ∧ Z.Warmed39 U.vm ∧ U.heap = h0) (fun _ _ _ _ _ => True) (fun _ U o U' => ∃ v L, o = .returned v ∧ own_takes_YEAR_Q aDATE aDATETIME aTIMESTAMP aTIME aYEAR h0 v U'.heap L ∧ FrameEnd U o U' L ({ frames := 0, cells := 0, slots := 0, locals := 0 } : Room).cells ({ frames := 0, cells := 0, slots := 0, locals := 0 } : Room).slots) := by
  refine MetFree.of_bodySF (plainFor_of_name own_pn_TemporalType_Kind) hisR ?_
  intro p e s m args below meth c s₁ Bd hml0 hP hK
  obtain ⟨rfl, hZ, hh⟩ := hP
  have hx := Bd.exec
  have hby := Bd.bytes
  have hml : c.maxLocals = 1 := hml0
  have hown : s.vm.findClass "com/example/tight_fence/tightfence/engine/TemporalType$Kind" = some m.cls := findClass_of_methodNamed Bd.named
  have hnm := (name_of_methodNamed Bd.named Bd.method).1
  have X0 : Stand p l e ({ frames := 0, cells := 0, slots := 0, locals := 0 } : Room) s m #[(.ref aYEAR)] below meth c s₁ [] 0 0 := Stand.of_body Bd
  have e0 : s₁.heap = h0 := by rw [← hh, Bd.state]; rfl
  show own_E p e below (own_K (own_takes_YEAR_Q aDATE aDATETIME aTIMESTAMP aTIME aYEAR h0) s ({ frames := 0, cells := 0, slots := 0, locals := 0 } : Room).cells ({ frames := 0, cells := 0, slots := 0, locals := 0 } : Room).slots) s₁ (entryFrame m #[(.ref aYEAR)] 1)
  refine own_pre (own_takes_YEAR_ef m aDATE aDATETIME aTIMESTAMP aTIME aYEAR) ?_
  show own_E p e below _ s₁ (mkF m 0 #[rv aYEAR] [])
  refine own_st (fun t k => XS.aloadN X0.here hx rfl (hb hby own_d_prog_84_method_4_0) rfl rfl k) ?_
  show own_E p e below _ s₁ (mkF m 1 #[rv aYEAR] [.ref aYEAR])
  obtain ⟨T1, X1, e1, st1⟩ := getS2 X0 hx hZ hown (host := "") (Or.inl (own_w hw 9 rfl)) Via.refl e0 S_DATETIME (g := (mkF m 1 #[rv aYEAR] [.ref aYEAR])) rfl (hb hby own_d_prog_84_method_4_1)
  refine own_st st1 ?_
  show own_E p e below _ T1 (mkF m 4 #[rv aYEAR] [.ref aDATETIME, .ref aYEAR])
  refine own_st (fun t k => Jvm.RoadKit.acmp (g := (mkF m 4 #[rv aYEAR] [.ref aDATETIME, .ref aYEAR])) X1 hx rfl rfl rfl (pc0 := 4) (pc' := 7) (same := false) rfl (hb hby own_d_prog_84_method_4_4) rfl (decide_eq_false fun q => ne_DATETIME_YEAR (Value.ref.inj q).symm) (by decide) (by decide) k) ?_
  show own_E p e below _ T1 (mkF m 7 #[rv aYEAR] [])
  refine own_st (fun t k => XS.aloadN X1.here hx rfl (hb hby own_d_prog_84_method_4_7) rfl rfl k) ?_
  show own_E p e below _ T1 (mkF m 8 #[rv aYEAR] [.ref aYEAR])
  obtain ⟨T2, X2, e2, st2⟩ := getS2 X1 hx hZ hown (host := "") (Or.inl (own_w hw 11 rfl)) Via.refl e1 S_TIMESTAMP (g := (mkF m 8 #[rv aYEAR] [.ref aYEAR])) rfl (hb hby own_d_prog_84_method_4_8)
  refine own_st st2 ?_
  show own_E p e below _ T2 (mkF m 11 #[rv aYEAR] [.ref aTIMESTAMP, .ref aYEAR])
  refine own_st (fun t k => Jvm.RoadKit.acmp (g := (mkF m 11 #[rv aYEAR] [.ref aTIMESTAMP, .ref aYEAR])) X2 hx rfl rfl rfl (pc0 := 11) (pc' := 14) (same := false) rfl (hb hby own_d_prog_84_method_4_11) rfl (decide_eq_false fun q => ne_TIMESTAMP_YEAR (Value.ref.inj q).symm) (by decide) (by decide) k) ?_
  show own_E p e below _ T2 (mkF m 14 #[rv aYEAR] [])
  refine own_st (fun t k => XS.aloadN X2.here hx rfl (hb hby own_d_prog_84_method_4_14) rfl rfl k) ?_
  show own_E p e below _ T2 (mkF m 15 #[rv aYEAR] [.ref aYEAR])
  obtain ⟨T3, X3, e3, st3⟩ := getS2 X2 hx hZ hown (host := "") (Or.inl (own_w hw 13 rfl)) Via.refl e2 S_TIME (g := (mkF m 15 #[rv aYEAR] [.ref aYEAR])) rfl (hb hby own_d_prog_84_method_4_15)
  refine own_st st3 ?_
  show own_E p e below _ T3 (mkF m 18 #[rv aYEAR] [.ref aTIME, .ref aYEAR])
  refine own_st (fun t k => Jvm.RoadKit.acmp (g := (mkF m 18 #[rv aYEAR] [.ref aTIME, .ref aYEAR])) X3 hx rfl rfl rfl (pc0 := 18) (pc' := 25) (same := false) rfl (hb hby own_d_prog_84_method_4_18) rfl (decide_eq_false fun q => ne_TIME_YEAR (Value.ref.inj q).symm) (by decide) (by decide) k) ?_
  show own_E p e below _ T3 (mkF m 25 #[rv aYEAR] [])
  refine own_st (fun t k => XS.iconst X3.here hx rfl (hb hby own_d_prog_84_method_4_25) k) ?_
  show own_E p e below _ T3 (mkF m 26 #[rv aYEAR] [.int 0])
  refine own_retS X3 hx Bd.notSynchronized Bd.returns rfl (by decide) (hb hby own_d_prog_84_method_4_26) (by decide) (by decide) ?_
  exact ⟨rfl, e3, rfl⟩
theorem own_pd_0 : parseMethodDescriptor "()Z" = some ⟨[], some .boolean⟩ := by decide +kernel
def own_law_Q (n0 : Nat) (v : Option Value) (h : Heap) (L : List Loc) : Prop := v = some (.int 1) ∧ Fr n0 L
theorem own_pn_KindTakesPrecisionPinLaw : plainName "com/example/tight_fence/tightfence/engine/KindTakesPrecisionPinLaw" = true := by first | (simp [plainName, overriddenIn]; done) | decide +kernel
theorem own_law_ef (m : MethodId) (aDATE : Addr) (aDATETIME : Addr) (aTIMESTAMP : Addr) (aTIME : Addr) (aYEAR : Addr) (p1 : Int32) : entryFrame m #[(.int p1)] maxLocals = mkF m 0 #[.val (.int p1), .unset, .unset, .unset] [] := by first | (simp [entryFrame, mkF, argsToLocals, Value.category, maxLocals]; done) | rfl
set_option maxRecDepth 65536 in
set_option maxHeartbeats 40000000 in
theorem own_law (l : Launch) (Z : State) (a0 : Array Value) (hw : ∀ d ∈ tables_1, d.before a0 Z = true) (ws : List Jvm.Cond) (aDATE : Addr) (aDATETIME : Addr) (aTIMESTAMP : Addr) (aTIME : Addr) (aYEAR : Addr) (p1 : Int32) (h0 : Heap) (n0 : Nat) (Z0 : n0 ≤ h0.size) (S_DATE : Sta Z h0 "com/example/tight_fence/tightfence/engine/TemporalType$Kind" "DATE" "Lcom/example/tight_fence/tightfence/engine/TemporalType$Kind;" (.ref aDATE)) (S_DATETIME : Sta Z h0 "com/example/tight_fence/tightfence/engine/TemporalType$Kind" "DATETIME" "Lcom/example/tight_fence/tightfence/engine/TemporalType$Kind;" (.ref aDATETIME)) (S_TIMESTAMP : Sta Z h0 "com/example/tight_fence/tightfence/engine/TemporalType$Kind" "TIMESTAMP" "Lcom/example/tight_fence/tightfence/engine/TemporalType$Kind;" (.ref aTIMESTAMP)) (S_TIME : Sta Z h0 "com/example/tight_fence/tightfence/engine/TemporalType$Kind" "TIME" "Lcom/example/tight_fence/tightfence/engine/TemporalType$Kind;" (.ref aTIME)) (S_YEAR : Sta Z h0 "com/example/tight_fence/tightfence/engine/TemporalType$Kind" "YEAR" "Lcom/example/tight_fence/tightfence/engine/TemporalType$Kind;" (.ref aYEAR)) (E_DATE : Exa Z h0 aDATE "com/example/tight_fence/tightfence/engine/TemporalType$Kind") (E_DATETIME : Exa Z h0 aDATETIME "com/example/tight_fence/tightfence/engine/TemporalType$Kind") (E_TIMESTAMP : Exa Z h0 aTIMESTAMP "com/example/tight_fence/tightfence/engine/TemporalType$Kind") (E_TIME : Exa Z h0 aTIME "com/example/tight_fence/tightfence/engine/TemporalType$Kind") (E_YEAR : Exa Z h0 aYEAR "com/example/tight_fence/tightfence/engine/TemporalType$Kind") (ne_DATE_DATETIME : ¬ aDATE = aDATETIME) (ne_DATE_TIMESTAMP : ¬ aDATE = aTIMESTAMP) (ne_DATE_TIME : ¬ aDATE = aTIME) (ne_DATE_YEAR : ¬ aDATE = aYEAR) (ne_DATETIME_TIMESTAMP : ¬ aDATETIME = aTIMESTAMP) (ne_DATETIME_TIME : ¬ aDATETIME = aTIME) (ne_DATETIME_YEAR : ¬ aDATETIME = aYEAR) (ne_TIMESTAMP_TIME : ¬ aTIMESTAMP = aTIME) (ne_TIMESTAMP_YEAR : ¬ aTIMESTAMP = aYEAR) (ne_TIME_YEAR : ¬ aTIME = aYEAR) :
    MetFree l x (head1 (Jvm.Cond.code x code maxLocals ret :: ws) room_1) (fun a U => a = #[(.int p1)] ∧ Z.Warmed39 U.vm ∧ U.heap = h0) (fun _ _ _ _ _ => True) (fun _ U o U' => ∃ v L, o = .returned v ∧ own_law_Q n0 v U'.heap L ∧ FrameEnd U o U' L room_1.cells room_1.slots) := by
  refine MetFree.of_bodySF (plainFor_of_name own_pn_KindTakesPrecisionPinLaw) hisR ?_
  intro p e s m args below meth c s₁ Bd hml0 hP hK
  obtain ⟨rfl, hZ, hh⟩ := hP
  have hx := Bd.exec
  have hby := Bd.bytes
  have hml : c.maxLocals = 4 := hml0
  have hown : s.vm.findClass "com/example/tight_fence/tightfence/engine/KindTakesPrecisionPinLaw" = some m.cls := findClass_of_methodNamed Bd.named
  have hnm := (name_of_methodNamed Bd.named Bd.method).1
  have X0 : Stand p l e room_1 s m #[(.int p1)] below meth c s₁ [] 0 0 := Stand.of_body Bd
  have e0 : s₁.heap = h0 := by rw [← hh, Bd.state]; rfl
  show own_E p e below (own_K (own_law_Q n0) s room_1.cells room_1.slots) s₁ (entryFrame m #[(.int p1)] maxLocals)
  refine own_pre (own_law_ef m aDATE aDATETIME aTIMESTAMP aTIME aYEAR p1) ?_
  show own_E p e below _ s₁ (mkF m 0 #[iv p1, .unset, .unset, .unset] [])
  refine own_st (fun t k => XS.iloadN X0.here hx rfl (hb hby at_0) rfl k) ?_
  show own_E p e below _ s₁ (mkF m 1 #[iv p1, .unset, .unset, .unset] [.int p1])
  refine own_st (X0.ldcInt hx hown (mvT hZ (own_w hw 0 rfl)) (g := (mkF m 1 #[iv p1, .unset, .unset, .unset] [.int p1])) rfl (hb hby at_1)) ?_
  show own_E p e below _ s₁ (mkF m 3 #[iv p1, .unset, .unset, .unset] [.int 2147483647, .int p1])
  refine own_st (fun t k => XS.iand X0.here hx rfl (hb hby at_3) rfl k) ?_
  show own_E p e below _ s₁ (mkF m 4 #[iv p1, .unset, .unset, .unset] [.int (p1 &&& (2147483647 : Int32))])
  refine own_st (fun t k => XS.iconst X0.here hx rfl (hb hby at_4) k) ?_
  show own_E p e below _ s₁ (mkF m 5 #[iv p1, .unset, .unset, .unset] [.int 5, .int (p1 &&& (2147483647 : Int32))])
  refine own_st (fun t k => iremM X0 hx rfl (hb hby at_5) rfl (by decide) k) ?_
  show own_E p e below _ s₁ (mkF m 6 #[iv p1, .unset, .unset, .unset] [.int ((p1 &&& (2147483647 : Int32)) % (5 : Int32))])
  refine own_st (fun t k => XS.istoreN X0.here hx rfl (hb hby at_6) rfl (l' := #[iv p1, iv ((p1 &&& (2147483647 : Int32)) % (5 : Int32)), .unset, .unset]) rfl k) ?_
  show own_E p e below _ s₁ (mkF m 7 #[iv p1, iv ((p1 &&& (2147483647 : Int32)) % (5 : Int32)), .unset, .unset] [])
  refine own_st (fun t k => XS.iloadN X0.here hx rfl (hb hby at_7) rfl k) ?_
  show own_E p e below _ s₁ (mkF m 8 #[iv p1, iv ((p1 &&& (2147483647 : Int32)) % (5 : Int32)), .unset, .unset] [.int ((p1 &&& (2147483647 : Int32)) % (5 : Int32))])
  by_cases hc1 : ((p1 &&& (2147483647 : Int32)) % (5 : Int32)) = (0 : Int32)
  · refine own_st (fun t k => XS.ifNo X0.here hx rfl (hb hby at_8) rfl ((if0 _ _).trans (teq hc1).2) k) ?_
    show own_E p e below _ s₁ (mkF m 11 #[iv p1, iv ((p1 &&& (2147483647 : Int32)) % (5 : Int32)), .unset, .unset] [])
    obtain ⟨T2, X2, e2, st2⟩ := getS2 X0 hx hZ hown (host := "") (Or.inl (own_w hw 1 rfl)) Via.refl e0 S_DATE (g := (mkF m 11 #[iv p1, iv ((p1 &&& (2147483647 : Int32)) % (5 : Int32)), .unset, .unset] [])) rfl (hb hby at_11)
    refine own_st st2 ?_
    show own_E p e below _ T2 (mkF m 14 #[iv p1, iv ((p1 &&& (2147483647 : Int32)) % (5 : Int32)), .unset, .unset] [.ref aDATE])
    refine own_st (fun t k => XS.astoreN X2.here hx rfl (hb hby at_14) rfl rfl (l' := #[iv p1, iv ((p1 &&& (2147483647 : Int32)) % (5 : Int32)), rv aDATE, .unset]) rfl k) ?_
    show own_E p e below _ T2 (mkF m 15 #[iv p1, iv ((p1 &&& (2147483647 : Int32)) % (5 : Int32)), rv aDATE, .unset] [])
    refine own_st (fun t k => XS.iconst X2.here hx rfl (hb hby at_15) k) ?_
    show own_E p e below _ T2 (mkF m 16 #[iv p1, iv ((p1 &&& (2147483647 : Int32)) % (5 : Int32)), rv aDATE, .unset] [.int 0])
    refine own_st (fun t k => XS.istoreN X2.here hx rfl (hb hby at_16) rfl (l' := #[iv p1, iv ((p1 &&& (2147483647 : Int32)) % (5 : Int32)), rv aDATE, iv 0]) rfl k) ?_
    show own_E p e below _ T2 (mkF m 17 #[iv p1, iv ((p1 &&& (2147483647 : Int32)) % (5 : Int32)), rv aDATE, iv 0] [])
    refine own_st (fun t k => XS.goto X2.here hx rfl (pc0 := 17) (pc' := 68) rfl (hb hby at_17) (by decide) (by decide) k) ?_
    show own_E p e below _ T2 (mkF m 68 #[iv p1, iv ((p1 &&& (2147483647 : Int32)) % (5 : Int32)), rv aDATE, iv 0] [])
    refine own_st (fun t k => XS.aloadN X2.here hx rfl (hb hby at_68) rfl rfl k) ?_
    show own_E p e below _ T2 (mkF m 69 #[iv p1, iv ((p1 &&& (2147483647 : Int32)) % (5 : Int32)), rv aDATE, iv 0] [.ref aDATE])
    obtain ⟨cq3, kq3, q3a, q3b, q3c⟩ := isOf hZ e2 E_DATE
    obtain ⟨_, _, ⟨T3, L3, k3, n3⟩, -, X3, ⟨Lc3, hQ3, l3, y3, z3⟩, st3⟩ := X2.virtualBack hx (y := own_y0) (z := own_y0) hown (mvT hZ (own_w hw 4 rfl)) (mvT hZ (own_w hw 5 rfl)) (notFace_of_selects (args := #[]) (mvT hZ (own_w hw 7 rfl))) (mvT hZ (own_w hw 7 rfl)) (mvT hZ (own_w hw 6 rfl)) (by decide) (backOf (W := 0) (own_takes_DATE l Z a0 hw [] aDATE aDATETIME aTIMESTAMP aTIME aYEAR h0 n0 Z0 S_DATE S_DATETIME S_TIMESTAMP S_TIME S_YEAR E_DATE E_DATETIME E_TIMESTAMP E_TIME E_YEAR ne_DATE_DATETIME ne_DATE_TIMESTAMP ne_DATE_TIME ne_DATE_YEAR ne_DATETIME_TIMESTAMP ne_DATETIME_TIME ne_DATETIME_YEAR ne_TIMESTAMP_TIME ne_TIMESTAMP_YEAR ne_TIME_YEAR) hZ (own_w hw 8 rfl) (own_w hw 2 rfl) (by decide) (by decide)) q3a q3c (g := (mkF m 69 #[iv p1, iv ((p1 &&& (2147483647 : Int32)) % (5 : Int32)), rv aDATE, iv 0] [.ref aDATE])) rfl (by rw [hml]; rfl) (Steps.refl _) (argsL := []) (rest := []) (lenOf own_pd_0 rfl) rfl (by show 2 * 0 + _ ≤ _; exact Nat.le_of_eq rfl) (hb hby at_69) (fun _ _ => ⟨rfl, e2, (by decide : 0 + 0 ≤ _), (by decide : 0 + 0 ≤ _)⟩)
    dsimp only [Pt.U, Pt.locs, Pt.cells, Pt.slots] at X3 l3 y3 z3 st3 hQ3
    subst l3 y3 z3
    obtain ⟨hR3, e3, rfl⟩ := hQ3
    obtain rfl := hR3
    refine own_tr st3 ?_
    show own_E p e below _ T3 (mkF m 72 #[iv p1, iv ((p1 &&& (2147483647 : Int32)) % (5 : Int32)), rv aDATE, iv 0] [.int 0])
    refine own_st (fun t k => XS.iloadN X3.here hx rfl (hb hby at_72) rfl k) ?_
    show own_E p e below _ T3 (mkF m 73 #[iv p1, iv ((p1 &&& (2147483647 : Int32)) % (5 : Int32)), rv aDATE, iv 0] [.int 0, .int 0])
    refine own_st (fun t k => XS.icmpNo X3.here hx rfl (hb hby at_73) rfl (by decide) k) ?_
    show own_E p e below _ T3 (mkF m 76 #[iv p1, iv ((p1 &&& (2147483647 : Int32)) % (5 : Int32)), rv aDATE, iv 0] [])
    refine own_st (fun t k => XS.iconst X3.here hx rfl (hb hby at_76) k) ?_
    show own_E p e below _ T3 (mkF m 77 #[iv p1, iv ((p1 &&& (2147483647 : Int32)) % (5 : Int32)), rv aDATE, iv 0] [.int 1])
    refine own_st (fun t k => XS.goto X3.here hx rfl (pc0 := 77) (pc' := 81) rfl (hb hby at_77) (by decide) (by decide) k) ?_
    show own_E p e below _ T3 (mkF m 81 #[iv p1, iv ((p1 &&& (2147483647 : Int32)) % (5 : Int32)), rv aDATE, iv 0] [.int 1])
    refine own_retS X3 hx Bd.notSynchronized Bd.returns rfl (by decide) (hb hby at_81) (by decide) (by decide) ?_
    exact ⟨rfl, fun y hy => by simp at hy⟩
  · refine own_st (fun t k => XS.ifYes X0.here hx rfl (pc0 := 8) (pc' := 20) rfl (hb hby at_8) rfl ((if0 _ _).trans (feq hc1).2) (by decide) (by decide) k) ?_
    show own_E p e below _ s₁ (mkF m 20 #[iv p1, iv ((p1 &&& (2147483647 : Int32)) % (5 : Int32)), .unset, .unset] [])
    refine own_st (fun t k => XS.iloadN X0.here hx rfl (hb hby at_20) rfl k) ?_
    show own_E p e below _ s₁ (mkF m 21 #[iv p1, iv ((p1 &&& (2147483647 : Int32)) % (5 : Int32)), .unset, .unset] [.int ((p1 &&& (2147483647 : Int32)) % (5 : Int32))])
    refine own_st (fun t k => XS.iconst X0.here hx rfl (hb hby at_21) k) ?_
    show own_E p e below _ s₁ (mkF m 22 #[iv p1, iv ((p1 &&& (2147483647 : Int32)) % (5 : Int32)), .unset, .unset] [.int 1, .int ((p1 &&& (2147483647 : Int32)) % (5 : Int32))])
    by_cases hc4 : ((p1 &&& (2147483647 : Int32)) % (5 : Int32)) = (1 : Int32)
    · refine own_st (fun t k => XS.icmpNo X0.here hx rfl (hb hby at_22) rfl (teq hc4).2 k) ?_
      show own_E p e below _ s₁ (mkF m 25 #[iv p1, iv ((p1 &&& (2147483647 : Int32)) % (5 : Int32)), .unset, .unset] [])
      obtain ⟨T5, X5, e5, st5⟩ := getS2 X0 hx hZ hown (host := "") (Or.inl (own_w hw 16 rfl)) Via.refl e0 S_DATETIME (g := (mkF m 25 #[iv p1, iv ((p1 &&& (2147483647 : Int32)) % (5 : Int32)), .unset, .unset] [])) rfl (hb hby at_25)
      refine own_st st5 ?_
      show own_E p e below _ T5 (mkF m 28 #[iv p1, iv ((p1 &&& (2147483647 : Int32)) % (5 : Int32)), .unset, .unset] [.ref aDATETIME])
      refine own_st (fun t k => XS.astoreN X5.here hx rfl (hb hby at_28) rfl rfl (l' := #[iv p1, iv ((p1 &&& (2147483647 : Int32)) % (5 : Int32)), rv aDATETIME, .unset]) rfl k) ?_
      show own_E p e below _ T5 (mkF m 29 #[iv p1, iv ((p1 &&& (2147483647 : Int32)) % (5 : Int32)), rv aDATETIME, .unset] [])
      refine own_st (fun t k => XS.iconst X5.here hx rfl (hb hby at_29) k) ?_
      show own_E p e below _ T5 (mkF m 30 #[iv p1, iv ((p1 &&& (2147483647 : Int32)) % (5 : Int32)), rv aDATETIME, .unset] [.int 1])
      refine own_st (fun t k => XS.istoreN X5.here hx rfl (hb hby at_30) rfl (l' := #[iv p1, iv ((p1 &&& (2147483647 : Int32)) % (5 : Int32)), rv aDATETIME, iv 1]) rfl k) ?_
      show own_E p e below _ T5 (mkF m 31 #[iv p1, iv ((p1 &&& (2147483647 : Int32)) % (5 : Int32)), rv aDATETIME, iv 1] [])
      refine own_st (fun t k => XS.goto X5.here hx rfl (pc0 := 31) (pc' := 68) rfl (hb hby at_31) (by decide) (by decide) k) ?_
      show own_E p e below _ T5 (mkF m 68 #[iv p1, iv ((p1 &&& (2147483647 : Int32)) % (5 : Int32)), rv aDATETIME, iv 1] [])
      refine own_st (fun t k => XS.aloadN X5.here hx rfl (hb hby at_68) rfl rfl k) ?_
      show own_E p e below _ T5 (mkF m 69 #[iv p1, iv ((p1 &&& (2147483647 : Int32)) % (5 : Int32)), rv aDATETIME, iv 1] [.ref aDATETIME])
      obtain ⟨cq6, kq6, q6a, q6b, q6c⟩ := isOf hZ e5 E_DATETIME
      obtain ⟨_, _, ⟨T6, L6, k6, n6⟩, -, X6, ⟨Lc6, hQ6, l6, y6, z6⟩, st6⟩ := X5.virtualBack hx (y := own_y0) (z := own_y0) hown (mvT hZ (own_w hw 4 rfl)) (mvT hZ (own_w hw 5 rfl)) (notFace_of_selects (args := #[]) (mvT hZ (own_w hw 7 rfl))) (mvT hZ (own_w hw 7 rfl)) (mvT hZ (own_w hw 6 rfl)) (by decide) (backOf (W := 0) (own_takes_DATETIME l Z a0 hw [] aDATE aDATETIME aTIMESTAMP aTIME aYEAR h0 n0 Z0 S_DATE S_DATETIME S_TIMESTAMP S_TIME S_YEAR E_DATE E_DATETIME E_TIMESTAMP E_TIME E_YEAR ne_DATE_DATETIME ne_DATE_TIMESTAMP ne_DATE_TIME ne_DATE_YEAR ne_DATETIME_TIMESTAMP ne_DATETIME_TIME ne_DATETIME_YEAR ne_TIMESTAMP_TIME ne_TIMESTAMP_YEAR ne_TIME_YEAR) hZ (own_w hw 8 rfl) (own_w hw 2 rfl) (by decide) (by decide)) q6a q6c (g := (mkF m 69 #[iv p1, iv ((p1 &&& (2147483647 : Int32)) % (5 : Int32)), rv aDATETIME, iv 1] [.ref aDATETIME])) rfl (by rw [hml]; rfl) (Steps.refl _) (argsL := []) (rest := []) (lenOf own_pd_0 rfl) rfl (by show 2 * 0 + _ ≤ _; exact Nat.le_of_eq rfl) (hb hby at_69) (fun _ _ => ⟨rfl, e5, (by decide : 0 + 0 ≤ _), (by decide : 0 + 0 ≤ _)⟩)
      dsimp only [Pt.U, Pt.locs, Pt.cells, Pt.slots] at X6 l6 y6 z6 st6 hQ6
      subst l6 y6 z6
      obtain ⟨hR6, e6, rfl⟩ := hQ6
      obtain rfl := hR6
      refine own_tr st6 ?_
      show own_E p e below _ T6 (mkF m 72 #[iv p1, iv ((p1 &&& (2147483647 : Int32)) % (5 : Int32)), rv aDATETIME, iv 1] [.int 1])
      refine own_st (fun t k => XS.iloadN X6.here hx rfl (hb hby at_72) rfl k) ?_
      show own_E p e below _ T6 (mkF m 73 #[iv p1, iv ((p1 &&& (2147483647 : Int32)) % (5 : Int32)), rv aDATETIME, iv 1] [.int 1, .int 1])
      refine own_st (fun t k => XS.icmpNo X6.here hx rfl (hb hby at_73) rfl (by decide) k) ?_
      show own_E p e below _ T6 (mkF m 76 #[iv p1, iv ((p1 &&& (2147483647 : Int32)) % (5 : Int32)), rv aDATETIME, iv 1] [])
      refine own_st (fun t k => XS.iconst X6.here hx rfl (hb hby at_76) k) ?_
      show own_E p e below _ T6 (mkF m 77 #[iv p1, iv ((p1 &&& (2147483647 : Int32)) % (5 : Int32)), rv aDATETIME, iv 1] [.int 1])
      refine own_st (fun t k => XS.goto X6.here hx rfl (pc0 := 77) (pc' := 81) rfl (hb hby at_77) (by decide) (by decide) k) ?_
      show own_E p e below _ T6 (mkF m 81 #[iv p1, iv ((p1 &&& (2147483647 : Int32)) % (5 : Int32)), rv aDATETIME, iv 1] [.int 1])
      refine own_retS X6 hx Bd.notSynchronized Bd.returns rfl (by decide) (hb hby at_81) (by decide) (by decide) ?_
      exact ⟨rfl, fun y hy => by simp at hy⟩
    · refine own_st (fun t k => XS.icmpYes X0.here hx rfl (pc0 := 22) (pc' := 34) rfl (hb hby at_22) rfl (feq hc4).2 (by decide) (by decide) k) ?_
      show own_E p e below _ s₁ (mkF m 34 #[iv p1, iv ((p1 &&& (2147483647 : Int32)) % (5 : Int32)), .unset, .unset] [])
      refine own_st (fun t k => XS.iloadN X0.here hx rfl (hb hby at_34) rfl k) ?_
      show own_E p e below _ s₁ (mkF m 35 #[iv p1, iv ((p1 &&& (2147483647 : Int32)) % (5 : Int32)), .unset, .unset] [.int ((p1 &&& (2147483647 : Int32)) % (5 : Int32))])
      refine own_st (fun t k => XS.iconst X0.here hx rfl (hb hby at_35) k) ?_
      show own_E p e below _ s₁ (mkF m 36 #[iv p1, iv ((p1 &&& (2147483647 : Int32)) % (5 : Int32)), .unset, .unset] [.int 2, .int ((p1 &&& (2147483647 : Int32)) % (5 : Int32))])
      by_cases hc7 : ((p1 &&& (2147483647 : Int32)) % (5 : Int32)) = (2 : Int32)
      · refine own_st (fun t k => XS.icmpNo X0.here hx rfl (hb hby at_36) rfl (teq hc7).2 k) ?_
        show own_E p e below _ s₁ (mkF m 39 #[iv p1, iv ((p1 &&& (2147483647 : Int32)) % (5 : Int32)), .unset, .unset] [])
        obtain ⟨T8, X8, e8, st8⟩ := getS2 X0 hx hZ hown (host := "") (Or.inl (own_w hw 19 rfl)) Via.refl e0 S_TIMESTAMP (g := (mkF m 39 #[iv p1, iv ((p1 &&& (2147483647 : Int32)) % (5 : Int32)), .unset, .unset] [])) rfl (hb hby at_39)
        refine own_st st8 ?_
        show own_E p e below _ T8 (mkF m 42 #[iv p1, iv ((p1 &&& (2147483647 : Int32)) % (5 : Int32)), .unset, .unset] [.ref aTIMESTAMP])
        refine own_st (fun t k => XS.astoreN X8.here hx rfl (hb hby at_42) rfl rfl (l' := #[iv p1, iv ((p1 &&& (2147483647 : Int32)) % (5 : Int32)), rv aTIMESTAMP, .unset]) rfl k) ?_
        show own_E p e below _ T8 (mkF m 43 #[iv p1, iv ((p1 &&& (2147483647 : Int32)) % (5 : Int32)), rv aTIMESTAMP, .unset] [])
        refine own_st (fun t k => XS.iconst X8.here hx rfl (hb hby at_43) k) ?_
        show own_E p e below _ T8 (mkF m 44 #[iv p1, iv ((p1 &&& (2147483647 : Int32)) % (5 : Int32)), rv aTIMESTAMP, .unset] [.int 1])
        refine own_st (fun t k => XS.istoreN X8.here hx rfl (hb hby at_44) rfl (l' := #[iv p1, iv ((p1 &&& (2147483647 : Int32)) % (5 : Int32)), rv aTIMESTAMP, iv 1]) rfl k) ?_
        show own_E p e below _ T8 (mkF m 45 #[iv p1, iv ((p1 &&& (2147483647 : Int32)) % (5 : Int32)), rv aTIMESTAMP, iv 1] [])
        refine own_st (fun t k => XS.goto X8.here hx rfl (pc0 := 45) (pc' := 68) rfl (hb hby at_45) (by decide) (by decide) k) ?_
        show own_E p e below _ T8 (mkF m 68 #[iv p1, iv ((p1 &&& (2147483647 : Int32)) % (5 : Int32)), rv aTIMESTAMP, iv 1] [])
        refine own_st (fun t k => XS.aloadN X8.here hx rfl (hb hby at_68) rfl rfl k) ?_
        show own_E p e below _ T8 (mkF m 69 #[iv p1, iv ((p1 &&& (2147483647 : Int32)) % (5 : Int32)), rv aTIMESTAMP, iv 1] [.ref aTIMESTAMP])
        obtain ⟨cq9, kq9, q9a, q9b, q9c⟩ := isOf hZ e8 E_TIMESTAMP
        obtain ⟨_, _, ⟨T9, L9, k9, n9⟩, -, X9, ⟨Lc9, hQ9, l9, y9, z9⟩, st9⟩ := X8.virtualBack hx (y := own_y0) (z := own_y0) hown (mvT hZ (own_w hw 4 rfl)) (mvT hZ (own_w hw 5 rfl)) (notFace_of_selects (args := #[]) (mvT hZ (own_w hw 7 rfl))) (mvT hZ (own_w hw 7 rfl)) (mvT hZ (own_w hw 6 rfl)) (by decide) (backOf (W := 0) (own_takes_TIMESTAMP l Z a0 hw [] aDATE aDATETIME aTIMESTAMP aTIME aYEAR h0 n0 Z0 S_DATE S_DATETIME S_TIMESTAMP S_TIME S_YEAR E_DATE E_DATETIME E_TIMESTAMP E_TIME E_YEAR ne_DATE_DATETIME ne_DATE_TIMESTAMP ne_DATE_TIME ne_DATE_YEAR ne_DATETIME_TIMESTAMP ne_DATETIME_TIME ne_DATETIME_YEAR ne_TIMESTAMP_TIME ne_TIMESTAMP_YEAR ne_TIME_YEAR) hZ (own_w hw 8 rfl) (own_w hw 2 rfl) (by decide) (by decide)) q9a q9c (g := (mkF m 69 #[iv p1, iv ((p1 &&& (2147483647 : Int32)) % (5 : Int32)), rv aTIMESTAMP, iv 1] [.ref aTIMESTAMP])) rfl (by rw [hml]; rfl) (Steps.refl _) (argsL := []) (rest := []) (lenOf own_pd_0 rfl) rfl (by show 2 * 0 + _ ≤ _; exact Nat.le_of_eq rfl) (hb hby at_69) (fun _ _ => ⟨rfl, e8, (by decide : 0 + 0 ≤ _), (by decide : 0 + 0 ≤ _)⟩)
        dsimp only [Pt.U, Pt.locs, Pt.cells, Pt.slots] at X9 l9 y9 z9 st9 hQ9
        subst l9 y9 z9
        obtain ⟨hR9, e9, rfl⟩ := hQ9
        obtain rfl := hR9
        refine own_tr st9 ?_
        show own_E p e below _ T9 (mkF m 72 #[iv p1, iv ((p1 &&& (2147483647 : Int32)) % (5 : Int32)), rv aTIMESTAMP, iv 1] [.int 1])
        refine own_st (fun t k => XS.iloadN X9.here hx rfl (hb hby at_72) rfl k) ?_
        show own_E p e below _ T9 (mkF m 73 #[iv p1, iv ((p1 &&& (2147483647 : Int32)) % (5 : Int32)), rv aTIMESTAMP, iv 1] [.int 1, .int 1])
        refine own_st (fun t k => XS.icmpNo X9.here hx rfl (hb hby at_73) rfl (by decide) k) ?_
        show own_E p e below _ T9 (mkF m 76 #[iv p1, iv ((p1 &&& (2147483647 : Int32)) % (5 : Int32)), rv aTIMESTAMP, iv 1] [])
        refine own_st (fun t k => XS.iconst X9.here hx rfl (hb hby at_76) k) ?_
        show own_E p e below _ T9 (mkF m 77 #[iv p1, iv ((p1 &&& (2147483647 : Int32)) % (5 : Int32)), rv aTIMESTAMP, iv 1] [.int 1])
        refine own_st (fun t k => XS.goto X9.here hx rfl (pc0 := 77) (pc' := 81) rfl (hb hby at_77) (by decide) (by decide) k) ?_
        show own_E p e below _ T9 (mkF m 81 #[iv p1, iv ((p1 &&& (2147483647 : Int32)) % (5 : Int32)), rv aTIMESTAMP, iv 1] [.int 1])
        refine own_retS X9 hx Bd.notSynchronized Bd.returns rfl (by decide) (hb hby at_81) (by decide) (by decide) ?_
        exact ⟨rfl, fun y hy => by simp at hy⟩
      · refine own_st (fun t k => XS.icmpYes X0.here hx rfl (pc0 := 36) (pc' := 48) rfl (hb hby at_36) rfl (feq hc7).2 (by decide) (by decide) k) ?_
        show own_E p e below _ s₁ (mkF m 48 #[iv p1, iv ((p1 &&& (2147483647 : Int32)) % (5 : Int32)), .unset, .unset] [])
        refine own_st (fun t k => XS.iloadN X0.here hx rfl (hb hby at_48) rfl k) ?_
        show own_E p e below _ s₁ (mkF m 49 #[iv p1, iv ((p1 &&& (2147483647 : Int32)) % (5 : Int32)), .unset, .unset] [.int ((p1 &&& (2147483647 : Int32)) % (5 : Int32))])
        refine own_st (fun t k => XS.iconst X0.here hx rfl (hb hby at_49) k) ?_
        show own_E p e below _ s₁ (mkF m 50 #[iv p1, iv ((p1 &&& (2147483647 : Int32)) % (5 : Int32)), .unset, .unset] [.int 3, .int ((p1 &&& (2147483647 : Int32)) % (5 : Int32))])
        by_cases hc10 : ((p1 &&& (2147483647 : Int32)) % (5 : Int32)) = (3 : Int32)
        · refine own_st (fun t k => XS.icmpNo X0.here hx rfl (hb hby at_50) rfl (teq hc10).2 k) ?_
          show own_E p e below _ s₁ (mkF m 53 #[iv p1, iv ((p1 &&& (2147483647 : Int32)) % (5 : Int32)), .unset, .unset] [])
          obtain ⟨T11, X11, e11, st11⟩ := getS2 X0 hx hZ hown (host := "") (Or.inl (own_w hw 15 rfl)) Via.refl e0 S_TIME (g := (mkF m 53 #[iv p1, iv ((p1 &&& (2147483647 : Int32)) % (5 : Int32)), .unset, .unset] [])) rfl (hb hby at_53)
          refine own_st st11 ?_
          show own_E p e below _ T11 (mkF m 56 #[iv p1, iv ((p1 &&& (2147483647 : Int32)) % (5 : Int32)), .unset, .unset] [.ref aTIME])
          refine own_st (fun t k => XS.astoreN X11.here hx rfl (hb hby at_56) rfl rfl (l' := #[iv p1, iv ((p1 &&& (2147483647 : Int32)) % (5 : Int32)), rv aTIME, .unset]) rfl k) ?_
          show own_E p e below _ T11 (mkF m 57 #[iv p1, iv ((p1 &&& (2147483647 : Int32)) % (5 : Int32)), rv aTIME, .unset] [])
          refine own_st (fun t k => XS.iconst X11.here hx rfl (hb hby at_57) k) ?_
          show own_E p e below _ T11 (mkF m 58 #[iv p1, iv ((p1 &&& (2147483647 : Int32)) % (5 : Int32)), rv aTIME, .unset] [.int 1])
          refine own_st (fun t k => XS.istoreN X11.here hx rfl (hb hby at_58) rfl (l' := #[iv p1, iv ((p1 &&& (2147483647 : Int32)) % (5 : Int32)), rv aTIME, iv 1]) rfl k) ?_
          show own_E p e below _ T11 (mkF m 59 #[iv p1, iv ((p1 &&& (2147483647 : Int32)) % (5 : Int32)), rv aTIME, iv 1] [])
          refine own_st (fun t k => XS.goto X11.here hx rfl (pc0 := 59) (pc' := 68) rfl (hb hby at_59) (by decide) (by decide) k) ?_
          show own_E p e below _ T11 (mkF m 68 #[iv p1, iv ((p1 &&& (2147483647 : Int32)) % (5 : Int32)), rv aTIME, iv 1] [])
          refine own_st (fun t k => XS.aloadN X11.here hx rfl (hb hby at_68) rfl rfl k) ?_
          show own_E p e below _ T11 (mkF m 69 #[iv p1, iv ((p1 &&& (2147483647 : Int32)) % (5 : Int32)), rv aTIME, iv 1] [.ref aTIME])
          obtain ⟨cq12, kq12, q12a, q12b, q12c⟩ := isOf hZ e11 E_TIME
          obtain ⟨_, _, ⟨T12, L12, k12, n12⟩, -, X12, ⟨Lc12, hQ12, l12, y12, z12⟩, st12⟩ := X11.virtualBack hx (y := own_y0) (z := own_y0) hown (mvT hZ (own_w hw 4 rfl)) (mvT hZ (own_w hw 5 rfl)) (notFace_of_selects (args := #[]) (mvT hZ (own_w hw 7 rfl))) (mvT hZ (own_w hw 7 rfl)) (mvT hZ (own_w hw 6 rfl)) (by decide) (backOf (W := 0) (own_takes_TIME l Z a0 hw [] aDATE aDATETIME aTIMESTAMP aTIME aYEAR h0 n0 Z0 S_DATE S_DATETIME S_TIMESTAMP S_TIME S_YEAR E_DATE E_DATETIME E_TIMESTAMP E_TIME E_YEAR ne_DATE_DATETIME ne_DATE_TIMESTAMP ne_DATE_TIME ne_DATE_YEAR ne_DATETIME_TIMESTAMP ne_DATETIME_TIME ne_DATETIME_YEAR ne_TIMESTAMP_TIME ne_TIMESTAMP_YEAR ne_TIME_YEAR) hZ (own_w hw 8 rfl) (own_w hw 2 rfl) (by decide) (by decide)) q12a q12c (g := (mkF m 69 #[iv p1, iv ((p1 &&& (2147483647 : Int32)) % (5 : Int32)), rv aTIME, iv 1] [.ref aTIME])) rfl (by rw [hml]; rfl) (Steps.refl _) (argsL := []) (rest := []) (lenOf own_pd_0 rfl) rfl (by show 2 * 0 + _ ≤ _; exact Nat.le_of_eq rfl) (hb hby at_69) (fun _ _ => ⟨rfl, e11, (by decide : 0 + 0 ≤ _), (by decide : 0 + 0 ≤ _)⟩)
          dsimp only [Pt.U, Pt.locs, Pt.cells, Pt.slots] at X12 l12 y12 z12 st12 hQ12
          subst l12 y12 z12
          obtain ⟨hR12, e12, rfl⟩ := hQ12
          obtain rfl := hR12
          refine own_tr st12 ?_
          show own_E p e below _ T12 (mkF m 72 #[iv p1, iv ((p1 &&& (2147483647 : Int32)) % (5 : Int32)), rv aTIME, iv 1] [.int 1])
          refine own_st (fun t k => XS.iloadN X12.here hx rfl (hb hby at_72) rfl k) ?_
          show own_E p e below _ T12 (mkF m 73 #[iv p1, iv ((p1 &&& (2147483647 : Int32)) % (5 : Int32)), rv aTIME, iv 1] [.int 1, .int 1])
          refine own_st (fun t k => XS.icmpNo X12.here hx rfl (hb hby at_73) rfl (by decide) k) ?_
          show own_E p e below _ T12 (mkF m 76 #[iv p1, iv ((p1 &&& (2147483647 : Int32)) % (5 : Int32)), rv aTIME, iv 1] [])
          refine own_st (fun t k => XS.iconst X12.here hx rfl (hb hby at_76) k) ?_
          show own_E p e below _ T12 (mkF m 77 #[iv p1, iv ((p1 &&& (2147483647 : Int32)) % (5 : Int32)), rv aTIME, iv 1] [.int 1])
          refine own_st (fun t k => XS.goto X12.here hx rfl (pc0 := 77) (pc' := 81) rfl (hb hby at_77) (by decide) (by decide) k) ?_
          show own_E p e below _ T12 (mkF m 81 #[iv p1, iv ((p1 &&& (2147483647 : Int32)) % (5 : Int32)), rv aTIME, iv 1] [.int 1])
          refine own_retS X12 hx Bd.notSynchronized Bd.returns rfl (by decide) (hb hby at_81) (by decide) (by decide) ?_
          exact ⟨rfl, fun y hy => by simp at hy⟩
        · refine own_st (fun t k => XS.icmpYes X0.here hx rfl (pc0 := 50) (pc' := 62) rfl (hb hby at_50) rfl (feq hc10).2 (by decide) (by decide) k) ?_
          show own_E p e below _ s₁ (mkF m 62 #[iv p1, iv ((p1 &&& (2147483647 : Int32)) % (5 : Int32)), .unset, .unset] [])
          obtain ⟨T13, X13, e13, st13⟩ := getS2 X0 hx hZ hown (host := "") (Or.inl (own_w hw 17 rfl)) Via.refl e0 S_YEAR (g := (mkF m 62 #[iv p1, iv ((p1 &&& (2147483647 : Int32)) % (5 : Int32)), .unset, .unset] [])) rfl (hb hby at_62)
          refine own_st st13 ?_
          show own_E p e below _ T13 (mkF m 65 #[iv p1, iv ((p1 &&& (2147483647 : Int32)) % (5 : Int32)), .unset, .unset] [.ref aYEAR])
          refine own_st (fun t k => XS.astoreN X13.here hx rfl (hb hby at_65) rfl rfl (l' := #[iv p1, iv ((p1 &&& (2147483647 : Int32)) % (5 : Int32)), rv aYEAR, .unset]) rfl k) ?_
          show own_E p e below _ T13 (mkF m 66 #[iv p1, iv ((p1 &&& (2147483647 : Int32)) % (5 : Int32)), rv aYEAR, .unset] [])
          refine own_st (fun t k => XS.iconst X13.here hx rfl (hb hby at_66) k) ?_
          show own_E p e below _ T13 (mkF m 67 #[iv p1, iv ((p1 &&& (2147483647 : Int32)) % (5 : Int32)), rv aYEAR, .unset] [.int 0])
          refine own_st (fun t k => XS.istoreN X13.here hx rfl (hb hby at_67) rfl (l' := #[iv p1, iv ((p1 &&& (2147483647 : Int32)) % (5 : Int32)), rv aYEAR, iv 0]) rfl k) ?_
          show own_E p e below _ T13 (mkF m 68 #[iv p1, iv ((p1 &&& (2147483647 : Int32)) % (5 : Int32)), rv aYEAR, iv 0] [])
          refine own_st (fun t k => XS.aloadN X13.here hx rfl (hb hby at_68) rfl rfl k) ?_
          show own_E p e below _ T13 (mkF m 69 #[iv p1, iv ((p1 &&& (2147483647 : Int32)) % (5 : Int32)), rv aYEAR, iv 0] [.ref aYEAR])
          obtain ⟨cq14, kq14, q14a, q14b, q14c⟩ := isOf hZ e13 E_YEAR
          obtain ⟨_, _, ⟨T14, L14, k14, n14⟩, -, X14, ⟨Lc14, hQ14, l14, y14, z14⟩, st14⟩ := X13.virtualBack hx (y := own_y0) (z := own_y0) hown (mvT hZ (own_w hw 4 rfl)) (mvT hZ (own_w hw 5 rfl)) (notFace_of_selects (args := #[]) (mvT hZ (own_w hw 7 rfl))) (mvT hZ (own_w hw 7 rfl)) (mvT hZ (own_w hw 6 rfl)) (by decide) (backOf (W := 0) (own_takes_YEAR l Z a0 hw [] aDATE aDATETIME aTIMESTAMP aTIME aYEAR h0 n0 Z0 S_DATE S_DATETIME S_TIMESTAMP S_TIME S_YEAR E_DATE E_DATETIME E_TIMESTAMP E_TIME E_YEAR ne_DATE_DATETIME ne_DATE_TIMESTAMP ne_DATE_TIME ne_DATE_YEAR ne_DATETIME_TIMESTAMP ne_DATETIME_TIME ne_DATETIME_YEAR ne_TIMESTAMP_TIME ne_TIMESTAMP_YEAR ne_TIME_YEAR) hZ (own_w hw 8 rfl) (own_w hw 2 rfl) (by decide) (by decide)) q14a q14c (g := (mkF m 69 #[iv p1, iv ((p1 &&& (2147483647 : Int32)) % (5 : Int32)), rv aYEAR, iv 0] [.ref aYEAR])) rfl (by rw [hml]; rfl) (Steps.refl _) (argsL := []) (rest := []) (lenOf own_pd_0 rfl) rfl (by show 2 * 0 + _ ≤ _; exact Nat.le_of_eq rfl) (hb hby at_69) (fun _ _ => ⟨rfl, e13, (by decide : 0 + 0 ≤ _), (by decide : 0 + 0 ≤ _)⟩)
          dsimp only [Pt.U, Pt.locs, Pt.cells, Pt.slots] at X14 l14 y14 z14 st14 hQ14
          subst l14 y14 z14
          obtain ⟨hR14, e14, rfl⟩ := hQ14
          obtain rfl := hR14
          refine own_tr st14 ?_
          show own_E p e below _ T14 (mkF m 72 #[iv p1, iv ((p1 &&& (2147483647 : Int32)) % (5 : Int32)), rv aYEAR, iv 0] [.int 0])
          refine own_st (fun t k => XS.iloadN X14.here hx rfl (hb hby at_72) rfl k) ?_
          show own_E p e below _ T14 (mkF m 73 #[iv p1, iv ((p1 &&& (2147483647 : Int32)) % (5 : Int32)), rv aYEAR, iv 0] [.int 0, .int 0])
          refine own_st (fun t k => XS.icmpNo X14.here hx rfl (hb hby at_73) rfl (by decide) k) ?_
          show own_E p e below _ T14 (mkF m 76 #[iv p1, iv ((p1 &&& (2147483647 : Int32)) % (5 : Int32)), rv aYEAR, iv 0] [])
          refine own_st (fun t k => XS.iconst X14.here hx rfl (hb hby at_76) k) ?_
          show own_E p e below _ T14 (mkF m 77 #[iv p1, iv ((p1 &&& (2147483647 : Int32)) % (5 : Int32)), rv aYEAR, iv 0] [.int 1])
          refine own_st (fun t k => XS.goto X14.here hx rfl (pc0 := 77) (pc' := 81) rfl (hb hby at_77) (by decide) (by decide) k) ?_
          show own_E p e below _ T14 (mkF m 81 #[iv p1, iv ((p1 &&& (2147483647 : Int32)) % (5 : Int32)), rv aYEAR, iv 0] [.int 1])
          refine own_retS X14 hx Bd.notSynchronized Bd.returns rfl (by decide) (hb hby at_81) (by decide) (by decide) ?_
          exact ⟨rfl, fun y hy => by simp at hy⟩
set_option maxRecDepth 65536 in
set_option maxHeartbeats 40000000 in
theorem comes_1 {Post : Tables → Env → Array Value → State → Outcome → State → Prop} (hpost : ∀ tb e args s v u, (limb_1_1.after args s (.returned v) u = true ∧ limb_1_2.after args s (.returned v) u = true ∧ True) → FrameEnd s (.returned v) u (Jvm.fieldLocs frame_1_writes args s ++ Jvm.arrayLocs frame_1_arrays args s ++ Jvm.staticLocs frame_1_statics s) 0 0 → Post tb e args s (.returned v) u) :
    ArmFor flags0 classFile x code maxLocals ret World_1 tables_1 room_1 Calls_1 rest_1 Pre_1 Post := by
  intro l hfl _ _ p e ha hc hk s m args below hf hA hF happ hP
  obtain ⟨hcalls, hrest, hpre⟩ := hP
  obtain ⟨-, -, -, hnamed, -, -, -, hat⟩ := (Spec.applies_iff hf).mp happ
  obtain ⟨hg, hn⟩ := and_e (Cond.before_iff.mp (show (Jvm.Cond.and given_1 narrow_1).before args s = true from hpre))
  obtain ⟨hg0, hg1⟩ := and_e hg
  have hv0 := hg1
  obtain ⟨w0, rfl⟩ : ∃ w0 : Value, args = #[w0] := by
    have hs : args.size = 1 := by simpa [Cond.value, given_1] using hg0
    obtain ⟨L⟩ := args
    match L, hs with
    | [w0], _ => exact ⟨w0, rfl⟩
  have hw := fun d (hd : d ∈ tables_1) => atoms_spec (ws := Jvm.Cond.code x code maxLocals ret :: tables_1) hat d (List.mem_cons_of_mem _ hd)
  have hfit : Fit s := fun {y c} hc i hi => by
    obtain ⟨ha, rfl⟩ := Array.getElem?_eq_some_iff.mp hc
    have q := List.all_eq_true.mp ((Array.all_eq_true_iff_forall_mem.mp hF) _ (Array.getElem_mem ha)) i (List.mem_range.mpr hi)
    simpa [Array.getElem?_eq_getElem hi] using q
  obtain ⟨i0, ev0⟩ := is_v hv0
  obtain rfl : w0 = (.int i0) := Option.some.inj ev0
  obtain ⟨hp0, hq0⟩ := and_e hn
  obtain ⟨hp1, hq1⟩ := and_e hq0
  obtain ⟨hp2, hq2⟩ := and_e hq1
  obtain ⟨hp3, hq3⟩ := and_e hq2
  obtain ⟨hp4, hq4⟩ := and_e hq3
  obtain ⟨hp5, hq5⟩ := and_e hq4
  obtain ⟨hp6, hq6⟩ := and_e hq5
  obtain ⟨hp7, hq7⟩ := and_e hq6
  obtain ⟨hp8, hq8⟩ := and_e hq7
  have hp9 := hq8
  obtain ⟨aDATE, evDATE⟩ := exa_v hp0
  have S_DATE := Sta.start evDATE (Or.inr ⟨(own_w hw 2 rfl), (own_w hw 3 rfl)⟩)
  have E_DATE := Exa.start evDATE hp0
  obtain ⟨aDATETIME, evDATETIME⟩ := exa_v hp1
  have S_DATETIME := Sta.start evDATETIME (Or.inr ⟨(own_w hw 2 rfl), (own_w hw 10 rfl)⟩)
  have E_DATETIME := Exa.start evDATETIME hp1
  obtain ⟨aTIMESTAMP, evTIMESTAMP⟩ := exa_v hp4
  have S_TIMESTAMP := Sta.start evTIMESTAMP (Or.inr ⟨(own_w hw 2 rfl), (own_w hw 12 rfl)⟩)
  have E_TIMESTAMP := Exa.start evTIMESTAMP hp4
  obtain ⟨aTIME, evTIME⟩ := exa_v hp6
  have S_TIME := Sta.start evTIME (Or.inr ⟨(own_w hw 2 rfl), (own_w hw 14 rfl)⟩)
  have E_TIME := Exa.start evTIME hp6
  obtain ⟨aYEAR, evYEAR⟩ := exa_v hp8
  have S_YEAR := Sta.start evYEAR (Or.inr ⟨(own_w hw 2 rfl), (own_w hw 18 rfl)⟩)
  have E_YEAR := Exa.start evYEAR hp8
  have O_DATE := Fld.start (own_eqi evDATE hp2)
  have O_DATETIME := Fld.start (own_eqi evDATETIME hp3)
  have O_TIMESTAMP := Fld.start (own_eqi evTIMESTAMP hp5)
  have O_TIME := Fld.start (own_eqi evTIME hp7)
  have O_YEAR := Fld.start (own_eqi evYEAR hp9)
  have ne_DATE_DATETIME : ¬ aDATE = aDATETIME := Fld.ne O_DATE O_DATETIME (by decide)
  have ne_DATE_TIMESTAMP : ¬ aDATE = aTIMESTAMP := Fld.ne O_DATE O_TIMESTAMP (by decide)
  have ne_DATE_TIME : ¬ aDATE = aTIME := Fld.ne O_DATE O_TIME (by decide)
  have ne_DATE_YEAR : ¬ aDATE = aYEAR := Fld.ne O_DATE O_YEAR (by decide)
  have ne_DATETIME_TIMESTAMP : ¬ aDATETIME = aTIMESTAMP := Fld.ne O_DATETIME O_TIMESTAMP (by decide)
  have ne_DATETIME_TIME : ¬ aDATETIME = aTIME := Fld.ne O_DATETIME O_TIME (by decide)
  have ne_DATETIME_YEAR : ¬ aDATETIME = aYEAR := Fld.ne O_DATETIME O_YEAR (by decide)
  have ne_TIMESTAMP_TIME : ¬ aTIMESTAMP = aTIME := Fld.ne O_TIMESTAMP O_TIME (by decide)
  have ne_TIMESTAMP_YEAR : ¬ aTIMESTAMP = aYEAR := Fld.ne O_TIMESTAMP O_YEAR (by decide)
  have ne_TIME_YEAR : ¬ aTIME = aYEAR := Fld.ne O_TIME O_YEAR (by decide)
  obtain ⟨n, o, h1, h2, h3, _, L, rfl, ⟨rfl, N⟩, hq⟩ := own_law l s _ hw tables_1 aDATE aDATETIME aTIMESTAMP aTIME aYEAR i0 s.heap s.heap.size (Nat.le_refl _) S_DATE S_DATETIME S_TIMESTAMP S_TIME S_YEAR E_DATE E_DATETIME E_TIMESTAMP E_TIME E_YEAR ne_DATE_DATETIME ne_DATE_TIMESTAMP ne_DATE_TIME ne_DATE_YEAR ne_DATETIME_TIMESTAMP ne_DATETIME_TIME ne_DATETIME_YEAR ne_TIMESTAMP_TIME ne_TIMESTAMP_YEAR ne_TIME_YEAR p e ha hc hk s m _ below hf ((Spec.applies_iff_loose hf).mp happ).1 ⟨rfl, State.Warmed39.refl s, rfl⟩ trivial
  refine ⟨n, _, h1, h2, h3, hpost _ _ _ _ _ _ ⟨Cond.after_iff.mpr rfl, Cond.after_iff.mpr (eq_i res_at (Term.int_eval (1)) rfl), trivial⟩ ⟨hq.1, hq.2.1, (hq.2.2.sift fun y hy => Or.inr (N y hy)).mono (by decide) (by decide)⟩⟩
theorem main_1_1 : Claimed_1_1 := comes_1 fun _ _ _ _ _ _ h hF => ⟨h.1, hF⟩
theorem main_1_2 : Claimed_1_2 := comes_1 fun _ _ _ _ _ _ h hF => ⟨h.2.1, hF⟩
end Jvm.Pilot.@@N@@
namespace Jvm.Pilot.@@N@@
open Jvm Jvm.ClassFile Sem Op Lib Jvm.Free Jvm.Stand Jvm.Pilot.@@N@@.Jvm.D
/-! MADE BY PROGRAM (witnessworld.py) out of the Statement's table words and the real class files: 12 classes; the members and pool entries that the words name. The judged class is class 1, her method 1. -/
namespace start1
open Jvm.ClassFile
def u (s : String) : CpInfo := .utf8 (stringToUtf16 s)
/-- a pool by its gaps: so many unusable entries, then the entry; so many at the end -/
def gap : Nat → List CpInfo → List CpInfo
  | 0, r => r
  | n + 1, r => .unusable :: gap n r
def poolList (es : List (Nat × CpInfo)) (last : Nat) : List CpInfo := es.foldr (fun e r => gap e.1 (e.2 :: r)) (gap last [])
def pool (es : List (Nat × CpInfo)) (last : Nat) : Array CpInfo := ⟨poolList es last⟩
def fileOf (pool : Array CpInfo) (this : Nat) (attrs : Array Attribute := #[]) (ms : Array MethodInfo := #[]) (fl : Nat := 33) (sup : Nat := 0) (ifs : Array Nat := #[]) (fds : Array FieldInfo := #[]) : ClassFile where
  minorVersion := 0
  majorVersion := 65
  constantPool := pool
  accessFlags := fl
  thisClass := this
  superClass := sup
  interfaces := ifs
  fields := fds
  methods := ms
  attributes := attrs
def plain (name : String) (sup : Option ClassId) : Class where
  name := name
  kind := .ordinary
  loader := none
  accessFlags := 33
  super := sup
  interfaces := #[]
  cf := none
  fields := #[]
  methods := #[]
  instanceTypes := #[]
  staticTypes := #[]
  resolved := #[]
  callSites := []
  init := .initialized
  statics := none
  mirror := none

def pool0 : Array CpInfo := pool [(5, u "<init>"), (0, u "()V"), (1, .class_ 10), (1, u "java/lang/Object")] 113

def k0m0 : Method := { name := "<init>", desc := "()V", sig := { parameters := [], returnType := none }, accessFlags := 1, code := none }
/-- java/lang/Object -/
def k0 : Class := { plain "java/lang/Object" none with
  accessFlags := 33
  interfaces := #[]
  cf := some (fileOf pool0 8 #[] #[{ accessFlags := 1, nameIndex := 5, descriptorIndex := 6, attributes := #[] }] 33 0 #[] #[])
  fields := #[]
  methods := #[k0m0]
  instanceTypes := #[]
  staticTypes := #[]
  resolved := Array.replicate 124 none
  statics := none }

def pool1 : Array CpInfo := pool [(2, .class_ 4), (1, u "java/lang/Object"), (0, u "<init>"), (0, u "()V"), (0, .integer 2147483647), (0, .fieldref 9 10), (0, .class_ 11), (0, .nameAndType 12 13), (0, u "com/example/tight_fence/tightfence/engine/TemporalType$Kind"), (0, u "DATE"), (0, u "Lcom/example/tight_fence/tightfence/engine/TemporalType$Kind;"), (0, .fieldref 9 15), (0, .nameAndType 16 13), (0, u "DATETIME"), (0, .fieldref 9 18), (0, .nameAndType 19 13), (0, u "TIMESTAMP"), (0, .fieldref 9 21), (0, .nameAndType 22 13), (0, u "TIME"), (0, .fieldref 9 24), (0, .nameAndType 25 13), (0, u "YEAR"), (0, .methodref 9 27), (0, .nameAndType 28 29), (0, u "takesPrecision"), (0, u "()Z"), (0, .class_ 31), (0, u "com/example/tight_fence/tightfence/engine/KindTakesPrecisionPinLaw"), (2, u "law"), (0, u "(I)Z")] 7

def k1m0 : Method := { name := "<init>", desc := "()V", sig := { parameters := [], returnType := none }, accessFlags := 1, code := none }
def k1c1 : Code := { maxStack := 2, maxLocals := 4, code := code, exceptionTable := #[], attributes := #[] }
def k1m1 : Method := { name := "law", desc := "(I)Z", sig := { parameters := [.int], returnType := some .boolean }, accessFlags := 9, code := some k1c1 }
/-- com/example/tight_fence/tightfence/engine/KindTakesPrecisionPinLaw -/
def k1 : Class := { plain "com/example/tight_fence/tightfence/engine/KindTakesPrecisionPinLaw" (some 0) with
  accessFlags := 49
  interfaces := #[]
  cf := some (fileOf pool1 30 #[] #[{ accessFlags := 1, nameIndex := 5, descriptorIndex := 6, attributes := #[] }, { accessFlags := 9, nameIndex := 34, descriptorIndex := 35, attributes := #[] }] 49 2 #[] #[])
  fields := #[]
  methods := #[k1m0, k1m1]
  instanceTypes := #[]
  staticTypes := #[]
  resolved := Array.replicate 43 none
  statics := none }

def pool2 : Array CpInfo := pool [(1, .class_ 2), (0, u "java/lang/constant/Constable"), (0, .class_ 4), (0, u "java/lang/Object")] 6

/-- java/lang/constant/Constable -/
def k2 : Class := { plain "java/lang/constant/Constable" (some 0) with
  accessFlags := 1537
  interfaces := #[]
  cf := some (fileOf pool2 1 #[] #[] 1537 3 #[] #[])
  fields := #[]
  methods := #[]
  instanceTypes := #[]
  staticTypes := #[]
  resolved := Array.replicate 11 none
  statics := none }

def pool3 : Array CpInfo := pool [(1, .class_ 2), (0, u "java/lang/Comparable"), (0, .class_ 4), (0, u "java/lang/Object")] 7

/-- java/lang/Comparable -/
def k3 : Class := { plain "java/lang/Comparable" (some 0) with
  accessFlags := 1537
  interfaces := #[]
  cf := some (fileOf pool3 1 #[] #[] 1537 3 #[] #[])
  fields := #[]
  methods := #[]
  instanceTypes := #[]
  staticTypes := #[]
  resolved := Array.replicate 12 none
  statics := none }

def pool4 : Array CpInfo := pool [(1, .class_ 2), (0, u "java/io/Serializable"), (0, .class_ 4), (0, u "java/lang/Object")] 2

/-- java/io/Serializable -/
def k4 : Class := { plain "java/io/Serializable" (some 0) with
  accessFlags := 1537
  interfaces := #[]
  cf := some (fileOf pool4 1 #[] #[] 1537 3 #[] #[])
  fields := #[]
  methods := #[]
  instanceTypes := #[]
  staticTypes := #[]
  resolved := Array.replicate 7 none
  statics := none }

def pool5 : Array CpInfo := pool [(2, .class_ 4), (1, u "java/lang/Enum"), (0, u "name"), (0, u "Ljava/lang/String;"), (2, u "ordinal"), (0, u "I"), (1, .class_ 14), (1, u "java/lang/Object"), (4, u "hash"), (86, .class_ 108), (1, u "java/lang/Enum$EnumDesc"), (2, .class_ 112), (0, u "java/lang/constant/Constable"), (0, .class_ 114), (0, u "java/lang/Comparable"), (0, .class_ 116), (0, u "java/io/Serializable")] 87

/-- java/lang/Enum -/
def k5 : Class := { plain "java/lang/Enum" (some 0) with
  accessFlags := 1057
  interfaces := #[2, 3, 4]
  cf := some (fileOf pool5 2 #[.nestMembers #[106]] #[] 1057 12 #[111, 113, 115] #[{ accessFlags := 18, nameIndex := 5, descriptorIndex := 6, attributes := #[] }, { accessFlags := 18, nameIndex := 9, descriptorIndex := 10, attributes := #[] }, { accessFlags := 2, nameIndex := 19, descriptorIndex := 10, attributes := #[] }])
  fields := #[{ name := "name", type := (.object "java/lang/String"), accessFlags := 18, slot := 0, constantValue := 0 }, { name := "ordinal", type := .int, accessFlags := 18, slot := 1, constantValue := 0 }, { name := "hash", type := .int, accessFlags := 2, slot := 2, constantValue := 0 }]
  methods := #[]
  instanceTypes := #[(.object "java/lang/String"), .int, .int]
  staticTypes := #[]
  resolved := Array.replicate 204 none
  statics := none }

def pool6 : Array CpInfo := pool [(1, .class_ 2), (0, u "com/example/tight_fence/tightfence/engine/TemporalType"), (0, .class_ 4), (0, u "com/example/tight_fence/tightfence/engine/TemporalType$Kind"), (2, u "DATE"), (0, u "Lcom/example/tight_fence/tightfence/engine/TemporalType$Kind;"), (0, .fieldref 3 10), (0, .nameAndType 11 8), (0, u "DATETIME"), (0, .fieldref 3 13), (0, .nameAndType 14 8), (0, u "TIMESTAMP"), (0, .fieldref 3 16), (0, .nameAndType 17 8), (0, u "TIME"), (2, u "YEAR"), (2, u "$VALUES"), (0, u "[Lcom/example/tight_fence/tightfence/engine/TemporalType$Kind;"), (6, .class_ 33), (1, u "java/lang/Enum"), (8, u "name"), (0, u "Ljava/lang/String;"), (8, u "form"), (0, u "Ljava/util/regex/Pattern;"), (2, u "forms"), (2, u "min"), (0, u "J"), (2, u "max"), (2, u "range"), (5, u "()Z"), (6, u "takesPrecision")] 108

def k6c0 : Code := { maxStack := 2, maxLocals := 1, code := prog_84_method_4_code, exceptionTable := #[], attributes := #[] }
def k6m0 : Method := { name := "takesPrecision", desc := "()Z", sig := { parameters := [], returnType := some .boolean }, accessFlags := 0, code := some k6c0 }
/-- com/example/tight_fence/tightfence/engine/TemporalType$Kind -/
def k6 : Class := { plain "com/example/tight_fence/tightfence/engine/TemporalType$Kind" (some 5) with
  accessFlags := 16432
  interfaces := #[]
  cf := some (fileOf pool6 3 #[.nestHost 1] #[{ accessFlags := 0, nameIndex := 79, descriptorIndex := 72, attributes := #[] }] 16432 31 #[] #[{ accessFlags := 16409, nameIndex := 7, descriptorIndex := 8, attributes := #[] }, { accessFlags := 16409, nameIndex := 11, descriptorIndex := 8, attributes := #[] }, { accessFlags := 16409, nameIndex := 14, descriptorIndex := 8, attributes := #[] }, { accessFlags := 16409, nameIndex := 17, descriptorIndex := 8, attributes := #[] }, { accessFlags := 16409, nameIndex := 20, descriptorIndex := 8, attributes := #[] }, { accessFlags := 18, nameIndex := 42, descriptorIndex := 43, attributes := #[] }, { accessFlags := 18, nameIndex := 52, descriptorIndex := 53, attributes := #[] }, { accessFlags := 18, nameIndex := 56, descriptorIndex := 43, attributes := #[] }, { accessFlags := 18, nameIndex := 59, descriptorIndex := 60, attributes := #[] }, { accessFlags := 18, nameIndex := 63, descriptorIndex := 60, attributes := #[] }, { accessFlags := 18, nameIndex := 66, descriptorIndex := 43, attributes := #[] }, { accessFlags := 4122, nameIndex := 23, descriptorIndex := 24, attributes := #[] }])
  fields := #[{ name := "DATE", type := (.object "com/example/tight_fence/tightfence/engine/TemporalType$Kind"), accessFlags := 16409, slot := 0, constantValue := 0 }, { name := "DATETIME", type := (.object "com/example/tight_fence/tightfence/engine/TemporalType$Kind"), accessFlags := 16409, slot := 1, constantValue := 0 }, { name := "TIMESTAMP", type := (.object "com/example/tight_fence/tightfence/engine/TemporalType$Kind"), accessFlags := 16409, slot := 2, constantValue := 0 }, { name := "TIME", type := (.object "com/example/tight_fence/tightfence/engine/TemporalType$Kind"), accessFlags := 16409, slot := 3, constantValue := 0 }, { name := "YEAR", type := (.object "com/example/tight_fence/tightfence/engine/TemporalType$Kind"), accessFlags := 16409, slot := 4, constantValue := 0 }, { name := "name", type := (.object "java/lang/String"), accessFlags := 18, slot := 3, constantValue := 0 }, { name := "form", type := (.object "java/util/regex/Pattern"), accessFlags := 18, slot := 4, constantValue := 0 }, { name := "forms", type := (.object "java/lang/String"), accessFlags := 18, slot := 5, constantValue := 0 }, { name := "min", type := .long, accessFlags := 18, slot := 6, constantValue := 0 }, { name := "max", type := .long, accessFlags := 18, slot := 7, constantValue := 0 }, { name := "range", type := (.object "java/lang/String"), accessFlags := 18, slot := 8, constantValue := 0 }, { name := "$VALUES", type := (.array (.object "com/example/tight_fence/tightfence/engine/TemporalType$Kind")), accessFlags := 4122, slot := 5, constantValue := 0 }]
  methods := #[k6m0]
  instanceTypes := #[(.object "java/lang/String"), .int, .int, (.object "java/lang/String"), (.object "java/util/regex/Pattern"), (.object "java/lang/String"), .long, .long, (.object "java/lang/String")]
  staticTypes := #[(.object "com/example/tight_fence/tightfence/engine/TemporalType$Kind"), (.object "com/example/tight_fence/tightfence/engine/TemporalType$Kind"), (.object "com/example/tight_fence/tightfence/engine/TemporalType$Kind"), (.object "com/example/tight_fence/tightfence/engine/TemporalType$Kind"), (.object "com/example/tight_fence/tightfence/engine/TemporalType$Kind"), (.array (.object "com/example/tight_fence/tightfence/engine/TemporalType$Kind"))]
  resolved := Array.replicate 188 none
  statics := some 0 }

def pool7 : Array CpInfo := pool [(1, u "java/lang/Cloneable"), (0, .class_ 1), (0, u "java/lang/Object"), (0, .class_ 3)] 3

/-- java/lang/Cloneable -/
def k7 : Class := { plain "java/lang/Cloneable" (some 0) with
  accessFlags := 1537
  interfaces := #[]
  cf := some (fileOf pool7 2 #[] #[] 1537 4 #[] #[])
  fields := #[]
  methods := #[]
  instanceTypes := #[]
  staticTypes := #[]
  resolved := Array.replicate 8 none
  statics := none }

/-- the primitive byte -/
def k8 : Class := { plain "byte" none with kind := .primitive 'B', accessFlags := 0x411 }
/-- [B -/
def k9 : Class := { plain "[B" (some 0) with kind := .array 8 .byte, interfaces := #[7, 4], accessFlags := 1041 }

/-- the primitive int -/
def k10 : Class := { plain "int" none with kind := .primitive 'I', accessFlags := 0x411 }
/-- [I -/
def k11 : Class := { plain "[I" (some 0) with kind := .array 10 .int, interfaces := #[7, 4], accessFlags := 1041 }

def heap : Heap := #[{ cls := 6, slots := #[.ref 1, .ref 2, .ref 3, .ref 4, .ref 5, .null], vm := .statics 6 },
  { cls := 6, slots := #[.null, .int 0, .int 0, .null, .null, .null, .long 0, .long 0, .null], vm := .none },
  { cls := 6, slots := #[.null, .int 1, .int 0, .null, .null, .null, .long 0, .long 0, .null], vm := .none },
  { cls := 6, slots := #[.null, .int 2, .int 0, .null, .null, .null, .long 0, .long 0, .null], vm := .none },
  { cls := 6, slots := #[.null, .int 3, .int 0, .null, .null, .null, .long 0, .long 0, .null], vm := .none },
  { cls := 6, slots := #[.null, .int 4, .int 0, .null, .null, .null, .long 0, .long 0, .null], vm := .none }]
def classes : Array Class := #[k0, k1, k2, k3, k4, k5, k6, k7, k8, k9, k10, k11]
def interned : List (Array UInt16 × Addr) := []
def slotsUsed : Nat := 51
def theMethod : MethodId := ⟨1, 1⟩
def args0 : Array Value := #[.int 5]
def aboutOver (below : List Frame) : State where
  vm := { classes := classes, interned := interned.toArray }
  heap := heap
  slotsUsed := slotsUsed
  threads := #[{ frames := .invoking theMethod args0 :: below }]
def below0 : List Frame := [.native { method := ⟨0, 0⟩, args := #[] }]
def about1 : State := aboutOver below0
def p0 : Program := .bare "" "" ""
def e0 : Env := launch0.env 0 0 0
theorem w_frames : about1.frames = Frame.invoking theMethod args0 :: below0 := rfl
set_option maxRecDepth 65536 in
theorem w_args : argsFit about1.vm theMethod args0 = true := by decide +kernel
set_option maxRecDepth 65536 in
theorem w_heap : heapFits about1 = true := by decide +kernel
set_option maxRecDepth 65536 in
theorem w_runnable : about1.curStatus? = some .runnable := by decide +kernel
set_option maxRecDepth 65536 in
theorem w_alone : about1.alone = true := by decide +kernel
set_option maxRecDepth 65536 in
theorem w_named : about1.methodNamed? x = some theMethod := by decide +kernel
set_option maxRecDepth 65536 in
theorem w_hears : about1.hears theMethod below0 = true := by decide +kernel
set_option maxRecDepth 65536 in
theorem w_ripe : about1.ripe theMethod args0 below0 = true := by decide +kernel
theorem w_running : about1.status = .running := rfl
set_option maxRecDepth 65536 in
theorem w_room : about1.hasRoom e0.platform room_1 = true :=
  launch0.hasRoom_least _ room_1 (by decide +kernel) (by decide +kernel) (by decide +kernel) (by decide +kernel) (by decide +kernel) (by decide +kernel)
theorem allAtoms_all (ts : List Jvm.Cond) (a : Array Jvm.Value) (st : Jvm.State) : (allAtoms ts).before a st = ts.all (fun c => c.before a st) := by
  induction ts with
  | nil => rfl
  | cons c t ih =>
    show (Jvm.Cond.and c (allAtoms t)).before a st = _
    rw [Jvm.Cond.before_and, ih, List.all_cons]
def words1 : List Jvm.Cond := Jvm.Cond.code x code maxLocals ret :: tables_1
/-- a 'code' word, met by the world's own term for the bytes: nothing is compared byte by byte -/
theorem code_word {y : MethodName} {bytes : ByteArray} {mx : Nat} {rt : Option FieldType} {a : Array Value} {s : State} {m : MethodId} {meth : Method} {c : Code} (h1 : s.methodNamed? y = some m) (h2 : s.vm.method? m = some meth) (h3 : meth.code = some c) (h4 : c.code = bytes)
    (h5 : (c.maxLocals == mx && c.exceptionTable.isEmpty && decide (c.maxStack ≤ mostOperands) && decide (meth.sig.returnType = rt) && !meth.locks && decide (parseMethodDescriptor y.desc = some meth.sig)) = true) : (Jvm.Cond.code y bytes mx rt).before a s = true := by
  simp only [Bool.and_eq_true, beq_iff_eq, Bool.not_eq_true', decide_eq_true_eq] at h5
  obtain ⟨⟨⟨⟨⟨g1, g2⟩, g3⟩, g4⟩, g5⟩, g6⟩ := h5
  simp [Cond.before, Cond.holds, Cond.value, h1, h2, h3, h4, g1, g2, g3, g4, g5, g6]
def isCode : Jvm.Cond → Bool
  | .code _ _ _ _ => true
  | _ => false
theorem all_split {L : List Jvm.Cond} {P : Jvm.Cond → Bool} (h1 : L.all (fun c => isCode c || P c) = true) (h2 : ∀ c ∈ L.filter isCode, P c = true) : L.all P = true := by
  refine List.all_eq_true.mpr fun c hc => ?_
  have h := List.all_eq_true.mp h1 c hc
  rcases Bool.eq_false_or_eq_true (isCode c) with hi | hi
  · exact h2 c (List.mem_filter.mpr ⟨hc, hi⟩)
  · simpa [hi] using h
set_option maxRecDepth 65536 in
theorem w_c0 : (Jvm.Cond.code x code maxLocals ret).before args0 about1 = true := code_word (m := ⟨1, 1⟩) (meth := k1m1) (c := k1c1) (by decide +kernel) rfl rfl rfl (by decide +kernel)
set_option maxRecDepth 65536 in
theorem w_c1 : (Jvm.Cond.code ({ cls := "com/example/tight_fence/tightfence/engine/TemporalType$Kind", name := "takesPrecision", desc := "()Z" } : Jvm.MethodName) prog_84_method_4_code (1 : Nat) (Option.some Jvm.ClassFile.FieldType.boolean)).before args0 about1 = true := code_word (m := ⟨6, 0⟩) (meth := k6m0) (c := k6c0) (by decide +kernel) rfl rfl rfl (by decide +kernel)
def codes1 : List Jvm.Cond := [Jvm.Cond.code x code maxLocals ret, Jvm.Cond.code ({ cls := "com/example/tight_fence/tightfence/engine/TemporalType$Kind", name := "takesPrecision", desc := "()Z" } : Jvm.MethodName) prog_84_method_4_code (1 : Nat) (Option.some Jvm.ClassFile.FieldType.boolean)]
set_option maxRecDepth 65536 in
theorem codes_eq : words1.filter isCode = codes1 := rfl
theorem w_codes : ∀ c ∈ words1.filter isCode, c.before args0 about1 = true := by
  rw [codes_eq]
  intro c hc
  simp only [codes1, List.mem_cons, List.not_mem_nil, or_false] at hc
  rcases hc with rfl | rfl
  · exact w_c0
  · exact w_c1
set_option maxRecDepth 65536 in
theorem w_t1 : words1.all (fun c => isCode c || c.before args0 about1) = true := by decide +kernel
theorem w_tables : (allAtoms (Jvm.Cond.code x code maxLocals ret :: tables_1)).before args0 about1 = true := by
  rw [allAtoms_all]
  show words1.all (fun c => c.before args0 about1) = true
  refine all_split ?_ w_codes
  rw [w_t1]
set_option maxRecDepth 65536 in
theorem w_case : (Jvm.Cond.and given_1 narrow_1).before args0 about1 = true := by decide +kernel
theorem w_applies : (headSpec (Jvm.Cond.code x code maxLocals ret :: tables_1) room_1).applies x e0.platform about1 = true :=
  (Spec.applies_iff w_frames).mpr ⟨w_running, w_runnable, w_alone, w_named, w_hears, w_ripe, w_room, w_tables⟩
theorem atStart : AtStart classFile x code maxLocals ret World_1 tables_1 room_1 Calls_1 rest_1 Pre_1 launch0 p0 e0 about1 theMethod args0 below0 :=
  ⟨lists_1, trivial, launch0.admits_env _ _ _, launch0.least_env, fairChoices_fair.cas, fairChoices_fair.clock, w_frames, w_args, w_heap, w_applies, trivial, trivial, w_case⟩
end start1
theorem witness_1 : WitnessClaimed_1 := ⟨start1.p0, start1.e0, start1.about1, start1.theMethod, start1.args0, start1.below0, start1.atStart⟩
end Jvm.Pilot.@@N@@
