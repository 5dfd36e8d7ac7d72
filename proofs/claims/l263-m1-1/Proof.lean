import JvmDerived
import JvmDerived.Pilot.@@N@@Statement
import JvmDerived.Pilot.@@N@@Code
set_option linter.unusedVariables false
set_option linter.unusedSimpArgs false
namespace Jvm.Pilot.@@N@@
open Jvm Jvm.ClassFile Sem Op Lib Jvm.Free Jvm.Stand Jvm.LawKit Jvm.RoadKit Bundle Jvm.Pilot.@@N@@.Jvm.D
theorem own_w {a0 : Array Value} {Z : State} (hw : ∀ d ∈ tables_1, d.before a0 Z = true) (i : Nat) {d : Jvm.Cond} (h : tables_1[i]? = some d) : d.before a0 Z = true := hw d (List.mem_of_getElem? h)
section Own
variable {p : Program} {l : Launch} {e : Env} {R : Room} {s : State} {m : MethodId} {args : Array Value} {below : List Frame} {meth : Method} {c : Code} {T T' : State} {locs : List Loc} {cells slots : Nat} {g g' : JFrame} {K : Outcome → State → Prop} {Q : Option Value → Heap → List Loc → Prop} {kc ks : Nat}
/-- from this state, with this frame on top, the run comes to an end at which K holds -/
def own_E (p : Program) (e : Env) (below : List Frame) (K : Outcome → State → Prop) (T : State) (g : JFrame) : Prop :=
  ∃ s₂ o, Steps p.tables e below (T.setTop g) s₂ ∧ s₂.status = .running ∧ Ended s₂ below o ∧ K o s₂
def own_K (Q : Option Value → Heap → List Loc → Prop) (s : State) (kc ks : Nat) : Outcome → State → Prop :=
  fun o U' => ∃ v L, o = .returned v ∧ Q v U'.heap L ∧ FrameEnd s o U' L kc ks
theorem own_st (st : ∀ t, Steps p.tables e below (T'.setTop g') t → Steps p.tables e below (T.setTop g) t) (k : own_E p e below K T' g') : own_E p e below K T g := by
  obtain ⟨s2, o, h1, h2⟩ := k
  exact ⟨s2, o, st _ h1, h2⟩
theorem own_tr (st : Steps p.tables e below (T.setTop g) (T'.setTop g')) (k : own_E p e below K T' g') : own_E p e below K T g :=
  own_st (fun _ h => st.trans h) k
theorem own_pre (q : g = g') (k : own_E p e below K T g') : own_E p e below K T g := q ▸ k
theorem own_end (X : Stand p l e R s m args below meth c T locs cells slots) (hlk : meth.locks = false) {v : Option Value} (hv : meth.sig.returnType = none → v = none)
    (hr : ∀ fs : List Frame, (∀ (f : JFrame) (acts : List Action), f.method = m → f.locked = none → f.entered = [] → (doReturn e (T.setTop f) acts v).1 = T.setFrames fs) → Steps p.tables e below (T.setTop g) (T.setFrames fs))
    (hc : cells ≤ kc) (hs : slots ≤ ks) (hQ : Q v T.heap locs) : own_E p e below (own_K Q s kc ks) T g := by
  obtain ⟨fs, h1, hrun, hended, hW, hsame⟩ := X.leave (v := v) hv hlk
  exact ⟨_, _, hr fs h1, hrun, hended, _, _, rfl, hQ, ⟨_, rfl⟩, hW, hsame.mono hc hs⟩
theorem own_retV (X : Stand p l e R s m args below meth c T locs cells slots) (hx : p.tables.exec = Jvm.exec) (hlk : meth.locks = false) {pc : Nat} {Ls : Array Slot} (hret : meth.sig.returnType = none)
    (hd : decode c.code pc = .ok (.return_, 1)) (hc : cells ≤ kc) (hs : slots ≤ ks) (hQ : Q none T.heap locs) : own_E p e below (own_K Q s kc ks) T (mkF m pc Ls []) :=
  own_end X hlk (fun _ => rfl) (fun fs h => X.returnOut hx hret hd h) hc hs hQ
theorem own_retG (X : Stand p l e R s m args below meth c T locs cells slots) (hx : p.tables.exec = Jvm.exec) (hlk : meth.locks = false) {pc : Nat} {Ls : Array Slot} {w : Value} {t : FieldType} {i : Instr} {rest : List Value} (hret : meth.sig.returnType = some t) (hn : narrow t w = w)
    (hi : (i = .ireturn ∧ (t = .int ∨ t = .boolean ∨ t = .byte ∨ t = .char ∨ t = .short) ∧ ∃ z, w = .int z) ∨ (i = .lreturn ∧ t = .long ∧ ∃ z, w = .long z) ∨ (i = .dreturn ∧ t = .double ∧ ∃ z, w = .double z) ∨ (i = .freturn ∧ t = .float ∧ ∃ z, w = .float z) ∨ (i = .areturn ∧ t.isReference = true ∧ w.isRef = true))
    (hd : decode c.code pc = .ok (i, 1)) (hc : cells ≤ kc) (hs : slots ≤ ks) (hQ : Q (some w) T.heap locs) : own_E p e below (own_K Q s kc ks) T (mkF m pc Ls (w :: rest)) :=
  own_end X hlk (fun h => by rw [hret] at h; cases h) (fun fs h => retOut X hx hret hn hi hd h) hc hs hQ
theorem own_retI (X : Stand p l e R s m args below meth c T locs cells slots) (hx : p.tables.exec = Jvm.exec) (hlk : meth.locks = false) {pc : Nat} {Ls : Array Slot} {z : Int32} {rest : List Value} (hret : meth.sig.returnType = some .int)
    (hd : decode c.code pc = .ok (.ireturn, 1)) (hc : cells ≤ kc) (hs : slots ≤ ks) (hQ : Q (some (.int z)) T.heap locs) : own_E p e below (own_K Q s kc ks) T (mkF m pc Ls (.int z :: rest)) :=
  own_retG X hx hlk hret rfl (Or.inl ⟨rfl, Or.inl rfl, z, rfl⟩) hd hc hs hQ
theorem own_retS (X : Stand p l e R s m args below meth c T locs cells slots) (hx : p.tables.exec = Jvm.exec) (hlk : meth.locks = false) {pc : Nat} {Ls : Array Slot} {z : Int32} {t : FieldType} {rest : List Value} (hret : meth.sig.returnType = some t) (hn : narrow t (.int z) = .int z)
    (ht : t = .int ∨ t = .boolean ∨ t = .byte ∨ t = .char ∨ t = .short) (hd : decode c.code pc = .ok (.ireturn, 1)) (hc : cells ≤ kc) (hs : slots ≤ ks) (hQ : Q (some (.int z)) T.heap locs) : own_E p e below (own_K Q s kc ks) T (mkF m pc Ls (.int z :: rest)) :=
  own_retG X hx hlk hret hn (Or.inl ⟨rfl, ht, z, rfl⟩) hd hc hs hQ
theorem own_retN (X : Stand p l e R s m args below meth c T locs cells slots) (hx : p.tables.exec = Jvm.exec) (hlk : meth.locks = false) {pc : Nat} {Ls : Array Slot} {z : Int32} {t : FieldType} {rest : List Value} (hret : meth.sig.returnType = some t)
    (ht : t = .boolean ∨ t = .byte ∨ t = .char ∨ t = .short) (hd : decode c.code pc = .ok (.ireturn, 1)) (hc : cells ≤ kc) (hs : slots ≤ ks) (hQ : Q (some (.int (nar t z))) T.heap locs) : own_E p e below (own_K Q s kc ks) T (mkF m pc Ls (.int z :: rest)) :=
  own_end X hlk (fun h => by rw [hret] at h; cases h) (fun fs h => retN X hx hret ht hd h) hc hs hQ
theorem own_retJ (X : Stand p l e R s m args below meth c T locs cells slots) (hx : p.tables.exec = Jvm.exec) (hlk : meth.locks = false) {pc : Nat} {Ls : Array Slot} {z : Int64} {rest : List Value} (hret : meth.sig.returnType = some .long)
    (hd : decode c.code pc = .ok (.lreturn, 1)) (hc : cells ≤ kc) (hs : slots ≤ ks) (hQ : Q (some (.long z)) T.heap locs) : own_E p e below (own_K Q s kc ks) T (mkF m pc Ls (.long z :: rest)) :=
  own_retG X hx hlk hret rfl (Or.inr (Or.inl ⟨rfl, rfl, z, rfl⟩)) hd hc hs hQ
theorem own_retA (X : Stand p l e R s m args below meth c T locs cells slots) (hx : p.tables.exec = Jvm.exec) (hlk : meth.locks = false) {pc : Nat} {Ls : Array Slot} {w : Value} {t : FieldType} {rest : List Value} (hret : meth.sig.returnType = some t) (ht : t.isReference = true) (hw : w.isRef = true)
    (hd : decode c.code pc = .ok (.areturn, 1)) (hc : cells ≤ kc) (hs : slots ≤ ks) (hQ : Q (some w) T.heap locs) : own_E p e below (own_K Q s kc ks) T (mkF m pc Ls (w :: rest)) :=
  own_retG X hx hlk hret (by cases w <;> cases t <;> first | rfl | (simp [Value.isRef] at hw) | (simp [FieldType.isReference] at ht)) (Or.inr (Or.inr (Or.inr (Or.inr ⟨rfl, ht, hw⟩)))) hd hc hs hQ
end Own
theorem own_StaK {Z : State} {h h' : Heap} {C n d : String} {v : Value} (F : Sta Z h C n d v) (K : Keep h h' []) : Sta Z h' C n d v := Sta.ext ⟨K.1, fun a c q => K.2.1 a c q nin0⟩ F
section OwnArr
variable {p : Program} {l : Launch} {e : Env} {R : Room} {s : State} {m : MethodId} {args : Array Value} {below : List Frame} {meth : Method} {c : Code} {T : State} {locs : List Loc} {cells slots : Nat} {Z : State} {h : Heap} {a : Addr} {k : ClassId} {z : Int32} {vs : List Value} {dv : Value}
theorem own_alen (X : Stand p l e R s m args below meth c T locs cells slots) (hx : p.tables.exec = Jvm.exec) (hZ : Z.Warmed39 s.vm) (eT : T.heap = h) {ty : FieldType} (F : Arv Z h a k ty z vs dv) {g : JFrame} (hg : g.method = m) {rest : List Value} (hs : g.stack = .ref a :: rest) (hd : decode c.code g.pc = .ok (.arraylength, 1)) :
    ∀ target, Steps p.tables e below (T.setTop { g with pc := g.pc + 1, stack := .int z :: rest }) target → Steps p.tables e below (T.setTop g) target := by
  obtain ⟨cl, A, q, S, N, H, G⟩ := F
  intro target hr
  refine X.arraylength hx (by rw [eT]; exact A.1) (State.isArrayOf_alike hZ.alike A.2.1) hg hs hd _ ?_
  rw [len_of S N]; exact hr
theorem own_ald (X : Stand p l e R s m args below meth c T locs cells slots) (hx : p.tables.exec = Jvm.exec) (hZ : Z.Warmed39 s.vm) (eT : T.heap = h) (F : Arv Z h a k .int z vs dv) {j : Int32} (hj : ¬ j < 0 ∧ j < z) {v : Value} (hv : vs.getD j.toNatClampNeg dv = v) {g : JFrame} (hg : g.method = m) {rest : List Value} (hs : g.stack = .int j :: .ref a :: rest) (hd : decode c.code g.pc = .ok (.iaload, 1)) :
    ∀ target, Steps p.tables e below (T.setTop { g with pc := g.pc + 1, stack := v :: rest }) target → Steps p.tables e below (T.setTop g) target := by
  obtain ⟨cl, A, q, S, N, H, G⟩ := F
  have hin := inb_of S hj
  exact X.iaload hx (by rw [eT]; exact A.1) (State.isArrayOf_alike hZ.alike A.2.1) A.2.2 hin (H.at hin hv) hg hs hd
theorem own_ast (X : Stand p l e R s m args below meth c T locs cells slots) (hx : p.tables.exec = Jvm.exec) (hZ : Z.Warmed39 s.vm) (eT : T.heap = h) (F : Arv Z h a k .int z vs dv) {j : Int32} (hj : ¬ j < 0 ∧ j < z) {x : Int32} {i : Nat} (hi : j.toNatClampNeg = i) (hl : i < vs.length) {g : JFrame} (hg : g.method = m) {rest : List Value} (hs : g.stack = .int x :: .int j :: .ref a :: rest) (hd : decode c.code g.pc = .ok (.iastore, 1)) :
    ∃ T' h', Stand p l e R s m args below meth c T' (locs ++ [⟨a, j.toNatClampNeg⟩]) cells slots ∧ T'.heap = h' ∧ Wr h h' a j.toNatClampNeg (.int x) ∧ Arv Z h' a k .int z (vs.set i (.int x)) dv ∧ ∀ target, Steps p.tables e below (T'.setTop { g with pc := g.pc + 1, stack := rest }) target → Steps p.tables e below (T.setTop g) target := by
  obtain ⟨cl, A, q, S, N, H, G⟩ := F
  have hin := inb_of S hj
  obtain ⟨T', h', X', e', W, st⟩ := stI X hx hZ eT A hin hg hs hd
  exact ⟨T', h', X', e', W, Arv.set A q S N H G rfl W i hi hl, st⟩
theorem own_cst (X : Stand p l e R s m args below meth c T locs cells slots) (hx : p.tables.exec = Jvm.exec) (hZ : Z.Warmed39 s.vm) (eT : T.heap = h) (F : Arv Z h a k .char z vs dv) {j : Int32} (hj : ¬ j < 0 ∧ j < z) {x : Int32} {i : Nat} (hi : j.toNatClampNeg = i) (hl : i < vs.length) {g : JFrame} (hg : g.method = m) {rest : List Value} (hs : g.stack = .int x :: .int j :: .ref a :: rest) (hd : decode c.code g.pc = .ok (.castore, 1)) :
    ∃ T' h', Stand p l e R s m args below meth c T' (locs ++ [⟨a, j.toNatClampNeg⟩]) cells slots ∧ T'.heap = h' ∧ Wr h h' a j.toNatClampNeg (.int (nar .char x)) ∧ Arv Z h' a k .char z (vs.set i (.int (nar .char x))) dv ∧ ∀ target, Steps p.tables e below (T'.setTop { g with pc := g.pc + 1, stack := rest }) target → Steps p.tables e below (T.setTop g) target := by
  obtain ⟨cl, A, q, S, N, H, G⟩ := F
  have hin := inb_of S hj
  obtain ⟨T', h', X', e', W, st⟩ := stC X hx hZ eT A hin hg hs hd
  exact ⟨T', h', X', e', W, Arv.set A q S N H G (fits_nar_char _) W i hi hl, st⟩
end OwnArr
theorem own_eqi {args : Array Value} {s : State} {t : Term} {a : Addr} {C n d : String} {k : Int32} (ht : t.eval args s none [] s = some (.ref a)) (h : (Jvm.Cond.eq (.field t C n d) (.int k)).value args s none s [] = some true) : s.fieldOf? a C n d = some (.int k) := by
  simp only [Jvm.Cond.value, fld_at ht] at h
  generalize s.fieldOf? a C n d = o at h
  rcases o with _ | w
  · simp [Term.eval] at h
  · cases w <;> simp [Term.eval] at h
    rw [h]
theorem own_d_prog_15_method_4_0 : decode prog_15_method_4_code 0 = .ok (.aload_n 0, 1) := by decide +kernel
theorem own_d_prog_15_method_4_1 : decode prog_15_method_4_code 1 = .ok (.getstatic 3, 3) := by decide +kernel
theorem own_d_prog_15_method_4_4 : decode prog_15_method_4_code 4 = .ok (.if_acmp .ne 9, 3) := by decide +kernel
theorem own_d_prog_15_method_4_13 : decode prog_15_method_4_code 13 = .ok (.getstatic 3, 3) := by decide +kernel
theorem own_d_prog_15_method_4_16 : decode prog_15_method_4_code 16 = .ok (.areturn, 1) := by decide +kernel
def own_dual_OVER_Q (aOVER : Addr) (aUNDER : Addr) (h0 : Heap) (v : Option Value) (h : Heap) (L : List Loc) : Prop := ((v = some (.ref aUNDER))) ∧ h = h0 ∧ L = []
abbrev own_y0 : MethodName := ⟨"com/example/kalchas/kalchas/Lift", "dual", "()Lcom/example/kalchas/kalchas/Lift;"⟩
theorem own_pn_Lift : plainName "com/example/kalchas/kalchas/Lift" = true := by first | (simp [plainName, overriddenIn]; done) | decide +kernel
theorem own_dual_OVER_ef (m : MethodId) (aOVER : Addr) (aUNDER : Addr) : entryFrame m #[(.ref aOVER)] 1 = mkF m 0 #[.val (.ref aOVER)] [] := by first | (simp [entryFrame, mkF, argsToLocals, Value.category]; done) | rfl
set_option maxRecDepth 65536 in
set_option maxHeartbeats 40000000 in
theorem own_dual_OVER (l : Launch) (Z : State) (a0 : Array Value) (hw : ∀ d ∈ tables_1, d.before a0 Z = true) (ws : List Jvm.Cond) (aOVER : Addr) (aUNDER : Addr) (h0 : Heap) (n0 : Nat) (Z0 : n0 ≤ h0.size) (S_OVER : Sta Z h0 "com/example/kalchas/kalchas/Lift" "OVER" "Lcom/example/kalchas/kalchas/Lift;" (.ref aOVER)) (S_UNDER : Sta Z h0 "com/example/kalchas/kalchas/Lift" "UNDER" "Lcom/example/kalchas/kalchas/Lift;" (.ref aUNDER)) (E_OVER : Exa Z h0 aOVER "com/example/kalchas/kalchas/Lift") (E_UNDER : Exa Z h0 aUNDER "com/example/kalchas/kalchas/Lift") (ne_OVER_UNDER : ¬ aOVER = aUNDER) :
    MetFree l own_y0 (head1 (Jvm.Cond.code own_y0 prog_15_method_4_code 1 (some (.object "com/example/kalchas/kalchas/Lift")) :: ws) ({ frames := 0, cells := 0, slots := 0, locals := 0 } : Room)) (fun a U => a = #[(.ref aOVER)] ∧ Z.Warmed39 U.vm ∧ U.heap = h0) (fun _ _ _ _ _ => True) (fun _ U o U' => ∃ v L, o = .returned v ∧ own_dual_OVER_Q aOVER aUNDER h0 v U'.heap L ∧ FrameEnd U o U' L ({ frames := 0, cells := 0, slots := 0, locals := 0 } : Room).cells ({ frames := 0, cells := 0, slots := 0, locals := 0 } : Room).slots) := by
  refine MetFree.of_bodySF (plainFor_of_name own_pn_Lift) hisR ?_
  intro p e s m args below meth c s₁ Bd hml0 hP hK
  obtain ⟨rfl, hZ, hh⟩ := hP
  have hx := Bd.exec
  have hby := Bd.bytes
  have hml : c.maxLocals = 1 := hml0
  have hown : s.vm.findClass "com/example/kalchas/kalchas/Lift" = some m.cls := findClass_of_methodNamed Bd.named
  have hnm := (name_of_methodNamed Bd.named Bd.method).1
  have X0 : Stand p l e ({ frames := 0, cells := 0, slots := 0, locals := 0 } : Room) s m #[(.ref aOVER)] below meth c s₁ [] 0 0 := Stand.of_body Bd
  have e0 : s₁.heap = h0 := by rw [← hh, Bd.state]; rfl
  show own_E p e below (own_K (own_dual_OVER_Q aOVER aUNDER h0) s ({ frames := 0, cells := 0, slots := 0, locals := 0 } : Room).cells ({ frames := 0, cells := 0, slots := 0, locals := 0 } : Room).slots) s₁ (entryFrame m #[(.ref aOVER)] 1)
  refine own_pre (own_dual_OVER_ef m aOVER aUNDER) ?_
  show own_E p e below _ s₁ (mkF m 0 #[rv aOVER] [])
  refine own_st (fun t k => XS.aloadN X0.here hx rfl (hb hby own_d_prog_15_method_4_0) rfl rfl k) ?_
  show own_E p e below _ s₁ (mkF m 1 #[rv aOVER] [.ref aOVER])
  obtain ⟨T1, X1, e1, st1⟩ := getS2 X0 hx hZ hown (host := "") (Or.inl (own_w hw 8 rfl)) Via.refl e0 S_UNDER (g := (mkF m 1 #[rv aOVER] [.ref aOVER])) rfl (hb hby own_d_prog_15_method_4_1)
  refine own_st st1 ?_
  show own_E p e below _ T1 (mkF m 4 #[rv aOVER] [.ref aUNDER, .ref aOVER])
  refine own_st (fun t k => Jvm.RoadKit.acmp (g := (mkF m 4 #[rv aOVER] [.ref aUNDER, .ref aOVER])) X1 hx rfl rfl rfl (pc0 := 4) (pc' := 13) (same := false) rfl (hb hby own_d_prog_15_method_4_4) rfl (decide_eq_false fun q => ne_OVER_UNDER (Value.ref.inj q)) (by decide) (by decide) k) ?_
  show own_E p e below _ T1 (mkF m 13 #[rv aOVER] [])
  obtain ⟨T2, X2, e2, st2⟩ := getS2 X1 hx hZ hown (host := "") (Or.inl (own_w hw 8 rfl)) Via.refl e1 S_UNDER (g := (mkF m 13 #[rv aOVER] [])) rfl (hb hby own_d_prog_15_method_4_13)
  refine own_st st2 ?_
  show own_E p e below _ T2 (mkF m 16 #[rv aOVER] [.ref aUNDER])
  refine own_retA X2 hx Bd.notSynchronized Bd.returns rfl rfl (hb hby own_d_prog_15_method_4_16) (by decide) (by decide) ?_
  exact ⟨rfl, e2, rfl⟩
theorem own_d_prog_15_method_4_7 : decode prog_15_method_4_code 7 = .ok (.getstatic 7, 3) := by decide +kernel
theorem own_d_prog_15_method_4_10 : decode prog_15_method_4_code 10 = .ok (.goto 6, 3) := by decide +kernel
def own_dual_UNDER_Q (aOVER : Addr) (aUNDER : Addr) (h0 : Heap) (v : Option Value) (h : Heap) (L : List Loc) : Prop := ((v = some (.ref aOVER))) ∧ h = h0 ∧ L = []
theorem own_dual_UNDER_ef (m : MethodId) (aOVER : Addr) (aUNDER : Addr) : entryFrame m #[(.ref aUNDER)] 1 = mkF m 0 #[.val (.ref aUNDER)] [] := by first | (simp [entryFrame, mkF, argsToLocals, Value.category]; done) | rfl
set_option maxRecDepth 65536 in
set_option maxHeartbeats 40000000 in
theorem own_dual_UNDER (l : Launch) (Z : State) (a0 : Array Value) (hw : ∀ d ∈ tables_1, d.before a0 Z = true) (ws : List Jvm.Cond) (aOVER : Addr) (aUNDER : Addr) (h0 : Heap) (n0 : Nat) (Z0 : n0 ≤ h0.size) (S_OVER : Sta Z h0 "com/example/kalchas/kalchas/Lift" "OVER" "Lcom/example/kalchas/kalchas/Lift;" (.ref aOVER)) (S_UNDER : Sta Z h0 "com/example/kalchas/kalchas/Lift" "UNDER" "Lcom/example/kalchas/kalchas/Lift;" (.ref aUNDER)) (E_OVER : Exa Z h0 aOVER "com/example/kalchas/kalchas/Lift") (E_UNDER : Exa Z h0 aUNDER "com/example/kalchas/kalchas/Lift") (ne_OVER_UNDER : ¬ aOVER = aUNDER) :
    MetFree l own_y0 (head1 (Jvm.Cond.code own_y0 prog_15_method_4_code 1 (some (.object "com/example/kalchas/kalchas/Lift")) :: ws) ({ frames := 0, cells := 0, slots := 0, locals := 0 } : Room)) (fun a U => a = #[(.ref aUNDER)] ∧ Z.Warmed39 U.vm ∧ U.heap = h0) (fun _ _ _ _ _ => True) (fun _ U o U' => ∃ v L, o = .returned v ∧ own_dual_UNDER_Q aOVER aUNDER h0 v U'.heap L ∧ FrameEnd U o U' L ({ frames := 0, cells := 0, slots := 0, locals := 0 } : Room).cells ({ frames := 0, cells := 0, slots := 0, locals := 0 } : Room).slots) := by
  refine MetFree.of_bodySF (plainFor_of_name own_pn_Lift) hisR ?_
  intro p e s m args below meth c s₁ Bd hml0 hP hK
  obtain ⟨rfl, hZ, hh⟩ := hP
  have hx := Bd.exec
  have hby := Bd.bytes
  have hml : c.maxLocals = 1 := hml0
  have hown : s.vm.findClass "com/example/kalchas/kalchas/Lift" = some m.cls := findClass_of_methodNamed Bd.named
  have hnm := (name_of_methodNamed Bd.named Bd.method).1
  have X0 : Stand p l e ({ frames := 0, cells := 0, slots := 0, locals := 0 } : Room) s m #[(.ref aUNDER)] below meth c s₁ [] 0 0 := Stand.of_body Bd
  have e0 : s₁.heap = h0 := by rw [← hh, Bd.state]; rfl
  show own_E p e below (own_K (own_dual_UNDER_Q aOVER aUNDER h0) s ({ frames := 0, cells := 0, slots := 0, locals := 0 } : Room).cells ({ frames := 0, cells := 0, slots := 0, locals := 0 } : Room).slots) s₁ (entryFrame m #[(.ref aUNDER)] 1)
  refine own_pre (own_dual_UNDER_ef m aOVER aUNDER) ?_
  show own_E p e below _ s₁ (mkF m 0 #[rv aUNDER] [])
  refine own_st (fun t k => XS.aloadN X0.here hx rfl (hb hby own_d_prog_15_method_4_0) rfl rfl k) ?_
  show own_E p e below _ s₁ (mkF m 1 #[rv aUNDER] [.ref aUNDER])
  obtain ⟨T1, X1, e1, st1⟩ := getS2 X0 hx hZ hown (host := "") (Or.inl (own_w hw 8 rfl)) Via.refl e0 S_UNDER (g := (mkF m 1 #[rv aUNDER] [.ref aUNDER])) rfl (hb hby own_d_prog_15_method_4_1)
  refine own_st st1 ?_
  show own_E p e below _ T1 (mkF m 4 #[rv aUNDER] [.ref aUNDER, .ref aUNDER])
  refine own_st (fun t k => Jvm.RoadKit.acmp (g := (mkF m 4 #[rv aUNDER] [.ref aUNDER, .ref aUNDER])) X1 hx rfl rfl rfl (pc0 := 4) (pc' := 7) (same := true) rfl (hb hby own_d_prog_15_method_4_4) rfl (decide_eq_true rfl) (by decide) (by decide) k) ?_
  show own_E p e below _ T1 (mkF m 7 #[rv aUNDER] [])
  obtain ⟨T2, X2, e2, st2⟩ := getS2 X1 hx hZ hown (host := "") (Or.inl (own_w hw 10 rfl)) Via.refl e1 S_OVER (g := (mkF m 7 #[rv aUNDER] [])) rfl (hb hby own_d_prog_15_method_4_7)
  refine own_st st2 ?_
  show own_E p e below _ T2 (mkF m 10 #[rv aUNDER] [.ref aOVER])
  refine own_st (fun t k => XS.goto X2.here hx rfl (pc0 := 10) (pc' := 16) rfl (hb hby own_d_prog_15_method_4_10) (by decide) (by decide) k) ?_
  show own_E p e below _ T2 (mkF m 16 #[rv aUNDER] [.ref aOVER])
  refine own_retA X2 hx Bd.notSynchronized Bd.returns rfl rfl (hb hby own_d_prog_15_method_4_16) (by decide) (by decide) ?_
  exact ⟨rfl, e2, rfl⟩
theorem own_d_method_2_0 : decode method_2_code 0 = .ok (.aload_n 0, 1) := by decide +kernel
theorem own_d_method_2_1 : decode method_2_code 1 = .ok (.getstatic 7, 3) := by decide +kernel
theorem own_d_method_2_4 : decode method_2_code 4 = .ok (.if_acmp .ne 17, 3) := by decide +kernel
theorem own_d_method_2_21 : decode method_2_code 21 = .ok (.iload_n 1, 1) := by decide +kernel
theorem own_d_method_2_22 : decode method_2_code 22 = .ok (.iload_n 2, 1) := by decide +kernel
theorem own_d_method_2_23 : decode method_2_code 23 = .ok (.iand, 1) := by decide +kernel
theorem own_d_method_2_24 : decode method_2_code 24 = .ok (.ifCond .eq 7, 3) := by decide +kernel
theorem own_d_method_2_31 : decode method_2_code 31 = .ok (.iconst 0, 1) := by decide +kernel
theorem own_d_method_2_32 : decode method_2_code 32 = .ok (.ireturn, 1) := by decide +kernel
theorem own_d_method_2_27 : decode method_2_code 27 = .ok (.iconst 1, 1) := by decide +kernel
theorem own_d_method_2_28 : decode method_2_code 28 = .ok (.goto 4, 3) := by decide +kernel
def own_takes_OVER_Q (aOVER : Addr) (aUNDER : Addr) (p1 : Int32) (p2 : Int32) (h0 : Heap) (v : Option Value) (h : Heap) (L : List Loc) : Prop := ((v = some (.int (0 : Int32)) ∧ (p1 &&& p2) = (0 : Int32)) ∨ (v = some (.int (1 : Int32)) ∧ ¬ ((p1 &&& p2) = (0 : Int32)))) ∧ h = h0 ∧ L = []
abbrev own_y1 : MethodName := ⟨"com/example/kalchas/kalchas/LiftDualPinLaw", "takes", "(Lcom/example/kalchas/kalchas/Lift;II)Z"⟩
theorem own_pn_LiftDualPinLaw : plainName "com/example/kalchas/kalchas/LiftDualPinLaw" = true := by first | (simp [plainName, overriddenIn]; done) | decide +kernel
theorem own_takes_OVER_ef (m : MethodId) (aOVER : Addr) (aUNDER : Addr) (p1 : Int32) (p2 : Int32) : entryFrame m #[(.ref aOVER), (.int p1), (.int p2)] 3 = mkF m 0 #[.val (.ref aOVER), .val (.int p1), .val (.int p2)] [] := by first | (simp [entryFrame, mkF, argsToLocals, Value.category]; done) | rfl
set_option maxRecDepth 65536 in
set_option maxHeartbeats 40000000 in
theorem own_takes_OVER (l : Launch) (Z : State) (a0 : Array Value) (hw : ∀ d ∈ tables_1, d.before a0 Z = true) (ws : List Jvm.Cond) (aOVER : Addr) (aUNDER : Addr) (p1 : Int32) (p2 : Int32) (h0 : Heap) (n0 : Nat) (Z0 : n0 ≤ h0.size) (S_OVER : Sta Z h0 "com/example/kalchas/kalchas/Lift" "OVER" "Lcom/example/kalchas/kalchas/Lift;" (.ref aOVER)) (S_UNDER : Sta Z h0 "com/example/kalchas/kalchas/Lift" "UNDER" "Lcom/example/kalchas/kalchas/Lift;" (.ref aUNDER)) (E_OVER : Exa Z h0 aOVER "com/example/kalchas/kalchas/Lift") (E_UNDER : Exa Z h0 aUNDER "com/example/kalchas/kalchas/Lift") (ne_OVER_UNDER : ¬ aOVER = aUNDER) :
    MetFree l own_y1 (head1 (Jvm.Cond.code own_y1 method_2_code 3 (some .boolean) :: ws) ({ frames := 0, cells := 0, slots := 0, locals := 0 } : Room)) (fun a U => a = #[(.ref aOVER), (.int p1), (.int p2)] ∧ Z.Warmed39 U.vm ∧ U.heap = h0) (fun _ _ _ _ _ => True) (fun _ U o U' => ∃ v L, o = .returned v ∧ own_takes_OVER_Q aOVER aUNDER p1 p2 h0 v U'.heap L ∧ FrameEnd U o U' L ({ frames := 0, cells := 0, slots := 0, locals := 0 } : Room).cells ({ frames := 0, cells := 0, slots := 0, locals := 0 } : Room).slots) := by
  refine MetFree.of_bodySF (plainFor_of_name own_pn_LiftDualPinLaw) hisR ?_
  intro p e s m args below meth c s₁ Bd hml0 hP hK
  obtain ⟨rfl, hZ, hh⟩ := hP
  have hx := Bd.exec
  have hby := Bd.bytes
  have hml : c.maxLocals = 3 := hml0
  have hown : s.vm.findClass "com/example/kalchas/kalchas/LiftDualPinLaw" = some m.cls := findClass_of_methodNamed Bd.named
  have hnm := (name_of_methodNamed Bd.named Bd.method).1
  have X0 : Stand p l e ({ frames := 0, cells := 0, slots := 0, locals := 0 } : Room) s m #[(.ref aOVER), (.int p1), (.int p2)] below meth c s₁ [] 0 0 := Stand.of_body Bd
  have e0 : s₁.heap = h0 := by rw [← hh, Bd.state]; rfl
  show own_E p e below (own_K (own_takes_OVER_Q aOVER aUNDER p1 p2 h0) s ({ frames := 0, cells := 0, slots := 0, locals := 0 } : Room).cells ({ frames := 0, cells := 0, slots := 0, locals := 0 } : Room).slots) s₁ (entryFrame m #[(.ref aOVER), (.int p1), (.int p2)] 3)
  refine own_pre (own_takes_OVER_ef m aOVER aUNDER p1 p2) ?_
  show own_E p e below _ s₁ (mkF m 0 #[rv aOVER, iv p1, iv p2] [])
  refine own_st (fun t k => XS.aloadN X0.here hx rfl (hb hby own_d_method_2_0) rfl rfl k) ?_
  show own_E p e below _ s₁ (mkF m 1 #[rv aOVER, iv p1, iv p2] [.ref aOVER])
  obtain ⟨T1, X1, e1, st1⟩ := getS2 X0 hx hZ hown (host := "") (Or.inl (own_w hw 15 rfl)) Via.refl e0 S_UNDER (g := (mkF m 1 #[rv aOVER, iv p1, iv p2] [.ref aOVER])) rfl (hb hby own_d_method_2_1)
  refine own_st st1 ?_
  show own_E p e below _ T1 (mkF m 4 #[rv aOVER, iv p1, iv p2] [.ref aUNDER, .ref aOVER])
  refine own_st (fun t k => Jvm.RoadKit.acmp (g := (mkF m 4 #[rv aOVER, iv p1, iv p2] [.ref aUNDER, .ref aOVER])) X1 hx rfl rfl rfl (pc0 := 4) (pc' := 21) (same := false) rfl (hb hby own_d_method_2_4) rfl (decide_eq_false fun q => ne_OVER_UNDER (Value.ref.inj q)) (by decide) (by decide) k) ?_
  show own_E p e below _ T1 (mkF m 21 #[rv aOVER, iv p1, iv p2] [])
  refine own_st (fun t k => XS.iloadN X1.here hx rfl (hb hby own_d_method_2_21) rfl k) ?_
  show own_E p e below _ T1 (mkF m 22 #[rv aOVER, iv p1, iv p2] [.int p1])
  refine own_st (fun t k => XS.iloadN X1.here hx rfl (hb hby own_d_method_2_22) rfl k) ?_
  show own_E p e below _ T1 (mkF m 23 #[rv aOVER, iv p1, iv p2] [.int p2, .int p1])
  refine own_st (fun t k => XS.iand X1.here hx rfl (hb hby own_d_method_2_23) rfl k) ?_
  show own_E p e below _ T1 (mkF m 24 #[rv aOVER, iv p1, iv p2] [.int (p1 &&& p2)])
  by_cases hc2 : (p1 &&& p2) = (0 : Int32)
  · refine own_st (fun t k => XS.ifYes X1.here hx rfl (pc0 := 24) (pc' := 31) rfl (hb hby own_d_method_2_24) rfl ((if0 _ _).trans (teq hc2).1) (by decide) (by decide) k) ?_
    show own_E p e below _ T1 (mkF m 31 #[rv aOVER, iv p1, iv p2] [])
    refine own_st (fun t k => XS.iconst X1.here hx rfl (hb hby own_d_method_2_31) k) ?_
    show own_E p e below _ T1 (mkF m 32 #[rv aOVER, iv p1, iv p2] [.int 0])
    refine own_retS X1 hx Bd.notSynchronized Bd.returns rfl (by decide) (hb hby own_d_method_2_32) (by decide) (by decide) ?_
    exact ⟨(Or.inl ⟨rfl, hc2⟩), e1, rfl⟩
  · refine own_st (fun t k => XS.ifNo X1.here hx rfl (hb hby own_d_method_2_24) rfl ((if0 _ _).trans (feq hc2).1) k) ?_
    show own_E p e below _ T1 (mkF m 27 #[rv aOVER, iv p1, iv p2] [])
    refine own_st (fun t k => XS.iconst X1.here hx rfl (hb hby own_d_method_2_27) k) ?_
    show own_E p e below _ T1 (mkF m 28 #[rv aOVER, iv p1, iv p2] [.int 1])
    refine own_st (fun t k => XS.goto X1.here hx rfl (pc0 := 28) (pc' := 32) rfl (hb hby own_d_method_2_28) (by decide) (by decide) k) ?_
    show own_E p e below _ T1 (mkF m 32 #[rv aOVER, iv p1, iv p2] [.int 1])
    refine own_retS X1 hx Bd.notSynchronized Bd.returns rfl (by decide) (hb hby own_d_method_2_32) (by decide) (by decide) ?_
    exact ⟨(Or.inr ⟨rfl, hc2⟩), e1, rfl⟩
theorem own_d_method_2_7 : decode method_2_code 7 = .ok (.iload_n 1, 1) := by decide +kernel
theorem own_d_method_2_8 : decode method_2_code 8 = .ok (.iload_n 2, 1) := by decide +kernel
theorem own_d_method_2_9 : decode method_2_code 9 = .ok (.iconst (-1), 1) := by decide +kernel
theorem own_d_method_2_10 : decode method_2_code 10 = .ok (.ixor, 1) := by decide +kernel
theorem own_d_method_2_11 : decode method_2_code 11 = .ok (.iand, 1) := by decide +kernel
theorem own_d_method_2_12 : decode method_2_code 12 = .ok (.ifCond .ne 7, 3) := by decide +kernel
theorem own_d_method_2_15 : decode method_2_code 15 = .ok (.iconst 1, 1) := by decide +kernel
theorem own_d_method_2_16 : decode method_2_code 16 = .ok (.goto 4, 3) := by decide +kernel
theorem own_d_method_2_20 : decode method_2_code 20 = .ok (.ireturn, 1) := by decide +kernel
theorem own_d_method_2_19 : decode method_2_code 19 = .ok (.iconst 0, 1) := by decide +kernel
def own_takes_UNDER_Q (aOVER : Addr) (aUNDER : Addr) (p1 : Int32) (p2 : Int32) (h0 : Heap) (v : Option Value) (h : Heap) (L : List Loc) : Prop := ((v = some (.int (1 : Int32)) ∧ (p1 &&& (p2 ^^^ (-1 : Int32))) = (0 : Int32)) ∨ (v = some (.int (0 : Int32)) ∧ ¬ ((p1 &&& (p2 ^^^ (-1 : Int32))) = (0 : Int32)))) ∧ h = h0 ∧ L = []
theorem own_takes_UNDER_ef (m : MethodId) (aOVER : Addr) (aUNDER : Addr) (p1 : Int32) (p2 : Int32) : entryFrame m #[(.ref aUNDER), (.int p1), (.int p2)] 3 = mkF m 0 #[.val (.ref aUNDER), .val (.int p1), .val (.int p2)] [] := by first | (simp [entryFrame, mkF, argsToLocals, Value.category]; done) | rfl
set_option maxRecDepth 65536 in
set_option maxHeartbeats 40000000 in
theorem own_takes_UNDER (l : Launch) (Z : State) (a0 : Array Value) (hw : ∀ d ∈ tables_1, d.before a0 Z = true) (ws : List Jvm.Cond) (aOVER : Addr) (aUNDER : Addr) (p1 : Int32) (p2 : Int32) (h0 : Heap) (n0 : Nat) (Z0 : n0 ≤ h0.size) (S_OVER : Sta Z h0 "com/example/kalchas/kalchas/Lift" "OVER" "Lcom/example/kalchas/kalchas/Lift;" (.ref aOVER)) (S_UNDER : Sta Z h0 "com/example/kalchas/kalchas/Lift" "UNDER" "Lcom/example/kalchas/kalchas/Lift;" (.ref aUNDER)) (E_OVER : Exa Z h0 aOVER "com/example/kalchas/kalchas/Lift") (E_UNDER : Exa Z h0 aUNDER "com/example/kalchas/kalchas/Lift") (ne_OVER_UNDER : ¬ aOVER = aUNDER) :
    MetFree l own_y1 (head1 (Jvm.Cond.code own_y1 method_2_code 3 (some .boolean) :: ws) ({ frames := 0, cells := 0, slots := 0, locals := 0 } : Room)) (fun a U => a = #[(.ref aUNDER), (.int p1), (.int p2)] ∧ Z.Warmed39 U.vm ∧ U.heap = h0) (fun _ _ _ _ _ => True) (fun _ U o U' => ∃ v L, o = .returned v ∧ own_takes_UNDER_Q aOVER aUNDER p1 p2 h0 v U'.heap L ∧ FrameEnd U o U' L ({ frames := 0, cells := 0, slots := 0, locals := 0 } : Room).cells ({ frames := 0, cells := 0, slots := 0, locals := 0 } : Room).slots) := by
  refine MetFree.of_bodySF (plainFor_of_name own_pn_LiftDualPinLaw) hisR ?_
  intro p e s m args below meth c s₁ Bd hml0 hP hK
  obtain ⟨rfl, hZ, hh⟩ := hP
  have hx := Bd.exec
  have hby := Bd.bytes
  have hml : c.maxLocals = 3 := hml0
  have hown : s.vm.findClass "com/example/kalchas/kalchas/LiftDualPinLaw" = some m.cls := findClass_of_methodNamed Bd.named
  have hnm := (name_of_methodNamed Bd.named Bd.method).1
  have X0 : Stand p l e ({ frames := 0, cells := 0, slots := 0, locals := 0 } : Room) s m #[(.ref aUNDER), (.int p1), (.int p2)] below meth c s₁ [] 0 0 := Stand.of_body Bd
  have e0 : s₁.heap = h0 := by rw [← hh, Bd.state]; rfl
  show own_E p e below (own_K (own_takes_UNDER_Q aOVER aUNDER p1 p2 h0) s ({ frames := 0, cells := 0, slots := 0, locals := 0 } : Room).cells ({ frames := 0, cells := 0, slots := 0, locals := 0 } : Room).slots) s₁ (entryFrame m #[(.ref aUNDER), (.int p1), (.int p2)] 3)
  refine own_pre (own_takes_UNDER_ef m aOVER aUNDER p1 p2) ?_
  show own_E p e below _ s₁ (mkF m 0 #[rv aUNDER, iv p1, iv p2] [])
  refine own_st (fun t k => XS.aloadN X0.here hx rfl (hb hby own_d_method_2_0) rfl rfl k) ?_
  show own_E p e below _ s₁ (mkF m 1 #[rv aUNDER, iv p1, iv p2] [.ref aUNDER])
  obtain ⟨T1, X1, e1, st1⟩ := getS2 X0 hx hZ hown (host := "") (Or.inl (own_w hw 15 rfl)) Via.refl e0 S_UNDER (g := (mkF m 1 #[rv aUNDER, iv p1, iv p2] [.ref aUNDER])) rfl (hb hby own_d_method_2_1)
  refine own_st st1 ?_
  show own_E p e below _ T1 (mkF m 4 #[rv aUNDER, iv p1, iv p2] [.ref aUNDER, .ref aUNDER])
  refine own_st (fun t k => Jvm.RoadKit.acmp (g := (mkF m 4 #[rv aUNDER, iv p1, iv p2] [.ref aUNDER, .ref aUNDER])) X1 hx rfl rfl rfl (pc0 := 4) (pc' := 7) (same := true) rfl (hb hby own_d_method_2_4) rfl (decide_eq_true rfl) (by decide) (by decide) k) ?_
  show own_E p e below _ T1 (mkF m 7 #[rv aUNDER, iv p1, iv p2] [])
  refine own_st (fun t k => XS.iloadN X1.here hx rfl (hb hby own_d_method_2_7) rfl k) ?_
  show own_E p e below _ T1 (mkF m 8 #[rv aUNDER, iv p1, iv p2] [.int p1])
  refine own_st (fun t k => XS.iloadN X1.here hx rfl (hb hby own_d_method_2_8) rfl k) ?_
  show own_E p e below _ T1 (mkF m 9 #[rv aUNDER, iv p1, iv p2] [.int p2, .int p1])
  refine own_st (fun t k => XS.iconst X1.here hx rfl (hb hby own_d_method_2_9) k) ?_
  show own_E p e below _ T1 (mkF m 10 #[rv aUNDER, iv p1, iv p2] [.int (-1), .int p2, .int p1])
  refine own_st (fun t k => XS.ixor X1.here hx rfl (hb hby own_d_method_2_10) rfl k) ?_
  show own_E p e below _ T1 (mkF m 11 #[rv aUNDER, iv p1, iv p2] [.int (p2 ^^^ (-1 : Int32)), .int p1])
  refine own_st (fun t k => XS.iand X1.here hx rfl (hb hby own_d_method_2_11) rfl k) ?_
  show own_E p e below _ T1 (mkF m 12 #[rv aUNDER, iv p1, iv p2] [.int (p1 &&& (p2 ^^^ (-1 : Int32)))])
  by_cases hc2 : (p1 &&& (p2 ^^^ (-1 : Int32))) = (0 : Int32)
  · refine own_st (fun t k => XS.ifNo X1.here hx rfl (hb hby own_d_method_2_12) rfl ((if0 _ _).trans (teq hc2).2) k) ?_
    show own_E p e below _ T1 (mkF m 15 #[rv aUNDER, iv p1, iv p2] [])
    refine own_st (fun t k => XS.iconst X1.here hx rfl (hb hby own_d_method_2_15) k) ?_
    show own_E p e below _ T1 (mkF m 16 #[rv aUNDER, iv p1, iv p2] [.int 1])
    refine own_st (fun t k => XS.goto X1.here hx rfl (pc0 := 16) (pc' := 20) rfl (hb hby own_d_method_2_16) (by decide) (by decide) k) ?_
    show own_E p e below _ T1 (mkF m 20 #[rv aUNDER, iv p1, iv p2] [.int 1])
    refine own_retS X1 hx Bd.notSynchronized Bd.returns rfl (by decide) (hb hby own_d_method_2_20) (by decide) (by decide) ?_
    exact ⟨(Or.inl ⟨rfl, hc2⟩), e1, rfl⟩
  · refine own_st (fun t k => XS.ifYes X1.here hx rfl (pc0 := 12) (pc' := 19) rfl (hb hby own_d_method_2_12) rfl ((if0 _ _).trans (feq hc2).2) (by decide) (by decide) k) ?_
    show own_E p e below _ T1 (mkF m 19 #[rv aUNDER, iv p1, iv p2] [])
    refine own_st (fun t k => XS.iconst X1.here hx rfl (hb hby own_d_method_2_19) k) ?_
    show own_E p e below _ T1 (mkF m 20 #[rv aUNDER, iv p1, iv p2] [.int 0])
    refine own_retS X1 hx Bd.notSynchronized Bd.returns rfl (by decide) (hb hby own_d_method_2_20) (by decide) (by decide) ?_
    exact ⟨(Or.inr ⟨rfl, hc2⟩), e1, rfl⟩
theorem own_xx (x : Int32) : (x ^^^ (-1 : Int32)) ^^^ (-1 : Int32) = x := by rw [Int32.xor_assoc]; exact Int32.xor_zero
theorem own_pd_0 : parseMethodDescriptor "()Lcom/example/kalchas/kalchas/Lift;" = some ⟨[], some (.object "com/example/kalchas/kalchas/Lift")⟩ := by decide +kernel
theorem own_pd_2 : parseMethodDescriptor "(Lcom/example/kalchas/kalchas/Lift;II)Z" = some ⟨[(.object "com/example/kalchas/kalchas/Lift"), .int, .int], some .boolean⟩ := by decide +kernel
def own_law_Q (n0 : Nat) (v : Option Value) (h : Heap) (L : List Loc) : Prop := v = some (.int 1) ∧ Fr n0 L
theorem own_law_ef (m : MethodId) (aOVER : Addr) (aUNDER : Addr) (p1 : Int32) (p2 : Int32) (p3 : Int32) : entryFrame m #[(.int p1), (.int p2), (.int p3)] maxLocals = mkF m 0 #[.val (.int p1), .val (.int p2), .val (.int p3), .unset, .unset, .unset, .unset] [] := by first | (simp [entryFrame, mkF, argsToLocals, Value.category, maxLocals]; done) | rfl
set_option maxRecDepth 65536 in
set_option maxHeartbeats 40000000 in
theorem own_law (l : Launch) (Z : State) (a0 : Array Value) (hw : ∀ d ∈ tables_1, d.before a0 Z = true) (ws : List Jvm.Cond) (aOVER : Addr) (aUNDER : Addr) (p1 : Int32) (p2 : Int32) (p3 : Int32) (h0 : Heap) (n0 : Nat) (Z0 : n0 ≤ h0.size) (S_OVER : Sta Z h0 "com/example/kalchas/kalchas/Lift" "OVER" "Lcom/example/kalchas/kalchas/Lift;" (.ref aOVER)) (S_UNDER : Sta Z h0 "com/example/kalchas/kalchas/Lift" "UNDER" "Lcom/example/kalchas/kalchas/Lift;" (.ref aUNDER)) (E_OVER : Exa Z h0 aOVER "com/example/kalchas/kalchas/Lift") (E_UNDER : Exa Z h0 aUNDER "com/example/kalchas/kalchas/Lift") (ne_OVER_UNDER : ¬ aOVER = aUNDER) :
    MetFree l x (head1 (Jvm.Cond.code x code maxLocals ret :: ws) room_1) (fun a U => a = #[(.int p1), (.int p2), (.int p3)] ∧ Z.Warmed39 U.vm ∧ U.heap = h0) (fun _ _ _ _ _ => True) (fun _ U o U' => ∃ v L, o = .returned v ∧ own_law_Q n0 v U'.heap L ∧ FrameEnd U o U' L room_1.cells room_1.slots) := by
  refine MetFree.of_bodySF (plainFor_of_name own_pn_LiftDualPinLaw) hisR ?_
  intro p e s m args below meth c s₁ Bd hml0 hP hK
  obtain ⟨rfl, hZ, hh⟩ := hP
  have hx := Bd.exec
  have hby := Bd.bytes
  have hml : c.maxLocals = 7 := hml0
  have hown : s.vm.findClass "com/example/kalchas/kalchas/LiftDualPinLaw" = some m.cls := findClass_of_methodNamed Bd.named
  have hnm := (name_of_methodNamed Bd.named Bd.method).1
  have X0 : Stand p l e room_1 s m #[(.int p1), (.int p2), (.int p3)] below meth c s₁ [] 0 0 := Stand.of_body Bd
  have e0 : s₁.heap = h0 := by rw [← hh, Bd.state]; rfl
  show own_E p e below (own_K (own_law_Q n0) s room_1.cells room_1.slots) s₁ (entryFrame m #[(.int p1), (.int p2), (.int p3)] maxLocals)
  refine own_pre (own_law_ef m aOVER aUNDER p1 p2 p3) ?_
  show own_E p e below _ s₁ (mkF m 0 #[iv p1, iv p2, iv p3, .unset, .unset, .unset, .unset] [])
  refine own_st (fun t k => XS.iloadN X0.here hx rfl (hb hby at_0) rfl k) ?_
  show own_E p e below _ s₁ (mkF m 1 #[iv p1, iv p2, iv p3, .unset, .unset, .unset, .unset] [.int p1])
  refine own_st (fun t k => XS.iconst X0.here hx rfl (hb hby at_1) k) ?_
  show own_E p e below _ s₁ (mkF m 2 #[iv p1, iv p2, iv p3, .unset, .unset, .unset, .unset] [.int 1, .int p1])
  refine own_st (fun t k => XS.iand X0.here hx rfl (hb hby at_2) rfl k) ?_
  show own_E p e below _ s₁ (mkF m 3 #[iv p1, iv p2, iv p3, .unset, .unset, .unset, .unset] [.int (p1 &&& (1 : Int32))])
  by_cases hc1 : (p1 &&& (1 : Int32)) = (0 : Int32)
  · refine own_st (fun t k => XS.ifYes X0.here hx rfl (pc0 := 3) (pc' := 12) rfl (hb hby at_3) rfl ((if0 _ _).trans (teq hc1).1) (by decide) (by decide) k) ?_
    show own_E p e below _ s₁ (mkF m 12 #[iv p1, iv p2, iv p3, .unset, .unset, .unset, .unset] [])
    obtain ⟨T2, X2, e2, st2⟩ := getS2 X0 hx hZ hown (host := "") (Or.inl (own_w hw 0 rfl)) Via.refl e0 S_OVER (g := (mkF m 12 #[iv p1, iv p2, iv p3, .unset, .unset, .unset, .unset] [])) rfl (hb hby at_12)
    refine own_st st2 ?_
    show own_E p e below _ T2 (mkF m 15 #[iv p1, iv p2, iv p3, .unset, .unset, .unset, .unset] [.ref aOVER])
    refine own_st (fun t k => XS.astoreN X2.here hx rfl (hb hby at_15) rfl rfl (l' := #[iv p1, iv p2, iv p3, rv aOVER, .unset, .unset, .unset]) rfl k) ?_
    show own_E p e below _ T2 (mkF m 16 #[iv p1, iv p2, iv p3, rv aOVER, .unset, .unset, .unset] [])
    refine own_st (fun t k => XS.aloadN X2.here hx rfl (hb hby at_16) rfl rfl k) ?_
    show own_E p e below _ T2 (mkF m 17 #[iv p1, iv p2, iv p3, rv aOVER, .unset, .unset, .unset] [.ref aOVER])
    obtain ⟨cq3, kq3, q3a, q3b, q3c⟩ := isOf hZ e2 E_OVER
    obtain ⟨_, _, ⟨T3, L3, k3, n3⟩, -, X3, ⟨Lc3, hQ3, l3, y3, z3⟩, st3⟩ := X2.virtualBack hx (y := own_y0) (z := own_y0) hown (mvT hZ (own_w hw 3 rfl)) (mvT hZ (own_w hw 4 rfl)) (notFace_of_selects (args := #[]) (mvT hZ (own_w hw 6 rfl))) (mvT hZ (own_w hw 6 rfl)) (mvT hZ (own_w hw 5 rfl)) (by decide) (backOf (W := 0) (own_dual_OVER l Z a0 hw [] aOVER aUNDER h0 n0 Z0 S_OVER S_UNDER E_OVER E_UNDER ne_OVER_UNDER) hZ (own_w hw 7 rfl) (own_w hw 1 rfl) (by decide) (by decide)) q3a q3c (g := (mkF m 17 #[iv p1, iv p2, iv p3, rv aOVER, .unset, .unset, .unset] [.ref aOVER])) rfl (by rw [hml]; rfl) (Steps.refl _) (argsL := []) (rest := []) (lenOf own_pd_0 rfl) rfl (by show 2 * 0 + _ ≤ _; exact Nat.le_of_eq rfl) (hb hby at_17) (fun _ _ => ⟨rfl, e2, (by decide : 0 + 0 ≤ _), (by decide : 0 + 0 ≤ _)⟩)
    dsimp only [Pt.U, Pt.locs, Pt.cells, Pt.slots] at X3 l3 y3 z3 st3 hQ3
    subst l3 y3 z3
    obtain ⟨hR3, e3, rfl⟩ := hQ3
    obtain rfl := hR3
    refine own_tr st3 ?_
    show own_E p e below _ T3 (mkF m 20 #[iv p1, iv p2, iv p3, rv aOVER, .unset, .unset, .unset] [.ref aUNDER])
    refine own_st (fun t k => XS.astore X3.here hx rfl (hb hby at_20) rfl rfl (l' := #[iv p1, iv p2, iv p3, rv aOVER, rv aUNDER, .unset, .unset]) rfl k) ?_
    show own_E p e below _ T3 (mkF m 22 #[iv p1, iv p2, iv p3, rv aOVER, rv aUNDER, .unset, .unset] [])
    refine own_st (fun t k => XS.aload X3.here hx rfl (hb hby at_22) rfl rfl k) ?_
    show own_E p e below _ T3 (mkF m 24 #[iv p1, iv p2, iv p3, rv aOVER, rv aUNDER, .unset, .unset] [.ref aUNDER])
    refine own_st (fun t k => XS.ifnonnullYes X3.here hx rfl (pc0 := 24) (pc' := 29) rfl (hb hby at_24) rfl (by decide) (by decide) k) ?_
    show own_E p e below _ T3 (mkF m 29 #[iv p1, iv p2, iv p3, rv aOVER, rv aUNDER, .unset, .unset] [])
    refine own_st (fun t k => XS.aload X3.here hx rfl (hb hby at_29) rfl rfl k) ?_
    show own_E p e below _ T3 (mkF m 31 #[iv p1, iv p2, iv p3, rv aOVER, rv aUNDER, .unset, .unset] [.ref aUNDER])
    refine own_st (fun t k => XS.aloadN X3.here hx rfl (hb hby at_31) rfl rfl k) ?_
    show own_E p e below _ T3 (mkF m 32 #[iv p1, iv p2, iv p3, rv aOVER, rv aUNDER, .unset, .unset] [.ref aOVER, .ref aUNDER])
    refine own_st (fun t k => Jvm.RoadKit.acmp (g := (mkF m 32 #[iv p1, iv p2, iv p3, rv aOVER, rv aUNDER, .unset, .unset] [.ref aOVER, .ref aUNDER])) X3 hx rfl rfl rfl (pc0 := 32) (pc' := 35) (same := false) rfl (hb hby at_32) rfl (decide_eq_false fun q => ne_OVER_UNDER (Value.ref.inj q).symm) (by decide) (by decide) k) ?_
    show own_E p e below _ T3 (mkF m 35 #[iv p1, iv p2, iv p3, rv aOVER, rv aUNDER, .unset, .unset] [])
    refine own_st (fun t k => XS.aload X3.here hx rfl (hb hby at_35) rfl rfl k) ?_
    show own_E p e below _ T3 (mkF m 37 #[iv p1, iv p2, iv p3, rv aOVER, rv aUNDER, .unset, .unset] [.ref aUNDER])
    obtain ⟨cq4, kq4, q4a, q4b, q4c⟩ := isOf hZ e3 E_UNDER
    obtain ⟨_, _, ⟨T4, L4, k4, n4⟩, -, X4, ⟨Lc4, hQ4, l4, y4, z4⟩, st4⟩ := X3.virtualBack hx (y := own_y0) (z := own_y0) hown (mvT hZ (own_w hw 3 rfl)) (mvT hZ (own_w hw 4 rfl)) (notFace_of_selects (args := #[]) (mvT hZ (own_w hw 6 rfl))) (mvT hZ (own_w hw 6 rfl)) (mvT hZ (own_w hw 5 rfl)) (by decide) (backOf (W := 0) (own_dual_UNDER l Z a0 hw [] aOVER aUNDER h0 n0 Z0 S_OVER S_UNDER E_OVER E_UNDER ne_OVER_UNDER) hZ (own_w hw 7 rfl) (own_w hw 1 rfl) (by decide) (by decide)) q4a q4c (g := (mkF m 37 #[iv p1, iv p2, iv p3, rv aOVER, rv aUNDER, .unset, .unset] [.ref aUNDER])) rfl (by rw [hml]; rfl) (Steps.refl _) (argsL := []) (rest := []) (lenOf own_pd_0 rfl) rfl (by show 2 * 0 + _ ≤ _; exact Nat.le_of_eq rfl) (hb hby at_37) (fun _ _ => ⟨rfl, e3, (by decide : 0 + 0 ≤ _), (by decide : 0 + 0 ≤ _)⟩)
    dsimp only [Pt.U, Pt.locs, Pt.cells, Pt.slots] at X4 l4 y4 z4 st4 hQ4
    subst l4 y4 z4
    obtain ⟨hR4, e4, rfl⟩ := hQ4
    obtain rfl := hR4
    refine own_tr st4 ?_
    show own_E p e below _ T4 (mkF m 40 #[iv p1, iv p2, iv p3, rv aOVER, rv aUNDER, .unset, .unset] [.ref aOVER])
    refine own_st (fun t k => XS.aloadN X4.here hx rfl (hb hby at_40) rfl rfl k) ?_
    show own_E p e below _ T4 (mkF m 41 #[iv p1, iv p2, iv p3, rv aOVER, rv aUNDER, .unset, .unset] [.ref aOVER, .ref aOVER])
    refine own_st (fun t k => Jvm.RoadKit.acmp (g := (mkF m 41 #[iv p1, iv p2, iv p3, rv aOVER, rv aUNDER, .unset, .unset] [.ref aOVER, .ref aOVER])) X4 hx rfl rfl rfl (pc0 := 41) (pc' := 44) (same := true) rfl (hb hby at_41) rfl (decide_eq_true rfl) (by decide) (by decide) k) ?_
    show own_E p e below _ T4 (mkF m 44 #[iv p1, iv p2, iv p3, rv aOVER, rv aUNDER, .unset, .unset] [])
    refine own_st (fun t k => XS.iconst X4.here hx rfl (hb hby at_44) k) ?_
    show own_E p e below _ T4 (mkF m 45 #[iv p1, iv p2, iv p3, rv aOVER, rv aUNDER, .unset, .unset] [.int 1])
    refine own_st (fun t k => XS.goto X4.here hx rfl (pc0 := 45) (pc' := 49) rfl (hb hby at_45) (by decide) (by decide) k) ?_
    show own_E p e below _ T4 (mkF m 49 #[iv p1, iv p2, iv p3, rv aOVER, rv aUNDER, .unset, .unset] [.int 1])
    refine own_st (fun t k => XS.istore X4.here hx rfl (hb hby at_49) rfl (l' := #[iv p1, iv p2, iv p3, rv aOVER, rv aUNDER, iv 1, .unset]) rfl k) ?_
    show own_E p e below _ T4 (mkF m 51 #[iv p1, iv p2, iv p3, rv aOVER, rv aUNDER, iv 1, .unset] [])
    refine own_st (fun t k => XS.aloadN X4.here hx rfl (hb hby at_51) rfl rfl k) ?_
    show own_E p e below _ T4 (mkF m 52 #[iv p1, iv p2, iv p3, rv aOVER, rv aUNDER, iv 1, .unset] [.ref aOVER])
    refine own_st (fun t k => XS.iloadN X4.here hx rfl (hb hby at_52) rfl k) ?_
    show own_E p e below _ T4 (mkF m 53 #[iv p1, iv p2, iv p3, rv aOVER, rv aUNDER, iv 1, .unset] [.int p2, .ref aOVER])
    refine own_st (fun t k => XS.iloadN X4.here hx rfl (hb hby at_53) rfl k) ?_
    show own_E p e below _ T4 (mkF m 54 #[iv p1, iv p2, iv p3, rv aOVER, rv aUNDER, iv 1, .unset] [.int p3, .int p2, .ref aOVER])
    obtain ⟨_, _, ⟨T5, L5, k5, n5⟩, -, X5, ⟨Lc5, hQ5, l5, y5, z5⟩, st5⟩ := Jvm.LawKit.callS X4 hx (y := own_y1) hown (mvT hZ (own_w hw 11 rfl)) (mvT hZ (own_w hw 12 rfl)) (mvT hZ (own_w hw 13 rfl)) (mvT hZ (own_w hw 14 rfl)) (by decide) (backOf (W := 0) (own_takes_OVER l Z a0 hw [] aOVER aUNDER p2 p3 h0 n0 Z0 S_OVER S_UNDER E_OVER E_UNDER ne_OVER_UNDER) hZ (own_w hw 14 rfl) (own_w hw 13 rfl) (by decide) (by decide)) (g := (mkF m 54 #[iv p1, iv p2, iv p3, rv aOVER, rv aUNDER, iv 1, .unset] [.int p3, .int p2, .ref aOVER])) rfl (by rw [hml]; rfl) (argsL := [(.ref aOVER), (.int p2), (.int p3)]) (rest := []) (lenOf own_pd_2 rfl) rfl (by show 2 * 0 + _ ≤ _; exact Nat.le_of_eq rfl) (hb hby at_54) (fun _ _ => ⟨rfl, e4, (by decide : 0 + 0 ≤ _), (by decide : 0 + 0 ≤ _)⟩)
    dsimp only [Pt.U, Pt.locs, Pt.cells, Pt.slots] at X5 l5 y5 z5 st5 hQ5
    subst l5 y5 z5
    obtain ⟨hR5, e5, rfl⟩ := hQ5
    rcases hR5 with ⟨rfl, ha5_0⟩ | ⟨rfl, ha5_0⟩
    · refine own_st st5 ?_
      show own_E p e below _ T5 (mkF m 57 #[iv p1, iv p2, iv p3, rv aOVER, rv aUNDER, iv 1, .unset] [.int 0])
      refine own_st (fun t k => XS.ifNo X5.here hx rfl (hb hby at_57) rfl (by decide) k) ?_
      show own_E p e below _ T5 (mkF m 60 #[iv p1, iv p2, iv p3, rv aOVER, rv aUNDER, iv 1, .unset] [])
      refine own_st (fun t k => XS.iconst X5.here hx rfl (hb hby at_60) k) ?_
      show own_E p e below _ T5 (mkF m 61 #[iv p1, iv p2, iv p3, rv aOVER, rv aUNDER, iv 1, .unset] [.int 1])
      refine own_st (fun t k => XS.goto X5.here hx rfl (pc0 := 61) (pc' := 65) rfl (hb hby at_61) (by decide) (by decide) k) ?_
      show own_E p e below _ T5 (mkF m 65 #[iv p1, iv p2, iv p3, rv aOVER, rv aUNDER, iv 1, .unset] [.int 1])
      refine own_st (fun t k => XS.aload X5.here hx rfl (hb hby at_65) rfl rfl k) ?_
      show own_E p e below _ T5 (mkF m 67 #[iv p1, iv p2, iv p3, rv aOVER, rv aUNDER, iv 1, .unset] [.ref aUNDER, .int 1])
      refine own_st (fun t k => XS.iloadN X5.here hx rfl (hb hby at_67) rfl k) ?_
      show own_E p e below _ T5 (mkF m 68 #[iv p1, iv p2, iv p3, rv aOVER, rv aUNDER, iv 1, .unset] [.int p2, .ref aUNDER, .int 1])
      refine own_st (fun t k => XS.iloadN X5.here hx rfl (hb hby at_68) rfl k) ?_
      show own_E p e below _ T5 (mkF m 69 #[iv p1, iv p2, iv p3, rv aOVER, rv aUNDER, iv 1, .unset] [.int p3, .int p2, .ref aUNDER, .int 1])
      refine own_st (fun t k => XS.iconst X5.here hx rfl (hb hby at_69) k) ?_
      show own_E p e below _ T5 (mkF m 70 #[iv p1, iv p2, iv p3, rv aOVER, rv aUNDER, iv 1, .unset] [.int (-1), .int p3, .int p2, .ref aUNDER, .int 1])
      refine own_st (fun t k => XS.ixor X5.here hx rfl (hb hby at_70) rfl k) ?_
      show own_E p e below _ T5 (mkF m 71 #[iv p1, iv p2, iv p3, rv aOVER, rv aUNDER, iv 1, .unset] [.int (p3 ^^^ (-1 : Int32)), .int p2, .ref aUNDER, .int 1])
      obtain ⟨_, _, ⟨T6, L6, k6, n6⟩, -, X6, ⟨Lc6, hQ6, l6, y6, z6⟩, st6⟩ := Jvm.LawKit.callS X5 hx (y := own_y1) hown (mvT hZ (own_w hw 11 rfl)) (mvT hZ (own_w hw 12 rfl)) (mvT hZ (own_w hw 13 rfl)) (mvT hZ (own_w hw 14 rfl)) (by decide) (backOf (W := 1) (own_takes_UNDER l Z a0 hw [] aOVER aUNDER p2 (p3 ^^^ (-1 : Int32)) h0 n0 Z0 S_OVER S_UNDER E_OVER E_UNDER ne_OVER_UNDER) hZ (own_w hw 14 rfl) (own_w hw 13 rfl) (by decide) (by decide)) (g := (mkF m 71 #[iv p1, iv p2, iv p3, rv aOVER, rv aUNDER, iv 1, .unset] [.int (p3 ^^^ (-1 : Int32)), .int p2, .ref aUNDER, .int 1])) rfl (by rw [hml]; rfl) (argsL := [(.ref aUNDER), (.int p2), (.int (p3 ^^^ (-1 : Int32)))]) (rest := [(.int (1 : Int32))]) (lenOf own_pd_2 rfl) rfl (by show 2 * 0 + _ ≤ _; exact Nat.le_of_eq rfl) (hb hby at_71) (fun _ _ => ⟨rfl, e5, (by decide : 0 + 0 ≤ _), (by decide : 0 + 0 ≤ _)⟩)
      dsimp only [Pt.U, Pt.locs, Pt.cells, Pt.slots] at X6 l6 y6 z6 st6 hQ6
      subst l6 y6 z6
      obtain ⟨hR6, e6, rfl⟩ := hQ6
      rcases hR6 with ⟨rfl, ha6_0⟩ | ⟨rfl, ha6_0⟩
      · refine own_st st6 ?_
        show own_E p e below _ T6 (mkF m 74 #[iv p1, iv p2, iv p3, rv aOVER, rv aUNDER, iv 1, .unset] [.int 1, .int 1])
        refine own_st (fun t k => XS.icmpNo X6.here hx rfl (hb hby at_74) rfl (by decide) k) ?_
        show own_E p e below _ T6 (mkF m 77 #[iv p1, iv p2, iv p3, rv aOVER, rv aUNDER, iv 1, .unset] [])
        refine own_st (fun t k => XS.iconst X6.here hx rfl (hb hby at_77) k) ?_
        show own_E p e below _ T6 (mkF m 78 #[iv p1, iv p2, iv p3, rv aOVER, rv aUNDER, iv 1, .unset] [.int 1])
        refine own_st (fun t k => XS.goto X6.here hx rfl (pc0 := 78) (pc' := 82) rfl (hb hby at_78) (by decide) (by decide) k) ?_
        show own_E p e below _ T6 (mkF m 82 #[iv p1, iv p2, iv p3, rv aOVER, rv aUNDER, iv 1, .unset] [.int 1])
        refine own_st (fun t k => XS.istore X6.here hx rfl (hb hby at_82) rfl (l' := #[iv p1, iv p2, iv p3, rv aOVER, rv aUNDER, iv 1, iv 1]) rfl k) ?_
        show own_E p e below _ T6 (mkF m 84 #[iv p1, iv p2, iv p3, rv aOVER, rv aUNDER, iv 1, iv 1] [])
        refine own_st (fun t k => XS.iload X6.here hx rfl (hb hby at_84) rfl k) ?_
        show own_E p e below _ T6 (mkF m 86 #[iv p1, iv p2, iv p3, rv aOVER, rv aUNDER, iv 1, iv 1] [.int 1])
        refine own_st (fun t k => XS.ifNo X6.here hx rfl (hb hby at_86) rfl (by decide) k) ?_
        show own_E p e below _ T6 (mkF m 89 #[iv p1, iv p2, iv p3, rv aOVER, rv aUNDER, iv 1, iv 1] [])
        refine own_st (fun t k => XS.iload X6.here hx rfl (hb hby at_89) rfl k) ?_
        show own_E p e below _ T6 (mkF m 91 #[iv p1, iv p2, iv p3, rv aOVER, rv aUNDER, iv 1, iv 1] [.int 1])
        refine own_st (fun t k => XS.ifNo X6.here hx rfl (hb hby at_91) rfl (by decide) k) ?_
        show own_E p e below _ T6 (mkF m 94 #[iv p1, iv p2, iv p3, rv aOVER, rv aUNDER, iv 1, iv 1] [])
        refine own_st (fun t k => XS.iconst X6.here hx rfl (hb hby at_94) k) ?_
        show own_E p e below _ T6 (mkF m 95 #[iv p1, iv p2, iv p3, rv aOVER, rv aUNDER, iv 1, iv 1] [.int 1])
        refine own_st (fun t k => XS.goto X6.here hx rfl (pc0 := 95) (pc' := 99) rfl (hb hby at_95) (by decide) (by decide) k) ?_
        show own_E p e below _ T6 (mkF m 99 #[iv p1, iv p2, iv p3, rv aOVER, rv aUNDER, iv 1, iv 1] [.int 1])
        refine own_retS X6 hx Bd.notSynchronized Bd.returns rfl (by decide) (hb hby at_99) (by decide) (by decide) ?_
        exact ⟨rfl, fun y hy => by simp at hy⟩
      · refine own_st st6 ?_
        show own_E p e below _ T6 (mkF m 74 #[iv p1, iv p2, iv p3, rv aOVER, rv aUNDER, iv 1, .unset] [.int 0, .int 1])
        refine own_st (fun t k => XS.icmpYes X6.here hx rfl (pc0 := 74) (pc' := 81) rfl (hb hby at_74) rfl (by decide) (by decide) (by decide) k) ?_
        show own_E p e below _ T6 (mkF m 81 #[iv p1, iv p2, iv p3, rv aOVER, rv aUNDER, iv 1, .unset] [])
        refine own_st (fun t k => XS.iconst X6.here hx rfl (hb hby at_81) k) ?_
        show own_E p e below _ T6 (mkF m 82 #[iv p1, iv p2, iv p3, rv aOVER, rv aUNDER, iv 1, .unset] [.int 0])
        refine own_st (fun t k => XS.istore X6.here hx rfl (hb hby at_82) rfl (l' := #[iv p1, iv p2, iv p3, rv aOVER, rv aUNDER, iv 1, iv 0]) rfl k) ?_
        show own_E p e below _ T6 (mkF m 84 #[iv p1, iv p2, iv p3, rv aOVER, rv aUNDER, iv 1, iv 0] [])
        refine own_st (fun t k => XS.iload X6.here hx rfl (hb hby at_84) rfl k) ?_
        show own_E p e below _ T6 (mkF m 86 #[iv p1, iv p2, iv p3, rv aOVER, rv aUNDER, iv 1, iv 0] [.int 1])
        refine own_st (fun t k => XS.ifNo X6.here hx rfl (hb hby at_86) rfl (by decide) k) ?_
        show own_E p e below _ T6 (mkF m 89 #[iv p1, iv p2, iv p3, rv aOVER, rv aUNDER, iv 1, iv 0] [])
        refine own_st (fun t k => XS.iload X6.here hx rfl (hb hby at_89) rfl k) ?_
        show own_E p e below _ T6 (mkF m 91 #[iv p1, iv p2, iv p3, rv aOVER, rv aUNDER, iv 1, iv 0] [.int 0])
        refine own_st (fun t k => XS.ifYes X6.here hx rfl (pc0 := 91) (pc' := 98) rfl (hb hby at_91) rfl (by decide) (by decide) (by decide) k) ?_
        show own_E p e below _ T6 (mkF m 98 #[iv p1, iv p2, iv p3, rv aOVER, rv aUNDER, iv 1, iv 0] [])
        refine own_st (fun t k => XS.iconst X6.here hx rfl (hb hby at_98) k) ?_
        show own_E p e below _ T6 (mkF m 99 #[iv p1, iv p2, iv p3, rv aOVER, rv aUNDER, iv 1, iv 0] [.int 0])
        refine own_retS X6 hx Bd.notSynchronized Bd.returns rfl (by decide) (hb hby at_99) (by decide) (by decide) ?_
        exfalso
        simp only [own_xx] at hc1 ha5_0 ha6_0
        simp_all
    · refine own_st st5 ?_
      show own_E p e below _ T5 (mkF m 57 #[iv p1, iv p2, iv p3, rv aOVER, rv aUNDER, iv 1, .unset] [.int 1])
      refine own_st (fun t k => XS.ifYes X5.here hx rfl (pc0 := 57) (pc' := 64) rfl (hb hby at_57) rfl (by decide) (by decide) (by decide) k) ?_
      show own_E p e below _ T5 (mkF m 64 #[iv p1, iv p2, iv p3, rv aOVER, rv aUNDER, iv 1, .unset] [])
      refine own_st (fun t k => XS.iconst X5.here hx rfl (hb hby at_64) k) ?_
      show own_E p e below _ T5 (mkF m 65 #[iv p1, iv p2, iv p3, rv aOVER, rv aUNDER, iv 1, .unset] [.int 0])
      refine own_st (fun t k => XS.aload X5.here hx rfl (hb hby at_65) rfl rfl k) ?_
      show own_E p e below _ T5 (mkF m 67 #[iv p1, iv p2, iv p3, rv aOVER, rv aUNDER, iv 1, .unset] [.ref aUNDER, .int 0])
      refine own_st (fun t k => XS.iloadN X5.here hx rfl (hb hby at_67) rfl k) ?_
      show own_E p e below _ T5 (mkF m 68 #[iv p1, iv p2, iv p3, rv aOVER, rv aUNDER, iv 1, .unset] [.int p2, .ref aUNDER, .int 0])
      refine own_st (fun t k => XS.iloadN X5.here hx rfl (hb hby at_68) rfl k) ?_
      show own_E p e below _ T5 (mkF m 69 #[iv p1, iv p2, iv p3, rv aOVER, rv aUNDER, iv 1, .unset] [.int p3, .int p2, .ref aUNDER, .int 0])
      refine own_st (fun t k => XS.iconst X5.here hx rfl (hb hby at_69) k) ?_
      show own_E p e below _ T5 (mkF m 70 #[iv p1, iv p2, iv p3, rv aOVER, rv aUNDER, iv 1, .unset] [.int (-1), .int p3, .int p2, .ref aUNDER, .int 0])
      refine own_st (fun t k => XS.ixor X5.here hx rfl (hb hby at_70) rfl k) ?_
      show own_E p e below _ T5 (mkF m 71 #[iv p1, iv p2, iv p3, rv aOVER, rv aUNDER, iv 1, .unset] [.int (p3 ^^^ (-1 : Int32)), .int p2, .ref aUNDER, .int 0])
      obtain ⟨_, _, ⟨T7, L7, k7, n7⟩, -, X7, ⟨Lc7, hQ7, l7, y7, z7⟩, st7⟩ := Jvm.LawKit.callS X5 hx (y := own_y1) hown (mvT hZ (own_w hw 11 rfl)) (mvT hZ (own_w hw 12 rfl)) (mvT hZ (own_w hw 13 rfl)) (mvT hZ (own_w hw 14 rfl)) (by decide) (backOf (W := 1) (own_takes_UNDER l Z a0 hw [] aOVER aUNDER p2 (p3 ^^^ (-1 : Int32)) h0 n0 Z0 S_OVER S_UNDER E_OVER E_UNDER ne_OVER_UNDER) hZ (own_w hw 14 rfl) (own_w hw 13 rfl) (by decide) (by decide)) (g := (mkF m 71 #[iv p1, iv p2, iv p3, rv aOVER, rv aUNDER, iv 1, .unset] [.int (p3 ^^^ (-1 : Int32)), .int p2, .ref aUNDER, .int 0])) rfl (by rw [hml]; rfl) (argsL := [(.ref aUNDER), (.int p2), (.int (p3 ^^^ (-1 : Int32)))]) (rest := [(.int (0 : Int32))]) (lenOf own_pd_2 rfl) rfl (by show 2 * 0 + _ ≤ _; exact Nat.le_of_eq rfl) (hb hby at_71) (fun _ _ => ⟨rfl, e5, (by decide : 0 + 0 ≤ _), (by decide : 0 + 0 ≤ _)⟩)
      dsimp only [Pt.U, Pt.locs, Pt.cells, Pt.slots] at X7 l7 y7 z7 st7 hQ7
      subst l7 y7 z7
      obtain ⟨hR7, e7, rfl⟩ := hQ7
      rcases hR7 with ⟨rfl, ha7_0⟩ | ⟨rfl, ha7_0⟩
      · refine own_st st7 ?_
        show own_E p e below _ T7 (mkF m 74 #[iv p1, iv p2, iv p3, rv aOVER, rv aUNDER, iv 1, .unset] [.int 1, .int 0])
        refine own_st (fun t k => XS.icmpYes X7.here hx rfl (pc0 := 74) (pc' := 81) rfl (hb hby at_74) rfl (by decide) (by decide) (by decide) k) ?_
        show own_E p e below _ T7 (mkF m 81 #[iv p1, iv p2, iv p3, rv aOVER, rv aUNDER, iv 1, .unset] [])
        refine own_st (fun t k => XS.iconst X7.here hx rfl (hb hby at_81) k) ?_
        show own_E p e below _ T7 (mkF m 82 #[iv p1, iv p2, iv p3, rv aOVER, rv aUNDER, iv 1, .unset] [.int 0])
        refine own_st (fun t k => XS.istore X7.here hx rfl (hb hby at_82) rfl (l' := #[iv p1, iv p2, iv p3, rv aOVER, rv aUNDER, iv 1, iv 0]) rfl k) ?_
        show own_E p e below _ T7 (mkF m 84 #[iv p1, iv p2, iv p3, rv aOVER, rv aUNDER, iv 1, iv 0] [])
        refine own_st (fun t k => XS.iload X7.here hx rfl (hb hby at_84) rfl k) ?_
        show own_E p e below _ T7 (mkF m 86 #[iv p1, iv p2, iv p3, rv aOVER, rv aUNDER, iv 1, iv 0] [.int 1])
        refine own_st (fun t k => XS.ifNo X7.here hx rfl (hb hby at_86) rfl (by decide) k) ?_
        show own_E p e below _ T7 (mkF m 89 #[iv p1, iv p2, iv p3, rv aOVER, rv aUNDER, iv 1, iv 0] [])
        refine own_st (fun t k => XS.iload X7.here hx rfl (hb hby at_89) rfl k) ?_
        show own_E p e below _ T7 (mkF m 91 #[iv p1, iv p2, iv p3, rv aOVER, rv aUNDER, iv 1, iv 0] [.int 0])
        refine own_st (fun t k => XS.ifYes X7.here hx rfl (pc0 := 91) (pc' := 98) rfl (hb hby at_91) rfl (by decide) (by decide) (by decide) k) ?_
        show own_E p e below _ T7 (mkF m 98 #[iv p1, iv p2, iv p3, rv aOVER, rv aUNDER, iv 1, iv 0] [])
        refine own_st (fun t k => XS.iconst X7.here hx rfl (hb hby at_98) k) ?_
        show own_E p e below _ T7 (mkF m 99 #[iv p1, iv p2, iv p3, rv aOVER, rv aUNDER, iv 1, iv 0] [.int 0])
        refine own_retS X7 hx Bd.notSynchronized Bd.returns rfl (by decide) (hb hby at_99) (by decide) (by decide) ?_
        exfalso
        simp only [own_xx] at hc1 ha5_0 ha7_0
        simp_all
      · refine own_st st7 ?_
        show own_E p e below _ T7 (mkF m 74 #[iv p1, iv p2, iv p3, rv aOVER, rv aUNDER, iv 1, .unset] [.int 0, .int 0])
        refine own_st (fun t k => XS.icmpNo X7.here hx rfl (hb hby at_74) rfl (by decide) k) ?_
        show own_E p e below _ T7 (mkF m 77 #[iv p1, iv p2, iv p3, rv aOVER, rv aUNDER, iv 1, .unset] [])
        refine own_st (fun t k => XS.iconst X7.here hx rfl (hb hby at_77) k) ?_
        show own_E p e below _ T7 (mkF m 78 #[iv p1, iv p2, iv p3, rv aOVER, rv aUNDER, iv 1, .unset] [.int 1])
        refine own_st (fun t k => XS.goto X7.here hx rfl (pc0 := 78) (pc' := 82) rfl (hb hby at_78) (by decide) (by decide) k) ?_
        show own_E p e below _ T7 (mkF m 82 #[iv p1, iv p2, iv p3, rv aOVER, rv aUNDER, iv 1, .unset] [.int 1])
        refine own_st (fun t k => XS.istore X7.here hx rfl (hb hby at_82) rfl (l' := #[iv p1, iv p2, iv p3, rv aOVER, rv aUNDER, iv 1, iv 1]) rfl k) ?_
        show own_E p e below _ T7 (mkF m 84 #[iv p1, iv p2, iv p3, rv aOVER, rv aUNDER, iv 1, iv 1] [])
        refine own_st (fun t k => XS.iload X7.here hx rfl (hb hby at_84) rfl k) ?_
        show own_E p e below _ T7 (mkF m 86 #[iv p1, iv p2, iv p3, rv aOVER, rv aUNDER, iv 1, iv 1] [.int 1])
        refine own_st (fun t k => XS.ifNo X7.here hx rfl (hb hby at_86) rfl (by decide) k) ?_
        show own_E p e below _ T7 (mkF m 89 #[iv p1, iv p2, iv p3, rv aOVER, rv aUNDER, iv 1, iv 1] [])
        refine own_st (fun t k => XS.iload X7.here hx rfl (hb hby at_89) rfl k) ?_
        show own_E p e below _ T7 (mkF m 91 #[iv p1, iv p2, iv p3, rv aOVER, rv aUNDER, iv 1, iv 1] [.int 1])
        refine own_st (fun t k => XS.ifNo X7.here hx rfl (hb hby at_91) rfl (by decide) k) ?_
        show own_E p e below _ T7 (mkF m 94 #[iv p1, iv p2, iv p3, rv aOVER, rv aUNDER, iv 1, iv 1] [])
        refine own_st (fun t k => XS.iconst X7.here hx rfl (hb hby at_94) k) ?_
        show own_E p e below _ T7 (mkF m 95 #[iv p1, iv p2, iv p3, rv aOVER, rv aUNDER, iv 1, iv 1] [.int 1])
        refine own_st (fun t k => XS.goto X7.here hx rfl (pc0 := 95) (pc' := 99) rfl (hb hby at_95) (by decide) (by decide) k) ?_
        show own_E p e below _ T7 (mkF m 99 #[iv p1, iv p2, iv p3, rv aOVER, rv aUNDER, iv 1, iv 1] [.int 1])
        refine own_retS X7 hx Bd.notSynchronized Bd.returns rfl (by decide) (hb hby at_99) (by decide) (by decide) ?_
        exact ⟨rfl, fun y hy => by simp at hy⟩
  · refine own_st (fun t k => XS.ifNo X0.here hx rfl (hb hby at_3) rfl ((if0 _ _).trans (feq hc1).1) k) ?_
    show own_E p e below _ s₁ (mkF m 6 #[iv p1, iv p2, iv p3, .unset, .unset, .unset, .unset] [])
    obtain ⟨T8, X8, e8, st8⟩ := getS2 X0 hx hZ hown (host := "") (Or.inl (own_w hw 15 rfl)) Via.refl e0 S_UNDER (g := (mkF m 6 #[iv p1, iv p2, iv p3, .unset, .unset, .unset, .unset] [])) rfl (hb hby at_6)
    refine own_st st8 ?_
    show own_E p e below _ T8 (mkF m 9 #[iv p1, iv p2, iv p3, .unset, .unset, .unset, .unset] [.ref aUNDER])
    refine own_st (fun t k => XS.goto X8.here hx rfl (pc0 := 9) (pc' := 15) rfl (hb hby at_9) (by decide) (by decide) k) ?_
    show own_E p e below _ T8 (mkF m 15 #[iv p1, iv p2, iv p3, .unset, .unset, .unset, .unset] [.ref aUNDER])
    refine own_st (fun t k => XS.astoreN X8.here hx rfl (hb hby at_15) rfl rfl (l' := #[iv p1, iv p2, iv p3, rv aUNDER, .unset, .unset, .unset]) rfl k) ?_
    show own_E p e below _ T8 (mkF m 16 #[iv p1, iv p2, iv p3, rv aUNDER, .unset, .unset, .unset] [])
    refine own_st (fun t k => XS.aloadN X8.here hx rfl (hb hby at_16) rfl rfl k) ?_
    show own_E p e below _ T8 (mkF m 17 #[iv p1, iv p2, iv p3, rv aUNDER, .unset, .unset, .unset] [.ref aUNDER])
    obtain ⟨cq9, kq9, q9a, q9b, q9c⟩ := isOf hZ e8 E_UNDER
    obtain ⟨_, _, ⟨T9, L9, k9, n9⟩, -, X9, ⟨Lc9, hQ9, l9, y9, z9⟩, st9⟩ := X8.virtualBack hx (y := own_y0) (z := own_y0) hown (mvT hZ (own_w hw 3 rfl)) (mvT hZ (own_w hw 4 rfl)) (notFace_of_selects (args := #[]) (mvT hZ (own_w hw 6 rfl))) (mvT hZ (own_w hw 6 rfl)) (mvT hZ (own_w hw 5 rfl)) (by decide) (backOf (W := 0) (own_dual_UNDER l Z a0 hw [] aOVER aUNDER h0 n0 Z0 S_OVER S_UNDER E_OVER E_UNDER ne_OVER_UNDER) hZ (own_w hw 7 rfl) (own_w hw 1 rfl) (by decide) (by decide)) q9a q9c (g := (mkF m 17 #[iv p1, iv p2, iv p3, rv aUNDER, .unset, .unset, .unset] [.ref aUNDER])) rfl (by rw [hml]; rfl) (Steps.refl _) (argsL := []) (rest := []) (lenOf own_pd_0 rfl) rfl (by show 2 * 0 + _ ≤ _; exact Nat.le_of_eq rfl) (hb hby at_17) (fun _ _ => ⟨rfl, e8, (by decide : 0 + 0 ≤ _), (by decide : 0 + 0 ≤ _)⟩)
    dsimp only [Pt.U, Pt.locs, Pt.cells, Pt.slots] at X9 l9 y9 z9 st9 hQ9
    subst l9 y9 z9
    obtain ⟨hR9, e9, rfl⟩ := hQ9
    obtain rfl := hR9
    refine own_tr st9 ?_
    show own_E p e below _ T9 (mkF m 20 #[iv p1, iv p2, iv p3, rv aUNDER, .unset, .unset, .unset] [.ref aOVER])
    refine own_st (fun t k => XS.astore X9.here hx rfl (hb hby at_20) rfl rfl (l' := #[iv p1, iv p2, iv p3, rv aUNDER, rv aOVER, .unset, .unset]) rfl k) ?_
    show own_E p e below _ T9 (mkF m 22 #[iv p1, iv p2, iv p3, rv aUNDER, rv aOVER, .unset, .unset] [])
    refine own_st (fun t k => XS.aload X9.here hx rfl (hb hby at_22) rfl rfl k) ?_
    show own_E p e below _ T9 (mkF m 24 #[iv p1, iv p2, iv p3, rv aUNDER, rv aOVER, .unset, .unset] [.ref aOVER])
    refine own_st (fun t k => XS.ifnonnullYes X9.here hx rfl (pc0 := 24) (pc' := 29) rfl (hb hby at_24) rfl (by decide) (by decide) k) ?_
    show own_E p e below _ T9 (mkF m 29 #[iv p1, iv p2, iv p3, rv aUNDER, rv aOVER, .unset, .unset] [])
    refine own_st (fun t k => XS.aload X9.here hx rfl (hb hby at_29) rfl rfl k) ?_
    show own_E p e below _ T9 (mkF m 31 #[iv p1, iv p2, iv p3, rv aUNDER, rv aOVER, .unset, .unset] [.ref aOVER])
    refine own_st (fun t k => XS.aloadN X9.here hx rfl (hb hby at_31) rfl rfl k) ?_
    show own_E p e below _ T9 (mkF m 32 #[iv p1, iv p2, iv p3, rv aUNDER, rv aOVER, .unset, .unset] [.ref aUNDER, .ref aOVER])
    refine own_st (fun t k => Jvm.RoadKit.acmp (g := (mkF m 32 #[iv p1, iv p2, iv p3, rv aUNDER, rv aOVER, .unset, .unset] [.ref aUNDER, .ref aOVER])) X9 hx rfl rfl rfl (pc0 := 32) (pc' := 35) (same := false) rfl (hb hby at_32) rfl (decide_eq_false fun q => ne_OVER_UNDER (Value.ref.inj q)) (by decide) (by decide) k) ?_
    show own_E p e below _ T9 (mkF m 35 #[iv p1, iv p2, iv p3, rv aUNDER, rv aOVER, .unset, .unset] [])
    refine own_st (fun t k => XS.aload X9.here hx rfl (hb hby at_35) rfl rfl k) ?_
    show own_E p e below _ T9 (mkF m 37 #[iv p1, iv p2, iv p3, rv aUNDER, rv aOVER, .unset, .unset] [.ref aOVER])
    obtain ⟨cq10, kq10, q10a, q10b, q10c⟩ := isOf hZ e9 E_OVER
    obtain ⟨_, _, ⟨T10, L10, k10, n10⟩, -, X10, ⟨Lc10, hQ10, l10, y10, z10⟩, st10⟩ := X9.virtualBack hx (y := own_y0) (z := own_y0) hown (mvT hZ (own_w hw 3 rfl)) (mvT hZ (own_w hw 4 rfl)) (notFace_of_selects (args := #[]) (mvT hZ (own_w hw 6 rfl))) (mvT hZ (own_w hw 6 rfl)) (mvT hZ (own_w hw 5 rfl)) (by decide) (backOf (W := 0) (own_dual_OVER l Z a0 hw [] aOVER aUNDER h0 n0 Z0 S_OVER S_UNDER E_OVER E_UNDER ne_OVER_UNDER) hZ (own_w hw 7 rfl) (own_w hw 1 rfl) (by decide) (by decide)) q10a q10c (g := (mkF m 37 #[iv p1, iv p2, iv p3, rv aUNDER, rv aOVER, .unset, .unset] [.ref aOVER])) rfl (by rw [hml]; rfl) (Steps.refl _) (argsL := []) (rest := []) (lenOf own_pd_0 rfl) rfl (by show 2 * 0 + _ ≤ _; exact Nat.le_of_eq rfl) (hb hby at_37) (fun _ _ => ⟨rfl, e9, (by decide : 0 + 0 ≤ _), (by decide : 0 + 0 ≤ _)⟩)
    dsimp only [Pt.U, Pt.locs, Pt.cells, Pt.slots] at X10 l10 y10 z10 st10 hQ10
    subst l10 y10 z10
    obtain ⟨hR10, e10, rfl⟩ := hQ10
    obtain rfl := hR10
    refine own_tr st10 ?_
    show own_E p e below _ T10 (mkF m 40 #[iv p1, iv p2, iv p3, rv aUNDER, rv aOVER, .unset, .unset] [.ref aUNDER])
    refine own_st (fun t k => XS.aloadN X10.here hx rfl (hb hby at_40) rfl rfl k) ?_
    show own_E p e below _ T10 (mkF m 41 #[iv p1, iv p2, iv p3, rv aUNDER, rv aOVER, .unset, .unset] [.ref aUNDER, .ref aUNDER])
    refine own_st (fun t k => Jvm.RoadKit.acmp (g := (mkF m 41 #[iv p1, iv p2, iv p3, rv aUNDER, rv aOVER, .unset, .unset] [.ref aUNDER, .ref aUNDER])) X10 hx rfl rfl rfl (pc0 := 41) (pc' := 44) (same := true) rfl (hb hby at_41) rfl (decide_eq_true rfl) (by decide) (by decide) k) ?_
    show own_E p e below _ T10 (mkF m 44 #[iv p1, iv p2, iv p3, rv aUNDER, rv aOVER, .unset, .unset] [])
    refine own_st (fun t k => XS.iconst X10.here hx rfl (hb hby at_44) k) ?_
    show own_E p e below _ T10 (mkF m 45 #[iv p1, iv p2, iv p3, rv aUNDER, rv aOVER, .unset, .unset] [.int 1])
    refine own_st (fun t k => XS.goto X10.here hx rfl (pc0 := 45) (pc' := 49) rfl (hb hby at_45) (by decide) (by decide) k) ?_
    show own_E p e below _ T10 (mkF m 49 #[iv p1, iv p2, iv p3, rv aUNDER, rv aOVER, .unset, .unset] [.int 1])
    refine own_st (fun t k => XS.istore X10.here hx rfl (hb hby at_49) rfl (l' := #[iv p1, iv p2, iv p3, rv aUNDER, rv aOVER, iv 1, .unset]) rfl k) ?_
    show own_E p e below _ T10 (mkF m 51 #[iv p1, iv p2, iv p3, rv aUNDER, rv aOVER, iv 1, .unset] [])
    refine own_st (fun t k => XS.aloadN X10.here hx rfl (hb hby at_51) rfl rfl k) ?_
    show own_E p e below _ T10 (mkF m 52 #[iv p1, iv p2, iv p3, rv aUNDER, rv aOVER, iv 1, .unset] [.ref aUNDER])
    refine own_st (fun t k => XS.iloadN X10.here hx rfl (hb hby at_52) rfl k) ?_
    show own_E p e below _ T10 (mkF m 53 #[iv p1, iv p2, iv p3, rv aUNDER, rv aOVER, iv 1, .unset] [.int p2, .ref aUNDER])
    refine own_st (fun t k => XS.iloadN X10.here hx rfl (hb hby at_53) rfl k) ?_
    show own_E p e below _ T10 (mkF m 54 #[iv p1, iv p2, iv p3, rv aUNDER, rv aOVER, iv 1, .unset] [.int p3, .int p2, .ref aUNDER])
    obtain ⟨_, _, ⟨T11, L11, k11, n11⟩, -, X11, ⟨Lc11, hQ11, l11, y11, z11⟩, st11⟩ := Jvm.LawKit.callS X10 hx (y := own_y1) hown (mvT hZ (own_w hw 11 rfl)) (mvT hZ (own_w hw 12 rfl)) (mvT hZ (own_w hw 13 rfl)) (mvT hZ (own_w hw 14 rfl)) (by decide) (backOf (W := 0) (own_takes_UNDER l Z a0 hw [] aOVER aUNDER p2 p3 h0 n0 Z0 S_OVER S_UNDER E_OVER E_UNDER ne_OVER_UNDER) hZ (own_w hw 14 rfl) (own_w hw 13 rfl) (by decide) (by decide)) (g := (mkF m 54 #[iv p1, iv p2, iv p3, rv aUNDER, rv aOVER, iv 1, .unset] [.int p3, .int p2, .ref aUNDER])) rfl (by rw [hml]; rfl) (argsL := [(.ref aUNDER), (.int p2), (.int p3)]) (rest := []) (lenOf own_pd_2 rfl) rfl (by show 2 * 0 + _ ≤ _; exact Nat.le_of_eq rfl) (hb hby at_54) (fun _ _ => ⟨rfl, e10, (by decide : 0 + 0 ≤ _), (by decide : 0 + 0 ≤ _)⟩)
    dsimp only [Pt.U, Pt.locs, Pt.cells, Pt.slots] at X11 l11 y11 z11 st11 hQ11
    subst l11 y11 z11
    obtain ⟨hR11, e11, rfl⟩ := hQ11
    rcases hR11 with ⟨rfl, ha11_0⟩ | ⟨rfl, ha11_0⟩
    · refine own_st st11 ?_
      show own_E p e below _ T11 (mkF m 57 #[iv p1, iv p2, iv p3, rv aUNDER, rv aOVER, iv 1, .unset] [.int 1])
      refine own_st (fun t k => XS.ifYes X11.here hx rfl (pc0 := 57) (pc' := 64) rfl (hb hby at_57) rfl (by decide) (by decide) (by decide) k) ?_
      show own_E p e below _ T11 (mkF m 64 #[iv p1, iv p2, iv p3, rv aUNDER, rv aOVER, iv 1, .unset] [])
      refine own_st (fun t k => XS.iconst X11.here hx rfl (hb hby at_64) k) ?_
      show own_E p e below _ T11 (mkF m 65 #[iv p1, iv p2, iv p3, rv aUNDER, rv aOVER, iv 1, .unset] [.int 0])
      refine own_st (fun t k => XS.aload X11.here hx rfl (hb hby at_65) rfl rfl k) ?_
      show own_E p e below _ T11 (mkF m 67 #[iv p1, iv p2, iv p3, rv aUNDER, rv aOVER, iv 1, .unset] [.ref aOVER, .int 0])
      refine own_st (fun t k => XS.iloadN X11.here hx rfl (hb hby at_67) rfl k) ?_
      show own_E p e below _ T11 (mkF m 68 #[iv p1, iv p2, iv p3, rv aUNDER, rv aOVER, iv 1, .unset] [.int p2, .ref aOVER, .int 0])
      refine own_st (fun t k => XS.iloadN X11.here hx rfl (hb hby at_68) rfl k) ?_
      show own_E p e below _ T11 (mkF m 69 #[iv p1, iv p2, iv p3, rv aUNDER, rv aOVER, iv 1, .unset] [.int p3, .int p2, .ref aOVER, .int 0])
      refine own_st (fun t k => XS.iconst X11.here hx rfl (hb hby at_69) k) ?_
      show own_E p e below _ T11 (mkF m 70 #[iv p1, iv p2, iv p3, rv aUNDER, rv aOVER, iv 1, .unset] [.int (-1), .int p3, .int p2, .ref aOVER, .int 0])
      refine own_st (fun t k => XS.ixor X11.here hx rfl (hb hby at_70) rfl k) ?_
      show own_E p e below _ T11 (mkF m 71 #[iv p1, iv p2, iv p3, rv aUNDER, rv aOVER, iv 1, .unset] [.int (p3 ^^^ (-1 : Int32)), .int p2, .ref aOVER, .int 0])
      obtain ⟨_, _, ⟨T12, L12, k12, n12⟩, -, X12, ⟨Lc12, hQ12, l12, y12, z12⟩, st12⟩ := Jvm.LawKit.callS X11 hx (y := own_y1) hown (mvT hZ (own_w hw 11 rfl)) (mvT hZ (own_w hw 12 rfl)) (mvT hZ (own_w hw 13 rfl)) (mvT hZ (own_w hw 14 rfl)) (by decide) (backOf (W := 1) (own_takes_OVER l Z a0 hw [] aOVER aUNDER p2 (p3 ^^^ (-1 : Int32)) h0 n0 Z0 S_OVER S_UNDER E_OVER E_UNDER ne_OVER_UNDER) hZ (own_w hw 14 rfl) (own_w hw 13 rfl) (by decide) (by decide)) (g := (mkF m 71 #[iv p1, iv p2, iv p3, rv aUNDER, rv aOVER, iv 1, .unset] [.int (p3 ^^^ (-1 : Int32)), .int p2, .ref aOVER, .int 0])) rfl (by rw [hml]; rfl) (argsL := [(.ref aOVER), (.int p2), (.int (p3 ^^^ (-1 : Int32)))]) (rest := [(.int (0 : Int32))]) (lenOf own_pd_2 rfl) rfl (by show 2 * 0 + _ ≤ _; exact Nat.le_of_eq rfl) (hb hby at_71) (fun _ _ => ⟨rfl, e11, (by decide : 0 + 0 ≤ _), (by decide : 0 + 0 ≤ _)⟩)
      dsimp only [Pt.U, Pt.locs, Pt.cells, Pt.slots] at X12 l12 y12 z12 st12 hQ12
      subst l12 y12 z12
      obtain ⟨hR12, e12, rfl⟩ := hQ12
      rcases hR12 with ⟨rfl, ha12_0⟩ | ⟨rfl, ha12_0⟩
      · refine own_st st12 ?_
        show own_E p e below _ T12 (mkF m 74 #[iv p1, iv p2, iv p3, rv aUNDER, rv aOVER, iv 1, .unset] [.int 0, .int 0])
        refine own_st (fun t k => XS.icmpNo X12.here hx rfl (hb hby at_74) rfl (by decide) k) ?_
        show own_E p e below _ T12 (mkF m 77 #[iv p1, iv p2, iv p3, rv aUNDER, rv aOVER, iv 1, .unset] [])
        refine own_st (fun t k => XS.iconst X12.here hx rfl (hb hby at_77) k) ?_
        show own_E p e below _ T12 (mkF m 78 #[iv p1, iv p2, iv p3, rv aUNDER, rv aOVER, iv 1, .unset] [.int 1])
        refine own_st (fun t k => XS.goto X12.here hx rfl (pc0 := 78) (pc' := 82) rfl (hb hby at_78) (by decide) (by decide) k) ?_
        show own_E p e below _ T12 (mkF m 82 #[iv p1, iv p2, iv p3, rv aUNDER, rv aOVER, iv 1, .unset] [.int 1])
        refine own_st (fun t k => XS.istore X12.here hx rfl (hb hby at_82) rfl (l' := #[iv p1, iv p2, iv p3, rv aUNDER, rv aOVER, iv 1, iv 1]) rfl k) ?_
        show own_E p e below _ T12 (mkF m 84 #[iv p1, iv p2, iv p3, rv aUNDER, rv aOVER, iv 1, iv 1] [])
        refine own_st (fun t k => XS.iload X12.here hx rfl (hb hby at_84) rfl k) ?_
        show own_E p e below _ T12 (mkF m 86 #[iv p1, iv p2, iv p3, rv aUNDER, rv aOVER, iv 1, iv 1] [.int 1])
        refine own_st (fun t k => XS.ifNo X12.here hx rfl (hb hby at_86) rfl (by decide) k) ?_
        show own_E p e below _ T12 (mkF m 89 #[iv p1, iv p2, iv p3, rv aUNDER, rv aOVER, iv 1, iv 1] [])
        refine own_st (fun t k => XS.iload X12.here hx rfl (hb hby at_89) rfl k) ?_
        show own_E p e below _ T12 (mkF m 91 #[iv p1, iv p2, iv p3, rv aUNDER, rv aOVER, iv 1, iv 1] [.int 1])
        refine own_st (fun t k => XS.ifNo X12.here hx rfl (hb hby at_91) rfl (by decide) k) ?_
        show own_E p e below _ T12 (mkF m 94 #[iv p1, iv p2, iv p3, rv aUNDER, rv aOVER, iv 1, iv 1] [])
        refine own_st (fun t k => XS.iconst X12.here hx rfl (hb hby at_94) k) ?_
        show own_E p e below _ T12 (mkF m 95 #[iv p1, iv p2, iv p3, rv aUNDER, rv aOVER, iv 1, iv 1] [.int 1])
        refine own_st (fun t k => XS.goto X12.here hx rfl (pc0 := 95) (pc' := 99) rfl (hb hby at_95) (by decide) (by decide) k) ?_
        show own_E p e below _ T12 (mkF m 99 #[iv p1, iv p2, iv p3, rv aUNDER, rv aOVER, iv 1, iv 1] [.int 1])
        refine own_retS X12 hx Bd.notSynchronized Bd.returns rfl (by decide) (hb hby at_99) (by decide) (by decide) ?_
        exact ⟨rfl, fun y hy => by simp at hy⟩
      · exact absurd ha11_0 ha12_0
    · refine own_st st11 ?_
      show own_E p e below _ T11 (mkF m 57 #[iv p1, iv p2, iv p3, rv aUNDER, rv aOVER, iv 1, .unset] [.int 0])
      refine own_st (fun t k => XS.ifNo X11.here hx rfl (hb hby at_57) rfl (by decide) k) ?_
      show own_E p e below _ T11 (mkF m 60 #[iv p1, iv p2, iv p3, rv aUNDER, rv aOVER, iv 1, .unset] [])
      refine own_st (fun t k => XS.iconst X11.here hx rfl (hb hby at_60) k) ?_
      show own_E p e below _ T11 (mkF m 61 #[iv p1, iv p2, iv p3, rv aUNDER, rv aOVER, iv 1, .unset] [.int 1])
      refine own_st (fun t k => XS.goto X11.here hx rfl (pc0 := 61) (pc' := 65) rfl (hb hby at_61) (by decide) (by decide) k) ?_
      show own_E p e below _ T11 (mkF m 65 #[iv p1, iv p2, iv p3, rv aUNDER, rv aOVER, iv 1, .unset] [.int 1])
      refine own_st (fun t k => XS.aload X11.here hx rfl (hb hby at_65) rfl rfl k) ?_
      show own_E p e below _ T11 (mkF m 67 #[iv p1, iv p2, iv p3, rv aUNDER, rv aOVER, iv 1, .unset] [.ref aOVER, .int 1])
      refine own_st (fun t k => XS.iloadN X11.here hx rfl (hb hby at_67) rfl k) ?_
      show own_E p e below _ T11 (mkF m 68 #[iv p1, iv p2, iv p3, rv aUNDER, rv aOVER, iv 1, .unset] [.int p2, .ref aOVER, .int 1])
      refine own_st (fun t k => XS.iloadN X11.here hx rfl (hb hby at_68) rfl k) ?_
      show own_E p e below _ T11 (mkF m 69 #[iv p1, iv p2, iv p3, rv aUNDER, rv aOVER, iv 1, .unset] [.int p3, .int p2, .ref aOVER, .int 1])
      refine own_st (fun t k => XS.iconst X11.here hx rfl (hb hby at_69) k) ?_
      show own_E p e below _ T11 (mkF m 70 #[iv p1, iv p2, iv p3, rv aUNDER, rv aOVER, iv 1, .unset] [.int (-1), .int p3, .int p2, .ref aOVER, .int 1])
      refine own_st (fun t k => XS.ixor X11.here hx rfl (hb hby at_70) rfl k) ?_
      show own_E p e below _ T11 (mkF m 71 #[iv p1, iv p2, iv p3, rv aUNDER, rv aOVER, iv 1, .unset] [.int (p3 ^^^ (-1 : Int32)), .int p2, .ref aOVER, .int 1])
      obtain ⟨_, _, ⟨T13, L13, k13, n13⟩, -, X13, ⟨Lc13, hQ13, l13, y13, z13⟩, st13⟩ := Jvm.LawKit.callS X11 hx (y := own_y1) hown (mvT hZ (own_w hw 11 rfl)) (mvT hZ (own_w hw 12 rfl)) (mvT hZ (own_w hw 13 rfl)) (mvT hZ (own_w hw 14 rfl)) (by decide) (backOf (W := 1) (own_takes_OVER l Z a0 hw [] aOVER aUNDER p2 (p3 ^^^ (-1 : Int32)) h0 n0 Z0 S_OVER S_UNDER E_OVER E_UNDER ne_OVER_UNDER) hZ (own_w hw 14 rfl) (own_w hw 13 rfl) (by decide) (by decide)) (g := (mkF m 71 #[iv p1, iv p2, iv p3, rv aUNDER, rv aOVER, iv 1, .unset] [.int (p3 ^^^ (-1 : Int32)), .int p2, .ref aOVER, .int 1])) rfl (by rw [hml]; rfl) (argsL := [(.ref aOVER), (.int p2), (.int (p3 ^^^ (-1 : Int32)))]) (rest := [(.int (1 : Int32))]) (lenOf own_pd_2 rfl) rfl (by show 2 * 0 + _ ≤ _; exact Nat.le_of_eq rfl) (hb hby at_71) (fun _ _ => ⟨rfl, e11, (by decide : 0 + 0 ≤ _), (by decide : 0 + 0 ≤ _)⟩)
      dsimp only [Pt.U, Pt.locs, Pt.cells, Pt.slots] at X13 l13 y13 z13 st13 hQ13
      subst l13 y13 z13
      obtain ⟨hR13, e13, rfl⟩ := hQ13
      rcases hR13 with ⟨rfl, ha13_0⟩ | ⟨rfl, ha13_0⟩
      · exact absurd ha13_0 ha11_0
      · refine own_st st13 ?_
        show own_E p e below _ T13 (mkF m 74 #[iv p1, iv p2, iv p3, rv aUNDER, rv aOVER, iv 1, .unset] [.int 1, .int 1])
        refine own_st (fun t k => XS.icmpNo X13.here hx rfl (hb hby at_74) rfl (by decide) k) ?_
        show own_E p e below _ T13 (mkF m 77 #[iv p1, iv p2, iv p3, rv aUNDER, rv aOVER, iv 1, .unset] [])
        refine own_st (fun t k => XS.iconst X13.here hx rfl (hb hby at_77) k) ?_
        show own_E p e below _ T13 (mkF m 78 #[iv p1, iv p2, iv p3, rv aUNDER, rv aOVER, iv 1, .unset] [.int 1])
        refine own_st (fun t k => XS.goto X13.here hx rfl (pc0 := 78) (pc' := 82) rfl (hb hby at_78) (by decide) (by decide) k) ?_
        show own_E p e below _ T13 (mkF m 82 #[iv p1, iv p2, iv p3, rv aUNDER, rv aOVER, iv 1, .unset] [.int 1])
        refine own_st (fun t k => XS.istore X13.here hx rfl (hb hby at_82) rfl (l' := #[iv p1, iv p2, iv p3, rv aUNDER, rv aOVER, iv 1, iv 1]) rfl k) ?_
        show own_E p e below _ T13 (mkF m 84 #[iv p1, iv p2, iv p3, rv aUNDER, rv aOVER, iv 1, iv 1] [])
        refine own_st (fun t k => XS.iload X13.here hx rfl (hb hby at_84) rfl k) ?_
        show own_E p e below _ T13 (mkF m 86 #[iv p1, iv p2, iv p3, rv aUNDER, rv aOVER, iv 1, iv 1] [.int 1])
        refine own_st (fun t k => XS.ifNo X13.here hx rfl (hb hby at_86) rfl (by decide) k) ?_
        show own_E p e below _ T13 (mkF m 89 #[iv p1, iv p2, iv p3, rv aUNDER, rv aOVER, iv 1, iv 1] [])
        refine own_st (fun t k => XS.iload X13.here hx rfl (hb hby at_89) rfl k) ?_
        show own_E p e below _ T13 (mkF m 91 #[iv p1, iv p2, iv p3, rv aUNDER, rv aOVER, iv 1, iv 1] [.int 1])
        refine own_st (fun t k => XS.ifNo X13.here hx rfl (hb hby at_91) rfl (by decide) k) ?_
        show own_E p e below _ T13 (mkF m 94 #[iv p1, iv p2, iv p3, rv aUNDER, rv aOVER, iv 1, iv 1] [])
        refine own_st (fun t k => XS.iconst X13.here hx rfl (hb hby at_94) k) ?_
        show own_E p e below _ T13 (mkF m 95 #[iv p1, iv p2, iv p3, rv aUNDER, rv aOVER, iv 1, iv 1] [.int 1])
        refine own_st (fun t k => XS.goto X13.here hx rfl (pc0 := 95) (pc' := 99) rfl (hb hby at_95) (by decide) (by decide) k) ?_
        show own_E p e below _ T13 (mkF m 99 #[iv p1, iv p2, iv p3, rv aUNDER, rv aOVER, iv 1, iv 1] [.int 1])
        refine own_retS X13 hx Bd.notSynchronized Bd.returns rfl (by decide) (hb hby at_99) (by decide) (by decide) ?_
        exact ⟨rfl, fun y hy => by simp at hy⟩
set_option maxRecDepth 65536 in
set_option maxHeartbeats 40000000 in
theorem comes_1 {Post : Tables → Env → Array Value → State → Outcome → State → Prop} (hpost : ∀ tb e args s v u, (limb_1_1.after args s (.returned v) u = true ∧ limb_1_2.after args s (.returned v) u = true ∧ True) → FrameEnd s (.returned v) u (Jvm.fieldLocs frame_1_writes args s ++ Jvm.arrayLocs frame_1_arrays args s ++ Jvm.staticLocs frame_1_statics s) 0 0 → Post tb e args s (.returned v) u) :
    ArmFor flags0 classFile x code maxLocals ret World_1 tables_1 room_1 Calls_1 rest_1 Pre_1 Post := by
  intro l hfl _ _ p e ha hc hk s m args below hf hA hF happ hP
  obtain ⟨hcalls, hrest, hpre⟩ := hP
  obtain ⟨-, -, -, hnamed, -, -, -, hat⟩ := (Spec.applies_iff hf).mp happ
  obtain ⟨hg, hn⟩ := and_e (Cond.before_iff.mp (show (Jvm.Cond.and given_1 narrow_1).before args s = true from hpre))
  obtain ⟨hg0, hg1⟩ := and_e hg
  obtain ⟨hv0, hg2⟩ := and_e hg1
  obtain ⟨hv1, hg3⟩ := and_e hg2
  have hv2 := hg3
  obtain ⟨w0, w1, w2, rfl⟩ : ∃ w0 w1 w2 : Value, args = #[w0, w1, w2] := by
    have hs : args.size = 3 := by simpa [Cond.value, given_1] using hg0
    obtain ⟨L⟩ := args
    match L, hs with
    | [w0, w1, w2], _ => exact ⟨w0, w1, w2, rfl⟩
  have hw := fun d (hd : d ∈ tables_1) => atoms_spec (ws := Jvm.Cond.code x code maxLocals ret :: tables_1) hat d (List.mem_cons_of_mem _ hd)
  have hfit : Fit s := fun {y c} hc i hi => by
    obtain ⟨ha, rfl⟩ := Array.getElem?_eq_some_iff.mp hc
    have q := List.all_eq_true.mp ((Array.all_eq_true_iff_forall_mem.mp hF) _ (Array.getElem_mem ha)) i (List.mem_range.mpr hi)
    simpa [Array.getElem?_eq_getElem hi] using q
  obtain ⟨i0, ev0⟩ := is_v hv0
  obtain rfl : w0 = (.int i0) := Option.some.inj ev0
  obtain ⟨i1, ev1⟩ := is_v hv1
  obtain rfl : w1 = (.int i1) := Option.some.inj ev1
  obtain ⟨i2, ev2⟩ := is_v hv2
  obtain rfl : w2 = (.int i2) := Option.some.inj ev2
  obtain ⟨hp0, hq0⟩ := and_e hn
  obtain ⟨hp1, hq1⟩ := and_e hq0
  obtain ⟨hp2, hq2⟩ := and_e hq1
  have hp3 := hq2
  obtain ⟨aOVER, evOVER⟩ := exa_v hp0
  have S_OVER := Sta.start evOVER (Or.inr ⟨(own_w hw 1 rfl), (own_w hw 2 rfl)⟩)
  have E_OVER := Exa.start evOVER hp0
  obtain ⟨aUNDER, evUNDER⟩ := exa_v hp1
  have S_UNDER := Sta.start evUNDER (Or.inr ⟨(own_w hw 1 rfl), (own_w hw 9 rfl)⟩)
  have E_UNDER := Exa.start evUNDER hp1
  have O_OVER := Fld.start (own_eqi evOVER hp2)
  have O_UNDER := Fld.start (own_eqi evUNDER hp3)
  have ne_OVER_UNDER : ¬ aOVER = aUNDER := Fld.ne O_OVER O_UNDER (by decide)
  obtain ⟨n, o, h1, h2, h3, _, L, rfl, ⟨rfl, N⟩, hq⟩ := own_law l s _ hw tables_1 aOVER aUNDER i0 i1 i2 s.heap s.heap.size (Nat.le_refl _) S_OVER S_UNDER E_OVER E_UNDER ne_OVER_UNDER p e ha hc hk s m _ below hf ((Spec.applies_iff_loose hf).mp happ).1 ⟨rfl, State.Warmed39.refl s, rfl⟩ trivial
  refine ⟨n, _, h1, h2, h3, hpost _ _ _ _ _ _ ⟨Cond.after_iff.mpr rfl, Cond.after_iff.mpr (eq_i res_at (Term.int_eval (1)) rfl), trivial⟩ ⟨hq.1, hq.2.1, (hq.2.2.sift fun y hy => Or.inr (N y hy)).mono (by decide) (by decide)⟩⟩
theorem main_1_1 : Claimed_1_1 := comes_1 fun _ _ _ _ _ _ h hF => ⟨h.1, hF⟩
theorem main_1_2 : Claimed_1_2 := comes_1 fun _ _ _ _ _ _ h hF => ⟨h.2.1, hF⟩
end Jvm.Pilot.@@N@@
namespace Jvm.Pilot.@@N@@
open Jvm Jvm.ClassFile Sem Op Lib Jvm.Free Jvm.Stand Jvm.Pilot.@@N@@.Jvm.D
/-! MADE BY PROGRAM (witnessworld.py) out of the Statement's table words and the real class files: 12 classes; the members and pool entries that the words name. The judged class is class 1, her method 2. -/
namespace start1
open Jvm.ClassFile
def u (s : String) : CpInfo := .utf8 (stringToUtf16 s)
/-- a pool by its gaps: so many unusable entries, then the entry; so many at the end -/
def gap : Nat → List CpInfo → List CpInfo
  | 0, r => r
  | n + 1, r => .unusable :: gap n r
def poolList (es : List (Nat × CpInfo)) (last : Nat) : List CpInfo := es.foldr (fun e r => gap e.1 (e.2 :: r)) (gap last [])
def pool (es : List (Nat × CpInfo)) (last : Nat) : Array CpInfo := ⟨poolList es last⟩
def fileOf (pool : Array CpInfo) (this : Nat) (attrs : Array Attribute := #[]) (ms : Array MethodInfo := #[]) (fl : Nat := 33) (sup : Nat := 0) (ifs : Array Nat := #[]) (fds : Array FieldInfo := #[]) : ClassFile where
  minorVersion := 0
  majorVersion := 65
  constantPool := pool
  accessFlags := fl
  thisClass := this
  superClass := sup
  interfaces := ifs
  fields := fds
  methods := ms
  attributes := attrs
def plain (name : String) (sup : Option ClassId) : Class where
  name := name
  kind := .ordinary
  loader := none
  accessFlags := 33
  super := sup
  interfaces := #[]
  cf := none
  fields := #[]
  methods := #[]
  instanceTypes := #[]
  staticTypes := #[]
  resolved := #[]
  callSites := []
  init := .initialized
  statics := none
  mirror := none

def pool0 : Array CpInfo := pool [(5, u "<init>"), (0, u "()V"), (1, .class_ 10), (1, u "java/lang/Object")] 113

def k0m0 : Method := { name := "<init>", desc := "()V", sig := { parameters := [], returnType := none }, accessFlags := 1, code := none }
/-- java/lang/Object -/
def k0 : Class := { plain "java/lang/Object" none with
  accessFlags := 33
  interfaces := #[]
  cf := some (fileOf pool0 8 #[] #[{ accessFlags := 1, nameIndex := 5, descriptorIndex := 6, attributes := #[] }] 33 0 #[] #[])
  fields := #[]
  methods := #[k0m0]
  instanceTypes := #[]
  staticTypes := #[]
  resolved := Array.replicate 124 none
  statics := none }

def pool1 : Array CpInfo := pool [(2, .class_ 4), (1, u "java/lang/Object"), (0, u "<init>"), (0, u "()V"), (0, .fieldref 8 9), (0, .class_ 10), (0, .nameAndType 11 12), (0, u "com/example/kalchas/kalchas/Lift"), (0, u "UNDER"), (0, u "Lcom/example/kalchas/kalchas/Lift;"), (0, .fieldref 8 14), (0, .nameAndType 15 12), (0, u "OVER"), (0, .methodref 8 17), (0, .nameAndType 18 19), (0, u "dual"), (0, u "()Lcom/example/kalchas/kalchas/Lift;"), (0, .methodref 21 22), (0, .class_ 23), (0, .nameAndType 24 25), (0, u "com/example/kalchas/kalchas/LiftDualPinLaw"), (0, u "takes"), (0, u "(Lcom/example/kalchas/kalchas/Lift;II)Z"), (3, u "law"), (0, u "(III)Z")] 2

def k1m0 : Method := { name := "<init>", desc := "()V", sig := { parameters := [], returnType := none }, accessFlags := 2, code := none }
def k1c1 : Code := { maxStack := 3, maxLocals := 3, code := method_2_code, exceptionTable := #[], attributes := #[] }
def k1m1 : Method := { name := "takes", desc := "(Lcom/example/kalchas/kalchas/Lift;II)Z", sig := { parameters := [(.object "com/example/kalchas/kalchas/Lift"), .int, .int], returnType := some .boolean }, accessFlags := 10, code := some k1c1 }
def k1c2 : Code := { maxStack := 5, maxLocals := 7, code := code, exceptionTable := #[], attributes := #[] }
def k1m2 : Method := { name := "law", desc := "(III)Z", sig := { parameters := [.int, .int, .int], returnType := some .boolean }, accessFlags := 9, code := some k1c2 }
/-- com/example/kalchas/kalchas/LiftDualPinLaw -/
def k1 : Class := { plain "com/example/kalchas/kalchas/LiftDualPinLaw" (some 0) with
  accessFlags := 49
  interfaces := #[]
  cf := some (fileOf pool1 21 #[] #[{ accessFlags := 2, nameIndex := 5, descriptorIndex := 6, attributes := #[] }, { accessFlags := 10, nameIndex := 24, descriptorIndex := 25, attributes := #[] }, { accessFlags := 9, nameIndex := 29, descriptorIndex := 30, attributes := #[] }] 49 2 #[] #[])
  fields := #[]
  methods := #[k1m0, k1m1, k1m2]
  instanceTypes := #[]
  staticTypes := #[]
  resolved := Array.replicate 33 none
  statics := none }

def pool2 : Array CpInfo := pool [(1, .class_ 2), (0, u "java/lang/constant/Constable"), (0, .class_ 4), (0, u "java/lang/Object")] 6

/-- java/lang/constant/Constable -/
def k2 : Class := { plain "java/lang/constant/Constable" (some 0) with
  accessFlags := 1537
  interfaces := #[]
  cf := some (fileOf pool2 1 #[] #[] 1537 3 #[] #[])
  fields := #[]
  methods := #[]
  instanceTypes := #[]
  staticTypes := #[]
  resolved := Array.replicate 11 none
  statics := none }

def pool3 : Array CpInfo := pool [(1, .class_ 2), (0, u "java/lang/Comparable"), (0, .class_ 4), (0, u "java/lang/Object")] 7

/-- java/lang/Comparable -/
def k3 : Class := { plain "java/lang/Comparable" (some 0) with
  accessFlags := 1537
  interfaces := #[]
  cf := some (fileOf pool3 1 #[] #[] 1537 3 #[] #[])
  fields := #[]
  methods := #[]
  instanceTypes := #[]
  staticTypes := #[]
  resolved := Array.replicate 12 none
  statics := none }

def pool4 : Array CpInfo := pool [(1, .class_ 2), (0, u "java/io/Serializable"), (0, .class_ 4), (0, u "java/lang/Object")] 2

/-- java/io/Serializable -/
def k4 : Class := { plain "java/io/Serializable" (some 0) with
  accessFlags := 1537
  interfaces := #[]
  cf := some (fileOf pool4 1 #[] #[] 1537 3 #[] #[])
  fields := #[]
  methods := #[]
  instanceTypes := #[]
  staticTypes := #[]
  resolved := Array.replicate 7 none
  statics := none }

def pool5 : Array CpInfo := pool [(2, .class_ 4), (1, u "java/lang/Enum"), (0, u "name"), (0, u "Ljava/lang/String;"), (2, u "ordinal"), (0, u "I"), (1, .class_ 14), (1, u "java/lang/Object"), (4, u "hash"), (86, .class_ 108), (1, u "java/lang/Enum$EnumDesc"), (2, .class_ 112), (0, u "java/lang/constant/Constable"), (0, .class_ 114), (0, u "java/lang/Comparable"), (0, .class_ 116), (0, u "java/io/Serializable")] 87

/-- java/lang/Enum -/
def k5 : Class := { plain "java/lang/Enum" (some 0) with
  accessFlags := 1057
  interfaces := #[2, 3, 4]
  cf := some (fileOf pool5 2 #[.nestMembers #[106]] #[] 1057 12 #[111, 113, 115] #[{ accessFlags := 18, nameIndex := 5, descriptorIndex := 6, attributes := #[] }, { accessFlags := 18, nameIndex := 9, descriptorIndex := 10, attributes := #[] }, { accessFlags := 2, nameIndex := 19, descriptorIndex := 10, attributes := #[] }])
  fields := #[{ name := "name", type := (.object "java/lang/String"), accessFlags := 18, slot := 0, constantValue := 0 }, { name := "ordinal", type := .int, accessFlags := 18, slot := 1, constantValue := 0 }, { name := "hash", type := .int, accessFlags := 2, slot := 2, constantValue := 0 }]
  methods := #[]
  instanceTypes := #[(.object "java/lang/String"), .int, .int]
  staticTypes := #[]
  resolved := Array.replicate 204 none
  statics := none }

def pool6 : Array CpInfo := pool [(1, .class_ 2), (0, u "com/example/kalchas/kalchas/Lift"), (0, .fieldref 1 4), (0, .nameAndType 5 6), (0, u "UNDER"), (0, u "Lcom/example/kalchas/kalchas/Lift;"), (0, .fieldref 1 8), (0, .nameAndType 9 6), (0, u "OVER"), (2, u "$VALUES"), (0, u "[Lcom/example/kalchas/kalchas/Lift;"), (6, .class_ 22), (1, u "java/lang/Enum"), (20, u "dual"), (0, u "()Lcom/example/kalchas/kalchas/Lift;")] 5

def k6c0 : Code := { maxStack := 2, maxLocals := 1, code := prog_15_method_4_code, exceptionTable := #[], attributes := #[] }
def k6m0 : Method := { name := "dual", desc := "()Lcom/example/kalchas/kalchas/Lift;", sig := { parameters := [], returnType := some (.object "com/example/kalchas/kalchas/Lift") }, accessFlags := 0, code := some k6c0 }
/-- com/example/kalchas/kalchas/Lift -/
def k6 : Class := { plain "com/example/kalchas/kalchas/Lift" (some 5) with
  accessFlags := 16432
  interfaces := #[]
  cf := some (fileOf pool6 1 #[] #[{ accessFlags := 0, nameIndex := 43, descriptorIndex := 44, attributes := #[] }] 16432 20 #[] #[{ accessFlags := 16409, nameIndex := 5, descriptorIndex := 6, attributes := #[] }, { accessFlags := 16409, nameIndex := 9, descriptorIndex := 6, attributes := #[] }, { accessFlags := 4122, nameIndex := 12, descriptorIndex := 13, attributes := #[] }])
  fields := #[{ name := "UNDER", type := (.object "com/example/kalchas/kalchas/Lift"), accessFlags := 16409, slot := 0, constantValue := 0 }, { name := "OVER", type := (.object "com/example/kalchas/kalchas/Lift"), accessFlags := 16409, slot := 1, constantValue := 0 }, { name := "$VALUES", type := (.array (.object "com/example/kalchas/kalchas/Lift")), accessFlags := 4122, slot := 2, constantValue := 0 }]
  methods := #[k6m0]
  instanceTypes := #[(.object "java/lang/String"), .int, .int]
  staticTypes := #[(.object "com/example/kalchas/kalchas/Lift"), (.object "com/example/kalchas/kalchas/Lift"), (.array (.object "com/example/kalchas/kalchas/Lift"))]
  resolved := Array.replicate 50 none
  statics := some 0 }

def pool7 : Array CpInfo := pool [(1, u "java/lang/Cloneable"), (0, .class_ 1), (0, u "java/lang/Object"), (0, .class_ 3)] 3

/-- java/lang/Cloneable -/
def k7 : Class := { plain "java/lang/Cloneable" (some 0) with
  accessFlags := 1537
  interfaces := #[]
  cf := some (fileOf pool7 2 #[] #[] 1537 4 #[] #[])
  fields := #[]
  methods := #[]
  instanceTypes := #[]
  staticTypes := #[]
  resolved := Array.replicate 8 none
  statics := none }

/-- the primitive byte -/
def k8 : Class := { plain "byte" none with kind := .primitive 'B', accessFlags := 0x411 }
/-- [B -/
def k9 : Class := { plain "[B" (some 0) with kind := .array 8 .byte, interfaces := #[7, 4], accessFlags := 1041 }

/-- the primitive int -/
def k10 : Class := { plain "int" none with kind := .primitive 'I', accessFlags := 0x411 }
/-- [I -/
def k11 : Class := { plain "[I" (some 0) with kind := .array 10 .int, interfaces := #[7, 4], accessFlags := 1041 }

def heap : Heap := #[{ cls := 6, slots := #[.ref 2, .ref 1, .null], vm := .statics 6 },
  { cls := 6, slots := #[.null, .int 1, .int 0], vm := .none },
  { cls := 6, slots := #[.null, .int 0, .int 0], vm := .none }]
def classes : Array Class := #[k0, k1, k2, k3, k4, k5, k6, k7, k8, k9, k10, k11]
def interned : List (Array UInt16 × Addr) := []
def slotsUsed : Nat := 9
def theMethod : MethodId := ⟨1, 2⟩
def args0 : Array Value := #[.int 5, .int 6, .int 7]
def aboutOver (below : List Frame) : State where
  vm := { classes := classes, interned := interned.toArray }
  heap := heap
  slotsUsed := slotsUsed
  threads := #[{ frames := .invoking theMethod args0 :: below }]
def below0 : List Frame := [.native { method := ⟨0, 0⟩, args := #[] }]
def about1 : State := aboutOver below0
def p0 : Program := .bare "" "" ""
def e0 : Env := launch0.env 0 0 0
theorem w_frames : about1.frames = Frame.invoking theMethod args0 :: below0 := rfl
set_option maxRecDepth 65536 in
theorem w_args : argsFit about1.vm theMethod args0 = true := by decide +kernel
set_option maxRecDepth 65536 in
theorem w_heap : heapFits about1 = true := by decide +kernel
set_option maxRecDepth 65536 in
theorem w_runnable : about1.curStatus? = some .runnable := by decide +kernel
set_option maxRecDepth 65536 in
theorem w_alone : about1.alone = true := by decide +kernel
set_option maxRecDepth 65536 in
theorem w_named : about1.methodNamed? x = some theMethod := by decide +kernel
set_option maxRecDepth 65536 in
theorem w_hears : about1.hears theMethod below0 = true := by decide +kernel
set_option maxRecDepth 65536 in
theorem w_ripe : about1.ripe theMethod args0 below0 = true := by decide +kernel
theorem w_running : about1.status = .running := rfl
set_option maxRecDepth 65536 in
theorem w_room : about1.hasRoom e0.platform room_1 = true :=
  launch0.hasRoom_least _ room_1 (by decide +kernel) (by decide +kernel) (by decide +kernel) (by decide +kernel) (by decide +kernel) (by decide +kernel)
theorem allAtoms_all (ts : List Jvm.Cond) (a : Array Jvm.Value) (st : Jvm.State) : (allAtoms ts).before a st = ts.all (fun c => c.before a st) := by
  induction ts with
  | nil => rfl
  | cons c t ih =>
    show (Jvm.Cond.and c (allAtoms t)).before a st = _
    rw [Jvm.Cond.before_and, ih, List.all_cons]
def words1 : List Jvm.Cond := Jvm.Cond.code x code maxLocals ret :: tables_1
/-- a 'code' word, met by the world's own term for the bytes: nothing is compared byte by byte -/
theorem code_word {y : MethodName} {bytes : ByteArray} {mx : Nat} {rt : Option FieldType} {a : Array Value} {s : State} {m : MethodId} {meth : Method} {c : Code} (h1 : s.methodNamed? y = some m) (h2 : s.vm.method? m = some meth) (h3 : meth.code = some c) (h4 : c.code = bytes)
    (h5 : (c.maxLocals == mx && c.exceptionTable.isEmpty && decide (c.maxStack ≤ mostOperands) && decide (meth.sig.returnType = rt) && !meth.locks && decide (parseMethodDescriptor y.desc = some meth.sig)) = true) : (Jvm.Cond.code y bytes mx rt).before a s = true := by
  simp only [Bool.and_eq_true, beq_iff_eq, Bool.not_eq_true', decide_eq_true_eq] at h5
  obtain ⟨⟨⟨⟨⟨g1, g2⟩, g3⟩, g4⟩, g5⟩, g6⟩ := h5
  simp [Cond.before, Cond.holds, Cond.value, h1, h2, h3, h4, g1, g2, g3, g4, g5, g6]
def isCode : Jvm.Cond → Bool
  | .code _ _ _ _ => true
  | _ => false
theorem all_split {L : List Jvm.Cond} {P : Jvm.Cond → Bool} (h1 : L.all (fun c => isCode c || P c) = true) (h2 : ∀ c ∈ L.filter isCode, P c = true) : L.all P = true := by
  refine List.all_eq_true.mpr fun c hc => ?_
  have h := List.all_eq_true.mp h1 c hc
  rcases Bool.eq_false_or_eq_true (isCode c) with hi | hi
  · exact h2 c (List.mem_filter.mpr ⟨hc, hi⟩)
  · simpa [hi] using h
set_option maxRecDepth 65536 in
theorem w_c0 : (Jvm.Cond.code x code maxLocals ret).before args0 about1 = true := code_word (m := ⟨1, 2⟩) (meth := k1m2) (c := k1c2) (by decide +kernel) rfl rfl rfl (by decide +kernel)
set_option maxRecDepth 65536 in
theorem w_c1 : (Jvm.Cond.code ({ cls := "com/example/kalchas/kalchas/Lift", name := "dual", desc := "()Lcom/example/kalchas/kalchas/Lift;" } : Jvm.MethodName) prog_15_method_4_code (1 : Nat) (Option.some (Jvm.ClassFile.FieldType.object "com/example/kalchas/kalchas/Lift"))).before args0 about1 = true := code_word (m := ⟨6, 0⟩) (meth := k6m0) (c := k6c0) (by decide +kernel) rfl rfl rfl (by decide +kernel)
set_option maxRecDepth 65536 in
theorem w_c2 : (Jvm.Cond.code ({ cls := "com/example/kalchas/kalchas/LiftDualPinLaw", name := "takes", desc := "(Lcom/example/kalchas/kalchas/Lift;II)Z" } : Jvm.MethodName) method_2_code (3 : Nat) (Option.some Jvm.ClassFile.FieldType.boolean)).before args0 about1 = true := code_word (m := ⟨1, 1⟩) (meth := k1m1) (c := k1c1) (by decide +kernel) rfl rfl rfl (by decide +kernel)
def codes1 : List Jvm.Cond := [Jvm.Cond.code x code maxLocals ret, Jvm.Cond.code ({ cls := "com/example/kalchas/kalchas/Lift", name := "dual", desc := "()Lcom/example/kalchas/kalchas/Lift;" } : Jvm.MethodName) prog_15_method_4_code (1 : Nat) (Option.some (Jvm.ClassFile.FieldType.object "com/example/kalchas/kalchas/Lift")), Jvm.Cond.code ({ cls := "com/example/kalchas/kalchas/LiftDualPinLaw", name := "takes", desc := "(Lcom/example/kalchas/kalchas/Lift;II)Z" } : Jvm.MethodName) method_2_code (3 : Nat) (Option.some Jvm.ClassFile.FieldType.boolean)]
set_option maxRecDepth 65536 in
theorem codes_eq : words1.filter isCode = codes1 := rfl
theorem w_codes : ∀ c ∈ words1.filter isCode, c.before args0 about1 = true := by
  rw [codes_eq]
  intro c hc
  simp only [codes1, List.mem_cons, List.not_mem_nil, or_false] at hc
  rcases hc with rfl | rfl | rfl
  · exact w_c0
  · exact w_c1
  · exact w_c2
set_option maxRecDepth 65536 in
theorem w_t1 : words1.all (fun c => isCode c || c.before args0 about1) = true := by decide +kernel
theorem w_tables : (allAtoms (Jvm.Cond.code x code maxLocals ret :: tables_1)).before args0 about1 = true := by
  rw [allAtoms_all]
  show words1.all (fun c => c.before args0 about1) = true
  refine all_split ?_ w_codes
  rw [w_t1]
set_option maxRecDepth 65536 in
theorem w_case : (Jvm.Cond.and given_1 narrow_1).before args0 about1 = true := by decide +kernel
theorem w_applies : (headSpec (Jvm.Cond.code x code maxLocals ret :: tables_1) room_1).applies x e0.platform about1 = true :=
  (Spec.applies_iff w_frames).mpr ⟨w_running, w_runnable, w_alone, w_named, w_hears, w_ripe, w_room, w_tables⟩
theorem atStart : AtStart classFile x code maxLocals ret World_1 tables_1 room_1 Calls_1 rest_1 Pre_1 launch0 p0 e0 about1 theMethod args0 below0 :=
  ⟨lists_1, trivial, launch0.admits_env _ _ _, launch0.least_env, fairChoices_fair.cas, fairChoices_fair.clock, w_frames, w_args, w_heap, w_applies, trivial, trivial, w_case⟩
end start1
theorem witness_1 : WitnessClaimed_1 := ⟨start1.p0, start1.e0, start1.about1, start1.theMethod, start1.args0, start1.below0, start1.atStart⟩
end Jvm.Pilot.@@N@@
