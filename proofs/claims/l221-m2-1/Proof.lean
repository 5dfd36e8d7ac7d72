import JvmDerived
import JvmDerived.Pilot.@@N@@Statement
import JvmDerived.Pilot.@@N@@Code
set_option linter.unusedVariables false
set_option linter.unusedSimpArgs false
namespace Jvm.Pilot.@@N@@
open Jvm Jvm.ClassFile Sem Op Lib Jvm.Free Jvm.Stand Jvm.LawKit Jvm.RoadKit Bundle Jvm.Pilot.@@N@@.Jvm.D
theorem own_w {a0 : Array Value} {Z : State} (hw : ∀ d ∈ tables_1, d.before a0 Z = true) (i : Nat) {d : Jvm.Cond} (h : tables_1[i]? = some d) : d.before a0 Z = true := hw d (List.mem_of_getElem? h)
section Own
variable {p : Program} {l : Launch} {e : Env} {R : Room} {s : State} {m : MethodId} {args : Array Value} {below : List Frame} {meth : Method} {c : Code} {T T' : State} {locs : List Loc} {cells slots : Nat} {g g' : JFrame} {K : Outcome → State → Prop} {Q : Option Value → Heap → List Loc → Prop} {kc ks : Nat}
/-- from this state, with this frame on top, the run comes to an end at which K holds -/
def own_E (p : Program) (e : Env) (below : List Frame) (K : Outcome → State → Prop) (T : State) (g : JFrame) : Prop :=
  ∃ s₂ o, Steps p.tables e below (T.setTop g) s₂ ∧ s₂.status = .running ∧ Ended s₂ below o ∧ K o s₂
def own_K (Q : Option Value → Heap → List Loc → Prop) (s : State) (kc ks : Nat) : Outcome → State → Prop :=
  fun o U' => ∃ v L, o = .returned v ∧ Q v U'.heap L ∧ FrameEnd s o U' L kc ks
theorem own_st (st : ∀ t, Steps p.tables e below (T'.setTop g') t → Steps p.tables e below (T.setTop g) t) (k : own_E p e below K T' g') : own_E p e below K T g := by
  obtain ⟨s2, o, h1, h2⟩ := k
  exact ⟨s2, o, st _ h1, h2⟩
theorem own_tr (st : Steps p.tables e below (T.setTop g) (T'.setTop g')) (k : own_E p e below K T' g') : own_E p e below K T g :=
  own_st (fun _ h => st.trans h) k
theorem own_pre (q : g = g') (k : own_E p e below K T g') : own_E p e below K T g := q ▸ k
theorem own_end (X : Stand p l e R s m args below meth c T locs cells slots) (hlk : meth.locks = false) {v : Option Value} (hv : meth.sig.returnType = none → v = none)
    (hr : ∀ fs : List Frame, (∀ (f : JFrame) (acts : List Action), f.method = m → f.locked = none → f.entered = [] → (doReturn e (T.setTop f) acts v).1 = T.setFrames fs) → Steps p.tables e below (T.setTop g) (T.setFrames fs))
    (hc : cells ≤ kc) (hs : slots ≤ ks) (hQ : Q v T.heap locs) : own_E p e below (own_K Q s kc ks) T g := by
  obtain ⟨fs, h1, hrun, hended, hW, hsame⟩ := X.leave (v := v) hv hlk
  exact ⟨_, _, hr fs h1, hrun, hended, _, _, rfl, hQ, ⟨_, rfl⟩, hW, hsame.mono hc hs⟩
theorem own_retV (X : Stand p l e R s m args below meth c T locs cells slots) (hx : p.tables.exec = Jvm.exec) (hlk : meth.locks = false) {pc : Nat} {Ls : Array Slot} (hret : meth.sig.returnType = none)
    (hd : decode c.code pc = .ok (.return_, 1)) (hc : cells ≤ kc) (hs : slots ≤ ks) (hQ : Q none T.heap locs) : own_E p e below (own_K Q s kc ks) T (mkF m pc Ls []) :=
  own_end X hlk (fun _ => rfl) (fun fs h => X.returnOut hx hret hd h) hc hs hQ
theorem own_retG (X : Stand p l e R s m args below meth c T locs cells slots) (hx : p.tables.exec = Jvm.exec) (hlk : meth.locks = false) {pc : Nat} {Ls : Array Slot} {w : Value} {t : FieldType} {i : Instr} {rest : List Value} (hret : meth.sig.returnType = some t) (hn : narrow t w = w)
    (hi : (i = .ireturn ∧ (t = .int ∨ t = .boolean ∨ t = .byte ∨ t = .char ∨ t = .short) ∧ ∃ z, w = .int z) ∨ (i = .lreturn ∧ t = .long ∧ ∃ z, w = .long z) ∨ (i = .dreturn ∧ t = .double ∧ ∃ z, w = .double z) ∨ (i = .freturn ∧ t = .float ∧ ∃ z, w = .float z) ∨ (i = .areturn ∧ t.isReference = true ∧ w.isRef = true))
    (hd : decode c.code pc = .ok (i, 1)) (hc : cells ≤ kc) (hs : slots ≤ ks) (hQ : Q (some w) T.heap locs) : own_E p e below (own_K Q s kc ks) T (mkF m pc Ls (w :: rest)) :=
  own_end X hlk (fun h => by rw [hret] at h; cases h) (fun fs h => retOut X hx hret hn hi hd h) hc hs hQ
theorem own_retI (X : Stand p l e R s m args below meth c T locs cells slots) (hx : p.tables.exec = Jvm.exec) (hlk : meth.locks = false) {pc : Nat} {Ls : Array Slot} {z : Int32} {rest : List Value} (hret : meth.sig.returnType = some .int)
    (hd : decode c.code pc = .ok (.ireturn, 1)) (hc : cells ≤ kc) (hs : slots ≤ ks) (hQ : Q (some (.int z)) T.heap locs) : own_E p e below (own_K Q s kc ks) T (mkF m pc Ls (.int z :: rest)) :=
  own_retG X hx hlk hret rfl (Or.inl ⟨rfl, Or.inl rfl, z, rfl⟩) hd hc hs hQ
theorem own_retS (X : Stand p l e R s m args below meth c T locs cells slots) (hx : p.tables.exec = Jvm.exec) (hlk : meth.locks = false) {pc : Nat} {Ls : Array Slot} {z : Int32} {t : FieldType} {rest : List Value} (hret : meth.sig.returnType = some t) (hn : narrow t (.int z) = .int z)
    (ht : t = .int ∨ t = .boolean ∨ t = .byte ∨ t = .char ∨ t = .short) (hd : decode c.code pc = .ok (.ireturn, 1)) (hc : cells ≤ kc) (hs : slots ≤ ks) (hQ : Q (some (.int z)) T.heap locs) : own_E p e below (own_K Q s kc ks) T (mkF m pc Ls (.int z :: rest)) :=
  own_retG X hx hlk hret hn (Or.inl ⟨rfl, ht, z, rfl⟩) hd hc hs hQ
theorem own_retN (X : Stand p l e R s m args below meth c T locs cells slots) (hx : p.tables.exec = Jvm.exec) (hlk : meth.locks = false) {pc : Nat} {Ls : Array Slot} {z : Int32} {t : FieldType} {rest : List Value} (hret : meth.sig.returnType = some t)
    (ht : t = .boolean ∨ t = .byte ∨ t = .char ∨ t = .short) (hd : decode c.code pc = .ok (.ireturn, 1)) (hc : cells ≤ kc) (hs : slots ≤ ks) (hQ : Q (some (.int (nar t z))) T.heap locs) : own_E p e below (own_K Q s kc ks) T (mkF m pc Ls (.int z :: rest)) :=
  own_end X hlk (fun h => by rw [hret] at h; cases h) (fun fs h => retN X hx hret ht hd h) hc hs hQ
theorem own_retJ (X : Stand p l e R s m args below meth c T locs cells slots) (hx : p.tables.exec = Jvm.exec) (hlk : meth.locks = false) {pc : Nat} {Ls : Array Slot} {z : Int64} {rest : List Value} (hret : meth.sig.returnType = some .long)
    (hd : decode c.code pc = .ok (.lreturn, 1)) (hc : cells ≤ kc) (hs : slots ≤ ks) (hQ : Q (some (.long z)) T.heap locs) : own_E p e below (own_K Q s kc ks) T (mkF m pc Ls (.long z :: rest)) :=
  own_retG X hx hlk hret rfl (Or.inr (Or.inl ⟨rfl, rfl, z, rfl⟩)) hd hc hs hQ
theorem own_retA (X : Stand p l e R s m args below meth c T locs cells slots) (hx : p.tables.exec = Jvm.exec) (hlk : meth.locks = false) {pc : Nat} {Ls : Array Slot} {w : Value} {t : FieldType} {rest : List Value} (hret : meth.sig.returnType = some t) (ht : t.isReference = true) (hw : w.isRef = true)
    (hd : decode c.code pc = .ok (.areturn, 1)) (hc : cells ≤ kc) (hs : slots ≤ ks) (hQ : Q (some w) T.heap locs) : own_E p e below (own_K Q s kc ks) T (mkF m pc Ls (w :: rest)) :=
  own_retG X hx hlk hret (by cases w <;> cases t <;> first | rfl | (simp [Value.isRef] at hw) | (simp [FieldType.isReference] at ht)) (Or.inr (Or.inr (Or.inr (Or.inr ⟨rfl, ht, hw⟩)))) hd hc hs hQ
end Own
theorem own_StaK {Z : State} {h h' : Heap} {C n d : String} {v : Value} (F : Sta Z h C n d v) (K : Keep h h' []) : Sta Z h' C n d v := Sta.ext ⟨K.1, fun a c q => K.2.1 a c q nin0⟩ F
section OwnArr
variable {p : Program} {l : Launch} {e : Env} {R : Room} {s : State} {m : MethodId} {args : Array Value} {below : List Frame} {meth : Method} {c : Code} {T : State} {locs : List Loc} {cells slots : Nat} {Z : State} {h : Heap} {a : Addr} {k : ClassId} {z : Int32} {vs : List Value} {dv : Value}
theorem own_alen (X : Stand p l e R s m args below meth c T locs cells slots) (hx : p.tables.exec = Jvm.exec) (hZ : Z.Warmed39 s.vm) (eT : T.heap = h) {ty : FieldType} (F : Arv Z h a k ty z vs dv) {g : JFrame} (hg : g.method = m) {rest : List Value} (hs : g.stack = .ref a :: rest) (hd : decode c.code g.pc = .ok (.arraylength, 1)) :
    ∀ target, Steps p.tables e below (T.setTop { g with pc := g.pc + 1, stack := .int z :: rest }) target → Steps p.tables e below (T.setTop g) target := by
  obtain ⟨cl, A, q, S, N, H, G⟩ := F
  intro target hr
  refine X.arraylength hx (by rw [eT]; exact A.1) (State.isArrayOf_alike hZ.alike A.2.1) hg hs hd _ ?_
  rw [len_of S N]; exact hr
theorem own_ald (X : Stand p l e R s m args below meth c T locs cells slots) (hx : p.tables.exec = Jvm.exec) (hZ : Z.Warmed39 s.vm) (eT : T.heap = h) (F : Arv Z h a k .int z vs dv) {j : Int32} (hj : ¬ j < 0 ∧ j < z) {v : Value} (hv : vs.getD j.toNatClampNeg dv = v) {g : JFrame} (hg : g.method = m) {rest : List Value} (hs : g.stack = .int j :: .ref a :: rest) (hd : decode c.code g.pc = .ok (.iaload, 1)) :
    ∀ target, Steps p.tables e below (T.setTop { g with pc := g.pc + 1, stack := v :: rest }) target → Steps p.tables e below (T.setTop g) target := by
  obtain ⟨cl, A, q, S, N, H, G⟩ := F
  have hin := inb_of S hj
  exact X.iaload hx (by rw [eT]; exact A.1) (State.isArrayOf_alike hZ.alike A.2.1) A.2.2 hin (H.at hin hv) hg hs hd
theorem own_ast (X : Stand p l e R s m args below meth c T locs cells slots) (hx : p.tables.exec = Jvm.exec) (hZ : Z.Warmed39 s.vm) (eT : T.heap = h) (F : Arv Z h a k .int z vs dv) {j : Int32} (hj : ¬ j < 0 ∧ j < z) {x : Int32} {i : Nat} (hi : j.toNatClampNeg = i) (hl : i < vs.length) {g : JFrame} (hg : g.method = m) {rest : List Value} (hs : g.stack = .int x :: .int j :: .ref a :: rest) (hd : decode c.code g.pc = .ok (.iastore, 1)) :
    ∃ T' h', Stand p l e R s m args below meth c T' (locs ++ [⟨a, j.toNatClampNeg⟩]) cells slots ∧ T'.heap = h' ∧ Wr h h' a j.toNatClampNeg (.int x) ∧ Arv Z h' a k .int z (vs.set i (.int x)) dv ∧ ∀ target, Steps p.tables e below (T'.setTop { g with pc := g.pc + 1, stack := rest }) target → Steps p.tables e below (T.setTop g) target := by
  obtain ⟨cl, A, q, S, N, H, G⟩ := F
  have hin := inb_of S hj
  obtain ⟨T', h', X', e', W, st⟩ := stI X hx hZ eT A hin hg hs hd
  exact ⟨T', h', X', e', W, Arv.set A q S N H G rfl W i hi hl, st⟩
theorem own_cst (X : Stand p l e R s m args below meth c T locs cells slots) (hx : p.tables.exec = Jvm.exec) (hZ : Z.Warmed39 s.vm) (eT : T.heap = h) (F : Arv Z h a k .char z vs dv) {j : Int32} (hj : ¬ j < 0 ∧ j < z) {x : Int32} {i : Nat} (hi : j.toNatClampNeg = i) (hl : i < vs.length) {g : JFrame} (hg : g.method = m) {rest : List Value} (hs : g.stack = .int x :: .int j :: .ref a :: rest) (hd : decode c.code g.pc = .ok (.castore, 1)) :
    ∃ T' h', Stand p l e R s m args below meth c T' (locs ++ [⟨a, j.toNatClampNeg⟩]) cells slots ∧ T'.heap = h' ∧ Wr h h' a j.toNatClampNeg (.int (nar .char x)) ∧ Arv Z h' a k .char z (vs.set i (.int (nar .char x))) dv ∧ ∀ target, Steps p.tables e below (T'.setTop { g with pc := g.pc + 1, stack := rest }) target → Steps p.tables e below (T.setTop g) target := by
  obtain ⟨cl, A, q, S, N, H, G⟩ := F
  have hin := inb_of S hj
  obtain ⟨T', h', X', e', W, st⟩ := stC X hx hZ eT A hin hg hs hd
  exact ⟨T', h', X', e', W, Arv.set A q S N H G (fits_nar_char _) W i hi hl, st⟩
end OwnArr
theorem own_eqi {args : Array Value} {s : State} {t : Term} {a : Addr} {C n d : String} {k : Int32} (ht : t.eval args s none [] s = some (.ref a)) (h : (Jvm.Cond.eq (.field t C n d) (.int k)).value args s none s [] = some true) : s.fieldOf? a C n d = some (.int k) := by
  simp only [Jvm.Cond.value, fld_at ht] at h
  generalize s.fieldOf? a C n d = o at h
  rcases o with _ | w
  · simp [Term.eval] at h
  · cases w <;> simp [Term.eval] at h
    rw [h]
theorem own_d_prog_34_method_6_0 : decode prog_34_method_6_code 0 = .ok (.aload_n 0, 1) := by decide +kernel
theorem own_d_prog_34_method_6_1 : decode prog_34_method_6_code 1 = .ok (.getstatic 3, 3) := by decide +kernel
theorem own_d_prog_34_method_6_4 : decode prog_34_method_6_code 4 = .ok (.if_acmp .ne 19, 3) := by decide +kernel
theorem own_d_prog_34_method_6_7 : decode prog_34_method_6_code 7 = .ok (.iload_n 1, 1) := by decide +kernel
theorem own_d_prog_34_method_6_8 : decode prog_34_method_6_code 8 = .ok (.bipush 32, 2) := by decide +kernel
theorem own_d_prog_34_method_6_10 : decode prog_34_method_6_code 10 = .ok (.if_icmp .eq 9, 3) := by decide +kernel
theorem own_d_prog_34_method_6_19 : decode prog_34_method_6_code 19 = .ok (.iconst 1, 1) := by decide +kernel
theorem own_d_prog_34_method_6_20 : decode prog_34_method_6_code 20 = .ok (.goto 4, 3) := by decide +kernel
theorem own_d_prog_34_method_6_24 : decode prog_34_method_6_code 24 = .ok (.ireturn, 1) := by decide +kernel
theorem own_d_prog_34_method_6_13 : decode prog_34_method_6_code 13 = .ok (.iload_n 1, 1) := by decide +kernel
theorem own_d_prog_34_method_6_14 : decode prog_34_method_6_code 14 = .ok (.bipush 9, 2) := by decide +kernel
theorem own_d_prog_34_method_6_16 : decode prog_34_method_6_code 16 = .ok (.if_icmp .ne 7, 3) := by decide +kernel
theorem own_d_prog_34_method_6_23 : decode prog_34_method_6_code 23 = .ok (.iconst 0, 1) := by decide +kernel
def own_blank_LENIENT_Q (aLENIENT : Addr) (aSTRICT : Addr) (p1 : Int32) (h0 : Heap) (v : Option Value) (h : Heap) (L : List Loc) : Prop := ((v = some (.int (1 : Int32)) ∧ p1 = (32 : Int32)) ∨ (v = some (.int (1 : Int32)) ∧ ¬ (p1 = (32 : Int32)) ∧ p1 = (9 : Int32)) ∨ (v = some (.int (0 : Int32)) ∧ ¬ (p1 = (32 : Int32)) ∧ ¬ (p1 = (9 : Int32)))) ∧ h = h0 ∧ L = []
abbrev own_y0 : MethodName := ⟨"serialis/text/Reading", "isBlank", "(C)Z"⟩
theorem own_pn_Reading : plainName "serialis/text/Reading" = true := by first | (simp [plainName, overriddenIn]; done) | decide +kernel
theorem own_blank_LENIENT_ef (m : MethodId) (aLENIENT : Addr) (aSTRICT : Addr) (p1 : Int32) : entryFrame m #[(.ref aLENIENT), (.int p1)] 2 = mkF m 0 #[.val (.ref aLENIENT), .val (.int p1)] [] := by first | (simp [entryFrame, mkF, argsToLocals, Value.category]; done) | rfl
set_option maxRecDepth 65536 in
set_option maxHeartbeats 40000000 in
theorem own_blank_LENIENT (l : Launch) (Z : State) (a0 : Array Value) (hw : ∀ d ∈ tables_1, d.before a0 Z = true) (ws : List Jvm.Cond) (aLENIENT : Addr) (aSTRICT : Addr) (p1 : Int32) (h0 : Heap) (n0 : Nat) (Z0 : n0 ≤ h0.size) (S_LENIENT : Sta Z h0 "serialis/text/Reading" "LENIENT" "Lserialis/text/Reading;" (.ref aLENIENT)) (S_STRICT : Sta Z h0 "serialis/text/Reading" "STRICT" "Lserialis/text/Reading;" (.ref aSTRICT)) (E_LENIENT : Exa Z h0 aLENIENT "serialis/text/Reading") (E_STRICT : Exa Z h0 aSTRICT "serialis/text/Reading") (ne_LENIENT_STRICT : ¬ aLENIENT = aSTRICT) :
    MetFree l own_y0 (head1 (Jvm.Cond.code own_y0 prog_34_method_6_code 2 (some .boolean) :: ws) ({ frames := 0, cells := 0, slots := 0, locals := 0 } : Room)) (fun a U => a = #[(.ref aLENIENT), (.int p1)] ∧ Z.Warmed39 U.vm ∧ U.heap = h0) (fun _ _ _ _ _ => True) (fun _ U o U' => ∃ v L, o = .returned v ∧ own_blank_LENIENT_Q aLENIENT aSTRICT p1 h0 v U'.heap L ∧ FrameEnd U o U' L ({ frames := 0, cells := 0, slots := 0, locals := 0 } : Room).cells ({ frames := 0, cells := 0, slots := 0, locals := 0 } : Room).slots) := by
  refine MetFree.of_bodySF (plainFor_of_name own_pn_Reading) hisR ?_
  intro p e s m args below meth c s₁ Bd hml0 hP hK
  obtain ⟨rfl, hZ, hh⟩ := hP
  have hx := Bd.exec
  have hby := Bd.bytes
  have hml : c.maxLocals = 2 := hml0
  have hown : s.vm.findClass "serialis/text/Reading" = some m.cls := findClass_of_methodNamed Bd.named
  have hnm := (name_of_methodNamed Bd.named Bd.method).1
  have X0 : Stand p l e ({ frames := 0, cells := 0, slots := 0, locals := 0 } : Room) s m #[(.ref aLENIENT), (.int p1)] below meth c s₁ [] 0 0 := Stand.of_body Bd
  have e0 : s₁.heap = h0 := by rw [← hh, Bd.state]; rfl
  show own_E p e below (own_K (own_blank_LENIENT_Q aLENIENT aSTRICT p1 h0) s ({ frames := 0, cells := 0, slots := 0, locals := 0 } : Room).cells ({ frames := 0, cells := 0, slots := 0, locals := 0 } : Room).slots) s₁ (entryFrame m #[(.ref aLENIENT), (.int p1)] 2)
  refine own_pre (own_blank_LENIENT_ef m aLENIENT aSTRICT p1) ?_
  show own_E p e below _ s₁ (mkF m 0 #[rv aLENIENT, iv p1] [])
  refine own_st (fun t k => XS.aloadN X0.here hx rfl (hb hby own_d_prog_34_method_6_0) rfl rfl k) ?_
  show own_E p e below _ s₁ (mkF m 1 #[rv aLENIENT, iv p1] [.ref aLENIENT])
  obtain ⟨T1, X1, e1, st1⟩ := getS2 X0 hx hZ hown (host := "") (Or.inl (own_w hw 8 rfl)) Via.refl e0 S_LENIENT (g := (mkF m 1 #[rv aLENIENT, iv p1] [.ref aLENIENT])) rfl (hb hby own_d_prog_34_method_6_1)
  refine own_st st1 ?_
  show own_E p e below _ T1 (mkF m 4 #[rv aLENIENT, iv p1] [.ref aLENIENT, .ref aLENIENT])
  refine own_st (fun t k => Jvm.RoadKit.acmp (g := (mkF m 4 #[rv aLENIENT, iv p1] [.ref aLENIENT, .ref aLENIENT])) X1 hx rfl rfl rfl (pc0 := 4) (pc' := 7) (same := true) rfl (hb hby own_d_prog_34_method_6_4) rfl (decide_eq_true rfl) (by decide) (by decide) k) ?_
  show own_E p e below _ T1 (mkF m 7 #[rv aLENIENT, iv p1] [])
  refine own_st (fun t k => XS.iloadN X1.here hx rfl (hb hby own_d_prog_34_method_6_7) rfl k) ?_
  show own_E p e below _ T1 (mkF m 8 #[rv aLENIENT, iv p1] [.int p1])
  refine own_st (fun t k => XS.bipush X1.here hx rfl (hb hby own_d_prog_34_method_6_8) k) ?_
  show own_E p e below _ T1 (mkF m 10 #[rv aLENIENT, iv p1] [.int 32, .int p1])
  by_cases hc2 : p1 = (32 : Int32)
  · refine own_st (fun t k => XS.icmpYes X1.here hx rfl (pc0 := 10) (pc' := 19) rfl (hb hby own_d_prog_34_method_6_10) rfl (teq hc2).1 (by decide) (by decide) k) ?_
    show own_E p e below _ T1 (mkF m 19 #[rv aLENIENT, iv p1] [])
    refine own_st (fun t k => XS.iconst X1.here hx rfl (hb hby own_d_prog_34_method_6_19) k) ?_
    show own_E p e below _ T1 (mkF m 20 #[rv aLENIENT, iv p1] [.int 1])
    refine own_st (fun t k => XS.goto X1.here hx rfl (pc0 := 20) (pc' := 24) rfl (hb hby own_d_prog_34_method_6_20) (by decide) (by decide) k) ?_
    show own_E p e below _ T1 (mkF m 24 #[rv aLENIENT, iv p1] [.int 1])
    refine own_retS X1 hx Bd.notSynchronized Bd.returns rfl (by decide) (hb hby own_d_prog_34_method_6_24) (by decide) (by decide) ?_
    exact ⟨(Or.inl ⟨rfl, hc2⟩), e1, rfl⟩
  · refine own_st (fun t k => XS.icmpNo X1.here hx rfl (hb hby own_d_prog_34_method_6_10) rfl (feq hc2).1 k) ?_
    show own_E p e below _ T1 (mkF m 13 #[rv aLENIENT, iv p1] [])
    refine own_st (fun t k => XS.iloadN X1.here hx rfl (hb hby own_d_prog_34_method_6_13) rfl k) ?_
    show own_E p e below _ T1 (mkF m 14 #[rv aLENIENT, iv p1] [.int p1])
    refine own_st (fun t k => XS.bipush X1.here hx rfl (hb hby own_d_prog_34_method_6_14) k) ?_
    show own_E p e below _ T1 (mkF m 16 #[rv aLENIENT, iv p1] [.int 9, .int p1])
    by_cases hc3 : p1 = (9 : Int32)
    · refine own_st (fun t k => XS.icmpNo X1.here hx rfl (hb hby own_d_prog_34_method_6_16) rfl (teq hc3).2 k) ?_
      show own_E p e below _ T1 (mkF m 19 #[rv aLENIENT, iv p1] [])
      refine own_st (fun t k => XS.iconst X1.here hx rfl (hb hby own_d_prog_34_method_6_19) k) ?_
      show own_E p e below _ T1 (mkF m 20 #[rv aLENIENT, iv p1] [.int 1])
      refine own_st (fun t k => XS.goto X1.here hx rfl (pc0 := 20) (pc' := 24) rfl (hb hby own_d_prog_34_method_6_20) (by decide) (by decide) k) ?_
      show own_E p e below _ T1 (mkF m 24 #[rv aLENIENT, iv p1] [.int 1])
      refine own_retS X1 hx Bd.notSynchronized Bd.returns rfl (by decide) (hb hby own_d_prog_34_method_6_24) (by decide) (by decide) ?_
      exact ⟨(Or.inr (Or.inl ⟨rfl, hc2, hc3⟩)), e1, rfl⟩
    · refine own_st (fun t k => XS.icmpYes X1.here hx rfl (pc0 := 16) (pc' := 23) rfl (hb hby own_d_prog_34_method_6_16) rfl (feq hc3).2 (by decide) (by decide) k) ?_
      show own_E p e below _ T1 (mkF m 23 #[rv aLENIENT, iv p1] [])
      refine own_st (fun t k => XS.iconst X1.here hx rfl (hb hby own_d_prog_34_method_6_23) k) ?_
      show own_E p e below _ T1 (mkF m 24 #[rv aLENIENT, iv p1] [.int 0])
      refine own_retS X1 hx Bd.notSynchronized Bd.returns rfl (by decide) (hb hby own_d_prog_34_method_6_24) (by decide) (by decide) ?_
      exact ⟨(Or.inr (Or.inr ⟨rfl, hc2, hc3⟩)), e1, rfl⟩
def own_blank_STRICT_Q (aLENIENT : Addr) (aSTRICT : Addr) (p1 : Int32) (h0 : Heap) (v : Option Value) (h : Heap) (L : List Loc) : Prop := ((v = some (.int (0 : Int32)))) ∧ h = h0 ∧ L = []
theorem own_blank_STRICT_ef (m : MethodId) (aLENIENT : Addr) (aSTRICT : Addr) (p1 : Int32) : entryFrame m #[(.ref aSTRICT), (.int p1)] 2 = mkF m 0 #[.val (.ref aSTRICT), .val (.int p1)] [] := by first | (simp [entryFrame, mkF, argsToLocals, Value.category]; done) | rfl
set_option maxRecDepth 65536 in
set_option maxHeartbeats 40000000 in
theorem own_blank_STRICT (l : Launch) (Z : State) (a0 : Array Value) (hw : ∀ d ∈ tables_1, d.before a0 Z = true) (ws : List Jvm.Cond) (aLENIENT : Addr) (aSTRICT : Addr) (p1 : Int32) (h0 : Heap) (n0 : Nat) (Z0 : n0 ≤ h0.size) (S_LENIENT : Sta Z h0 "serialis/text/Reading" "LENIENT" "Lserialis/text/Reading;" (.ref aLENIENT)) (S_STRICT : Sta Z h0 "serialis/text/Reading" "STRICT" "Lserialis/text/Reading;" (.ref aSTRICT)) (E_LENIENT : Exa Z h0 aLENIENT "serialis/text/Reading") (E_STRICT : Exa Z h0 aSTRICT "serialis/text/Reading") (ne_LENIENT_STRICT : ¬ aLENIENT = aSTRICT) :
    MetFree l own_y0 (head1 (Jvm.Cond.code own_y0 prog_34_method_6_code 2 (some .boolean) :: ws) ({ frames := 0, cells := 0, slots := 0, locals := 0 } : Room)) (fun a U => a = #[(.ref aSTRICT), (.int p1)] ∧ Z.Warmed39 U.vm ∧ U.heap = h0) (fun _ _ _ _ _ => True) (fun _ U o U' => ∃ v L, o = .returned v ∧ own_blank_STRICT_Q aLENIENT aSTRICT p1 h0 v U'.heap L ∧ FrameEnd U o U' L ({ frames := 0, cells := 0, slots := 0, locals := 0 } : Room).cells ({ frames := 0, cells := 0, slots := 0, locals := 0 } : Room).slots) := by
  refine MetFree.of_bodySF (plainFor_of_name own_pn_Reading) hisR ?_
  intro p e s m args below meth c s₁ Bd hml0 hP hK
  obtain ⟨rfl, hZ, hh⟩ := hP
  have hx := Bd.exec
  have hby := Bd.bytes
  have hml : c.maxLocals = 2 := hml0
  have hown : s.vm.findClass "serialis/text/Reading" = some m.cls := findClass_of_methodNamed Bd.named
  have hnm := (name_of_methodNamed Bd.named Bd.method).1
  have X0 : Stand p l e ({ frames := 0, cells := 0, slots := 0, locals := 0 } : Room) s m #[(.ref aSTRICT), (.int p1)] below meth c s₁ [] 0 0 := Stand.of_body Bd
  have e0 : s₁.heap = h0 := by rw [← hh, Bd.state]; rfl
  show own_E p e below (own_K (own_blank_STRICT_Q aLENIENT aSTRICT p1 h0) s ({ frames := 0, cells := 0, slots := 0, locals := 0 } : Room).cells ({ frames := 0, cells := 0, slots := 0, locals := 0 } : Room).slots) s₁ (entryFrame m #[(.ref aSTRICT), (.int p1)] 2)
  refine own_pre (own_blank_STRICT_ef m aLENIENT aSTRICT p1) ?_
  show own_E p e below _ s₁ (mkF m 0 #[rv aSTRICT, iv p1] [])
  refine own_st (fun t k => XS.aloadN X0.here hx rfl (hb hby own_d_prog_34_method_6_0) rfl rfl k) ?_
  show own_E p e below _ s₁ (mkF m 1 #[rv aSTRICT, iv p1] [.ref aSTRICT])
  obtain ⟨T1, X1, e1, st1⟩ := getS2 X0 hx hZ hown (host := "") (Or.inl (own_w hw 8 rfl)) Via.refl e0 S_LENIENT (g := (mkF m 1 #[rv aSTRICT, iv p1] [.ref aSTRICT])) rfl (hb hby own_d_prog_34_method_6_1)
  refine own_st st1 ?_
  show own_E p e below _ T1 (mkF m 4 #[rv aSTRICT, iv p1] [.ref aLENIENT, .ref aSTRICT])
  refine own_st (fun t k => Jvm.RoadKit.acmp (g := (mkF m 4 #[rv aSTRICT, iv p1] [.ref aLENIENT, .ref aSTRICT])) X1 hx rfl rfl rfl (pc0 := 4) (pc' := 23) (same := false) rfl (hb hby own_d_prog_34_method_6_4) rfl (decide_eq_false fun q => ne_LENIENT_STRICT (Value.ref.inj q).symm) (by decide) (by decide) k) ?_
  show own_E p e below _ T1 (mkF m 23 #[rv aSTRICT, iv p1] [])
  refine own_st (fun t k => XS.iconst X1.here hx rfl (hb hby own_d_prog_34_method_6_23) k) ?_
  show own_E p e below _ T1 (mkF m 24 #[rv aSTRICT, iv p1] [.int 0])
  refine own_retS X1 hx Bd.notSynchronized Bd.returns rfl (by decide) (hb hby own_d_prog_34_method_6_24) (by decide) (by decide) ?_
  exact ⟨rfl, e1, rfl⟩
theorem own_pd_0 : parseMethodDescriptor "(C)Z" = some ⟨[.char], some .boolean⟩ := by decide +kernel
def own_law_Q (n0 : Nat) (v : Option Value) (h : Heap) (L : List Loc) : Prop := v = some (.int 1) ∧ Fr n0 L
theorem own_pn_ReadingIsBlankPinLaw : plainName "serialis/text/ReadingIsBlankPinLaw" = true := by first | (simp [plainName, overriddenIn]; done) | decide +kernel
theorem own_law_ef (m : MethodId) (aLENIENT : Addr) (aSTRICT : Addr) (p1 : Int32) (p2 : Int32) : entryFrame m #[(.int p1), (.int p2)] maxLocals = mkF m 0 #[.val (.int p1), .val (.int p2), .unset, .unset, .unset, .unset, .unset] [] := by first | (simp [entryFrame, mkF, argsToLocals, Value.category, maxLocals]; done) | rfl
set_option maxRecDepth 65536 in
set_option maxHeartbeats 40000000 in
theorem own_law (l : Launch) (Z : State) (a0 : Array Value) (hw : ∀ d ∈ tables_1, d.before a0 Z = true) (ws : List Jvm.Cond) (aLENIENT : Addr) (aSTRICT : Addr) (p1 : Int32) (p2 : Int32) (h0 : Heap) (n0 : Nat) (Z0 : n0 ≤ h0.size) (S_LENIENT : Sta Z h0 "serialis/text/Reading" "LENIENT" "Lserialis/text/Reading;" (.ref aLENIENT)) (S_STRICT : Sta Z h0 "serialis/text/Reading" "STRICT" "Lserialis/text/Reading;" (.ref aSTRICT)) (E_LENIENT : Exa Z h0 aLENIENT "serialis/text/Reading") (E_STRICT : Exa Z h0 aSTRICT "serialis/text/Reading") (ne_LENIENT_STRICT : ¬ aLENIENT = aSTRICT) :
    MetFree l x (head1 (Jvm.Cond.code x code maxLocals ret :: ws) room_1) (fun a U => a = #[(.int p1), (.int p2)] ∧ Z.Warmed39 U.vm ∧ U.heap = h0) (fun _ _ _ _ _ => True) (fun _ U o U' => ∃ v L, o = .returned v ∧ own_law_Q n0 v U'.heap L ∧ FrameEnd U o U' L room_1.cells room_1.slots) := by
  refine MetFree.of_bodySF (plainFor_of_name own_pn_ReadingIsBlankPinLaw) hisR ?_
  intro p e s m args below meth c s₁ Bd hml0 hP hK
  obtain ⟨rfl, hZ, hh⟩ := hP
  have hx := Bd.exec
  have hby := Bd.bytes
  have hml : c.maxLocals = 7 := hml0
  have hown : s.vm.findClass "serialis/text/ReadingIsBlankPinLaw" = some m.cls := findClass_of_methodNamed Bd.named
  have hnm := (name_of_methodNamed Bd.named Bd.method).1
  have X0 : Stand p l e room_1 s m #[(.int p1), (.int p2)] below meth c s₁ [] 0 0 := Stand.of_body Bd
  have e0 : s₁.heap = h0 := by rw [← hh, Bd.state]; rfl
  show own_E p e below (own_K (own_law_Q n0) s room_1.cells room_1.slots) s₁ (entryFrame m #[(.int p1), (.int p2)] maxLocals)
  refine own_pre (own_law_ef m aLENIENT aSTRICT p1 p2) ?_
  show own_E p e below _ s₁ (mkF m 0 #[iv p1, iv p2, .unset, .unset, .unset, .unset, .unset] [])
  refine own_st (fun t k => XS.iloadN X0.here hx rfl (hb hby at_0) rfl k) ?_
  show own_E p e below _ s₁ (mkF m 1 #[iv p1, iv p2, .unset, .unset, .unset, .unset, .unset] [.int p2])
  refine own_st (fun t k => XS.iconst X0.here hx rfl (hb hby at_1) k) ?_
  show own_E p e below _ s₁ (mkF m 2 #[iv p1, iv p2, .unset, .unset, .unset, .unset, .unset] [.int 3, .int p2])
  refine own_st (fun t k => XS.iand X0.here hx rfl (hb hby at_2) rfl k) ?_
  show own_E p e below _ s₁ (mkF m 3 #[iv p1, iv p2, .unset, .unset, .unset, .unset, .unset] [.int (p2 &&& (3 : Int32))])
  refine own_st (fun t k => XS.istoreN X0.here hx rfl (hb hby at_3) rfl (l' := #[iv p1, iv p2, iv (p2 &&& (3 : Int32)), .unset, .unset, .unset, .unset]) rfl k) ?_
  show own_E p e below _ s₁ (mkF m 4 #[iv p1, iv p2, iv (p2 &&& (3 : Int32)), .unset, .unset, .unset, .unset] [])
  refine own_st (fun t k => XS.iloadN X0.here hx rfl (hb hby at_4) rfl k) ?_
  show own_E p e below _ s₁ (mkF m 5 #[iv p1, iv p2, iv (p2 &&& (3 : Int32)), .unset, .unset, .unset, .unset] [.int (p2 &&& (3 : Int32))])
  by_cases hc1 : (p2 &&& (3 : Int32)) = (0 : Int32)
  · refine own_st (fun t k => XS.ifNo X0.here hx rfl (hb hby at_5) rfl ((if0 _ _).trans (teq hc1).2) k) ?_
    show own_E p e below _ s₁ (mkF m 8 #[iv p1, iv p2, iv (p2 &&& (3 : Int32)), .unset, .unset, .unset, .unset] [])
    refine own_st (fun t k => XS.bipush X0.here hx rfl (hb hby at_8) k) ?_
    show own_E p e below _ s₁ (mkF m 10 #[iv p1, iv p2, iv (p2 &&& (3 : Int32)), .unset, .unset, .unset, .unset] [.int 32])
    refine own_st (fun t k => XS.istoreN X0.here hx rfl (hb hby at_10) rfl (l' := #[iv p1, iv p2, iv (p2 &&& (3 : Int32)), iv 32, .unset, .unset, .unset]) rfl k) ?_
    show own_E p e below _ s₁ (mkF m 11 #[iv p1, iv p2, iv (p2 &&& (3 : Int32)), iv 32, .unset, .unset, .unset] [])
    refine own_st (fun t k => XS.goto X0.here hx rfl (pc0 := 11) (pc' := 45) rfl (hb hby at_11) (by decide) (by decide) k) ?_
    show own_E p e below _ s₁ (mkF m 45 #[iv p1, iv p2, iv (p2 &&& (3 : Int32)), iv 32, .unset, .unset, .unset] [])
    refine own_st (fun t k => XS.iloadN X0.here hx rfl (hb hby at_45) rfl k) ?_
    show own_E p e below _ s₁ (mkF m 46 #[iv p1, iv p2, iv (p2 &&& (3 : Int32)), iv 32, .unset, .unset, .unset] [.int 32])
    refine own_st (fun t k => XS.bipush X0.here hx rfl (hb hby at_46) k) ?_
    show own_E p e below _ s₁ (mkF m 48 #[iv p1, iv p2, iv (p2 &&& (3 : Int32)), iv 32, .unset, .unset, .unset] [.int 32, .int 32])
    refine own_st (fun t k => XS.icmpYes X0.here hx rfl (pc0 := 48) (pc' := 57) rfl (hb hby at_48) rfl (by decide) (by decide) (by decide) k) ?_
    show own_E p e below _ s₁ (mkF m 57 #[iv p1, iv p2, iv (p2 &&& (3 : Int32)), iv 32, .unset, .unset, .unset] [])
    refine own_st (fun t k => XS.iconst X0.here hx rfl (hb hby at_57) k) ?_
    show own_E p e below _ s₁ (mkF m 58 #[iv p1, iv p2, iv (p2 &&& (3 : Int32)), iv 32, .unset, .unset, .unset] [.int 1])
    refine own_st (fun t k => XS.goto X0.here hx rfl (pc0 := 58) (pc' := 62) rfl (hb hby at_58) (by decide) (by decide) k) ?_
    show own_E p e below _ s₁ (mkF m 62 #[iv p1, iv p2, iv (p2 &&& (3 : Int32)), iv 32, .unset, .unset, .unset] [.int 1])
    refine own_st (fun t k => XS.istore X0.here hx rfl (hb hby at_62) rfl (l' := #[iv p1, iv p2, iv (p2 &&& (3 : Int32)), iv 32, iv 1, .unset, .unset]) rfl k) ?_
    show own_E p e below _ s₁ (mkF m 64 #[iv p1, iv p2, iv (p2 &&& (3 : Int32)), iv 32, iv 1, .unset, .unset] [])
    obtain ⟨T2, X2, e2, st2⟩ := getS2 X0 hx hZ hown (host := "") (Or.inl (own_w hw 0 rfl)) Via.refl e0 S_LENIENT (g := (mkF m 64 #[iv p1, iv p2, iv (p2 &&& (3 : Int32)), iv 32, iv 1, .unset, .unset] [])) rfl (hb hby at_64)
    refine own_st st2 ?_
    show own_E p e below _ T2 (mkF m 67 #[iv p1, iv p2, iv (p2 &&& (3 : Int32)), iv 32, iv 1, .unset, .unset] [.ref aLENIENT])
    refine own_st (fun t k => XS.iloadN X2.here hx rfl (hb hby at_67) rfl k) ?_
    show own_E p e below _ T2 (mkF m 68 #[iv p1, iv p2, iv (p2 &&& (3 : Int32)), iv 32, iv 1, .unset, .unset] [.int 32, .ref aLENIENT])
    obtain ⟨cq3, kq3, q3a, q3b, q3c⟩ := isOf hZ e2 E_LENIENT
    obtain ⟨_, _, ⟨T3, L3, k3, n3⟩, -, X3, ⟨Lc3, hQ3, l3, y3, z3⟩, st3⟩ := X2.virtualBack hx (y := own_y0) (z := own_y0) hown (mvT hZ (own_w hw 3 rfl)) (mvT hZ (own_w hw 4 rfl)) (notFace_of_selects (args := #[]) (mvT hZ (own_w hw 6 rfl))) (mvT hZ (own_w hw 6 rfl)) (mvT hZ (own_w hw 5 rfl)) (by decide) (backOf (W := 0) (own_blank_LENIENT l Z a0 hw [] aLENIENT aSTRICT (32 : Int32) h0 n0 Z0 S_LENIENT S_STRICT E_LENIENT E_STRICT ne_LENIENT_STRICT) hZ (own_w hw 7 rfl) (own_w hw 1 rfl) (by decide) (by decide)) q3a q3c (g := (mkF m 68 #[iv p1, iv p2, iv (p2 &&& (3 : Int32)), iv 32, iv 1, .unset, .unset] [.int 32, .ref aLENIENT])) rfl (by rw [hml]; rfl) (Steps.refl _) (argsL := [(.int (32 : Int32))]) (rest := []) (lenOf own_pd_0 rfl) rfl (by show 2 * 0 + _ ≤ _; exact Nat.le_of_eq rfl) (hb hby at_68) (fun _ _ => ⟨rfl, e2, (by decide : 0 + 0 ≤ _), (by decide : 0 + 0 ≤ _)⟩)
    dsimp only [Pt.U, Pt.locs, Pt.cells, Pt.slots] at X3 l3 y3 z3 st3 hQ3
    subst l3 y3 z3
    obtain ⟨hR3, e3, rfl⟩ := hQ3
    rcases hR3 with ⟨rfl, ha3_0⟩ | ⟨rfl, ha3_0, ha3_1⟩ | ⟨rfl, ha3_0, ha3_1⟩
    · refine own_tr st3 ?_
      show own_E p e below _ T3 (mkF m 71 #[iv p1, iv p2, iv (p2 &&& (3 : Int32)), iv 32, iv 1, .unset, .unset] [.int 1])
      refine own_st (fun t k => XS.iload X3.here hx rfl (hb hby at_71) rfl k) ?_
      show own_E p e below _ T3 (mkF m 73 #[iv p1, iv p2, iv (p2 &&& (3 : Int32)), iv 32, iv 1, .unset, .unset] [.int 1, .int 1])
      refine own_st (fun t k => XS.icmpNo X3.here hx rfl (hb hby at_73) rfl (by decide) k) ?_
      show own_E p e below _ T3 (mkF m 76 #[iv p1, iv p2, iv (p2 &&& (3 : Int32)), iv 32, iv 1, .unset, .unset] [])
      refine own_st (fun t k => XS.iconst X3.here hx rfl (hb hby at_76) k) ?_
      show own_E p e below _ T3 (mkF m 77 #[iv p1, iv p2, iv (p2 &&& (3 : Int32)), iv 32, iv 1, .unset, .unset] [.int 1])
      refine own_st (fun t k => XS.goto X3.here hx rfl (pc0 := 77) (pc' := 81) rfl (hb hby at_77) (by decide) (by decide) k) ?_
      show own_E p e below _ T3 (mkF m 81 #[iv p1, iv p2, iv (p2 &&& (3 : Int32)), iv 32, iv 1, .unset, .unset] [.int 1])
      refine own_st (fun t k => XS.istore X3.here hx rfl (hb hby at_81) rfl (l' := #[iv p1, iv p2, iv (p2 &&& (3 : Int32)), iv 32, iv 1, iv 1, .unset]) rfl k) ?_
      show own_E p e below _ T3 (mkF m 83 #[iv p1, iv p2, iv (p2 &&& (3 : Int32)), iv 32, iv 1, iv 1, .unset] [])
      obtain ⟨T4, X4, e4, st4⟩ := getS2 X3 hx hZ hown (host := "") (Or.inl (own_w hw 9 rfl)) Via.refl e3 S_STRICT (g := (mkF m 83 #[iv p1, iv p2, iv (p2 &&& (3 : Int32)), iv 32, iv 1, iv 1, .unset] [])) rfl (hb hby at_83)
      refine own_st st4 ?_
      show own_E p e below _ T4 (mkF m 86 #[iv p1, iv p2, iv (p2 &&& (3 : Int32)), iv 32, iv 1, iv 1, .unset] [.ref aSTRICT])
      refine own_st (fun t k => XS.iloadN X4.here hx rfl (hb hby at_86) rfl k) ?_
      show own_E p e below _ T4 (mkF m 87 #[iv p1, iv p2, iv (p2 &&& (3 : Int32)), iv 32, iv 1, iv 1, .unset] [.int 32, .ref aSTRICT])
      obtain ⟨cq5, kq5, q5a, q5b, q5c⟩ := isOf hZ e4 E_STRICT
      obtain ⟨_, _, ⟨T5, L5, k5, n5⟩, -, X5, ⟨Lc5, hQ5, l5, y5, z5⟩, st5⟩ := X4.virtualBack hx (y := own_y0) (z := own_y0) hown (mvT hZ (own_w hw 3 rfl)) (mvT hZ (own_w hw 4 rfl)) (notFace_of_selects (args := #[]) (mvT hZ (own_w hw 6 rfl))) (mvT hZ (own_w hw 6 rfl)) (mvT hZ (own_w hw 5 rfl)) (by decide) (backOf (W := 0) (own_blank_STRICT l Z a0 hw [] aLENIENT aSTRICT (32 : Int32) h0 n0 Z0 S_LENIENT S_STRICT E_LENIENT E_STRICT ne_LENIENT_STRICT) hZ (own_w hw 7 rfl) (own_w hw 1 rfl) (by decide) (by decide)) q5a q5c (g := (mkF m 87 #[iv p1, iv p2, iv (p2 &&& (3 : Int32)), iv 32, iv 1, iv 1, .unset] [.int 32, .ref aSTRICT])) rfl (by rw [hml]; rfl) (Steps.refl _) (argsL := [(.int (32 : Int32))]) (rest := []) (lenOf own_pd_0 rfl) rfl (by show 2 * 0 + _ ≤ _; exact Nat.le_of_eq rfl) (hb hby at_87) (fun _ _ => ⟨rfl, e4, (by decide : 0 + 0 ≤ _), (by decide : 0 + 0 ≤ _)⟩)
      dsimp only [Pt.U, Pt.locs, Pt.cells, Pt.slots] at X5 l5 y5 z5 st5 hQ5
      subst l5 y5 z5
      obtain ⟨hR5, e5, rfl⟩ := hQ5
      obtain rfl := hR5
      refine own_tr st5 ?_
      show own_E p e below _ T5 (mkF m 90 #[iv p1, iv p2, iv (p2 &&& (3 : Int32)), iv 32, iv 1, iv 1, .unset] [.int 0])
      refine own_st (fun t k => XS.ifNo X5.here hx rfl (hb hby at_90) rfl (by decide) k) ?_
      show own_E p e below _ T5 (mkF m 93 #[iv p1, iv p2, iv (p2 &&& (3 : Int32)), iv 32, iv 1, iv 1, .unset] [])
      refine own_st (fun t k => XS.iconst X5.here hx rfl (hb hby at_93) k) ?_
      show own_E p e below _ T5 (mkF m 94 #[iv p1, iv p2, iv (p2 &&& (3 : Int32)), iv 32, iv 1, iv 1, .unset] [.int 1])
      refine own_st (fun t k => XS.goto X5.here hx rfl (pc0 := 94) (pc' := 98) rfl (hb hby at_94) (by decide) (by decide) k) ?_
      show own_E p e below _ T5 (mkF m 98 #[iv p1, iv p2, iv (p2 &&& (3 : Int32)), iv 32, iv 1, iv 1, .unset] [.int 1])
      refine own_st (fun t k => XS.istore X5.here hx rfl (hb hby at_98) rfl (l' := #[iv p1, iv p2, iv (p2 &&& (3 : Int32)), iv 32, iv 1, iv 1, iv 1]) rfl k) ?_
      show own_E p e below _ T5 (mkF m 100 #[iv p1, iv p2, iv (p2 &&& (3 : Int32)), iv 32, iv 1, iv 1, iv 1] [])
      refine own_st (fun t k => XS.iload X5.here hx rfl (hb hby at_100) rfl k) ?_
      show own_E p e below _ T5 (mkF m 102 #[iv p1, iv p2, iv (p2 &&& (3 : Int32)), iv 32, iv 1, iv 1, iv 1] [.int 1])
      refine own_st (fun t k => XS.ifNo X5.here hx rfl (hb hby at_102) rfl (by decide) k) ?_
      show own_E p e below _ T5 (mkF m 105 #[iv p1, iv p2, iv (p2 &&& (3 : Int32)), iv 32, iv 1, iv 1, iv 1] [])
      refine own_st (fun t k => XS.iload X5.here hx rfl (hb hby at_105) rfl k) ?_
      show own_E p e below _ T5 (mkF m 107 #[iv p1, iv p2, iv (p2 &&& (3 : Int32)), iv 32, iv 1, iv 1, iv 1] [.int 1])
      refine own_st (fun t k => XS.ifNo X5.here hx rfl (hb hby at_107) rfl (by decide) k) ?_
      show own_E p e below _ T5 (mkF m 110 #[iv p1, iv p2, iv (p2 &&& (3 : Int32)), iv 32, iv 1, iv 1, iv 1] [])
      refine own_st (fun t k => XS.iconst X5.here hx rfl (hb hby at_110) k) ?_
      show own_E p e below _ T5 (mkF m 111 #[iv p1, iv p2, iv (p2 &&& (3 : Int32)), iv 32, iv 1, iv 1, iv 1] [.int 1])
      refine own_st (fun t k => XS.goto X5.here hx rfl (pc0 := 111) (pc' := 115) rfl (hb hby at_111) (by decide) (by decide) k) ?_
      show own_E p e below _ T5 (mkF m 115 #[iv p1, iv p2, iv (p2 &&& (3 : Int32)), iv 32, iv 1, iv 1, iv 1] [.int 1])
      refine own_retS X5 hx Bd.notSynchronized Bd.returns rfl (by decide) (hb hby at_115) (by decide) (by decide) ?_
      exact ⟨rfl, fun y hy => by simp at hy⟩
    · exact absurd ha3_0 (by decide)
    · exact absurd ha3_0 (by decide)
  · refine own_st (fun t k => XS.ifYes X0.here hx rfl (pc0 := 5) (pc' := 14) rfl (hb hby at_5) rfl ((if0 _ _).trans (feq hc1).2) (by decide) (by decide) k) ?_
    show own_E p e below _ s₁ (mkF m 14 #[iv p1, iv p2, iv (p2 &&& (3 : Int32)), .unset, .unset, .unset, .unset] [])
    refine own_st (fun t k => XS.iloadN X0.here hx rfl (hb hby at_14) rfl k) ?_
    show own_E p e below _ s₁ (mkF m 15 #[iv p1, iv p2, iv (p2 &&& (3 : Int32)), .unset, .unset, .unset, .unset] [.int (p2 &&& (3 : Int32))])
    refine own_st (fun t k => XS.iconst X0.here hx rfl (hb hby at_15) k) ?_
    show own_E p e below _ s₁ (mkF m 16 #[iv p1, iv p2, iv (p2 &&& (3 : Int32)), .unset, .unset, .unset, .unset] [.int 1, .int (p2 &&& (3 : Int32))])
    by_cases hc6 : (p2 &&& (3 : Int32)) = (1 : Int32)
    · refine own_st (fun t k => XS.icmpNo X0.here hx rfl (hb hby at_16) rfl (teq hc6).2 k) ?_
      show own_E p e below _ s₁ (mkF m 19 #[iv p1, iv p2, iv (p2 &&& (3 : Int32)), .unset, .unset, .unset, .unset] [])
      refine own_st (fun t k => XS.bipush X0.here hx rfl (hb hby at_19) k) ?_
      show own_E p e below _ s₁ (mkF m 21 #[iv p1, iv p2, iv (p2 &&& (3 : Int32)), .unset, .unset, .unset, .unset] [.int 9])
      refine own_st (fun t k => XS.istoreN X0.here hx rfl (hb hby at_21) rfl (l' := #[iv p1, iv p2, iv (p2 &&& (3 : Int32)), iv 9, .unset, .unset, .unset]) rfl k) ?_
      show own_E p e below _ s₁ (mkF m 22 #[iv p1, iv p2, iv (p2 &&& (3 : Int32)), iv 9, .unset, .unset, .unset] [])
      refine own_st (fun t k => XS.goto X0.here hx rfl (pc0 := 22) (pc' := 45) rfl (hb hby at_22) (by decide) (by decide) k) ?_
      show own_E p e below _ s₁ (mkF m 45 #[iv p1, iv p2, iv (p2 &&& (3 : Int32)), iv 9, .unset, .unset, .unset] [])
      refine own_st (fun t k => XS.iloadN X0.here hx rfl (hb hby at_45) rfl k) ?_
      show own_E p e below _ s₁ (mkF m 46 #[iv p1, iv p2, iv (p2 &&& (3 : Int32)), iv 9, .unset, .unset, .unset] [.int 9])
      refine own_st (fun t k => XS.bipush X0.here hx rfl (hb hby at_46) k) ?_
      show own_E p e below _ s₁ (mkF m 48 #[iv p1, iv p2, iv (p2 &&& (3 : Int32)), iv 9, .unset, .unset, .unset] [.int 32, .int 9])
      refine own_st (fun t k => XS.icmpNo X0.here hx rfl (hb hby at_48) rfl (by decide) k) ?_
      show own_E p e below _ s₁ (mkF m 51 #[iv p1, iv p2, iv (p2 &&& (3 : Int32)), iv 9, .unset, .unset, .unset] [])
      refine own_st (fun t k => XS.iloadN X0.here hx rfl (hb hby at_51) rfl k) ?_
      show own_E p e below _ s₁ (mkF m 52 #[iv p1, iv p2, iv (p2 &&& (3 : Int32)), iv 9, .unset, .unset, .unset] [.int 9])
      refine own_st (fun t k => XS.bipush X0.here hx rfl (hb hby at_52) k) ?_
      show own_E p e below _ s₁ (mkF m 54 #[iv p1, iv p2, iv (p2 &&& (3 : Int32)), iv 9, .unset, .unset, .unset] [.int 9, .int 9])
      refine own_st (fun t k => XS.icmpNo X0.here hx rfl (hb hby at_54) rfl (by decide) k) ?_
      show own_E p e below _ s₁ (mkF m 57 #[iv p1, iv p2, iv (p2 &&& (3 : Int32)), iv 9, .unset, .unset, .unset] [])
      refine own_st (fun t k => XS.iconst X0.here hx rfl (hb hby at_57) k) ?_
      show own_E p e below _ s₁ (mkF m 58 #[iv p1, iv p2, iv (p2 &&& (3 : Int32)), iv 9, .unset, .unset, .unset] [.int 1])
      refine own_st (fun t k => XS.goto X0.here hx rfl (pc0 := 58) (pc' := 62) rfl (hb hby at_58) (by decide) (by decide) k) ?_
      show own_E p e below _ s₁ (mkF m 62 #[iv p1, iv p2, iv (p2 &&& (3 : Int32)), iv 9, .unset, .unset, .unset] [.int 1])
      refine own_st (fun t k => XS.istore X0.here hx rfl (hb hby at_62) rfl (l' := #[iv p1, iv p2, iv (p2 &&& (3 : Int32)), iv 9, iv 1, .unset, .unset]) rfl k) ?_
      show own_E p e below _ s₁ (mkF m 64 #[iv p1, iv p2, iv (p2 &&& (3 : Int32)), iv 9, iv 1, .unset, .unset] [])
      obtain ⟨T7, X7, e7, st7⟩ := getS2 X0 hx hZ hown (host := "") (Or.inl (own_w hw 0 rfl)) Via.refl e0 S_LENIENT (g := (mkF m 64 #[iv p1, iv p2, iv (p2 &&& (3 : Int32)), iv 9, iv 1, .unset, .unset] [])) rfl (hb hby at_64)
      refine own_st st7 ?_
      show own_E p e below _ T7 (mkF m 67 #[iv p1, iv p2, iv (p2 &&& (3 : Int32)), iv 9, iv 1, .unset, .unset] [.ref aLENIENT])
      refine own_st (fun t k => XS.iloadN X7.here hx rfl (hb hby at_67) rfl k) ?_
      show own_E p e below _ T7 (mkF m 68 #[iv p1, iv p2, iv (p2 &&& (3 : Int32)), iv 9, iv 1, .unset, .unset] [.int 9, .ref aLENIENT])
      obtain ⟨cq8, kq8, q8a, q8b, q8c⟩ := isOf hZ e7 E_LENIENT
      obtain ⟨_, _, ⟨T8, L8, k8, n8⟩, -, X8, ⟨Lc8, hQ8, l8, y8, z8⟩, st8⟩ := X7.virtualBack hx (y := own_y0) (z := own_y0) hown (mvT hZ (own_w hw 3 rfl)) (mvT hZ (own_w hw 4 rfl)) (notFace_of_selects (args := #[]) (mvT hZ (own_w hw 6 rfl))) (mvT hZ (own_w hw 6 rfl)) (mvT hZ (own_w hw 5 rfl)) (by decide) (backOf (W := 0) (own_blank_LENIENT l Z a0 hw [] aLENIENT aSTRICT (9 : Int32) h0 n0 Z0 S_LENIENT S_STRICT E_LENIENT E_STRICT ne_LENIENT_STRICT) hZ (own_w hw 7 rfl) (own_w hw 1 rfl) (by decide) (by decide)) q8a q8c (g := (mkF m 68 #[iv p1, iv p2, iv (p2 &&& (3 : Int32)), iv 9, iv 1, .unset, .unset] [.int 9, .ref aLENIENT])) rfl (by rw [hml]; rfl) (Steps.refl _) (argsL := [(.int (9 : Int32))]) (rest := []) (lenOf own_pd_0 rfl) rfl (by show 2 * 0 + _ ≤ _; exact Nat.le_of_eq rfl) (hb hby at_68) (fun _ _ => ⟨rfl, e7, (by decide : 0 + 0 ≤ _), (by decide : 0 + 0 ≤ _)⟩)
      dsimp only [Pt.U, Pt.locs, Pt.cells, Pt.slots] at X8 l8 y8 z8 st8 hQ8
      subst l8 y8 z8
      obtain ⟨hR8, e8, rfl⟩ := hQ8
      rcases hR8 with ⟨rfl, ha8_0⟩ | ⟨rfl, ha8_0, ha8_1⟩ | ⟨rfl, ha8_0, ha8_1⟩
      · exact absurd ha8_0 (by decide)
      · refine own_tr st8 ?_
        show own_E p e below _ T8 (mkF m 71 #[iv p1, iv p2, iv (p2 &&& (3 : Int32)), iv 9, iv 1, .unset, .unset] [.int 1])
        refine own_st (fun t k => XS.iload X8.here hx rfl (hb hby at_71) rfl k) ?_
        show own_E p e below _ T8 (mkF m 73 #[iv p1, iv p2, iv (p2 &&& (3 : Int32)), iv 9, iv 1, .unset, .unset] [.int 1, .int 1])
        refine own_st (fun t k => XS.icmpNo X8.here hx rfl (hb hby at_73) rfl (by decide) k) ?_
        show own_E p e below _ T8 (mkF m 76 #[iv p1, iv p2, iv (p2 &&& (3 : Int32)), iv 9, iv 1, .unset, .unset] [])
        refine own_st (fun t k => XS.iconst X8.here hx rfl (hb hby at_76) k) ?_
        show own_E p e below _ T8 (mkF m 77 #[iv p1, iv p2, iv (p2 &&& (3 : Int32)), iv 9, iv 1, .unset, .unset] [.int 1])
        refine own_st (fun t k => XS.goto X8.here hx rfl (pc0 := 77) (pc' := 81) rfl (hb hby at_77) (by decide) (by decide) k) ?_
        show own_E p e below _ T8 (mkF m 81 #[iv p1, iv p2, iv (p2 &&& (3 : Int32)), iv 9, iv 1, .unset, .unset] [.int 1])
        refine own_st (fun t k => XS.istore X8.here hx rfl (hb hby at_81) rfl (l' := #[iv p1, iv p2, iv (p2 &&& (3 : Int32)), iv 9, iv 1, iv 1, .unset]) rfl k) ?_
        show own_E p e below _ T8 (mkF m 83 #[iv p1, iv p2, iv (p2 &&& (3 : Int32)), iv 9, iv 1, iv 1, .unset] [])
        obtain ⟨T9, X9, e9, st9⟩ := getS2 X8 hx hZ hown (host := "") (Or.inl (own_w hw 9 rfl)) Via.refl e8 S_STRICT (g := (mkF m 83 #[iv p1, iv p2, iv (p2 &&& (3 : Int32)), iv 9, iv 1, iv 1, .unset] [])) rfl (hb hby at_83)
        refine own_st st9 ?_
        show own_E p e below _ T9 (mkF m 86 #[iv p1, iv p2, iv (p2 &&& (3 : Int32)), iv 9, iv 1, iv 1, .unset] [.ref aSTRICT])
        refine own_st (fun t k => XS.iloadN X9.here hx rfl (hb hby at_86) rfl k) ?_
        show own_E p e below _ T9 (mkF m 87 #[iv p1, iv p2, iv (p2 &&& (3 : Int32)), iv 9, iv 1, iv 1, .unset] [.int 9, .ref aSTRICT])
        obtain ⟨cq10, kq10, q10a, q10b, q10c⟩ := isOf hZ e9 E_STRICT
        obtain ⟨_, _, ⟨T10, L10, k10, n10⟩, -, X10, ⟨Lc10, hQ10, l10, y10, z10⟩, st10⟩ := X9.virtualBack hx (y := own_y0) (z := own_y0) hown (mvT hZ (own_w hw 3 rfl)) (mvT hZ (own_w hw 4 rfl)) (notFace_of_selects (args := #[]) (mvT hZ (own_w hw 6 rfl))) (mvT hZ (own_w hw 6 rfl)) (mvT hZ (own_w hw 5 rfl)) (by decide) (backOf (W := 0) (own_blank_STRICT l Z a0 hw [] aLENIENT aSTRICT (9 : Int32) h0 n0 Z0 S_LENIENT S_STRICT E_LENIENT E_STRICT ne_LENIENT_STRICT) hZ (own_w hw 7 rfl) (own_w hw 1 rfl) (by decide) (by decide)) q10a q10c (g := (mkF m 87 #[iv p1, iv p2, iv (p2 &&& (3 : Int32)), iv 9, iv 1, iv 1, .unset] [.int 9, .ref aSTRICT])) rfl (by rw [hml]; rfl) (Steps.refl _) (argsL := [(.int (9 : Int32))]) (rest := []) (lenOf own_pd_0 rfl) rfl (by show 2 * 0 + _ ≤ _; exact Nat.le_of_eq rfl) (hb hby at_87) (fun _ _ => ⟨rfl, e9, (by decide : 0 + 0 ≤ _), (by decide : 0 + 0 ≤ _)⟩)
        dsimp only [Pt.U, Pt.locs, Pt.cells, Pt.slots] at X10 l10 y10 z10 st10 hQ10
        subst l10 y10 z10
        obtain ⟨hR10, e10, rfl⟩ := hQ10
        obtain rfl := hR10
        refine own_tr st10 ?_
        show own_E p e below _ T10 (mkF m 90 #[iv p1, iv p2, iv (p2 &&& (3 : Int32)), iv 9, iv 1, iv 1, .unset] [.int 0])
        refine own_st (fun t k => XS.ifNo X10.here hx rfl (hb hby at_90) rfl (by decide) k) ?_
        show own_E p e below _ T10 (mkF m 93 #[iv p1, iv p2, iv (p2 &&& (3 : Int32)), iv 9, iv 1, iv 1, .unset] [])
        refine own_st (fun t k => XS.iconst X10.here hx rfl (hb hby at_93) k) ?_
        show own_E p e below _ T10 (mkF m 94 #[iv p1, iv p2, iv (p2 &&& (3 : Int32)), iv 9, iv 1, iv 1, .unset] [.int 1])
        refine own_st (fun t k => XS.goto X10.here hx rfl (pc0 := 94) (pc' := 98) rfl (hb hby at_94) (by decide) (by decide) k) ?_
        show own_E p e below _ T10 (mkF m 98 #[iv p1, iv p2, iv (p2 &&& (3 : Int32)), iv 9, iv 1, iv 1, .unset] [.int 1])
        refine own_st (fun t k => XS.istore X10.here hx rfl (hb hby at_98) rfl (l' := #[iv p1, iv p2, iv (p2 &&& (3 : Int32)), iv 9, iv 1, iv 1, iv 1]) rfl k) ?_
        show own_E p e below _ T10 (mkF m 100 #[iv p1, iv p2, iv (p2 &&& (3 : Int32)), iv 9, iv 1, iv 1, iv 1] [])
        refine own_st (fun t k => XS.iload X10.here hx rfl (hb hby at_100) rfl k) ?_
        show own_E p e below _ T10 (mkF m 102 #[iv p1, iv p2, iv (p2 &&& (3 : Int32)), iv 9, iv 1, iv 1, iv 1] [.int 1])
        refine own_st (fun t k => XS.ifNo X10.here hx rfl (hb hby at_102) rfl (by decide) k) ?_
        show own_E p e below _ T10 (mkF m 105 #[iv p1, iv p2, iv (p2 &&& (3 : Int32)), iv 9, iv 1, iv 1, iv 1] [])
        refine own_st (fun t k => XS.iload X10.here hx rfl (hb hby at_105) rfl k) ?_
        show own_E p e below _ T10 (mkF m 107 #[iv p1, iv p2, iv (p2 &&& (3 : Int32)), iv 9, iv 1, iv 1, iv 1] [.int 1])
        refine own_st (fun t k => XS.ifNo X10.here hx rfl (hb hby at_107) rfl (by decide) k) ?_
        show own_E p e below _ T10 (mkF m 110 #[iv p1, iv p2, iv (p2 &&& (3 : Int32)), iv 9, iv 1, iv 1, iv 1] [])
        refine own_st (fun t k => XS.iconst X10.here hx rfl (hb hby at_110) k) ?_
        show own_E p e below _ T10 (mkF m 111 #[iv p1, iv p2, iv (p2 &&& (3 : Int32)), iv 9, iv 1, iv 1, iv 1] [.int 1])
        refine own_st (fun t k => XS.goto X10.here hx rfl (pc0 := 111) (pc' := 115) rfl (hb hby at_111) (by decide) (by decide) k) ?_
        show own_E p e below _ T10 (mkF m 115 #[iv p1, iv p2, iv (p2 &&& (3 : Int32)), iv 9, iv 1, iv 1, iv 1] [.int 1])
        refine own_retS X10 hx Bd.notSynchronized Bd.returns rfl (by decide) (hb hby at_115) (by decide) (by decide) ?_
        exact ⟨rfl, fun y hy => by simp at hy⟩
      · exact absurd ha8_1 (by decide)
    · refine own_st (fun t k => XS.icmpYes X0.here hx rfl (pc0 := 16) (pc' := 25) rfl (hb hby at_16) rfl (feq hc6).2 (by decide) (by decide) k) ?_
      show own_E p e below _ s₁ (mkF m 25 #[iv p1, iv p2, iv (p2 &&& (3 : Int32)), .unset, .unset, .unset, .unset] [])
      refine own_st (fun t k => XS.iloadN X0.here hx rfl (hb hby at_25) rfl k) ?_
      show own_E p e below _ s₁ (mkF m 26 #[iv p1, iv p2, iv (p2 &&& (3 : Int32)), .unset, .unset, .unset, .unset] [.int (p2 &&& (3 : Int32))])
      refine own_st (fun t k => XS.iconst X0.here hx rfl (hb hby at_26) k) ?_
      show own_E p e below _ s₁ (mkF m 27 #[iv p1, iv p2, iv (p2 &&& (3 : Int32)), .unset, .unset, .unset, .unset] [.int 2, .int (p2 &&& (3 : Int32))])
      by_cases hc11 : (p2 &&& (3 : Int32)) = (2 : Int32)
      · refine own_st (fun t k => XS.icmpNo X0.here hx rfl (hb hby at_27) rfl (teq hc11).2 k) ?_
        show own_E p e below _ s₁ (mkF m 30 #[iv p1, iv p2, iv (p2 &&& (3 : Int32)), .unset, .unset, .unset, .unset] [])
        refine own_st (fun t k => XS.iloadN X0.here hx rfl (hb hby at_30) rfl k) ?_
        show own_E p e below _ s₁ (mkF m 31 #[iv p1, iv p2, iv (p2 &&& (3 : Int32)), .unset, .unset, .unset, .unset] [.int p1])
        refine own_st (X0.ldcInt hx hown (mvT hZ (own_w hw 11 rfl)) (g := (mkF m 31 #[iv p1, iv p2, iv (p2 &&& (3 : Int32)), .unset, .unset, .unset, .unset] [.int p1])) rfl (hb hby at_31)) ?_
        show own_E p e below _ s₁ (mkF m 33 #[iv p1, iv p2, iv (p2 &&& (3 : Int32)), .unset, .unset, .unset, .unset] [.int 65535, .int p1])
        refine own_st (fun t k => XS.iand X0.here hx rfl (hb hby at_33) rfl k) ?_
        show own_E p e below _ s₁ (mkF m 34 #[iv p1, iv p2, iv (p2 &&& (3 : Int32)), .unset, .unset, .unset, .unset] [.int (p1 &&& (65535 : Int32))])
        refine own_st (fun t k => XS.i2c X0.here hx rfl (hb hby at_34) rfl k) ?_
        show own_E p e below _ s₁ (mkF m 35 #[iv p1, iv p2, iv (p2 &&& (3 : Int32)), .unset, .unset, .unset, .unset] [.int ((p1 &&& (65535 : Int32)).toUInt32.toUInt16.toUInt32.toInt32)])
        refine own_st (fun t k => XS.istoreN X0.here hx rfl (hb hby at_35) rfl (l' := #[iv p1, iv p2, iv (p2 &&& (3 : Int32)), iv ((p1 &&& (65535 : Int32)).toUInt32.toUInt16.toUInt32.toInt32), .unset, .unset, .unset]) rfl k) ?_
        show own_E p e below _ s₁ (mkF m 36 #[iv p1, iv p2, iv (p2 &&& (3 : Int32)), iv ((p1 &&& (65535 : Int32)).toUInt32.toUInt16.toUInt32.toInt32), .unset, .unset, .unset] [])
        refine own_st (fun t k => XS.goto X0.here hx rfl (pc0 := 36) (pc' := 45) rfl (hb hby at_36) (by decide) (by decide) k) ?_
        show own_E p e below _ s₁ (mkF m 45 #[iv p1, iv p2, iv (p2 &&& (3 : Int32)), iv ((p1 &&& (65535 : Int32)).toUInt32.toUInt16.toUInt32.toInt32), .unset, .unset, .unset] [])
        refine own_st (fun t k => XS.iloadN X0.here hx rfl (hb hby at_45) rfl k) ?_
        show own_E p e below _ s₁ (mkF m 46 #[iv p1, iv p2, iv (p2 &&& (3 : Int32)), iv ((p1 &&& (65535 : Int32)).toUInt32.toUInt16.toUInt32.toInt32), .unset, .unset, .unset] [.int ((p1 &&& (65535 : Int32)).toUInt32.toUInt16.toUInt32.toInt32)])
        refine own_st (fun t k => XS.bipush X0.here hx rfl (hb hby at_46) k) ?_
        show own_E p e below _ s₁ (mkF m 48 #[iv p1, iv p2, iv (p2 &&& (3 : Int32)), iv ((p1 &&& (65535 : Int32)).toUInt32.toUInt16.toUInt32.toInt32), .unset, .unset, .unset] [.int 32, .int ((p1 &&& (65535 : Int32)).toUInt32.toUInt16.toUInt32.toInt32)])
        by_cases hc12 : ((p1 &&& (65535 : Int32)).toUInt32.toUInt16.toUInt32.toInt32) = (32 : Int32)
        · refine own_st (fun t k => XS.icmpYes X0.here hx rfl (pc0 := 48) (pc' := 57) rfl (hb hby at_48) rfl (teq hc12).1 (by decide) (by decide) k) ?_
          show own_E p e below _ s₁ (mkF m 57 #[iv p1, iv p2, iv (p2 &&& (3 : Int32)), iv ((p1 &&& (65535 : Int32)).toUInt32.toUInt16.toUInt32.toInt32), .unset, .unset, .unset] [])
          refine own_st (fun t k => XS.iconst X0.here hx rfl (hb hby at_57) k) ?_
          show own_E p e below _ s₁ (mkF m 58 #[iv p1, iv p2, iv (p2 &&& (3 : Int32)), iv ((p1 &&& (65535 : Int32)).toUInt32.toUInt16.toUInt32.toInt32), .unset, .unset, .unset] [.int 1])
          refine own_st (fun t k => XS.goto X0.here hx rfl (pc0 := 58) (pc' := 62) rfl (hb hby at_58) (by decide) (by decide) k) ?_
          show own_E p e below _ s₁ (mkF m 62 #[iv p1, iv p2, iv (p2 &&& (3 : Int32)), iv ((p1 &&& (65535 : Int32)).toUInt32.toUInt16.toUInt32.toInt32), .unset, .unset, .unset] [.int 1])
          refine own_st (fun t k => XS.istore X0.here hx rfl (hb hby at_62) rfl (l' := #[iv p1, iv p2, iv (p2 &&& (3 : Int32)), iv ((p1 &&& (65535 : Int32)).toUInt32.toUInt16.toUInt32.toInt32), iv 1, .unset, .unset]) rfl k) ?_
          show own_E p e below _ s₁ (mkF m 64 #[iv p1, iv p2, iv (p2 &&& (3 : Int32)), iv ((p1 &&& (65535 : Int32)).toUInt32.toUInt16.toUInt32.toInt32), iv 1, .unset, .unset] [])
          obtain ⟨T13, X13, e13, st13⟩ := getS2 X0 hx hZ hown (host := "") (Or.inl (own_w hw 0 rfl)) Via.refl e0 S_LENIENT (g := (mkF m 64 #[iv p1, iv p2, iv (p2 &&& (3 : Int32)), iv ((p1 &&& (65535 : Int32)).toUInt32.toUInt16.toUInt32.toInt32), iv 1, .unset, .unset] [])) rfl (hb hby at_64)
          refine own_st st13 ?_
          show own_E p e below _ T13 (mkF m 67 #[iv p1, iv p2, iv (p2 &&& (3 : Int32)), iv ((p1 &&& (65535 : Int32)).toUInt32.toUInt16.toUInt32.toInt32), iv 1, .unset, .unset] [.ref aLENIENT])
          refine own_st (fun t k => XS.iloadN X13.here hx rfl (hb hby at_67) rfl k) ?_
          show own_E p e below _ T13 (mkF m 68 #[iv p1, iv p2, iv (p2 &&& (3 : Int32)), iv ((p1 &&& (65535 : Int32)).toUInt32.toUInt16.toUInt32.toInt32), iv 1, .unset, .unset] [.int ((p1 &&& (65535 : Int32)).toUInt32.toUInt16.toUInt32.toInt32), .ref aLENIENT])
          obtain ⟨cq14, kq14, q14a, q14b, q14c⟩ := isOf hZ e13 E_LENIENT
          obtain ⟨_, _, ⟨T14, L14, k14, n14⟩, -, X14, ⟨Lc14, hQ14, l14, y14, z14⟩, st14⟩ := X13.virtualBack hx (y := own_y0) (z := own_y0) hown (mvT hZ (own_w hw 3 rfl)) (mvT hZ (own_w hw 4 rfl)) (notFace_of_selects (args := #[]) (mvT hZ (own_w hw 6 rfl))) (mvT hZ (own_w hw 6 rfl)) (mvT hZ (own_w hw 5 rfl)) (by decide) (backOf (W := 0) (own_blank_LENIENT l Z a0 hw [] aLENIENT aSTRICT ((p1 &&& (65535 : Int32)).toUInt32.toUInt16.toUInt32.toInt32) h0 n0 Z0 S_LENIENT S_STRICT E_LENIENT E_STRICT ne_LENIENT_STRICT) hZ (own_w hw 7 rfl) (own_w hw 1 rfl) (by decide) (by decide)) q14a q14c (g := (mkF m 68 #[iv p1, iv p2, iv (p2 &&& (3 : Int32)), iv ((p1 &&& (65535 : Int32)).toUInt32.toUInt16.toUInt32.toInt32), iv 1, .unset, .unset] [.int ((p1 &&& (65535 : Int32)).toUInt32.toUInt16.toUInt32.toInt32), .ref aLENIENT])) rfl (by rw [hml]; rfl) (Steps.refl _) (argsL := [(.int ((p1 &&& (65535 : Int32)).toUInt32.toUInt16.toUInt32.toInt32))]) (rest := []) (lenOf own_pd_0 rfl) rfl (by show 2 * 0 + _ ≤ _; exact Nat.le_of_eq rfl) (hb hby at_68) (fun _ _ => ⟨rfl, e13, (by decide : 0 + 0 ≤ _), (by decide : 0 + 0 ≤ _)⟩)
          dsimp only [Pt.U, Pt.locs, Pt.cells, Pt.slots] at X14 l14 y14 z14 st14 hQ14
          subst l14 y14 z14
          obtain ⟨hR14, e14, rfl⟩ := hQ14
          rcases hR14 with ⟨rfl, ha14_0⟩ | ⟨rfl, ha14_0, ha14_1⟩ | ⟨rfl, ha14_0, ha14_1⟩
          · refine own_tr st14 ?_
            show own_E p e below _ T14 (mkF m 71 #[iv p1, iv p2, iv (p2 &&& (3 : Int32)), iv ((p1 &&& (65535 : Int32)).toUInt32.toUInt16.toUInt32.toInt32), iv 1, .unset, .unset] [.int 1])
            refine own_st (fun t k => XS.iload X14.here hx rfl (hb hby at_71) rfl k) ?_
            show own_E p e below _ T14 (mkF m 73 #[iv p1, iv p2, iv (p2 &&& (3 : Int32)), iv ((p1 &&& (65535 : Int32)).toUInt32.toUInt16.toUInt32.toInt32), iv 1, .unset, .unset] [.int 1, .int 1])
            refine own_st (fun t k => XS.icmpNo X14.here hx rfl (hb hby at_73) rfl (by decide) k) ?_
            show own_E p e below _ T14 (mkF m 76 #[iv p1, iv p2, iv (p2 &&& (3 : Int32)), iv ((p1 &&& (65535 : Int32)).toUInt32.toUInt16.toUInt32.toInt32), iv 1, .unset, .unset] [])
            refine own_st (fun t k => XS.iconst X14.here hx rfl (hb hby at_76) k) ?_
            show own_E p e below _ T14 (mkF m 77 #[iv p1, iv p2, iv (p2 &&& (3 : Int32)), iv ((p1 &&& (65535 : Int32)).toUInt32.toUInt16.toUInt32.toInt32), iv 1, .unset, .unset] [.int 1])
            refine own_st (fun t k => XS.goto X14.here hx rfl (pc0 := 77) (pc' := 81) rfl (hb hby at_77) (by decide) (by decide) k) ?_
            show own_E p e below _ T14 (mkF m 81 #[iv p1, iv p2, iv (p2 &&& (3 : Int32)), iv ((p1 &&& (65535 : Int32)).toUInt32.toUInt16.toUInt32.toInt32), iv 1, .unset, .unset] [.int 1])
            refine own_st (fun t k => XS.istore X14.here hx rfl (hb hby at_81) rfl (l' := #[iv p1, iv p2, iv (p2 &&& (3 : Int32)), iv ((p1 &&& (65535 : Int32)).toUInt32.toUInt16.toUInt32.toInt32), iv 1, iv 1, .unset]) rfl k) ?_
            show own_E p e below _ T14 (mkF m 83 #[iv p1, iv p2, iv (p2 &&& (3 : Int32)), iv ((p1 &&& (65535 : Int32)).toUInt32.toUInt16.toUInt32.toInt32), iv 1, iv 1, .unset] [])
            obtain ⟨T15, X15, e15, st15⟩ := getS2 X14 hx hZ hown (host := "") (Or.inl (own_w hw 9 rfl)) Via.refl e14 S_STRICT (g := (mkF m 83 #[iv p1, iv p2, iv (p2 &&& (3 : Int32)), iv ((p1 &&& (65535 : Int32)).toUInt32.toUInt16.toUInt32.toInt32), iv 1, iv 1, .unset] [])) rfl (hb hby at_83)
            refine own_st st15 ?_
            show own_E p e below _ T15 (mkF m 86 #[iv p1, iv p2, iv (p2 &&& (3 : Int32)), iv ((p1 &&& (65535 : Int32)).toUInt32.toUInt16.toUInt32.toInt32), iv 1, iv 1, .unset] [.ref aSTRICT])
            refine own_st (fun t k => XS.iloadN X15.here hx rfl (hb hby at_86) rfl k) ?_
            show own_E p e below _ T15 (mkF m 87 #[iv p1, iv p2, iv (p2 &&& (3 : Int32)), iv ((p1 &&& (65535 : Int32)).toUInt32.toUInt16.toUInt32.toInt32), iv 1, iv 1, .unset] [.int ((p1 &&& (65535 : Int32)).toUInt32.toUInt16.toUInt32.toInt32), .ref aSTRICT])
            obtain ⟨cq16, kq16, q16a, q16b, q16c⟩ := isOf hZ e15 E_STRICT
            obtain ⟨_, _, ⟨T16, L16, k16, n16⟩, -, X16, ⟨Lc16, hQ16, l16, y16, z16⟩, st16⟩ := X15.virtualBack hx (y := own_y0) (z := own_y0) hown (mvT hZ (own_w hw 3 rfl)) (mvT hZ (own_w hw 4 rfl)) (notFace_of_selects (args := #[]) (mvT hZ (own_w hw 6 rfl))) (mvT hZ (own_w hw 6 rfl)) (mvT hZ (own_w hw 5 rfl)) (by decide) (backOf (W := 0) (own_blank_STRICT l Z a0 hw [] aLENIENT aSTRICT ((p1 &&& (65535 : Int32)).toUInt32.toUInt16.toUInt32.toInt32) h0 n0 Z0 S_LENIENT S_STRICT E_LENIENT E_STRICT ne_LENIENT_STRICT) hZ (own_w hw 7 rfl) (own_w hw 1 rfl) (by decide) (by decide)) q16a q16c (g := (mkF m 87 #[iv p1, iv p2, iv (p2 &&& (3 : Int32)), iv ((p1 &&& (65535 : Int32)).toUInt32.toUInt16.toUInt32.toInt32), iv 1, iv 1, .unset] [.int ((p1 &&& (65535 : Int32)).toUInt32.toUInt16.toUInt32.toInt32), .ref aSTRICT])) rfl (by rw [hml]; rfl) (Steps.refl _) (argsL := [(.int ((p1 &&& (65535 : Int32)).toUInt32.toUInt16.toUInt32.toInt32))]) (rest := []) (lenOf own_pd_0 rfl) rfl (by show 2 * 0 + _ ≤ _; exact Nat.le_of_eq rfl) (hb hby at_87) (fun _ _ => ⟨rfl, e15, (by decide : 0 + 0 ≤ _), (by decide : 0 + 0 ≤ _)⟩)
            dsimp only [Pt.U, Pt.locs, Pt.cells, Pt.slots] at X16 l16 y16 z16 st16 hQ16
            subst l16 y16 z16
            obtain ⟨hR16, e16, rfl⟩ := hQ16
            obtain rfl := hR16
            refine own_tr st16 ?_
            show own_E p e below _ T16 (mkF m 90 #[iv p1, iv p2, iv (p2 &&& (3 : Int32)), iv ((p1 &&& (65535 : Int32)).toUInt32.toUInt16.toUInt32.toInt32), iv 1, iv 1, .unset] [.int 0])
            refine own_st (fun t k => XS.ifNo X16.here hx rfl (hb hby at_90) rfl (by decide) k) ?_
            show own_E p e below _ T16 (mkF m 93 #[iv p1, iv p2, iv (p2 &&& (3 : Int32)), iv ((p1 &&& (65535 : Int32)).toUInt32.toUInt16.toUInt32.toInt32), iv 1, iv 1, .unset] [])
            refine own_st (fun t k => XS.iconst X16.here hx rfl (hb hby at_93) k) ?_
            show own_E p e below _ T16 (mkF m 94 #[iv p1, iv p2, iv (p2 &&& (3 : Int32)), iv ((p1 &&& (65535 : Int32)).toUInt32.toUInt16.toUInt32.toInt32), iv 1, iv 1, .unset] [.int 1])
            refine own_st (fun t k => XS.goto X16.here hx rfl (pc0 := 94) (pc' := 98) rfl (hb hby at_94) (by decide) (by decide) k) ?_
            show own_E p e below _ T16 (mkF m 98 #[iv p1, iv p2, iv (p2 &&& (3 : Int32)), iv ((p1 &&& (65535 : Int32)).toUInt32.toUInt16.toUInt32.toInt32), iv 1, iv 1, .unset] [.int 1])
            refine own_st (fun t k => XS.istore X16.here hx rfl (hb hby at_98) rfl (l' := #[iv p1, iv p2, iv (p2 &&& (3 : Int32)), iv ((p1 &&& (65535 : Int32)).toUInt32.toUInt16.toUInt32.toInt32), iv 1, iv 1, iv 1]) rfl k) ?_
            show own_E p e below _ T16 (mkF m 100 #[iv p1, iv p2, iv (p2 &&& (3 : Int32)), iv ((p1 &&& (65535 : Int32)).toUInt32.toUInt16.toUInt32.toInt32), iv 1, iv 1, iv 1] [])
            refine own_st (fun t k => XS.iload X16.here hx rfl (hb hby at_100) rfl k) ?_
            show own_E p e below _ T16 (mkF m 102 #[iv p1, iv p2, iv (p2 &&& (3 : Int32)), iv ((p1 &&& (65535 : Int32)).toUInt32.toUInt16.toUInt32.toInt32), iv 1, iv 1, iv 1] [.int 1])
            refine own_st (fun t k => XS.ifNo X16.here hx rfl (hb hby at_102) rfl (by decide) k) ?_
            show own_E p e below _ T16 (mkF m 105 #[iv p1, iv p2, iv (p2 &&& (3 : Int32)), iv ((p1 &&& (65535 : Int32)).toUInt32.toUInt16.toUInt32.toInt32), iv 1, iv 1, iv 1] [])
            refine own_st (fun t k => XS.iload X16.here hx rfl (hb hby at_105) rfl k) ?_
            show own_E p e below _ T16 (mkF m 107 #[iv p1, iv p2, iv (p2 &&& (3 : Int32)), iv ((p1 &&& (65535 : Int32)).toUInt32.toUInt16.toUInt32.toInt32), iv 1, iv 1, iv 1] [.int 1])
            refine own_st (fun t k => XS.ifNo X16.here hx rfl (hb hby at_107) rfl (by decide) k) ?_
            show own_E p e below _ T16 (mkF m 110 #[iv p1, iv p2, iv (p2 &&& (3 : Int32)), iv ((p1 &&& (65535 : Int32)).toUInt32.toUInt16.toUInt32.toInt32), iv 1, iv 1, iv 1] [])
            refine own_st (fun t k => XS.iconst X16.here hx rfl (hb hby at_110) k) ?_
            show own_E p e below _ T16 (mkF m 111 #[iv p1, iv p2, iv (p2 &&& (3 : Int32)), iv ((p1 &&& (65535 : Int32)).toUInt32.toUInt16.toUInt32.toInt32), iv 1, iv 1, iv 1] [.int 1])
            refine own_st (fun t k => XS.goto X16.here hx rfl (pc0 := 111) (pc' := 115) rfl (hb hby at_111) (by decide) (by decide) k) ?_
            show own_E p e below _ T16 (mkF m 115 #[iv p1, iv p2, iv (p2 &&& (3 : Int32)), iv ((p1 &&& (65535 : Int32)).toUInt32.toUInt16.toUInt32.toInt32), iv 1, iv 1, iv 1] [.int 1])
            refine own_retS X16 hx Bd.notSynchronized Bd.returns rfl (by decide) (hb hby at_115) (by decide) (by decide) ?_
            exact ⟨rfl, fun y hy => by simp at hy⟩
          · exact absurd hc12 ha14_0
          · exact absurd hc12 ha14_0
        · refine own_st (fun t k => XS.icmpNo X0.here hx rfl (hb hby at_48) rfl (feq hc12).1 k) ?_
          show own_E p e below _ s₁ (mkF m 51 #[iv p1, iv p2, iv (p2 &&& (3 : Int32)), iv ((p1 &&& (65535 : Int32)).toUInt32.toUInt16.toUInt32.toInt32), .unset, .unset, .unset] [])
          refine own_st (fun t k => XS.iloadN X0.here hx rfl (hb hby at_51) rfl k) ?_
          show own_E p e below _ s₁ (mkF m 52 #[iv p1, iv p2, iv (p2 &&& (3 : Int32)), iv ((p1 &&& (65535 : Int32)).toUInt32.toUInt16.toUInt32.toInt32), .unset, .unset, .unset] [.int ((p1 &&& (65535 : Int32)).toUInt32.toUInt16.toUInt32.toInt32)])
          refine own_st (fun t k => XS.bipush X0.here hx rfl (hb hby at_52) k) ?_
          show own_E p e below _ s₁ (mkF m 54 #[iv p1, iv p2, iv (p2 &&& (3 : Int32)), iv ((p1 &&& (65535 : Int32)).toUInt32.toUInt16.toUInt32.toInt32), .unset, .unset, .unset] [.int 9, .int ((p1 &&& (65535 : Int32)).toUInt32.toUInt16.toUInt32.toInt32)])
          by_cases hc17 : ((p1 &&& (65535 : Int32)).toUInt32.toUInt16.toUInt32.toInt32) = (9 : Int32)
          · refine own_st (fun t k => XS.icmpNo X0.here hx rfl (hb hby at_54) rfl (teq hc17).2 k) ?_
            show own_E p e below _ s₁ (mkF m 57 #[iv p1, iv p2, iv (p2 &&& (3 : Int32)), iv ((p1 &&& (65535 : Int32)).toUInt32.toUInt16.toUInt32.toInt32), .unset, .unset, .unset] [])
            refine own_st (fun t k => XS.iconst X0.here hx rfl (hb hby at_57) k) ?_
            show own_E p e below _ s₁ (mkF m 58 #[iv p1, iv p2, iv (p2 &&& (3 : Int32)), iv ((p1 &&& (65535 : Int32)).toUInt32.toUInt16.toUInt32.toInt32), .unset, .unset, .unset] [.int 1])
            refine own_st (fun t k => XS.goto X0.here hx rfl (pc0 := 58) (pc' := 62) rfl (hb hby at_58) (by decide) (by decide) k) ?_
            show own_E p e below _ s₁ (mkF m 62 #[iv p1, iv p2, iv (p2 &&& (3 : Int32)), iv ((p1 &&& (65535 : Int32)).toUInt32.toUInt16.toUInt32.toInt32), .unset, .unset, .unset] [.int 1])
            refine own_st (fun t k => XS.istore X0.here hx rfl (hb hby at_62) rfl (l' := #[iv p1, iv p2, iv (p2 &&& (3 : Int32)), iv ((p1 &&& (65535 : Int32)).toUInt32.toUInt16.toUInt32.toInt32), iv 1, .unset, .unset]) rfl k) ?_
            show own_E p e below _ s₁ (mkF m 64 #[iv p1, iv p2, iv (p2 &&& (3 : Int32)), iv ((p1 &&& (65535 : Int32)).toUInt32.toUInt16.toUInt32.toInt32), iv 1, .unset, .unset] [])
            obtain ⟨T18, X18, e18, st18⟩ := getS2 X0 hx hZ hown (host := "") (Or.inl (own_w hw 0 rfl)) Via.refl e0 S_LENIENT (g := (mkF m 64 #[iv p1, iv p2, iv (p2 &&& (3 : Int32)), iv ((p1 &&& (65535 : Int32)).toUInt32.toUInt16.toUInt32.toInt32), iv 1, .unset, .unset] [])) rfl (hb hby at_64)
            refine own_st st18 ?_
            show own_E p e below _ T18 (mkF m 67 #[iv p1, iv p2, iv (p2 &&& (3 : Int32)), iv ((p1 &&& (65535 : Int32)).toUInt32.toUInt16.toUInt32.toInt32), iv 1, .unset, .unset] [.ref aLENIENT])
            refine own_st (fun t k => XS.iloadN X18.here hx rfl (hb hby at_67) rfl k) ?_
            show own_E p e below _ T18 (mkF m 68 #[iv p1, iv p2, iv (p2 &&& (3 : Int32)), iv ((p1 &&& (65535 : Int32)).toUInt32.toUInt16.toUInt32.toInt32), iv 1, .unset, .unset] [.int ((p1 &&& (65535 : Int32)).toUInt32.toUInt16.toUInt32.toInt32), .ref aLENIENT])
            obtain ⟨cq19, kq19, q19a, q19b, q19c⟩ := isOf hZ e18 E_LENIENT
            obtain ⟨_, _, ⟨T19, L19, k19, n19⟩, -, X19, ⟨Lc19, hQ19, l19, y19, z19⟩, st19⟩ := X18.virtualBack hx (y := own_y0) (z := own_y0) hown (mvT hZ (own_w hw 3 rfl)) (mvT hZ (own_w hw 4 rfl)) (notFace_of_selects (args := #[]) (mvT hZ (own_w hw 6 rfl))) (mvT hZ (own_w hw 6 rfl)) (mvT hZ (own_w hw 5 rfl)) (by decide) (backOf (W := 0) (own_blank_LENIENT l Z a0 hw [] aLENIENT aSTRICT ((p1 &&& (65535 : Int32)).toUInt32.toUInt16.toUInt32.toInt32) h0 n0 Z0 S_LENIENT S_STRICT E_LENIENT E_STRICT ne_LENIENT_STRICT) hZ (own_w hw 7 rfl) (own_w hw 1 rfl) (by decide) (by decide)) q19a q19c (g := (mkF m 68 #[iv p1, iv p2, iv (p2 &&& (3 : Int32)), iv ((p1 &&& (65535 : Int32)).toUInt32.toUInt16.toUInt32.toInt32), iv 1, .unset, .unset] [.int ((p1 &&& (65535 : Int32)).toUInt32.toUInt16.toUInt32.toInt32), .ref aLENIENT])) rfl (by rw [hml]; rfl) (Steps.refl _) (argsL := [(.int ((p1 &&& (65535 : Int32)).toUInt32.toUInt16.toUInt32.toInt32))]) (rest := []) (lenOf own_pd_0 rfl) rfl (by show 2 * 0 + _ ≤ _; exact Nat.le_of_eq rfl) (hb hby at_68) (fun _ _ => ⟨rfl, e18, (by decide : 0 + 0 ≤ _), (by decide : 0 + 0 ≤ _)⟩)
            dsimp only [Pt.U, Pt.locs, Pt.cells, Pt.slots] at X19 l19 y19 z19 st19 hQ19
            subst l19 y19 z19
            obtain ⟨hR19, e19, rfl⟩ := hQ19
            rcases hR19 with ⟨rfl, ha19_0⟩ | ⟨rfl, ha19_0, ha19_1⟩ | ⟨rfl, ha19_0, ha19_1⟩
            · exact absurd ha19_0 hc12
            · refine own_tr st19 ?_
              show own_E p e below _ T19 (mkF m 71 #[iv p1, iv p2, iv (p2 &&& (3 : Int32)), iv ((p1 &&& (65535 : Int32)).toUInt32.toUInt16.toUInt32.toInt32), iv 1, .unset, .unset] [.int 1])
              refine own_st (fun t k => XS.iload X19.here hx rfl (hb hby at_71) rfl k) ?_
              show own_E p e below _ T19 (mkF m 73 #[iv p1, iv p2, iv (p2 &&& (3 : Int32)), iv ((p1 &&& (65535 : Int32)).toUInt32.toUInt16.toUInt32.toInt32), iv 1, .unset, .unset] [.int 1, .int 1])
              refine own_st (fun t k => XS.icmpNo X19.here hx rfl (hb hby at_73) rfl (by decide) k) ?_
              show own_E p e below _ T19 (mkF m 76 #[iv p1, iv p2, iv (p2 &&& (3 : Int32)), iv ((p1 &&& (65535 : Int32)).toUInt32.toUInt16.toUInt32.toInt32), iv 1, .unset, .unset] [])
              refine own_st (fun t k => XS.iconst X19.here hx rfl (hb hby at_76) k) ?_
              show own_E p e below _ T19 (mkF m 77 #[iv p1, iv p2, iv (p2 &&& (3 : Int32)), iv ((p1 &&& (65535 : Int32)).toUInt32.toUInt16.toUInt32.toInt32), iv 1, .unset, .unset] [.int 1])
              refine own_st (fun t k => XS.goto X19.here hx rfl (pc0 := 77) (pc' := 81) rfl (hb hby at_77) (by decide) (by decide) k) ?_
              show own_E p e below _ T19 (mkF m 81 #[iv p1, iv p2, iv (p2 &&& (3 : Int32)), iv ((p1 &&& (65535 : Int32)).toUInt32.toUInt16.toUInt32.toInt32), iv 1, .unset, .unset] [.int 1])
              refine own_st (fun t k => XS.istore X19.here hx rfl (hb hby at_81) rfl (l' := #[iv p1, iv p2, iv (p2 &&& (3 : Int32)), iv ((p1 &&& (65535 : Int32)).toUInt32.toUInt16.toUInt32.toInt32), iv 1, iv 1, .unset]) rfl k) ?_
              show own_E p e below _ T19 (mkF m 83 #[iv p1, iv p2, iv (p2 &&& (3 : Int32)), iv ((p1 &&& (65535 : Int32)).toUInt32.toUInt16.toUInt32.toInt32), iv 1, iv 1, .unset] [])
              obtain ⟨T20, X20, e20, st20⟩ := getS2 X19 hx hZ hown (host := "") (Or.inl (own_w hw 9 rfl)) Via.refl e19 S_STRICT (g := (mkF m 83 #[iv p1, iv p2, iv (p2 &&& (3 : Int32)), iv ((p1 &&& (65535 : Int32)).toUInt32.toUInt16.toUInt32.toInt32), iv 1, iv 1, .unset] [])) rfl (hb hby at_83)
              refine own_st st20 ?_
              show own_E p e below _ T20 (mkF m 86 #[iv p1, iv p2, iv (p2 &&& (3 : Int32)), iv ((p1 &&& (65535 : Int32)).toUInt32.toUInt16.toUInt32.toInt32), iv 1, iv 1, .unset] [.ref aSTRICT])
              refine own_st (fun t k => XS.iloadN X20.here hx rfl (hb hby at_86) rfl k) ?_
              show own_E p e below _ T20 (mkF m 87 #[iv p1, iv p2, iv (p2 &&& (3 : Int32)), iv ((p1 &&& (65535 : Int32)).toUInt32.toUInt16.toUInt32.toInt32), iv 1, iv 1, .unset] [.int ((p1 &&& (65535 : Int32)).toUInt32.toUInt16.toUInt32.toInt32), .ref aSTRICT])
              obtain ⟨cq21, kq21, q21a, q21b, q21c⟩ := isOf hZ e20 E_STRICT
              obtain ⟨_, _, ⟨T21, L21, k21, n21⟩, -, X21, ⟨Lc21, hQ21, l21, y21, z21⟩, st21⟩ := X20.virtualBack hx (y := own_y0) (z := own_y0) hown (mvT hZ (own_w hw 3 rfl)) (mvT hZ (own_w hw 4 rfl)) (notFace_of_selects (args := #[]) (mvT hZ (own_w hw 6 rfl))) (mvT hZ (own_w hw 6 rfl)) (mvT hZ (own_w hw 5 rfl)) (by decide) (backOf (W := 0) (own_blank_STRICT l Z a0 hw [] aLENIENT aSTRICT ((p1 &&& (65535 : Int32)).toUInt32.toUInt16.toUInt32.toInt32) h0 n0 Z0 S_LENIENT S_STRICT E_LENIENT E_STRICT ne_LENIENT_STRICT) hZ (own_w hw 7 rfl) (own_w hw 1 rfl) (by decide) (by decide)) q21a q21c (g := (mkF m 87 #[iv p1, iv p2, iv (p2 &&& (3 : Int32)), iv ((p1 &&& (65535 : Int32)).toUInt32.toUInt16.toUInt32.toInt32), iv 1, iv 1, .unset] [.int ((p1 &&& (65535 : Int32)).toUInt32.toUInt16.toUInt32.toInt32), .ref aSTRICT])) rfl (by rw [hml]; rfl) (Steps.refl _) (argsL := [(.int ((p1 &&& (65535 : Int32)).toUInt32.toUInt16.toUInt32.toInt32))]) (rest := []) (lenOf own_pd_0 rfl) rfl (by show 2 * 0 + _ ≤ _; exact Nat.le_of_eq rfl) (hb hby at_87) (fun _ _ => ⟨rfl, e20, (by decide : 0 + 0 ≤ _), (by decide : 0 + 0 ≤ _)⟩)
              dsimp only [Pt.U, Pt.locs, Pt.cells, Pt.slots] at X21 l21 y21 z21 st21 hQ21
              subst l21 y21 z21
              obtain ⟨hR21, e21, rfl⟩ := hQ21
              obtain rfl := hR21
              refine own_tr st21 ?_
              show own_E p e below _ T21 (mkF m 90 #[iv p1, iv p2, iv (p2 &&& (3 : Int32)), iv ((p1 &&& (65535 : Int32)).toUInt32.toUInt16.toUInt32.toInt32), iv 1, iv 1, .unset] [.int 0])
              refine own_st (fun t k => XS.ifNo X21.here hx rfl (hb hby at_90) rfl (by decide) k) ?_
              show own_E p e below _ T21 (mkF m 93 #[iv p1, iv p2, iv (p2 &&& (3 : Int32)), iv ((p1 &&& (65535 : Int32)).toUInt32.toUInt16.toUInt32.toInt32), iv 1, iv 1, .unset] [])
              refine own_st (fun t k => XS.iconst X21.here hx rfl (hb hby at_93) k) ?_
              show own_E p e below _ T21 (mkF m 94 #[iv p1, iv p2, iv (p2 &&& (3 : Int32)), iv ((p1 &&& (65535 : Int32)).toUInt32.toUInt16.toUInt32.toInt32), iv 1, iv 1, .unset] [.int 1])
              refine own_st (fun t k => XS.goto X21.here hx rfl (pc0 := 94) (pc' := 98) rfl (hb hby at_94) (by decide) (by decide) k) ?_
              show own_E p e below _ T21 (mkF m 98 #[iv p1, iv p2, iv (p2 &&& (3 : Int32)), iv ((p1 &&& (65535 : Int32)).toUInt32.toUInt16.toUInt32.toInt32), iv 1, iv 1, .unset] [.int 1])
              refine own_st (fun t k => XS.istore X21.here hx rfl (hb hby at_98) rfl (l' := #[iv p1, iv p2, iv (p2 &&& (3 : Int32)), iv ((p1 &&& (65535 : Int32)).toUInt32.toUInt16.toUInt32.toInt32), iv 1, iv 1, iv 1]) rfl k) ?_
              show own_E p e below _ T21 (mkF m 100 #[iv p1, iv p2, iv (p2 &&& (3 : Int32)), iv ((p1 &&& (65535 : Int32)).toUInt32.toUInt16.toUInt32.toInt32), iv 1, iv 1, iv 1] [])
              refine own_st (fun t k => XS.iload X21.here hx rfl (hb hby at_100) rfl k) ?_
              show own_E p e below _ T21 (mkF m 102 #[iv p1, iv p2, iv (p2 &&& (3 : Int32)), iv ((p1 &&& (65535 : Int32)).toUInt32.toUInt16.toUInt32.toInt32), iv 1, iv 1, iv 1] [.int 1])
              refine own_st (fun t k => XS.ifNo X21.here hx rfl (hb hby at_102) rfl (by decide) k) ?_
              show own_E p e below _ T21 (mkF m 105 #[iv p1, iv p2, iv (p2 &&& (3 : Int32)), iv ((p1 &&& (65535 : Int32)).toUInt32.toUInt16.toUInt32.toInt32), iv 1, iv 1, iv 1] [])
              refine own_st (fun t k => XS.iload X21.here hx rfl (hb hby at_105) rfl k) ?_
              show own_E p e below _ T21 (mkF m 107 #[iv p1, iv p2, iv (p2 &&& (3 : Int32)), iv ((p1 &&& (65535 : Int32)).toUInt32.toUInt16.toUInt32.toInt32), iv 1, iv 1, iv 1] [.int 1])
              refine own_st (fun t k => XS.ifNo X21.here hx rfl (hb hby at_107) rfl (by decide) k) ?_
              show own_E p e below _ T21 (mkF m 110 #[iv p1, iv p2, iv (p2 &&& (3 : Int32)), iv ((p1 &&& (65535 : Int32)).toUInt32.toUInt16.toUInt32.toInt32), iv 1, iv 1, iv 1] [])
              refine own_st (fun t k => XS.iconst X21.here hx rfl (hb hby at_110) k) ?_
              show own_E p e below _ T21 (mkF m 111 #[iv p1, iv p2, iv (p2 &&& (3 : Int32)), iv ((p1 &&& (65535 : Int32)).toUInt32.toUInt16.toUInt32.toInt32), iv 1, iv 1, iv 1] [.int 1])
              refine own_st (fun t k => XS.goto X21.here hx rfl (pc0 := 111) (pc' := 115) rfl (hb hby at_111) (by decide) (by decide) k) ?_
              show own_E p e below _ T21 (mkF m 115 #[iv p1, iv p2, iv (p2 &&& (3 : Int32)), iv ((p1 &&& (65535 : Int32)).toUInt32.toUInt16.toUInt32.toInt32), iv 1, iv 1, iv 1] [.int 1])
              refine own_retS X21 hx Bd.notSynchronized Bd.returns rfl (by decide) (hb hby at_115) (by decide) (by decide) ?_
              exact ⟨rfl, fun y hy => by simp at hy⟩
            · exact absurd hc17 ha19_1
          · refine own_st (fun t k => XS.icmpYes X0.here hx rfl (pc0 := 54) (pc' := 61) rfl (hb hby at_54) rfl (feq hc17).2 (by decide) (by decide) k) ?_
            show own_E p e below _ s₁ (mkF m 61 #[iv p1, iv p2, iv (p2 &&& (3 : Int32)), iv ((p1 &&& (65535 : Int32)).toUInt32.toUInt16.toUInt32.toInt32), .unset, .unset, .unset] [])
            refine own_st (fun t k => XS.iconst X0.here hx rfl (hb hby at_61) k) ?_
            show own_E p e below _ s₁ (mkF m 62 #[iv p1, iv p2, iv (p2 &&& (3 : Int32)), iv ((p1 &&& (65535 : Int32)).toUInt32.toUInt16.toUInt32.toInt32), .unset, .unset, .unset] [.int 0])
            refine own_st (fun t k => XS.istore X0.here hx rfl (hb hby at_62) rfl (l' := #[iv p1, iv p2, iv (p2 &&& (3 : Int32)), iv ((p1 &&& (65535 : Int32)).toUInt32.toUInt16.toUInt32.toInt32), iv 0, .unset, .unset]) rfl k) ?_
            show own_E p e below _ s₁ (mkF m 64 #[iv p1, iv p2, iv (p2 &&& (3 : Int32)), iv ((p1 &&& (65535 : Int32)).toUInt32.toUInt16.toUInt32.toInt32), iv 0, .unset, .unset] [])
            obtain ⟨T22, X22, e22, st22⟩ := getS2 X0 hx hZ hown (host := "") (Or.inl (own_w hw 0 rfl)) Via.refl e0 S_LENIENT (g := (mkF m 64 #[iv p1, iv p2, iv (p2 &&& (3 : Int32)), iv ((p1 &&& (65535 : Int32)).toUInt32.toUInt16.toUInt32.toInt32), iv 0, .unset, .unset] [])) rfl (hb hby at_64)
            refine own_st st22 ?_
            show own_E p e below _ T22 (mkF m 67 #[iv p1, iv p2, iv (p2 &&& (3 : Int32)), iv ((p1 &&& (65535 : Int32)).toUInt32.toUInt16.toUInt32.toInt32), iv 0, .unset, .unset] [.ref aLENIENT])
            refine own_st (fun t k => XS.iloadN X22.here hx rfl (hb hby at_67) rfl k) ?_
            show own_E p e below _ T22 (mkF m 68 #[iv p1, iv p2, iv (p2 &&& (3 : Int32)), iv ((p1 &&& (65535 : Int32)).toUInt32.toUInt16.toUInt32.toInt32), iv 0, .unset, .unset] [.int ((p1 &&& (65535 : Int32)).toUInt32.toUInt16.toUInt32.toInt32), .ref aLENIENT])
            obtain ⟨cq23, kq23, q23a, q23b, q23c⟩ := isOf hZ e22 E_LENIENT
            obtain ⟨_, _, ⟨T23, L23, k23, n23⟩, -, X23, ⟨Lc23, hQ23, l23, y23, z23⟩, st23⟩ := X22.virtualBack hx (y := own_y0) (z := own_y0) hown (mvT hZ (own_w hw 3 rfl)) (mvT hZ (own_w hw 4 rfl)) (notFace_of_selects (args := #[]) (mvT hZ (own_w hw 6 rfl))) (mvT hZ (own_w hw 6 rfl)) (mvT hZ (own_w hw 5 rfl)) (by decide) (backOf (W := 0) (own_blank_LENIENT l Z a0 hw [] aLENIENT aSTRICT ((p1 &&& (65535 : Int32)).toUInt32.toUInt16.toUInt32.toInt32) h0 n0 Z0 S_LENIENT S_STRICT E_LENIENT E_STRICT ne_LENIENT_STRICT) hZ (own_w hw 7 rfl) (own_w hw 1 rfl) (by decide) (by decide)) q23a q23c (g := (mkF m 68 #[iv p1, iv p2, iv (p2 &&& (3 : Int32)), iv ((p1 &&& (65535 : Int32)).toUInt32.toUInt16.toUInt32.toInt32), iv 0, .unset, .unset] [.int ((p1 &&& (65535 : Int32)).toUInt32.toUInt16.toUInt32.toInt32), .ref aLENIENT])) rfl (by rw [hml]; rfl) (Steps.refl _) (argsL := [(.int ((p1 &&& (65535 : Int32)).toUInt32.toUInt16.toUInt32.toInt32))]) (rest := []) (lenOf own_pd_0 rfl) rfl (by show 2 * 0 + _ ≤ _; exact Nat.le_of_eq rfl) (hb hby at_68) (fun _ _ => ⟨rfl, e22, (by decide : 0 + 0 ≤ _), (by decide : 0 + 0 ≤ _)⟩)
            dsimp only [Pt.U, Pt.locs, Pt.cells, Pt.slots] at X23 l23 y23 z23 st23 hQ23
            subst l23 y23 z23
            obtain ⟨hR23, e23, rfl⟩ := hQ23
            rcases hR23 with ⟨rfl, ha23_0⟩ | ⟨rfl, ha23_0, ha23_1⟩ | ⟨rfl, ha23_0, ha23_1⟩
            · exact absurd ha23_0 hc12
            · exact absurd ha23_1 hc17
            · refine own_tr st23 ?_
              show own_E p e below _ T23 (mkF m 71 #[iv p1, iv p2, iv (p2 &&& (3 : Int32)), iv ((p1 &&& (65535 : Int32)).toUInt32.toUInt16.toUInt32.toInt32), iv 0, .unset, .unset] [.int 0])
              refine own_st (fun t k => XS.iload X23.here hx rfl (hb hby at_71) rfl k) ?_
              show own_E p e below _ T23 (mkF m 73 #[iv p1, iv p2, iv (p2 &&& (3 : Int32)), iv ((p1 &&& (65535 : Int32)).toUInt32.toUInt16.toUInt32.toInt32), iv 0, .unset, .unset] [.int 0, .int 0])
              refine own_st (fun t k => XS.icmpNo X23.here hx rfl (hb hby at_73) rfl (by decide) k) ?_
              show own_E p e below _ T23 (mkF m 76 #[iv p1, iv p2, iv (p2 &&& (3 : Int32)), iv ((p1 &&& (65535 : Int32)).toUInt32.toUInt16.toUInt32.toInt32), iv 0, .unset, .unset] [])
              refine own_st (fun t k => XS.iconst X23.here hx rfl (hb hby at_76) k) ?_
              show own_E p e below _ T23 (mkF m 77 #[iv p1, iv p2, iv (p2 &&& (3 : Int32)), iv ((p1 &&& (65535 : Int32)).toUInt32.toUInt16.toUInt32.toInt32), iv 0, .unset, .unset] [.int 1])
              refine own_st (fun t k => XS.goto X23.here hx rfl (pc0 := 77) (pc' := 81) rfl (hb hby at_77) (by decide) (by decide) k) ?_
              show own_E p e below _ T23 (mkF m 81 #[iv p1, iv p2, iv (p2 &&& (3 : Int32)), iv ((p1 &&& (65535 : Int32)).toUInt32.toUInt16.toUInt32.toInt32), iv 0, .unset, .unset] [.int 1])
              refine own_st (fun t k => XS.istore X23.here hx rfl (hb hby at_81) rfl (l' := #[iv p1, iv p2, iv (p2 &&& (3 : Int32)), iv ((p1 &&& (65535 : Int32)).toUInt32.toUInt16.toUInt32.toInt32), iv 0, iv 1, .unset]) rfl k) ?_
              show own_E p e below _ T23 (mkF m 83 #[iv p1, iv p2, iv (p2 &&& (3 : Int32)), iv ((p1 &&& (65535 : Int32)).toUInt32.toUInt16.toUInt32.toInt32), iv 0, iv 1, .unset] [])
              obtain ⟨T24, X24, e24, st24⟩ := getS2 X23 hx hZ hown (host := "") (Or.inl (own_w hw 9 rfl)) Via.refl e23 S_STRICT (g := (mkF m 83 #[iv p1, iv p2, iv (p2 &&& (3 : Int32)), iv ((p1 &&& (65535 : Int32)).toUInt32.toUInt16.toUInt32.toInt32), iv 0, iv 1, .unset] [])) rfl (hb hby at_83)
              refine own_st st24 ?_
              show own_E p e below _ T24 (mkF m 86 #[iv p1, iv p2, iv (p2 &&& (3 : Int32)), iv ((p1 &&& (65535 : Int32)).toUInt32.toUInt16.toUInt32.toInt32), iv 0, iv 1, .unset] [.ref aSTRICT])
              refine own_st (fun t k => XS.iloadN X24.here hx rfl (hb hby at_86) rfl k) ?_
              show own_E p e below _ T24 (mkF m 87 #[iv p1, iv p2, iv (p2 &&& (3 : Int32)), iv ((p1 &&& (65535 : Int32)).toUInt32.toUInt16.toUInt32.toInt32), iv 0, iv 1, .unset] [.int ((p1 &&& (65535 : Int32)).toUInt32.toUInt16.toUInt32.toInt32), .ref aSTRICT])
              obtain ⟨cq25, kq25, q25a, q25b, q25c⟩ := isOf hZ e24 E_STRICT
              obtain ⟨_, _, ⟨T25, L25, k25, n25⟩, -, X25, ⟨Lc25, hQ25, l25, y25, z25⟩, st25⟩ := X24.virtualBack hx (y := own_y0) (z := own_y0) hown (mvT hZ (own_w hw 3 rfl)) (mvT hZ (own_w hw 4 rfl)) (notFace_of_selects (args := #[]) (mvT hZ (own_w hw 6 rfl))) (mvT hZ (own_w hw 6 rfl)) (mvT hZ (own_w hw 5 rfl)) (by decide) (backOf (W := 0) (own_blank_STRICT l Z a0 hw [] aLENIENT aSTRICT ((p1 &&& (65535 : Int32)).toUInt32.toUInt16.toUInt32.toInt32) h0 n0 Z0 S_LENIENT S_STRICT E_LENIENT E_STRICT ne_LENIENT_STRICT) hZ (own_w hw 7 rfl) (own_w hw 1 rfl) (by decide) (by decide)) q25a q25c (g := (mkF m 87 #[iv p1, iv p2, iv (p2 &&& (3 : Int32)), iv ((p1 &&& (65535 : Int32)).toUInt32.toUInt16.toUInt32.toInt32), iv 0, iv 1, .unset] [.int ((p1 &&& (65535 : Int32)).toUInt32.toUInt16.toUInt32.toInt32), .ref aSTRICT])) rfl (by rw [hml]; rfl) (Steps.refl _) (argsL := [(.int ((p1 &&& (65535 : Int32)).toUInt32.toUInt16.toUInt32.toInt32))]) (rest := []) (lenOf own_pd_0 rfl) rfl (by show 2 * 0 + _ ≤ _; exact Nat.le_of_eq rfl) (hb hby at_87) (fun _ _ => ⟨rfl, e24, (by decide : 0 + 0 ≤ _), (by decide : 0 + 0 ≤ _)⟩)
              dsimp only [Pt.U, Pt.locs, Pt.cells, Pt.slots] at X25 l25 y25 z25 st25 hQ25
              subst l25 y25 z25
              obtain ⟨hR25, e25, rfl⟩ := hQ25
              obtain rfl := hR25
              refine own_tr st25 ?_
              show own_E p e below _ T25 (mkF m 90 #[iv p1, iv p2, iv (p2 &&& (3 : Int32)), iv ((p1 &&& (65535 : Int32)).toUInt32.toUInt16.toUInt32.toInt32), iv 0, iv 1, .unset] [.int 0])
              refine own_st (fun t k => XS.ifNo X25.here hx rfl (hb hby at_90) rfl (by decide) k) ?_
              show own_E p e below _ T25 (mkF m 93 #[iv p1, iv p2, iv (p2 &&& (3 : Int32)), iv ((p1 &&& (65535 : Int32)).toUInt32.toUInt16.toUInt32.toInt32), iv 0, iv 1, .unset] [])
              refine own_st (fun t k => XS.iconst X25.here hx rfl (hb hby at_93) k) ?_
              show own_E p e below _ T25 (mkF m 94 #[iv p1, iv p2, iv (p2 &&& (3 : Int32)), iv ((p1 &&& (65535 : Int32)).toUInt32.toUInt16.toUInt32.toInt32), iv 0, iv 1, .unset] [.int 1])
              refine own_st (fun t k => XS.goto X25.here hx rfl (pc0 := 94) (pc' := 98) rfl (hb hby at_94) (by decide) (by decide) k) ?_
              show own_E p e below _ T25 (mkF m 98 #[iv p1, iv p2, iv (p2 &&& (3 : Int32)), iv ((p1 &&& (65535 : Int32)).toUInt32.toUInt16.toUInt32.toInt32), iv 0, iv 1, .unset] [.int 1])
              refine own_st (fun t k => XS.istore X25.here hx rfl (hb hby at_98) rfl (l' := #[iv p1, iv p2, iv (p2 &&& (3 : Int32)), iv ((p1 &&& (65535 : Int32)).toUInt32.toUInt16.toUInt32.toInt32), iv 0, iv 1, iv 1]) rfl k) ?_
              show own_E p e below _ T25 (mkF m 100 #[iv p1, iv p2, iv (p2 &&& (3 : Int32)), iv ((p1 &&& (65535 : Int32)).toUInt32.toUInt16.toUInt32.toInt32), iv 0, iv 1, iv 1] [])
              refine own_st (fun t k => XS.iload X25.here hx rfl (hb hby at_100) rfl k) ?_
              show own_E p e below _ T25 (mkF m 102 #[iv p1, iv p2, iv (p2 &&& (3 : Int32)), iv ((p1 &&& (65535 : Int32)).toUInt32.toUInt16.toUInt32.toInt32), iv 0, iv 1, iv 1] [.int 1])
              refine own_st (fun t k => XS.ifNo X25.here hx rfl (hb hby at_102) rfl (by decide) k) ?_
              show own_E p e below _ T25 (mkF m 105 #[iv p1, iv p2, iv (p2 &&& (3 : Int32)), iv ((p1 &&& (65535 : Int32)).toUInt32.toUInt16.toUInt32.toInt32), iv 0, iv 1, iv 1] [])
              refine own_st (fun t k => XS.iload X25.here hx rfl (hb hby at_105) rfl k) ?_
              show own_E p e below _ T25 (mkF m 107 #[iv p1, iv p2, iv (p2 &&& (3 : Int32)), iv ((p1 &&& (65535 : Int32)).toUInt32.toUInt16.toUInt32.toInt32), iv 0, iv 1, iv 1] [.int 1])
              refine own_st (fun t k => XS.ifNo X25.here hx rfl (hb hby at_107) rfl (by decide) k) ?_
              show own_E p e below _ T25 (mkF m 110 #[iv p1, iv p2, iv (p2 &&& (3 : Int32)), iv ((p1 &&& (65535 : Int32)).toUInt32.toUInt16.toUInt32.toInt32), iv 0, iv 1, iv 1] [])
              refine own_st (fun t k => XS.iconst X25.here hx rfl (hb hby at_110) k) ?_
              show own_E p e below _ T25 (mkF m 111 #[iv p1, iv p2, iv (p2 &&& (3 : Int32)), iv ((p1 &&& (65535 : Int32)).toUInt32.toUInt16.toUInt32.toInt32), iv 0, iv 1, iv 1] [.int 1])
              refine own_st (fun t k => XS.goto X25.here hx rfl (pc0 := 111) (pc' := 115) rfl (hb hby at_111) (by decide) (by decide) k) ?_
              show own_E p e below _ T25 (mkF m 115 #[iv p1, iv p2, iv (p2 &&& (3 : Int32)), iv ((p1 &&& (65535 : Int32)).toUInt32.toUInt16.toUInt32.toInt32), iv 0, iv 1, iv 1] [.int 1])
              refine own_retS X25 hx Bd.notSynchronized Bd.returns rfl (by decide) (hb hby at_115) (by decide) (by decide) ?_
              exact ⟨rfl, fun y hy => by simp at hy⟩
      · refine own_st (fun t k => XS.icmpYes X0.here hx rfl (pc0 := 27) (pc' := 39) rfl (hb hby at_27) rfl (feq hc11).2 (by decide) (by decide) k) ?_
        show own_E p e below _ s₁ (mkF m 39 #[iv p1, iv p2, iv (p2 &&& (3 : Int32)), .unset, .unset, .unset, .unset] [])
        refine own_st (fun t k => XS.iloadN X0.here hx rfl (hb hby at_39) rfl k) ?_
        show own_E p e below _ s₁ (mkF m 40 #[iv p1, iv p2, iv (p2 &&& (3 : Int32)), .unset, .unset, .unset, .unset] [.int p1])
        refine own_st (fun t k => XS.bipush X0.here hx rfl (hb hby at_40) k) ?_
        show own_E p e below _ s₁ (mkF m 42 #[iv p1, iv p2, iv (p2 &&& (3 : Int32)), .unset, .unset, .unset, .unset] [.int 127, .int p1])
        refine own_st (fun t k => XS.iand X0.here hx rfl (hb hby at_42) rfl k) ?_
        show own_E p e below _ s₁ (mkF m 43 #[iv p1, iv p2, iv (p2 &&& (3 : Int32)), .unset, .unset, .unset, .unset] [.int (p1 &&& (127 : Int32))])
        refine own_st (fun t k => XS.i2c X0.here hx rfl (hb hby at_43) rfl k) ?_
        show own_E p e below _ s₁ (mkF m 44 #[iv p1, iv p2, iv (p2 &&& (3 : Int32)), .unset, .unset, .unset, .unset] [.int ((p1 &&& (127 : Int32)).toUInt32.toUInt16.toUInt32.toInt32)])
        refine own_st (fun t k => XS.istoreN X0.here hx rfl (hb hby at_44) rfl (l' := #[iv p1, iv p2, iv (p2 &&& (3 : Int32)), iv ((p1 &&& (127 : Int32)).toUInt32.toUInt16.toUInt32.toInt32), .unset, .unset, .unset]) rfl k) ?_
        show own_E p e below _ s₁ (mkF m 45 #[iv p1, iv p2, iv (p2 &&& (3 : Int32)), iv ((p1 &&& (127 : Int32)).toUInt32.toUInt16.toUInt32.toInt32), .unset, .unset, .unset] [])
        refine own_st (fun t k => XS.iloadN X0.here hx rfl (hb hby at_45) rfl k) ?_
        show own_E p e below _ s₁ (mkF m 46 #[iv p1, iv p2, iv (p2 &&& (3 : Int32)), iv ((p1 &&& (127 : Int32)).toUInt32.toUInt16.toUInt32.toInt32), .unset, .unset, .unset] [.int ((p1 &&& (127 : Int32)).toUInt32.toUInt16.toUInt32.toInt32)])
        refine own_st (fun t k => XS.bipush X0.here hx rfl (hb hby at_46) k) ?_
        show own_E p e below _ s₁ (mkF m 48 #[iv p1, iv p2, iv (p2 &&& (3 : Int32)), iv ((p1 &&& (127 : Int32)).toUInt32.toUInt16.toUInt32.toInt32), .unset, .unset, .unset] [.int 32, .int ((p1 &&& (127 : Int32)).toUInt32.toUInt16.toUInt32.toInt32)])
        by_cases hc26 : ((p1 &&& (127 : Int32)).toUInt32.toUInt16.toUInt32.toInt32) = (32 : Int32)
        · refine own_st (fun t k => XS.icmpYes X0.here hx rfl (pc0 := 48) (pc' := 57) rfl (hb hby at_48) rfl (teq hc26).1 (by decide) (by decide) k) ?_
          show own_E p e below _ s₁ (mkF m 57 #[iv p1, iv p2, iv (p2 &&& (3 : Int32)), iv ((p1 &&& (127 : Int32)).toUInt32.toUInt16.toUInt32.toInt32), .unset, .unset, .unset] [])
          refine own_st (fun t k => XS.iconst X0.here hx rfl (hb hby at_57) k) ?_
          show own_E p e below _ s₁ (mkF m 58 #[iv p1, iv p2, iv (p2 &&& (3 : Int32)), iv ((p1 &&& (127 : Int32)).toUInt32.toUInt16.toUInt32.toInt32), .unset, .unset, .unset] [.int 1])
          refine own_st (fun t k => XS.goto X0.here hx rfl (pc0 := 58) (pc' := 62) rfl (hb hby at_58) (by decide) (by decide) k) ?_
          show own_E p e below _ s₁ (mkF m 62 #[iv p1, iv p2, iv (p2 &&& (3 : Int32)), iv ((p1 &&& (127 : Int32)).toUInt32.toUInt16.toUInt32.toInt32), .unset, .unset, .unset] [.int 1])
          refine own_st (fun t k => XS.istore X0.here hx rfl (hb hby at_62) rfl (l' := #[iv p1, iv p2, iv (p2 &&& (3 : Int32)), iv ((p1 &&& (127 : Int32)).toUInt32.toUInt16.toUInt32.toInt32), iv 1, .unset, .unset]) rfl k) ?_
          show own_E p e below _ s₁ (mkF m 64 #[iv p1, iv p2, iv (p2 &&& (3 : Int32)), iv ((p1 &&& (127 : Int32)).toUInt32.toUInt16.toUInt32.toInt32), iv 1, .unset, .unset] [])
          obtain ⟨T27, X27, e27, st27⟩ := getS2 X0 hx hZ hown (host := "") (Or.inl (own_w hw 0 rfl)) Via.refl e0 S_LENIENT (g := (mkF m 64 #[iv p1, iv p2, iv (p2 &&& (3 : Int32)), iv ((p1 &&& (127 : Int32)).toUInt32.toUInt16.toUInt32.toInt32), iv 1, .unset, .unset] [])) rfl (hb hby at_64)
          refine own_st st27 ?_
          show own_E p e below _ T27 (mkF m 67 #[iv p1, iv p2, iv (p2 &&& (3 : Int32)), iv ((p1 &&& (127 : Int32)).toUInt32.toUInt16.toUInt32.toInt32), iv 1, .unset, .unset] [.ref aLENIENT])
          refine own_st (fun t k => XS.iloadN X27.here hx rfl (hb hby at_67) rfl k) ?_
          show own_E p e below _ T27 (mkF m 68 #[iv p1, iv p2, iv (p2 &&& (3 : Int32)), iv ((p1 &&& (127 : Int32)).toUInt32.toUInt16.toUInt32.toInt32), iv 1, .unset, .unset] [.int ((p1 &&& (127 : Int32)).toUInt32.toUInt16.toUInt32.toInt32), .ref aLENIENT])
          obtain ⟨cq28, kq28, q28a, q28b, q28c⟩ := isOf hZ e27 E_LENIENT
          obtain ⟨_, _, ⟨T28, L28, k28, n28⟩, -, X28, ⟨Lc28, hQ28, l28, y28, z28⟩, st28⟩ := X27.virtualBack hx (y := own_y0) (z := own_y0) hown (mvT hZ (own_w hw 3 rfl)) (mvT hZ (own_w hw 4 rfl)) (notFace_of_selects (args := #[]) (mvT hZ (own_w hw 6 rfl))) (mvT hZ (own_w hw 6 rfl)) (mvT hZ (own_w hw 5 rfl)) (by decide) (backOf (W := 0) (own_blank_LENIENT l Z a0 hw [] aLENIENT aSTRICT ((p1 &&& (127 : Int32)).toUInt32.toUInt16.toUInt32.toInt32) h0 n0 Z0 S_LENIENT S_STRICT E_LENIENT E_STRICT ne_LENIENT_STRICT) hZ (own_w hw 7 rfl) (own_w hw 1 rfl) (by decide) (by decide)) q28a q28c (g := (mkF m 68 #[iv p1, iv p2, iv (p2 &&& (3 : Int32)), iv ((p1 &&& (127 : Int32)).toUInt32.toUInt16.toUInt32.toInt32), iv 1, .unset, .unset] [.int ((p1 &&& (127 : Int32)).toUInt32.toUInt16.toUInt32.toInt32), .ref aLENIENT])) rfl (by rw [hml]; rfl) (Steps.refl _) (argsL := [(.int ((p1 &&& (127 : Int32)).toUInt32.toUInt16.toUInt32.toInt32))]) (rest := []) (lenOf own_pd_0 rfl) rfl (by show 2 * 0 + _ ≤ _; exact Nat.le_of_eq rfl) (hb hby at_68) (fun _ _ => ⟨rfl, e27, (by decide : 0 + 0 ≤ _), (by decide : 0 + 0 ≤ _)⟩)
          dsimp only [Pt.U, Pt.locs, Pt.cells, Pt.slots] at X28 l28 y28 z28 st28 hQ28
          subst l28 y28 z28
          obtain ⟨hR28, e28, rfl⟩ := hQ28
          rcases hR28 with ⟨rfl, ha28_0⟩ | ⟨rfl, ha28_0, ha28_1⟩ | ⟨rfl, ha28_0, ha28_1⟩
          · refine own_tr st28 ?_
            show own_E p e below _ T28 (mkF m 71 #[iv p1, iv p2, iv (p2 &&& (3 : Int32)), iv ((p1 &&& (127 : Int32)).toUInt32.toUInt16.toUInt32.toInt32), iv 1, .unset, .unset] [.int 1])
            refine own_st (fun t k => XS.iload X28.here hx rfl (hb hby at_71) rfl k) ?_
            show own_E p e below _ T28 (mkF m 73 #[iv p1, iv p2, iv (p2 &&& (3 : Int32)), iv ((p1 &&& (127 : Int32)).toUInt32.toUInt16.toUInt32.toInt32), iv 1, .unset, .unset] [.int 1, .int 1])
            refine own_st (fun t k => XS.icmpNo X28.here hx rfl (hb hby at_73) rfl (by decide) k) ?_
            show own_E p e below _ T28 (mkF m 76 #[iv p1, iv p2, iv (p2 &&& (3 : Int32)), iv ((p1 &&& (127 : Int32)).toUInt32.toUInt16.toUInt32.toInt32), iv 1, .unset, .unset] [])
            refine own_st (fun t k => XS.iconst X28.here hx rfl (hb hby at_76) k) ?_
            show own_E p e below _ T28 (mkF m 77 #[iv p1, iv p2, iv (p2 &&& (3 : Int32)), iv ((p1 &&& (127 : Int32)).toUInt32.toUInt16.toUInt32.toInt32), iv 1, .unset, .unset] [.int 1])
            refine own_st (fun t k => XS.goto X28.here hx rfl (pc0 := 77) (pc' := 81) rfl (hb hby at_77) (by decide) (by decide) k) ?_
            show own_E p e below _ T28 (mkF m 81 #[iv p1, iv p2, iv (p2 &&& (3 : Int32)), iv ((p1 &&& (127 : Int32)).toUInt32.toUInt16.toUInt32.toInt32), iv 1, .unset, .unset] [.int 1])
            refine own_st (fun t k => XS.istore X28.here hx rfl (hb hby at_81) rfl (l' := #[iv p1, iv p2, iv (p2 &&& (3 : Int32)), iv ((p1 &&& (127 : Int32)).toUInt32.toUInt16.toUInt32.toInt32), iv 1, iv 1, .unset]) rfl k) ?_
            show own_E p e below _ T28 (mkF m 83 #[iv p1, iv p2, iv (p2 &&& (3 : Int32)), iv ((p1 &&& (127 : Int32)).toUInt32.toUInt16.toUInt32.toInt32), iv 1, iv 1, .unset] [])
            obtain ⟨T29, X29, e29, st29⟩ := getS2 X28 hx hZ hown (host := "") (Or.inl (own_w hw 9 rfl)) Via.refl e28 S_STRICT (g := (mkF m 83 #[iv p1, iv p2, iv (p2 &&& (3 : Int32)), iv ((p1 &&& (127 : Int32)).toUInt32.toUInt16.toUInt32.toInt32), iv 1, iv 1, .unset] [])) rfl (hb hby at_83)
            refine own_st st29 ?_
            show own_E p e below _ T29 (mkF m 86 #[iv p1, iv p2, iv (p2 &&& (3 : Int32)), iv ((p1 &&& (127 : Int32)).toUInt32.toUInt16.toUInt32.toInt32), iv 1, iv 1, .unset] [.ref aSTRICT])
            refine own_st (fun t k => XS.iloadN X29.here hx rfl (hb hby at_86) rfl k) ?_
            show own_E p e below _ T29 (mkF m 87 #[iv p1, iv p2, iv (p2 &&& (3 : Int32)), iv ((p1 &&& (127 : Int32)).toUInt32.toUInt16.toUInt32.toInt32), iv 1, iv 1, .unset] [.int ((p1 &&& (127 : Int32)).toUInt32.toUInt16.toUInt32.toInt32), .ref aSTRICT])
            obtain ⟨cq30, kq30, q30a, q30b, q30c⟩ := isOf hZ e29 E_STRICT
            obtain ⟨_, _, ⟨T30, L30, k30, n30⟩, -, X30, ⟨Lc30, hQ30, l30, y30, z30⟩, st30⟩ := X29.virtualBack hx (y := own_y0) (z := own_y0) hown (mvT hZ (own_w hw 3 rfl)) (mvT hZ (own_w hw 4 rfl)) (notFace_of_selects (args := #[]) (mvT hZ (own_w hw 6 rfl))) (mvT hZ (own_w hw 6 rfl)) (mvT hZ (own_w hw 5 rfl)) (by decide) (backOf (W := 0) (own_blank_STRICT l Z a0 hw [] aLENIENT aSTRICT ((p1 &&& (127 : Int32)).toUInt32.toUInt16.toUInt32.toInt32) h0 n0 Z0 S_LENIENT S_STRICT E_LENIENT E_STRICT ne_LENIENT_STRICT) hZ (own_w hw 7 rfl) (own_w hw 1 rfl) (by decide) (by decide)) q30a q30c (g := (mkF m 87 #[iv p1, iv p2, iv (p2 &&& (3 : Int32)), iv ((p1 &&& (127 : Int32)).toUInt32.toUInt16.toUInt32.toInt32), iv 1, iv 1, .unset] [.int ((p1 &&& (127 : Int32)).toUInt32.toUInt16.toUInt32.toInt32), .ref aSTRICT])) rfl (by rw [hml]; rfl) (Steps.refl _) (argsL := [(.int ((p1 &&& (127 : Int32)).toUInt32.toUInt16.toUInt32.toInt32))]) (rest := []) (lenOf own_pd_0 rfl) rfl (by show 2 * 0 + _ ≤ _; exact Nat.le_of_eq rfl) (hb hby at_87) (fun _ _ => ⟨rfl, e29, (by decide : 0 + 0 ≤ _), (by decide : 0 + 0 ≤ _)⟩)
            dsimp only [Pt.U, Pt.locs, Pt.cells, Pt.slots] at X30 l30 y30 z30 st30 hQ30
            subst l30 y30 z30
            obtain ⟨hR30, e30, rfl⟩ := hQ30
            obtain rfl := hR30
            refine own_tr st30 ?_
            show own_E p e below _ T30 (mkF m 90 #[iv p1, iv p2, iv (p2 &&& (3 : Int32)), iv ((p1 &&& (127 : Int32)).toUInt32.toUInt16.toUInt32.toInt32), iv 1, iv 1, .unset] [.int 0])
            refine own_st (fun t k => XS.ifNo X30.here hx rfl (hb hby at_90) rfl (by decide) k) ?_
            show own_E p e below _ T30 (mkF m 93 #[iv p1, iv p2, iv (p2 &&& (3 : Int32)), iv ((p1 &&& (127 : Int32)).toUInt32.toUInt16.toUInt32.toInt32), iv 1, iv 1, .unset] [])
            refine own_st (fun t k => XS.iconst X30.here hx rfl (hb hby at_93) k) ?_
            show own_E p e below _ T30 (mkF m 94 #[iv p1, iv p2, iv (p2 &&& (3 : Int32)), iv ((p1 &&& (127 : Int32)).toUInt32.toUInt16.toUInt32.toInt32), iv 1, iv 1, .unset] [.int 1])
            refine own_st (fun t k => XS.goto X30.here hx rfl (pc0 := 94) (pc' := 98) rfl (hb hby at_94) (by decide) (by decide) k) ?_
            show own_E p e below _ T30 (mkF m 98 #[iv p1, iv p2, iv (p2 &&& (3 : Int32)), iv ((p1 &&& (127 : Int32)).toUInt32.toUInt16.toUInt32.toInt32), iv 1, iv 1, .unset] [.int 1])
            refine own_st (fun t k => XS.istore X30.here hx rfl (hb hby at_98) rfl (l' := #[iv p1, iv p2, iv (p2 &&& (3 : Int32)), iv ((p1 &&& (127 : Int32)).toUInt32.toUInt16.toUInt32.toInt32), iv 1, iv 1, iv 1]) rfl k) ?_
            show own_E p e below _ T30 (mkF m 100 #[iv p1, iv p2, iv (p2 &&& (3 : Int32)), iv ((p1 &&& (127 : Int32)).toUInt32.toUInt16.toUInt32.toInt32), iv 1, iv 1, iv 1] [])
            refine own_st (fun t k => XS.iload X30.here hx rfl (hb hby at_100) rfl k) ?_
            show own_E p e below _ T30 (mkF m 102 #[iv p1, iv p2, iv (p2 &&& (3 : Int32)), iv ((p1 &&& (127 : Int32)).toUInt32.toUInt16.toUInt32.toInt32), iv 1, iv 1, iv 1] [.int 1])
            refine own_st (fun t k => XS.ifNo X30.here hx rfl (hb hby at_102) rfl (by decide) k) ?_
            show own_E p e below _ T30 (mkF m 105 #[iv p1, iv p2, iv (p2 &&& (3 : Int32)), iv ((p1 &&& (127 : Int32)).toUInt32.toUInt16.toUInt32.toInt32), iv 1, iv 1, iv 1] [])
            refine own_st (fun t k => XS.iload X30.here hx rfl (hb hby at_105) rfl k) ?_
            show own_E p e below _ T30 (mkF m 107 #[iv p1, iv p2, iv (p2 &&& (3 : Int32)), iv ((p1 &&& (127 : Int32)).toUInt32.toUInt16.toUInt32.toInt32), iv 1, iv 1, iv 1] [.int 1])
            refine own_st (fun t k => XS.ifNo X30.here hx rfl (hb hby at_107) rfl (by decide) k) ?_
            show own_E p e below _ T30 (mkF m 110 #[iv p1, iv p2, iv (p2 &&& (3 : Int32)), iv ((p1 &&& (127 : Int32)).toUInt32.toUInt16.toUInt32.toInt32), iv 1, iv 1, iv 1] [])
            refine own_st (fun t k => XS.iconst X30.here hx rfl (hb hby at_110) k) ?_
            show own_E p e below _ T30 (mkF m 111 #[iv p1, iv p2, iv (p2 &&& (3 : Int32)), iv ((p1 &&& (127 : Int32)).toUInt32.toUInt16.toUInt32.toInt32), iv 1, iv 1, iv 1] [.int 1])
            refine own_st (fun t k => XS.goto X30.here hx rfl (pc0 := 111) (pc' := 115) rfl (hb hby at_111) (by decide) (by decide) k) ?_
            show own_E p e below _ T30 (mkF m 115 #[iv p1, iv p2, iv (p2 &&& (3 : Int32)), iv ((p1 &&& (127 : Int32)).toUInt32.toUInt16.toUInt32.toInt32), iv 1, iv 1, iv 1] [.int 1])
            refine own_retS X30 hx Bd.notSynchronized Bd.returns rfl (by decide) (hb hby at_115) (by decide) (by decide) ?_
            exact ⟨rfl, fun y hy => by simp at hy⟩
          · exact absurd hc26 ha28_0
          · exact absurd hc26 ha28_0
        · refine own_st (fun t k => XS.icmpNo X0.here hx rfl (hb hby at_48) rfl (feq hc26).1 k) ?_
          show own_E p e below _ s₁ (mkF m 51 #[iv p1, iv p2, iv (p2 &&& (3 : Int32)), iv ((p1 &&& (127 : Int32)).toUInt32.toUInt16.toUInt32.toInt32), .unset, .unset, .unset] [])
          refine own_st (fun t k => XS.iloadN X0.here hx rfl (hb hby at_51) rfl k) ?_
          show own_E p e below _ s₁ (mkF m 52 #[iv p1, iv p2, iv (p2 &&& (3 : Int32)), iv ((p1 &&& (127 : Int32)).toUInt32.toUInt16.toUInt32.toInt32), .unset, .unset, .unset] [.int ((p1 &&& (127 : Int32)).toUInt32.toUInt16.toUInt32.toInt32)])
          refine own_st (fun t k => XS.bipush X0.here hx rfl (hb hby at_52) k) ?_
          show own_E p e below _ s₁ (mkF m 54 #[iv p1, iv p2, iv (p2 &&& (3 : Int32)), iv ((p1 &&& (127 : Int32)).toUInt32.toUInt16.toUInt32.toInt32), .unset, .unset, .unset] [.int 9, .int ((p1 &&& (127 : Int32)).toUInt32.toUInt16.toUInt32.toInt32)])
          by_cases hc31 : ((p1 &&& (127 : Int32)).toUInt32.toUInt16.toUInt32.toInt32) = (9 : Int32)
          · refine own_st (fun t k => XS.icmpNo X0.here hx rfl (hb hby at_54) rfl (teq hc31).2 k) ?_
            show own_E p e below _ s₁ (mkF m 57 #[iv p1, iv p2, iv (p2 &&& (3 : Int32)), iv ((p1 &&& (127 : Int32)).toUInt32.toUInt16.toUInt32.toInt32), .unset, .unset, .unset] [])
            refine own_st (fun t k => XS.iconst X0.here hx rfl (hb hby at_57) k) ?_
            show own_E p e below _ s₁ (mkF m 58 #[iv p1, iv p2, iv (p2 &&& (3 : Int32)), iv ((p1 &&& (127 : Int32)).toUInt32.toUInt16.toUInt32.toInt32), .unset, .unset, .unset] [.int 1])
            refine own_st (fun t k => XS.goto X0.here hx rfl (pc0 := 58) (pc' := 62) rfl (hb hby at_58) (by decide) (by decide) k) ?_
            show own_E p e below _ s₁ (mkF m 62 #[iv p1, iv p2, iv (p2 &&& (3 : Int32)), iv ((p1 &&& (127 : Int32)).toUInt32.toUInt16.toUInt32.toInt32), .unset, .unset, .unset] [.int 1])
            refine own_st (fun t k => XS.istore X0.here hx rfl (hb hby at_62) rfl (l' := #[iv p1, iv p2, iv (p2 &&& (3 : Int32)), iv ((p1 &&& (127 : Int32)).toUInt32.toUInt16.toUInt32.toInt32), iv 1, .unset, .unset]) rfl k) ?_
            show own_E p e below _ s₁ (mkF m 64 #[iv p1, iv p2, iv (p2 &&& (3 : Int32)), iv ((p1 &&& (127 : Int32)).toUInt32.toUInt16.toUInt32.toInt32), iv 1, .unset, .unset] [])
            obtain ⟨T32, X32, e32, st32⟩ := getS2 X0 hx hZ hown (host := "") (Or.inl (own_w hw 0 rfl)) Via.refl e0 S_LENIENT (g := (mkF m 64 #[iv p1, iv p2, iv (p2 &&& (3 : Int32)), iv ((p1 &&& (127 : Int32)).toUInt32.toUInt16.toUInt32.toInt32), iv 1, .unset, .unset] [])) rfl (hb hby at_64)
            refine own_st st32 ?_
            show own_E p e below _ T32 (mkF m 67 #[iv p1, iv p2, iv (p2 &&& (3 : Int32)), iv ((p1 &&& (127 : Int32)).toUInt32.toUInt16.toUInt32.toInt32), iv 1, .unset, .unset] [.ref aLENIENT])
            refine own_st (fun t k => XS.iloadN X32.here hx rfl (hb hby at_67) rfl k) ?_
            show own_E p e below _ T32 (mkF m 68 #[iv p1, iv p2, iv (p2 &&& (3 : Int32)), iv ((p1 &&& (127 : Int32)).toUInt32.toUInt16.toUInt32.toInt32), iv 1, .unset, .unset] [.int ((p1 &&& (127 : Int32)).toUInt32.toUInt16.toUInt32.toInt32), .ref aLENIENT])
            obtain ⟨cq33, kq33, q33a, q33b, q33c⟩ := isOf hZ e32 E_LENIENT
            obtain ⟨_, _, ⟨T33, L33, k33, n33⟩, -, X33, ⟨Lc33, hQ33, l33, y33, z33⟩, st33⟩ := X32.virtualBack hx (y := own_y0) (z := own_y0) hown (mvT hZ (own_w hw 3 rfl)) (mvT hZ (own_w hw 4 rfl)) (notFace_of_selects (args := #[]) (mvT hZ (own_w hw 6 rfl))) (mvT hZ (own_w hw 6 rfl)) (mvT hZ (own_w hw 5 rfl)) (by decide) (backOf (W := 0) (own_blank_LENIENT l Z a0 hw [] aLENIENT aSTRICT ((p1 &&& (127 : Int32)).toUInt32.toUInt16.toUInt32.toInt32) h0 n0 Z0 S_LENIENT S_STRICT E_LENIENT E_STRICT ne_LENIENT_STRICT) hZ (own_w hw 7 rfl) (own_w hw 1 rfl) (by decide) (by decide)) q33a q33c (g := (mkF m 68 #[iv p1, iv p2, iv (p2 &&& (3 : Int32)), iv ((p1 &&& (127 : Int32)).toUInt32.toUInt16.toUInt32.toInt32), iv 1, .unset, .unset] [.int ((p1 &&& (127 : Int32)).toUInt32.toUInt16.toUInt32.toInt32), .ref aLENIENT])) rfl (by rw [hml]; rfl) (Steps.refl _) (argsL := [(.int ((p1 &&& (127 : Int32)).toUInt32.toUInt16.toUInt32.toInt32))]) (rest := []) (lenOf own_pd_0 rfl) rfl (by show 2 * 0 + _ ≤ _; exact Nat.le_of_eq rfl) (hb hby at_68) (fun _ _ => ⟨rfl, e32, (by decide : 0 + 0 ≤ _), (by decide : 0 + 0 ≤ _)⟩)
            dsimp only [Pt.U, Pt.locs, Pt.cells, Pt.slots] at X33 l33 y33 z33 st33 hQ33
            subst l33 y33 z33
            obtain ⟨hR33, e33, rfl⟩ := hQ33
            rcases hR33 with ⟨rfl, ha33_0⟩ | ⟨rfl, ha33_0, ha33_1⟩ | ⟨rfl, ha33_0, ha33_1⟩
            · exact absurd ha33_0 hc26
            · refine own_tr st33 ?_
              show own_E p e below _ T33 (mkF m 71 #[iv p1, iv p2, iv (p2 &&& (3 : Int32)), iv ((p1 &&& (127 : Int32)).toUInt32.toUInt16.toUInt32.toInt32), iv 1, .unset, .unset] [.int 1])
              refine own_st (fun t k => XS.iload X33.here hx rfl (hb hby at_71) rfl k) ?_
              show own_E p e below _ T33 (mkF m 73 #[iv p1, iv p2, iv (p2 &&& (3 : Int32)), iv ((p1 &&& (127 : Int32)).toUInt32.toUInt16.toUInt32.toInt32), iv 1, .unset, .unset] [.int 1, .int 1])
              refine own_st (fun t k => XS.icmpNo X33.here hx rfl (hb hby at_73) rfl (by decide) k) ?_
              show own_E p e below _ T33 (mkF m 76 #[iv p1, iv p2, iv (p2 &&& (3 : Int32)), iv ((p1 &&& (127 : Int32)).toUInt32.toUInt16.toUInt32.toInt32), iv 1, .unset, .unset] [])
              refine own_st (fun t k => XS.iconst X33.here hx rfl (hb hby at_76) k) ?_
              show own_E p e below _ T33 (mkF m 77 #[iv p1, iv p2, iv (p2 &&& (3 : Int32)), iv ((p1 &&& (127 : Int32)).toUInt32.toUInt16.toUInt32.toInt32), iv 1, .unset, .unset] [.int 1])
              refine own_st (fun t k => XS.goto X33.here hx rfl (pc0 := 77) (pc' := 81) rfl (hb hby at_77) (by decide) (by decide) k) ?_
              show own_E p e below _ T33 (mkF m 81 #[iv p1, iv p2, iv (p2 &&& (3 : Int32)), iv ((p1 &&& (127 : Int32)).toUInt32.toUInt16.toUInt32.toInt32), iv 1, .unset, .unset] [.int 1])
              refine own_st (fun t k => XS.istore X33.here hx rfl (hb hby at_81) rfl (l' := #[iv p1, iv p2, iv (p2 &&& (3 : Int32)), iv ((p1 &&& (127 : Int32)).toUInt32.toUInt16.toUInt32.toInt32), iv 1, iv 1, .unset]) rfl k) ?_
              show own_E p e below _ T33 (mkF m 83 #[iv p1, iv p2, iv (p2 &&& (3 : Int32)), iv ((p1 &&& (127 : Int32)).toUInt32.toUInt16.toUInt32.toInt32), iv 1, iv 1, .unset] [])
              obtain ⟨T34, X34, e34, st34⟩ := getS2 X33 hx hZ hown (host := "") (Or.inl (own_w hw 9 rfl)) Via.refl e33 S_STRICT (g := (mkF m 83 #[iv p1, iv p2, iv (p2 &&& (3 : Int32)), iv ((p1 &&& (127 : Int32)).toUInt32.toUInt16.toUInt32.toInt32), iv 1, iv 1, .unset] [])) rfl (hb hby at_83)
              refine own_st st34 ?_
              show own_E p e below _ T34 (mkF m 86 #[iv p1, iv p2, iv (p2 &&& (3 : Int32)), iv ((p1 &&& (127 : Int32)).toUInt32.toUInt16.toUInt32.toInt32), iv 1, iv 1, .unset] [.ref aSTRICT])
              refine own_st (fun t k => XS.iloadN X34.here hx rfl (hb hby at_86) rfl k) ?_
              show own_E p e below _ T34 (mkF m 87 #[iv p1, iv p2, iv (p2 &&& (3 : Int32)), iv ((p1 &&& (127 : Int32)).toUInt32.toUInt16.toUInt32.toInt32), iv 1, iv 1, .unset] [.int ((p1 &&& (127 : Int32)).toUInt32.toUInt16.toUInt32.toInt32), .ref aSTRICT])
              obtain ⟨cq35, kq35, q35a, q35b, q35c⟩ := isOf hZ e34 E_STRICT
              obtain ⟨_, _, ⟨T35, L35, k35, n35⟩, -, X35, ⟨Lc35, hQ35, l35, y35, z35⟩, st35⟩ := X34.virtualBack hx (y := own_y0) (z := own_y0) hown (mvT hZ (own_w hw 3 rfl)) (mvT hZ (own_w hw 4 rfl)) (notFace_of_selects (args := #[]) (mvT hZ (own_w hw 6 rfl))) (mvT hZ (own_w hw 6 rfl)) (mvT hZ (own_w hw 5 rfl)) (by decide) (backOf (W := 0) (own_blank_STRICT l Z a0 hw [] aLENIENT aSTRICT ((p1 &&& (127 : Int32)).toUInt32.toUInt16.toUInt32.toInt32) h0 n0 Z0 S_LENIENT S_STRICT E_LENIENT E_STRICT ne_LENIENT_STRICT) hZ (own_w hw 7 rfl) (own_w hw 1 rfl) (by decide) (by decide)) q35a q35c (g := (mkF m 87 #[iv p1, iv p2, iv (p2 &&& (3 : Int32)), iv ((p1 &&& (127 : Int32)).toUInt32.toUInt16.toUInt32.toInt32), iv 1, iv 1, .unset] [.int ((p1 &&& (127 : Int32)).toUInt32.toUInt16.toUInt32.toInt32), .ref aSTRICT])) rfl (by rw [hml]; rfl) (Steps.refl _) (argsL := [(.int ((p1 &&& (127 : Int32)).toUInt32.toUInt16.toUInt32.toInt32))]) (rest := []) (lenOf own_pd_0 rfl) rfl (by show 2 * 0 + _ ≤ _; exact Nat.le_of_eq rfl) (hb hby at_87) (fun _ _ => ⟨rfl, e34, (by decide : 0 + 0 ≤ _), (by decide : 0 + 0 ≤ _)⟩)
              dsimp only [Pt.U, Pt.locs, Pt.cells, Pt.slots] at X35 l35 y35 z35 st35 hQ35
              subst l35 y35 z35
              obtain ⟨hR35, e35, rfl⟩ := hQ35
              obtain rfl := hR35
              refine own_tr st35 ?_
              show own_E p e below _ T35 (mkF m 90 #[iv p1, iv p2, iv (p2 &&& (3 : Int32)), iv ((p1 &&& (127 : Int32)).toUInt32.toUInt16.toUInt32.toInt32), iv 1, iv 1, .unset] [.int 0])
              refine own_st (fun t k => XS.ifNo X35.here hx rfl (hb hby at_90) rfl (by decide) k) ?_
              show own_E p e below _ T35 (mkF m 93 #[iv p1, iv p2, iv (p2 &&& (3 : Int32)), iv ((p1 &&& (127 : Int32)).toUInt32.toUInt16.toUInt32.toInt32), iv 1, iv 1, .unset] [])
              refine own_st (fun t k => XS.iconst X35.here hx rfl (hb hby at_93) k) ?_
              show own_E p e below _ T35 (mkF m 94 #[iv p1, iv p2, iv (p2 &&& (3 : Int32)), iv ((p1 &&& (127 : Int32)).toUInt32.toUInt16.toUInt32.toInt32), iv 1, iv 1, .unset] [.int 1])
              refine own_st (fun t k => XS.goto X35.here hx rfl (pc0 := 94) (pc' := 98) rfl (hb hby at_94) (by decide) (by decide) k) ?_
              show own_E p e below _ T35 (mkF m 98 #[iv p1, iv p2, iv (p2 &&& (3 : Int32)), iv ((p1 &&& (127 : Int32)).toUInt32.toUInt16.toUInt32.toInt32), iv 1, iv 1, .unset] [.int 1])
              refine own_st (fun t k => XS.istore X35.here hx rfl (hb hby at_98) rfl (l' := #[iv p1, iv p2, iv (p2 &&& (3 : Int32)), iv ((p1 &&& (127 : Int32)).toUInt32.toUInt16.toUInt32.toInt32), iv 1, iv 1, iv 1]) rfl k) ?_
              show own_E p e below _ T35 (mkF m 100 #[iv p1, iv p2, iv (p2 &&& (3 : Int32)), iv ((p1 &&& (127 : Int32)).toUInt32.toUInt16.toUInt32.toInt32), iv 1, iv 1, iv 1] [])
              refine own_st (fun t k => XS.iload X35.here hx rfl (hb hby at_100) rfl k) ?_
              show own_E p e below _ T35 (mkF m 102 #[iv p1, iv p2, iv (p2 &&& (3 : Int32)), iv ((p1 &&& (127 : Int32)).toUInt32.toUInt16.toUInt32.toInt32), iv 1, iv 1, iv 1] [.int 1])
              refine own_st (fun t k => XS.ifNo X35.here hx rfl (hb hby at_102) rfl (by decide) k) ?_
              show own_E p e below _ T35 (mkF m 105 #[iv p1, iv p2, iv (p2 &&& (3 : Int32)), iv ((p1 &&& (127 : Int32)).toUInt32.toUInt16.toUInt32.toInt32), iv 1, iv 1, iv 1] [])
              refine own_st (fun t k => XS.iload X35.here hx rfl (hb hby at_105) rfl k) ?_
              show own_E p e below _ T35 (mkF m 107 #[iv p1, iv p2, iv (p2 &&& (3 : Int32)), iv ((p1 &&& (127 : Int32)).toUInt32.toUInt16.toUInt32.toInt32), iv 1, iv 1, iv 1] [.int 1])
              refine own_st (fun t k => XS.ifNo X35.here hx rfl (hb hby at_107) rfl (by decide) k) ?_
              show own_E p e below _ T35 (mkF m 110 #[iv p1, iv p2, iv (p2 &&& (3 : Int32)), iv ((p1 &&& (127 : Int32)).toUInt32.toUInt16.toUInt32.toInt32), iv 1, iv 1, iv 1] [])
              refine own_st (fun t k => XS.iconst X35.here hx rfl (hb hby at_110) k) ?_
              show own_E p e below _ T35 (mkF m 111 #[iv p1, iv p2, iv (p2 &&& (3 : Int32)), iv ((p1 &&& (127 : Int32)).toUInt32.toUInt16.toUInt32.toInt32), iv 1, iv 1, iv 1] [.int 1])
              refine own_st (fun t k => XS.goto X35.here hx rfl (pc0 := 111) (pc' := 115) rfl (hb hby at_111) (by decide) (by decide) k) ?_
              show own_E p e below _ T35 (mkF m 115 #[iv p1, iv p2, iv (p2 &&& (3 : Int32)), iv ((p1 &&& (127 : Int32)).toUInt32.toUInt16.toUInt32.toInt32), iv 1, iv 1, iv 1] [.int 1])
              refine own_retS X35 hx Bd.notSynchronized Bd.returns rfl (by decide) (hb hby at_115) (by decide) (by decide) ?_
              exact ⟨rfl, fun y hy => by simp at hy⟩
            · exact absurd hc31 ha33_1
          · refine own_st (fun t k => XS.icmpYes X0.here hx rfl (pc0 := 54) (pc' := 61) rfl (hb hby at_54) rfl (feq hc31).2 (by decide) (by decide) k) ?_
            show own_E p e below _ s₁ (mkF m 61 #[iv p1, iv p2, iv (p2 &&& (3 : Int32)), iv ((p1 &&& (127 : Int32)).toUInt32.toUInt16.toUInt32.toInt32), .unset, .unset, .unset] [])
            refine own_st (fun t k => XS.iconst X0.here hx rfl (hb hby at_61) k) ?_
            show own_E p e below _ s₁ (mkF m 62 #[iv p1, iv p2, iv (p2 &&& (3 : Int32)), iv ((p1 &&& (127 : Int32)).toUInt32.toUInt16.toUInt32.toInt32), .unset, .unset, .unset] [.int 0])
            refine own_st (fun t k => XS.istore X0.here hx rfl (hb hby at_62) rfl (l' := #[iv p1, iv p2, iv (p2 &&& (3 : Int32)), iv ((p1 &&& (127 : Int32)).toUInt32.toUInt16.toUInt32.toInt32), iv 0, .unset, .unset]) rfl k) ?_
            show own_E p e below _ s₁ (mkF m 64 #[iv p1, iv p2, iv (p2 &&& (3 : Int32)), iv ((p1 &&& (127 : Int32)).toUInt32.toUInt16.toUInt32.toInt32), iv 0, .unset, .unset] [])
            obtain ⟨T36, X36, e36, st36⟩ := getS2 X0 hx hZ hown (host := "") (Or.inl (own_w hw 0 rfl)) Via.refl e0 S_LENIENT (g := (mkF m 64 #[iv p1, iv p2, iv (p2 &&& (3 : Int32)), iv ((p1 &&& (127 : Int32)).toUInt32.toUInt16.toUInt32.toInt32), iv 0, .unset, .unset] [])) rfl (hb hby at_64)
            refine own_st st36 ?_
            show own_E p e below _ T36 (mkF m 67 #[iv p1, iv p2, iv (p2 &&& (3 : Int32)), iv ((p1 &&& (127 : Int32)).toUInt32.toUInt16.toUInt32.toInt32), iv 0, .unset, .unset] [.ref aLENIENT])
            refine own_st (fun t k => XS.iloadN X36.here hx rfl (hb hby at_67) rfl k) ?_
            show own_E p e below _ T36 (mkF m 68 #[iv p1, iv p2, iv (p2 &&& (3 : Int32)), iv ((p1 &&& (127 : Int32)).toUInt32.toUInt16.toUInt32.toInt32), iv 0, .unset, .unset] [.int ((p1 &&& (127 : Int32)).toUInt32.toUInt16.toUInt32.toInt32), .ref aLENIENT])
            obtain ⟨cq37, kq37, q37a, q37b, q37c⟩ := isOf hZ e36 E_LENIENT
            obtain ⟨_, _, ⟨T37, L37, k37, n37⟩, -, X37, ⟨Lc37, hQ37, l37, y37, z37⟩, st37⟩ := X36.virtualBack hx (y := own_y0) (z := own_y0) hown (mvT hZ (own_w hw 3 rfl)) (mvT hZ (own_w hw 4 rfl)) (notFace_of_selects (args := #[]) (mvT hZ (own_w hw 6 rfl))) (mvT hZ (own_w hw 6 rfl)) (mvT hZ (own_w hw 5 rfl)) (by decide) (backOf (W := 0) (own_blank_LENIENT l Z a0 hw [] aLENIENT aSTRICT ((p1 &&& (127 : Int32)).toUInt32.toUInt16.toUInt32.toInt32) h0 n0 Z0 S_LENIENT S_STRICT E_LENIENT E_STRICT ne_LENIENT_STRICT) hZ (own_w hw 7 rfl) (own_w hw 1 rfl) (by decide) (by decide)) q37a q37c (g := (mkF m 68 #[iv p1, iv p2, iv (p2 &&& (3 : Int32)), iv ((p1 &&& (127 : Int32)).toUInt32.toUInt16.toUInt32.toInt32), iv 0, .unset, .unset] [.int ((p1 &&& (127 : Int32)).toUInt32.toUInt16.toUInt32.toInt32), .ref aLENIENT])) rfl (by rw [hml]; rfl) (Steps.refl _) (argsL := [(.int ((p1 &&& (127 : Int32)).toUInt32.toUInt16.toUInt32.toInt32))]) (rest := []) (lenOf own_pd_0 rfl) rfl (by show 2 * 0 + _ ≤ _; exact Nat.le_of_eq rfl) (hb hby at_68) (fun _ _ => ⟨rfl, e36, (by decide : 0 + 0 ≤ _), (by decide : 0 + 0 ≤ _)⟩)
            dsimp only [Pt.U, Pt.locs, Pt.cells, Pt.slots] at X37 l37 y37 z37 st37 hQ37
            subst l37 y37 z37
            obtain ⟨hR37, e37, rfl⟩ := hQ37
            rcases hR37 with ⟨rfl, ha37_0⟩ | ⟨rfl, ha37_0, ha37_1⟩ | ⟨rfl, ha37_0, ha37_1⟩
            · exact absurd ha37_0 hc26
            · exact absurd ha37_1 hc31
            · refine own_tr st37 ?_
              show own_E p e below _ T37 (mkF m 71 #[iv p1, iv p2, iv (p2 &&& (3 : Int32)), iv ((p1 &&& (127 : Int32)).toUInt32.toUInt16.toUInt32.toInt32), iv 0, .unset, .unset] [.int 0])
              refine own_st (fun t k => XS.iload X37.here hx rfl (hb hby at_71) rfl k) ?_
              show own_E p e below _ T37 (mkF m 73 #[iv p1, iv p2, iv (p2 &&& (3 : Int32)), iv ((p1 &&& (127 : Int32)).toUInt32.toUInt16.toUInt32.toInt32), iv 0, .unset, .unset] [.int 0, .int 0])
              refine own_st (fun t k => XS.icmpNo X37.here hx rfl (hb hby at_73) rfl (by decide) k) ?_
              show own_E p e below _ T37 (mkF m 76 #[iv p1, iv p2, iv (p2 &&& (3 : Int32)), iv ((p1 &&& (127 : Int32)).toUInt32.toUInt16.toUInt32.toInt32), iv 0, .unset, .unset] [])
              refine own_st (fun t k => XS.iconst X37.here hx rfl (hb hby at_76) k) ?_
              show own_E p e below _ T37 (mkF m 77 #[iv p1, iv p2, iv (p2 &&& (3 : Int32)), iv ((p1 &&& (127 : Int32)).toUInt32.toUInt16.toUInt32.toInt32), iv 0, .unset, .unset] [.int 1])
              refine own_st (fun t k => XS.goto X37.here hx rfl (pc0 := 77) (pc' := 81) rfl (hb hby at_77) (by decide) (by decide) k) ?_
              show own_E p e below _ T37 (mkF m 81 #[iv p1, iv p2, iv (p2 &&& (3 : Int32)), iv ((p1 &&& (127 : Int32)).toUInt32.toUInt16.toUInt32.toInt32), iv 0, .unset, .unset] [.int 1])
              refine own_st (fun t k => XS.istore X37.here hx rfl (hb hby at_81) rfl (l' := #[iv p1, iv p2, iv (p2 &&& (3 : Int32)), iv ((p1 &&& (127 : Int32)).toUInt32.toUInt16.toUInt32.toInt32), iv 0, iv 1, .unset]) rfl k) ?_
              show own_E p e below _ T37 (mkF m 83 #[iv p1, iv p2, iv (p2 &&& (3 : Int32)), iv ((p1 &&& (127 : Int32)).toUInt32.toUInt16.toUInt32.toInt32), iv 0, iv 1, .unset] [])
              obtain ⟨T38, X38, e38, st38⟩ := getS2 X37 hx hZ hown (host := "") (Or.inl (own_w hw 9 rfl)) Via.refl e37 S_STRICT (g := (mkF m 83 #[iv p1, iv p2, iv (p2 &&& (3 : Int32)), iv ((p1 &&& (127 : Int32)).toUInt32.toUInt16.toUInt32.toInt32), iv 0, iv 1, .unset] [])) rfl (hb hby at_83)
              refine own_st st38 ?_
              show own_E p e below _ T38 (mkF m 86 #[iv p1, iv p2, iv (p2 &&& (3 : Int32)), iv ((p1 &&& (127 : Int32)).toUInt32.toUInt16.toUInt32.toInt32), iv 0, iv 1, .unset] [.ref aSTRICT])
              refine own_st (fun t k => XS.iloadN X38.here hx rfl (hb hby at_86) rfl k) ?_
              show own_E p e below _ T38 (mkF m 87 #[iv p1, iv p2, iv (p2 &&& (3 : Int32)), iv ((p1 &&& (127 : Int32)).toUInt32.toUInt16.toUInt32.toInt32), iv 0, iv 1, .unset] [.int ((p1 &&& (127 : Int32)).toUInt32.toUInt16.toUInt32.toInt32), .ref aSTRICT])
              obtain ⟨cq39, kq39, q39a, q39b, q39c⟩ := isOf hZ e38 E_STRICT
              obtain ⟨_, _, ⟨T39, L39, k39, n39⟩, -, X39, ⟨Lc39, hQ39, l39, y39, z39⟩, st39⟩ := X38.virtualBack hx (y := own_y0) (z := own_y0) hown (mvT hZ (own_w hw 3 rfl)) (mvT hZ (own_w hw 4 rfl)) (notFace_of_selects (args := #[]) (mvT hZ (own_w hw 6 rfl))) (mvT hZ (own_w hw 6 rfl)) (mvT hZ (own_w hw 5 rfl)) (by decide) (backOf (W := 0) (own_blank_STRICT l Z a0 hw [] aLENIENT aSTRICT ((p1 &&& (127 : Int32)).toUInt32.toUInt16.toUInt32.toInt32) h0 n0 Z0 S_LENIENT S_STRICT E_LENIENT E_STRICT ne_LENIENT_STRICT) hZ (own_w hw 7 rfl) (own_w hw 1 rfl) (by decide) (by decide)) q39a q39c (g := (mkF m 87 #[iv p1, iv p2, iv (p2 &&& (3 : Int32)), iv ((p1 &&& (127 : Int32)).toUInt32.toUInt16.toUInt32.toInt32), iv 0, iv 1, .unset] [.int ((p1 &&& (127 : Int32)).toUInt32.toUInt16.toUInt32.toInt32), .ref aSTRICT])) rfl (by rw [hml]; rfl) (Steps.refl _) (argsL := [(.int ((p1 &&& (127 : Int32)).toUInt32.toUInt16.toUInt32.toInt32))]) (rest := []) (lenOf own_pd_0 rfl) rfl (by show 2 * 0 + _ ≤ _; exact Nat.le_of_eq rfl) (hb hby at_87) (fun _ _ => ⟨rfl, e38, (by decide : 0 + 0 ≤ _), (by decide : 0 + 0 ≤ _)⟩)
              dsimp only [Pt.U, Pt.locs, Pt.cells, Pt.slots] at X39 l39 y39 z39 st39 hQ39
              subst l39 y39 z39
              obtain ⟨hR39, e39, rfl⟩ := hQ39
              obtain rfl := hR39
              refine own_tr st39 ?_
              show own_E p e below _ T39 (mkF m 90 #[iv p1, iv p2, iv (p2 &&& (3 : Int32)), iv ((p1 &&& (127 : Int32)).toUInt32.toUInt16.toUInt32.toInt32), iv 0, iv 1, .unset] [.int 0])
              refine own_st (fun t k => XS.ifNo X39.here hx rfl (hb hby at_90) rfl (by decide) k) ?_
              show own_E p e below _ T39 (mkF m 93 #[iv p1, iv p2, iv (p2 &&& (3 : Int32)), iv ((p1 &&& (127 : Int32)).toUInt32.toUInt16.toUInt32.toInt32), iv 0, iv 1, .unset] [])
              refine own_st (fun t k => XS.iconst X39.here hx rfl (hb hby at_93) k) ?_
              show own_E p e below _ T39 (mkF m 94 #[iv p1, iv p2, iv (p2 &&& (3 : Int32)), iv ((p1 &&& (127 : Int32)).toUInt32.toUInt16.toUInt32.toInt32), iv 0, iv 1, .unset] [.int 1])
              refine own_st (fun t k => XS.goto X39.here hx rfl (pc0 := 94) (pc' := 98) rfl (hb hby at_94) (by decide) (by decide) k) ?_
              show own_E p e below _ T39 (mkF m 98 #[iv p1, iv p2, iv (p2 &&& (3 : Int32)), iv ((p1 &&& (127 : Int32)).toUInt32.toUInt16.toUInt32.toInt32), iv 0, iv 1, .unset] [.int 1])
              refine own_st (fun t k => XS.istore X39.here hx rfl (hb hby at_98) rfl (l' := #[iv p1, iv p2, iv (p2 &&& (3 : Int32)), iv ((p1 &&& (127 : Int32)).toUInt32.toUInt16.toUInt32.toInt32), iv 0, iv 1, iv 1]) rfl k) ?_
              show own_E p e below _ T39 (mkF m 100 #[iv p1, iv p2, iv (p2 &&& (3 : Int32)), iv ((p1 &&& (127 : Int32)).toUInt32.toUInt16.toUInt32.toInt32), iv 0, iv 1, iv 1] [])
              refine own_st (fun t k => XS.iload X39.here hx rfl (hb hby at_100) rfl k) ?_
              show own_E p e below _ T39 (mkF m 102 #[iv p1, iv p2, iv (p2 &&& (3 : Int32)), iv ((p1 &&& (127 : Int32)).toUInt32.toUInt16.toUInt32.toInt32), iv 0, iv 1, iv 1] [.int 1])
              refine own_st (fun t k => XS.ifNo X39.here hx rfl (hb hby at_102) rfl (by decide) k) ?_
              show own_E p e below _ T39 (mkF m 105 #[iv p1, iv p2, iv (p2 &&& (3 : Int32)), iv ((p1 &&& (127 : Int32)).toUInt32.toUInt16.toUInt32.toInt32), iv 0, iv 1, iv 1] [])
              refine own_st (fun t k => XS.iload X39.here hx rfl (hb hby at_105) rfl k) ?_
              show own_E p e below _ T39 (mkF m 107 #[iv p1, iv p2, iv (p2 &&& (3 : Int32)), iv ((p1 &&& (127 : Int32)).toUInt32.toUInt16.toUInt32.toInt32), iv 0, iv 1, iv 1] [.int 1])
              refine own_st (fun t k => XS.ifNo X39.here hx rfl (hb hby at_107) rfl (by decide) k) ?_
              show own_E p e below _ T39 (mkF m 110 #[iv p1, iv p2, iv (p2 &&& (3 : Int32)), iv ((p1 &&& (127 : Int32)).toUInt32.toUInt16.toUInt32.toInt32), iv 0, iv 1, iv 1] [])
              refine own_st (fun t k => XS.iconst X39.here hx rfl (hb hby at_110) k) ?_
              show own_E p e below _ T39 (mkF m 111 #[iv p1, iv p2, iv (p2 &&& (3 : Int32)), iv ((p1 &&& (127 : Int32)).toUInt32.toUInt16.toUInt32.toInt32), iv 0, iv 1, iv 1] [.int 1])
              refine own_st (fun t k => XS.goto X39.here hx rfl (pc0 := 111) (pc' := 115) rfl (hb hby at_111) (by decide) (by decide) k) ?_
              show own_E p e below _ T39 (mkF m 115 #[iv p1, iv p2, iv (p2 &&& (3 : Int32)), iv ((p1 &&& (127 : Int32)).toUInt32.toUInt16.toUInt32.toInt32), iv 0, iv 1, iv 1] [.int 1])
              refine own_retS X39 hx Bd.notSynchronized Bd.returns rfl (by decide) (hb hby at_115) (by decide) (by decide) ?_
              exact ⟨rfl, fun y hy => by simp at hy⟩
set_option maxRecDepth 65536 in
set_option maxHeartbeats 40000000 in
theorem comes_1 {Post : Tables → Env → Array Value → State → Outcome → State → Prop} (hpost : ∀ tb e args s v u, (limb_1_1.after args s (.returned v) u = true ∧ limb_1_2.after args s (.returned v) u = true ∧ True) → FrameEnd s (.returned v) u (Jvm.fieldLocs frame_1_writes args s ++ Jvm.arrayLocs frame_1_arrays args s ++ Jvm.staticLocs frame_1_statics s) 0 0 → Post tb e args s (.returned v) u) :
    ArmFor flags0 classFile x code maxLocals ret World_1 tables_1 room_1 Calls_1 rest_1 Pre_1 Post := by
  intro l hfl _ _ p e ha hc hk s m args below hf hA hF happ hP
  obtain ⟨hcalls, hrest, hpre⟩ := hP
  obtain ⟨-, -, -, hnamed, -, -, -, hat⟩ := (Spec.applies_iff hf).mp happ
  obtain ⟨hg, hn⟩ := and_e (Cond.before_iff.mp (show (Jvm.Cond.and given_1 narrow_1).before args s = true from hpre))
  obtain ⟨hg0, hg1⟩ := and_e hg
  obtain ⟨hv0, hg2⟩ := and_e hg1
  have hv1 := hg2
  obtain ⟨w0, w1, rfl⟩ : ∃ w0 w1 : Value, args = #[w0, w1] := by
    have hs : args.size = 2 := by simpa [Cond.value, given_1] using hg0
    obtain ⟨L⟩ := args
    match L, hs with
    | [w0, w1], _ => exact ⟨w0, w1, rfl⟩
  have hw := fun d (hd : d ∈ tables_1) => atoms_spec (ws := Jvm.Cond.code x code maxLocals ret :: tables_1) hat d (List.mem_cons_of_mem _ hd)
  have hfit : Fit s := fun {y c} hc i hi => by
    obtain ⟨ha, rfl⟩ := Array.getElem?_eq_some_iff.mp hc
    have q := List.all_eq_true.mp ((Array.all_eq_true_iff_forall_mem.mp hF) _ (Array.getElem_mem ha)) i (List.mem_range.mpr hi)
    simpa [Array.getElem?_eq_getElem hi] using q
  obtain ⟨i0, ev0⟩ := is_v hv0
  obtain rfl : w0 = (.int i0) := Option.some.inj ev0
  obtain ⟨i1, ev1⟩ := is_v hv1
  obtain rfl : w1 = (.int i1) := Option.some.inj ev1
  obtain ⟨hp0, hq0⟩ := and_e hn
  obtain ⟨hp1, hq1⟩ := and_e hq0
  obtain ⟨hp2, hq2⟩ := and_e hq1
  have hp3 := hq2
  obtain ⟨aLENIENT, evLENIENT⟩ := exa_v hp0
  have S_LENIENT := Sta.start evLENIENT (Or.inr ⟨(own_w hw 1 rfl), (own_w hw 2 rfl)⟩)
  have E_LENIENT := Exa.start evLENIENT hp0
  obtain ⟨aSTRICT, evSTRICT⟩ := exa_v hp1
  have S_STRICT := Sta.start evSTRICT (Or.inr ⟨(own_w hw 1 rfl), (own_w hw 10 rfl)⟩)
  have E_STRICT := Exa.start evSTRICT hp1
  have O_STRICT := Fld.start (own_eqi evSTRICT hp2)
  have O_LENIENT := Fld.start (own_eqi evLENIENT hp3)
  have ne_LENIENT_STRICT : ¬ aLENIENT = aSTRICT := Fld.ne O_LENIENT O_STRICT (by decide)
  obtain ⟨n, o, h1, h2, h3, _, L, rfl, ⟨rfl, N⟩, hq⟩ := own_law l s _ hw tables_1 aLENIENT aSTRICT i0 i1 s.heap s.heap.size (Nat.le_refl _) S_LENIENT S_STRICT E_LENIENT E_STRICT ne_LENIENT_STRICT p e ha hc hk s m _ below hf ((Spec.applies_iff_loose hf).mp happ).1 ⟨rfl, State.Warmed39.refl s, rfl⟩ trivial
  refine ⟨n, _, h1, h2, h3, hpost _ _ _ _ _ _ ⟨Cond.after_iff.mpr rfl, Cond.after_iff.mpr (eq_i res_at (Term.int_eval (1)) rfl), trivial⟩ ⟨hq.1, hq.2.1, (hq.2.2.sift fun y hy => Or.inr (N y hy)).mono (by decide) (by decide)⟩⟩
theorem main_1_1 : Claimed_1_1 := comes_1 fun _ _ _ _ _ _ h hF => ⟨h.1, hF⟩
theorem main_1_2 : Claimed_1_2 := comes_1 fun _ _ _ _ _ _ h hF => ⟨h.2.1, hF⟩
end Jvm.Pilot.@@N@@
namespace Jvm.Pilot.@@N@@
open Jvm Jvm.ClassFile Sem Op Lib Jvm.Free Jvm.Stand Jvm.Pilot.@@N@@.Jvm.D
/-! MADE BY PROGRAM (witnessworld.py) out of the Statement's table words and the real class files: 12 classes; the members and pool entries that the words name. The judged class is class 1, her method 1. -/
namespace start1
open Jvm.ClassFile
def u (s : String) : CpInfo := .utf8 (stringToUtf16 s)
/-- a pool by its gaps: so many unusable entries, then the entry; so many at the end -/
def gap : Nat → List CpInfo → List CpInfo
  | 0, r => r
  | n + 1, r => .unusable :: gap n r
def poolList (es : List (Nat × CpInfo)) (last : Nat) : List CpInfo := es.foldr (fun e r => gap e.1 (e.2 :: r)) (gap last [])
def pool (es : List (Nat × CpInfo)) (last : Nat) : Array CpInfo := ⟨poolList es last⟩
def fileOf (pool : Array CpInfo) (this : Nat) (attrs : Array Attribute := #[]) (ms : Array MethodInfo := #[]) (fl : Nat := 33) (sup : Nat := 0) (ifs : Array Nat := #[]) (fds : Array FieldInfo := #[]) : ClassFile where
  minorVersion := 0
  majorVersion := 65
  constantPool := pool
  accessFlags := fl
  thisClass := this
  superClass := sup
  interfaces := ifs
  fields := fds
  methods := ms
  attributes := attrs
def plain (name : String) (sup : Option ClassId) : Class where
  name := name
  kind := .ordinary
  loader := none
  accessFlags := 33
  super := sup
  interfaces := #[]
  cf := none
  fields := #[]
  methods := #[]
  instanceTypes := #[]
  staticTypes := #[]
  resolved := #[]
  callSites := []
  init := .initialized
  statics := none
  mirror := none

def pool0 : Array CpInfo := pool [(5, u "<init>"), (0, u "()V"), (1, .class_ 10), (1, u "java/lang/Object")] 113

def k0m0 : Method := { name := "<init>", desc := "()V", sig := { parameters := [], returnType := none }, accessFlags := 1, code := none }
/-- java/lang/Object -/
def k0 : Class := { plain "java/lang/Object" none with
  accessFlags := 33
  interfaces := #[]
  cf := some (fileOf pool0 8 #[] #[{ accessFlags := 1, nameIndex := 5, descriptorIndex := 6, attributes := #[] }] 33 0 #[] #[])
  fields := #[]
  methods := #[k0m0]
  instanceTypes := #[]
  staticTypes := #[]
  resolved := Array.replicate 124 none
  statics := none }

def pool1 : Array CpInfo := pool [(2, .class_ 4), (1, u "java/lang/Object"), (0, u "<init>"), (0, u "()V"), (0, .integer 65535), (0, .fieldref 9 10), (0, .class_ 11), (0, .nameAndType 12 13), (0, u "serialis/text/Reading"), (0, u "LENIENT"), (0, u "Lserialis/text/Reading;"), (0, .methodref 9 15), (0, .nameAndType 16 17), (0, u "isBlank"), (0, u "(C)Z"), (0, .fieldref 9 19), (0, .nameAndType 20 13), (0, u "STRICT"), (0, .class_ 22), (0, u "serialis/text/ReadingIsBlankPinLaw"), (2, u "law"), (0, u "(II)Z")] 3

def k1m0 : Method := { name := "<init>", desc := "()V", sig := { parameters := [], returnType := none }, accessFlags := 2, code := none }
def k1c1 : Code := { maxStack := 2, maxLocals := 7, code := code, exceptionTable := #[], attributes := #[] }
def k1m1 : Method := { name := "law", desc := "(II)Z", sig := { parameters := [.int, .int], returnType := some .boolean }, accessFlags := 9, code := some k1c1 }
/-- serialis/text/ReadingIsBlankPinLaw -/
def k1 : Class := { plain "serialis/text/ReadingIsBlankPinLaw" (some 0) with
  accessFlags := 49
  interfaces := #[]
  cf := some (fileOf pool1 21 #[] #[{ accessFlags := 2, nameIndex := 5, descriptorIndex := 6, attributes := #[] }, { accessFlags := 9, nameIndex := 25, descriptorIndex := 26, attributes := #[] }] 49 2 #[] #[])
  fields := #[]
  methods := #[k1m0, k1m1]
  instanceTypes := #[]
  staticTypes := #[]
  resolved := Array.replicate 30 none
  statics := none }

def pool2 : Array CpInfo := pool [(1, .class_ 2), (0, u "java/lang/constant/Constable"), (0, .class_ 4), (0, u "java/lang/Object")] 6

/-- java/lang/constant/Constable -/
def k2 : Class := { plain "java/lang/constant/Constable" (some 0) with
  accessFlags := 1537
  interfaces := #[]
  cf := some (fileOf pool2 1 #[] #[] 1537 3 #[] #[])
  fields := #[]
  methods := #[]
  instanceTypes := #[]
  staticTypes := #[]
  resolved := Array.replicate 11 none
  statics := none }

def pool3 : Array CpInfo := pool [(1, .class_ 2), (0, u "java/lang/Comparable"), (0, .class_ 4), (0, u "java/lang/Object")] 7

/-- java/lang/Comparable -/
def k3 : Class := { plain "java/lang/Comparable" (some 0) with
  accessFlags := 1537
  interfaces := #[]
  cf := some (fileOf pool3 1 #[] #[] 1537 3 #[] #[])
  fields := #[]
  methods := #[]
  instanceTypes := #[]
  staticTypes := #[]
  resolved := Array.replicate 12 none
  statics := none }

def pool4 : Array CpInfo := pool [(1, .class_ 2), (0, u "java/io/Serializable"), (0, .class_ 4), (0, u "java/lang/Object")] 2

/-- java/io/Serializable -/
def k4 : Class := { plain "java/io/Serializable" (some 0) with
  accessFlags := 1537
  interfaces := #[]
  cf := some (fileOf pool4 1 #[] #[] 1537 3 #[] #[])
  fields := #[]
  methods := #[]
  instanceTypes := #[]
  staticTypes := #[]
  resolved := Array.replicate 7 none
  statics := none }

def pool5 : Array CpInfo := pool [(2, .class_ 4), (1, u "java/lang/Enum"), (0, u "name"), (0, u "Ljava/lang/String;"), (2, u "ordinal"), (0, u "I"), (1, .class_ 14), (1, u "java/lang/Object"), (4, u "hash"), (86, .class_ 108), (1, u "java/lang/Enum$EnumDesc"), (2, .class_ 112), (0, u "java/lang/constant/Constable"), (0, .class_ 114), (0, u "java/lang/Comparable"), (0, .class_ 116), (0, u "java/io/Serializable")] 87

/-- java/lang/Enum -/
def k5 : Class := { plain "java/lang/Enum" (some 0) with
  accessFlags := 1057
  interfaces := #[2, 3, 4]
  cf := some (fileOf pool5 2 #[.nestMembers #[106]] #[] 1057 12 #[111, 113, 115] #[{ accessFlags := 18, nameIndex := 5, descriptorIndex := 6, attributes := #[] }, { accessFlags := 18, nameIndex := 9, descriptorIndex := 10, attributes := #[] }, { accessFlags := 2, nameIndex := 19, descriptorIndex := 10, attributes := #[] }])
  fields := #[{ name := "name", type := (.object "java/lang/String"), accessFlags := 18, slot := 0, constantValue := 0 }, { name := "ordinal", type := .int, accessFlags := 18, slot := 1, constantValue := 0 }, { name := "hash", type := .int, accessFlags := 2, slot := 2, constantValue := 0 }]
  methods := #[]
  instanceTypes := #[(.object "java/lang/String"), .int, .int]
  staticTypes := #[]
  resolved := Array.replicate 204 none
  statics := none }

def pool6 : Array CpInfo := pool [(1, .class_ 2), (0, u "serialis/text/Reading"), (0, .fieldref 1 4), (0, .nameAndType 5 6), (0, u "LENIENT"), (0, u "Lserialis/text/Reading;"), (2, u "STRICT"), (2, u "$VALUES"), (0, u "[Lserialis/text/Reading;"), (6, .class_ 22), (1, u "java/lang/Enum"), (30, u "(C)Z"), (32, u "isBlank"), (7, u "FIRST_DIGITS"), (0, u "I"), (2, u "LAST_DIGITS")] 20

def k6c0 : Code := { maxStack := 2, maxLocals := 2, code := prog_34_method_6_code, exceptionTable := #[], attributes := #[] }
def k6m0 : Method := { name := "isBlank", desc := "(C)Z", sig := { parameters := [.char], returnType := some .boolean }, accessFlags := 1, code := some k6c0 }
/-- serialis/text/Reading -/
def k6 : Class := { plain "serialis/text/Reading" (some 5) with
  accessFlags := 16433
  interfaces := #[]
  cf := some (fileOf pool6 1 #[] #[{ accessFlags := 1, nameIndex := 86, descriptorIndex := 53, attributes := #[] }] 16433 20 #[] #[{ accessFlags := 16409, nameIndex := 5, descriptorIndex := 6, attributes := #[] }, { accessFlags := 16409, nameIndex := 9, descriptorIndex := 6, attributes := #[] }, { accessFlags := 26, nameIndex := 94, descriptorIndex := 95, attributes := #[] }, { accessFlags := 26, nameIndex := 98, descriptorIndex := 95, attributes := #[] }, { accessFlags := 4122, nameIndex := 12, descriptorIndex := 13, attributes := #[] }])
  fields := #[{ name := "LENIENT", type := (.object "serialis/text/Reading"), accessFlags := 16409, slot := 0, constantValue := 0 }, { name := "STRICT", type := (.object "serialis/text/Reading"), accessFlags := 16409, slot := 1, constantValue := 0 }, { name := "FIRST_DIGITS", type := .int, accessFlags := 26, slot := 2, constantValue := 0 }, { name := "LAST_DIGITS", type := .int, accessFlags := 26, slot := 3, constantValue := 0 }, { name := "$VALUES", type := (.array (.object "serialis/text/Reading")), accessFlags := 4122, slot := 4, constantValue := 0 }]
  methods := #[k6m0]
  instanceTypes := #[(.object "java/lang/String"), .int, .int]
  staticTypes := #[(.object "serialis/text/Reading"), (.object "serialis/text/Reading"), .int, .int, (.array (.object "serialis/text/Reading"))]
  resolved := Array.replicate 119 none
  statics := some 0 }

def pool7 : Array CpInfo := pool [(1, u "java/lang/Cloneable"), (0, .class_ 1), (0, u "java/lang/Object"), (0, .class_ 3)] 3

/-- java/lang/Cloneable -/
def k7 : Class := { plain "java/lang/Cloneable" (some 0) with
  accessFlags := 1537
  interfaces := #[]
  cf := some (fileOf pool7 2 #[] #[] 1537 4 #[] #[])
  fields := #[]
  methods := #[]
  instanceTypes := #[]
  staticTypes := #[]
  resolved := Array.replicate 8 none
  statics := none }

/-- the primitive byte -/
def k8 : Class := { plain "byte" none with kind := .primitive 'B', accessFlags := 0x411 }
/-- [B -/
def k9 : Class := { plain "[B" (some 0) with kind := .array 8 .byte, interfaces := #[7, 4], accessFlags := 1041 }

/-- the primitive int -/
def k10 : Class := { plain "int" none with kind := .primitive 'I', accessFlags := 0x411 }
/-- [I -/
def k11 : Class := { plain "[I" (some 0) with kind := .array 10 .int, interfaces := #[7, 4], accessFlags := 1041 }

def heap : Heap := #[{ cls := 6, slots := #[.ref 1, .ref 2, .int 0, .int 0, .null], vm := .statics 6 },
  { cls := 6, slots := #[.null, .int 0, .int 0], vm := .none },
  { cls := 6, slots := #[.null, .int 1, .int 0], vm := .none }]
def classes : Array Class := #[k0, k1, k2, k3, k4, k5, k6, k7, k8, k9, k10, k11]
def interned : List (Array UInt16 × Addr) := []
def slotsUsed : Nat := 11
def theMethod : MethodId := ⟨1, 1⟩
def args0 : Array Value := #[.int 5, .int 6]
def aboutOver (below : List Frame) : State where
  vm := { classes := classes, interned := interned.toArray }
  heap := heap
  slotsUsed := slotsUsed
  threads := #[{ frames := .invoking theMethod args0 :: below }]
def below0 : List Frame := [.native { method := ⟨0, 0⟩, args := #[] }]
def about1 : State := aboutOver below0
def p0 : Program := .bare "" "" ""
def e0 : Env := launch0.env 0 0 0
theorem w_frames : about1.frames = Frame.invoking theMethod args0 :: below0 := rfl
set_option maxRecDepth 65536 in
theorem w_args : argsFit about1.vm theMethod args0 = true := by decide +kernel
set_option maxRecDepth 65536 in
theorem w_heap : heapFits about1 = true := by decide +kernel
set_option maxRecDepth 65536 in
theorem w_runnable : about1.curStatus? = some .runnable := by decide +kernel
set_option maxRecDepth 65536 in
theorem w_alone : about1.alone = true := by decide +kernel
set_option maxRecDepth 65536 in
theorem w_named : about1.methodNamed? x = some theMethod := by decide +kernel
set_option maxRecDepth 65536 in
theorem w_hears : about1.hears theMethod below0 = true := by decide +kernel
set_option maxRecDepth 65536 in
theorem w_ripe : about1.ripe theMethod args0 below0 = true := by decide +kernel
theorem w_running : about1.status = .running := rfl
set_option maxRecDepth 65536 in
theorem w_room : about1.hasRoom e0.platform room_1 = true :=
  launch0.hasRoom_least _ room_1 (by decide +kernel) (by decide +kernel) (by decide +kernel) (by decide +kernel) (by decide +kernel) (by decide +kernel)
theorem allAtoms_all (ts : List Jvm.Cond) (a : Array Jvm.Value) (st : Jvm.State) : (allAtoms ts).before a st = ts.all (fun c => c.before a st) := by
  induction ts with
  | nil => rfl
  | cons c t ih =>
    show (Jvm.Cond.and c (allAtoms t)).before a st = _
    rw [Jvm.Cond.before_and, ih, List.all_cons]
def words1 : List Jvm.Cond := Jvm.Cond.code x code maxLocals ret :: tables_1
/-- a 'code' word, met by the world's own term for the bytes: nothing is compared byte by byte -/
theorem code_word {y : MethodName} {bytes : ByteArray} {mx : Nat} {rt : Option FieldType} {a : Array Value} {s : State} {m : MethodId} {meth : Method} {c : Code} (h1 : s.methodNamed? y = some m) (h2 : s.vm.method? m = some meth) (h3 : meth.code = some c) (h4 : c.code = bytes)
    (h5 : (c.maxLocals == mx && c.exceptionTable.isEmpty && decide (c.maxStack ≤ mostOperands) && decide (meth.sig.returnType = rt) && !meth.locks && decide (parseMethodDescriptor y.desc = some meth.sig)) = true) : (Jvm.Cond.code y bytes mx rt).before a s = true := by
  simp only [Bool.and_eq_true, beq_iff_eq, Bool.not_eq_true', decide_eq_true_eq] at h5
  obtain ⟨⟨⟨⟨⟨g1, g2⟩, g3⟩, g4⟩, g5⟩, g6⟩ := h5
  simp [Cond.before, Cond.holds, Cond.value, h1, h2, h3, h4, g1, g2, g3, g4, g5, g6]
def isCode : Jvm.Cond → Bool
  | .code _ _ _ _ => true
  | _ => false
theorem all_split {L : List Jvm.Cond} {P : Jvm.Cond → Bool} (h1 : L.all (fun c => isCode c || P c) = true) (h2 : ∀ c ∈ L.filter isCode, P c = true) : L.all P = true := by
  refine List.all_eq_true.mpr fun c hc => ?_
  have h := List.all_eq_true.mp h1 c hc
  rcases Bool.eq_false_or_eq_true (isCode c) with hi | hi
  · exact h2 c (List.mem_filter.mpr ⟨hc, hi⟩)
  · simpa [hi] using h
set_option maxRecDepth 65536 in
theorem w_c0 : (Jvm.Cond.code x code maxLocals ret).before args0 about1 = true := code_word (m := ⟨1, 1⟩) (meth := k1m1) (c := k1c1) (by decide +kernel) rfl rfl rfl (by decide +kernel)
set_option maxRecDepth 65536 in
theorem w_c1 : (Jvm.Cond.code ({ cls := "serialis/text/Reading", name := "isBlank", desc := "(C)Z" } : Jvm.MethodName) prog_34_method_6_code (2 : Nat) (Option.some Jvm.ClassFile.FieldType.boolean)).before args0 about1 = true := code_word (m := ⟨6, 0⟩) (meth := k6m0) (c := k6c0) (by decide +kernel) rfl rfl rfl (by decide +kernel)
def codes1 : List Jvm.Cond := [Jvm.Cond.code x code maxLocals ret, Jvm.Cond.code ({ cls := "serialis/text/Reading", name := "isBlank", desc := "(C)Z" } : Jvm.MethodName) prog_34_method_6_code (2 : Nat) (Option.some Jvm.ClassFile.FieldType.boolean)]
set_option maxRecDepth 65536 in
theorem codes_eq : words1.filter isCode = codes1 := rfl
theorem w_codes : ∀ c ∈ words1.filter isCode, c.before args0 about1 = true := by
  rw [codes_eq]
  intro c hc
  simp only [codes1, List.mem_cons, List.not_mem_nil, or_false] at hc
  rcases hc with rfl | rfl
  · exact w_c0
  · exact w_c1
set_option maxRecDepth 65536 in
theorem w_t1 : words1.all (fun c => isCode c || c.before args0 about1) = true := by decide +kernel
theorem w_tables : (allAtoms (Jvm.Cond.code x code maxLocals ret :: tables_1)).before args0 about1 = true := by
  rw [allAtoms_all]
  show words1.all (fun c => c.before args0 about1) = true
  refine all_split ?_ w_codes
  rw [w_t1]
set_option maxRecDepth 65536 in
theorem w_case : (Jvm.Cond.and given_1 narrow_1).before args0 about1 = true := by decide +kernel
theorem w_applies : (headSpec (Jvm.Cond.code x code maxLocals ret :: tables_1) room_1).applies x e0.platform about1 = true :=
  (Spec.applies_iff w_frames).mpr ⟨w_running, w_runnable, w_alone, w_named, w_hears, w_ripe, w_room, w_tables⟩
theorem atStart : AtStart classFile x code maxLocals ret World_1 tables_1 room_1 Calls_1 rest_1 Pre_1 launch0 p0 e0 about1 theMethod args0 below0 :=
  ⟨lists_1, trivial, launch0.admits_env _ _ _, launch0.least_env, fairChoices_fair.cas, fairChoices_fair.clock, w_frames, w_args, w_heap, w_applies, trivial, trivial, w_case⟩
end start1
theorem witness_1 : WitnessClaimed_1 := ⟨start1.p0, start1.e0, start1.about1, start1.theMethod, start1.args0, start1.below0, start1.atStart⟩
end Jvm.Pilot.@@N@@
