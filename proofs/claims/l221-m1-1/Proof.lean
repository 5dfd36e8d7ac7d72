import JvmDerived
import JvmDerived.Pilot.@@N@@Statement
import JvmDerived.Pilot.@@N@@Code
set_option linter.unusedVariables false
set_option linter.unusedSimpArgs false
namespace Jvm.Pilot.@@N@@
open Jvm Jvm.ClassFile Sem Op Lib Jvm.Free Jvm.Stand Jvm.LawKit Jvm.RoadKit Bundle Jvm.Pilot.@@N@@.Jvm.D
theorem own_w {a0 : Array Value} {Z : State} (hw : ∀ d ∈ tables_1, d.before a0 Z = true) (i : Nat) {d : Jvm.Cond} (h : tables_1[i]? = some d) : d.before a0 Z = true := hw d (List.mem_of_getElem? h)
section Own
variable {p : Program} {l : Launch} {e : Env} {R : Room} {s : State} {m : MethodId} {args : Array Value} {below : List Frame} {meth : Method} {c : Code} {T T' : State} {locs : List Loc} {cells slots : Nat} {g g' : JFrame} {K : Outcome → State → Prop} {Q : Option Value → Heap → List Loc → Prop} {kc ks : Nat}
/-- from this state, with this frame on top, the run comes to an end at which K holds -/
def own_E (p : Program) (e : Env) (below : List Frame) (K : Outcome → State → Prop) (T : State) (g : JFrame) : Prop :=
  ∃ s₂ o, Steps p.tables e below (T.setTop g) s₂ ∧ s₂.status = .running ∧ Ended s₂ below o ∧ K o s₂
def own_K (Q : Option Value → Heap → List Loc → Prop) (s : State) (kc ks : Nat) : Outcome → State → Prop :=
  fun o U' => ∃ v L, o = .returned v ∧ Q v U'.heap L ∧ FrameEnd s o U' L kc ks
theorem own_st (st : ∀ t, Steps p.tables e below (T'.setTop g') t → Steps p.tables e below (T.setTop g) t) (k : own_E p e below K T' g') : own_E p e below K T g := by
  obtain ⟨s2, o, h1, h2⟩ := k
  exact ⟨s2, o, st _ h1, h2⟩
theorem own_tr (st : Steps p.tables e below (T.setTop g) (T'.setTop g')) (k : own_E p e below K T' g') : own_E p e below K T g :=
  own_st (fun _ h => st.trans h) k
theorem own_pre (q : g = g') (k : own_E p e below K T g') : own_E p e below K T g := q ▸ k
theorem own_end (X : Stand p l e R s m args below meth c T locs cells slots) (hlk : meth.locks = false) {v : Option Value} (hv : meth.sig.returnType = none → v = none)
    (hr : ∀ fs : List Frame, (∀ (f : JFrame) (acts : List Action), f.method = m → f.locked = none → f.entered = [] → (doReturn e (T.setTop f) acts v).1 = T.setFrames fs) → Steps p.tables e below (T.setTop g) (T.setFrames fs))
    (hc : cells ≤ kc) (hs : slots ≤ ks) (hQ : Q v T.heap locs) : own_E p e below (own_K Q s kc ks) T g := by
  obtain ⟨fs, h1, hrun, hended, hW, hsame⟩ := X.leave (v := v) hv hlk
  exact ⟨_, _, hr fs h1, hrun, hended, _, _, rfl, hQ, ⟨_, rfl⟩, hW, hsame.mono hc hs⟩
theorem own_retV (X : Stand p l e R s m args below meth c T locs cells slots) (hx : p.tables.exec = Jvm.exec) (hlk : meth.locks = false) {pc : Nat} {Ls : Array Slot} (hret : meth.sig.returnType = none)
    (hd : decode c.code pc = .ok (.return_, 1)) (hc : cells ≤ kc) (hs : slots ≤ ks) (hQ : Q none T.heap locs) : own_E p e below (own_K Q s kc ks) T (mkF m pc Ls []) :=
  own_end X hlk (fun _ => rfl) (fun fs h => X.returnOut hx hret hd h) hc hs hQ
theorem own_retG (X : Stand p l e R s m args below meth c T locs cells slots) (hx : p.tables.exec = Jvm.exec) (hlk : meth.locks = false) {pc : Nat} {Ls : Array Slot} {w : Value} {t : FieldType} {i : Instr} {rest : List Value} (hret : meth.sig.returnType = some t) (hn : narrow t w = w)
    (hi : (i = .ireturn ∧ (t = .int ∨ t = .boolean ∨ t = .byte ∨ t = .char ∨ t = .short) ∧ ∃ z, w = .int z) ∨ (i = .lreturn ∧ t = .long ∧ ∃ z, w = .long z) ∨ (i = .dreturn ∧ t = .double ∧ ∃ z, w = .double z) ∨ (i = .freturn ∧ t = .float ∧ ∃ z, w = .float z) ∨ (i = .areturn ∧ t.isReference = true ∧ w.isRef = true))
    (hd : decode c.code pc = .ok (i, 1)) (hc : cells ≤ kc) (hs : slots ≤ ks) (hQ : Q (some w) T.heap locs) : own_E p e below (own_K Q s kc ks) T (mkF m pc Ls (w :: rest)) :=
  own_end X hlk (fun h => by rw [hret] at h; cases h) (fun fs h => retOut X hx hret hn hi hd h) hc hs hQ
theorem own_retI (X : Stand p l e R s m args below meth c T locs cells slots) (hx : p.tables.exec = Jvm.exec) (hlk : meth.locks = false) {pc : Nat} {Ls : Array Slot} {z : Int32} {rest : List Value} (hret : meth.sig.returnType = some .int)
    (hd : decode c.code pc = .ok (.ireturn, 1)) (hc : cells ≤ kc) (hs : slots ≤ ks) (hQ : Q (some (.int z)) T.heap locs) : own_E p e below (own_K Q s kc ks) T (mkF m pc Ls (.int z :: rest)) :=
  own_retG X hx hlk hret rfl (Or.inl ⟨rfl, Or.inl rfl, z, rfl⟩) hd hc hs hQ
theorem own_retS (X : Stand p l e R s m args below meth c T locs cells slots) (hx : p.tables.exec = Jvm.exec) (hlk : meth.locks = false) {pc : Nat} {Ls : Array Slot} {z : Int32} {t : FieldType} {rest : List Value} (hret : meth.sig.returnType = some t) (hn : narrow t (.int z) = .int z)
    (ht : t = .int ∨ t = .boolean ∨ t = .byte ∨ t = .char ∨ t = .short) (hd : decode c.code pc = .ok (.ireturn, 1)) (hc : cells ≤ kc) (hs : slots ≤ ks) (hQ : Q (some (.int z)) T.heap locs) : own_E p e below (own_K Q s kc ks) T (mkF m pc Ls (.int z :: rest)) :=
  own_retG X hx hlk hret hn (Or.inl ⟨rfl, ht, z, rfl⟩) hd hc hs hQ
theorem own_retN (X : Stand p l e R s m args below meth c T locs cells slots) (hx : p.tables.exec = Jvm.exec) (hlk : meth.locks = false) {pc : Nat} {Ls : Array Slot} {z : Int32} {t : FieldType} {rest : List Value} (hret : meth.sig.returnType = some t)
    (ht : t = .boolean ∨ t = .byte ∨ t = .char ∨ t = .short) (hd : decode c.code pc = .ok (.ireturn, 1)) (hc : cells ≤ kc) (hs : slots ≤ ks) (hQ : Q (some (.int (nar t z))) T.heap locs) : own_E p e below (own_K Q s kc ks) T (mkF m pc Ls (.int z :: rest)) :=
  own_end X hlk (fun h => by rw [hret] at h; cases h) (fun fs h => retN X hx hret ht hd h) hc hs hQ
theorem own_retJ (X : Stand p l e R s m args below meth c T locs cells slots) (hx : p.tables.exec = Jvm.exec) (hlk : meth.locks = false) {pc : Nat} {Ls : Array Slot} {z : Int64} {rest : List Value} (hret : meth.sig.returnType = some .long)
    (hd : decode c.code pc = .ok (.lreturn, 1)) (hc : cells ≤ kc) (hs : slots ≤ ks) (hQ : Q (some (.long z)) T.heap locs) : own_E p e below (own_K Q s kc ks) T (mkF m pc Ls (.long z :: rest)) :=
  own_retG X hx hlk hret rfl (Or.inr (Or.inl ⟨rfl, rfl, z, rfl⟩)) hd hc hs hQ
theorem own_retA (X : Stand p l e R s m args below meth c T locs cells slots) (hx : p.tables.exec = Jvm.exec) (hlk : meth.locks = false) {pc : Nat} {Ls : Array Slot} {w : Value} {t : FieldType} {rest : List Value} (hret : meth.sig.returnType = some t) (ht : t.isReference = true) (hw : w.isRef = true)
    (hd : decode c.code pc = .ok (.areturn, 1)) (hc : cells ≤ kc) (hs : slots ≤ ks) (hQ : Q (some w) T.heap locs) : own_E p e below (own_K Q s kc ks) T (mkF m pc Ls (w :: rest)) :=
  own_retG X hx hlk hret (by cases w <;> cases t <;> first | rfl | (simp [Value.isRef] at hw) | (simp [FieldType.isReference] at ht)) (Or.inr (Or.inr (Or.inr (Or.inr ⟨rfl, ht, hw⟩)))) hd hc hs hQ
end Own
theorem own_StaK {Z : State} {h h' : Heap} {C n d : String} {v : Value} (F : Sta Z h C n d v) (K : Keep h h' []) : Sta Z h' C n d v := Sta.ext ⟨K.1, fun a c q => K.2.1 a c q nin0⟩ F
section OwnArr
variable {p : Program} {l : Launch} {e : Env} {R : Room} {s : State} {m : MethodId} {args : Array Value} {below : List Frame} {meth : Method} {c : Code} {T : State} {locs : List Loc} {cells slots : Nat} {Z : State} {h : Heap} {a : Addr} {k : ClassId} {z : Int32} {vs : List Value} {dv : Value}
theorem own_alen (X : Stand p l e R s m args below meth c T locs cells slots) (hx : p.tables.exec = Jvm.exec) (hZ : Z.Warmed39 s.vm) (eT : T.heap = h) {ty : FieldType} (F : Arv Z h a k ty z vs dv) {g : JFrame} (hg : g.method = m) {rest : List Value} (hs : g.stack = .ref a :: rest) (hd : decode c.code g.pc = .ok (.arraylength, 1)) :
    ∀ target, Steps p.tables e below (T.setTop { g with pc := g.pc + 1, stack := .int z :: rest }) target → Steps p.tables e below (T.setTop g) target := by
  obtain ⟨cl, A, q, S, N, H, G⟩ := F
  intro target hr
  refine X.arraylength hx (by rw [eT]; exact A.1) (State.isArrayOf_alike hZ.alike A.2.1) hg hs hd _ ?_
  rw [len_of S N]; exact hr
theorem own_ald (X : Stand p l e R s m args below meth c T locs cells slots) (hx : p.tables.exec = Jvm.exec) (hZ : Z.Warmed39 s.vm) (eT : T.heap = h) (F : Arv Z h a k .int z vs dv) {j : Int32} (hj : ¬ j < 0 ∧ j < z) {v : Value} (hv : vs.getD j.toNatClampNeg dv = v) {g : JFrame} (hg : g.method = m) {rest : List Value} (hs : g.stack = .int j :: .ref a :: rest) (hd : decode c.code g.pc = .ok (.iaload, 1)) :
    ∀ target, Steps p.tables e below (T.setTop { g with pc := g.pc + 1, stack := v :: rest }) target → Steps p.tables e below (T.setTop g) target := by
  obtain ⟨cl, A, q, S, N, H, G⟩ := F
  have hin := inb_of S hj
  exact X.iaload hx (by rw [eT]; exact A.1) (State.isArrayOf_alike hZ.alike A.2.1) A.2.2 hin (H.at hin hv) hg hs hd
theorem own_ast (X : Stand p l e R s m args below meth c T locs cells slots) (hx : p.tables.exec = Jvm.exec) (hZ : Z.Warmed39 s.vm) (eT : T.heap = h) (F : Arv Z h a k .int z vs dv) {j : Int32} (hj : ¬ j < 0 ∧ j < z) {x : Int32} {i : Nat} (hi : j.toNatClampNeg = i) (hl : i < vs.length) {g : JFrame} (hg : g.method = m) {rest : List Value} (hs : g.stack = .int x :: .int j :: .ref a :: rest) (hd : decode c.code g.pc = .ok (.iastore, 1)) :
    ∃ T' h', Stand p l e R s m args below meth c T' (locs ++ [⟨a, j.toNatClampNeg⟩]) cells slots ∧ T'.heap = h' ∧ Wr h h' a j.toNatClampNeg (.int x) ∧ Arv Z h' a k .int z (vs.set i (.int x)) dv ∧ ∀ target, Steps p.tables e below (T'.setTop { g with pc := g.pc + 1, stack := rest }) target → Steps p.tables e below (T.setTop g) target := by
  obtain ⟨cl, A, q, S, N, H, G⟩ := F
  have hin := inb_of S hj
  obtain ⟨T', h', X', e', W, st⟩ := stI X hx hZ eT A hin hg hs hd
  exact ⟨T', h', X', e', W, Arv.set A q S N H G rfl W i hi hl, st⟩
theorem own_cst (X : Stand p l e R s m args below meth c T locs cells slots) (hx : p.tables.exec = Jvm.exec) (hZ : Z.Warmed39 s.vm) (eT : T.heap = h) (F : Arv Z h a k .char z vs dv) {j : Int32} (hj : ¬ j < 0 ∧ j < z) {x : Int32} {i : Nat} (hi : j.toNatClampNeg = i) (hl : i < vs.length) {g : JFrame} (hg : g.method = m) {rest : List Value} (hs : g.stack = .int x :: .int j :: .ref a :: rest) (hd : decode c.code g.pc = .ok (.castore, 1)) :
    ∃ T' h', Stand p l e R s m args below meth c T' (locs ++ [⟨a, j.toNatClampNeg⟩]) cells slots ∧ T'.heap = h' ∧ Wr h h' a j.toNatClampNeg (.int (nar .char x)) ∧ Arv Z h' a k .char z (vs.set i (.int (nar .char x))) dv ∧ ∀ target, Steps p.tables e below (T'.setTop { g with pc := g.pc + 1, stack := rest }) target → Steps p.tables e below (T.setTop g) target := by
  obtain ⟨cl, A, q, S, N, H, G⟩ := F
  have hin := inb_of S hj
  obtain ⟨T', h', X', e', W, st⟩ := stC X hx hZ eT A hin hg hs hd
  exact ⟨T', h', X', e', W, Arv.set A q S N H G (fits_nar_char _) W i hi hl, st⟩
end OwnArr
theorem own_eqi {args : Array Value} {s : State} {t : Term} {a : Addr} {C n d : String} {k : Int32} (ht : t.eval args s none [] s = some (.ref a)) (h : (Jvm.Cond.eq (.field t C n d) (.int k)).value args s none s [] = some true) : s.fieldOf? a C n d = some (.int k) := by
  simp only [Jvm.Cond.value, fld_at ht] at h
  generalize s.fieldOf? a C n d = o at h
  rcases o with _ | w
  · simp [Term.eval] at h
  · cases w <;> simp [Term.eval] at h
    rw [h]
theorem own_d_prog_34_method_4_0 : decode prog_34_method_4_code 0 = .ok (.aload_n 0, 1) := by decide +kernel
theorem own_d_prog_34_method_4_1 : decode prog_34_method_4_code 1 = .ok (.getstatic 7, 3) := by decide +kernel
theorem own_d_prog_34_method_4_4 : decode prog_34_method_4_code 4 = .ok (.if_acmp .eq 10, 3) := by decide +kernel
theorem own_d_prog_34_method_4_14 : decode prog_34_method_4_code 14 = .ok (.iload_n 1, 1) := by decide +kernel
theorem own_d_prog_34_method_4_15 : decode prog_34_method_4_code 15 = .ok (.ireturn, 1) := by decide +kernel
def own_fold_STRICT_Q (aLENIENT : Addr) (aSTRICT : Addr) (p1 : Int32) (h0 : Heap) (v : Option Value) (h : Heap) (L : List Loc) : Prop := ((v = some (.int (p1.toUInt32.toUInt16.toUInt32.toInt32)))) ∧ h = h0 ∧ L = []
abbrev own_y0 : MethodName := ⟨"serialis/text/Reading", "fold", "(C)C"⟩
theorem own_pn_Reading : plainName "serialis/text/Reading" = true := by first | (simp [plainName, overriddenIn]; done) | decide +kernel
theorem own_fold_STRICT_ef (m : MethodId) (aLENIENT : Addr) (aSTRICT : Addr) (p1 : Int32) : entryFrame m #[(.ref aSTRICT), (.int p1)] 2 = mkF m 0 #[.val (.ref aSTRICT), .val (.int p1)] [] := by first | (simp [entryFrame, mkF, argsToLocals, Value.category]; done) | rfl
set_option maxRecDepth 65536 in
set_option maxHeartbeats 40000000 in
theorem own_fold_STRICT (l : Launch) (Z : State) (a0 : Array Value) (hw : ∀ d ∈ tables_1, d.before a0 Z = true) (ws : List Jvm.Cond) (aLENIENT : Addr) (aSTRICT : Addr) (p1 : Int32) (h0 : Heap) (n0 : Nat) (Z0 : n0 ≤ h0.size) (S_LENIENT : Sta Z h0 "serialis/text/Reading" "LENIENT" "Lserialis/text/Reading;" (.ref aLENIENT)) (S_STRICT : Sta Z h0 "serialis/text/Reading" "STRICT" "Lserialis/text/Reading;" (.ref aSTRICT)) (E_LENIENT : Exa Z h0 aLENIENT "serialis/text/Reading") (E_STRICT : Exa Z h0 aSTRICT "serialis/text/Reading") (ne_LENIENT_STRICT : ¬ aLENIENT = aSTRICT) :
    MetFree l own_y0 (head1 (Jvm.Cond.code own_y0 prog_34_method_4_code 2 (some .char) :: ws) ({ frames := 0, cells := 0, slots := 0, locals := 0 } : Room)) (fun a U => a = #[(.ref aSTRICT), (.int p1)] ∧ Z.Warmed39 U.vm ∧ U.heap = h0) (fun _ _ _ _ _ => True) (fun _ U o U' => ∃ v L, o = .returned v ∧ own_fold_STRICT_Q aLENIENT aSTRICT p1 h0 v U'.heap L ∧ FrameEnd U o U' L ({ frames := 0, cells := 0, slots := 0, locals := 0 } : Room).cells ({ frames := 0, cells := 0, slots := 0, locals := 0 } : Room).slots) := by
  refine MetFree.of_bodySF (plainFor_of_name own_pn_Reading) hisR ?_
  intro p e s m args below meth c s₁ Bd hml0 hP hK
  obtain ⟨rfl, hZ, hh⟩ := hP
  have hx := Bd.exec
  have hby := Bd.bytes
  have hml : c.maxLocals = 2 := hml0
  have hown : s.vm.findClass "serialis/text/Reading" = some m.cls := findClass_of_methodNamed Bd.named
  have hnm := (name_of_methodNamed Bd.named Bd.method).1
  have X0 : Stand p l e ({ frames := 0, cells := 0, slots := 0, locals := 0 } : Room) s m #[(.ref aSTRICT), (.int p1)] below meth c s₁ [] 0 0 := Stand.of_body Bd
  have e0 : s₁.heap = h0 := by rw [← hh, Bd.state]; rfl
  show own_E p e below (own_K (own_fold_STRICT_Q aLENIENT aSTRICT p1 h0) s ({ frames := 0, cells := 0, slots := 0, locals := 0 } : Room).cells ({ frames := 0, cells := 0, slots := 0, locals := 0 } : Room).slots) s₁ (entryFrame m #[(.ref aSTRICT), (.int p1)] 2)
  refine own_pre (own_fold_STRICT_ef m aLENIENT aSTRICT p1) ?_
  show own_E p e below _ s₁ (mkF m 0 #[rv aSTRICT, iv p1] [])
  refine own_st (fun t k => XS.aloadN X0.here hx rfl (hb hby own_d_prog_34_method_4_0) rfl rfl k) ?_
  show own_E p e below _ s₁ (mkF m 1 #[rv aSTRICT, iv p1] [.ref aSTRICT])
  obtain ⟨T1, X1, e1, st1⟩ := getS2 X0 hx hZ hown (host := "") (Or.inl (own_w hw 10 rfl)) Via.refl e0 S_STRICT (g := (mkF m 1 #[rv aSTRICT, iv p1] [.ref aSTRICT])) rfl (hb hby own_d_prog_34_method_4_1)
  refine own_st st1 ?_
  show own_E p e below _ T1 (mkF m 4 #[rv aSTRICT, iv p1] [.ref aSTRICT, .ref aSTRICT])
  refine own_st (fun t k => Jvm.RoadKit.acmp (g := (mkF m 4 #[rv aSTRICT, iv p1] [.ref aSTRICT, .ref aSTRICT])) X1 hx rfl rfl rfl (pc0 := 4) (pc' := 14) (same := true) rfl (hb hby own_d_prog_34_method_4_4) rfl (decide_eq_true rfl) (by decide) (by decide) k) ?_
  show own_E p e below _ T1 (mkF m 14 #[rv aSTRICT, iv p1] [])
  refine own_st (fun t k => XS.iloadN X1.here hx rfl (hb hby own_d_prog_34_method_4_14) rfl k) ?_
  show own_E p e below _ T1 (mkF m 15 #[rv aSTRICT, iv p1] [.int p1])
  refine own_retN X1 hx Bd.notSynchronized (t := .char) Bd.returns (by decide) (hb hby own_d_prog_34_method_4_15) (by decide) (by decide) ?_
  exact ⟨rfl, e1, rfl⟩
theorem own_d_prog_34_method_4_7 : decode prog_34_method_4_code 7 = .ok (.iload_n 1, 1) := by decide +kernel
theorem own_d_prog_34_method_4_8 : decode prog_34_method_4_code 8 = .ok (.sipush 160, 3) := by decide +kernel
theorem own_d_prog_34_method_4_11 : decode prog_34_method_4_code 11 = .ok (.if_icmp .ge 5, 3) := by decide +kernel
theorem own_d_prog_34_method_4_16 : decode prog_34_method_4_code 16 = .ok (.iload_n 1, 1) := by decide +kernel
theorem own_d_prog_34_method_4_17 : decode prog_34_method_4_code 17 = .ok (.ldc 29, 2) := by decide +kernel
theorem own_d_prog_34_method_4_19 : decode prog_34_method_4_code 19 = .ok (.if_icmp .lt 18, 3) := by decide +kernel
theorem own_d_prog_34_method_4_37 : decode prog_34_method_4_code 37 = .ok (.iload_n 1, 1) := by decide +kernel
theorem own_d_prog_34_method_4_38 : decode prog_34_method_4_code 38 = .ok (.sipush 12288, 3) := by decide +kernel
theorem own_d_prog_34_method_4_41 : decode prog_34_method_4_code 41 = .ok (.if_icmp .eq 24, 3) := by decide +kernel
theorem own_d_prog_34_method_4_65 : decode prog_34_method_4_code 65 = .ok (.bipush 32, 2) := by decide +kernel
theorem own_d_prog_34_method_4_67 : decode prog_34_method_4_code 67 = .ok (.ireturn, 1) := by decide +kernel
theorem own_d_prog_34_method_4_44 : decode prog_34_method_4_code 44 = .ok (.iload_n 1, 1) := by decide +kernel
theorem own_d_prog_34_method_4_45 : decode prog_34_method_4_code 45 = .ok (.sipush 160, 3) := by decide +kernel
theorem own_d_prog_34_method_4_48 : decode prog_34_method_4_code 48 = .ok (.if_icmp .eq 17, 3) := by decide +kernel
theorem own_d_prog_34_method_4_51 : decode prog_34_method_4_code 51 = .ok (.iload_n 1, 1) := by decide +kernel
theorem own_d_prog_34_method_4_52 : decode prog_34_method_4_code 52 = .ok (.sipush 8199, 3) := by decide +kernel
theorem own_d_prog_34_method_4_55 : decode prog_34_method_4_code 55 = .ok (.if_icmp .eq 10, 3) := by decide +kernel
theorem own_d_prog_34_method_4_58 : decode prog_34_method_4_code 58 = .ok (.iload_n 1, 1) := by decide +kernel
theorem own_d_prog_34_method_4_59 : decode prog_34_method_4_code 59 = .ok (.sipush 8239, 3) := by decide +kernel
theorem own_d_prog_34_method_4_62 : decode prog_34_method_4_code 62 = .ok (.if_icmp .ne 6, 3) := by decide +kernel
theorem own_d_prog_34_method_4_68 : decode prog_34_method_4_code 68 = .ok (.iload_n 1, 1) := by decide +kernel
theorem own_d_prog_34_method_4_69 : decode prog_34_method_4_code 69 = .ok (.sipush 8208, 3) := by decide +kernel
theorem own_d_prog_34_method_4_72 : decode prog_34_method_4_code 72 = .ok (.if_icmp .lt 10, 3) := by decide +kernel
theorem own_d_prog_34_method_4_82 : decode prog_34_method_4_code 82 = .ok (.iload_n 1, 1) := by decide +kernel
theorem own_d_prog_34_method_4_83 : decode prog_34_method_4_code 83 = .ok (.sipush 8722, 3) := by decide +kernel
theorem own_d_prog_34_method_4_86 : decode prog_34_method_4_code 86 = .ok (.if_icmp .ne 6, 3) := by decide +kernel
theorem own_d_prog_34_method_4_89 : decode prog_34_method_4_code 89 = .ok (.bipush 45, 2) := by decide +kernel
theorem own_d_prog_34_method_4_91 : decode prog_34_method_4_code 91 = .ok (.ireturn, 1) := by decide +kernel
theorem own_d_prog_34_method_4_92 : decode prog_34_method_4_code 92 = .ok (.iload_n 1, 1) := by decide +kernel
theorem own_d_prog_34_method_4_93 : decode prog_34_method_4_code 93 = .ok (.ireturn, 1) := by decide +kernel
theorem own_d_prog_34_method_4_75 : decode prog_34_method_4_code 75 = .ok (.iload_n 1, 1) := by decide +kernel
theorem own_d_prog_34_method_4_76 : decode prog_34_method_4_code 76 = .ok (.sipush 8213, 3) := by decide +kernel
theorem own_d_prog_34_method_4_79 : decode prog_34_method_4_code 79 = .ok (.if_icmp .le 10, 3) := by decide +kernel
theorem own_d_prog_34_method_4_22 : decode prog_34_method_4_code 22 = .ok (.iload_n 1, 1) := by decide +kernel
theorem own_d_prog_34_method_4_23 : decode prog_34_method_4_code 23 = .ok (.ldc 30, 2) := by decide +kernel
theorem own_d_prog_34_method_4_25 : decode prog_34_method_4_code 25 = .ok (.if_icmp .gt 12, 3) := by decide +kernel
theorem own_d_prog_34_method_4_28 : decode prog_34_method_4_code 28 = .ok (.iload_n 1, 1) := by decide +kernel
theorem own_d_prog_34_method_4_29 : decode prog_34_method_4_code 29 = .ok (.ldc 29, 2) := by decide +kernel
theorem own_d_prog_34_method_4_31 : decode prog_34_method_4_code 31 = .ok (.isub, 1) := by decide +kernel
theorem own_d_prog_34_method_4_32 : decode prog_34_method_4_code 32 = .ok (.bipush 33, 2) := by decide +kernel
theorem own_d_prog_34_method_4_34 : decode prog_34_method_4_code 34 = .ok (.iadd, 1) := by decide +kernel
theorem own_d_prog_34_method_4_35 : decode prog_34_method_4_code 35 = .ok (.i2c, 1) := by decide +kernel
theorem own_d_prog_34_method_4_36 : decode prog_34_method_4_code 36 = .ok (.ireturn, 1) := by decide +kernel
def own_foldL (p1 : Int32) : Int32 := (if p1 < (160 : Int32) then (p1.toUInt32.toUInt16.toUInt32.toInt32) else (if p1 < (65281 : Int32) then (if p1 = (12288 : Int32) then (32 : Int32) else (if p1 = (160 : Int32) then (32 : Int32) else (if p1 = (8199 : Int32) then (32 : Int32) else (if p1 = (8239 : Int32) then (32 : Int32) else (if p1 < (8208 : Int32) then (if p1 = (8722 : Int32) then (45 : Int32) else (p1.toUInt32.toUInt16.toUInt32.toInt32)) else (if (8213 : Int32) < p1 then (if p1 = (8722 : Int32) then (45 : Int32) else (p1.toUInt32.toUInt16.toUInt32.toInt32)) else (45 : Int32))))))) else (if (65374 : Int32) < p1 then (if p1 = (12288 : Int32) then (32 : Int32) else (if p1 = (160 : Int32) then (32 : Int32) else (if p1 = (8199 : Int32) then (32 : Int32) else (if p1 = (8239 : Int32) then (32 : Int32) else (if p1 < (8208 : Int32) then (if p1 = (8722 : Int32) then (45 : Int32) else (p1.toUInt32.toUInt16.toUInt32.toInt32)) else (if (8213 : Int32) < p1 then (if p1 = (8722 : Int32) then (45 : Int32) else (p1.toUInt32.toUInt16.toUInt32.toInt32)) else (45 : Int32))))))) else ((((p1 - (65281 : Int32)) + (33 : Int32)).toUInt32.toUInt16.toUInt32.toInt32).toUInt32.toUInt16.toUInt32.toInt32))))
def own_fold_LENIENT_Q (aLENIENT : Addr) (aSTRICT : Addr) (p1 : Int32) (h0 : Heap) (v : Option Value) (h : Heap) (L : List Loc) : Prop := v = some (.int (own_foldL p1)) ∧ h = h0 ∧ L = []
theorem own_fold_LENIENT_ef (m : MethodId) (aLENIENT : Addr) (aSTRICT : Addr) (p1 : Int32) : entryFrame m #[(.ref aLENIENT), (.int p1)] 2 = mkF m 0 #[.val (.ref aLENIENT), .val (.int p1)] [] := by first | (simp [entryFrame, mkF, argsToLocals, Value.category]; done) | rfl
set_option maxRecDepth 65536 in
set_option maxHeartbeats 40000000 in
theorem own_fold_LENIENT (l : Launch) (Z : State) (a0 : Array Value) (hw : ∀ d ∈ tables_1, d.before a0 Z = true) (ws : List Jvm.Cond) (aLENIENT : Addr) (aSTRICT : Addr) (p1 : Int32) (h0 : Heap) (n0 : Nat) (Z0 : n0 ≤ h0.size) (S_LENIENT : Sta Z h0 "serialis/text/Reading" "LENIENT" "Lserialis/text/Reading;" (.ref aLENIENT)) (S_STRICT : Sta Z h0 "serialis/text/Reading" "STRICT" "Lserialis/text/Reading;" (.ref aSTRICT)) (E_LENIENT : Exa Z h0 aLENIENT "serialis/text/Reading") (E_STRICT : Exa Z h0 aSTRICT "serialis/text/Reading") (ne_LENIENT_STRICT : ¬ aLENIENT = aSTRICT) :
    MetFree l own_y0 (head1 (Jvm.Cond.code own_y0 prog_34_method_4_code 2 (some .char) :: ws) ({ frames := 0, cells := 0, slots := 0, locals := 0 } : Room)) (fun a U => a = #[(.ref aLENIENT), (.int p1)] ∧ Z.Warmed39 U.vm ∧ U.heap = h0) (fun _ _ _ _ _ => True) (fun _ U o U' => ∃ v L, o = .returned v ∧ own_fold_LENIENT_Q aLENIENT aSTRICT p1 h0 v U'.heap L ∧ FrameEnd U o U' L ({ frames := 0, cells := 0, slots := 0, locals := 0 } : Room).cells ({ frames := 0, cells := 0, slots := 0, locals := 0 } : Room).slots) := by
  refine MetFree.of_bodySF (plainFor_of_name own_pn_Reading) hisR ?_
  intro p e s m args below meth c s₁ Bd hml0 hP hK
  obtain ⟨rfl, hZ, hh⟩ := hP
  have hx := Bd.exec
  have hby := Bd.bytes
  have hml : c.maxLocals = 2 := hml0
  have hown : s.vm.findClass "serialis/text/Reading" = some m.cls := findClass_of_methodNamed Bd.named
  have hnm := (name_of_methodNamed Bd.named Bd.method).1
  have X0 : Stand p l e ({ frames := 0, cells := 0, slots := 0, locals := 0 } : Room) s m #[(.ref aLENIENT), (.int p1)] below meth c s₁ [] 0 0 := Stand.of_body Bd
  have e0 : s₁.heap = h0 := by rw [← hh, Bd.state]; rfl
  show own_E p e below (own_K (own_fold_LENIENT_Q aLENIENT aSTRICT p1 h0) s ({ frames := 0, cells := 0, slots := 0, locals := 0 } : Room).cells ({ frames := 0, cells := 0, slots := 0, locals := 0 } : Room).slots) s₁ (entryFrame m #[(.ref aLENIENT), (.int p1)] 2)
  refine own_pre (own_fold_LENIENT_ef m aLENIENT aSTRICT p1) ?_
  show own_E p e below _ s₁ (mkF m 0 #[rv aLENIENT, iv p1] [])
  refine own_st (fun t k => XS.aloadN X0.here hx rfl (hb hby own_d_prog_34_method_4_0) rfl rfl k) ?_
  show own_E p e below _ s₁ (mkF m 1 #[rv aLENIENT, iv p1] [.ref aLENIENT])
  obtain ⟨T1, X1, e1, st1⟩ := getS2 X0 hx hZ hown (host := "") (Or.inl (own_w hw 10 rfl)) Via.refl e0 S_STRICT (g := (mkF m 1 #[rv aLENIENT, iv p1] [.ref aLENIENT])) rfl (hb hby own_d_prog_34_method_4_1)
  refine own_st st1 ?_
  show own_E p e below _ T1 (mkF m 4 #[rv aLENIENT, iv p1] [.ref aSTRICT, .ref aLENIENT])
  refine own_st (fun t k => Jvm.RoadKit.acmp (g := (mkF m 4 #[rv aLENIENT, iv p1] [.ref aSTRICT, .ref aLENIENT])) X1 hx rfl rfl rfl (pc0 := 4) (pc' := 7) (same := false) rfl (hb hby own_d_prog_34_method_4_4) rfl (decide_eq_false fun q => ne_LENIENT_STRICT (Value.ref.inj q)) (by decide) (by decide) k) ?_
  show own_E p e below _ T1 (mkF m 7 #[rv aLENIENT, iv p1] [])
  refine own_st (fun t k => XS.iloadN X1.here hx rfl (hb hby own_d_prog_34_method_4_7) rfl k) ?_
  show own_E p e below _ T1 (mkF m 8 #[rv aLENIENT, iv p1] [.int p1])
  refine own_st (fun t k => XS.sipush X1.here hx rfl (hb hby own_d_prog_34_method_4_8) k) ?_
  show own_E p e below _ T1 (mkF m 11 #[rv aLENIENT, iv p1] [.int 160, .int p1])
  by_cases hc2 : p1 < (160 : Int32)
  · refine own_st (fun t k => XS.icmpNo X1.here hx rfl (hb hby own_d_prog_34_method_4_11) rfl (tlt hc2).2.1 k) ?_
    show own_E p e below _ T1 (mkF m 14 #[rv aLENIENT, iv p1] [])
    refine own_st (fun t k => XS.iloadN X1.here hx rfl (hb hby own_d_prog_34_method_4_14) rfl k) ?_
    show own_E p e below _ T1 (mkF m 15 #[rv aLENIENT, iv p1] [.int p1])
    refine own_retN X1 hx Bd.notSynchronized (t := .char) Bd.returns (by decide) (hb hby own_d_prog_34_method_4_15) (by decide) (by decide) ?_
    exact ⟨by rw [own_foldL, if_pos hc2]; rfl, e1, rfl⟩
  · refine own_st (fun t k => XS.icmpYes X1.here hx rfl (pc0 := 11) (pc' := 16) rfl (hb hby own_d_prog_34_method_4_11) rfl (flt hc2).2.1 (by decide) (by decide) k) ?_
    show own_E p e below _ T1 (mkF m 16 #[rv aLENIENT, iv p1] [])
    refine own_st (fun t k => XS.iloadN X1.here hx rfl (hb hby own_d_prog_34_method_4_16) rfl k) ?_
    show own_E p e below _ T1 (mkF m 17 #[rv aLENIENT, iv p1] [.int p1])
    refine own_st (X1.ldcInt hx hown (mvT hZ (own_w hw 16 rfl)) (g := (mkF m 17 #[rv aLENIENT, iv p1] [.int p1])) rfl (hb hby own_d_prog_34_method_4_17)) ?_
    show own_E p e below _ T1 (mkF m 19 #[rv aLENIENT, iv p1] [.int 65281, .int p1])
    by_cases hc3 : p1 < (65281 : Int32)
    · refine own_st (fun t k => XS.icmpYes X1.here hx rfl (pc0 := 19) (pc' := 37) rfl (hb hby own_d_prog_34_method_4_19) rfl (tlt hc3).1 (by decide) (by decide) k) ?_
      show own_E p e below _ T1 (mkF m 37 #[rv aLENIENT, iv p1] [])
      refine own_st (fun t k => XS.iloadN X1.here hx rfl (hb hby own_d_prog_34_method_4_37) rfl k) ?_
      show own_E p e below _ T1 (mkF m 38 #[rv aLENIENT, iv p1] [.int p1])
      refine own_st (fun t k => XS.sipush X1.here hx rfl (hb hby own_d_prog_34_method_4_38) k) ?_
      show own_E p e below _ T1 (mkF m 41 #[rv aLENIENT, iv p1] [.int 12288, .int p1])
      by_cases hc4 : p1 = (12288 : Int32)
      · refine own_st (fun t k => XS.icmpYes X1.here hx rfl (pc0 := 41) (pc' := 65) rfl (hb hby own_d_prog_34_method_4_41) rfl (teq hc4).1 (by decide) (by decide) k) ?_
        show own_E p e below _ T1 (mkF m 65 #[rv aLENIENT, iv p1] [])
        refine own_st (fun t k => XS.bipush X1.here hx rfl (hb hby own_d_prog_34_method_4_65) k) ?_
        show own_E p e below _ T1 (mkF m 67 #[rv aLENIENT, iv p1] [.int 32])
        refine own_retN X1 hx Bd.notSynchronized (t := .char) Bd.returns (by decide) (hb hby own_d_prog_34_method_4_67) (by decide) (by decide) ?_
        exact ⟨by rw [own_foldL, if_neg hc2, if_pos hc3, if_pos hc4]; rfl, e1, rfl⟩
      · refine own_st (fun t k => XS.icmpNo X1.here hx rfl (hb hby own_d_prog_34_method_4_41) rfl (feq hc4).1 k) ?_
        show own_E p e below _ T1 (mkF m 44 #[rv aLENIENT, iv p1] [])
        refine own_st (fun t k => XS.iloadN X1.here hx rfl (hb hby own_d_prog_34_method_4_44) rfl k) ?_
        show own_E p e below _ T1 (mkF m 45 #[rv aLENIENT, iv p1] [.int p1])
        refine own_st (fun t k => XS.sipush X1.here hx rfl (hb hby own_d_prog_34_method_4_45) k) ?_
        show own_E p e below _ T1 (mkF m 48 #[rv aLENIENT, iv p1] [.int 160, .int p1])
        by_cases hc5 : p1 = (160 : Int32)
        · refine own_st (fun t k => XS.icmpYes X1.here hx rfl (pc0 := 48) (pc' := 65) rfl (hb hby own_d_prog_34_method_4_48) rfl (teq hc5).1 (by decide) (by decide) k) ?_
          show own_E p e below _ T1 (mkF m 65 #[rv aLENIENT, iv p1] [])
          refine own_st (fun t k => XS.bipush X1.here hx rfl (hb hby own_d_prog_34_method_4_65) k) ?_
          show own_E p e below _ T1 (mkF m 67 #[rv aLENIENT, iv p1] [.int 32])
          refine own_retN X1 hx Bd.notSynchronized (t := .char) Bd.returns (by decide) (hb hby own_d_prog_34_method_4_67) (by decide) (by decide) ?_
          exact ⟨by rw [own_foldL, if_neg hc2, if_pos hc3, if_neg hc4, if_pos hc5]; rfl, e1, rfl⟩
        · refine own_st (fun t k => XS.icmpNo X1.here hx rfl (hb hby own_d_prog_34_method_4_48) rfl (feq hc5).1 k) ?_
          show own_E p e below _ T1 (mkF m 51 #[rv aLENIENT, iv p1] [])
          refine own_st (fun t k => XS.iloadN X1.here hx rfl (hb hby own_d_prog_34_method_4_51) rfl k) ?_
          show own_E p e below _ T1 (mkF m 52 #[rv aLENIENT, iv p1] [.int p1])
          refine own_st (fun t k => XS.sipush X1.here hx rfl (hb hby own_d_prog_34_method_4_52) k) ?_
          show own_E p e below _ T1 (mkF m 55 #[rv aLENIENT, iv p1] [.int 8199, .int p1])
          by_cases hc6 : p1 = (8199 : Int32)
          · refine own_st (fun t k => XS.icmpYes X1.here hx rfl (pc0 := 55) (pc' := 65) rfl (hb hby own_d_prog_34_method_4_55) rfl (teq hc6).1 (by decide) (by decide) k) ?_
            show own_E p e below _ T1 (mkF m 65 #[rv aLENIENT, iv p1] [])
            refine own_st (fun t k => XS.bipush X1.here hx rfl (hb hby own_d_prog_34_method_4_65) k) ?_
            show own_E p e below _ T1 (mkF m 67 #[rv aLENIENT, iv p1] [.int 32])
            refine own_retN X1 hx Bd.notSynchronized (t := .char) Bd.returns (by decide) (hb hby own_d_prog_34_method_4_67) (by decide) (by decide) ?_
            exact ⟨by rw [own_foldL, if_neg hc2, if_pos hc3, if_neg hc4, if_neg hc5, if_pos hc6]; rfl, e1, rfl⟩
          · refine own_st (fun t k => XS.icmpNo X1.here hx rfl (hb hby own_d_prog_34_method_4_55) rfl (feq hc6).1 k) ?_
            show own_E p e below _ T1 (mkF m 58 #[rv aLENIENT, iv p1] [])
            refine own_st (fun t k => XS.iloadN X1.here hx rfl (hb hby own_d_prog_34_method_4_58) rfl k) ?_
            show own_E p e below _ T1 (mkF m 59 #[rv aLENIENT, iv p1] [.int p1])
            refine own_st (fun t k => XS.sipush X1.here hx rfl (hb hby own_d_prog_34_method_4_59) k) ?_
            show own_E p e below _ T1 (mkF m 62 #[rv aLENIENT, iv p1] [.int 8239, .int p1])
            by_cases hc7 : p1 = (8239 : Int32)
            · refine own_st (fun t k => XS.icmpNo X1.here hx rfl (hb hby own_d_prog_34_method_4_62) rfl (teq hc7).2 k) ?_
              show own_E p e below _ T1 (mkF m 65 #[rv aLENIENT, iv p1] [])
              refine own_st (fun t k => XS.bipush X1.here hx rfl (hb hby own_d_prog_34_method_4_65) k) ?_
              show own_E p e below _ T1 (mkF m 67 #[rv aLENIENT, iv p1] [.int 32])
              refine own_retN X1 hx Bd.notSynchronized (t := .char) Bd.returns (by decide) (hb hby own_d_prog_34_method_4_67) (by decide) (by decide) ?_
              exact ⟨by rw [own_foldL, if_neg hc2, if_pos hc3, if_neg hc4, if_neg hc5, if_neg hc6, if_pos hc7]; rfl, e1, rfl⟩
            · refine own_st (fun t k => XS.icmpYes X1.here hx rfl (pc0 := 62) (pc' := 68) rfl (hb hby own_d_prog_34_method_4_62) rfl (feq hc7).2 (by decide) (by decide) k) ?_
              show own_E p e below _ T1 (mkF m 68 #[rv aLENIENT, iv p1] [])
              refine own_st (fun t k => XS.iloadN X1.here hx rfl (hb hby own_d_prog_34_method_4_68) rfl k) ?_
              show own_E p e below _ T1 (mkF m 69 #[rv aLENIENT, iv p1] [.int p1])
              refine own_st (fun t k => XS.sipush X1.here hx rfl (hb hby own_d_prog_34_method_4_69) k) ?_
              show own_E p e below _ T1 (mkF m 72 #[rv aLENIENT, iv p1] [.int 8208, .int p1])
              by_cases hc8 : p1 < (8208 : Int32)
              · refine own_st (fun t k => XS.icmpYes X1.here hx rfl (pc0 := 72) (pc' := 82) rfl (hb hby own_d_prog_34_method_4_72) rfl (tlt hc8).1 (by decide) (by decide) k) ?_
                show own_E p e below _ T1 (mkF m 82 #[rv aLENIENT, iv p1] [])
                refine own_st (fun t k => XS.iloadN X1.here hx rfl (hb hby own_d_prog_34_method_4_82) rfl k) ?_
                show own_E p e below _ T1 (mkF m 83 #[rv aLENIENT, iv p1] [.int p1])
                refine own_st (fun t k => XS.sipush X1.here hx rfl (hb hby own_d_prog_34_method_4_83) k) ?_
                show own_E p e below _ T1 (mkF m 86 #[rv aLENIENT, iv p1] [.int 8722, .int p1])
                by_cases hc9 : p1 = (8722 : Int32)
                · refine own_st (fun t k => XS.icmpNo X1.here hx rfl (hb hby own_d_prog_34_method_4_86) rfl (teq hc9).2 k) ?_
                  show own_E p e below _ T1 (mkF m 89 #[rv aLENIENT, iv p1] [])
                  refine own_st (fun t k => XS.bipush X1.here hx rfl (hb hby own_d_prog_34_method_4_89) k) ?_
                  show own_E p e below _ T1 (mkF m 91 #[rv aLENIENT, iv p1] [.int 45])
                  refine own_retN X1 hx Bd.notSynchronized (t := .char) Bd.returns (by decide) (hb hby own_d_prog_34_method_4_91) (by decide) (by decide) ?_
                  exact ⟨by rw [own_foldL, if_neg hc2, if_pos hc3, if_neg hc4, if_neg hc5, if_neg hc6, if_neg hc7, if_pos hc8, if_pos hc9]; rfl, e1, rfl⟩
                · refine own_st (fun t k => XS.icmpYes X1.here hx rfl (pc0 := 86) (pc' := 92) rfl (hb hby own_d_prog_34_method_4_86) rfl (feq hc9).2 (by decide) (by decide) k) ?_
                  show own_E p e below _ T1 (mkF m 92 #[rv aLENIENT, iv p1] [])
                  refine own_st (fun t k => XS.iloadN X1.here hx rfl (hb hby own_d_prog_34_method_4_92) rfl k) ?_
                  show own_E p e below _ T1 (mkF m 93 #[rv aLENIENT, iv p1] [.int p1])
                  refine own_retN X1 hx Bd.notSynchronized (t := .char) Bd.returns (by decide) (hb hby own_d_prog_34_method_4_93) (by decide) (by decide) ?_
                  exact ⟨by rw [own_foldL, if_neg hc2, if_pos hc3, if_neg hc4, if_neg hc5, if_neg hc6, if_neg hc7, if_pos hc8, if_neg hc9]; rfl, e1, rfl⟩
              · refine own_st (fun t k => XS.icmpNo X1.here hx rfl (hb hby own_d_prog_34_method_4_72) rfl (flt hc8).1 k) ?_
                show own_E p e below _ T1 (mkF m 75 #[rv aLENIENT, iv p1] [])
                refine own_st (fun t k => XS.iloadN X1.here hx rfl (hb hby own_d_prog_34_method_4_75) rfl k) ?_
                show own_E p e below _ T1 (mkF m 76 #[rv aLENIENT, iv p1] [.int p1])
                refine own_st (fun t k => XS.sipush X1.here hx rfl (hb hby own_d_prog_34_method_4_76) k) ?_
                show own_E p e below _ T1 (mkF m 79 #[rv aLENIENT, iv p1] [.int 8213, .int p1])
                by_cases hc10 : (8213 : Int32) < p1
                · refine own_st (fun t k => XS.icmpNo X1.here hx rfl (hb hby own_d_prog_34_method_4_79) rfl (tlt hc10).2.2.2 k) ?_
                  show own_E p e below _ T1 (mkF m 82 #[rv aLENIENT, iv p1] [])
                  refine own_st (fun t k => XS.iloadN X1.here hx rfl (hb hby own_d_prog_34_method_4_82) rfl k) ?_
                  show own_E p e below _ T1 (mkF m 83 #[rv aLENIENT, iv p1] [.int p1])
                  refine own_st (fun t k => XS.sipush X1.here hx rfl (hb hby own_d_prog_34_method_4_83) k) ?_
                  show own_E p e below _ T1 (mkF m 86 #[rv aLENIENT, iv p1] [.int 8722, .int p1])
                  by_cases hc11 : p1 = (8722 : Int32)
                  · refine own_st (fun t k => XS.icmpNo X1.here hx rfl (hb hby own_d_prog_34_method_4_86) rfl (teq hc11).2 k) ?_
                    show own_E p e below _ T1 (mkF m 89 #[rv aLENIENT, iv p1] [])
                    refine own_st (fun t k => XS.bipush X1.here hx rfl (hb hby own_d_prog_34_method_4_89) k) ?_
                    show own_E p e below _ T1 (mkF m 91 #[rv aLENIENT, iv p1] [.int 45])
                    refine own_retN X1 hx Bd.notSynchronized (t := .char) Bd.returns (by decide) (hb hby own_d_prog_34_method_4_91) (by decide) (by decide) ?_
                    exact ⟨by rw [own_foldL, if_neg hc2, if_pos hc3, if_neg hc4, if_neg hc5, if_neg hc6, if_neg hc7, if_neg hc8, if_pos hc10, if_pos hc11]; rfl, e1, rfl⟩
                  · refine own_st (fun t k => XS.icmpYes X1.here hx rfl (pc0 := 86) (pc' := 92) rfl (hb hby own_d_prog_34_method_4_86) rfl (feq hc11).2 (by decide) (by decide) k) ?_
                    show own_E p e below _ T1 (mkF m 92 #[rv aLENIENT, iv p1] [])
                    refine own_st (fun t k => XS.iloadN X1.here hx rfl (hb hby own_d_prog_34_method_4_92) rfl k) ?_
                    show own_E p e below _ T1 (mkF m 93 #[rv aLENIENT, iv p1] [.int p1])
                    refine own_retN X1 hx Bd.notSynchronized (t := .char) Bd.returns (by decide) (hb hby own_d_prog_34_method_4_93) (by decide) (by decide) ?_
                    exact ⟨by rw [own_foldL, if_neg hc2, if_pos hc3, if_neg hc4, if_neg hc5, if_neg hc6, if_neg hc7, if_neg hc8, if_pos hc10, if_neg hc11]; rfl, e1, rfl⟩
                · refine own_st (fun t k => XS.icmpYes X1.here hx rfl (pc0 := 79) (pc' := 89) rfl (hb hby own_d_prog_34_method_4_79) rfl (flt hc10).2.2.2 (by decide) (by decide) k) ?_
                  show own_E p e below _ T1 (mkF m 89 #[rv aLENIENT, iv p1] [])
                  refine own_st (fun t k => XS.bipush X1.here hx rfl (hb hby own_d_prog_34_method_4_89) k) ?_
                  show own_E p e below _ T1 (mkF m 91 #[rv aLENIENT, iv p1] [.int 45])
                  refine own_retN X1 hx Bd.notSynchronized (t := .char) Bd.returns (by decide) (hb hby own_d_prog_34_method_4_91) (by decide) (by decide) ?_
                  exact ⟨by rw [own_foldL, if_neg hc2, if_pos hc3, if_neg hc4, if_neg hc5, if_neg hc6, if_neg hc7, if_neg hc8, if_neg hc10]; rfl, e1, rfl⟩
    · refine own_st (fun t k => XS.icmpNo X1.here hx rfl (hb hby own_d_prog_34_method_4_19) rfl (flt hc3).1 k) ?_
      show own_E p e below _ T1 (mkF m 22 #[rv aLENIENT, iv p1] [])
      refine own_st (fun t k => XS.iloadN X1.here hx rfl (hb hby own_d_prog_34_method_4_22) rfl k) ?_
      show own_E p e below _ T1 (mkF m 23 #[rv aLENIENT, iv p1] [.int p1])
      refine own_st (X1.ldcInt hx hown (mvT hZ (own_w hw 17 rfl)) (g := (mkF m 23 #[rv aLENIENT, iv p1] [.int p1])) rfl (hb hby own_d_prog_34_method_4_23)) ?_
      show own_E p e below _ T1 (mkF m 25 #[rv aLENIENT, iv p1] [.int 65374, .int p1])
      by_cases hc12 : (65374 : Int32) < p1
      · refine own_st (fun t k => XS.icmpYes X1.here hx rfl (pc0 := 25) (pc' := 37) rfl (hb hby own_d_prog_34_method_4_25) rfl (tlt hc12).2.2.1 (by decide) (by decide) k) ?_
        show own_E p e below _ T1 (mkF m 37 #[rv aLENIENT, iv p1] [])
        refine own_st (fun t k => XS.iloadN X1.here hx rfl (hb hby own_d_prog_34_method_4_37) rfl k) ?_
        show own_E p e below _ T1 (mkF m 38 #[rv aLENIENT, iv p1] [.int p1])
        refine own_st (fun t k => XS.sipush X1.here hx rfl (hb hby own_d_prog_34_method_4_38) k) ?_
        show own_E p e below _ T1 (mkF m 41 #[rv aLENIENT, iv p1] [.int 12288, .int p1])
        by_cases hc13 : p1 = (12288 : Int32)
        · refine own_st (fun t k => XS.icmpYes X1.here hx rfl (pc0 := 41) (pc' := 65) rfl (hb hby own_d_prog_34_method_4_41) rfl (teq hc13).1 (by decide) (by decide) k) ?_
          show own_E p e below _ T1 (mkF m 65 #[rv aLENIENT, iv p1] [])
          refine own_st (fun t k => XS.bipush X1.here hx rfl (hb hby own_d_prog_34_method_4_65) k) ?_
          show own_E p e below _ T1 (mkF m 67 #[rv aLENIENT, iv p1] [.int 32])
          refine own_retN X1 hx Bd.notSynchronized (t := .char) Bd.returns (by decide) (hb hby own_d_prog_34_method_4_67) (by decide) (by decide) ?_
          exact ⟨by rw [own_foldL, if_neg hc2, if_neg hc3, if_pos hc12, if_pos hc13]; rfl, e1, rfl⟩
        · refine own_st (fun t k => XS.icmpNo X1.here hx rfl (hb hby own_d_prog_34_method_4_41) rfl (feq hc13).1 k) ?_
          show own_E p e below _ T1 (mkF m 44 #[rv aLENIENT, iv p1] [])
          refine own_st (fun t k => XS.iloadN X1.here hx rfl (hb hby own_d_prog_34_method_4_44) rfl k) ?_
          show own_E p e below _ T1 (mkF m 45 #[rv aLENIENT, iv p1] [.int p1])
          refine own_st (fun t k => XS.sipush X1.here hx rfl (hb hby own_d_prog_34_method_4_45) k) ?_
          show own_E p e below _ T1 (mkF m 48 #[rv aLENIENT, iv p1] [.int 160, .int p1])
          by_cases hc14 : p1 = (160 : Int32)
          · refine own_st (fun t k => XS.icmpYes X1.here hx rfl (pc0 := 48) (pc' := 65) rfl (hb hby own_d_prog_34_method_4_48) rfl (teq hc14).1 (by decide) (by decide) k) ?_
            show own_E p e below _ T1 (mkF m 65 #[rv aLENIENT, iv p1] [])
            refine own_st (fun t k => XS.bipush X1.here hx rfl (hb hby own_d_prog_34_method_4_65) k) ?_
            show own_E p e below _ T1 (mkF m 67 #[rv aLENIENT, iv p1] [.int 32])
            refine own_retN X1 hx Bd.notSynchronized (t := .char) Bd.returns (by decide) (hb hby own_d_prog_34_method_4_67) (by decide) (by decide) ?_
            exact ⟨by rw [own_foldL, if_neg hc2, if_neg hc3, if_pos hc12, if_neg hc13, if_pos hc14]; rfl, e1, rfl⟩
          · refine own_st (fun t k => XS.icmpNo X1.here hx rfl (hb hby own_d_prog_34_method_4_48) rfl (feq hc14).1 k) ?_
            show own_E p e below _ T1 (mkF m 51 #[rv aLENIENT, iv p1] [])
            refine own_st (fun t k => XS.iloadN X1.here hx rfl (hb hby own_d_prog_34_method_4_51) rfl k) ?_
            show own_E p e below _ T1 (mkF m 52 #[rv aLENIENT, iv p1] [.int p1])
            refine own_st (fun t k => XS.sipush X1.here hx rfl (hb hby own_d_prog_34_method_4_52) k) ?_
            show own_E p e below _ T1 (mkF m 55 #[rv aLENIENT, iv p1] [.int 8199, .int p1])
            by_cases hc15 : p1 = (8199 : Int32)
            · refine own_st (fun t k => XS.icmpYes X1.here hx rfl (pc0 := 55) (pc' := 65) rfl (hb hby own_d_prog_34_method_4_55) rfl (teq hc15).1 (by decide) (by decide) k) ?_
              show own_E p e below _ T1 (mkF m 65 #[rv aLENIENT, iv p1] [])
              refine own_st (fun t k => XS.bipush X1.here hx rfl (hb hby own_d_prog_34_method_4_65) k) ?_
              show own_E p e below _ T1 (mkF m 67 #[rv aLENIENT, iv p1] [.int 32])
              refine own_retN X1 hx Bd.notSynchronized (t := .char) Bd.returns (by decide) (hb hby own_d_prog_34_method_4_67) (by decide) (by decide) ?_
              exact ⟨by rw [own_foldL, if_neg hc2, if_neg hc3, if_pos hc12, if_neg hc13, if_neg hc14, if_pos hc15]; rfl, e1, rfl⟩
            · refine own_st (fun t k => XS.icmpNo X1.here hx rfl (hb hby own_d_prog_34_method_4_55) rfl (feq hc15).1 k) ?_
              show own_E p e below _ T1 (mkF m 58 #[rv aLENIENT, iv p1] [])
              refine own_st (fun t k => XS.iloadN X1.here hx rfl (hb hby own_d_prog_34_method_4_58) rfl k) ?_
              show own_E p e below _ T1 (mkF m 59 #[rv aLENIENT, iv p1] [.int p1])
              refine own_st (fun t k => XS.sipush X1.here hx rfl (hb hby own_d_prog_34_method_4_59) k) ?_
              show own_E p e below _ T1 (mkF m 62 #[rv aLENIENT, iv p1] [.int 8239, .int p1])
              by_cases hc16 : p1 = (8239 : Int32)
              · refine own_st (fun t k => XS.icmpNo X1.here hx rfl (hb hby own_d_prog_34_method_4_62) rfl (teq hc16).2 k) ?_
                show own_E p e below _ T1 (mkF m 65 #[rv aLENIENT, iv p1] [])
                refine own_st (fun t k => XS.bipush X1.here hx rfl (hb hby own_d_prog_34_method_4_65) k) ?_
                show own_E p e below _ T1 (mkF m 67 #[rv aLENIENT, iv p1] [.int 32])
                refine own_retN X1 hx Bd.notSynchronized (t := .char) Bd.returns (by decide) (hb hby own_d_prog_34_method_4_67) (by decide) (by decide) ?_
                exact ⟨by rw [own_foldL, if_neg hc2, if_neg hc3, if_pos hc12, if_neg hc13, if_neg hc14, if_neg hc15, if_pos hc16]; rfl, e1, rfl⟩
              · refine own_st (fun t k => XS.icmpYes X1.here hx rfl (pc0 := 62) (pc' := 68) rfl (hb hby own_d_prog_34_method_4_62) rfl (feq hc16).2 (by decide) (by decide) k) ?_
                show own_E p e below _ T1 (mkF m 68 #[rv aLENIENT, iv p1] [])
                refine own_st (fun t k => XS.iloadN X1.here hx rfl (hb hby own_d_prog_34_method_4_68) rfl k) ?_
                show own_E p e below _ T1 (mkF m 69 #[rv aLENIENT, iv p1] [.int p1])
                refine own_st (fun t k => XS.sipush X1.here hx rfl (hb hby own_d_prog_34_method_4_69) k) ?_
                show own_E p e below _ T1 (mkF m 72 #[rv aLENIENT, iv p1] [.int 8208, .int p1])
                by_cases hc17 : p1 < (8208 : Int32)
                · refine own_st (fun t k => XS.icmpYes X1.here hx rfl (pc0 := 72) (pc' := 82) rfl (hb hby own_d_prog_34_method_4_72) rfl (tlt hc17).1 (by decide) (by decide) k) ?_
                  show own_E p e below _ T1 (mkF m 82 #[rv aLENIENT, iv p1] [])
                  refine own_st (fun t k => XS.iloadN X1.here hx rfl (hb hby own_d_prog_34_method_4_82) rfl k) ?_
                  show own_E p e below _ T1 (mkF m 83 #[rv aLENIENT, iv p1] [.int p1])
                  refine own_st (fun t k => XS.sipush X1.here hx rfl (hb hby own_d_prog_34_method_4_83) k) ?_
                  show own_E p e below _ T1 (mkF m 86 #[rv aLENIENT, iv p1] [.int 8722, .int p1])
                  by_cases hc18 : p1 = (8722 : Int32)
                  · refine own_st (fun t k => XS.icmpNo X1.here hx rfl (hb hby own_d_prog_34_method_4_86) rfl (teq hc18).2 k) ?_
                    show own_E p e below _ T1 (mkF m 89 #[rv aLENIENT, iv p1] [])
                    refine own_st (fun t k => XS.bipush X1.here hx rfl (hb hby own_d_prog_34_method_4_89) k) ?_
                    show own_E p e below _ T1 (mkF m 91 #[rv aLENIENT, iv p1] [.int 45])
                    refine own_retN X1 hx Bd.notSynchronized (t := .char) Bd.returns (by decide) (hb hby own_d_prog_34_method_4_91) (by decide) (by decide) ?_
                    exact ⟨by rw [own_foldL, if_neg hc2, if_neg hc3, if_pos hc12, if_neg hc13, if_neg hc14, if_neg hc15, if_neg hc16, if_pos hc17, if_pos hc18]; rfl, e1, rfl⟩
                  · refine own_st (fun t k => XS.icmpYes X1.here hx rfl (pc0 := 86) (pc' := 92) rfl (hb hby own_d_prog_34_method_4_86) rfl (feq hc18).2 (by decide) (by decide) k) ?_
                    show own_E p e below _ T1 (mkF m 92 #[rv aLENIENT, iv p1] [])
                    refine own_st (fun t k => XS.iloadN X1.here hx rfl (hb hby own_d_prog_34_method_4_92) rfl k) ?_
                    show own_E p e below _ T1 (mkF m 93 #[rv aLENIENT, iv p1] [.int p1])
                    refine own_retN X1 hx Bd.notSynchronized (t := .char) Bd.returns (by decide) (hb hby own_d_prog_34_method_4_93) (by decide) (by decide) ?_
                    exact ⟨by rw [own_foldL, if_neg hc2, if_neg hc3, if_pos hc12, if_neg hc13, if_neg hc14, if_neg hc15, if_neg hc16, if_pos hc17, if_neg hc18]; rfl, e1, rfl⟩
                · refine own_st (fun t k => XS.icmpNo X1.here hx rfl (hb hby own_d_prog_34_method_4_72) rfl (flt hc17).1 k) ?_
                  show own_E p e below _ T1 (mkF m 75 #[rv aLENIENT, iv p1] [])
                  refine own_st (fun t k => XS.iloadN X1.here hx rfl (hb hby own_d_prog_34_method_4_75) rfl k) ?_
                  show own_E p e below _ T1 (mkF m 76 #[rv aLENIENT, iv p1] [.int p1])
                  refine own_st (fun t k => XS.sipush X1.here hx rfl (hb hby own_d_prog_34_method_4_76) k) ?_
                  show own_E p e below _ T1 (mkF m 79 #[rv aLENIENT, iv p1] [.int 8213, .int p1])
                  by_cases hc19 : (8213 : Int32) < p1
                  · refine own_st (fun t k => XS.icmpNo X1.here hx rfl (hb hby own_d_prog_34_method_4_79) rfl (tlt hc19).2.2.2 k) ?_
                    show own_E p e below _ T1 (mkF m 82 #[rv aLENIENT, iv p1] [])
                    refine own_st (fun t k => XS.iloadN X1.here hx rfl (hb hby own_d_prog_34_method_4_82) rfl k) ?_
                    show own_E p e below _ T1 (mkF m 83 #[rv aLENIENT, iv p1] [.int p1])
                    refine own_st (fun t k => XS.sipush X1.here hx rfl (hb hby own_d_prog_34_method_4_83) k) ?_
                    show own_E p e below _ T1 (mkF m 86 #[rv aLENIENT, iv p1] [.int 8722, .int p1])
                    by_cases hc20 : p1 = (8722 : Int32)
                    · refine own_st (fun t k => XS.icmpNo X1.here hx rfl (hb hby own_d_prog_34_method_4_86) rfl (teq hc20).2 k) ?_
                      show own_E p e below _ T1 (mkF m 89 #[rv aLENIENT, iv p1] [])
                      refine own_st (fun t k => XS.bipush X1.here hx rfl (hb hby own_d_prog_34_method_4_89) k) ?_
                      show own_E p e below _ T1 (mkF m 91 #[rv aLENIENT, iv p1] [.int 45])
                      refine own_retN X1 hx Bd.notSynchronized (t := .char) Bd.returns (by decide) (hb hby own_d_prog_34_method_4_91) (by decide) (by decide) ?_
                      exact ⟨by rw [own_foldL, if_neg hc2, if_neg hc3, if_pos hc12, if_neg hc13, if_neg hc14, if_neg hc15, if_neg hc16, if_neg hc17, if_pos hc19, if_pos hc20]; rfl, e1, rfl⟩
                    · refine own_st (fun t k => XS.icmpYes X1.here hx rfl (pc0 := 86) (pc' := 92) rfl (hb hby own_d_prog_34_method_4_86) rfl (feq hc20).2 (by decide) (by decide) k) ?_
                      show own_E p e below _ T1 (mkF m 92 #[rv aLENIENT, iv p1] [])
                      refine own_st (fun t k => XS.iloadN X1.here hx rfl (hb hby own_d_prog_34_method_4_92) rfl k) ?_
                      show own_E p e below _ T1 (mkF m 93 #[rv aLENIENT, iv p1] [.int p1])
                      refine own_retN X1 hx Bd.notSynchronized (t := .char) Bd.returns (by decide) (hb hby own_d_prog_34_method_4_93) (by decide) (by decide) ?_
                      exact ⟨by rw [own_foldL, if_neg hc2, if_neg hc3, if_pos hc12, if_neg hc13, if_neg hc14, if_neg hc15, if_neg hc16, if_neg hc17, if_pos hc19, if_neg hc20]; rfl, e1, rfl⟩
                  · refine own_st (fun t k => XS.icmpYes X1.here hx rfl (pc0 := 79) (pc' := 89) rfl (hb hby own_d_prog_34_method_4_79) rfl (flt hc19).2.2.2 (by decide) (by decide) k) ?_
                    show own_E p e below _ T1 (mkF m 89 #[rv aLENIENT, iv p1] [])
                    refine own_st (fun t k => XS.bipush X1.here hx rfl (hb hby own_d_prog_34_method_4_89) k) ?_
                    show own_E p e below _ T1 (mkF m 91 #[rv aLENIENT, iv p1] [.int 45])
                    refine own_retN X1 hx Bd.notSynchronized (t := .char) Bd.returns (by decide) (hb hby own_d_prog_34_method_4_91) (by decide) (by decide) ?_
                    exact ⟨by rw [own_foldL, if_neg hc2, if_neg hc3, if_pos hc12, if_neg hc13, if_neg hc14, if_neg hc15, if_neg hc16, if_neg hc17, if_neg hc19]; rfl, e1, rfl⟩
      · refine own_st (fun t k => XS.icmpNo X1.here hx rfl (hb hby own_d_prog_34_method_4_25) rfl (flt hc12).2.2.1 k) ?_
        show own_E p e below _ T1 (mkF m 28 #[rv aLENIENT, iv p1] [])
        refine own_st (fun t k => XS.iloadN X1.here hx rfl (hb hby own_d_prog_34_method_4_28) rfl k) ?_
        show own_E p e below _ T1 (mkF m 29 #[rv aLENIENT, iv p1] [.int p1])
        refine own_st (X1.ldcInt hx hown (mvT hZ (own_w hw 16 rfl)) (g := (mkF m 29 #[rv aLENIENT, iv p1] [.int p1])) rfl (hb hby own_d_prog_34_method_4_29)) ?_
        show own_E p e below _ T1 (mkF m 31 #[rv aLENIENT, iv p1] [.int 65281, .int p1])
        refine own_st (fun t k => XS.isub X1.here hx rfl (hb hby own_d_prog_34_method_4_31) rfl k) ?_
        show own_E p e below _ T1 (mkF m 32 #[rv aLENIENT, iv p1] [.int (p1 - (65281 : Int32))])
        refine own_st (fun t k => XS.bipush X1.here hx rfl (hb hby own_d_prog_34_method_4_32) k) ?_
        show own_E p e below _ T1 (mkF m 34 #[rv aLENIENT, iv p1] [.int 33, .int (p1 - (65281 : Int32))])
        refine own_st (fun t k => XS.iadd X1.here hx rfl (hb hby own_d_prog_34_method_4_34) rfl k) ?_
        show own_E p e below _ T1 (mkF m 35 #[rv aLENIENT, iv p1] [.int ((p1 - (65281 : Int32)) + (33 : Int32))])
        refine own_st (fun t k => XS.i2c X1.here hx rfl (hb hby own_d_prog_34_method_4_35) rfl k) ?_
        show own_E p e below _ T1 (mkF m 36 #[rv aLENIENT, iv p1] [.int (((p1 - (65281 : Int32)) + (33 : Int32)).toUInt32.toUInt16.toUInt32.toInt32)])
        refine own_retN X1 hx Bd.notSynchronized (t := .char) Bd.returns (by decide) (hb hby own_d_prog_34_method_4_36) (by decide) (by decide) ?_
        exact ⟨by rw [own_foldL, if_neg hc2, if_neg hc3, if_neg hc12]; rfl, e1, rfl⟩
theorem own_i2c (x : Int32) (h0 : ¬ x < 0) (h1 : x < 65536) : x.toUInt32.toUInt16.toUInt32.toInt32 = x := by
  have f := c_i2c x
  rw [Int32.lt_iff_toInt_lt] at h0 h1
  rw [← Int32.toInt_inj]
  have k0 : (0 : Int32).toInt = 0 := rfl
  have k1 : (65536 : Int32).toInt = 65536 := rfl
  omega
theorem own_pd_0 : parseMethodDescriptor "(C)C" = some ⟨[.char], some .char⟩ := by decide +kernel
theorem own_o1 (x : Int32) (hx0 : ¬ (x < (0 : Int32))) (hx1 : x < (65536 : Int32)) (hc27 : x < (65281 : Int32)) (hc28 : x = (12288 : Int32)) : own_foldL x = (32 : Int32) := by
  unfold own_foldL
  have q0 := own_i2c x hx0 hx1
  have q1 := own_i2c ((x - (65281 : Int32)) + (33 : Int32))
  have q2 := own_i2c (((x - (65281 : Int32)) + (33 : Int32)).toUInt32.toUInt16.toUInt32.toInt32)
  grind
theorem own_o2 (x : Int32) (hx0 : ¬ (x < (0 : Int32))) (hx1 : x < (65536 : Int32)) (hc27 : x < (65281 : Int32)) (hc28 : x = (12288 : Int32)) : own_foldL (32 : Int32) = (32 : Int32) := by
  decide
theorem own_o3 (x : Int32) (hx0 : ¬ (x < (0 : Int32))) (hx1 : x < (65536 : Int32)) (hc27 : x < (65281 : Int32)) (hc28 : ¬ (x = (12288 : Int32))) (hc32 : x = (160 : Int32)) : own_foldL x = (32 : Int32) := by
  unfold own_foldL
  have q0 := own_i2c x hx0 hx1
  have q1 := own_i2c ((x - (65281 : Int32)) + (33 : Int32))
  have q2 := own_i2c (((x - (65281 : Int32)) + (33 : Int32)).toUInt32.toUInt16.toUInt32.toInt32)
  grind
theorem own_o4 (x : Int32) (hx0 : ¬ (x < (0 : Int32))) (hx1 : x < (65536 : Int32)) (hc27 : x < (65281 : Int32)) (hc28 : ¬ (x = (12288 : Int32))) (hc32 : x = (160 : Int32)) : own_foldL (32 : Int32) = (32 : Int32) := by
  decide
theorem own_o5 (x : Int32) (hx0 : ¬ (x < (0 : Int32))) (hx1 : x < (65536 : Int32)) (hc27 : x < (65281 : Int32)) (hc28 : ¬ (x = (12288 : Int32))) (hc32 : ¬ (x = (160 : Int32))) (hc36 : x = (8199 : Int32)) : own_foldL x = (32 : Int32) := by
  unfold own_foldL
  have q0 := own_i2c x hx0 hx1
  have q1 := own_i2c ((x - (65281 : Int32)) + (33 : Int32))
  have q2 := own_i2c (((x - (65281 : Int32)) + (33 : Int32)).toUInt32.toUInt16.toUInt32.toInt32)
  grind
theorem own_o6 (x : Int32) (hx0 : ¬ (x < (0 : Int32))) (hx1 : x < (65536 : Int32)) (hc27 : x < (65281 : Int32)) (hc28 : ¬ (x = (12288 : Int32))) (hc32 : ¬ (x = (160 : Int32))) (hc36 : x = (8199 : Int32)) : own_foldL (32 : Int32) = (32 : Int32) := by
  decide
theorem own_o7 (x : Int32) (hx0 : ¬ (x < (0 : Int32))) (hx1 : x < (65536 : Int32)) (hc27 : x < (65281 : Int32)) (hc28 : ¬ (x = (12288 : Int32))) (hc32 : ¬ (x = (160 : Int32))) (hc36 : ¬ (x = (8199 : Int32))) (hc40 : x = (8239 : Int32)) : own_foldL x = (32 : Int32) := by
  unfold own_foldL
  have q0 := own_i2c x hx0 hx1
  have q1 := own_i2c ((x - (65281 : Int32)) + (33 : Int32))
  have q2 := own_i2c (((x - (65281 : Int32)) + (33 : Int32)).toUInt32.toUInt16.toUInt32.toInt32)
  grind
theorem own_o8 (x : Int32) (hx0 : ¬ (x < (0 : Int32))) (hx1 : x < (65536 : Int32)) (hc27 : x < (65281 : Int32)) (hc28 : ¬ (x = (12288 : Int32))) (hc32 : ¬ (x = (160 : Int32))) (hc36 : ¬ (x = (8199 : Int32))) (hc40 : x = (8239 : Int32)) : own_foldL (32 : Int32) = (32 : Int32) := by
  decide
theorem own_o9 (x : Int32) (hx0 : ¬ (x < (0 : Int32))) (hx1 : x < (65536 : Int32)) (hc27 : x < (65281 : Int32)) (hc28 : ¬ (x = (12288 : Int32))) (hc32 : ¬ (x = (160 : Int32))) (hc36 : ¬ (x = (8199 : Int32))) (hc40 : ¬ (x = (8239 : Int32))) (hc44 : x < (8208 : Int32)) (hc45 : ¬ (x = (8722 : Int32))) : own_foldL x = x := by
  unfold own_foldL
  have q0 := own_i2c x hx0 hx1
  have q1 := own_i2c ((x - (65281 : Int32)) + (33 : Int32))
  have q2 := own_i2c (((x - (65281 : Int32)) + (33 : Int32)).toUInt32.toUInt16.toUInt32.toInt32)
  grind
theorem own_o10 (x : Int32) (hx0 : ¬ (x < (0 : Int32))) (hx1 : x < (65536 : Int32)) (hc27 : x < (65281 : Int32)) (hc28 : ¬ (x = (12288 : Int32))) (hc32 : ¬ (x = (160 : Int32))) (hc36 : ¬ (x = (8199 : Int32))) (hc40 : ¬ (x = (8239 : Int32))) (hc44 : ¬ (x < (8208 : Int32))) (hc68 : (8213 : Int32) < x) (hc69 : x = (8722 : Int32)) : own_foldL x = (45 : Int32) := by
  unfold own_foldL
  have q0 := own_i2c x hx0 hx1
  have q1 := own_i2c ((x - (65281 : Int32)) + (33 : Int32))
  have q2 := own_i2c (((x - (65281 : Int32)) + (33 : Int32)).toUInt32.toUInt16.toUInt32.toInt32)
  grind
theorem own_o11 (x : Int32) (hx0 : ¬ (x < (0 : Int32))) (hx1 : x < (65536 : Int32)) (hc27 : x < (65281 : Int32)) (hc28 : ¬ (x = (12288 : Int32))) (hc32 : ¬ (x = (160 : Int32))) (hc36 : ¬ (x = (8199 : Int32))) (hc40 : ¬ (x = (8239 : Int32))) (hc44 : ¬ (x < (8208 : Int32))) (hc68 : (8213 : Int32) < x) (hc69 : x = (8722 : Int32)) : own_foldL (45 : Int32) = (45 : Int32) := by
  decide
theorem own_o12 (x : Int32) (hx0 : ¬ (x < (0 : Int32))) (hx1 : x < (65536 : Int32)) (hc27 : x < (65281 : Int32)) (hc28 : ¬ (x = (12288 : Int32))) (hc32 : ¬ (x = (160 : Int32))) (hc36 : ¬ (x = (8199 : Int32))) (hc40 : ¬ (x = (8239 : Int32))) (hc44 : ¬ (x < (8208 : Int32))) (hc68 : (8213 : Int32) < x) (hc69 : ¬ (x = (8722 : Int32))) : own_foldL x = x := by
  unfold own_foldL
  have q0 := own_i2c x hx0 hx1
  have q1 := own_i2c ((x - (65281 : Int32)) + (33 : Int32))
  have q2 := own_i2c (((x - (65281 : Int32)) + (33 : Int32)).toUInt32.toUInt16.toUInt32.toInt32)
  grind
theorem own_o13 (x : Int32) (hx0 : ¬ (x < (0 : Int32))) (hx1 : x < (65536 : Int32)) (hc27 : x < (65281 : Int32)) (hc28 : ¬ (x = (12288 : Int32))) (hc32 : ¬ (x = (160 : Int32))) (hc36 : ¬ (x = (8199 : Int32))) (hc40 : ¬ (x = (8239 : Int32))) (hc44 : ¬ (x < (8208 : Int32))) (hc68 : ¬ ((8213 : Int32) < x)) : own_foldL x = (45 : Int32) := by
  unfold own_foldL
  have q0 := own_i2c x hx0 hx1
  have q1 := own_i2c ((x - (65281 : Int32)) + (33 : Int32))
  have q2 := own_i2c (((x - (65281 : Int32)) + (33 : Int32)).toUInt32.toUInt16.toUInt32.toInt32)
  grind
theorem own_o14 (x : Int32) (hx0 : ¬ (x < (0 : Int32))) (hx1 : x < (65536 : Int32)) (hc27 : x < (65281 : Int32)) (hc28 : ¬ (x = (12288 : Int32))) (hc32 : ¬ (x = (160 : Int32))) (hc36 : ¬ (x = (8199 : Int32))) (hc40 : ¬ (x = (8239 : Int32))) (hc44 : ¬ (x < (8208 : Int32))) (hc68 : ¬ ((8213 : Int32) < x)) : own_foldL (45 : Int32) = (45 : Int32) := by
  decide
theorem own_o15 (x : Int32) (hx0 : ¬ (x < (0 : Int32))) (hx1 : x < (65536 : Int32)) (hc27 : ¬ (x < (65281 : Int32))) (hc79 : (65374 : Int32) < x) (hc80 : ¬ (x = (12288 : Int32))) (hc92 : ¬ (x = (160 : Int32))) (hc106 : ¬ (x = (8199 : Int32))) (hc122 : ¬ (x = (8239 : Int32))) (hc140 : ¬ (x < (8208 : Int32))) (hc160 : (8213 : Int32) < x) (hc161 : ¬ (x = (8722 : Int32))) : own_foldL x = x := by
  unfold own_foldL
  have q0 := own_i2c x hx0 hx1
  have q1 := own_i2c ((x - (65281 : Int32)) + (33 : Int32))
  have q2 := own_i2c (((x - (65281 : Int32)) + (33 : Int32)).toUInt32.toUInt16.toUInt32.toInt32)
  grind
theorem own_o16 (x : Int32) (hx0 : ¬ (x < (0 : Int32))) (hx1 : x < (65536 : Int32)) (hc27 : ¬ (x < (65281 : Int32))) (hc79 : ¬ ((65374 : Int32) < x)) : own_foldL x = (x - (65248 : Int32)) := by
  unfold own_foldL
  have q0 := own_i2c x hx0 hx1
  have q1 := own_i2c ((x - (65281 : Int32)) + (33 : Int32))
  have q2 := own_i2c (((x - (65281 : Int32)) + (33 : Int32)).toUInt32.toUInt16.toUInt32.toInt32)
  grind
theorem own_o17 (x : Int32) (hx0 : ¬ (x < (0 : Int32))) (hx1 : x < (65536 : Int32)) (hc27 : ¬ (x < (65281 : Int32))) (hc79 : ¬ ((65374 : Int32) < x)) : own_foldL (x - (65248 : Int32)) = (x - (65248 : Int32)) := by
  unfold own_foldL
  have q0 := own_i2c (x - (65248 : Int32))
  grind
theorem own_mod9 (x : Int32) : ((((x.toUInt32 >>> ((1 : Int32) &&& 31).toUInt32).toInt32) &&& (2147483647 : Int32)) % (9 : Int32)) = (0 : Int32) ∨ ((((x.toUInt32 >>> ((1 : Int32) &&& 31).toUInt32).toInt32) &&& (2147483647 : Int32)) % (9 : Int32)) = (1 : Int32) ∨ ((((x.toUInt32 >>> ((1 : Int32) &&& 31).toUInt32).toInt32) &&& (2147483647 : Int32)) % (9 : Int32)) = (2 : Int32) ∨ ((((x.toUInt32 >>> ((1 : Int32) &&& 31).toUInt32).toInt32) &&& (2147483647 : Int32)) % (9 : Int32)) = (3 : Int32) ∨ ((((x.toUInt32 >>> ((1 : Int32) &&& 31).toUInt32).toInt32) &&& (2147483647 : Int32)) % (9 : Int32)) = (4 : Int32) ∨ ((((x.toUInt32 >>> ((1 : Int32) &&& 31).toUInt32).toInt32) &&& (2147483647 : Int32)) % (9 : Int32)) = (5 : Int32) ∨ ((((x.toUInt32 >>> ((1 : Int32) &&& 31).toUInt32).toInt32) &&& (2147483647 : Int32)) % (9 : Int32)) = (6 : Int32) ∨ ((((x.toUInt32 >>> ((1 : Int32) &&& 31).toUInt32).toInt32) &&& (2147483647 : Int32)) % (9 : Int32)) = (7 : Int32) ∨ ((((x.toUInt32 >>> ((1 : Int32) &&& 31).toUInt32).toInt32) &&& (2147483647 : Int32)) % (9 : Int32)) = (8 : Int32) := by
  have h1 : (((x.toUInt32 >>> ((1 : Int32) &&& 31).toUInt32).toInt32) &&& (2147483647 : Int32)).toInt = ((x.toUInt32 >>> ((1 : Int32) &&& 31).toUInt32).toInt32).toInt % 2147483648 := c_mask _ 2147483647 31 (by decide) (by decide)
  have h2 := c_irem (((x.toUInt32 >>> ((1 : Int32) &&& 31).toUInt32).toInt32) &&& (2147483647 : Int32)) (9 : Int32) 9 rfl
  simp only [← Int32.toInt_inj]
  have k0 : (0 : Int32).toInt = 0 := rfl
  have k1 : (1 : Int32).toInt = 1 := rfl
  have k2 : (2 : Int32).toInt = 2 := rfl
  have k3 : (3 : Int32).toInt = 3 := rfl
  have k4 : (4 : Int32).toInt = 4 := rfl
  have k5 : (5 : Int32).toInt = 5 := rfl
  have k6 : (6 : Int32).toInt = 6 := rfl
  have k7 : (7 : Int32).toInt = 7 := rfl
  have k8 : (8 : Int32).toInt = 8 := rfl
  omega
def own_law_Q (n0 : Nat) (v : Option Value) (h : Heap) (L : List Loc) : Prop := v = some (.int 1) ∧ Fr n0 L
theorem own_pn_ReadingFoldPinLaw : plainName "serialis/text/ReadingFoldPinLaw" = true := by first | (simp [plainName, overriddenIn]; done) | decide +kernel
theorem own_law_ef (m : MethodId) (aLENIENT : Addr) (aSTRICT : Addr) (p1 : Int32) (p2 : Int32) (p3 : Int32) : entryFrame m #[(.int p1), (.int p2), (.int p3)] maxLocals = mkF m 0 #[.val (.int p1), .val (.int p2), .val (.int p3), .unset, .unset, .unset, .unset, .unset, .unset] [] := by first | (simp [entryFrame, mkF, argsToLocals, Value.category, maxLocals]; done) | rfl
set_option maxRecDepth 65536 in
set_option maxHeartbeats 40000000 in
theorem own_law (l : Launch) (Z : State) (a0 : Array Value) (hw : ∀ d ∈ tables_1, d.before a0 Z = true) (ws : List Jvm.Cond) (aLENIENT : Addr) (aSTRICT : Addr) (p1 : Int32) (p2 : Int32) (p3 : Int32) (h0 : Heap) (n0 : Nat) (Z0 : n0 ≤ h0.size) (S_LENIENT : Sta Z h0 "serialis/text/Reading" "LENIENT" "Lserialis/text/Reading;" (.ref aLENIENT)) (S_STRICT : Sta Z h0 "serialis/text/Reading" "STRICT" "Lserialis/text/Reading;" (.ref aSTRICT)) (E_LENIENT : Exa Z h0 aLENIENT "serialis/text/Reading") (E_STRICT : Exa Z h0 aSTRICT "serialis/text/Reading") (ne_LENIENT_STRICT : ¬ aLENIENT = aSTRICT) :
    MetFree l x (head1 (Jvm.Cond.code x code maxLocals ret :: ws) room_1) (fun a U => a = #[(.int p1), (.int p2), (.int p3)] ∧ Z.Warmed39 U.vm ∧ U.heap = h0) (fun _ _ _ _ _ => True) (fun _ U o U' => ∃ v L, o = .returned v ∧ own_law_Q n0 v U'.heap L ∧ FrameEnd U o U' L room_1.cells room_1.slots) := by
  refine MetFree.of_bodySF (plainFor_of_name own_pn_ReadingFoldPinLaw) hisR ?_
  intro p e s m args below meth c s₁ Bd hml0 hP hK
  obtain ⟨rfl, hZ, hh⟩ := hP
  have hx := Bd.exec
  have hby := Bd.bytes
  have hml : c.maxLocals = 9 := hml0
  have hown : s.vm.findClass "serialis/text/ReadingFoldPinLaw" = some m.cls := findClass_of_methodNamed Bd.named
  have hnm := (name_of_methodNamed Bd.named Bd.method).1
  have X0 : Stand p l e room_1 s m #[(.int p1), (.int p2), (.int p3)] below meth c s₁ [] 0 0 := Stand.of_body Bd
  have e0 : s₁.heap = h0 := by rw [← hh, Bd.state]; rfl
  show own_E p e below (own_K (own_law_Q n0) s room_1.cells room_1.slots) s₁ (entryFrame m #[(.int p1), (.int p2), (.int p3)] maxLocals)
  refine own_pre (own_law_ef m aLENIENT aSTRICT p1 p2 p3) ?_
  have tailSTRICT : ∀ (T : State) (Lc : List Loc) (nc ns : Nat) (x : Int32) (s6 s7 : Slot), One s6 → One s7 → Stand p l e room_1 s m #[(.int p1), (.int p2), (.int p3)] below meth c T Lc nc ns → Fr n0 Lc → Keep h0 T.heap [] → nc ≤ room_1.cells → ns ≤ room_1.slots → ¬ (x < (0 : Int32)) → x < (65536 : Int32) → own_E p e below (own_K (own_law_Q n0) s room_1.cells room_1.slots) T (mkF m 132 #[iv p1, iv p2, iv p3, rv aSTRICT, iv 1, iv x, s6, s7, .unset] []) := by
    intro T Lc nc ns x s6 s7 o6 o7 X N K hnc hns hx0 hx1
    have eTl : T.heap = T.heap := rfl
    show own_E p e below _ T (mkF m 132 #[iv p1, iv p2, iv p3, rv aSTRICT, iv 1, iv x, s6, s7, .unset] [])
    refine own_st (fun t k => XS.iload X.here hx rfl (hb hby at_132) rfl k) ?_
    show own_E p e below _ T (mkF m 134 #[iv p1, iv p2, iv p3, rv aSTRICT, iv 1, iv x, s6, s7, .unset] [.int x])
    have os1 : storeLocals #[.val (.int p1), .val (.int p2), .val (.int p3), .val (.ref aSTRICT), .val (.int (1 : Int32)), .val (.int x), s6, s7, .unset] 6 (.int x) = some #[.val (.int p1), .val (.int p2), .val (.int p3), .val (.ref aSTRICT), .val (.int (1 : Int32)), .val (.int x), .val (.int x), s7, .unset] := by rcases o6 with h | ⟨w, h, hw⟩ <;> subst h <;> first | rfl | (cases w <;> first | rfl | (simp [Value.category] at hw))
    refine own_st (fun t k => XS.istore X.here hx rfl (hb hby at_134) rfl (l' := #[.val (.int p1), .val (.int p2), .val (.int p3), .val (.ref aSTRICT), .val (.int (1 : Int32)), .val (.int x), .val (.int x), s7, .unset]) os1 k) ?_
    show own_E p e below _ T (mkF m 136 #[iv p1, iv p2, iv p3, rv aSTRICT, iv 1, iv x, iv x, s7, .unset] [])
    refine own_st (fun t k => XS.iload X.here hx rfl (hb hby at_136) rfl k) ?_
    show own_E p e below _ T (mkF m 138 #[iv p1, iv p2, iv p3, rv aSTRICT, iv 1, iv x, iv x, s7, .unset] [.int 1])
    refine own_st (fun t k => XS.ifNo X.here hx rfl (hb hby at_138) rfl (by decide) k) ?_
    show own_E p e below _ T (mkF m 141 #[iv p1, iv p2, iv p3, rv aSTRICT, iv 1, iv x, iv x, s7, .unset] [])
    refine own_st (fun t k => XS.iload X.here hx rfl (hb hby at_141) rfl k) ?_
    show own_E p e below _ T (mkF m 143 #[iv p1, iv p2, iv p3, rv aSTRICT, iv 1, iv x, iv x, s7, .unset] [.int x])
    have os2 : storeLocals #[.val (.int p1), .val (.int p2), .val (.int p3), .val (.ref aSTRICT), .val (.int (1 : Int32)), .val (.int x), .val (.int x), s7, .unset] 7 (.int x) = some #[.val (.int p1), .val (.int p2), .val (.int p3), .val (.ref aSTRICT), .val (.int (1 : Int32)), .val (.int x), .val (.int x), .val (.int x), .unset] := by rcases o7 with h | ⟨w, h, hw⟩ <;> subst h <;> first | rfl | (cases w <;> first | rfl | (simp [Value.category] at hw))
    refine own_st (fun t k => XS.istore X.here hx rfl (hb hby at_143) rfl (l' := #[.val (.int p1), .val (.int p2), .val (.int p3), .val (.ref aSTRICT), .val (.int (1 : Int32)), .val (.int x), .val (.int x), .val (.int x), .unset]) os2 k) ?_
    show own_E p e below _ T (mkF m 145 #[iv p1, iv p2, iv p3, rv aSTRICT, iv 1, iv x, iv x, iv x, .unset] [])
    refine own_st (fun t k => XS.goto X.here hx rfl (pc0 := 145) (pc' := 246) rfl (hb hby at_145) (by decide) (by decide) k) ?_
    show own_E p e below _ T (mkF m 246 #[iv p1, iv p2, iv p3, rv aSTRICT, iv 1, iv x, iv x, iv x, .unset] [])
    refine own_st (fun t k => XS.aloadN X.here hx rfl (hb hby at_246) rfl rfl k) ?_
    show own_E p e below _ T (mkF m 247 #[iv p1, iv p2, iv p3, rv aSTRICT, iv 1, iv x, iv x, iv x, .unset] [.ref aSTRICT])
    refine own_st (fun t k => XS.iload X.here hx rfl (hb hby at_247) rfl k) ?_
    show own_E p e below _ T (mkF m 249 #[iv p1, iv p2, iv p3, rv aSTRICT, iv 1, iv x, iv x, iv x, .unset] [.int x, .ref aSTRICT])
    obtain ⟨cq3, kq3, q3a, q3b, q3c⟩ := isOf hZ eTl (E_STRICT.keep K)
    obtain ⟨_, _, ⟨T3, L3, k3, n3⟩, -, X3, ⟨Lc3, hQ3, l3, y3, z3⟩, st3⟩ := X.virtualBack hx (y := own_y0) (z := own_y0) hown (mvT hZ (own_w hw 5 rfl)) (mvT hZ (own_w hw 6 rfl)) (notFace_of_selects (args := #[]) (mvT hZ (own_w hw 8 rfl))) (mvT hZ (own_w hw 8 rfl)) (mvT hZ (own_w hw 7 rfl)) (by decide) (backOf (W := 0) (own_fold_STRICT l Z a0 hw [] aLENIENT aSTRICT x T.heap n0 (Nat.le_trans Z0 K.1) (own_StaK S_LENIENT K) (own_StaK S_STRICT K) (E_LENIENT.keep K) (E_STRICT.keep K) ne_LENIENT_STRICT) hZ (own_w hw 9 rfl) (own_w hw 1 rfl) (by decide) (by decide)) q3a q3c (g := (mkF m 249 #[iv p1, iv p2, iv p3, rv aSTRICT, iv 1, iv x, iv x, iv x, .unset] [.int x, .ref aSTRICT])) rfl (by rw [hml]; rfl) (Steps.refl _) (argsL := [(.int x)]) (rest := []) (lenOf own_pd_0 rfl) rfl (by show 2 * 0 + _ ≤ _; exact Nat.le_of_eq rfl) (hb hby at_249) (fun _ _ => ⟨rfl, eTl, hnc, hns⟩)
    dsimp only [Pt.U, Pt.locs, Pt.cells, Pt.slots] at X3 l3 y3 z3 st3 hQ3
    subst l3 y3 z3
    obtain ⟨hR3, e3, rfl⟩ := hQ3
    have N3 := Fr.app N (Fr.nil n0)
    obtain rfl := hR3
    refine own_tr st3 ?_
    show own_E p e below _ T3 (mkF m 252 #[iv p1, iv p2, iv p3, rv aSTRICT, iv 1, iv x, iv x, iv x, .unset] [.int (x.toUInt32.toUInt16.toUInt32.toInt32)])
    refine own_st (fun t k => XS.istore X3.here hx rfl (hb hby at_252) rfl (l' := #[iv p1, iv p2, iv p3, rv aSTRICT, iv 1, iv x, iv x, iv x, iv (x.toUInt32.toUInt16.toUInt32.toInt32)]) rfl k) ?_
    show own_E p e below _ T3 (mkF m 254 #[iv p1, iv p2, iv p3, rv aSTRICT, iv 1, iv x, iv x, iv x, iv (x.toUInt32.toUInt16.toUInt32.toInt32)] [])
    refine own_st (fun t k => XS.iload X3.here hx rfl (hb hby at_254) rfl k) ?_
    show own_E p e below _ T3 (mkF m 256 #[iv p1, iv p2, iv p3, rv aSTRICT, iv 1, iv x, iv x, iv x, iv (x.toUInt32.toUInt16.toUInt32.toInt32)] [.int (x.toUInt32.toUInt16.toUInt32.toInt32)])
    refine own_st (fun t k => XS.iload X3.here hx rfl (hb hby at_256) rfl k) ?_
    show own_E p e below _ T3 (mkF m 258 #[iv p1, iv p2, iv p3, rv aSTRICT, iv 1, iv x, iv x, iv x, iv (x.toUInt32.toUInt16.toUInt32.toInt32)] [.int x, .int (x.toUInt32.toUInt16.toUInt32.toInt32)])
    by_cases hc4 : (x.toUInt32.toUInt16.toUInt32.toInt32) = x
    · refine own_st (fun t k => XS.icmpNo X3.here hx rfl (hb hby at_258) rfl (teq hc4).2 k) ?_
      show own_E p e below _ T3 (mkF m 261 #[iv p1, iv p2, iv p3, rv aSTRICT, iv 1, iv x, iv x, iv x, iv (x.toUInt32.toUInt16.toUInt32.toInt32)] [])
      refine own_st (fun t k => XS.aloadN X3.here hx rfl (hb hby at_261) rfl rfl k) ?_
      show own_E p e below _ T3 (mkF m 262 #[iv p1, iv p2, iv p3, rv aSTRICT, iv 1, iv x, iv x, iv x, iv (x.toUInt32.toUInt16.toUInt32.toInt32)] [.ref aSTRICT])
      refine own_st (fun t k => XS.iload X3.here hx rfl (hb hby at_262) rfl k) ?_
      show own_E p e below _ T3 (mkF m 264 #[iv p1, iv p2, iv p3, rv aSTRICT, iv 1, iv x, iv x, iv x, iv (x.toUInt32.toUInt16.toUInt32.toInt32)] [.int (x.toUInt32.toUInt16.toUInt32.toInt32), .ref aSTRICT])
      obtain ⟨cq5, kq5, q5a, q5b, q5c⟩ := isOf hZ e3 (E_STRICT.keep K)
      obtain ⟨_, _, ⟨T5, L5, k5, n5⟩, -, X5, ⟨Lc5, hQ5, l5, y5, z5⟩, st5⟩ := X3.virtualBack hx (y := own_y0) (z := own_y0) hown (mvT hZ (own_w hw 5 rfl)) (mvT hZ (own_w hw 6 rfl)) (notFace_of_selects (args := #[]) (mvT hZ (own_w hw 8 rfl))) (mvT hZ (own_w hw 8 rfl)) (mvT hZ (own_w hw 7 rfl)) (by decide) (backOf (W := 0) (own_fold_STRICT l Z a0 hw [] aLENIENT aSTRICT (x.toUInt32.toUInt16.toUInt32.toInt32) T.heap n0 (Nat.le_trans Z0 K.1) (own_StaK S_LENIENT K) (own_StaK S_STRICT K) (E_LENIENT.keep K) (E_STRICT.keep K) ne_LENIENT_STRICT) hZ (own_w hw 9 rfl) (own_w hw 1 rfl) (by decide) (by decide)) q5a q5c (g := (mkF m 264 #[iv p1, iv p2, iv p3, rv aSTRICT, iv 1, iv x, iv x, iv x, iv (x.toUInt32.toUInt16.toUInt32.toInt32)] [.int (x.toUInt32.toUInt16.toUInt32.toInt32), .ref aSTRICT])) rfl (by rw [hml]; rfl) (Steps.refl _) (argsL := [(.int (x.toUInt32.toUInt16.toUInt32.toInt32))]) (rest := []) (lenOf own_pd_0 rfl) rfl (by show 2 * 0 + _ ≤ _; exact Nat.le_of_eq rfl) (hb hby at_264) (fun _ _ => ⟨rfl, e3, hnc, hns⟩)
      dsimp only [Pt.U, Pt.locs, Pt.cells, Pt.slots] at X5 l5 y5 z5 st5 hQ5
      subst l5 y5 z5
      obtain ⟨hR5, e5, rfl⟩ := hQ5
      have N5 := Fr.app N3 (Fr.nil n0)
      obtain rfl := hR5
      refine own_tr st5 ?_
      show own_E p e below _ T5 (mkF m 267 #[iv p1, iv p2, iv p3, rv aSTRICT, iv 1, iv x, iv x, iv x, iv (x.toUInt32.toUInt16.toUInt32.toInt32)] [.int ((x.toUInt32.toUInt16.toUInt32.toInt32).toUInt32.toUInt16.toUInt32.toInt32)])
      refine own_st (fun t k => XS.iload X5.here hx rfl (hb hby at_267) rfl k) ?_
      show own_E p e below _ T5 (mkF m 269 #[iv p1, iv p2, iv p3, rv aSTRICT, iv 1, iv x, iv x, iv x, iv (x.toUInt32.toUInt16.toUInt32.toInt32)] [.int (x.toUInt32.toUInt16.toUInt32.toInt32), .int ((x.toUInt32.toUInt16.toUInt32.toInt32).toUInt32.toUInt16.toUInt32.toInt32)])
      by_cases hc6 : ((x.toUInt32.toUInt16.toUInt32.toInt32).toUInt32.toUInt16.toUInt32.toInt32) = (x.toUInt32.toUInt16.toUInt32.toInt32)
      · refine own_st (fun t k => XS.icmpNo X5.here hx rfl (hb hby at_269) rfl (teq hc6).2 k) ?_
        show own_E p e below _ T5 (mkF m 272 #[iv p1, iv p2, iv p3, rv aSTRICT, iv 1, iv x, iv x, iv x, iv (x.toUInt32.toUInt16.toUInt32.toInt32)] [])
        refine own_st (fun t k => XS.iconst X5.here hx rfl (hb hby at_272) k) ?_
        show own_E p e below _ T5 (mkF m 273 #[iv p1, iv p2, iv p3, rv aSTRICT, iv 1, iv x, iv x, iv x, iv (x.toUInt32.toUInt16.toUInt32.toInt32)] [.int 1])
        refine own_st (fun t k => XS.goto X5.here hx rfl (pc0 := 273) (pc' := 277) rfl (hb hby at_273) (by decide) (by decide) k) ?_
        show own_E p e below _ T5 (mkF m 277 #[iv p1, iv p2, iv p3, rv aSTRICT, iv 1, iv x, iv x, iv x, iv (x.toUInt32.toUInt16.toUInt32.toInt32)] [.int 1])
        refine own_retS X5 hx Bd.notSynchronized Bd.returns rfl (by decide) (hb hby at_277) hnc hns ?_
        exact ⟨rfl, N5⟩
      · exfalso
        have f7 := rng32 x
        have f8 : (0 : Int32).toInt = 0 := rfl
        have f9 : (65536 : Int32).toInt = 65536 := rfl
        have f10 := rng32 (x.toUInt32.toUInt16.toUInt32.toInt32)
        have f11 := c_i2c x
        have f12 := rng32 ((x.toUInt32.toUInt16.toUInt32.toInt32).toUInt32.toUInt16.toUInt32.toInt32)
        have f13 := c_i2c (x.toUInt32.toUInt16.toUInt32.toInt32)
        have g14 := hx0
        rw [Int32.lt_iff_toInt_lt] at g14
        have g15 := hx1
        rw [Int32.lt_iff_toInt_lt] at g15
        have g16 := hc4
        rw [← Int32.toInt_inj] at g16
        have g17 := hc6
        rw [← Int32.toInt_inj] at g17
        omega
    · exfalso
      have f18 := rng32 x
      have f19 : (0 : Int32).toInt = 0 := rfl
      have f20 : (65536 : Int32).toInt = 65536 := rfl
      have f21 := rng32 (x.toUInt32.toUInt16.toUInt32.toInt32)
      have f22 := c_i2c x
      have g23 := hx0
      rw [Int32.lt_iff_toInt_lt] at g23
      have g24 := hx1
      rw [Int32.lt_iff_toInt_lt] at g24
      have g25 := hc4
      rw [← Int32.toInt_inj] at g25
      omega
  have tailLENIENT : ∀ (T : State) (Lc : List Loc) (nc ns : Nat) (x : Int32) (s6 s7 : Slot), One s6 → One s7 → Stand p l e room_1 s m #[(.int p1), (.int p2), (.int p3)] below meth c T Lc nc ns → Fr n0 Lc → Keep h0 T.heap [] → nc ≤ room_1.cells → ns ≤ room_1.slots → ¬ (x < (0 : Int32)) → x < (65536 : Int32) → own_E p e below (own_K (own_law_Q n0) s room_1.cells room_1.slots) T (mkF m 132 #[iv p1, iv p2, iv p3, rv aLENIENT, iv 0, iv x, s6, s7, .unset] []) := by
    intro T Lc nc ns x s6 s7 o6 o7 X N K hnc hns hx0 hx1
    have eTl : T.heap = T.heap := rfl
    show own_E p e below _ T (mkF m 132 #[iv p1, iv p2, iv p3, rv aLENIENT, iv 0, iv x, s6, s7, .unset] [])
    refine own_st (fun t k => XS.iload X.here hx rfl (hb hby at_132) rfl k) ?_
    show own_E p e below _ T (mkF m 134 #[iv p1, iv p2, iv p3, rv aLENIENT, iv 0, iv x, s6, s7, .unset] [.int x])
    have os26 : storeLocals #[.val (.int p1), .val (.int p2), .val (.int p3), .val (.ref aLENIENT), .val (.int (0 : Int32)), .val (.int x), s6, s7, .unset] 6 (.int x) = some #[.val (.int p1), .val (.int p2), .val (.int p3), .val (.ref aLENIENT), .val (.int (0 : Int32)), .val (.int x), .val (.int x), s7, .unset] := by rcases o6 with h | ⟨w, h, hw⟩ <;> subst h <;> first | rfl | (cases w <;> first | rfl | (simp [Value.category] at hw))
    refine own_st (fun t k => XS.istore X.here hx rfl (hb hby at_134) rfl (l' := #[.val (.int p1), .val (.int p2), .val (.int p3), .val (.ref aLENIENT), .val (.int (0 : Int32)), .val (.int x), .val (.int x), s7, .unset]) os26 k) ?_
    show own_E p e below _ T (mkF m 136 #[iv p1, iv p2, iv p3, rv aLENIENT, iv 0, iv x, iv x, s7, .unset] [])
    refine own_st (fun t k => XS.iload X.here hx rfl (hb hby at_136) rfl k) ?_
    show own_E p e below _ T (mkF m 138 #[iv p1, iv p2, iv p3, rv aLENIENT, iv 0, iv x, iv x, s7, .unset] [.int 0])
    refine own_st (fun t k => XS.ifYes X.here hx rfl (pc0 := 138) (pc' := 148) rfl (hb hby at_138) rfl (by decide) (by decide) (by decide) k) ?_
    show own_E p e below _ T (mkF m 148 #[iv p1, iv p2, iv p3, rv aLENIENT, iv 0, iv x, iv x, s7, .unset] [])
    refine own_st (fun t k => XS.iload X.here hx rfl (hb hby at_148) rfl k) ?_
    show own_E p e below _ T (mkF m 150 #[iv p1, iv p2, iv p3, rv aLENIENT, iv 0, iv x, iv x, s7, .unset] [.int x])
    refine own_st (X.ldcInt hx hown (mvT hZ (own_w hw 4 rfl)) (g := (mkF m 150 #[iv p1, iv p2, iv p3, rv aLENIENT, iv 0, iv x, iv x, s7, .unset] [.int x])) rfl (hb hby at_150)) ?_
    show own_E p e below _ T (mkF m 152 #[iv p1, iv p2, iv p3, rv aLENIENT, iv 0, iv x, iv x, s7, .unset] [.int 65281, .int x])
    by_cases hc27 : x < (65281 : Int32)
    · refine own_st (fun t k => XS.icmpYes X.here hx rfl (pc0 := 152) (pc' := 172) rfl (hb hby at_152) rfl (tlt hc27).1 (by decide) (by decide) k) ?_
      show own_E p e below _ T (mkF m 172 #[iv p1, iv p2, iv p3, rv aLENIENT, iv 0, iv x, iv x, s7, .unset] [])
      refine own_st (fun t k => XS.iload X.here hx rfl (hb hby at_172) rfl k) ?_
      show own_E p e below _ T (mkF m 174 #[iv p1, iv p2, iv p3, rv aLENIENT, iv 0, iv x, iv x, s7, .unset] [.int x])
      refine own_st (fun t k => XS.sipush X.here hx rfl (hb hby at_174) k) ?_
      show own_E p e below _ T (mkF m 177 #[iv p1, iv p2, iv p3, rv aLENIENT, iv 0, iv x, iv x, s7, .unset] [.int 12288, .int x])
      by_cases hc28 : x = (12288 : Int32)
      · refine own_st (fun t k => XS.icmpYes X.here hx rfl (pc0 := 177) (pc' := 204) rfl (hb hby at_177) rfl (teq hc28).1 (by decide) (by decide) k) ?_
        show own_E p e below _ T (mkF m 204 #[iv p1, iv p2, iv p3, rv aLENIENT, iv 0, iv x, iv x, s7, .unset] [])
        refine own_st (fun t k => XS.bipush X.here hx rfl (hb hby at_204) k) ?_
        show own_E p e below _ T (mkF m 206 #[iv p1, iv p2, iv p3, rv aLENIENT, iv 0, iv x, iv x, s7, .unset] [.int 32])
        have os29 : storeLocals #[.val (.int p1), .val (.int p2), .val (.int p3), .val (.ref aLENIENT), .val (.int (0 : Int32)), .val (.int x), .val (.int x), s7, .unset] 7 (.int (32 : Int32)) = some #[.val (.int p1), .val (.int p2), .val (.int p3), .val (.ref aLENIENT), .val (.int (0 : Int32)), .val (.int x), .val (.int x), .val (.int (32 : Int32)), .unset] := by rcases o7 with h | ⟨w, h, hw⟩ <;> subst h <;> first | rfl | (cases w <;> first | rfl | (simp [Value.category] at hw))
        refine own_st (fun t k => XS.istore X.here hx rfl (hb hby at_206) rfl (l' := #[.val (.int p1), .val (.int p2), .val (.int p3), .val (.ref aLENIENT), .val (.int (0 : Int32)), .val (.int x), .val (.int x), .val (.int (32 : Int32)), .unset]) os29 k) ?_
        show own_E p e below _ T (mkF m 208 #[iv p1, iv p2, iv p3, rv aLENIENT, iv 0, iv x, iv x, iv 32, .unset] [])
        refine own_st (fun t k => XS.goto X.here hx rfl (pc0 := 208) (pc' := 246) rfl (hb hby at_208) (by decide) (by decide) k) ?_
        show own_E p e below _ T (mkF m 246 #[iv p1, iv p2, iv p3, rv aLENIENT, iv 0, iv x, iv x, iv 32, .unset] [])
        refine own_st (fun t k => XS.aloadN X.here hx rfl (hb hby at_246) rfl rfl k) ?_
        show own_E p e below _ T (mkF m 247 #[iv p1, iv p2, iv p3, rv aLENIENT, iv 0, iv x, iv x, iv 32, .unset] [.ref aLENIENT])
        refine own_st (fun t k => XS.iload X.here hx rfl (hb hby at_247) rfl k) ?_
        show own_E p e below _ T (mkF m 249 #[iv p1, iv p2, iv p3, rv aLENIENT, iv 0, iv x, iv x, iv 32, .unset] [.int x, .ref aLENIENT])
        obtain ⟨cq30, kq30, q30a, q30b, q30c⟩ := isOf hZ eTl (E_LENIENT.keep K)
        obtain ⟨_, _, ⟨T30, L30, k30, n30⟩, -, X30, ⟨Lc30, hQ30, l30, y30, z30⟩, st30⟩ := X.virtualBack hx (y := own_y0) (z := own_y0) hown (mvT hZ (own_w hw 5 rfl)) (mvT hZ (own_w hw 6 rfl)) (notFace_of_selects (args := #[]) (mvT hZ (own_w hw 8 rfl))) (mvT hZ (own_w hw 8 rfl)) (mvT hZ (own_w hw 7 rfl)) (by decide) (backOf (W := 0) (own_fold_LENIENT l Z a0 hw [] aLENIENT aSTRICT x T.heap n0 (Nat.le_trans Z0 K.1) (own_StaK S_LENIENT K) (own_StaK S_STRICT K) (E_LENIENT.keep K) (E_STRICT.keep K) ne_LENIENT_STRICT) hZ (own_w hw 9 rfl) (own_w hw 1 rfl) (by decide) (by decide)) q30a q30c (g := (mkF m 249 #[iv p1, iv p2, iv p3, rv aLENIENT, iv 0, iv x, iv x, iv 32, .unset] [.int x, .ref aLENIENT])) rfl (by rw [hml]; rfl) (Steps.refl _) (argsL := [(.int x)]) (rest := []) (lenOf own_pd_0 rfl) rfl (by show 2 * 0 + _ ≤ _; exact Nat.le_of_eq rfl) (hb hby at_249) (fun _ _ => ⟨rfl, eTl, hnc, hns⟩)
        dsimp only [Pt.U, Pt.locs, Pt.cells, Pt.slots] at X30 l30 y30 z30 st30 hQ30
        subst l30 y30 z30
        obtain ⟨rfl, e30, rfl⟩ := hQ30
        have N30 := Fr.app N (Fr.nil n0)
        refine own_tr st30 ?_
        show own_E p e below _ T30 (mkF m 252 #[iv p1, iv p2, iv p3, rv aLENIENT, iv 0, iv x, iv x, iv 32, .unset] [.int (own_foldL x)])
        refine own_st (fun t k => XS.istore X30.here hx rfl (hb hby at_252) rfl (l' := #[iv p1, iv p2, iv p3, rv aLENIENT, iv 0, iv x, iv x, iv 32, iv (own_foldL x)]) rfl k) ?_
        show own_E p e below _ T30 (mkF m 254 #[iv p1, iv p2, iv p3, rv aLENIENT, iv 0, iv x, iv x, iv 32, iv (own_foldL x)] [])
        refine own_st (fun t k => XS.iload X30.here hx rfl (hb hby at_254) rfl k) ?_
        show own_E p e below _ T30 (mkF m 256 #[iv p1, iv p2, iv p3, rv aLENIENT, iv 0, iv x, iv x, iv 32, iv (own_foldL x)] [.int (own_foldL x)])
        refine own_st (fun t k => XS.iload X30.here hx rfl (hb hby at_256) rfl k) ?_
        show own_E p e below _ T30 (mkF m 258 #[iv p1, iv p2, iv p3, rv aLENIENT, iv 0, iv x, iv x, iv 32, iv (own_foldL x)] [.int 32, .int (own_foldL x)])
        refine own_st (fun t k => XS.icmpNo X30.here hx rfl (hb hby at_258) rfl (teq (own_o1 x hx0 hx1 hc27 hc28)).2 k) ?_
        show own_E p e below _ T30 (mkF m 261 #[iv p1, iv p2, iv p3, rv aLENIENT, iv 0, iv x, iv x, iv 32, iv (own_foldL x)] [])
        refine own_st (fun t k => XS.aloadN X30.here hx rfl (hb hby at_261) rfl rfl k) ?_
        show own_E p e below _ T30 (mkF m 262 #[iv p1, iv p2, iv p3, rv aLENIENT, iv 0, iv x, iv x, iv 32, iv (own_foldL x)] [.ref aLENIENT])
        refine own_st (fun t k => XS.iload X30.here hx rfl (hb hby at_262) rfl k) ?_
        show own_E p e below _ T30 (mkF m 264 #[iv p1, iv p2, iv p3, rv aLENIENT, iv 0, iv x, iv x, iv 32, iv (own_foldL x)] [.int (own_foldL x), .ref aLENIENT])
        obtain ⟨cq31, kq31, q31a, q31b, q31c⟩ := isOf hZ e30 (E_LENIENT.keep K)
        obtain ⟨_, _, ⟨T31, L31, k31, n31⟩, -, X31, ⟨Lc31, hQ31, l31, y31, z31⟩, st31⟩ := X30.virtualBack hx (y := own_y0) (z := own_y0) hown (mvT hZ (own_w hw 5 rfl)) (mvT hZ (own_w hw 6 rfl)) (notFace_of_selects (args := #[]) (mvT hZ (own_w hw 8 rfl))) (mvT hZ (own_w hw 8 rfl)) (mvT hZ (own_w hw 7 rfl)) (by decide) (backOf (W := 0) (own_fold_LENIENT l Z a0 hw [] aLENIENT aSTRICT (own_foldL x) T.heap n0 (Nat.le_trans Z0 K.1) (own_StaK S_LENIENT K) (own_StaK S_STRICT K) (E_LENIENT.keep K) (E_STRICT.keep K) ne_LENIENT_STRICT) hZ (own_w hw 9 rfl) (own_w hw 1 rfl) (by decide) (by decide)) q31a q31c (g := (mkF m 264 #[iv p1, iv p2, iv p3, rv aLENIENT, iv 0, iv x, iv x, iv 32, iv (own_foldL x)] [.int (own_foldL x), .ref aLENIENT])) rfl (by rw [hml]; rfl) (Steps.refl _) (argsL := [(.int (own_foldL x))]) (rest := []) (lenOf own_pd_0 rfl) rfl (by show 2 * 0 + _ ≤ _; exact Nat.le_of_eq rfl) (hb hby at_264) (fun _ _ => ⟨rfl, e30, hnc, hns⟩)
        dsimp only [Pt.U, Pt.locs, Pt.cells, Pt.slots] at X31 l31 y31 z31 st31 hQ31
        subst l31 y31 z31
        obtain ⟨rfl, e31, rfl⟩ := hQ31
        have N31 := Fr.app N30 (Fr.nil n0)
        refine own_tr st31 ?_
        show own_E p e below _ T31 (mkF m 267 #[iv p1, iv p2, iv p3, rv aLENIENT, iv 0, iv x, iv x, iv 32, iv (own_foldL x)] [.int (own_foldL (own_foldL x))])
        refine own_st (fun t k => XS.iload X31.here hx rfl (hb hby at_267) rfl k) ?_
        show own_E p e below _ T31 (mkF m 269 #[iv p1, iv p2, iv p3, rv aLENIENT, iv 0, iv x, iv x, iv 32, iv (own_foldL x)] [.int (own_foldL x), .int (own_foldL (own_foldL x))])
        refine own_st (fun t k => XS.icmpNo X31.here hx rfl (hb hby at_269) rfl (teq (by rw [(own_o1 x hx0 hx1 hc27 hc28)]; exact (own_o2 x hx0 hx1 hc27 hc28))).2 k) ?_
        show own_E p e below _ T31 (mkF m 272 #[iv p1, iv p2, iv p3, rv aLENIENT, iv 0, iv x, iv x, iv 32, iv (own_foldL x)] [])
        refine own_st (fun t k => XS.iconst X31.here hx rfl (hb hby at_272) k) ?_
        show own_E p e below _ T31 (mkF m 273 #[iv p1, iv p2, iv p3, rv aLENIENT, iv 0, iv x, iv x, iv 32, iv (own_foldL x)] [.int 1])
        refine own_st (fun t k => XS.goto X31.here hx rfl (pc0 := 273) (pc' := 277) rfl (hb hby at_273) (by decide) (by decide) k) ?_
        show own_E p e below _ T31 (mkF m 277 #[iv p1, iv p2, iv p3, rv aLENIENT, iv 0, iv x, iv x, iv 32, iv (own_foldL x)] [.int 1])
        refine own_retS X31 hx Bd.notSynchronized Bd.returns rfl (by decide) (hb hby at_277) hnc hns ?_
        exact ⟨rfl, N31⟩
      · refine own_st (fun t k => XS.icmpNo X.here hx rfl (hb hby at_177) rfl (feq hc28).1 k) ?_
        show own_E p e below _ T (mkF m 180 #[iv p1, iv p2, iv p3, rv aLENIENT, iv 0, iv x, iv x, s7, .unset] [])
        refine own_st (fun t k => XS.iload X.here hx rfl (hb hby at_180) rfl k) ?_
        show own_E p e below _ T (mkF m 182 #[iv p1, iv p2, iv p3, rv aLENIENT, iv 0, iv x, iv x, s7, .unset] [.int x])
        refine own_st (fun t k => XS.sipush X.here hx rfl (hb hby at_182) k) ?_
        show own_E p e below _ T (mkF m 185 #[iv p1, iv p2, iv p3, rv aLENIENT, iv 0, iv x, iv x, s7, .unset] [.int 160, .int x])
        by_cases hc32 : x = (160 : Int32)
        · refine own_st (fun t k => XS.icmpYes X.here hx rfl (pc0 := 185) (pc' := 204) rfl (hb hby at_185) rfl (teq hc32).1 (by decide) (by decide) k) ?_
          show own_E p e below _ T (mkF m 204 #[iv p1, iv p2, iv p3, rv aLENIENT, iv 0, iv x, iv x, s7, .unset] [])
          refine own_st (fun t k => XS.bipush X.here hx rfl (hb hby at_204) k) ?_
          show own_E p e below _ T (mkF m 206 #[iv p1, iv p2, iv p3, rv aLENIENT, iv 0, iv x, iv x, s7, .unset] [.int 32])
          have os33 : storeLocals #[.val (.int p1), .val (.int p2), .val (.int p3), .val (.ref aLENIENT), .val (.int (0 : Int32)), .val (.int x), .val (.int x), s7, .unset] 7 (.int (32 : Int32)) = some #[.val (.int p1), .val (.int p2), .val (.int p3), .val (.ref aLENIENT), .val (.int (0 : Int32)), .val (.int x), .val (.int x), .val (.int (32 : Int32)), .unset] := by rcases o7 with h | ⟨w, h, hw⟩ <;> subst h <;> first | rfl | (cases w <;> first | rfl | (simp [Value.category] at hw))
          refine own_st (fun t k => XS.istore X.here hx rfl (hb hby at_206) rfl (l' := #[.val (.int p1), .val (.int p2), .val (.int p3), .val (.ref aLENIENT), .val (.int (0 : Int32)), .val (.int x), .val (.int x), .val (.int (32 : Int32)), .unset]) os33 k) ?_
          show own_E p e below _ T (mkF m 208 #[iv p1, iv p2, iv p3, rv aLENIENT, iv 0, iv x, iv x, iv 32, .unset] [])
          refine own_st (fun t k => XS.goto X.here hx rfl (pc0 := 208) (pc' := 246) rfl (hb hby at_208) (by decide) (by decide) k) ?_
          show own_E p e below _ T (mkF m 246 #[iv p1, iv p2, iv p3, rv aLENIENT, iv 0, iv x, iv x, iv 32, .unset] [])
          refine own_st (fun t k => XS.aloadN X.here hx rfl (hb hby at_246) rfl rfl k) ?_
          show own_E p e below _ T (mkF m 247 #[iv p1, iv p2, iv p3, rv aLENIENT, iv 0, iv x, iv x, iv 32, .unset] [.ref aLENIENT])
          refine own_st (fun t k => XS.iload X.here hx rfl (hb hby at_247) rfl k) ?_
          show own_E p e below _ T (mkF m 249 #[iv p1, iv p2, iv p3, rv aLENIENT, iv 0, iv x, iv x, iv 32, .unset] [.int x, .ref aLENIENT])
          obtain ⟨cq34, kq34, q34a, q34b, q34c⟩ := isOf hZ eTl (E_LENIENT.keep K)
          obtain ⟨_, _, ⟨T34, L34, k34, n34⟩, -, X34, ⟨Lc34, hQ34, l34, y34, z34⟩, st34⟩ := X.virtualBack hx (y := own_y0) (z := own_y0) hown (mvT hZ (own_w hw 5 rfl)) (mvT hZ (own_w hw 6 rfl)) (notFace_of_selects (args := #[]) (mvT hZ (own_w hw 8 rfl))) (mvT hZ (own_w hw 8 rfl)) (mvT hZ (own_w hw 7 rfl)) (by decide) (backOf (W := 0) (own_fold_LENIENT l Z a0 hw [] aLENIENT aSTRICT x T.heap n0 (Nat.le_trans Z0 K.1) (own_StaK S_LENIENT K) (own_StaK S_STRICT K) (E_LENIENT.keep K) (E_STRICT.keep K) ne_LENIENT_STRICT) hZ (own_w hw 9 rfl) (own_w hw 1 rfl) (by decide) (by decide)) q34a q34c (g := (mkF m 249 #[iv p1, iv p2, iv p3, rv aLENIENT, iv 0, iv x, iv x, iv 32, .unset] [.int x, .ref aLENIENT])) rfl (by rw [hml]; rfl) (Steps.refl _) (argsL := [(.int x)]) (rest := []) (lenOf own_pd_0 rfl) rfl (by show 2 * 0 + _ ≤ _; exact Nat.le_of_eq rfl) (hb hby at_249) (fun _ _ => ⟨rfl, eTl, hnc, hns⟩)
          dsimp only [Pt.U, Pt.locs, Pt.cells, Pt.slots] at X34 l34 y34 z34 st34 hQ34
          subst l34 y34 z34
          obtain ⟨rfl, e34, rfl⟩ := hQ34
          have N34 := Fr.app N (Fr.nil n0)
          refine own_tr st34 ?_
          show own_E p e below _ T34 (mkF m 252 #[iv p1, iv p2, iv p3, rv aLENIENT, iv 0, iv x, iv x, iv 32, .unset] [.int (own_foldL x)])
          refine own_st (fun t k => XS.istore X34.here hx rfl (hb hby at_252) rfl (l' := #[iv p1, iv p2, iv p3, rv aLENIENT, iv 0, iv x, iv x, iv 32, iv (own_foldL x)]) rfl k) ?_
          show own_E p e below _ T34 (mkF m 254 #[iv p1, iv p2, iv p3, rv aLENIENT, iv 0, iv x, iv x, iv 32, iv (own_foldL x)] [])
          refine own_st (fun t k => XS.iload X34.here hx rfl (hb hby at_254) rfl k) ?_
          show own_E p e below _ T34 (mkF m 256 #[iv p1, iv p2, iv p3, rv aLENIENT, iv 0, iv x, iv x, iv 32, iv (own_foldL x)] [.int (own_foldL x)])
          refine own_st (fun t k => XS.iload X34.here hx rfl (hb hby at_256) rfl k) ?_
          show own_E p e below _ T34 (mkF m 258 #[iv p1, iv p2, iv p3, rv aLENIENT, iv 0, iv x, iv x, iv 32, iv (own_foldL x)] [.int 32, .int (own_foldL x)])
          refine own_st (fun t k => XS.icmpNo X34.here hx rfl (hb hby at_258) rfl (teq (own_o3 x hx0 hx1 hc27 hc28 hc32)).2 k) ?_
          show own_E p e below _ T34 (mkF m 261 #[iv p1, iv p2, iv p3, rv aLENIENT, iv 0, iv x, iv x, iv 32, iv (own_foldL x)] [])
          refine own_st (fun t k => XS.aloadN X34.here hx rfl (hb hby at_261) rfl rfl k) ?_
          show own_E p e below _ T34 (mkF m 262 #[iv p1, iv p2, iv p3, rv aLENIENT, iv 0, iv x, iv x, iv 32, iv (own_foldL x)] [.ref aLENIENT])
          refine own_st (fun t k => XS.iload X34.here hx rfl (hb hby at_262) rfl k) ?_
          show own_E p e below _ T34 (mkF m 264 #[iv p1, iv p2, iv p3, rv aLENIENT, iv 0, iv x, iv x, iv 32, iv (own_foldL x)] [.int (own_foldL x), .ref aLENIENT])
          obtain ⟨cq35, kq35, q35a, q35b, q35c⟩ := isOf hZ e34 (E_LENIENT.keep K)
          obtain ⟨_, _, ⟨T35, L35, k35, n35⟩, -, X35, ⟨Lc35, hQ35, l35, y35, z35⟩, st35⟩ := X34.virtualBack hx (y := own_y0) (z := own_y0) hown (mvT hZ (own_w hw 5 rfl)) (mvT hZ (own_w hw 6 rfl)) (notFace_of_selects (args := #[]) (mvT hZ (own_w hw 8 rfl))) (mvT hZ (own_w hw 8 rfl)) (mvT hZ (own_w hw 7 rfl)) (by decide) (backOf (W := 0) (own_fold_LENIENT l Z a0 hw [] aLENIENT aSTRICT (own_foldL x) T.heap n0 (Nat.le_trans Z0 K.1) (own_StaK S_LENIENT K) (own_StaK S_STRICT K) (E_LENIENT.keep K) (E_STRICT.keep K) ne_LENIENT_STRICT) hZ (own_w hw 9 rfl) (own_w hw 1 rfl) (by decide) (by decide)) q35a q35c (g := (mkF m 264 #[iv p1, iv p2, iv p3, rv aLENIENT, iv 0, iv x, iv x, iv 32, iv (own_foldL x)] [.int (own_foldL x), .ref aLENIENT])) rfl (by rw [hml]; rfl) (Steps.refl _) (argsL := [(.int (own_foldL x))]) (rest := []) (lenOf own_pd_0 rfl) rfl (by show 2 * 0 + _ ≤ _; exact Nat.le_of_eq rfl) (hb hby at_264) (fun _ _ => ⟨rfl, e34, hnc, hns⟩)
          dsimp only [Pt.U, Pt.locs, Pt.cells, Pt.slots] at X35 l35 y35 z35 st35 hQ35
          subst l35 y35 z35
          obtain ⟨rfl, e35, rfl⟩ := hQ35
          have N35 := Fr.app N34 (Fr.nil n0)
          refine own_tr st35 ?_
          show own_E p e below _ T35 (mkF m 267 #[iv p1, iv p2, iv p3, rv aLENIENT, iv 0, iv x, iv x, iv 32, iv (own_foldL x)] [.int (own_foldL (own_foldL x))])
          refine own_st (fun t k => XS.iload X35.here hx rfl (hb hby at_267) rfl k) ?_
          show own_E p e below _ T35 (mkF m 269 #[iv p1, iv p2, iv p3, rv aLENIENT, iv 0, iv x, iv x, iv 32, iv (own_foldL x)] [.int (own_foldL x), .int (own_foldL (own_foldL x))])
          refine own_st (fun t k => XS.icmpNo X35.here hx rfl (hb hby at_269) rfl (teq (by rw [(own_o3 x hx0 hx1 hc27 hc28 hc32)]; exact (own_o4 x hx0 hx1 hc27 hc28 hc32))).2 k) ?_
          show own_E p e below _ T35 (mkF m 272 #[iv p1, iv p2, iv p3, rv aLENIENT, iv 0, iv x, iv x, iv 32, iv (own_foldL x)] [])
          refine own_st (fun t k => XS.iconst X35.here hx rfl (hb hby at_272) k) ?_
          show own_E p e below _ T35 (mkF m 273 #[iv p1, iv p2, iv p3, rv aLENIENT, iv 0, iv x, iv x, iv 32, iv (own_foldL x)] [.int 1])
          refine own_st (fun t k => XS.goto X35.here hx rfl (pc0 := 273) (pc' := 277) rfl (hb hby at_273) (by decide) (by decide) k) ?_
          show own_E p e below _ T35 (mkF m 277 #[iv p1, iv p2, iv p3, rv aLENIENT, iv 0, iv x, iv x, iv 32, iv (own_foldL x)] [.int 1])
          refine own_retS X35 hx Bd.notSynchronized Bd.returns rfl (by decide) (hb hby at_277) hnc hns ?_
          exact ⟨rfl, N35⟩
        · refine own_st (fun t k => XS.icmpNo X.here hx rfl (hb hby at_185) rfl (feq hc32).1 k) ?_
          show own_E p e below _ T (mkF m 188 #[iv p1, iv p2, iv p3, rv aLENIENT, iv 0, iv x, iv x, s7, .unset] [])
          refine own_st (fun t k => XS.iload X.here hx rfl (hb hby at_188) rfl k) ?_
          show own_E p e below _ T (mkF m 190 #[iv p1, iv p2, iv p3, rv aLENIENT, iv 0, iv x, iv x, s7, .unset] [.int x])
          refine own_st (fun t k => XS.sipush X.here hx rfl (hb hby at_190) k) ?_
          show own_E p e below _ T (mkF m 193 #[iv p1, iv p2, iv p3, rv aLENIENT, iv 0, iv x, iv x, s7, .unset] [.int 8199, .int x])
          by_cases hc36 : x = (8199 : Int32)
          · refine own_st (fun t k => XS.icmpYes X.here hx rfl (pc0 := 193) (pc' := 204) rfl (hb hby at_193) rfl (teq hc36).1 (by decide) (by decide) k) ?_
            show own_E p e below _ T (mkF m 204 #[iv p1, iv p2, iv p3, rv aLENIENT, iv 0, iv x, iv x, s7, .unset] [])
            refine own_st (fun t k => XS.bipush X.here hx rfl (hb hby at_204) k) ?_
            show own_E p e below _ T (mkF m 206 #[iv p1, iv p2, iv p3, rv aLENIENT, iv 0, iv x, iv x, s7, .unset] [.int 32])
            have os37 : storeLocals #[.val (.int p1), .val (.int p2), .val (.int p3), .val (.ref aLENIENT), .val (.int (0 : Int32)), .val (.int x), .val (.int x), s7, .unset] 7 (.int (32 : Int32)) = some #[.val (.int p1), .val (.int p2), .val (.int p3), .val (.ref aLENIENT), .val (.int (0 : Int32)), .val (.int x), .val (.int x), .val (.int (32 : Int32)), .unset] := by rcases o7 with h | ⟨w, h, hw⟩ <;> subst h <;> first | rfl | (cases w <;> first | rfl | (simp [Value.category] at hw))
            refine own_st (fun t k => XS.istore X.here hx rfl (hb hby at_206) rfl (l' := #[.val (.int p1), .val (.int p2), .val (.int p3), .val (.ref aLENIENT), .val (.int (0 : Int32)), .val (.int x), .val (.int x), .val (.int (32 : Int32)), .unset]) os37 k) ?_
            show own_E p e below _ T (mkF m 208 #[iv p1, iv p2, iv p3, rv aLENIENT, iv 0, iv x, iv x, iv 32, .unset] [])
            refine own_st (fun t k => XS.goto X.here hx rfl (pc0 := 208) (pc' := 246) rfl (hb hby at_208) (by decide) (by decide) k) ?_
            show own_E p e below _ T (mkF m 246 #[iv p1, iv p2, iv p3, rv aLENIENT, iv 0, iv x, iv x, iv 32, .unset] [])
            refine own_st (fun t k => XS.aloadN X.here hx rfl (hb hby at_246) rfl rfl k) ?_
            show own_E p e below _ T (mkF m 247 #[iv p1, iv p2, iv p3, rv aLENIENT, iv 0, iv x, iv x, iv 32, .unset] [.ref aLENIENT])
            refine own_st (fun t k => XS.iload X.here hx rfl (hb hby at_247) rfl k) ?_
            show own_E p e below _ T (mkF m 249 #[iv p1, iv p2, iv p3, rv aLENIENT, iv 0, iv x, iv x, iv 32, .unset] [.int x, .ref aLENIENT])
            obtain ⟨cq38, kq38, q38a, q38b, q38c⟩ := isOf hZ eTl (E_LENIENT.keep K)
            obtain ⟨_, _, ⟨T38, L38, k38, n38⟩, -, X38, ⟨Lc38, hQ38, l38, y38, z38⟩, st38⟩ := X.virtualBack hx (y := own_y0) (z := own_y0) hown (mvT hZ (own_w hw 5 rfl)) (mvT hZ (own_w hw 6 rfl)) (notFace_of_selects (args := #[]) (mvT hZ (own_w hw 8 rfl))) (mvT hZ (own_w hw 8 rfl)) (mvT hZ (own_w hw 7 rfl)) (by decide) (backOf (W := 0) (own_fold_LENIENT l Z a0 hw [] aLENIENT aSTRICT x T.heap n0 (Nat.le_trans Z0 K.1) (own_StaK S_LENIENT K) (own_StaK S_STRICT K) (E_LENIENT.keep K) (E_STRICT.keep K) ne_LENIENT_STRICT) hZ (own_w hw 9 rfl) (own_w hw 1 rfl) (by decide) (by decide)) q38a q38c (g := (mkF m 249 #[iv p1, iv p2, iv p3, rv aLENIENT, iv 0, iv x, iv x, iv 32, .unset] [.int x, .ref aLENIENT])) rfl (by rw [hml]; rfl) (Steps.refl _) (argsL := [(.int x)]) (rest := []) (lenOf own_pd_0 rfl) rfl (by show 2 * 0 + _ ≤ _; exact Nat.le_of_eq rfl) (hb hby at_249) (fun _ _ => ⟨rfl, eTl, hnc, hns⟩)
            dsimp only [Pt.U, Pt.locs, Pt.cells, Pt.slots] at X38 l38 y38 z38 st38 hQ38
            subst l38 y38 z38
            obtain ⟨rfl, e38, rfl⟩ := hQ38
            have N38 := Fr.app N (Fr.nil n0)
            refine own_tr st38 ?_
            show own_E p e below _ T38 (mkF m 252 #[iv p1, iv p2, iv p3, rv aLENIENT, iv 0, iv x, iv x, iv 32, .unset] [.int (own_foldL x)])
            refine own_st (fun t k => XS.istore X38.here hx rfl (hb hby at_252) rfl (l' := #[iv p1, iv p2, iv p3, rv aLENIENT, iv 0, iv x, iv x, iv 32, iv (own_foldL x)]) rfl k) ?_
            show own_E p e below _ T38 (mkF m 254 #[iv p1, iv p2, iv p3, rv aLENIENT, iv 0, iv x, iv x, iv 32, iv (own_foldL x)] [])
            refine own_st (fun t k => XS.iload X38.here hx rfl (hb hby at_254) rfl k) ?_
            show own_E p e below _ T38 (mkF m 256 #[iv p1, iv p2, iv p3, rv aLENIENT, iv 0, iv x, iv x, iv 32, iv (own_foldL x)] [.int (own_foldL x)])
            refine own_st (fun t k => XS.iload X38.here hx rfl (hb hby at_256) rfl k) ?_
            show own_E p e below _ T38 (mkF m 258 #[iv p1, iv p2, iv p3, rv aLENIENT, iv 0, iv x, iv x, iv 32, iv (own_foldL x)] [.int 32, .int (own_foldL x)])
            refine own_st (fun t k => XS.icmpNo X38.here hx rfl (hb hby at_258) rfl (teq (own_o5 x hx0 hx1 hc27 hc28 hc32 hc36)).2 k) ?_
            show own_E p e below _ T38 (mkF m 261 #[iv p1, iv p2, iv p3, rv aLENIENT, iv 0, iv x, iv x, iv 32, iv (own_foldL x)] [])
            refine own_st (fun t k => XS.aloadN X38.here hx rfl (hb hby at_261) rfl rfl k) ?_
            show own_E p e below _ T38 (mkF m 262 #[iv p1, iv p2, iv p3, rv aLENIENT, iv 0, iv x, iv x, iv 32, iv (own_foldL x)] [.ref aLENIENT])
            refine own_st (fun t k => XS.iload X38.here hx rfl (hb hby at_262) rfl k) ?_
            show own_E p e below _ T38 (mkF m 264 #[iv p1, iv p2, iv p3, rv aLENIENT, iv 0, iv x, iv x, iv 32, iv (own_foldL x)] [.int (own_foldL x), .ref aLENIENT])
            obtain ⟨cq39, kq39, q39a, q39b, q39c⟩ := isOf hZ e38 (E_LENIENT.keep K)
            obtain ⟨_, _, ⟨T39, L39, k39, n39⟩, -, X39, ⟨Lc39, hQ39, l39, y39, z39⟩, st39⟩ := X38.virtualBack hx (y := own_y0) (z := own_y0) hown (mvT hZ (own_w hw 5 rfl)) (mvT hZ (own_w hw 6 rfl)) (notFace_of_selects (args := #[]) (mvT hZ (own_w hw 8 rfl))) (mvT hZ (own_w hw 8 rfl)) (mvT hZ (own_w hw 7 rfl)) (by decide) (backOf (W := 0) (own_fold_LENIENT l Z a0 hw [] aLENIENT aSTRICT (own_foldL x) T.heap n0 (Nat.le_trans Z0 K.1) (own_StaK S_LENIENT K) (own_StaK S_STRICT K) (E_LENIENT.keep K) (E_STRICT.keep K) ne_LENIENT_STRICT) hZ (own_w hw 9 rfl) (own_w hw 1 rfl) (by decide) (by decide)) q39a q39c (g := (mkF m 264 #[iv p1, iv p2, iv p3, rv aLENIENT, iv 0, iv x, iv x, iv 32, iv (own_foldL x)] [.int (own_foldL x), .ref aLENIENT])) rfl (by rw [hml]; rfl) (Steps.refl _) (argsL := [(.int (own_foldL x))]) (rest := []) (lenOf own_pd_0 rfl) rfl (by show 2 * 0 + _ ≤ _; exact Nat.le_of_eq rfl) (hb hby at_264) (fun _ _ => ⟨rfl, e38, hnc, hns⟩)
            dsimp only [Pt.U, Pt.locs, Pt.cells, Pt.slots] at X39 l39 y39 z39 st39 hQ39
            subst l39 y39 z39
            obtain ⟨rfl, e39, rfl⟩ := hQ39
            have N39 := Fr.app N38 (Fr.nil n0)
            refine own_tr st39 ?_
            show own_E p e below _ T39 (mkF m 267 #[iv p1, iv p2, iv p3, rv aLENIENT, iv 0, iv x, iv x, iv 32, iv (own_foldL x)] [.int (own_foldL (own_foldL x))])
            refine own_st (fun t k => XS.iload X39.here hx rfl (hb hby at_267) rfl k) ?_
            show own_E p e below _ T39 (mkF m 269 #[iv p1, iv p2, iv p3, rv aLENIENT, iv 0, iv x, iv x, iv 32, iv (own_foldL x)] [.int (own_foldL x), .int (own_foldL (own_foldL x))])
            refine own_st (fun t k => XS.icmpNo X39.here hx rfl (hb hby at_269) rfl (teq (by rw [(own_o5 x hx0 hx1 hc27 hc28 hc32 hc36)]; exact (own_o6 x hx0 hx1 hc27 hc28 hc32 hc36))).2 k) ?_
            show own_E p e below _ T39 (mkF m 272 #[iv p1, iv p2, iv p3, rv aLENIENT, iv 0, iv x, iv x, iv 32, iv (own_foldL x)] [])
            refine own_st (fun t k => XS.iconst X39.here hx rfl (hb hby at_272) k) ?_
            show own_E p e below _ T39 (mkF m 273 #[iv p1, iv p2, iv p3, rv aLENIENT, iv 0, iv x, iv x, iv 32, iv (own_foldL x)] [.int 1])
            refine own_st (fun t k => XS.goto X39.here hx rfl (pc0 := 273) (pc' := 277) rfl (hb hby at_273) (by decide) (by decide) k) ?_
            show own_E p e below _ T39 (mkF m 277 #[iv p1, iv p2, iv p3, rv aLENIENT, iv 0, iv x, iv x, iv 32, iv (own_foldL x)] [.int 1])
            refine own_retS X39 hx Bd.notSynchronized Bd.returns rfl (by decide) (hb hby at_277) hnc hns ?_
            exact ⟨rfl, N39⟩
          · refine own_st (fun t k => XS.icmpNo X.here hx rfl (hb hby at_193) rfl (feq hc36).1 k) ?_
            show own_E p e below _ T (mkF m 196 #[iv p1, iv p2, iv p3, rv aLENIENT, iv 0, iv x, iv x, s7, .unset] [])
            refine own_st (fun t k => XS.iload X.here hx rfl (hb hby at_196) rfl k) ?_
            show own_E p e below _ T (mkF m 198 #[iv p1, iv p2, iv p3, rv aLENIENT, iv 0, iv x, iv x, s7, .unset] [.int x])
            refine own_st (fun t k => XS.sipush X.here hx rfl (hb hby at_198) k) ?_
            show own_E p e below _ T (mkF m 201 #[iv p1, iv p2, iv p3, rv aLENIENT, iv 0, iv x, iv x, s7, .unset] [.int 8239, .int x])
            by_cases hc40 : x = (8239 : Int32)
            · refine own_st (fun t k => XS.icmpNo X.here hx rfl (hb hby at_201) rfl (teq hc40).2 k) ?_
              show own_E p e below _ T (mkF m 204 #[iv p1, iv p2, iv p3, rv aLENIENT, iv 0, iv x, iv x, s7, .unset] [])
              refine own_st (fun t k => XS.bipush X.here hx rfl (hb hby at_204) k) ?_
              show own_E p e below _ T (mkF m 206 #[iv p1, iv p2, iv p3, rv aLENIENT, iv 0, iv x, iv x, s7, .unset] [.int 32])
              have os41 : storeLocals #[.val (.int p1), .val (.int p2), .val (.int p3), .val (.ref aLENIENT), .val (.int (0 : Int32)), .val (.int x), .val (.int x), s7, .unset] 7 (.int (32 : Int32)) = some #[.val (.int p1), .val (.int p2), .val (.int p3), .val (.ref aLENIENT), .val (.int (0 : Int32)), .val (.int x), .val (.int x), .val (.int (32 : Int32)), .unset] := by rcases o7 with h | ⟨w, h, hw⟩ <;> subst h <;> first | rfl | (cases w <;> first | rfl | (simp [Value.category] at hw))
              refine own_st (fun t k => XS.istore X.here hx rfl (hb hby at_206) rfl (l' := #[.val (.int p1), .val (.int p2), .val (.int p3), .val (.ref aLENIENT), .val (.int (0 : Int32)), .val (.int x), .val (.int x), .val (.int (32 : Int32)), .unset]) os41 k) ?_
              show own_E p e below _ T (mkF m 208 #[iv p1, iv p2, iv p3, rv aLENIENT, iv 0, iv x, iv x, iv 32, .unset] [])
              refine own_st (fun t k => XS.goto X.here hx rfl (pc0 := 208) (pc' := 246) rfl (hb hby at_208) (by decide) (by decide) k) ?_
              show own_E p e below _ T (mkF m 246 #[iv p1, iv p2, iv p3, rv aLENIENT, iv 0, iv x, iv x, iv 32, .unset] [])
              refine own_st (fun t k => XS.aloadN X.here hx rfl (hb hby at_246) rfl rfl k) ?_
              show own_E p e below _ T (mkF m 247 #[iv p1, iv p2, iv p3, rv aLENIENT, iv 0, iv x, iv x, iv 32, .unset] [.ref aLENIENT])
              refine own_st (fun t k => XS.iload X.here hx rfl (hb hby at_247) rfl k) ?_
              show own_E p e below _ T (mkF m 249 #[iv p1, iv p2, iv p3, rv aLENIENT, iv 0, iv x, iv x, iv 32, .unset] [.int x, .ref aLENIENT])
              obtain ⟨cq42, kq42, q42a, q42b, q42c⟩ := isOf hZ eTl (E_LENIENT.keep K)
              obtain ⟨_, _, ⟨T42, L42, k42, n42⟩, -, X42, ⟨Lc42, hQ42, l42, y42, z42⟩, st42⟩ := X.virtualBack hx (y := own_y0) (z := own_y0) hown (mvT hZ (own_w hw 5 rfl)) (mvT hZ (own_w hw 6 rfl)) (notFace_of_selects (args := #[]) (mvT hZ (own_w hw 8 rfl))) (mvT hZ (own_w hw 8 rfl)) (mvT hZ (own_w hw 7 rfl)) (by decide) (backOf (W := 0) (own_fold_LENIENT l Z a0 hw [] aLENIENT aSTRICT x T.heap n0 (Nat.le_trans Z0 K.1) (own_StaK S_LENIENT K) (own_StaK S_STRICT K) (E_LENIENT.keep K) (E_STRICT.keep K) ne_LENIENT_STRICT) hZ (own_w hw 9 rfl) (own_w hw 1 rfl) (by decide) (by decide)) q42a q42c (g := (mkF m 249 #[iv p1, iv p2, iv p3, rv aLENIENT, iv 0, iv x, iv x, iv 32, .unset] [.int x, .ref aLENIENT])) rfl (by rw [hml]; rfl) (Steps.refl _) (argsL := [(.int x)]) (rest := []) (lenOf own_pd_0 rfl) rfl (by show 2 * 0 + _ ≤ _; exact Nat.le_of_eq rfl) (hb hby at_249) (fun _ _ => ⟨rfl, eTl, hnc, hns⟩)
              dsimp only [Pt.U, Pt.locs, Pt.cells, Pt.slots] at X42 l42 y42 z42 st42 hQ42
              subst l42 y42 z42
              obtain ⟨rfl, e42, rfl⟩ := hQ42
              have N42 := Fr.app N (Fr.nil n0)
              refine own_tr st42 ?_
              show own_E p e below _ T42 (mkF m 252 #[iv p1, iv p2, iv p3, rv aLENIENT, iv 0, iv x, iv x, iv 32, .unset] [.int (own_foldL x)])
              refine own_st (fun t k => XS.istore X42.here hx rfl (hb hby at_252) rfl (l' := #[iv p1, iv p2, iv p3, rv aLENIENT, iv 0, iv x, iv x, iv 32, iv (own_foldL x)]) rfl k) ?_
              show own_E p e below _ T42 (mkF m 254 #[iv p1, iv p2, iv p3, rv aLENIENT, iv 0, iv x, iv x, iv 32, iv (own_foldL x)] [])
              refine own_st (fun t k => XS.iload X42.here hx rfl (hb hby at_254) rfl k) ?_
              show own_E p e below _ T42 (mkF m 256 #[iv p1, iv p2, iv p3, rv aLENIENT, iv 0, iv x, iv x, iv 32, iv (own_foldL x)] [.int (own_foldL x)])
              refine own_st (fun t k => XS.iload X42.here hx rfl (hb hby at_256) rfl k) ?_
              show own_E p e below _ T42 (mkF m 258 #[iv p1, iv p2, iv p3, rv aLENIENT, iv 0, iv x, iv x, iv 32, iv (own_foldL x)] [.int 32, .int (own_foldL x)])
              refine own_st (fun t k => XS.icmpNo X42.here hx rfl (hb hby at_258) rfl (teq (own_o7 x hx0 hx1 hc27 hc28 hc32 hc36 hc40)).2 k) ?_
              show own_E p e below _ T42 (mkF m 261 #[iv p1, iv p2, iv p3, rv aLENIENT, iv 0, iv x, iv x, iv 32, iv (own_foldL x)] [])
              refine own_st (fun t k => XS.aloadN X42.here hx rfl (hb hby at_261) rfl rfl k) ?_
              show own_E p e below _ T42 (mkF m 262 #[iv p1, iv p2, iv p3, rv aLENIENT, iv 0, iv x, iv x, iv 32, iv (own_foldL x)] [.ref aLENIENT])
              refine own_st (fun t k => XS.iload X42.here hx rfl (hb hby at_262) rfl k) ?_
              show own_E p e below _ T42 (mkF m 264 #[iv p1, iv p2, iv p3, rv aLENIENT, iv 0, iv x, iv x, iv 32, iv (own_foldL x)] [.int (own_foldL x), .ref aLENIENT])
              obtain ⟨cq43, kq43, q43a, q43b, q43c⟩ := isOf hZ e42 (E_LENIENT.keep K)
              obtain ⟨_, _, ⟨T43, L43, k43, n43⟩, -, X43, ⟨Lc43, hQ43, l43, y43, z43⟩, st43⟩ := X42.virtualBack hx (y := own_y0) (z := own_y0) hown (mvT hZ (own_w hw 5 rfl)) (mvT hZ (own_w hw 6 rfl)) (notFace_of_selects (args := #[]) (mvT hZ (own_w hw 8 rfl))) (mvT hZ (own_w hw 8 rfl)) (mvT hZ (own_w hw 7 rfl)) (by decide) (backOf (W := 0) (own_fold_LENIENT l Z a0 hw [] aLENIENT aSTRICT (own_foldL x) T.heap n0 (Nat.le_trans Z0 K.1) (own_StaK S_LENIENT K) (own_StaK S_STRICT K) (E_LENIENT.keep K) (E_STRICT.keep K) ne_LENIENT_STRICT) hZ (own_w hw 9 rfl) (own_w hw 1 rfl) (by decide) (by decide)) q43a q43c (g := (mkF m 264 #[iv p1, iv p2, iv p3, rv aLENIENT, iv 0, iv x, iv x, iv 32, iv (own_foldL x)] [.int (own_foldL x), .ref aLENIENT])) rfl (by rw [hml]; rfl) (Steps.refl _) (argsL := [(.int (own_foldL x))]) (rest := []) (lenOf own_pd_0 rfl) rfl (by show 2 * 0 + _ ≤ _; exact Nat.le_of_eq rfl) (hb hby at_264) (fun _ _ => ⟨rfl, e42, hnc, hns⟩)
              dsimp only [Pt.U, Pt.locs, Pt.cells, Pt.slots] at X43 l43 y43 z43 st43 hQ43
              subst l43 y43 z43
              obtain ⟨rfl, e43, rfl⟩ := hQ43
              have N43 := Fr.app N42 (Fr.nil n0)
              refine own_tr st43 ?_
              show own_E p e below _ T43 (mkF m 267 #[iv p1, iv p2, iv p3, rv aLENIENT, iv 0, iv x, iv x, iv 32, iv (own_foldL x)] [.int (own_foldL (own_foldL x))])
              refine own_st (fun t k => XS.iload X43.here hx rfl (hb hby at_267) rfl k) ?_
              show own_E p e below _ T43 (mkF m 269 #[iv p1, iv p2, iv p3, rv aLENIENT, iv 0, iv x, iv x, iv 32, iv (own_foldL x)] [.int (own_foldL x), .int (own_foldL (own_foldL x))])
              refine own_st (fun t k => XS.icmpNo X43.here hx rfl (hb hby at_269) rfl (teq (by rw [(own_o7 x hx0 hx1 hc27 hc28 hc32 hc36 hc40)]; exact (own_o8 x hx0 hx1 hc27 hc28 hc32 hc36 hc40))).2 k) ?_
              show own_E p e below _ T43 (mkF m 272 #[iv p1, iv p2, iv p3, rv aLENIENT, iv 0, iv x, iv x, iv 32, iv (own_foldL x)] [])
              refine own_st (fun t k => XS.iconst X43.here hx rfl (hb hby at_272) k) ?_
              show own_E p e below _ T43 (mkF m 273 #[iv p1, iv p2, iv p3, rv aLENIENT, iv 0, iv x, iv x, iv 32, iv (own_foldL x)] [.int 1])
              refine own_st (fun t k => XS.goto X43.here hx rfl (pc0 := 273) (pc' := 277) rfl (hb hby at_273) (by decide) (by decide) k) ?_
              show own_E p e below _ T43 (mkF m 277 #[iv p1, iv p2, iv p3, rv aLENIENT, iv 0, iv x, iv x, iv 32, iv (own_foldL x)] [.int 1])
              refine own_retS X43 hx Bd.notSynchronized Bd.returns rfl (by decide) (hb hby at_277) hnc hns ?_
              exact ⟨rfl, N43⟩
            · refine own_st (fun t k => XS.icmpYes X.here hx rfl (pc0 := 201) (pc' := 211) rfl (hb hby at_201) rfl (feq hc40).2 (by decide) (by decide) k) ?_
              show own_E p e below _ T (mkF m 211 #[iv p1, iv p2, iv p3, rv aLENIENT, iv 0, iv x, iv x, s7, .unset] [])
              refine own_st (fun t k => XS.iload X.here hx rfl (hb hby at_211) rfl k) ?_
              show own_E p e below _ T (mkF m 213 #[iv p1, iv p2, iv p3, rv aLENIENT, iv 0, iv x, iv x, s7, .unset] [.int x])
              refine own_st (fun t k => XS.sipush X.here hx rfl (hb hby at_213) k) ?_
              show own_E p e below _ T (mkF m 216 #[iv p1, iv p2, iv p3, rv aLENIENT, iv 0, iv x, iv x, s7, .unset] [.int 8208, .int x])
              by_cases hc44 : x < (8208 : Int32)
              · refine own_st (fun t k => XS.icmpYes X.here hx rfl (pc0 := 216) (pc' := 227) rfl (hb hby at_216) rfl (tlt hc44).1 (by decide) (by decide) k) ?_
                show own_E p e below _ T (mkF m 227 #[iv p1, iv p2, iv p3, rv aLENIENT, iv 0, iv x, iv x, s7, .unset] [])
                refine own_st (fun t k => XS.iload X.here hx rfl (hb hby at_227) rfl k) ?_
                show own_E p e below _ T (mkF m 229 #[iv p1, iv p2, iv p3, rv aLENIENT, iv 0, iv x, iv x, s7, .unset] [.int x])
                refine own_st (fun t k => XS.sipush X.here hx rfl (hb hby at_229) k) ?_
                show own_E p e below _ T (mkF m 232 #[iv p1, iv p2, iv p3, rv aLENIENT, iv 0, iv x, iv x, s7, .unset] [.int 8722, .int x])
                by_cases hc45 : x = (8722 : Int32)
                · exfalso
                  have f46 := rng32 x
                  have f47 : (0 : Int32).toInt = 0 := rfl
                  have f48 : (65536 : Int32).toInt = 65536 := rfl
                  have f49 : (65281 : Int32).toInt = 65281 := rfl
                  have f50 : (12288 : Int32).toInt = 12288 := rfl
                  have f51 : (160 : Int32).toInt = 160 := rfl
                  have f52 : (8199 : Int32).toInt = 8199 := rfl
                  have f53 : (8239 : Int32).toInt = 8239 := rfl
                  have f54 : (8208 : Int32).toInt = 8208 := rfl
                  have f55 : (8722 : Int32).toInt = 8722 := rfl
                  have g56 := hx0
                  rw [Int32.lt_iff_toInt_lt] at g56
                  have g57 := hx1
                  rw [Int32.lt_iff_toInt_lt] at g57
                  have g58 := hc27
                  rw [Int32.lt_iff_toInt_lt] at g58
                  have g59 := hc28
                  rw [← Int32.toInt_inj] at g59
                  have g60 := hc32
                  rw [← Int32.toInt_inj] at g60
                  have g61 := hc36
                  rw [← Int32.toInt_inj] at g61
                  have g62 := hc40
                  rw [← Int32.toInt_inj] at g62
                  have g63 := hc44
                  rw [Int32.lt_iff_toInt_lt] at g63
                  have g64 := hc45
                  rw [← Int32.toInt_inj] at g64
                  omega
                · refine own_st (fun t k => XS.icmpYes X.here hx rfl (pc0 := 232) (pc' := 242) rfl (hb hby at_232) rfl (feq hc45).2 (by decide) (by decide) k) ?_
                  show own_E p e below _ T (mkF m 242 #[iv p1, iv p2, iv p3, rv aLENIENT, iv 0, iv x, iv x, s7, .unset] [])
                  refine own_st (fun t k => XS.iload X.here hx rfl (hb hby at_242) rfl k) ?_
                  show own_E p e below _ T (mkF m 244 #[iv p1, iv p2, iv p3, rv aLENIENT, iv 0, iv x, iv x, s7, .unset] [.int x])
                  have os65 : storeLocals #[.val (.int p1), .val (.int p2), .val (.int p3), .val (.ref aLENIENT), .val (.int (0 : Int32)), .val (.int x), .val (.int x), s7, .unset] 7 (.int x) = some #[.val (.int p1), .val (.int p2), .val (.int p3), .val (.ref aLENIENT), .val (.int (0 : Int32)), .val (.int x), .val (.int x), .val (.int x), .unset] := by rcases o7 with h | ⟨w, h, hw⟩ <;> subst h <;> first | rfl | (cases w <;> first | rfl | (simp [Value.category] at hw))
                  refine own_st (fun t k => XS.istore X.here hx rfl (hb hby at_244) rfl (l' := #[.val (.int p1), .val (.int p2), .val (.int p3), .val (.ref aLENIENT), .val (.int (0 : Int32)), .val (.int x), .val (.int x), .val (.int x), .unset]) os65 k) ?_
                  show own_E p e below _ T (mkF m 246 #[iv p1, iv p2, iv p3, rv aLENIENT, iv 0, iv x, iv x, iv x, .unset] [])
                  refine own_st (fun t k => XS.aloadN X.here hx rfl (hb hby at_246) rfl rfl k) ?_
                  show own_E p e below _ T (mkF m 247 #[iv p1, iv p2, iv p3, rv aLENIENT, iv 0, iv x, iv x, iv x, .unset] [.ref aLENIENT])
                  refine own_st (fun t k => XS.iload X.here hx rfl (hb hby at_247) rfl k) ?_
                  show own_E p e below _ T (mkF m 249 #[iv p1, iv p2, iv p3, rv aLENIENT, iv 0, iv x, iv x, iv x, .unset] [.int x, .ref aLENIENT])
                  obtain ⟨cq66, kq66, q66a, q66b, q66c⟩ := isOf hZ eTl (E_LENIENT.keep K)
                  obtain ⟨_, _, ⟨T66, L66, k66, n66⟩, -, X66, ⟨Lc66, hQ66, l66, y66, z66⟩, st66⟩ := X.virtualBack hx (y := own_y0) (z := own_y0) hown (mvT hZ (own_w hw 5 rfl)) (mvT hZ (own_w hw 6 rfl)) (notFace_of_selects (args := #[]) (mvT hZ (own_w hw 8 rfl))) (mvT hZ (own_w hw 8 rfl)) (mvT hZ (own_w hw 7 rfl)) (by decide) (backOf (W := 0) (own_fold_LENIENT l Z a0 hw [] aLENIENT aSTRICT x T.heap n0 (Nat.le_trans Z0 K.1) (own_StaK S_LENIENT K) (own_StaK S_STRICT K) (E_LENIENT.keep K) (E_STRICT.keep K) ne_LENIENT_STRICT) hZ (own_w hw 9 rfl) (own_w hw 1 rfl) (by decide) (by decide)) q66a q66c (g := (mkF m 249 #[iv p1, iv p2, iv p3, rv aLENIENT, iv 0, iv x, iv x, iv x, .unset] [.int x, .ref aLENIENT])) rfl (by rw [hml]; rfl) (Steps.refl _) (argsL := [(.int x)]) (rest := []) (lenOf own_pd_0 rfl) rfl (by show 2 * 0 + _ ≤ _; exact Nat.le_of_eq rfl) (hb hby at_249) (fun _ _ => ⟨rfl, eTl, hnc, hns⟩)
                  dsimp only [Pt.U, Pt.locs, Pt.cells, Pt.slots] at X66 l66 y66 z66 st66 hQ66
                  subst l66 y66 z66
                  obtain ⟨rfl, e66, rfl⟩ := hQ66
                  have N66 := Fr.app N (Fr.nil n0)
                  refine own_tr st66 ?_
                  show own_E p e below _ T66 (mkF m 252 #[iv p1, iv p2, iv p3, rv aLENIENT, iv 0, iv x, iv x, iv x, .unset] [.int (own_foldL x)])
                  refine own_st (fun t k => XS.istore X66.here hx rfl (hb hby at_252) rfl (l' := #[iv p1, iv p2, iv p3, rv aLENIENT, iv 0, iv x, iv x, iv x, iv (own_foldL x)]) rfl k) ?_
                  show own_E p e below _ T66 (mkF m 254 #[iv p1, iv p2, iv p3, rv aLENIENT, iv 0, iv x, iv x, iv x, iv (own_foldL x)] [])
                  refine own_st (fun t k => XS.iload X66.here hx rfl (hb hby at_254) rfl k) ?_
                  show own_E p e below _ T66 (mkF m 256 #[iv p1, iv p2, iv p3, rv aLENIENT, iv 0, iv x, iv x, iv x, iv (own_foldL x)] [.int (own_foldL x)])
                  refine own_st (fun t k => XS.iload X66.here hx rfl (hb hby at_256) rfl k) ?_
                  show own_E p e below _ T66 (mkF m 258 #[iv p1, iv p2, iv p3, rv aLENIENT, iv 0, iv x, iv x, iv x, iv (own_foldL x)] [.int x, .int (own_foldL x)])
                  refine own_st (fun t k => XS.icmpNo X66.here hx rfl (hb hby at_258) rfl (teq (own_o9 x hx0 hx1 hc27 hc28 hc32 hc36 hc40 hc44 hc45)).2 k) ?_
                  show own_E p e below _ T66 (mkF m 261 #[iv p1, iv p2, iv p3, rv aLENIENT, iv 0, iv x, iv x, iv x, iv (own_foldL x)] [])
                  refine own_st (fun t k => XS.aloadN X66.here hx rfl (hb hby at_261) rfl rfl k) ?_
                  show own_E p e below _ T66 (mkF m 262 #[iv p1, iv p2, iv p3, rv aLENIENT, iv 0, iv x, iv x, iv x, iv (own_foldL x)] [.ref aLENIENT])
                  refine own_st (fun t k => XS.iload X66.here hx rfl (hb hby at_262) rfl k) ?_
                  show own_E p e below _ T66 (mkF m 264 #[iv p1, iv p2, iv p3, rv aLENIENT, iv 0, iv x, iv x, iv x, iv (own_foldL x)] [.int (own_foldL x), .ref aLENIENT])
                  obtain ⟨cq67, kq67, q67a, q67b, q67c⟩ := isOf hZ e66 (E_LENIENT.keep K)
                  obtain ⟨_, _, ⟨T67, L67, k67, n67⟩, -, X67, ⟨Lc67, hQ67, l67, y67, z67⟩, st67⟩ := X66.virtualBack hx (y := own_y0) (z := own_y0) hown (mvT hZ (own_w hw 5 rfl)) (mvT hZ (own_w hw 6 rfl)) (notFace_of_selects (args := #[]) (mvT hZ (own_w hw 8 rfl))) (mvT hZ (own_w hw 8 rfl)) (mvT hZ (own_w hw 7 rfl)) (by decide) (backOf (W := 0) (own_fold_LENIENT l Z a0 hw [] aLENIENT aSTRICT (own_foldL x) T.heap n0 (Nat.le_trans Z0 K.1) (own_StaK S_LENIENT K) (own_StaK S_STRICT K) (E_LENIENT.keep K) (E_STRICT.keep K) ne_LENIENT_STRICT) hZ (own_w hw 9 rfl) (own_w hw 1 rfl) (by decide) (by decide)) q67a q67c (g := (mkF m 264 #[iv p1, iv p2, iv p3, rv aLENIENT, iv 0, iv x, iv x, iv x, iv (own_foldL x)] [.int (own_foldL x), .ref aLENIENT])) rfl (by rw [hml]; rfl) (Steps.refl _) (argsL := [(.int (own_foldL x))]) (rest := []) (lenOf own_pd_0 rfl) rfl (by show 2 * 0 + _ ≤ _; exact Nat.le_of_eq rfl) (hb hby at_264) (fun _ _ => ⟨rfl, e66, hnc, hns⟩)
                  dsimp only [Pt.U, Pt.locs, Pt.cells, Pt.slots] at X67 l67 y67 z67 st67 hQ67
                  subst l67 y67 z67
                  obtain ⟨rfl, e67, rfl⟩ := hQ67
                  have N67 := Fr.app N66 (Fr.nil n0)
                  refine own_tr st67 ?_
                  show own_E p e below _ T67 (mkF m 267 #[iv p1, iv p2, iv p3, rv aLENIENT, iv 0, iv x, iv x, iv x, iv (own_foldL x)] [.int (own_foldL (own_foldL x))])
                  refine own_st (fun t k => XS.iload X67.here hx rfl (hb hby at_267) rfl k) ?_
                  show own_E p e below _ T67 (mkF m 269 #[iv p1, iv p2, iv p3, rv aLENIENT, iv 0, iv x, iv x, iv x, iv (own_foldL x)] [.int (own_foldL x), .int (own_foldL (own_foldL x))])
                  refine own_st (fun t k => XS.icmpNo X67.here hx rfl (hb hby at_269) rfl (teq (by rw [(own_o9 x hx0 hx1 hc27 hc28 hc32 hc36 hc40 hc44 hc45), (own_o9 x hx0 hx1 hc27 hc28 hc32 hc36 hc40 hc44 hc45)])).2 k) ?_
                  show own_E p e below _ T67 (mkF m 272 #[iv p1, iv p2, iv p3, rv aLENIENT, iv 0, iv x, iv x, iv x, iv (own_foldL x)] [])
                  refine own_st (fun t k => XS.iconst X67.here hx rfl (hb hby at_272) k) ?_
                  show own_E p e below _ T67 (mkF m 273 #[iv p1, iv p2, iv p3, rv aLENIENT, iv 0, iv x, iv x, iv x, iv (own_foldL x)] [.int 1])
                  refine own_st (fun t k => XS.goto X67.here hx rfl (pc0 := 273) (pc' := 277) rfl (hb hby at_273) (by decide) (by decide) k) ?_
                  show own_E p e below _ T67 (mkF m 277 #[iv p1, iv p2, iv p3, rv aLENIENT, iv 0, iv x, iv x, iv x, iv (own_foldL x)] [.int 1])
                  refine own_retS X67 hx Bd.notSynchronized Bd.returns rfl (by decide) (hb hby at_277) hnc hns ?_
                  exact ⟨rfl, N67⟩
              · refine own_st (fun t k => XS.icmpNo X.here hx rfl (hb hby at_216) rfl (flt hc44).1 k) ?_
                show own_E p e below _ T (mkF m 219 #[iv p1, iv p2, iv p3, rv aLENIENT, iv 0, iv x, iv x, s7, .unset] [])
                refine own_st (fun t k => XS.iload X.here hx rfl (hb hby at_219) rfl k) ?_
                show own_E p e below _ T (mkF m 221 #[iv p1, iv p2, iv p3, rv aLENIENT, iv 0, iv x, iv x, s7, .unset] [.int x])
                refine own_st (fun t k => XS.sipush X.here hx rfl (hb hby at_221) k) ?_
                show own_E p e below _ T (mkF m 224 #[iv p1, iv p2, iv p3, rv aLENIENT, iv 0, iv x, iv x, s7, .unset] [.int 8213, .int x])
                by_cases hc68 : (8213 : Int32) < x
                · refine own_st (fun t k => XS.icmpNo X.here hx rfl (hb hby at_224) rfl (tlt hc68).2.2.2 k) ?_
                  show own_E p e below _ T (mkF m 227 #[iv p1, iv p2, iv p3, rv aLENIENT, iv 0, iv x, iv x, s7, .unset] [])
                  refine own_st (fun t k => XS.iload X.here hx rfl (hb hby at_227) rfl k) ?_
                  show own_E p e below _ T (mkF m 229 #[iv p1, iv p2, iv p3, rv aLENIENT, iv 0, iv x, iv x, s7, .unset] [.int x])
                  refine own_st (fun t k => XS.sipush X.here hx rfl (hb hby at_229) k) ?_
                  show own_E p e below _ T (mkF m 232 #[iv p1, iv p2, iv p3, rv aLENIENT, iv 0, iv x, iv x, s7, .unset] [.int 8722, .int x])
                  by_cases hc69 : x = (8722 : Int32)
                  · refine own_st (fun t k => XS.icmpNo X.here hx rfl (hb hby at_232) rfl (teq hc69).2 k) ?_
                    show own_E p e below _ T (mkF m 235 #[iv p1, iv p2, iv p3, rv aLENIENT, iv 0, iv x, iv x, s7, .unset] [])
                    refine own_st (fun t k => XS.bipush X.here hx rfl (hb hby at_235) k) ?_
                    show own_E p e below _ T (mkF m 237 #[iv p1, iv p2, iv p3, rv aLENIENT, iv 0, iv x, iv x, s7, .unset] [.int 45])
                    have os70 : storeLocals #[.val (.int p1), .val (.int p2), .val (.int p3), .val (.ref aLENIENT), .val (.int (0 : Int32)), .val (.int x), .val (.int x), s7, .unset] 7 (.int (45 : Int32)) = some #[.val (.int p1), .val (.int p2), .val (.int p3), .val (.ref aLENIENT), .val (.int (0 : Int32)), .val (.int x), .val (.int x), .val (.int (45 : Int32)), .unset] := by rcases o7 with h | ⟨w, h, hw⟩ <;> subst h <;> first | rfl | (cases w <;> first | rfl | (simp [Value.category] at hw))
                    refine own_st (fun t k => XS.istore X.here hx rfl (hb hby at_237) rfl (l' := #[.val (.int p1), .val (.int p2), .val (.int p3), .val (.ref aLENIENT), .val (.int (0 : Int32)), .val (.int x), .val (.int x), .val (.int (45 : Int32)), .unset]) os70 k) ?_
                    show own_E p e below _ T (mkF m 239 #[iv p1, iv p2, iv p3, rv aLENIENT, iv 0, iv x, iv x, iv 45, .unset] [])
                    refine own_st (fun t k => XS.goto X.here hx rfl (pc0 := 239) (pc' := 246) rfl (hb hby at_239) (by decide) (by decide) k) ?_
                    show own_E p e below _ T (mkF m 246 #[iv p1, iv p2, iv p3, rv aLENIENT, iv 0, iv x, iv x, iv 45, .unset] [])
                    refine own_st (fun t k => XS.aloadN X.here hx rfl (hb hby at_246) rfl rfl k) ?_
                    show own_E p e below _ T (mkF m 247 #[iv p1, iv p2, iv p3, rv aLENIENT, iv 0, iv x, iv x, iv 45, .unset] [.ref aLENIENT])
                    refine own_st (fun t k => XS.iload X.here hx rfl (hb hby at_247) rfl k) ?_
                    show own_E p e below _ T (mkF m 249 #[iv p1, iv p2, iv p3, rv aLENIENT, iv 0, iv x, iv x, iv 45, .unset] [.int x, .ref aLENIENT])
                    obtain ⟨cq71, kq71, q71a, q71b, q71c⟩ := isOf hZ eTl (E_LENIENT.keep K)
                    obtain ⟨_, _, ⟨T71, L71, k71, n71⟩, -, X71, ⟨Lc71, hQ71, l71, y71, z71⟩, st71⟩ := X.virtualBack hx (y := own_y0) (z := own_y0) hown (mvT hZ (own_w hw 5 rfl)) (mvT hZ (own_w hw 6 rfl)) (notFace_of_selects (args := #[]) (mvT hZ (own_w hw 8 rfl))) (mvT hZ (own_w hw 8 rfl)) (mvT hZ (own_w hw 7 rfl)) (by decide) (backOf (W := 0) (own_fold_LENIENT l Z a0 hw [] aLENIENT aSTRICT x T.heap n0 (Nat.le_trans Z0 K.1) (own_StaK S_LENIENT K) (own_StaK S_STRICT K) (E_LENIENT.keep K) (E_STRICT.keep K) ne_LENIENT_STRICT) hZ (own_w hw 9 rfl) (own_w hw 1 rfl) (by decide) (by decide)) q71a q71c (g := (mkF m 249 #[iv p1, iv p2, iv p3, rv aLENIENT, iv 0, iv x, iv x, iv 45, .unset] [.int x, .ref aLENIENT])) rfl (by rw [hml]; rfl) (Steps.refl _) (argsL := [(.int x)]) (rest := []) (lenOf own_pd_0 rfl) rfl (by show 2 * 0 + _ ≤ _; exact Nat.le_of_eq rfl) (hb hby at_249) (fun _ _ => ⟨rfl, eTl, hnc, hns⟩)
                    dsimp only [Pt.U, Pt.locs, Pt.cells, Pt.slots] at X71 l71 y71 z71 st71 hQ71
                    subst l71 y71 z71
                    obtain ⟨rfl, e71, rfl⟩ := hQ71
                    have N71 := Fr.app N (Fr.nil n0)
                    refine own_tr st71 ?_
                    show own_E p e below _ T71 (mkF m 252 #[iv p1, iv p2, iv p3, rv aLENIENT, iv 0, iv x, iv x, iv 45, .unset] [.int (own_foldL x)])
                    refine own_st (fun t k => XS.istore X71.here hx rfl (hb hby at_252) rfl (l' := #[iv p1, iv p2, iv p3, rv aLENIENT, iv 0, iv x, iv x, iv 45, iv (own_foldL x)]) rfl k) ?_
                    show own_E p e below _ T71 (mkF m 254 #[iv p1, iv p2, iv p3, rv aLENIENT, iv 0, iv x, iv x, iv 45, iv (own_foldL x)] [])
                    refine own_st (fun t k => XS.iload X71.here hx rfl (hb hby at_254) rfl k) ?_
                    show own_E p e below _ T71 (mkF m 256 #[iv p1, iv p2, iv p3, rv aLENIENT, iv 0, iv x, iv x, iv 45, iv (own_foldL x)] [.int (own_foldL x)])
                    refine own_st (fun t k => XS.iload X71.here hx rfl (hb hby at_256) rfl k) ?_
                    show own_E p e below _ T71 (mkF m 258 #[iv p1, iv p2, iv p3, rv aLENIENT, iv 0, iv x, iv x, iv 45, iv (own_foldL x)] [.int 45, .int (own_foldL x)])
                    refine own_st (fun t k => XS.icmpNo X71.here hx rfl (hb hby at_258) rfl (teq (own_o10 x hx0 hx1 hc27 hc28 hc32 hc36 hc40 hc44 hc68 hc69)).2 k) ?_
                    show own_E p e below _ T71 (mkF m 261 #[iv p1, iv p2, iv p3, rv aLENIENT, iv 0, iv x, iv x, iv 45, iv (own_foldL x)] [])
                    refine own_st (fun t k => XS.aloadN X71.here hx rfl (hb hby at_261) rfl rfl k) ?_
                    show own_E p e below _ T71 (mkF m 262 #[iv p1, iv p2, iv p3, rv aLENIENT, iv 0, iv x, iv x, iv 45, iv (own_foldL x)] [.ref aLENIENT])
                    refine own_st (fun t k => XS.iload X71.here hx rfl (hb hby at_262) rfl k) ?_
                    show own_E p e below _ T71 (mkF m 264 #[iv p1, iv p2, iv p3, rv aLENIENT, iv 0, iv x, iv x, iv 45, iv (own_foldL x)] [.int (own_foldL x), .ref aLENIENT])
                    obtain ⟨cq72, kq72, q72a, q72b, q72c⟩ := isOf hZ e71 (E_LENIENT.keep K)
                    obtain ⟨_, _, ⟨T72, L72, k72, n72⟩, -, X72, ⟨Lc72, hQ72, l72, y72, z72⟩, st72⟩ := X71.virtualBack hx (y := own_y0) (z := own_y0) hown (mvT hZ (own_w hw 5 rfl)) (mvT hZ (own_w hw 6 rfl)) (notFace_of_selects (args := #[]) (mvT hZ (own_w hw 8 rfl))) (mvT hZ (own_w hw 8 rfl)) (mvT hZ (own_w hw 7 rfl)) (by decide) (backOf (W := 0) (own_fold_LENIENT l Z a0 hw [] aLENIENT aSTRICT (own_foldL x) T.heap n0 (Nat.le_trans Z0 K.1) (own_StaK S_LENIENT K) (own_StaK S_STRICT K) (E_LENIENT.keep K) (E_STRICT.keep K) ne_LENIENT_STRICT) hZ (own_w hw 9 rfl) (own_w hw 1 rfl) (by decide) (by decide)) q72a q72c (g := (mkF m 264 #[iv p1, iv p2, iv p3, rv aLENIENT, iv 0, iv x, iv x, iv 45, iv (own_foldL x)] [.int (own_foldL x), .ref aLENIENT])) rfl (by rw [hml]; rfl) (Steps.refl _) (argsL := [(.int (own_foldL x))]) (rest := []) (lenOf own_pd_0 rfl) rfl (by show 2 * 0 + _ ≤ _; exact Nat.le_of_eq rfl) (hb hby at_264) (fun _ _ => ⟨rfl, e71, hnc, hns⟩)
                    dsimp only [Pt.U, Pt.locs, Pt.cells, Pt.slots] at X72 l72 y72 z72 st72 hQ72
                    subst l72 y72 z72
                    obtain ⟨rfl, e72, rfl⟩ := hQ72
                    have N72 := Fr.app N71 (Fr.nil n0)
                    refine own_tr st72 ?_
                    show own_E p e below _ T72 (mkF m 267 #[iv p1, iv p2, iv p3, rv aLENIENT, iv 0, iv x, iv x, iv 45, iv (own_foldL x)] [.int (own_foldL (own_foldL x))])
                    refine own_st (fun t k => XS.iload X72.here hx rfl (hb hby at_267) rfl k) ?_
                    show own_E p e below _ T72 (mkF m 269 #[iv p1, iv p2, iv p3, rv aLENIENT, iv 0, iv x, iv x, iv 45, iv (own_foldL x)] [.int (own_foldL x), .int (own_foldL (own_foldL x))])
                    refine own_st (fun t k => XS.icmpNo X72.here hx rfl (hb hby at_269) rfl (teq (by rw [(own_o10 x hx0 hx1 hc27 hc28 hc32 hc36 hc40 hc44 hc68 hc69)]; exact (own_o11 x hx0 hx1 hc27 hc28 hc32 hc36 hc40 hc44 hc68 hc69))).2 k) ?_
                    show own_E p e below _ T72 (mkF m 272 #[iv p1, iv p2, iv p3, rv aLENIENT, iv 0, iv x, iv x, iv 45, iv (own_foldL x)] [])
                    refine own_st (fun t k => XS.iconst X72.here hx rfl (hb hby at_272) k) ?_
                    show own_E p e below _ T72 (mkF m 273 #[iv p1, iv p2, iv p3, rv aLENIENT, iv 0, iv x, iv x, iv 45, iv (own_foldL x)] [.int 1])
                    refine own_st (fun t k => XS.goto X72.here hx rfl (pc0 := 273) (pc' := 277) rfl (hb hby at_273) (by decide) (by decide) k) ?_
                    show own_E p e below _ T72 (mkF m 277 #[iv p1, iv p2, iv p3, rv aLENIENT, iv 0, iv x, iv x, iv 45, iv (own_foldL x)] [.int 1])
                    refine own_retS X72 hx Bd.notSynchronized Bd.returns rfl (by decide) (hb hby at_277) hnc hns ?_
                    exact ⟨rfl, N72⟩
                  · refine own_st (fun t k => XS.icmpYes X.here hx rfl (pc0 := 232) (pc' := 242) rfl (hb hby at_232) rfl (feq hc69).2 (by decide) (by decide) k) ?_
                    show own_E p e below _ T (mkF m 242 #[iv p1, iv p2, iv p3, rv aLENIENT, iv 0, iv x, iv x, s7, .unset] [])
                    refine own_st (fun t k => XS.iload X.here hx rfl (hb hby at_242) rfl k) ?_
                    show own_E p e below _ T (mkF m 244 #[iv p1, iv p2, iv p3, rv aLENIENT, iv 0, iv x, iv x, s7, .unset] [.int x])
                    have os73 : storeLocals #[.val (.int p1), .val (.int p2), .val (.int p3), .val (.ref aLENIENT), .val (.int (0 : Int32)), .val (.int x), .val (.int x), s7, .unset] 7 (.int x) = some #[.val (.int p1), .val (.int p2), .val (.int p3), .val (.ref aLENIENT), .val (.int (0 : Int32)), .val (.int x), .val (.int x), .val (.int x), .unset] := by rcases o7 with h | ⟨w, h, hw⟩ <;> subst h <;> first | rfl | (cases w <;> first | rfl | (simp [Value.category] at hw))
                    refine own_st (fun t k => XS.istore X.here hx rfl (hb hby at_244) rfl (l' := #[.val (.int p1), .val (.int p2), .val (.int p3), .val (.ref aLENIENT), .val (.int (0 : Int32)), .val (.int x), .val (.int x), .val (.int x), .unset]) os73 k) ?_
                    show own_E p e below _ T (mkF m 246 #[iv p1, iv p2, iv p3, rv aLENIENT, iv 0, iv x, iv x, iv x, .unset] [])
                    refine own_st (fun t k => XS.aloadN X.here hx rfl (hb hby at_246) rfl rfl k) ?_
                    show own_E p e below _ T (mkF m 247 #[iv p1, iv p2, iv p3, rv aLENIENT, iv 0, iv x, iv x, iv x, .unset] [.ref aLENIENT])
                    refine own_st (fun t k => XS.iload X.here hx rfl (hb hby at_247) rfl k) ?_
                    show own_E p e below _ T (mkF m 249 #[iv p1, iv p2, iv p3, rv aLENIENT, iv 0, iv x, iv x, iv x, .unset] [.int x, .ref aLENIENT])
                    obtain ⟨cq74, kq74, q74a, q74b, q74c⟩ := isOf hZ eTl (E_LENIENT.keep K)
                    obtain ⟨_, _, ⟨T74, L74, k74, n74⟩, -, X74, ⟨Lc74, hQ74, l74, y74, z74⟩, st74⟩ := X.virtualBack hx (y := own_y0) (z := own_y0) hown (mvT hZ (own_w hw 5 rfl)) (mvT hZ (own_w hw 6 rfl)) (notFace_of_selects (args := #[]) (mvT hZ (own_w hw 8 rfl))) (mvT hZ (own_w hw 8 rfl)) (mvT hZ (own_w hw 7 rfl)) (by decide) (backOf (W := 0) (own_fold_LENIENT l Z a0 hw [] aLENIENT aSTRICT x T.heap n0 (Nat.le_trans Z0 K.1) (own_StaK S_LENIENT K) (own_StaK S_STRICT K) (E_LENIENT.keep K) (E_STRICT.keep K) ne_LENIENT_STRICT) hZ (own_w hw 9 rfl) (own_w hw 1 rfl) (by decide) (by decide)) q74a q74c (g := (mkF m 249 #[iv p1, iv p2, iv p3, rv aLENIENT, iv 0, iv x, iv x, iv x, .unset] [.int x, .ref aLENIENT])) rfl (by rw [hml]; rfl) (Steps.refl _) (argsL := [(.int x)]) (rest := []) (lenOf own_pd_0 rfl) rfl (by show 2 * 0 + _ ≤ _; exact Nat.le_of_eq rfl) (hb hby at_249) (fun _ _ => ⟨rfl, eTl, hnc, hns⟩)
                    dsimp only [Pt.U, Pt.locs, Pt.cells, Pt.slots] at X74 l74 y74 z74 st74 hQ74
                    subst l74 y74 z74
                    obtain ⟨rfl, e74, rfl⟩ := hQ74
                    have N74 := Fr.app N (Fr.nil n0)
                    refine own_tr st74 ?_
                    show own_E p e below _ T74 (mkF m 252 #[iv p1, iv p2, iv p3, rv aLENIENT, iv 0, iv x, iv x, iv x, .unset] [.int (own_foldL x)])
                    refine own_st (fun t k => XS.istore X74.here hx rfl (hb hby at_252) rfl (l' := #[iv p1, iv p2, iv p3, rv aLENIENT, iv 0, iv x, iv x, iv x, iv (own_foldL x)]) rfl k) ?_
                    show own_E p e below _ T74 (mkF m 254 #[iv p1, iv p2, iv p3, rv aLENIENT, iv 0, iv x, iv x, iv x, iv (own_foldL x)] [])
                    refine own_st (fun t k => XS.iload X74.here hx rfl (hb hby at_254) rfl k) ?_
                    show own_E p e below _ T74 (mkF m 256 #[iv p1, iv p2, iv p3, rv aLENIENT, iv 0, iv x, iv x, iv x, iv (own_foldL x)] [.int (own_foldL x)])
                    refine own_st (fun t k => XS.iload X74.here hx rfl (hb hby at_256) rfl k) ?_
                    show own_E p e below _ T74 (mkF m 258 #[iv p1, iv p2, iv p3, rv aLENIENT, iv 0, iv x, iv x, iv x, iv (own_foldL x)] [.int x, .int (own_foldL x)])
                    refine own_st (fun t k => XS.icmpNo X74.here hx rfl (hb hby at_258) rfl (teq (own_o12 x hx0 hx1 hc27 hc28 hc32 hc36 hc40 hc44 hc68 hc69)).2 k) ?_
                    show own_E p e below _ T74 (mkF m 261 #[iv p1, iv p2, iv p3, rv aLENIENT, iv 0, iv x, iv x, iv x, iv (own_foldL x)] [])
                    refine own_st (fun t k => XS.aloadN X74.here hx rfl (hb hby at_261) rfl rfl k) ?_
                    show own_E p e below _ T74 (mkF m 262 #[iv p1, iv p2, iv p3, rv aLENIENT, iv 0, iv x, iv x, iv x, iv (own_foldL x)] [.ref aLENIENT])
                    refine own_st (fun t k => XS.iload X74.here hx rfl (hb hby at_262) rfl k) ?_
                    show own_E p e below _ T74 (mkF m 264 #[iv p1, iv p2, iv p3, rv aLENIENT, iv 0, iv x, iv x, iv x, iv (own_foldL x)] [.int (own_foldL x), .ref aLENIENT])
                    obtain ⟨cq75, kq75, q75a, q75b, q75c⟩ := isOf hZ e74 (E_LENIENT.keep K)
                    obtain ⟨_, _, ⟨T75, L75, k75, n75⟩, -, X75, ⟨Lc75, hQ75, l75, y75, z75⟩, st75⟩ := X74.virtualBack hx (y := own_y0) (z := own_y0) hown (mvT hZ (own_w hw 5 rfl)) (mvT hZ (own_w hw 6 rfl)) (notFace_of_selects (args := #[]) (mvT hZ (own_w hw 8 rfl))) (mvT hZ (own_w hw 8 rfl)) (mvT hZ (own_w hw 7 rfl)) (by decide) (backOf (W := 0) (own_fold_LENIENT l Z a0 hw [] aLENIENT aSTRICT (own_foldL x) T.heap n0 (Nat.le_trans Z0 K.1) (own_StaK S_LENIENT K) (own_StaK S_STRICT K) (E_LENIENT.keep K) (E_STRICT.keep K) ne_LENIENT_STRICT) hZ (own_w hw 9 rfl) (own_w hw 1 rfl) (by decide) (by decide)) q75a q75c (g := (mkF m 264 #[iv p1, iv p2, iv p3, rv aLENIENT, iv 0, iv x, iv x, iv x, iv (own_foldL x)] [.int (own_foldL x), .ref aLENIENT])) rfl (by rw [hml]; rfl) (Steps.refl _) (argsL := [(.int (own_foldL x))]) (rest := []) (lenOf own_pd_0 rfl) rfl (by show 2 * 0 + _ ≤ _; exact Nat.le_of_eq rfl) (hb hby at_264) (fun _ _ => ⟨rfl, e74, hnc, hns⟩)
                    dsimp only [Pt.U, Pt.locs, Pt.cells, Pt.slots] at X75 l75 y75 z75 st75 hQ75
                    subst l75 y75 z75
                    obtain ⟨rfl, e75, rfl⟩ := hQ75
                    have N75 := Fr.app N74 (Fr.nil n0)
                    refine own_tr st75 ?_
                    show own_E p e below _ T75 (mkF m 267 #[iv p1, iv p2, iv p3, rv aLENIENT, iv 0, iv x, iv x, iv x, iv (own_foldL x)] [.int (own_foldL (own_foldL x))])
                    refine own_st (fun t k => XS.iload X75.here hx rfl (hb hby at_267) rfl k) ?_
                    show own_E p e below _ T75 (mkF m 269 #[iv p1, iv p2, iv p3, rv aLENIENT, iv 0, iv x, iv x, iv x, iv (own_foldL x)] [.int (own_foldL x), .int (own_foldL (own_foldL x))])
                    refine own_st (fun t k => XS.icmpNo X75.here hx rfl (hb hby at_269) rfl (teq (by rw [(own_o12 x hx0 hx1 hc27 hc28 hc32 hc36 hc40 hc44 hc68 hc69), (own_o12 x hx0 hx1 hc27 hc28 hc32 hc36 hc40 hc44 hc68 hc69)])).2 k) ?_
                    show own_E p e below _ T75 (mkF m 272 #[iv p1, iv p2, iv p3, rv aLENIENT, iv 0, iv x, iv x, iv x, iv (own_foldL x)] [])
                    refine own_st (fun t k => XS.iconst X75.here hx rfl (hb hby at_272) k) ?_
                    show own_E p e below _ T75 (mkF m 273 #[iv p1, iv p2, iv p3, rv aLENIENT, iv 0, iv x, iv x, iv x, iv (own_foldL x)] [.int 1])
                    refine own_st (fun t k => XS.goto X75.here hx rfl (pc0 := 273) (pc' := 277) rfl (hb hby at_273) (by decide) (by decide) k) ?_
                    show own_E p e below _ T75 (mkF m 277 #[iv p1, iv p2, iv p3, rv aLENIENT, iv 0, iv x, iv x, iv x, iv (own_foldL x)] [.int 1])
                    refine own_retS X75 hx Bd.notSynchronized Bd.returns rfl (by decide) (hb hby at_277) hnc hns ?_
                    exact ⟨rfl, N75⟩
                · refine own_st (fun t k => XS.icmpYes X.here hx rfl (pc0 := 224) (pc' := 235) rfl (hb hby at_224) rfl (flt hc68).2.2.2 (by decide) (by decide) k) ?_
                  show own_E p e below _ T (mkF m 235 #[iv p1, iv p2, iv p3, rv aLENIENT, iv 0, iv x, iv x, s7, .unset] [])
                  refine own_st (fun t k => XS.bipush X.here hx rfl (hb hby at_235) k) ?_
                  show own_E p e below _ T (mkF m 237 #[iv p1, iv p2, iv p3, rv aLENIENT, iv 0, iv x, iv x, s7, .unset] [.int 45])
                  have os76 : storeLocals #[.val (.int p1), .val (.int p2), .val (.int p3), .val (.ref aLENIENT), .val (.int (0 : Int32)), .val (.int x), .val (.int x), s7, .unset] 7 (.int (45 : Int32)) = some #[.val (.int p1), .val (.int p2), .val (.int p3), .val (.ref aLENIENT), .val (.int (0 : Int32)), .val (.int x), .val (.int x), .val (.int (45 : Int32)), .unset] := by rcases o7 with h | ⟨w, h, hw⟩ <;> subst h <;> first | rfl | (cases w <;> first | rfl | (simp [Value.category] at hw))
                  refine own_st (fun t k => XS.istore X.here hx rfl (hb hby at_237) rfl (l' := #[.val (.int p1), .val (.int p2), .val (.int p3), .val (.ref aLENIENT), .val (.int (0 : Int32)), .val (.int x), .val (.int x), .val (.int (45 : Int32)), .unset]) os76 k) ?_
                  show own_E p e below _ T (mkF m 239 #[iv p1, iv p2, iv p3, rv aLENIENT, iv 0, iv x, iv x, iv 45, .unset] [])
                  refine own_st (fun t k => XS.goto X.here hx rfl (pc0 := 239) (pc' := 246) rfl (hb hby at_239) (by decide) (by decide) k) ?_
                  show own_E p e below _ T (mkF m 246 #[iv p1, iv p2, iv p3, rv aLENIENT, iv 0, iv x, iv x, iv 45, .unset] [])
                  refine own_st (fun t k => XS.aloadN X.here hx rfl (hb hby at_246) rfl rfl k) ?_
                  show own_E p e below _ T (mkF m 247 #[iv p1, iv p2, iv p3, rv aLENIENT, iv 0, iv x, iv x, iv 45, .unset] [.ref aLENIENT])
                  refine own_st (fun t k => XS.iload X.here hx rfl (hb hby at_247) rfl k) ?_
                  show own_E p e below _ T (mkF m 249 #[iv p1, iv p2, iv p3, rv aLENIENT, iv 0, iv x, iv x, iv 45, .unset] [.int x, .ref aLENIENT])
                  obtain ⟨cq77, kq77, q77a, q77b, q77c⟩ := isOf hZ eTl (E_LENIENT.keep K)
                  obtain ⟨_, _, ⟨T77, L77, k77, n77⟩, -, X77, ⟨Lc77, hQ77, l77, y77, z77⟩, st77⟩ := X.virtualBack hx (y := own_y0) (z := own_y0) hown (mvT hZ (own_w hw 5 rfl)) (mvT hZ (own_w hw 6 rfl)) (notFace_of_selects (args := #[]) (mvT hZ (own_w hw 8 rfl))) (mvT hZ (own_w hw 8 rfl)) (mvT hZ (own_w hw 7 rfl)) (by decide) (backOf (W := 0) (own_fold_LENIENT l Z a0 hw [] aLENIENT aSTRICT x T.heap n0 (Nat.le_trans Z0 K.1) (own_StaK S_LENIENT K) (own_StaK S_STRICT K) (E_LENIENT.keep K) (E_STRICT.keep K) ne_LENIENT_STRICT) hZ (own_w hw 9 rfl) (own_w hw 1 rfl) (by decide) (by decide)) q77a q77c (g := (mkF m 249 #[iv p1, iv p2, iv p3, rv aLENIENT, iv 0, iv x, iv x, iv 45, .unset] [.int x, .ref aLENIENT])) rfl (by rw [hml]; rfl) (Steps.refl _) (argsL := [(.int x)]) (rest := []) (lenOf own_pd_0 rfl) rfl (by show 2 * 0 + _ ≤ _; exact Nat.le_of_eq rfl) (hb hby at_249) (fun _ _ => ⟨rfl, eTl, hnc, hns⟩)
                  dsimp only [Pt.U, Pt.locs, Pt.cells, Pt.slots] at X77 l77 y77 z77 st77 hQ77
                  subst l77 y77 z77
                  obtain ⟨rfl, e77, rfl⟩ := hQ77
                  have N77 := Fr.app N (Fr.nil n0)
                  refine own_tr st77 ?_
                  show own_E p e below _ T77 (mkF m 252 #[iv p1, iv p2, iv p3, rv aLENIENT, iv 0, iv x, iv x, iv 45, .unset] [.int (own_foldL x)])
                  refine own_st (fun t k => XS.istore X77.here hx rfl (hb hby at_252) rfl (l' := #[iv p1, iv p2, iv p3, rv aLENIENT, iv 0, iv x, iv x, iv 45, iv (own_foldL x)]) rfl k) ?_
                  show own_E p e below _ T77 (mkF m 254 #[iv p1, iv p2, iv p3, rv aLENIENT, iv 0, iv x, iv x, iv 45, iv (own_foldL x)] [])
                  refine own_st (fun t k => XS.iload X77.here hx rfl (hb hby at_254) rfl k) ?_
                  show own_E p e below _ T77 (mkF m 256 #[iv p1, iv p2, iv p3, rv aLENIENT, iv 0, iv x, iv x, iv 45, iv (own_foldL x)] [.int (own_foldL x)])
                  refine own_st (fun t k => XS.iload X77.here hx rfl (hb hby at_256) rfl k) ?_
                  show own_E p e below _ T77 (mkF m 258 #[iv p1, iv p2, iv p3, rv aLENIENT, iv 0, iv x, iv x, iv 45, iv (own_foldL x)] [.int 45, .int (own_foldL x)])
                  refine own_st (fun t k => XS.icmpNo X77.here hx rfl (hb hby at_258) rfl (teq (own_o13 x hx0 hx1 hc27 hc28 hc32 hc36 hc40 hc44 hc68)).2 k) ?_
                  show own_E p e below _ T77 (mkF m 261 #[iv p1, iv p2, iv p3, rv aLENIENT, iv 0, iv x, iv x, iv 45, iv (own_foldL x)] [])
                  refine own_st (fun t k => XS.aloadN X77.here hx rfl (hb hby at_261) rfl rfl k) ?_
                  show own_E p e below _ T77 (mkF m 262 #[iv p1, iv p2, iv p3, rv aLENIENT, iv 0, iv x, iv x, iv 45, iv (own_foldL x)] [.ref aLENIENT])
                  refine own_st (fun t k => XS.iload X77.here hx rfl (hb hby at_262) rfl k) ?_
                  show own_E p e below _ T77 (mkF m 264 #[iv p1, iv p2, iv p3, rv aLENIENT, iv 0, iv x, iv x, iv 45, iv (own_foldL x)] [.int (own_foldL x), .ref aLENIENT])
                  obtain ⟨cq78, kq78, q78a, q78b, q78c⟩ := isOf hZ e77 (E_LENIENT.keep K)
                  obtain ⟨_, _, ⟨T78, L78, k78, n78⟩, -, X78, ⟨Lc78, hQ78, l78, y78, z78⟩, st78⟩ := X77.virtualBack hx (y := own_y0) (z := own_y0) hown (mvT hZ (own_w hw 5 rfl)) (mvT hZ (own_w hw 6 rfl)) (notFace_of_selects (args := #[]) (mvT hZ (own_w hw 8 rfl))) (mvT hZ (own_w hw 8 rfl)) (mvT hZ (own_w hw 7 rfl)) (by decide) (backOf (W := 0) (own_fold_LENIENT l Z a0 hw [] aLENIENT aSTRICT (own_foldL x) T.heap n0 (Nat.le_trans Z0 K.1) (own_StaK S_LENIENT K) (own_StaK S_STRICT K) (E_LENIENT.keep K) (E_STRICT.keep K) ne_LENIENT_STRICT) hZ (own_w hw 9 rfl) (own_w hw 1 rfl) (by decide) (by decide)) q78a q78c (g := (mkF m 264 #[iv p1, iv p2, iv p3, rv aLENIENT, iv 0, iv x, iv x, iv 45, iv (own_foldL x)] [.int (own_foldL x), .ref aLENIENT])) rfl (by rw [hml]; rfl) (Steps.refl _) (argsL := [(.int (own_foldL x))]) (rest := []) (lenOf own_pd_0 rfl) rfl (by show 2 * 0 + _ ≤ _; exact Nat.le_of_eq rfl) (hb hby at_264) (fun _ _ => ⟨rfl, e77, hnc, hns⟩)
                  dsimp only [Pt.U, Pt.locs, Pt.cells, Pt.slots] at X78 l78 y78 z78 st78 hQ78
                  subst l78 y78 z78
                  obtain ⟨rfl, e78, rfl⟩ := hQ78
                  have N78 := Fr.app N77 (Fr.nil n0)
                  refine own_tr st78 ?_
                  show own_E p e below _ T78 (mkF m 267 #[iv p1, iv p2, iv p3, rv aLENIENT, iv 0, iv x, iv x, iv 45, iv (own_foldL x)] [.int (own_foldL (own_foldL x))])
                  refine own_st (fun t k => XS.iload X78.here hx rfl (hb hby at_267) rfl k) ?_
                  show own_E p e below _ T78 (mkF m 269 #[iv p1, iv p2, iv p3, rv aLENIENT, iv 0, iv x, iv x, iv 45, iv (own_foldL x)] [.int (own_foldL x), .int (own_foldL (own_foldL x))])
                  refine own_st (fun t k => XS.icmpNo X78.here hx rfl (hb hby at_269) rfl (teq (by rw [(own_o13 x hx0 hx1 hc27 hc28 hc32 hc36 hc40 hc44 hc68)]; exact (own_o14 x hx0 hx1 hc27 hc28 hc32 hc36 hc40 hc44 hc68))).2 k) ?_
                  show own_E p e below _ T78 (mkF m 272 #[iv p1, iv p2, iv p3, rv aLENIENT, iv 0, iv x, iv x, iv 45, iv (own_foldL x)] [])
                  refine own_st (fun t k => XS.iconst X78.here hx rfl (hb hby at_272) k) ?_
                  show own_E p e below _ T78 (mkF m 273 #[iv p1, iv p2, iv p3, rv aLENIENT, iv 0, iv x, iv x, iv 45, iv (own_foldL x)] [.int 1])
                  refine own_st (fun t k => XS.goto X78.here hx rfl (pc0 := 273) (pc' := 277) rfl (hb hby at_273) (by decide) (by decide) k) ?_
                  show own_E p e below _ T78 (mkF m 277 #[iv p1, iv p2, iv p3, rv aLENIENT, iv 0, iv x, iv x, iv 45, iv (own_foldL x)] [.int 1])
                  refine own_retS X78 hx Bd.notSynchronized Bd.returns rfl (by decide) (hb hby at_277) hnc hns ?_
                  exact ⟨rfl, N78⟩
    · refine own_st (fun t k => XS.icmpNo X.here hx rfl (hb hby at_152) rfl (flt hc27).1 k) ?_
      show own_E p e below _ T (mkF m 155 #[iv p1, iv p2, iv p3, rv aLENIENT, iv 0, iv x, iv x, s7, .unset] [])
      refine own_st (fun t k => XS.iload X.here hx rfl (hb hby at_155) rfl k) ?_
      show own_E p e below _ T (mkF m 157 #[iv p1, iv p2, iv p3, rv aLENIENT, iv 0, iv x, iv x, s7, .unset] [.int x])
      refine own_st (X.ldcInt hx hown (mvT hZ (own_w hw 14 rfl)) (g := (mkF m 157 #[iv p1, iv p2, iv p3, rv aLENIENT, iv 0, iv x, iv x, s7, .unset] [.int x])) rfl (hb hby at_157)) ?_
      show own_E p e below _ T (mkF m 159 #[iv p1, iv p2, iv p3, rv aLENIENT, iv 0, iv x, iv x, s7, .unset] [.int 65374, .int x])
      by_cases hc79 : (65374 : Int32) < x
      · refine own_st (fun t k => XS.icmpYes X.here hx rfl (pc0 := 159) (pc' := 172) rfl (hb hby at_159) rfl (tlt hc79).2.2.1 (by decide) (by decide) k) ?_
        show own_E p e below _ T (mkF m 172 #[iv p1, iv p2, iv p3, rv aLENIENT, iv 0, iv x, iv x, s7, .unset] [])
        refine own_st (fun t k => XS.iload X.here hx rfl (hb hby at_172) rfl k) ?_
        show own_E p e below _ T (mkF m 174 #[iv p1, iv p2, iv p3, rv aLENIENT, iv 0, iv x, iv x, s7, .unset] [.int x])
        refine own_st (fun t k => XS.sipush X.here hx rfl (hb hby at_174) k) ?_
        show own_E p e below _ T (mkF m 177 #[iv p1, iv p2, iv p3, rv aLENIENT, iv 0, iv x, iv x, s7, .unset] [.int 12288, .int x])
        by_cases hc80 : x = (12288 : Int32)
        · exfalso
          have f81 := rng32 x
          have f82 : (0 : Int32).toInt = 0 := rfl
          have f83 : (65536 : Int32).toInt = 65536 := rfl
          have f84 : (65281 : Int32).toInt = 65281 := rfl
          have f85 : (65374 : Int32).toInt = 65374 := rfl
          have f86 : (12288 : Int32).toInt = 12288 := rfl
          have g87 := hx0
          rw [Int32.lt_iff_toInt_lt] at g87
          have g88 := hx1
          rw [Int32.lt_iff_toInt_lt] at g88
          have g89 := hc27
          rw [Int32.lt_iff_toInt_lt] at g89
          have g90 := hc79
          rw [Int32.lt_iff_toInt_lt] at g90
          have g91 := hc80
          rw [← Int32.toInt_inj] at g91
          omega
        · refine own_st (fun t k => XS.icmpNo X.here hx rfl (hb hby at_177) rfl (feq hc80).1 k) ?_
          show own_E p e below _ T (mkF m 180 #[iv p1, iv p2, iv p3, rv aLENIENT, iv 0, iv x, iv x, s7, .unset] [])
          refine own_st (fun t k => XS.iload X.here hx rfl (hb hby at_180) rfl k) ?_
          show own_E p e below _ T (mkF m 182 #[iv p1, iv p2, iv p3, rv aLENIENT, iv 0, iv x, iv x, s7, .unset] [.int x])
          refine own_st (fun t k => XS.sipush X.here hx rfl (hb hby at_182) k) ?_
          show own_E p e below _ T (mkF m 185 #[iv p1, iv p2, iv p3, rv aLENIENT, iv 0, iv x, iv x, s7, .unset] [.int 160, .int x])
          by_cases hc92 : x = (160 : Int32)
          · exfalso
            have f93 := rng32 x
            have f94 : (0 : Int32).toInt = 0 := rfl
            have f95 : (65536 : Int32).toInt = 65536 := rfl
            have f96 : (65281 : Int32).toInt = 65281 := rfl
            have f97 : (65374 : Int32).toInt = 65374 := rfl
            have f98 : (12288 : Int32).toInt = 12288 := rfl
            have f99 : (160 : Int32).toInt = 160 := rfl
            have g100 := hx0
            rw [Int32.lt_iff_toInt_lt] at g100
            have g101 := hx1
            rw [Int32.lt_iff_toInt_lt] at g101
            have g102 := hc27
            rw [Int32.lt_iff_toInt_lt] at g102
            have g103 := hc79
            rw [Int32.lt_iff_toInt_lt] at g103
            have g104 := hc80
            rw [← Int32.toInt_inj] at g104
            have g105 := hc92
            rw [← Int32.toInt_inj] at g105
            omega
          · refine own_st (fun t k => XS.icmpNo X.here hx rfl (hb hby at_185) rfl (feq hc92).1 k) ?_
            show own_E p e below _ T (mkF m 188 #[iv p1, iv p2, iv p3, rv aLENIENT, iv 0, iv x, iv x, s7, .unset] [])
            refine own_st (fun t k => XS.iload X.here hx rfl (hb hby at_188) rfl k) ?_
            show own_E p e below _ T (mkF m 190 #[iv p1, iv p2, iv p3, rv aLENIENT, iv 0, iv x, iv x, s7, .unset] [.int x])
            refine own_st (fun t k => XS.sipush X.here hx rfl (hb hby at_190) k) ?_
            show own_E p e below _ T (mkF m 193 #[iv p1, iv p2, iv p3, rv aLENIENT, iv 0, iv x, iv x, s7, .unset] [.int 8199, .int x])
            by_cases hc106 : x = (8199 : Int32)
            · exfalso
              have f107 := rng32 x
              have f108 : (0 : Int32).toInt = 0 := rfl
              have f109 : (65536 : Int32).toInt = 65536 := rfl
              have f110 : (65281 : Int32).toInt = 65281 := rfl
              have f111 : (65374 : Int32).toInt = 65374 := rfl
              have f112 : (12288 : Int32).toInt = 12288 := rfl
              have f113 : (160 : Int32).toInt = 160 := rfl
              have f114 : (8199 : Int32).toInt = 8199 := rfl
              have g115 := hx0
              rw [Int32.lt_iff_toInt_lt] at g115
              have g116 := hx1
              rw [Int32.lt_iff_toInt_lt] at g116
              have g117 := hc27
              rw [Int32.lt_iff_toInt_lt] at g117
              have g118 := hc79
              rw [Int32.lt_iff_toInt_lt] at g118
              have g119 := hc80
              rw [← Int32.toInt_inj] at g119
              have g120 := hc92
              rw [← Int32.toInt_inj] at g120
              have g121 := hc106
              rw [← Int32.toInt_inj] at g121
              omega
            · refine own_st (fun t k => XS.icmpNo X.here hx rfl (hb hby at_193) rfl (feq hc106).1 k) ?_
              show own_E p e below _ T (mkF m 196 #[iv p1, iv p2, iv p3, rv aLENIENT, iv 0, iv x, iv x, s7, .unset] [])
              refine own_st (fun t k => XS.iload X.here hx rfl (hb hby at_196) rfl k) ?_
              show own_E p e below _ T (mkF m 198 #[iv p1, iv p2, iv p3, rv aLENIENT, iv 0, iv x, iv x, s7, .unset] [.int x])
              refine own_st (fun t k => XS.sipush X.here hx rfl (hb hby at_198) k) ?_
              show own_E p e below _ T (mkF m 201 #[iv p1, iv p2, iv p3, rv aLENIENT, iv 0, iv x, iv x, s7, .unset] [.int 8239, .int x])
              by_cases hc122 : x = (8239 : Int32)
              · exfalso
                have f123 := rng32 x
                have f124 : (0 : Int32).toInt = 0 := rfl
                have f125 : (65536 : Int32).toInt = 65536 := rfl
                have f126 : (65281 : Int32).toInt = 65281 := rfl
                have f127 : (65374 : Int32).toInt = 65374 := rfl
                have f128 : (12288 : Int32).toInt = 12288 := rfl
                have f129 : (160 : Int32).toInt = 160 := rfl
                have f130 : (8199 : Int32).toInt = 8199 := rfl
                have f131 : (8239 : Int32).toInt = 8239 := rfl
                have g132 := hx0
                rw [Int32.lt_iff_toInt_lt] at g132
                have g133 := hx1
                rw [Int32.lt_iff_toInt_lt] at g133
                have g134 := hc27
                rw [Int32.lt_iff_toInt_lt] at g134
                have g135 := hc79
                rw [Int32.lt_iff_toInt_lt] at g135
                have g136 := hc80
                rw [← Int32.toInt_inj] at g136
                have g137 := hc92
                rw [← Int32.toInt_inj] at g137
                have g138 := hc106
                rw [← Int32.toInt_inj] at g138
                have g139 := hc122
                rw [← Int32.toInt_inj] at g139
                omega
              · refine own_st (fun t k => XS.icmpYes X.here hx rfl (pc0 := 201) (pc' := 211) rfl (hb hby at_201) rfl (feq hc122).2 (by decide) (by decide) k) ?_
                show own_E p e below _ T (mkF m 211 #[iv p1, iv p2, iv p3, rv aLENIENT, iv 0, iv x, iv x, s7, .unset] [])
                refine own_st (fun t k => XS.iload X.here hx rfl (hb hby at_211) rfl k) ?_
                show own_E p e below _ T (mkF m 213 #[iv p1, iv p2, iv p3, rv aLENIENT, iv 0, iv x, iv x, s7, .unset] [.int x])
                refine own_st (fun t k => XS.sipush X.here hx rfl (hb hby at_213) k) ?_
                show own_E p e below _ T (mkF m 216 #[iv p1, iv p2, iv p3, rv aLENIENT, iv 0, iv x, iv x, s7, .unset] [.int 8208, .int x])
                by_cases hc140 : x < (8208 : Int32)
                · exfalso
                  have f141 := rng32 x
                  have f142 : (0 : Int32).toInt = 0 := rfl
                  have f143 : (65536 : Int32).toInt = 65536 := rfl
                  have f144 : (65281 : Int32).toInt = 65281 := rfl
                  have f145 : (65374 : Int32).toInt = 65374 := rfl
                  have f146 : (12288 : Int32).toInt = 12288 := rfl
                  have f147 : (160 : Int32).toInt = 160 := rfl
                  have f148 : (8199 : Int32).toInt = 8199 := rfl
                  have f149 : (8239 : Int32).toInt = 8239 := rfl
                  have f150 : (8208 : Int32).toInt = 8208 := rfl
                  have g151 := hx0
                  rw [Int32.lt_iff_toInt_lt] at g151
                  have g152 := hx1
                  rw [Int32.lt_iff_toInt_lt] at g152
                  have g153 := hc27
                  rw [Int32.lt_iff_toInt_lt] at g153
                  have g154 := hc79
                  rw [Int32.lt_iff_toInt_lt] at g154
                  have g155 := hc80
                  rw [← Int32.toInt_inj] at g155
                  have g156 := hc92
                  rw [← Int32.toInt_inj] at g156
                  have g157 := hc106
                  rw [← Int32.toInt_inj] at g157
                  have g158 := hc122
                  rw [← Int32.toInt_inj] at g158
                  have g159 := hc140
                  rw [Int32.lt_iff_toInt_lt] at g159
                  omega
                · refine own_st (fun t k => XS.icmpNo X.here hx rfl (hb hby at_216) rfl (flt hc140).1 k) ?_
                  show own_E p e below _ T (mkF m 219 #[iv p1, iv p2, iv p3, rv aLENIENT, iv 0, iv x, iv x, s7, .unset] [])
                  refine own_st (fun t k => XS.iload X.here hx rfl (hb hby at_219) rfl k) ?_
                  show own_E p e below _ T (mkF m 221 #[iv p1, iv p2, iv p3, rv aLENIENT, iv 0, iv x, iv x, s7, .unset] [.int x])
                  refine own_st (fun t k => XS.sipush X.here hx rfl (hb hby at_221) k) ?_
                  show own_E p e below _ T (mkF m 224 #[iv p1, iv p2, iv p3, rv aLENIENT, iv 0, iv x, iv x, s7, .unset] [.int 8213, .int x])
                  by_cases hc160 : (8213 : Int32) < x
                  · refine own_st (fun t k => XS.icmpNo X.here hx rfl (hb hby at_224) rfl (tlt hc160).2.2.2 k) ?_
                    show own_E p e below _ T (mkF m 227 #[iv p1, iv p2, iv p3, rv aLENIENT, iv 0, iv x, iv x, s7, .unset] [])
                    refine own_st (fun t k => XS.iload X.here hx rfl (hb hby at_227) rfl k) ?_
                    show own_E p e below _ T (mkF m 229 #[iv p1, iv p2, iv p3, rv aLENIENT, iv 0, iv x, iv x, s7, .unset] [.int x])
                    refine own_st (fun t k => XS.sipush X.here hx rfl (hb hby at_229) k) ?_
                    show own_E p e below _ T (mkF m 232 #[iv p1, iv p2, iv p3, rv aLENIENT, iv 0, iv x, iv x, s7, .unset] [.int 8722, .int x])
                    by_cases hc161 : x = (8722 : Int32)
                    · exfalso
                      have f162 := rng32 x
                      have f163 : (0 : Int32).toInt = 0 := rfl
                      have f164 : (65536 : Int32).toInt = 65536 := rfl
                      have f165 : (65281 : Int32).toInt = 65281 := rfl
                      have f166 : (65374 : Int32).toInt = 65374 := rfl
                      have f167 : (12288 : Int32).toInt = 12288 := rfl
                      have f168 : (160 : Int32).toInt = 160 := rfl
                      have f169 : (8199 : Int32).toInt = 8199 := rfl
                      have f170 : (8239 : Int32).toInt = 8239 := rfl
                      have f171 : (8208 : Int32).toInt = 8208 := rfl
                      have f172 : (8213 : Int32).toInt = 8213 := rfl
                      have f173 : (8722 : Int32).toInt = 8722 := rfl
                      have g174 := hx0
                      rw [Int32.lt_iff_toInt_lt] at g174
                      have g175 := hx1
                      rw [Int32.lt_iff_toInt_lt] at g175
                      have g176 := hc27
                      rw [Int32.lt_iff_toInt_lt] at g176
                      have g177 := hc79
                      rw [Int32.lt_iff_toInt_lt] at g177
                      have g178 := hc80
                      rw [← Int32.toInt_inj] at g178
                      have g179 := hc92
                      rw [← Int32.toInt_inj] at g179
                      have g180 := hc106
                      rw [← Int32.toInt_inj] at g180
                      have g181 := hc122
                      rw [← Int32.toInt_inj] at g181
                      have g182 := hc140
                      rw [Int32.lt_iff_toInt_lt] at g182
                      have g183 := hc160
                      rw [Int32.lt_iff_toInt_lt] at g183
                      have g184 := hc161
                      rw [← Int32.toInt_inj] at g184
                      omega
                    · refine own_st (fun t k => XS.icmpYes X.here hx rfl (pc0 := 232) (pc' := 242) rfl (hb hby at_232) rfl (feq hc161).2 (by decide) (by decide) k) ?_
                      show own_E p e below _ T (mkF m 242 #[iv p1, iv p2, iv p3, rv aLENIENT, iv 0, iv x, iv x, s7, .unset] [])
                      refine own_st (fun t k => XS.iload X.here hx rfl (hb hby at_242) rfl k) ?_
                      show own_E p e below _ T (mkF m 244 #[iv p1, iv p2, iv p3, rv aLENIENT, iv 0, iv x, iv x, s7, .unset] [.int x])
                      have os185 : storeLocals #[.val (.int p1), .val (.int p2), .val (.int p3), .val (.ref aLENIENT), .val (.int (0 : Int32)), .val (.int x), .val (.int x), s7, .unset] 7 (.int x) = some #[.val (.int p1), .val (.int p2), .val (.int p3), .val (.ref aLENIENT), .val (.int (0 : Int32)), .val (.int x), .val (.int x), .val (.int x), .unset] := by rcases o7 with h | ⟨w, h, hw⟩ <;> subst h <;> first | rfl | (cases w <;> first | rfl | (simp [Value.category] at hw))
                      refine own_st (fun t k => XS.istore X.here hx rfl (hb hby at_244) rfl (l' := #[.val (.int p1), .val (.int p2), .val (.int p3), .val (.ref aLENIENT), .val (.int (0 : Int32)), .val (.int x), .val (.int x), .val (.int x), .unset]) os185 k) ?_
                      show own_E p e below _ T (mkF m 246 #[iv p1, iv p2, iv p3, rv aLENIENT, iv 0, iv x, iv x, iv x, .unset] [])
                      refine own_st (fun t k => XS.aloadN X.here hx rfl (hb hby at_246) rfl rfl k) ?_
                      show own_E p e below _ T (mkF m 247 #[iv p1, iv p2, iv p3, rv aLENIENT, iv 0, iv x, iv x, iv x, .unset] [.ref aLENIENT])
                      refine own_st (fun t k => XS.iload X.here hx rfl (hb hby at_247) rfl k) ?_
                      show own_E p e below _ T (mkF m 249 #[iv p1, iv p2, iv p3, rv aLENIENT, iv 0, iv x, iv x, iv x, .unset] [.int x, .ref aLENIENT])
                      obtain ⟨cq186, kq186, q186a, q186b, q186c⟩ := isOf hZ eTl (E_LENIENT.keep K)
                      obtain ⟨_, _, ⟨T186, L186, k186, n186⟩, -, X186, ⟨Lc186, hQ186, l186, y186, z186⟩, st186⟩ := X.virtualBack hx (y := own_y0) (z := own_y0) hown (mvT hZ (own_w hw 5 rfl)) (mvT hZ (own_w hw 6 rfl)) (notFace_of_selects (args := #[]) (mvT hZ (own_w hw 8 rfl))) (mvT hZ (own_w hw 8 rfl)) (mvT hZ (own_w hw 7 rfl)) (by decide) (backOf (W := 0) (own_fold_LENIENT l Z a0 hw [] aLENIENT aSTRICT x T.heap n0 (Nat.le_trans Z0 K.1) (own_StaK S_LENIENT K) (own_StaK S_STRICT K) (E_LENIENT.keep K) (E_STRICT.keep K) ne_LENIENT_STRICT) hZ (own_w hw 9 rfl) (own_w hw 1 rfl) (by decide) (by decide)) q186a q186c (g := (mkF m 249 #[iv p1, iv p2, iv p3, rv aLENIENT, iv 0, iv x, iv x, iv x, .unset] [.int x, .ref aLENIENT])) rfl (by rw [hml]; rfl) (Steps.refl _) (argsL := [(.int x)]) (rest := []) (lenOf own_pd_0 rfl) rfl (by show 2 * 0 + _ ≤ _; exact Nat.le_of_eq rfl) (hb hby at_249) (fun _ _ => ⟨rfl, eTl, hnc, hns⟩)
                      dsimp only [Pt.U, Pt.locs, Pt.cells, Pt.slots] at X186 l186 y186 z186 st186 hQ186
                      subst l186 y186 z186
                      obtain ⟨rfl, e186, rfl⟩ := hQ186
                      have N186 := Fr.app N (Fr.nil n0)
                      refine own_tr st186 ?_
                      show own_E p e below _ T186 (mkF m 252 #[iv p1, iv p2, iv p3, rv aLENIENT, iv 0, iv x, iv x, iv x, .unset] [.int (own_foldL x)])
                      refine own_st (fun t k => XS.istore X186.here hx rfl (hb hby at_252) rfl (l' := #[iv p1, iv p2, iv p3, rv aLENIENT, iv 0, iv x, iv x, iv x, iv (own_foldL x)]) rfl k) ?_
                      show own_E p e below _ T186 (mkF m 254 #[iv p1, iv p2, iv p3, rv aLENIENT, iv 0, iv x, iv x, iv x, iv (own_foldL x)] [])
                      refine own_st (fun t k => XS.iload X186.here hx rfl (hb hby at_254) rfl k) ?_
                      show own_E p e below _ T186 (mkF m 256 #[iv p1, iv p2, iv p3, rv aLENIENT, iv 0, iv x, iv x, iv x, iv (own_foldL x)] [.int (own_foldL x)])
                      refine own_st (fun t k => XS.iload X186.here hx rfl (hb hby at_256) rfl k) ?_
                      show own_E p e below _ T186 (mkF m 258 #[iv p1, iv p2, iv p3, rv aLENIENT, iv 0, iv x, iv x, iv x, iv (own_foldL x)] [.int x, .int (own_foldL x)])
                      refine own_st (fun t k => XS.icmpNo X186.here hx rfl (hb hby at_258) rfl (teq (own_o15 x hx0 hx1 hc27 hc79 hc80 hc92 hc106 hc122 hc140 hc160 hc161)).2 k) ?_
                      show own_E p e below _ T186 (mkF m 261 #[iv p1, iv p2, iv p3, rv aLENIENT, iv 0, iv x, iv x, iv x, iv (own_foldL x)] [])
                      refine own_st (fun t k => XS.aloadN X186.here hx rfl (hb hby at_261) rfl rfl k) ?_
                      show own_E p e below _ T186 (mkF m 262 #[iv p1, iv p2, iv p3, rv aLENIENT, iv 0, iv x, iv x, iv x, iv (own_foldL x)] [.ref aLENIENT])
                      refine own_st (fun t k => XS.iload X186.here hx rfl (hb hby at_262) rfl k) ?_
                      show own_E p e below _ T186 (mkF m 264 #[iv p1, iv p2, iv p3, rv aLENIENT, iv 0, iv x, iv x, iv x, iv (own_foldL x)] [.int (own_foldL x), .ref aLENIENT])
                      obtain ⟨cq187, kq187, q187a, q187b, q187c⟩ := isOf hZ e186 (E_LENIENT.keep K)
                      obtain ⟨_, _, ⟨T187, L187, k187, n187⟩, -, X187, ⟨Lc187, hQ187, l187, y187, z187⟩, st187⟩ := X186.virtualBack hx (y := own_y0) (z := own_y0) hown (mvT hZ (own_w hw 5 rfl)) (mvT hZ (own_w hw 6 rfl)) (notFace_of_selects (args := #[]) (mvT hZ (own_w hw 8 rfl))) (mvT hZ (own_w hw 8 rfl)) (mvT hZ (own_w hw 7 rfl)) (by decide) (backOf (W := 0) (own_fold_LENIENT l Z a0 hw [] aLENIENT aSTRICT (own_foldL x) T.heap n0 (Nat.le_trans Z0 K.1) (own_StaK S_LENIENT K) (own_StaK S_STRICT K) (E_LENIENT.keep K) (E_STRICT.keep K) ne_LENIENT_STRICT) hZ (own_w hw 9 rfl) (own_w hw 1 rfl) (by decide) (by decide)) q187a q187c (g := (mkF m 264 #[iv p1, iv p2, iv p3, rv aLENIENT, iv 0, iv x, iv x, iv x, iv (own_foldL x)] [.int (own_foldL x), .ref aLENIENT])) rfl (by rw [hml]; rfl) (Steps.refl _) (argsL := [(.int (own_foldL x))]) (rest := []) (lenOf own_pd_0 rfl) rfl (by show 2 * 0 + _ ≤ _; exact Nat.le_of_eq rfl) (hb hby at_264) (fun _ _ => ⟨rfl, e186, hnc, hns⟩)
                      dsimp only [Pt.U, Pt.locs, Pt.cells, Pt.slots] at X187 l187 y187 z187 st187 hQ187
                      subst l187 y187 z187
                      obtain ⟨rfl, e187, rfl⟩ := hQ187
                      have N187 := Fr.app N186 (Fr.nil n0)
                      refine own_tr st187 ?_
                      show own_E p e below _ T187 (mkF m 267 #[iv p1, iv p2, iv p3, rv aLENIENT, iv 0, iv x, iv x, iv x, iv (own_foldL x)] [.int (own_foldL (own_foldL x))])
                      refine own_st (fun t k => XS.iload X187.here hx rfl (hb hby at_267) rfl k) ?_
                      show own_E p e below _ T187 (mkF m 269 #[iv p1, iv p2, iv p3, rv aLENIENT, iv 0, iv x, iv x, iv x, iv (own_foldL x)] [.int (own_foldL x), .int (own_foldL (own_foldL x))])
                      refine own_st (fun t k => XS.icmpNo X187.here hx rfl (hb hby at_269) rfl (teq (by rw [(own_o15 x hx0 hx1 hc27 hc79 hc80 hc92 hc106 hc122 hc140 hc160 hc161), (own_o15 x hx0 hx1 hc27 hc79 hc80 hc92 hc106 hc122 hc140 hc160 hc161)])).2 k) ?_
                      show own_E p e below _ T187 (mkF m 272 #[iv p1, iv p2, iv p3, rv aLENIENT, iv 0, iv x, iv x, iv x, iv (own_foldL x)] [])
                      refine own_st (fun t k => XS.iconst X187.here hx rfl (hb hby at_272) k) ?_
                      show own_E p e below _ T187 (mkF m 273 #[iv p1, iv p2, iv p3, rv aLENIENT, iv 0, iv x, iv x, iv x, iv (own_foldL x)] [.int 1])
                      refine own_st (fun t k => XS.goto X187.here hx rfl (pc0 := 273) (pc' := 277) rfl (hb hby at_273) (by decide) (by decide) k) ?_
                      show own_E p e below _ T187 (mkF m 277 #[iv p1, iv p2, iv p3, rv aLENIENT, iv 0, iv x, iv x, iv x, iv (own_foldL x)] [.int 1])
                      refine own_retS X187 hx Bd.notSynchronized Bd.returns rfl (by decide) (hb hby at_277) hnc hns ?_
                      exact ⟨rfl, N187⟩
                  · exfalso
                    have f188 := rng32 x
                    have f189 : (0 : Int32).toInt = 0 := rfl
                    have f190 : (65536 : Int32).toInt = 65536 := rfl
                    have f191 : (65281 : Int32).toInt = 65281 := rfl
                    have f192 : (65374 : Int32).toInt = 65374 := rfl
                    have f193 : (12288 : Int32).toInt = 12288 := rfl
                    have f194 : (160 : Int32).toInt = 160 := rfl
                    have f195 : (8199 : Int32).toInt = 8199 := rfl
                    have f196 : (8239 : Int32).toInt = 8239 := rfl
                    have f197 : (8208 : Int32).toInt = 8208 := rfl
                    have f198 : (8213 : Int32).toInt = 8213 := rfl
                    have g199 := hx0
                    rw [Int32.lt_iff_toInt_lt] at g199
                    have g200 := hx1
                    rw [Int32.lt_iff_toInt_lt] at g200
                    have g201 := hc27
                    rw [Int32.lt_iff_toInt_lt] at g201
                    have g202 := hc79
                    rw [Int32.lt_iff_toInt_lt] at g202
                    have g203 := hc80
                    rw [← Int32.toInt_inj] at g203
                    have g204 := hc92
                    rw [← Int32.toInt_inj] at g204
                    have g205 := hc106
                    rw [← Int32.toInt_inj] at g205
                    have g206 := hc122
                    rw [← Int32.toInt_inj] at g206
                    have g207 := hc140
                    rw [Int32.lt_iff_toInt_lt] at g207
                    have g208 := hc160
                    rw [Int32.lt_iff_toInt_lt] at g208
                    omega
      · refine own_st (fun t k => XS.icmpNo X.here hx rfl (hb hby at_159) rfl (flt hc79).2.2.1 k) ?_
        show own_E p e below _ T (mkF m 162 #[iv p1, iv p2, iv p3, rv aLENIENT, iv 0, iv x, iv x, s7, .unset] [])
        refine own_st (fun t k => XS.iload X.here hx rfl (hb hby at_162) rfl k) ?_
        show own_E p e below _ T (mkF m 164 #[iv p1, iv p2, iv p3, rv aLENIENT, iv 0, iv x, iv x, s7, .unset] [.int x])
        refine own_st (X.ldcInt hx hown (mvT hZ (own_w hw 18 rfl)) (g := (mkF m 164 #[iv p1, iv p2, iv p3, rv aLENIENT, iv 0, iv x, iv x, s7, .unset] [.int x])) rfl (hb hby at_164)) ?_
        show own_E p e below _ T (mkF m 166 #[iv p1, iv p2, iv p3, rv aLENIENT, iv 0, iv x, iv x, s7, .unset] [.int 65248, .int x])
        refine own_st (fun t k => XS.isub X.here hx rfl (hb hby at_166) rfl k) ?_
        show own_E p e below _ T (mkF m 167 #[iv p1, iv p2, iv p3, rv aLENIENT, iv 0, iv x, iv x, s7, .unset] [.int (x - (65248 : Int32))])
        have os209 : storeLocals #[.val (.int p1), .val (.int p2), .val (.int p3), .val (.ref aLENIENT), .val (.int (0 : Int32)), .val (.int x), .val (.int x), s7, .unset] 7 (.int (x - (65248 : Int32))) = some #[.val (.int p1), .val (.int p2), .val (.int p3), .val (.ref aLENIENT), .val (.int (0 : Int32)), .val (.int x), .val (.int x), .val (.int (x - (65248 : Int32))), .unset] := by rcases o7 with h | ⟨w, h, hw⟩ <;> subst h <;> first | rfl | (cases w <;> first | rfl | (simp [Value.category] at hw))
        refine own_st (fun t k => XS.istore X.here hx rfl (hb hby at_167) rfl (l' := #[.val (.int p1), .val (.int p2), .val (.int p3), .val (.ref aLENIENT), .val (.int (0 : Int32)), .val (.int x), .val (.int x), .val (.int (x - (65248 : Int32))), .unset]) os209 k) ?_
        show own_E p e below _ T (mkF m 169 #[iv p1, iv p2, iv p3, rv aLENIENT, iv 0, iv x, iv x, iv (x - (65248 : Int32)), .unset] [])
        refine own_st (fun t k => XS.goto X.here hx rfl (pc0 := 169) (pc' := 246) rfl (hb hby at_169) (by decide) (by decide) k) ?_
        show own_E p e below _ T (mkF m 246 #[iv p1, iv p2, iv p3, rv aLENIENT, iv 0, iv x, iv x, iv (x - (65248 : Int32)), .unset] [])
        refine own_st (fun t k => XS.aloadN X.here hx rfl (hb hby at_246) rfl rfl k) ?_
        show own_E p e below _ T (mkF m 247 #[iv p1, iv p2, iv p3, rv aLENIENT, iv 0, iv x, iv x, iv (x - (65248 : Int32)), .unset] [.ref aLENIENT])
        refine own_st (fun t k => XS.iload X.here hx rfl (hb hby at_247) rfl k) ?_
        show own_E p e below _ T (mkF m 249 #[iv p1, iv p2, iv p3, rv aLENIENT, iv 0, iv x, iv x, iv (x - (65248 : Int32)), .unset] [.int x, .ref aLENIENT])
        obtain ⟨cq210, kq210, q210a, q210b, q210c⟩ := isOf hZ eTl (E_LENIENT.keep K)
        obtain ⟨_, _, ⟨T210, L210, k210, n210⟩, -, X210, ⟨Lc210, hQ210, l210, y210, z210⟩, st210⟩ := X.virtualBack hx (y := own_y0) (z := own_y0) hown (mvT hZ (own_w hw 5 rfl)) (mvT hZ (own_w hw 6 rfl)) (notFace_of_selects (args := #[]) (mvT hZ (own_w hw 8 rfl))) (mvT hZ (own_w hw 8 rfl)) (mvT hZ (own_w hw 7 rfl)) (by decide) (backOf (W := 0) (own_fold_LENIENT l Z a0 hw [] aLENIENT aSTRICT x T.heap n0 (Nat.le_trans Z0 K.1) (own_StaK S_LENIENT K) (own_StaK S_STRICT K) (E_LENIENT.keep K) (E_STRICT.keep K) ne_LENIENT_STRICT) hZ (own_w hw 9 rfl) (own_w hw 1 rfl) (by decide) (by decide)) q210a q210c (g := (mkF m 249 #[iv p1, iv p2, iv p3, rv aLENIENT, iv 0, iv x, iv x, iv (x - (65248 : Int32)), .unset] [.int x, .ref aLENIENT])) rfl (by rw [hml]; rfl) (Steps.refl _) (argsL := [(.int x)]) (rest := []) (lenOf own_pd_0 rfl) rfl (by show 2 * 0 + _ ≤ _; exact Nat.le_of_eq rfl) (hb hby at_249) (fun _ _ => ⟨rfl, eTl, hnc, hns⟩)
        dsimp only [Pt.U, Pt.locs, Pt.cells, Pt.slots] at X210 l210 y210 z210 st210 hQ210
        subst l210 y210 z210
        obtain ⟨rfl, e210, rfl⟩ := hQ210
        have N210 := Fr.app N (Fr.nil n0)
        refine own_tr st210 ?_
        show own_E p e below _ T210 (mkF m 252 #[iv p1, iv p2, iv p3, rv aLENIENT, iv 0, iv x, iv x, iv (x - (65248 : Int32)), .unset] [.int (own_foldL x)])
        refine own_st (fun t k => XS.istore X210.here hx rfl (hb hby at_252) rfl (l' := #[iv p1, iv p2, iv p3, rv aLENIENT, iv 0, iv x, iv x, iv (x - (65248 : Int32)), iv (own_foldL x)]) rfl k) ?_
        show own_E p e below _ T210 (mkF m 254 #[iv p1, iv p2, iv p3, rv aLENIENT, iv 0, iv x, iv x, iv (x - (65248 : Int32)), iv (own_foldL x)] [])
        refine own_st (fun t k => XS.iload X210.here hx rfl (hb hby at_254) rfl k) ?_
        show own_E p e below _ T210 (mkF m 256 #[iv p1, iv p2, iv p3, rv aLENIENT, iv 0, iv x, iv x, iv (x - (65248 : Int32)), iv (own_foldL x)] [.int (own_foldL x)])
        refine own_st (fun t k => XS.iload X210.here hx rfl (hb hby at_256) rfl k) ?_
        show own_E p e below _ T210 (mkF m 258 #[iv p1, iv p2, iv p3, rv aLENIENT, iv 0, iv x, iv x, iv (x - (65248 : Int32)), iv (own_foldL x)] [.int (x - (65248 : Int32)), .int (own_foldL x)])
        refine own_st (fun t k => XS.icmpNo X210.here hx rfl (hb hby at_258) rfl (teq (own_o16 x hx0 hx1 hc27 hc79)).2 k) ?_
        show own_E p e below _ T210 (mkF m 261 #[iv p1, iv p2, iv p3, rv aLENIENT, iv 0, iv x, iv x, iv (x - (65248 : Int32)), iv (own_foldL x)] [])
        refine own_st (fun t k => XS.aloadN X210.here hx rfl (hb hby at_261) rfl rfl k) ?_
        show own_E p e below _ T210 (mkF m 262 #[iv p1, iv p2, iv p3, rv aLENIENT, iv 0, iv x, iv x, iv (x - (65248 : Int32)), iv (own_foldL x)] [.ref aLENIENT])
        refine own_st (fun t k => XS.iload X210.here hx rfl (hb hby at_262) rfl k) ?_
        show own_E p e below _ T210 (mkF m 264 #[iv p1, iv p2, iv p3, rv aLENIENT, iv 0, iv x, iv x, iv (x - (65248 : Int32)), iv (own_foldL x)] [.int (own_foldL x), .ref aLENIENT])
        obtain ⟨cq211, kq211, q211a, q211b, q211c⟩ := isOf hZ e210 (E_LENIENT.keep K)
        obtain ⟨_, _, ⟨T211, L211, k211, n211⟩, -, X211, ⟨Lc211, hQ211, l211, y211, z211⟩, st211⟩ := X210.virtualBack hx (y := own_y0) (z := own_y0) hown (mvT hZ (own_w hw 5 rfl)) (mvT hZ (own_w hw 6 rfl)) (notFace_of_selects (args := #[]) (mvT hZ (own_w hw 8 rfl))) (mvT hZ (own_w hw 8 rfl)) (mvT hZ (own_w hw 7 rfl)) (by decide) (backOf (W := 0) (own_fold_LENIENT l Z a0 hw [] aLENIENT aSTRICT (own_foldL x) T.heap n0 (Nat.le_trans Z0 K.1) (own_StaK S_LENIENT K) (own_StaK S_STRICT K) (E_LENIENT.keep K) (E_STRICT.keep K) ne_LENIENT_STRICT) hZ (own_w hw 9 rfl) (own_w hw 1 rfl) (by decide) (by decide)) q211a q211c (g := (mkF m 264 #[iv p1, iv p2, iv p3, rv aLENIENT, iv 0, iv x, iv x, iv (x - (65248 : Int32)), iv (own_foldL x)] [.int (own_foldL x), .ref aLENIENT])) rfl (by rw [hml]; rfl) (Steps.refl _) (argsL := [(.int (own_foldL x))]) (rest := []) (lenOf own_pd_0 rfl) rfl (by show 2 * 0 + _ ≤ _; exact Nat.le_of_eq rfl) (hb hby at_264) (fun _ _ => ⟨rfl, e210, hnc, hns⟩)
        dsimp only [Pt.U, Pt.locs, Pt.cells, Pt.slots] at X211 l211 y211 z211 st211 hQ211
        subst l211 y211 z211
        obtain ⟨rfl, e211, rfl⟩ := hQ211
        have N211 := Fr.app N210 (Fr.nil n0)
        refine own_tr st211 ?_
        show own_E p e below _ T211 (mkF m 267 #[iv p1, iv p2, iv p3, rv aLENIENT, iv 0, iv x, iv x, iv (x - (65248 : Int32)), iv (own_foldL x)] [.int (own_foldL (own_foldL x))])
        refine own_st (fun t k => XS.iload X211.here hx rfl (hb hby at_267) rfl k) ?_
        show own_E p e below _ T211 (mkF m 269 #[iv p1, iv p2, iv p3, rv aLENIENT, iv 0, iv x, iv x, iv (x - (65248 : Int32)), iv (own_foldL x)] [.int (own_foldL x), .int (own_foldL (own_foldL x))])
        refine own_st (fun t k => XS.icmpNo X211.here hx rfl (hb hby at_269) rfl (teq (by rw [(own_o16 x hx0 hx1 hc27 hc79)]; exact (own_o17 x hx0 hx1 hc27 hc79))).2 k) ?_
        show own_E p e below _ T211 (mkF m 272 #[iv p1, iv p2, iv p3, rv aLENIENT, iv 0, iv x, iv x, iv (x - (65248 : Int32)), iv (own_foldL x)] [])
        refine own_st (fun t k => XS.iconst X211.here hx rfl (hb hby at_272) k) ?_
        show own_E p e below _ T211 (mkF m 273 #[iv p1, iv p2, iv p3, rv aLENIENT, iv 0, iv x, iv x, iv (x - (65248 : Int32)), iv (own_foldL x)] [.int 1])
        refine own_st (fun t k => XS.goto X211.here hx rfl (pc0 := 273) (pc' := 277) rfl (hb hby at_273) (by decide) (by decide) k) ?_
        show own_E p e below _ T211 (mkF m 277 #[iv p1, iv p2, iv p3, rv aLENIENT, iv 0, iv x, iv x, iv (x - (65248 : Int32)), iv (own_foldL x)] [.int 1])
        refine own_retS X211 hx Bd.notSynchronized Bd.returns rfl (by decide) (hb hby at_277) hnc hns ?_
        exact ⟨rfl, N211⟩
  show own_E p e below _ s₁ (mkF m 0 #[iv p1, iv p2, iv p3, .unset, .unset, .unset, .unset, .unset, .unset] [])
  refine own_st (fun t k => XS.iloadN X0.here hx rfl (hb hby at_0) rfl k) ?_
  show own_E p e below _ s₁ (mkF m 1 #[iv p1, iv p2, iv p3, .unset, .unset, .unset, .unset, .unset, .unset] [.int p3])
  refine own_st (fun t k => XS.iconst X0.here hx rfl (hb hby at_1) k) ?_
  show own_E p e below _ s₁ (mkF m 2 #[iv p1, iv p2, iv p3, .unset, .unset, .unset, .unset, .unset, .unset] [.int 1, .int p3])
  refine own_st (fun t k => XS.iand X0.here hx rfl (hb hby at_2) rfl k) ?_
  show own_E p e below _ s₁ (mkF m 3 #[iv p1, iv p2, iv p3, .unset, .unset, .unset, .unset, .unset, .unset] [.int (p3 &&& (1 : Int32))])
  by_cases hc212 : (p3 &&& (1 : Int32)) = (0 : Int32)
  · refine own_st (fun t k => XS.ifYes X0.here hx rfl (pc0 := 3) (pc' := 12) rfl (hb hby at_3) rfl ((if0 _ _).trans (teq hc212).1) (by decide) (by decide) k) ?_
    show own_E p e below _ s₁ (mkF m 12 #[iv p1, iv p2, iv p3, .unset, .unset, .unset, .unset, .unset, .unset] [])
    obtain ⟨T213, X213, e213, st213⟩ := getS2 X0 hx hZ hown (host := "") (Or.inl (own_w hw 0 rfl)) Via.refl e0 (own_StaK S_LENIENT (Keep.refl h0 [])) (g := (mkF m 12 #[iv p1, iv p2, iv p3, .unset, .unset, .unset, .unset, .unset, .unset] [])) rfl (hb hby at_12)
    refine own_st st213 ?_
    show own_E p e below _ T213 (mkF m 15 #[iv p1, iv p2, iv p3, .unset, .unset, .unset, .unset, .unset, .unset] [.ref aLENIENT])
    refine own_st (fun t k => XS.astoreN X213.here hx rfl (hb hby at_15) rfl rfl (l' := #[iv p1, iv p2, iv p3, rv aLENIENT, .unset, .unset, .unset, .unset, .unset]) rfl k) ?_
    show own_E p e below _ T213 (mkF m 16 #[iv p1, iv p2, iv p3, rv aLENIENT, .unset, .unset, .unset, .unset, .unset] [])
    refine own_st (fun t k => XS.iloadN X213.here hx rfl (hb hby at_16) rfl k) ?_
    show own_E p e below _ T213 (mkF m 17 #[iv p1, iv p2, iv p3, rv aLENIENT, .unset, .unset, .unset, .unset, .unset] [.int p3])
    refine own_st (fun t k => XS.iconst X213.here hx rfl (hb hby at_17) k) ?_
    show own_E p e below _ T213 (mkF m 18 #[iv p1, iv p2, iv p3, rv aLENIENT, .unset, .unset, .unset, .unset, .unset] [.int 1, .int p3])
    refine own_st (fun t k => XS.iand X213.here hx rfl (hb hby at_18) rfl k) ?_
    show own_E p e below _ T213 (mkF m 19 #[iv p1, iv p2, iv p3, rv aLENIENT, .unset, .unset, .unset, .unset, .unset] [.int (p3 &&& (1 : Int32))])
    refine own_st (fun t k => XS.ifYes X213.here hx rfl (pc0 := 19) (pc' := 26) rfl (hb hby at_19) rfl ((if0 _ _).trans (teq hc212).1) (by decide) (by decide) k) ?_
    show own_E p e below _ T213 (mkF m 26 #[iv p1, iv p2, iv p3, rv aLENIENT, .unset, .unset, .unset, .unset, .unset] [])
    refine own_st (fun t k => XS.iconst X213.here hx rfl (hb hby at_26) k) ?_
    show own_E p e below _ T213 (mkF m 27 #[iv p1, iv p2, iv p3, rv aLENIENT, .unset, .unset, .unset, .unset, .unset] [.int 0])
    refine own_st (fun t k => XS.istore X213.here hx rfl (hb hby at_27) rfl (l' := #[iv p1, iv p2, iv p3, rv aLENIENT, iv 0, .unset, .unset, .unset, .unset]) rfl k) ?_
    show own_E p e below _ T213 (mkF m 29 #[iv p1, iv p2, iv p3, rv aLENIENT, iv 0, .unset, .unset, .unset, .unset] [])
    refine own_st (fun t k => XS.iloadN X213.here hx rfl (hb hby at_29) rfl k) ?_
    show own_E p e below _ T213 (mkF m 30 #[iv p1, iv p2, iv p3, rv aLENIENT, iv 0, .unset, .unset, .unset, .unset] [.int p1])
    refine own_st (fun t k => XS.iconst X213.here hx rfl (hb hby at_30) k) ?_
    show own_E p e below _ T213 (mkF m 31 #[iv p1, iv p2, iv p3, rv aLENIENT, iv 0, .unset, .unset, .unset, .unset] [.int 1, .int p1])
    refine own_st (fun t k => XS.iand X213.here hx rfl (hb hby at_31) rfl k) ?_
    show own_E p e below _ T213 (mkF m 32 #[iv p1, iv p2, iv p3, rv aLENIENT, iv 0, .unset, .unset, .unset, .unset] [.int (p1 &&& (1 : Int32))])
    by_cases hc214 : (p1 &&& (1 : Int32)) = (0 : Int32)
    · refine own_st (fun t k => XS.ifNo X213.here hx rfl (hb hby at_32) rfl ((if0 _ _).trans (teq hc214).2) k) ?_
      show own_E p e below _ T213 (mkF m 35 #[iv p1, iv p2, iv p3, rv aLENIENT, iv 0, .unset, .unset, .unset, .unset] [])
      refine own_st (fun t k => XS.iloadN X213.here hx rfl (hb hby at_35) rfl k) ?_
      show own_E p e below _ T213 (mkF m 36 #[iv p1, iv p2, iv p3, rv aLENIENT, iv 0, .unset, .unset, .unset, .unset] [.int p2])
      refine own_st (X213.ldcInt hx hown (mvT hZ (own_w hw 3 rfl)) (g := (mkF m 36 #[iv p1, iv p2, iv p3, rv aLENIENT, iv 0, .unset, .unset, .unset, .unset] [.int p2])) rfl (hb hby at_36)) ?_
      show own_E p e below _ T213 (mkF m 38 #[iv p1, iv p2, iv p3, rv aLENIENT, iv 0, .unset, .unset, .unset, .unset] [.int 65535, .int p2])
      refine own_st (fun t k => XS.iand X213.here hx rfl (hb hby at_38) rfl k) ?_
      show own_E p e below _ T213 (mkF m 39 #[iv p1, iv p2, iv p3, rv aLENIENT, iv 0, .unset, .unset, .unset, .unset] [.int (p2 &&& (65535 : Int32))])
      refine own_st (fun t k => XS.i2c X213.here hx rfl (hb hby at_39) rfl k) ?_
      show own_E p e below _ T213 (mkF m 40 #[iv p1, iv p2, iv p3, rv aLENIENT, iv 0, .unset, .unset, .unset, .unset] [.int ((p2 &&& (65535 : Int32)).toUInt32.toUInt16.toUInt32.toInt32)])
      refine own_st (fun t k => XS.istore X213.here hx rfl (hb hby at_40) rfl (l' := #[iv p1, iv p2, iv p3, rv aLENIENT, iv 0, iv ((p2 &&& (65535 : Int32)).toUInt32.toUInt16.toUInt32.toInt32), .unset, .unset, .unset]) rfl k) ?_
      show own_E p e below _ T213 (mkF m 42 #[iv p1, iv p2, iv p3, rv aLENIENT, iv 0, iv ((p2 &&& (65535 : Int32)).toUInt32.toUInt16.toUInt32.toInt32), .unset, .unset, .unset] [])
      refine own_st (fun t k => XS.goto X213.here hx rfl (pc0 := 42) (pc' := 132) rfl (hb hby at_42) (by decide) (by decide) k) ?_
      show own_E p e below _ T213 (mkF m 132 #[iv p1, iv p2, iv p3, rv aLENIENT, iv 0, iv ((p2 &&& (65535 : Int32)).toUInt32.toUInt16.toUInt32.toInt32), .unset, .unset, .unset] [])
      have hv215 : ¬ (((p2 &&& (65535 : Int32)).toUInt32.toUInt16.toUInt32.toInt32) < (0 : Int32)) := by
        rw [Int32.lt_iff_toInt_lt]
        have f216 := rng32 p3
        have f217 : (1 : Int32).toInt = 1 := rfl
        have f218 := rng32 (p3 &&& (1 : Int32))
        have f219 : (p3 &&& (1 : Int32)).toInt = p3.toInt % 2 := c_mask p3 (1 : Int32) 1 (by decide) (by decide)
        have f220 : (0 : Int32).toInt = 0 := rfl
        have f221 := rng32 p1
        have f222 := rng32 (p1 &&& (1 : Int32))
        have f223 : (p1 &&& (1 : Int32)).toInt = p1.toInt % 2 := c_mask p1 (1 : Int32) 1 (by decide) (by decide)
        have f224 := rng32 p2
        have f225 : (65535 : Int32).toInt = 65535 := rfl
        have f226 := rng32 (p2 &&& (65535 : Int32))
        have f227 : (p2 &&& (65535 : Int32)).toInt = p2.toInt % 65536 := c_mask p2 (65535 : Int32) 16 (by decide) (by decide)
        have f228 := rng32 ((p2 &&& (65535 : Int32)).toUInt32.toUInt16.toUInt32.toInt32)
        have f229 := c_i2c (p2 &&& (65535 : Int32))
        have g230 := hc212
        rw [← Int32.toInt_inj] at g230
        have g231 := hc214
        rw [← Int32.toInt_inj] at g231
        omega
      have hv232 : ((p2 &&& (65535 : Int32)).toUInt32.toUInt16.toUInt32.toInt32) < (65536 : Int32) := by
        rw [Int32.lt_iff_toInt_lt]
        have f233 := rng32 p3
        have f234 : (1 : Int32).toInt = 1 := rfl
        have f235 := rng32 (p3 &&& (1 : Int32))
        have f236 : (p3 &&& (1 : Int32)).toInt = p3.toInt % 2 := c_mask p3 (1 : Int32) 1 (by decide) (by decide)
        have f237 : (0 : Int32).toInt = 0 := rfl
        have f238 := rng32 p1
        have f239 := rng32 (p1 &&& (1 : Int32))
        have f240 : (p1 &&& (1 : Int32)).toInt = p1.toInt % 2 := c_mask p1 (1 : Int32) 1 (by decide) (by decide)
        have f241 := rng32 p2
        have f242 : (65535 : Int32).toInt = 65535 := rfl
        have f243 := rng32 (p2 &&& (65535 : Int32))
        have f244 : (p2 &&& (65535 : Int32)).toInt = p2.toInt % 65536 := c_mask p2 (65535 : Int32) 16 (by decide) (by decide)
        have f245 := rng32 ((p2 &&& (65535 : Int32)).toUInt32.toUInt16.toUInt32.toInt32)
        have f246 := c_i2c (p2 &&& (65535 : Int32))
        have f247 : (65536 : Int32).toInt = 65536 := rfl
        have g248 := hc212
        rw [← Int32.toInt_inj] at g248
        have g249 := hc214
        rw [← Int32.toInt_inj] at g249
        omega
      exact tailLENIENT _ _ _ _ ((p2 &&& (65535 : Int32)).toUInt32.toUInt16.toUInt32.toInt32) _ _ One.u One.u X213 (Fr.nil n0) (by rw [e213]; exact (Keep.refl h0 [])) (by decide) (by decide) hv215 hv232
    · refine own_st (fun t k => XS.ifYes X213.here hx rfl (pc0 := 32) (pc' := 45) rfl (hb hby at_32) rfl ((if0 _ _).trans (feq hc214).2) (by decide) (by decide) k) ?_
      show own_E p e below _ T213 (mkF m 45 #[iv p1, iv p2, iv p3, rv aLENIENT, iv 0, .unset, .unset, .unset, .unset] [])
      refine own_st (fun t k => XS.bipush X213.here hx rfl (hb hby at_45) k) ?_
      show own_E p e below _ T213 (mkF m 47 #[iv p1, iv p2, iv p3, rv aLENIENT, iv 0, .unset, .unset, .unset, .unset] [.int 9])
      obtain ⟨T250, h250, k250, X250, e250, E250, A250, st250⟩ := newP X213 hx hZ (own_w hw 13 rfl) e213 (g := (mkF m 47 #[iv p1, iv p2, iv p3, rv aLENIENT, iv 0, .unset, .unset, .unset, .unset] [.int 9])) rfl (hb hby at_47) rfl (by decide) (cap := 9) (by decide) (by decide) (by decide) (by decide)
      obtain ⟨b250, g250⟩ : ∃ z, z = h0.size := ⟨_, rfl⟩
      rw [← g250] at A250 st250
      have ne_aLENIENT_b250 : aLENIENT ≠ b250 := Nat.ne_of_lt (Nat.lt_of_lt_of_le E_LENIENT.lt (Nat.le_of_eq g250.symm))
      have ne_aSTRICT_b250 : aSTRICT ≠ b250 := Nat.ne_of_lt (Nat.lt_of_lt_of_le E_STRICT.lt (Nat.le_of_eq g250.symm))
      have g_b250 : n0 ≤ b250 := Nat.le_trans Z0 (Nat.le_of_eq g250.symm)
      have sz_b250 : h0.size ≤ b250 := Nat.le_trans (Keep.refl h0 []).1 (Nat.le_of_eq g250.symm)
      have Z251 := Nat.le_trans Z0 E250.1
      have K252 : Keep h0 _ [] := (Keep.refl h0 []).ext E250
      have V250 : Arv Z h250 b250 k250 .int (9 : Int32) [(.int (0 : Int32)), (.int (0 : Int32)), (.int (0 : Int32)), (.int (0 : Int32)), (.int (0 : Int32)), (.int (0 : Int32)), (.int (0 : Int32)), (.int (0 : Int32)), (.int (0 : Int32))] (.int (0 : Int32)) := (Arv.new A250 (by decide)).pad (pad_rep [] (.int (0 : Int32)) 9)
      refine own_st st250 ?_
      show own_E p e below _ T250 (mkF m 49 #[iv p1, iv p2, iv p3, rv aLENIENT, iv 0, .unset, .unset, .unset, .unset] [.ref b250])
      refine own_st (fun t k => XS.dup X250.here hx rfl (hb hby at_49) rfl rfl k) ?_
      show own_E p e below _ T250 (mkF m 50 #[iv p1, iv p2, iv p3, rv aLENIENT, iv 0, .unset, .unset, .unset, .unset] [.ref b250, .ref b250])
      refine own_st (fun t k => XS.iconst X250.here hx rfl (hb hby at_50) k) ?_
      show own_E p e below _ T250 (mkF m 51 #[iv p1, iv p2, iv p3, rv aLENIENT, iv 0, .unset, .unset, .unset, .unset] [.int 0, .ref b250, .ref b250])
      refine own_st (fun t k => XS.sipush X250.here hx rfl (hb hby at_51) k) ?_
      show own_E p e below _ T250 (mkF m 54 #[iv p1, iv p2, iv p3, rv aLENIENT, iv 0, .unset, .unset, .unset, .unset] [.int 160, .int 0, .ref b250, .ref b250])
      obtain ⟨T253, h253, X253, e253, W253, Vw253, st253⟩ := own_ast X250 hx hZ e250 V250 (j := (0 : Int32)) ⟨by decide, by decide⟩ (x := (160 : Int32)) (i := 0) rfl (Nat.le_of_ble_eq_true rfl) (g := (mkF m 54 #[iv p1, iv p2, iv p3, rv aLENIENT, iv 0, .unset, .unset, .unset, .unset] [.int 160, .int 0, .ref b250, .ref b250])) rfl rfl (hb hby at_54)
      have V253 : Arv Z h253 b250 k250 .int (9 : Int32) [(.int (160 : Int32)), (.int (0 : Int32)), (.int (0 : Int32)), (.int (0 : Int32)), (.int (0 : Int32)), (.int (0 : Int32)), (.int (0 : Int32)), (.int (0 : Int32)), (.int (0 : Int32))] (.int (0 : Int32)) := Vw253
      have N253 := Fr.snoc X253 (Fr.nil n0) g_b250
      have Z254 := Nat.le_trans Z251 (Keep.of_wr W253).1
      have K255 : Keep h0 _ [] := K252.wr W253 (Or.inr sz_b250)
      refine own_st st253 ?_
      show own_E p e below _ T253 (mkF m 55 #[iv p1, iv p2, iv p3, rv aLENIENT, iv 0, .unset, .unset, .unset, .unset] [.ref b250])
      refine own_st (fun t k => XS.dup X253.here hx rfl (hb hby at_55) rfl rfl k) ?_
      show own_E p e below _ T253 (mkF m 56 #[iv p1, iv p2, iv p3, rv aLENIENT, iv 0, .unset, .unset, .unset, .unset] [.ref b250, .ref b250])
      refine own_st (fun t k => XS.iconst X253.here hx rfl (hb hby at_56) k) ?_
      show own_E p e below _ T253 (mkF m 57 #[iv p1, iv p2, iv p3, rv aLENIENT, iv 0, .unset, .unset, .unset, .unset] [.int 1, .ref b250, .ref b250])
      refine own_st (fun t k => XS.sipush X253.here hx rfl (hb hby at_57) k) ?_
      show own_E p e below _ T253 (mkF m 60 #[iv p1, iv p2, iv p3, rv aLENIENT, iv 0, .unset, .unset, .unset, .unset] [.int 8199, .int 1, .ref b250, .ref b250])
      obtain ⟨T256, h256, X256, e256, W256, Vw256, st256⟩ := own_ast X253 hx hZ e253 V253 (j := (1 : Int32)) ⟨by decide, by decide⟩ (x := (8199 : Int32)) (i := 1) rfl (Nat.le_of_ble_eq_true rfl) (g := (mkF m 60 #[iv p1, iv p2, iv p3, rv aLENIENT, iv 0, .unset, .unset, .unset, .unset] [.int 8199, .int 1, .ref b250, .ref b250])) rfl rfl (hb hby at_60)
      have V256 : Arv Z h256 b250 k250 .int (9 : Int32) [(.int (160 : Int32)), (.int (8199 : Int32)), (.int (0 : Int32)), (.int (0 : Int32)), (.int (0 : Int32)), (.int (0 : Int32)), (.int (0 : Int32)), (.int (0 : Int32)), (.int (0 : Int32))] (.int (0 : Int32)) := Vw256
      have N256 := Fr.snoc X256 N253 g_b250
      have Z257 := Nat.le_trans Z254 (Keep.of_wr W256).1
      have K258 : Keep h0 _ [] := K255.wr W256 (Or.inr sz_b250)
      refine own_st st256 ?_
      show own_E p e below _ T256 (mkF m 61 #[iv p1, iv p2, iv p3, rv aLENIENT, iv 0, .unset, .unset, .unset, .unset] [.ref b250])
      refine own_st (fun t k => XS.dup X256.here hx rfl (hb hby at_61) rfl rfl k) ?_
      show own_E p e below _ T256 (mkF m 62 #[iv p1, iv p2, iv p3, rv aLENIENT, iv 0, .unset, .unset, .unset, .unset] [.ref b250, .ref b250])
      refine own_st (fun t k => XS.iconst X256.here hx rfl (hb hby at_62) k) ?_
      show own_E p e below _ T256 (mkF m 63 #[iv p1, iv p2, iv p3, rv aLENIENT, iv 0, .unset, .unset, .unset, .unset] [.int 2, .ref b250, .ref b250])
      refine own_st (fun t k => XS.sipush X256.here hx rfl (hb hby at_63) k) ?_
      show own_E p e below _ T256 (mkF m 66 #[iv p1, iv p2, iv p3, rv aLENIENT, iv 0, .unset, .unset, .unset, .unset] [.int 8208, .int 2, .ref b250, .ref b250])
      obtain ⟨T259, h259, X259, e259, W259, Vw259, st259⟩ := own_ast X256 hx hZ e256 V256 (j := (2 : Int32)) ⟨by decide, by decide⟩ (x := (8208 : Int32)) (i := 2) rfl (Nat.le_of_ble_eq_true rfl) (g := (mkF m 66 #[iv p1, iv p2, iv p3, rv aLENIENT, iv 0, .unset, .unset, .unset, .unset] [.int 8208, .int 2, .ref b250, .ref b250])) rfl rfl (hb hby at_66)
      have V259 : Arv Z h259 b250 k250 .int (9 : Int32) [(.int (160 : Int32)), (.int (8199 : Int32)), (.int (8208 : Int32)), (.int (0 : Int32)), (.int (0 : Int32)), (.int (0 : Int32)), (.int (0 : Int32)), (.int (0 : Int32)), (.int (0 : Int32))] (.int (0 : Int32)) := Vw259
      have N259 := Fr.snoc X259 N256 g_b250
      have Z260 := Nat.le_trans Z257 (Keep.of_wr W259).1
      have K261 : Keep h0 _ [] := K258.wr W259 (Or.inr sz_b250)
      refine own_st st259 ?_
      show own_E p e below _ T259 (mkF m 67 #[iv p1, iv p2, iv p3, rv aLENIENT, iv 0, .unset, .unset, .unset, .unset] [.ref b250])
      refine own_st (fun t k => XS.dup X259.here hx rfl (hb hby at_67) rfl rfl k) ?_
      show own_E p e below _ T259 (mkF m 68 #[iv p1, iv p2, iv p3, rv aLENIENT, iv 0, .unset, .unset, .unset, .unset] [.ref b250, .ref b250])
      refine own_st (fun t k => XS.iconst X259.here hx rfl (hb hby at_68) k) ?_
      show own_E p e below _ T259 (mkF m 69 #[iv p1, iv p2, iv p3, rv aLENIENT, iv 0, .unset, .unset, .unset, .unset] [.int 3, .ref b250, .ref b250])
      refine own_st (fun t k => XS.sipush X259.here hx rfl (hb hby at_69) k) ?_
      show own_E p e below _ T259 (mkF m 72 #[iv p1, iv p2, iv p3, rv aLENIENT, iv 0, .unset, .unset, .unset, .unset] [.int 8213, .int 3, .ref b250, .ref b250])
      obtain ⟨T262, h262, X262, e262, W262, Vw262, st262⟩ := own_ast X259 hx hZ e259 V259 (j := (3 : Int32)) ⟨by decide, by decide⟩ (x := (8213 : Int32)) (i := 3) rfl (Nat.le_of_ble_eq_true rfl) (g := (mkF m 72 #[iv p1, iv p2, iv p3, rv aLENIENT, iv 0, .unset, .unset, .unset, .unset] [.int 8213, .int 3, .ref b250, .ref b250])) rfl rfl (hb hby at_72)
      have V262 : Arv Z h262 b250 k250 .int (9 : Int32) [(.int (160 : Int32)), (.int (8199 : Int32)), (.int (8208 : Int32)), (.int (8213 : Int32)), (.int (0 : Int32)), (.int (0 : Int32)), (.int (0 : Int32)), (.int (0 : Int32)), (.int (0 : Int32))] (.int (0 : Int32)) := Vw262
      have N262 := Fr.snoc X262 N259 g_b250
      have Z263 := Nat.le_trans Z260 (Keep.of_wr W262).1
      have K264 : Keep h0 _ [] := K261.wr W262 (Or.inr sz_b250)
      refine own_st st262 ?_
      show own_E p e below _ T262 (mkF m 73 #[iv p1, iv p2, iv p3, rv aLENIENT, iv 0, .unset, .unset, .unset, .unset] [.ref b250])
      refine own_st (fun t k => XS.dup X262.here hx rfl (hb hby at_73) rfl rfl k) ?_
      show own_E p e below _ T262 (mkF m 74 #[iv p1, iv p2, iv p3, rv aLENIENT, iv 0, .unset, .unset, .unset, .unset] [.ref b250, .ref b250])
      refine own_st (fun t k => XS.iconst X262.here hx rfl (hb hby at_74) k) ?_
      show own_E p e below _ T262 (mkF m 75 #[iv p1, iv p2, iv p3, rv aLENIENT, iv 0, .unset, .unset, .unset, .unset] [.int 4, .ref b250, .ref b250])
      refine own_st (fun t k => XS.sipush X262.here hx rfl (hb hby at_75) k) ?_
      show own_E p e below _ T262 (mkF m 78 #[iv p1, iv p2, iv p3, rv aLENIENT, iv 0, .unset, .unset, .unset, .unset] [.int 8239, .int 4, .ref b250, .ref b250])
      obtain ⟨T265, h265, X265, e265, W265, Vw265, st265⟩ := own_ast X262 hx hZ e262 V262 (j := (4 : Int32)) ⟨by decide, by decide⟩ (x := (8239 : Int32)) (i := 4) rfl (Nat.le_of_ble_eq_true rfl) (g := (mkF m 78 #[iv p1, iv p2, iv p3, rv aLENIENT, iv 0, .unset, .unset, .unset, .unset] [.int 8239, .int 4, .ref b250, .ref b250])) rfl rfl (hb hby at_78)
      have V265 : Arv Z h265 b250 k250 .int (9 : Int32) [(.int (160 : Int32)), (.int (8199 : Int32)), (.int (8208 : Int32)), (.int (8213 : Int32)), (.int (8239 : Int32)), (.int (0 : Int32)), (.int (0 : Int32)), (.int (0 : Int32)), (.int (0 : Int32))] (.int (0 : Int32)) := Vw265
      have N265 := Fr.snoc X265 N262 g_b250
      have Z266 := Nat.le_trans Z263 (Keep.of_wr W265).1
      have K267 : Keep h0 _ [] := K264.wr W265 (Or.inr sz_b250)
      refine own_st st265 ?_
      show own_E p e below _ T265 (mkF m 79 #[iv p1, iv p2, iv p3, rv aLENIENT, iv 0, .unset, .unset, .unset, .unset] [.ref b250])
      refine own_st (fun t k => XS.dup X265.here hx rfl (hb hby at_79) rfl rfl k) ?_
      show own_E p e below _ T265 (mkF m 80 #[iv p1, iv p2, iv p3, rv aLENIENT, iv 0, .unset, .unset, .unset, .unset] [.ref b250, .ref b250])
      refine own_st (fun t k => XS.iconst X265.here hx rfl (hb hby at_80) k) ?_
      show own_E p e below _ T265 (mkF m 81 #[iv p1, iv p2, iv p3, rv aLENIENT, iv 0, .unset, .unset, .unset, .unset] [.int 5, .ref b250, .ref b250])
      refine own_st (fun t k => XS.sipush X265.here hx rfl (hb hby at_81) k) ?_
      show own_E p e below _ T265 (mkF m 84 #[iv p1, iv p2, iv p3, rv aLENIENT, iv 0, .unset, .unset, .unset, .unset] [.int 8722, .int 5, .ref b250, .ref b250])
      obtain ⟨T268, h268, X268, e268, W268, Vw268, st268⟩ := own_ast X265 hx hZ e265 V265 (j := (5 : Int32)) ⟨by decide, by decide⟩ (x := (8722 : Int32)) (i := 5) rfl (Nat.le_of_ble_eq_true rfl) (g := (mkF m 84 #[iv p1, iv p2, iv p3, rv aLENIENT, iv 0, .unset, .unset, .unset, .unset] [.int 8722, .int 5, .ref b250, .ref b250])) rfl rfl (hb hby at_84)
      have V268 : Arv Z h268 b250 k250 .int (9 : Int32) [(.int (160 : Int32)), (.int (8199 : Int32)), (.int (8208 : Int32)), (.int (8213 : Int32)), (.int (8239 : Int32)), (.int (8722 : Int32)), (.int (0 : Int32)), (.int (0 : Int32)), (.int (0 : Int32))] (.int (0 : Int32)) := Vw268
      have N268 := Fr.snoc X268 N265 g_b250
      have Z269 := Nat.le_trans Z266 (Keep.of_wr W268).1
      have K270 : Keep h0 _ [] := K267.wr W268 (Or.inr sz_b250)
      refine own_st st268 ?_
      show own_E p e below _ T268 (mkF m 85 #[iv p1, iv p2, iv p3, rv aLENIENT, iv 0, .unset, .unset, .unset, .unset] [.ref b250])
      refine own_st (fun t k => XS.dup X268.here hx rfl (hb hby at_85) rfl rfl k) ?_
      show own_E p e below _ T268 (mkF m 86 #[iv p1, iv p2, iv p3, rv aLENIENT, iv 0, .unset, .unset, .unset, .unset] [.ref b250, .ref b250])
      refine own_st (fun t k => XS.bipush X268.here hx rfl (hb hby at_86) k) ?_
      show own_E p e below _ T268 (mkF m 88 #[iv p1, iv p2, iv p3, rv aLENIENT, iv 0, .unset, .unset, .unset, .unset] [.int 6, .ref b250, .ref b250])
      refine own_st (fun t k => XS.sipush X268.here hx rfl (hb hby at_88) k) ?_
      show own_E p e below _ T268 (mkF m 91 #[iv p1, iv p2, iv p3, rv aLENIENT, iv 0, .unset, .unset, .unset, .unset] [.int 12288, .int 6, .ref b250, .ref b250])
      obtain ⟨T271, h271, X271, e271, W271, Vw271, st271⟩ := own_ast X268 hx hZ e268 V268 (j := (6 : Int32)) ⟨by decide, by decide⟩ (x := (12288 : Int32)) (i := 6) rfl (Nat.le_of_ble_eq_true rfl) (g := (mkF m 91 #[iv p1, iv p2, iv p3, rv aLENIENT, iv 0, .unset, .unset, .unset, .unset] [.int 12288, .int 6, .ref b250, .ref b250])) rfl rfl (hb hby at_91)
      have V271 : Arv Z h271 b250 k250 .int (9 : Int32) [(.int (160 : Int32)), (.int (8199 : Int32)), (.int (8208 : Int32)), (.int (8213 : Int32)), (.int (8239 : Int32)), (.int (8722 : Int32)), (.int (12288 : Int32)), (.int (0 : Int32)), (.int (0 : Int32))] (.int (0 : Int32)) := Vw271
      have N271 := Fr.snoc X271 N268 g_b250
      have Z272 := Nat.le_trans Z269 (Keep.of_wr W271).1
      have K273 : Keep h0 _ [] := K270.wr W271 (Or.inr sz_b250)
      refine own_st st271 ?_
      show own_E p e below _ T271 (mkF m 92 #[iv p1, iv p2, iv p3, rv aLENIENT, iv 0, .unset, .unset, .unset, .unset] [.ref b250])
      refine own_st (fun t k => XS.dup X271.here hx rfl (hb hby at_92) rfl rfl k) ?_
      show own_E p e below _ T271 (mkF m 93 #[iv p1, iv p2, iv p3, rv aLENIENT, iv 0, .unset, .unset, .unset, .unset] [.ref b250, .ref b250])
      refine own_st (fun t k => XS.bipush X271.here hx rfl (hb hby at_93) k) ?_
      show own_E p e below _ T271 (mkF m 95 #[iv p1, iv p2, iv p3, rv aLENIENT, iv 0, .unset, .unset, .unset, .unset] [.int 7, .ref b250, .ref b250])
      refine own_st (X271.ldcInt hx hown (mvT hZ (own_w hw 4 rfl)) (g := (mkF m 95 #[iv p1, iv p2, iv p3, rv aLENIENT, iv 0, .unset, .unset, .unset, .unset] [.int 7, .ref b250, .ref b250])) rfl (hb hby at_95)) ?_
      show own_E p e below _ T271 (mkF m 97 #[iv p1, iv p2, iv p3, rv aLENIENT, iv 0, .unset, .unset, .unset, .unset] [.int 65281, .int 7, .ref b250, .ref b250])
      obtain ⟨T274, h274, X274, e274, W274, Vw274, st274⟩ := own_ast X271 hx hZ e271 V271 (j := (7 : Int32)) ⟨by decide, by decide⟩ (x := (65281 : Int32)) (i := 7) rfl (Nat.le_of_ble_eq_true rfl) (g := (mkF m 97 #[iv p1, iv p2, iv p3, rv aLENIENT, iv 0, .unset, .unset, .unset, .unset] [.int 65281, .int 7, .ref b250, .ref b250])) rfl rfl (hb hby at_97)
      have V274 : Arv Z h274 b250 k250 .int (9 : Int32) [(.int (160 : Int32)), (.int (8199 : Int32)), (.int (8208 : Int32)), (.int (8213 : Int32)), (.int (8239 : Int32)), (.int (8722 : Int32)), (.int (12288 : Int32)), (.int (65281 : Int32)), (.int (0 : Int32))] (.int (0 : Int32)) := Vw274
      have N274 := Fr.snoc X274 N271 g_b250
      have Z275 := Nat.le_trans Z272 (Keep.of_wr W274).1
      have K276 : Keep h0 _ [] := K273.wr W274 (Or.inr sz_b250)
      refine own_st st274 ?_
      show own_E p e below _ T274 (mkF m 98 #[iv p1, iv p2, iv p3, rv aLENIENT, iv 0, .unset, .unset, .unset, .unset] [.ref b250])
      refine own_st (fun t k => XS.dup X274.here hx rfl (hb hby at_98) rfl rfl k) ?_
      show own_E p e below _ T274 (mkF m 99 #[iv p1, iv p2, iv p3, rv aLENIENT, iv 0, .unset, .unset, .unset, .unset] [.ref b250, .ref b250])
      refine own_st (fun t k => XS.bipush X274.here hx rfl (hb hby at_99) k) ?_
      show own_E p e below _ T274 (mkF m 101 #[iv p1, iv p2, iv p3, rv aLENIENT, iv 0, .unset, .unset, .unset, .unset] [.int 8, .ref b250, .ref b250])
      refine own_st (X274.ldcInt hx hown (mvT hZ (own_w hw 14 rfl)) (g := (mkF m 101 #[iv p1, iv p2, iv p3, rv aLENIENT, iv 0, .unset, .unset, .unset, .unset] [.int 8, .ref b250, .ref b250])) rfl (hb hby at_101)) ?_
      show own_E p e below _ T274 (mkF m 103 #[iv p1, iv p2, iv p3, rv aLENIENT, iv 0, .unset, .unset, .unset, .unset] [.int 65374, .int 8, .ref b250, .ref b250])
      obtain ⟨T277, h277, X277, e277, W277, Vw277, st277⟩ := own_ast X274 hx hZ e274 V274 (j := (8 : Int32)) ⟨by decide, by decide⟩ (x := (65374 : Int32)) (i := 8) rfl (Nat.le_of_ble_eq_true rfl) (g := (mkF m 103 #[iv p1, iv p2, iv p3, rv aLENIENT, iv 0, .unset, .unset, .unset, .unset] [.int 65374, .int 8, .ref b250, .ref b250])) rfl rfl (hb hby at_103)
      have V277 : Arv Z h277 b250 k250 .int (9 : Int32) [(.int (160 : Int32)), (.int (8199 : Int32)), (.int (8208 : Int32)), (.int (8213 : Int32)), (.int (8239 : Int32)), (.int (8722 : Int32)), (.int (12288 : Int32)), (.int (65281 : Int32)), (.int (65374 : Int32))] (.int (0 : Int32)) := Vw277
      have N277 := Fr.snoc X277 N274 g_b250
      have Z278 := Nat.le_trans Z275 (Keep.of_wr W277).1
      have K279 : Keep h0 _ [] := K276.wr W277 (Or.inr sz_b250)
      refine own_st st277 ?_
      show own_E p e below _ T277 (mkF m 104 #[iv p1, iv p2, iv p3, rv aLENIENT, iv 0, .unset, .unset, .unset, .unset] [.ref b250])
      refine own_st (fun t k => XS.astore X277.here hx rfl (hb hby at_104) rfl rfl (l' := #[iv p1, iv p2, iv p3, rv aLENIENT, iv 0, .unset, rv b250, .unset, .unset]) rfl k) ?_
      show own_E p e below _ T277 (mkF m 106 #[iv p1, iv p2, iv p3, rv aLENIENT, iv 0, .unset, rv b250, .unset, .unset] [])
      refine own_st (fun t k => XS.aload X277.here hx rfl (hb hby at_106) rfl rfl k) ?_
      show own_E p e below _ T277 (mkF m 108 #[iv p1, iv p2, iv p3, rv aLENIENT, iv 0, .unset, rv b250, .unset, .unset] [.ref b250])
      refine own_st (fun t k => XS.iloadN X277.here hx rfl (hb hby at_108) rfl k) ?_
      show own_E p e below _ T277 (mkF m 109 #[iv p1, iv p2, iv p3, rv aLENIENT, iv 0, .unset, rv b250, .unset, .unset] [.int p1, .ref b250])
      refine own_st (fun t k => XS.iconst X277.here hx rfl (hb hby at_109) k) ?_
      show own_E p e below _ T277 (mkF m 110 #[iv p1, iv p2, iv p3, rv aLENIENT, iv 0, .unset, rv b250, .unset, .unset] [.int 1, .int p1, .ref b250])
      refine own_st (fun t k => XS.iushr X277.here hx rfl (hb hby at_110) rfl k) ?_
      show own_E p e below _ T277 (mkF m 111 #[iv p1, iv p2, iv p3, rv aLENIENT, iv 0, .unset, rv b250, .unset, .unset] [.int ((p1.toUInt32 >>> ((1 : Int32) &&& 31).toUInt32).toInt32), .ref b250])
      refine own_st (X277.ldcInt hx hown (mvT hZ (own_w hw 15 rfl)) (g := (mkF m 111 #[iv p1, iv p2, iv p3, rv aLENIENT, iv 0, .unset, rv b250, .unset, .unset] [.int ((p1.toUInt32 >>> ((1 : Int32) &&& 31).toUInt32).toInt32), .ref b250])) rfl (hb hby at_111)) ?_
      show own_E p e below _ T277 (mkF m 113 #[iv p1, iv p2, iv p3, rv aLENIENT, iv 0, .unset, rv b250, .unset, .unset] [.int 2147483647, .int ((p1.toUInt32 >>> ((1 : Int32) &&& 31).toUInt32).toInt32), .ref b250])
      refine own_st (fun t k => XS.iand X277.here hx rfl (hb hby at_113) rfl k) ?_
      show own_E p e below _ T277 (mkF m 114 #[iv p1, iv p2, iv p3, rv aLENIENT, iv 0, .unset, rv b250, .unset, .unset] [.int (((p1.toUInt32 >>> ((1 : Int32) &&& 31).toUInt32).toInt32) &&& (2147483647 : Int32)), .ref b250])
      refine own_st (fun t k => XS.bipush X277.here hx rfl (hb hby at_114) k) ?_
      show own_E p e below _ T277 (mkF m 116 #[iv p1, iv p2, iv p3, rv aLENIENT, iv 0, .unset, rv b250, .unset, .unset] [.int 9, .int (((p1.toUInt32 >>> ((1 : Int32) &&& 31).toUInt32).toInt32) &&& (2147483647 : Int32)), .ref b250])
      refine own_st (fun t k => iremM X277 hx rfl (hb hby at_116) rfl (by decide) k) ?_
      show own_E p e below _ T277 (mkF m 117 #[iv p1, iv p2, iv p3, rv aLENIENT, iv 0, .unset, rv b250, .unset, .unset] [.int ((((p1.toUInt32 >>> ((1 : Int32) &&& 31).toUInt32).toInt32) &&& (2147483647 : Int32)) % (9 : Int32)), .ref b250])
      rcases own_mod9 p1 with hs280 | hs280 | hs280 | hs280 | hs280 | hs280 | hs280 | hs280 | hs280
      · rw [hs280]
        show own_E p e below _ T277 (mkF m 117 #[iv p1, iv p2, iv p3, rv aLENIENT, iv 0, .unset, rv b250, .unset, .unset] [.int 0, .ref b250])
        refine own_st (own_ald X277 hx hZ e277 V277 (j := (0 : Int32)) ⟨by decide, by decide⟩ (v := (.int (160 : Int32))) rfl (g := (mkF m 117 #[iv p1, iv p2, iv p3, rv aLENIENT, iv 0, .unset, rv b250, .unset, .unset] [.int 0, .ref b250])) rfl rfl (hb hby at_117)) ?_
        show own_E p e below _ T277 (mkF m 118 #[iv p1, iv p2, iv p3, rv aLENIENT, iv 0, .unset, rv b250, .unset, .unset] [.int 160])
        refine own_st (fun t k => XS.istore X277.here hx rfl (hb hby at_118) rfl (l' := #[iv p1, iv p2, iv p3, rv aLENIENT, iv 0, .unset, rv b250, iv 160, .unset]) rfl k) ?_
        show own_E p e below _ T277 (mkF m 120 #[iv p1, iv p2, iv p3, rv aLENIENT, iv 0, .unset, rv b250, iv 160, .unset] [])
        refine own_st (fun t k => XS.iload X277.here hx rfl (hb hby at_120) rfl k) ?_
        show own_E p e below _ T277 (mkF m 122 #[iv p1, iv p2, iv p3, rv aLENIENT, iv 0, .unset, rv b250, iv 160, .unset] [.int 160])
        refine own_st (fun t k => XS.iloadN X277.here hx rfl (hb hby at_122) rfl k) ?_
        show own_E p e below _ T277 (mkF m 123 #[iv p1, iv p2, iv p3, rv aLENIENT, iv 0, .unset, rv b250, iv 160, .unset] [.int p2, .int 160])
        refine own_st (fun t k => XS.iconst X277.here hx rfl (hb hby at_123) k) ?_
        show own_E p e below _ T277 (mkF m 124 #[iv p1, iv p2, iv p3, rv aLENIENT, iv 0, .unset, rv b250, iv 160, .unset] [.int 3, .int p2, .int 160])
        refine own_st (fun t k => iremM X277 hx rfl (hb hby at_124) rfl (by decide) k) ?_
        show own_E p e below _ T277 (mkF m 125 #[iv p1, iv p2, iv p3, rv aLENIENT, iv 0, .unset, rv b250, iv 160, .unset] [.int (p2 % (3 : Int32)), .int 160])
        refine own_st (fun t k => XS.iadd X277.here hx rfl (hb hby at_125) rfl k) ?_
        show own_E p e below _ T277 (mkF m 126 #[iv p1, iv p2, iv p3, rv aLENIENT, iv 0, .unset, rv b250, iv 160, .unset] [.int ((160 : Int32) + (p2 % (3 : Int32)))])
        refine own_st (X277.ldcInt hx hown (mvT hZ (own_w hw 3 rfl)) (g := (mkF m 126 #[iv p1, iv p2, iv p3, rv aLENIENT, iv 0, .unset, rv b250, iv 160, .unset] [.int ((160 : Int32) + (p2 % (3 : Int32)))])) rfl (hb hby at_126)) ?_
        show own_E p e below _ T277 (mkF m 128 #[iv p1, iv p2, iv p3, rv aLENIENT, iv 0, .unset, rv b250, iv 160, .unset] [.int 65535, .int ((160 : Int32) + (p2 % (3 : Int32)))])
        refine own_st (fun t k => XS.iand X277.here hx rfl (hb hby at_128) rfl k) ?_
        show own_E p e below _ T277 (mkF m 129 #[iv p1, iv p2, iv p3, rv aLENIENT, iv 0, .unset, rv b250, iv 160, .unset] [.int (((160 : Int32) + (p2 % (3 : Int32))) &&& (65535 : Int32))])
        refine own_st (fun t k => XS.i2c X277.here hx rfl (hb hby at_129) rfl k) ?_
        show own_E p e below _ T277 (mkF m 130 #[iv p1, iv p2, iv p3, rv aLENIENT, iv 0, .unset, rv b250, iv 160, .unset] [.int ((((160 : Int32) + (p2 % (3 : Int32))) &&& (65535 : Int32)).toUInt32.toUInt16.toUInt32.toInt32)])
        refine own_st (fun t k => XS.istore X277.here hx rfl (hb hby at_130) rfl (l' := #[iv p1, iv p2, iv p3, rv aLENIENT, iv 0, iv ((((160 : Int32) + (p2 % (3 : Int32))) &&& (65535 : Int32)).toUInt32.toUInt16.toUInt32.toInt32), rv b250, iv 160, .unset]) rfl k) ?_
        show own_E p e below _ T277 (mkF m 132 #[iv p1, iv p2, iv p3, rv aLENIENT, iv 0, iv ((((160 : Int32) + (p2 % (3 : Int32))) &&& (65535 : Int32)).toUInt32.toUInt16.toUInt32.toInt32), rv b250, iv 160, .unset] [])
        have hv281 : ¬ (((((160 : Int32) + (p2 % (3 : Int32))) &&& (65535 : Int32)).toUInt32.toUInt16.toUInt32.toInt32) < (0 : Int32)) := by
          rw [Int32.lt_iff_toInt_lt]
          have f282 := rng32 p3
          have f283 : (1 : Int32).toInt = 1 := rfl
          have f284 := rng32 (p3 &&& (1 : Int32))
          have f285 : (p3 &&& (1 : Int32)).toInt = p3.toInt % 2 := c_mask p3 (1 : Int32) 1 (by decide) (by decide)
          have f286 : (0 : Int32).toInt = 0 := rfl
          have f287 := rng32 p1
          have f288 := rng32 (p1 &&& (1 : Int32))
          have f289 : (p1 &&& (1 : Int32)).toInt = p1.toInt % 2 := c_mask p1 (1 : Int32) 1 (by decide) (by decide)
          have f290 := rng32 ((p1.toUInt32 >>> ((1 : Int32) &&& 31).toUInt32).toInt32)
          have f291 : ((p1.toUInt32 >>> ((1 : Int32) &&& 31).toUInt32).toInt32).toInt = (p1.toInt % 4294967296) / 2 := c_iushr p1 (1 : Int32) 1 (by decide) (by decide)
          have f292 : (2147483647 : Int32).toInt = 2147483647 := rfl
          have f293 := rng32 (((p1.toUInt32 >>> ((1 : Int32) &&& 31).toUInt32).toInt32) &&& (2147483647 : Int32))
          have f294 : (((p1.toUInt32 >>> ((1 : Int32) &&& 31).toUInt32).toInt32) &&& (2147483647 : Int32)).toInt = ((p1.toUInt32 >>> ((1 : Int32) &&& 31).toUInt32).toInt32).toInt % 2147483648 := c_mask ((p1.toUInt32 >>> ((1 : Int32) &&& 31).toUInt32).toInt32) (2147483647 : Int32) 31 (by decide) (by decide)
          have f295 : (9 : Int32).toInt = 9 := rfl
          have f296 := rng32 ((((p1.toUInt32 >>> ((1 : Int32) &&& 31).toUInt32).toInt32) &&& (2147483647 : Int32)) % (9 : Int32))
          have f297 := c_irem (((p1.toUInt32 >>> ((1 : Int32) &&& 31).toUInt32).toInt32) &&& (2147483647 : Int32)) (9 : Int32) 9 rfl
          have f298 : (160 : Int32).toInt = 160 := rfl
          have f299 := rng32 p2
          have f300 : (3 : Int32).toInt = 3 := rfl
          have f301 := rng32 (p2 % (3 : Int32))
          have f302 := c_irem p2 (3 : Int32) 3 rfl
          have f303 := rng32 ((160 : Int32) + (p2 % (3 : Int32)))
          have f304 : ((160 : Int32) + (p2 % (3 : Int32))).toInt = (160 : Int32).toInt + (p2 % (3 : Int32)).toInt := by have h := c_iadd (160 : Int32) (p2 % (3 : Int32)); omega
          have f305 : (65535 : Int32).toInt = 65535 := rfl
          have f306 := rng32 (((160 : Int32) + (p2 % (3 : Int32))) &&& (65535 : Int32))
          have f307 : (((160 : Int32) + (p2 % (3 : Int32))) &&& (65535 : Int32)).toInt = ((160 : Int32) + (p2 % (3 : Int32))).toInt % 65536 := c_mask ((160 : Int32) + (p2 % (3 : Int32))) (65535 : Int32) 16 (by decide) (by decide)
          have f308 := rng32 ((((160 : Int32) + (p2 % (3 : Int32))) &&& (65535 : Int32)).toUInt32.toUInt16.toUInt32.toInt32)
          have f309 := c_i2c (((160 : Int32) + (p2 % (3 : Int32))) &&& (65535 : Int32))
          have g310 := hc212
          rw [← Int32.toInt_inj] at g310
          have g311 := hc214
          rw [← Int32.toInt_inj] at g311
          have g312 := hs280
          rw [← Int32.toInt_inj] at g312
          omega
        have hv313 : ((((160 : Int32) + (p2 % (3 : Int32))) &&& (65535 : Int32)).toUInt32.toUInt16.toUInt32.toInt32) < (65536 : Int32) := by
          rw [Int32.lt_iff_toInt_lt]
          have f314 := rng32 p3
          have f315 : (1 : Int32).toInt = 1 := rfl
          have f316 := rng32 (p3 &&& (1 : Int32))
          have f317 : (p3 &&& (1 : Int32)).toInt = p3.toInt % 2 := c_mask p3 (1 : Int32) 1 (by decide) (by decide)
          have f318 : (0 : Int32).toInt = 0 := rfl
          have f319 := rng32 p1
          have f320 := rng32 (p1 &&& (1 : Int32))
          have f321 : (p1 &&& (1 : Int32)).toInt = p1.toInt % 2 := c_mask p1 (1 : Int32) 1 (by decide) (by decide)
          have f322 := rng32 ((p1.toUInt32 >>> ((1 : Int32) &&& 31).toUInt32).toInt32)
          have f323 : ((p1.toUInt32 >>> ((1 : Int32) &&& 31).toUInt32).toInt32).toInt = (p1.toInt % 4294967296) / 2 := c_iushr p1 (1 : Int32) 1 (by decide) (by decide)
          have f324 : (2147483647 : Int32).toInt = 2147483647 := rfl
          have f325 := rng32 (((p1.toUInt32 >>> ((1 : Int32) &&& 31).toUInt32).toInt32) &&& (2147483647 : Int32))
          have f326 : (((p1.toUInt32 >>> ((1 : Int32) &&& 31).toUInt32).toInt32) &&& (2147483647 : Int32)).toInt = ((p1.toUInt32 >>> ((1 : Int32) &&& 31).toUInt32).toInt32).toInt % 2147483648 := c_mask ((p1.toUInt32 >>> ((1 : Int32) &&& 31).toUInt32).toInt32) (2147483647 : Int32) 31 (by decide) (by decide)
          have f327 : (9 : Int32).toInt = 9 := rfl
          have f328 := rng32 ((((p1.toUInt32 >>> ((1 : Int32) &&& 31).toUInt32).toInt32) &&& (2147483647 : Int32)) % (9 : Int32))
          have f329 := c_irem (((p1.toUInt32 >>> ((1 : Int32) &&& 31).toUInt32).toInt32) &&& (2147483647 : Int32)) (9 : Int32) 9 rfl
          have f330 : (160 : Int32).toInt = 160 := rfl
          have f331 := rng32 p2
          have f332 : (3 : Int32).toInt = 3 := rfl
          have f333 := rng32 (p2 % (3 : Int32))
          have f334 := c_irem p2 (3 : Int32) 3 rfl
          have f335 := rng32 ((160 : Int32) + (p2 % (3 : Int32)))
          have f336 : ((160 : Int32) + (p2 % (3 : Int32))).toInt = (160 : Int32).toInt + (p2 % (3 : Int32)).toInt := by have h := c_iadd (160 : Int32) (p2 % (3 : Int32)); omega
          have f337 : (65535 : Int32).toInt = 65535 := rfl
          have f338 := rng32 (((160 : Int32) + (p2 % (3 : Int32))) &&& (65535 : Int32))
          have f339 : (((160 : Int32) + (p2 % (3 : Int32))) &&& (65535 : Int32)).toInt = ((160 : Int32) + (p2 % (3 : Int32))).toInt % 65536 := c_mask ((160 : Int32) + (p2 % (3 : Int32))) (65535 : Int32) 16 (by decide) (by decide)
          have f340 := rng32 ((((160 : Int32) + (p2 % (3 : Int32))) &&& (65535 : Int32)).toUInt32.toUInt16.toUInt32.toInt32)
          have f341 := c_i2c (((160 : Int32) + (p2 % (3 : Int32))) &&& (65535 : Int32))
          have f342 : (65536 : Int32).toInt = 65536 := rfl
          have g343 := hc212
          rw [← Int32.toInt_inj] at g343
          have g344 := hc214
          rw [← Int32.toInt_inj] at g344
          have g345 := hs280
          rw [← Int32.toInt_inj] at g345
          omega
        exact tailLENIENT _ _ _ _ ((((160 : Int32) + (p2 % (3 : Int32))) &&& (65535 : Int32)).toUInt32.toUInt16.toUInt32.toInt32) _ _ (One.val rfl) (One.val rfl) X277 N277 (by rw [e277]; exact K279) (by decide) (by decide) hv281 hv313
      · rw [hs280]
        show own_E p e below _ T277 (mkF m 117 #[iv p1, iv p2, iv p3, rv aLENIENT, iv 0, .unset, rv b250, .unset, .unset] [.int 1, .ref b250])
        refine own_st (own_ald X277 hx hZ e277 V277 (j := (1 : Int32)) ⟨by decide, by decide⟩ (v := (.int (8199 : Int32))) rfl (g := (mkF m 117 #[iv p1, iv p2, iv p3, rv aLENIENT, iv 0, .unset, rv b250, .unset, .unset] [.int 1, .ref b250])) rfl rfl (hb hby at_117)) ?_
        show own_E p e below _ T277 (mkF m 118 #[iv p1, iv p2, iv p3, rv aLENIENT, iv 0, .unset, rv b250, .unset, .unset] [.int 8199])
        refine own_st (fun t k => XS.istore X277.here hx rfl (hb hby at_118) rfl (l' := #[iv p1, iv p2, iv p3, rv aLENIENT, iv 0, .unset, rv b250, iv 8199, .unset]) rfl k) ?_
        show own_E p e below _ T277 (mkF m 120 #[iv p1, iv p2, iv p3, rv aLENIENT, iv 0, .unset, rv b250, iv 8199, .unset] [])
        refine own_st (fun t k => XS.iload X277.here hx rfl (hb hby at_120) rfl k) ?_
        show own_E p e below _ T277 (mkF m 122 #[iv p1, iv p2, iv p3, rv aLENIENT, iv 0, .unset, rv b250, iv 8199, .unset] [.int 8199])
        refine own_st (fun t k => XS.iloadN X277.here hx rfl (hb hby at_122) rfl k) ?_
        show own_E p e below _ T277 (mkF m 123 #[iv p1, iv p2, iv p3, rv aLENIENT, iv 0, .unset, rv b250, iv 8199, .unset] [.int p2, .int 8199])
        refine own_st (fun t k => XS.iconst X277.here hx rfl (hb hby at_123) k) ?_
        show own_E p e below _ T277 (mkF m 124 #[iv p1, iv p2, iv p3, rv aLENIENT, iv 0, .unset, rv b250, iv 8199, .unset] [.int 3, .int p2, .int 8199])
        refine own_st (fun t k => iremM X277 hx rfl (hb hby at_124) rfl (by decide) k) ?_
        show own_E p e below _ T277 (mkF m 125 #[iv p1, iv p2, iv p3, rv aLENIENT, iv 0, .unset, rv b250, iv 8199, .unset] [.int (p2 % (3 : Int32)), .int 8199])
        refine own_st (fun t k => XS.iadd X277.here hx rfl (hb hby at_125) rfl k) ?_
        show own_E p e below _ T277 (mkF m 126 #[iv p1, iv p2, iv p3, rv aLENIENT, iv 0, .unset, rv b250, iv 8199, .unset] [.int ((8199 : Int32) + (p2 % (3 : Int32)))])
        refine own_st (X277.ldcInt hx hown (mvT hZ (own_w hw 3 rfl)) (g := (mkF m 126 #[iv p1, iv p2, iv p3, rv aLENIENT, iv 0, .unset, rv b250, iv 8199, .unset] [.int ((8199 : Int32) + (p2 % (3 : Int32)))])) rfl (hb hby at_126)) ?_
        show own_E p e below _ T277 (mkF m 128 #[iv p1, iv p2, iv p3, rv aLENIENT, iv 0, .unset, rv b250, iv 8199, .unset] [.int 65535, .int ((8199 : Int32) + (p2 % (3 : Int32)))])
        refine own_st (fun t k => XS.iand X277.here hx rfl (hb hby at_128) rfl k) ?_
        show own_E p e below _ T277 (mkF m 129 #[iv p1, iv p2, iv p3, rv aLENIENT, iv 0, .unset, rv b250, iv 8199, .unset] [.int (((8199 : Int32) + (p2 % (3 : Int32))) &&& (65535 : Int32))])
        refine own_st (fun t k => XS.i2c X277.here hx rfl (hb hby at_129) rfl k) ?_
        show own_E p e below _ T277 (mkF m 130 #[iv p1, iv p2, iv p3, rv aLENIENT, iv 0, .unset, rv b250, iv 8199, .unset] [.int ((((8199 : Int32) + (p2 % (3 : Int32))) &&& (65535 : Int32)).toUInt32.toUInt16.toUInt32.toInt32)])
        refine own_st (fun t k => XS.istore X277.here hx rfl (hb hby at_130) rfl (l' := #[iv p1, iv p2, iv p3, rv aLENIENT, iv 0, iv ((((8199 : Int32) + (p2 % (3 : Int32))) &&& (65535 : Int32)).toUInt32.toUInt16.toUInt32.toInt32), rv b250, iv 8199, .unset]) rfl k) ?_
        show own_E p e below _ T277 (mkF m 132 #[iv p1, iv p2, iv p3, rv aLENIENT, iv 0, iv ((((8199 : Int32) + (p2 % (3 : Int32))) &&& (65535 : Int32)).toUInt32.toUInt16.toUInt32.toInt32), rv b250, iv 8199, .unset] [])
        have hv346 : ¬ (((((8199 : Int32) + (p2 % (3 : Int32))) &&& (65535 : Int32)).toUInt32.toUInt16.toUInt32.toInt32) < (0 : Int32)) := by
          rw [Int32.lt_iff_toInt_lt]
          have f347 := rng32 p3
          have f348 : (1 : Int32).toInt = 1 := rfl
          have f349 := rng32 (p3 &&& (1 : Int32))
          have f350 : (p3 &&& (1 : Int32)).toInt = p3.toInt % 2 := c_mask p3 (1 : Int32) 1 (by decide) (by decide)
          have f351 : (0 : Int32).toInt = 0 := rfl
          have f352 := rng32 p1
          have f353 := rng32 (p1 &&& (1 : Int32))
          have f354 : (p1 &&& (1 : Int32)).toInt = p1.toInt % 2 := c_mask p1 (1 : Int32) 1 (by decide) (by decide)
          have f355 := rng32 ((p1.toUInt32 >>> ((1 : Int32) &&& 31).toUInt32).toInt32)
          have f356 : ((p1.toUInt32 >>> ((1 : Int32) &&& 31).toUInt32).toInt32).toInt = (p1.toInt % 4294967296) / 2 := c_iushr p1 (1 : Int32) 1 (by decide) (by decide)
          have f357 : (2147483647 : Int32).toInt = 2147483647 := rfl
          have f358 := rng32 (((p1.toUInt32 >>> ((1 : Int32) &&& 31).toUInt32).toInt32) &&& (2147483647 : Int32))
          have f359 : (((p1.toUInt32 >>> ((1 : Int32) &&& 31).toUInt32).toInt32) &&& (2147483647 : Int32)).toInt = ((p1.toUInt32 >>> ((1 : Int32) &&& 31).toUInt32).toInt32).toInt % 2147483648 := c_mask ((p1.toUInt32 >>> ((1 : Int32) &&& 31).toUInt32).toInt32) (2147483647 : Int32) 31 (by decide) (by decide)
          have f360 : (9 : Int32).toInt = 9 := rfl
          have f361 := rng32 ((((p1.toUInt32 >>> ((1 : Int32) &&& 31).toUInt32).toInt32) &&& (2147483647 : Int32)) % (9 : Int32))
          have f362 := c_irem (((p1.toUInt32 >>> ((1 : Int32) &&& 31).toUInt32).toInt32) &&& (2147483647 : Int32)) (9 : Int32) 9 rfl
          have f363 : (8199 : Int32).toInt = 8199 := rfl
          have f364 := rng32 p2
          have f365 : (3 : Int32).toInt = 3 := rfl
          have f366 := rng32 (p2 % (3 : Int32))
          have f367 := c_irem p2 (3 : Int32) 3 rfl
          have f368 := rng32 ((8199 : Int32) + (p2 % (3 : Int32)))
          have f369 : ((8199 : Int32) + (p2 % (3 : Int32))).toInt = (8199 : Int32).toInt + (p2 % (3 : Int32)).toInt := by have h := c_iadd (8199 : Int32) (p2 % (3 : Int32)); omega
          have f370 : (65535 : Int32).toInt = 65535 := rfl
          have f371 := rng32 (((8199 : Int32) + (p2 % (3 : Int32))) &&& (65535 : Int32))
          have f372 : (((8199 : Int32) + (p2 % (3 : Int32))) &&& (65535 : Int32)).toInt = ((8199 : Int32) + (p2 % (3 : Int32))).toInt % 65536 := c_mask ((8199 : Int32) + (p2 % (3 : Int32))) (65535 : Int32) 16 (by decide) (by decide)
          have f373 := rng32 ((((8199 : Int32) + (p2 % (3 : Int32))) &&& (65535 : Int32)).toUInt32.toUInt16.toUInt32.toInt32)
          have f374 := c_i2c (((8199 : Int32) + (p2 % (3 : Int32))) &&& (65535 : Int32))
          have g375 := hc212
          rw [← Int32.toInt_inj] at g375
          have g376 := hc214
          rw [← Int32.toInt_inj] at g376
          have g377 := hs280
          rw [← Int32.toInt_inj] at g377
          omega
        have hv378 : ((((8199 : Int32) + (p2 % (3 : Int32))) &&& (65535 : Int32)).toUInt32.toUInt16.toUInt32.toInt32) < (65536 : Int32) := by
          rw [Int32.lt_iff_toInt_lt]
          have f379 := rng32 p3
          have f380 : (1 : Int32).toInt = 1 := rfl
          have f381 := rng32 (p3 &&& (1 : Int32))
          have f382 : (p3 &&& (1 : Int32)).toInt = p3.toInt % 2 := c_mask p3 (1 : Int32) 1 (by decide) (by decide)
          have f383 : (0 : Int32).toInt = 0 := rfl
          have f384 := rng32 p1
          have f385 := rng32 (p1 &&& (1 : Int32))
          have f386 : (p1 &&& (1 : Int32)).toInt = p1.toInt % 2 := c_mask p1 (1 : Int32) 1 (by decide) (by decide)
          have f387 := rng32 ((p1.toUInt32 >>> ((1 : Int32) &&& 31).toUInt32).toInt32)
          have f388 : ((p1.toUInt32 >>> ((1 : Int32) &&& 31).toUInt32).toInt32).toInt = (p1.toInt % 4294967296) / 2 := c_iushr p1 (1 : Int32) 1 (by decide) (by decide)
          have f389 : (2147483647 : Int32).toInt = 2147483647 := rfl
          have f390 := rng32 (((p1.toUInt32 >>> ((1 : Int32) &&& 31).toUInt32).toInt32) &&& (2147483647 : Int32))
          have f391 : (((p1.toUInt32 >>> ((1 : Int32) &&& 31).toUInt32).toInt32) &&& (2147483647 : Int32)).toInt = ((p1.toUInt32 >>> ((1 : Int32) &&& 31).toUInt32).toInt32).toInt % 2147483648 := c_mask ((p1.toUInt32 >>> ((1 : Int32) &&& 31).toUInt32).toInt32) (2147483647 : Int32) 31 (by decide) (by decide)
          have f392 : (9 : Int32).toInt = 9 := rfl
          have f393 := rng32 ((((p1.toUInt32 >>> ((1 : Int32) &&& 31).toUInt32).toInt32) &&& (2147483647 : Int32)) % (9 : Int32))
          have f394 := c_irem (((p1.toUInt32 >>> ((1 : Int32) &&& 31).toUInt32).toInt32) &&& (2147483647 : Int32)) (9 : Int32) 9 rfl
          have f395 : (8199 : Int32).toInt = 8199 := rfl
          have f396 := rng32 p2
          have f397 : (3 : Int32).toInt = 3 := rfl
          have f398 := rng32 (p2 % (3 : Int32))
          have f399 := c_irem p2 (3 : Int32) 3 rfl
          have f400 := rng32 ((8199 : Int32) + (p2 % (3 : Int32)))
          have f401 : ((8199 : Int32) + (p2 % (3 : Int32))).toInt = (8199 : Int32).toInt + (p2 % (3 : Int32)).toInt := by have h := c_iadd (8199 : Int32) (p2 % (3 : Int32)); omega
          have f402 : (65535 : Int32).toInt = 65535 := rfl
          have f403 := rng32 (((8199 : Int32) + (p2 % (3 : Int32))) &&& (65535 : Int32))
          have f404 : (((8199 : Int32) + (p2 % (3 : Int32))) &&& (65535 : Int32)).toInt = ((8199 : Int32) + (p2 % (3 : Int32))).toInt % 65536 := c_mask ((8199 : Int32) + (p2 % (3 : Int32))) (65535 : Int32) 16 (by decide) (by decide)
          have f405 := rng32 ((((8199 : Int32) + (p2 % (3 : Int32))) &&& (65535 : Int32)).toUInt32.toUInt16.toUInt32.toInt32)
          have f406 := c_i2c (((8199 : Int32) + (p2 % (3 : Int32))) &&& (65535 : Int32))
          have f407 : (65536 : Int32).toInt = 65536 := rfl
          have g408 := hc212
          rw [← Int32.toInt_inj] at g408
          have g409 := hc214
          rw [← Int32.toInt_inj] at g409
          have g410 := hs280
          rw [← Int32.toInt_inj] at g410
          omega
        exact tailLENIENT _ _ _ _ ((((8199 : Int32) + (p2 % (3 : Int32))) &&& (65535 : Int32)).toUInt32.toUInt16.toUInt32.toInt32) _ _ (One.val rfl) (One.val rfl) X277 N277 (by rw [e277]; exact K279) (by decide) (by decide) hv346 hv378
      · rw [hs280]
        show own_E p e below _ T277 (mkF m 117 #[iv p1, iv p2, iv p3, rv aLENIENT, iv 0, .unset, rv b250, .unset, .unset] [.int 2, .ref b250])
        refine own_st (own_ald X277 hx hZ e277 V277 (j := (2 : Int32)) ⟨by decide, by decide⟩ (v := (.int (8208 : Int32))) rfl (g := (mkF m 117 #[iv p1, iv p2, iv p3, rv aLENIENT, iv 0, .unset, rv b250, .unset, .unset] [.int 2, .ref b250])) rfl rfl (hb hby at_117)) ?_
        show own_E p e below _ T277 (mkF m 118 #[iv p1, iv p2, iv p3, rv aLENIENT, iv 0, .unset, rv b250, .unset, .unset] [.int 8208])
        refine own_st (fun t k => XS.istore X277.here hx rfl (hb hby at_118) rfl (l' := #[iv p1, iv p2, iv p3, rv aLENIENT, iv 0, .unset, rv b250, iv 8208, .unset]) rfl k) ?_
        show own_E p e below _ T277 (mkF m 120 #[iv p1, iv p2, iv p3, rv aLENIENT, iv 0, .unset, rv b250, iv 8208, .unset] [])
        refine own_st (fun t k => XS.iload X277.here hx rfl (hb hby at_120) rfl k) ?_
        show own_E p e below _ T277 (mkF m 122 #[iv p1, iv p2, iv p3, rv aLENIENT, iv 0, .unset, rv b250, iv 8208, .unset] [.int 8208])
        refine own_st (fun t k => XS.iloadN X277.here hx rfl (hb hby at_122) rfl k) ?_
        show own_E p e below _ T277 (mkF m 123 #[iv p1, iv p2, iv p3, rv aLENIENT, iv 0, .unset, rv b250, iv 8208, .unset] [.int p2, .int 8208])
        refine own_st (fun t k => XS.iconst X277.here hx rfl (hb hby at_123) k) ?_
        show own_E p e below _ T277 (mkF m 124 #[iv p1, iv p2, iv p3, rv aLENIENT, iv 0, .unset, rv b250, iv 8208, .unset] [.int 3, .int p2, .int 8208])
        refine own_st (fun t k => iremM X277 hx rfl (hb hby at_124) rfl (by decide) k) ?_
        show own_E p e below _ T277 (mkF m 125 #[iv p1, iv p2, iv p3, rv aLENIENT, iv 0, .unset, rv b250, iv 8208, .unset] [.int (p2 % (3 : Int32)), .int 8208])
        refine own_st (fun t k => XS.iadd X277.here hx rfl (hb hby at_125) rfl k) ?_
        show own_E p e below _ T277 (mkF m 126 #[iv p1, iv p2, iv p3, rv aLENIENT, iv 0, .unset, rv b250, iv 8208, .unset] [.int ((8208 : Int32) + (p2 % (3 : Int32)))])
        refine own_st (X277.ldcInt hx hown (mvT hZ (own_w hw 3 rfl)) (g := (mkF m 126 #[iv p1, iv p2, iv p3, rv aLENIENT, iv 0, .unset, rv b250, iv 8208, .unset] [.int ((8208 : Int32) + (p2 % (3 : Int32)))])) rfl (hb hby at_126)) ?_
        show own_E p e below _ T277 (mkF m 128 #[iv p1, iv p2, iv p3, rv aLENIENT, iv 0, .unset, rv b250, iv 8208, .unset] [.int 65535, .int ((8208 : Int32) + (p2 % (3 : Int32)))])
        refine own_st (fun t k => XS.iand X277.here hx rfl (hb hby at_128) rfl k) ?_
        show own_E p e below _ T277 (mkF m 129 #[iv p1, iv p2, iv p3, rv aLENIENT, iv 0, .unset, rv b250, iv 8208, .unset] [.int (((8208 : Int32) + (p2 % (3 : Int32))) &&& (65535 : Int32))])
        refine own_st (fun t k => XS.i2c X277.here hx rfl (hb hby at_129) rfl k) ?_
        show own_E p e below _ T277 (mkF m 130 #[iv p1, iv p2, iv p3, rv aLENIENT, iv 0, .unset, rv b250, iv 8208, .unset] [.int ((((8208 : Int32) + (p2 % (3 : Int32))) &&& (65535 : Int32)).toUInt32.toUInt16.toUInt32.toInt32)])
        refine own_st (fun t k => XS.istore X277.here hx rfl (hb hby at_130) rfl (l' := #[iv p1, iv p2, iv p3, rv aLENIENT, iv 0, iv ((((8208 : Int32) + (p2 % (3 : Int32))) &&& (65535 : Int32)).toUInt32.toUInt16.toUInt32.toInt32), rv b250, iv 8208, .unset]) rfl k) ?_
        show own_E p e below _ T277 (mkF m 132 #[iv p1, iv p2, iv p3, rv aLENIENT, iv 0, iv ((((8208 : Int32) + (p2 % (3 : Int32))) &&& (65535 : Int32)).toUInt32.toUInt16.toUInt32.toInt32), rv b250, iv 8208, .unset] [])
        have hv411 : ¬ (((((8208 : Int32) + (p2 % (3 : Int32))) &&& (65535 : Int32)).toUInt32.toUInt16.toUInt32.toInt32) < (0 : Int32)) := by
          rw [Int32.lt_iff_toInt_lt]
          have f412 := rng32 p3
          have f413 : (1 : Int32).toInt = 1 := rfl
          have f414 := rng32 (p3 &&& (1 : Int32))
          have f415 : (p3 &&& (1 : Int32)).toInt = p3.toInt % 2 := c_mask p3 (1 : Int32) 1 (by decide) (by decide)
          have f416 : (0 : Int32).toInt = 0 := rfl
          have f417 := rng32 p1
          have f418 := rng32 (p1 &&& (1 : Int32))
          have f419 : (p1 &&& (1 : Int32)).toInt = p1.toInt % 2 := c_mask p1 (1 : Int32) 1 (by decide) (by decide)
          have f420 := rng32 ((p1.toUInt32 >>> ((1 : Int32) &&& 31).toUInt32).toInt32)
          have f421 : ((p1.toUInt32 >>> ((1 : Int32) &&& 31).toUInt32).toInt32).toInt = (p1.toInt % 4294967296) / 2 := c_iushr p1 (1 : Int32) 1 (by decide) (by decide)
          have f422 : (2147483647 : Int32).toInt = 2147483647 := rfl
          have f423 := rng32 (((p1.toUInt32 >>> ((1 : Int32) &&& 31).toUInt32).toInt32) &&& (2147483647 : Int32))
          have f424 : (((p1.toUInt32 >>> ((1 : Int32) &&& 31).toUInt32).toInt32) &&& (2147483647 : Int32)).toInt = ((p1.toUInt32 >>> ((1 : Int32) &&& 31).toUInt32).toInt32).toInt % 2147483648 := c_mask ((p1.toUInt32 >>> ((1 : Int32) &&& 31).toUInt32).toInt32) (2147483647 : Int32) 31 (by decide) (by decide)
          have f425 : (9 : Int32).toInt = 9 := rfl
          have f426 := rng32 ((((p1.toUInt32 >>> ((1 : Int32) &&& 31).toUInt32).toInt32) &&& (2147483647 : Int32)) % (9 : Int32))
          have f427 := c_irem (((p1.toUInt32 >>> ((1 : Int32) &&& 31).toUInt32).toInt32) &&& (2147483647 : Int32)) (9 : Int32) 9 rfl
          have f428 : (2 : Int32).toInt = 2 := rfl
          have f429 : (8208 : Int32).toInt = 8208 := rfl
          have f430 := rng32 p2
          have f431 : (3 : Int32).toInt = 3 := rfl
          have f432 := rng32 (p2 % (3 : Int32))
          have f433 := c_irem p2 (3 : Int32) 3 rfl
          have f434 := rng32 ((8208 : Int32) + (p2 % (3 : Int32)))
          have f435 : ((8208 : Int32) + (p2 % (3 : Int32))).toInt = (8208 : Int32).toInt + (p2 % (3 : Int32)).toInt := by have h := c_iadd (8208 : Int32) (p2 % (3 : Int32)); omega
          have f436 : (65535 : Int32).toInt = 65535 := rfl
          have f437 := rng32 (((8208 : Int32) + (p2 % (3 : Int32))) &&& (65535 : Int32))
          have f438 : (((8208 : Int32) + (p2 % (3 : Int32))) &&& (65535 : Int32)).toInt = ((8208 : Int32) + (p2 % (3 : Int32))).toInt % 65536 := c_mask ((8208 : Int32) + (p2 % (3 : Int32))) (65535 : Int32) 16 (by decide) (by decide)
          have f439 := rng32 ((((8208 : Int32) + (p2 % (3 : Int32))) &&& (65535 : Int32)).toUInt32.toUInt16.toUInt32.toInt32)
          have f440 := c_i2c (((8208 : Int32) + (p2 % (3 : Int32))) &&& (65535 : Int32))
          have g441 := hc212
          rw [← Int32.toInt_inj] at g441
          have g442 := hc214
          rw [← Int32.toInt_inj] at g442
          have g443 := hs280
          rw [← Int32.toInt_inj] at g443
          omega
        have hv444 : ((((8208 : Int32) + (p2 % (3 : Int32))) &&& (65535 : Int32)).toUInt32.toUInt16.toUInt32.toInt32) < (65536 : Int32) := by
          rw [Int32.lt_iff_toInt_lt]
          have f445 := rng32 p3
          have f446 : (1 : Int32).toInt = 1 := rfl
          have f447 := rng32 (p3 &&& (1 : Int32))
          have f448 : (p3 &&& (1 : Int32)).toInt = p3.toInt % 2 := c_mask p3 (1 : Int32) 1 (by decide) (by decide)
          have f449 : (0 : Int32).toInt = 0 := rfl
          have f450 := rng32 p1
          have f451 := rng32 (p1 &&& (1 : Int32))
          have f452 : (p1 &&& (1 : Int32)).toInt = p1.toInt % 2 := c_mask p1 (1 : Int32) 1 (by decide) (by decide)
          have f453 := rng32 ((p1.toUInt32 >>> ((1 : Int32) &&& 31).toUInt32).toInt32)
          have f454 : ((p1.toUInt32 >>> ((1 : Int32) &&& 31).toUInt32).toInt32).toInt = (p1.toInt % 4294967296) / 2 := c_iushr p1 (1 : Int32) 1 (by decide) (by decide)
          have f455 : (2147483647 : Int32).toInt = 2147483647 := rfl
          have f456 := rng32 (((p1.toUInt32 >>> ((1 : Int32) &&& 31).toUInt32).toInt32) &&& (2147483647 : Int32))
          have f457 : (((p1.toUInt32 >>> ((1 : Int32) &&& 31).toUInt32).toInt32) &&& (2147483647 : Int32)).toInt = ((p1.toUInt32 >>> ((1 : Int32) &&& 31).toUInt32).toInt32).toInt % 2147483648 := c_mask ((p1.toUInt32 >>> ((1 : Int32) &&& 31).toUInt32).toInt32) (2147483647 : Int32) 31 (by decide) (by decide)
          have f458 : (9 : Int32).toInt = 9 := rfl
          have f459 := rng32 ((((p1.toUInt32 >>> ((1 : Int32) &&& 31).toUInt32).toInt32) &&& (2147483647 : Int32)) % (9 : Int32))
          have f460 := c_irem (((p1.toUInt32 >>> ((1 : Int32) &&& 31).toUInt32).toInt32) &&& (2147483647 : Int32)) (9 : Int32) 9 rfl
          have f461 : (2 : Int32).toInt = 2 := rfl
          have f462 : (8208 : Int32).toInt = 8208 := rfl
          have f463 := rng32 p2
          have f464 : (3 : Int32).toInt = 3 := rfl
          have f465 := rng32 (p2 % (3 : Int32))
          have f466 := c_irem p2 (3 : Int32) 3 rfl
          have f467 := rng32 ((8208 : Int32) + (p2 % (3 : Int32)))
          have f468 : ((8208 : Int32) + (p2 % (3 : Int32))).toInt = (8208 : Int32).toInt + (p2 % (3 : Int32)).toInt := by have h := c_iadd (8208 : Int32) (p2 % (3 : Int32)); omega
          have f469 : (65535 : Int32).toInt = 65535 := rfl
          have f470 := rng32 (((8208 : Int32) + (p2 % (3 : Int32))) &&& (65535 : Int32))
          have f471 : (((8208 : Int32) + (p2 % (3 : Int32))) &&& (65535 : Int32)).toInt = ((8208 : Int32) + (p2 % (3 : Int32))).toInt % 65536 := c_mask ((8208 : Int32) + (p2 % (3 : Int32))) (65535 : Int32) 16 (by decide) (by decide)
          have f472 := rng32 ((((8208 : Int32) + (p2 % (3 : Int32))) &&& (65535 : Int32)).toUInt32.toUInt16.toUInt32.toInt32)
          have f473 := c_i2c (((8208 : Int32) + (p2 % (3 : Int32))) &&& (65535 : Int32))
          have f474 : (65536 : Int32).toInt = 65536 := rfl
          have g475 := hc212
          rw [← Int32.toInt_inj] at g475
          have g476 := hc214
          rw [← Int32.toInt_inj] at g476
          have g477 := hs280
          rw [← Int32.toInt_inj] at g477
          omega
        exact tailLENIENT _ _ _ _ ((((8208 : Int32) + (p2 % (3 : Int32))) &&& (65535 : Int32)).toUInt32.toUInt16.toUInt32.toInt32) _ _ (One.val rfl) (One.val rfl) X277 N277 (by rw [e277]; exact K279) (by decide) (by decide) hv411 hv444
      · rw [hs280]
        show own_E p e below _ T277 (mkF m 117 #[iv p1, iv p2, iv p3, rv aLENIENT, iv 0, .unset, rv b250, .unset, .unset] [.int 3, .ref b250])
        refine own_st (own_ald X277 hx hZ e277 V277 (j := (3 : Int32)) ⟨by decide, by decide⟩ (v := (.int (8213 : Int32))) rfl (g := (mkF m 117 #[iv p1, iv p2, iv p3, rv aLENIENT, iv 0, .unset, rv b250, .unset, .unset] [.int 3, .ref b250])) rfl rfl (hb hby at_117)) ?_
        show own_E p e below _ T277 (mkF m 118 #[iv p1, iv p2, iv p3, rv aLENIENT, iv 0, .unset, rv b250, .unset, .unset] [.int 8213])
        refine own_st (fun t k => XS.istore X277.here hx rfl (hb hby at_118) rfl (l' := #[iv p1, iv p2, iv p3, rv aLENIENT, iv 0, .unset, rv b250, iv 8213, .unset]) rfl k) ?_
        show own_E p e below _ T277 (mkF m 120 #[iv p1, iv p2, iv p3, rv aLENIENT, iv 0, .unset, rv b250, iv 8213, .unset] [])
        refine own_st (fun t k => XS.iload X277.here hx rfl (hb hby at_120) rfl k) ?_
        show own_E p e below _ T277 (mkF m 122 #[iv p1, iv p2, iv p3, rv aLENIENT, iv 0, .unset, rv b250, iv 8213, .unset] [.int 8213])
        refine own_st (fun t k => XS.iloadN X277.here hx rfl (hb hby at_122) rfl k) ?_
        show own_E p e below _ T277 (mkF m 123 #[iv p1, iv p2, iv p3, rv aLENIENT, iv 0, .unset, rv b250, iv 8213, .unset] [.int p2, .int 8213])
        refine own_st (fun t k => XS.iconst X277.here hx rfl (hb hby at_123) k) ?_
        show own_E p e below _ T277 (mkF m 124 #[iv p1, iv p2, iv p3, rv aLENIENT, iv 0, .unset, rv b250, iv 8213, .unset] [.int 3, .int p2, .int 8213])
        refine own_st (fun t k => iremM X277 hx rfl (hb hby at_124) rfl (by decide) k) ?_
        show own_E p e below _ T277 (mkF m 125 #[iv p1, iv p2, iv p3, rv aLENIENT, iv 0, .unset, rv b250, iv 8213, .unset] [.int (p2 % (3 : Int32)), .int 8213])
        refine own_st (fun t k => XS.iadd X277.here hx rfl (hb hby at_125) rfl k) ?_
        show own_E p e below _ T277 (mkF m 126 #[iv p1, iv p2, iv p3, rv aLENIENT, iv 0, .unset, rv b250, iv 8213, .unset] [.int ((8213 : Int32) + (p2 % (3 : Int32)))])
        refine own_st (X277.ldcInt hx hown (mvT hZ (own_w hw 3 rfl)) (g := (mkF m 126 #[iv p1, iv p2, iv p3, rv aLENIENT, iv 0, .unset, rv b250, iv 8213, .unset] [.int ((8213 : Int32) + (p2 % (3 : Int32)))])) rfl (hb hby at_126)) ?_
        show own_E p e below _ T277 (mkF m 128 #[iv p1, iv p2, iv p3, rv aLENIENT, iv 0, .unset, rv b250, iv 8213, .unset] [.int 65535, .int ((8213 : Int32) + (p2 % (3 : Int32)))])
        refine own_st (fun t k => XS.iand X277.here hx rfl (hb hby at_128) rfl k) ?_
        show own_E p e below _ T277 (mkF m 129 #[iv p1, iv p2, iv p3, rv aLENIENT, iv 0, .unset, rv b250, iv 8213, .unset] [.int (((8213 : Int32) + (p2 % (3 : Int32))) &&& (65535 : Int32))])
        refine own_st (fun t k => XS.i2c X277.here hx rfl (hb hby at_129) rfl k) ?_
        show own_E p e below _ T277 (mkF m 130 #[iv p1, iv p2, iv p3, rv aLENIENT, iv 0, .unset, rv b250, iv 8213, .unset] [.int ((((8213 : Int32) + (p2 % (3 : Int32))) &&& (65535 : Int32)).toUInt32.toUInt16.toUInt32.toInt32)])
        refine own_st (fun t k => XS.istore X277.here hx rfl (hb hby at_130) rfl (l' := #[iv p1, iv p2, iv p3, rv aLENIENT, iv 0, iv ((((8213 : Int32) + (p2 % (3 : Int32))) &&& (65535 : Int32)).toUInt32.toUInt16.toUInt32.toInt32), rv b250, iv 8213, .unset]) rfl k) ?_
        show own_E p e below _ T277 (mkF m 132 #[iv p1, iv p2, iv p3, rv aLENIENT, iv 0, iv ((((8213 : Int32) + (p2 % (3 : Int32))) &&& (65535 : Int32)).toUInt32.toUInt16.toUInt32.toInt32), rv b250, iv 8213, .unset] [])
        have hv478 : ¬ (((((8213 : Int32) + (p2 % (3 : Int32))) &&& (65535 : Int32)).toUInt32.toUInt16.toUInt32.toInt32) < (0 : Int32)) := by
          rw [Int32.lt_iff_toInt_lt]
          have f479 := rng32 p3
          have f480 : (1 : Int32).toInt = 1 := rfl
          have f481 := rng32 (p3 &&& (1 : Int32))
          have f482 : (p3 &&& (1 : Int32)).toInt = p3.toInt % 2 := c_mask p3 (1 : Int32) 1 (by decide) (by decide)
          have f483 : (0 : Int32).toInt = 0 := rfl
          have f484 := rng32 p1
          have f485 := rng32 (p1 &&& (1 : Int32))
          have f486 : (p1 &&& (1 : Int32)).toInt = p1.toInt % 2 := c_mask p1 (1 : Int32) 1 (by decide) (by decide)
          have f487 := rng32 ((p1.toUInt32 >>> ((1 : Int32) &&& 31).toUInt32).toInt32)
          have f488 : ((p1.toUInt32 >>> ((1 : Int32) &&& 31).toUInt32).toInt32).toInt = (p1.toInt % 4294967296) / 2 := c_iushr p1 (1 : Int32) 1 (by decide) (by decide)
          have f489 : (2147483647 : Int32).toInt = 2147483647 := rfl
          have f490 := rng32 (((p1.toUInt32 >>> ((1 : Int32) &&& 31).toUInt32).toInt32) &&& (2147483647 : Int32))
          have f491 : (((p1.toUInt32 >>> ((1 : Int32) &&& 31).toUInt32).toInt32) &&& (2147483647 : Int32)).toInt = ((p1.toUInt32 >>> ((1 : Int32) &&& 31).toUInt32).toInt32).toInt % 2147483648 := c_mask ((p1.toUInt32 >>> ((1 : Int32) &&& 31).toUInt32).toInt32) (2147483647 : Int32) 31 (by decide) (by decide)
          have f492 : (9 : Int32).toInt = 9 := rfl
          have f493 := rng32 ((((p1.toUInt32 >>> ((1 : Int32) &&& 31).toUInt32).toInt32) &&& (2147483647 : Int32)) % (9 : Int32))
          have f494 := c_irem (((p1.toUInt32 >>> ((1 : Int32) &&& 31).toUInt32).toInt32) &&& (2147483647 : Int32)) (9 : Int32) 9 rfl
          have f495 : (3 : Int32).toInt = 3 := rfl
          have f496 : (8213 : Int32).toInt = 8213 := rfl
          have f497 := rng32 p2
          have f498 := rng32 (p2 % (3 : Int32))
          have f499 := c_irem p2 (3 : Int32) 3 rfl
          have f500 := rng32 ((8213 : Int32) + (p2 % (3 : Int32)))
          have f501 : ((8213 : Int32) + (p2 % (3 : Int32))).toInt = (8213 : Int32).toInt + (p2 % (3 : Int32)).toInt := by have h := c_iadd (8213 : Int32) (p2 % (3 : Int32)); omega
          have f502 : (65535 : Int32).toInt = 65535 := rfl
          have f503 := rng32 (((8213 : Int32) + (p2 % (3 : Int32))) &&& (65535 : Int32))
          have f504 : (((8213 : Int32) + (p2 % (3 : Int32))) &&& (65535 : Int32)).toInt = ((8213 : Int32) + (p2 % (3 : Int32))).toInt % 65536 := c_mask ((8213 : Int32) + (p2 % (3 : Int32))) (65535 : Int32) 16 (by decide) (by decide)
          have f505 := rng32 ((((8213 : Int32) + (p2 % (3 : Int32))) &&& (65535 : Int32)).toUInt32.toUInt16.toUInt32.toInt32)
          have f506 := c_i2c (((8213 : Int32) + (p2 % (3 : Int32))) &&& (65535 : Int32))
          have g507 := hc212
          rw [← Int32.toInt_inj] at g507
          have g508 := hc214
          rw [← Int32.toInt_inj] at g508
          have g509 := hs280
          rw [← Int32.toInt_inj] at g509
          omega
        have hv510 : ((((8213 : Int32) + (p2 % (3 : Int32))) &&& (65535 : Int32)).toUInt32.toUInt16.toUInt32.toInt32) < (65536 : Int32) := by
          rw [Int32.lt_iff_toInt_lt]
          have f511 := rng32 p3
          have f512 : (1 : Int32).toInt = 1 := rfl
          have f513 := rng32 (p3 &&& (1 : Int32))
          have f514 : (p3 &&& (1 : Int32)).toInt = p3.toInt % 2 := c_mask p3 (1 : Int32) 1 (by decide) (by decide)
          have f515 : (0 : Int32).toInt = 0 := rfl
          have f516 := rng32 p1
          have f517 := rng32 (p1 &&& (1 : Int32))
          have f518 : (p1 &&& (1 : Int32)).toInt = p1.toInt % 2 := c_mask p1 (1 : Int32) 1 (by decide) (by decide)
          have f519 := rng32 ((p1.toUInt32 >>> ((1 : Int32) &&& 31).toUInt32).toInt32)
          have f520 : ((p1.toUInt32 >>> ((1 : Int32) &&& 31).toUInt32).toInt32).toInt = (p1.toInt % 4294967296) / 2 := c_iushr p1 (1 : Int32) 1 (by decide) (by decide)
          have f521 : (2147483647 : Int32).toInt = 2147483647 := rfl
          have f522 := rng32 (((p1.toUInt32 >>> ((1 : Int32) &&& 31).toUInt32).toInt32) &&& (2147483647 : Int32))
          have f523 : (((p1.toUInt32 >>> ((1 : Int32) &&& 31).toUInt32).toInt32) &&& (2147483647 : Int32)).toInt = ((p1.toUInt32 >>> ((1 : Int32) &&& 31).toUInt32).toInt32).toInt % 2147483648 := c_mask ((p1.toUInt32 >>> ((1 : Int32) &&& 31).toUInt32).toInt32) (2147483647 : Int32) 31 (by decide) (by decide)
          have f524 : (9 : Int32).toInt = 9 := rfl
          have f525 := rng32 ((((p1.toUInt32 >>> ((1 : Int32) &&& 31).toUInt32).toInt32) &&& (2147483647 : Int32)) % (9 : Int32))
          have f526 := c_irem (((p1.toUInt32 >>> ((1 : Int32) &&& 31).toUInt32).toInt32) &&& (2147483647 : Int32)) (9 : Int32) 9 rfl
          have f527 : (3 : Int32).toInt = 3 := rfl
          have f528 : (8213 : Int32).toInt = 8213 := rfl
          have f529 := rng32 p2
          have f530 := rng32 (p2 % (3 : Int32))
          have f531 := c_irem p2 (3 : Int32) 3 rfl
          have f532 := rng32 ((8213 : Int32) + (p2 % (3 : Int32)))
          have f533 : ((8213 : Int32) + (p2 % (3 : Int32))).toInt = (8213 : Int32).toInt + (p2 % (3 : Int32)).toInt := by have h := c_iadd (8213 : Int32) (p2 % (3 : Int32)); omega
          have f534 : (65535 : Int32).toInt = 65535 := rfl
          have f535 := rng32 (((8213 : Int32) + (p2 % (3 : Int32))) &&& (65535 : Int32))
          have f536 : (((8213 : Int32) + (p2 % (3 : Int32))) &&& (65535 : Int32)).toInt = ((8213 : Int32) + (p2 % (3 : Int32))).toInt % 65536 := c_mask ((8213 : Int32) + (p2 % (3 : Int32))) (65535 : Int32) 16 (by decide) (by decide)
          have f537 := rng32 ((((8213 : Int32) + (p2 % (3 : Int32))) &&& (65535 : Int32)).toUInt32.toUInt16.toUInt32.toInt32)
          have f538 := c_i2c (((8213 : Int32) + (p2 % (3 : Int32))) &&& (65535 : Int32))
          have f539 : (65536 : Int32).toInt = 65536 := rfl
          have g540 := hc212
          rw [← Int32.toInt_inj] at g540
          have g541 := hc214
          rw [← Int32.toInt_inj] at g541
          have g542 := hs280
          rw [← Int32.toInt_inj] at g542
          omega
        exact tailLENIENT _ _ _ _ ((((8213 : Int32) + (p2 % (3 : Int32))) &&& (65535 : Int32)).toUInt32.toUInt16.toUInt32.toInt32) _ _ (One.val rfl) (One.val rfl) X277 N277 (by rw [e277]; exact K279) (by decide) (by decide) hv478 hv510
      · rw [hs280]
        show own_E p e below _ T277 (mkF m 117 #[iv p1, iv p2, iv p3, rv aLENIENT, iv 0, .unset, rv b250, .unset, .unset] [.int 4, .ref b250])
        refine own_st (own_ald X277 hx hZ e277 V277 (j := (4 : Int32)) ⟨by decide, by decide⟩ (v := (.int (8239 : Int32))) rfl (g := (mkF m 117 #[iv p1, iv p2, iv p3, rv aLENIENT, iv 0, .unset, rv b250, .unset, .unset] [.int 4, .ref b250])) rfl rfl (hb hby at_117)) ?_
        show own_E p e below _ T277 (mkF m 118 #[iv p1, iv p2, iv p3, rv aLENIENT, iv 0, .unset, rv b250, .unset, .unset] [.int 8239])
        refine own_st (fun t k => XS.istore X277.here hx rfl (hb hby at_118) rfl (l' := #[iv p1, iv p2, iv p3, rv aLENIENT, iv 0, .unset, rv b250, iv 8239, .unset]) rfl k) ?_
        show own_E p e below _ T277 (mkF m 120 #[iv p1, iv p2, iv p3, rv aLENIENT, iv 0, .unset, rv b250, iv 8239, .unset] [])
        refine own_st (fun t k => XS.iload X277.here hx rfl (hb hby at_120) rfl k) ?_
        show own_E p e below _ T277 (mkF m 122 #[iv p1, iv p2, iv p3, rv aLENIENT, iv 0, .unset, rv b250, iv 8239, .unset] [.int 8239])
        refine own_st (fun t k => XS.iloadN X277.here hx rfl (hb hby at_122) rfl k) ?_
        show own_E p e below _ T277 (mkF m 123 #[iv p1, iv p2, iv p3, rv aLENIENT, iv 0, .unset, rv b250, iv 8239, .unset] [.int p2, .int 8239])
        refine own_st (fun t k => XS.iconst X277.here hx rfl (hb hby at_123) k) ?_
        show own_E p e below _ T277 (mkF m 124 #[iv p1, iv p2, iv p3, rv aLENIENT, iv 0, .unset, rv b250, iv 8239, .unset] [.int 3, .int p2, .int 8239])
        refine own_st (fun t k => iremM X277 hx rfl (hb hby at_124) rfl (by decide) k) ?_
        show own_E p e below _ T277 (mkF m 125 #[iv p1, iv p2, iv p3, rv aLENIENT, iv 0, .unset, rv b250, iv 8239, .unset] [.int (p2 % (3 : Int32)), .int 8239])
        refine own_st (fun t k => XS.iadd X277.here hx rfl (hb hby at_125) rfl k) ?_
        show own_E p e below _ T277 (mkF m 126 #[iv p1, iv p2, iv p3, rv aLENIENT, iv 0, .unset, rv b250, iv 8239, .unset] [.int ((8239 : Int32) + (p2 % (3 : Int32)))])
        refine own_st (X277.ldcInt hx hown (mvT hZ (own_w hw 3 rfl)) (g := (mkF m 126 #[iv p1, iv p2, iv p3, rv aLENIENT, iv 0, .unset, rv b250, iv 8239, .unset] [.int ((8239 : Int32) + (p2 % (3 : Int32)))])) rfl (hb hby at_126)) ?_
        show own_E p e below _ T277 (mkF m 128 #[iv p1, iv p2, iv p3, rv aLENIENT, iv 0, .unset, rv b250, iv 8239, .unset] [.int 65535, .int ((8239 : Int32) + (p2 % (3 : Int32)))])
        refine own_st (fun t k => XS.iand X277.here hx rfl (hb hby at_128) rfl k) ?_
        show own_E p e below _ T277 (mkF m 129 #[iv p1, iv p2, iv p3, rv aLENIENT, iv 0, .unset, rv b250, iv 8239, .unset] [.int (((8239 : Int32) + (p2 % (3 : Int32))) &&& (65535 : Int32))])
        refine own_st (fun t k => XS.i2c X277.here hx rfl (hb hby at_129) rfl k) ?_
        show own_E p e below _ T277 (mkF m 130 #[iv p1, iv p2, iv p3, rv aLENIENT, iv 0, .unset, rv b250, iv 8239, .unset] [.int ((((8239 : Int32) + (p2 % (3 : Int32))) &&& (65535 : Int32)).toUInt32.toUInt16.toUInt32.toInt32)])
        refine own_st (fun t k => XS.istore X277.here hx rfl (hb hby at_130) rfl (l' := #[iv p1, iv p2, iv p3, rv aLENIENT, iv 0, iv ((((8239 : Int32) + (p2 % (3 : Int32))) &&& (65535 : Int32)).toUInt32.toUInt16.toUInt32.toInt32), rv b250, iv 8239, .unset]) rfl k) ?_
        show own_E p e below _ T277 (mkF m 132 #[iv p1, iv p2, iv p3, rv aLENIENT, iv 0, iv ((((8239 : Int32) + (p2 % (3 : Int32))) &&& (65535 : Int32)).toUInt32.toUInt16.toUInt32.toInt32), rv b250, iv 8239, .unset] [])
        have hv543 : ¬ (((((8239 : Int32) + (p2 % (3 : Int32))) &&& (65535 : Int32)).toUInt32.toUInt16.toUInt32.toInt32) < (0 : Int32)) := by
          rw [Int32.lt_iff_toInt_lt]
          have f544 := rng32 p3
          have f545 : (1 : Int32).toInt = 1 := rfl
          have f546 := rng32 (p3 &&& (1 : Int32))
          have f547 : (p3 &&& (1 : Int32)).toInt = p3.toInt % 2 := c_mask p3 (1 : Int32) 1 (by decide) (by decide)
          have f548 : (0 : Int32).toInt = 0 := rfl
          have f549 := rng32 p1
          have f550 := rng32 (p1 &&& (1 : Int32))
          have f551 : (p1 &&& (1 : Int32)).toInt = p1.toInt % 2 := c_mask p1 (1 : Int32) 1 (by decide) (by decide)
          have f552 := rng32 ((p1.toUInt32 >>> ((1 : Int32) &&& 31).toUInt32).toInt32)
          have f553 : ((p1.toUInt32 >>> ((1 : Int32) &&& 31).toUInt32).toInt32).toInt = (p1.toInt % 4294967296) / 2 := c_iushr p1 (1 : Int32) 1 (by decide) (by decide)
          have f554 : (2147483647 : Int32).toInt = 2147483647 := rfl
          have f555 := rng32 (((p1.toUInt32 >>> ((1 : Int32) &&& 31).toUInt32).toInt32) &&& (2147483647 : Int32))
          have f556 : (((p1.toUInt32 >>> ((1 : Int32) &&& 31).toUInt32).toInt32) &&& (2147483647 : Int32)).toInt = ((p1.toUInt32 >>> ((1 : Int32) &&& 31).toUInt32).toInt32).toInt % 2147483648 := c_mask ((p1.toUInt32 >>> ((1 : Int32) &&& 31).toUInt32).toInt32) (2147483647 : Int32) 31 (by decide) (by decide)
          have f557 : (9 : Int32).toInt = 9 := rfl
          have f558 := rng32 ((((p1.toUInt32 >>> ((1 : Int32) &&& 31).toUInt32).toInt32) &&& (2147483647 : Int32)) % (9 : Int32))
          have f559 := c_irem (((p1.toUInt32 >>> ((1 : Int32) &&& 31).toUInt32).toInt32) &&& (2147483647 : Int32)) (9 : Int32) 9 rfl
          have f560 : (4 : Int32).toInt = 4 := rfl
          have f561 : (8239 : Int32).toInt = 8239 := rfl
          have f562 := rng32 p2
          have f563 : (3 : Int32).toInt = 3 := rfl
          have f564 := rng32 (p2 % (3 : Int32))
          have f565 := c_irem p2 (3 : Int32) 3 rfl
          have f566 := rng32 ((8239 : Int32) + (p2 % (3 : Int32)))
          have f567 : ((8239 : Int32) + (p2 % (3 : Int32))).toInt = (8239 : Int32).toInt + (p2 % (3 : Int32)).toInt := by have h := c_iadd (8239 : Int32) (p2 % (3 : Int32)); omega
          have f568 : (65535 : Int32).toInt = 65535 := rfl
          have f569 := rng32 (((8239 : Int32) + (p2 % (3 : Int32))) &&& (65535 : Int32))
          have f570 : (((8239 : Int32) + (p2 % (3 : Int32))) &&& (65535 : Int32)).toInt = ((8239 : Int32) + (p2 % (3 : Int32))).toInt % 65536 := c_mask ((8239 : Int32) + (p2 % (3 : Int32))) (65535 : Int32) 16 (by decide) (by decide)
          have f571 := rng32 ((((8239 : Int32) + (p2 % (3 : Int32))) &&& (65535 : Int32)).toUInt32.toUInt16.toUInt32.toInt32)
          have f572 := c_i2c (((8239 : Int32) + (p2 % (3 : Int32))) &&& (65535 : Int32))
          have g573 := hc212
          rw [← Int32.toInt_inj] at g573
          have g574 := hc214
          rw [← Int32.toInt_inj] at g574
          have g575 := hs280
          rw [← Int32.toInt_inj] at g575
          omega
        have hv576 : ((((8239 : Int32) + (p2 % (3 : Int32))) &&& (65535 : Int32)).toUInt32.toUInt16.toUInt32.toInt32) < (65536 : Int32) := by
          rw [Int32.lt_iff_toInt_lt]
          have f577 := rng32 p3
          have f578 : (1 : Int32).toInt = 1 := rfl
          have f579 := rng32 (p3 &&& (1 : Int32))
          have f580 : (p3 &&& (1 : Int32)).toInt = p3.toInt % 2 := c_mask p3 (1 : Int32) 1 (by decide) (by decide)
          have f581 : (0 : Int32).toInt = 0 := rfl
          have f582 := rng32 p1
          have f583 := rng32 (p1 &&& (1 : Int32))
          have f584 : (p1 &&& (1 : Int32)).toInt = p1.toInt % 2 := c_mask p1 (1 : Int32) 1 (by decide) (by decide)
          have f585 := rng32 ((p1.toUInt32 >>> ((1 : Int32) &&& 31).toUInt32).toInt32)
          have f586 : ((p1.toUInt32 >>> ((1 : Int32) &&& 31).toUInt32).toInt32).toInt = (p1.toInt % 4294967296) / 2 := c_iushr p1 (1 : Int32) 1 (by decide) (by decide)
          have f587 : (2147483647 : Int32).toInt = 2147483647 := rfl
          have f588 := rng32 (((p1.toUInt32 >>> ((1 : Int32) &&& 31).toUInt32).toInt32) &&& (2147483647 : Int32))
          have f589 : (((p1.toUInt32 >>> ((1 : Int32) &&& 31).toUInt32).toInt32) &&& (2147483647 : Int32)).toInt = ((p1.toUInt32 >>> ((1 : Int32) &&& 31).toUInt32).toInt32).toInt % 2147483648 := c_mask ((p1.toUInt32 >>> ((1 : Int32) &&& 31).toUInt32).toInt32) (2147483647 : Int32) 31 (by decide) (by decide)
          have f590 : (9 : Int32).toInt = 9 := rfl
          have f591 := rng32 ((((p1.toUInt32 >>> ((1 : Int32) &&& 31).toUInt32).toInt32) &&& (2147483647 : Int32)) % (9 : Int32))
          have f592 := c_irem (((p1.toUInt32 >>> ((1 : Int32) &&& 31).toUInt32).toInt32) &&& (2147483647 : Int32)) (9 : Int32) 9 rfl
          have f593 : (4 : Int32).toInt = 4 := rfl
          have f594 : (8239 : Int32).toInt = 8239 := rfl
          have f595 := rng32 p2
          have f596 : (3 : Int32).toInt = 3 := rfl
          have f597 := rng32 (p2 % (3 : Int32))
          have f598 := c_irem p2 (3 : Int32) 3 rfl
          have f599 := rng32 ((8239 : Int32) + (p2 % (3 : Int32)))
          have f600 : ((8239 : Int32) + (p2 % (3 : Int32))).toInt = (8239 : Int32).toInt + (p2 % (3 : Int32)).toInt := by have h := c_iadd (8239 : Int32) (p2 % (3 : Int32)); omega
          have f601 : (65535 : Int32).toInt = 65535 := rfl
          have f602 := rng32 (((8239 : Int32) + (p2 % (3 : Int32))) &&& (65535 : Int32))
          have f603 : (((8239 : Int32) + (p2 % (3 : Int32))) &&& (65535 : Int32)).toInt = ((8239 : Int32) + (p2 % (3 : Int32))).toInt % 65536 := c_mask ((8239 : Int32) + (p2 % (3 : Int32))) (65535 : Int32) 16 (by decide) (by decide)
          have f604 := rng32 ((((8239 : Int32) + (p2 % (3 : Int32))) &&& (65535 : Int32)).toUInt32.toUInt16.toUInt32.toInt32)
          have f605 := c_i2c (((8239 : Int32) + (p2 % (3 : Int32))) &&& (65535 : Int32))
          have f606 : (65536 : Int32).toInt = 65536 := rfl
          have g607 := hc212
          rw [← Int32.toInt_inj] at g607
          have g608 := hc214
          rw [← Int32.toInt_inj] at g608
          have g609 := hs280
          rw [← Int32.toInt_inj] at g609
          omega
        exact tailLENIENT _ _ _ _ ((((8239 : Int32) + (p2 % (3 : Int32))) &&& (65535 : Int32)).toUInt32.toUInt16.toUInt32.toInt32) _ _ (One.val rfl) (One.val rfl) X277 N277 (by rw [e277]; exact K279) (by decide) (by decide) hv543 hv576
      · rw [hs280]
        show own_E p e below _ T277 (mkF m 117 #[iv p1, iv p2, iv p3, rv aLENIENT, iv 0, .unset, rv b250, .unset, .unset] [.int 5, .ref b250])
        refine own_st (own_ald X277 hx hZ e277 V277 (j := (5 : Int32)) ⟨by decide, by decide⟩ (v := (.int (8722 : Int32))) rfl (g := (mkF m 117 #[iv p1, iv p2, iv p3, rv aLENIENT, iv 0, .unset, rv b250, .unset, .unset] [.int 5, .ref b250])) rfl rfl (hb hby at_117)) ?_
        show own_E p e below _ T277 (mkF m 118 #[iv p1, iv p2, iv p3, rv aLENIENT, iv 0, .unset, rv b250, .unset, .unset] [.int 8722])
        refine own_st (fun t k => XS.istore X277.here hx rfl (hb hby at_118) rfl (l' := #[iv p1, iv p2, iv p3, rv aLENIENT, iv 0, .unset, rv b250, iv 8722, .unset]) rfl k) ?_
        show own_E p e below _ T277 (mkF m 120 #[iv p1, iv p2, iv p3, rv aLENIENT, iv 0, .unset, rv b250, iv 8722, .unset] [])
        refine own_st (fun t k => XS.iload X277.here hx rfl (hb hby at_120) rfl k) ?_
        show own_E p e below _ T277 (mkF m 122 #[iv p1, iv p2, iv p3, rv aLENIENT, iv 0, .unset, rv b250, iv 8722, .unset] [.int 8722])
        refine own_st (fun t k => XS.iloadN X277.here hx rfl (hb hby at_122) rfl k) ?_
        show own_E p e below _ T277 (mkF m 123 #[iv p1, iv p2, iv p3, rv aLENIENT, iv 0, .unset, rv b250, iv 8722, .unset] [.int p2, .int 8722])
        refine own_st (fun t k => XS.iconst X277.here hx rfl (hb hby at_123) k) ?_
        show own_E p e below _ T277 (mkF m 124 #[iv p1, iv p2, iv p3, rv aLENIENT, iv 0, .unset, rv b250, iv 8722, .unset] [.int 3, .int p2, .int 8722])
        refine own_st (fun t k => iremM X277 hx rfl (hb hby at_124) rfl (by decide) k) ?_
        show own_E p e below _ T277 (mkF m 125 #[iv p1, iv p2, iv p3, rv aLENIENT, iv 0, .unset, rv b250, iv 8722, .unset] [.int (p2 % (3 : Int32)), .int 8722])
        refine own_st (fun t k => XS.iadd X277.here hx rfl (hb hby at_125) rfl k) ?_
        show own_E p e below _ T277 (mkF m 126 #[iv p1, iv p2, iv p3, rv aLENIENT, iv 0, .unset, rv b250, iv 8722, .unset] [.int ((8722 : Int32) + (p2 % (3 : Int32)))])
        refine own_st (X277.ldcInt hx hown (mvT hZ (own_w hw 3 rfl)) (g := (mkF m 126 #[iv p1, iv p2, iv p3, rv aLENIENT, iv 0, .unset, rv b250, iv 8722, .unset] [.int ((8722 : Int32) + (p2 % (3 : Int32)))])) rfl (hb hby at_126)) ?_
        show own_E p e below _ T277 (mkF m 128 #[iv p1, iv p2, iv p3, rv aLENIENT, iv 0, .unset, rv b250, iv 8722, .unset] [.int 65535, .int ((8722 : Int32) + (p2 % (3 : Int32)))])
        refine own_st (fun t k => XS.iand X277.here hx rfl (hb hby at_128) rfl k) ?_
        show own_E p e below _ T277 (mkF m 129 #[iv p1, iv p2, iv p3, rv aLENIENT, iv 0, .unset, rv b250, iv 8722, .unset] [.int (((8722 : Int32) + (p2 % (3 : Int32))) &&& (65535 : Int32))])
        refine own_st (fun t k => XS.i2c X277.here hx rfl (hb hby at_129) rfl k) ?_
        show own_E p e below _ T277 (mkF m 130 #[iv p1, iv p2, iv p3, rv aLENIENT, iv 0, .unset, rv b250, iv 8722, .unset] [.int ((((8722 : Int32) + (p2 % (3 : Int32))) &&& (65535 : Int32)).toUInt32.toUInt16.toUInt32.toInt32)])
        refine own_st (fun t k => XS.istore X277.here hx rfl (hb hby at_130) rfl (l' := #[iv p1, iv p2, iv p3, rv aLENIENT, iv 0, iv ((((8722 : Int32) + (p2 % (3 : Int32))) &&& (65535 : Int32)).toUInt32.toUInt16.toUInt32.toInt32), rv b250, iv 8722, .unset]) rfl k) ?_
        show own_E p e below _ T277 (mkF m 132 #[iv p1, iv p2, iv p3, rv aLENIENT, iv 0, iv ((((8722 : Int32) + (p2 % (3 : Int32))) &&& (65535 : Int32)).toUInt32.toUInt16.toUInt32.toInt32), rv b250, iv 8722, .unset] [])
        have hv610 : ¬ (((((8722 : Int32) + (p2 % (3 : Int32))) &&& (65535 : Int32)).toUInt32.toUInt16.toUInt32.toInt32) < (0 : Int32)) := by
          rw [Int32.lt_iff_toInt_lt]
          have f611 := rng32 p3
          have f612 : (1 : Int32).toInt = 1 := rfl
          have f613 := rng32 (p3 &&& (1 : Int32))
          have f614 : (p3 &&& (1 : Int32)).toInt = p3.toInt % 2 := c_mask p3 (1 : Int32) 1 (by decide) (by decide)
          have f615 : (0 : Int32).toInt = 0 := rfl
          have f616 := rng32 p1
          have f617 := rng32 (p1 &&& (1 : Int32))
          have f618 : (p1 &&& (1 : Int32)).toInt = p1.toInt % 2 := c_mask p1 (1 : Int32) 1 (by decide) (by decide)
          have f619 := rng32 ((p1.toUInt32 >>> ((1 : Int32) &&& 31).toUInt32).toInt32)
          have f620 : ((p1.toUInt32 >>> ((1 : Int32) &&& 31).toUInt32).toInt32).toInt = (p1.toInt % 4294967296) / 2 := c_iushr p1 (1 : Int32) 1 (by decide) (by decide)
          have f621 : (2147483647 : Int32).toInt = 2147483647 := rfl
          have f622 := rng32 (((p1.toUInt32 >>> ((1 : Int32) &&& 31).toUInt32).toInt32) &&& (2147483647 : Int32))
          have f623 : (((p1.toUInt32 >>> ((1 : Int32) &&& 31).toUInt32).toInt32) &&& (2147483647 : Int32)).toInt = ((p1.toUInt32 >>> ((1 : Int32) &&& 31).toUInt32).toInt32).toInt % 2147483648 := c_mask ((p1.toUInt32 >>> ((1 : Int32) &&& 31).toUInt32).toInt32) (2147483647 : Int32) 31 (by decide) (by decide)
          have f624 : (9 : Int32).toInt = 9 := rfl
          have f625 := rng32 ((((p1.toUInt32 >>> ((1 : Int32) &&& 31).toUInt32).toInt32) &&& (2147483647 : Int32)) % (9 : Int32))
          have f626 := c_irem (((p1.toUInt32 >>> ((1 : Int32) &&& 31).toUInt32).toInt32) &&& (2147483647 : Int32)) (9 : Int32) 9 rfl
          have f627 : (5 : Int32).toInt = 5 := rfl
          have f628 : (8722 : Int32).toInt = 8722 := rfl
          have f629 := rng32 p2
          have f630 : (3 : Int32).toInt = 3 := rfl
          have f631 := rng32 (p2 % (3 : Int32))
          have f632 := c_irem p2 (3 : Int32) 3 rfl
          have f633 := rng32 ((8722 : Int32) + (p2 % (3 : Int32)))
          have f634 : ((8722 : Int32) + (p2 % (3 : Int32))).toInt = (8722 : Int32).toInt + (p2 % (3 : Int32)).toInt := by have h := c_iadd (8722 : Int32) (p2 % (3 : Int32)); omega
          have f635 : (65535 : Int32).toInt = 65535 := rfl
          have f636 := rng32 (((8722 : Int32) + (p2 % (3 : Int32))) &&& (65535 : Int32))
          have f637 : (((8722 : Int32) + (p2 % (3 : Int32))) &&& (65535 : Int32)).toInt = ((8722 : Int32) + (p2 % (3 : Int32))).toInt % 65536 := c_mask ((8722 : Int32) + (p2 % (3 : Int32))) (65535 : Int32) 16 (by decide) (by decide)
          have f638 := rng32 ((((8722 : Int32) + (p2 % (3 : Int32))) &&& (65535 : Int32)).toUInt32.toUInt16.toUInt32.toInt32)
          have f639 := c_i2c (((8722 : Int32) + (p2 % (3 : Int32))) &&& (65535 : Int32))
          have g640 := hc212
          rw [← Int32.toInt_inj] at g640
          have g641 := hc214
          rw [← Int32.toInt_inj] at g641
          have g642 := hs280
          rw [← Int32.toInt_inj] at g642
          omega
        have hv643 : ((((8722 : Int32) + (p2 % (3 : Int32))) &&& (65535 : Int32)).toUInt32.toUInt16.toUInt32.toInt32) < (65536 : Int32) := by
          rw [Int32.lt_iff_toInt_lt]
          have f644 := rng32 p3
          have f645 : (1 : Int32).toInt = 1 := rfl
          have f646 := rng32 (p3 &&& (1 : Int32))
          have f647 : (p3 &&& (1 : Int32)).toInt = p3.toInt % 2 := c_mask p3 (1 : Int32) 1 (by decide) (by decide)
          have f648 : (0 : Int32).toInt = 0 := rfl
          have f649 := rng32 p1
          have f650 := rng32 (p1 &&& (1 : Int32))
          have f651 : (p1 &&& (1 : Int32)).toInt = p1.toInt % 2 := c_mask p1 (1 : Int32) 1 (by decide) (by decide)
          have f652 := rng32 ((p1.toUInt32 >>> ((1 : Int32) &&& 31).toUInt32).toInt32)
          have f653 : ((p1.toUInt32 >>> ((1 : Int32) &&& 31).toUInt32).toInt32).toInt = (p1.toInt % 4294967296) / 2 := c_iushr p1 (1 : Int32) 1 (by decide) (by decide)
          have f654 : (2147483647 : Int32).toInt = 2147483647 := rfl
          have f655 := rng32 (((p1.toUInt32 >>> ((1 : Int32) &&& 31).toUInt32).toInt32) &&& (2147483647 : Int32))
          have f656 : (((p1.toUInt32 >>> ((1 : Int32) &&& 31).toUInt32).toInt32) &&& (2147483647 : Int32)).toInt = ((p1.toUInt32 >>> ((1 : Int32) &&& 31).toUInt32).toInt32).toInt % 2147483648 := c_mask ((p1.toUInt32 >>> ((1 : Int32) &&& 31).toUInt32).toInt32) (2147483647 : Int32) 31 (by decide) (by decide)
          have f657 : (9 : Int32).toInt = 9 := rfl
          have f658 := rng32 ((((p1.toUInt32 >>> ((1 : Int32) &&& 31).toUInt32).toInt32) &&& (2147483647 : Int32)) % (9 : Int32))
          have f659 := c_irem (((p1.toUInt32 >>> ((1 : Int32) &&& 31).toUInt32).toInt32) &&& (2147483647 : Int32)) (9 : Int32) 9 rfl
          have f660 : (5 : Int32).toInt = 5 := rfl
          have f661 : (8722 : Int32).toInt = 8722 := rfl
          have f662 := rng32 p2
          have f663 : (3 : Int32).toInt = 3 := rfl
          have f664 := rng32 (p2 % (3 : Int32))
          have f665 := c_irem p2 (3 : Int32) 3 rfl
          have f666 := rng32 ((8722 : Int32) + (p2 % (3 : Int32)))
          have f667 : ((8722 : Int32) + (p2 % (3 : Int32))).toInt = (8722 : Int32).toInt + (p2 % (3 : Int32)).toInt := by have h := c_iadd (8722 : Int32) (p2 % (3 : Int32)); omega
          have f668 : (65535 : Int32).toInt = 65535 := rfl
          have f669 := rng32 (((8722 : Int32) + (p2 % (3 : Int32))) &&& (65535 : Int32))
          have f670 : (((8722 : Int32) + (p2 % (3 : Int32))) &&& (65535 : Int32)).toInt = ((8722 : Int32) + (p2 % (3 : Int32))).toInt % 65536 := c_mask ((8722 : Int32) + (p2 % (3 : Int32))) (65535 : Int32) 16 (by decide) (by decide)
          have f671 := rng32 ((((8722 : Int32) + (p2 % (3 : Int32))) &&& (65535 : Int32)).toUInt32.toUInt16.toUInt32.toInt32)
          have f672 := c_i2c (((8722 : Int32) + (p2 % (3 : Int32))) &&& (65535 : Int32))
          have f673 : (65536 : Int32).toInt = 65536 := rfl
          have g674 := hc212
          rw [← Int32.toInt_inj] at g674
          have g675 := hc214
          rw [← Int32.toInt_inj] at g675
          have g676 := hs280
          rw [← Int32.toInt_inj] at g676
          omega
        exact tailLENIENT _ _ _ _ ((((8722 : Int32) + (p2 % (3 : Int32))) &&& (65535 : Int32)).toUInt32.toUInt16.toUInt32.toInt32) _ _ (One.val rfl) (One.val rfl) X277 N277 (by rw [e277]; exact K279) (by decide) (by decide) hv610 hv643
      · rw [hs280]
        show own_E p e below _ T277 (mkF m 117 #[iv p1, iv p2, iv p3, rv aLENIENT, iv 0, .unset, rv b250, .unset, .unset] [.int 6, .ref b250])
        refine own_st (own_ald X277 hx hZ e277 V277 (j := (6 : Int32)) ⟨by decide, by decide⟩ (v := (.int (12288 : Int32))) rfl (g := (mkF m 117 #[iv p1, iv p2, iv p3, rv aLENIENT, iv 0, .unset, rv b250, .unset, .unset] [.int 6, .ref b250])) rfl rfl (hb hby at_117)) ?_
        show own_E p e below _ T277 (mkF m 118 #[iv p1, iv p2, iv p3, rv aLENIENT, iv 0, .unset, rv b250, .unset, .unset] [.int 12288])
        refine own_st (fun t k => XS.istore X277.here hx rfl (hb hby at_118) rfl (l' := #[iv p1, iv p2, iv p3, rv aLENIENT, iv 0, .unset, rv b250, iv 12288, .unset]) rfl k) ?_
        show own_E p e below _ T277 (mkF m 120 #[iv p1, iv p2, iv p3, rv aLENIENT, iv 0, .unset, rv b250, iv 12288, .unset] [])
        refine own_st (fun t k => XS.iload X277.here hx rfl (hb hby at_120) rfl k) ?_
        show own_E p e below _ T277 (mkF m 122 #[iv p1, iv p2, iv p3, rv aLENIENT, iv 0, .unset, rv b250, iv 12288, .unset] [.int 12288])
        refine own_st (fun t k => XS.iloadN X277.here hx rfl (hb hby at_122) rfl k) ?_
        show own_E p e below _ T277 (mkF m 123 #[iv p1, iv p2, iv p3, rv aLENIENT, iv 0, .unset, rv b250, iv 12288, .unset] [.int p2, .int 12288])
        refine own_st (fun t k => XS.iconst X277.here hx rfl (hb hby at_123) k) ?_
        show own_E p e below _ T277 (mkF m 124 #[iv p1, iv p2, iv p3, rv aLENIENT, iv 0, .unset, rv b250, iv 12288, .unset] [.int 3, .int p2, .int 12288])
        refine own_st (fun t k => iremM X277 hx rfl (hb hby at_124) rfl (by decide) k) ?_
        show own_E p e below _ T277 (mkF m 125 #[iv p1, iv p2, iv p3, rv aLENIENT, iv 0, .unset, rv b250, iv 12288, .unset] [.int (p2 % (3 : Int32)), .int 12288])
        refine own_st (fun t k => XS.iadd X277.here hx rfl (hb hby at_125) rfl k) ?_
        show own_E p e below _ T277 (mkF m 126 #[iv p1, iv p2, iv p3, rv aLENIENT, iv 0, .unset, rv b250, iv 12288, .unset] [.int ((12288 : Int32) + (p2 % (3 : Int32)))])
        refine own_st (X277.ldcInt hx hown (mvT hZ (own_w hw 3 rfl)) (g := (mkF m 126 #[iv p1, iv p2, iv p3, rv aLENIENT, iv 0, .unset, rv b250, iv 12288, .unset] [.int ((12288 : Int32) + (p2 % (3 : Int32)))])) rfl (hb hby at_126)) ?_
        show own_E p e below _ T277 (mkF m 128 #[iv p1, iv p2, iv p3, rv aLENIENT, iv 0, .unset, rv b250, iv 12288, .unset] [.int 65535, .int ((12288 : Int32) + (p2 % (3 : Int32)))])
        refine own_st (fun t k => XS.iand X277.here hx rfl (hb hby at_128) rfl k) ?_
        show own_E p e below _ T277 (mkF m 129 #[iv p1, iv p2, iv p3, rv aLENIENT, iv 0, .unset, rv b250, iv 12288, .unset] [.int (((12288 : Int32) + (p2 % (3 : Int32))) &&& (65535 : Int32))])
        refine own_st (fun t k => XS.i2c X277.here hx rfl (hb hby at_129) rfl k) ?_
        show own_E p e below _ T277 (mkF m 130 #[iv p1, iv p2, iv p3, rv aLENIENT, iv 0, .unset, rv b250, iv 12288, .unset] [.int ((((12288 : Int32) + (p2 % (3 : Int32))) &&& (65535 : Int32)).toUInt32.toUInt16.toUInt32.toInt32)])
        refine own_st (fun t k => XS.istore X277.here hx rfl (hb hby at_130) rfl (l' := #[iv p1, iv p2, iv p3, rv aLENIENT, iv 0, iv ((((12288 : Int32) + (p2 % (3 : Int32))) &&& (65535 : Int32)).toUInt32.toUInt16.toUInt32.toInt32), rv b250, iv 12288, .unset]) rfl k) ?_
        show own_E p e below _ T277 (mkF m 132 #[iv p1, iv p2, iv p3, rv aLENIENT, iv 0, iv ((((12288 : Int32) + (p2 % (3 : Int32))) &&& (65535 : Int32)).toUInt32.toUInt16.toUInt32.toInt32), rv b250, iv 12288, .unset] [])
        have hv677 : ¬ (((((12288 : Int32) + (p2 % (3 : Int32))) &&& (65535 : Int32)).toUInt32.toUInt16.toUInt32.toInt32) < (0 : Int32)) := by
          rw [Int32.lt_iff_toInt_lt]
          have f678 := rng32 p3
          have f679 : (1 : Int32).toInt = 1 := rfl
          have f680 := rng32 (p3 &&& (1 : Int32))
          have f681 : (p3 &&& (1 : Int32)).toInt = p3.toInt % 2 := c_mask p3 (1 : Int32) 1 (by decide) (by decide)
          have f682 : (0 : Int32).toInt = 0 := rfl
          have f683 := rng32 p1
          have f684 := rng32 (p1 &&& (1 : Int32))
          have f685 : (p1 &&& (1 : Int32)).toInt = p1.toInt % 2 := c_mask p1 (1 : Int32) 1 (by decide) (by decide)
          have f686 := rng32 ((p1.toUInt32 >>> ((1 : Int32) &&& 31).toUInt32).toInt32)
          have f687 : ((p1.toUInt32 >>> ((1 : Int32) &&& 31).toUInt32).toInt32).toInt = (p1.toInt % 4294967296) / 2 := c_iushr p1 (1 : Int32) 1 (by decide) (by decide)
          have f688 : (2147483647 : Int32).toInt = 2147483647 := rfl
          have f689 := rng32 (((p1.toUInt32 >>> ((1 : Int32) &&& 31).toUInt32).toInt32) &&& (2147483647 : Int32))
          have f690 : (((p1.toUInt32 >>> ((1 : Int32) &&& 31).toUInt32).toInt32) &&& (2147483647 : Int32)).toInt = ((p1.toUInt32 >>> ((1 : Int32) &&& 31).toUInt32).toInt32).toInt % 2147483648 := c_mask ((p1.toUInt32 >>> ((1 : Int32) &&& 31).toUInt32).toInt32) (2147483647 : Int32) 31 (by decide) (by decide)
          have f691 : (9 : Int32).toInt = 9 := rfl
          have f692 := rng32 ((((p1.toUInt32 >>> ((1 : Int32) &&& 31).toUInt32).toInt32) &&& (2147483647 : Int32)) % (9 : Int32))
          have f693 := c_irem (((p1.toUInt32 >>> ((1 : Int32) &&& 31).toUInt32).toInt32) &&& (2147483647 : Int32)) (9 : Int32) 9 rfl
          have f694 : (6 : Int32).toInt = 6 := rfl
          have f695 : (12288 : Int32).toInt = 12288 := rfl
          have f696 := rng32 p2
          have f697 : (3 : Int32).toInt = 3 := rfl
          have f698 := rng32 (p2 % (3 : Int32))
          have f699 := c_irem p2 (3 : Int32) 3 rfl
          have f700 := rng32 ((12288 : Int32) + (p2 % (3 : Int32)))
          have f701 : ((12288 : Int32) + (p2 % (3 : Int32))).toInt = (12288 : Int32).toInt + (p2 % (3 : Int32)).toInt := by have h := c_iadd (12288 : Int32) (p2 % (3 : Int32)); omega
          have f702 : (65535 : Int32).toInt = 65535 := rfl
          have f703 := rng32 (((12288 : Int32) + (p2 % (3 : Int32))) &&& (65535 : Int32))
          have f704 : (((12288 : Int32) + (p2 % (3 : Int32))) &&& (65535 : Int32)).toInt = ((12288 : Int32) + (p2 % (3 : Int32))).toInt % 65536 := c_mask ((12288 : Int32) + (p2 % (3 : Int32))) (65535 : Int32) 16 (by decide) (by decide)
          have f705 := rng32 ((((12288 : Int32) + (p2 % (3 : Int32))) &&& (65535 : Int32)).toUInt32.toUInt16.toUInt32.toInt32)
          have f706 := c_i2c (((12288 : Int32) + (p2 % (3 : Int32))) &&& (65535 : Int32))
          have g707 := hc212
          rw [← Int32.toInt_inj] at g707
          have g708 := hc214
          rw [← Int32.toInt_inj] at g708
          have g709 := hs280
          rw [← Int32.toInt_inj] at g709
          omega
        have hv710 : ((((12288 : Int32) + (p2 % (3 : Int32))) &&& (65535 : Int32)).toUInt32.toUInt16.toUInt32.toInt32) < (65536 : Int32) := by
          rw [Int32.lt_iff_toInt_lt]
          have f711 := rng32 p3
          have f712 : (1 : Int32).toInt = 1 := rfl
          have f713 := rng32 (p3 &&& (1 : Int32))
          have f714 : (p3 &&& (1 : Int32)).toInt = p3.toInt % 2 := c_mask p3 (1 : Int32) 1 (by decide) (by decide)
          have f715 : (0 : Int32).toInt = 0 := rfl
          have f716 := rng32 p1
          have f717 := rng32 (p1 &&& (1 : Int32))
          have f718 : (p1 &&& (1 : Int32)).toInt = p1.toInt % 2 := c_mask p1 (1 : Int32) 1 (by decide) (by decide)
          have f719 := rng32 ((p1.toUInt32 >>> ((1 : Int32) &&& 31).toUInt32).toInt32)
          have f720 : ((p1.toUInt32 >>> ((1 : Int32) &&& 31).toUInt32).toInt32).toInt = (p1.toInt % 4294967296) / 2 := c_iushr p1 (1 : Int32) 1 (by decide) (by decide)
          have f721 : (2147483647 : Int32).toInt = 2147483647 := rfl
          have f722 := rng32 (((p1.toUInt32 >>> ((1 : Int32) &&& 31).toUInt32).toInt32) &&& (2147483647 : Int32))
          have f723 : (((p1.toUInt32 >>> ((1 : Int32) &&& 31).toUInt32).toInt32) &&& (2147483647 : Int32)).toInt = ((p1.toUInt32 >>> ((1 : Int32) &&& 31).toUInt32).toInt32).toInt % 2147483648 := c_mask ((p1.toUInt32 >>> ((1 : Int32) &&& 31).toUInt32).toInt32) (2147483647 : Int32) 31 (by decide) (by decide)
          have f724 : (9 : Int32).toInt = 9 := rfl
          have f725 := rng32 ((((p1.toUInt32 >>> ((1 : Int32) &&& 31).toUInt32).toInt32) &&& (2147483647 : Int32)) % (9 : Int32))
          have f726 := c_irem (((p1.toUInt32 >>> ((1 : Int32) &&& 31).toUInt32).toInt32) &&& (2147483647 : Int32)) (9 : Int32) 9 rfl
          have f727 : (6 : Int32).toInt = 6 := rfl
          have f728 : (12288 : Int32).toInt = 12288 := rfl
          have f729 := rng32 p2
          have f730 : (3 : Int32).toInt = 3 := rfl
          have f731 := rng32 (p2 % (3 : Int32))
          have f732 := c_irem p2 (3 : Int32) 3 rfl
          have f733 := rng32 ((12288 : Int32) + (p2 % (3 : Int32)))
          have f734 : ((12288 : Int32) + (p2 % (3 : Int32))).toInt = (12288 : Int32).toInt + (p2 % (3 : Int32)).toInt := by have h := c_iadd (12288 : Int32) (p2 % (3 : Int32)); omega
          have f735 : (65535 : Int32).toInt = 65535 := rfl
          have f736 := rng32 (((12288 : Int32) + (p2 % (3 : Int32))) &&& (65535 : Int32))
          have f737 : (((12288 : Int32) + (p2 % (3 : Int32))) &&& (65535 : Int32)).toInt = ((12288 : Int32) + (p2 % (3 : Int32))).toInt % 65536 := c_mask ((12288 : Int32) + (p2 % (3 : Int32))) (65535 : Int32) 16 (by decide) (by decide)
          have f738 := rng32 ((((12288 : Int32) + (p2 % (3 : Int32))) &&& (65535 : Int32)).toUInt32.toUInt16.toUInt32.toInt32)
          have f739 := c_i2c (((12288 : Int32) + (p2 % (3 : Int32))) &&& (65535 : Int32))
          have f740 : (65536 : Int32).toInt = 65536 := rfl
          have g741 := hc212
          rw [← Int32.toInt_inj] at g741
          have g742 := hc214
          rw [← Int32.toInt_inj] at g742
          have g743 := hs280
          rw [← Int32.toInt_inj] at g743
          omega
        exact tailLENIENT _ _ _ _ ((((12288 : Int32) + (p2 % (3 : Int32))) &&& (65535 : Int32)).toUInt32.toUInt16.toUInt32.toInt32) _ _ (One.val rfl) (One.val rfl) X277 N277 (by rw [e277]; exact K279) (by decide) (by decide) hv677 hv710
      · rw [hs280]
        show own_E p e below _ T277 (mkF m 117 #[iv p1, iv p2, iv p3, rv aLENIENT, iv 0, .unset, rv b250, .unset, .unset] [.int 7, .ref b250])
        refine own_st (own_ald X277 hx hZ e277 V277 (j := (7 : Int32)) ⟨by decide, by decide⟩ (v := (.int (65281 : Int32))) rfl (g := (mkF m 117 #[iv p1, iv p2, iv p3, rv aLENIENT, iv 0, .unset, rv b250, .unset, .unset] [.int 7, .ref b250])) rfl rfl (hb hby at_117)) ?_
        show own_E p e below _ T277 (mkF m 118 #[iv p1, iv p2, iv p3, rv aLENIENT, iv 0, .unset, rv b250, .unset, .unset] [.int 65281])
        refine own_st (fun t k => XS.istore X277.here hx rfl (hb hby at_118) rfl (l' := #[iv p1, iv p2, iv p3, rv aLENIENT, iv 0, .unset, rv b250, iv 65281, .unset]) rfl k) ?_
        show own_E p e below _ T277 (mkF m 120 #[iv p1, iv p2, iv p3, rv aLENIENT, iv 0, .unset, rv b250, iv 65281, .unset] [])
        refine own_st (fun t k => XS.iload X277.here hx rfl (hb hby at_120) rfl k) ?_
        show own_E p e below _ T277 (mkF m 122 #[iv p1, iv p2, iv p3, rv aLENIENT, iv 0, .unset, rv b250, iv 65281, .unset] [.int 65281])
        refine own_st (fun t k => XS.iloadN X277.here hx rfl (hb hby at_122) rfl k) ?_
        show own_E p e below _ T277 (mkF m 123 #[iv p1, iv p2, iv p3, rv aLENIENT, iv 0, .unset, rv b250, iv 65281, .unset] [.int p2, .int 65281])
        refine own_st (fun t k => XS.iconst X277.here hx rfl (hb hby at_123) k) ?_
        show own_E p e below _ T277 (mkF m 124 #[iv p1, iv p2, iv p3, rv aLENIENT, iv 0, .unset, rv b250, iv 65281, .unset] [.int 3, .int p2, .int 65281])
        refine own_st (fun t k => iremM X277 hx rfl (hb hby at_124) rfl (by decide) k) ?_
        show own_E p e below _ T277 (mkF m 125 #[iv p1, iv p2, iv p3, rv aLENIENT, iv 0, .unset, rv b250, iv 65281, .unset] [.int (p2 % (3 : Int32)), .int 65281])
        refine own_st (fun t k => XS.iadd X277.here hx rfl (hb hby at_125) rfl k) ?_
        show own_E p e below _ T277 (mkF m 126 #[iv p1, iv p2, iv p3, rv aLENIENT, iv 0, .unset, rv b250, iv 65281, .unset] [.int ((65281 : Int32) + (p2 % (3 : Int32)))])
        refine own_st (X277.ldcInt hx hown (mvT hZ (own_w hw 3 rfl)) (g := (mkF m 126 #[iv p1, iv p2, iv p3, rv aLENIENT, iv 0, .unset, rv b250, iv 65281, .unset] [.int ((65281 : Int32) + (p2 % (3 : Int32)))])) rfl (hb hby at_126)) ?_
        show own_E p e below _ T277 (mkF m 128 #[iv p1, iv p2, iv p3, rv aLENIENT, iv 0, .unset, rv b250, iv 65281, .unset] [.int 65535, .int ((65281 : Int32) + (p2 % (3 : Int32)))])
        refine own_st (fun t k => XS.iand X277.here hx rfl (hb hby at_128) rfl k) ?_
        show own_E p e below _ T277 (mkF m 129 #[iv p1, iv p2, iv p3, rv aLENIENT, iv 0, .unset, rv b250, iv 65281, .unset] [.int (((65281 : Int32) + (p2 % (3 : Int32))) &&& (65535 : Int32))])
        refine own_st (fun t k => XS.i2c X277.here hx rfl (hb hby at_129) rfl k) ?_
        show own_E p e below _ T277 (mkF m 130 #[iv p1, iv p2, iv p3, rv aLENIENT, iv 0, .unset, rv b250, iv 65281, .unset] [.int ((((65281 : Int32) + (p2 % (3 : Int32))) &&& (65535 : Int32)).toUInt32.toUInt16.toUInt32.toInt32)])
        refine own_st (fun t k => XS.istore X277.here hx rfl (hb hby at_130) rfl (l' := #[iv p1, iv p2, iv p3, rv aLENIENT, iv 0, iv ((((65281 : Int32) + (p2 % (3 : Int32))) &&& (65535 : Int32)).toUInt32.toUInt16.toUInt32.toInt32), rv b250, iv 65281, .unset]) rfl k) ?_
        show own_E p e below _ T277 (mkF m 132 #[iv p1, iv p2, iv p3, rv aLENIENT, iv 0, iv ((((65281 : Int32) + (p2 % (3 : Int32))) &&& (65535 : Int32)).toUInt32.toUInt16.toUInt32.toInt32), rv b250, iv 65281, .unset] [])
        have hv744 : ¬ (((((65281 : Int32) + (p2 % (3 : Int32))) &&& (65535 : Int32)).toUInt32.toUInt16.toUInt32.toInt32) < (0 : Int32)) := by
          rw [Int32.lt_iff_toInt_lt]
          have f745 := rng32 p3
          have f746 : (1 : Int32).toInt = 1 := rfl
          have f747 := rng32 (p3 &&& (1 : Int32))
          have f748 : (p3 &&& (1 : Int32)).toInt = p3.toInt % 2 := c_mask p3 (1 : Int32) 1 (by decide) (by decide)
          have f749 : (0 : Int32).toInt = 0 := rfl
          have f750 := rng32 p1
          have f751 := rng32 (p1 &&& (1 : Int32))
          have f752 : (p1 &&& (1 : Int32)).toInt = p1.toInt % 2 := c_mask p1 (1 : Int32) 1 (by decide) (by decide)
          have f753 := rng32 ((p1.toUInt32 >>> ((1 : Int32) &&& 31).toUInt32).toInt32)
          have f754 : ((p1.toUInt32 >>> ((1 : Int32) &&& 31).toUInt32).toInt32).toInt = (p1.toInt % 4294967296) / 2 := c_iushr p1 (1 : Int32) 1 (by decide) (by decide)
          have f755 : (2147483647 : Int32).toInt = 2147483647 := rfl
          have f756 := rng32 (((p1.toUInt32 >>> ((1 : Int32) &&& 31).toUInt32).toInt32) &&& (2147483647 : Int32))
          have f757 : (((p1.toUInt32 >>> ((1 : Int32) &&& 31).toUInt32).toInt32) &&& (2147483647 : Int32)).toInt = ((p1.toUInt32 >>> ((1 : Int32) &&& 31).toUInt32).toInt32).toInt % 2147483648 := c_mask ((p1.toUInt32 >>> ((1 : Int32) &&& 31).toUInt32).toInt32) (2147483647 : Int32) 31 (by decide) (by decide)
          have f758 : (9 : Int32).toInt = 9 := rfl
          have f759 := rng32 ((((p1.toUInt32 >>> ((1 : Int32) &&& 31).toUInt32).toInt32) &&& (2147483647 : Int32)) % (9 : Int32))
          have f760 := c_irem (((p1.toUInt32 >>> ((1 : Int32) &&& 31).toUInt32).toInt32) &&& (2147483647 : Int32)) (9 : Int32) 9 rfl
          have f761 : (7 : Int32).toInt = 7 := rfl
          have f762 : (65281 : Int32).toInt = 65281 := rfl
          have f763 := rng32 p2
          have f764 : (3 : Int32).toInt = 3 := rfl
          have f765 := rng32 (p2 % (3 : Int32))
          have f766 := c_irem p2 (3 : Int32) 3 rfl
          have f767 := rng32 ((65281 : Int32) + (p2 % (3 : Int32)))
          have f768 : ((65281 : Int32) + (p2 % (3 : Int32))).toInt = (65281 : Int32).toInt + (p2 % (3 : Int32)).toInt := by have h := c_iadd (65281 : Int32) (p2 % (3 : Int32)); omega
          have f769 : (65535 : Int32).toInt = 65535 := rfl
          have f770 := rng32 (((65281 : Int32) + (p2 % (3 : Int32))) &&& (65535 : Int32))
          have f771 : (((65281 : Int32) + (p2 % (3 : Int32))) &&& (65535 : Int32)).toInt = ((65281 : Int32) + (p2 % (3 : Int32))).toInt % 65536 := c_mask ((65281 : Int32) + (p2 % (3 : Int32))) (65535 : Int32) 16 (by decide) (by decide)
          have f772 := rng32 ((((65281 : Int32) + (p2 % (3 : Int32))) &&& (65535 : Int32)).toUInt32.toUInt16.toUInt32.toInt32)
          have f773 := c_i2c (((65281 : Int32) + (p2 % (3 : Int32))) &&& (65535 : Int32))
          have g774 := hc212
          rw [← Int32.toInt_inj] at g774
          have g775 := hc214
          rw [← Int32.toInt_inj] at g775
          have g776 := hs280
          rw [← Int32.toInt_inj] at g776
          omega
        have hv777 : ((((65281 : Int32) + (p2 % (3 : Int32))) &&& (65535 : Int32)).toUInt32.toUInt16.toUInt32.toInt32) < (65536 : Int32) := by
          rw [Int32.lt_iff_toInt_lt]
          have f778 := rng32 p3
          have f779 : (1 : Int32).toInt = 1 := rfl
          have f780 := rng32 (p3 &&& (1 : Int32))
          have f781 : (p3 &&& (1 : Int32)).toInt = p3.toInt % 2 := c_mask p3 (1 : Int32) 1 (by decide) (by decide)
          have f782 : (0 : Int32).toInt = 0 := rfl
          have f783 := rng32 p1
          have f784 := rng32 (p1 &&& (1 : Int32))
          have f785 : (p1 &&& (1 : Int32)).toInt = p1.toInt % 2 := c_mask p1 (1 : Int32) 1 (by decide) (by decide)
          have f786 := rng32 ((p1.toUInt32 >>> ((1 : Int32) &&& 31).toUInt32).toInt32)
          have f787 : ((p1.toUInt32 >>> ((1 : Int32) &&& 31).toUInt32).toInt32).toInt = (p1.toInt % 4294967296) / 2 := c_iushr p1 (1 : Int32) 1 (by decide) (by decide)
          have f788 : (2147483647 : Int32).toInt = 2147483647 := rfl
          have f789 := rng32 (((p1.toUInt32 >>> ((1 : Int32) &&& 31).toUInt32).toInt32) &&& (2147483647 : Int32))
          have f790 : (((p1.toUInt32 >>> ((1 : Int32) &&& 31).toUInt32).toInt32) &&& (2147483647 : Int32)).toInt = ((p1.toUInt32 >>> ((1 : Int32) &&& 31).toUInt32).toInt32).toInt % 2147483648 := c_mask ((p1.toUInt32 >>> ((1 : Int32) &&& 31).toUInt32).toInt32) (2147483647 : Int32) 31 (by decide) (by decide)
          have f791 : (9 : Int32).toInt = 9 := rfl
          have f792 := rng32 ((((p1.toUInt32 >>> ((1 : Int32) &&& 31).toUInt32).toInt32) &&& (2147483647 : Int32)) % (9 : Int32))
          have f793 := c_irem (((p1.toUInt32 >>> ((1 : Int32) &&& 31).toUInt32).toInt32) &&& (2147483647 : Int32)) (9 : Int32) 9 rfl
          have f794 : (7 : Int32).toInt = 7 := rfl
          have f795 : (65281 : Int32).toInt = 65281 := rfl
          have f796 := rng32 p2
          have f797 : (3 : Int32).toInt = 3 := rfl
          have f798 := rng32 (p2 % (3 : Int32))
          have f799 := c_irem p2 (3 : Int32) 3 rfl
          have f800 := rng32 ((65281 : Int32) + (p2 % (3 : Int32)))
          have f801 : ((65281 : Int32) + (p2 % (3 : Int32))).toInt = (65281 : Int32).toInt + (p2 % (3 : Int32)).toInt := by have h := c_iadd (65281 : Int32) (p2 % (3 : Int32)); omega
          have f802 : (65535 : Int32).toInt = 65535 := rfl
          have f803 := rng32 (((65281 : Int32) + (p2 % (3 : Int32))) &&& (65535 : Int32))
          have f804 : (((65281 : Int32) + (p2 % (3 : Int32))) &&& (65535 : Int32)).toInt = ((65281 : Int32) + (p2 % (3 : Int32))).toInt % 65536 := c_mask ((65281 : Int32) + (p2 % (3 : Int32))) (65535 : Int32) 16 (by decide) (by decide)
          have f805 := rng32 ((((65281 : Int32) + (p2 % (3 : Int32))) &&& (65535 : Int32)).toUInt32.toUInt16.toUInt32.toInt32)
          have f806 := c_i2c (((65281 : Int32) + (p2 % (3 : Int32))) &&& (65535 : Int32))
          have f807 : (65536 : Int32).toInt = 65536 := rfl
          have g808 := hc212
          rw [← Int32.toInt_inj] at g808
          have g809 := hc214
          rw [← Int32.toInt_inj] at g809
          have g810 := hs280
          rw [← Int32.toInt_inj] at g810
          omega
        exact tailLENIENT _ _ _ _ ((((65281 : Int32) + (p2 % (3 : Int32))) &&& (65535 : Int32)).toUInt32.toUInt16.toUInt32.toInt32) _ _ (One.val rfl) (One.val rfl) X277 N277 (by rw [e277]; exact K279) (by decide) (by decide) hv744 hv777
      · rw [hs280]
        show own_E p e below _ T277 (mkF m 117 #[iv p1, iv p2, iv p3, rv aLENIENT, iv 0, .unset, rv b250, .unset, .unset] [.int 8, .ref b250])
        refine own_st (own_ald X277 hx hZ e277 V277 (j := (8 : Int32)) ⟨by decide, by decide⟩ (v := (.int (65374 : Int32))) rfl (g := (mkF m 117 #[iv p1, iv p2, iv p3, rv aLENIENT, iv 0, .unset, rv b250, .unset, .unset] [.int 8, .ref b250])) rfl rfl (hb hby at_117)) ?_
        show own_E p e below _ T277 (mkF m 118 #[iv p1, iv p2, iv p3, rv aLENIENT, iv 0, .unset, rv b250, .unset, .unset] [.int 65374])
        refine own_st (fun t k => XS.istore X277.here hx rfl (hb hby at_118) rfl (l' := #[iv p1, iv p2, iv p3, rv aLENIENT, iv 0, .unset, rv b250, iv 65374, .unset]) rfl k) ?_
        show own_E p e below _ T277 (mkF m 120 #[iv p1, iv p2, iv p3, rv aLENIENT, iv 0, .unset, rv b250, iv 65374, .unset] [])
        refine own_st (fun t k => XS.iload X277.here hx rfl (hb hby at_120) rfl k) ?_
        show own_E p e below _ T277 (mkF m 122 #[iv p1, iv p2, iv p3, rv aLENIENT, iv 0, .unset, rv b250, iv 65374, .unset] [.int 65374])
        refine own_st (fun t k => XS.iloadN X277.here hx rfl (hb hby at_122) rfl k) ?_
        show own_E p e below _ T277 (mkF m 123 #[iv p1, iv p2, iv p3, rv aLENIENT, iv 0, .unset, rv b250, iv 65374, .unset] [.int p2, .int 65374])
        refine own_st (fun t k => XS.iconst X277.here hx rfl (hb hby at_123) k) ?_
        show own_E p e below _ T277 (mkF m 124 #[iv p1, iv p2, iv p3, rv aLENIENT, iv 0, .unset, rv b250, iv 65374, .unset] [.int 3, .int p2, .int 65374])
        refine own_st (fun t k => iremM X277 hx rfl (hb hby at_124) rfl (by decide) k) ?_
        show own_E p e below _ T277 (mkF m 125 #[iv p1, iv p2, iv p3, rv aLENIENT, iv 0, .unset, rv b250, iv 65374, .unset] [.int (p2 % (3 : Int32)), .int 65374])
        refine own_st (fun t k => XS.iadd X277.here hx rfl (hb hby at_125) rfl k) ?_
        show own_E p e below _ T277 (mkF m 126 #[iv p1, iv p2, iv p3, rv aLENIENT, iv 0, .unset, rv b250, iv 65374, .unset] [.int ((65374 : Int32) + (p2 % (3 : Int32)))])
        refine own_st (X277.ldcInt hx hown (mvT hZ (own_w hw 3 rfl)) (g := (mkF m 126 #[iv p1, iv p2, iv p3, rv aLENIENT, iv 0, .unset, rv b250, iv 65374, .unset] [.int ((65374 : Int32) + (p2 % (3 : Int32)))])) rfl (hb hby at_126)) ?_
        show own_E p e below _ T277 (mkF m 128 #[iv p1, iv p2, iv p3, rv aLENIENT, iv 0, .unset, rv b250, iv 65374, .unset] [.int 65535, .int ((65374 : Int32) + (p2 % (3 : Int32)))])
        refine own_st (fun t k => XS.iand X277.here hx rfl (hb hby at_128) rfl k) ?_
        show own_E p e below _ T277 (mkF m 129 #[iv p1, iv p2, iv p3, rv aLENIENT, iv 0, .unset, rv b250, iv 65374, .unset] [.int (((65374 : Int32) + (p2 % (3 : Int32))) &&& (65535 : Int32))])
        refine own_st (fun t k => XS.i2c X277.here hx rfl (hb hby at_129) rfl k) ?_
        show own_E p e below _ T277 (mkF m 130 #[iv p1, iv p2, iv p3, rv aLENIENT, iv 0, .unset, rv b250, iv 65374, .unset] [.int ((((65374 : Int32) + (p2 % (3 : Int32))) &&& (65535 : Int32)).toUInt32.toUInt16.toUInt32.toInt32)])
        refine own_st (fun t k => XS.istore X277.here hx rfl (hb hby at_130) rfl (l' := #[iv p1, iv p2, iv p3, rv aLENIENT, iv 0, iv ((((65374 : Int32) + (p2 % (3 : Int32))) &&& (65535 : Int32)).toUInt32.toUInt16.toUInt32.toInt32), rv b250, iv 65374, .unset]) rfl k) ?_
        show own_E p e below _ T277 (mkF m 132 #[iv p1, iv p2, iv p3, rv aLENIENT, iv 0, iv ((((65374 : Int32) + (p2 % (3 : Int32))) &&& (65535 : Int32)).toUInt32.toUInt16.toUInt32.toInt32), rv b250, iv 65374, .unset] [])
        have hv811 : ¬ (((((65374 : Int32) + (p2 % (3 : Int32))) &&& (65535 : Int32)).toUInt32.toUInt16.toUInt32.toInt32) < (0 : Int32)) := by
          rw [Int32.lt_iff_toInt_lt]
          have f812 := rng32 p3
          have f813 : (1 : Int32).toInt = 1 := rfl
          have f814 := rng32 (p3 &&& (1 : Int32))
          have f815 : (p3 &&& (1 : Int32)).toInt = p3.toInt % 2 := c_mask p3 (1 : Int32) 1 (by decide) (by decide)
          have f816 : (0 : Int32).toInt = 0 := rfl
          have f817 := rng32 p1
          have f818 := rng32 (p1 &&& (1 : Int32))
          have f819 : (p1 &&& (1 : Int32)).toInt = p1.toInt % 2 := c_mask p1 (1 : Int32) 1 (by decide) (by decide)
          have f820 := rng32 ((p1.toUInt32 >>> ((1 : Int32) &&& 31).toUInt32).toInt32)
          have f821 : ((p1.toUInt32 >>> ((1 : Int32) &&& 31).toUInt32).toInt32).toInt = (p1.toInt % 4294967296) / 2 := c_iushr p1 (1 : Int32) 1 (by decide) (by decide)
          have f822 : (2147483647 : Int32).toInt = 2147483647 := rfl
          have f823 := rng32 (((p1.toUInt32 >>> ((1 : Int32) &&& 31).toUInt32).toInt32) &&& (2147483647 : Int32))
          have f824 : (((p1.toUInt32 >>> ((1 : Int32) &&& 31).toUInt32).toInt32) &&& (2147483647 : Int32)).toInt = ((p1.toUInt32 >>> ((1 : Int32) &&& 31).toUInt32).toInt32).toInt % 2147483648 := c_mask ((p1.toUInt32 >>> ((1 : Int32) &&& 31).toUInt32).toInt32) (2147483647 : Int32) 31 (by decide) (by decide)
          have f825 : (9 : Int32).toInt = 9 := rfl
          have f826 := rng32 ((((p1.toUInt32 >>> ((1 : Int32) &&& 31).toUInt32).toInt32) &&& (2147483647 : Int32)) % (9 : Int32))
          have f827 := c_irem (((p1.toUInt32 >>> ((1 : Int32) &&& 31).toUInt32).toInt32) &&& (2147483647 : Int32)) (9 : Int32) 9 rfl
          have f828 : (8 : Int32).toInt = 8 := rfl
          have f829 : (65374 : Int32).toInt = 65374 := rfl
          have f830 := rng32 p2
          have f831 : (3 : Int32).toInt = 3 := rfl
          have f832 := rng32 (p2 % (3 : Int32))
          have f833 := c_irem p2 (3 : Int32) 3 rfl
          have f834 := rng32 ((65374 : Int32) + (p2 % (3 : Int32)))
          have f835 : ((65374 : Int32) + (p2 % (3 : Int32))).toInt = (65374 : Int32).toInt + (p2 % (3 : Int32)).toInt := by have h := c_iadd (65374 : Int32) (p2 % (3 : Int32)); omega
          have f836 : (65535 : Int32).toInt = 65535 := rfl
          have f837 := rng32 (((65374 : Int32) + (p2 % (3 : Int32))) &&& (65535 : Int32))
          have f838 : (((65374 : Int32) + (p2 % (3 : Int32))) &&& (65535 : Int32)).toInt = ((65374 : Int32) + (p2 % (3 : Int32))).toInt % 65536 := c_mask ((65374 : Int32) + (p2 % (3 : Int32))) (65535 : Int32) 16 (by decide) (by decide)
          have f839 := rng32 ((((65374 : Int32) + (p2 % (3 : Int32))) &&& (65535 : Int32)).toUInt32.toUInt16.toUInt32.toInt32)
          have f840 := c_i2c (((65374 : Int32) + (p2 % (3 : Int32))) &&& (65535 : Int32))
          have g841 := hc212
          rw [← Int32.toInt_inj] at g841
          have g842 := hc214
          rw [← Int32.toInt_inj] at g842
          have g843 := hs280
          rw [← Int32.toInt_inj] at g843
          omega
        have hv844 : ((((65374 : Int32) + (p2 % (3 : Int32))) &&& (65535 : Int32)).toUInt32.toUInt16.toUInt32.toInt32) < (65536 : Int32) := by
          rw [Int32.lt_iff_toInt_lt]
          have f845 := rng32 p3
          have f846 : (1 : Int32).toInt = 1 := rfl
          have f847 := rng32 (p3 &&& (1 : Int32))
          have f848 : (p3 &&& (1 : Int32)).toInt = p3.toInt % 2 := c_mask p3 (1 : Int32) 1 (by decide) (by decide)
          have f849 : (0 : Int32).toInt = 0 := rfl
          have f850 := rng32 p1
          have f851 := rng32 (p1 &&& (1 : Int32))
          have f852 : (p1 &&& (1 : Int32)).toInt = p1.toInt % 2 := c_mask p1 (1 : Int32) 1 (by decide) (by decide)
          have f853 := rng32 ((p1.toUInt32 >>> ((1 : Int32) &&& 31).toUInt32).toInt32)
          have f854 : ((p1.toUInt32 >>> ((1 : Int32) &&& 31).toUInt32).toInt32).toInt = (p1.toInt % 4294967296) / 2 := c_iushr p1 (1 : Int32) 1 (by decide) (by decide)
          have f855 : (2147483647 : Int32).toInt = 2147483647 := rfl
          have f856 := rng32 (((p1.toUInt32 >>> ((1 : Int32) &&& 31).toUInt32).toInt32) &&& (2147483647 : Int32))
          have f857 : (((p1.toUInt32 >>> ((1 : Int32) &&& 31).toUInt32).toInt32) &&& (2147483647 : Int32)).toInt = ((p1.toUInt32 >>> ((1 : Int32) &&& 31).toUInt32).toInt32).toInt % 2147483648 := c_mask ((p1.toUInt32 >>> ((1 : Int32) &&& 31).toUInt32).toInt32) (2147483647 : Int32) 31 (by decide) (by decide)
          have f858 : (9 : Int32).toInt = 9 := rfl
          have f859 := rng32 ((((p1.toUInt32 >>> ((1 : Int32) &&& 31).toUInt32).toInt32) &&& (2147483647 : Int32)) % (9 : Int32))
          have f860 := c_irem (((p1.toUInt32 >>> ((1 : Int32) &&& 31).toUInt32).toInt32) &&& (2147483647 : Int32)) (9 : Int32) 9 rfl
          have f861 : (8 : Int32).toInt = 8 := rfl
          have f862 : (65374 : Int32).toInt = 65374 := rfl
          have f863 := rng32 p2
          have f864 : (3 : Int32).toInt = 3 := rfl
          have f865 := rng32 (p2 % (3 : Int32))
          have f866 := c_irem p2 (3 : Int32) 3 rfl
          have f867 := rng32 ((65374 : Int32) + (p2 % (3 : Int32)))
          have f868 : ((65374 : Int32) + (p2 % (3 : Int32))).toInt = (65374 : Int32).toInt + (p2 % (3 : Int32)).toInt := by have h := c_iadd (65374 : Int32) (p2 % (3 : Int32)); omega
          have f869 : (65535 : Int32).toInt = 65535 := rfl
          have f870 := rng32 (((65374 : Int32) + (p2 % (3 : Int32))) &&& (65535 : Int32))
          have f871 : (((65374 : Int32) + (p2 % (3 : Int32))) &&& (65535 : Int32)).toInt = ((65374 : Int32) + (p2 % (3 : Int32))).toInt % 65536 := c_mask ((65374 : Int32) + (p2 % (3 : Int32))) (65535 : Int32) 16 (by decide) (by decide)
          have f872 := rng32 ((((65374 : Int32) + (p2 % (3 : Int32))) &&& (65535 : Int32)).toUInt32.toUInt16.toUInt32.toInt32)
          have f873 := c_i2c (((65374 : Int32) + (p2 % (3 : Int32))) &&& (65535 : Int32))
          have f874 : (65536 : Int32).toInt = 65536 := rfl
          have g875 := hc212
          rw [← Int32.toInt_inj] at g875
          have g876 := hc214
          rw [← Int32.toInt_inj] at g876
          have g877 := hs280
          rw [← Int32.toInt_inj] at g877
          omega
        exact tailLENIENT _ _ _ _ ((((65374 : Int32) + (p2 % (3 : Int32))) &&& (65535 : Int32)).toUInt32.toUInt16.toUInt32.toInt32) _ _ (One.val rfl) (One.val rfl) X277 N277 (by rw [e277]; exact K279) (by decide) (by decide) hv811 hv844
  · refine own_st (fun t k => XS.ifNo X0.here hx rfl (hb hby at_3) rfl ((if0 _ _).trans (feq hc212).1) k) ?_
    show own_E p e below _ s₁ (mkF m 6 #[iv p1, iv p2, iv p3, .unset, .unset, .unset, .unset, .unset, .unset] [])
    obtain ⟨T878, X878, e878, st878⟩ := getS2 X0 hx hZ hown (host := "") (Or.inl (own_w hw 12 rfl)) Via.refl e0 (own_StaK S_STRICT (Keep.refl h0 [])) (g := (mkF m 6 #[iv p1, iv p2, iv p3, .unset, .unset, .unset, .unset, .unset, .unset] [])) rfl (hb hby at_6)
    refine own_st st878 ?_
    show own_E p e below _ T878 (mkF m 9 #[iv p1, iv p2, iv p3, .unset, .unset, .unset, .unset, .unset, .unset] [.ref aSTRICT])
    refine own_st (fun t k => XS.goto X878.here hx rfl (pc0 := 9) (pc' := 15) rfl (hb hby at_9) (by decide) (by decide) k) ?_
    show own_E p e below _ T878 (mkF m 15 #[iv p1, iv p2, iv p3, .unset, .unset, .unset, .unset, .unset, .unset] [.ref aSTRICT])
    refine own_st (fun t k => XS.astoreN X878.here hx rfl (hb hby at_15) rfl rfl (l' := #[iv p1, iv p2, iv p3, rv aSTRICT, .unset, .unset, .unset, .unset, .unset]) rfl k) ?_
    show own_E p e below _ T878 (mkF m 16 #[iv p1, iv p2, iv p3, rv aSTRICT, .unset, .unset, .unset, .unset, .unset] [])
    refine own_st (fun t k => XS.iloadN X878.here hx rfl (hb hby at_16) rfl k) ?_
    show own_E p e below _ T878 (mkF m 17 #[iv p1, iv p2, iv p3, rv aSTRICT, .unset, .unset, .unset, .unset, .unset] [.int p3])
    refine own_st (fun t k => XS.iconst X878.here hx rfl (hb hby at_17) k) ?_
    show own_E p e below _ T878 (mkF m 18 #[iv p1, iv p2, iv p3, rv aSTRICT, .unset, .unset, .unset, .unset, .unset] [.int 1, .int p3])
    refine own_st (fun t k => XS.iand X878.here hx rfl (hb hby at_18) rfl k) ?_
    show own_E p e below _ T878 (mkF m 19 #[iv p1, iv p2, iv p3, rv aSTRICT, .unset, .unset, .unset, .unset, .unset] [.int (p3 &&& (1 : Int32))])
    refine own_st (fun t k => XS.ifNo X878.here hx rfl (hb hby at_19) rfl ((if0 _ _).trans (feq hc212).1) k) ?_
    show own_E p e below _ T878 (mkF m 22 #[iv p1, iv p2, iv p3, rv aSTRICT, .unset, .unset, .unset, .unset, .unset] [])
    refine own_st (fun t k => XS.iconst X878.here hx rfl (hb hby at_22) k) ?_
    show own_E p e below _ T878 (mkF m 23 #[iv p1, iv p2, iv p3, rv aSTRICT, .unset, .unset, .unset, .unset, .unset] [.int 1])
    refine own_st (fun t k => XS.goto X878.here hx rfl (pc0 := 23) (pc' := 27) rfl (hb hby at_23) (by decide) (by decide) k) ?_
    show own_E p e below _ T878 (mkF m 27 #[iv p1, iv p2, iv p3, rv aSTRICT, .unset, .unset, .unset, .unset, .unset] [.int 1])
    refine own_st (fun t k => XS.istore X878.here hx rfl (hb hby at_27) rfl (l' := #[iv p1, iv p2, iv p3, rv aSTRICT, iv 1, .unset, .unset, .unset, .unset]) rfl k) ?_
    show own_E p e below _ T878 (mkF m 29 #[iv p1, iv p2, iv p3, rv aSTRICT, iv 1, .unset, .unset, .unset, .unset] [])
    refine own_st (fun t k => XS.iloadN X878.here hx rfl (hb hby at_29) rfl k) ?_
    show own_E p e below _ T878 (mkF m 30 #[iv p1, iv p2, iv p3, rv aSTRICT, iv 1, .unset, .unset, .unset, .unset] [.int p1])
    refine own_st (fun t k => XS.iconst X878.here hx rfl (hb hby at_30) k) ?_
    show own_E p e below _ T878 (mkF m 31 #[iv p1, iv p2, iv p3, rv aSTRICT, iv 1, .unset, .unset, .unset, .unset] [.int 1, .int p1])
    refine own_st (fun t k => XS.iand X878.here hx rfl (hb hby at_31) rfl k) ?_
    show own_E p e below _ T878 (mkF m 32 #[iv p1, iv p2, iv p3, rv aSTRICT, iv 1, .unset, .unset, .unset, .unset] [.int (p1 &&& (1 : Int32))])
    by_cases hc879 : (p1 &&& (1 : Int32)) = (0 : Int32)
    · refine own_st (fun t k => XS.ifNo X878.here hx rfl (hb hby at_32) rfl ((if0 _ _).trans (teq hc879).2) k) ?_
      show own_E p e below _ T878 (mkF m 35 #[iv p1, iv p2, iv p3, rv aSTRICT, iv 1, .unset, .unset, .unset, .unset] [])
      refine own_st (fun t k => XS.iloadN X878.here hx rfl (hb hby at_35) rfl k) ?_
      show own_E p e below _ T878 (mkF m 36 #[iv p1, iv p2, iv p3, rv aSTRICT, iv 1, .unset, .unset, .unset, .unset] [.int p2])
      refine own_st (X878.ldcInt hx hown (mvT hZ (own_w hw 3 rfl)) (g := (mkF m 36 #[iv p1, iv p2, iv p3, rv aSTRICT, iv 1, .unset, .unset, .unset, .unset] [.int p2])) rfl (hb hby at_36)) ?_
      show own_E p e below _ T878 (mkF m 38 #[iv p1, iv p2, iv p3, rv aSTRICT, iv 1, .unset, .unset, .unset, .unset] [.int 65535, .int p2])
      refine own_st (fun t k => XS.iand X878.here hx rfl (hb hby at_38) rfl k) ?_
      show own_E p e below _ T878 (mkF m 39 #[iv p1, iv p2, iv p3, rv aSTRICT, iv 1, .unset, .unset, .unset, .unset] [.int (p2 &&& (65535 : Int32))])
      refine own_st (fun t k => XS.i2c X878.here hx rfl (hb hby at_39) rfl k) ?_
      show own_E p e below _ T878 (mkF m 40 #[iv p1, iv p2, iv p3, rv aSTRICT, iv 1, .unset, .unset, .unset, .unset] [.int ((p2 &&& (65535 : Int32)).toUInt32.toUInt16.toUInt32.toInt32)])
      refine own_st (fun t k => XS.istore X878.here hx rfl (hb hby at_40) rfl (l' := #[iv p1, iv p2, iv p3, rv aSTRICT, iv 1, iv ((p2 &&& (65535 : Int32)).toUInt32.toUInt16.toUInt32.toInt32), .unset, .unset, .unset]) rfl k) ?_
      show own_E p e below _ T878 (mkF m 42 #[iv p1, iv p2, iv p3, rv aSTRICT, iv 1, iv ((p2 &&& (65535 : Int32)).toUInt32.toUInt16.toUInt32.toInt32), .unset, .unset, .unset] [])
      refine own_st (fun t k => XS.goto X878.here hx rfl (pc0 := 42) (pc' := 132) rfl (hb hby at_42) (by decide) (by decide) k) ?_
      show own_E p e below _ T878 (mkF m 132 #[iv p1, iv p2, iv p3, rv aSTRICT, iv 1, iv ((p2 &&& (65535 : Int32)).toUInt32.toUInt16.toUInt32.toInt32), .unset, .unset, .unset] [])
      have hv880 : ¬ (((p2 &&& (65535 : Int32)).toUInt32.toUInt16.toUInt32.toInt32) < (0 : Int32)) := by
        rw [Int32.lt_iff_toInt_lt]
        have f881 := rng32 p3
        have f882 : (1 : Int32).toInt = 1 := rfl
        have f883 := rng32 (p3 &&& (1 : Int32))
        have f884 : (p3 &&& (1 : Int32)).toInt = p3.toInt % 2 := c_mask p3 (1 : Int32) 1 (by decide) (by decide)
        have f885 : (0 : Int32).toInt = 0 := rfl
        have f886 := rng32 p1
        have f887 := rng32 (p1 &&& (1 : Int32))
        have f888 : (p1 &&& (1 : Int32)).toInt = p1.toInt % 2 := c_mask p1 (1 : Int32) 1 (by decide) (by decide)
        have f889 := rng32 p2
        have f890 : (65535 : Int32).toInt = 65535 := rfl
        have f891 := rng32 (p2 &&& (65535 : Int32))
        have f892 : (p2 &&& (65535 : Int32)).toInt = p2.toInt % 65536 := c_mask p2 (65535 : Int32) 16 (by decide) (by decide)
        have f893 := rng32 ((p2 &&& (65535 : Int32)).toUInt32.toUInt16.toUInt32.toInt32)
        have f894 := c_i2c (p2 &&& (65535 : Int32))
        have g895 := hc212
        rw [← Int32.toInt_inj] at g895
        have g896 := hc879
        rw [← Int32.toInt_inj] at g896
        omega
      have hv897 : ((p2 &&& (65535 : Int32)).toUInt32.toUInt16.toUInt32.toInt32) < (65536 : Int32) := by
        rw [Int32.lt_iff_toInt_lt]
        have f898 := rng32 p3
        have f899 : (1 : Int32).toInt = 1 := rfl
        have f900 := rng32 (p3 &&& (1 : Int32))
        have f901 : (p3 &&& (1 : Int32)).toInt = p3.toInt % 2 := c_mask p3 (1 : Int32) 1 (by decide) (by decide)
        have f902 : (0 : Int32).toInt = 0 := rfl
        have f903 := rng32 p1
        have f904 := rng32 (p1 &&& (1 : Int32))
        have f905 : (p1 &&& (1 : Int32)).toInt = p1.toInt % 2 := c_mask p1 (1 : Int32) 1 (by decide) (by decide)
        have f906 := rng32 p2
        have f907 : (65535 : Int32).toInt = 65535 := rfl
        have f908 := rng32 (p2 &&& (65535 : Int32))
        have f909 : (p2 &&& (65535 : Int32)).toInt = p2.toInt % 65536 := c_mask p2 (65535 : Int32) 16 (by decide) (by decide)
        have f910 := rng32 ((p2 &&& (65535 : Int32)).toUInt32.toUInt16.toUInt32.toInt32)
        have f911 := c_i2c (p2 &&& (65535 : Int32))
        have f912 : (65536 : Int32).toInt = 65536 := rfl
        have g913 := hc212
        rw [← Int32.toInt_inj] at g913
        have g914 := hc879
        rw [← Int32.toInt_inj] at g914
        omega
      exact tailSTRICT _ _ _ _ ((p2 &&& (65535 : Int32)).toUInt32.toUInt16.toUInt32.toInt32) _ _ One.u One.u X878 (Fr.nil n0) (by rw [e878]; exact (Keep.refl h0 [])) (by decide) (by decide) hv880 hv897
    · refine own_st (fun t k => XS.ifYes X878.here hx rfl (pc0 := 32) (pc' := 45) rfl (hb hby at_32) rfl ((if0 _ _).trans (feq hc879).2) (by decide) (by decide) k) ?_
      show own_E p e below _ T878 (mkF m 45 #[iv p1, iv p2, iv p3, rv aSTRICT, iv 1, .unset, .unset, .unset, .unset] [])
      refine own_st (fun t k => XS.bipush X878.here hx rfl (hb hby at_45) k) ?_
      show own_E p e below _ T878 (mkF m 47 #[iv p1, iv p2, iv p3, rv aSTRICT, iv 1, .unset, .unset, .unset, .unset] [.int 9])
      obtain ⟨T915, h915, k915, X915, e915, E915, A915, st915⟩ := newP X878 hx hZ (own_w hw 13 rfl) e878 (g := (mkF m 47 #[iv p1, iv p2, iv p3, rv aSTRICT, iv 1, .unset, .unset, .unset, .unset] [.int 9])) rfl (hb hby at_47) rfl (by decide) (cap := 9) (by decide) (by decide) (by decide) (by decide)
      obtain ⟨b915, g915⟩ : ∃ z, z = h0.size := ⟨_, rfl⟩
      rw [← g915] at A915 st915
      have ne_aLENIENT_b915 : aLENIENT ≠ b915 := Nat.ne_of_lt (Nat.lt_of_lt_of_le E_LENIENT.lt (Nat.le_of_eq g915.symm))
      have ne_aSTRICT_b915 : aSTRICT ≠ b915 := Nat.ne_of_lt (Nat.lt_of_lt_of_le E_STRICT.lt (Nat.le_of_eq g915.symm))
      have g_b915 : n0 ≤ b915 := Nat.le_trans Z0 (Nat.le_of_eq g915.symm)
      have sz_b915 : h0.size ≤ b915 := Nat.le_trans (Keep.refl h0 []).1 (Nat.le_of_eq g915.symm)
      have Z916 := Nat.le_trans Z0 E915.1
      have K917 : Keep h0 _ [] := (Keep.refl h0 []).ext E915
      have V915 : Arv Z h915 b915 k915 .int (9 : Int32) [(.int (0 : Int32)), (.int (0 : Int32)), (.int (0 : Int32)), (.int (0 : Int32)), (.int (0 : Int32)), (.int (0 : Int32)), (.int (0 : Int32)), (.int (0 : Int32)), (.int (0 : Int32))] (.int (0 : Int32)) := (Arv.new A915 (by decide)).pad (pad_rep [] (.int (0 : Int32)) 9)
      refine own_st st915 ?_
      show own_E p e below _ T915 (mkF m 49 #[iv p1, iv p2, iv p3, rv aSTRICT, iv 1, .unset, .unset, .unset, .unset] [.ref b915])
      refine own_st (fun t k => XS.dup X915.here hx rfl (hb hby at_49) rfl rfl k) ?_
      show own_E p e below _ T915 (mkF m 50 #[iv p1, iv p2, iv p3, rv aSTRICT, iv 1, .unset, .unset, .unset, .unset] [.ref b915, .ref b915])
      refine own_st (fun t k => XS.iconst X915.here hx rfl (hb hby at_50) k) ?_
      show own_E p e below _ T915 (mkF m 51 #[iv p1, iv p2, iv p3, rv aSTRICT, iv 1, .unset, .unset, .unset, .unset] [.int 0, .ref b915, .ref b915])
      refine own_st (fun t k => XS.sipush X915.here hx rfl (hb hby at_51) k) ?_
      show own_E p e below _ T915 (mkF m 54 #[iv p1, iv p2, iv p3, rv aSTRICT, iv 1, .unset, .unset, .unset, .unset] [.int 160, .int 0, .ref b915, .ref b915])
      obtain ⟨T918, h918, X918, e918, W918, Vw918, st918⟩ := own_ast X915 hx hZ e915 V915 (j := (0 : Int32)) ⟨by decide, by decide⟩ (x := (160 : Int32)) (i := 0) rfl (Nat.le_of_ble_eq_true rfl) (g := (mkF m 54 #[iv p1, iv p2, iv p3, rv aSTRICT, iv 1, .unset, .unset, .unset, .unset] [.int 160, .int 0, .ref b915, .ref b915])) rfl rfl (hb hby at_54)
      have V918 : Arv Z h918 b915 k915 .int (9 : Int32) [(.int (160 : Int32)), (.int (0 : Int32)), (.int (0 : Int32)), (.int (0 : Int32)), (.int (0 : Int32)), (.int (0 : Int32)), (.int (0 : Int32)), (.int (0 : Int32)), (.int (0 : Int32))] (.int (0 : Int32)) := Vw918
      have N918 := Fr.snoc X918 (Fr.nil n0) g_b915
      have Z919 := Nat.le_trans Z916 (Keep.of_wr W918).1
      have K920 : Keep h0 _ [] := K917.wr W918 (Or.inr sz_b915)
      refine own_st st918 ?_
      show own_E p e below _ T918 (mkF m 55 #[iv p1, iv p2, iv p3, rv aSTRICT, iv 1, .unset, .unset, .unset, .unset] [.ref b915])
      refine own_st (fun t k => XS.dup X918.here hx rfl (hb hby at_55) rfl rfl k) ?_
      show own_E p e below _ T918 (mkF m 56 #[iv p1, iv p2, iv p3, rv aSTRICT, iv 1, .unset, .unset, .unset, .unset] [.ref b915, .ref b915])
      refine own_st (fun t k => XS.iconst X918.here hx rfl (hb hby at_56) k) ?_
      show own_E p e below _ T918 (mkF m 57 #[iv p1, iv p2, iv p3, rv aSTRICT, iv 1, .unset, .unset, .unset, .unset] [.int 1, .ref b915, .ref b915])
      refine own_st (fun t k => XS.sipush X918.here hx rfl (hb hby at_57) k) ?_
      show own_E p e below _ T918 (mkF m 60 #[iv p1, iv p2, iv p3, rv aSTRICT, iv 1, .unset, .unset, .unset, .unset] [.int 8199, .int 1, .ref b915, .ref b915])
      obtain ⟨T921, h921, X921, e921, W921, Vw921, st921⟩ := own_ast X918 hx hZ e918 V918 (j := (1 : Int32)) ⟨by decide, by decide⟩ (x := (8199 : Int32)) (i := 1) rfl (Nat.le_of_ble_eq_true rfl) (g := (mkF m 60 #[iv p1, iv p2, iv p3, rv aSTRICT, iv 1, .unset, .unset, .unset, .unset] [.int 8199, .int 1, .ref b915, .ref b915])) rfl rfl (hb hby at_60)
      have V921 : Arv Z h921 b915 k915 .int (9 : Int32) [(.int (160 : Int32)), (.int (8199 : Int32)), (.int (0 : Int32)), (.int (0 : Int32)), (.int (0 : Int32)), (.int (0 : Int32)), (.int (0 : Int32)), (.int (0 : Int32)), (.int (0 : Int32))] (.int (0 : Int32)) := Vw921
      have N921 := Fr.snoc X921 N918 g_b915
      have Z922 := Nat.le_trans Z919 (Keep.of_wr W921).1
      have K923 : Keep h0 _ [] := K920.wr W921 (Or.inr sz_b915)
      refine own_st st921 ?_
      show own_E p e below _ T921 (mkF m 61 #[iv p1, iv p2, iv p3, rv aSTRICT, iv 1, .unset, .unset, .unset, .unset] [.ref b915])
      refine own_st (fun t k => XS.dup X921.here hx rfl (hb hby at_61) rfl rfl k) ?_
      show own_E p e below _ T921 (mkF m 62 #[iv p1, iv p2, iv p3, rv aSTRICT, iv 1, .unset, .unset, .unset, .unset] [.ref b915, .ref b915])
      refine own_st (fun t k => XS.iconst X921.here hx rfl (hb hby at_62) k) ?_
      show own_E p e below _ T921 (mkF m 63 #[iv p1, iv p2, iv p3, rv aSTRICT, iv 1, .unset, .unset, .unset, .unset] [.int 2, .ref b915, .ref b915])
      refine own_st (fun t k => XS.sipush X921.here hx rfl (hb hby at_63) k) ?_
      show own_E p e below _ T921 (mkF m 66 #[iv p1, iv p2, iv p3, rv aSTRICT, iv 1, .unset, .unset, .unset, .unset] [.int 8208, .int 2, .ref b915, .ref b915])
      obtain ⟨T924, h924, X924, e924, W924, Vw924, st924⟩ := own_ast X921 hx hZ e921 V921 (j := (2 : Int32)) ⟨by decide, by decide⟩ (x := (8208 : Int32)) (i := 2) rfl (Nat.le_of_ble_eq_true rfl) (g := (mkF m 66 #[iv p1, iv p2, iv p3, rv aSTRICT, iv 1, .unset, .unset, .unset, .unset] [.int 8208, .int 2, .ref b915, .ref b915])) rfl rfl (hb hby at_66)
      have V924 : Arv Z h924 b915 k915 .int (9 : Int32) [(.int (160 : Int32)), (.int (8199 : Int32)), (.int (8208 : Int32)), (.int (0 : Int32)), (.int (0 : Int32)), (.int (0 : Int32)), (.int (0 : Int32)), (.int (0 : Int32)), (.int (0 : Int32))] (.int (0 : Int32)) := Vw924
      have N924 := Fr.snoc X924 N921 g_b915
      have Z925 := Nat.le_trans Z922 (Keep.of_wr W924).1
      have K926 : Keep h0 _ [] := K923.wr W924 (Or.inr sz_b915)
      refine own_st st924 ?_
      show own_E p e below _ T924 (mkF m 67 #[iv p1, iv p2, iv p3, rv aSTRICT, iv 1, .unset, .unset, .unset, .unset] [.ref b915])
      refine own_st (fun t k => XS.dup X924.here hx rfl (hb hby at_67) rfl rfl k) ?_
      show own_E p e below _ T924 (mkF m 68 #[iv p1, iv p2, iv p3, rv aSTRICT, iv 1, .unset, .unset, .unset, .unset] [.ref b915, .ref b915])
      refine own_st (fun t k => XS.iconst X924.here hx rfl (hb hby at_68) k) ?_
      show own_E p e below _ T924 (mkF m 69 #[iv p1, iv p2, iv p3, rv aSTRICT, iv 1, .unset, .unset, .unset, .unset] [.int 3, .ref b915, .ref b915])
      refine own_st (fun t k => XS.sipush X924.here hx rfl (hb hby at_69) k) ?_
      show own_E p e below _ T924 (mkF m 72 #[iv p1, iv p2, iv p3, rv aSTRICT, iv 1, .unset, .unset, .unset, .unset] [.int 8213, .int 3, .ref b915, .ref b915])
      obtain ⟨T927, h927, X927, e927, W927, Vw927, st927⟩ := own_ast X924 hx hZ e924 V924 (j := (3 : Int32)) ⟨by decide, by decide⟩ (x := (8213 : Int32)) (i := 3) rfl (Nat.le_of_ble_eq_true rfl) (g := (mkF m 72 #[iv p1, iv p2, iv p3, rv aSTRICT, iv 1, .unset, .unset, .unset, .unset] [.int 8213, .int 3, .ref b915, .ref b915])) rfl rfl (hb hby at_72)
      have V927 : Arv Z h927 b915 k915 .int (9 : Int32) [(.int (160 : Int32)), (.int (8199 : Int32)), (.int (8208 : Int32)), (.int (8213 : Int32)), (.int (0 : Int32)), (.int (0 : Int32)), (.int (0 : Int32)), (.int (0 : Int32)), (.int (0 : Int32))] (.int (0 : Int32)) := Vw927
      have N927 := Fr.snoc X927 N924 g_b915
      have Z928 := Nat.le_trans Z925 (Keep.of_wr W927).1
      have K929 : Keep h0 _ [] := K926.wr W927 (Or.inr sz_b915)
      refine own_st st927 ?_
      show own_E p e below _ T927 (mkF m 73 #[iv p1, iv p2, iv p3, rv aSTRICT, iv 1, .unset, .unset, .unset, .unset] [.ref b915])
      refine own_st (fun t k => XS.dup X927.here hx rfl (hb hby at_73) rfl rfl k) ?_
      show own_E p e below _ T927 (mkF m 74 #[iv p1, iv p2, iv p3, rv aSTRICT, iv 1, .unset, .unset, .unset, .unset] [.ref b915, .ref b915])
      refine own_st (fun t k => XS.iconst X927.here hx rfl (hb hby at_74) k) ?_
      show own_E p e below _ T927 (mkF m 75 #[iv p1, iv p2, iv p3, rv aSTRICT, iv 1, .unset, .unset, .unset, .unset] [.int 4, .ref b915, .ref b915])
      refine own_st (fun t k => XS.sipush X927.here hx rfl (hb hby at_75) k) ?_
      show own_E p e below _ T927 (mkF m 78 #[iv p1, iv p2, iv p3, rv aSTRICT, iv 1, .unset, .unset, .unset, .unset] [.int 8239, .int 4, .ref b915, .ref b915])
      obtain ⟨T930, h930, X930, e930, W930, Vw930, st930⟩ := own_ast X927 hx hZ e927 V927 (j := (4 : Int32)) ⟨by decide, by decide⟩ (x := (8239 : Int32)) (i := 4) rfl (Nat.le_of_ble_eq_true rfl) (g := (mkF m 78 #[iv p1, iv p2, iv p3, rv aSTRICT, iv 1, .unset, .unset, .unset, .unset] [.int 8239, .int 4, .ref b915, .ref b915])) rfl rfl (hb hby at_78)
      have V930 : Arv Z h930 b915 k915 .int (9 : Int32) [(.int (160 : Int32)), (.int (8199 : Int32)), (.int (8208 : Int32)), (.int (8213 : Int32)), (.int (8239 : Int32)), (.int (0 : Int32)), (.int (0 : Int32)), (.int (0 : Int32)), (.int (0 : Int32))] (.int (0 : Int32)) := Vw930
      have N930 := Fr.snoc X930 N927 g_b915
      have Z931 := Nat.le_trans Z928 (Keep.of_wr W930).1
      have K932 : Keep h0 _ [] := K929.wr W930 (Or.inr sz_b915)
      refine own_st st930 ?_
      show own_E p e below _ T930 (mkF m 79 #[iv p1, iv p2, iv p3, rv aSTRICT, iv 1, .unset, .unset, .unset, .unset] [.ref b915])
      refine own_st (fun t k => XS.dup X930.here hx rfl (hb hby at_79) rfl rfl k) ?_
      show own_E p e below _ T930 (mkF m 80 #[iv p1, iv p2, iv p3, rv aSTRICT, iv 1, .unset, .unset, .unset, .unset] [.ref b915, .ref b915])
      refine own_st (fun t k => XS.iconst X930.here hx rfl (hb hby at_80) k) ?_
      show own_E p e below _ T930 (mkF m 81 #[iv p1, iv p2, iv p3, rv aSTRICT, iv 1, .unset, .unset, .unset, .unset] [.int 5, .ref b915, .ref b915])
      refine own_st (fun t k => XS.sipush X930.here hx rfl (hb hby at_81) k) ?_
      show own_E p e below _ T930 (mkF m 84 #[iv p1, iv p2, iv p3, rv aSTRICT, iv 1, .unset, .unset, .unset, .unset] [.int 8722, .int 5, .ref b915, .ref b915])
      obtain ⟨T933, h933, X933, e933, W933, Vw933, st933⟩ := own_ast X930 hx hZ e930 V930 (j := (5 : Int32)) ⟨by decide, by decide⟩ (x := (8722 : Int32)) (i := 5) rfl (Nat.le_of_ble_eq_true rfl) (g := (mkF m 84 #[iv p1, iv p2, iv p3, rv aSTRICT, iv 1, .unset, .unset, .unset, .unset] [.int 8722, .int 5, .ref b915, .ref b915])) rfl rfl (hb hby at_84)
      have V933 : Arv Z h933 b915 k915 .int (9 : Int32) [(.int (160 : Int32)), (.int (8199 : Int32)), (.int (8208 : Int32)), (.int (8213 : Int32)), (.int (8239 : Int32)), (.int (8722 : Int32)), (.int (0 : Int32)), (.int (0 : Int32)), (.int (0 : Int32))] (.int (0 : Int32)) := Vw933
      have N933 := Fr.snoc X933 N930 g_b915
      have Z934 := Nat.le_trans Z931 (Keep.of_wr W933).1
      have K935 : Keep h0 _ [] := K932.wr W933 (Or.inr sz_b915)
      refine own_st st933 ?_
      show own_E p e below _ T933 (mkF m 85 #[iv p1, iv p2, iv p3, rv aSTRICT, iv 1, .unset, .unset, .unset, .unset] [.ref b915])
      refine own_st (fun t k => XS.dup X933.here hx rfl (hb hby at_85) rfl rfl k) ?_
      show own_E p e below _ T933 (mkF m 86 #[iv p1, iv p2, iv p3, rv aSTRICT, iv 1, .unset, .unset, .unset, .unset] [.ref b915, .ref b915])
      refine own_st (fun t k => XS.bipush X933.here hx rfl (hb hby at_86) k) ?_
      show own_E p e below _ T933 (mkF m 88 #[iv p1, iv p2, iv p3, rv aSTRICT, iv 1, .unset, .unset, .unset, .unset] [.int 6, .ref b915, .ref b915])
      refine own_st (fun t k => XS.sipush X933.here hx rfl (hb hby at_88) k) ?_
      show own_E p e below _ T933 (mkF m 91 #[iv p1, iv p2, iv p3, rv aSTRICT, iv 1, .unset, .unset, .unset, .unset] [.int 12288, .int 6, .ref b915, .ref b915])
      obtain ⟨T936, h936, X936, e936, W936, Vw936, st936⟩ := own_ast X933 hx hZ e933 V933 (j := (6 : Int32)) ⟨by decide, by decide⟩ (x := (12288 : Int32)) (i := 6) rfl (Nat.le_of_ble_eq_true rfl) (g := (mkF m 91 #[iv p1, iv p2, iv p3, rv aSTRICT, iv 1, .unset, .unset, .unset, .unset] [.int 12288, .int 6, .ref b915, .ref b915])) rfl rfl (hb hby at_91)
      have V936 : Arv Z h936 b915 k915 .int (9 : Int32) [(.int (160 : Int32)), (.int (8199 : Int32)), (.int (8208 : Int32)), (.int (8213 : Int32)), (.int (8239 : Int32)), (.int (8722 : Int32)), (.int (12288 : Int32)), (.int (0 : Int32)), (.int (0 : Int32))] (.int (0 : Int32)) := Vw936
      have N936 := Fr.snoc X936 N933 g_b915
      have Z937 := Nat.le_trans Z934 (Keep.of_wr W936).1
      have K938 : Keep h0 _ [] := K935.wr W936 (Or.inr sz_b915)
      refine own_st st936 ?_
      show own_E p e below _ T936 (mkF m 92 #[iv p1, iv p2, iv p3, rv aSTRICT, iv 1, .unset, .unset, .unset, .unset] [.ref b915])
      refine own_st (fun t k => XS.dup X936.here hx rfl (hb hby at_92) rfl rfl k) ?_
      show own_E p e below _ T936 (mkF m 93 #[iv p1, iv p2, iv p3, rv aSTRICT, iv 1, .unset, .unset, .unset, .unset] [.ref b915, .ref b915])
      refine own_st (fun t k => XS.bipush X936.here hx rfl (hb hby at_93) k) ?_
      show own_E p e below _ T936 (mkF m 95 #[iv p1, iv p2, iv p3, rv aSTRICT, iv 1, .unset, .unset, .unset, .unset] [.int 7, .ref b915, .ref b915])
      refine own_st (X936.ldcInt hx hown (mvT hZ (own_w hw 4 rfl)) (g := (mkF m 95 #[iv p1, iv p2, iv p3, rv aSTRICT, iv 1, .unset, .unset, .unset, .unset] [.int 7, .ref b915, .ref b915])) rfl (hb hby at_95)) ?_
      show own_E p e below _ T936 (mkF m 97 #[iv p1, iv p2, iv p3, rv aSTRICT, iv 1, .unset, .unset, .unset, .unset] [.int 65281, .int 7, .ref b915, .ref b915])
      obtain ⟨T939, h939, X939, e939, W939, Vw939, st939⟩ := own_ast X936 hx hZ e936 V936 (j := (7 : Int32)) ⟨by decide, by decide⟩ (x := (65281 : Int32)) (i := 7) rfl (Nat.le_of_ble_eq_true rfl) (g := (mkF m 97 #[iv p1, iv p2, iv p3, rv aSTRICT, iv 1, .unset, .unset, .unset, .unset] [.int 65281, .int 7, .ref b915, .ref b915])) rfl rfl (hb hby at_97)
      have V939 : Arv Z h939 b915 k915 .int (9 : Int32) [(.int (160 : Int32)), (.int (8199 : Int32)), (.int (8208 : Int32)), (.int (8213 : Int32)), (.int (8239 : Int32)), (.int (8722 : Int32)), (.int (12288 : Int32)), (.int (65281 : Int32)), (.int (0 : Int32))] (.int (0 : Int32)) := Vw939
      have N939 := Fr.snoc X939 N936 g_b915
      have Z940 := Nat.le_trans Z937 (Keep.of_wr W939).1
      have K941 : Keep h0 _ [] := K938.wr W939 (Or.inr sz_b915)
      refine own_st st939 ?_
      show own_E p e below _ T939 (mkF m 98 #[iv p1, iv p2, iv p3, rv aSTRICT, iv 1, .unset, .unset, .unset, .unset] [.ref b915])
      refine own_st (fun t k => XS.dup X939.here hx rfl (hb hby at_98) rfl rfl k) ?_
      show own_E p e below _ T939 (mkF m 99 #[iv p1, iv p2, iv p3, rv aSTRICT, iv 1, .unset, .unset, .unset, .unset] [.ref b915, .ref b915])
      refine own_st (fun t k => XS.bipush X939.here hx rfl (hb hby at_99) k) ?_
      show own_E p e below _ T939 (mkF m 101 #[iv p1, iv p2, iv p3, rv aSTRICT, iv 1, .unset, .unset, .unset, .unset] [.int 8, .ref b915, .ref b915])
      refine own_st (X939.ldcInt hx hown (mvT hZ (own_w hw 14 rfl)) (g := (mkF m 101 #[iv p1, iv p2, iv p3, rv aSTRICT, iv 1, .unset, .unset, .unset, .unset] [.int 8, .ref b915, .ref b915])) rfl (hb hby at_101)) ?_
      show own_E p e below _ T939 (mkF m 103 #[iv p1, iv p2, iv p3, rv aSTRICT, iv 1, .unset, .unset, .unset, .unset] [.int 65374, .int 8, .ref b915, .ref b915])
      obtain ⟨T942, h942, X942, e942, W942, Vw942, st942⟩ := own_ast X939 hx hZ e939 V939 (j := (8 : Int32)) ⟨by decide, by decide⟩ (x := (65374 : Int32)) (i := 8) rfl (Nat.le_of_ble_eq_true rfl) (g := (mkF m 103 #[iv p1, iv p2, iv p3, rv aSTRICT, iv 1, .unset, .unset, .unset, .unset] [.int 65374, .int 8, .ref b915, .ref b915])) rfl rfl (hb hby at_103)
      have V942 : Arv Z h942 b915 k915 .int (9 : Int32) [(.int (160 : Int32)), (.int (8199 : Int32)), (.int (8208 : Int32)), (.int (8213 : Int32)), (.int (8239 : Int32)), (.int (8722 : Int32)), (.int (12288 : Int32)), (.int (65281 : Int32)), (.int (65374 : Int32))] (.int (0 : Int32)) := Vw942
      have N942 := Fr.snoc X942 N939 g_b915
      have Z943 := Nat.le_trans Z940 (Keep.of_wr W942).1
      have K944 : Keep h0 _ [] := K941.wr W942 (Or.inr sz_b915)
      refine own_st st942 ?_
      show own_E p e below _ T942 (mkF m 104 #[iv p1, iv p2, iv p3, rv aSTRICT, iv 1, .unset, .unset, .unset, .unset] [.ref b915])
      refine own_st (fun t k => XS.astore X942.here hx rfl (hb hby at_104) rfl rfl (l' := #[iv p1, iv p2, iv p3, rv aSTRICT, iv 1, .unset, rv b915, .unset, .unset]) rfl k) ?_
      show own_E p e below _ T942 (mkF m 106 #[iv p1, iv p2, iv p3, rv aSTRICT, iv 1, .unset, rv b915, .unset, .unset] [])
      refine own_st (fun t k => XS.aload X942.here hx rfl (hb hby at_106) rfl rfl k) ?_
      show own_E p e below _ T942 (mkF m 108 #[iv p1, iv p2, iv p3, rv aSTRICT, iv 1, .unset, rv b915, .unset, .unset] [.ref b915])
      refine own_st (fun t k => XS.iloadN X942.here hx rfl (hb hby at_108) rfl k) ?_
      show own_E p e below _ T942 (mkF m 109 #[iv p1, iv p2, iv p3, rv aSTRICT, iv 1, .unset, rv b915, .unset, .unset] [.int p1, .ref b915])
      refine own_st (fun t k => XS.iconst X942.here hx rfl (hb hby at_109) k) ?_
      show own_E p e below _ T942 (mkF m 110 #[iv p1, iv p2, iv p3, rv aSTRICT, iv 1, .unset, rv b915, .unset, .unset] [.int 1, .int p1, .ref b915])
      refine own_st (fun t k => XS.iushr X942.here hx rfl (hb hby at_110) rfl k) ?_
      show own_E p e below _ T942 (mkF m 111 #[iv p1, iv p2, iv p3, rv aSTRICT, iv 1, .unset, rv b915, .unset, .unset] [.int ((p1.toUInt32 >>> ((1 : Int32) &&& 31).toUInt32).toInt32), .ref b915])
      refine own_st (X942.ldcInt hx hown (mvT hZ (own_w hw 15 rfl)) (g := (mkF m 111 #[iv p1, iv p2, iv p3, rv aSTRICT, iv 1, .unset, rv b915, .unset, .unset] [.int ((p1.toUInt32 >>> ((1 : Int32) &&& 31).toUInt32).toInt32), .ref b915])) rfl (hb hby at_111)) ?_
      show own_E p e below _ T942 (mkF m 113 #[iv p1, iv p2, iv p3, rv aSTRICT, iv 1, .unset, rv b915, .unset, .unset] [.int 2147483647, .int ((p1.toUInt32 >>> ((1 : Int32) &&& 31).toUInt32).toInt32), .ref b915])
      refine own_st (fun t k => XS.iand X942.here hx rfl (hb hby at_113) rfl k) ?_
      show own_E p e below _ T942 (mkF m 114 #[iv p1, iv p2, iv p3, rv aSTRICT, iv 1, .unset, rv b915, .unset, .unset] [.int (((p1.toUInt32 >>> ((1 : Int32) &&& 31).toUInt32).toInt32) &&& (2147483647 : Int32)), .ref b915])
      refine own_st (fun t k => XS.bipush X942.here hx rfl (hb hby at_114) k) ?_
      show own_E p e below _ T942 (mkF m 116 #[iv p1, iv p2, iv p3, rv aSTRICT, iv 1, .unset, rv b915, .unset, .unset] [.int 9, .int (((p1.toUInt32 >>> ((1 : Int32) &&& 31).toUInt32).toInt32) &&& (2147483647 : Int32)), .ref b915])
      refine own_st (fun t k => iremM X942 hx rfl (hb hby at_116) rfl (by decide) k) ?_
      show own_E p e below _ T942 (mkF m 117 #[iv p1, iv p2, iv p3, rv aSTRICT, iv 1, .unset, rv b915, .unset, .unset] [.int ((((p1.toUInt32 >>> ((1 : Int32) &&& 31).toUInt32).toInt32) &&& (2147483647 : Int32)) % (9 : Int32)), .ref b915])
      rcases own_mod9 p1 with hs945 | hs945 | hs945 | hs945 | hs945 | hs945 | hs945 | hs945 | hs945
      · rw [hs945]
        show own_E p e below _ T942 (mkF m 117 #[iv p1, iv p2, iv p3, rv aSTRICT, iv 1, .unset, rv b915, .unset, .unset] [.int 0, .ref b915])
        refine own_st (own_ald X942 hx hZ e942 V942 (j := (0 : Int32)) ⟨by decide, by decide⟩ (v := (.int (160 : Int32))) rfl (g := (mkF m 117 #[iv p1, iv p2, iv p3, rv aSTRICT, iv 1, .unset, rv b915, .unset, .unset] [.int 0, .ref b915])) rfl rfl (hb hby at_117)) ?_
        show own_E p e below _ T942 (mkF m 118 #[iv p1, iv p2, iv p3, rv aSTRICT, iv 1, .unset, rv b915, .unset, .unset] [.int 160])
        refine own_st (fun t k => XS.istore X942.here hx rfl (hb hby at_118) rfl (l' := #[iv p1, iv p2, iv p3, rv aSTRICT, iv 1, .unset, rv b915, iv 160, .unset]) rfl k) ?_
        show own_E p e below _ T942 (mkF m 120 #[iv p1, iv p2, iv p3, rv aSTRICT, iv 1, .unset, rv b915, iv 160, .unset] [])
        refine own_st (fun t k => XS.iload X942.here hx rfl (hb hby at_120) rfl k) ?_
        show own_E p e below _ T942 (mkF m 122 #[iv p1, iv p2, iv p3, rv aSTRICT, iv 1, .unset, rv b915, iv 160, .unset] [.int 160])
        refine own_st (fun t k => XS.iloadN X942.here hx rfl (hb hby at_122) rfl k) ?_
        show own_E p e below _ T942 (mkF m 123 #[iv p1, iv p2, iv p3, rv aSTRICT, iv 1, .unset, rv b915, iv 160, .unset] [.int p2, .int 160])
        refine own_st (fun t k => XS.iconst X942.here hx rfl (hb hby at_123) k) ?_
        show own_E p e below _ T942 (mkF m 124 #[iv p1, iv p2, iv p3, rv aSTRICT, iv 1, .unset, rv b915, iv 160, .unset] [.int 3, .int p2, .int 160])
        refine own_st (fun t k => iremM X942 hx rfl (hb hby at_124) rfl (by decide) k) ?_
        show own_E p e below _ T942 (mkF m 125 #[iv p1, iv p2, iv p3, rv aSTRICT, iv 1, .unset, rv b915, iv 160, .unset] [.int (p2 % (3 : Int32)), .int 160])
        refine own_st (fun t k => XS.iadd X942.here hx rfl (hb hby at_125) rfl k) ?_
        show own_E p e below _ T942 (mkF m 126 #[iv p1, iv p2, iv p3, rv aSTRICT, iv 1, .unset, rv b915, iv 160, .unset] [.int ((160 : Int32) + (p2 % (3 : Int32)))])
        refine own_st (X942.ldcInt hx hown (mvT hZ (own_w hw 3 rfl)) (g := (mkF m 126 #[iv p1, iv p2, iv p3, rv aSTRICT, iv 1, .unset, rv b915, iv 160, .unset] [.int ((160 : Int32) + (p2 % (3 : Int32)))])) rfl (hb hby at_126)) ?_
        show own_E p e below _ T942 (mkF m 128 #[iv p1, iv p2, iv p3, rv aSTRICT, iv 1, .unset, rv b915, iv 160, .unset] [.int 65535, .int ((160 : Int32) + (p2 % (3 : Int32)))])
        refine own_st (fun t k => XS.iand X942.here hx rfl (hb hby at_128) rfl k) ?_
        show own_E p e below _ T942 (mkF m 129 #[iv p1, iv p2, iv p3, rv aSTRICT, iv 1, .unset, rv b915, iv 160, .unset] [.int (((160 : Int32) + (p2 % (3 : Int32))) &&& (65535 : Int32))])
        refine own_st (fun t k => XS.i2c X942.here hx rfl (hb hby at_129) rfl k) ?_
        show own_E p e below _ T942 (mkF m 130 #[iv p1, iv p2, iv p3, rv aSTRICT, iv 1, .unset, rv b915, iv 160, .unset] [.int ((((160 : Int32) + (p2 % (3 : Int32))) &&& (65535 : Int32)).toUInt32.toUInt16.toUInt32.toInt32)])
        refine own_st (fun t k => XS.istore X942.here hx rfl (hb hby at_130) rfl (l' := #[iv p1, iv p2, iv p3, rv aSTRICT, iv 1, iv ((((160 : Int32) + (p2 % (3 : Int32))) &&& (65535 : Int32)).toUInt32.toUInt16.toUInt32.toInt32), rv b915, iv 160, .unset]) rfl k) ?_
        show own_E p e below _ T942 (mkF m 132 #[iv p1, iv p2, iv p3, rv aSTRICT, iv 1, iv ((((160 : Int32) + (p2 % (3 : Int32))) &&& (65535 : Int32)).toUInt32.toUInt16.toUInt32.toInt32), rv b915, iv 160, .unset] [])
        have hv946 : ¬ (((((160 : Int32) + (p2 % (3 : Int32))) &&& (65535 : Int32)).toUInt32.toUInt16.toUInt32.toInt32) < (0 : Int32)) := by
          rw [Int32.lt_iff_toInt_lt]
          have f947 := rng32 p3
          have f948 : (1 : Int32).toInt = 1 := rfl
          have f949 := rng32 (p3 &&& (1 : Int32))
          have f950 : (p3 &&& (1 : Int32)).toInt = p3.toInt % 2 := c_mask p3 (1 : Int32) 1 (by decide) (by decide)
          have f951 : (0 : Int32).toInt = 0 := rfl
          have f952 := rng32 p1
          have f953 := rng32 (p1 &&& (1 : Int32))
          have f954 : (p1 &&& (1 : Int32)).toInt = p1.toInt % 2 := c_mask p1 (1 : Int32) 1 (by decide) (by decide)
          have f955 := rng32 ((p1.toUInt32 >>> ((1 : Int32) &&& 31).toUInt32).toInt32)
          have f956 : ((p1.toUInt32 >>> ((1 : Int32) &&& 31).toUInt32).toInt32).toInt = (p1.toInt % 4294967296) / 2 := c_iushr p1 (1 : Int32) 1 (by decide) (by decide)
          have f957 : (2147483647 : Int32).toInt = 2147483647 := rfl
          have f958 := rng32 (((p1.toUInt32 >>> ((1 : Int32) &&& 31).toUInt32).toInt32) &&& (2147483647 : Int32))
          have f959 : (((p1.toUInt32 >>> ((1 : Int32) &&& 31).toUInt32).toInt32) &&& (2147483647 : Int32)).toInt = ((p1.toUInt32 >>> ((1 : Int32) &&& 31).toUInt32).toInt32).toInt % 2147483648 := c_mask ((p1.toUInt32 >>> ((1 : Int32) &&& 31).toUInt32).toInt32) (2147483647 : Int32) 31 (by decide) (by decide)
          have f960 : (9 : Int32).toInt = 9 := rfl
          have f961 := rng32 ((((p1.toUInt32 >>> ((1 : Int32) &&& 31).toUInt32).toInt32) &&& (2147483647 : Int32)) % (9 : Int32))
          have f962 := c_irem (((p1.toUInt32 >>> ((1 : Int32) &&& 31).toUInt32).toInt32) &&& (2147483647 : Int32)) (9 : Int32) 9 rfl
          have f963 : (160 : Int32).toInt = 160 := rfl
          have f964 := rng32 p2
          have f965 : (3 : Int32).toInt = 3 := rfl
          have f966 := rng32 (p2 % (3 : Int32))
          have f967 := c_irem p2 (3 : Int32) 3 rfl
          have f968 := rng32 ((160 : Int32) + (p2 % (3 : Int32)))
          have f969 : ((160 : Int32) + (p2 % (3 : Int32))).toInt = (160 : Int32).toInt + (p2 % (3 : Int32)).toInt := by have h := c_iadd (160 : Int32) (p2 % (3 : Int32)); omega
          have f970 : (65535 : Int32).toInt = 65535 := rfl
          have f971 := rng32 (((160 : Int32) + (p2 % (3 : Int32))) &&& (65535 : Int32))
          have f972 : (((160 : Int32) + (p2 % (3 : Int32))) &&& (65535 : Int32)).toInt = ((160 : Int32) + (p2 % (3 : Int32))).toInt % 65536 := c_mask ((160 : Int32) + (p2 % (3 : Int32))) (65535 : Int32) 16 (by decide) (by decide)
          have f973 := rng32 ((((160 : Int32) + (p2 % (3 : Int32))) &&& (65535 : Int32)).toUInt32.toUInt16.toUInt32.toInt32)
          have f974 := c_i2c (((160 : Int32) + (p2 % (3 : Int32))) &&& (65535 : Int32))
          have g975 := hc212
          rw [← Int32.toInt_inj] at g975
          have g976 := hc879
          rw [← Int32.toInt_inj] at g976
          have g977 := hs945
          rw [← Int32.toInt_inj] at g977
          omega
        have hv978 : ((((160 : Int32) + (p2 % (3 : Int32))) &&& (65535 : Int32)).toUInt32.toUInt16.toUInt32.toInt32) < (65536 : Int32) := by
          rw [Int32.lt_iff_toInt_lt]
          have f979 := rng32 p3
          have f980 : (1 : Int32).toInt = 1 := rfl
          have f981 := rng32 (p3 &&& (1 : Int32))
          have f982 : (p3 &&& (1 : Int32)).toInt = p3.toInt % 2 := c_mask p3 (1 : Int32) 1 (by decide) (by decide)
          have f983 : (0 : Int32).toInt = 0 := rfl
          have f984 := rng32 p1
          have f985 := rng32 (p1 &&& (1 : Int32))
          have f986 : (p1 &&& (1 : Int32)).toInt = p1.toInt % 2 := c_mask p1 (1 : Int32) 1 (by decide) (by decide)
          have f987 := rng32 ((p1.toUInt32 >>> ((1 : Int32) &&& 31).toUInt32).toInt32)
          have f988 : ((p1.toUInt32 >>> ((1 : Int32) &&& 31).toUInt32).toInt32).toInt = (p1.toInt % 4294967296) / 2 := c_iushr p1 (1 : Int32) 1 (by decide) (by decide)
          have f989 : (2147483647 : Int32).toInt = 2147483647 := rfl
          have f990 := rng32 (((p1.toUInt32 >>> ((1 : Int32) &&& 31).toUInt32).toInt32) &&& (2147483647 : Int32))
          have f991 : (((p1.toUInt32 >>> ((1 : Int32) &&& 31).toUInt32).toInt32) &&& (2147483647 : Int32)).toInt = ((p1.toUInt32 >>> ((1 : Int32) &&& 31).toUInt32).toInt32).toInt % 2147483648 := c_mask ((p1.toUInt32 >>> ((1 : Int32) &&& 31).toUInt32).toInt32) (2147483647 : Int32) 31 (by decide) (by decide)
          have f992 : (9 : Int32).toInt = 9 := rfl
          have f993 := rng32 ((((p1.toUInt32 >>> ((1 : Int32) &&& 31).toUInt32).toInt32) &&& (2147483647 : Int32)) % (9 : Int32))
          have f994 := c_irem (((p1.toUInt32 >>> ((1 : Int32) &&& 31).toUInt32).toInt32) &&& (2147483647 : Int32)) (9 : Int32) 9 rfl
          have f995 : (160 : Int32).toInt = 160 := rfl
          have f996 := rng32 p2
          have f997 : (3 : Int32).toInt = 3 := rfl
          have f998 := rng32 (p2 % (3 : Int32))
          have f999 := c_irem p2 (3 : Int32) 3 rfl
          have f1000 := rng32 ((160 : Int32) + (p2 % (3 : Int32)))
          have f1001 : ((160 : Int32) + (p2 % (3 : Int32))).toInt = (160 : Int32).toInt + (p2 % (3 : Int32)).toInt := by have h := c_iadd (160 : Int32) (p2 % (3 : Int32)); omega
          have f1002 : (65535 : Int32).toInt = 65535 := rfl
          have f1003 := rng32 (((160 : Int32) + (p2 % (3 : Int32))) &&& (65535 : Int32))
          have f1004 : (((160 : Int32) + (p2 % (3 : Int32))) &&& (65535 : Int32)).toInt = ((160 : Int32) + (p2 % (3 : Int32))).toInt % 65536 := c_mask ((160 : Int32) + (p2 % (3 : Int32))) (65535 : Int32) 16 (by decide) (by decide)
          have f1005 := rng32 ((((160 : Int32) + (p2 % (3 : Int32))) &&& (65535 : Int32)).toUInt32.toUInt16.toUInt32.toInt32)
          have f1006 := c_i2c (((160 : Int32) + (p2 % (3 : Int32))) &&& (65535 : Int32))
          have f1007 : (65536 : Int32).toInt = 65536 := rfl
          have g1008 := hc212
          rw [← Int32.toInt_inj] at g1008
          have g1009 := hc879
          rw [← Int32.toInt_inj] at g1009
          have g1010 := hs945
          rw [← Int32.toInt_inj] at g1010
          omega
        exact tailSTRICT _ _ _ _ ((((160 : Int32) + (p2 % (3 : Int32))) &&& (65535 : Int32)).toUInt32.toUInt16.toUInt32.toInt32) _ _ (One.val rfl) (One.val rfl) X942 N942 (by rw [e942]; exact K944) (by decide) (by decide) hv946 hv978
      · rw [hs945]
        show own_E p e below _ T942 (mkF m 117 #[iv p1, iv p2, iv p3, rv aSTRICT, iv 1, .unset, rv b915, .unset, .unset] [.int 1, .ref b915])
        refine own_st (own_ald X942 hx hZ e942 V942 (j := (1 : Int32)) ⟨by decide, by decide⟩ (v := (.int (8199 : Int32))) rfl (g := (mkF m 117 #[iv p1, iv p2, iv p3, rv aSTRICT, iv 1, .unset, rv b915, .unset, .unset] [.int 1, .ref b915])) rfl rfl (hb hby at_117)) ?_
        show own_E p e below _ T942 (mkF m 118 #[iv p1, iv p2, iv p3, rv aSTRICT, iv 1, .unset, rv b915, .unset, .unset] [.int 8199])
        refine own_st (fun t k => XS.istore X942.here hx rfl (hb hby at_118) rfl (l' := #[iv p1, iv p2, iv p3, rv aSTRICT, iv 1, .unset, rv b915, iv 8199, .unset]) rfl k) ?_
        show own_E p e below _ T942 (mkF m 120 #[iv p1, iv p2, iv p3, rv aSTRICT, iv 1, .unset, rv b915, iv 8199, .unset] [])
        refine own_st (fun t k => XS.iload X942.here hx rfl (hb hby at_120) rfl k) ?_
        show own_E p e below _ T942 (mkF m 122 #[iv p1, iv p2, iv p3, rv aSTRICT, iv 1, .unset, rv b915, iv 8199, .unset] [.int 8199])
        refine own_st (fun t k => XS.iloadN X942.here hx rfl (hb hby at_122) rfl k) ?_
        show own_E p e below _ T942 (mkF m 123 #[iv p1, iv p2, iv p3, rv aSTRICT, iv 1, .unset, rv b915, iv 8199, .unset] [.int p2, .int 8199])
        refine own_st (fun t k => XS.iconst X942.here hx rfl (hb hby at_123) k) ?_
        show own_E p e below _ T942 (mkF m 124 #[iv p1, iv p2, iv p3, rv aSTRICT, iv 1, .unset, rv b915, iv 8199, .unset] [.int 3, .int p2, .int 8199])
        refine own_st (fun t k => iremM X942 hx rfl (hb hby at_124) rfl (by decide) k) ?_
        show own_E p e below _ T942 (mkF m 125 #[iv p1, iv p2, iv p3, rv aSTRICT, iv 1, .unset, rv b915, iv 8199, .unset] [.int (p2 % (3 : Int32)), .int 8199])
        refine own_st (fun t k => XS.iadd X942.here hx rfl (hb hby at_125) rfl k) ?_
        show own_E p e below _ T942 (mkF m 126 #[iv p1, iv p2, iv p3, rv aSTRICT, iv 1, .unset, rv b915, iv 8199, .unset] [.int ((8199 : Int32) + (p2 % (3 : Int32)))])
        refine own_st (X942.ldcInt hx hown (mvT hZ (own_w hw 3 rfl)) (g := (mkF m 126 #[iv p1, iv p2, iv p3, rv aSTRICT, iv 1, .unset, rv b915, iv 8199, .unset] [.int ((8199 : Int32) + (p2 % (3 : Int32)))])) rfl (hb hby at_126)) ?_
        show own_E p e below _ T942 (mkF m 128 #[iv p1, iv p2, iv p3, rv aSTRICT, iv 1, .unset, rv b915, iv 8199, .unset] [.int 65535, .int ((8199 : Int32) + (p2 % (3 : Int32)))])
        refine own_st (fun t k => XS.iand X942.here hx rfl (hb hby at_128) rfl k) ?_
        show own_E p e below _ T942 (mkF m 129 #[iv p1, iv p2, iv p3, rv aSTRICT, iv 1, .unset, rv b915, iv 8199, .unset] [.int (((8199 : Int32) + (p2 % (3 : Int32))) &&& (65535 : Int32))])
        refine own_st (fun t k => XS.i2c X942.here hx rfl (hb hby at_129) rfl k) ?_
        show own_E p e below _ T942 (mkF m 130 #[iv p1, iv p2, iv p3, rv aSTRICT, iv 1, .unset, rv b915, iv 8199, .unset] [.int ((((8199 : Int32) + (p2 % (3 : Int32))) &&& (65535 : Int32)).toUInt32.toUInt16.toUInt32.toInt32)])
        refine own_st (fun t k => XS.istore X942.here hx rfl (hb hby at_130) rfl (l' := #[iv p1, iv p2, iv p3, rv aSTRICT, iv 1, iv ((((8199 : Int32) + (p2 % (3 : Int32))) &&& (65535 : Int32)).toUInt32.toUInt16.toUInt32.toInt32), rv b915, iv 8199, .unset]) rfl k) ?_
        show own_E p e below _ T942 (mkF m 132 #[iv p1, iv p2, iv p3, rv aSTRICT, iv 1, iv ((((8199 : Int32) + (p2 % (3 : Int32))) &&& (65535 : Int32)).toUInt32.toUInt16.toUInt32.toInt32), rv b915, iv 8199, .unset] [])
        have hv1011 : ¬ (((((8199 : Int32) + (p2 % (3 : Int32))) &&& (65535 : Int32)).toUInt32.toUInt16.toUInt32.toInt32) < (0 : Int32)) := by
          rw [Int32.lt_iff_toInt_lt]
          have f1012 := rng32 p3
          have f1013 : (1 : Int32).toInt = 1 := rfl
          have f1014 := rng32 (p3 &&& (1 : Int32))
          have f1015 : (p3 &&& (1 : Int32)).toInt = p3.toInt % 2 := c_mask p3 (1 : Int32) 1 (by decide) (by decide)
          have f1016 : (0 : Int32).toInt = 0 := rfl
          have f1017 := rng32 p1
          have f1018 := rng32 (p1 &&& (1 : Int32))
          have f1019 : (p1 &&& (1 : Int32)).toInt = p1.toInt % 2 := c_mask p1 (1 : Int32) 1 (by decide) (by decide)
          have f1020 := rng32 ((p1.toUInt32 >>> ((1 : Int32) &&& 31).toUInt32).toInt32)
          have f1021 : ((p1.toUInt32 >>> ((1 : Int32) &&& 31).toUInt32).toInt32).toInt = (p1.toInt % 4294967296) / 2 := c_iushr p1 (1 : Int32) 1 (by decide) (by decide)
          have f1022 : (2147483647 : Int32).toInt = 2147483647 := rfl
          have f1023 := rng32 (((p1.toUInt32 >>> ((1 : Int32) &&& 31).toUInt32).toInt32) &&& (2147483647 : Int32))
          have f1024 : (((p1.toUInt32 >>> ((1 : Int32) &&& 31).toUInt32).toInt32) &&& (2147483647 : Int32)).toInt = ((p1.toUInt32 >>> ((1 : Int32) &&& 31).toUInt32).toInt32).toInt % 2147483648 := c_mask ((p1.toUInt32 >>> ((1 : Int32) &&& 31).toUInt32).toInt32) (2147483647 : Int32) 31 (by decide) (by decide)
          have f1025 : (9 : Int32).toInt = 9 := rfl
          have f1026 := rng32 ((((p1.toUInt32 >>> ((1 : Int32) &&& 31).toUInt32).toInt32) &&& (2147483647 : Int32)) % (9 : Int32))
          have f1027 := c_irem (((p1.toUInt32 >>> ((1 : Int32) &&& 31).toUInt32).toInt32) &&& (2147483647 : Int32)) (9 : Int32) 9 rfl
          have f1028 : (8199 : Int32).toInt = 8199 := rfl
          have f1029 := rng32 p2
          have f1030 : (3 : Int32).toInt = 3 := rfl
          have f1031 := rng32 (p2 % (3 : Int32))
          have f1032 := c_irem p2 (3 : Int32) 3 rfl
          have f1033 := rng32 ((8199 : Int32) + (p2 % (3 : Int32)))
          have f1034 : ((8199 : Int32) + (p2 % (3 : Int32))).toInt = (8199 : Int32).toInt + (p2 % (3 : Int32)).toInt := by have h := c_iadd (8199 : Int32) (p2 % (3 : Int32)); omega
          have f1035 : (65535 : Int32).toInt = 65535 := rfl
          have f1036 := rng32 (((8199 : Int32) + (p2 % (3 : Int32))) &&& (65535 : Int32))
          have f1037 : (((8199 : Int32) + (p2 % (3 : Int32))) &&& (65535 : Int32)).toInt = ((8199 : Int32) + (p2 % (3 : Int32))).toInt % 65536 := c_mask ((8199 : Int32) + (p2 % (3 : Int32))) (65535 : Int32) 16 (by decide) (by decide)
          have f1038 := rng32 ((((8199 : Int32) + (p2 % (3 : Int32))) &&& (65535 : Int32)).toUInt32.toUInt16.toUInt32.toInt32)
          have f1039 := c_i2c (((8199 : Int32) + (p2 % (3 : Int32))) &&& (65535 : Int32))
          have g1040 := hc212
          rw [← Int32.toInt_inj] at g1040
          have g1041 := hc879
          rw [← Int32.toInt_inj] at g1041
          have g1042 := hs945
          rw [← Int32.toInt_inj] at g1042
          omega
        have hv1043 : ((((8199 : Int32) + (p2 % (3 : Int32))) &&& (65535 : Int32)).toUInt32.toUInt16.toUInt32.toInt32) < (65536 : Int32) := by
          rw [Int32.lt_iff_toInt_lt]
          have f1044 := rng32 p3
          have f1045 : (1 : Int32).toInt = 1 := rfl
          have f1046 := rng32 (p3 &&& (1 : Int32))
          have f1047 : (p3 &&& (1 : Int32)).toInt = p3.toInt % 2 := c_mask p3 (1 : Int32) 1 (by decide) (by decide)
          have f1048 : (0 : Int32).toInt = 0 := rfl
          have f1049 := rng32 p1
          have f1050 := rng32 (p1 &&& (1 : Int32))
          have f1051 : (p1 &&& (1 : Int32)).toInt = p1.toInt % 2 := c_mask p1 (1 : Int32) 1 (by decide) (by decide)
          have f1052 := rng32 ((p1.toUInt32 >>> ((1 : Int32) &&& 31).toUInt32).toInt32)
          have f1053 : ((p1.toUInt32 >>> ((1 : Int32) &&& 31).toUInt32).toInt32).toInt = (p1.toInt % 4294967296) / 2 := c_iushr p1 (1 : Int32) 1 (by decide) (by decide)
          have f1054 : (2147483647 : Int32).toInt = 2147483647 := rfl
          have f1055 := rng32 (((p1.toUInt32 >>> ((1 : Int32) &&& 31).toUInt32).toInt32) &&& (2147483647 : Int32))
          have f1056 : (((p1.toUInt32 >>> ((1 : Int32) &&& 31).toUInt32).toInt32) &&& (2147483647 : Int32)).toInt = ((p1.toUInt32 >>> ((1 : Int32) &&& 31).toUInt32).toInt32).toInt % 2147483648 := c_mask ((p1.toUInt32 >>> ((1 : Int32) &&& 31).toUInt32).toInt32) (2147483647 : Int32) 31 (by decide) (by decide)
          have f1057 : (9 : Int32).toInt = 9 := rfl
          have f1058 := rng32 ((((p1.toUInt32 >>> ((1 : Int32) &&& 31).toUInt32).toInt32) &&& (2147483647 : Int32)) % (9 : Int32))
          have f1059 := c_irem (((p1.toUInt32 >>> ((1 : Int32) &&& 31).toUInt32).toInt32) &&& (2147483647 : Int32)) (9 : Int32) 9 rfl
          have f1060 : (8199 : Int32).toInt = 8199 := rfl
          have f1061 := rng32 p2
          have f1062 : (3 : Int32).toInt = 3 := rfl
          have f1063 := rng32 (p2 % (3 : Int32))
          have f1064 := c_irem p2 (3 : Int32) 3 rfl
          have f1065 := rng32 ((8199 : Int32) + (p2 % (3 : Int32)))
          have f1066 : ((8199 : Int32) + (p2 % (3 : Int32))).toInt = (8199 : Int32).toInt + (p2 % (3 : Int32)).toInt := by have h := c_iadd (8199 : Int32) (p2 % (3 : Int32)); omega
          have f1067 : (65535 : Int32).toInt = 65535 := rfl
          have f1068 := rng32 (((8199 : Int32) + (p2 % (3 : Int32))) &&& (65535 : Int32))
          have f1069 : (((8199 : Int32) + (p2 % (3 : Int32))) &&& (65535 : Int32)).toInt = ((8199 : Int32) + (p2 % (3 : Int32))).toInt % 65536 := c_mask ((8199 : Int32) + (p2 % (3 : Int32))) (65535 : Int32) 16 (by decide) (by decide)
          have f1070 := rng32 ((((8199 : Int32) + (p2 % (3 : Int32))) &&& (65535 : Int32)).toUInt32.toUInt16.toUInt32.toInt32)
          have f1071 := c_i2c (((8199 : Int32) + (p2 % (3 : Int32))) &&& (65535 : Int32))
          have f1072 : (65536 : Int32).toInt = 65536 := rfl
          have g1073 := hc212
          rw [← Int32.toInt_inj] at g1073
          have g1074 := hc879
          rw [← Int32.toInt_inj] at g1074
          have g1075 := hs945
          rw [← Int32.toInt_inj] at g1075
          omega
        exact tailSTRICT _ _ _ _ ((((8199 : Int32) + (p2 % (3 : Int32))) &&& (65535 : Int32)).toUInt32.toUInt16.toUInt32.toInt32) _ _ (One.val rfl) (One.val rfl) X942 N942 (by rw [e942]; exact K944) (by decide) (by decide) hv1011 hv1043
      · rw [hs945]
        show own_E p e below _ T942 (mkF m 117 #[iv p1, iv p2, iv p3, rv aSTRICT, iv 1, .unset, rv b915, .unset, .unset] [.int 2, .ref b915])
        refine own_st (own_ald X942 hx hZ e942 V942 (j := (2 : Int32)) ⟨by decide, by decide⟩ (v := (.int (8208 : Int32))) rfl (g := (mkF m 117 #[iv p1, iv p2, iv p3, rv aSTRICT, iv 1, .unset, rv b915, .unset, .unset] [.int 2, .ref b915])) rfl rfl (hb hby at_117)) ?_
        show own_E p e below _ T942 (mkF m 118 #[iv p1, iv p2, iv p3, rv aSTRICT, iv 1, .unset, rv b915, .unset, .unset] [.int 8208])
        refine own_st (fun t k => XS.istore X942.here hx rfl (hb hby at_118) rfl (l' := #[iv p1, iv p2, iv p3, rv aSTRICT, iv 1, .unset, rv b915, iv 8208, .unset]) rfl k) ?_
        show own_E p e below _ T942 (mkF m 120 #[iv p1, iv p2, iv p3, rv aSTRICT, iv 1, .unset, rv b915, iv 8208, .unset] [])
        refine own_st (fun t k => XS.iload X942.here hx rfl (hb hby at_120) rfl k) ?_
        show own_E p e below _ T942 (mkF m 122 #[iv p1, iv p2, iv p3, rv aSTRICT, iv 1, .unset, rv b915, iv 8208, .unset] [.int 8208])
        refine own_st (fun t k => XS.iloadN X942.here hx rfl (hb hby at_122) rfl k) ?_
        show own_E p e below _ T942 (mkF m 123 #[iv p1, iv p2, iv p3, rv aSTRICT, iv 1, .unset, rv b915, iv 8208, .unset] [.int p2, .int 8208])
        refine own_st (fun t k => XS.iconst X942.here hx rfl (hb hby at_123) k) ?_
        show own_E p e below _ T942 (mkF m 124 #[iv p1, iv p2, iv p3, rv aSTRICT, iv 1, .unset, rv b915, iv 8208, .unset] [.int 3, .int p2, .int 8208])
        refine own_st (fun t k => iremM X942 hx rfl (hb hby at_124) rfl (by decide) k) ?_
        show own_E p e below _ T942 (mkF m 125 #[iv p1, iv p2, iv p3, rv aSTRICT, iv 1, .unset, rv b915, iv 8208, .unset] [.int (p2 % (3 : Int32)), .int 8208])
        refine own_st (fun t k => XS.iadd X942.here hx rfl (hb hby at_125) rfl k) ?_
        show own_E p e below _ T942 (mkF m 126 #[iv p1, iv p2, iv p3, rv aSTRICT, iv 1, .unset, rv b915, iv 8208, .unset] [.int ((8208 : Int32) + (p2 % (3 : Int32)))])
        refine own_st (X942.ldcInt hx hown (mvT hZ (own_w hw 3 rfl)) (g := (mkF m 126 #[iv p1, iv p2, iv p3, rv aSTRICT, iv 1, .unset, rv b915, iv 8208, .unset] [.int ((8208 : Int32) + (p2 % (3 : Int32)))])) rfl (hb hby at_126)) ?_
        show own_E p e below _ T942 (mkF m 128 #[iv p1, iv p2, iv p3, rv aSTRICT, iv 1, .unset, rv b915, iv 8208, .unset] [.int 65535, .int ((8208 : Int32) + (p2 % (3 : Int32)))])
        refine own_st (fun t k => XS.iand X942.here hx rfl (hb hby at_128) rfl k) ?_
        show own_E p e below _ T942 (mkF m 129 #[iv p1, iv p2, iv p3, rv aSTRICT, iv 1, .unset, rv b915, iv 8208, .unset] [.int (((8208 : Int32) + (p2 % (3 : Int32))) &&& (65535 : Int32))])
        refine own_st (fun t k => XS.i2c X942.here hx rfl (hb hby at_129) rfl k) ?_
        show own_E p e below _ T942 (mkF m 130 #[iv p1, iv p2, iv p3, rv aSTRICT, iv 1, .unset, rv b915, iv 8208, .unset] [.int ((((8208 : Int32) + (p2 % (3 : Int32))) &&& (65535 : Int32)).toUInt32.toUInt16.toUInt32.toInt32)])
        refine own_st (fun t k => XS.istore X942.here hx rfl (hb hby at_130) rfl (l' := #[iv p1, iv p2, iv p3, rv aSTRICT, iv 1, iv ((((8208 : Int32) + (p2 % (3 : Int32))) &&& (65535 : Int32)).toUInt32.toUInt16.toUInt32.toInt32), rv b915, iv 8208, .unset]) rfl k) ?_
        show own_E p e below _ T942 (mkF m 132 #[iv p1, iv p2, iv p3, rv aSTRICT, iv 1, iv ((((8208 : Int32) + (p2 % (3 : Int32))) &&& (65535 : Int32)).toUInt32.toUInt16.toUInt32.toInt32), rv b915, iv 8208, .unset] [])
        have hv1076 : ¬ (((((8208 : Int32) + (p2 % (3 : Int32))) &&& (65535 : Int32)).toUInt32.toUInt16.toUInt32.toInt32) < (0 : Int32)) := by
          rw [Int32.lt_iff_toInt_lt]
          have f1077 := rng32 p3
          have f1078 : (1 : Int32).toInt = 1 := rfl
          have f1079 := rng32 (p3 &&& (1 : Int32))
          have f1080 : (p3 &&& (1 : Int32)).toInt = p3.toInt % 2 := c_mask p3 (1 : Int32) 1 (by decide) (by decide)
          have f1081 : (0 : Int32).toInt = 0 := rfl
          have f1082 := rng32 p1
          have f1083 := rng32 (p1 &&& (1 : Int32))
          have f1084 : (p1 &&& (1 : Int32)).toInt = p1.toInt % 2 := c_mask p1 (1 : Int32) 1 (by decide) (by decide)
          have f1085 := rng32 ((p1.toUInt32 >>> ((1 : Int32) &&& 31).toUInt32).toInt32)
          have f1086 : ((p1.toUInt32 >>> ((1 : Int32) &&& 31).toUInt32).toInt32).toInt = (p1.toInt % 4294967296) / 2 := c_iushr p1 (1 : Int32) 1 (by decide) (by decide)
          have f1087 : (2147483647 : Int32).toInt = 2147483647 := rfl
          have f1088 := rng32 (((p1.toUInt32 >>> ((1 : Int32) &&& 31).toUInt32).toInt32) &&& (2147483647 : Int32))
          have f1089 : (((p1.toUInt32 >>> ((1 : Int32) &&& 31).toUInt32).toInt32) &&& (2147483647 : Int32)).toInt = ((p1.toUInt32 >>> ((1 : Int32) &&& 31).toUInt32).toInt32).toInt % 2147483648 := c_mask ((p1.toUInt32 >>> ((1 : Int32) &&& 31).toUInt32).toInt32) (2147483647 : Int32) 31 (by decide) (by decide)
          have f1090 : (9 : Int32).toInt = 9 := rfl
          have f1091 := rng32 ((((p1.toUInt32 >>> ((1 : Int32) &&& 31).toUInt32).toInt32) &&& (2147483647 : Int32)) % (9 : Int32))
          have f1092 := c_irem (((p1.toUInt32 >>> ((1 : Int32) &&& 31).toUInt32).toInt32) &&& (2147483647 : Int32)) (9 : Int32) 9 rfl
          have f1093 : (2 : Int32).toInt = 2 := rfl
          have f1094 : (8208 : Int32).toInt = 8208 := rfl
          have f1095 := rng32 p2
          have f1096 : (3 : Int32).toInt = 3 := rfl
          have f1097 := rng32 (p2 % (3 : Int32))
          have f1098 := c_irem p2 (3 : Int32) 3 rfl
          have f1099 := rng32 ((8208 : Int32) + (p2 % (3 : Int32)))
          have f1100 : ((8208 : Int32) + (p2 % (3 : Int32))).toInt = (8208 : Int32).toInt + (p2 % (3 : Int32)).toInt := by have h := c_iadd (8208 : Int32) (p2 % (3 : Int32)); omega
          have f1101 : (65535 : Int32).toInt = 65535 := rfl
          have f1102 := rng32 (((8208 : Int32) + (p2 % (3 : Int32))) &&& (65535 : Int32))
          have f1103 : (((8208 : Int32) + (p2 % (3 : Int32))) &&& (65535 : Int32)).toInt = ((8208 : Int32) + (p2 % (3 : Int32))).toInt % 65536 := c_mask ((8208 : Int32) + (p2 % (3 : Int32))) (65535 : Int32) 16 (by decide) (by decide)
          have f1104 := rng32 ((((8208 : Int32) + (p2 % (3 : Int32))) &&& (65535 : Int32)).toUInt32.toUInt16.toUInt32.toInt32)
          have f1105 := c_i2c (((8208 : Int32) + (p2 % (3 : Int32))) &&& (65535 : Int32))
          have g1106 := hc212
          rw [← Int32.toInt_inj] at g1106
          have g1107 := hc879
          rw [← Int32.toInt_inj] at g1107
          have g1108 := hs945
          rw [← Int32.toInt_inj] at g1108
          omega
        have hv1109 : ((((8208 : Int32) + (p2 % (3 : Int32))) &&& (65535 : Int32)).toUInt32.toUInt16.toUInt32.toInt32) < (65536 : Int32) := by
          rw [Int32.lt_iff_toInt_lt]
          have f1110 := rng32 p3
          have f1111 : (1 : Int32).toInt = 1 := rfl
          have f1112 := rng32 (p3 &&& (1 : Int32))
          have f1113 : (p3 &&& (1 : Int32)).toInt = p3.toInt % 2 := c_mask p3 (1 : Int32) 1 (by decide) (by decide)
          have f1114 : (0 : Int32).toInt = 0 := rfl
          have f1115 := rng32 p1
          have f1116 := rng32 (p1 &&& (1 : Int32))
          have f1117 : (p1 &&& (1 : Int32)).toInt = p1.toInt % 2 := c_mask p1 (1 : Int32) 1 (by decide) (by decide)
          have f1118 := rng32 ((p1.toUInt32 >>> ((1 : Int32) &&& 31).toUInt32).toInt32)
          have f1119 : ((p1.toUInt32 >>> ((1 : Int32) &&& 31).toUInt32).toInt32).toInt = (p1.toInt % 4294967296) / 2 := c_iushr p1 (1 : Int32) 1 (by decide) (by decide)
          have f1120 : (2147483647 : Int32).toInt = 2147483647 := rfl
          have f1121 := rng32 (((p1.toUInt32 >>> ((1 : Int32) &&& 31).toUInt32).toInt32) &&& (2147483647 : Int32))
          have f1122 : (((p1.toUInt32 >>> ((1 : Int32) &&& 31).toUInt32).toInt32) &&& (2147483647 : Int32)).toInt = ((p1.toUInt32 >>> ((1 : Int32) &&& 31).toUInt32).toInt32).toInt % 2147483648 := c_mask ((p1.toUInt32 >>> ((1 : Int32) &&& 31).toUInt32).toInt32) (2147483647 : Int32) 31 (by decide) (by decide)
          have f1123 : (9 : Int32).toInt = 9 := rfl
          have f1124 := rng32 ((((p1.toUInt32 >>> ((1 : Int32) &&& 31).toUInt32).toInt32) &&& (2147483647 : Int32)) % (9 : Int32))
          have f1125 := c_irem (((p1.toUInt32 >>> ((1 : Int32) &&& 31).toUInt32).toInt32) &&& (2147483647 : Int32)) (9 : Int32) 9 rfl
          have f1126 : (2 : Int32).toInt = 2 := rfl
          have f1127 : (8208 : Int32).toInt = 8208 := rfl
          have f1128 := rng32 p2
          have f1129 : (3 : Int32).toInt = 3 := rfl
          have f1130 := rng32 (p2 % (3 : Int32))
          have f1131 := c_irem p2 (3 : Int32) 3 rfl
          have f1132 := rng32 ((8208 : Int32) + (p2 % (3 : Int32)))
          have f1133 : ((8208 : Int32) + (p2 % (3 : Int32))).toInt = (8208 : Int32).toInt + (p2 % (3 : Int32)).toInt := by have h := c_iadd (8208 : Int32) (p2 % (3 : Int32)); omega
          have f1134 : (65535 : Int32).toInt = 65535 := rfl
          have f1135 := rng32 (((8208 : Int32) + (p2 % (3 : Int32))) &&& (65535 : Int32))
          have f1136 : (((8208 : Int32) + (p2 % (3 : Int32))) &&& (65535 : Int32)).toInt = ((8208 : Int32) + (p2 % (3 : Int32))).toInt % 65536 := c_mask ((8208 : Int32) + (p2 % (3 : Int32))) (65535 : Int32) 16 (by decide) (by decide)
          have f1137 := rng32 ((((8208 : Int32) + (p2 % (3 : Int32))) &&& (65535 : Int32)).toUInt32.toUInt16.toUInt32.toInt32)
          have f1138 := c_i2c (((8208 : Int32) + (p2 % (3 : Int32))) &&& (65535 : Int32))
          have f1139 : (65536 : Int32).toInt = 65536 := rfl
          have g1140 := hc212
          rw [← Int32.toInt_inj] at g1140
          have g1141 := hc879
          rw [← Int32.toInt_inj] at g1141
          have g1142 := hs945
          rw [← Int32.toInt_inj] at g1142
          omega
        exact tailSTRICT _ _ _ _ ((((8208 : Int32) + (p2 % (3 : Int32))) &&& (65535 : Int32)).toUInt32.toUInt16.toUInt32.toInt32) _ _ (One.val rfl) (One.val rfl) X942 N942 (by rw [e942]; exact K944) (by decide) (by decide) hv1076 hv1109
      · rw [hs945]
        show own_E p e below _ T942 (mkF m 117 #[iv p1, iv p2, iv p3, rv aSTRICT, iv 1, .unset, rv b915, .unset, .unset] [.int 3, .ref b915])
        refine own_st (own_ald X942 hx hZ e942 V942 (j := (3 : Int32)) ⟨by decide, by decide⟩ (v := (.int (8213 : Int32))) rfl (g := (mkF m 117 #[iv p1, iv p2, iv p3, rv aSTRICT, iv 1, .unset, rv b915, .unset, .unset] [.int 3, .ref b915])) rfl rfl (hb hby at_117)) ?_
        show own_E p e below _ T942 (mkF m 118 #[iv p1, iv p2, iv p3, rv aSTRICT, iv 1, .unset, rv b915, .unset, .unset] [.int 8213])
        refine own_st (fun t k => XS.istore X942.here hx rfl (hb hby at_118) rfl (l' := #[iv p1, iv p2, iv p3, rv aSTRICT, iv 1, .unset, rv b915, iv 8213, .unset]) rfl k) ?_
        show own_E p e below _ T942 (mkF m 120 #[iv p1, iv p2, iv p3, rv aSTRICT, iv 1, .unset, rv b915, iv 8213, .unset] [])
        refine own_st (fun t k => XS.iload X942.here hx rfl (hb hby at_120) rfl k) ?_
        show own_E p e below _ T942 (mkF m 122 #[iv p1, iv p2, iv p3, rv aSTRICT, iv 1, .unset, rv b915, iv 8213, .unset] [.int 8213])
        refine own_st (fun t k => XS.iloadN X942.here hx rfl (hb hby at_122) rfl k) ?_
        show own_E p e below _ T942 (mkF m 123 #[iv p1, iv p2, iv p3, rv aSTRICT, iv 1, .unset, rv b915, iv 8213, .unset] [.int p2, .int 8213])
        refine own_st (fun t k => XS.iconst X942.here hx rfl (hb hby at_123) k) ?_
        show own_E p e below _ T942 (mkF m 124 #[iv p1, iv p2, iv p3, rv aSTRICT, iv 1, .unset, rv b915, iv 8213, .unset] [.int 3, .int p2, .int 8213])
        refine own_st (fun t k => iremM X942 hx rfl (hb hby at_124) rfl (by decide) k) ?_
        show own_E p e below _ T942 (mkF m 125 #[iv p1, iv p2, iv p3, rv aSTRICT, iv 1, .unset, rv b915, iv 8213, .unset] [.int (p2 % (3 : Int32)), .int 8213])
        refine own_st (fun t k => XS.iadd X942.here hx rfl (hb hby at_125) rfl k) ?_
        show own_E p e below _ T942 (mkF m 126 #[iv p1, iv p2, iv p3, rv aSTRICT, iv 1, .unset, rv b915, iv 8213, .unset] [.int ((8213 : Int32) + (p2 % (3 : Int32)))])
        refine own_st (X942.ldcInt hx hown (mvT hZ (own_w hw 3 rfl)) (g := (mkF m 126 #[iv p1, iv p2, iv p3, rv aSTRICT, iv 1, .unset, rv b915, iv 8213, .unset] [.int ((8213 : Int32) + (p2 % (3 : Int32)))])) rfl (hb hby at_126)) ?_
        show own_E p e below _ T942 (mkF m 128 #[iv p1, iv p2, iv p3, rv aSTRICT, iv 1, .unset, rv b915, iv 8213, .unset] [.int 65535, .int ((8213 : Int32) + (p2 % (3 : Int32)))])
        refine own_st (fun t k => XS.iand X942.here hx rfl (hb hby at_128) rfl k) ?_
        show own_E p e below _ T942 (mkF m 129 #[iv p1, iv p2, iv p3, rv aSTRICT, iv 1, .unset, rv b915, iv 8213, .unset] [.int (((8213 : Int32) + (p2 % (3 : Int32))) &&& (65535 : Int32))])
        refine own_st (fun t k => XS.i2c X942.here hx rfl (hb hby at_129) rfl k) ?_
        show own_E p e below _ T942 (mkF m 130 #[iv p1, iv p2, iv p3, rv aSTRICT, iv 1, .unset, rv b915, iv 8213, .unset] [.int ((((8213 : Int32) + (p2 % (3 : Int32))) &&& (65535 : Int32)).toUInt32.toUInt16.toUInt32.toInt32)])
        refine own_st (fun t k => XS.istore X942.here hx rfl (hb hby at_130) rfl (l' := #[iv p1, iv p2, iv p3, rv aSTRICT, iv 1, iv ((((8213 : Int32) + (p2 % (3 : Int32))) &&& (65535 : Int32)).toUInt32.toUInt16.toUInt32.toInt32), rv b915, iv 8213, .unset]) rfl k) ?_
        show own_E p e below _ T942 (mkF m 132 #[iv p1, iv p2, iv p3, rv aSTRICT, iv 1, iv ((((8213 : Int32) + (p2 % (3 : Int32))) &&& (65535 : Int32)).toUInt32.toUInt16.toUInt32.toInt32), rv b915, iv 8213, .unset] [])
        have hv1143 : ¬ (((((8213 : Int32) + (p2 % (3 : Int32))) &&& (65535 : Int32)).toUInt32.toUInt16.toUInt32.toInt32) < (0 : Int32)) := by
          rw [Int32.lt_iff_toInt_lt]
          have f1144 := rng32 p3
          have f1145 : (1 : Int32).toInt = 1 := rfl
          have f1146 := rng32 (p3 &&& (1 : Int32))
          have f1147 : (p3 &&& (1 : Int32)).toInt = p3.toInt % 2 := c_mask p3 (1 : Int32) 1 (by decide) (by decide)
          have f1148 : (0 : Int32).toInt = 0 := rfl
          have f1149 := rng32 p1
          have f1150 := rng32 (p1 &&& (1 : Int32))
          have f1151 : (p1 &&& (1 : Int32)).toInt = p1.toInt % 2 := c_mask p1 (1 : Int32) 1 (by decide) (by decide)
          have f1152 := rng32 ((p1.toUInt32 >>> ((1 : Int32) &&& 31).toUInt32).toInt32)
          have f1153 : ((p1.toUInt32 >>> ((1 : Int32) &&& 31).toUInt32).toInt32).toInt = (p1.toInt % 4294967296) / 2 := c_iushr p1 (1 : Int32) 1 (by decide) (by decide)
          have f1154 : (2147483647 : Int32).toInt = 2147483647 := rfl
          have f1155 := rng32 (((p1.toUInt32 >>> ((1 : Int32) &&& 31).toUInt32).toInt32) &&& (2147483647 : Int32))
          have f1156 : (((p1.toUInt32 >>> ((1 : Int32) &&& 31).toUInt32).toInt32) &&& (2147483647 : Int32)).toInt = ((p1.toUInt32 >>> ((1 : Int32) &&& 31).toUInt32).toInt32).toInt % 2147483648 := c_mask ((p1.toUInt32 >>> ((1 : Int32) &&& 31).toUInt32).toInt32) (2147483647 : Int32) 31 (by decide) (by decide)
          have f1157 : (9 : Int32).toInt = 9 := rfl
          have f1158 := rng32 ((((p1.toUInt32 >>> ((1 : Int32) &&& 31).toUInt32).toInt32) &&& (2147483647 : Int32)) % (9 : Int32))
          have f1159 := c_irem (((p1.toUInt32 >>> ((1 : Int32) &&& 31).toUInt32).toInt32) &&& (2147483647 : Int32)) (9 : Int32) 9 rfl
          have f1160 : (3 : Int32).toInt = 3 := rfl
          have f1161 : (8213 : Int32).toInt = 8213 := rfl
          have f1162 := rng32 p2
          have f1163 := rng32 (p2 % (3 : Int32))
          have f1164 := c_irem p2 (3 : Int32) 3 rfl
          have f1165 := rng32 ((8213 : Int32) + (p2 % (3 : Int32)))
          have f1166 : ((8213 : Int32) + (p2 % (3 : Int32))).toInt = (8213 : Int32).toInt + (p2 % (3 : Int32)).toInt := by have h := c_iadd (8213 : Int32) (p2 % (3 : Int32)); omega
          have f1167 : (65535 : Int32).toInt = 65535 := rfl
          have f1168 := rng32 (((8213 : Int32) + (p2 % (3 : Int32))) &&& (65535 : Int32))
          have f1169 : (((8213 : Int32) + (p2 % (3 : Int32))) &&& (65535 : Int32)).toInt = ((8213 : Int32) + (p2 % (3 : Int32))).toInt % 65536 := c_mask ((8213 : Int32) + (p2 % (3 : Int32))) (65535 : Int32) 16 (by decide) (by decide)
          have f1170 := rng32 ((((8213 : Int32) + (p2 % (3 : Int32))) &&& (65535 : Int32)).toUInt32.toUInt16.toUInt32.toInt32)
          have f1171 := c_i2c (((8213 : Int32) + (p2 % (3 : Int32))) &&& (65535 : Int32))
          have g1172 := hc212
          rw [← Int32.toInt_inj] at g1172
          have g1173 := hc879
          rw [← Int32.toInt_inj] at g1173
          have g1174 := hs945
          rw [← Int32.toInt_inj] at g1174
          omega
        have hv1175 : ((((8213 : Int32) + (p2 % (3 : Int32))) &&& (65535 : Int32)).toUInt32.toUInt16.toUInt32.toInt32) < (65536 : Int32) := by
          rw [Int32.lt_iff_toInt_lt]
          have f1176 := rng32 p3
          have f1177 : (1 : Int32).toInt = 1 := rfl
          have f1178 := rng32 (p3 &&& (1 : Int32))
          have f1179 : (p3 &&& (1 : Int32)).toInt = p3.toInt % 2 := c_mask p3 (1 : Int32) 1 (by decide) (by decide)
          have f1180 : (0 : Int32).toInt = 0 := rfl
          have f1181 := rng32 p1
          have f1182 := rng32 (p1 &&& (1 : Int32))
          have f1183 : (p1 &&& (1 : Int32)).toInt = p1.toInt % 2 := c_mask p1 (1 : Int32) 1 (by decide) (by decide)
          have f1184 := rng32 ((p1.toUInt32 >>> ((1 : Int32) &&& 31).toUInt32).toInt32)
          have f1185 : ((p1.toUInt32 >>> ((1 : Int32) &&& 31).toUInt32).toInt32).toInt = (p1.toInt % 4294967296) / 2 := c_iushr p1 (1 : Int32) 1 (by decide) (by decide)
          have f1186 : (2147483647 : Int32).toInt = 2147483647 := rfl
          have f1187 := rng32 (((p1.toUInt32 >>> ((1 : Int32) &&& 31).toUInt32).toInt32) &&& (2147483647 : Int32))
          have f1188 : (((p1.toUInt32 >>> ((1 : Int32) &&& 31).toUInt32).toInt32) &&& (2147483647 : Int32)).toInt = ((p1.toUInt32 >>> ((1 : Int32) &&& 31).toUInt32).toInt32).toInt % 2147483648 := c_mask ((p1.toUInt32 >>> ((1 : Int32) &&& 31).toUInt32).toInt32) (2147483647 : Int32) 31 (by decide) (by decide)
          have f1189 : (9 : Int32).toInt = 9 := rfl
          have f1190 := rng32 ((((p1.toUInt32 >>> ((1 : Int32) &&& 31).toUInt32).toInt32) &&& (2147483647 : Int32)) % (9 : Int32))
          have f1191 := c_irem (((p1.toUInt32 >>> ((1 : Int32) &&& 31).toUInt32).toInt32) &&& (2147483647 : Int32)) (9 : Int32) 9 rfl
          have f1192 : (3 : Int32).toInt = 3 := rfl
          have f1193 : (8213 : Int32).toInt = 8213 := rfl
          have f1194 := rng32 p2
          have f1195 := rng32 (p2 % (3 : Int32))
          have f1196 := c_irem p2 (3 : Int32) 3 rfl
          have f1197 := rng32 ((8213 : Int32) + (p2 % (3 : Int32)))
          have f1198 : ((8213 : Int32) + (p2 % (3 : Int32))).toInt = (8213 : Int32).toInt + (p2 % (3 : Int32)).toInt := by have h := c_iadd (8213 : Int32) (p2 % (3 : Int32)); omega
          have f1199 : (65535 : Int32).toInt = 65535 := rfl
          have f1200 := rng32 (((8213 : Int32) + (p2 % (3 : Int32))) &&& (65535 : Int32))
          have f1201 : (((8213 : Int32) + (p2 % (3 : Int32))) &&& (65535 : Int32)).toInt = ((8213 : Int32) + (p2 % (3 : Int32))).toInt % 65536 := c_mask ((8213 : Int32) + (p2 % (3 : Int32))) (65535 : Int32) 16 (by decide) (by decide)
          have f1202 := rng32 ((((8213 : Int32) + (p2 % (3 : Int32))) &&& (65535 : Int32)).toUInt32.toUInt16.toUInt32.toInt32)
          have f1203 := c_i2c (((8213 : Int32) + (p2 % (3 : Int32))) &&& (65535 : Int32))
          have f1204 : (65536 : Int32).toInt = 65536 := rfl
          have g1205 := hc212
          rw [← Int32.toInt_inj] at g1205
          have g1206 := hc879
          rw [← Int32.toInt_inj] at g1206
          have g1207 := hs945
          rw [← Int32.toInt_inj] at g1207
          omega
        exact tailSTRICT _ _ _ _ ((((8213 : Int32) + (p2 % (3 : Int32))) &&& (65535 : Int32)).toUInt32.toUInt16.toUInt32.toInt32) _ _ (One.val rfl) (One.val rfl) X942 N942 (by rw [e942]; exact K944) (by decide) (by decide) hv1143 hv1175
      · rw [hs945]
        show own_E p e below _ T942 (mkF m 117 #[iv p1, iv p2, iv p3, rv aSTRICT, iv 1, .unset, rv b915, .unset, .unset] [.int 4, .ref b915])
        refine own_st (own_ald X942 hx hZ e942 V942 (j := (4 : Int32)) ⟨by decide, by decide⟩ (v := (.int (8239 : Int32))) rfl (g := (mkF m 117 #[iv p1, iv p2, iv p3, rv aSTRICT, iv 1, .unset, rv b915, .unset, .unset] [.int 4, .ref b915])) rfl rfl (hb hby at_117)) ?_
        show own_E p e below _ T942 (mkF m 118 #[iv p1, iv p2, iv p3, rv aSTRICT, iv 1, .unset, rv b915, .unset, .unset] [.int 8239])
        refine own_st (fun t k => XS.istore X942.here hx rfl (hb hby at_118) rfl (l' := #[iv p1, iv p2, iv p3, rv aSTRICT, iv 1, .unset, rv b915, iv 8239, .unset]) rfl k) ?_
        show own_E p e below _ T942 (mkF m 120 #[iv p1, iv p2, iv p3, rv aSTRICT, iv 1, .unset, rv b915, iv 8239, .unset] [])
        refine own_st (fun t k => XS.iload X942.here hx rfl (hb hby at_120) rfl k) ?_
        show own_E p e below _ T942 (mkF m 122 #[iv p1, iv p2, iv p3, rv aSTRICT, iv 1, .unset, rv b915, iv 8239, .unset] [.int 8239])
        refine own_st (fun t k => XS.iloadN X942.here hx rfl (hb hby at_122) rfl k) ?_
        show own_E p e below _ T942 (mkF m 123 #[iv p1, iv p2, iv p3, rv aSTRICT, iv 1, .unset, rv b915, iv 8239, .unset] [.int p2, .int 8239])
        refine own_st (fun t k => XS.iconst X942.here hx rfl (hb hby at_123) k) ?_
        show own_E p e below _ T942 (mkF m 124 #[iv p1, iv p2, iv p3, rv aSTRICT, iv 1, .unset, rv b915, iv 8239, .unset] [.int 3, .int p2, .int 8239])
        refine own_st (fun t k => iremM X942 hx rfl (hb hby at_124) rfl (by decide) k) ?_
        show own_E p e below _ T942 (mkF m 125 #[iv p1, iv p2, iv p3, rv aSTRICT, iv 1, .unset, rv b915, iv 8239, .unset] [.int (p2 % (3 : Int32)), .int 8239])
        refine own_st (fun t k => XS.iadd X942.here hx rfl (hb hby at_125) rfl k) ?_
        show own_E p e below _ T942 (mkF m 126 #[iv p1, iv p2, iv p3, rv aSTRICT, iv 1, .unset, rv b915, iv 8239, .unset] [.int ((8239 : Int32) + (p2 % (3 : Int32)))])
        refine own_st (X942.ldcInt hx hown (mvT hZ (own_w hw 3 rfl)) (g := (mkF m 126 #[iv p1, iv p2, iv p3, rv aSTRICT, iv 1, .unset, rv b915, iv 8239, .unset] [.int ((8239 : Int32) + (p2 % (3 : Int32)))])) rfl (hb hby at_126)) ?_
        show own_E p e below _ T942 (mkF m 128 #[iv p1, iv p2, iv p3, rv aSTRICT, iv 1, .unset, rv b915, iv 8239, .unset] [.int 65535, .int ((8239 : Int32) + (p2 % (3 : Int32)))])
        refine own_st (fun t k => XS.iand X942.here hx rfl (hb hby at_128) rfl k) ?_
        show own_E p e below _ T942 (mkF m 129 #[iv p1, iv p2, iv p3, rv aSTRICT, iv 1, .unset, rv b915, iv 8239, .unset] [.int (((8239 : Int32) + (p2 % (3 : Int32))) &&& (65535 : Int32))])
        refine own_st (fun t k => XS.i2c X942.here hx rfl (hb hby at_129) rfl k) ?_
        show own_E p e below _ T942 (mkF m 130 #[iv p1, iv p2, iv p3, rv aSTRICT, iv 1, .unset, rv b915, iv 8239, .unset] [.int ((((8239 : Int32) + (p2 % (3 : Int32))) &&& (65535 : Int32)).toUInt32.toUInt16.toUInt32.toInt32)])
        refine own_st (fun t k => XS.istore X942.here hx rfl (hb hby at_130) rfl (l' := #[iv p1, iv p2, iv p3, rv aSTRICT, iv 1, iv ((((8239 : Int32) + (p2 % (3 : Int32))) &&& (65535 : Int32)).toUInt32.toUInt16.toUInt32.toInt32), rv b915, iv 8239, .unset]) rfl k) ?_
        show own_E p e below _ T942 (mkF m 132 #[iv p1, iv p2, iv p3, rv aSTRICT, iv 1, iv ((((8239 : Int32) + (p2 % (3 : Int32))) &&& (65535 : Int32)).toUInt32.toUInt16.toUInt32.toInt32), rv b915, iv 8239, .unset] [])
        have hv1208 : ¬ (((((8239 : Int32) + (p2 % (3 : Int32))) &&& (65535 : Int32)).toUInt32.toUInt16.toUInt32.toInt32) < (0 : Int32)) := by
          rw [Int32.lt_iff_toInt_lt]
          have f1209 := rng32 p3
          have f1210 : (1 : Int32).toInt = 1 := rfl
          have f1211 := rng32 (p3 &&& (1 : Int32))
          have f1212 : (p3 &&& (1 : Int32)).toInt = p3.toInt % 2 := c_mask p3 (1 : Int32) 1 (by decide) (by decide)
          have f1213 : (0 : Int32).toInt = 0 := rfl
          have f1214 := rng32 p1
          have f1215 := rng32 (p1 &&& (1 : Int32))
          have f1216 : (p1 &&& (1 : Int32)).toInt = p1.toInt % 2 := c_mask p1 (1 : Int32) 1 (by decide) (by decide)
          have f1217 := rng32 ((p1.toUInt32 >>> ((1 : Int32) &&& 31).toUInt32).toInt32)
          have f1218 : ((p1.toUInt32 >>> ((1 : Int32) &&& 31).toUInt32).toInt32).toInt = (p1.toInt % 4294967296) / 2 := c_iushr p1 (1 : Int32) 1 (by decide) (by decide)
          have f1219 : (2147483647 : Int32).toInt = 2147483647 := rfl
          have f1220 := rng32 (((p1.toUInt32 >>> ((1 : Int32) &&& 31).toUInt32).toInt32) &&& (2147483647 : Int32))
          have f1221 : (((p1.toUInt32 >>> ((1 : Int32) &&& 31).toUInt32).toInt32) &&& (2147483647 : Int32)).toInt = ((p1.toUInt32 >>> ((1 : Int32) &&& 31).toUInt32).toInt32).toInt % 2147483648 := c_mask ((p1.toUInt32 >>> ((1 : Int32) &&& 31).toUInt32).toInt32) (2147483647 : Int32) 31 (by decide) (by decide)
          have f1222 : (9 : Int32).toInt = 9 := rfl
          have f1223 := rng32 ((((p1.toUInt32 >>> ((1 : Int32) &&& 31).toUInt32).toInt32) &&& (2147483647 : Int32)) % (9 : Int32))
          have f1224 := c_irem (((p1.toUInt32 >>> ((1 : Int32) &&& 31).toUInt32).toInt32) &&& (2147483647 : Int32)) (9 : Int32) 9 rfl
          have f1225 : (4 : Int32).toInt = 4 := rfl
          have f1226 : (8239 : Int32).toInt = 8239 := rfl
          have f1227 := rng32 p2
          have f1228 : (3 : Int32).toInt = 3 := rfl
          have f1229 := rng32 (p2 % (3 : Int32))
          have f1230 := c_irem p2 (3 : Int32) 3 rfl
          have f1231 := rng32 ((8239 : Int32) + (p2 % (3 : Int32)))
          have f1232 : ((8239 : Int32) + (p2 % (3 : Int32))).toInt = (8239 : Int32).toInt + (p2 % (3 : Int32)).toInt := by have h := c_iadd (8239 : Int32) (p2 % (3 : Int32)); omega
          have f1233 : (65535 : Int32).toInt = 65535 := rfl
          have f1234 := rng32 (((8239 : Int32) + (p2 % (3 : Int32))) &&& (65535 : Int32))
          have f1235 : (((8239 : Int32) + (p2 % (3 : Int32))) &&& (65535 : Int32)).toInt = ((8239 : Int32) + (p2 % (3 : Int32))).toInt % 65536 := c_mask ((8239 : Int32) + (p2 % (3 : Int32))) (65535 : Int32) 16 (by decide) (by decide)
          have f1236 := rng32 ((((8239 : Int32) + (p2 % (3 : Int32))) &&& (65535 : Int32)).toUInt32.toUInt16.toUInt32.toInt32)
          have f1237 := c_i2c (((8239 : Int32) + (p2 % (3 : Int32))) &&& (65535 : Int32))
          have g1238 := hc212
          rw [← Int32.toInt_inj] at g1238
          have g1239 := hc879
          rw [← Int32.toInt_inj] at g1239
          have g1240 := hs945
          rw [← Int32.toInt_inj] at g1240
          omega
        have hv1241 : ((((8239 : Int32) + (p2 % (3 : Int32))) &&& (65535 : Int32)).toUInt32.toUInt16.toUInt32.toInt32) < (65536 : Int32) := by
          rw [Int32.lt_iff_toInt_lt]
          have f1242 := rng32 p3
          have f1243 : (1 : Int32).toInt = 1 := rfl
          have f1244 := rng32 (p3 &&& (1 : Int32))
          have f1245 : (p3 &&& (1 : Int32)).toInt = p3.toInt % 2 := c_mask p3 (1 : Int32) 1 (by decide) (by decide)
          have f1246 : (0 : Int32).toInt = 0 := rfl
          have f1247 := rng32 p1
          have f1248 := rng32 (p1 &&& (1 : Int32))
          have f1249 : (p1 &&& (1 : Int32)).toInt = p1.toInt % 2 := c_mask p1 (1 : Int32) 1 (by decide) (by decide)
          have f1250 := rng32 ((p1.toUInt32 >>> ((1 : Int32) &&& 31).toUInt32).toInt32)
          have f1251 : ((p1.toUInt32 >>> ((1 : Int32) &&& 31).toUInt32).toInt32).toInt = (p1.toInt % 4294967296) / 2 := c_iushr p1 (1 : Int32) 1 (by decide) (by decide)
          have f1252 : (2147483647 : Int32).toInt = 2147483647 := rfl
          have f1253 := rng32 (((p1.toUInt32 >>> ((1 : Int32) &&& 31).toUInt32).toInt32) &&& (2147483647 : Int32))
          have f1254 : (((p1.toUInt32 >>> ((1 : Int32) &&& 31).toUInt32).toInt32) &&& (2147483647 : Int32)).toInt = ((p1.toUInt32 >>> ((1 : Int32) &&& 31).toUInt32).toInt32).toInt % 2147483648 := c_mask ((p1.toUInt32 >>> ((1 : Int32) &&& 31).toUInt32).toInt32) (2147483647 : Int32) 31 (by decide) (by decide)
          have f1255 : (9 : Int32).toInt = 9 := rfl
          have f1256 := rng32 ((((p1.toUInt32 >>> ((1 : Int32) &&& 31).toUInt32).toInt32) &&& (2147483647 : Int32)) % (9 : Int32))
          have f1257 := c_irem (((p1.toUInt32 >>> ((1 : Int32) &&& 31).toUInt32).toInt32) &&& (2147483647 : Int32)) (9 : Int32) 9 rfl
          have f1258 : (4 : Int32).toInt = 4 := rfl
          have f1259 : (8239 : Int32).toInt = 8239 := rfl
          have f1260 := rng32 p2
          have f1261 : (3 : Int32).toInt = 3 := rfl
          have f1262 := rng32 (p2 % (3 : Int32))
          have f1263 := c_irem p2 (3 : Int32) 3 rfl
          have f1264 := rng32 ((8239 : Int32) + (p2 % (3 : Int32)))
          have f1265 : ((8239 : Int32) + (p2 % (3 : Int32))).toInt = (8239 : Int32).toInt + (p2 % (3 : Int32)).toInt := by have h := c_iadd (8239 : Int32) (p2 % (3 : Int32)); omega
          have f1266 : (65535 : Int32).toInt = 65535 := rfl
          have f1267 := rng32 (((8239 : Int32) + (p2 % (3 : Int32))) &&& (65535 : Int32))
          have f1268 : (((8239 : Int32) + (p2 % (3 : Int32))) &&& (65535 : Int32)).toInt = ((8239 : Int32) + (p2 % (3 : Int32))).toInt % 65536 := c_mask ((8239 : Int32) + (p2 % (3 : Int32))) (65535 : Int32) 16 (by decide) (by decide)
          have f1269 := rng32 ((((8239 : Int32) + (p2 % (3 : Int32))) &&& (65535 : Int32)).toUInt32.toUInt16.toUInt32.toInt32)
          have f1270 := c_i2c (((8239 : Int32) + (p2 % (3 : Int32))) &&& (65535 : Int32))
          have f1271 : (65536 : Int32).toInt = 65536 := rfl
          have g1272 := hc212
          rw [← Int32.toInt_inj] at g1272
          have g1273 := hc879
          rw [← Int32.toInt_inj] at g1273
          have g1274 := hs945
          rw [← Int32.toInt_inj] at g1274
          omega
        exact tailSTRICT _ _ _ _ ((((8239 : Int32) + (p2 % (3 : Int32))) &&& (65535 : Int32)).toUInt32.toUInt16.toUInt32.toInt32) _ _ (One.val rfl) (One.val rfl) X942 N942 (by rw [e942]; exact K944) (by decide) (by decide) hv1208 hv1241
      · rw [hs945]
        show own_E p e below _ T942 (mkF m 117 #[iv p1, iv p2, iv p3, rv aSTRICT, iv 1, .unset, rv b915, .unset, .unset] [.int 5, .ref b915])
        refine own_st (own_ald X942 hx hZ e942 V942 (j := (5 : Int32)) ⟨by decide, by decide⟩ (v := (.int (8722 : Int32))) rfl (g := (mkF m 117 #[iv p1, iv p2, iv p3, rv aSTRICT, iv 1, .unset, rv b915, .unset, .unset] [.int 5, .ref b915])) rfl rfl (hb hby at_117)) ?_
        show own_E p e below _ T942 (mkF m 118 #[iv p1, iv p2, iv p3, rv aSTRICT, iv 1, .unset, rv b915, .unset, .unset] [.int 8722])
        refine own_st (fun t k => XS.istore X942.here hx rfl (hb hby at_118) rfl (l' := #[iv p1, iv p2, iv p3, rv aSTRICT, iv 1, .unset, rv b915, iv 8722, .unset]) rfl k) ?_
        show own_E p e below _ T942 (mkF m 120 #[iv p1, iv p2, iv p3, rv aSTRICT, iv 1, .unset, rv b915, iv 8722, .unset] [])
        refine own_st (fun t k => XS.iload X942.here hx rfl (hb hby at_120) rfl k) ?_
        show own_E p e below _ T942 (mkF m 122 #[iv p1, iv p2, iv p3, rv aSTRICT, iv 1, .unset, rv b915, iv 8722, .unset] [.int 8722])
        refine own_st (fun t k => XS.iloadN X942.here hx rfl (hb hby at_122) rfl k) ?_
        show own_E p e below _ T942 (mkF m 123 #[iv p1, iv p2, iv p3, rv aSTRICT, iv 1, .unset, rv b915, iv 8722, .unset] [.int p2, .int 8722])
        refine own_st (fun t k => XS.iconst X942.here hx rfl (hb hby at_123) k) ?_
        show own_E p e below _ T942 (mkF m 124 #[iv p1, iv p2, iv p3, rv aSTRICT, iv 1, .unset, rv b915, iv 8722, .unset] [.int 3, .int p2, .int 8722])
        refine own_st (fun t k => iremM X942 hx rfl (hb hby at_124) rfl (by decide) k) ?_
        show own_E p e below _ T942 (mkF m 125 #[iv p1, iv p2, iv p3, rv aSTRICT, iv 1, .unset, rv b915, iv 8722, .unset] [.int (p2 % (3 : Int32)), .int 8722])
        refine own_st (fun t k => XS.iadd X942.here hx rfl (hb hby at_125) rfl k) ?_
        show own_E p e below _ T942 (mkF m 126 #[iv p1, iv p2, iv p3, rv aSTRICT, iv 1, .unset, rv b915, iv 8722, .unset] [.int ((8722 : Int32) + (p2 % (3 : Int32)))])
        refine own_st (X942.ldcInt hx hown (mvT hZ (own_w hw 3 rfl)) (g := (mkF m 126 #[iv p1, iv p2, iv p3, rv aSTRICT, iv 1, .unset, rv b915, iv 8722, .unset] [.int ((8722 : Int32) + (p2 % (3 : Int32)))])) rfl (hb hby at_126)) ?_
        show own_E p e below _ T942 (mkF m 128 #[iv p1, iv p2, iv p3, rv aSTRICT, iv 1, .unset, rv b915, iv 8722, .unset] [.int 65535, .int ((8722 : Int32) + (p2 % (3 : Int32)))])
        refine own_st (fun t k => XS.iand X942.here hx rfl (hb hby at_128) rfl k) ?_
        show own_E p e below _ T942 (mkF m 129 #[iv p1, iv p2, iv p3, rv aSTRICT, iv 1, .unset, rv b915, iv 8722, .unset] [.int (((8722 : Int32) + (p2 % (3 : Int32))) &&& (65535 : Int32))])
        refine own_st (fun t k => XS.i2c X942.here hx rfl (hb hby at_129) rfl k) ?_
        show own_E p e below _ T942 (mkF m 130 #[iv p1, iv p2, iv p3, rv aSTRICT, iv 1, .unset, rv b915, iv 8722, .unset] [.int ((((8722 : Int32) + (p2 % (3 : Int32))) &&& (65535 : Int32)).toUInt32.toUInt16.toUInt32.toInt32)])
        refine own_st (fun t k => XS.istore X942.here hx rfl (hb hby at_130) rfl (l' := #[iv p1, iv p2, iv p3, rv aSTRICT, iv 1, iv ((((8722 : Int32) + (p2 % (3 : Int32))) &&& (65535 : Int32)).toUInt32.toUInt16.toUInt32.toInt32), rv b915, iv 8722, .unset]) rfl k) ?_
        show own_E p e below _ T942 (mkF m 132 #[iv p1, iv p2, iv p3, rv aSTRICT, iv 1, iv ((((8722 : Int32) + (p2 % (3 : Int32))) &&& (65535 : Int32)).toUInt32.toUInt16.toUInt32.toInt32), rv b915, iv 8722, .unset] [])
        have hv1275 : ¬ (((((8722 : Int32) + (p2 % (3 : Int32))) &&& (65535 : Int32)).toUInt32.toUInt16.toUInt32.toInt32) < (0 : Int32)) := by
          rw [Int32.lt_iff_toInt_lt]
          have f1276 := rng32 p3
          have f1277 : (1 : Int32).toInt = 1 := rfl
          have f1278 := rng32 (p3 &&& (1 : Int32))
          have f1279 : (p3 &&& (1 : Int32)).toInt = p3.toInt % 2 := c_mask p3 (1 : Int32) 1 (by decide) (by decide)
          have f1280 : (0 : Int32).toInt = 0 := rfl
          have f1281 := rng32 p1
          have f1282 := rng32 (p1 &&& (1 : Int32))
          have f1283 : (p1 &&& (1 : Int32)).toInt = p1.toInt % 2 := c_mask p1 (1 : Int32) 1 (by decide) (by decide)
          have f1284 := rng32 ((p1.toUInt32 >>> ((1 : Int32) &&& 31).toUInt32).toInt32)
          have f1285 : ((p1.toUInt32 >>> ((1 : Int32) &&& 31).toUInt32).toInt32).toInt = (p1.toInt % 4294967296) / 2 := c_iushr p1 (1 : Int32) 1 (by decide) (by decide)
          have f1286 : (2147483647 : Int32).toInt = 2147483647 := rfl
          have f1287 := rng32 (((p1.toUInt32 >>> ((1 : Int32) &&& 31).toUInt32).toInt32) &&& (2147483647 : Int32))
          have f1288 : (((p1.toUInt32 >>> ((1 : Int32) &&& 31).toUInt32).toInt32) &&& (2147483647 : Int32)).toInt = ((p1.toUInt32 >>> ((1 : Int32) &&& 31).toUInt32).toInt32).toInt % 2147483648 := c_mask ((p1.toUInt32 >>> ((1 : Int32) &&& 31).toUInt32).toInt32) (2147483647 : Int32) 31 (by decide) (by decide)
          have f1289 : (9 : Int32).toInt = 9 := rfl
          have f1290 := rng32 ((((p1.toUInt32 >>> ((1 : Int32) &&& 31).toUInt32).toInt32) &&& (2147483647 : Int32)) % (9 : Int32))
          have f1291 := c_irem (((p1.toUInt32 >>> ((1 : Int32) &&& 31).toUInt32).toInt32) &&& (2147483647 : Int32)) (9 : Int32) 9 rfl
          have f1292 : (5 : Int32).toInt = 5 := rfl
          have f1293 : (8722 : Int32).toInt = 8722 := rfl
          have f1294 := rng32 p2
          have f1295 : (3 : Int32).toInt = 3 := rfl
          have f1296 := rng32 (p2 % (3 : Int32))
          have f1297 := c_irem p2 (3 : Int32) 3 rfl
          have f1298 := rng32 ((8722 : Int32) + (p2 % (3 : Int32)))
          have f1299 : ((8722 : Int32) + (p2 % (3 : Int32))).toInt = (8722 : Int32).toInt + (p2 % (3 : Int32)).toInt := by have h := c_iadd (8722 : Int32) (p2 % (3 : Int32)); omega
          have f1300 : (65535 : Int32).toInt = 65535 := rfl
          have f1301 := rng32 (((8722 : Int32) + (p2 % (3 : Int32))) &&& (65535 : Int32))
          have f1302 : (((8722 : Int32) + (p2 % (3 : Int32))) &&& (65535 : Int32)).toInt = ((8722 : Int32) + (p2 % (3 : Int32))).toInt % 65536 := c_mask ((8722 : Int32) + (p2 % (3 : Int32))) (65535 : Int32) 16 (by decide) (by decide)
          have f1303 := rng32 ((((8722 : Int32) + (p2 % (3 : Int32))) &&& (65535 : Int32)).toUInt32.toUInt16.toUInt32.toInt32)
          have f1304 := c_i2c (((8722 : Int32) + (p2 % (3 : Int32))) &&& (65535 : Int32))
          have g1305 := hc212
          rw [← Int32.toInt_inj] at g1305
          have g1306 := hc879
          rw [← Int32.toInt_inj] at g1306
          have g1307 := hs945
          rw [← Int32.toInt_inj] at g1307
          omega
        have hv1308 : ((((8722 : Int32) + (p2 % (3 : Int32))) &&& (65535 : Int32)).toUInt32.toUInt16.toUInt32.toInt32) < (65536 : Int32) := by
          rw [Int32.lt_iff_toInt_lt]
          have f1309 := rng32 p3
          have f1310 : (1 : Int32).toInt = 1 := rfl
          have f1311 := rng32 (p3 &&& (1 : Int32))
          have f1312 : (p3 &&& (1 : Int32)).toInt = p3.toInt % 2 := c_mask p3 (1 : Int32) 1 (by decide) (by decide)
          have f1313 : (0 : Int32).toInt = 0 := rfl
          have f1314 := rng32 p1
          have f1315 := rng32 (p1 &&& (1 : Int32))
          have f1316 : (p1 &&& (1 : Int32)).toInt = p1.toInt % 2 := c_mask p1 (1 : Int32) 1 (by decide) (by decide)
          have f1317 := rng32 ((p1.toUInt32 >>> ((1 : Int32) &&& 31).toUInt32).toInt32)
          have f1318 : ((p1.toUInt32 >>> ((1 : Int32) &&& 31).toUInt32).toInt32).toInt = (p1.toInt % 4294967296) / 2 := c_iushr p1 (1 : Int32) 1 (by decide) (by decide)
          have f1319 : (2147483647 : Int32).toInt = 2147483647 := rfl
          have f1320 := rng32 (((p1.toUInt32 >>> ((1 : Int32) &&& 31).toUInt32).toInt32) &&& (2147483647 : Int32))
          have f1321 : (((p1.toUInt32 >>> ((1 : Int32) &&& 31).toUInt32).toInt32) &&& (2147483647 : Int32)).toInt = ((p1.toUInt32 >>> ((1 : Int32) &&& 31).toUInt32).toInt32).toInt % 2147483648 := c_mask ((p1.toUInt32 >>> ((1 : Int32) &&& 31).toUInt32).toInt32) (2147483647 : Int32) 31 (by decide) (by decide)
          have f1322 : (9 : Int32).toInt = 9 := rfl
          have f1323 := rng32 ((((p1.toUInt32 >>> ((1 : Int32) &&& 31).toUInt32).toInt32) &&& (2147483647 : Int32)) % (9 : Int32))
          have f1324 := c_irem (((p1.toUInt32 >>> ((1 : Int32) &&& 31).toUInt32).toInt32) &&& (2147483647 : Int32)) (9 : Int32) 9 rfl
          have f1325 : (5 : Int32).toInt = 5 := rfl
          have f1326 : (8722 : Int32).toInt = 8722 := rfl
          have f1327 := rng32 p2
          have f1328 : (3 : Int32).toInt = 3 := rfl
          have f1329 := rng32 (p2 % (3 : Int32))
          have f1330 := c_irem p2 (3 : Int32) 3 rfl
          have f1331 := rng32 ((8722 : Int32) + (p2 % (3 : Int32)))
          have f1332 : ((8722 : Int32) + (p2 % (3 : Int32))).toInt = (8722 : Int32).toInt + (p2 % (3 : Int32)).toInt := by have h := c_iadd (8722 : Int32) (p2 % (3 : Int32)); omega
          have f1333 : (65535 : Int32).toInt = 65535 := rfl
          have f1334 := rng32 (((8722 : Int32) + (p2 % (3 : Int32))) &&& (65535 : Int32))
          have f1335 : (((8722 : Int32) + (p2 % (3 : Int32))) &&& (65535 : Int32)).toInt = ((8722 : Int32) + (p2 % (3 : Int32))).toInt % 65536 := c_mask ((8722 : Int32) + (p2 % (3 : Int32))) (65535 : Int32) 16 (by decide) (by decide)
          have f1336 := rng32 ((((8722 : Int32) + (p2 % (3 : Int32))) &&& (65535 : Int32)).toUInt32.toUInt16.toUInt32.toInt32)
          have f1337 := c_i2c (((8722 : Int32) + (p2 % (3 : Int32))) &&& (65535 : Int32))
          have f1338 : (65536 : Int32).toInt = 65536 := rfl
          have g1339 := hc212
          rw [← Int32.toInt_inj] at g1339
          have g1340 := hc879
          rw [← Int32.toInt_inj] at g1340
          have g1341 := hs945
          rw [← Int32.toInt_inj] at g1341
          omega
        exact tailSTRICT _ _ _ _ ((((8722 : Int32) + (p2 % (3 : Int32))) &&& (65535 : Int32)).toUInt32.toUInt16.toUInt32.toInt32) _ _ (One.val rfl) (One.val rfl) X942 N942 (by rw [e942]; exact K944) (by decide) (by decide) hv1275 hv1308
      · rw [hs945]
        show own_E p e below _ T942 (mkF m 117 #[iv p1, iv p2, iv p3, rv aSTRICT, iv 1, .unset, rv b915, .unset, .unset] [.int 6, .ref b915])
        refine own_st (own_ald X942 hx hZ e942 V942 (j := (6 : Int32)) ⟨by decide, by decide⟩ (v := (.int (12288 : Int32))) rfl (g := (mkF m 117 #[iv p1, iv p2, iv p3, rv aSTRICT, iv 1, .unset, rv b915, .unset, .unset] [.int 6, .ref b915])) rfl rfl (hb hby at_117)) ?_
        show own_E p e below _ T942 (mkF m 118 #[iv p1, iv p2, iv p3, rv aSTRICT, iv 1, .unset, rv b915, .unset, .unset] [.int 12288])
        refine own_st (fun t k => XS.istore X942.here hx rfl (hb hby at_118) rfl (l' := #[iv p1, iv p2, iv p3, rv aSTRICT, iv 1, .unset, rv b915, iv 12288, .unset]) rfl k) ?_
        show own_E p e below _ T942 (mkF m 120 #[iv p1, iv p2, iv p3, rv aSTRICT, iv 1, .unset, rv b915, iv 12288, .unset] [])
        refine own_st (fun t k => XS.iload X942.here hx rfl (hb hby at_120) rfl k) ?_
        show own_E p e below _ T942 (mkF m 122 #[iv p1, iv p2, iv p3, rv aSTRICT, iv 1, .unset, rv b915, iv 12288, .unset] [.int 12288])
        refine own_st (fun t k => XS.iloadN X942.here hx rfl (hb hby at_122) rfl k) ?_
        show own_E p e below _ T942 (mkF m 123 #[iv p1, iv p2, iv p3, rv aSTRICT, iv 1, .unset, rv b915, iv 12288, .unset] [.int p2, .int 12288])
        refine own_st (fun t k => XS.iconst X942.here hx rfl (hb hby at_123) k) ?_
        show own_E p e below _ T942 (mkF m 124 #[iv p1, iv p2, iv p3, rv aSTRICT, iv 1, .unset, rv b915, iv 12288, .unset] [.int 3, .int p2, .int 12288])
        refine own_st (fun t k => iremM X942 hx rfl (hb hby at_124) rfl (by decide) k) ?_
        show own_E p e below _ T942 (mkF m 125 #[iv p1, iv p2, iv p3, rv aSTRICT, iv 1, .unset, rv b915, iv 12288, .unset] [.int (p2 % (3 : Int32)), .int 12288])
        refine own_st (fun t k => XS.iadd X942.here hx rfl (hb hby at_125) rfl k) ?_
        show own_E p e below _ T942 (mkF m 126 #[iv p1, iv p2, iv p3, rv aSTRICT, iv 1, .unset, rv b915, iv 12288, .unset] [.int ((12288 : Int32) + (p2 % (3 : Int32)))])
        refine own_st (X942.ldcInt hx hown (mvT hZ (own_w hw 3 rfl)) (g := (mkF m 126 #[iv p1, iv p2, iv p3, rv aSTRICT, iv 1, .unset, rv b915, iv 12288, .unset] [.int ((12288 : Int32) + (p2 % (3 : Int32)))])) rfl (hb hby at_126)) ?_
        show own_E p e below _ T942 (mkF m 128 #[iv p1, iv p2, iv p3, rv aSTRICT, iv 1, .unset, rv b915, iv 12288, .unset] [.int 65535, .int ((12288 : Int32) + (p2 % (3 : Int32)))])
        refine own_st (fun t k => XS.iand X942.here hx rfl (hb hby at_128) rfl k) ?_
        show own_E p e below _ T942 (mkF m 129 #[iv p1, iv p2, iv p3, rv aSTRICT, iv 1, .unset, rv b915, iv 12288, .unset] [.int (((12288 : Int32) + (p2 % (3 : Int32))) &&& (65535 : Int32))])
        refine own_st (fun t k => XS.i2c X942.here hx rfl (hb hby at_129) rfl k) ?_
        show own_E p e below _ T942 (mkF m 130 #[iv p1, iv p2, iv p3, rv aSTRICT, iv 1, .unset, rv b915, iv 12288, .unset] [.int ((((12288 : Int32) + (p2 % (3 : Int32))) &&& (65535 : Int32)).toUInt32.toUInt16.toUInt32.toInt32)])
        refine own_st (fun t k => XS.istore X942.here hx rfl (hb hby at_130) rfl (l' := #[iv p1, iv p2, iv p3, rv aSTRICT, iv 1, iv ((((12288 : Int32) + (p2 % (3 : Int32))) &&& (65535 : Int32)).toUInt32.toUInt16.toUInt32.toInt32), rv b915, iv 12288, .unset]) rfl k) ?_
        show own_E p e below _ T942 (mkF m 132 #[iv p1, iv p2, iv p3, rv aSTRICT, iv 1, iv ((((12288 : Int32) + (p2 % (3 : Int32))) &&& (65535 : Int32)).toUInt32.toUInt16.toUInt32.toInt32), rv b915, iv 12288, .unset] [])
        have hv1342 : ¬ (((((12288 : Int32) + (p2 % (3 : Int32))) &&& (65535 : Int32)).toUInt32.toUInt16.toUInt32.toInt32) < (0 : Int32)) := by
          rw [Int32.lt_iff_toInt_lt]
          have f1343 := rng32 p3
          have f1344 : (1 : Int32).toInt = 1 := rfl
          have f1345 := rng32 (p3 &&& (1 : Int32))
          have f1346 : (p3 &&& (1 : Int32)).toInt = p3.toInt % 2 := c_mask p3 (1 : Int32) 1 (by decide) (by decide)
          have f1347 : (0 : Int32).toInt = 0 := rfl
          have f1348 := rng32 p1
          have f1349 := rng32 (p1 &&& (1 : Int32))
          have f1350 : (p1 &&& (1 : Int32)).toInt = p1.toInt % 2 := c_mask p1 (1 : Int32) 1 (by decide) (by decide)
          have f1351 := rng32 ((p1.toUInt32 >>> ((1 : Int32) &&& 31).toUInt32).toInt32)
          have f1352 : ((p1.toUInt32 >>> ((1 : Int32) &&& 31).toUInt32).toInt32).toInt = (p1.toInt % 4294967296) / 2 := c_iushr p1 (1 : Int32) 1 (by decide) (by decide)
          have f1353 : (2147483647 : Int32).toInt = 2147483647 := rfl
          have f1354 := rng32 (((p1.toUInt32 >>> ((1 : Int32) &&& 31).toUInt32).toInt32) &&& (2147483647 : Int32))
          have f1355 : (((p1.toUInt32 >>> ((1 : Int32) &&& 31).toUInt32).toInt32) &&& (2147483647 : Int32)).toInt = ((p1.toUInt32 >>> ((1 : Int32) &&& 31).toUInt32).toInt32).toInt % 2147483648 := c_mask ((p1.toUInt32 >>> ((1 : Int32) &&& 31).toUInt32).toInt32) (2147483647 : Int32) 31 (by decide) (by decide)
          have f1356 : (9 : Int32).toInt = 9 := rfl
          have f1357 := rng32 ((((p1.toUInt32 >>> ((1 : Int32) &&& 31).toUInt32).toInt32) &&& (2147483647 : Int32)) % (9 : Int32))
          have f1358 := c_irem (((p1.toUInt32 >>> ((1 : Int32) &&& 31).toUInt32).toInt32) &&& (2147483647 : Int32)) (9 : Int32) 9 rfl
          have f1359 : (6 : Int32).toInt = 6 := rfl
          have f1360 : (12288 : Int32).toInt = 12288 := rfl
          have f1361 := rng32 p2
          have f1362 : (3 : Int32).toInt = 3 := rfl
          have f1363 := rng32 (p2 % (3 : Int32))
          have f1364 := c_irem p2 (3 : Int32) 3 rfl
          have f1365 := rng32 ((12288 : Int32) + (p2 % (3 : Int32)))
          have f1366 : ((12288 : Int32) + (p2 % (3 : Int32))).toInt = (12288 : Int32).toInt + (p2 % (3 : Int32)).toInt := by have h := c_iadd (12288 : Int32) (p2 % (3 : Int32)); omega
          have f1367 : (65535 : Int32).toInt = 65535 := rfl
          have f1368 := rng32 (((12288 : Int32) + (p2 % (3 : Int32))) &&& (65535 : Int32))
          have f1369 : (((12288 : Int32) + (p2 % (3 : Int32))) &&& (65535 : Int32)).toInt = ((12288 : Int32) + (p2 % (3 : Int32))).toInt % 65536 := c_mask ((12288 : Int32) + (p2 % (3 : Int32))) (65535 : Int32) 16 (by decide) (by decide)
          have f1370 := rng32 ((((12288 : Int32) + (p2 % (3 : Int32))) &&& (65535 : Int32)).toUInt32.toUInt16.toUInt32.toInt32)
          have f1371 := c_i2c (((12288 : Int32) + (p2 % (3 : Int32))) &&& (65535 : Int32))
          have g1372 := hc212
          rw [← Int32.toInt_inj] at g1372
          have g1373 := hc879
          rw [← Int32.toInt_inj] at g1373
          have g1374 := hs945
          rw [← Int32.toInt_inj] at g1374
          omega
        have hv1375 : ((((12288 : Int32) + (p2 % (3 : Int32))) &&& (65535 : Int32)).toUInt32.toUInt16.toUInt32.toInt32) < (65536 : Int32) := by
          rw [Int32.lt_iff_toInt_lt]
          have f1376 := rng32 p3
          have f1377 : (1 : Int32).toInt = 1 := rfl
          have f1378 := rng32 (p3 &&& (1 : Int32))
          have f1379 : (p3 &&& (1 : Int32)).toInt = p3.toInt % 2 := c_mask p3 (1 : Int32) 1 (by decide) (by decide)
          have f1380 : (0 : Int32).toInt = 0 := rfl
          have f1381 := rng32 p1
          have f1382 := rng32 (p1 &&& (1 : Int32))
          have f1383 : (p1 &&& (1 : Int32)).toInt = p1.toInt % 2 := c_mask p1 (1 : Int32) 1 (by decide) (by decide)
          have f1384 := rng32 ((p1.toUInt32 >>> ((1 : Int32) &&& 31).toUInt32).toInt32)
          have f1385 : ((p1.toUInt32 >>> ((1 : Int32) &&& 31).toUInt32).toInt32).toInt = (p1.toInt % 4294967296) / 2 := c_iushr p1 (1 : Int32) 1 (by decide) (by decide)
          have f1386 : (2147483647 : Int32).toInt = 2147483647 := rfl
          have f1387 := rng32 (((p1.toUInt32 >>> ((1 : Int32) &&& 31).toUInt32).toInt32) &&& (2147483647 : Int32))
          have f1388 : (((p1.toUInt32 >>> ((1 : Int32) &&& 31).toUInt32).toInt32) &&& (2147483647 : Int32)).toInt = ((p1.toUInt32 >>> ((1 : Int32) &&& 31).toUInt32).toInt32).toInt % 2147483648 := c_mask ((p1.toUInt32 >>> ((1 : Int32) &&& 31).toUInt32).toInt32) (2147483647 : Int32) 31 (by decide) (by decide)
          have f1389 : (9 : Int32).toInt = 9 := rfl
          have f1390 := rng32 ((((p1.toUInt32 >>> ((1 : Int32) &&& 31).toUInt32).toInt32) &&& (2147483647 : Int32)) % (9 : Int32))
          have f1391 := c_irem (((p1.toUInt32 >>> ((1 : Int32) &&& 31).toUInt32).toInt32) &&& (2147483647 : Int32)) (9 : Int32) 9 rfl
          have f1392 : (6 : Int32).toInt = 6 := rfl
          have f1393 : (12288 : Int32).toInt = 12288 := rfl
          have f1394 := rng32 p2
          have f1395 : (3 : Int32).toInt = 3 := rfl
          have f1396 := rng32 (p2 % (3 : Int32))
          have f1397 := c_irem p2 (3 : Int32) 3 rfl
          have f1398 := rng32 ((12288 : Int32) + (p2 % (3 : Int32)))
          have f1399 : ((12288 : Int32) + (p2 % (3 : Int32))).toInt = (12288 : Int32).toInt + (p2 % (3 : Int32)).toInt := by have h := c_iadd (12288 : Int32) (p2 % (3 : Int32)); omega
          have f1400 : (65535 : Int32).toInt = 65535 := rfl
          have f1401 := rng32 (((12288 : Int32) + (p2 % (3 : Int32))) &&& (65535 : Int32))
          have f1402 : (((12288 : Int32) + (p2 % (3 : Int32))) &&& (65535 : Int32)).toInt = ((12288 : Int32) + (p2 % (3 : Int32))).toInt % 65536 := c_mask ((12288 : Int32) + (p2 % (3 : Int32))) (65535 : Int32) 16 (by decide) (by decide)
          have f1403 := rng32 ((((12288 : Int32) + (p2 % (3 : Int32))) &&& (65535 : Int32)).toUInt32.toUInt16.toUInt32.toInt32)
          have f1404 := c_i2c (((12288 : Int32) + (p2 % (3 : Int32))) &&& (65535 : Int32))
          have f1405 : (65536 : Int32).toInt = 65536 := rfl
          have g1406 := hc212
          rw [← Int32.toInt_inj] at g1406
          have g1407 := hc879
          rw [← Int32.toInt_inj] at g1407
          have g1408 := hs945
          rw [← Int32.toInt_inj] at g1408
          omega
        exact tailSTRICT _ _ _ _ ((((12288 : Int32) + (p2 % (3 : Int32))) &&& (65535 : Int32)).toUInt32.toUInt16.toUInt32.toInt32) _ _ (One.val rfl) (One.val rfl) X942 N942 (by rw [e942]; exact K944) (by decide) (by decide) hv1342 hv1375
      · rw [hs945]
        show own_E p e below _ T942 (mkF m 117 #[iv p1, iv p2, iv p3, rv aSTRICT, iv 1, .unset, rv b915, .unset, .unset] [.int 7, .ref b915])
        refine own_st (own_ald X942 hx hZ e942 V942 (j := (7 : Int32)) ⟨by decide, by decide⟩ (v := (.int (65281 : Int32))) rfl (g := (mkF m 117 #[iv p1, iv p2, iv p3, rv aSTRICT, iv 1, .unset, rv b915, .unset, .unset] [.int 7, .ref b915])) rfl rfl (hb hby at_117)) ?_
        show own_E p e below _ T942 (mkF m 118 #[iv p1, iv p2, iv p3, rv aSTRICT, iv 1, .unset, rv b915, .unset, .unset] [.int 65281])
        refine own_st (fun t k => XS.istore X942.here hx rfl (hb hby at_118) rfl (l' := #[iv p1, iv p2, iv p3, rv aSTRICT, iv 1, .unset, rv b915, iv 65281, .unset]) rfl k) ?_
        show own_E p e below _ T942 (mkF m 120 #[iv p1, iv p2, iv p3, rv aSTRICT, iv 1, .unset, rv b915, iv 65281, .unset] [])
        refine own_st (fun t k => XS.iload X942.here hx rfl (hb hby at_120) rfl k) ?_
        show own_E p e below _ T942 (mkF m 122 #[iv p1, iv p2, iv p3, rv aSTRICT, iv 1, .unset, rv b915, iv 65281, .unset] [.int 65281])
        refine own_st (fun t k => XS.iloadN X942.here hx rfl (hb hby at_122) rfl k) ?_
        show own_E p e below _ T942 (mkF m 123 #[iv p1, iv p2, iv p3, rv aSTRICT, iv 1, .unset, rv b915, iv 65281, .unset] [.int p2, .int 65281])
        refine own_st (fun t k => XS.iconst X942.here hx rfl (hb hby at_123) k) ?_
        show own_E p e below _ T942 (mkF m 124 #[iv p1, iv p2, iv p3, rv aSTRICT, iv 1, .unset, rv b915, iv 65281, .unset] [.int 3, .int p2, .int 65281])
        refine own_st (fun t k => iremM X942 hx rfl (hb hby at_124) rfl (by decide) k) ?_
        show own_E p e below _ T942 (mkF m 125 #[iv p1, iv p2, iv p3, rv aSTRICT, iv 1, .unset, rv b915, iv 65281, .unset] [.int (p2 % (3 : Int32)), .int 65281])
        refine own_st (fun t k => XS.iadd X942.here hx rfl (hb hby at_125) rfl k) ?_
        show own_E p e below _ T942 (mkF m 126 #[iv p1, iv p2, iv p3, rv aSTRICT, iv 1, .unset, rv b915, iv 65281, .unset] [.int ((65281 : Int32) + (p2 % (3 : Int32)))])
        refine own_st (X942.ldcInt hx hown (mvT hZ (own_w hw 3 rfl)) (g := (mkF m 126 #[iv p1, iv p2, iv p3, rv aSTRICT, iv 1, .unset, rv b915, iv 65281, .unset] [.int ((65281 : Int32) + (p2 % (3 : Int32)))])) rfl (hb hby at_126)) ?_
        show own_E p e below _ T942 (mkF m 128 #[iv p1, iv p2, iv p3, rv aSTRICT, iv 1, .unset, rv b915, iv 65281, .unset] [.int 65535, .int ((65281 : Int32) + (p2 % (3 : Int32)))])
        refine own_st (fun t k => XS.iand X942.here hx rfl (hb hby at_128) rfl k) ?_
        show own_E p e below _ T942 (mkF m 129 #[iv p1, iv p2, iv p3, rv aSTRICT, iv 1, .unset, rv b915, iv 65281, .unset] [.int (((65281 : Int32) + (p2 % (3 : Int32))) &&& (65535 : Int32))])
        refine own_st (fun t k => XS.i2c X942.here hx rfl (hb hby at_129) rfl k) ?_
        show own_E p e below _ T942 (mkF m 130 #[iv p1, iv p2, iv p3, rv aSTRICT, iv 1, .unset, rv b915, iv 65281, .unset] [.int ((((65281 : Int32) + (p2 % (3 : Int32))) &&& (65535 : Int32)).toUInt32.toUInt16.toUInt32.toInt32)])
        refine own_st (fun t k => XS.istore X942.here hx rfl (hb hby at_130) rfl (l' := #[iv p1, iv p2, iv p3, rv aSTRICT, iv 1, iv ((((65281 : Int32) + (p2 % (3 : Int32))) &&& (65535 : Int32)).toUInt32.toUInt16.toUInt32.toInt32), rv b915, iv 65281, .unset]) rfl k) ?_
        show own_E p e below _ T942 (mkF m 132 #[iv p1, iv p2, iv p3, rv aSTRICT, iv 1, iv ((((65281 : Int32) + (p2 % (3 : Int32))) &&& (65535 : Int32)).toUInt32.toUInt16.toUInt32.toInt32), rv b915, iv 65281, .unset] [])
        have hv1409 : ¬ (((((65281 : Int32) + (p2 % (3 : Int32))) &&& (65535 : Int32)).toUInt32.toUInt16.toUInt32.toInt32) < (0 : Int32)) := by
          rw [Int32.lt_iff_toInt_lt]
          have f1410 := rng32 p3
          have f1411 : (1 : Int32).toInt = 1 := rfl
          have f1412 := rng32 (p3 &&& (1 : Int32))
          have f1413 : (p3 &&& (1 : Int32)).toInt = p3.toInt % 2 := c_mask p3 (1 : Int32) 1 (by decide) (by decide)
          have f1414 : (0 : Int32).toInt = 0 := rfl
          have f1415 := rng32 p1
          have f1416 := rng32 (p1 &&& (1 : Int32))
          have f1417 : (p1 &&& (1 : Int32)).toInt = p1.toInt % 2 := c_mask p1 (1 : Int32) 1 (by decide) (by decide)
          have f1418 := rng32 ((p1.toUInt32 >>> ((1 : Int32) &&& 31).toUInt32).toInt32)
          have f1419 : ((p1.toUInt32 >>> ((1 : Int32) &&& 31).toUInt32).toInt32).toInt = (p1.toInt % 4294967296) / 2 := c_iushr p1 (1 : Int32) 1 (by decide) (by decide)
          have f1420 : (2147483647 : Int32).toInt = 2147483647 := rfl
          have f1421 := rng32 (((p1.toUInt32 >>> ((1 : Int32) &&& 31).toUInt32).toInt32) &&& (2147483647 : Int32))
          have f1422 : (((p1.toUInt32 >>> ((1 : Int32) &&& 31).toUInt32).toInt32) &&& (2147483647 : Int32)).toInt = ((p1.toUInt32 >>> ((1 : Int32) &&& 31).toUInt32).toInt32).toInt % 2147483648 := c_mask ((p1.toUInt32 >>> ((1 : Int32) &&& 31).toUInt32).toInt32) (2147483647 : Int32) 31 (by decide) (by decide)
          have f1423 : (9 : Int32).toInt = 9 := rfl
          have f1424 := rng32 ((((p1.toUInt32 >>> ((1 : Int32) &&& 31).toUInt32).toInt32) &&& (2147483647 : Int32)) % (9 : Int32))
          have f1425 := c_irem (((p1.toUInt32 >>> ((1 : Int32) &&& 31).toUInt32).toInt32) &&& (2147483647 : Int32)) (9 : Int32) 9 rfl
          have f1426 : (7 : Int32).toInt = 7 := rfl
          have f1427 : (65281 : Int32).toInt = 65281 := rfl
          have f1428 := rng32 p2
          have f1429 : (3 : Int32).toInt = 3 := rfl
          have f1430 := rng32 (p2 % (3 : Int32))
          have f1431 := c_irem p2 (3 : Int32) 3 rfl
          have f1432 := rng32 ((65281 : Int32) + (p2 % (3 : Int32)))
          have f1433 : ((65281 : Int32) + (p2 % (3 : Int32))).toInt = (65281 : Int32).toInt + (p2 % (3 : Int32)).toInt := by have h := c_iadd (65281 : Int32) (p2 % (3 : Int32)); omega
          have f1434 : (65535 : Int32).toInt = 65535 := rfl
          have f1435 := rng32 (((65281 : Int32) + (p2 % (3 : Int32))) &&& (65535 : Int32))
          have f1436 : (((65281 : Int32) + (p2 % (3 : Int32))) &&& (65535 : Int32)).toInt = ((65281 : Int32) + (p2 % (3 : Int32))).toInt % 65536 := c_mask ((65281 : Int32) + (p2 % (3 : Int32))) (65535 : Int32) 16 (by decide) (by decide)
          have f1437 := rng32 ((((65281 : Int32) + (p2 % (3 : Int32))) &&& (65535 : Int32)).toUInt32.toUInt16.toUInt32.toInt32)
          have f1438 := c_i2c (((65281 : Int32) + (p2 % (3 : Int32))) &&& (65535 : Int32))
          have g1439 := hc212
          rw [← Int32.toInt_inj] at g1439
          have g1440 := hc879
          rw [← Int32.toInt_inj] at g1440
          have g1441 := hs945
          rw [← Int32.toInt_inj] at g1441
          omega
        have hv1442 : ((((65281 : Int32) + (p2 % (3 : Int32))) &&& (65535 : Int32)).toUInt32.toUInt16.toUInt32.toInt32) < (65536 : Int32) := by
          rw [Int32.lt_iff_toInt_lt]
          have f1443 := rng32 p3
          have f1444 : (1 : Int32).toInt = 1 := rfl
          have f1445 := rng32 (p3 &&& (1 : Int32))
          have f1446 : (p3 &&& (1 : Int32)).toInt = p3.toInt % 2 := c_mask p3 (1 : Int32) 1 (by decide) (by decide)
          have f1447 : (0 : Int32).toInt = 0 := rfl
          have f1448 := rng32 p1
          have f1449 := rng32 (p1 &&& (1 : Int32))
          have f1450 : (p1 &&& (1 : Int32)).toInt = p1.toInt % 2 := c_mask p1 (1 : Int32) 1 (by decide) (by decide)
          have f1451 := rng32 ((p1.toUInt32 >>> ((1 : Int32) &&& 31).toUInt32).toInt32)
          have f1452 : ((p1.toUInt32 >>> ((1 : Int32) &&& 31).toUInt32).toInt32).toInt = (p1.toInt % 4294967296) / 2 := c_iushr p1 (1 : Int32) 1 (by decide) (by decide)
          have f1453 : (2147483647 : Int32).toInt = 2147483647 := rfl
          have f1454 := rng32 (((p1.toUInt32 >>> ((1 : Int32) &&& 31).toUInt32).toInt32) &&& (2147483647 : Int32))
          have f1455 : (((p1.toUInt32 >>> ((1 : Int32) &&& 31).toUInt32).toInt32) &&& (2147483647 : Int32)).toInt = ((p1.toUInt32 >>> ((1 : Int32) &&& 31).toUInt32).toInt32).toInt % 2147483648 := c_mask ((p1.toUInt32 >>> ((1 : Int32) &&& 31).toUInt32).toInt32) (2147483647 : Int32) 31 (by decide) (by decide)
          have f1456 : (9 : Int32).toInt = 9 := rfl
          have f1457 := rng32 ((((p1.toUInt32 >>> ((1 : Int32) &&& 31).toUInt32).toInt32) &&& (2147483647 : Int32)) % (9 : Int32))
          have f1458 := c_irem (((p1.toUInt32 >>> ((1 : Int32) &&& 31).toUInt32).toInt32) &&& (2147483647 : Int32)) (9 : Int32) 9 rfl
          have f1459 : (7 : Int32).toInt = 7 := rfl
          have f1460 : (65281 : Int32).toInt = 65281 := rfl
          have f1461 := rng32 p2
          have f1462 : (3 : Int32).toInt = 3 := rfl
          have f1463 := rng32 (p2 % (3 : Int32))
          have f1464 := c_irem p2 (3 : Int32) 3 rfl
          have f1465 := rng32 ((65281 : Int32) + (p2 % (3 : Int32)))
          have f1466 : ((65281 : Int32) + (p2 % (3 : Int32))).toInt = (65281 : Int32).toInt + (p2 % (3 : Int32)).toInt := by have h := c_iadd (65281 : Int32) (p2 % (3 : Int32)); omega
          have f1467 : (65535 : Int32).toInt = 65535 := rfl
          have f1468 := rng32 (((65281 : Int32) + (p2 % (3 : Int32))) &&& (65535 : Int32))
          have f1469 : (((65281 : Int32) + (p2 % (3 : Int32))) &&& (65535 : Int32)).toInt = ((65281 : Int32) + (p2 % (3 : Int32))).toInt % 65536 := c_mask ((65281 : Int32) + (p2 % (3 : Int32))) (65535 : Int32) 16 (by decide) (by decide)
          have f1470 := rng32 ((((65281 : Int32) + (p2 % (3 : Int32))) &&& (65535 : Int32)).toUInt32.toUInt16.toUInt32.toInt32)
          have f1471 := c_i2c (((65281 : Int32) + (p2 % (3 : Int32))) &&& (65535 : Int32))
          have f1472 : (65536 : Int32).toInt = 65536 := rfl
          have g1473 := hc212
          rw [← Int32.toInt_inj] at g1473
          have g1474 := hc879
          rw [← Int32.toInt_inj] at g1474
          have g1475 := hs945
          rw [← Int32.toInt_inj] at g1475
          omega
        exact tailSTRICT _ _ _ _ ((((65281 : Int32) + (p2 % (3 : Int32))) &&& (65535 : Int32)).toUInt32.toUInt16.toUInt32.toInt32) _ _ (One.val rfl) (One.val rfl) X942 N942 (by rw [e942]; exact K944) (by decide) (by decide) hv1409 hv1442
      · rw [hs945]
        show own_E p e below _ T942 (mkF m 117 #[iv p1, iv p2, iv p3, rv aSTRICT, iv 1, .unset, rv b915, .unset, .unset] [.int 8, .ref b915])
        refine own_st (own_ald X942 hx hZ e942 V942 (j := (8 : Int32)) ⟨by decide, by decide⟩ (v := (.int (65374 : Int32))) rfl (g := (mkF m 117 #[iv p1, iv p2, iv p3, rv aSTRICT, iv 1, .unset, rv b915, .unset, .unset] [.int 8, .ref b915])) rfl rfl (hb hby at_117)) ?_
        show own_E p e below _ T942 (mkF m 118 #[iv p1, iv p2, iv p3, rv aSTRICT, iv 1, .unset, rv b915, .unset, .unset] [.int 65374])
        refine own_st (fun t k => XS.istore X942.here hx rfl (hb hby at_118) rfl (l' := #[iv p1, iv p2, iv p3, rv aSTRICT, iv 1, .unset, rv b915, iv 65374, .unset]) rfl k) ?_
        show own_E p e below _ T942 (mkF m 120 #[iv p1, iv p2, iv p3, rv aSTRICT, iv 1, .unset, rv b915, iv 65374, .unset] [])
        refine own_st (fun t k => XS.iload X942.here hx rfl (hb hby at_120) rfl k) ?_
        show own_E p e below _ T942 (mkF m 122 #[iv p1, iv p2, iv p3, rv aSTRICT, iv 1, .unset, rv b915, iv 65374, .unset] [.int 65374])
        refine own_st (fun t k => XS.iloadN X942.here hx rfl (hb hby at_122) rfl k) ?_
        show own_E p e below _ T942 (mkF m 123 #[iv p1, iv p2, iv p3, rv aSTRICT, iv 1, .unset, rv b915, iv 65374, .unset] [.int p2, .int 65374])
        refine own_st (fun t k => XS.iconst X942.here hx rfl (hb hby at_123) k) ?_
        show own_E p e below _ T942 (mkF m 124 #[iv p1, iv p2, iv p3, rv aSTRICT, iv 1, .unset, rv b915, iv 65374, .unset] [.int 3, .int p2, .int 65374])
        refine own_st (fun t k => iremM X942 hx rfl (hb hby at_124) rfl (by decide) k) ?_
        show own_E p e below _ T942 (mkF m 125 #[iv p1, iv p2, iv p3, rv aSTRICT, iv 1, .unset, rv b915, iv 65374, .unset] [.int (p2 % (3 : Int32)), .int 65374])
        refine own_st (fun t k => XS.iadd X942.here hx rfl (hb hby at_125) rfl k) ?_
        show own_E p e below _ T942 (mkF m 126 #[iv p1, iv p2, iv p3, rv aSTRICT, iv 1, .unset, rv b915, iv 65374, .unset] [.int ((65374 : Int32) + (p2 % (3 : Int32)))])
        refine own_st (X942.ldcInt hx hown (mvT hZ (own_w hw 3 rfl)) (g := (mkF m 126 #[iv p1, iv p2, iv p3, rv aSTRICT, iv 1, .unset, rv b915, iv 65374, .unset] [.int ((65374 : Int32) + (p2 % (3 : Int32)))])) rfl (hb hby at_126)) ?_
        show own_E p e below _ T942 (mkF m 128 #[iv p1, iv p2, iv p3, rv aSTRICT, iv 1, .unset, rv b915, iv 65374, .unset] [.int 65535, .int ((65374 : Int32) + (p2 % (3 : Int32)))])
        refine own_st (fun t k => XS.iand X942.here hx rfl (hb hby at_128) rfl k) ?_
        show own_E p e below _ T942 (mkF m 129 #[iv p1, iv p2, iv p3, rv aSTRICT, iv 1, .unset, rv b915, iv 65374, .unset] [.int (((65374 : Int32) + (p2 % (3 : Int32))) &&& (65535 : Int32))])
        refine own_st (fun t k => XS.i2c X942.here hx rfl (hb hby at_129) rfl k) ?_
        show own_E p e below _ T942 (mkF m 130 #[iv p1, iv p2, iv p3, rv aSTRICT, iv 1, .unset, rv b915, iv 65374, .unset] [.int ((((65374 : Int32) + (p2 % (3 : Int32))) &&& (65535 : Int32)).toUInt32.toUInt16.toUInt32.toInt32)])
        refine own_st (fun t k => XS.istore X942.here hx rfl (hb hby at_130) rfl (l' := #[iv p1, iv p2, iv p3, rv aSTRICT, iv 1, iv ((((65374 : Int32) + (p2 % (3 : Int32))) &&& (65535 : Int32)).toUInt32.toUInt16.toUInt32.toInt32), rv b915, iv 65374, .unset]) rfl k) ?_
        show own_E p e below _ T942 (mkF m 132 #[iv p1, iv p2, iv p3, rv aSTRICT, iv 1, iv ((((65374 : Int32) + (p2 % (3 : Int32))) &&& (65535 : Int32)).toUInt32.toUInt16.toUInt32.toInt32), rv b915, iv 65374, .unset] [])
        have hv1476 : ¬ (((((65374 : Int32) + (p2 % (3 : Int32))) &&& (65535 : Int32)).toUInt32.toUInt16.toUInt32.toInt32) < (0 : Int32)) := by
          rw [Int32.lt_iff_toInt_lt]
          have f1477 := rng32 p3
          have f1478 : (1 : Int32).toInt = 1 := rfl
          have f1479 := rng32 (p3 &&& (1 : Int32))
          have f1480 : (p3 &&& (1 : Int32)).toInt = p3.toInt % 2 := c_mask p3 (1 : Int32) 1 (by decide) (by decide)
          have f1481 : (0 : Int32).toInt = 0 := rfl
          have f1482 := rng32 p1
          have f1483 := rng32 (p1 &&& (1 : Int32))
          have f1484 : (p1 &&& (1 : Int32)).toInt = p1.toInt % 2 := c_mask p1 (1 : Int32) 1 (by decide) (by decide)
          have f1485 := rng32 ((p1.toUInt32 >>> ((1 : Int32) &&& 31).toUInt32).toInt32)
          have f1486 : ((p1.toUInt32 >>> ((1 : Int32) &&& 31).toUInt32).toInt32).toInt = (p1.toInt % 4294967296) / 2 := c_iushr p1 (1 : Int32) 1 (by decide) (by decide)
          have f1487 : (2147483647 : Int32).toInt = 2147483647 := rfl
          have f1488 := rng32 (((p1.toUInt32 >>> ((1 : Int32) &&& 31).toUInt32).toInt32) &&& (2147483647 : Int32))
          have f1489 : (((p1.toUInt32 >>> ((1 : Int32) &&& 31).toUInt32).toInt32) &&& (2147483647 : Int32)).toInt = ((p1.toUInt32 >>> ((1 : Int32) &&& 31).toUInt32).toInt32).toInt % 2147483648 := c_mask ((p1.toUInt32 >>> ((1 : Int32) &&& 31).toUInt32).toInt32) (2147483647 : Int32) 31 (by decide) (by decide)
          have f1490 : (9 : Int32).toInt = 9 := rfl
          have f1491 := rng32 ((((p1.toUInt32 >>> ((1 : Int32) &&& 31).toUInt32).toInt32) &&& (2147483647 : Int32)) % (9 : Int32))
          have f1492 := c_irem (((p1.toUInt32 >>> ((1 : Int32) &&& 31).toUInt32).toInt32) &&& (2147483647 : Int32)) (9 : Int32) 9 rfl
          have f1493 : (8 : Int32).toInt = 8 := rfl
          have f1494 : (65374 : Int32).toInt = 65374 := rfl
          have f1495 := rng32 p2
          have f1496 : (3 : Int32).toInt = 3 := rfl
          have f1497 := rng32 (p2 % (3 : Int32))
          have f1498 := c_irem p2 (3 : Int32) 3 rfl
          have f1499 := rng32 ((65374 : Int32) + (p2 % (3 : Int32)))
          have f1500 : ((65374 : Int32) + (p2 % (3 : Int32))).toInt = (65374 : Int32).toInt + (p2 % (3 : Int32)).toInt := by have h := c_iadd (65374 : Int32) (p2 % (3 : Int32)); omega
          have f1501 : (65535 : Int32).toInt = 65535 := rfl
          have f1502 := rng32 (((65374 : Int32) + (p2 % (3 : Int32))) &&& (65535 : Int32))
          have f1503 : (((65374 : Int32) + (p2 % (3 : Int32))) &&& (65535 : Int32)).toInt = ((65374 : Int32) + (p2 % (3 : Int32))).toInt % 65536 := c_mask ((65374 : Int32) + (p2 % (3 : Int32))) (65535 : Int32) 16 (by decide) (by decide)
          have f1504 := rng32 ((((65374 : Int32) + (p2 % (3 : Int32))) &&& (65535 : Int32)).toUInt32.toUInt16.toUInt32.toInt32)
          have f1505 := c_i2c (((65374 : Int32) + (p2 % (3 : Int32))) &&& (65535 : Int32))
          have g1506 := hc212
          rw [← Int32.toInt_inj] at g1506
          have g1507 := hc879
          rw [← Int32.toInt_inj] at g1507
          have g1508 := hs945
          rw [← Int32.toInt_inj] at g1508
          omega
        have hv1509 : ((((65374 : Int32) + (p2 % (3 : Int32))) &&& (65535 : Int32)).toUInt32.toUInt16.toUInt32.toInt32) < (65536 : Int32) := by
          rw [Int32.lt_iff_toInt_lt]
          have f1510 := rng32 p3
          have f1511 : (1 : Int32).toInt = 1 := rfl
          have f1512 := rng32 (p3 &&& (1 : Int32))
          have f1513 : (p3 &&& (1 : Int32)).toInt = p3.toInt % 2 := c_mask p3 (1 : Int32) 1 (by decide) (by decide)
          have f1514 : (0 : Int32).toInt = 0 := rfl
          have f1515 := rng32 p1
          have f1516 := rng32 (p1 &&& (1 : Int32))
          have f1517 : (p1 &&& (1 : Int32)).toInt = p1.toInt % 2 := c_mask p1 (1 : Int32) 1 (by decide) (by decide)
          have f1518 := rng32 ((p1.toUInt32 >>> ((1 : Int32) &&& 31).toUInt32).toInt32)
          have f1519 : ((p1.toUInt32 >>> ((1 : Int32) &&& 31).toUInt32).toInt32).toInt = (p1.toInt % 4294967296) / 2 := c_iushr p1 (1 : Int32) 1 (by decide) (by decide)
          have f1520 : (2147483647 : Int32).toInt = 2147483647 := rfl
          have f1521 := rng32 (((p1.toUInt32 >>> ((1 : Int32) &&& 31).toUInt32).toInt32) &&& (2147483647 : Int32))
          have f1522 : (((p1.toUInt32 >>> ((1 : Int32) &&& 31).toUInt32).toInt32) &&& (2147483647 : Int32)).toInt = ((p1.toUInt32 >>> ((1 : Int32) &&& 31).toUInt32).toInt32).toInt % 2147483648 := c_mask ((p1.toUInt32 >>> ((1 : Int32) &&& 31).toUInt32).toInt32) (2147483647 : Int32) 31 (by decide) (by decide)
          have f1523 : (9 : Int32).toInt = 9 := rfl
          have f1524 := rng32 ((((p1.toUInt32 >>> ((1 : Int32) &&& 31).toUInt32).toInt32) &&& (2147483647 : Int32)) % (9 : Int32))
          have f1525 := c_irem (((p1.toUInt32 >>> ((1 : Int32) &&& 31).toUInt32).toInt32) &&& (2147483647 : Int32)) (9 : Int32) 9 rfl
          have f1526 : (8 : Int32).toInt = 8 := rfl
          have f1527 : (65374 : Int32).toInt = 65374 := rfl
          have f1528 := rng32 p2
          have f1529 : (3 : Int32).toInt = 3 := rfl
          have f1530 := rng32 (p2 % (3 : Int32))
          have f1531 := c_irem p2 (3 : Int32) 3 rfl
          have f1532 := rng32 ((65374 : Int32) + (p2 % (3 : Int32)))
          have f1533 : ((65374 : Int32) + (p2 % (3 : Int32))).toInt = (65374 : Int32).toInt + (p2 % (3 : Int32)).toInt := by have h := c_iadd (65374 : Int32) (p2 % (3 : Int32)); omega
          have f1534 : (65535 : Int32).toInt = 65535 := rfl
          have f1535 := rng32 (((65374 : Int32) + (p2 % (3 : Int32))) &&& (65535 : Int32))
          have f1536 : (((65374 : Int32) + (p2 % (3 : Int32))) &&& (65535 : Int32)).toInt = ((65374 : Int32) + (p2 % (3 : Int32))).toInt % 65536 := c_mask ((65374 : Int32) + (p2 % (3 : Int32))) (65535 : Int32) 16 (by decide) (by decide)
          have f1537 := rng32 ((((65374 : Int32) + (p2 % (3 : Int32))) &&& (65535 : Int32)).toUInt32.toUInt16.toUInt32.toInt32)
          have f1538 := c_i2c (((65374 : Int32) + (p2 % (3 : Int32))) &&& (65535 : Int32))
          have f1539 : (65536 : Int32).toInt = 65536 := rfl
          have g1540 := hc212
          rw [← Int32.toInt_inj] at g1540
          have g1541 := hc879
          rw [← Int32.toInt_inj] at g1541
          have g1542 := hs945
          rw [← Int32.toInt_inj] at g1542
          omega
        exact tailSTRICT _ _ _ _ ((((65374 : Int32) + (p2 % (3 : Int32))) &&& (65535 : Int32)).toUInt32.toUInt16.toUInt32.toInt32) _ _ (One.val rfl) (One.val rfl) X942 N942 (by rw [e942]; exact K944) (by decide) (by decide) hv1476 hv1509
set_option maxRecDepth 65536 in
set_option maxHeartbeats 40000000 in
theorem comes_1 {Post : Tables → Env → Array Value → State → Outcome → State → Prop} (hpost : ∀ tb e args s v u, (limb_1_1.after args s (.returned v) u = true ∧ limb_1_2.after args s (.returned v) u = true ∧ True) → FrameEnd s (.returned v) u (Jvm.fieldLocs frame_1_writes args s ++ Jvm.arrayLocs frame_1_arrays args s ++ Jvm.staticLocs frame_1_statics s) 16 128 → Post tb e args s (.returned v) u) :
    ArmFor flags0 classFile x code maxLocals ret World_1 tables_1 room_1 Calls_1 rest_1 Pre_1 Post := by
  intro l hfl _ _ p e ha hc hk s m args below hf hA hF happ hP
  obtain ⟨hcalls, hrest, hpre⟩ := hP
  obtain ⟨-, -, -, hnamed, -, -, -, hat⟩ := (Spec.applies_iff hf).mp happ
  obtain ⟨hg, hn⟩ := and_e (Cond.before_iff.mp (show (Jvm.Cond.and given_1 narrow_1).before args s = true from hpre))
  obtain ⟨hg0, hg1⟩ := and_e hg
  obtain ⟨hv0, hg2⟩ := and_e hg1
  obtain ⟨hv1, hg3⟩ := and_e hg2
  have hv2 := hg3
  obtain ⟨w0, w1, w2, rfl⟩ : ∃ w0 w1 w2 : Value, args = #[w0, w1, w2] := by
    have hs : args.size = 3 := by simpa [Cond.value, given_1] using hg0
    obtain ⟨L⟩ := args
    match L, hs with
    | [w0, w1, w2], _ => exact ⟨w0, w1, w2, rfl⟩
  have hw := fun d (hd : d ∈ tables_1) => atoms_spec (ws := Jvm.Cond.code x code maxLocals ret :: tables_1) hat d (List.mem_cons_of_mem _ hd)
  have hfit : Fit s := fun {y c} hc i hi => by
    obtain ⟨ha, rfl⟩ := Array.getElem?_eq_some_iff.mp hc
    have q := List.all_eq_true.mp ((Array.all_eq_true_iff_forall_mem.mp hF) _ (Array.getElem_mem ha)) i (List.mem_range.mpr hi)
    simpa [Array.getElem?_eq_getElem hi] using q
  obtain ⟨i0, ev0⟩ := is_v hv0
  obtain rfl : w0 = (.int i0) := Option.some.inj ev0
  obtain ⟨i1, ev1⟩ := is_v hv1
  obtain rfl : w1 = (.int i1) := Option.some.inj ev1
  obtain ⟨i2, ev2⟩ := is_v hv2
  obtain rfl : w2 = (.int i2) := Option.some.inj ev2
  obtain ⟨hp0, hq0⟩ := and_e hn
  obtain ⟨hp1, hq1⟩ := and_e hq0
  obtain ⟨hp2, hq2⟩ := and_e hq1
  have hp3 := hq2
  obtain ⟨aLENIENT, evLENIENT⟩ := exa_v hp0
  have S_LENIENT := Sta.start evLENIENT (Or.inr ⟨(own_w hw 1 rfl), (own_w hw 2 rfl)⟩)
  have E_LENIENT := Exa.start evLENIENT hp0
  obtain ⟨aSTRICT, evSTRICT⟩ := exa_v hp1
  have S_STRICT := Sta.start evSTRICT (Or.inr ⟨(own_w hw 1 rfl), (own_w hw 11 rfl)⟩)
  have E_STRICT := Exa.start evSTRICT hp1
  have O_LENIENT := Fld.start (own_eqi evLENIENT hp2)
  have O_STRICT := Fld.start (own_eqi evSTRICT hp3)
  have ne_LENIENT_STRICT : ¬ aLENIENT = aSTRICT := Fld.ne O_LENIENT O_STRICT (by decide)
  obtain ⟨n, o, h1, h2, h3, _, L, rfl, ⟨rfl, N⟩, hq⟩ := own_law l s _ hw tables_1 aLENIENT aSTRICT i0 i1 i2 s.heap s.heap.size (Nat.le_refl _) S_LENIENT S_STRICT E_LENIENT E_STRICT ne_LENIENT_STRICT p e ha hc hk s m _ below hf ((Spec.applies_iff_loose hf).mp happ).1 ⟨rfl, State.Warmed39.refl s, rfl⟩ trivial
  refine ⟨n, _, h1, h2, h3, hpost _ _ _ _ _ _ ⟨Cond.after_iff.mpr rfl, Cond.after_iff.mpr (eq_i res_at (Term.int_eval (1)) rfl), trivial⟩ ⟨hq.1, hq.2.1, (hq.2.2.sift fun y hy => Or.inr (N y hy)).mono (by decide) (by decide)⟩⟩
theorem main_1_1 : Claimed_1_1 := comes_1 fun _ _ _ _ _ _ h hF => ⟨h.1, hF⟩
theorem main_1_2 : Claimed_1_2 := comes_1 fun _ _ _ _ _ _ h hF => ⟨h.2.1, hF⟩
end Jvm.Pilot.@@N@@
namespace Jvm.Pilot.@@N@@
open Jvm Jvm.ClassFile Sem Op Lib Jvm.Free Jvm.Stand Jvm.Pilot.@@N@@.Jvm.D
/-! MADE BY PROGRAM (witnessworld.py) out of the Statement's table words and the real class files: 12 classes; the members and pool entries that the words name. The judged class is class 1, her method 1. -/
namespace start1
open Jvm.ClassFile
def u (s : String) : CpInfo := .utf8 (stringToUtf16 s)
/-- a pool by its gaps: so many unusable entries, then the entry; so many at the end -/
def gap : Nat → List CpInfo → List CpInfo
  | 0, r => r
  | n + 1, r => .unusable :: gap n r
def poolList (es : List (Nat × CpInfo)) (last : Nat) : List CpInfo := es.foldr (fun e r => gap e.1 (e.2 :: r)) (gap last [])
def pool (es : List (Nat × CpInfo)) (last : Nat) : Array CpInfo := ⟨poolList es last⟩
def fileOf (pool : Array CpInfo) (this : Nat) (attrs : Array Attribute := #[]) (ms : Array MethodInfo := #[]) (fl : Nat := 33) (sup : Nat := 0) (ifs : Array Nat := #[]) (fds : Array FieldInfo := #[]) : ClassFile where
  minorVersion := 0
  majorVersion := 65
  constantPool := pool
  accessFlags := fl
  thisClass := this
  superClass := sup
  interfaces := ifs
  fields := fds
  methods := ms
  attributes := attrs
def plain (name : String) (sup : Option ClassId) : Class where
  name := name
  kind := .ordinary
  loader := none
  accessFlags := 33
  super := sup
  interfaces := #[]
  cf := none
  fields := #[]
  methods := #[]
  instanceTypes := #[]
  staticTypes := #[]
  resolved := #[]
  callSites := []
  init := .initialized
  statics := none
  mirror := none

def pool0 : Array CpInfo := pool [(5, u "<init>"), (0, u "()V"), (1, .class_ 10), (1, u "java/lang/Object")] 113

def k0m0 : Method := { name := "<init>", desc := "()V", sig := { parameters := [], returnType := none }, accessFlags := 1, code := none }
/-- java/lang/Object -/
def k0 : Class := { plain "java/lang/Object" none with
  accessFlags := 33
  interfaces := #[]
  cf := some (fileOf pool0 8 #[] #[{ accessFlags := 1, nameIndex := 5, descriptorIndex := 6, attributes := #[] }] 33 0 #[] #[])
  fields := #[]
  methods := #[k0m0]
  instanceTypes := #[]
  staticTypes := #[]
  resolved := Array.replicate 124 none
  statics := none }

def pool1 : Array CpInfo := pool [(2, .class_ 4), (1, u "java/lang/Object"), (0, u "<init>"), (0, u "()V"), (0, .fieldref 8 9), (0, .class_ 10), (0, .nameAndType 11 12), (0, u "serialis/text/Reading"), (0, u "STRICT"), (0, u "Lserialis/text/Reading;"), (0, .fieldref 8 14), (0, .nameAndType 15 12), (0, u "LENIENT"), (0, .integer 65535), (0, .integer 65281), (0, .integer 65374), (0, .integer 2147483647), (0, .integer 65248), (0, .methodref 8 22), (0, .nameAndType 23 24), (0, u "fold"), (0, u "(C)C"), (0, .class_ 26), (0, u "serialis/text/ReadingFoldPinLaw"), (2, u "law"), (0, u "(III)Z")] 3

def k1m0 : Method := { name := "<init>", desc := "()V", sig := { parameters := [], returnType := none }, accessFlags := 1, code := none }
def k1c1 : Code := { maxStack := 4, maxLocals := 9, code := code, exceptionTable := #[], attributes := #[] }
def k1m1 : Method := { name := "law", desc := "(III)Z", sig := { parameters := [.int, .int, .int], returnType := some .boolean }, accessFlags := 9, code := some k1c1 }
/-- serialis/text/ReadingFoldPinLaw -/
def k1 : Class := { plain "serialis/text/ReadingFoldPinLaw" (some 0) with
  accessFlags := 49
  interfaces := #[]
  cf := some (fileOf pool1 25 #[] #[{ accessFlags := 1, nameIndex := 5, descriptorIndex := 6, attributes := #[] }, { accessFlags := 9, nameIndex := 29, descriptorIndex := 30, attributes := #[] }] 49 2 #[] #[])
  fields := #[]
  methods := #[k1m0, k1m1]
  instanceTypes := #[]
  staticTypes := #[]
  resolved := Array.replicate 34 none
  statics := none }

def pool2 : Array CpInfo := pool [(1, .class_ 2), (0, u "java/lang/constant/Constable"), (0, .class_ 4), (0, u "java/lang/Object")] 6

/-- java/lang/constant/Constable -/
def k2 : Class := { plain "java/lang/constant/Constable" (some 0) with
  accessFlags := 1537
  interfaces := #[]
  cf := some (fileOf pool2 1 #[] #[] 1537 3 #[] #[])
  fields := #[]
  methods := #[]
  instanceTypes := #[]
  staticTypes := #[]
  resolved := Array.replicate 11 none
  statics := none }

def pool3 : Array CpInfo := pool [(1, .class_ 2), (0, u "java/lang/Comparable"), (0, .class_ 4), (0, u "java/lang/Object")] 7

/-- java/lang/Comparable -/
def k3 : Class := { plain "java/lang/Comparable" (some 0) with
  accessFlags := 1537
  interfaces := #[]
  cf := some (fileOf pool3 1 #[] #[] 1537 3 #[] #[])
  fields := #[]
  methods := #[]
  instanceTypes := #[]
  staticTypes := #[]
  resolved := Array.replicate 12 none
  statics := none }

def pool4 : Array CpInfo := pool [(1, .class_ 2), (0, u "java/io/Serializable"), (0, .class_ 4), (0, u "java/lang/Object")] 2

/-- java/io/Serializable -/
def k4 : Class := { plain "java/io/Serializable" (some 0) with
  accessFlags := 1537
  interfaces := #[]
  cf := some (fileOf pool4 1 #[] #[] 1537 3 #[] #[])
  fields := #[]
  methods := #[]
  instanceTypes := #[]
  staticTypes := #[]
  resolved := Array.replicate 7 none
  statics := none }

def pool5 : Array CpInfo := pool [(2, .class_ 4), (1, u "java/lang/Enum"), (0, u "name"), (0, u "Ljava/lang/String;"), (2, u "ordinal"), (0, u "I"), (1, .class_ 14), (1, u "java/lang/Object"), (4, u "hash"), (86, .class_ 108), (1, u "java/lang/Enum$EnumDesc"), (2, .class_ 112), (0, u "java/lang/constant/Constable"), (0, .class_ 114), (0, u "java/lang/Comparable"), (0, .class_ 116), (0, u "java/io/Serializable")] 87

/-- java/lang/Enum -/
def k5 : Class := { plain "java/lang/Enum" (some 0) with
  accessFlags := 1057
  interfaces := #[2, 3, 4]
  cf := some (fileOf pool5 2 #[.nestMembers #[106]] #[] 1057 12 #[111, 113, 115] #[{ accessFlags := 18, nameIndex := 5, descriptorIndex := 6, attributes := #[] }, { accessFlags := 18, nameIndex := 9, descriptorIndex := 10, attributes := #[] }, { accessFlags := 2, nameIndex := 19, descriptorIndex := 10, attributes := #[] }])
  fields := #[{ name := "name", type := (.object "java/lang/String"), accessFlags := 18, slot := 0, constantValue := 0 }, { name := "ordinal", type := .int, accessFlags := 18, slot := 1, constantValue := 0 }, { name := "hash", type := .int, accessFlags := 2, slot := 2, constantValue := 0 }]
  methods := #[]
  instanceTypes := #[(.object "java/lang/String"), .int, .int]
  staticTypes := #[]
  resolved := Array.replicate 204 none
  statics := none }

def pool6 : Array CpInfo := pool [(1, .class_ 2), (0, u "serialis/text/Reading"), (2, u "LENIENT"), (0, u "Lserialis/text/Reading;"), (0, .fieldref 1 8), (0, .nameAndType 9 6), (0, u "STRICT"), (2, u "$VALUES"), (0, u "[Lserialis/text/Reading;"), (6, .class_ 22), (1, u "java/lang/Enum"), (6, .integer 65281), (0, .integer 65374), (12, u "fold"), (0, u "(C)C"), (49, u "FIRST_DIGITS"), (0, u "I"), (2, u "LAST_DIGITS")] 20

def k6c0 : Code := { maxStack := 2, maxLocals := 2, code := prog_34_method_4_code, exceptionTable := #[], attributes := #[] }
def k6m0 : Method := { name := "fold", desc := "(C)C", sig := { parameters := [.char], returnType := some .char }, accessFlags := 1, code := some k6c0 }
/-- serialis/text/Reading -/
def k6 : Class := { plain "serialis/text/Reading" (some 5) with
  accessFlags := 16433
  interfaces := #[]
  cf := some (fileOf pool6 1 #[] #[{ accessFlags := 1, nameIndex := 43, descriptorIndex := 44, attributes := #[] }] 16433 20 #[] #[{ accessFlags := 16409, nameIndex := 5, descriptorIndex := 6, attributes := #[] }, { accessFlags := 16409, nameIndex := 9, descriptorIndex := 6, attributes := #[] }, { accessFlags := 26, nameIndex := 94, descriptorIndex := 95, attributes := #[] }, { accessFlags := 26, nameIndex := 98, descriptorIndex := 95, attributes := #[] }, { accessFlags := 4122, nameIndex := 12, descriptorIndex := 13, attributes := #[] }])
  fields := #[{ name := "LENIENT", type := (.object "serialis/text/Reading"), accessFlags := 16409, slot := 0, constantValue := 0 }, { name := "STRICT", type := (.object "serialis/text/Reading"), accessFlags := 16409, slot := 1, constantValue := 0 }, { name := "FIRST_DIGITS", type := .int, accessFlags := 26, slot := 2, constantValue := 0 }, { name := "LAST_DIGITS", type := .int, accessFlags := 26, slot := 3, constantValue := 0 }, { name := "$VALUES", type := (.array (.object "serialis/text/Reading")), accessFlags := 4122, slot := 4, constantValue := 0 }]
  methods := #[k6m0]
  instanceTypes := #[(.object "java/lang/String"), .int, .int]
  staticTypes := #[(.object "serialis/text/Reading"), (.object "serialis/text/Reading"), .int, .int, (.array (.object "serialis/text/Reading"))]
  resolved := Array.replicate 119 none
  statics := some 0 }

def pool7 : Array CpInfo := pool [(1, u "java/lang/Cloneable"), (0, .class_ 1), (0, u "java/lang/Object"), (0, .class_ 3)] 3

/-- java/lang/Cloneable -/
def k7 : Class := { plain "java/lang/Cloneable" (some 0) with
  accessFlags := 1537
  interfaces := #[]
  cf := some (fileOf pool7 2 #[] #[] 1537 4 #[] #[])
  fields := #[]
  methods := #[]
  instanceTypes := #[]
  staticTypes := #[]
  resolved := Array.replicate 8 none
  statics := none }

/-- the primitive byte -/
def k8 : Class := { plain "byte" none with kind := .primitive 'B', accessFlags := 0x411 }
/-- [B -/
def k9 : Class := { plain "[B" (some 0) with kind := .array 8 .byte, interfaces := #[7, 4], accessFlags := 1041 }

/-- the primitive int -/
def k10 : Class := { plain "int" none with kind := .primitive 'I', accessFlags := 0x411 }
/-- [I -/
def k11 : Class := { plain "[I" (some 0) with kind := .array 10 .int, interfaces := #[7, 4], accessFlags := 1041 }

def heap : Heap := #[{ cls := 6, slots := #[.ref 1, .ref 2, .int 0, .int 0, .null], vm := .statics 6 },
  { cls := 6, slots := #[.null, .int 0, .int 0], vm := .none },
  { cls := 6, slots := #[.null, .int 1, .int 0], vm := .none }]
def classes : Array Class := #[k0, k1, k2, k3, k4, k5, k6, k7, k8, k9, k10, k11]
def interned : List (Array UInt16 × Addr) := []
def slotsUsed : Nat := 11
def theMethod : MethodId := ⟨1, 1⟩
def args0 : Array Value := #[.int 1, .int 2, .int 3]
def aboutOver (below : List Frame) : State where
  vm := { classes := classes, interned := interned.toArray }
  heap := heap
  slotsUsed := slotsUsed
  threads := #[{ frames := .invoking theMethod args0 :: below }]
def below0 : List Frame := [.native { method := ⟨0, 0⟩, args := #[] }]
def about1 : State := aboutOver below0
def p0 : Program := .bare "" "" ""
def e0 : Env := launch0.env 0 0 0
theorem w_frames : about1.frames = Frame.invoking theMethod args0 :: below0 := rfl
set_option maxRecDepth 65536 in
theorem w_args : argsFit about1.vm theMethod args0 = true := by decide +kernel
set_option maxRecDepth 65536 in
theorem w_heap : heapFits about1 = true := by decide +kernel
set_option maxRecDepth 65536 in
theorem w_runnable : about1.curStatus? = some .runnable := by decide +kernel
set_option maxRecDepth 65536 in
theorem w_alone : about1.alone = true := by decide +kernel
set_option maxRecDepth 65536 in
theorem w_named : about1.methodNamed? x = some theMethod := by decide +kernel
set_option maxRecDepth 65536 in
theorem w_hears : about1.hears theMethod below0 = true := by decide +kernel
set_option maxRecDepth 65536 in
theorem w_ripe : about1.ripe theMethod args0 below0 = true := by decide +kernel
theorem w_running : about1.status = .running := rfl
set_option maxRecDepth 65536 in
theorem w_room : about1.hasRoom e0.platform room_1 = true :=
  launch0.hasRoom_least _ room_1 (by decide +kernel) (by decide +kernel) (by decide +kernel) (by decide +kernel) (by decide +kernel) (by decide +kernel)
theorem allAtoms_all (ts : List Jvm.Cond) (a : Array Jvm.Value) (st : Jvm.State) : (allAtoms ts).before a st = ts.all (fun c => c.before a st) := by
  induction ts with
  | nil => rfl
  | cons c t ih =>
    show (Jvm.Cond.and c (allAtoms t)).before a st = _
    rw [Jvm.Cond.before_and, ih, List.all_cons]
def words1 : List Jvm.Cond := Jvm.Cond.code x code maxLocals ret :: tables_1
/-- a 'code' word, met by the world's own term for the bytes: nothing is compared byte by byte -/
theorem code_word {y : MethodName} {bytes : ByteArray} {mx : Nat} {rt : Option FieldType} {a : Array Value} {s : State} {m : MethodId} {meth : Method} {c : Code} (h1 : s.methodNamed? y = some m) (h2 : s.vm.method? m = some meth) (h3 : meth.code = some c) (h4 : c.code = bytes)
    (h5 : (c.maxLocals == mx && c.exceptionTable.isEmpty && decide (c.maxStack ≤ mostOperands) && decide (meth.sig.returnType = rt) && !meth.locks && decide (parseMethodDescriptor y.desc = some meth.sig)) = true) : (Jvm.Cond.code y bytes mx rt).before a s = true := by
  simp only [Bool.and_eq_true, beq_iff_eq, Bool.not_eq_true', decide_eq_true_eq] at h5
  obtain ⟨⟨⟨⟨⟨g1, g2⟩, g3⟩, g4⟩, g5⟩, g6⟩ := h5
  simp [Cond.before, Cond.holds, Cond.value, h1, h2, h3, h4, g1, g2, g3, g4, g5, g6]
def isCode : Jvm.Cond → Bool
  | .code _ _ _ _ => true
  | _ => false
theorem all_split {L : List Jvm.Cond} {P : Jvm.Cond → Bool} (h1 : L.all (fun c => isCode c || P c) = true) (h2 : ∀ c ∈ L.filter isCode, P c = true) : L.all P = true := by
  refine List.all_eq_true.mpr fun c hc => ?_
  have h := List.all_eq_true.mp h1 c hc
  rcases Bool.eq_false_or_eq_true (isCode c) with hi | hi
  · exact h2 c (List.mem_filter.mpr ⟨hc, hi⟩)
  · simpa [hi] using h
set_option maxRecDepth 65536 in
theorem w_c0 : (Jvm.Cond.code x code maxLocals ret).before args0 about1 = true := code_word (m := ⟨1, 1⟩) (meth := k1m1) (c := k1c1) (by decide +kernel) rfl rfl rfl (by decide +kernel)
set_option maxRecDepth 65536 in
theorem w_c1 : (Jvm.Cond.code ({ cls := "serialis/text/Reading", name := "fold", desc := "(C)C" } : Jvm.MethodName) prog_34_method_4_code (2 : Nat) (Option.some Jvm.ClassFile.FieldType.char)).before args0 about1 = true := code_word (m := ⟨6, 0⟩) (meth := k6m0) (c := k6c0) (by decide +kernel) rfl rfl rfl (by decide +kernel)
def codes1 : List Jvm.Cond := [Jvm.Cond.code x code maxLocals ret, Jvm.Cond.code ({ cls := "serialis/text/Reading", name := "fold", desc := "(C)C" } : Jvm.MethodName) prog_34_method_4_code (2 : Nat) (Option.some Jvm.ClassFile.FieldType.char)]
set_option maxRecDepth 65536 in
theorem codes_eq : words1.filter isCode = codes1 := rfl
theorem w_codes : ∀ c ∈ words1.filter isCode, c.before args0 about1 = true := by
  rw [codes_eq]
  intro c hc
  simp only [codes1, List.mem_cons, List.not_mem_nil, or_false] at hc
  rcases hc with rfl | rfl
  · exact w_c0
  · exact w_c1
set_option maxRecDepth 65536 in
theorem w_t1 : words1.all (fun c => isCode c || c.before args0 about1) = true := by decide +kernel
theorem w_tables : (allAtoms (Jvm.Cond.code x code maxLocals ret :: tables_1)).before args0 about1 = true := by
  rw [allAtoms_all]
  show words1.all (fun c => c.before args0 about1) = true
  refine all_split ?_ w_codes
  rw [w_t1]
set_option maxRecDepth 65536 in
theorem w_case : (Jvm.Cond.and given_1 narrow_1).before args0 about1 = true := by decide +kernel
theorem w_applies : (headSpec (Jvm.Cond.code x code maxLocals ret :: tables_1) room_1).applies x e0.platform about1 = true :=
  (Spec.applies_iff w_frames).mpr ⟨w_running, w_runnable, w_alone, w_named, w_hears, w_ripe, w_room, w_tables⟩
theorem atStart : AtStart classFile x code maxLocals ret World_1 tables_1 room_1 Calls_1 rest_1 Pre_1 launch0 p0 e0 about1 theMethod args0 below0 :=
  ⟨lists_1, trivial, launch0.admits_env _ _ _, launch0.least_env, fairChoices_fair.cas, fairChoices_fair.clock, w_frames, w_args, w_heap, w_applies, trivial, trivial, w_case⟩
end start1
theorem witness_1 : WitnessClaimed_1 := ⟨start1.p0, start1.e0, start1.about1, start1.theMethod, start1.args0, start1.below0, start1.atStart⟩
end Jvm.Pilot.@@N@@
