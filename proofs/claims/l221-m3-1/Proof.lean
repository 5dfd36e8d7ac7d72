import JvmDerived
import JvmDerived.Pilot.@@N@@Statement
import JvmDerived.Pilot.@@N@@Code
set_option linter.unusedVariables false
set_option linter.unusedSimpArgs false
namespace Jvm.Pilot.@@N@@
open Jvm Jvm.ClassFile Sem Op Lib Jvm.Free Jvm.Stand Jvm.LawKit Jvm.RoadKit Bundle Jvm.Pilot.@@N@@.Jvm.D
theorem own_w {a0 : Array Value} {Z : State} (hw : ∀ d ∈ tables_1, d.before a0 Z = true) (i : Nat) {d : Jvm.Cond} (h : tables_1[i]? = some d) : d.before a0 Z = true := hw d (List.mem_of_getElem? h)
section Own
variable {p : Program} {l : Launch} {e : Env} {R : Room} {s : State} {m : MethodId} {args : Array Value} {below : List Frame} {meth : Method} {c : Code} {T T' : State} {locs : List Loc} {cells slots : Nat} {g g' : JFrame} {K : Outcome → State → Prop} {Q : Option Value → Heap → List Loc → Prop} {kc ks : Nat}
/-- from this state, with this frame on top, the run comes to an end at which K holds -/
def own_E (p : Program) (e : Env) (below : List Frame) (K : Outcome → State → Prop) (T : State) (g : JFrame) : Prop :=
  ∃ s₂ o, Steps p.tables e below (T.setTop g) s₂ ∧ s₂.status = .running ∧ Ended s₂ below o ∧ K o s₂
def own_K (Q : Option Value → Heap → List Loc → Prop) (s : State) (kc ks : Nat) : Outcome → State → Prop :=
  fun o U' => ∃ v L, o = .returned v ∧ Q v U'.heap L ∧ FrameEnd s o U' L kc ks
theorem own_st (st : ∀ t, Steps p.tables e below (T'.setTop g') t → Steps p.tables e below (T.setTop g) t) (k : own_E p e below K T' g') : own_E p e below K T g := by
  obtain ⟨s2, o, h1, h2⟩ := k
  exact ⟨s2, o, st _ h1, h2⟩
theorem own_tr (st : Steps p.tables e below (T.setTop g) (T'.setTop g')) (k : own_E p e below K T' g') : own_E p e below K T g :=
  own_st (fun _ h => st.trans h) k
theorem own_pre (q : g = g') (k : own_E p e below K T g') : own_E p e below K T g := q ▸ k
theorem own_end (X : Stand p l e R s m args below meth c T locs cells slots) (hlk : meth.locks = false) {v : Option Value} (hv : meth.sig.returnType = none → v = none)
    (hr : ∀ fs : List Frame, (∀ (f : JFrame) (acts : List Action), f.method = m → f.locked = none → f.entered = [] → (doReturn e (T.setTop f) acts v).1 = T.setFrames fs) → Steps p.tables e below (T.setTop g) (T.setFrames fs))
    (hc : cells ≤ kc) (hs : slots ≤ ks) (hQ : Q v T.heap locs) : own_E p e below (own_K Q s kc ks) T g := by
  obtain ⟨fs, h1, hrun, hended, hW, hsame⟩ := X.leave (v := v) hv hlk
  exact ⟨_, _, hr fs h1, hrun, hended, _, _, rfl, hQ, ⟨_, rfl⟩, hW, hsame.mono hc hs⟩
theorem own_retV (X : Stand p l e R s m args below meth c T locs cells slots) (hx : p.tables.exec = Jvm.exec) (hlk : meth.locks = false) {pc : Nat} {Ls : Array Slot} (hret : meth.sig.returnType = none)
    (hd : decode c.code pc = .ok (.return_, 1)) (hc : cells ≤ kc) (hs : slots ≤ ks) (hQ : Q none T.heap locs) : own_E p e below (own_K Q s kc ks) T (mkF m pc Ls []) :=
  own_end X hlk (fun _ => rfl) (fun fs h => X.returnOut hx hret hd h) hc hs hQ
theorem own_retG (X : Stand p l e R s m args below meth c T locs cells slots) (hx : p.tables.exec = Jvm.exec) (hlk : meth.locks = false) {pc : Nat} {Ls : Array Slot} {w : Value} {t : FieldType} {i : Instr} {rest : List Value} (hret : meth.sig.returnType = some t) (hn : narrow t w = w)
    (hi : (i = .ireturn ∧ (t = .int ∨ t = .boolean ∨ t = .byte ∨ t = .char ∨ t = .short) ∧ ∃ z, w = .int z) ∨ (i = .lreturn ∧ t = .long ∧ ∃ z, w = .long z) ∨ (i = .dreturn ∧ t = .double ∧ ∃ z, w = .double z) ∨ (i = .freturn ∧ t = .float ∧ ∃ z, w = .float z) ∨ (i = .areturn ∧ t.isReference = true ∧ w.isRef = true))
    (hd : decode c.code pc = .ok (i, 1)) (hc : cells ≤ kc) (hs : slots ≤ ks) (hQ : Q (some w) T.heap locs) : own_E p e below (own_K Q s kc ks) T (mkF m pc Ls (w :: rest)) :=
  own_end X hlk (fun h => by rw [hret] at h; cases h) (fun fs h => retOut X hx hret hn hi hd h) hc hs hQ
theorem own_retI (X : Stand p l e R s m args below meth c T locs cells slots) (hx : p.tables.exec = Jvm.exec) (hlk : meth.locks = false) {pc : Nat} {Ls : Array Slot} {z : Int32} {rest : List Value} (hret : meth.sig.returnType = some .int)
    (hd : decode c.code pc = .ok (.ireturn, 1)) (hc : cells ≤ kc) (hs : slots ≤ ks) (hQ : Q (some (.int z)) T.heap locs) : own_E p e below (own_K Q s kc ks) T (mkF m pc Ls (.int z :: rest)) :=
  own_retG X hx hlk hret rfl (Or.inl ⟨rfl, Or.inl rfl, z, rfl⟩) hd hc hs hQ
theorem own_retS (X : Stand p l e R s m args below meth c T locs cells slots) (hx : p.tables.exec = Jvm.exec) (hlk : meth.locks = false) {pc : Nat} {Ls : Array Slot} {z : Int32} {t : FieldType} {rest : List Value} (hret : meth.sig.returnType = some t) (hn : narrow t (.int z) = .int z)
    (ht : t = .int ∨ t = .boolean ∨ t = .byte ∨ t = .char ∨ t = .short) (hd : decode c.code pc = .ok (.ireturn, 1)) (hc : cells ≤ kc) (hs : slots ≤ ks) (hQ : Q (some (.int z)) T.heap locs) : own_E p e below (own_K Q s kc ks) T (mkF m pc Ls (.int z :: rest)) :=
  own_retG X hx hlk hret hn (Or.inl ⟨rfl, ht, z, rfl⟩) hd hc hs hQ
theorem own_retN (X : Stand p l e R s m args below meth c T locs cells slots) (hx : p.tables.exec = Jvm.exec) (hlk : meth.locks = false) {pc : Nat} {Ls : Array Slot} {z : Int32} {t : FieldType} {rest : List Value} (hret : meth.sig.returnType = some t)
    (ht : t = .boolean ∨ t = .byte ∨ t = .char ∨ t = .short) (hd : decode c.code pc = .ok (.ireturn, 1)) (hc : cells ≤ kc) (hs : slots ≤ ks) (hQ : Q (some (.int (nar t z))) T.heap locs) : own_E p e below (own_K Q s kc ks) T (mkF m pc Ls (.int z :: rest)) :=
  own_end X hlk (fun h => by rw [hret] at h; cases h) (fun fs h => retN X hx hret ht hd h) hc hs hQ
theorem own_retJ (X : Stand p l e R s m args below meth c T locs cells slots) (hx : p.tables.exec = Jvm.exec) (hlk : meth.locks = false) {pc : Nat} {Ls : Array Slot} {z : Int64} {rest : List Value} (hret : meth.sig.returnType = some .long)
    (hd : decode c.code pc = .ok (.lreturn, 1)) (hc : cells ≤ kc) (hs : slots ≤ ks) (hQ : Q (some (.long z)) T.heap locs) : own_E p e below (own_K Q s kc ks) T (mkF m pc Ls (.long z :: rest)) :=
  own_retG X hx hlk hret rfl (Or.inr (Or.inl ⟨rfl, rfl, z, rfl⟩)) hd hc hs hQ
theorem own_retA (X : Stand p l e R s m args below meth c T locs cells slots) (hx : p.tables.exec = Jvm.exec) (hlk : meth.locks = false) {pc : Nat} {Ls : Array Slot} {w : Value} {t : FieldType} {rest : List Value} (hret : meth.sig.returnType = some t) (ht : t.isReference = true) (hw : w.isRef = true)
    (hd : decode c.code pc = .ok (.areturn, 1)) (hc : cells ≤ kc) (hs : slots ≤ ks) (hQ : Q (some w) T.heap locs) : own_E p e below (own_K Q s kc ks) T (mkF m pc Ls (w :: rest)) :=
  own_retG X hx hlk hret (by cases w <;> cases t <;> first | rfl | (simp [Value.isRef] at hw) | (simp [FieldType.isReference] at ht)) (Or.inr (Or.inr (Or.inr (Or.inr ⟨rfl, ht, hw⟩)))) hd hc hs hQ
end Own
theorem own_StaK {Z : State} {h h' : Heap} {C n d : String} {v : Value} (F : Sta Z h C n d v) (K : Keep h h' []) : Sta Z h' C n d v := Sta.ext ⟨K.1, fun a c q => K.2.1 a c q nin0⟩ F
section OwnArr
variable {p : Program} {l : Launch} {e : Env} {R : Room} {s : State} {m : MethodId} {args : Array Value} {below : List Frame} {meth : Method} {c : Code} {T : State} {locs : List Loc} {cells slots : Nat} {Z : State} {h : Heap} {a : Addr} {k : ClassId} {z : Int32} {vs : List Value} {dv : Value}
theorem own_alen (X : Stand p l e R s m args below meth c T locs cells slots) (hx : p.tables.exec = Jvm.exec) (hZ : Z.Warmed39 s.vm) (eT : T.heap = h) {ty : FieldType} (F : Arv Z h a k ty z vs dv) {g : JFrame} (hg : g.method = m) {rest : List Value} (hs : g.stack = .ref a :: rest) (hd : decode c.code g.pc = .ok (.arraylength, 1)) :
    ∀ target, Steps p.tables e below (T.setTop { g with pc := g.pc + 1, stack := .int z :: rest }) target → Steps p.tables e below (T.setTop g) target := by
  obtain ⟨cl, A, q, S, N, H, G⟩ := F
  intro target hr
  refine X.arraylength hx (by rw [eT]; exact A.1) (State.isArrayOf_alike hZ.alike A.2.1) hg hs hd _ ?_
  rw [len_of S N]; exact hr
theorem own_ald (X : Stand p l e R s m args below meth c T locs cells slots) (hx : p.tables.exec = Jvm.exec) (hZ : Z.Warmed39 s.vm) (eT : T.heap = h) (F : Arv Z h a k .int z vs dv) {j : Int32} (hj : ¬ j < 0 ∧ j < z) {v : Value} (hv : vs.getD j.toNatClampNeg dv = v) {g : JFrame} (hg : g.method = m) {rest : List Value} (hs : g.stack = .int j :: .ref a :: rest) (hd : decode c.code g.pc = .ok (.iaload, 1)) :
    ∀ target, Steps p.tables e below (T.setTop { g with pc := g.pc + 1, stack := v :: rest }) target → Steps p.tables e below (T.setTop g) target := by
  obtain ⟨cl, A, q, S, N, H, G⟩ := F
  have hin := inb_of S hj
  exact X.iaload hx (by rw [eT]; exact A.1) (State.isArrayOf_alike hZ.alike A.2.1) A.2.2 hin (H.at hin hv) hg hs hd
theorem own_ast (X : Stand p l e R s m args below meth c T locs cells slots) (hx : p.tables.exec = Jvm.exec) (hZ : Z.Warmed39 s.vm) (eT : T.heap = h) (F : Arv Z h a k .int z vs dv) {j : Int32} (hj : ¬ j < 0 ∧ j < z) {x : Int32} {i : Nat} (hi : j.toNatClampNeg = i) (hl : i < vs.length) {g : JFrame} (hg : g.method = m) {rest : List Value} (hs : g.stack = .int x :: .int j :: .ref a :: rest) (hd : decode c.code g.pc = .ok (.iastore, 1)) :
    ∃ T' h', Stand p l e R s m args below meth c T' (locs ++ [⟨a, j.toNatClampNeg⟩]) cells slots ∧ T'.heap = h' ∧ Wr h h' a j.toNatClampNeg (.int x) ∧ Arv Z h' a k .int z (vs.set i (.int x)) dv ∧ ∀ target, Steps p.tables e below (T'.setTop { g with pc := g.pc + 1, stack := rest }) target → Steps p.tables e below (T.setTop g) target := by
  obtain ⟨cl, A, q, S, N, H, G⟩ := F
  have hin := inb_of S hj
  obtain ⟨T', h', X', e', W, st⟩ := stI X hx hZ eT A hin hg hs hd
  exact ⟨T', h', X', e', W, Arv.set A q S N H G rfl W i hi hl, st⟩
theorem own_cst (X : Stand p l e R s m args below meth c T locs cells slots) (hx : p.tables.exec = Jvm.exec) (hZ : Z.Warmed39 s.vm) (eT : T.heap = h) (F : Arv Z h a k .char z vs dv) {j : Int32} (hj : ¬ j < 0 ∧ j < z) {x : Int32} {i : Nat} (hi : j.toNatClampNeg = i) (hl : i < vs.length) {g : JFrame} (hg : g.method = m) {rest : List Value} (hs : g.stack = .int x :: .int j :: .ref a :: rest) (hd : decode c.code g.pc = .ok (.castore, 1)) :
    ∃ T' h', Stand p l e R s m args below meth c T' (locs ++ [⟨a, j.toNatClampNeg⟩]) cells slots ∧ T'.heap = h' ∧ Wr h h' a j.toNatClampNeg (.int (nar .char x)) ∧ Arv Z h' a k .char z (vs.set i (.int (nar .char x))) dv ∧ ∀ target, Steps p.tables e below (T'.setTop { g with pc := g.pc + 1, stack := rest }) target → Steps p.tables e below (T.setTop g) target := by
  obtain ⟨cl, A, q, S, N, H, G⟩ := F
  have hin := inb_of S hj
  obtain ⟨T', h', X', e', W, st⟩ := stC X hx hZ eT A hin hg hs hd
  exact ⟨T', h', X', e', W, Arv.set A q S N H G (fits_nar_char _) W i hi hl, st⟩
end OwnArr
theorem own_d_prog_34_method_13_0 : decode prog_34_method_13_code 0 = .ok (.iload_n 0, 1) := by decide +kernel
theorem own_d_prog_34_method_13_1 : decode prog_34_method_13_code 1 = .ok (.bipush 48, 2) := by decide +kernel
theorem own_d_prog_34_method_13_3 : decode prog_34_method_13_code 3 = .ok (.if_icmp .lt 13, 3) := by decide +kernel
theorem own_d_prog_34_method_13_16 : decode prog_34_method_13_code 16 = .ok (.iconst 0, 1) := by decide +kernel
theorem own_d_prog_34_method_13_17 : decode prog_34_method_13_code 17 = .ok (.ireturn, 1) := by decide +kernel
theorem own_d_prog_34_method_13_6 : decode prog_34_method_13_code 6 = .ok (.iload_n 0, 1) := by decide +kernel
theorem own_d_prog_34_method_13_7 : decode prog_34_method_13_code 7 = .ok (.bipush 57, 2) := by decide +kernel
theorem own_d_prog_34_method_13_9 : decode prog_34_method_13_code 9 = .ok (.if_icmp .gt 7, 3) := by decide +kernel
theorem own_d_prog_34_method_13_12 : decode prog_34_method_13_code 12 = .ok (.iconst 1, 1) := by decide +kernel
theorem own_d_prog_34_method_13_13 : decode prog_34_method_13_code 13 = .ok (.goto 4, 3) := by decide +kernel
def own_isDigit_Q (p1 : Int32) (h0 : Heap) (v : Option Value) (h : Heap) (L : List Loc) : Prop := ((v = some (.int (0 : Int32)) ∧ p1 < (48 : Int32)) ∨ (v = some (.int (0 : Int32)) ∧ ¬ (p1 < (48 : Int32)) ∧ (57 : Int32) < p1) ∨ (v = some (.int (1 : Int32)) ∧ ¬ (p1 < (48 : Int32)) ∧ ¬ ((57 : Int32) < p1))) ∧ h = h0 ∧ L = []
abbrev own_y0 : MethodName := ⟨"serialis/text/Reading", "isDigit", "(C)Z"⟩
theorem own_pn_Reading : plainName "serialis/text/Reading" = true := by first | (simp [plainName, overriddenIn]; done) | decide +kernel
theorem own_isDigit_ef (m : MethodId) (p1 : Int32) : entryFrame m #[(.int p1)] 1 = mkF m 0 #[.val (.int p1)] [] := by first | (simp [entryFrame, mkF, argsToLocals, Value.category]; done) | rfl
set_option maxRecDepth 65536 in
set_option maxHeartbeats 40000000 in
theorem own_isDigit (l : Launch) (Z : State) (a0 : Array Value) (hw : ∀ d ∈ tables_1, d.before a0 Z = true) (ws : List Jvm.Cond) (p1 : Int32) (h0 : Heap) (n0 : Nat) (Z0 : n0 ≤ h0.size)  :
    MetFree l own_y0 (head1 (Jvm.Cond.code own_y0 prog_34_method_13_code 1 (some .boolean) :: ws) ({ frames := 0, cells := 0, slots := 0, locals := 0 } : Room)) (fun a U => a = #[(.int p1)] ∧ Z.Warmed39 U.vm ∧ U.heap = h0) (fun _ _ _ _ _ => True) (fun _ U o U' => ∃ v L, o = .returned v ∧ own_isDigit_Q p1 h0 v U'.heap L ∧ FrameEnd U o U' L ({ frames := 0, cells := 0, slots := 0, locals := 0 } : Room).cells ({ frames := 0, cells := 0, slots := 0, locals := 0 } : Room).slots) := by
  refine MetFree.of_bodySF (plainFor_of_name own_pn_Reading) hisR ?_
  intro p e s m args below meth c s₁ Bd hml0 hP hK
  obtain ⟨rfl, hZ, hh⟩ := hP
  have hx := Bd.exec
  have hby := Bd.bytes
  have hml : c.maxLocals = 1 := hml0
  have hown : s.vm.findClass "serialis/text/Reading" = some m.cls := findClass_of_methodNamed Bd.named
  have hnm := (name_of_methodNamed Bd.named Bd.method).1
  have X0 : Stand p l e ({ frames := 0, cells := 0, slots := 0, locals := 0 } : Room) s m #[(.int p1)] below meth c s₁ [] 0 0 := Stand.of_body Bd
  have e0 : s₁.heap = h0 := by rw [← hh, Bd.state]; rfl
  show own_E p e below (own_K (own_isDigit_Q p1 h0) s ({ frames := 0, cells := 0, slots := 0, locals := 0 } : Room).cells ({ frames := 0, cells := 0, slots := 0, locals := 0 } : Room).slots) s₁ (entryFrame m #[(.int p1)] 1)
  refine own_pre (own_isDigit_ef m p1) ?_
  show own_E p e below _ s₁ (mkF m 0 #[iv p1] [])
  refine own_st (fun t k => XS.iloadN X0.here hx rfl (hb hby own_d_prog_34_method_13_0) rfl k) ?_
  show own_E p e below _ s₁ (mkF m 1 #[iv p1] [.int p1])
  refine own_st (fun t k => XS.bipush X0.here hx rfl (hb hby own_d_prog_34_method_13_1) k) ?_
  show own_E p e below _ s₁ (mkF m 3 #[iv p1] [.int 48, .int p1])
  by_cases hc1 : p1 < (48 : Int32)
  · refine own_st (fun t k => XS.icmpYes X0.here hx rfl (pc0 := 3) (pc' := 16) rfl (hb hby own_d_prog_34_method_13_3) rfl (tlt hc1).1 (by decide) (by decide) k) ?_
    show own_E p e below _ s₁ (mkF m 16 #[iv p1] [])
    refine own_st (fun t k => XS.iconst X0.here hx rfl (hb hby own_d_prog_34_method_13_16) k) ?_
    show own_E p e below _ s₁ (mkF m 17 #[iv p1] [.int 0])
    refine own_retS X0 hx Bd.notSynchronized Bd.returns rfl (by decide) (hb hby own_d_prog_34_method_13_17) (by decide) (by decide) ?_
    exact ⟨(Or.inl ⟨rfl, hc1⟩), e0, rfl⟩
  · refine own_st (fun t k => XS.icmpNo X0.here hx rfl (hb hby own_d_prog_34_method_13_3) rfl (flt hc1).1 k) ?_
    show own_E p e below _ s₁ (mkF m 6 #[iv p1] [])
    refine own_st (fun t k => XS.iloadN X0.here hx rfl (hb hby own_d_prog_34_method_13_6) rfl k) ?_
    show own_E p e below _ s₁ (mkF m 7 #[iv p1] [.int p1])
    refine own_st (fun t k => XS.bipush X0.here hx rfl (hb hby own_d_prog_34_method_13_7) k) ?_
    show own_E p e below _ s₁ (mkF m 9 #[iv p1] [.int 57, .int p1])
    by_cases hc2 : (57 : Int32) < p1
    · refine own_st (fun t k => XS.icmpYes X0.here hx rfl (pc0 := 9) (pc' := 16) rfl (hb hby own_d_prog_34_method_13_9) rfl (tlt hc2).2.2.1 (by decide) (by decide) k) ?_
      show own_E p e below _ s₁ (mkF m 16 #[iv p1] [])
      refine own_st (fun t k => XS.iconst X0.here hx rfl (hb hby own_d_prog_34_method_13_16) k) ?_
      show own_E p e below _ s₁ (mkF m 17 #[iv p1] [.int 0])
      refine own_retS X0 hx Bd.notSynchronized Bd.returns rfl (by decide) (hb hby own_d_prog_34_method_13_17) (by decide) (by decide) ?_
      exact ⟨(Or.inr (Or.inl ⟨rfl, hc1, hc2⟩)), e0, rfl⟩
    · refine own_st (fun t k => XS.icmpNo X0.here hx rfl (hb hby own_d_prog_34_method_13_9) rfl (flt hc2).2.2.1 k) ?_
      show own_E p e below _ s₁ (mkF m 12 #[iv p1] [])
      refine own_st (fun t k => XS.iconst X0.here hx rfl (hb hby own_d_prog_34_method_13_12) k) ?_
      show own_E p e below _ s₁ (mkF m 13 #[iv p1] [.int 1])
      refine own_st (fun t k => XS.goto X0.here hx rfl (pc0 := 13) (pc' := 17) rfl (hb hby own_d_prog_34_method_13_13) (by decide) (by decide) k) ?_
      show own_E p e below _ s₁ (mkF m 17 #[iv p1] [.int 1])
      refine own_retS X0 hx Bd.notSynchronized Bd.returns rfl (by decide) (hb hby own_d_prog_34_method_13_17) (by decide) (by decide) ?_
      exact ⟨(Or.inr (Or.inr ⟨rfl, hc1, hc2⟩)), e0, rfl⟩
theorem own_pd_0 : parseMethodDescriptor "(C)Z" = some ⟨[.char], some .boolean⟩ := by decide +kernel
def own_law_Q (n0 : Nat) (v : Option Value) (h : Heap) (L : List Loc) : Prop := v = some (.int 1) ∧ Fr n0 L
theorem own_pn_ReadingIsDigitPinLaw : plainName "serialis/text/ReadingIsDigitPinLaw" = true := by first | (simp [plainName, overriddenIn]; done) | decide +kernel
theorem own_law_ef (m : MethodId) (p1 : Int32) (p2 : Int32) : entryFrame m #[(.int p1), (.int p2)] maxLocals = mkF m 0 #[.val (.int p1), .val (.int p2), .unset, .unset, .unset, .unset] [] := by first | (simp [entryFrame, mkF, argsToLocals, Value.category, maxLocals]; done) | rfl
set_option maxRecDepth 65536 in
set_option maxHeartbeats 40000000 in
theorem own_law (l : Launch) (Z : State) (a0 : Array Value) (hw : ∀ d ∈ tables_1, d.before a0 Z = true) (ws : List Jvm.Cond) (p1 : Int32) (p2 : Int32) (h0 : Heap) (n0 : Nat) (Z0 : n0 ≤ h0.size)  :
    MetFree l x (head1 (Jvm.Cond.code x code maxLocals ret :: ws) room_1) (fun a U => a = #[(.int p1), (.int p2)] ∧ Z.Warmed39 U.vm ∧ U.heap = h0) (fun _ _ _ _ _ => True) (fun _ U o U' => ∃ v L, o = .returned v ∧ own_law_Q n0 v U'.heap L ∧ FrameEnd U o U' L room_1.cells room_1.slots) := by
  refine MetFree.of_bodySF (plainFor_of_name own_pn_ReadingIsDigitPinLaw) hisR ?_
  intro p e s m args below meth c s₁ Bd hml0 hP hK
  obtain ⟨rfl, hZ, hh⟩ := hP
  have hx := Bd.exec
  have hby := Bd.bytes
  have hml : c.maxLocals = 6 := hml0
  have hown : s.vm.findClass "serialis/text/ReadingIsDigitPinLaw" = some m.cls := findClass_of_methodNamed Bd.named
  have hnm := (name_of_methodNamed Bd.named Bd.method).1
  have X0 : Stand p l e room_1 s m #[(.int p1), (.int p2)] below meth c s₁ [] 0 0 := Stand.of_body Bd
  have e0 : s₁.heap = h0 := by rw [← hh, Bd.state]; rfl
  show own_E p e below (own_K (own_law_Q n0) s room_1.cells room_1.slots) s₁ (entryFrame m #[(.int p1), (.int p2)] maxLocals)
  refine own_pre (own_law_ef m p1 p2) ?_
  show own_E p e below _ s₁ (mkF m 0 #[iv p1, iv p2, .unset, .unset, .unset, .unset] [])
  refine own_st (fun t k => XS.iloadN X0.here hx rfl (hb hby at_0) rfl k) ?_
  show own_E p e below _ s₁ (mkF m 1 #[iv p1, iv p2, .unset, .unset, .unset, .unset] [.int p1])
  refine own_st (X0.ldcInt hx hown (mvT hZ (own_w hw 0 rfl)) (g := (mkF m 1 #[iv p1, iv p2, .unset, .unset, .unset, .unset] [.int p1])) rfl (hb hby at_1)) ?_
  show own_E p e below _ s₁ (mkF m 3 #[iv p1, iv p2, .unset, .unset, .unset, .unset] [.int 2147483647, .int p1])
  refine own_st (fun t k => XS.iand X0.here hx rfl (hb hby at_3) rfl k) ?_
  show own_E p e below _ s₁ (mkF m 4 #[iv p1, iv p2, .unset, .unset, .unset, .unset] [.int (p1 &&& (2147483647 : Int32))])
  refine own_st (fun t k => XS.bipush X0.here hx rfl (hb hby at_4) k) ?_
  show own_E p e below _ s₁ (mkF m 6 #[iv p1, iv p2, .unset, .unset, .unset, .unset] [.int 12, .int (p1 &&& (2147483647 : Int32))])
  refine own_st (fun t k => iremM X0 hx rfl (hb hby at_6) rfl (by decide) k) ?_
  show own_E p e below _ s₁ (mkF m 7 #[iv p1, iv p2, .unset, .unset, .unset, .unset] [.int ((p1 &&& (2147483647 : Int32)) % (12 : Int32))])
  refine own_st (fun t k => XS.istoreN X0.here hx rfl (hb hby at_7) rfl (l' := #[iv p1, iv p2, iv ((p1 &&& (2147483647 : Int32)) % (12 : Int32)), .unset, .unset, .unset]) rfl k) ?_
  show own_E p e below _ s₁ (mkF m 8 #[iv p1, iv p2, iv ((p1 &&& (2147483647 : Int32)) % (12 : Int32)), .unset, .unset, .unset] [])
  refine own_st (fun t k => XS.iloadN X0.here hx rfl (hb hby at_8) rfl k) ?_
  show own_E p e below _ s₁ (mkF m 9 #[iv p1, iv p2, iv ((p1 &&& (2147483647 : Int32)) % (12 : Int32)), .unset, .unset, .unset] [.int p2])
  refine own_st (fun t k => XS.iconst X0.here hx rfl (hb hby at_9) k) ?_
  show own_E p e below _ s₁ (mkF m 10 #[iv p1, iv p2, iv ((p1 &&& (2147483647 : Int32)) % (12 : Int32)), .unset, .unset, .unset] [.int 3, .int p2])
  refine own_st (fun t k => XS.iand X0.here hx rfl (hb hby at_10) rfl k) ?_
  show own_E p e below _ s₁ (mkF m 11 #[iv p1, iv p2, iv ((p1 &&& (2147483647 : Int32)) % (12 : Int32)), .unset, .unset, .unset] [.int (p2 &&& (3 : Int32))])
  refine own_st (fun t k => XS.istoreN X0.here hx rfl (hb hby at_11) rfl (l' := #[iv p1, iv p2, iv ((p1 &&& (2147483647 : Int32)) % (12 : Int32)), iv (p2 &&& (3 : Int32)), .unset, .unset]) rfl k) ?_
  show own_E p e below _ s₁ (mkF m 12 #[iv p1, iv p2, iv ((p1 &&& (2147483647 : Int32)) % (12 : Int32)), iv (p2 &&& (3 : Int32)), .unset, .unset] [])
  refine own_st (fun t k => XS.iloadN X0.here hx rfl (hb hby at_12) rfl k) ?_
  show own_E p e below _ s₁ (mkF m 13 #[iv p1, iv p2, iv ((p1 &&& (2147483647 : Int32)) % (12 : Int32)), iv (p2 &&& (3 : Int32)), .unset, .unset] [.int (p2 &&& (3 : Int32))])
  by_cases hc1 : (p2 &&& (3 : Int32)) = (0 : Int32)
  · refine own_st (fun t k => XS.ifNo X0.here hx rfl (hb hby at_13) rfl ((if0 _ _).trans (teq hc1).2) k) ?_
    show own_E p e below _ s₁ (mkF m 16 #[iv p1, iv p2, iv ((p1 &&& (2147483647 : Int32)) % (12 : Int32)), iv (p2 &&& (3 : Int32)), .unset, .unset] [])
    refine own_st (fun t k => XS.iloadN X0.here hx rfl (hb hby at_16) rfl k) ?_
    show own_E p e below _ s₁ (mkF m 17 #[iv p1, iv p2, iv ((p1 &&& (2147483647 : Int32)) % (12 : Int32)), iv (p2 &&& (3 : Int32)), .unset, .unset] [.int p1])
    refine own_st (X0.ldcInt hx hown (mvT hZ (own_w hw 1 rfl)) (g := (mkF m 17 #[iv p1, iv p2, iv ((p1 &&& (2147483647 : Int32)) % (12 : Int32)), iv (p2 &&& (3 : Int32)), .unset, .unset] [.int p1])) rfl (hb hby at_17)) ?_
    show own_E p e below _ s₁ (mkF m 19 #[iv p1, iv p2, iv ((p1 &&& (2147483647 : Int32)) % (12 : Int32)), iv (p2 &&& (3 : Int32)), .unset, .unset] [.int 65535, .int p1])
    refine own_st (fun t k => XS.iand X0.here hx rfl (hb hby at_19) rfl k) ?_
    show own_E p e below _ s₁ (mkF m 20 #[iv p1, iv p2, iv ((p1 &&& (2147483647 : Int32)) % (12 : Int32)), iv (p2 &&& (3 : Int32)), .unset, .unset] [.int (p1 &&& (65535 : Int32))])
    refine own_st (fun t k => XS.i2c X0.here hx rfl (hb hby at_20) rfl k) ?_
    show own_E p e below _ s₁ (mkF m 21 #[iv p1, iv p2, iv ((p1 &&& (2147483647 : Int32)) % (12 : Int32)), iv (p2 &&& (3 : Int32)), .unset, .unset] [.int ((p1 &&& (65535 : Int32)).toUInt32.toUInt16.toUInt32.toInt32)])
    refine own_st (fun t k => XS.istore X0.here hx rfl (hb hby at_21) rfl (l' := #[iv p1, iv p2, iv ((p1 &&& (2147483647 : Int32)) % (12 : Int32)), iv (p2 &&& (3 : Int32)), iv ((p1 &&& (65535 : Int32)).toUInt32.toUInt16.toUInt32.toInt32), .unset]) rfl k) ?_
    show own_E p e below _ s₁ (mkF m 23 #[iv p1, iv p2, iv ((p1 &&& (2147483647 : Int32)) % (12 : Int32)), iv (p2 &&& (3 : Int32)), iv ((p1 &&& (65535 : Int32)).toUInt32.toUInt16.toUInt32.toInt32), .unset] [])
    refine own_st (fun t k => XS.goto X0.here hx rfl (pc0 := 23) (pc' := 64) rfl (hb hby at_23) (by decide) (by decide) k) ?_
    show own_E p e below _ s₁ (mkF m 64 #[iv p1, iv p2, iv ((p1 &&& (2147483647 : Int32)) % (12 : Int32)), iv (p2 &&& (3 : Int32)), iv ((p1 &&& (65535 : Int32)).toUInt32.toUInt16.toUInt32.toInt32), .unset] [])
    refine own_st (fun t k => XS.iload X0.here hx rfl (hb hby at_64) rfl k) ?_
    show own_E p e below _ s₁ (mkF m 66 #[iv p1, iv p2, iv ((p1 &&& (2147483647 : Int32)) % (12 : Int32)), iv (p2 &&& (3 : Int32)), iv ((p1 &&& (65535 : Int32)).toUInt32.toUInt16.toUInt32.toInt32), .unset] [.int ((p1 &&& (65535 : Int32)).toUInt32.toUInt16.toUInt32.toInt32)])
    refine own_st (fun t k => XS.bipush X0.here hx rfl (hb hby at_66) k) ?_
    show own_E p e below _ s₁ (mkF m 68 #[iv p1, iv p2, iv ((p1 &&& (2147483647 : Int32)) % (12 : Int32)), iv (p2 &&& (3 : Int32)), iv ((p1 &&& (65535 : Int32)).toUInt32.toUInt16.toUInt32.toInt32), .unset] [.int 48, .int ((p1 &&& (65535 : Int32)).toUInt32.toUInt16.toUInt32.toInt32)])
    refine own_st (fun t k => XS.isub X0.here hx rfl (hb hby at_68) rfl k) ?_
    show own_E p e below _ s₁ (mkF m 69 #[iv p1, iv p2, iv ((p1 &&& (2147483647 : Int32)) % (12 : Int32)), iv (p2 &&& (3 : Int32)), iv ((p1 &&& (65535 : Int32)).toUInt32.toUInt16.toUInt32.toInt32), .unset] [.int (((p1 &&& (65535 : Int32)).toUInt32.toUInt16.toUInt32.toInt32) - (48 : Int32))])
    refine own_st (X0.ldcInt hx hown (mvT hZ (own_w hw 1 rfl)) (g := (mkF m 69 #[iv p1, iv p2, iv ((p1 &&& (2147483647 : Int32)) % (12 : Int32)), iv (p2 &&& (3 : Int32)), iv ((p1 &&& (65535 : Int32)).toUInt32.toUInt16.toUInt32.toInt32), .unset] [.int (((p1 &&& (65535 : Int32)).toUInt32.toUInt16.toUInt32.toInt32) - (48 : Int32))])) rfl (hb hby at_69)) ?_
    show own_E p e below _ s₁ (mkF m 71 #[iv p1, iv p2, iv ((p1 &&& (2147483647 : Int32)) % (12 : Int32)), iv (p2 &&& (3 : Int32)), iv ((p1 &&& (65535 : Int32)).toUInt32.toUInt16.toUInt32.toInt32), .unset] [.int 65535, .int (((p1 &&& (65535 : Int32)).toUInt32.toUInt16.toUInt32.toInt32) - (48 : Int32))])
    refine own_st (fun t k => XS.iand X0.here hx rfl (hb hby at_71) rfl k) ?_
    show own_E p e below _ s₁ (mkF m 72 #[iv p1, iv p2, iv ((p1 &&& (2147483647 : Int32)) % (12 : Int32)), iv (p2 &&& (3 : Int32)), iv ((p1 &&& (65535 : Int32)).toUInt32.toUInt16.toUInt32.toInt32), .unset] [.int ((((p1 &&& (65535 : Int32)).toUInt32.toUInt16.toUInt32.toInt32) - (48 : Int32)) &&& (65535 : Int32))])
    refine own_st (fun t k => XS.bipush X0.here hx rfl (hb hby at_72) k) ?_
    show own_E p e below _ s₁ (mkF m 74 #[iv p1, iv p2, iv ((p1 &&& (2147483647 : Int32)) % (12 : Int32)), iv (p2 &&& (3 : Int32)), iv ((p1 &&& (65535 : Int32)).toUInt32.toUInt16.toUInt32.toInt32), .unset] [.int 10, .int ((((p1 &&& (65535 : Int32)).toUInt32.toUInt16.toUInt32.toInt32) - (48 : Int32)) &&& (65535 : Int32))])
    by_cases hc2 : ((((p1 &&& (65535 : Int32)).toUInt32.toUInt16.toUInt32.toInt32) - (48 : Int32)) &&& (65535 : Int32)) < (10 : Int32)
    · refine own_st (fun t k => XS.icmpNo X0.here hx rfl (hb hby at_74) rfl (tlt hc2).2.1 k) ?_
      show own_E p e below _ s₁ (mkF m 77 #[iv p1, iv p2, iv ((p1 &&& (2147483647 : Int32)) % (12 : Int32)), iv (p2 &&& (3 : Int32)), iv ((p1 &&& (65535 : Int32)).toUInt32.toUInt16.toUInt32.toInt32), .unset] [])
      refine own_st (fun t k => XS.iconst X0.here hx rfl (hb hby at_77) k) ?_
      show own_E p e below _ s₁ (mkF m 78 #[iv p1, iv p2, iv ((p1 &&& (2147483647 : Int32)) % (12 : Int32)), iv (p2 &&& (3 : Int32)), iv ((p1 &&& (65535 : Int32)).toUInt32.toUInt16.toUInt32.toInt32), .unset] [.int 1])
      refine own_st (fun t k => XS.goto X0.here hx rfl (pc0 := 78) (pc' := 82) rfl (hb hby at_78) (by decide) (by decide) k) ?_
      show own_E p e below _ s₁ (mkF m 82 #[iv p1, iv p2, iv ((p1 &&& (2147483647 : Int32)) % (12 : Int32)), iv (p2 &&& (3 : Int32)), iv ((p1 &&& (65535 : Int32)).toUInt32.toUInt16.toUInt32.toInt32), .unset] [.int 1])
      refine own_st (fun t k => XS.istore X0.here hx rfl (hb hby at_82) rfl (l' := #[iv p1, iv p2, iv ((p1 &&& (2147483647 : Int32)) % (12 : Int32)), iv (p2 &&& (3 : Int32)), iv ((p1 &&& (65535 : Int32)).toUInt32.toUInt16.toUInt32.toInt32), iv 1]) rfl k) ?_
      show own_E p e below _ s₁ (mkF m 84 #[iv p1, iv p2, iv ((p1 &&& (2147483647 : Int32)) % (12 : Int32)), iv (p2 &&& (3 : Int32)), iv ((p1 &&& (65535 : Int32)).toUInt32.toUInt16.toUInt32.toInt32), iv 1] [])
      refine own_st (fun t k => XS.iload X0.here hx rfl (hb hby at_84) rfl k) ?_
      show own_E p e below _ s₁ (mkF m 86 #[iv p1, iv p2, iv ((p1 &&& (2147483647 : Int32)) % (12 : Int32)), iv (p2 &&& (3 : Int32)), iv ((p1 &&& (65535 : Int32)).toUInt32.toUInt16.toUInt32.toInt32), iv 1] [.int ((p1 &&& (65535 : Int32)).toUInt32.toUInt16.toUInt32.toInt32)])
      obtain ⟨_, _, ⟨T3, L3, k3, n3⟩, -, X3, ⟨Lc3, hQ3, l3, y3, z3⟩, st3⟩ := Jvm.LawKit.callS X0 hx (y := own_y0) hown (mvT hZ (own_w hw 2 rfl)) (mvT hZ (own_w hw 3 rfl)) (mvT hZ (own_w hw 4 rfl)) (mvT hZ (own_w hw 5 rfl)) (by decide) (backOf (W := 0) (own_isDigit l Z a0 hw [] ((p1 &&& (65535 : Int32)).toUInt32.toUInt16.toUInt32.toInt32) h0 n0 Z0 ) hZ (own_w hw 5 rfl) (own_w hw 4 rfl) (by decide) (by decide)) (g := (mkF m 86 #[iv p1, iv p2, iv ((p1 &&& (2147483647 : Int32)) % (12 : Int32)), iv (p2 &&& (3 : Int32)), iv ((p1 &&& (65535 : Int32)).toUInt32.toUInt16.toUInt32.toInt32), iv 1] [.int ((p1 &&& (65535 : Int32)).toUInt32.toUInt16.toUInt32.toInt32)])) rfl (by rw [hml]; rfl) (argsL := [(.int ((p1 &&& (65535 : Int32)).toUInt32.toUInt16.toUInt32.toInt32))]) (rest := []) (lenOf own_pd_0 rfl) rfl (by show 2 * 0 + _ ≤ _; exact Nat.le_of_eq rfl) (hb hby at_86) (fun _ _ => ⟨rfl, e0, (by decide : 0 + 0 ≤ _), (by decide : 0 + 0 ≤ _)⟩)
      dsimp only [Pt.U, Pt.locs, Pt.cells, Pt.slots] at X3 l3 y3 z3 st3 hQ3
      subst l3 y3 z3
      obtain ⟨hR3, e3, rfl⟩ := hQ3
      rcases hR3 with ⟨rfl, ha3_0⟩ | ⟨rfl, ha3_0, ha3_1⟩ | ⟨rfl, ha3_0, ha3_1⟩
      · exfalso
        have f4 := rng32 p2
        have f5 : (3 : Int32).toInt = 3 := rfl
        have f6 := rng32 (p2 &&& (3 : Int32))
        have f7 : (p2 &&& (3 : Int32)).toInt = p2.toInt % 4 := c_mask p2 (3 : Int32) 2 (by decide) (by decide)
        have f8 : (0 : Int32).toInt = 0 := rfl
        have f9 := rng32 p1
        have f10 : (65535 : Int32).toInt = 65535 := rfl
        have f11 := rng32 (p1 &&& (65535 : Int32))
        have f12 : (p1 &&& (65535 : Int32)).toInt = p1.toInt % 65536 := c_mask p1 (65535 : Int32) 16 (by decide) (by decide)
        have f13 := rng32 ((p1 &&& (65535 : Int32)).toUInt32.toUInt16.toUInt32.toInt32)
        have f14 := c_i2c (p1 &&& (65535 : Int32))
        have f15 : (48 : Int32).toInt = 48 := rfl
        have f16 := rng32 (((p1 &&& (65535 : Int32)).toUInt32.toUInt16.toUInt32.toInt32) - (48 : Int32))
        have f17 := c_isub ((p1 &&& (65535 : Int32)).toUInt32.toUInt16.toUInt32.toInt32) (48 : Int32)
        have f18 := rng32 ((((p1 &&& (65535 : Int32)).toUInt32.toUInt16.toUInt32.toInt32) - (48 : Int32)) &&& (65535 : Int32))
        have f19 : ((((p1 &&& (65535 : Int32)).toUInt32.toUInt16.toUInt32.toInt32) - (48 : Int32)) &&& (65535 : Int32)).toInt = (((p1 &&& (65535 : Int32)).toUInt32.toUInt16.toUInt32.toInt32) - (48 : Int32)).toInt % 65536 := c_mask (((p1 &&& (65535 : Int32)).toUInt32.toUInt16.toUInt32.toInt32) - (48 : Int32)) (65535 : Int32) 16 (by decide) (by decide)
        have f20 : (10 : Int32).toInt = 10 := rfl
        have g21 := hc1
        rw [← Int32.toInt_inj] at g21
        have g22 := hc2
        rw [Int32.lt_iff_toInt_lt] at g22
        have g23 := ha3_0
        rw [Int32.lt_iff_toInt_lt] at g23
        omega
      · exfalso
        have f24 := rng32 p2
        have f25 : (3 : Int32).toInt = 3 := rfl
        have f26 := rng32 (p2 &&& (3 : Int32))
        have f27 : (p2 &&& (3 : Int32)).toInt = p2.toInt % 4 := c_mask p2 (3 : Int32) 2 (by decide) (by decide)
        have f28 : (0 : Int32).toInt = 0 := rfl
        have f29 := rng32 p1
        have f30 : (65535 : Int32).toInt = 65535 := rfl
        have f31 := rng32 (p1 &&& (65535 : Int32))
        have f32 : (p1 &&& (65535 : Int32)).toInt = p1.toInt % 65536 := c_mask p1 (65535 : Int32) 16 (by decide) (by decide)
        have f33 := rng32 ((p1 &&& (65535 : Int32)).toUInt32.toUInt16.toUInt32.toInt32)
        have f34 := c_i2c (p1 &&& (65535 : Int32))
        have f35 : (48 : Int32).toInt = 48 := rfl
        have f36 := rng32 (((p1 &&& (65535 : Int32)).toUInt32.toUInt16.toUInt32.toInt32) - (48 : Int32))
        have f37 := c_isub ((p1 &&& (65535 : Int32)).toUInt32.toUInt16.toUInt32.toInt32) (48 : Int32)
        have f38 := rng32 ((((p1 &&& (65535 : Int32)).toUInt32.toUInt16.toUInt32.toInt32) - (48 : Int32)) &&& (65535 : Int32))
        have f39 : ((((p1 &&& (65535 : Int32)).toUInt32.toUInt16.toUInt32.toInt32) - (48 : Int32)) &&& (65535 : Int32)).toInt = (((p1 &&& (65535 : Int32)).toUInt32.toUInt16.toUInt32.toInt32) - (48 : Int32)).toInt % 65536 := c_mask (((p1 &&& (65535 : Int32)).toUInt32.toUInt16.toUInt32.toInt32) - (48 : Int32)) (65535 : Int32) 16 (by decide) (by decide)
        have f40 : (10 : Int32).toInt = 10 := rfl
        have f41 : (57 : Int32).toInt = 57 := rfl
        have g42 := hc1
        rw [← Int32.toInt_inj] at g42
        have g43 := hc2
        rw [Int32.lt_iff_toInt_lt] at g43
        have g44 := ha3_0
        rw [Int32.lt_iff_toInt_lt] at g44
        have g45 := ha3_1
        rw [Int32.lt_iff_toInt_lt] at g45
        omega
      · refine own_st st3 ?_
        show own_E p e below _ T3 (mkF m 89 #[iv p1, iv p2, iv ((p1 &&& (2147483647 : Int32)) % (12 : Int32)), iv (p2 &&& (3 : Int32)), iv ((p1 &&& (65535 : Int32)).toUInt32.toUInt16.toUInt32.toInt32), iv 1] [.int 1])
        refine own_st (fun t k => XS.iload X3.here hx rfl (hb hby at_89) rfl k) ?_
        show own_E p e below _ T3 (mkF m 91 #[iv p1, iv p2, iv ((p1 &&& (2147483647 : Int32)) % (12 : Int32)), iv (p2 &&& (3 : Int32)), iv ((p1 &&& (65535 : Int32)).toUInt32.toUInt16.toUInt32.toInt32), iv 1] [.int 1, .int 1])
        refine own_st (fun t k => XS.icmpNo X3.here hx rfl (hb hby at_91) rfl (by decide) k) ?_
        show own_E p e below _ T3 (mkF m 94 #[iv p1, iv p2, iv ((p1 &&& (2147483647 : Int32)) % (12 : Int32)), iv (p2 &&& (3 : Int32)), iv ((p1 &&& (65535 : Int32)).toUInt32.toUInt16.toUInt32.toInt32), iv 1] [])
        refine own_st (fun t k => XS.iconst X3.here hx rfl (hb hby at_94) k) ?_
        show own_E p e below _ T3 (mkF m 95 #[iv p1, iv p2, iv ((p1 &&& (2147483647 : Int32)) % (12 : Int32)), iv (p2 &&& (3 : Int32)), iv ((p1 &&& (65535 : Int32)).toUInt32.toUInt16.toUInt32.toInt32), iv 1] [.int 1])
        refine own_st (fun t k => XS.goto X3.here hx rfl (pc0 := 95) (pc' := 99) rfl (hb hby at_95) (by decide) (by decide) k) ?_
        show own_E p e below _ T3 (mkF m 99 #[iv p1, iv p2, iv ((p1 &&& (2147483647 : Int32)) % (12 : Int32)), iv (p2 &&& (3 : Int32)), iv ((p1 &&& (65535 : Int32)).toUInt32.toUInt16.toUInt32.toInt32), iv 1] [.int 1])
        refine own_retS X3 hx Bd.notSynchronized Bd.returns rfl (by decide) (hb hby at_99) (by decide) (by decide) ?_
        exact ⟨rfl, fun y hy => by simp at hy⟩
    · refine own_st (fun t k => XS.icmpYes X0.here hx rfl (pc0 := 74) (pc' := 81) rfl (hb hby at_74) rfl (flt hc2).2.1 (by decide) (by decide) k) ?_
      show own_E p e below _ s₁ (mkF m 81 #[iv p1, iv p2, iv ((p1 &&& (2147483647 : Int32)) % (12 : Int32)), iv (p2 &&& (3 : Int32)), iv ((p1 &&& (65535 : Int32)).toUInt32.toUInt16.toUInt32.toInt32), .unset] [])
      refine own_st (fun t k => XS.iconst X0.here hx rfl (hb hby at_81) k) ?_
      show own_E p e below _ s₁ (mkF m 82 #[iv p1, iv p2, iv ((p1 &&& (2147483647 : Int32)) % (12 : Int32)), iv (p2 &&& (3 : Int32)), iv ((p1 &&& (65535 : Int32)).toUInt32.toUInt16.toUInt32.toInt32), .unset] [.int 0])
      refine own_st (fun t k => XS.istore X0.here hx rfl (hb hby at_82) rfl (l' := #[iv p1, iv p2, iv ((p1 &&& (2147483647 : Int32)) % (12 : Int32)), iv (p2 &&& (3 : Int32)), iv ((p1 &&& (65535 : Int32)).toUInt32.toUInt16.toUInt32.toInt32), iv 0]) rfl k) ?_
      show own_E p e below _ s₁ (mkF m 84 #[iv p1, iv p2, iv ((p1 &&& (2147483647 : Int32)) % (12 : Int32)), iv (p2 &&& (3 : Int32)), iv ((p1 &&& (65535 : Int32)).toUInt32.toUInt16.toUInt32.toInt32), iv 0] [])
      refine own_st (fun t k => XS.iload X0.here hx rfl (hb hby at_84) rfl k) ?_
      show own_E p e below _ s₁ (mkF m 86 #[iv p1, iv p2, iv ((p1 &&& (2147483647 : Int32)) % (12 : Int32)), iv (p2 &&& (3 : Int32)), iv ((p1 &&& (65535 : Int32)).toUInt32.toUInt16.toUInt32.toInt32), iv 0] [.int ((p1 &&& (65535 : Int32)).toUInt32.toUInt16.toUInt32.toInt32)])
      obtain ⟨_, _, ⟨T46, L46, k46, n46⟩, -, X46, ⟨Lc46, hQ46, l46, y46, z46⟩, st46⟩ := Jvm.LawKit.callS X0 hx (y := own_y0) hown (mvT hZ (own_w hw 2 rfl)) (mvT hZ (own_w hw 3 rfl)) (mvT hZ (own_w hw 4 rfl)) (mvT hZ (own_w hw 5 rfl)) (by decide) (backOf (W := 0) (own_isDigit l Z a0 hw [] ((p1 &&& (65535 : Int32)).toUInt32.toUInt16.toUInt32.toInt32) h0 n0 Z0 ) hZ (own_w hw 5 rfl) (own_w hw 4 rfl) (by decide) (by decide)) (g := (mkF m 86 #[iv p1, iv p2, iv ((p1 &&& (2147483647 : Int32)) % (12 : Int32)), iv (p2 &&& (3 : Int32)), iv ((p1 &&& (65535 : Int32)).toUInt32.toUInt16.toUInt32.toInt32), iv 0] [.int ((p1 &&& (65535 : Int32)).toUInt32.toUInt16.toUInt32.toInt32)])) rfl (by rw [hml]; rfl) (argsL := [(.int ((p1 &&& (65535 : Int32)).toUInt32.toUInt16.toUInt32.toInt32))]) (rest := []) (lenOf own_pd_0 rfl) rfl (by show 2 * 0 + _ ≤ _; exact Nat.le_of_eq rfl) (hb hby at_86) (fun _ _ => ⟨rfl, e0, (by decide : 0 + 0 ≤ _), (by decide : 0 + 0 ≤ _)⟩)
      dsimp only [Pt.U, Pt.locs, Pt.cells, Pt.slots] at X46 l46 y46 z46 st46 hQ46
      subst l46 y46 z46
      obtain ⟨hR46, e46, rfl⟩ := hQ46
      rcases hR46 with ⟨rfl, ha46_0⟩ | ⟨rfl, ha46_0, ha46_1⟩ | ⟨rfl, ha46_0, ha46_1⟩
      · refine own_st st46 ?_
        show own_E p e below _ T46 (mkF m 89 #[iv p1, iv p2, iv ((p1 &&& (2147483647 : Int32)) % (12 : Int32)), iv (p2 &&& (3 : Int32)), iv ((p1 &&& (65535 : Int32)).toUInt32.toUInt16.toUInt32.toInt32), iv 0] [.int 0])
        refine own_st (fun t k => XS.iload X46.here hx rfl (hb hby at_89) rfl k) ?_
        show own_E p e below _ T46 (mkF m 91 #[iv p1, iv p2, iv ((p1 &&& (2147483647 : Int32)) % (12 : Int32)), iv (p2 &&& (3 : Int32)), iv ((p1 &&& (65535 : Int32)).toUInt32.toUInt16.toUInt32.toInt32), iv 0] [.int 0, .int 0])
        refine own_st (fun t k => XS.icmpNo X46.here hx rfl (hb hby at_91) rfl (by decide) k) ?_
        show own_E p e below _ T46 (mkF m 94 #[iv p1, iv p2, iv ((p1 &&& (2147483647 : Int32)) % (12 : Int32)), iv (p2 &&& (3 : Int32)), iv ((p1 &&& (65535 : Int32)).toUInt32.toUInt16.toUInt32.toInt32), iv 0] [])
        refine own_st (fun t k => XS.iconst X46.here hx rfl (hb hby at_94) k) ?_
        show own_E p e below _ T46 (mkF m 95 #[iv p1, iv p2, iv ((p1 &&& (2147483647 : Int32)) % (12 : Int32)), iv (p2 &&& (3 : Int32)), iv ((p1 &&& (65535 : Int32)).toUInt32.toUInt16.toUInt32.toInt32), iv 0] [.int 1])
        refine own_st (fun t k => XS.goto X46.here hx rfl (pc0 := 95) (pc' := 99) rfl (hb hby at_95) (by decide) (by decide) k) ?_
        show own_E p e below _ T46 (mkF m 99 #[iv p1, iv p2, iv ((p1 &&& (2147483647 : Int32)) % (12 : Int32)), iv (p2 &&& (3 : Int32)), iv ((p1 &&& (65535 : Int32)).toUInt32.toUInt16.toUInt32.toInt32), iv 0] [.int 1])
        refine own_retS X46 hx Bd.notSynchronized Bd.returns rfl (by decide) (hb hby at_99) (by decide) (by decide) ?_
        exact ⟨rfl, fun y hy => by simp at hy⟩
      · refine own_st st46 ?_
        show own_E p e below _ T46 (mkF m 89 #[iv p1, iv p2, iv ((p1 &&& (2147483647 : Int32)) % (12 : Int32)), iv (p2 &&& (3 : Int32)), iv ((p1 &&& (65535 : Int32)).toUInt32.toUInt16.toUInt32.toInt32), iv 0] [.int 0])
        refine own_st (fun t k => XS.iload X46.here hx rfl (hb hby at_89) rfl k) ?_
        show own_E p e below _ T46 (mkF m 91 #[iv p1, iv p2, iv ((p1 &&& (2147483647 : Int32)) % (12 : Int32)), iv (p2 &&& (3 : Int32)), iv ((p1 &&& (65535 : Int32)).toUInt32.toUInt16.toUInt32.toInt32), iv 0] [.int 0, .int 0])
        refine own_st (fun t k => XS.icmpNo X46.here hx rfl (hb hby at_91) rfl (by decide) k) ?_
        show own_E p e below _ T46 (mkF m 94 #[iv p1, iv p2, iv ((p1 &&& (2147483647 : Int32)) % (12 : Int32)), iv (p2 &&& (3 : Int32)), iv ((p1 &&& (65535 : Int32)).toUInt32.toUInt16.toUInt32.toInt32), iv 0] [])
        refine own_st (fun t k => XS.iconst X46.here hx rfl (hb hby at_94) k) ?_
        show own_E p e below _ T46 (mkF m 95 #[iv p1, iv p2, iv ((p1 &&& (2147483647 : Int32)) % (12 : Int32)), iv (p2 &&& (3 : Int32)), iv ((p1 &&& (65535 : Int32)).toUInt32.toUInt16.toUInt32.toInt32), iv 0] [.int 1])
        refine own_st (fun t k => XS.goto X46.here hx rfl (pc0 := 95) (pc' := 99) rfl (hb hby at_95) (by decide) (by decide) k) ?_
        show own_E p e below _ T46 (mkF m 99 #[iv p1, iv p2, iv ((p1 &&& (2147483647 : Int32)) % (12 : Int32)), iv (p2 &&& (3 : Int32)), iv ((p1 &&& (65535 : Int32)).toUInt32.toUInt16.toUInt32.toInt32), iv 0] [.int 1])
        refine own_retS X46 hx Bd.notSynchronized Bd.returns rfl (by decide) (hb hby at_99) (by decide) (by decide) ?_
        exact ⟨rfl, fun y hy => by simp at hy⟩
      · exfalso
        have f47 := rng32 p2
        have f48 : (3 : Int32).toInt = 3 := rfl
        have f49 := rng32 (p2 &&& (3 : Int32))
        have f50 : (p2 &&& (3 : Int32)).toInt = p2.toInt % 4 := c_mask p2 (3 : Int32) 2 (by decide) (by decide)
        have f51 : (0 : Int32).toInt = 0 := rfl
        have f52 := rng32 p1
        have f53 : (65535 : Int32).toInt = 65535 := rfl
        have f54 := rng32 (p1 &&& (65535 : Int32))
        have f55 : (p1 &&& (65535 : Int32)).toInt = p1.toInt % 65536 := c_mask p1 (65535 : Int32) 16 (by decide) (by decide)
        have f56 := rng32 ((p1 &&& (65535 : Int32)).toUInt32.toUInt16.toUInt32.toInt32)
        have f57 := c_i2c (p1 &&& (65535 : Int32))
        have f58 : (48 : Int32).toInt = 48 := rfl
        have f59 := rng32 (((p1 &&& (65535 : Int32)).toUInt32.toUInt16.toUInt32.toInt32) - (48 : Int32))
        have f60 := c_isub ((p1 &&& (65535 : Int32)).toUInt32.toUInt16.toUInt32.toInt32) (48 : Int32)
        have f61 := rng32 ((((p1 &&& (65535 : Int32)).toUInt32.toUInt16.toUInt32.toInt32) - (48 : Int32)) &&& (65535 : Int32))
        have f62 : ((((p1 &&& (65535 : Int32)).toUInt32.toUInt16.toUInt32.toInt32) - (48 : Int32)) &&& (65535 : Int32)).toInt = (((p1 &&& (65535 : Int32)).toUInt32.toUInt16.toUInt32.toInt32) - (48 : Int32)).toInt % 65536 := c_mask (((p1 &&& (65535 : Int32)).toUInt32.toUInt16.toUInt32.toInt32) - (48 : Int32)) (65535 : Int32) 16 (by decide) (by decide)
        have f63 : (10 : Int32).toInt = 10 := rfl
        have f64 : (57 : Int32).toInt = 57 := rfl
        have g65 := hc1
        rw [← Int32.toInt_inj] at g65
        have g66 := hc2
        rw [Int32.lt_iff_toInt_lt] at g66
        have g67 := ha46_0
        rw [Int32.lt_iff_toInt_lt] at g67
        have g68 := ha46_1
        rw [Int32.lt_iff_toInt_lt] at g68
        omega
  · refine own_st (fun t k => XS.ifYes X0.here hx rfl (pc0 := 13) (pc' := 26) rfl (hb hby at_13) rfl ((if0 _ _).trans (feq hc1).2) (by decide) (by decide) k) ?_
    show own_E p e below _ s₁ (mkF m 26 #[iv p1, iv p2, iv ((p1 &&& (2147483647 : Int32)) % (12 : Int32)), iv (p2 &&& (3 : Int32)), .unset, .unset] [])
    refine own_st (fun t k => XS.iloadN X0.here hx rfl (hb hby at_26) rfl k) ?_
    show own_E p e below _ s₁ (mkF m 27 #[iv p1, iv p2, iv ((p1 &&& (2147483647 : Int32)) % (12 : Int32)), iv (p2 &&& (3 : Int32)), .unset, .unset] [.int (p2 &&& (3 : Int32))])
    refine own_st (fun t k => XS.iconst X0.here hx rfl (hb hby at_27) k) ?_
    show own_E p e below _ s₁ (mkF m 28 #[iv p1, iv p2, iv ((p1 &&& (2147483647 : Int32)) % (12 : Int32)), iv (p2 &&& (3 : Int32)), .unset, .unset] [.int 1, .int (p2 &&& (3 : Int32))])
    by_cases hc69 : (p2 &&& (3 : Int32)) = (1 : Int32)
    · refine own_st (fun t k => XS.icmpNo X0.here hx rfl (hb hby at_28) rfl (teq hc69).2 k) ?_
      show own_E p e below _ s₁ (mkF m 31 #[iv p1, iv p2, iv ((p1 &&& (2147483647 : Int32)) % (12 : Int32)), iv (p2 &&& (3 : Int32)), .unset, .unset] [])
      refine own_st (fun t k => XS.bipush X0.here hx rfl (hb hby at_31) k) ?_
      show own_E p e below _ s₁ (mkF m 33 #[iv p1, iv p2, iv ((p1 &&& (2147483647 : Int32)) % (12 : Int32)), iv (p2 &&& (3 : Int32)), .unset, .unset] [.int 47])
      refine own_st (fun t k => XS.iloadN X0.here hx rfl (hb hby at_33) rfl k) ?_
      show own_E p e below _ s₁ (mkF m 34 #[iv p1, iv p2, iv ((p1 &&& (2147483647 : Int32)) % (12 : Int32)), iv (p2 &&& (3 : Int32)), .unset, .unset] [.int ((p1 &&& (2147483647 : Int32)) % (12 : Int32)), .int 47])
      refine own_st (fun t k => XS.iadd X0.here hx rfl (hb hby at_34) rfl k) ?_
      show own_E p e below _ s₁ (mkF m 35 #[iv p1, iv p2, iv ((p1 &&& (2147483647 : Int32)) % (12 : Int32)), iv (p2 &&& (3 : Int32)), .unset, .unset] [.int ((47 : Int32) + ((p1 &&& (2147483647 : Int32)) % (12 : Int32)))])
      refine own_st (fun t k => XS.i2c X0.here hx rfl (hb hby at_35) rfl k) ?_
      show own_E p e below _ s₁ (mkF m 36 #[iv p1, iv p2, iv ((p1 &&& (2147483647 : Int32)) % (12 : Int32)), iv (p2 &&& (3 : Int32)), .unset, .unset] [.int (((47 : Int32) + ((p1 &&& (2147483647 : Int32)) % (12 : Int32))).toUInt32.toUInt16.toUInt32.toInt32)])
      refine own_st (fun t k => XS.istore X0.here hx rfl (hb hby at_36) rfl (l' := #[iv p1, iv p2, iv ((p1 &&& (2147483647 : Int32)) % (12 : Int32)), iv (p2 &&& (3 : Int32)), iv (((47 : Int32) + ((p1 &&& (2147483647 : Int32)) % (12 : Int32))).toUInt32.toUInt16.toUInt32.toInt32), .unset]) rfl k) ?_
      show own_E p e below _ s₁ (mkF m 38 #[iv p1, iv p2, iv ((p1 &&& (2147483647 : Int32)) % (12 : Int32)), iv (p2 &&& (3 : Int32)), iv (((47 : Int32) + ((p1 &&& (2147483647 : Int32)) % (12 : Int32))).toUInt32.toUInt16.toUInt32.toInt32), .unset] [])
      refine own_st (fun t k => XS.goto X0.here hx rfl (pc0 := 38) (pc' := 64) rfl (hb hby at_38) (by decide) (by decide) k) ?_
      show own_E p e below _ s₁ (mkF m 64 #[iv p1, iv p2, iv ((p1 &&& (2147483647 : Int32)) % (12 : Int32)), iv (p2 &&& (3 : Int32)), iv (((47 : Int32) + ((p1 &&& (2147483647 : Int32)) % (12 : Int32))).toUInt32.toUInt16.toUInt32.toInt32), .unset] [])
      refine own_st (fun t k => XS.iload X0.here hx rfl (hb hby at_64) rfl k) ?_
      show own_E p e below _ s₁ (mkF m 66 #[iv p1, iv p2, iv ((p1 &&& (2147483647 : Int32)) % (12 : Int32)), iv (p2 &&& (3 : Int32)), iv (((47 : Int32) + ((p1 &&& (2147483647 : Int32)) % (12 : Int32))).toUInt32.toUInt16.toUInt32.toInt32), .unset] [.int (((47 : Int32) + ((p1 &&& (2147483647 : Int32)) % (12 : Int32))).toUInt32.toUInt16.toUInt32.toInt32)])
      refine own_st (fun t k => XS.bipush X0.here hx rfl (hb hby at_66) k) ?_
      show own_E p e below _ s₁ (mkF m 68 #[iv p1, iv p2, iv ((p1 &&& (2147483647 : Int32)) % (12 : Int32)), iv (p2 &&& (3 : Int32)), iv (((47 : Int32) + ((p1 &&& (2147483647 : Int32)) % (12 : Int32))).toUInt32.toUInt16.toUInt32.toInt32), .unset] [.int 48, .int (((47 : Int32) + ((p1 &&& (2147483647 : Int32)) % (12 : Int32))).toUInt32.toUInt16.toUInt32.toInt32)])
      refine own_st (fun t k => XS.isub X0.here hx rfl (hb hby at_68) rfl k) ?_
      show own_E p e below _ s₁ (mkF m 69 #[iv p1, iv p2, iv ((p1 &&& (2147483647 : Int32)) % (12 : Int32)), iv (p2 &&& (3 : Int32)), iv (((47 : Int32) + ((p1 &&& (2147483647 : Int32)) % (12 : Int32))).toUInt32.toUInt16.toUInt32.toInt32), .unset] [.int ((((47 : Int32) + ((p1 &&& (2147483647 : Int32)) % (12 : Int32))).toUInt32.toUInt16.toUInt32.toInt32) - (48 : Int32))])
      refine own_st (X0.ldcInt hx hown (mvT hZ (own_w hw 1 rfl)) (g := (mkF m 69 #[iv p1, iv p2, iv ((p1 &&& (2147483647 : Int32)) % (12 : Int32)), iv (p2 &&& (3 : Int32)), iv (((47 : Int32) + ((p1 &&& (2147483647 : Int32)) % (12 : Int32))).toUInt32.toUInt16.toUInt32.toInt32), .unset] [.int ((((47 : Int32) + ((p1 &&& (2147483647 : Int32)) % (12 : Int32))).toUInt32.toUInt16.toUInt32.toInt32) - (48 : Int32))])) rfl (hb hby at_69)) ?_
      show own_E p e below _ s₁ (mkF m 71 #[iv p1, iv p2, iv ((p1 &&& (2147483647 : Int32)) % (12 : Int32)), iv (p2 &&& (3 : Int32)), iv (((47 : Int32) + ((p1 &&& (2147483647 : Int32)) % (12 : Int32))).toUInt32.toUInt16.toUInt32.toInt32), .unset] [.int 65535, .int ((((47 : Int32) + ((p1 &&& (2147483647 : Int32)) % (12 : Int32))).toUInt32.toUInt16.toUInt32.toInt32) - (48 : Int32))])
      refine own_st (fun t k => XS.iand X0.here hx rfl (hb hby at_71) rfl k) ?_
      show own_E p e below _ s₁ (mkF m 72 #[iv p1, iv p2, iv ((p1 &&& (2147483647 : Int32)) % (12 : Int32)), iv (p2 &&& (3 : Int32)), iv (((47 : Int32) + ((p1 &&& (2147483647 : Int32)) % (12 : Int32))).toUInt32.toUInt16.toUInt32.toInt32), .unset] [.int (((((47 : Int32) + ((p1 &&& (2147483647 : Int32)) % (12 : Int32))).toUInt32.toUInt16.toUInt32.toInt32) - (48 : Int32)) &&& (65535 : Int32))])
      refine own_st (fun t k => XS.bipush X0.here hx rfl (hb hby at_72) k) ?_
      show own_E p e below _ s₁ (mkF m 74 #[iv p1, iv p2, iv ((p1 &&& (2147483647 : Int32)) % (12 : Int32)), iv (p2 &&& (3 : Int32)), iv (((47 : Int32) + ((p1 &&& (2147483647 : Int32)) % (12 : Int32))).toUInt32.toUInt16.toUInt32.toInt32), .unset] [.int 10, .int (((((47 : Int32) + ((p1 &&& (2147483647 : Int32)) % (12 : Int32))).toUInt32.toUInt16.toUInt32.toInt32) - (48 : Int32)) &&& (65535 : Int32))])
      by_cases hc70 : (((((47 : Int32) + ((p1 &&& (2147483647 : Int32)) % (12 : Int32))).toUInt32.toUInt16.toUInt32.toInt32) - (48 : Int32)) &&& (65535 : Int32)) < (10 : Int32)
      · refine own_st (fun t k => XS.icmpNo X0.here hx rfl (hb hby at_74) rfl (tlt hc70).2.1 k) ?_
        show own_E p e below _ s₁ (mkF m 77 #[iv p1, iv p2, iv ((p1 &&& (2147483647 : Int32)) % (12 : Int32)), iv (p2 &&& (3 : Int32)), iv (((47 : Int32) + ((p1 &&& (2147483647 : Int32)) % (12 : Int32))).toUInt32.toUInt16.toUInt32.toInt32), .unset] [])
        refine own_st (fun t k => XS.iconst X0.here hx rfl (hb hby at_77) k) ?_
        show own_E p e below _ s₁ (mkF m 78 #[iv p1, iv p2, iv ((p1 &&& (2147483647 : Int32)) % (12 : Int32)), iv (p2 &&& (3 : Int32)), iv (((47 : Int32) + ((p1 &&& (2147483647 : Int32)) % (12 : Int32))).toUInt32.toUInt16.toUInt32.toInt32), .unset] [.int 1])
        refine own_st (fun t k => XS.goto X0.here hx rfl (pc0 := 78) (pc' := 82) rfl (hb hby at_78) (by decide) (by decide) k) ?_
        show own_E p e below _ s₁ (mkF m 82 #[iv p1, iv p2, iv ((p1 &&& (2147483647 : Int32)) % (12 : Int32)), iv (p2 &&& (3 : Int32)), iv (((47 : Int32) + ((p1 &&& (2147483647 : Int32)) % (12 : Int32))).toUInt32.toUInt16.toUInt32.toInt32), .unset] [.int 1])
        refine own_st (fun t k => XS.istore X0.here hx rfl (hb hby at_82) rfl (l' := #[iv p1, iv p2, iv ((p1 &&& (2147483647 : Int32)) % (12 : Int32)), iv (p2 &&& (3 : Int32)), iv (((47 : Int32) + ((p1 &&& (2147483647 : Int32)) % (12 : Int32))).toUInt32.toUInt16.toUInt32.toInt32), iv 1]) rfl k) ?_
        show own_E p e below _ s₁ (mkF m 84 #[iv p1, iv p2, iv ((p1 &&& (2147483647 : Int32)) % (12 : Int32)), iv (p2 &&& (3 : Int32)), iv (((47 : Int32) + ((p1 &&& (2147483647 : Int32)) % (12 : Int32))).toUInt32.toUInt16.toUInt32.toInt32), iv 1] [])
        refine own_st (fun t k => XS.iload X0.here hx rfl (hb hby at_84) rfl k) ?_
        show own_E p e below _ s₁ (mkF m 86 #[iv p1, iv p2, iv ((p1 &&& (2147483647 : Int32)) % (12 : Int32)), iv (p2 &&& (3 : Int32)), iv (((47 : Int32) + ((p1 &&& (2147483647 : Int32)) % (12 : Int32))).toUInt32.toUInt16.toUInt32.toInt32), iv 1] [.int (((47 : Int32) + ((p1 &&& (2147483647 : Int32)) % (12 : Int32))).toUInt32.toUInt16.toUInt32.toInt32)])
        obtain ⟨_, _, ⟨T71, L71, k71, n71⟩, -, X71, ⟨Lc71, hQ71, l71, y71, z71⟩, st71⟩ := Jvm.LawKit.callS X0 hx (y := own_y0) hown (mvT hZ (own_w hw 2 rfl)) (mvT hZ (own_w hw 3 rfl)) (mvT hZ (own_w hw 4 rfl)) (mvT hZ (own_w hw 5 rfl)) (by decide) (backOf (W := 0) (own_isDigit l Z a0 hw [] (((47 : Int32) + ((p1 &&& (2147483647 : Int32)) % (12 : Int32))).toUInt32.toUInt16.toUInt32.toInt32) h0 n0 Z0 ) hZ (own_w hw 5 rfl) (own_w hw 4 rfl) (by decide) (by decide)) (g := (mkF m 86 #[iv p1, iv p2, iv ((p1 &&& (2147483647 : Int32)) % (12 : Int32)), iv (p2 &&& (3 : Int32)), iv (((47 : Int32) + ((p1 &&& (2147483647 : Int32)) % (12 : Int32))).toUInt32.toUInt16.toUInt32.toInt32), iv 1] [.int (((47 : Int32) + ((p1 &&& (2147483647 : Int32)) % (12 : Int32))).toUInt32.toUInt16.toUInt32.toInt32)])) rfl (by rw [hml]; rfl) (argsL := [(.int (((47 : Int32) + ((p1 &&& (2147483647 : Int32)) % (12 : Int32))).toUInt32.toUInt16.toUInt32.toInt32))]) (rest := []) (lenOf own_pd_0 rfl) rfl (by show 2 * 0 + _ ≤ _; exact Nat.le_of_eq rfl) (hb hby at_86) (fun _ _ => ⟨rfl, e0, (by decide : 0 + 0 ≤ _), (by decide : 0 + 0 ≤ _)⟩)
        dsimp only [Pt.U, Pt.locs, Pt.cells, Pt.slots] at X71 l71 y71 z71 st71 hQ71
        subst l71 y71 z71
        obtain ⟨hR71, e71, rfl⟩ := hQ71
        rcases hR71 with ⟨rfl, ha71_0⟩ | ⟨rfl, ha71_0, ha71_1⟩ | ⟨rfl, ha71_0, ha71_1⟩
        · exfalso
          have f72 := rng32 p2
          have f73 : (3 : Int32).toInt = 3 := rfl
          have f74 := rng32 (p2 &&& (3 : Int32))
          have f75 : (p2 &&& (3 : Int32)).toInt = p2.toInt % 4 := c_mask p2 (3 : Int32) 2 (by decide) (by decide)
          have f76 : (0 : Int32).toInt = 0 := rfl
          have f77 : (1 : Int32).toInt = 1 := rfl
          have f78 : (47 : Int32).toInt = 47 := rfl
          have f79 := rng32 p1
          have f80 : (2147483647 : Int32).toInt = 2147483647 := rfl
          have f81 := rng32 (p1 &&& (2147483647 : Int32))
          have f82 : (p1 &&& (2147483647 : Int32)).toInt = p1.toInt % 2147483648 := c_mask p1 (2147483647 : Int32) 31 (by decide) (by decide)
          have f83 : (12 : Int32).toInt = 12 := rfl
          have f84 := rng32 ((p1 &&& (2147483647 : Int32)) % (12 : Int32))
          have f85 := c_irem (p1 &&& (2147483647 : Int32)) (12 : Int32) 12 rfl
          have f86 := rng32 ((47 : Int32) + ((p1 &&& (2147483647 : Int32)) % (12 : Int32)))
          have f87 := c_iadd (47 : Int32) ((p1 &&& (2147483647 : Int32)) % (12 : Int32))
          have f88 := rng32 (((47 : Int32) + ((p1 &&& (2147483647 : Int32)) % (12 : Int32))).toUInt32.toUInt16.toUInt32.toInt32)
          have f89 := c_i2c ((47 : Int32) + ((p1 &&& (2147483647 : Int32)) % (12 : Int32)))
          have f90 : (48 : Int32).toInt = 48 := rfl
          have f91 := rng32 ((((47 : Int32) + ((p1 &&& (2147483647 : Int32)) % (12 : Int32))).toUInt32.toUInt16.toUInt32.toInt32) - (48 : Int32))
          have f92 := c_isub (((47 : Int32) + ((p1 &&& (2147483647 : Int32)) % (12 : Int32))).toUInt32.toUInt16.toUInt32.toInt32) (48 : Int32)
          have f93 : (65535 : Int32).toInt = 65535 := rfl
          have f94 := rng32 (((((47 : Int32) + ((p1 &&& (2147483647 : Int32)) % (12 : Int32))).toUInt32.toUInt16.toUInt32.toInt32) - (48 : Int32)) &&& (65535 : Int32))
          have f95 : (((((47 : Int32) + ((p1 &&& (2147483647 : Int32)) % (12 : Int32))).toUInt32.toUInt16.toUInt32.toInt32) - (48 : Int32)) &&& (65535 : Int32)).toInt = ((((47 : Int32) + ((p1 &&& (2147483647 : Int32)) % (12 : Int32))).toUInt32.toUInt16.toUInt32.toInt32) - (48 : Int32)).toInt % 65536 := c_mask ((((47 : Int32) + ((p1 &&& (2147483647 : Int32)) % (12 : Int32))).toUInt32.toUInt16.toUInt32.toInt32) - (48 : Int32)) (65535 : Int32) 16 (by decide) (by decide)
          have f96 : (10 : Int32).toInt = 10 := rfl
          have g97 := hc1
          rw [← Int32.toInt_inj] at g97
          have g98 := hc69
          rw [← Int32.toInt_inj] at g98
          have g99 := hc70
          rw [Int32.lt_iff_toInt_lt] at g99
          have g100 := ha71_0
          rw [Int32.lt_iff_toInt_lt] at g100
          omega
        · exfalso
          have f101 := rng32 p2
          have f102 : (3 : Int32).toInt = 3 := rfl
          have f103 := rng32 (p2 &&& (3 : Int32))
          have f104 : (p2 &&& (3 : Int32)).toInt = p2.toInt % 4 := c_mask p2 (3 : Int32) 2 (by decide) (by decide)
          have f105 : (0 : Int32).toInt = 0 := rfl
          have f106 : (1 : Int32).toInt = 1 := rfl
          have f107 : (47 : Int32).toInt = 47 := rfl
          have f108 := rng32 p1
          have f109 : (2147483647 : Int32).toInt = 2147483647 := rfl
          have f110 := rng32 (p1 &&& (2147483647 : Int32))
          have f111 : (p1 &&& (2147483647 : Int32)).toInt = p1.toInt % 2147483648 := c_mask p1 (2147483647 : Int32) 31 (by decide) (by decide)
          have f112 : (12 : Int32).toInt = 12 := rfl
          have f113 := rng32 ((p1 &&& (2147483647 : Int32)) % (12 : Int32))
          have f114 := c_irem (p1 &&& (2147483647 : Int32)) (12 : Int32) 12 rfl
          have f115 := rng32 ((47 : Int32) + ((p1 &&& (2147483647 : Int32)) % (12 : Int32)))
          have f116 := c_iadd (47 : Int32) ((p1 &&& (2147483647 : Int32)) % (12 : Int32))
          have f117 := rng32 (((47 : Int32) + ((p1 &&& (2147483647 : Int32)) % (12 : Int32))).toUInt32.toUInt16.toUInt32.toInt32)
          have f118 := c_i2c ((47 : Int32) + ((p1 &&& (2147483647 : Int32)) % (12 : Int32)))
          have f119 : (48 : Int32).toInt = 48 := rfl
          have f120 := rng32 ((((47 : Int32) + ((p1 &&& (2147483647 : Int32)) % (12 : Int32))).toUInt32.toUInt16.toUInt32.toInt32) - (48 : Int32))
          have f121 := c_isub (((47 : Int32) + ((p1 &&& (2147483647 : Int32)) % (12 : Int32))).toUInt32.toUInt16.toUInt32.toInt32) (48 : Int32)
          have f122 : (65535 : Int32).toInt = 65535 := rfl
          have f123 := rng32 (((((47 : Int32) + ((p1 &&& (2147483647 : Int32)) % (12 : Int32))).toUInt32.toUInt16.toUInt32.toInt32) - (48 : Int32)) &&& (65535 : Int32))
          have f124 : (((((47 : Int32) + ((p1 &&& (2147483647 : Int32)) % (12 : Int32))).toUInt32.toUInt16.toUInt32.toInt32) - (48 : Int32)) &&& (65535 : Int32)).toInt = ((((47 : Int32) + ((p1 &&& (2147483647 : Int32)) % (12 : Int32))).toUInt32.toUInt16.toUInt32.toInt32) - (48 : Int32)).toInt % 65536 := c_mask ((((47 : Int32) + ((p1 &&& (2147483647 : Int32)) % (12 : Int32))).toUInt32.toUInt16.toUInt32.toInt32) - (48 : Int32)) (65535 : Int32) 16 (by decide) (by decide)
          have f125 : (10 : Int32).toInt = 10 := rfl
          have f126 : (57 : Int32).toInt = 57 := rfl
          have g127 := hc1
          rw [← Int32.toInt_inj] at g127
          have g128 := hc69
          rw [← Int32.toInt_inj] at g128
          have g129 := hc70
          rw [Int32.lt_iff_toInt_lt] at g129
          have g130 := ha71_0
          rw [Int32.lt_iff_toInt_lt] at g130
          have g131 := ha71_1
          rw [Int32.lt_iff_toInt_lt] at g131
          omega
        · refine own_st st71 ?_
          show own_E p e below _ T71 (mkF m 89 #[iv p1, iv p2, iv ((p1 &&& (2147483647 : Int32)) % (12 : Int32)), iv (p2 &&& (3 : Int32)), iv (((47 : Int32) + ((p1 &&& (2147483647 : Int32)) % (12 : Int32))).toUInt32.toUInt16.toUInt32.toInt32), iv 1] [.int 1])
          refine own_st (fun t k => XS.iload X71.here hx rfl (hb hby at_89) rfl k) ?_
          show own_E p e below _ T71 (mkF m 91 #[iv p1, iv p2, iv ((p1 &&& (2147483647 : Int32)) % (12 : Int32)), iv (p2 &&& (3 : Int32)), iv (((47 : Int32) + ((p1 &&& (2147483647 : Int32)) % (12 : Int32))).toUInt32.toUInt16.toUInt32.toInt32), iv 1] [.int 1, .int 1])
          refine own_st (fun t k => XS.icmpNo X71.here hx rfl (hb hby at_91) rfl (by decide) k) ?_
          show own_E p e below _ T71 (mkF m 94 #[iv p1, iv p2, iv ((p1 &&& (2147483647 : Int32)) % (12 : Int32)), iv (p2 &&& (3 : Int32)), iv (((47 : Int32) + ((p1 &&& (2147483647 : Int32)) % (12 : Int32))).toUInt32.toUInt16.toUInt32.toInt32), iv 1] [])
          refine own_st (fun t k => XS.iconst X71.here hx rfl (hb hby at_94) k) ?_
          show own_E p e below _ T71 (mkF m 95 #[iv p1, iv p2, iv ((p1 &&& (2147483647 : Int32)) % (12 : Int32)), iv (p2 &&& (3 : Int32)), iv (((47 : Int32) + ((p1 &&& (2147483647 : Int32)) % (12 : Int32))).toUInt32.toUInt16.toUInt32.toInt32), iv 1] [.int 1])
          refine own_st (fun t k => XS.goto X71.here hx rfl (pc0 := 95) (pc' := 99) rfl (hb hby at_95) (by decide) (by decide) k) ?_
          show own_E p e below _ T71 (mkF m 99 #[iv p1, iv p2, iv ((p1 &&& (2147483647 : Int32)) % (12 : Int32)), iv (p2 &&& (3 : Int32)), iv (((47 : Int32) + ((p1 &&& (2147483647 : Int32)) % (12 : Int32))).toUInt32.toUInt16.toUInt32.toInt32), iv 1] [.int 1])
          refine own_retS X71 hx Bd.notSynchronized Bd.returns rfl (by decide) (hb hby at_99) (by decide) (by decide) ?_
          exact ⟨rfl, fun y hy => by simp at hy⟩
      · refine own_st (fun t k => XS.icmpYes X0.here hx rfl (pc0 := 74) (pc' := 81) rfl (hb hby at_74) rfl (flt hc70).2.1 (by decide) (by decide) k) ?_
        show own_E p e below _ s₁ (mkF m 81 #[iv p1, iv p2, iv ((p1 &&& (2147483647 : Int32)) % (12 : Int32)), iv (p2 &&& (3 : Int32)), iv (((47 : Int32) + ((p1 &&& (2147483647 : Int32)) % (12 : Int32))).toUInt32.toUInt16.toUInt32.toInt32), .unset] [])
        refine own_st (fun t k => XS.iconst X0.here hx rfl (hb hby at_81) k) ?_
        show own_E p e below _ s₁ (mkF m 82 #[iv p1, iv p2, iv ((p1 &&& (2147483647 : Int32)) % (12 : Int32)), iv (p2 &&& (3 : Int32)), iv (((47 : Int32) + ((p1 &&& (2147483647 : Int32)) % (12 : Int32))).toUInt32.toUInt16.toUInt32.toInt32), .unset] [.int 0])
        refine own_st (fun t k => XS.istore X0.here hx rfl (hb hby at_82) rfl (l' := #[iv p1, iv p2, iv ((p1 &&& (2147483647 : Int32)) % (12 : Int32)), iv (p2 &&& (3 : Int32)), iv (((47 : Int32) + ((p1 &&& (2147483647 : Int32)) % (12 : Int32))).toUInt32.toUInt16.toUInt32.toInt32), iv 0]) rfl k) ?_
        show own_E p e below _ s₁ (mkF m 84 #[iv p1, iv p2, iv ((p1 &&& (2147483647 : Int32)) % (12 : Int32)), iv (p2 &&& (3 : Int32)), iv (((47 : Int32) + ((p1 &&& (2147483647 : Int32)) % (12 : Int32))).toUInt32.toUInt16.toUInt32.toInt32), iv 0] [])
        refine own_st (fun t k => XS.iload X0.here hx rfl (hb hby at_84) rfl k) ?_
        show own_E p e below _ s₁ (mkF m 86 #[iv p1, iv p2, iv ((p1 &&& (2147483647 : Int32)) % (12 : Int32)), iv (p2 &&& (3 : Int32)), iv (((47 : Int32) + ((p1 &&& (2147483647 : Int32)) % (12 : Int32))).toUInt32.toUInt16.toUInt32.toInt32), iv 0] [.int (((47 : Int32) + ((p1 &&& (2147483647 : Int32)) % (12 : Int32))).toUInt32.toUInt16.toUInt32.toInt32)])
        obtain ⟨_, _, ⟨T132, L132, k132, n132⟩, -, X132, ⟨Lc132, hQ132, l132, y132, z132⟩, st132⟩ := Jvm.LawKit.callS X0 hx (y := own_y0) hown (mvT hZ (own_w hw 2 rfl)) (mvT hZ (own_w hw 3 rfl)) (mvT hZ (own_w hw 4 rfl)) (mvT hZ (own_w hw 5 rfl)) (by decide) (backOf (W := 0) (own_isDigit l Z a0 hw [] (((47 : Int32) + ((p1 &&& (2147483647 : Int32)) % (12 : Int32))).toUInt32.toUInt16.toUInt32.toInt32) h0 n0 Z0 ) hZ (own_w hw 5 rfl) (own_w hw 4 rfl) (by decide) (by decide)) (g := (mkF m 86 #[iv p1, iv p2, iv ((p1 &&& (2147483647 : Int32)) % (12 : Int32)), iv (p2 &&& (3 : Int32)), iv (((47 : Int32) + ((p1 &&& (2147483647 : Int32)) % (12 : Int32))).toUInt32.toUInt16.toUInt32.toInt32), iv 0] [.int (((47 : Int32) + ((p1 &&& (2147483647 : Int32)) % (12 : Int32))).toUInt32.toUInt16.toUInt32.toInt32)])) rfl (by rw [hml]; rfl) (argsL := [(.int (((47 : Int32) + ((p1 &&& (2147483647 : Int32)) % (12 : Int32))).toUInt32.toUInt16.toUInt32.toInt32))]) (rest := []) (lenOf own_pd_0 rfl) rfl (by show 2 * 0 + _ ≤ _; exact Nat.le_of_eq rfl) (hb hby at_86) (fun _ _ => ⟨rfl, e0, (by decide : 0 + 0 ≤ _), (by decide : 0 + 0 ≤ _)⟩)
        dsimp only [Pt.U, Pt.locs, Pt.cells, Pt.slots] at X132 l132 y132 z132 st132 hQ132
        subst l132 y132 z132
        obtain ⟨hR132, e132, rfl⟩ := hQ132
        rcases hR132 with ⟨rfl, ha132_0⟩ | ⟨rfl, ha132_0, ha132_1⟩ | ⟨rfl, ha132_0, ha132_1⟩
        · refine own_st st132 ?_
          show own_E p e below _ T132 (mkF m 89 #[iv p1, iv p2, iv ((p1 &&& (2147483647 : Int32)) % (12 : Int32)), iv (p2 &&& (3 : Int32)), iv (((47 : Int32) + ((p1 &&& (2147483647 : Int32)) % (12 : Int32))).toUInt32.toUInt16.toUInt32.toInt32), iv 0] [.int 0])
          refine own_st (fun t k => XS.iload X132.here hx rfl (hb hby at_89) rfl k) ?_
          show own_E p e below _ T132 (mkF m 91 #[iv p1, iv p2, iv ((p1 &&& (2147483647 : Int32)) % (12 : Int32)), iv (p2 &&& (3 : Int32)), iv (((47 : Int32) + ((p1 &&& (2147483647 : Int32)) % (12 : Int32))).toUInt32.toUInt16.toUInt32.toInt32), iv 0] [.int 0, .int 0])
          refine own_st (fun t k => XS.icmpNo X132.here hx rfl (hb hby at_91) rfl (by decide) k) ?_
          show own_E p e below _ T132 (mkF m 94 #[iv p1, iv p2, iv ((p1 &&& (2147483647 : Int32)) % (12 : Int32)), iv (p2 &&& (3 : Int32)), iv (((47 : Int32) + ((p1 &&& (2147483647 : Int32)) % (12 : Int32))).toUInt32.toUInt16.toUInt32.toInt32), iv 0] [])
          refine own_st (fun t k => XS.iconst X132.here hx rfl (hb hby at_94) k) ?_
          show own_E p e below _ T132 (mkF m 95 #[iv p1, iv p2, iv ((p1 &&& (2147483647 : Int32)) % (12 : Int32)), iv (p2 &&& (3 : Int32)), iv (((47 : Int32) + ((p1 &&& (2147483647 : Int32)) % (12 : Int32))).toUInt32.toUInt16.toUInt32.toInt32), iv 0] [.int 1])
          refine own_st (fun t k => XS.goto X132.here hx rfl (pc0 := 95) (pc' := 99) rfl (hb hby at_95) (by decide) (by decide) k) ?_
          show own_E p e below _ T132 (mkF m 99 #[iv p1, iv p2, iv ((p1 &&& (2147483647 : Int32)) % (12 : Int32)), iv (p2 &&& (3 : Int32)), iv (((47 : Int32) + ((p1 &&& (2147483647 : Int32)) % (12 : Int32))).toUInt32.toUInt16.toUInt32.toInt32), iv 0] [.int 1])
          refine own_retS X132 hx Bd.notSynchronized Bd.returns rfl (by decide) (hb hby at_99) (by decide) (by decide) ?_
          exact ⟨rfl, fun y hy => by simp at hy⟩
        · refine own_st st132 ?_
          show own_E p e below _ T132 (mkF m 89 #[iv p1, iv p2, iv ((p1 &&& (2147483647 : Int32)) % (12 : Int32)), iv (p2 &&& (3 : Int32)), iv (((47 : Int32) + ((p1 &&& (2147483647 : Int32)) % (12 : Int32))).toUInt32.toUInt16.toUInt32.toInt32), iv 0] [.int 0])
          refine own_st (fun t k => XS.iload X132.here hx rfl (hb hby at_89) rfl k) ?_
          show own_E p e below _ T132 (mkF m 91 #[iv p1, iv p2, iv ((p1 &&& (2147483647 : Int32)) % (12 : Int32)), iv (p2 &&& (3 : Int32)), iv (((47 : Int32) + ((p1 &&& (2147483647 : Int32)) % (12 : Int32))).toUInt32.toUInt16.toUInt32.toInt32), iv 0] [.int 0, .int 0])
          refine own_st (fun t k => XS.icmpNo X132.here hx rfl (hb hby at_91) rfl (by decide) k) ?_
          show own_E p e below _ T132 (mkF m 94 #[iv p1, iv p2, iv ((p1 &&& (2147483647 : Int32)) % (12 : Int32)), iv (p2 &&& (3 : Int32)), iv (((47 : Int32) + ((p1 &&& (2147483647 : Int32)) % (12 : Int32))).toUInt32.toUInt16.toUInt32.toInt32), iv 0] [])
          refine own_st (fun t k => XS.iconst X132.here hx rfl (hb hby at_94) k) ?_
          show own_E p e below _ T132 (mkF m 95 #[iv p1, iv p2, iv ((p1 &&& (2147483647 : Int32)) % (12 : Int32)), iv (p2 &&& (3 : Int32)), iv (((47 : Int32) + ((p1 &&& (2147483647 : Int32)) % (12 : Int32))).toUInt32.toUInt16.toUInt32.toInt32), iv 0] [.int 1])
          refine own_st (fun t k => XS.goto X132.here hx rfl (pc0 := 95) (pc' := 99) rfl (hb hby at_95) (by decide) (by decide) k) ?_
          show own_E p e below _ T132 (mkF m 99 #[iv p1, iv p2, iv ((p1 &&& (2147483647 : Int32)) % (12 : Int32)), iv (p2 &&& (3 : Int32)), iv (((47 : Int32) + ((p1 &&& (2147483647 : Int32)) % (12 : Int32))).toUInt32.toUInt16.toUInt32.toInt32), iv 0] [.int 1])
          refine own_retS X132 hx Bd.notSynchronized Bd.returns rfl (by decide) (hb hby at_99) (by decide) (by decide) ?_
          exact ⟨rfl, fun y hy => by simp at hy⟩
        · exfalso
          have f133 := rng32 p2
          have f134 : (3 : Int32).toInt = 3 := rfl
          have f135 := rng32 (p2 &&& (3 : Int32))
          have f136 : (p2 &&& (3 : Int32)).toInt = p2.toInt % 4 := c_mask p2 (3 : Int32) 2 (by decide) (by decide)
          have f137 : (0 : Int32).toInt = 0 := rfl
          have f138 : (1 : Int32).toInt = 1 := rfl
          have f139 : (47 : Int32).toInt = 47 := rfl
          have f140 := rng32 p1
          have f141 : (2147483647 : Int32).toInt = 2147483647 := rfl
          have f142 := rng32 (p1 &&& (2147483647 : Int32))
          have f143 : (p1 &&& (2147483647 : Int32)).toInt = p1.toInt % 2147483648 := c_mask p1 (2147483647 : Int32) 31 (by decide) (by decide)
          have f144 : (12 : Int32).toInt = 12 := rfl
          have f145 := rng32 ((p1 &&& (2147483647 : Int32)) % (12 : Int32))
          have f146 := c_irem (p1 &&& (2147483647 : Int32)) (12 : Int32) 12 rfl
          have f147 := rng32 ((47 : Int32) + ((p1 &&& (2147483647 : Int32)) % (12 : Int32)))
          have f148 := c_iadd (47 : Int32) ((p1 &&& (2147483647 : Int32)) % (12 : Int32))
          have f149 := rng32 (((47 : Int32) + ((p1 &&& (2147483647 : Int32)) % (12 : Int32))).toUInt32.toUInt16.toUInt32.toInt32)
          have f150 := c_i2c ((47 : Int32) + ((p1 &&& (2147483647 : Int32)) % (12 : Int32)))
          have f151 : (48 : Int32).toInt = 48 := rfl
          have f152 := rng32 ((((47 : Int32) + ((p1 &&& (2147483647 : Int32)) % (12 : Int32))).toUInt32.toUInt16.toUInt32.toInt32) - (48 : Int32))
          have f153 := c_isub (((47 : Int32) + ((p1 &&& (2147483647 : Int32)) % (12 : Int32))).toUInt32.toUInt16.toUInt32.toInt32) (48 : Int32)
          have f154 : (65535 : Int32).toInt = 65535 := rfl
          have f155 := rng32 (((((47 : Int32) + ((p1 &&& (2147483647 : Int32)) % (12 : Int32))).toUInt32.toUInt16.toUInt32.toInt32) - (48 : Int32)) &&& (65535 : Int32))
          have f156 : (((((47 : Int32) + ((p1 &&& (2147483647 : Int32)) % (12 : Int32))).toUInt32.toUInt16.toUInt32.toInt32) - (48 : Int32)) &&& (65535 : Int32)).toInt = ((((47 : Int32) + ((p1 &&& (2147483647 : Int32)) % (12 : Int32))).toUInt32.toUInt16.toUInt32.toInt32) - (48 : Int32)).toInt % 65536 := c_mask ((((47 : Int32) + ((p1 &&& (2147483647 : Int32)) % (12 : Int32))).toUInt32.toUInt16.toUInt32.toInt32) - (48 : Int32)) (65535 : Int32) 16 (by decide) (by decide)
          have f157 : (10 : Int32).toInt = 10 := rfl
          have f158 : (57 : Int32).toInt = 57 := rfl
          have g159 := hc1
          rw [← Int32.toInt_inj] at g159
          have g160 := hc69
          rw [← Int32.toInt_inj] at g160
          have g161 := hc70
          rw [Int32.lt_iff_toInt_lt] at g161
          have g162 := ha132_0
          rw [Int32.lt_iff_toInt_lt] at g162
          have g163 := ha132_1
          rw [Int32.lt_iff_toInt_lt] at g163
          omega
    · refine own_st (fun t k => XS.icmpYes X0.here hx rfl (pc0 := 28) (pc' := 41) rfl (hb hby at_28) rfl (feq hc69).2 (by decide) (by decide) k) ?_
      show own_E p e below _ s₁ (mkF m 41 #[iv p1, iv p2, iv ((p1 &&& (2147483647 : Int32)) % (12 : Int32)), iv (p2 &&& (3 : Int32)), .unset, .unset] [])
      refine own_st (fun t k => XS.iloadN X0.here hx rfl (hb hby at_41) rfl k) ?_
      show own_E p e below _ s₁ (mkF m 42 #[iv p1, iv p2, iv ((p1 &&& (2147483647 : Int32)) % (12 : Int32)), iv (p2 &&& (3 : Int32)), .unset, .unset] [.int (p2 &&& (3 : Int32))])
      refine own_st (fun t k => XS.iconst X0.here hx rfl (hb hby at_42) k) ?_
      show own_E p e below _ s₁ (mkF m 43 #[iv p1, iv p2, iv ((p1 &&& (2147483647 : Int32)) % (12 : Int32)), iv (p2 &&& (3 : Int32)), .unset, .unset] [.int 2, .int (p2 &&& (3 : Int32))])
      by_cases hc164 : (p2 &&& (3 : Int32)) = (2 : Int32)
      · refine own_st (fun t k => XS.icmpNo X0.here hx rfl (hb hby at_43) rfl (teq hc164).2 k) ?_
        show own_E p e below _ s₁ (mkF m 46 #[iv p1, iv p2, iv ((p1 &&& (2147483647 : Int32)) % (12 : Int32)), iv (p2 &&& (3 : Int32)), .unset, .unset] [])
        refine own_st (X0.ldcInt hx hown (mvT hZ (own_w hw 6 rfl)) (g := (mkF m 46 #[iv p1, iv p2, iv ((p1 &&& (2147483647 : Int32)) % (12 : Int32)), iv (p2 &&& (3 : Int32)), .unset, .unset] [])) rfl (hb hby at_46)) ?_
        show own_E p e below _ s₁ (mkF m 48 #[iv p1, iv p2, iv ((p1 &&& (2147483647 : Int32)) % (12 : Int32)), iv (p2 &&& (3 : Int32)), .unset, .unset] [.int 65295])
        refine own_st (fun t k => XS.iloadN X0.here hx rfl (hb hby at_48) rfl k) ?_
        show own_E p e below _ s₁ (mkF m 49 #[iv p1, iv p2, iv ((p1 &&& (2147483647 : Int32)) % (12 : Int32)), iv (p2 &&& (3 : Int32)), .unset, .unset] [.int ((p1 &&& (2147483647 : Int32)) % (12 : Int32)), .int 65295])
        refine own_st (fun t k => XS.iadd X0.here hx rfl (hb hby at_49) rfl k) ?_
        show own_E p e below _ s₁ (mkF m 50 #[iv p1, iv p2, iv ((p1 &&& (2147483647 : Int32)) % (12 : Int32)), iv (p2 &&& (3 : Int32)), .unset, .unset] [.int ((65295 : Int32) + ((p1 &&& (2147483647 : Int32)) % (12 : Int32)))])
        refine own_st (fun t k => XS.i2c X0.here hx rfl (hb hby at_50) rfl k) ?_
        show own_E p e below _ s₁ (mkF m 51 #[iv p1, iv p2, iv ((p1 &&& (2147483647 : Int32)) % (12 : Int32)), iv (p2 &&& (3 : Int32)), .unset, .unset] [.int (((65295 : Int32) + ((p1 &&& (2147483647 : Int32)) % (12 : Int32))).toUInt32.toUInt16.toUInt32.toInt32)])
        refine own_st (fun t k => XS.istore X0.here hx rfl (hb hby at_51) rfl (l' := #[iv p1, iv p2, iv ((p1 &&& (2147483647 : Int32)) % (12 : Int32)), iv (p2 &&& (3 : Int32)), iv (((65295 : Int32) + ((p1 &&& (2147483647 : Int32)) % (12 : Int32))).toUInt32.toUInt16.toUInt32.toInt32), .unset]) rfl k) ?_
        show own_E p e below _ s₁ (mkF m 53 #[iv p1, iv p2, iv ((p1 &&& (2147483647 : Int32)) % (12 : Int32)), iv (p2 &&& (3 : Int32)), iv (((65295 : Int32) + ((p1 &&& (2147483647 : Int32)) % (12 : Int32))).toUInt32.toUInt16.toUInt32.toInt32), .unset] [])
        refine own_st (fun t k => XS.goto X0.here hx rfl (pc0 := 53) (pc' := 64) rfl (hb hby at_53) (by decide) (by decide) k) ?_
        show own_E p e below _ s₁ (mkF m 64 #[iv p1, iv p2, iv ((p1 &&& (2147483647 : Int32)) % (12 : Int32)), iv (p2 &&& (3 : Int32)), iv (((65295 : Int32) + ((p1 &&& (2147483647 : Int32)) % (12 : Int32))).toUInt32.toUInt16.toUInt32.toInt32), .unset] [])
        refine own_st (fun t k => XS.iload X0.here hx rfl (hb hby at_64) rfl k) ?_
        show own_E p e below _ s₁ (mkF m 66 #[iv p1, iv p2, iv ((p1 &&& (2147483647 : Int32)) % (12 : Int32)), iv (p2 &&& (3 : Int32)), iv (((65295 : Int32) + ((p1 &&& (2147483647 : Int32)) % (12 : Int32))).toUInt32.toUInt16.toUInt32.toInt32), .unset] [.int (((65295 : Int32) + ((p1 &&& (2147483647 : Int32)) % (12 : Int32))).toUInt32.toUInt16.toUInt32.toInt32)])
        refine own_st (fun t k => XS.bipush X0.here hx rfl (hb hby at_66) k) ?_
        show own_E p e below _ s₁ (mkF m 68 #[iv p1, iv p2, iv ((p1 &&& (2147483647 : Int32)) % (12 : Int32)), iv (p2 &&& (3 : Int32)), iv (((65295 : Int32) + ((p1 &&& (2147483647 : Int32)) % (12 : Int32))).toUInt32.toUInt16.toUInt32.toInt32), .unset] [.int 48, .int (((65295 : Int32) + ((p1 &&& (2147483647 : Int32)) % (12 : Int32))).toUInt32.toUInt16.toUInt32.toInt32)])
        refine own_st (fun t k => XS.isub X0.here hx rfl (hb hby at_68) rfl k) ?_
        show own_E p e below _ s₁ (mkF m 69 #[iv p1, iv p2, iv ((p1 &&& (2147483647 : Int32)) % (12 : Int32)), iv (p2 &&& (3 : Int32)), iv (((65295 : Int32) + ((p1 &&& (2147483647 : Int32)) % (12 : Int32))).toUInt32.toUInt16.toUInt32.toInt32), .unset] [.int ((((65295 : Int32) + ((p1 &&& (2147483647 : Int32)) % (12 : Int32))).toUInt32.toUInt16.toUInt32.toInt32) - (48 : Int32))])
        refine own_st (X0.ldcInt hx hown (mvT hZ (own_w hw 1 rfl)) (g := (mkF m 69 #[iv p1, iv p2, iv ((p1 &&& (2147483647 : Int32)) % (12 : Int32)), iv (p2 &&& (3 : Int32)), iv (((65295 : Int32) + ((p1 &&& (2147483647 : Int32)) % (12 : Int32))).toUInt32.toUInt16.toUInt32.toInt32), .unset] [.int ((((65295 : Int32) + ((p1 &&& (2147483647 : Int32)) % (12 : Int32))).toUInt32.toUInt16.toUInt32.toInt32) - (48 : Int32))])) rfl (hb hby at_69)) ?_
        show own_E p e below _ s₁ (mkF m 71 #[iv p1, iv p2, iv ((p1 &&& (2147483647 : Int32)) % (12 : Int32)), iv (p2 &&& (3 : Int32)), iv (((65295 : Int32) + ((p1 &&& (2147483647 : Int32)) % (12 : Int32))).toUInt32.toUInt16.toUInt32.toInt32), .unset] [.int 65535, .int ((((65295 : Int32) + ((p1 &&& (2147483647 : Int32)) % (12 : Int32))).toUInt32.toUInt16.toUInt32.toInt32) - (48 : Int32))])
        refine own_st (fun t k => XS.iand X0.here hx rfl (hb hby at_71) rfl k) ?_
        show own_E p e below _ s₁ (mkF m 72 #[iv p1, iv p2, iv ((p1 &&& (2147483647 : Int32)) % (12 : Int32)), iv (p2 &&& (3 : Int32)), iv (((65295 : Int32) + ((p1 &&& (2147483647 : Int32)) % (12 : Int32))).toUInt32.toUInt16.toUInt32.toInt32), .unset] [.int (((((65295 : Int32) + ((p1 &&& (2147483647 : Int32)) % (12 : Int32))).toUInt32.toUInt16.toUInt32.toInt32) - (48 : Int32)) &&& (65535 : Int32))])
        refine own_st (fun t k => XS.bipush X0.here hx rfl (hb hby at_72) k) ?_
        show own_E p e below _ s₁ (mkF m 74 #[iv p1, iv p2, iv ((p1 &&& (2147483647 : Int32)) % (12 : Int32)), iv (p2 &&& (3 : Int32)), iv (((65295 : Int32) + ((p1 &&& (2147483647 : Int32)) % (12 : Int32))).toUInt32.toUInt16.toUInt32.toInt32), .unset] [.int 10, .int (((((65295 : Int32) + ((p1 &&& (2147483647 : Int32)) % (12 : Int32))).toUInt32.toUInt16.toUInt32.toInt32) - (48 : Int32)) &&& (65535 : Int32))])
        by_cases hc165 : (((((65295 : Int32) + ((p1 &&& (2147483647 : Int32)) % (12 : Int32))).toUInt32.toUInt16.toUInt32.toInt32) - (48 : Int32)) &&& (65535 : Int32)) < (10 : Int32)
        · exfalso
          have f166 := rng32 p2
          have f167 : (3 : Int32).toInt = 3 := rfl
          have f168 := rng32 (p2 &&& (3 : Int32))
          have f169 : (p2 &&& (3 : Int32)).toInt = p2.toInt % 4 := c_mask p2 (3 : Int32) 2 (by decide) (by decide)
          have f170 : (0 : Int32).toInt = 0 := rfl
          have f171 : (1 : Int32).toInt = 1 := rfl
          have f172 : (2 : Int32).toInt = 2 := rfl
          have f173 : (65295 : Int32).toInt = 65295 := rfl
          have f174 := rng32 p1
          have f175 : (2147483647 : Int32).toInt = 2147483647 := rfl
          have f176 := rng32 (p1 &&& (2147483647 : Int32))
          have f177 : (p1 &&& (2147483647 : Int32)).toInt = p1.toInt % 2147483648 := c_mask p1 (2147483647 : Int32) 31 (by decide) (by decide)
          have f178 : (12 : Int32).toInt = 12 := rfl
          have f179 := rng32 ((p1 &&& (2147483647 : Int32)) % (12 : Int32))
          have f180 := c_irem (p1 &&& (2147483647 : Int32)) (12 : Int32) 12 rfl
          have f181 := rng32 ((65295 : Int32) + ((p1 &&& (2147483647 : Int32)) % (12 : Int32)))
          have f182 := c_iadd (65295 : Int32) ((p1 &&& (2147483647 : Int32)) % (12 : Int32))
          have f183 := rng32 (((65295 : Int32) + ((p1 &&& (2147483647 : Int32)) % (12 : Int32))).toUInt32.toUInt16.toUInt32.toInt32)
          have f184 := c_i2c ((65295 : Int32) + ((p1 &&& (2147483647 : Int32)) % (12 : Int32)))
          have f185 : (48 : Int32).toInt = 48 := rfl
          have f186 := rng32 ((((65295 : Int32) + ((p1 &&& (2147483647 : Int32)) % (12 : Int32))).toUInt32.toUInt16.toUInt32.toInt32) - (48 : Int32))
          have f187 := c_isub (((65295 : Int32) + ((p1 &&& (2147483647 : Int32)) % (12 : Int32))).toUInt32.toUInt16.toUInt32.toInt32) (48 : Int32)
          have f188 : (65535 : Int32).toInt = 65535 := rfl
          have f189 := rng32 (((((65295 : Int32) + ((p1 &&& (2147483647 : Int32)) % (12 : Int32))).toUInt32.toUInt16.toUInt32.toInt32) - (48 : Int32)) &&& (65535 : Int32))
          have f190 : (((((65295 : Int32) + ((p1 &&& (2147483647 : Int32)) % (12 : Int32))).toUInt32.toUInt16.toUInt32.toInt32) - (48 : Int32)) &&& (65535 : Int32)).toInt = ((((65295 : Int32) + ((p1 &&& (2147483647 : Int32)) % (12 : Int32))).toUInt32.toUInt16.toUInt32.toInt32) - (48 : Int32)).toInt % 65536 := c_mask ((((65295 : Int32) + ((p1 &&& (2147483647 : Int32)) % (12 : Int32))).toUInt32.toUInt16.toUInt32.toInt32) - (48 : Int32)) (65535 : Int32) 16 (by decide) (by decide)
          have f191 : (10 : Int32).toInt = 10 := rfl
          have g192 := hc1
          rw [← Int32.toInt_inj] at g192
          have g193 := hc69
          rw [← Int32.toInt_inj] at g193
          have g194 := hc164
          rw [← Int32.toInt_inj] at g194
          have g195 := hc165
          rw [Int32.lt_iff_toInt_lt] at g195
          omega
        · refine own_st (fun t k => XS.icmpYes X0.here hx rfl (pc0 := 74) (pc' := 81) rfl (hb hby at_74) rfl (flt hc165).2.1 (by decide) (by decide) k) ?_
          show own_E p e below _ s₁ (mkF m 81 #[iv p1, iv p2, iv ((p1 &&& (2147483647 : Int32)) % (12 : Int32)), iv (p2 &&& (3 : Int32)), iv (((65295 : Int32) + ((p1 &&& (2147483647 : Int32)) % (12 : Int32))).toUInt32.toUInt16.toUInt32.toInt32), .unset] [])
          refine own_st (fun t k => XS.iconst X0.here hx rfl (hb hby at_81) k) ?_
          show own_E p e below _ s₁ (mkF m 82 #[iv p1, iv p2, iv ((p1 &&& (2147483647 : Int32)) % (12 : Int32)), iv (p2 &&& (3 : Int32)), iv (((65295 : Int32) + ((p1 &&& (2147483647 : Int32)) % (12 : Int32))).toUInt32.toUInt16.toUInt32.toInt32), .unset] [.int 0])
          refine own_st (fun t k => XS.istore X0.here hx rfl (hb hby at_82) rfl (l' := #[iv p1, iv p2, iv ((p1 &&& (2147483647 : Int32)) % (12 : Int32)), iv (p2 &&& (3 : Int32)), iv (((65295 : Int32) + ((p1 &&& (2147483647 : Int32)) % (12 : Int32))).toUInt32.toUInt16.toUInt32.toInt32), iv 0]) rfl k) ?_
          show own_E p e below _ s₁ (mkF m 84 #[iv p1, iv p2, iv ((p1 &&& (2147483647 : Int32)) % (12 : Int32)), iv (p2 &&& (3 : Int32)), iv (((65295 : Int32) + ((p1 &&& (2147483647 : Int32)) % (12 : Int32))).toUInt32.toUInt16.toUInt32.toInt32), iv 0] [])
          refine own_st (fun t k => XS.iload X0.here hx rfl (hb hby at_84) rfl k) ?_
          show own_E p e below _ s₁ (mkF m 86 #[iv p1, iv p2, iv ((p1 &&& (2147483647 : Int32)) % (12 : Int32)), iv (p2 &&& (3 : Int32)), iv (((65295 : Int32) + ((p1 &&& (2147483647 : Int32)) % (12 : Int32))).toUInt32.toUInt16.toUInt32.toInt32), iv 0] [.int (((65295 : Int32) + ((p1 &&& (2147483647 : Int32)) % (12 : Int32))).toUInt32.toUInt16.toUInt32.toInt32)])
          obtain ⟨_, _, ⟨T196, L196, k196, n196⟩, -, X196, ⟨Lc196, hQ196, l196, y196, z196⟩, st196⟩ := Jvm.LawKit.callS X0 hx (y := own_y0) hown (mvT hZ (own_w hw 2 rfl)) (mvT hZ (own_w hw 3 rfl)) (mvT hZ (own_w hw 4 rfl)) (mvT hZ (own_w hw 5 rfl)) (by decide) (backOf (W := 0) (own_isDigit l Z a0 hw [] (((65295 : Int32) + ((p1 &&& (2147483647 : Int32)) % (12 : Int32))).toUInt32.toUInt16.toUInt32.toInt32) h0 n0 Z0 ) hZ (own_w hw 5 rfl) (own_w hw 4 rfl) (by decide) (by decide)) (g := (mkF m 86 #[iv p1, iv p2, iv ((p1 &&& (2147483647 : Int32)) % (12 : Int32)), iv (p2 &&& (3 : Int32)), iv (((65295 : Int32) + ((p1 &&& (2147483647 : Int32)) % (12 : Int32))).toUInt32.toUInt16.toUInt32.toInt32), iv 0] [.int (((65295 : Int32) + ((p1 &&& (2147483647 : Int32)) % (12 : Int32))).toUInt32.toUInt16.toUInt32.toInt32)])) rfl (by rw [hml]; rfl) (argsL := [(.int (((65295 : Int32) + ((p1 &&& (2147483647 : Int32)) % (12 : Int32))).toUInt32.toUInt16.toUInt32.toInt32))]) (rest := []) (lenOf own_pd_0 rfl) rfl (by show 2 * 0 + _ ≤ _; exact Nat.le_of_eq rfl) (hb hby at_86) (fun _ _ => ⟨rfl, e0, (by decide : 0 + 0 ≤ _), (by decide : 0 + 0 ≤ _)⟩)
          dsimp only [Pt.U, Pt.locs, Pt.cells, Pt.slots] at X196 l196 y196 z196 st196 hQ196
          subst l196 y196 z196
          obtain ⟨hR196, e196, rfl⟩ := hQ196
          rcases hR196 with ⟨rfl, ha196_0⟩ | ⟨rfl, ha196_0, ha196_1⟩ | ⟨rfl, ha196_0, ha196_1⟩
          · exfalso
            have f197 := rng32 p2
            have f198 : (3 : Int32).toInt = 3 := rfl
            have f199 := rng32 (p2 &&& (3 : Int32))
            have f200 : (p2 &&& (3 : Int32)).toInt = p2.toInt % 4 := c_mask p2 (3 : Int32) 2 (by decide) (by decide)
            have f201 : (0 : Int32).toInt = 0 := rfl
            have f202 : (1 : Int32).toInt = 1 := rfl
            have f203 : (2 : Int32).toInt = 2 := rfl
            have f204 : (65295 : Int32).toInt = 65295 := rfl
            have f205 := rng32 p1
            have f206 : (2147483647 : Int32).toInt = 2147483647 := rfl
            have f207 := rng32 (p1 &&& (2147483647 : Int32))
            have f208 : (p1 &&& (2147483647 : Int32)).toInt = p1.toInt % 2147483648 := c_mask p1 (2147483647 : Int32) 31 (by decide) (by decide)
            have f209 : (12 : Int32).toInt = 12 := rfl
            have f210 := rng32 ((p1 &&& (2147483647 : Int32)) % (12 : Int32))
            have f211 := c_irem (p1 &&& (2147483647 : Int32)) (12 : Int32) 12 rfl
            have f212 := rng32 ((65295 : Int32) + ((p1 &&& (2147483647 : Int32)) % (12 : Int32)))
            have f213 := c_iadd (65295 : Int32) ((p1 &&& (2147483647 : Int32)) % (12 : Int32))
            have f214 := rng32 (((65295 : Int32) + ((p1 &&& (2147483647 : Int32)) % (12 : Int32))).toUInt32.toUInt16.toUInt32.toInt32)
            have f215 := c_i2c ((65295 : Int32) + ((p1 &&& (2147483647 : Int32)) % (12 : Int32)))
            have f216 : (48 : Int32).toInt = 48 := rfl
            have f217 := rng32 ((((65295 : Int32) + ((p1 &&& (2147483647 : Int32)) % (12 : Int32))).toUInt32.toUInt16.toUInt32.toInt32) - (48 : Int32))
            have f218 := c_isub (((65295 : Int32) + ((p1 &&& (2147483647 : Int32)) % (12 : Int32))).toUInt32.toUInt16.toUInt32.toInt32) (48 : Int32)
            have f219 : (65535 : Int32).toInt = 65535 := rfl
            have f220 := rng32 (((((65295 : Int32) + ((p1 &&& (2147483647 : Int32)) % (12 : Int32))).toUInt32.toUInt16.toUInt32.toInt32) - (48 : Int32)) &&& (65535 : Int32))
            have f221 : (((((65295 : Int32) + ((p1 &&& (2147483647 : Int32)) % (12 : Int32))).toUInt32.toUInt16.toUInt32.toInt32) - (48 : Int32)) &&& (65535 : Int32)).toInt = ((((65295 : Int32) + ((p1 &&& (2147483647 : Int32)) % (12 : Int32))).toUInt32.toUInt16.toUInt32.toInt32) - (48 : Int32)).toInt % 65536 := c_mask ((((65295 : Int32) + ((p1 &&& (2147483647 : Int32)) % (12 : Int32))).toUInt32.toUInt16.toUInt32.toInt32) - (48 : Int32)) (65535 : Int32) 16 (by decide) (by decide)
            have f222 : (10 : Int32).toInt = 10 := rfl
            have g223 := hc1
            rw [← Int32.toInt_inj] at g223
            have g224 := hc69
            rw [← Int32.toInt_inj] at g224
            have g225 := hc164
            rw [← Int32.toInt_inj] at g225
            have g226 := hc165
            rw [Int32.lt_iff_toInt_lt] at g226
            have g227 := ha196_0
            rw [Int32.lt_iff_toInt_lt] at g227
            omega
          · refine own_st st196 ?_
            show own_E p e below _ T196 (mkF m 89 #[iv p1, iv p2, iv ((p1 &&& (2147483647 : Int32)) % (12 : Int32)), iv (p2 &&& (3 : Int32)), iv (((65295 : Int32) + ((p1 &&& (2147483647 : Int32)) % (12 : Int32))).toUInt32.toUInt16.toUInt32.toInt32), iv 0] [.int 0])
            refine own_st (fun t k => XS.iload X196.here hx rfl (hb hby at_89) rfl k) ?_
            show own_E p e below _ T196 (mkF m 91 #[iv p1, iv p2, iv ((p1 &&& (2147483647 : Int32)) % (12 : Int32)), iv (p2 &&& (3 : Int32)), iv (((65295 : Int32) + ((p1 &&& (2147483647 : Int32)) % (12 : Int32))).toUInt32.toUInt16.toUInt32.toInt32), iv 0] [.int 0, .int 0])
            refine own_st (fun t k => XS.icmpNo X196.here hx rfl (hb hby at_91) rfl (by decide) k) ?_
            show own_E p e below _ T196 (mkF m 94 #[iv p1, iv p2, iv ((p1 &&& (2147483647 : Int32)) % (12 : Int32)), iv (p2 &&& (3 : Int32)), iv (((65295 : Int32) + ((p1 &&& (2147483647 : Int32)) % (12 : Int32))).toUInt32.toUInt16.toUInt32.toInt32), iv 0] [])
            refine own_st (fun t k => XS.iconst X196.here hx rfl (hb hby at_94) k) ?_
            show own_E p e below _ T196 (mkF m 95 #[iv p1, iv p2, iv ((p1 &&& (2147483647 : Int32)) % (12 : Int32)), iv (p2 &&& (3 : Int32)), iv (((65295 : Int32) + ((p1 &&& (2147483647 : Int32)) % (12 : Int32))).toUInt32.toUInt16.toUInt32.toInt32), iv 0] [.int 1])
            refine own_st (fun t k => XS.goto X196.here hx rfl (pc0 := 95) (pc' := 99) rfl (hb hby at_95) (by decide) (by decide) k) ?_
            show own_E p e below _ T196 (mkF m 99 #[iv p1, iv p2, iv ((p1 &&& (2147483647 : Int32)) % (12 : Int32)), iv (p2 &&& (3 : Int32)), iv (((65295 : Int32) + ((p1 &&& (2147483647 : Int32)) % (12 : Int32))).toUInt32.toUInt16.toUInt32.toInt32), iv 0] [.int 1])
            refine own_retS X196 hx Bd.notSynchronized Bd.returns rfl (by decide) (hb hby at_99) (by decide) (by decide) ?_
            exact ⟨rfl, fun y hy => by simp at hy⟩
          · exfalso
            have f228 := rng32 p2
            have f229 : (3 : Int32).toInt = 3 := rfl
            have f230 := rng32 (p2 &&& (3 : Int32))
            have f231 : (p2 &&& (3 : Int32)).toInt = p2.toInt % 4 := c_mask p2 (3 : Int32) 2 (by decide) (by decide)
            have f232 : (0 : Int32).toInt = 0 := rfl
            have f233 : (1 : Int32).toInt = 1 := rfl
            have f234 : (2 : Int32).toInt = 2 := rfl
            have f235 : (65295 : Int32).toInt = 65295 := rfl
            have f236 := rng32 p1
            have f237 : (2147483647 : Int32).toInt = 2147483647 := rfl
            have f238 := rng32 (p1 &&& (2147483647 : Int32))
            have f239 : (p1 &&& (2147483647 : Int32)).toInt = p1.toInt % 2147483648 := c_mask p1 (2147483647 : Int32) 31 (by decide) (by decide)
            have f240 : (12 : Int32).toInt = 12 := rfl
            have f241 := rng32 ((p1 &&& (2147483647 : Int32)) % (12 : Int32))
            have f242 := c_irem (p1 &&& (2147483647 : Int32)) (12 : Int32) 12 rfl
            have f243 := rng32 ((65295 : Int32) + ((p1 &&& (2147483647 : Int32)) % (12 : Int32)))
            have f244 := c_iadd (65295 : Int32) ((p1 &&& (2147483647 : Int32)) % (12 : Int32))
            have f245 := rng32 (((65295 : Int32) + ((p1 &&& (2147483647 : Int32)) % (12 : Int32))).toUInt32.toUInt16.toUInt32.toInt32)
            have f246 := c_i2c ((65295 : Int32) + ((p1 &&& (2147483647 : Int32)) % (12 : Int32)))
            have f247 : (48 : Int32).toInt = 48 := rfl
            have f248 := rng32 ((((65295 : Int32) + ((p1 &&& (2147483647 : Int32)) % (12 : Int32))).toUInt32.toUInt16.toUInt32.toInt32) - (48 : Int32))
            have f249 := c_isub (((65295 : Int32) + ((p1 &&& (2147483647 : Int32)) % (12 : Int32))).toUInt32.toUInt16.toUInt32.toInt32) (48 : Int32)
            have f250 : (65535 : Int32).toInt = 65535 := rfl
            have f251 := rng32 (((((65295 : Int32) + ((p1 &&& (2147483647 : Int32)) % (12 : Int32))).toUInt32.toUInt16.toUInt32.toInt32) - (48 : Int32)) &&& (65535 : Int32))
            have f252 : (((((65295 : Int32) + ((p1 &&& (2147483647 : Int32)) % (12 : Int32))).toUInt32.toUInt16.toUInt32.toInt32) - (48 : Int32)) &&& (65535 : Int32)).toInt = ((((65295 : Int32) + ((p1 &&& (2147483647 : Int32)) % (12 : Int32))).toUInt32.toUInt16.toUInt32.toInt32) - (48 : Int32)).toInt % 65536 := c_mask ((((65295 : Int32) + ((p1 &&& (2147483647 : Int32)) % (12 : Int32))).toUInt32.toUInt16.toUInt32.toInt32) - (48 : Int32)) (65535 : Int32) 16 (by decide) (by decide)
            have f253 : (10 : Int32).toInt = 10 := rfl
            have f254 : (57 : Int32).toInt = 57 := rfl
            have g255 := hc1
            rw [← Int32.toInt_inj] at g255
            have g256 := hc69
            rw [← Int32.toInt_inj] at g256
            have g257 := hc164
            rw [← Int32.toInt_inj] at g257
            have g258 := hc165
            rw [Int32.lt_iff_toInt_lt] at g258
            have g259 := ha196_0
            rw [Int32.lt_iff_toInt_lt] at g259
            have g260 := ha196_1
            rw [Int32.lt_iff_toInt_lt] at g260
            omega
      · refine own_st (fun t k => XS.icmpYes X0.here hx rfl (pc0 := 43) (pc' := 56) rfl (hb hby at_43) rfl (feq hc164).2 (by decide) (by decide) k) ?_
        show own_E p e below _ s₁ (mkF m 56 #[iv p1, iv p2, iv ((p1 &&& (2147483647 : Int32)) % (12 : Int32)), iv (p2 &&& (3 : Int32)), .unset, .unset] [])
        refine own_st (fun t k => XS.sipush X0.here hx rfl (hb hby at_56) k) ?_
        show own_E p e below _ s₁ (mkF m 59 #[iv p1, iv p2, iv ((p1 &&& (2147483647 : Int32)) % (12 : Int32)), iv (p2 &&& (3 : Int32)), .unset, .unset] [.int 1631])
        refine own_st (fun t k => XS.iloadN X0.here hx rfl (hb hby at_59) rfl k) ?_
        show own_E p e below _ s₁ (mkF m 60 #[iv p1, iv p2, iv ((p1 &&& (2147483647 : Int32)) % (12 : Int32)), iv (p2 &&& (3 : Int32)), .unset, .unset] [.int ((p1 &&& (2147483647 : Int32)) % (12 : Int32)), .int 1631])
        refine own_st (fun t k => XS.iadd X0.here hx rfl (hb hby at_60) rfl k) ?_
        show own_E p e below _ s₁ (mkF m 61 #[iv p1, iv p2, iv ((p1 &&& (2147483647 : Int32)) % (12 : Int32)), iv (p2 &&& (3 : Int32)), .unset, .unset] [.int ((1631 : Int32) + ((p1 &&& (2147483647 : Int32)) % (12 : Int32)))])
        refine own_st (fun t k => XS.i2c X0.here hx rfl (hb hby at_61) rfl k) ?_
        show own_E p e below _ s₁ (mkF m 62 #[iv p1, iv p2, iv ((p1 &&& (2147483647 : Int32)) % (12 : Int32)), iv (p2 &&& (3 : Int32)), .unset, .unset] [.int (((1631 : Int32) + ((p1 &&& (2147483647 : Int32)) % (12 : Int32))).toUInt32.toUInt16.toUInt32.toInt32)])
        refine own_st (fun t k => XS.istore X0.here hx rfl (hb hby at_62) rfl (l' := #[iv p1, iv p2, iv ((p1 &&& (2147483647 : Int32)) % (12 : Int32)), iv (p2 &&& (3 : Int32)), iv (((1631 : Int32) + ((p1 &&& (2147483647 : Int32)) % (12 : Int32))).toUInt32.toUInt16.toUInt32.toInt32), .unset]) rfl k) ?_
        show own_E p e below _ s₁ (mkF m 64 #[iv p1, iv p2, iv ((p1 &&& (2147483647 : Int32)) % (12 : Int32)), iv (p2 &&& (3 : Int32)), iv (((1631 : Int32) + ((p1 &&& (2147483647 : Int32)) % (12 : Int32))).toUInt32.toUInt16.toUInt32.toInt32), .unset] [])
        refine own_st (fun t k => XS.iload X0.here hx rfl (hb hby at_64) rfl k) ?_
        show own_E p e below _ s₁ (mkF m 66 #[iv p1, iv p2, iv ((p1 &&& (2147483647 : Int32)) % (12 : Int32)), iv (p2 &&& (3 : Int32)), iv (((1631 : Int32) + ((p1 &&& (2147483647 : Int32)) % (12 : Int32))).toUInt32.toUInt16.toUInt32.toInt32), .unset] [.int (((1631 : Int32) + ((p1 &&& (2147483647 : Int32)) % (12 : Int32))).toUInt32.toUInt16.toUInt32.toInt32)])
        refine own_st (fun t k => XS.bipush X0.here hx rfl (hb hby at_66) k) ?_
        show own_E p e below _ s₁ (mkF m 68 #[iv p1, iv p2, iv ((p1 &&& (2147483647 : Int32)) % (12 : Int32)), iv (p2 &&& (3 : Int32)), iv (((1631 : Int32) + ((p1 &&& (2147483647 : Int32)) % (12 : Int32))).toUInt32.toUInt16.toUInt32.toInt32), .unset] [.int 48, .int (((1631 : Int32) + ((p1 &&& (2147483647 : Int32)) % (12 : Int32))).toUInt32.toUInt16.toUInt32.toInt32)])
        refine own_st (fun t k => XS.isub X0.here hx rfl (hb hby at_68) rfl k) ?_
        show own_E p e below _ s₁ (mkF m 69 #[iv p1, iv p2, iv ((p1 &&& (2147483647 : Int32)) % (12 : Int32)), iv (p2 &&& (3 : Int32)), iv (((1631 : Int32) + ((p1 &&& (2147483647 : Int32)) % (12 : Int32))).toUInt32.toUInt16.toUInt32.toInt32), .unset] [.int ((((1631 : Int32) + ((p1 &&& (2147483647 : Int32)) % (12 : Int32))).toUInt32.toUInt16.toUInt32.toInt32) - (48 : Int32))])
        refine own_st (X0.ldcInt hx hown (mvT hZ (own_w hw 1 rfl)) (g := (mkF m 69 #[iv p1, iv p2, iv ((p1 &&& (2147483647 : Int32)) % (12 : Int32)), iv (p2 &&& (3 : Int32)), iv (((1631 : Int32) + ((p1 &&& (2147483647 : Int32)) % (12 : Int32))).toUInt32.toUInt16.toUInt32.toInt32), .unset] [.int ((((1631 : Int32) + ((p1 &&& (2147483647 : Int32)) % (12 : Int32))).toUInt32.toUInt16.toUInt32.toInt32) - (48 : Int32))])) rfl (hb hby at_69)) ?_
        show own_E p e below _ s₁ (mkF m 71 #[iv p1, iv p2, iv ((p1 &&& (2147483647 : Int32)) % (12 : Int32)), iv (p2 &&& (3 : Int32)), iv (((1631 : Int32) + ((p1 &&& (2147483647 : Int32)) % (12 : Int32))).toUInt32.toUInt16.toUInt32.toInt32), .unset] [.int 65535, .int ((((1631 : Int32) + ((p1 &&& (2147483647 : Int32)) % (12 : Int32))).toUInt32.toUInt16.toUInt32.toInt32) - (48 : Int32))])
        refine own_st (fun t k => XS.iand X0.here hx rfl (hb hby at_71) rfl k) ?_
        show own_E p e below _ s₁ (mkF m 72 #[iv p1, iv p2, iv ((p1 &&& (2147483647 : Int32)) % (12 : Int32)), iv (p2 &&& (3 : Int32)), iv (((1631 : Int32) + ((p1 &&& (2147483647 : Int32)) % (12 : Int32))).toUInt32.toUInt16.toUInt32.toInt32), .unset] [.int (((((1631 : Int32) + ((p1 &&& (2147483647 : Int32)) % (12 : Int32))).toUInt32.toUInt16.toUInt32.toInt32) - (48 : Int32)) &&& (65535 : Int32))])
        refine own_st (fun t k => XS.bipush X0.here hx rfl (hb hby at_72) k) ?_
        show own_E p e below _ s₁ (mkF m 74 #[iv p1, iv p2, iv ((p1 &&& (2147483647 : Int32)) % (12 : Int32)), iv (p2 &&& (3 : Int32)), iv (((1631 : Int32) + ((p1 &&& (2147483647 : Int32)) % (12 : Int32))).toUInt32.toUInt16.toUInt32.toInt32), .unset] [.int 10, .int (((((1631 : Int32) + ((p1 &&& (2147483647 : Int32)) % (12 : Int32))).toUInt32.toUInt16.toUInt32.toInt32) - (48 : Int32)) &&& (65535 : Int32))])
        by_cases hc261 : (((((1631 : Int32) + ((p1 &&& (2147483647 : Int32)) % (12 : Int32))).toUInt32.toUInt16.toUInt32.toInt32) - (48 : Int32)) &&& (65535 : Int32)) < (10 : Int32)
        · exfalso
          have f262 := rng32 p2
          have f263 : (3 : Int32).toInt = 3 := rfl
          have f264 := rng32 (p2 &&& (3 : Int32))
          have f265 : (p2 &&& (3 : Int32)).toInt = p2.toInt % 4 := c_mask p2 (3 : Int32) 2 (by decide) (by decide)
          have f266 : (0 : Int32).toInt = 0 := rfl
          have f267 : (1 : Int32).toInt = 1 := rfl
          have f268 : (2 : Int32).toInt = 2 := rfl
          have f269 : (1631 : Int32).toInt = 1631 := rfl
          have f270 := rng32 p1
          have f271 : (2147483647 : Int32).toInt = 2147483647 := rfl
          have f272 := rng32 (p1 &&& (2147483647 : Int32))
          have f273 : (p1 &&& (2147483647 : Int32)).toInt = p1.toInt % 2147483648 := c_mask p1 (2147483647 : Int32) 31 (by decide) (by decide)
          have f274 : (12 : Int32).toInt = 12 := rfl
          have f275 := rng32 ((p1 &&& (2147483647 : Int32)) % (12 : Int32))
          have f276 := c_irem (p1 &&& (2147483647 : Int32)) (12 : Int32) 12 rfl
          have f277 := rng32 ((1631 : Int32) + ((p1 &&& (2147483647 : Int32)) % (12 : Int32)))
          have f278 := c_iadd (1631 : Int32) ((p1 &&& (2147483647 : Int32)) % (12 : Int32))
          have f279 := rng32 (((1631 : Int32) + ((p1 &&& (2147483647 : Int32)) % (12 : Int32))).toUInt32.toUInt16.toUInt32.toInt32)
          have f280 := c_i2c ((1631 : Int32) + ((p1 &&& (2147483647 : Int32)) % (12 : Int32)))
          have f281 : (48 : Int32).toInt = 48 := rfl
          have f282 := rng32 ((((1631 : Int32) + ((p1 &&& (2147483647 : Int32)) % (12 : Int32))).toUInt32.toUInt16.toUInt32.toInt32) - (48 : Int32))
          have f283 := c_isub (((1631 : Int32) + ((p1 &&& (2147483647 : Int32)) % (12 : Int32))).toUInt32.toUInt16.toUInt32.toInt32) (48 : Int32)
          have f284 : (65535 : Int32).toInt = 65535 := rfl
          have f285 := rng32 (((((1631 : Int32) + ((p1 &&& (2147483647 : Int32)) % (12 : Int32))).toUInt32.toUInt16.toUInt32.toInt32) - (48 : Int32)) &&& (65535 : Int32))
          have f286 : (((((1631 : Int32) + ((p1 &&& (2147483647 : Int32)) % (12 : Int32))).toUInt32.toUInt16.toUInt32.toInt32) - (48 : Int32)) &&& (65535 : Int32)).toInt = ((((1631 : Int32) + ((p1 &&& (2147483647 : Int32)) % (12 : Int32))).toUInt32.toUInt16.toUInt32.toInt32) - (48 : Int32)).toInt % 65536 := c_mask ((((1631 : Int32) + ((p1 &&& (2147483647 : Int32)) % (12 : Int32))).toUInt32.toUInt16.toUInt32.toInt32) - (48 : Int32)) (65535 : Int32) 16 (by decide) (by decide)
          have f287 : (10 : Int32).toInt = 10 := rfl
          have g288 := hc1
          rw [← Int32.toInt_inj] at g288
          have g289 := hc69
          rw [← Int32.toInt_inj] at g289
          have g290 := hc164
          rw [← Int32.toInt_inj] at g290
          have g291 := hc261
          rw [Int32.lt_iff_toInt_lt] at g291
          omega
        · refine own_st (fun t k => XS.icmpYes X0.here hx rfl (pc0 := 74) (pc' := 81) rfl (hb hby at_74) rfl (flt hc261).2.1 (by decide) (by decide) k) ?_
          show own_E p e below _ s₁ (mkF m 81 #[iv p1, iv p2, iv ((p1 &&& (2147483647 : Int32)) % (12 : Int32)), iv (p2 &&& (3 : Int32)), iv (((1631 : Int32) + ((p1 &&& (2147483647 : Int32)) % (12 : Int32))).toUInt32.toUInt16.toUInt32.toInt32), .unset] [])
          refine own_st (fun t k => XS.iconst X0.here hx rfl (hb hby at_81) k) ?_
          show own_E p e below _ s₁ (mkF m 82 #[iv p1, iv p2, iv ((p1 &&& (2147483647 : Int32)) % (12 : Int32)), iv (p2 &&& (3 : Int32)), iv (((1631 : Int32) + ((p1 &&& (2147483647 : Int32)) % (12 : Int32))).toUInt32.toUInt16.toUInt32.toInt32), .unset] [.int 0])
          refine own_st (fun t k => XS.istore X0.here hx rfl (hb hby at_82) rfl (l' := #[iv p1, iv p2, iv ((p1 &&& (2147483647 : Int32)) % (12 : Int32)), iv (p2 &&& (3 : Int32)), iv (((1631 : Int32) + ((p1 &&& (2147483647 : Int32)) % (12 : Int32))).toUInt32.toUInt16.toUInt32.toInt32), iv 0]) rfl k) ?_
          show own_E p e below _ s₁ (mkF m 84 #[iv p1, iv p2, iv ((p1 &&& (2147483647 : Int32)) % (12 : Int32)), iv (p2 &&& (3 : Int32)), iv (((1631 : Int32) + ((p1 &&& (2147483647 : Int32)) % (12 : Int32))).toUInt32.toUInt16.toUInt32.toInt32), iv 0] [])
          refine own_st (fun t k => XS.iload X0.here hx rfl (hb hby at_84) rfl k) ?_
          show own_E p e below _ s₁ (mkF m 86 #[iv p1, iv p2, iv ((p1 &&& (2147483647 : Int32)) % (12 : Int32)), iv (p2 &&& (3 : Int32)), iv (((1631 : Int32) + ((p1 &&& (2147483647 : Int32)) % (12 : Int32))).toUInt32.toUInt16.toUInt32.toInt32), iv 0] [.int (((1631 : Int32) + ((p1 &&& (2147483647 : Int32)) % (12 : Int32))).toUInt32.toUInt16.toUInt32.toInt32)])
          obtain ⟨_, _, ⟨T292, L292, k292, n292⟩, -, X292, ⟨Lc292, hQ292, l292, y292, z292⟩, st292⟩ := Jvm.LawKit.callS X0 hx (y := own_y0) hown (mvT hZ (own_w hw 2 rfl)) (mvT hZ (own_w hw 3 rfl)) (mvT hZ (own_w hw 4 rfl)) (mvT hZ (own_w hw 5 rfl)) (by decide) (backOf (W := 0) (own_isDigit l Z a0 hw [] (((1631 : Int32) + ((p1 &&& (2147483647 : Int32)) % (12 : Int32))).toUInt32.toUInt16.toUInt32.toInt32) h0 n0 Z0 ) hZ (own_w hw 5 rfl) (own_w hw 4 rfl) (by decide) (by decide)) (g := (mkF m 86 #[iv p1, iv p2, iv ((p1 &&& (2147483647 : Int32)) % (12 : Int32)), iv (p2 &&& (3 : Int32)), iv (((1631 : Int32) + ((p1 &&& (2147483647 : Int32)) % (12 : Int32))).toUInt32.toUInt16.toUInt32.toInt32), iv 0] [.int (((1631 : Int32) + ((p1 &&& (2147483647 : Int32)) % (12 : Int32))).toUInt32.toUInt16.toUInt32.toInt32)])) rfl (by rw [hml]; rfl) (argsL := [(.int (((1631 : Int32) + ((p1 &&& (2147483647 : Int32)) % (12 : Int32))).toUInt32.toUInt16.toUInt32.toInt32))]) (rest := []) (lenOf own_pd_0 rfl) rfl (by show 2 * 0 + _ ≤ _; exact Nat.le_of_eq rfl) (hb hby at_86) (fun _ _ => ⟨rfl, e0, (by decide : 0 + 0 ≤ _), (by decide : 0 + 0 ≤ _)⟩)
          dsimp only [Pt.U, Pt.locs, Pt.cells, Pt.slots] at X292 l292 y292 z292 st292 hQ292
          subst l292 y292 z292
          obtain ⟨hR292, e292, rfl⟩ := hQ292
          rcases hR292 with ⟨rfl, ha292_0⟩ | ⟨rfl, ha292_0, ha292_1⟩ | ⟨rfl, ha292_0, ha292_1⟩
          · exfalso
            have f293 := rng32 p2
            have f294 : (3 : Int32).toInt = 3 := rfl
            have f295 := rng32 (p2 &&& (3 : Int32))
            have f296 : (p2 &&& (3 : Int32)).toInt = p2.toInt % 4 := c_mask p2 (3 : Int32) 2 (by decide) (by decide)
            have f297 : (0 : Int32).toInt = 0 := rfl
            have f298 : (1 : Int32).toInt = 1 := rfl
            have f299 : (2 : Int32).toInt = 2 := rfl
            have f300 : (1631 : Int32).toInt = 1631 := rfl
            have f301 := rng32 p1
            have f302 : (2147483647 : Int32).toInt = 2147483647 := rfl
            have f303 := rng32 (p1 &&& (2147483647 : Int32))
            have f304 : (p1 &&& (2147483647 : Int32)).toInt = p1.toInt % 2147483648 := c_mask p1 (2147483647 : Int32) 31 (by decide) (by decide)
            have f305 : (12 : Int32).toInt = 12 := rfl
            have f306 := rng32 ((p1 &&& (2147483647 : Int32)) % (12 : Int32))
            have f307 := c_irem (p1 &&& (2147483647 : Int32)) (12 : Int32) 12 rfl
            have f308 := rng32 ((1631 : Int32) + ((p1 &&& (2147483647 : Int32)) % (12 : Int32)))
            have f309 := c_iadd (1631 : Int32) ((p1 &&& (2147483647 : Int32)) % (12 : Int32))
            have f310 := rng32 (((1631 : Int32) + ((p1 &&& (2147483647 : Int32)) % (12 : Int32))).toUInt32.toUInt16.toUInt32.toInt32)
            have f311 := c_i2c ((1631 : Int32) + ((p1 &&& (2147483647 : Int32)) % (12 : Int32)))
            have f312 : (48 : Int32).toInt = 48 := rfl
            have f313 := rng32 ((((1631 : Int32) + ((p1 &&& (2147483647 : Int32)) % (12 : Int32))).toUInt32.toUInt16.toUInt32.toInt32) - (48 : Int32))
            have f314 := c_isub (((1631 : Int32) + ((p1 &&& (2147483647 : Int32)) % (12 : Int32))).toUInt32.toUInt16.toUInt32.toInt32) (48 : Int32)
            have f315 : (65535 : Int32).toInt = 65535 := rfl
            have f316 := rng32 (((((1631 : Int32) + ((p1 &&& (2147483647 : Int32)) % (12 : Int32))).toUInt32.toUInt16.toUInt32.toInt32) - (48 : Int32)) &&& (65535 : Int32))
            have f317 : (((((1631 : Int32) + ((p1 &&& (2147483647 : Int32)) % (12 : Int32))).toUInt32.toUInt16.toUInt32.toInt32) - (48 : Int32)) &&& (65535 : Int32)).toInt = ((((1631 : Int32) + ((p1 &&& (2147483647 : Int32)) % (12 : Int32))).toUInt32.toUInt16.toUInt32.toInt32) - (48 : Int32)).toInt % 65536 := c_mask ((((1631 : Int32) + ((p1 &&& (2147483647 : Int32)) % (12 : Int32))).toUInt32.toUInt16.toUInt32.toInt32) - (48 : Int32)) (65535 : Int32) 16 (by decide) (by decide)
            have f318 : (10 : Int32).toInt = 10 := rfl
            have g319 := hc1
            rw [← Int32.toInt_inj] at g319
            have g320 := hc69
            rw [← Int32.toInt_inj] at g320
            have g321 := hc164
            rw [← Int32.toInt_inj] at g321
            have g322 := hc261
            rw [Int32.lt_iff_toInt_lt] at g322
            have g323 := ha292_0
            rw [Int32.lt_iff_toInt_lt] at g323
            omega
          · refine own_st st292 ?_
            show own_E p e below _ T292 (mkF m 89 #[iv p1, iv p2, iv ((p1 &&& (2147483647 : Int32)) % (12 : Int32)), iv (p2 &&& (3 : Int32)), iv (((1631 : Int32) + ((p1 &&& (2147483647 : Int32)) % (12 : Int32))).toUInt32.toUInt16.toUInt32.toInt32), iv 0] [.int 0])
            refine own_st (fun t k => XS.iload X292.here hx rfl (hb hby at_89) rfl k) ?_
            show own_E p e below _ T292 (mkF m 91 #[iv p1, iv p2, iv ((p1 &&& (2147483647 : Int32)) % (12 : Int32)), iv (p2 &&& (3 : Int32)), iv (((1631 : Int32) + ((p1 &&& (2147483647 : Int32)) % (12 : Int32))).toUInt32.toUInt16.toUInt32.toInt32), iv 0] [.int 0, .int 0])
            refine own_st (fun t k => XS.icmpNo X292.here hx rfl (hb hby at_91) rfl (by decide) k) ?_
            show own_E p e below _ T292 (mkF m 94 #[iv p1, iv p2, iv ((p1 &&& (2147483647 : Int32)) % (12 : Int32)), iv (p2 &&& (3 : Int32)), iv (((1631 : Int32) + ((p1 &&& (2147483647 : Int32)) % (12 : Int32))).toUInt32.toUInt16.toUInt32.toInt32), iv 0] [])
            refine own_st (fun t k => XS.iconst X292.here hx rfl (hb hby at_94) k) ?_
            show own_E p e below _ T292 (mkF m 95 #[iv p1, iv p2, iv ((p1 &&& (2147483647 : Int32)) % (12 : Int32)), iv (p2 &&& (3 : Int32)), iv (((1631 : Int32) + ((p1 &&& (2147483647 : Int32)) % (12 : Int32))).toUInt32.toUInt16.toUInt32.toInt32), iv 0] [.int 1])
            refine own_st (fun t k => XS.goto X292.here hx rfl (pc0 := 95) (pc' := 99) rfl (hb hby at_95) (by decide) (by decide) k) ?_
            show own_E p e below _ T292 (mkF m 99 #[iv p1, iv p2, iv ((p1 &&& (2147483647 : Int32)) % (12 : Int32)), iv (p2 &&& (3 : Int32)), iv (((1631 : Int32) + ((p1 &&& (2147483647 : Int32)) % (12 : Int32))).toUInt32.toUInt16.toUInt32.toInt32), iv 0] [.int 1])
            refine own_retS X292 hx Bd.notSynchronized Bd.returns rfl (by decide) (hb hby at_99) (by decide) (by decide) ?_
            exact ⟨rfl, fun y hy => by simp at hy⟩
          · exfalso
            have f324 := rng32 p2
            have f325 : (3 : Int32).toInt = 3 := rfl
            have f326 := rng32 (p2 &&& (3 : Int32))
            have f327 : (p2 &&& (3 : Int32)).toInt = p2.toInt % 4 := c_mask p2 (3 : Int32) 2 (by decide) (by decide)
            have f328 : (0 : Int32).toInt = 0 := rfl
            have f329 : (1 : Int32).toInt = 1 := rfl
            have f330 : (2 : Int32).toInt = 2 := rfl
            have f331 : (1631 : Int32).toInt = 1631 := rfl
            have f332 := rng32 p1
            have f333 : (2147483647 : Int32).toInt = 2147483647 := rfl
            have f334 := rng32 (p1 &&& (2147483647 : Int32))
            have f335 : (p1 &&& (2147483647 : Int32)).toInt = p1.toInt % 2147483648 := c_mask p1 (2147483647 : Int32) 31 (by decide) (by decide)
            have f336 : (12 : Int32).toInt = 12 := rfl
            have f337 := rng32 ((p1 &&& (2147483647 : Int32)) % (12 : Int32))
            have f338 := c_irem (p1 &&& (2147483647 : Int32)) (12 : Int32) 12 rfl
            have f339 := rng32 ((1631 : Int32) + ((p1 &&& (2147483647 : Int32)) % (12 : Int32)))
            have f340 := c_iadd (1631 : Int32) ((p1 &&& (2147483647 : Int32)) % (12 : Int32))
            have f341 := rng32 (((1631 : Int32) + ((p1 &&& (2147483647 : Int32)) % (12 : Int32))).toUInt32.toUInt16.toUInt32.toInt32)
            have f342 := c_i2c ((1631 : Int32) + ((p1 &&& (2147483647 : Int32)) % (12 : Int32)))
            have f343 : (48 : Int32).toInt = 48 := rfl
            have f344 := rng32 ((((1631 : Int32) + ((p1 &&& (2147483647 : Int32)) % (12 : Int32))).toUInt32.toUInt16.toUInt32.toInt32) - (48 : Int32))
            have f345 := c_isub (((1631 : Int32) + ((p1 &&& (2147483647 : Int32)) % (12 : Int32))).toUInt32.toUInt16.toUInt32.toInt32) (48 : Int32)
            have f346 : (65535 : Int32).toInt = 65535 := rfl
            have f347 := rng32 (((((1631 : Int32) + ((p1 &&& (2147483647 : Int32)) % (12 : Int32))).toUInt32.toUInt16.toUInt32.toInt32) - (48 : Int32)) &&& (65535 : Int32))
            have f348 : (((((1631 : Int32) + ((p1 &&& (2147483647 : Int32)) % (12 : Int32))).toUInt32.toUInt16.toUInt32.toInt32) - (48 : Int32)) &&& (65535 : Int32)).toInt = ((((1631 : Int32) + ((p1 &&& (2147483647 : Int32)) % (12 : Int32))).toUInt32.toUInt16.toUInt32.toInt32) - (48 : Int32)).toInt % 65536 := c_mask ((((1631 : Int32) + ((p1 &&& (2147483647 : Int32)) % (12 : Int32))).toUInt32.toUInt16.toUInt32.toInt32) - (48 : Int32)) (65535 : Int32) 16 (by decide) (by decide)
            have f349 : (10 : Int32).toInt = 10 := rfl
            have f350 : (57 : Int32).toInt = 57 := rfl
            have g351 := hc1
            rw [← Int32.toInt_inj] at g351
            have g352 := hc69
            rw [← Int32.toInt_inj] at g352
            have g353 := hc164
            rw [← Int32.toInt_inj] at g353
            have g354 := hc261
            rw [Int32.lt_iff_toInt_lt] at g354
            have g355 := ha292_0
            rw [Int32.lt_iff_toInt_lt] at g355
            have g356 := ha292_1
            rw [Int32.lt_iff_toInt_lt] at g356
            omega
set_option maxRecDepth 65536 in
set_option maxHeartbeats 40000000 in
theorem comes_1 {Post : Tables → Env → Array Value → State → Outcome → State → Prop} (hpost : ∀ tb e args s v u, (limb_1_1.after args s (.returned v) u = true ∧ limb_1_2.after args s (.returned v) u = true ∧ True) → FrameEnd s (.returned v) u (Jvm.fieldLocs frame_1_writes args s ++ Jvm.arrayLocs frame_1_arrays args s ++ Jvm.staticLocs frame_1_statics s) 0 0 → Post tb e args s (.returned v) u) :
    ArmFor flags0 classFile x code maxLocals ret World_1 tables_1 room_1 Calls_1 rest_1 Pre_1 Post := by
  intro l hfl _ _ p e ha hc hk s m args below hf hA hF happ hP
  obtain ⟨hcalls, hrest, hpre⟩ := hP
  obtain ⟨-, -, -, hnamed, -, -, -, hat⟩ := (Spec.applies_iff hf).mp happ
  obtain ⟨hg, hn⟩ := and_e (Cond.before_iff.mp (show (Jvm.Cond.and given_1 narrow_1).before args s = true from hpre))
  obtain ⟨hg0, hg1⟩ := and_e hg
  obtain ⟨hv0, hg2⟩ := and_e hg1
  have hv1 := hg2
  obtain ⟨w0, w1, rfl⟩ : ∃ w0 w1 : Value, args = #[w0, w1] := by
    have hs : args.size = 2 := by simpa [Cond.value, given_1] using hg0
    obtain ⟨L⟩ := args
    match L, hs with
    | [w0, w1], _ => exact ⟨w0, w1, rfl⟩
  have hw := fun d (hd : d ∈ tables_1) => atoms_spec (ws := Jvm.Cond.code x code maxLocals ret :: tables_1) hat d (List.mem_cons_of_mem _ hd)
  have hfit : Fit s := fun {y c} hc i hi => by
    obtain ⟨ha, rfl⟩ := Array.getElem?_eq_some_iff.mp hc
    have q := List.all_eq_true.mp ((Array.all_eq_true_iff_forall_mem.mp hF) _ (Array.getElem_mem ha)) i (List.mem_range.mpr hi)
    simpa [Array.getElem?_eq_getElem hi] using q
  obtain ⟨i0, ev0⟩ := is_v hv0
  obtain rfl : w0 = (.int i0) := Option.some.inj ev0
  obtain ⟨i1, ev1⟩ := is_v hv1
  obtain rfl : w1 = (.int i1) := Option.some.inj ev1
  obtain ⟨n, o, h1, h2, h3, _, L, rfl, ⟨rfl, N⟩, hq⟩ := own_law l s _ hw tables_1 i0 i1 s.heap s.heap.size (Nat.le_refl _)  p e ha hc hk s m _ below hf ((Spec.applies_iff_loose hf).mp happ).1 ⟨rfl, State.Warmed39.refl s, rfl⟩ trivial
  refine ⟨n, _, h1, h2, h3, hpost _ _ _ _ _ _ ⟨Cond.after_iff.mpr rfl, Cond.after_iff.mpr (eq_i res_at (Term.int_eval (1)) rfl), trivial⟩ ⟨hq.1, hq.2.1, (hq.2.2.sift fun y hy => Or.inr (N y hy)).mono (by decide) (by decide)⟩⟩
theorem main_1_1 : Claimed_1_1 := comes_1 fun _ _ _ _ _ _ h hF => ⟨h.1, hF⟩
theorem main_1_2 : Claimed_1_2 := comes_1 fun _ _ _ _ _ _ h hF => ⟨h.2.1, hF⟩
end Jvm.Pilot.@@N@@
namespace Jvm.Pilot.@@N@@
open Jvm Jvm.ClassFile Sem Op Lib Jvm.Free Jvm.Stand Jvm.Pilot.@@N@@.Jvm.D
/-! MADE BY PROGRAM (witnessworld.py) out of the Statement's table words and the real class files: 12 classes; the members and pool entries that the words name. The judged class is class 1, her method 1. -/
namespace start1
open Jvm.ClassFile
def u (s : String) : CpInfo := .utf8 (stringToUtf16 s)
/-- a pool by its gaps: so many unusable entries, then the entry; so many at the end -/
def gap : Nat → List CpInfo → List CpInfo
  | 0, r => r
  | n + 1, r => .unusable :: gap n r
def poolList (es : List (Nat × CpInfo)) (last : Nat) : List CpInfo := es.foldr (fun e r => gap e.1 (e.2 :: r)) (gap last [])
def pool (es : List (Nat × CpInfo)) (last : Nat) : Array CpInfo := ⟨poolList es last⟩
def fileOf (pool : Array CpInfo) (this : Nat) (attrs : Array Attribute := #[]) (ms : Array MethodInfo := #[]) (fl : Nat := 33) (sup : Nat := 0) (ifs : Array Nat := #[]) (fds : Array FieldInfo := #[]) : ClassFile where
  minorVersion := 0
  majorVersion := 65
  constantPool := pool
  accessFlags := fl
  thisClass := this
  superClass := sup
  interfaces := ifs
  fields := fds
  methods := ms
  attributes := attrs
def plain (name : String) (sup : Option ClassId) : Class where
  name := name
  kind := .ordinary
  loader := none
  accessFlags := 33
  super := sup
  interfaces := #[]
  cf := none
  fields := #[]
  methods := #[]
  instanceTypes := #[]
  staticTypes := #[]
  resolved := #[]
  callSites := []
  init := .initialized
  statics := none
  mirror := none

def pool0 : Array CpInfo := pool [(5, u "<init>"), (0, u "()V"), (1, .class_ 10), (1, u "java/lang/Object")] 113

def k0m0 : Method := { name := "<init>", desc := "()V", sig := { parameters := [], returnType := none }, accessFlags := 1, code := none }
/-- java/lang/Object -/
def k0 : Class := { plain "java/lang/Object" none with
  accessFlags := 33
  interfaces := #[]
  cf := some (fileOf pool0 8 #[] #[{ accessFlags := 1, nameIndex := 5, descriptorIndex := 6, attributes := #[] }] 33 0 #[] #[])
  fields := #[]
  methods := #[k0m0]
  instanceTypes := #[]
  staticTypes := #[]
  resolved := Array.replicate 124 none
  statics := none }

def pool1 : Array CpInfo := pool [(2, .class_ 4), (1, u "java/lang/Object"), (0, u "<init>"), (0, u "()V"), (0, .integer 2147483647), (0, .integer 65535), (0, .integer 65295), (0, .methodref 11 12), (0, .class_ 13), (0, .nameAndType 14 15), (0, u "serialis/text/Reading"), (0, u "isDigit"), (0, u "(C)Z"), (0, .class_ 17), (0, u "serialis/text/ReadingIsDigitPinLaw"), (2, u "law"), (0, u "(II)Z")] 3

def k1m0 : Method := { name := "<init>", desc := "()V", sig := { parameters := [], returnType := none }, accessFlags := 1, code := none }
def k1c1 : Code := { maxStack := 2, maxLocals := 6, code := code, exceptionTable := #[], attributes := #[] }
def k1m1 : Method := { name := "law", desc := "(II)Z", sig := { parameters := [.int, .int], returnType := some .boolean }, accessFlags := 9, code := some k1c1 }
/-- serialis/text/ReadingIsDigitPinLaw -/
def k1 : Class := { plain "serialis/text/ReadingIsDigitPinLaw" (some 0) with
  accessFlags := 49
  interfaces := #[]
  cf := some (fileOf pool1 16 #[] #[{ accessFlags := 1, nameIndex := 5, descriptorIndex := 6, attributes := #[] }, { accessFlags := 9, nameIndex := 20, descriptorIndex := 21, attributes := #[] }] 49 2 #[] #[])
  fields := #[]
  methods := #[k1m0, k1m1]
  instanceTypes := #[]
  staticTypes := #[]
  resolved := Array.replicate 25 none
  statics := none }

def pool2 : Array CpInfo := pool [(1, .class_ 2), (0, u "java/lang/constant/Constable"), (0, .class_ 4), (0, u "java/lang/Object")] 6

/-- java/lang/constant/Constable -/
def k2 : Class := { plain "java/lang/constant/Constable" (some 0) with
  accessFlags := 1537
  interfaces := #[]
  cf := some (fileOf pool2 1 #[] #[] 1537 3 #[] #[])
  fields := #[]
  methods := #[]
  instanceTypes := #[]
  staticTypes := #[]
  resolved := Array.replicate 11 none
  statics := none }

def pool3 : Array CpInfo := pool [(1, .class_ 2), (0, u "java/lang/Comparable"), (0, .class_ 4), (0, u "java/lang/Object")] 7

/-- java/lang/Comparable -/
def k3 : Class := { plain "java/lang/Comparable" (some 0) with
  accessFlags := 1537
  interfaces := #[]
  cf := some (fileOf pool3 1 #[] #[] 1537 3 #[] #[])
  fields := #[]
  methods := #[]
  instanceTypes := #[]
  staticTypes := #[]
  resolved := Array.replicate 12 none
  statics := none }

def pool4 : Array CpInfo := pool [(1, .class_ 2), (0, u "java/io/Serializable"), (0, .class_ 4), (0, u "java/lang/Object")] 2

/-- java/io/Serializable -/
def k4 : Class := { plain "java/io/Serializable" (some 0) with
  accessFlags := 1537
  interfaces := #[]
  cf := some (fileOf pool4 1 #[] #[] 1537 3 #[] #[])
  fields := #[]
  methods := #[]
  instanceTypes := #[]
  staticTypes := #[]
  resolved := Array.replicate 7 none
  statics := none }

def pool5 : Array CpInfo := pool [(2, .class_ 4), (1, u "java/lang/Enum"), (0, u "name"), (0, u "Ljava/lang/String;"), (2, u "ordinal"), (0, u "I"), (1, .class_ 14), (1, u "java/lang/Object"), (4, u "hash"), (86, .class_ 108), (1, u "java/lang/Enum$EnumDesc"), (2, .class_ 112), (0, u "java/lang/constant/Constable"), (0, .class_ 114), (0, u "java/lang/Comparable"), (0, .class_ 116), (0, u "java/io/Serializable")] 87

/-- java/lang/Enum -/
def k5 : Class := { plain "java/lang/Enum" (some 0) with
  accessFlags := 1057
  interfaces := #[2, 3, 4]
  cf := some (fileOf pool5 2 #[.nestMembers #[106]] #[] 1057 12 #[111, 113, 115] #[{ accessFlags := 18, nameIndex := 5, descriptorIndex := 6, attributes := #[] }, { accessFlags := 18, nameIndex := 9, descriptorIndex := 10, attributes := #[] }, { accessFlags := 2, nameIndex := 19, descriptorIndex := 10, attributes := #[] }])
  fields := #[{ name := "name", type := (.object "java/lang/String"), accessFlags := 18, slot := 0, constantValue := 0 }, { name := "ordinal", type := .int, accessFlags := 18, slot := 1, constantValue := 0 }, { name := "hash", type := .int, accessFlags := 2, slot := 2, constantValue := 0 }]
  methods := #[]
  instanceTypes := #[(.object "java/lang/String"), .int, .int]
  staticTypes := #[]
  resolved := Array.replicate 204 none
  statics := none }

def pool6 : Array CpInfo := pool [(1, .class_ 2), (0, u "serialis/text/Reading"), (2, u "LENIENT"), (0, u "Lserialis/text/Reading;"), (2, u "STRICT"), (2, u "$VALUES"), (0, u "[Lserialis/text/Reading;"), (6, .class_ 22), (1, u "java/lang/Enum"), (29, u "isDigit"), (0, u "(C)Z"), (40, u "FIRST_DIGITS"), (0, u "I"), (2, u "LAST_DIGITS")] 20

def k6c0 : Code := { maxStack := 2, maxLocals := 1, code := prog_34_method_13_code, exceptionTable := #[], attributes := #[] }
def k6m0 : Method := { name := "isDigit", desc := "(C)Z", sig := { parameters := [.char], returnType := some .boolean }, accessFlags := 8, code := some k6c0 }
/-- serialis/text/Reading -/
def k6 : Class := { plain "serialis/text/Reading" (some 5) with
  accessFlags := 16433
  interfaces := #[]
  cf := some (fileOf pool6 1 #[] #[{ accessFlags := 8, nameIndex := 52, descriptorIndex := 53, attributes := #[] }] 16433 20 #[] #[{ accessFlags := 16409, nameIndex := 5, descriptorIndex := 6, attributes := #[] }, { accessFlags := 16409, nameIndex := 9, descriptorIndex := 6, attributes := #[] }, { accessFlags := 26, nameIndex := 94, descriptorIndex := 95, attributes := #[] }, { accessFlags := 26, nameIndex := 98, descriptorIndex := 95, attributes := #[] }, { accessFlags := 4122, nameIndex := 12, descriptorIndex := 13, attributes := #[] }])
  fields := #[{ name := "LENIENT", type := (.object "serialis/text/Reading"), accessFlags := 16409, slot := 0, constantValue := 0 }, { name := "STRICT", type := (.object "serialis/text/Reading"), accessFlags := 16409, slot := 1, constantValue := 0 }, { name := "FIRST_DIGITS", type := .int, accessFlags := 26, slot := 2, constantValue := 0 }, { name := "LAST_DIGITS", type := .int, accessFlags := 26, slot := 3, constantValue := 0 }, { name := "$VALUES", type := (.array (.object "serialis/text/Reading")), accessFlags := 4122, slot := 4, constantValue := 0 }]
  methods := #[k6m0]
  instanceTypes := #[(.object "java/lang/String"), .int, .int]
  staticTypes := #[(.object "serialis/text/Reading"), (.object "serialis/text/Reading"), .int, .int, (.array (.object "serialis/text/Reading"))]
  resolved := Array.replicate 119 none
  statics := none }

def pool7 : Array CpInfo := pool [(1, u "java/lang/Cloneable"), (0, .class_ 1), (0, u "java/lang/Object"), (0, .class_ 3)] 3

/-- java/lang/Cloneable -/
def k7 : Class := { plain "java/lang/Cloneable" (some 0) with
  accessFlags := 1537
  interfaces := #[]
  cf := some (fileOf pool7 2 #[] #[] 1537 4 #[] #[])
  fields := #[]
  methods := #[]
  instanceTypes := #[]
  staticTypes := #[]
  resolved := Array.replicate 8 none
  statics := none }

/-- the primitive byte -/
def k8 : Class := { plain "byte" none with kind := .primitive 'B', accessFlags := 0x411 }
/-- [B -/
def k9 : Class := { plain "[B" (some 0) with kind := .array 8 .byte, interfaces := #[7, 4], accessFlags := 1041 }

/-- the primitive int -/
def k10 : Class := { plain "int" none with kind := .primitive 'I', accessFlags := 0x411 }
/-- [I -/
def k11 : Class := { plain "[I" (some 0) with kind := .array 10 .int, interfaces := #[7, 4], accessFlags := 1041 }

def heap : Heap := #[]
def classes : Array Class := #[k0, k1, k2, k3, k4, k5, k6, k7, k8, k9, k10, k11]
def interned : List (Array UInt16 × Addr) := []
def slotsUsed : Nat := 0
def theMethod : MethodId := ⟨1, 1⟩
def args0 : Array Value := #[.int 5, .int 7]
def aboutOver (below : List Frame) : State where
  vm := { classes := classes, interned := interned.toArray }
  heap := heap
  slotsUsed := slotsUsed
  threads := #[{ frames := .invoking theMethod args0 :: below }]
def below0 : List Frame := [.native { method := ⟨0, 0⟩, args := #[] }]
def about1 : State := aboutOver below0
def p0 : Program := .bare "" "" ""
def e0 : Env := launch0.env 0 0 0
theorem w_frames : about1.frames = Frame.invoking theMethod args0 :: below0 := rfl
set_option maxRecDepth 65536 in
theorem w_args : argsFit about1.vm theMethod args0 = true := by decide +kernel
set_option maxRecDepth 65536 in
theorem w_heap : heapFits about1 = true := by decide +kernel
set_option maxRecDepth 65536 in
theorem w_runnable : about1.curStatus? = some .runnable := by decide +kernel
set_option maxRecDepth 65536 in
theorem w_alone : about1.alone = true := by decide +kernel
set_option maxRecDepth 65536 in
theorem w_named : about1.methodNamed? x = some theMethod := by decide +kernel
set_option maxRecDepth 65536 in
theorem w_hears : about1.hears theMethod below0 = true := by decide +kernel
set_option maxRecDepth 65536 in
theorem w_ripe : about1.ripe theMethod args0 below0 = true := by decide +kernel
theorem w_running : about1.status = .running := rfl
set_option maxRecDepth 65536 in
theorem w_room : about1.hasRoom e0.platform room_1 = true :=
  launch0.hasRoom_least _ room_1 (by decide +kernel) (by decide +kernel) (by decide +kernel) (by decide +kernel) (by decide +kernel) (by decide +kernel)
theorem allAtoms_all (ts : List Jvm.Cond) (a : Array Jvm.Value) (st : Jvm.State) : (allAtoms ts).before a st = ts.all (fun c => c.before a st) := by
  induction ts with
  | nil => rfl
  | cons c t ih =>
    show (Jvm.Cond.and c (allAtoms t)).before a st = _
    rw [Jvm.Cond.before_and, ih, List.all_cons]
def words1 : List Jvm.Cond := Jvm.Cond.code x code maxLocals ret :: tables_1
/-- a 'code' word, met by the world's own term for the bytes: nothing is compared byte by byte -/
theorem code_word {y : MethodName} {bytes : ByteArray} {mx : Nat} {rt : Option FieldType} {a : Array Value} {s : State} {m : MethodId} {meth : Method} {c : Code} (h1 : s.methodNamed? y = some m) (h2 : s.vm.method? m = some meth) (h3 : meth.code = some c) (h4 : c.code = bytes)
    (h5 : (c.maxLocals == mx && c.exceptionTable.isEmpty && decide (c.maxStack ≤ mostOperands) && decide (meth.sig.returnType = rt) && !meth.locks && decide (parseMethodDescriptor y.desc = some meth.sig)) = true) : (Jvm.Cond.code y bytes mx rt).before a s = true := by
  simp only [Bool.and_eq_true, beq_iff_eq, Bool.not_eq_true', decide_eq_true_eq] at h5
  obtain ⟨⟨⟨⟨⟨g1, g2⟩, g3⟩, g4⟩, g5⟩, g6⟩ := h5
  simp [Cond.before, Cond.holds, Cond.value, h1, h2, h3, h4, g1, g2, g3, g4, g5, g6]
def isCode : Jvm.Cond → Bool
  | .code _ _ _ _ => true
  | _ => false
theorem all_split {L : List Jvm.Cond} {P : Jvm.Cond → Bool} (h1 : L.all (fun c => isCode c || P c) = true) (h2 : ∀ c ∈ L.filter isCode, P c = true) : L.all P = true := by
  refine List.all_eq_true.mpr fun c hc => ?_
  have h := List.all_eq_true.mp h1 c hc
  rcases Bool.eq_false_or_eq_true (isCode c) with hi | hi
  · exact h2 c (List.mem_filter.mpr ⟨hc, hi⟩)
  · simpa [hi] using h
set_option maxRecDepth 65536 in
theorem w_c0 : (Jvm.Cond.code x code maxLocals ret).before args0 about1 = true := code_word (m := ⟨1, 1⟩) (meth := k1m1) (c := k1c1) (by decide +kernel) rfl rfl rfl (by decide +kernel)
set_option maxRecDepth 65536 in
theorem w_c1 : (Jvm.Cond.code ({ cls := "serialis/text/Reading", name := "isDigit", desc := "(C)Z" } : Jvm.MethodName) prog_34_method_13_code (1 : Nat) (Option.some Jvm.ClassFile.FieldType.boolean)).before args0 about1 = true := code_word (m := ⟨6, 0⟩) (meth := k6m0) (c := k6c0) (by decide +kernel) rfl rfl rfl (by decide +kernel)
def codes1 : List Jvm.Cond := [Jvm.Cond.code x code maxLocals ret, Jvm.Cond.code ({ cls := "serialis/text/Reading", name := "isDigit", desc := "(C)Z" } : Jvm.MethodName) prog_34_method_13_code (1 : Nat) (Option.some Jvm.ClassFile.FieldType.boolean)]
set_option maxRecDepth 65536 in
theorem codes_eq : words1.filter isCode = codes1 := rfl
theorem w_codes : ∀ c ∈ words1.filter isCode, c.before args0 about1 = true := by
  rw [codes_eq]
  intro c hc
  simp only [codes1, List.mem_cons, List.not_mem_nil, or_false] at hc
  rcases hc with rfl | rfl
  · exact w_c0
  · exact w_c1
set_option maxRecDepth 65536 in
theorem w_t1 : words1.all (fun c => isCode c || c.before args0 about1) = true := by decide +kernel
theorem w_tables : (allAtoms (Jvm.Cond.code x code maxLocals ret :: tables_1)).before args0 about1 = true := by
  rw [allAtoms_all]
  show words1.all (fun c => c.before args0 about1) = true
  refine all_split ?_ w_codes
  rw [w_t1]
set_option maxRecDepth 65536 in
theorem w_case : (Jvm.Cond.and given_1 narrow_1).before args0 about1 = true := by decide +kernel
theorem w_applies : (headSpec (Jvm.Cond.code x code maxLocals ret :: tables_1) room_1).applies x e0.platform about1 = true :=
  (Spec.applies_iff w_frames).mpr ⟨w_running, w_runnable, w_alone, w_named, w_hears, w_ripe, w_room, w_tables⟩
theorem atStart : AtStart classFile x code maxLocals ret World_1 tables_1 room_1 Calls_1 rest_1 Pre_1 launch0 p0 e0 about1 theMethod args0 below0 :=
  ⟨lists_1, trivial, launch0.admits_env _ _ _, launch0.least_env, fairChoices_fair.cas, fairChoices_fair.clock, w_frames, w_args, w_heap, w_applies, trivial, trivial, w_case⟩
end start1
theorem witness_1 : WitnessClaimed_1 := ⟨start1.p0, start1.e0, start1.about1, start1.theMethod, start1.args0, start1.below0, start1.atStart⟩
end Jvm.Pilot.@@N@@
