import JvmDerived
import JvmDerived.Pilot.@@N@@Statement
import JvmDerived.Pilot.@@N@@Code
set_option linter.unusedVariables false
set_option linter.unusedSimpArgs false
namespace Jvm.Pilot.@@N@@
open Jvm Jvm.ClassFile Sem Op Lib Jvm.Free Jvm.Stand Jvm.LawKit Jvm.RoadKit Bundle Jvm.Pilot.@@N@@.Jvm.D
theorem own_w {a0 : Array Value} {Z : State} (hw : ∀ d ∈ tables_1, d.before a0 Z = true) (i : Nat) {d : Jvm.Cond} (h : tables_1[i]? = some d) : d.before a0 Z = true := hw d (List.mem_of_getElem? h)
section Own
variable {p : Program} {l : Launch} {e : Env} {R : Room} {s : State} {m : MethodId} {args : Array Value} {below : List Frame} {meth : Method} {c : Code} {T T' : State} {locs : List Loc} {cells slots : Nat} {g g' : JFrame} {K : Outcome → State → Prop} {Q : Option Value → Heap → List Loc → Prop} {kc ks : Nat}
/-- from this state, with this frame on top, the run comes to an end at which K holds -/
def own_E (p : Program) (e : Env) (below : List Frame) (K : Outcome → State → Prop) (T : State) (g : JFrame) : Prop :=
  ∃ s₂ o, Steps p.tables e below (T.setTop g) s₂ ∧ s₂.status = .running ∧ Ended s₂ below o ∧ K o s₂
def own_K (Q : Option Value → Heap → List Loc → Prop) (s : State) (kc ks : Nat) : Outcome → State → Prop :=
  fun o U' => ∃ v L, o = .returned v ∧ Q v U'.heap L ∧ FrameEnd s o U' L kc ks
theorem own_st (st : ∀ t, Steps p.tables e below (T'.setTop g') t → Steps p.tables e below (T.setTop g) t) (k : own_E p e below K T' g') : own_E p e below K T g := by
  obtain ⟨s2, o, h1, h2⟩ := k
  exact ⟨s2, o, st _ h1, h2⟩
theorem own_tr (st : Steps p.tables e below (T.setTop g) (T'.setTop g')) (k : own_E p e below K T' g') : own_E p e below K T g :=
  own_st (fun _ h => st.trans h) k
theorem own_pre (q : g = g') (k : own_E p e below K T g') : own_E p e below K T g := q ▸ k
theorem own_end (X : Stand p l e R s m args below meth c T locs cells slots) (hlk : meth.locks = false) {v : Option Value} (hv : meth.sig.returnType = none → v = none)
    (hr : ∀ fs : List Frame, (∀ (f : JFrame) (acts : List Action), f.method = m → f.locked = none → f.entered = [] → (doReturn e (T.setTop f) acts v).1 = T.setFrames fs) → Steps p.tables e below (T.setTop g) (T.setFrames fs))
    (hc : cells ≤ kc) (hs : slots ≤ ks) (hQ : Q v T.heap locs) : own_E p e below (own_K Q s kc ks) T g := by
  obtain ⟨fs, h1, hrun, hended, hW, hsame⟩ := X.leave (v := v) hv hlk
  exact ⟨_, _, hr fs h1, hrun, hended, _, _, rfl, hQ, ⟨_, rfl⟩, hW, hsame.mono hc hs⟩
theorem own_retV (X : Stand p l e R s m args below meth c T locs cells slots) (hx : p.tables.exec = Jvm.exec) (hlk : meth.locks = false) {pc : Nat} {Ls : Array Slot} (hret : meth.sig.returnType = none)
    (hd : decode c.code pc = .ok (.return_, 1)) (hc : cells ≤ kc) (hs : slots ≤ ks) (hQ : Q none T.heap locs) : own_E p e below (own_K Q s kc ks) T (mkF m pc Ls []) :=
  own_end X hlk (fun _ => rfl) (fun fs h => X.returnOut hx hret hd h) hc hs hQ
theorem own_retG (X : Stand p l e R s m args below meth c T locs cells slots) (hx : p.tables.exec = Jvm.exec) (hlk : meth.locks = false) {pc : Nat} {Ls : Array Slot} {w : Value} {t : FieldType} {i : Instr} {rest : List Value} (hret : meth.sig.returnType = some t) (hn : narrow t w = w)
    (hi : (i = .ireturn ∧ (t = .int ∨ t = .boolean ∨ t = .byte ∨ t = .char ∨ t = .short) ∧ ∃ z, w = .int z) ∨ (i = .lreturn ∧ t = .long ∧ ∃ z, w = .long z) ∨ (i = .dreturn ∧ t = .double ∧ ∃ z, w = .double z) ∨ (i = .freturn ∧ t = .float ∧ ∃ z, w = .float z) ∨ (i = .areturn ∧ t.isReference = true ∧ w.isRef = true))
    (hd : decode c.code pc = .ok (i, 1)) (hc : cells ≤ kc) (hs : slots ≤ ks) (hQ : Q (some w) T.heap locs) : own_E p e below (own_K Q s kc ks) T (mkF m pc Ls (w :: rest)) :=
  own_end X hlk (fun h => by rw [hret] at h; cases h) (fun fs h => retOut X hx hret hn hi hd h) hc hs hQ
theorem own_retI (X : Stand p l e R s m args below meth c T locs cells slots) (hx : p.tables.exec = Jvm.exec) (hlk : meth.locks = false) {pc : Nat} {Ls : Array Slot} {z : Int32} {rest : List Value} (hret : meth.sig.returnType = some .int)
    (hd : decode c.code pc = .ok (.ireturn, 1)) (hc : cells ≤ kc) (hs : slots ≤ ks) (hQ : Q (some (.int z)) T.heap locs) : own_E p e below (own_K Q s kc ks) T (mkF m pc Ls (.int z :: rest)) :=
  own_retG X hx hlk hret rfl (Or.inl ⟨rfl, Or.inl rfl, z, rfl⟩) hd hc hs hQ
theorem own_retS (X : Stand p l e R s m args below meth c T locs cells slots) (hx : p.tables.exec = Jvm.exec) (hlk : meth.locks = false) {pc : Nat} {Ls : Array Slot} {z : Int32} {t : FieldType} {rest : List Value} (hret : meth.sig.returnType = some t) (hn : narrow t (.int z) = .int z)
    (ht : t = .int ∨ t = .boolean ∨ t = .byte ∨ t = .char ∨ t = .short) (hd : decode c.code pc = .ok (.ireturn, 1)) (hc : cells ≤ kc) (hs : slots ≤ ks) (hQ : Q (some (.int z)) T.heap locs) : own_E p e below (own_K Q s kc ks) T (mkF m pc Ls (.int z :: rest)) :=
  own_retG X hx hlk hret hn (Or.inl ⟨rfl, ht, z, rfl⟩) hd hc hs hQ
theorem own_retN (X : Stand p l e R s m args below meth c T locs cells slots) (hx : p.tables.exec = Jvm.exec) (hlk : meth.locks = false) {pc : Nat} {Ls : Array Slot} {z : Int32} {t : FieldType} {rest : List Value} (hret : meth.sig.returnType = some t)
    (ht : t = .boolean ∨ t = .byte ∨ t = .char ∨ t = .short) (hd : decode c.code pc = .ok (.ireturn, 1)) (hc : cells ≤ kc) (hs : slots ≤ ks) (hQ : Q (some (.int (nar t z))) T.heap locs) : own_E p e below (own_K Q s kc ks) T (mkF m pc Ls (.int z :: rest)) :=
  own_end X hlk (fun h => by rw [hret] at h; cases h) (fun fs h => retN X hx hret ht hd h) hc hs hQ
theorem own_retJ (X : Stand p l e R s m args below meth c T locs cells slots) (hx : p.tables.exec = Jvm.exec) (hlk : meth.locks = false) {pc : Nat} {Ls : Array Slot} {z : Int64} {rest : List Value} (hret : meth.sig.returnType = some .long)
    (hd : decode c.code pc = .ok (.lreturn, 1)) (hc : cells ≤ kc) (hs : slots ≤ ks) (hQ : Q (some (.long z)) T.heap locs) : own_E p e below (own_K Q s kc ks) T (mkF m pc Ls (.long z :: rest)) :=
  own_retG X hx hlk hret rfl (Or.inr (Or.inl ⟨rfl, rfl, z, rfl⟩)) hd hc hs hQ
theorem own_retA (X : Stand p l e R s m args below meth c T locs cells slots) (hx : p.tables.exec = Jvm.exec) (hlk : meth.locks = false) {pc : Nat} {Ls : Array Slot} {w : Value} {t : FieldType} {rest : List Value} (hret : meth.sig.returnType = some t) (ht : t.isReference = true) (hw : w.isRef = true)
    (hd : decode c.code pc = .ok (.areturn, 1)) (hc : cells ≤ kc) (hs : slots ≤ ks) (hQ : Q (some w) T.heap locs) : own_E p e below (own_K Q s kc ks) T (mkF m pc Ls (w :: rest)) :=
  own_retG X hx hlk hret (by cases w <;> cases t <;> first | rfl | (simp [Value.isRef] at hw) | (simp [FieldType.isReference] at ht)) (Or.inr (Or.inr (Or.inr (Or.inr ⟨rfl, ht, hw⟩)))) hd hc hs hQ
end Own
theorem own_StaK {Z : State} {h h' : Heap} {C n d : String} {v : Value} (F : Sta Z h C n d v) (K : Keep h h' []) : Sta Z h' C n d v := Sta.ext ⟨K.1, fun a c q => K.2.1 a c q nin0⟩ F
section OwnArr
variable {p : Program} {l : Launch} {e : Env} {R : Room} {s : State} {m : MethodId} {args : Array Value} {below : List Frame} {meth : Method} {c : Code} {T : State} {locs : List Loc} {cells slots : Nat} {Z : State} {h : Heap} {a : Addr} {k : ClassId} {z : Int32} {vs : List Value} {dv : Value}
theorem own_alen (X : Stand p l e R s m args below meth c T locs cells slots) (hx : p.tables.exec = Jvm.exec) (hZ : Z.Warmed39 s.vm) (eT : T.heap = h) {ty : FieldType} (F : Arv Z h a k ty z vs dv) {g : JFrame} (hg : g.method = m) {rest : List Value} (hs : g.stack = .ref a :: rest) (hd : decode c.code g.pc = .ok (.arraylength, 1)) :
    ∀ target, Steps p.tables e below (T.setTop { g with pc := g.pc + 1, stack := .int z :: rest }) target → Steps p.tables e below (T.setTop g) target := by
  obtain ⟨cl, A, q, S, N, H, G⟩ := F
  intro target hr
  refine X.arraylength hx (by rw [eT]; exact A.1) (State.isArrayOf_alike hZ.alike A.2.1) hg hs hd _ ?_
  rw [len_of S N]; exact hr
theorem own_ald (X : Stand p l e R s m args below meth c T locs cells slots) (hx : p.tables.exec = Jvm.exec) (hZ : Z.Warmed39 s.vm) (eT : T.heap = h) (F : Arv Z h a k .int z vs dv) {j : Int32} (hj : ¬ j < 0 ∧ j < z) {v : Value} (hv : vs.getD j.toNatClampNeg dv = v) {g : JFrame} (hg : g.method = m) {rest : List Value} (hs : g.stack = .int j :: .ref a :: rest) (hd : decode c.code g.pc = .ok (.iaload, 1)) :
    ∀ target, Steps p.tables e below (T.setTop { g with pc := g.pc + 1, stack := v :: rest }) target → Steps p.tables e below (T.setTop g) target := by
  obtain ⟨cl, A, q, S, N, H, G⟩ := F
  have hin := inb_of S hj
  exact X.iaload hx (by rw [eT]; exact A.1) (State.isArrayOf_alike hZ.alike A.2.1) A.2.2 hin (H.at hin hv) hg hs hd
theorem own_ast (X : Stand p l e R s m args below meth c T locs cells slots) (hx : p.tables.exec = Jvm.exec) (hZ : Z.Warmed39 s.vm) (eT : T.heap = h) (F : Arv Z h a k .int z vs dv) {j : Int32} (hj : ¬ j < 0 ∧ j < z) {x : Int32} {i : Nat} (hi : j.toNatClampNeg = i) (hl : i < vs.length) {g : JFrame} (hg : g.method = m) {rest : List Value} (hs : g.stack = .int x :: .int j :: .ref a :: rest) (hd : decode c.code g.pc = .ok (.iastore, 1)) :
    ∃ T' h', Stand p l e R s m args below meth c T' (locs ++ [⟨a, j.toNatClampNeg⟩]) cells slots ∧ T'.heap = h' ∧ Wr h h' a j.toNatClampNeg (.int x) ∧ Arv Z h' a k .int z (vs.set i (.int x)) dv ∧ ∀ target, Steps p.tables e below (T'.setTop { g with pc := g.pc + 1, stack := rest }) target → Steps p.tables e below (T.setTop g) target := by
  obtain ⟨cl, A, q, S, N, H, G⟩ := F
  have hin := inb_of S hj
  obtain ⟨T', h', X', e', W, st⟩ := stI X hx hZ eT A hin hg hs hd
  exact ⟨T', h', X', e', W, Arv.set A q S N H G rfl W i hi hl, st⟩
theorem own_cst (X : Stand p l e R s m args below meth c T locs cells slots) (hx : p.tables.exec = Jvm.exec) (hZ : Z.Warmed39 s.vm) (eT : T.heap = h) (F : Arv Z h a k .char z vs dv) {j : Int32} (hj : ¬ j < 0 ∧ j < z) {x : Int32} {i : Nat} (hi : j.toNatClampNeg = i) (hl : i < vs.length) {g : JFrame} (hg : g.method = m) {rest : List Value} (hs : g.stack = .int x :: .int j :: .ref a :: rest) (hd : decode c.code g.pc = .ok (.castore, 1)) :
    ∃ T' h', Stand p l e R s m args below meth c T' (locs ++ [⟨a, j.toNatClampNeg⟩]) cells slots ∧ T'.heap = h' ∧ Wr h h' a j.toNatClampNeg (.int (nar .char x)) ∧ Arv Z h' a k .char z (vs.set i (.int (nar .char x))) dv ∧ ∀ target, Steps p.tables e below (T'.setTop { g with pc := g.pc + 1, stack := rest }) target → Steps p.tables e below (T.setTop g) target := by
  obtain ⟨cl, A, q, S, N, H, G⟩ := F
  have hin := inb_of S hj
  obtain ⟨T', h', X', e', W, st⟩ := stC X hx hZ eT A hin hg hs hd
  exact ⟨T', h', X', e', W, Arv.set A q S N H G (fits_nar_char _) W i hi hl, st⟩
end OwnArr
theorem own_eqi {args : Array Value} {s : State} {t : Term} {a : Addr} {C n d : String} {k : Int32} (ht : t.eval args s none [] s = some (.ref a)) (h : (Jvm.Cond.eq (.field t C n d) (.int k)).value args s none s [] = some true) : s.fieldOf? a C n d = some (.int k) := by
  simp only [Jvm.Cond.value, fld_at ht] at h
  generalize s.fieldOf? a C n d = o at h
  rcases o with _ | w
  · simp [Term.eval] at h
  · cases w <;> simp [Term.eval] at h
    rw [h]
theorem own_d_method_3_0 : decode method_3_code 0 = .ok (.iload_n 0, 1) := by decide +kernel
theorem own_d_method_3_1 : decode method_3_code 1 = .ok (.ifCond .ne 7, 3) := by decide +kernel
theorem own_d_method_3_4 : decode method_3_code 4 = .ok (.getstatic 20, 3) := by decide +kernel
theorem own_d_method_3_7 : decode method_3_code 7 = .ok (.areturn, 1) := by decide +kernel
theorem own_d_method_3_8 : decode method_3_code 8 = .ok (.iload_n 0, 1) := by decide +kernel
theorem own_d_method_3_9 : decode method_3_code 9 = .ok (.iconst 1, 1) := by decide +kernel
theorem own_d_method_3_10 : decode method_3_code 10 = .ok (.if_icmp .ne 7, 3) := by decide +kernel
theorem own_d_method_3_13 : decode method_3_code 13 = .ok (.getstatic 24, 3) := by decide +kernel
theorem own_d_method_3_16 : decode method_3_code 16 = .ok (.areturn, 1) := by decide +kernel
theorem own_d_method_3_17 : decode method_3_code 17 = .ok (.iload_n 0, 1) := by decide +kernel
theorem own_d_method_3_18 : decode method_3_code 18 = .ok (.iconst 2, 1) := by decide +kernel
theorem own_d_method_3_19 : decode method_3_code 19 = .ok (.if_icmp .ne 7, 3) := by decide +kernel
theorem own_d_method_3_22 : decode method_3_code 22 = .ok (.getstatic 27, 3) := by decide +kernel
theorem own_d_method_3_25 : decode method_3_code 25 = .ok (.areturn, 1) := by decide +kernel
theorem own_d_method_3_26 : decode method_3_code 26 = .ok (.iload_n 0, 1) := by decide +kernel
theorem own_d_method_3_27 : decode method_3_code 27 = .ok (.iconst 3, 1) := by decide +kernel
theorem own_d_method_3_28 : decode method_3_code 28 = .ok (.if_icmp .ne 7, 3) := by decide +kernel
theorem own_d_method_3_31 : decode method_3_code 31 = .ok (.getstatic 30, 3) := by decide +kernel
theorem own_d_method_3_34 : decode method_3_code 34 = .ok (.areturn, 1) := by decide +kernel
theorem own_d_method_3_35 : decode method_3_code 35 = .ok (.iload_n 0, 1) := by decide +kernel
theorem own_d_method_3_36 : decode method_3_code 36 = .ok (.iconst 4, 1) := by decide +kernel
theorem own_d_method_3_37 : decode method_3_code 37 = .ok (.if_icmp .ne 7, 3) := by decide +kernel
theorem own_d_method_3_40 : decode method_3_code 40 = .ok (.getstatic 33, 3) := by decide +kernel
theorem own_d_method_3_43 : decode method_3_code 43 = .ok (.areturn, 1) := by decide +kernel
theorem own_d_method_3_44 : decode method_3_code 44 = .ok (.getstatic 36, 3) := by decide +kernel
theorem own_d_method_3_47 : decode method_3_code 47 = .ok (.areturn, 1) := by decide +kernel
def own_pick_Q (aOK : Addr) (aERROR : Addr) (aWARNING : Addr) (aDISCARD : Addr) (aPENDING : Addr) (aFATAL : Addr) (p1 : Int32) (h0 : Heap) (v : Option Value) (h : Heap) (L : List Loc) : Prop := ((v = some (.ref aOK) ∧ p1 = (0 : Int32)) ∨ (v = some (.ref aWARNING) ∧ ¬ (p1 = (0 : Int32)) ∧ p1 = (1 : Int32)) ∨ (v = some (.ref aDISCARD) ∧ ¬ (p1 = (0 : Int32)) ∧ ¬ (p1 = (1 : Int32)) ∧ p1 = (2 : Int32)) ∨ (v = some (.ref aERROR) ∧ ¬ (p1 = (0 : Int32)) ∧ ¬ (p1 = (1 : Int32)) ∧ ¬ (p1 = (2 : Int32)) ∧ p1 = (3 : Int32)) ∨ (v = some (.ref aFATAL) ∧ ¬ (p1 = (0 : Int32)) ∧ ¬ (p1 = (1 : Int32)) ∧ ¬ (p1 = (2 : Int32)) ∧ ¬ (p1 = (3 : Int32)) ∧ p1 = (4 : Int32)) ∨ (v = some (.ref aPENDING) ∧ ¬ (p1 = (0 : Int32)) ∧ ¬ (p1 = (1 : Int32)) ∧ ¬ (p1 = (2 : Int32)) ∧ ¬ (p1 = (3 : Int32)) ∧ ¬ (p1 = (4 : Int32)))) ∧ h = h0 ∧ L = []
abbrev own_y0 : MethodName := ⟨"com/example/lockstep/lockstep/fmi/Fmi2StatusSucceededPinLaw", "pick", "(I)Lcom/example/lockstep/lockstep/fmi/Fmi2Status;"⟩
theorem own_pn_Fmi2StatusSucceededPinLaw : plainName "com/example/lockstep/lockstep/fmi/Fmi2StatusSucceededPinLaw" = true := by first | (simp [plainName, overriddenIn]; done) | decide +kernel
theorem own_pick_ef (m : MethodId) (aOK : Addr) (aERROR : Addr) (aWARNING : Addr) (aDISCARD : Addr) (aPENDING : Addr) (aFATAL : Addr) (p1 : Int32) : entryFrame m #[(.int p1)] 1 = mkF m 0 #[.val (.int p1)] [] := by first | (simp [entryFrame, mkF, argsToLocals, Value.category]; done) | rfl
set_option maxRecDepth 65536 in
set_option maxHeartbeats 40000000 in
theorem own_pick (l : Launch) (Z : State) (a0 : Array Value) (hw : ∀ d ∈ tables_1, d.before a0 Z = true) (ws : List Jvm.Cond) (aOK : Addr) (aERROR : Addr) (aWARNING : Addr) (aDISCARD : Addr) (aPENDING : Addr) (aFATAL : Addr) (p1 : Int32) (h0 : Heap) (n0 : Nat) (Z0 : n0 ≤ h0.size) (S_OK : Sta Z h0 "com/example/lockstep/lockstep/fmi/Fmi2Status" "OK" "Lcom/example/lockstep/lockstep/fmi/Fmi2Status;" (.ref aOK)) (S_ERROR : Sta Z h0 "com/example/lockstep/lockstep/fmi/Fmi2Status" "ERROR" "Lcom/example/lockstep/lockstep/fmi/Fmi2Status;" (.ref aERROR)) (S_WARNING : Sta Z h0 "com/example/lockstep/lockstep/fmi/Fmi2Status" "WARNING" "Lcom/example/lockstep/lockstep/fmi/Fmi2Status;" (.ref aWARNING)) (S_DISCARD : Sta Z h0 "com/example/lockstep/lockstep/fmi/Fmi2Status" "DISCARD" "Lcom/example/lockstep/lockstep/fmi/Fmi2Status;" (.ref aDISCARD)) (S_PENDING : Sta Z h0 "com/example/lockstep/lockstep/fmi/Fmi2Status" "PENDING" "Lcom/example/lockstep/lockstep/fmi/Fmi2Status;" (.ref aPENDING)) (S_FATAL : Sta Z h0 "com/example/lockstep/lockstep/fmi/Fmi2Status" "FATAL" "Lcom/example/lockstep/lockstep/fmi/Fmi2Status;" (.ref aFATAL)) (E_OK : Exa Z h0 aOK "com/example/lockstep/lockstep/fmi/Fmi2Status") (E_ERROR : Exa Z h0 aERROR "com/example/lockstep/lockstep/fmi/Fmi2Status") (E_WARNING : Exa Z h0 aWARNING "com/example/lockstep/lockstep/fmi/Fmi2Status") (E_DISCARD : Exa Z h0 aDISCARD "com/example/lockstep/lockstep/fmi/Fmi2Status") (E_PENDING : Exa Z h0 aPENDING "com/example/lockstep/lockstep/fmi/Fmi2Status") (E_FATAL : Exa Z h0 aFATAL "com/example/lockstep/lockstep/fmi/Fmi2Status") (ne_OK_ERROR : ¬ aOK = aERROR) (ne_OK_WARNING : ¬ aOK = aWARNING) (ne_OK_DISCARD : ¬ aOK = aDISCARD) (ne_OK_PENDING : ¬ aOK = aPENDING) (ne_OK_FATAL : ¬ aOK = aFATAL) (ne_ERROR_WARNING : ¬ aERROR = aWARNING) (ne_ERROR_DISCARD : ¬ aERROR = aDISCARD) (ne_ERROR_PENDING : ¬ aERROR = aPENDING) (ne_ERROR_FATAL : ¬ aERROR = aFATAL) (ne_WARNING_DISCARD : ¬ aWARNING = aDISCARD) (ne_WARNING_PENDING : ¬ aWARNING = aPENDING) (ne_WARNING_FATAL : ¬ aWARNING = aFATAL) (ne_DISCARD_PENDING : ¬ aDISCARD = aPENDING) (ne_DISCARD_FATAL : ¬ aDISCARD = aFATAL) (ne_PENDING_FATAL : ¬ aPENDING = aFATAL) :
    MetFree l own_y0 (head1 (Jvm.Cond.code own_y0 method_3_code 1 (some (.object "com/example/lockstep/lockstep/fmi/Fmi2Status")) :: ws) ({ frames := 0, cells := 0, slots := 0, locals := 0 } : Room)) (fun a U => a = #[(.int p1)] ∧ Z.Warmed39 U.vm ∧ U.heap = h0) (fun _ _ _ _ _ => True) (fun _ U o U' => ∃ v L, o = .returned v ∧ own_pick_Q aOK aERROR aWARNING aDISCARD aPENDING aFATAL p1 h0 v U'.heap L ∧ FrameEnd U o U' L ({ frames := 0, cells := 0, slots := 0, locals := 0 } : Room).cells ({ frames := 0, cells := 0, slots := 0, locals := 0 } : Room).slots) := by
  refine MetFree.of_bodySF (plainFor_of_name own_pn_Fmi2StatusSucceededPinLaw) hisR ?_
  intro p e s m args below meth c s₁ Bd hml0 hP hK
  obtain ⟨rfl, hZ, hh⟩ := hP
  have hx := Bd.exec
  have hby := Bd.bytes
  have hml : c.maxLocals = 1 := hml0
  have hown : s.vm.findClass "com/example/lockstep/lockstep/fmi/Fmi2StatusSucceededPinLaw" = some m.cls := findClass_of_methodNamed Bd.named
  have hnm := (name_of_methodNamed Bd.named Bd.method).1
  have X0 : Stand p l e ({ frames := 0, cells := 0, slots := 0, locals := 0 } : Room) s m #[(.int p1)] below meth c s₁ [] 0 0 := Stand.of_body Bd
  have e0 : s₁.heap = h0 := by rw [← hh, Bd.state]; rfl
  show own_E p e below (own_K (own_pick_Q aOK aERROR aWARNING aDISCARD aPENDING aFATAL p1 h0) s ({ frames := 0, cells := 0, slots := 0, locals := 0 } : Room).cells ({ frames := 0, cells := 0, slots := 0, locals := 0 } : Room).slots) s₁ (entryFrame m #[(.int p1)] 1)
  refine own_pre (own_pick_ef m aOK aERROR aWARNING aDISCARD aPENDING aFATAL p1) ?_
  show own_E p e below _ s₁ (mkF m 0 #[iv p1] [])
  refine own_st (fun t k => XS.iloadN X0.here hx rfl (hb hby own_d_method_3_0) rfl k) ?_
  show own_E p e below _ s₁ (mkF m 1 #[iv p1] [.int p1])
  by_cases hc1 : p1 = (0 : Int32)
  · refine own_st (fun t k => XS.ifNo X0.here hx rfl (hb hby own_d_method_3_1) rfl ((if0 _ _).trans (teq hc1).2) k) ?_
    show own_E p e below _ s₁ (mkF m 4 #[iv p1] [])
    obtain ⟨T2, X2, e2, st2⟩ := getS2 X0 hx hZ hown (host := "") (Or.inl (own_w hw 5 rfl)) Via.refl e0 S_OK (g := (mkF m 4 #[iv p1] [])) rfl (hb hby own_d_method_3_4)
    refine own_st st2 ?_
    show own_E p e below _ T2 (mkF m 7 #[iv p1] [.ref aOK])
    refine own_retA X2 hx Bd.notSynchronized Bd.returns rfl rfl (hb hby own_d_method_3_7) (by decide) (by decide) ?_
    exact ⟨(Or.inl ⟨rfl, hc1⟩), e2, rfl⟩
  · refine own_st (fun t k => XS.ifYes X0.here hx rfl (pc0 := 1) (pc' := 8) rfl (hb hby own_d_method_3_1) rfl ((if0 _ _).trans (feq hc1).2) (by decide) (by decide) k) ?_
    show own_E p e below _ s₁ (mkF m 8 #[iv p1] [])
    refine own_st (fun t k => XS.iloadN X0.here hx rfl (hb hby own_d_method_3_8) rfl k) ?_
    show own_E p e below _ s₁ (mkF m 9 #[iv p1] [.int p1])
    refine own_st (fun t k => XS.iconst X0.here hx rfl (hb hby own_d_method_3_9) k) ?_
    show own_E p e below _ s₁ (mkF m 10 #[iv p1] [.int 1, .int p1])
    by_cases hc3 : p1 = (1 : Int32)
    · refine own_st (fun t k => XS.icmpNo X0.here hx rfl (hb hby own_d_method_3_10) rfl (teq hc3).2 k) ?_
      show own_E p e below _ s₁ (mkF m 13 #[iv p1] [])
      obtain ⟨T4, X4, e4, st4⟩ := getS2 X0 hx hZ hown (host := "") (Or.inl (own_w hw 20 rfl)) Via.refl e0 S_WARNING (g := (mkF m 13 #[iv p1] [])) rfl (hb hby own_d_method_3_13)
      refine own_st st4 ?_
      show own_E p e below _ T4 (mkF m 16 #[iv p1] [.ref aWARNING])
      refine own_retA X4 hx Bd.notSynchronized Bd.returns rfl rfl (hb hby own_d_method_3_16) (by decide) (by decide) ?_
      exact ⟨(Or.inr (Or.inl ⟨rfl, hc1, hc3⟩)), e4, rfl⟩
    · refine own_st (fun t k => XS.icmpYes X0.here hx rfl (pc0 := 10) (pc' := 17) rfl (hb hby own_d_method_3_10) rfl (feq hc3).2 (by decide) (by decide) k) ?_
      show own_E p e below _ s₁ (mkF m 17 #[iv p1] [])
      refine own_st (fun t k => XS.iloadN X0.here hx rfl (hb hby own_d_method_3_17) rfl k) ?_
      show own_E p e below _ s₁ (mkF m 18 #[iv p1] [.int p1])
      refine own_st (fun t k => XS.iconst X0.here hx rfl (hb hby own_d_method_3_18) k) ?_
      show own_E p e below _ s₁ (mkF m 19 #[iv p1] [.int 2, .int p1])
      by_cases hc5 : p1 = (2 : Int32)
      · refine own_st (fun t k => XS.icmpNo X0.here hx rfl (hb hby own_d_method_3_19) rfl (teq hc5).2 k) ?_
        show own_E p e below _ s₁ (mkF m 22 #[iv p1] [])
        obtain ⟨T6, X6, e6, st6⟩ := getS2 X0 hx hZ hown (host := "") (Or.inl (own_w hw 18 rfl)) Via.refl e0 S_DISCARD (g := (mkF m 22 #[iv p1] [])) rfl (hb hby own_d_method_3_22)
        refine own_st st6 ?_
        show own_E p e below _ T6 (mkF m 25 #[iv p1] [.ref aDISCARD])
        refine own_retA X6 hx Bd.notSynchronized Bd.returns rfl rfl (hb hby own_d_method_3_25) (by decide) (by decide) ?_
        exact ⟨(Or.inr (Or.inr (Or.inl ⟨rfl, hc1, hc3, hc5⟩))), e6, rfl⟩
      · refine own_st (fun t k => XS.icmpYes X0.here hx rfl (pc0 := 19) (pc' := 26) rfl (hb hby own_d_method_3_19) rfl (feq hc5).2 (by decide) (by decide) k) ?_
        show own_E p e below _ s₁ (mkF m 26 #[iv p1] [])
        refine own_st (fun t k => XS.iloadN X0.here hx rfl (hb hby own_d_method_3_26) rfl k) ?_
        show own_E p e below _ s₁ (mkF m 27 #[iv p1] [.int p1])
        refine own_st (fun t k => XS.iconst X0.here hx rfl (hb hby own_d_method_3_27) k) ?_
        show own_E p e below _ s₁ (mkF m 28 #[iv p1] [.int 3, .int p1])
        by_cases hc7 : p1 = (3 : Int32)
        · refine own_st (fun t k => XS.icmpNo X0.here hx rfl (hb hby own_d_method_3_28) rfl (teq hc7).2 k) ?_
          show own_E p e below _ s₁ (mkF m 31 #[iv p1] [])
          obtain ⟨T8, X8, e8, st8⟩ := getS2 X0 hx hZ hown (host := "") (Or.inl (own_w hw 14 rfl)) Via.refl e0 S_ERROR (g := (mkF m 31 #[iv p1] [])) rfl (hb hby own_d_method_3_31)
          refine own_st st8 ?_
          show own_E p e below _ T8 (mkF m 34 #[iv p1] [.ref aERROR])
          refine own_retA X8 hx Bd.notSynchronized Bd.returns rfl rfl (hb hby own_d_method_3_34) (by decide) (by decide) ?_
          exact ⟨(Or.inr (Or.inr (Or.inr (Or.inl ⟨rfl, hc1, hc3, hc5, hc7⟩)))), e8, rfl⟩
        · refine own_st (fun t k => XS.icmpYes X0.here hx rfl (pc0 := 28) (pc' := 35) rfl (hb hby own_d_method_3_28) rfl (feq hc7).2 (by decide) (by decide) k) ?_
          show own_E p e below _ s₁ (mkF m 35 #[iv p1] [])
          refine own_st (fun t k => XS.iloadN X0.here hx rfl (hb hby own_d_method_3_35) rfl k) ?_
          show own_E p e below _ s₁ (mkF m 36 #[iv p1] [.int p1])
          refine own_st (fun t k => XS.iconst X0.here hx rfl (hb hby own_d_method_3_36) k) ?_
          show own_E p e below _ s₁ (mkF m 37 #[iv p1] [.int 4, .int p1])
          by_cases hc9 : p1 = (4 : Int32)
          · refine own_st (fun t k => XS.icmpNo X0.here hx rfl (hb hby own_d_method_3_37) rfl (teq hc9).2 k) ?_
            show own_E p e below _ s₁ (mkF m 40 #[iv p1] [])
            obtain ⟨T10, X10, e10, st10⟩ := getS2 X0 hx hZ hown (host := "") (Or.inl (own_w hw 23 rfl)) Via.refl e0 S_FATAL (g := (mkF m 40 #[iv p1] [])) rfl (hb hby own_d_method_3_40)
            refine own_st st10 ?_
            show own_E p e below _ T10 (mkF m 43 #[iv p1] [.ref aFATAL])
            refine own_retA X10 hx Bd.notSynchronized Bd.returns rfl rfl (hb hby own_d_method_3_43) (by decide) (by decide) ?_
            exact ⟨(Or.inr (Or.inr (Or.inr (Or.inr (Or.inl ⟨rfl, hc1, hc3, hc5, hc7, hc9⟩))))), e10, rfl⟩
          · refine own_st (fun t k => XS.icmpYes X0.here hx rfl (pc0 := 37) (pc' := 44) rfl (hb hby own_d_method_3_37) rfl (feq hc9).2 (by decide) (by decide) k) ?_
            show own_E p e below _ s₁ (mkF m 44 #[iv p1] [])
            obtain ⟨T11, X11, e11, st11⟩ := getS2 X0 hx hZ hown (host := "") (Or.inl (own_w hw 21 rfl)) Via.refl e0 S_PENDING (g := (mkF m 44 #[iv p1] [])) rfl (hb hby own_d_method_3_44)
            refine own_st st11 ?_
            show own_E p e below _ T11 (mkF m 47 #[iv p1] [.ref aPENDING])
            refine own_retA X11 hx Bd.notSynchronized Bd.returns rfl rfl (hb hby own_d_method_3_47) (by decide) (by decide) ?_
            exact ⟨(Or.inr (Or.inr (Or.inr (Or.inr (Or.inr ⟨rfl, hc1, hc3, hc5, hc7, hc9⟩))))), e11, rfl⟩
theorem own_d_prog_15_method_5_0 : decode prog_15_method_5_code 0 = .ok (.aload_n 0, 1) := by decide +kernel
theorem own_d_prog_15_method_5_1 : decode prog_15_method_5_code 1 = .ok (.getstatic 3, 3) := by decide +kernel
theorem own_d_prog_15_method_5_4 : decode prog_15_method_5_code 4 = .ok (.if_acmp .eq 10, 3) := by decide +kernel
theorem own_d_prog_15_method_5_14 : decode prog_15_method_5_code 14 = .ok (.iconst 1, 1) := by decide +kernel
theorem own_d_prog_15_method_5_15 : decode prog_15_method_5_code 15 = .ok (.goto 4, 3) := by decide +kernel
theorem own_d_prog_15_method_5_19 : decode prog_15_method_5_code 19 = .ok (.ireturn, 1) := by decide +kernel
def own_succ_OK_Q (aOK : Addr) (aERROR : Addr) (aWARNING : Addr) (aDISCARD : Addr) (aPENDING : Addr) (aFATAL : Addr) (h0 : Heap) (v : Option Value) (h : Heap) (L : List Loc) : Prop := ((v = some (.int (1 : Int32)))) ∧ h = h0 ∧ L = []
abbrev own_y1 : MethodName := ⟨"com/example/lockstep/lockstep/fmi/Fmi2Status", "succeeded", "()Z"⟩
theorem own_pn_Fmi2Status : plainName "com/example/lockstep/lockstep/fmi/Fmi2Status" = true := by first | (simp [plainName, overriddenIn]; done) | decide +kernel
theorem own_succ_OK_ef (m : MethodId) (aOK : Addr) (aERROR : Addr) (aWARNING : Addr) (aDISCARD : Addr) (aPENDING : Addr) (aFATAL : Addr) : entryFrame m #[(.ref aOK)] 1 = mkF m 0 #[.val (.ref aOK)] [] := by first | (simp [entryFrame, mkF, argsToLocals, Value.category]; done) | rfl
set_option maxRecDepth 65536 in
set_option maxHeartbeats 40000000 in
theorem own_succ_OK (l : Launch) (Z : State) (a0 : Array Value) (hw : ∀ d ∈ tables_1, d.before a0 Z = true) (ws : List Jvm.Cond) (aOK : Addr) (aERROR : Addr) (aWARNING : Addr) (aDISCARD : Addr) (aPENDING : Addr) (aFATAL : Addr) (h0 : Heap) (n0 : Nat) (Z0 : n0 ≤ h0.size) (S_OK : Sta Z h0 "com/example/lockstep/lockstep/fmi/Fmi2Status" "OK" "Lcom/example/lockstep/lockstep/fmi/Fmi2Status;" (.ref aOK)) (S_ERROR : Sta Z h0 "com/example/lockstep/lockstep/fmi/Fmi2Status" "ERROR" "Lcom/example/lockstep/lockstep/fmi/Fmi2Status;" (.ref aERROR)) (S_WARNING : Sta Z h0 "com/example/lockstep/lockstep/fmi/Fmi2Status" "WARNING" "Lcom/example/lockstep/lockstep/fmi/Fmi2Status;" (.ref aWARNING)) (S_DISCARD : Sta Z h0 "com/example/lockstep/lockstep/fmi/Fmi2Status" "DISCARD" "Lcom/example/lockstep/lockstep/fmi/Fmi2Status;" (.ref aDISCARD)) (S_PENDING : Sta Z h0 "com/example/lockstep/lockstep/fmi/Fmi2Status" "PENDING" "Lcom/example/lockstep/lockstep/fmi/Fmi2Status;" (.ref aPENDING)) (S_FATAL : Sta Z h0 "com/example/lockstep/lockstep/fmi/Fmi2Status" "FATAL" "Lcom/example/lockstep/lockstep/fmi/Fmi2Status;" (.ref aFATAL)) (E_OK : Exa Z h0 aOK "com/example/lockstep/lockstep/fmi/Fmi2Status") (E_ERROR : Exa Z h0 aERROR "com/example/lockstep/lockstep/fmi/Fmi2Status") (E_WARNING : Exa Z h0 aWARNING "com/example/lockstep/lockstep/fmi/Fmi2Status") (E_DISCARD : Exa Z h0 aDISCARD "com/example/lockstep/lockstep/fmi/Fmi2Status") (E_PENDING : Exa Z h0 aPENDING "com/example/lockstep/lockstep/fmi/Fmi2Status") (E_FATAL : Exa Z h0 aFATAL "com/example/lockstep/lockstep/fmi/Fmi2Status") (ne_OK_ERROR : ¬ aOK = aERROR) (ne_OK_WARNING : ¬ aOK = aWARNING) (ne_OK_DISCARD : ¬ aOK = aDISCARD) (ne_OK_PENDING : ¬ aOK = aPENDING) (ne_OK_FATAL : ¬ aOK = aFATAL) (ne_ERROR_WARNING : ¬ aERROR = aWARNING) (ne_ERROR_DISCARD : ¬ aERROR = aDISCARD) (ne_ERROR_PENDING : ¬ aERROR = aPENDING) (ne_ERROR_FATAL : ¬ aERROR = aFATAL) (ne_WARNING_DISCARD : ¬ aWARNING = aDISCARD) (ne_WARNING_PENDING : ¬ aWARNING = aPENDING) (ne_WARNING_FATAL : ¬ aWARNING = aFATAL) (ne_DISCARD_PENDING : ¬ aDISCARD = aPENDING) (ne_DISCARD_FATAL : ¬ aDISCARD = aFATAL) (ne_PENDING_FATAL : ¬ aPENDING = aFATAL) :
    MetFree l own_y1 (head1 (Jvm.Cond.code own_y1 prog_15_method_5_code 1 (some .boolean) :: ws) ({ frames := 0, cells := 0, slots := 0, locals := 0 } : Room)) (fun a U => a = #[(.ref aOK)] ∧ Z.Warmed39 U.vm ∧ U.heap = h0) (fun _ _ _ _ _ => True) (fun _ U o U' => ∃ v L, o = .returned v ∧ own_succ_OK_Q aOK aERROR aWARNING aDISCARD aPENDING aFATAL h0 v U'.heap L ∧ FrameEnd U o U' L ({ frames := 0, cells := 0, slots := 0, locals := 0 } : Room).cells ({ frames := 0, cells := 0, slots := 0, locals := 0 } : Room).slots) := by
  refine MetFree.of_bodySF (plainFor_of_name own_pn_Fmi2Status) hisR ?_
  intro p e s m args below meth c s₁ Bd hml0 hP hK
  obtain ⟨rfl, hZ, hh⟩ := hP
  have hx := Bd.exec
  have hby := Bd.bytes
  have hml : c.maxLocals = 1 := hml0
  have hown : s.vm.findClass "com/example/lockstep/lockstep/fmi/Fmi2Status" = some m.cls := findClass_of_methodNamed Bd.named
  have hnm := (name_of_methodNamed Bd.named Bd.method).1
  have X0 : Stand p l e ({ frames := 0, cells := 0, slots := 0, locals := 0 } : Room) s m #[(.ref aOK)] below meth c s₁ [] 0 0 := Stand.of_body Bd
  have e0 : s₁.heap = h0 := by rw [← hh, Bd.state]; rfl
  show own_E p e below (own_K (own_succ_OK_Q aOK aERROR aWARNING aDISCARD aPENDING aFATAL h0) s ({ frames := 0, cells := 0, slots := 0, locals := 0 } : Room).cells ({ frames := 0, cells := 0, slots := 0, locals := 0 } : Room).slots) s₁ (entryFrame m #[(.ref aOK)] 1)
  refine own_pre (own_succ_OK_ef m aOK aERROR aWARNING aDISCARD aPENDING aFATAL) ?_
  show own_E p e below _ s₁ (mkF m 0 #[rv aOK] [])
  refine own_st (fun t k => XS.aloadN X0.here hx rfl (hb hby own_d_prog_15_method_5_0) rfl rfl k) ?_
  show own_E p e below _ s₁ (mkF m 1 #[rv aOK] [.ref aOK])
  obtain ⟨T1, X1, e1, st1⟩ := getS2 X0 hx hZ hown (host := "") (Or.inl (own_w hw 13 rfl)) Via.refl e0 S_OK (g := (mkF m 1 #[rv aOK] [.ref aOK])) rfl (hb hby own_d_prog_15_method_5_1)
  refine own_st st1 ?_
  show own_E p e below _ T1 (mkF m 4 #[rv aOK] [.ref aOK, .ref aOK])
  refine own_st (fun t k => Jvm.RoadKit.acmp (g := (mkF m 4 #[rv aOK] [.ref aOK, .ref aOK])) X1 hx rfl rfl rfl (pc0 := 4) (pc' := 14) (same := true) rfl (hb hby own_d_prog_15_method_5_4) rfl (decide_eq_true rfl) (by decide) (by decide) k) ?_
  show own_E p e below _ T1 (mkF m 14 #[rv aOK] [])
  refine own_st (fun t k => XS.iconst X1.here hx rfl (hb hby own_d_prog_15_method_5_14) k) ?_
  show own_E p e below _ T1 (mkF m 15 #[rv aOK] [.int 1])
  refine own_st (fun t k => XS.goto X1.here hx rfl (pc0 := 15) (pc' := 19) rfl (hb hby own_d_prog_15_method_5_15) (by decide) (by decide) k) ?_
  show own_E p e below _ T1 (mkF m 19 #[rv aOK] [.int 1])
  refine own_retS X1 hx Bd.notSynchronized Bd.returns rfl (by decide) (hb hby own_d_prog_15_method_5_19) (by decide) (by decide) ?_
  exact ⟨rfl, e1, rfl⟩
theorem own_d_prog_15_method_5_7 : decode prog_15_method_5_code 7 = .ok (.aload_n 0, 1) := by decide +kernel
theorem own_d_prog_15_method_5_8 : decode prog_15_method_5_code 8 = .ok (.getstatic 7, 3) := by decide +kernel
theorem own_d_prog_15_method_5_11 : decode prog_15_method_5_code 11 = .ok (.if_acmp .ne 7, 3) := by decide +kernel
theorem own_d_prog_15_method_5_18 : decode prog_15_method_5_code 18 = .ok (.iconst 0, 1) := by decide +kernel
def own_succ_ERROR_Q (aOK : Addr) (aERROR : Addr) (aWARNING : Addr) (aDISCARD : Addr) (aPENDING : Addr) (aFATAL : Addr) (h0 : Heap) (v : Option Value) (h : Heap) (L : List Loc) : Prop := ((v = some (.int (0 : Int32)))) ∧ h = h0 ∧ L = []
theorem own_succ_ERROR_ef (m : MethodId) (aOK : Addr) (aERROR : Addr) (aWARNING : Addr) (aDISCARD : Addr) (aPENDING : Addr) (aFATAL : Addr) : entryFrame m #[(.ref aERROR)] 1 = mkF m 0 #[.val (.ref aERROR)] [] := by first | (simp [entryFrame, mkF, argsToLocals, Value.category]; done) | rfl
set_option maxRecDepth 65536 in
set_option maxHeartbeats 40000000 in
theorem own_succ_ERROR (l : Launch) (Z : State) (a0 : Array Value) (hw : ∀ d ∈ tables_1, d.before a0 Z = true) (ws : List Jvm.Cond) (aOK : Addr) (aERROR : Addr) (aWARNING : Addr) (aDISCARD : Addr) (aPENDING : Addr) (aFATAL : Addr) (h0 : Heap) (n0 : Nat) (Z0 : n0 ≤ h0.size) (S_OK : Sta Z h0 "com/example/lockstep/lockstep/fmi/Fmi2Status" "OK" "Lcom/example/lockstep/lockstep/fmi/Fmi2Status;" (.ref aOK)) (S_ERROR : Sta Z h0 "com/example/lockstep/lockstep/fmi/Fmi2Status" "ERROR" "Lcom/example/lockstep/lockstep/fmi/Fmi2Status;" (.ref aERROR)) (S_WARNING : Sta Z h0 "com/example/lockstep/lockstep/fmi/Fmi2Status" "WARNING" "Lcom/example/lockstep/lockstep/fmi/Fmi2Status;" (.ref aWARNING)) (S_DISCARD : Sta Z h0 "com/example/lockstep/lockstep/fmi/Fmi2Status" "DISCARD" "Lcom/example/lockstep/lockstep/fmi/Fmi2Status;" (.ref aDISCARD)) (S_PENDING : Sta Z h0 "com/example/lockstep/lockstep/fmi/Fmi2Status" "PENDING" "Lcom/example/lockstep/lockstep/fmi/Fmi2Status;" (.ref aPENDING)) (S_FATAL : Sta Z h0 "com/example/lockstep/lockstep/fmi/Fmi2Status" "FATAL" "Lcom/example/lockstep/lockstep/fmi/Fmi2Status;" (.ref aFATAL)) (E_OK : Exa Z h0 aOK "com/example/lockstep/lockstep/fmi/Fmi2Status") (E_ERROR : Exa Z h0 aERROR "com/example/lockstep/lockstep/fmi/Fmi2Status") (E_WARNING : Exa Z h0 aWARNING "com/example/lockstep/lockstep/fmi/Fmi2Status") (E_DISCARD : Exa Z h0 aDISCARD "com/example/lockstep/lockstep/fmi/Fmi2Status") (E_PENDING : Exa Z h0 aPENDING "com/example/lockstep/lockstep/fmi/Fmi2Status") (E_FATAL : Exa Z h0 aFATAL "com/example/lockstep/lockstep/fmi/Fmi2Status") (ne_OK_ERROR : ¬ aOK = aERROR) (ne_OK_WARNING : ¬ aOK = aWARNING) (ne_OK_DISCARD : ¬ aOK = aDISCARD) (ne_OK_PENDING : ¬ aOK = aPENDING) (ne_OK_FATAL : ¬ aOK = aFATAL) (ne_ERROR_WARNING : ¬ aERROR = aWARNING) (ne_ERROR_DISCARD : ¬ aERROR = aDISCARD) (ne_ERROR_PENDING : ¬ aERROR = aPENDING) (ne_ERROR_FATAL : ¬ aERROR = aFATAL) (ne_WARNING_DISCARD : ¬ aWARNING = aDISCARD) (ne_WARNING_PENDING : ¬ aWARNING = aPENDING) (ne_WARNING_FATAL : ¬ aWARNING = aFATAL) (ne_DISCARD_PENDING : ¬ aDISCARD = aPENDING) (ne_DISCARD_FATAL : ¬ aDISCARD = aFATAL) (ne_PENDING_FATAL : ¬ aPENDING = aFATAL) :
    MetFree l own_y1 (head1 (Jvm.Cond.code own_y1 prog_15_method_5_code 1 (some .boolean) :: ws) ({ frames := 0, cells := 0, slots := 0, locals := 0 } : Room)) (fun a U => a = #[(.ref aERROR)] ∧ Z.Warmed39 U.vm ∧ U.heap = h0) (fun _ _ _ _ _ => True) (fun _ U o U' => ∃ v L, o = .returned v ∧ own_succ_ERROR_Q aOK aERROR aWARNING aDISCARD aPENDING aFATAL h0 v U'.heap L ∧ FrameEnd U o U' L ({ frames := 0, cells := 0, slots := 0, locals := 0 } : Room).cells ({ frames := 0, cells := 0, slots := 0, locals := 0 } : Room).slots) := by
  refine MetFree.of_bodySF (plainFor_of_name own_pn_Fmi2Status) hisR ?_
  intro p e s m args below meth c s₁ Bd hml0 hP hK
  obtain ⟨rfl, hZ, hh⟩ := hP
  have hx := Bd.exec
  have hby := Bd.bytes
  have hml : c.maxLocals = 1 := hml0
  have hown : s.vm.findClass "com/example/lockstep/lockstep/fmi/Fmi2Status" = some m.cls := findClass_of_methodNamed Bd.named
  have hnm := (name_of_methodNamed Bd.named Bd.method).1
  have X0 : Stand p l e ({ frames := 0, cells := 0, slots := 0, locals := 0 } : Room) s m #[(.ref aERROR)] below meth c s₁ [] 0 0 := Stand.of_body Bd
  have e0 : s₁.heap = h0 := by rw [← hh, Bd.state]; rfl
  show own_E p e below (own_K (own_succ_ERROR_Q aOK aERROR aWARNING aDISCARD aPENDING aFATAL h0) s ({ frames := 0, cells := 0, slots := 0, locals := 0 } : Room).cells ({ frames := 0, cells := 0, slots := 0, locals := 0 } : Room).slots) s₁ (entryFrame m #[(.ref aERROR)] 1)
  refine own_pre (own_succ_ERROR_ef m aOK aERROR aWARNING aDISCARD aPENDING aFATAL) ?_
  show own_E p e below _ s₁ (mkF m 0 #[rv aERROR] [])
  refine own_st (fun t k => XS.aloadN X0.here hx rfl (hb hby own_d_prog_15_method_5_0) rfl rfl k) ?_
  show own_E p e below _ s₁ (mkF m 1 #[rv aERROR] [.ref aERROR])
  obtain ⟨T1, X1, e1, st1⟩ := getS2 X0 hx hZ hown (host := "") (Or.inl (own_w hw 13 rfl)) Via.refl e0 S_OK (g := (mkF m 1 #[rv aERROR] [.ref aERROR])) rfl (hb hby own_d_prog_15_method_5_1)
  refine own_st st1 ?_
  show own_E p e below _ T1 (mkF m 4 #[rv aERROR] [.ref aOK, .ref aERROR])
  refine own_st (fun t k => Jvm.RoadKit.acmp (g := (mkF m 4 #[rv aERROR] [.ref aOK, .ref aERROR])) X1 hx rfl rfl rfl (pc0 := 4) (pc' := 7) (same := false) rfl (hb hby own_d_prog_15_method_5_4) rfl (decide_eq_false fun q => ne_OK_ERROR (Value.ref.inj q).symm) (by decide) (by decide) k) ?_
  show own_E p e below _ T1 (mkF m 7 #[rv aERROR] [])
  refine own_st (fun t k => XS.aloadN X1.here hx rfl (hb hby own_d_prog_15_method_5_7) rfl rfl k) ?_
  show own_E p e below _ T1 (mkF m 8 #[rv aERROR] [.ref aERROR])
  obtain ⟨T2, X2, e2, st2⟩ := getS2 X1 hx hZ hown (host := "") (Or.inl (own_w hw 16 rfl)) Via.refl e1 S_WARNING (g := (mkF m 8 #[rv aERROR] [.ref aERROR])) rfl (hb hby own_d_prog_15_method_5_8)
  refine own_st st2 ?_
  show own_E p e below _ T2 (mkF m 11 #[rv aERROR] [.ref aWARNING, .ref aERROR])
  refine own_st (fun t k => Jvm.RoadKit.acmp (g := (mkF m 11 #[rv aERROR] [.ref aWARNING, .ref aERROR])) X2 hx rfl rfl rfl (pc0 := 11) (pc' := 18) (same := false) rfl (hb hby own_d_prog_15_method_5_11) rfl (decide_eq_false fun q => ne_ERROR_WARNING (Value.ref.inj q)) (by decide) (by decide) k) ?_
  show own_E p e below _ T2 (mkF m 18 #[rv aERROR] [])
  refine own_st (fun t k => XS.iconst X2.here hx rfl (hb hby own_d_prog_15_method_5_18) k) ?_
  show own_E p e below _ T2 (mkF m 19 #[rv aERROR] [.int 0])
  refine own_retS X2 hx Bd.notSynchronized Bd.returns rfl (by decide) (hb hby own_d_prog_15_method_5_19) (by decide) (by decide) ?_
  exact ⟨rfl, e2, rfl⟩
def own_succ_WARNING_Q (aOK : Addr) (aERROR : Addr) (aWARNING : Addr) (aDISCARD : Addr) (aPENDING : Addr) (aFATAL : Addr) (h0 : Heap) (v : Option Value) (h : Heap) (L : List Loc) : Prop := ((v = some (.int (1 : Int32)))) ∧ h = h0 ∧ L = []
theorem own_succ_WARNING_ef (m : MethodId) (aOK : Addr) (aERROR : Addr) (aWARNING : Addr) (aDISCARD : Addr) (aPENDING : Addr) (aFATAL : Addr) : entryFrame m #[(.ref aWARNING)] 1 = mkF m 0 #[.val (.ref aWARNING)] [] := by first | (simp [entryFrame, mkF, argsToLocals, Value.category]; done) | rfl
set_option maxRecDepth 65536 in
set_option maxHeartbeats 40000000 in
theorem own_succ_WARNING (l : Launch) (Z : State) (a0 : Array Value) (hw : ∀ d ∈ tables_1, d.before a0 Z = true) (ws : List Jvm.Cond) (aOK : Addr) (aERROR : Addr) (aWARNING : Addr) (aDISCARD : Addr) (aPENDING : Addr) (aFATAL : Addr) (h0 : Heap) (n0 : Nat) (Z0 : n0 ≤ h0.size) (S_OK : Sta Z h0 "com/example/lockstep/lockstep/fmi/Fmi2Status" "OK" "Lcom/example/lockstep/lockstep/fmi/Fmi2Status;" (.ref aOK)) (S_ERROR : Sta Z h0 "com/example/lockstep/lockstep/fmi/Fmi2Status" "ERROR" "Lcom/example/lockstep/lockstep/fmi/Fmi2Status;" (.ref aERROR)) (S_WARNING : Sta Z h0 "com/example/lockstep/lockstep/fmi/Fmi2Status" "WARNING" "Lcom/example/lockstep/lockstep/fmi/Fmi2Status;" (.ref aWARNING)) (S_DISCARD : Sta Z h0 "com/example/lockstep/lockstep/fmi/Fmi2Status" "DISCARD" "Lcom/example/lockstep/lockstep/fmi/Fmi2Status;" (.ref aDISCARD)) (S_PENDING : Sta Z h0 "com/example/lockstep/lockstep/fmi/Fmi2Status" "PENDING" "Lcom/example/lockstep/lockstep/fmi/Fmi2Status;" (.ref aPENDING)) (S_FATAL : Sta Z h0 "com/example/lockstep/lockstep/fmi/Fmi2Status" "FATAL" "Lcom/example/lockstep/lockstep/fmi/Fmi2Status;" (.ref aFATAL)) (E_OK : Exa Z h0 aOK "com/example/lockstep/lockstep/fmi/Fmi2Status") (E_ERROR : Exa Z h0 aERROR "com/example/lockstep/lockstep/fmi/Fmi2Status") (E_WARNING : Exa Z h0 aWARNING "com/example/lockstep/lockstep/fmi/Fmi2Status") (E_DISCARD : Exa Z h0 aDISCARD "com/example/lockstep/lockstep/fmi/Fmi2Status") (E_PENDING : Exa Z h0 aPENDING "com/example/lockstep/lockstep/fmi/Fmi2Status") (E_FATAL : Exa Z h0 aFATAL "com/example/lockstep/lockstep/fmi/Fmi2Status") (ne_OK_ERROR : ¬ aOK = aERROR) (ne_OK_WARNING : ¬ aOK = aWARNING) (ne_OK_DISCARD : ¬ aOK = aDISCARD) (ne_OK_PENDING : ¬ aOK = aPENDING) (ne_OK_FATAL : ¬ aOK = aFATAL) (ne_ERROR_WARNING : ¬ aERROR = aWARNING) (ne_ERROR_DISCARD : ¬ aERROR = aDISCARD) (ne_ERROR_PENDING : ¬ aERROR = aPENDING) (ne_ERROR_FATAL : ¬ aERROR = aFATAL) (ne_WARNING_DISCARD : ¬ aWARNING = aDISCARD) (ne_WARNING_PENDING : ¬ aWARNING = aPENDING) (ne_WARNING_FATAL : ¬ aWARNING = aFATAL) (ne_DISCARD_PENDING : ¬ aDISCARD = aPENDING) (ne_DISCARD_FATAL : ¬ aDISCARD = aFATAL) (ne_PENDING_FATAL : ¬ aPENDING = aFATAL) :
    MetFree l own_y1 (head1 (Jvm.Cond.code own_y1 prog_15_method_5_code 1 (some .boolean) :: ws) ({ frames := 0, cells := 0, slots := 0, locals := 0 } : Room)) (fun a U => a = #[(.ref aWARNING)] ∧ Z.Warmed39 U.vm ∧ U.heap = h0) (fun _ _ _ _ _ => True) (fun _ U o U' => ∃ v L, o = .returned v ∧ own_succ_WARNING_Q aOK aERROR aWARNING aDISCARD aPENDING aFATAL h0 v U'.heap L ∧ FrameEnd U o U' L ({ frames := 0, cells := 0, slots := 0, locals := 0 } : Room).cells ({ frames := 0, cells := 0, slots := 0, locals := 0 } : Room).slots) := by
  refine MetFree.of_bodySF (plainFor_of_name own_pn_Fmi2Status) hisR ?_
  intro p e s m args below meth c s₁ Bd hml0 hP hK
  obtain ⟨rfl, hZ, hh⟩ := hP
  have hx := Bd.exec
  have hby := Bd.bytes
  have hml : c.maxLocals = 1 := hml0
  have hown : s.vm.findClass "com/example/lockstep/lockstep/fmi/Fmi2Status" = some m.cls := findClass_of_methodNamed Bd.named
  have hnm := (name_of_methodNamed Bd.named Bd.method).1
  have X0 : Stand p l e ({ frames := 0, cells := 0, slots := 0, locals := 0 } : Room) s m #[(.ref aWARNING)] below meth c s₁ [] 0 0 := Stand.of_body Bd
  have e0 : s₁.heap = h0 := by rw [← hh, Bd.state]; rfl
  show own_E p e below (own_K (own_succ_WARNING_Q aOK aERROR aWARNING aDISCARD aPENDING aFATAL h0) s ({ frames := 0, cells := 0, slots := 0, locals := 0 } : Room).cells ({ frames := 0, cells := 0, slots := 0, locals := 0 } : Room).slots) s₁ (entryFrame m #[(.ref aWARNING)] 1)
  refine own_pre (own_succ_WARNING_ef m aOK aERROR aWARNING aDISCARD aPENDING aFATAL) ?_
  show own_E p e below _ s₁ (mkF m 0 #[rv aWARNING] [])
  refine own_st (fun t k => XS.aloadN X0.here hx rfl (hb hby own_d_prog_15_method_5_0) rfl rfl k) ?_
  show own_E p e below _ s₁ (mkF m 1 #[rv aWARNING] [.ref aWARNING])
  obtain ⟨T1, X1, e1, st1⟩ := getS2 X0 hx hZ hown (host := "") (Or.inl (own_w hw 13 rfl)) Via.refl e0 S_OK (g := (mkF m 1 #[rv aWARNING] [.ref aWARNING])) rfl (hb hby own_d_prog_15_method_5_1)
  refine own_st st1 ?_
  show own_E p e below _ T1 (mkF m 4 #[rv aWARNING] [.ref aOK, .ref aWARNING])
  refine own_st (fun t k => Jvm.RoadKit.acmp (g := (mkF m 4 #[rv aWARNING] [.ref aOK, .ref aWARNING])) X1 hx rfl rfl rfl (pc0 := 4) (pc' := 7) (same := false) rfl (hb hby own_d_prog_15_method_5_4) rfl (decide_eq_false fun q => ne_OK_WARNING (Value.ref.inj q).symm) (by decide) (by decide) k) ?_
  show own_E p e below _ T1 (mkF m 7 #[rv aWARNING] [])
  refine own_st (fun t k => XS.aloadN X1.here hx rfl (hb hby own_d_prog_15_method_5_7) rfl rfl k) ?_
  show own_E p e below _ T1 (mkF m 8 #[rv aWARNING] [.ref aWARNING])
  obtain ⟨T2, X2, e2, st2⟩ := getS2 X1 hx hZ hown (host := "") (Or.inl (own_w hw 16 rfl)) Via.refl e1 S_WARNING (g := (mkF m 8 #[rv aWARNING] [.ref aWARNING])) rfl (hb hby own_d_prog_15_method_5_8)
  refine own_st st2 ?_
  show own_E p e below _ T2 (mkF m 11 #[rv aWARNING] [.ref aWARNING, .ref aWARNING])
  refine own_st (fun t k => Jvm.RoadKit.acmp (g := (mkF m 11 #[rv aWARNING] [.ref aWARNING, .ref aWARNING])) X2 hx rfl rfl rfl (pc0 := 11) (pc' := 14) (same := true) rfl (hb hby own_d_prog_15_method_5_11) rfl (decide_eq_true rfl) (by decide) (by decide) k) ?_
  show own_E p e below _ T2 (mkF m 14 #[rv aWARNING] [])
  refine own_st (fun t k => XS.iconst X2.here hx rfl (hb hby own_d_prog_15_method_5_14) k) ?_
  show own_E p e below _ T2 (mkF m 15 #[rv aWARNING] [.int 1])
  refine own_st (fun t k => XS.goto X2.here hx rfl (pc0 := 15) (pc' := 19) rfl (hb hby own_d_prog_15_method_5_15) (by decide) (by decide) k) ?_
  show own_E p e below _ T2 (mkF m 19 #[rv aWARNING] [.int 1])
  refine own_retS X2 hx Bd.notSynchronized Bd.returns rfl (by decide) (hb hby own_d_prog_15_method_5_19) (by decide) (by decide) ?_
  exact ⟨rfl, e2, rfl⟩
def own_succ_DISCARD_Q (aOK : Addr) (aERROR : Addr) (aWARNING : Addr) (aDISCARD : Addr) (aPENDING : Addr) (aFATAL : Addr) (h0 : Heap) (v : Option Value) (h : Heap) (L : List Loc) : Prop := ((v = some (.int (0 : Int32)))) ∧ h = h0 ∧ L = []
theorem own_succ_DISCARD_ef (m : MethodId) (aOK : Addr) (aERROR : Addr) (aWARNING : Addr) (aDISCARD : Addr) (aPENDING : Addr) (aFATAL : Addr) : entryFrame m #[(.ref aDISCARD)] 1 = mkF m 0 #[.val (.ref aDISCARD)] [] := by first | (simp [entryFrame, mkF, argsToLocals, Value.category]; done) | rfl
set_option maxRecDepth 65536 in
set_option maxHeartbeats 40000000 in
theorem own_succ_DISCARD (l : Launch) (Z : State) (a0 : Array Value) (hw : ∀ d ∈ tables_1, d.before a0 Z = true) (ws : List Jvm.Cond) (aOK : Addr) (aERROR : Addr) (aWARNING : Addr) (aDISCARD : Addr) (aPENDING : Addr) (aFATAL : Addr) (h0 : Heap) (n0 : Nat) (Z0 : n0 ≤ h0.size) (S_OK : Sta Z h0 "com/example/lockstep/lockstep/fmi/Fmi2Status" "OK" "Lcom/example/lockstep/lockstep/fmi/Fmi2Status;" (.ref aOK)) (S_ERROR : Sta Z h0 "com/example/lockstep/lockstep/fmi/Fmi2Status" "ERROR" "Lcom/example/lockstep/lockstep/fmi/Fmi2Status;" (.ref aERROR)) (S_WARNING : Sta Z h0 "com/example/lockstep/lockstep/fmi/Fmi2Status" "WARNING" "Lcom/example/lockstep/lockstep/fmi/Fmi2Status;" (.ref aWARNING)) (S_DISCARD : Sta Z h0 "com/example/lockstep/lockstep/fmi/Fmi2Status" "DISCARD" "Lcom/example/lockstep/lockstep/fmi/Fmi2Status;" (.ref aDISCARD)) (S_PENDING : Sta Z h0 "com/example/lockstep/lockstep/fmi/Fmi2Status" "PENDING" "Lcom/example/lockstep/lockstep/fmi/Fmi2Status;" (.ref aPENDING)) (S_FATAL : Sta Z h0 "com/example/lockstep/lockstep/fmi/Fmi2Status" "FATAL" "Lcom/example/lockstep/lockstep/fmi/Fmi2Status;" (.ref aFATAL)) (E_OK : Exa Z h0 aOK "com/example/lockstep/lockstep/fmi/Fmi2Status") (E_ERROR : Exa Z h0 aERROR "com/example/lockstep/lockstep/fmi/Fmi2Status") (E_WARNING : Exa Z h0 aWARNING "com/example/lockstep/lockstep/fmi/Fmi2Status") (E_DISCARD : Exa Z h0 aDISCARD "com/example/lockstep/lockstep/fmi/Fmi2Status") (E_PENDING : Exa Z h0 aPENDING "com/example/lockstep/lockstep/fmi/Fmi2Status") (E_FATAL : Exa Z h0 aFATAL "com/example/lockstep/lockstep/fmi/Fmi2Status") (ne_OK_ERROR : ¬ aOK = aERROR) (ne_OK_WARNING : ¬ aOK = aWARNING) (ne_OK_DISCARD : ¬ aOK = aDISCARD) (ne_OK_PENDING : ¬ aOK = aPENDING) (ne_OK_FATAL : ¬ aOK = aFATAL) (ne_ERROR_WARNING : ¬ aERROR = aWARNING) (ne_ERROR_DISCARD : ¬ aERROR = aDISCARD) (ne_ERROR_PENDING : ¬ aERROR = aPENDING) (ne_ERROR_FATAL : ¬ aERROR = aFATAL) (ne_WARNING_DISCARD : ¬ aWARNING = aDISCARD) (ne_WARNING_PENDING : ¬ aWARNING = aPENDING) (ne_WARNING_FATAL : ¬ aWARNING = aFATAL) (ne_DISCARD_PENDING : ¬ aDISCARD = aPENDING) (ne_DISCARD_FATAL : ¬ aDISCARD = aFATAL) (ne_PENDING_FATAL : ¬ aPENDING = aFATAL) :
    MetFree l own_y1 (head1 (Jvm.Cond.code own_y1 prog_15_method_5_code 1 (some .boolean) :: ws) ({ frames := 0, cells := 0, slots := 0, locals := 0 } : Room)) (fun a U => a = #[(.ref aDISCARD)] ∧ Z.Warmed39 U.vm ∧ U.heap = h0) (fun _ _ _ _ _ => True) (fun _ U o U' => ∃ v L, o = .returned v ∧ own_succ_DISCARD_Q aOK aERROR aWARNING aDISCARD aPENDING aFATAL h0 v U'.heap L ∧ FrameEnd U o U' L ({ frames := 0, cells := 0, slots := 0, locals := 0 } : Room).cells ({ frames := 0, cells := 0, slots := 0, locals := 0 } : Room).slots) := by
  refine MetFree.of_bodySF (plainFor_of_name own_pn_Fmi2Status) hisR ?_
  intro p e s m args below meth c s₁ Bd hml0 hP hK
  obtain ⟨rfl, hZ, hh⟩ := hP
  have hx := Bd.exec
  have hby := Bd.bytes
  have hml : c.maxLocals = 1 := hml0
  have hown : s.vm.findClass "com/example/lockstep/lockstep/fmi/Fmi2Status" = some m.cls := findClass_of_methodNamed Bd.named
  have hnm := (name_of_methodNamed Bd.named Bd.method).1
  have X0 : Stand p l e ({ frames := 0, cells := 0, slots := 0, locals := 0 } : Room) s m #[(.ref aDISCARD)] below meth c s₁ [] 0 0 := Stand.of_body Bd
  have e0 : s₁.heap = h0 := by rw [← hh, Bd.state]; rfl
  show own_E p e below (own_K (own_succ_DISCARD_Q aOK aERROR aWARNING aDISCARD aPENDING aFATAL h0) s ({ frames := 0, cells := 0, slots := 0, locals := 0 } : Room).cells ({ frames := 0, cells := 0, slots := 0, locals := 0 } : Room).slots) s₁ (entryFrame m #[(.ref aDISCARD)] 1)
  refine own_pre (own_succ_DISCARD_ef m aOK aERROR aWARNING aDISCARD aPENDING aFATAL) ?_
  show own_E p e below _ s₁ (mkF m 0 #[rv aDISCARD] [])
  refine own_st (fun t k => XS.aloadN X0.here hx rfl (hb hby own_d_prog_15_method_5_0) rfl rfl k) ?_
  show own_E p e below _ s₁ (mkF m 1 #[rv aDISCARD] [.ref aDISCARD])
  obtain ⟨T1, X1, e1, st1⟩ := getS2 X0 hx hZ hown (host := "") (Or.inl (own_w hw 13 rfl)) Via.refl e0 S_OK (g := (mkF m 1 #[rv aDISCARD] [.ref aDISCARD])) rfl (hb hby own_d_prog_15_method_5_1)
  refine own_st st1 ?_
  show own_E p e below _ T1 (mkF m 4 #[rv aDISCARD] [.ref aOK, .ref aDISCARD])
  refine own_st (fun t k => Jvm.RoadKit.acmp (g := (mkF m 4 #[rv aDISCARD] [.ref aOK, .ref aDISCARD])) X1 hx rfl rfl rfl (pc0 := 4) (pc' := 7) (same := false) rfl (hb hby own_d_prog_15_method_5_4) rfl (decide_eq_false fun q => ne_OK_DISCARD (Value.ref.inj q).symm) (by decide) (by decide) k) ?_
  show own_E p e below _ T1 (mkF m 7 #[rv aDISCARD] [])
  refine own_st (fun t k => XS.aloadN X1.here hx rfl (hb hby own_d_prog_15_method_5_7) rfl rfl k) ?_
  show own_E p e below _ T1 (mkF m 8 #[rv aDISCARD] [.ref aDISCARD])
  obtain ⟨T2, X2, e2, st2⟩ := getS2 X1 hx hZ hown (host := "") (Or.inl (own_w hw 16 rfl)) Via.refl e1 S_WARNING (g := (mkF m 8 #[rv aDISCARD] [.ref aDISCARD])) rfl (hb hby own_d_prog_15_method_5_8)
  refine own_st st2 ?_
  show own_E p e below _ T2 (mkF m 11 #[rv aDISCARD] [.ref aWARNING, .ref aDISCARD])
  refine own_st (fun t k => Jvm.RoadKit.acmp (g := (mkF m 11 #[rv aDISCARD] [.ref aWARNING, .ref aDISCARD])) X2 hx rfl rfl rfl (pc0 := 11) (pc' := 18) (same := false) rfl (hb hby own_d_prog_15_method_5_11) rfl (decide_eq_false fun q => ne_WARNING_DISCARD (Value.ref.inj q).symm) (by decide) (by decide) k) ?_
  show own_E p e below _ T2 (mkF m 18 #[rv aDISCARD] [])
  refine own_st (fun t k => XS.iconst X2.here hx rfl (hb hby own_d_prog_15_method_5_18) k) ?_
  show own_E p e below _ T2 (mkF m 19 #[rv aDISCARD] [.int 0])
  refine own_retS X2 hx Bd.notSynchronized Bd.returns rfl (by decide) (hb hby own_d_prog_15_method_5_19) (by decide) (by decide) ?_
  exact ⟨rfl, e2, rfl⟩
def own_succ_PENDING_Q (aOK : Addr) (aERROR : Addr) (aWARNING : Addr) (aDISCARD : Addr) (aPENDING : Addr) (aFATAL : Addr) (h0 : Heap) (v : Option Value) (h : Heap) (L : List Loc) : Prop := ((v = some (.int (0 : Int32)))) ∧ h = h0 ∧ L = []
theorem own_succ_PENDING_ef (m : MethodId) (aOK : Addr) (aERROR : Addr) (aWARNING : Addr) (aDISCARD : Addr) (aPENDING : Addr) (aFATAL : Addr) : entryFrame m #[(.ref aPENDING)] 1 = mkF m 0 #[.val (.ref aPENDING)] [] := by first | (simp [entryFrame, mkF, argsToLocals, Value.category]; done) | rfl
set_option maxRecDepth 65536 in
set_option maxHeartbeats 40000000 in
theorem own_succ_PENDING (l : Launch) (Z : State) (a0 : Array Value) (hw : ∀ d ∈ tables_1, d.before a0 Z = true) (ws : List Jvm.Cond) (aOK : Addr) (aERROR : Addr) (aWARNING : Addr) (aDISCARD : Addr) (aPENDING : Addr) (aFATAL : Addr) (h0 : Heap) (n0 : Nat) (Z0 : n0 ≤ h0.size) (S_OK : Sta Z h0 "com/example/lockstep/lockstep/fmi/Fmi2Status" "OK" "Lcom/example/lockstep/lockstep/fmi/Fmi2Status;" (.ref aOK)) (S_ERROR : Sta Z h0 "com/example/lockstep/lockstep/fmi/Fmi2Status" "ERROR" "Lcom/example/lockstep/lockstep/fmi/Fmi2Status;" (.ref aERROR)) (S_WARNING : Sta Z h0 "com/example/lockstep/lockstep/fmi/Fmi2Status" "WARNING" "Lcom/example/lockstep/lockstep/fmi/Fmi2Status;" (.ref aWARNING)) (S_DISCARD : Sta Z h0 "com/example/lockstep/lockstep/fmi/Fmi2Status" "DISCARD" "Lcom/example/lockstep/lockstep/fmi/Fmi2Status;" (.ref aDISCARD)) (S_PENDING : Sta Z h0 "com/example/lockstep/lockstep/fmi/Fmi2Status" "PENDING" "Lcom/example/lockstep/lockstep/fmi/Fmi2Status;" (.ref aPENDING)) (S_FATAL : Sta Z h0 "com/example/lockstep/lockstep/fmi/Fmi2Status" "FATAL" "Lcom/example/lockstep/lockstep/fmi/Fmi2Status;" (.ref aFATAL)) (E_OK : Exa Z h0 aOK "com/example/lockstep/lockstep/fmi/Fmi2Status") (E_ERROR : Exa Z h0 aERROR "com/example/lockstep/lockstep/fmi/Fmi2Status") (E_WARNING : Exa Z h0 aWARNING "com/example/lockstep/lockstep/fmi/Fmi2Status") (E_DISCARD : Exa Z h0 aDISCARD "com/example/lockstep/lockstep/fmi/Fmi2Status") (E_PENDING : Exa Z h0 aPENDING "com/example/lockstep/lockstep/fmi/Fmi2Status") (E_FATAL : Exa Z h0 aFATAL "com/example/lockstep/lockstep/fmi/Fmi2Status") (ne_OK_ERROR : ¬ aOK = aERROR) (ne_OK_WARNING : ¬ aOK = aWARNING) (ne_OK_DISCARD : ¬ aOK = aDISCARD) (ne_OK_PENDING : ¬ aOK = aPENDING) (ne_OK_FATAL : ¬ aOK = aFATAL) (ne_ERROR_WARNING : ¬ aERROR = aWARNING) (ne_ERROR_DISCARD : ¬ aERROR = aDISCARD) (ne_ERROR_PENDING : ¬ aERROR = aPENDING) (ne_ERROR_FATAL : ¬ aERROR = aFATAL) (ne_WARNING_DISCARD : ¬ aWARNING = aDISCARD) (ne_WARNING_PENDING : ¬ aWARNING = aPENDING) (ne_WARNING_FATAL : ¬ aWARNING = aFATAL) (ne_DISCARD_PENDING : ¬ aDISCARD = aPENDING) (ne_DISCARD_FATAL : ¬ aDISCARD = aFATAL) (ne_PENDING_FATAL : ¬ aPENDING = aFATAL) :
    MetFree l own_y1 (head1 (Jvm.Cond.code own_y1 prog_15_method_5_code 1 (some .boolean) :: ws) ({ frames := 0, cells := 0, slots := 0, locals := 0 } : Room)) (fun a U => a = #[(.ref aPENDING)] ∧ Z.Warmed39 U.vm ∧ U.heap = h0) (fun _ _ _ _ _ => True) (fun _ U o U' => ∃ v L, o = .returned v ∧ own_succ_PENDING_Q aOK aERROR aWARNING aDISCARD aPENDING aFATAL h0 v U'.heap L ∧ FrameEnd U o U' L ({ frames := 0, cells := 0, slots := 0, locals := 0 } : Room).cells ({ frames := 0, cells := 0, slots := 0, locals := 0 } : Room).slots) := by
  refine MetFree.of_bodySF (plainFor_of_name own_pn_Fmi2Status) hisR ?_
  intro p e s m args below meth c s₁ Bd hml0 hP hK
  obtain ⟨rfl, hZ, hh⟩ := hP
  have hx := Bd.exec
  have hby := Bd.bytes
  have hml : c.maxLocals = 1 := hml0
  have hown : s.vm.findClass "com/example/lockstep/lockstep/fmi/Fmi2Status" = some m.cls := findClass_of_methodNamed Bd.named
  have hnm := (name_of_methodNamed Bd.named Bd.method).1
  have X0 : Stand p l e ({ frames := 0, cells := 0, slots := 0, locals := 0 } : Room) s m #[(.ref aPENDING)] below meth c s₁ [] 0 0 := Stand.of_body Bd
  have e0 : s₁.heap = h0 := by rw [← hh, Bd.state]; rfl
  show own_E p e below (own_K (own_succ_PENDING_Q aOK aERROR aWARNING aDISCARD aPENDING aFATAL h0) s ({ frames := 0, cells := 0, slots := 0, locals := 0 } : Room).cells ({ frames := 0, cells := 0, slots := 0, locals := 0 } : Room).slots) s₁ (entryFrame m #[(.ref aPENDING)] 1)
  refine own_pre (own_succ_PENDING_ef m aOK aERROR aWARNING aDISCARD aPENDING aFATAL) ?_
  show own_E p e below _ s₁ (mkF m 0 #[rv aPENDING] [])
  refine own_st (fun t k => XS.aloadN X0.here hx rfl (hb hby own_d_prog_15_method_5_0) rfl rfl k) ?_
  show own_E p e below _ s₁ (mkF m 1 #[rv aPENDING] [.ref aPENDING])
  obtain ⟨T1, X1, e1, st1⟩ := getS2 X0 hx hZ hown (host := "") (Or.inl (own_w hw 13 rfl)) Via.refl e0 S_OK (g := (mkF m 1 #[rv aPENDING] [.ref aPENDING])) rfl (hb hby own_d_prog_15_method_5_1)
  refine own_st st1 ?_
  show own_E p e below _ T1 (mkF m 4 #[rv aPENDING] [.ref aOK, .ref aPENDING])
  refine own_st (fun t k => Jvm.RoadKit.acmp (g := (mkF m 4 #[rv aPENDING] [.ref aOK, .ref aPENDING])) X1 hx rfl rfl rfl (pc0 := 4) (pc' := 7) (same := false) rfl (hb hby own_d_prog_15_method_5_4) rfl (decide_eq_false fun q => ne_OK_PENDING (Value.ref.inj q).symm) (by decide) (by decide) k) ?_
  show own_E p e below _ T1 (mkF m 7 #[rv aPENDING] [])
  refine own_st (fun t k => XS.aloadN X1.here hx rfl (hb hby own_d_prog_15_method_5_7) rfl rfl k) ?_
  show own_E p e below _ T1 (mkF m 8 #[rv aPENDING] [.ref aPENDING])
  obtain ⟨T2, X2, e2, st2⟩ := getS2 X1 hx hZ hown (host := "") (Or.inl (own_w hw 16 rfl)) Via.refl e1 S_WARNING (g := (mkF m 8 #[rv aPENDING] [.ref aPENDING])) rfl (hb hby own_d_prog_15_method_5_8)
  refine own_st st2 ?_
  show own_E p e below _ T2 (mkF m 11 #[rv aPENDING] [.ref aWARNING, .ref aPENDING])
  refine own_st (fun t k => Jvm.RoadKit.acmp (g := (mkF m 11 #[rv aPENDING] [.ref aWARNING, .ref aPENDING])) X2 hx rfl rfl rfl (pc0 := 11) (pc' := 18) (same := false) rfl (hb hby own_d_prog_15_method_5_11) rfl (decide_eq_false fun q => ne_WARNING_PENDING (Value.ref.inj q).symm) (by decide) (by decide) k) ?_
  show own_E p e below _ T2 (mkF m 18 #[rv aPENDING] [])
  refine own_st (fun t k => XS.iconst X2.here hx rfl (hb hby own_d_prog_15_method_5_18) k) ?_
  show own_E p e below _ T2 (mkF m 19 #[rv aPENDING] [.int 0])
  refine own_retS X2 hx Bd.notSynchronized Bd.returns rfl (by decide) (hb hby own_d_prog_15_method_5_19) (by decide) (by decide) ?_
  exact ⟨rfl, e2, rfl⟩
def own_succ_FATAL_Q (aOK : Addr) (aERROR : Addr) (aWARNING : Addr) (aDISCARD : Addr) (aPENDING : Addr) (aFATAL : Addr) (h0 : Heap) (v : Option Value) (h : Heap) (L : List Loc) : Prop := ((v = some (.int (0 : Int32)))) ∧ h = h0 ∧ L = []
theorem own_succ_FATAL_ef (m : MethodId) (aOK : Addr) (aERROR : Addr) (aWARNING : Addr) (aDISCARD : Addr) (aPENDING : Addr) (aFATAL : Addr) : entryFrame m #[(.ref aFATAL)] 1 = mkF m 0 #[.val (.ref aFATAL)] [] := by first | (simp [entryFrame, mkF, argsToLocals, Value.category]; done) | rfl
set_option maxRecDepth 65536 in
set_option maxHeartbeats 40000000 in
theorem own_succ_FATAL (l : Launch) (Z : State) (a0 : Array Value) (hw : ∀ d ∈ tables_1, d.before a0 Z = true) (ws : List Jvm.Cond) (aOK : Addr) (aERROR : Addr) (aWARNING : Addr) (aDISCARD : Addr) (aPENDING : Addr) (aFATAL : Addr) (h0 : Heap) (n0 : Nat) (Z0 : n0 ≤ h0.size) (S_OK : Sta Z h0 "com/example/lockstep/lockstep/fmi/Fmi2Status" "OK" "Lcom/example/lockstep/lockstep/fmi/Fmi2Status;" (.ref aOK)) (S_ERROR : Sta Z h0 "com/example/lockstep/lockstep/fmi/Fmi2Status" "ERROR" "Lcom/example/lockstep/lockstep/fmi/Fmi2Status;" (.ref aERROR)) (S_WARNING : Sta Z h0 "com/example/lockstep/lockstep/fmi/Fmi2Status" "WARNING" "Lcom/example/lockstep/lockstep/fmi/Fmi2Status;" (.ref aWARNING)) (S_DISCARD : Sta Z h0 "com/example/lockstep/lockstep/fmi/Fmi2Status" "DISCARD" "Lcom/example/lockstep/lockstep/fmi/Fmi2Status;" (.ref aDISCARD)) (S_PENDING : Sta Z h0 "com/example/lockstep/lockstep/fmi/Fmi2Status" "PENDING" "Lcom/example/lockstep/lockstep/fmi/Fmi2Status;" (.ref aPENDING)) (S_FATAL : Sta Z h0 "com/example/lockstep/lockstep/fmi/Fmi2Status" "FATAL" "Lcom/example/lockstep/lockstep/fmi/Fmi2Status;" (.ref aFATAL)) (E_OK : Exa Z h0 aOK "com/example/lockstep/lockstep/fmi/Fmi2Status") (E_ERROR : Exa Z h0 aERROR "com/example/lockstep/lockstep/fmi/Fmi2Status") (E_WARNING : Exa Z h0 aWARNING "com/example/lockstep/lockstep/fmi/Fmi2Status") (E_DISCARD : Exa Z h0 aDISCARD "com/example/lockstep/lockstep/fmi/Fmi2Status") (E_PENDING : Exa Z h0 aPENDING "com/example/lockstep/lockstep/fmi/Fmi2Status") (E_FATAL : Exa Z h0 aFATAL "com/example/lockstep/lockstep/fmi/Fmi2Status") (ne_OK_ERROR : ¬ aOK = aERROR) (ne_OK_WARNING : ¬ aOK = aWARNING) (ne_OK_DISCARD : ¬ aOK = aDISCARD) (ne_OK_PENDING : ¬ aOK = aPENDING) (ne_OK_FATAL : ¬ aOK = aFATAL) (ne_ERROR_WARNING : ¬ aERROR = aWARNING) (ne_ERROR_DISCARD : ¬ aERROR = aDISCARD) (ne_ERROR_PENDING : ¬ aERROR = aPENDING) (ne_ERROR_FATAL : ¬ aERROR = aFATAL) (ne_WARNING_DISCARD : ¬ aWARNING = aDISCARD) (ne_WARNING_PENDING : ¬ aWARNING = aPENDING) (ne_WARNING_FATAL : ¬ aWARNING = aFATAL) (ne_DISCARD_PENDING : ¬ aDISCARD = aPENDING) (ne_DISCARD_FATAL : ¬ aDISCARD = aFATAL) (ne_PENDING_FATAL : ¬ aPENDING = aFATAL) :
    MetFree l own_y1 (head1 (Jvm.Cond.code own_y1 prog_15_method_5_code 1 (some .boolean) :: ws) ({ frames := 0, cells := 0, slots := 0, locals := 0 } : Room)) (fun a U => a = #[(.ref aFATAL)] ∧ Z.Warmed39 U.vm ∧ U.heap = h0) (fun _ _ _ _ _ => True) (fun _ U o U' => ∃ v L, o = .returned v ∧ own_succ_FATAL_Q aOK aERROR aWARNING aDISCARD aPENDING aFATAL h0 v U'.heap L ∧ FrameEnd U o U' L ({ frames := 0, cells := 0, slots := 0, locals := 0 } : Room).cells ({ frames := 0, cells := 0, slots := 0, locals := 0 } : Room).slots) := by
  refine MetFree.of_bodySF (plainFor_of_name own_pn_Fmi2Status) hisR ?_
  intro p e s m args below meth c s₁ Bd hml0 hP hK
  obtain ⟨rfl, hZ, hh⟩ := hP
  have hx := Bd.exec
  have hby := Bd.bytes
  have hml : c.maxLocals = 1 := hml0
  have hown : s.vm.findClass "com/example/lockstep/lockstep/fmi/Fmi2Status" = some m.cls := findClass_of_methodNamed Bd.named
  have hnm := (name_of_methodNamed Bd.named Bd.method).1
  have X0 : Stand p l e ({ frames := 0, cells := 0, slots := 0, locals := 0 } : Room) s m #[(.ref aFATAL)] below meth c s₁ [] 0 0 := Stand.of_body Bd
  have e0 : s₁.heap = h0 := by rw [← hh, Bd.state]; rfl
  show own_E p e below (own_K (own_succ_FATAL_Q aOK aERROR aWARNING aDISCARD aPENDING aFATAL h0) s ({ frames := 0, cells := 0, slots := 0, locals := 0 } : Room).cells ({ frames := 0, cells := 0, slots := 0, locals := 0 } : Room).slots) s₁ (entryFrame m #[(.ref aFATAL)] 1)
  refine own_pre (own_succ_FATAL_ef m aOK aERROR aWARNING aDISCARD aPENDING aFATAL) ?_
  show own_E p e below _ s₁ (mkF m 0 #[rv aFATAL] [])
  refine own_st (fun t k => XS.aloadN X0.here hx rfl (hb hby own_d_prog_15_method_5_0) rfl rfl k) ?_
  show own_E p e below _ s₁ (mkF m 1 #[rv aFATAL] [.ref aFATAL])
  obtain ⟨T1, X1, e1, st1⟩ := getS2 X0 hx hZ hown (host := "") (Or.inl (own_w hw 13 rfl)) Via.refl e0 S_OK (g := (mkF m 1 #[rv aFATAL] [.ref aFATAL])) rfl (hb hby own_d_prog_15_method_5_1)
  refine own_st st1 ?_
  show own_E p e below _ T1 (mkF m 4 #[rv aFATAL] [.ref aOK, .ref aFATAL])
  refine own_st (fun t k => Jvm.RoadKit.acmp (g := (mkF m 4 #[rv aFATAL] [.ref aOK, .ref aFATAL])) X1 hx rfl rfl rfl (pc0 := 4) (pc' := 7) (same := false) rfl (hb hby own_d_prog_15_method_5_4) rfl (decide_eq_false fun q => ne_OK_FATAL (Value.ref.inj q).symm) (by decide) (by decide) k) ?_
  show own_E p e below _ T1 (mkF m 7 #[rv aFATAL] [])
  refine own_st (fun t k => XS.aloadN X1.here hx rfl (hb hby own_d_prog_15_method_5_7) rfl rfl k) ?_
  show own_E p e below _ T1 (mkF m 8 #[rv aFATAL] [.ref aFATAL])
  obtain ⟨T2, X2, e2, st2⟩ := getS2 X1 hx hZ hown (host := "") (Or.inl (own_w hw 16 rfl)) Via.refl e1 S_WARNING (g := (mkF m 8 #[rv aFATAL] [.ref aFATAL])) rfl (hb hby own_d_prog_15_method_5_8)
  refine own_st st2 ?_
  show own_E p e below _ T2 (mkF m 11 #[rv aFATAL] [.ref aWARNING, .ref aFATAL])
  refine own_st (fun t k => Jvm.RoadKit.acmp (g := (mkF m 11 #[rv aFATAL] [.ref aWARNING, .ref aFATAL])) X2 hx rfl rfl rfl (pc0 := 11) (pc' := 18) (same := false) rfl (hb hby own_d_prog_15_method_5_11) rfl (decide_eq_false fun q => ne_WARNING_FATAL (Value.ref.inj q).symm) (by decide) (by decide) k) ?_
  show own_E p e below _ T2 (mkF m 18 #[rv aFATAL] [])
  refine own_st (fun t k => XS.iconst X2.here hx rfl (hb hby own_d_prog_15_method_5_18) k) ?_
  show own_E p e below _ T2 (mkF m 19 #[rv aFATAL] [.int 0])
  refine own_retS X2 hx Bd.notSynchronized Bd.returns rfl (by decide) (hb hby own_d_prog_15_method_5_19) (by decide) (by decide) ?_
  exact ⟨rfl, e2, rfl⟩
theorem own_pd_1 : parseMethodDescriptor "(I)Lcom/example/lockstep/lockstep/fmi/Fmi2Status;" = some ⟨[.int], some (.object "com/example/lockstep/lockstep/fmi/Fmi2Status")⟩ := by decide +kernel
theorem own_pd_0 : parseMethodDescriptor "()Z" = some ⟨[], some .boolean⟩ := by decide +kernel
def own_law_Q (n0 : Nat) (v : Option Value) (h : Heap) (L : List Loc) : Prop := v = some (.int 1) ∧ Fr n0 L
theorem own_law_ef (m : MethodId) (aOK : Addr) (aERROR : Addr) (aWARNING : Addr) (aDISCARD : Addr) (aPENDING : Addr) (aFATAL : Addr) (p1 : Int32) : entryFrame m #[(.int p1)] maxLocals = mkF m 0 #[.val (.int p1), .unset, .unset, .unset] [] := by first | (simp [entryFrame, mkF, argsToLocals, Value.category, maxLocals]; done) | rfl
set_option maxRecDepth 65536 in
set_option maxHeartbeats 40000000 in
theorem own_law (l : Launch) (Z : State) (a0 : Array Value) (hw : ∀ d ∈ tables_1, d.before a0 Z = true) (ws : List Jvm.Cond) (aOK : Addr) (aERROR : Addr) (aWARNING : Addr) (aDISCARD : Addr) (aPENDING : Addr) (aFATAL : Addr) (p1 : Int32) (h0 : Heap) (n0 : Nat) (Z0 : n0 ≤ h0.size) (S_OK : Sta Z h0 "com/example/lockstep/lockstep/fmi/Fmi2Status" "OK" "Lcom/example/lockstep/lockstep/fmi/Fmi2Status;" (.ref aOK)) (S_ERROR : Sta Z h0 "com/example/lockstep/lockstep/fmi/Fmi2Status" "ERROR" "Lcom/example/lockstep/lockstep/fmi/Fmi2Status;" (.ref aERROR)) (S_WARNING : Sta Z h0 "com/example/lockstep/lockstep/fmi/Fmi2Status" "WARNING" "Lcom/example/lockstep/lockstep/fmi/Fmi2Status;" (.ref aWARNING)) (S_DISCARD : Sta Z h0 "com/example/lockstep/lockstep/fmi/Fmi2Status" "DISCARD" "Lcom/example/lockstep/lockstep/fmi/Fmi2Status;" (.ref aDISCARD)) (S_PENDING : Sta Z h0 "com/example/lockstep/lockstep/fmi/Fmi2Status" "PENDING" "Lcom/example/lockstep/lockstep/fmi/Fmi2Status;" (.ref aPENDING)) (S_FATAL : Sta Z h0 "com/example/lockstep/lockstep/fmi/Fmi2Status" "FATAL" "Lcom/example/lockstep/lockstep/fmi/Fmi2Status;" (.ref aFATAL)) (E_OK : Exa Z h0 aOK "com/example/lockstep/lockstep/fmi/Fmi2Status") (E_ERROR : Exa Z h0 aERROR "com/example/lockstep/lockstep/fmi/Fmi2Status") (E_WARNING : Exa Z h0 aWARNING "com/example/lockstep/lockstep/fmi/Fmi2Status") (E_DISCARD : Exa Z h0 aDISCARD "com/example/lockstep/lockstep/fmi/Fmi2Status") (E_PENDING : Exa Z h0 aPENDING "com/example/lockstep/lockstep/fmi/Fmi2Status") (E_FATAL : Exa Z h0 aFATAL "com/example/lockstep/lockstep/fmi/Fmi2Status") (ne_OK_ERROR : ¬ aOK = aERROR) (ne_OK_WARNING : ¬ aOK = aWARNING) (ne_OK_DISCARD : ¬ aOK = aDISCARD) (ne_OK_PENDING : ¬ aOK = aPENDING) (ne_OK_FATAL : ¬ aOK = aFATAL) (ne_ERROR_WARNING : ¬ aERROR = aWARNING) (ne_ERROR_DISCARD : ¬ aERROR = aDISCARD) (ne_ERROR_PENDING : ¬ aERROR = aPENDING) (ne_ERROR_FATAL : ¬ aERROR = aFATAL) (ne_WARNING_DISCARD : ¬ aWARNING = aDISCARD) (ne_WARNING_PENDING : ¬ aWARNING = aPENDING) (ne_WARNING_FATAL : ¬ aWARNING = aFATAL) (ne_DISCARD_PENDING : ¬ aDISCARD = aPENDING) (ne_DISCARD_FATAL : ¬ aDISCARD = aFATAL) (ne_PENDING_FATAL : ¬ aPENDING = aFATAL) :
    MetFree l x (head1 (Jvm.Cond.code x code maxLocals ret :: ws) room_1) (fun a U => a = #[(.int p1)] ∧ Z.Warmed39 U.vm ∧ U.heap = h0) (fun _ _ _ _ _ => True) (fun _ U o U' => ∃ v L, o = .returned v ∧ own_law_Q n0 v U'.heap L ∧ FrameEnd U o U' L room_1.cells room_1.slots) := by
  refine MetFree.of_bodySF (plainFor_of_name own_pn_Fmi2StatusSucceededPinLaw) hisR ?_
  intro p e s m args below meth c s₁ Bd hml0 hP hK
  obtain ⟨rfl, hZ, hh⟩ := hP
  have hx := Bd.exec
  have hby := Bd.bytes
  have hml : c.maxLocals = 4 := hml0
  have hown : s.vm.findClass "com/example/lockstep/lockstep/fmi/Fmi2StatusSucceededPinLaw" = some m.cls := findClass_of_methodNamed Bd.named
  have hnm := (name_of_methodNamed Bd.named Bd.method).1
  have X0 : Stand p l e room_1 s m #[(.int p1)] below meth c s₁ [] 0 0 := Stand.of_body Bd
  have e0 : s₁.heap = h0 := by rw [← hh, Bd.state]; rfl
  show own_E p e below (own_K (own_law_Q n0) s room_1.cells room_1.slots) s₁ (entryFrame m #[(.int p1)] maxLocals)
  refine own_pre (own_law_ef m aOK aERROR aWARNING aDISCARD aPENDING aFATAL p1) ?_
  show own_E p e below _ s₁ (mkF m 0 #[iv p1, .unset, .unset, .unset] [])
  refine own_st (fun t k => XS.iloadN X0.here hx rfl (hb hby at_0) rfl k) ?_
  show own_E p e below _ s₁ (mkF m 1 #[iv p1, .unset, .unset, .unset] [.int p1])
  refine own_st (X0.ldcInt hx hown (mvT hZ (own_w hw 0 rfl)) (g := (mkF m 1 #[iv p1, .unset, .unset, .unset] [.int p1])) rfl (hb hby at_1)) ?_
  show own_E p e below _ s₁ (mkF m 3 #[iv p1, .unset, .unset, .unset] [.int 2147483647, .int p1])
  refine own_st (fun t k => XS.iand X0.here hx rfl (hb hby at_3) rfl k) ?_
  show own_E p e below _ s₁ (mkF m 4 #[iv p1, .unset, .unset, .unset] [.int (p1 &&& (2147483647 : Int32))])
  refine own_st (fun t k => XS.bipush X0.here hx rfl (hb hby at_4) k) ?_
  show own_E p e below _ s₁ (mkF m 6 #[iv p1, .unset, .unset, .unset] [.int 6, .int (p1 &&& (2147483647 : Int32))])
  refine own_st (fun t k => iremM X0 hx rfl (hb hby at_6) rfl (by decide) k) ?_
  show own_E p e below _ s₁ (mkF m 7 #[iv p1, .unset, .unset, .unset] [.int ((p1 &&& (2147483647 : Int32)) % (6 : Int32))])
  refine own_st (fun t k => XS.istoreN X0.here hx rfl (hb hby at_7) rfl (l' := #[iv p1, iv ((p1 &&& (2147483647 : Int32)) % (6 : Int32)), .unset, .unset]) rfl k) ?_
  show own_E p e below _ s₁ (mkF m 8 #[iv p1, iv ((p1 &&& (2147483647 : Int32)) % (6 : Int32)), .unset, .unset] [])
  refine own_st (fun t k => XS.iloadN X0.here hx rfl (hb hby at_8) rfl k) ?_
  show own_E p e below _ s₁ (mkF m 9 #[iv p1, iv ((p1 &&& (2147483647 : Int32)) % (6 : Int32)), .unset, .unset] [.int ((p1 &&& (2147483647 : Int32)) % (6 : Int32))])
  obtain ⟨_, _, ⟨T1, L1, k1, n1⟩, -, X1, ⟨Lc1, hQ1, l1, y1, z1⟩, st1⟩ := Jvm.LawKit.callS X0 hx (y := own_y0) hown (mvT hZ (own_w hw 1 rfl)) (mvT hZ (own_w hw 2 rfl)) (mvT hZ (own_w hw 3 rfl)) (mvT hZ (own_w hw 4 rfl)) (by decide) (backOf (W := 0) (own_pick l Z a0 hw [] aOK aERROR aWARNING aDISCARD aPENDING aFATAL ((p1 &&& (2147483647 : Int32)) % (6 : Int32)) h0 n0 Z0 S_OK S_ERROR S_WARNING S_DISCARD S_PENDING S_FATAL E_OK E_ERROR E_WARNING E_DISCARD E_PENDING E_FATAL ne_OK_ERROR ne_OK_WARNING ne_OK_DISCARD ne_OK_PENDING ne_OK_FATAL ne_ERROR_WARNING ne_ERROR_DISCARD ne_ERROR_PENDING ne_ERROR_FATAL ne_WARNING_DISCARD ne_WARNING_PENDING ne_WARNING_FATAL ne_DISCARD_PENDING ne_DISCARD_FATAL ne_PENDING_FATAL) hZ (own_w hw 4 rfl) (own_w hw 3 rfl) (by decide) (by decide)) (g := (mkF m 9 #[iv p1, iv ((p1 &&& (2147483647 : Int32)) % (6 : Int32)), .unset, .unset] [.int ((p1 &&& (2147483647 : Int32)) % (6 : Int32))])) rfl (by rw [hml]; rfl) (argsL := [(.int ((p1 &&& (2147483647 : Int32)) % (6 : Int32)))]) (rest := []) (lenOf own_pd_1 rfl) rfl (by show 2 * 0 + _ ≤ _; exact Nat.le_of_eq rfl) (hb hby at_9) (fun _ _ => ⟨rfl, e0, (by decide : 0 + 0 ≤ _), (by decide : 0 + 0 ≤ _)⟩)
  dsimp only [Pt.U, Pt.locs, Pt.cells, Pt.slots] at X1 l1 y1 z1 st1 hQ1
  subst l1 y1 z1
  obtain ⟨hR1, e1, rfl⟩ := hQ1
  rcases hR1 with ⟨rfl, ha1_0⟩ | ⟨rfl, ha1_0, ha1_1⟩ | ⟨rfl, ha1_0, ha1_1, ha1_2⟩ | ⟨rfl, ha1_0, ha1_1, ha1_2, ha1_3⟩ | ⟨rfl, ha1_0, ha1_1, ha1_2, ha1_3, ha1_4⟩ | ⟨rfl, ha1_0, ha1_1, ha1_2, ha1_3, ha1_4⟩
  · refine own_st st1 ?_
    show own_E p e below _ T1 (mkF m 12 #[iv p1, iv ((p1 &&& (2147483647 : Int32)) % (6 : Int32)), .unset, .unset] [.ref aOK])
    refine own_st (fun t k => XS.astoreN X1.here hx rfl (hb hby at_12) rfl rfl (l' := #[iv p1, iv ((p1 &&& (2147483647 : Int32)) % (6 : Int32)), rv aOK, .unset]) rfl k) ?_
    show own_E p e below _ T1 (mkF m 13 #[iv p1, iv ((p1 &&& (2147483647 : Int32)) % (6 : Int32)), rv aOK, .unset] [])
    refine own_st (fun t k => XS.iloadN X1.here hx rfl (hb hby at_13) rfl k) ?_
    show own_E p e below _ T1 (mkF m 14 #[iv p1, iv ((p1 &&& (2147483647 : Int32)) % (6 : Int32)), rv aOK, .unset] [.int ((p1 &&& (2147483647 : Int32)) % (6 : Int32))])
    refine own_st (fun t k => XS.iconst X1.here hx rfl (hb hby at_14) k) ?_
    show own_E p e below _ T1 (mkF m 15 #[iv p1, iv ((p1 &&& (2147483647 : Int32)) % (6 : Int32)), rv aOK, .unset] [.int 2, .int ((p1 &&& (2147483647 : Int32)) % (6 : Int32))])
    by_cases hc2 : ((p1 &&& (2147483647 : Int32)) % (6 : Int32)) < (2 : Int32)
    · refine own_st (fun t k => XS.icmpNo X1.here hx rfl (hb hby at_15) rfl (tlt hc2).2.1 k) ?_
      show own_E p e below _ T1 (mkF m 18 #[iv p1, iv ((p1 &&& (2147483647 : Int32)) % (6 : Int32)), rv aOK, .unset] [])
      refine own_st (fun t k => XS.iconst X1.here hx rfl (hb hby at_18) k) ?_
      show own_E p e below _ T1 (mkF m 19 #[iv p1, iv ((p1 &&& (2147483647 : Int32)) % (6 : Int32)), rv aOK, .unset] [.int 1])
      refine own_st (fun t k => XS.goto X1.here hx rfl (pc0 := 19) (pc' := 23) rfl (hb hby at_19) (by decide) (by decide) k) ?_
      show own_E p e below _ T1 (mkF m 23 #[iv p1, iv ((p1 &&& (2147483647 : Int32)) % (6 : Int32)), rv aOK, .unset] [.int 1])
      refine own_st (fun t k => XS.istoreN X1.here hx rfl (hb hby at_23) rfl (l' := #[iv p1, iv ((p1 &&& (2147483647 : Int32)) % (6 : Int32)), rv aOK, iv 1]) rfl k) ?_
      show own_E p e below _ T1 (mkF m 24 #[iv p1, iv ((p1 &&& (2147483647 : Int32)) % (6 : Int32)), rv aOK, iv 1] [])
      refine own_st (fun t k => XS.aloadN X1.here hx rfl (hb hby at_24) rfl rfl k) ?_
      show own_E p e below _ T1 (mkF m 25 #[iv p1, iv ((p1 &&& (2147483647 : Int32)) % (6 : Int32)), rv aOK, iv 1] [.ref aOK])
      obtain ⟨cq3, kq3, q3a, q3b, q3c⟩ := isOf hZ e1 E_OK
      obtain ⟨_, _, ⟨T3, L3, k3, n3⟩, -, X3, ⟨Lc3, hQ3, l3, y3, z3⟩, st3⟩ := X1.virtualBack hx (y := own_y1) (z := own_y1) hown (mvT hZ (own_w hw 8 rfl)) (mvT hZ (own_w hw 9 rfl)) (notFace_of_selects (args := #[]) (mvT hZ (own_w hw 11 rfl))) (mvT hZ (own_w hw 11 rfl)) (mvT hZ (own_w hw 10 rfl)) (by decide) (backOf (W := 0) (own_succ_OK l Z a0 hw [] aOK aERROR aWARNING aDISCARD aPENDING aFATAL h0 n0 Z0 S_OK S_ERROR S_WARNING S_DISCARD S_PENDING S_FATAL E_OK E_ERROR E_WARNING E_DISCARD E_PENDING E_FATAL ne_OK_ERROR ne_OK_WARNING ne_OK_DISCARD ne_OK_PENDING ne_OK_FATAL ne_ERROR_WARNING ne_ERROR_DISCARD ne_ERROR_PENDING ne_ERROR_FATAL ne_WARNING_DISCARD ne_WARNING_PENDING ne_WARNING_FATAL ne_DISCARD_PENDING ne_DISCARD_FATAL ne_PENDING_FATAL) hZ (own_w hw 12 rfl) (own_w hw 6 rfl) (by decide) (by decide)) q3a q3c (g := (mkF m 25 #[iv p1, iv ((p1 &&& (2147483647 : Int32)) % (6 : Int32)), rv aOK, iv 1] [.ref aOK])) rfl (by rw [hml]; rfl) (Steps.refl _) (argsL := []) (rest := []) (lenOf own_pd_0 rfl) rfl (by show 2 * 0 + _ ≤ _; exact Nat.le_of_eq rfl) (hb hby at_25) (fun _ _ => ⟨rfl, e1, (by decide : 0 + 0 ≤ _), (by decide : 0 + 0 ≤ _)⟩)
      dsimp only [Pt.U, Pt.locs, Pt.cells, Pt.slots] at X3 l3 y3 z3 st3 hQ3
      subst l3 y3 z3
      obtain ⟨hR3, e3, rfl⟩ := hQ3
      obtain rfl := hR3
      refine own_tr st3 ?_
      show own_E p e below _ T3 (mkF m 28 #[iv p1, iv ((p1 &&& (2147483647 : Int32)) % (6 : Int32)), rv aOK, iv 1] [.int 1])
      refine own_st (fun t k => XS.iloadN X3.here hx rfl (hb hby at_28) rfl k) ?_
      show own_E p e below _ T3 (mkF m 29 #[iv p1, iv ((p1 &&& (2147483647 : Int32)) % (6 : Int32)), rv aOK, iv 1] [.int 1, .int 1])
      refine own_st (fun t k => XS.icmpNo X3.here hx rfl (hb hby at_29) rfl (by decide) k) ?_
      show own_E p e below _ T3 (mkF m 32 #[iv p1, iv ((p1 &&& (2147483647 : Int32)) % (6 : Int32)), rv aOK, iv 1] [])
      refine own_st (fun t k => XS.iconst X3.here hx rfl (hb hby at_32) k) ?_
      show own_E p e below _ T3 (mkF m 33 #[iv p1, iv ((p1 &&& (2147483647 : Int32)) % (6 : Int32)), rv aOK, iv 1] [.int 1])
      refine own_st (fun t k => XS.goto X3.here hx rfl (pc0 := 33) (pc' := 37) rfl (hb hby at_33) (by decide) (by decide) k) ?_
      show own_E p e below _ T3 (mkF m 37 #[iv p1, iv ((p1 &&& (2147483647 : Int32)) % (6 : Int32)), rv aOK, iv 1] [.int 1])
      refine own_retS X3 hx Bd.notSynchronized Bd.returns rfl (by decide) (hb hby at_37) (by decide) (by decide) ?_
      exact ⟨rfl, fun y hy => by simp at hy⟩
    · exfalso
      have f4 := rng32 p1
      have f5 : (2147483647 : Int32).toInt = 2147483647 := rfl
      have f6 := rng32 (p1 &&& (2147483647 : Int32))
      have f7 : (p1 &&& (2147483647 : Int32)).toInt = p1.toInt % 2147483648 := c_mask p1 (2147483647 : Int32) 31 (by decide) (by decide)
      have f8 : (6 : Int32).toInt = 6 := rfl
      have f9 := rng32 ((p1 &&& (2147483647 : Int32)) % (6 : Int32))
      have f10 := c_irem (p1 &&& (2147483647 : Int32)) (6 : Int32) 6 rfl
      have f11 : (0 : Int32).toInt = 0 := rfl
      have f12 : (2 : Int32).toInt = 2 := rfl
      have g13 := ha1_0
      rw [← Int32.toInt_inj] at g13
      have g14 := hc2
      rw [Int32.lt_iff_toInt_lt] at g14
      omega
  · refine own_st st1 ?_
    show own_E p e below _ T1 (mkF m 12 #[iv p1, iv ((p1 &&& (2147483647 : Int32)) % (6 : Int32)), .unset, .unset] [.ref aWARNING])
    refine own_st (fun t k => XS.astoreN X1.here hx rfl (hb hby at_12) rfl rfl (l' := #[iv p1, iv ((p1 &&& (2147483647 : Int32)) % (6 : Int32)), rv aWARNING, .unset]) rfl k) ?_
    show own_E p e below _ T1 (mkF m 13 #[iv p1, iv ((p1 &&& (2147483647 : Int32)) % (6 : Int32)), rv aWARNING, .unset] [])
    refine own_st (fun t k => XS.iloadN X1.here hx rfl (hb hby at_13) rfl k) ?_
    show own_E p e below _ T1 (mkF m 14 #[iv p1, iv ((p1 &&& (2147483647 : Int32)) % (6 : Int32)), rv aWARNING, .unset] [.int ((p1 &&& (2147483647 : Int32)) % (6 : Int32))])
    refine own_st (fun t k => XS.iconst X1.here hx rfl (hb hby at_14) k) ?_
    show own_E p e below _ T1 (mkF m 15 #[iv p1, iv ((p1 &&& (2147483647 : Int32)) % (6 : Int32)), rv aWARNING, .unset] [.int 2, .int ((p1 &&& (2147483647 : Int32)) % (6 : Int32))])
    by_cases hc15 : ((p1 &&& (2147483647 : Int32)) % (6 : Int32)) < (2 : Int32)
    · refine own_st (fun t k => XS.icmpNo X1.here hx rfl (hb hby at_15) rfl (tlt hc15).2.1 k) ?_
      show own_E p e below _ T1 (mkF m 18 #[iv p1, iv ((p1 &&& (2147483647 : Int32)) % (6 : Int32)), rv aWARNING, .unset] [])
      refine own_st (fun t k => XS.iconst X1.here hx rfl (hb hby at_18) k) ?_
      show own_E p e below _ T1 (mkF m 19 #[iv p1, iv ((p1 &&& (2147483647 : Int32)) % (6 : Int32)), rv aWARNING, .unset] [.int 1])
      refine own_st (fun t k => XS.goto X1.here hx rfl (pc0 := 19) (pc' := 23) rfl (hb hby at_19) (by decide) (by decide) k) ?_
      show own_E p e below _ T1 (mkF m 23 #[iv p1, iv ((p1 &&& (2147483647 : Int32)) % (6 : Int32)), rv aWARNING, .unset] [.int 1])
      refine own_st (fun t k => XS.istoreN X1.here hx rfl (hb hby at_23) rfl (l' := #[iv p1, iv ((p1 &&& (2147483647 : Int32)) % (6 : Int32)), rv aWARNING, iv 1]) rfl k) ?_
      show own_E p e below _ T1 (mkF m 24 #[iv p1, iv ((p1 &&& (2147483647 : Int32)) % (6 : Int32)), rv aWARNING, iv 1] [])
      refine own_st (fun t k => XS.aloadN X1.here hx rfl (hb hby at_24) rfl rfl k) ?_
      show own_E p e below _ T1 (mkF m 25 #[iv p1, iv ((p1 &&& (2147483647 : Int32)) % (6 : Int32)), rv aWARNING, iv 1] [.ref aWARNING])
      obtain ⟨cq16, kq16, q16a, q16b, q16c⟩ := isOf hZ e1 E_WARNING
      obtain ⟨_, _, ⟨T16, L16, k16, n16⟩, -, X16, ⟨Lc16, hQ16, l16, y16, z16⟩, st16⟩ := X1.virtualBack hx (y := own_y1) (z := own_y1) hown (mvT hZ (own_w hw 8 rfl)) (mvT hZ (own_w hw 9 rfl)) (notFace_of_selects (args := #[]) (mvT hZ (own_w hw 11 rfl))) (mvT hZ (own_w hw 11 rfl)) (mvT hZ (own_w hw 10 rfl)) (by decide) (backOf (W := 0) (own_succ_WARNING l Z a0 hw [] aOK aERROR aWARNING aDISCARD aPENDING aFATAL h0 n0 Z0 S_OK S_ERROR S_WARNING S_DISCARD S_PENDING S_FATAL E_OK E_ERROR E_WARNING E_DISCARD E_PENDING E_FATAL ne_OK_ERROR ne_OK_WARNING ne_OK_DISCARD ne_OK_PENDING ne_OK_FATAL ne_ERROR_WARNING ne_ERROR_DISCARD ne_ERROR_PENDING ne_ERROR_FATAL ne_WARNING_DISCARD ne_WARNING_PENDING ne_WARNING_FATAL ne_DISCARD_PENDING ne_DISCARD_FATAL ne_PENDING_FATAL) hZ (own_w hw 12 rfl) (own_w hw 6 rfl) (by decide) (by decide)) q16a q16c (g := (mkF m 25 #[iv p1, iv ((p1 &&& (2147483647 : Int32)) % (6 : Int32)), rv aWARNING, iv 1] [.ref aWARNING])) rfl (by rw [hml]; rfl) (Steps.refl _) (argsL := []) (rest := []) (lenOf own_pd_0 rfl) rfl (by show 2 * 0 + _ ≤ _; exact Nat.le_of_eq rfl) (hb hby at_25) (fun _ _ => ⟨rfl, e1, (by decide : 0 + 0 ≤ _), (by decide : 0 + 0 ≤ _)⟩)
      dsimp only [Pt.U, Pt.locs, Pt.cells, Pt.slots] at X16 l16 y16 z16 st16 hQ16
      subst l16 y16 z16
      obtain ⟨hR16, e16, rfl⟩ := hQ16
      obtain rfl := hR16
      refine own_tr st16 ?_
      show own_E p e below _ T16 (mkF m 28 #[iv p1, iv ((p1 &&& (2147483647 : Int32)) % (6 : Int32)), rv aWARNING, iv 1] [.int 1])
      refine own_st (fun t k => XS.iloadN X16.here hx rfl (hb hby at_28) rfl k) ?_
      show own_E p e below _ T16 (mkF m 29 #[iv p1, iv ((p1 &&& (2147483647 : Int32)) % (6 : Int32)), rv aWARNING, iv 1] [.int 1, .int 1])
      refine own_st (fun t k => XS.icmpNo X16.here hx rfl (hb hby at_29) rfl (by decide) k) ?_
      show own_E p e below _ T16 (mkF m 32 #[iv p1, iv ((p1 &&& (2147483647 : Int32)) % (6 : Int32)), rv aWARNING, iv 1] [])
      refine own_st (fun t k => XS.iconst X16.here hx rfl (hb hby at_32) k) ?_
      show own_E p e below _ T16 (mkF m 33 #[iv p1, iv ((p1 &&& (2147483647 : Int32)) % (6 : Int32)), rv aWARNING, iv 1] [.int 1])
      refine own_st (fun t k => XS.goto X16.here hx rfl (pc0 := 33) (pc' := 37) rfl (hb hby at_33) (by decide) (by decide) k) ?_
      show own_E p e below _ T16 (mkF m 37 #[iv p1, iv ((p1 &&& (2147483647 : Int32)) % (6 : Int32)), rv aWARNING, iv 1] [.int 1])
      refine own_retS X16 hx Bd.notSynchronized Bd.returns rfl (by decide) (hb hby at_37) (by decide) (by decide) ?_
      exact ⟨rfl, fun y hy => by simp at hy⟩
    · exfalso
      have f17 := rng32 p1
      have f18 : (2147483647 : Int32).toInt = 2147483647 := rfl
      have f19 := rng32 (p1 &&& (2147483647 : Int32))
      have f20 : (p1 &&& (2147483647 : Int32)).toInt = p1.toInt % 2147483648 := c_mask p1 (2147483647 : Int32) 31 (by decide) (by decide)
      have f21 : (6 : Int32).toInt = 6 := rfl
      have f22 := rng32 ((p1 &&& (2147483647 : Int32)) % (6 : Int32))
      have f23 := c_irem (p1 &&& (2147483647 : Int32)) (6 : Int32) 6 rfl
      have f24 : (0 : Int32).toInt = 0 := rfl
      have f25 : (1 : Int32).toInt = 1 := rfl
      have f26 : (2 : Int32).toInt = 2 := rfl
      have g27 := ha1_0
      rw [← Int32.toInt_inj] at g27
      have g28 := ha1_1
      rw [← Int32.toInt_inj] at g28
      have g29 := hc15
      rw [Int32.lt_iff_toInt_lt] at g29
      omega
  · refine own_st st1 ?_
    show own_E p e below _ T1 (mkF m 12 #[iv p1, iv ((p1 &&& (2147483647 : Int32)) % (6 : Int32)), .unset, .unset] [.ref aDISCARD])
    refine own_st (fun t k => XS.astoreN X1.here hx rfl (hb hby at_12) rfl rfl (l' := #[iv p1, iv ((p1 &&& (2147483647 : Int32)) % (6 : Int32)), rv aDISCARD, .unset]) rfl k) ?_
    show own_E p e below _ T1 (mkF m 13 #[iv p1, iv ((p1 &&& (2147483647 : Int32)) % (6 : Int32)), rv aDISCARD, .unset] [])
    refine own_st (fun t k => XS.iloadN X1.here hx rfl (hb hby at_13) rfl k) ?_
    show own_E p e below _ T1 (mkF m 14 #[iv p1, iv ((p1 &&& (2147483647 : Int32)) % (6 : Int32)), rv aDISCARD, .unset] [.int ((p1 &&& (2147483647 : Int32)) % (6 : Int32))])
    refine own_st (fun t k => XS.iconst X1.here hx rfl (hb hby at_14) k) ?_
    show own_E p e below _ T1 (mkF m 15 #[iv p1, iv ((p1 &&& (2147483647 : Int32)) % (6 : Int32)), rv aDISCARD, .unset] [.int 2, .int ((p1 &&& (2147483647 : Int32)) % (6 : Int32))])
    by_cases hc30 : ((p1 &&& (2147483647 : Int32)) % (6 : Int32)) < (2 : Int32)
    · exfalso
      have f31 := rng32 p1
      have f32 : (2147483647 : Int32).toInt = 2147483647 := rfl
      have f33 := rng32 (p1 &&& (2147483647 : Int32))
      have f34 : (p1 &&& (2147483647 : Int32)).toInt = p1.toInt % 2147483648 := c_mask p1 (2147483647 : Int32) 31 (by decide) (by decide)
      have f35 : (6 : Int32).toInt = 6 := rfl
      have f36 := rng32 ((p1 &&& (2147483647 : Int32)) % (6 : Int32))
      have f37 := c_irem (p1 &&& (2147483647 : Int32)) (6 : Int32) 6 rfl
      have f38 : (0 : Int32).toInt = 0 := rfl
      have f39 : (1 : Int32).toInt = 1 := rfl
      have f40 : (2 : Int32).toInt = 2 := rfl
      have g41 := ha1_0
      rw [← Int32.toInt_inj] at g41
      have g42 := ha1_1
      rw [← Int32.toInt_inj] at g42
      have g43 := ha1_2
      rw [← Int32.toInt_inj] at g43
      have g44 := hc30
      rw [Int32.lt_iff_toInt_lt] at g44
      omega
    · refine own_st (fun t k => XS.icmpYes X1.here hx rfl (pc0 := 15) (pc' := 22) rfl (hb hby at_15) rfl (flt hc30).2.1 (by decide) (by decide) k) ?_
      show own_E p e below _ T1 (mkF m 22 #[iv p1, iv ((p1 &&& (2147483647 : Int32)) % (6 : Int32)), rv aDISCARD, .unset] [])
      refine own_st (fun t k => XS.iconst X1.here hx rfl (hb hby at_22) k) ?_
      show own_E p e below _ T1 (mkF m 23 #[iv p1, iv ((p1 &&& (2147483647 : Int32)) % (6 : Int32)), rv aDISCARD, .unset] [.int 0])
      refine own_st (fun t k => XS.istoreN X1.here hx rfl (hb hby at_23) rfl (l' := #[iv p1, iv ((p1 &&& (2147483647 : Int32)) % (6 : Int32)), rv aDISCARD, iv 0]) rfl k) ?_
      show own_E p e below _ T1 (mkF m 24 #[iv p1, iv ((p1 &&& (2147483647 : Int32)) % (6 : Int32)), rv aDISCARD, iv 0] [])
      refine own_st (fun t k => XS.aloadN X1.here hx rfl (hb hby at_24) rfl rfl k) ?_
      show own_E p e below _ T1 (mkF m 25 #[iv p1, iv ((p1 &&& (2147483647 : Int32)) % (6 : Int32)), rv aDISCARD, iv 0] [.ref aDISCARD])
      obtain ⟨cq45, kq45, q45a, q45b, q45c⟩ := isOf hZ e1 E_DISCARD
      obtain ⟨_, _, ⟨T45, L45, k45, n45⟩, -, X45, ⟨Lc45, hQ45, l45, y45, z45⟩, st45⟩ := X1.virtualBack hx (y := own_y1) (z := own_y1) hown (mvT hZ (own_w hw 8 rfl)) (mvT hZ (own_w hw 9 rfl)) (notFace_of_selects (args := #[]) (mvT hZ (own_w hw 11 rfl))) (mvT hZ (own_w hw 11 rfl)) (mvT hZ (own_w hw 10 rfl)) (by decide) (backOf (W := 0) (own_succ_DISCARD l Z a0 hw [] aOK aERROR aWARNING aDISCARD aPENDING aFATAL h0 n0 Z0 S_OK S_ERROR S_WARNING S_DISCARD S_PENDING S_FATAL E_OK E_ERROR E_WARNING E_DISCARD E_PENDING E_FATAL ne_OK_ERROR ne_OK_WARNING ne_OK_DISCARD ne_OK_PENDING ne_OK_FATAL ne_ERROR_WARNING ne_ERROR_DISCARD ne_ERROR_PENDING ne_ERROR_FATAL ne_WARNING_DISCARD ne_WARNING_PENDING ne_WARNING_FATAL ne_DISCARD_PENDING ne_DISCARD_FATAL ne_PENDING_FATAL) hZ (own_w hw 12 rfl) (own_w hw 6 rfl) (by decide) (by decide)) q45a q45c (g := (mkF m 25 #[iv p1, iv ((p1 &&& (2147483647 : Int32)) % (6 : Int32)), rv aDISCARD, iv 0] [.ref aDISCARD])) rfl (by rw [hml]; rfl) (Steps.refl _) (argsL := []) (rest := []) (lenOf own_pd_0 rfl) rfl (by show 2 * 0 + _ ≤ _; exact Nat.le_of_eq rfl) (hb hby at_25) (fun _ _ => ⟨rfl, e1, (by decide : 0 + 0 ≤ _), (by decide : 0 + 0 ≤ _)⟩)
      dsimp only [Pt.U, Pt.locs, Pt.cells, Pt.slots] at X45 l45 y45 z45 st45 hQ45
      subst l45 y45 z45
      obtain ⟨hR45, e45, rfl⟩ := hQ45
      obtain rfl := hR45
      refine own_tr st45 ?_
      show own_E p e below _ T45 (mkF m 28 #[iv p1, iv ((p1 &&& (2147483647 : Int32)) % (6 : Int32)), rv aDISCARD, iv 0] [.int 0])
      refine own_st (fun t k => XS.iloadN X45.here hx rfl (hb hby at_28) rfl k) ?_
      show own_E p e below _ T45 (mkF m 29 #[iv p1, iv ((p1 &&& (2147483647 : Int32)) % (6 : Int32)), rv aDISCARD, iv 0] [.int 0, .int 0])
      refine own_st (fun t k => XS.icmpNo X45.here hx rfl (hb hby at_29) rfl (by decide) k) ?_
      show own_E p e below _ T45 (mkF m 32 #[iv p1, iv ((p1 &&& (2147483647 : Int32)) % (6 : Int32)), rv aDISCARD, iv 0] [])
      refine own_st (fun t k => XS.iconst X45.here hx rfl (hb hby at_32) k) ?_
      show own_E p e below _ T45 (mkF m 33 #[iv p1, iv ((p1 &&& (2147483647 : Int32)) % (6 : Int32)), rv aDISCARD, iv 0] [.int 1])
      refine own_st (fun t k => XS.goto X45.here hx rfl (pc0 := 33) (pc' := 37) rfl (hb hby at_33) (by decide) (by decide) k) ?_
      show own_E p e below _ T45 (mkF m 37 #[iv p1, iv ((p1 &&& (2147483647 : Int32)) % (6 : Int32)), rv aDISCARD, iv 0] [.int 1])
      refine own_retS X45 hx Bd.notSynchronized Bd.returns rfl (by decide) (hb hby at_37) (by decide) (by decide) ?_
      exact ⟨rfl, fun y hy => by simp at hy⟩
  · refine own_st st1 ?_
    show own_E p e below _ T1 (mkF m 12 #[iv p1, iv ((p1 &&& (2147483647 : Int32)) % (6 : Int32)), .unset, .unset] [.ref aERROR])
    refine own_st (fun t k => XS.astoreN X1.here hx rfl (hb hby at_12) rfl rfl (l' := #[iv p1, iv ((p1 &&& (2147483647 : Int32)) % (6 : Int32)), rv aERROR, .unset]) rfl k) ?_
    show own_E p e below _ T1 (mkF m 13 #[iv p1, iv ((p1 &&& (2147483647 : Int32)) % (6 : Int32)), rv aERROR, .unset] [])
    refine own_st (fun t k => XS.iloadN X1.here hx rfl (hb hby at_13) rfl k) ?_
    show own_E p e below _ T1 (mkF m 14 #[iv p1, iv ((p1 &&& (2147483647 : Int32)) % (6 : Int32)), rv aERROR, .unset] [.int ((p1 &&& (2147483647 : Int32)) % (6 : Int32))])
    refine own_st (fun t k => XS.iconst X1.here hx rfl (hb hby at_14) k) ?_
    show own_E p e below _ T1 (mkF m 15 #[iv p1, iv ((p1 &&& (2147483647 : Int32)) % (6 : Int32)), rv aERROR, .unset] [.int 2, .int ((p1 &&& (2147483647 : Int32)) % (6 : Int32))])
    by_cases hc46 : ((p1 &&& (2147483647 : Int32)) % (6 : Int32)) < (2 : Int32)
    · exfalso
      have f47 := rng32 p1
      have f48 : (2147483647 : Int32).toInt = 2147483647 := rfl
      have f49 := rng32 (p1 &&& (2147483647 : Int32))
      have f50 : (p1 &&& (2147483647 : Int32)).toInt = p1.toInt % 2147483648 := c_mask p1 (2147483647 : Int32) 31 (by decide) (by decide)
      have f51 : (6 : Int32).toInt = 6 := rfl
      have f52 := rng32 ((p1 &&& (2147483647 : Int32)) % (6 : Int32))
      have f53 := c_irem (p1 &&& (2147483647 : Int32)) (6 : Int32) 6 rfl
      have f54 : (0 : Int32).toInt = 0 := rfl
      have f55 : (1 : Int32).toInt = 1 := rfl
      have f56 : (2 : Int32).toInt = 2 := rfl
      have f57 : (3 : Int32).toInt = 3 := rfl
      have g58 := ha1_0
      rw [← Int32.toInt_inj] at g58
      have g59 := ha1_1
      rw [← Int32.toInt_inj] at g59
      have g60 := ha1_2
      rw [← Int32.toInt_inj] at g60
      have g61 := ha1_3
      rw [← Int32.toInt_inj] at g61
      have g62 := hc46
      rw [Int32.lt_iff_toInt_lt] at g62
      omega
    · refine own_st (fun t k => XS.icmpYes X1.here hx rfl (pc0 := 15) (pc' := 22) rfl (hb hby at_15) rfl (flt hc46).2.1 (by decide) (by decide) k) ?_
      show own_E p e below _ T1 (mkF m 22 #[iv p1, iv ((p1 &&& (2147483647 : Int32)) % (6 : Int32)), rv aERROR, .unset] [])
      refine own_st (fun t k => XS.iconst X1.here hx rfl (hb hby at_22) k) ?_
      show own_E p e below _ T1 (mkF m 23 #[iv p1, iv ((p1 &&& (2147483647 : Int32)) % (6 : Int32)), rv aERROR, .unset] [.int 0])
      refine own_st (fun t k => XS.istoreN X1.here hx rfl (hb hby at_23) rfl (l' := #[iv p1, iv ((p1 &&& (2147483647 : Int32)) % (6 : Int32)), rv aERROR, iv 0]) rfl k) ?_
      show own_E p e below _ T1 (mkF m 24 #[iv p1, iv ((p1 &&& (2147483647 : Int32)) % (6 : Int32)), rv aERROR, iv 0] [])
      refine own_st (fun t k => XS.aloadN X1.here hx rfl (hb hby at_24) rfl rfl k) ?_
      show own_E p e below _ T1 (mkF m 25 #[iv p1, iv ((p1 &&& (2147483647 : Int32)) % (6 : Int32)), rv aERROR, iv 0] [.ref aERROR])
      obtain ⟨cq63, kq63, q63a, q63b, q63c⟩ := isOf hZ e1 E_ERROR
      obtain ⟨_, _, ⟨T63, L63, k63, n63⟩, -, X63, ⟨Lc63, hQ63, l63, y63, z63⟩, st63⟩ := X1.virtualBack hx (y := own_y1) (z := own_y1) hown (mvT hZ (own_w hw 8 rfl)) (mvT hZ (own_w hw 9 rfl)) (notFace_of_selects (args := #[]) (mvT hZ (own_w hw 11 rfl))) (mvT hZ (own_w hw 11 rfl)) (mvT hZ (own_w hw 10 rfl)) (by decide) (backOf (W := 0) (own_succ_ERROR l Z a0 hw [] aOK aERROR aWARNING aDISCARD aPENDING aFATAL h0 n0 Z0 S_OK S_ERROR S_WARNING S_DISCARD S_PENDING S_FATAL E_OK E_ERROR E_WARNING E_DISCARD E_PENDING E_FATAL ne_OK_ERROR ne_OK_WARNING ne_OK_DISCARD ne_OK_PENDING ne_OK_FATAL ne_ERROR_WARNING ne_ERROR_DISCARD ne_ERROR_PENDING ne_ERROR_FATAL ne_WARNING_DISCARD ne_WARNING_PENDING ne_WARNING_FATAL ne_DISCARD_PENDING ne_DISCARD_FATAL ne_PENDING_FATAL) hZ (own_w hw 12 rfl) (own_w hw 6 rfl) (by decide) (by decide)) q63a q63c (g := (mkF m 25 #[iv p1, iv ((p1 &&& (2147483647 : Int32)) % (6 : Int32)), rv aERROR, iv 0] [.ref aERROR])) rfl (by rw [hml]; rfl) (Steps.refl _) (argsL := []) (rest := []) (lenOf own_pd_0 rfl) rfl (by show 2 * 0 + _ ≤ _; exact Nat.le_of_eq rfl) (hb hby at_25) (fun _ _ => ⟨rfl, e1, (by decide : 0 + 0 ≤ _), (by decide : 0 + 0 ≤ _)⟩)
      dsimp only [Pt.U, Pt.locs, Pt.cells, Pt.slots] at X63 l63 y63 z63 st63 hQ63
      subst l63 y63 z63
      obtain ⟨hR63, e63, rfl⟩ := hQ63
      obtain rfl := hR63
      refine own_tr st63 ?_
      show own_E p e below _ T63 (mkF m 28 #[iv p1, iv ((p1 &&& (2147483647 : Int32)) % (6 : Int32)), rv aERROR, iv 0] [.int 0])
      refine own_st (fun t k => XS.iloadN X63.here hx rfl (hb hby at_28) rfl k) ?_
      show own_E p e below _ T63 (mkF m 29 #[iv p1, iv ((p1 &&& (2147483647 : Int32)) % (6 : Int32)), rv aERROR, iv 0] [.int 0, .int 0])
      refine own_st (fun t k => XS.icmpNo X63.here hx rfl (hb hby at_29) rfl (by decide) k) ?_
      show own_E p e below _ T63 (mkF m 32 #[iv p1, iv ((p1 &&& (2147483647 : Int32)) % (6 : Int32)), rv aERROR, iv 0] [])
      refine own_st (fun t k => XS.iconst X63.here hx rfl (hb hby at_32) k) ?_
      show own_E p e below _ T63 (mkF m 33 #[iv p1, iv ((p1 &&& (2147483647 : Int32)) % (6 : Int32)), rv aERROR, iv 0] [.int 1])
      refine own_st (fun t k => XS.goto X63.here hx rfl (pc0 := 33) (pc' := 37) rfl (hb hby at_33) (by decide) (by decide) k) ?_
      show own_E p e below _ T63 (mkF m 37 #[iv p1, iv ((p1 &&& (2147483647 : Int32)) % (6 : Int32)), rv aERROR, iv 0] [.int 1])
      refine own_retS X63 hx Bd.notSynchronized Bd.returns rfl (by decide) (hb hby at_37) (by decide) (by decide) ?_
      exact ⟨rfl, fun y hy => by simp at hy⟩
  · refine own_st st1 ?_
    show own_E p e below _ T1 (mkF m 12 #[iv p1, iv ((p1 &&& (2147483647 : Int32)) % (6 : Int32)), .unset, .unset] [.ref aFATAL])
    refine own_st (fun t k => XS.astoreN X1.here hx rfl (hb hby at_12) rfl rfl (l' := #[iv p1, iv ((p1 &&& (2147483647 : Int32)) % (6 : Int32)), rv aFATAL, .unset]) rfl k) ?_
    show own_E p e below _ T1 (mkF m 13 #[iv p1, iv ((p1 &&& (2147483647 : Int32)) % (6 : Int32)), rv aFATAL, .unset] [])
    refine own_st (fun t k => XS.iloadN X1.here hx rfl (hb hby at_13) rfl k) ?_
    show own_E p e below _ T1 (mkF m 14 #[iv p1, iv ((p1 &&& (2147483647 : Int32)) % (6 : Int32)), rv aFATAL, .unset] [.int ((p1 &&& (2147483647 : Int32)) % (6 : Int32))])
    refine own_st (fun t k => XS.iconst X1.here hx rfl (hb hby at_14) k) ?_
    show own_E p e below _ T1 (mkF m 15 #[iv p1, iv ((p1 &&& (2147483647 : Int32)) % (6 : Int32)), rv aFATAL, .unset] [.int 2, .int ((p1 &&& (2147483647 : Int32)) % (6 : Int32))])
    by_cases hc64 : ((p1 &&& (2147483647 : Int32)) % (6 : Int32)) < (2 : Int32)
    · exfalso
      have f65 := rng32 p1
      have f66 : (2147483647 : Int32).toInt = 2147483647 := rfl
      have f67 := rng32 (p1 &&& (2147483647 : Int32))
      have f68 : (p1 &&& (2147483647 : Int32)).toInt = p1.toInt % 2147483648 := c_mask p1 (2147483647 : Int32) 31 (by decide) (by decide)
      have f69 : (6 : Int32).toInt = 6 := rfl
      have f70 := rng32 ((p1 &&& (2147483647 : Int32)) % (6 : Int32))
      have f71 := c_irem (p1 &&& (2147483647 : Int32)) (6 : Int32) 6 rfl
      have f72 : (0 : Int32).toInt = 0 := rfl
      have f73 : (1 : Int32).toInt = 1 := rfl
      have f74 : (2 : Int32).toInt = 2 := rfl
      have f75 : (3 : Int32).toInt = 3 := rfl
      have f76 : (4 : Int32).toInt = 4 := rfl
      have g77 := ha1_0
      rw [← Int32.toInt_inj] at g77
      have g78 := ha1_1
      rw [← Int32.toInt_inj] at g78
      have g79 := ha1_2
      rw [← Int32.toInt_inj] at g79
      have g80 := ha1_3
      rw [← Int32.toInt_inj] at g80
      have g81 := ha1_4
      rw [← Int32.toInt_inj] at g81
      have g82 := hc64
      rw [Int32.lt_iff_toInt_lt] at g82
      omega
    · refine own_st (fun t k => XS.icmpYes X1.here hx rfl (pc0 := 15) (pc' := 22) rfl (hb hby at_15) rfl (flt hc64).2.1 (by decide) (by decide) k) ?_
      show own_E p e below _ T1 (mkF m 22 #[iv p1, iv ((p1 &&& (2147483647 : Int32)) % (6 : Int32)), rv aFATAL, .unset] [])
      refine own_st (fun t k => XS.iconst X1.here hx rfl (hb hby at_22) k) ?_
      show own_E p e below _ T1 (mkF m 23 #[iv p1, iv ((p1 &&& (2147483647 : Int32)) % (6 : Int32)), rv aFATAL, .unset] [.int 0])
      refine own_st (fun t k => XS.istoreN X1.here hx rfl (hb hby at_23) rfl (l' := #[iv p1, iv ((p1 &&& (2147483647 : Int32)) % (6 : Int32)), rv aFATAL, iv 0]) rfl k) ?_
      show own_E p e below _ T1 (mkF m 24 #[iv p1, iv ((p1 &&& (2147483647 : Int32)) % (6 : Int32)), rv aFATAL, iv 0] [])
      refine own_st (fun t k => XS.aloadN X1.here hx rfl (hb hby at_24) rfl rfl k) ?_
      show own_E p e below _ T1 (mkF m 25 #[iv p1, iv ((p1 &&& (2147483647 : Int32)) % (6 : Int32)), rv aFATAL, iv 0] [.ref aFATAL])
      obtain ⟨cq83, kq83, q83a, q83b, q83c⟩ := isOf hZ e1 E_FATAL
      obtain ⟨_, _, ⟨T83, L83, k83, n83⟩, -, X83, ⟨Lc83, hQ83, l83, y83, z83⟩, st83⟩ := X1.virtualBack hx (y := own_y1) (z := own_y1) hown (mvT hZ (own_w hw 8 rfl)) (mvT hZ (own_w hw 9 rfl)) (notFace_of_selects (args := #[]) (mvT hZ (own_w hw 11 rfl))) (mvT hZ (own_w hw 11 rfl)) (mvT hZ (own_w hw 10 rfl)) (by decide) (backOf (W := 0) (own_succ_FATAL l Z a0 hw [] aOK aERROR aWARNING aDISCARD aPENDING aFATAL h0 n0 Z0 S_OK S_ERROR S_WARNING S_DISCARD S_PENDING S_FATAL E_OK E_ERROR E_WARNING E_DISCARD E_PENDING E_FATAL ne_OK_ERROR ne_OK_WARNING ne_OK_DISCARD ne_OK_PENDING ne_OK_FATAL ne_ERROR_WARNING ne_ERROR_DISCARD ne_ERROR_PENDING ne_ERROR_FATAL ne_WARNING_DISCARD ne_WARNING_PENDING ne_WARNING_FATAL ne_DISCARD_PENDING ne_DISCARD_FATAL ne_PENDING_FATAL) hZ (own_w hw 12 rfl) (own_w hw 6 rfl) (by decide) (by decide)) q83a q83c (g := (mkF m 25 #[iv p1, iv ((p1 &&& (2147483647 : Int32)) % (6 : Int32)), rv aFATAL, iv 0] [.ref aFATAL])) rfl (by rw [hml]; rfl) (Steps.refl _) (argsL := []) (rest := []) (lenOf own_pd_0 rfl) rfl (by show 2 * 0 + _ ≤ _; exact Nat.le_of_eq rfl) (hb hby at_25) (fun _ _ => ⟨rfl, e1, (by decide : 0 + 0 ≤ _), (by decide : 0 + 0 ≤ _)⟩)
      dsimp only [Pt.U, Pt.locs, Pt.cells, Pt.slots] at X83 l83 y83 z83 st83 hQ83
      subst l83 y83 z83
      obtain ⟨hR83, e83, rfl⟩ := hQ83
      obtain rfl := hR83
      refine own_tr st83 ?_
      show own_E p e below _ T83 (mkF m 28 #[iv p1, iv ((p1 &&& (2147483647 : Int32)) % (6 : Int32)), rv aFATAL, iv 0] [.int 0])
      refine own_st (fun t k => XS.iloadN X83.here hx rfl (hb hby at_28) rfl k) ?_
      show own_E p e below _ T83 (mkF m 29 #[iv p1, iv ((p1 &&& (2147483647 : Int32)) % (6 : Int32)), rv aFATAL, iv 0] [.int 0, .int 0])
      refine own_st (fun t k => XS.icmpNo X83.here hx rfl (hb hby at_29) rfl (by decide) k) ?_
      show own_E p e below _ T83 (mkF m 32 #[iv p1, iv ((p1 &&& (2147483647 : Int32)) % (6 : Int32)), rv aFATAL, iv 0] [])
      refine own_st (fun t k => XS.iconst X83.here hx rfl (hb hby at_32) k) ?_
      show own_E p e below _ T83 (mkF m 33 #[iv p1, iv ((p1 &&& (2147483647 : Int32)) % (6 : Int32)), rv aFATAL, iv 0] [.int 1])
      refine own_st (fun t k => XS.goto X83.here hx rfl (pc0 := 33) (pc' := 37) rfl (hb hby at_33) (by decide) (by decide) k) ?_
      show own_E p e below _ T83 (mkF m 37 #[iv p1, iv ((p1 &&& (2147483647 : Int32)) % (6 : Int32)), rv aFATAL, iv 0] [.int 1])
      refine own_retS X83 hx Bd.notSynchronized Bd.returns rfl (by decide) (hb hby at_37) (by decide) (by decide) ?_
      exact ⟨rfl, fun y hy => by simp at hy⟩
  · refine own_st st1 ?_
    show own_E p e below _ T1 (mkF m 12 #[iv p1, iv ((p1 &&& (2147483647 : Int32)) % (6 : Int32)), .unset, .unset] [.ref aPENDING])
    refine own_st (fun t k => XS.astoreN X1.here hx rfl (hb hby at_12) rfl rfl (l' := #[iv p1, iv ((p1 &&& (2147483647 : Int32)) % (6 : Int32)), rv aPENDING, .unset]) rfl k) ?_
    show own_E p e below _ T1 (mkF m 13 #[iv p1, iv ((p1 &&& (2147483647 : Int32)) % (6 : Int32)), rv aPENDING, .unset] [])
    refine own_st (fun t k => XS.iloadN X1.here hx rfl (hb hby at_13) rfl k) ?_
    show own_E p e below _ T1 (mkF m 14 #[iv p1, iv ((p1 &&& (2147483647 : Int32)) % (6 : Int32)), rv aPENDING, .unset] [.int ((p1 &&& (2147483647 : Int32)) % (6 : Int32))])
    refine own_st (fun t k => XS.iconst X1.here hx rfl (hb hby at_14) k) ?_
    show own_E p e below _ T1 (mkF m 15 #[iv p1, iv ((p1 &&& (2147483647 : Int32)) % (6 : Int32)), rv aPENDING, .unset] [.int 2, .int ((p1 &&& (2147483647 : Int32)) % (6 : Int32))])
    by_cases hc84 : ((p1 &&& (2147483647 : Int32)) % (6 : Int32)) < (2 : Int32)
    · exfalso
      have f85 := rng32 p1
      have f86 : (2147483647 : Int32).toInt = 2147483647 := rfl
      have f87 := rng32 (p1 &&& (2147483647 : Int32))
      have f88 : (p1 &&& (2147483647 : Int32)).toInt = p1.toInt % 2147483648 := c_mask p1 (2147483647 : Int32) 31 (by decide) (by decide)
      have f89 : (6 : Int32).toInt = 6 := rfl
      have f90 := rng32 ((p1 &&& (2147483647 : Int32)) % (6 : Int32))
      have f91 := c_irem (p1 &&& (2147483647 : Int32)) (6 : Int32) 6 rfl
      have f92 : (0 : Int32).toInt = 0 := rfl
      have f93 : (1 : Int32).toInt = 1 := rfl
      have f94 : (2 : Int32).toInt = 2 := rfl
      have f95 : (3 : Int32).toInt = 3 := rfl
      have f96 : (4 : Int32).toInt = 4 := rfl
      have g97 := ha1_0
      rw [← Int32.toInt_inj] at g97
      have g98 := ha1_1
      rw [← Int32.toInt_inj] at g98
      have g99 := ha1_2
      rw [← Int32.toInt_inj] at g99
      have g100 := ha1_3
      rw [← Int32.toInt_inj] at g100
      have g101 := ha1_4
      rw [← Int32.toInt_inj] at g101
      have g102 := hc84
      rw [Int32.lt_iff_toInt_lt] at g102
      omega
    · refine own_st (fun t k => XS.icmpYes X1.here hx rfl (pc0 := 15) (pc' := 22) rfl (hb hby at_15) rfl (flt hc84).2.1 (by decide) (by decide) k) ?_
      show own_E p e below _ T1 (mkF m 22 #[iv p1, iv ((p1 &&& (2147483647 : Int32)) % (6 : Int32)), rv aPENDING, .unset] [])
      refine own_st (fun t k => XS.iconst X1.here hx rfl (hb hby at_22) k) ?_
      show own_E p e below _ T1 (mkF m 23 #[iv p1, iv ((p1 &&& (2147483647 : Int32)) % (6 : Int32)), rv aPENDING, .unset] [.int 0])
      refine own_st (fun t k => XS.istoreN X1.here hx rfl (hb hby at_23) rfl (l' := #[iv p1, iv ((p1 &&& (2147483647 : Int32)) % (6 : Int32)), rv aPENDING, iv 0]) rfl k) ?_
      show own_E p e below _ T1 (mkF m 24 #[iv p1, iv ((p1 &&& (2147483647 : Int32)) % (6 : Int32)), rv aPENDING, iv 0] [])
      refine own_st (fun t k => XS.aloadN X1.here hx rfl (hb hby at_24) rfl rfl k) ?_
      show own_E p e below _ T1 (mkF m 25 #[iv p1, iv ((p1 &&& (2147483647 : Int32)) % (6 : Int32)), rv aPENDING, iv 0] [.ref aPENDING])
      obtain ⟨cq103, kq103, q103a, q103b, q103c⟩ := isOf hZ e1 E_PENDING
      obtain ⟨_, _, ⟨T103, L103, k103, n103⟩, -, X103, ⟨Lc103, hQ103, l103, y103, z103⟩, st103⟩ := X1.virtualBack hx (y := own_y1) (z := own_y1) hown (mvT hZ (own_w hw 8 rfl)) (mvT hZ (own_w hw 9 rfl)) (notFace_of_selects (args := #[]) (mvT hZ (own_w hw 11 rfl))) (mvT hZ (own_w hw 11 rfl)) (mvT hZ (own_w hw 10 rfl)) (by decide) (backOf (W := 0) (own_succ_PENDING l Z a0 hw [] aOK aERROR aWARNING aDISCARD aPENDING aFATAL h0 n0 Z0 S_OK S_ERROR S_WARNING S_DISCARD S_PENDING S_FATAL E_OK E_ERROR E_WARNING E_DISCARD E_PENDING E_FATAL ne_OK_ERROR ne_OK_WARNING ne_OK_DISCARD ne_OK_PENDING ne_OK_FATAL ne_ERROR_WARNING ne_ERROR_DISCARD ne_ERROR_PENDING ne_ERROR_FATAL ne_WARNING_DISCARD ne_WARNING_PENDING ne_WARNING_FATAL ne_DISCARD_PENDING ne_DISCARD_FATAL ne_PENDING_FATAL) hZ (own_w hw 12 rfl) (own_w hw 6 rfl) (by decide) (by decide)) q103a q103c (g := (mkF m 25 #[iv p1, iv ((p1 &&& (2147483647 : Int32)) % (6 : Int32)), rv aPENDING, iv 0] [.ref aPENDING])) rfl (by rw [hml]; rfl) (Steps.refl _) (argsL := []) (rest := []) (lenOf own_pd_0 rfl) rfl (by show 2 * 0 + _ ≤ _; exact Nat.le_of_eq rfl) (hb hby at_25) (fun _ _ => ⟨rfl, e1, (by decide : 0 + 0 ≤ _), (by decide : 0 + 0 ≤ _)⟩)
      dsimp only [Pt.U, Pt.locs, Pt.cells, Pt.slots] at X103 l103 y103 z103 st103 hQ103
      subst l103 y103 z103
      obtain ⟨hR103, e103, rfl⟩ := hQ103
      obtain rfl := hR103
      refine own_tr st103 ?_
      show own_E p e below _ T103 (mkF m 28 #[iv p1, iv ((p1 &&& (2147483647 : Int32)) % (6 : Int32)), rv aPENDING, iv 0] [.int 0])
      refine own_st (fun t k => XS.iloadN X103.here hx rfl (hb hby at_28) rfl k) ?_
      show own_E p e below _ T103 (mkF m 29 #[iv p1, iv ((p1 &&& (2147483647 : Int32)) % (6 : Int32)), rv aPENDING, iv 0] [.int 0, .int 0])
      refine own_st (fun t k => XS.icmpNo X103.here hx rfl (hb hby at_29) rfl (by decide) k) ?_
      show own_E p e below _ T103 (mkF m 32 #[iv p1, iv ((p1 &&& (2147483647 : Int32)) % (6 : Int32)), rv aPENDING, iv 0] [])
      refine own_st (fun t k => XS.iconst X103.here hx rfl (hb hby at_32) k) ?_
      show own_E p e below _ T103 (mkF m 33 #[iv p1, iv ((p1 &&& (2147483647 : Int32)) % (6 : Int32)), rv aPENDING, iv 0] [.int 1])
      refine own_st (fun t k => XS.goto X103.here hx rfl (pc0 := 33) (pc' := 37) rfl (hb hby at_33) (by decide) (by decide) k) ?_
      show own_E p e below _ T103 (mkF m 37 #[iv p1, iv ((p1 &&& (2147483647 : Int32)) % (6 : Int32)), rv aPENDING, iv 0] [.int 1])
      refine own_retS X103 hx Bd.notSynchronized Bd.returns rfl (by decide) (hb hby at_37) (by decide) (by decide) ?_
      exact ⟨rfl, fun y hy => by simp at hy⟩
set_option maxRecDepth 65536 in
set_option maxHeartbeats 40000000 in
theorem comes_1 {Post : Tables → Env → Array Value → State → Outcome → State → Prop} (hpost : ∀ tb e args s v u, (limb_1_1.after args s (.returned v) u = true ∧ limb_1_2.after args s (.returned v) u = true ∧ True) → FrameEnd s (.returned v) u (Jvm.fieldLocs frame_1_writes args s ++ Jvm.arrayLocs frame_1_arrays args s ++ Jvm.staticLocs frame_1_statics s) 0 0 → Post tb e args s (.returned v) u) :
    ArmFor flags0 classFile x code maxLocals ret World_1 tables_1 room_1 Calls_1 rest_1 Pre_1 Post := by
  intro l hfl _ _ p e ha hc hk s m args below hf hA hF happ hP
  obtain ⟨hcalls, hrest, hpre⟩ := hP
  obtain ⟨-, -, -, hnamed, -, -, -, hat⟩ := (Spec.applies_iff hf).mp happ
  obtain ⟨hg, hn⟩ := and_e (Cond.before_iff.mp (show (Jvm.Cond.and given_1 narrow_1).before args s = true from hpre))
  obtain ⟨hg0, hg1⟩ := and_e hg
  have hv0 := hg1
  obtain ⟨w0, rfl⟩ : ∃ w0 : Value, args = #[w0] := by
    have hs : args.size = 1 := by simpa [Cond.value, given_1] using hg0
    obtain ⟨L⟩ := args
    match L, hs with
    | [w0], _ => exact ⟨w0, rfl⟩
  have hw := fun d (hd : d ∈ tables_1) => atoms_spec (ws := Jvm.Cond.code x code maxLocals ret :: tables_1) hat d (List.mem_cons_of_mem _ hd)
  have hfit : Fit s := fun {y c} hc i hi => by
    obtain ⟨ha, rfl⟩ := Array.getElem?_eq_some_iff.mp hc
    have q := List.all_eq_true.mp ((Array.all_eq_true_iff_forall_mem.mp hF) _ (Array.getElem_mem ha)) i (List.mem_range.mpr hi)
    simpa [Array.getElem?_eq_getElem hi] using q
  obtain ⟨i0, ev0⟩ := is_v hv0
  obtain rfl : w0 = (.int i0) := Option.some.inj ev0
  obtain ⟨hp0, hq0⟩ := and_e hn
  obtain ⟨hp1, hq1⟩ := and_e hq0
  obtain ⟨hp2, hq2⟩ := and_e hq1
  obtain ⟨hp3, hq3⟩ := and_e hq2
  obtain ⟨hp4, hq4⟩ := and_e hq3
  obtain ⟨hp5, hq5⟩ := and_e hq4
  obtain ⟨hp6, hq6⟩ := and_e hq5
  obtain ⟨hp7, hq7⟩ := and_e hq6
  obtain ⟨hp8, hq8⟩ := and_e hq7
  obtain ⟨hp9, hq9⟩ := and_e hq8
  obtain ⟨hp10, hq10⟩ := and_e hq9
  have hp11 := hq10
  obtain ⟨aOK, evOK⟩ := exa_v hp0
  have S_OK := Sta.start evOK (Or.inr ⟨(own_w hw 6 rfl), (own_w hw 7 rfl)⟩)
  have E_OK := Exa.start evOK hp0
  obtain ⟨aERROR, evERROR⟩ := exa_v hp1
  have S_ERROR := Sta.start evERROR (Or.inr ⟨(own_w hw 6 rfl), (own_w hw 15 rfl)⟩)
  have E_ERROR := Exa.start evERROR hp1
  obtain ⟨aWARNING, evWARNING⟩ := exa_v hp4
  have S_WARNING := Sta.start evWARNING (Or.inr ⟨(own_w hw 6 rfl), (own_w hw 17 rfl)⟩)
  have E_WARNING := Exa.start evWARNING hp4
  obtain ⟨aDISCARD, evDISCARD⟩ := exa_v hp6
  have S_DISCARD := Sta.start evDISCARD (Or.inr ⟨(own_w hw 6 rfl), (own_w hw 19 rfl)⟩)
  have E_DISCARD := Exa.start evDISCARD hp6
  obtain ⟨aPENDING, evPENDING⟩ := exa_v hp8
  have S_PENDING := Sta.start evPENDING (Or.inr ⟨(own_w hw 6 rfl), (own_w hw 22 rfl)⟩)
  have E_PENDING := Exa.start evPENDING hp8
  obtain ⟨aFATAL, evFATAL⟩ := exa_v hp10
  have S_FATAL := Sta.start evFATAL (Or.inr ⟨(own_w hw 6 rfl), (own_w hw 24 rfl)⟩)
  have E_FATAL := Exa.start evFATAL hp10
  have O_ERROR := Fld.start (own_eqi evERROR hp2)
  have O_OK := Fld.start (own_eqi evOK hp3)
  have O_WARNING := Fld.start (own_eqi evWARNING hp5)
  have O_DISCARD := Fld.start (own_eqi evDISCARD hp7)
  have O_PENDING := Fld.start (own_eqi evPENDING hp9)
  have O_FATAL := Fld.start (own_eqi evFATAL hp11)
  have ne_OK_ERROR : ¬ aOK = aERROR := Fld.ne O_OK O_ERROR (by decide)
  have ne_OK_WARNING : ¬ aOK = aWARNING := Fld.ne O_OK O_WARNING (by decide)
  have ne_OK_DISCARD : ¬ aOK = aDISCARD := Fld.ne O_OK O_DISCARD (by decide)
  have ne_OK_PENDING : ¬ aOK = aPENDING := Fld.ne O_OK O_PENDING (by decide)
  have ne_OK_FATAL : ¬ aOK = aFATAL := Fld.ne O_OK O_FATAL (by decide)
  have ne_ERROR_WARNING : ¬ aERROR = aWARNING := Fld.ne O_ERROR O_WARNING (by decide)
  have ne_ERROR_DISCARD : ¬ aERROR = aDISCARD := Fld.ne O_ERROR O_DISCARD (by decide)
  have ne_ERROR_PENDING : ¬ aERROR = aPENDING := Fld.ne O_ERROR O_PENDING (by decide)
  have ne_ERROR_FATAL : ¬ aERROR = aFATAL := Fld.ne O_ERROR O_FATAL (by decide)
  have ne_WARNING_DISCARD : ¬ aWARNING = aDISCARD := Fld.ne O_WARNING O_DISCARD (by decide)
  have ne_WARNING_PENDING : ¬ aWARNING = aPENDING := Fld.ne O_WARNING O_PENDING (by decide)
  have ne_WARNING_FATAL : ¬ aWARNING = aFATAL := Fld.ne O_WARNING O_FATAL (by decide)
  have ne_DISCARD_PENDING : ¬ aDISCARD = aPENDING := Fld.ne O_DISCARD O_PENDING (by decide)
  have ne_DISCARD_FATAL : ¬ aDISCARD = aFATAL := Fld.ne O_DISCARD O_FATAL (by decide)
  have ne_PENDING_FATAL : ¬ aPENDING = aFATAL := Fld.ne O_PENDING O_FATAL (by decide)
  obtain ⟨n, o, h1, h2, h3, _, L, rfl, ⟨rfl, N⟩, hq⟩ := own_law l s _ hw tables_1 aOK aERROR aWARNING aDISCARD aPENDING aFATAL i0 s.heap s.heap.size (Nat.le_refl _) S_OK S_ERROR S_WARNING S_DISCARD S_PENDING S_FATAL E_OK E_ERROR E_WARNING E_DISCARD E_PENDING E_FATAL ne_OK_ERROR ne_OK_WARNING ne_OK_DISCARD ne_OK_PENDING ne_OK_FATAL ne_ERROR_WARNING ne_ERROR_DISCARD ne_ERROR_PENDING ne_ERROR_FATAL ne_WARNING_DISCARD ne_WARNING_PENDING ne_WARNING_FATAL ne_DISCARD_PENDING ne_DISCARD_FATAL ne_PENDING_FATAL p e ha hc hk s m _ below hf ((Spec.applies_iff_loose hf).mp happ).1 ⟨rfl, State.Warmed39.refl s, rfl⟩ trivial
  refine ⟨n, _, h1, h2, h3, hpost _ _ _ _ _ _ ⟨Cond.after_iff.mpr rfl, Cond.after_iff.mpr (eq_i res_at (Term.int_eval (1)) rfl), trivial⟩ ⟨hq.1, hq.2.1, (hq.2.2.sift fun y hy => Or.inr (N y hy)).mono (by decide) (by decide)⟩⟩
theorem main_1_1 : Claimed_1_1 := comes_1 fun _ _ _ _ _ _ h hF => ⟨h.1, hF⟩
theorem main_1_2 : Claimed_1_2 := comes_1 fun _ _ _ _ _ _ h hF => ⟨h.2.1, hF⟩
end Jvm.Pilot.@@N@@
namespace Jvm.Pilot.@@N@@
open Jvm Jvm.ClassFile Sem Op Lib Jvm.Free Jvm.Stand Jvm.Pilot.@@N@@.Jvm.D
/-! MADE BY PROGRAM (witnessworld.py) out of the Statement's table words and the real class files: 12 classes; the members and pool entries that the words name. The judged class is class 1, her method 1. -/
namespace start1
open Jvm.ClassFile
def u (s : String) : CpInfo := .utf8 (stringToUtf16 s)
/-- a pool by its gaps: so many unusable entries, then the entry; so many at the end -/
def gap : Nat → List CpInfo → List CpInfo
  | 0, r => r
  | n + 1, r => .unusable :: gap n r
def poolList (es : List (Nat × CpInfo)) (last : Nat) : List CpInfo := es.foldr (fun e r => gap e.1 (e.2 :: r)) (gap last [])
def pool (es : List (Nat × CpInfo)) (last : Nat) : Array CpInfo := ⟨poolList es last⟩
def fileOf (pool : Array CpInfo) (this : Nat) (attrs : Array Attribute := #[]) (ms : Array MethodInfo := #[]) (fl : Nat := 33) (sup : Nat := 0) (ifs : Array Nat := #[]) (fds : Array FieldInfo := #[]) : ClassFile where
  minorVersion := 0
  majorVersion := 65
  constantPool := pool
  accessFlags := fl
  thisClass := this
  superClass := sup
  interfaces := ifs
  fields := fds
  methods := ms
  attributes := attrs
def plain (name : String) (sup : Option ClassId) : Class where
  name := name
  kind := .ordinary
  loader := none
  accessFlags := 33
  super := sup
  interfaces := #[]
  cf := none
  fields := #[]
  methods := #[]
  instanceTypes := #[]
  staticTypes := #[]
  resolved := #[]
  callSites := []
  init := .initialized
  statics := none
  mirror := none

def pool0 : Array CpInfo := pool [(5, u "<init>"), (0, u "()V"), (1, .class_ 10), (1, u "java/lang/Object")] 113

def k0m0 : Method := { name := "<init>", desc := "()V", sig := { parameters := [], returnType := none }, accessFlags := 1, code := none }
/-- java/lang/Object -/
def k0 : Class := { plain "java/lang/Object" none with
  accessFlags := 33
  interfaces := #[]
  cf := some (fileOf pool0 8 #[] #[{ accessFlags := 1, nameIndex := 5, descriptorIndex := 6, attributes := #[] }] 33 0 #[] #[])
  fields := #[]
  methods := #[k0m0]
  instanceTypes := #[]
  staticTypes := #[]
  resolved := Array.replicate 124 none
  statics := none }

def pool1 : Array CpInfo := pool [(2, .class_ 4), (1, u "java/lang/Object"), (0, u "<init>"), (0, u "()V"), (0, .integer 2147483647), (0, .methodref 9 10), (0, .class_ 11), (0, .nameAndType 12 13), (0, u "com/example/lockstep/lockstep/fmi/Fmi2StatusSucceededPinLaw"), (0, u "pick"), (0, u "(I)Lcom/example/lockstep/lockstep/fmi/Fmi2Status;"), (0, .methodref 15 16), (0, .class_ 17), (0, .nameAndType 18 19), (0, u "com/example/lockstep/lockstep/fmi/Fmi2Status"), (0, u "succeeded"), (0, u "()Z"), (0, .fieldref 15 21), (0, .nameAndType 22 23), (0, u "OK"), (0, u "Lcom/example/lockstep/lockstep/fmi/Fmi2Status;"), (0, .fieldref 15 25), (0, .nameAndType 26 23), (0, u "WARNING"), (0, .fieldref 15 28), (0, .nameAndType 29 23), (0, u "DISCARD"), (0, .fieldref 15 31), (0, .nameAndType 32 23), (0, u "ERROR"), (0, .fieldref 15 34), (0, .nameAndType 35 23), (0, u "FATAL"), (0, .fieldref 15 37), (0, .nameAndType 38 23), (0, u "PENDING"), (2, u "law"), (0, u "(I)Z")] 3

def k1m0 : Method := { name := "<init>", desc := "()V", sig := { parameters := [], returnType := none }, accessFlags := 1, code := none }
def k1c1 : Code := { maxStack := 2, maxLocals := 4, code := code, exceptionTable := #[], attributes := #[] }
def k1m1 : Method := { name := "law", desc := "(I)Z", sig := { parameters := [.int], returnType := some .boolean }, accessFlags := 9, code := some k1c1 }
def k1c2 : Code := { maxStack := 2, maxLocals := 1, code := method_3_code, exceptionTable := #[], attributes := #[] }
def k1m2 : Method := { name := "pick", desc := "(I)Lcom/example/lockstep/lockstep/fmi/Fmi2Status;", sig := { parameters := [.int], returnType := some (.object "com/example/lockstep/lockstep/fmi/Fmi2Status") }, accessFlags := 10, code := some k1c2 }
/-- com/example/lockstep/lockstep/fmi/Fmi2StatusSucceededPinLaw -/
def k1 : Class := { plain "com/example/lockstep/lockstep/fmi/Fmi2StatusSucceededPinLaw" (some 0) with
  accessFlags := 49
  interfaces := #[]
  cf := some (fileOf pool1 9 #[] #[{ accessFlags := 1, nameIndex := 5, descriptorIndex := 6, attributes := #[] }, { accessFlags := 9, nameIndex := 41, descriptorIndex := 42, attributes := #[] }, { accessFlags := 10, nameIndex := 12, descriptorIndex := 13, attributes := #[] }] 49 2 #[] #[])
  fields := #[]
  methods := #[k1m0, k1m1, k1m2]
  instanceTypes := #[]
  staticTypes := #[]
  resolved := Array.replicate 46 none
  statics := none }

def pool2 : Array CpInfo := pool [(1, .class_ 2), (0, u "java/lang/constant/Constable"), (0, .class_ 4), (0, u "java/lang/Object")] 6

/-- java/lang/constant/Constable -/
def k2 : Class := { plain "java/lang/constant/Constable" (some 0) with
  accessFlags := 1537
  interfaces := #[]
  cf := some (fileOf pool2 1 #[] #[] 1537 3 #[] #[])
  fields := #[]
  methods := #[]
  instanceTypes := #[]
  staticTypes := #[]
  resolved := Array.replicate 11 none
  statics := none }

def pool3 : Array CpInfo := pool [(1, .class_ 2), (0, u "java/lang/Comparable"), (0, .class_ 4), (0, u "java/lang/Object")] 7

/-- java/lang/Comparable -/
def k3 : Class := { plain "java/lang/Comparable" (some 0) with
  accessFlags := 1537
  interfaces := #[]
  cf := some (fileOf pool3 1 #[] #[] 1537 3 #[] #[])
  fields := #[]
  methods := #[]
  instanceTypes := #[]
  staticTypes := #[]
  resolved := Array.replicate 12 none
  statics := none }

def pool4 : Array CpInfo := pool [(1, .class_ 2), (0, u "java/io/Serializable"), (0, .class_ 4), (0, u "java/lang/Object")] 2

/-- java/io/Serializable -/
def k4 : Class := { plain "java/io/Serializable" (some 0) with
  accessFlags := 1537
  interfaces := #[]
  cf := some (fileOf pool4 1 #[] #[] 1537 3 #[] #[])
  fields := #[]
  methods := #[]
  instanceTypes := #[]
  staticTypes := #[]
  resolved := Array.replicate 7 none
  statics := none }

def pool5 : Array CpInfo := pool [(2, .class_ 4), (1, u "java/lang/Enum"), (0, u "name"), (0, u "Ljava/lang/String;"), (2, u "ordinal"), (0, u "I"), (1, .class_ 14), (1, u "java/lang/Object"), (4, u "hash"), (86, .class_ 108), (1, u "java/lang/Enum$EnumDesc"), (2, .class_ 112), (0, u "java/lang/constant/Constable"), (0, .class_ 114), (0, u "java/lang/Comparable"), (0, .class_ 116), (0, u "java/io/Serializable")] 87

/-- java/lang/Enum -/
def k5 : Class := { plain "java/lang/Enum" (some 0) with
  accessFlags := 1057
  interfaces := #[2, 3, 4]
  cf := some (fileOf pool5 2 #[.nestMembers #[106]] #[] 1057 12 #[111, 113, 115] #[{ accessFlags := 18, nameIndex := 5, descriptorIndex := 6, attributes := #[] }, { accessFlags := 18, nameIndex := 9, descriptorIndex := 10, attributes := #[] }, { accessFlags := 2, nameIndex := 19, descriptorIndex := 10, attributes := #[] }])
  fields := #[{ name := "name", type := (.object "java/lang/String"), accessFlags := 18, slot := 0, constantValue := 0 }, { name := "ordinal", type := .int, accessFlags := 18, slot := 1, constantValue := 0 }, { name := "hash", type := .int, accessFlags := 2, slot := 2, constantValue := 0 }]
  methods := #[]
  instanceTypes := #[(.object "java/lang/String"), .int, .int]
  staticTypes := #[]
  resolved := Array.replicate 204 none
  statics := none }

def pool6 : Array CpInfo := pool [(1, .class_ 2), (0, u "com/example/lockstep/lockstep/fmi/Fmi2Status"), (0, .fieldref 1 4), (0, .nameAndType 5 6), (0, u "OK"), (0, u "Lcom/example/lockstep/lockstep/fmi/Fmi2Status;"), (0, .fieldref 1 8), (0, .nameAndType 9 6), (0, u "WARNING"), (2, u "DISCARD"), (2, u "ERROR"), (2, u "FATAL"), (2, u "PENDING"), (2, u "$VALUES"), (0, u "[Lcom/example/lockstep/lockstep/fmi/Fmi2Status;"), (6, .class_ 34), (1, u "java/lang/Enum"), (8, u "cName"), (0, u "Ljava/lang/String;"), (2, u "BY_CODE"), (0, u "Ljava/util/List;"), (51, u "succeeded"), (0, u "()Z")] 7

def k6c0 : Code := { maxStack := 2, maxLocals := 1, code := prog_15_method_5_code, exceptionTable := #[], attributes := #[] }
def k6m0 : Method := { name := "succeeded", desc := "()Z", sig := { parameters := [], returnType := some .boolean }, accessFlags := 1, code := some k6c0 }
/-- com/example/lockstep/lockstep/fmi/Fmi2Status -/
def k6 : Class := { plain "com/example/lockstep/lockstep/fmi/Fmi2Status" (some 5) with
  accessFlags := 16433
  interfaces := #[]
  cf := some (fileOf pool6 1 #[] #[{ accessFlags := 1, nameIndex := 100, descriptorIndex := 101, attributes := #[] }] 16433 32 #[] #[{ accessFlags := 16409, nameIndex := 5, descriptorIndex := 6, attributes := #[] }, { accessFlags := 16409, nameIndex := 9, descriptorIndex := 6, attributes := #[] }, { accessFlags := 16409, nameIndex := 12, descriptorIndex := 6, attributes := #[] }, { accessFlags := 16409, nameIndex := 15, descriptorIndex := 6, attributes := #[] }, { accessFlags := 16409, nameIndex := 18, descriptorIndex := 6, attributes := #[] }, { accessFlags := 16409, nameIndex := 21, descriptorIndex := 6, attributes := #[] }, { accessFlags := 26, nameIndex := 47, descriptorIndex := 48, attributes := #[] }, { accessFlags := 18, nameIndex := 43, descriptorIndex := 44, attributes := #[] }, { accessFlags := 4122, nameIndex := 24, descriptorIndex := 25, attributes := #[] }])
  fields := #[{ name := "OK", type := (.object "com/example/lockstep/lockstep/fmi/Fmi2Status"), accessFlags := 16409, slot := 0, constantValue := 0 }, { name := "WARNING", type := (.object "com/example/lockstep/lockstep/fmi/Fmi2Status"), accessFlags := 16409, slot := 1, constantValue := 0 }, { name := "DISCARD", type := (.object "com/example/lockstep/lockstep/fmi/Fmi2Status"), accessFlags := 16409, slot := 2, constantValue := 0 }, { name := "ERROR", type := (.object "com/example/lockstep/lockstep/fmi/Fmi2Status"), accessFlags := 16409, slot := 3, constantValue := 0 }, { name := "FATAL", type := (.object "com/example/lockstep/lockstep/fmi/Fmi2Status"), accessFlags := 16409, slot := 4, constantValue := 0 }, { name := "PENDING", type := (.object "com/example/lockstep/lockstep/fmi/Fmi2Status"), accessFlags := 16409, slot := 5, constantValue := 0 }, { name := "BY_CODE", type := (.object "java/util/List"), accessFlags := 26, slot := 6, constantValue := 0 }, { name := "cName", type := (.object "java/lang/String"), accessFlags := 18, slot := 3, constantValue := 0 }, { name := "$VALUES", type := (.array (.object "com/example/lockstep/lockstep/fmi/Fmi2Status")), accessFlags := 4122, slot := 7, constantValue := 0 }]
  methods := #[k6m0]
  instanceTypes := #[(.object "java/lang/String"), .int, .int, (.object "java/lang/String")]
  staticTypes := #[(.object "com/example/lockstep/lockstep/fmi/Fmi2Status"), (.object "com/example/lockstep/lockstep/fmi/Fmi2Status"), (.object "com/example/lockstep/lockstep/fmi/Fmi2Status"), (.object "com/example/lockstep/lockstep/fmi/Fmi2Status"), (.object "com/example/lockstep/lockstep/fmi/Fmi2Status"), (.object "com/example/lockstep/lockstep/fmi/Fmi2Status"), (.object "java/util/List"), (.array (.object "com/example/lockstep/lockstep/fmi/Fmi2Status"))]
  resolved := Array.replicate 109 none
  statics := some 0 }

def pool7 : Array CpInfo := pool [(1, u "java/lang/Cloneable"), (0, .class_ 1), (0, u "java/lang/Object"), (0, .class_ 3)] 3

/-- java/lang/Cloneable -/
def k7 : Class := { plain "java/lang/Cloneable" (some 0) with
  accessFlags := 1537
  interfaces := #[]
  cf := some (fileOf pool7 2 #[] #[] 1537 4 #[] #[])
  fields := #[]
  methods := #[]
  instanceTypes := #[]
  staticTypes := #[]
  resolved := Array.replicate 8 none
  statics := none }

/-- the primitive byte -/
def k8 : Class := { plain "byte" none with kind := .primitive 'B', accessFlags := 0x411 }
/-- [B -/
def k9 : Class := { plain "[B" (some 0) with kind := .array 8 .byte, interfaces := #[7, 4], accessFlags := 1041 }

/-- the primitive int -/
def k10 : Class := { plain "int" none with kind := .primitive 'I', accessFlags := 0x411 }
/-- [I -/
def k11 : Class := { plain "[I" (some 0) with kind := .array 10 .int, interfaces := #[7, 4], accessFlags := 1041 }

def heap : Heap := #[{ cls := 6, slots := #[.ref 1, .ref 3, .ref 4, .ref 2, .ref 6, .ref 5, .null, .null], vm := .statics 6 },
  { cls := 6, slots := #[.null, .int 0, .int 0, .null], vm := .none },
  { cls := 6, slots := #[.null, .int 3, .int 0, .null], vm := .none },
  { cls := 6, slots := #[.null, .int 1, .int 0, .null], vm := .none },
  { cls := 6, slots := #[.null, .int 2, .int 0, .null], vm := .none },
  { cls := 6, slots := #[.null, .int 5, .int 0, .null], vm := .none },
  { cls := 6, slots := #[.null, .int 4, .int 0, .null], vm := .none }]
def classes : Array Class := #[k0, k1, k2, k3, k4, k5, k6, k7, k8, k9, k10, k11]
def interned : List (Array UInt16 × Addr) := []
def slotsUsed : Nat := 32
def theMethod : MethodId := ⟨1, 1⟩
def args0 : Array Value := #[.int 5]
def aboutOver (below : List Frame) : State where
  vm := { classes := classes, interned := interned.toArray }
  heap := heap
  slotsUsed := slotsUsed
  threads := #[{ frames := .invoking theMethod args0 :: below }]
def below0 : List Frame := [.native { method := ⟨0, 0⟩, args := #[] }]
def about1 : State := aboutOver below0
def p0 : Program := .bare "" "" ""
def e0 : Env := launch0.env 0 0 0
theorem w_frames : about1.frames = Frame.invoking theMethod args0 :: below0 := rfl
set_option maxRecDepth 65536 in
theorem w_args : argsFit about1.vm theMethod args0 = true := by decide +kernel
set_option maxRecDepth 65536 in
theorem w_heap : heapFits about1 = true := by decide +kernel
set_option maxRecDepth 65536 in
theorem w_runnable : about1.curStatus? = some .runnable := by decide +kernel
set_option maxRecDepth 65536 in
theorem w_alone : about1.alone = true := by decide +kernel
set_option maxRecDepth 65536 in
theorem w_named : about1.methodNamed? x = some theMethod := by decide +kernel
set_option maxRecDepth 65536 in
theorem w_hears : about1.hears theMethod below0 = true := by decide +kernel
set_option maxRecDepth 65536 in
theorem w_ripe : about1.ripe theMethod args0 below0 = true := by decide +kernel
theorem w_running : about1.status = .running := rfl
set_option maxRecDepth 65536 in
theorem w_room : about1.hasRoom e0.platform room_1 = true :=
  launch0.hasRoom_least _ room_1 (by decide +kernel) (by decide +kernel) (by decide +kernel) (by decide +kernel) (by decide +kernel) (by decide +kernel)
theorem allAtoms_all (ts : List Jvm.Cond) (a : Array Jvm.Value) (st : Jvm.State) : (allAtoms ts).before a st = ts.all (fun c => c.before a st) := by
  induction ts with
  | nil => rfl
  | cons c t ih =>
    show (Jvm.Cond.and c (allAtoms t)).before a st = _
    rw [Jvm.Cond.before_and, ih, List.all_cons]
def words1 : List Jvm.Cond := Jvm.Cond.code x code maxLocals ret :: tables_1
/-- a 'code' word, met by the world's own term for the bytes: nothing is compared byte by byte -/
theorem code_word {y : MethodName} {bytes : ByteArray} {mx : Nat} {rt : Option FieldType} {a : Array Value} {s : State} {m : MethodId} {meth : Method} {c : Code} (h1 : s.methodNamed? y = some m) (h2 : s.vm.method? m = some meth) (h3 : meth.code = some c) (h4 : c.code = bytes)
    (h5 : (c.maxLocals == mx && c.exceptionTable.isEmpty && decide (c.maxStack ≤ mostOperands) && decide (meth.sig.returnType = rt) && !meth.locks && decide (parseMethodDescriptor y.desc = some meth.sig)) = true) : (Jvm.Cond.code y bytes mx rt).before a s = true := by
  simp only [Bool.and_eq_true, beq_iff_eq, Bool.not_eq_true', decide_eq_true_eq] at h5
  obtain ⟨⟨⟨⟨⟨g1, g2⟩, g3⟩, g4⟩, g5⟩, g6⟩ := h5
  simp [Cond.before, Cond.holds, Cond.value, h1, h2, h3, h4, g1, g2, g3, g4, g5, g6]
def isCode : Jvm.Cond → Bool
  | .code _ _ _ _ => true
  | _ => false
theorem all_split {L : List Jvm.Cond} {P : Jvm.Cond → Bool} (h1 : L.all (fun c => isCode c || P c) = true) (h2 : ∀ c ∈ L.filter isCode, P c = true) : L.all P = true := by
  refine List.all_eq_true.mpr fun c hc => ?_
  have h := List.all_eq_true.mp h1 c hc
  rcases Bool.eq_false_or_eq_true (isCode c) with hi | hi
  · exact h2 c (List.mem_filter.mpr ⟨hc, hi⟩)
  · simpa [hi] using h
set_option maxRecDepth 65536 in
theorem w_c0 : (Jvm.Cond.code x code maxLocals ret).before args0 about1 = true := code_word (m := ⟨1, 1⟩) (meth := k1m1) (c := k1c1) (by decide +kernel) rfl rfl rfl (by decide +kernel)
set_option maxRecDepth 65536 in
theorem w_c1 : (Jvm.Cond.code ({ cls := "com/example/lockstep/lockstep/fmi/Fmi2StatusSucceededPinLaw", name := "pick", desc := "(I)Lcom/example/lockstep/lockstep/fmi/Fmi2Status;" } : Jvm.MethodName) method_3_code (1 : Nat) (Option.some (Jvm.ClassFile.FieldType.object "com/example/lockstep/lockstep/fmi/Fmi2Status"))).before args0 about1 = true := code_word (m := ⟨1, 2⟩) (meth := k1m2) (c := k1c2) (by decide +kernel) rfl rfl rfl (by decide +kernel)
set_option maxRecDepth 65536 in
theorem w_c2 : (Jvm.Cond.code ({ cls := "com/example/lockstep/lockstep/fmi/Fmi2Status", name := "succeeded", desc := "()Z" } : Jvm.MethodName) prog_15_method_5_code (1 : Nat) (Option.some Jvm.ClassFile.FieldType.boolean)).before args0 about1 = true := code_word (m := ⟨6, 0⟩) (meth := k6m0) (c := k6c0) (by decide +kernel) rfl rfl rfl (by decide +kernel)
def codes1 : List Jvm.Cond := [Jvm.Cond.code x code maxLocals ret, Jvm.Cond.code ({ cls := "com/example/lockstep/lockstep/fmi/Fmi2StatusSucceededPinLaw", name := "pick", desc := "(I)Lcom/example/lockstep/lockstep/fmi/Fmi2Status;" } : Jvm.MethodName) method_3_code (1 : Nat) (Option.some (Jvm.ClassFile.FieldType.object "com/example/lockstep/lockstep/fmi/Fmi2Status")), Jvm.Cond.code ({ cls := "com/example/lockstep/lockstep/fmi/Fmi2Status", name := "succeeded", desc := "()Z" } : Jvm.MethodName) prog_15_method_5_code (1 : Nat) (Option.some Jvm.ClassFile.FieldType.boolean)]
set_option maxRecDepth 65536 in
theorem codes_eq : words1.filter isCode = codes1 := rfl
theorem w_codes : ∀ c ∈ words1.filter isCode, c.before args0 about1 = true := by
  rw [codes_eq]
  intro c hc
  simp only [codes1, List.mem_cons, List.not_mem_nil, or_false] at hc
  rcases hc with rfl | rfl | rfl
  · exact w_c0
  · exact w_c1
  · exact w_c2
set_option maxRecDepth 65536 in
theorem w_t1 : (words1.take 24).all (fun c => isCode c || c.before args0 about1) = true := by decide +kernel
set_option maxRecDepth 65536 in
theorem w_t2 : (words1.drop 24).all (fun c => isCode c || c.before args0 about1) = true := by decide +kernel
theorem w_tables : (allAtoms (Jvm.Cond.code x code maxLocals ret :: tables_1)).before args0 about1 = true := by
  rw [allAtoms_all]
  show words1.all (fun c => c.before args0 about1) = true
  refine all_split ?_ w_codes
  rw [← List.take_append_drop 24 words1, List.all_append, w_t1, w_t2]
  rfl
set_option maxRecDepth 65536 in
theorem w_case : (Jvm.Cond.and given_1 narrow_1).before args0 about1 = true := by decide +kernel
theorem w_applies : (headSpec (Jvm.Cond.code x code maxLocals ret :: tables_1) room_1).applies x e0.platform about1 = true :=
  (Spec.applies_iff w_frames).mpr ⟨w_running, w_runnable, w_alone, w_named, w_hears, w_ripe, w_room, w_tables⟩
theorem atStart : AtStart classFile x code maxLocals ret World_1 tables_1 room_1 Calls_1 rest_1 Pre_1 launch0 p0 e0 about1 theMethod args0 below0 :=
  ⟨lists_1, trivial, launch0.admits_env _ _ _, launch0.least_env, fairChoices_fair.cas, fairChoices_fair.clock, w_frames, w_args, w_heap, w_applies, trivial, trivial, w_case⟩
end start1
theorem witness_1 : WitnessClaimed_1 := ⟨start1.p0, start1.e0, start1.about1, start1.theMethod, start1.args0, start1.below0, start1.atStart⟩
end Jvm.Pilot.@@N@@
