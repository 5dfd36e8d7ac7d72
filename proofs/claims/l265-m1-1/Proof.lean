import JvmDerived
import JvmDerived.Pilot.@@N@@Statement
import JvmDerived.Pilot.@@N@@Code
set_option linter.unusedVariables false
set_option linter.unusedSimpArgs false
namespace Jvm.Pilot.@@N@@
open Jvm Jvm.ClassFile Sem Op Lib Jvm.Free Jvm.Stand Jvm.LawKit Jvm.RoadKit Bundle Jvm.Pilot.@@N@@.Jvm.D
theorem own_w {a0 : Array Value} {Z : State} (hw : ∀ d ∈ tables_1, d.before a0 Z = true) (i : Nat) {d : Jvm.Cond} (h : tables_1[i]? = some d) : d.before a0 Z = true := hw d (List.mem_of_getElem? h)
section Own
variable {p : Program} {l : Launch} {e : Env} {R : Room} {s : State} {m : MethodId} {args : Array Value} {below : List Frame} {meth : Method} {c : Code} {T T' : State} {locs : List Loc} {cells slots : Nat} {g g' : JFrame} {K : Outcome → State → Prop} {Q : Option Value → Heap → List Loc → Prop} {kc ks : Nat}
/-- from this state, with this frame on top, the run comes to an end at which K holds -/
def own_E (p : Program) (e : Env) (below : List Frame) (K : Outcome → State → Prop) (T : State) (g : JFrame) : Prop :=
  ∃ s₂ o, Steps p.tables e below (T.setTop g) s₂ ∧ s₂.status = .running ∧ Ended s₂ below o ∧ K o s₂
def own_K (Q : Option Value → Heap → List Loc → Prop) (s : State) (kc ks : Nat) : Outcome → State → Prop :=
  fun o U' => ∃ v L, o = .returned v ∧ Q v U'.heap L ∧ FrameEnd s o U' L kc ks
theorem own_st (st : ∀ t, Steps p.tables e below (T'.setTop g') t → Steps p.tables e below (T.setTop g) t) (k : own_E p e below K T' g') : own_E p e below K T g := by
  obtain ⟨s2, o, h1, h2⟩ := k
  exact ⟨s2, o, st _ h1, h2⟩
theorem own_tr (st : Steps p.tables e below (T.setTop g) (T'.setTop g')) (k : own_E p e below K T' g') : own_E p e below K T g :=
  own_st (fun _ h => st.trans h) k
theorem own_pre (q : g = g') (k : own_E p e below K T g') : own_E p e below K T g := q ▸ k
theorem own_end (X : Stand p l e R s m args below meth c T locs cells slots) (hlk : meth.locks = false) {v : Option Value} (hv : meth.sig.returnType = none → v = none)
    (hr : ∀ fs : List Frame, (∀ (f : JFrame) (acts : List Action), f.method = m → f.locked = none → f.entered = [] → (doReturn e (T.setTop f) acts v).1 = T.setFrames fs) → Steps p.tables e below (T.setTop g) (T.setFrames fs))
    (hc : cells ≤ kc) (hs : slots ≤ ks) (hQ : Q v T.heap locs) : own_E p e below (own_K Q s kc ks) T g := by
  obtain ⟨fs, h1, hrun, hended, hW, hsame⟩ := X.leave (v := v) hv hlk
  exact ⟨_, _, hr fs h1, hrun, hended, _, _, rfl, hQ, ⟨_, rfl⟩, hW, hsame.mono hc hs⟩
theorem own_retV (X : Stand p l e R s m args below meth c T locs cells slots) (hx : p.tables.exec = Jvm.exec) (hlk : meth.locks = false) {pc : Nat} {Ls : Array Slot} (hret : meth.sig.returnType = none)
    (hd : decode c.code pc = .ok (.return_, 1)) (hc : cells ≤ kc) (hs : slots ≤ ks) (hQ : Q none T.heap locs) : own_E p e below (own_K Q s kc ks) T (mkF m pc Ls []) :=
  own_end X hlk (fun _ => rfl) (fun fs h => X.returnOut hx hret hd h) hc hs hQ
theorem own_retG (X : Stand p l e R s m args below meth c T locs cells slots) (hx : p.tables.exec = Jvm.exec) (hlk : meth.locks = false) {pc : Nat} {Ls : Array Slot} {w : Value} {t : FieldType} {i : Instr} {rest : List Value} (hret : meth.sig.returnType = some t) (hn : narrow t w = w)
    (hi : (i = .ireturn ∧ (t = .int ∨ t = .boolean ∨ t = .byte ∨ t = .char ∨ t = .short) ∧ ∃ z, w = .int z) ∨ (i = .lreturn ∧ t = .long ∧ ∃ z, w = .long z) ∨ (i = .dreturn ∧ t = .double ∧ ∃ z, w = .double z) ∨ (i = .freturn ∧ t = .float ∧ ∃ z, w = .float z) ∨ (i = .areturn ∧ t.isReference = true ∧ w.isRef = true))
    (hd : decode c.code pc = .ok (i, 1)) (hc : cells ≤ kc) (hs : slots ≤ ks) (hQ : Q (some w) T.heap locs) : own_E p e below (own_K Q s kc ks) T (mkF m pc Ls (w :: rest)) :=
  own_end X hlk (fun h => by rw [hret] at h; cases h) (fun fs h => retOut X hx hret hn hi hd h) hc hs hQ
theorem own_retI (X : Stand p l e R s m args below meth c T locs cells slots) (hx : p.tables.exec = Jvm.exec) (hlk : meth.locks = false) {pc : Nat} {Ls : Array Slot} {z : Int32} {rest : List Value} (hret : meth.sig.returnType = some .int)
    (hd : decode c.code pc = .ok (.ireturn, 1)) (hc : cells ≤ kc) (hs : slots ≤ ks) (hQ : Q (some (.int z)) T.heap locs) : own_E p e below (own_K Q s kc ks) T (mkF m pc Ls (.int z :: rest)) :=
  own_retG X hx hlk hret rfl (Or.inl ⟨rfl, Or.inl rfl, z, rfl⟩) hd hc hs hQ
theorem own_retS (X : Stand p l e R s m args below meth c T locs cells slots) (hx : p.tables.exec = Jvm.exec) (hlk : meth.locks = false) {pc : Nat} {Ls : Array Slot} {z : Int32} {t : FieldType} {rest : List Value} (hret : meth.sig.returnType = some t) (hn : narrow t (.int z) = .int z)
    (ht : t = .int ∨ t = .boolean ∨ t = .byte ∨ t = .char ∨ t = .short) (hd : decode c.code pc = .ok (.ireturn, 1)) (hc : cells ≤ kc) (hs : slots ≤ ks) (hQ : Q (some (.int z)) T.heap locs) : own_E p e below (own_K Q s kc ks) T (mkF m pc Ls (.int z :: rest)) :=
  own_retG X hx hlk hret hn (Or.inl ⟨rfl, ht, z, rfl⟩) hd hc hs hQ
theorem own_retN (X : Stand p l e R s m args below meth c T locs cells slots) (hx : p.tables.exec = Jvm.exec) (hlk : meth.locks = false) {pc : Nat} {Ls : Array Slot} {z : Int32} {t : FieldType} {rest : List Value} (hret : meth.sig.returnType = some t)
    (ht : t = .boolean ∨ t = .byte ∨ t = .char ∨ t = .short) (hd : decode c.code pc = .ok (.ireturn, 1)) (hc : cells ≤ kc) (hs : slots ≤ ks) (hQ : Q (some (.int (nar t z))) T.heap locs) : own_E p e below (own_K Q s kc ks) T (mkF m pc Ls (.int z :: rest)) :=
  own_end X hlk (fun h => by rw [hret] at h; cases h) (fun fs h => retN X hx hret ht hd h) hc hs hQ
theorem own_retJ (X : Stand p l e R s m args below meth c T locs cells slots) (hx : p.tables.exec = Jvm.exec) (hlk : meth.locks = false) {pc : Nat} {Ls : Array Slot} {z : Int64} {rest : List Value} (hret : meth.sig.returnType = some .long)
    (hd : decode c.code pc = .ok (.lreturn, 1)) (hc : cells ≤ kc) (hs : slots ≤ ks) (hQ : Q (some (.long z)) T.heap locs) : own_E p e below (own_K Q s kc ks) T (mkF m pc Ls (.long z :: rest)) :=
  own_retG X hx hlk hret rfl (Or.inr (Or.inl ⟨rfl, rfl, z, rfl⟩)) hd hc hs hQ
theorem own_retA (X : Stand p l e R s m args below meth c T locs cells slots) (hx : p.tables.exec = Jvm.exec) (hlk : meth.locks = false) {pc : Nat} {Ls : Array Slot} {w : Value} {t : FieldType} {rest : List Value} (hret : meth.sig.returnType = some t) (ht : t.isReference = true) (hw : w.isRef = true)
    (hd : decode c.code pc = .ok (.areturn, 1)) (hc : cells ≤ kc) (hs : slots ≤ ks) (hQ : Q (some w) T.heap locs) : own_E p e below (own_K Q s kc ks) T (mkF m pc Ls (w :: rest)) :=
  own_retG X hx hlk hret (by cases w <;> cases t <;> first | rfl | (simp [Value.isRef] at hw) | (simp [FieldType.isReference] at ht)) (Or.inr (Or.inr (Or.inr (Or.inr ⟨rfl, ht, hw⟩)))) hd hc hs hQ
end Own
theorem own_StaK {Z : State} {h h' : Heap} {C n d : String} {v : Value} (F : Sta Z h C n d v) (K : Keep h h' []) : Sta Z h' C n d v := Sta.ext ⟨K.1, fun a c q => K.2.1 a c q nin0⟩ F
section OwnArr
variable {p : Program} {l : Launch} {e : Env} {R : Room} {s : State} {m : MethodId} {args : Array Value} {below : List Frame} {meth : Method} {c : Code} {T : State} {locs : List Loc} {cells slots : Nat} {Z : State} {h : Heap} {a : Addr} {k : ClassId} {z : Int32} {vs : List Value} {dv : Value}
theorem own_alen (X : Stand p l e R s m args below meth c T locs cells slots) (hx : p.tables.exec = Jvm.exec) (hZ : Z.Warmed39 s.vm) (eT : T.heap = h) {ty : FieldType} (F : Arv Z h a k ty z vs dv) {g : JFrame} (hg : g.method = m) {rest : List Value} (hs : g.stack = .ref a :: rest) (hd : decode c.code g.pc = .ok (.arraylength, 1)) :
    ∀ target, Steps p.tables e below (T.setTop { g with pc := g.pc + 1, stack := .int z :: rest }) target → Steps p.tables e below (T.setTop g) target := by
  obtain ⟨cl, A, q, S, N, H, G⟩ := F
  intro target hr
  refine X.arraylength hx (by rw [eT]; exact A.1) (State.isArrayOf_alike hZ.alike A.2.1) hg hs hd _ ?_
  rw [len_of S N]; exact hr
theorem own_ald (X : Stand p l e R s m args below meth c T locs cells slots) (hx : p.tables.exec = Jvm.exec) (hZ : Z.Warmed39 s.vm) (eT : T.heap = h) (F : Arv Z h a k .int z vs dv) {j : Int32} (hj : ¬ j < 0 ∧ j < z) {v : Value} (hv : vs.getD j.toNatClampNeg dv = v) {g : JFrame} (hg : g.method = m) {rest : List Value} (hs : g.stack = .int j :: .ref a :: rest) (hd : decode c.code g.pc = .ok (.iaload, 1)) :
    ∀ target, Steps p.tables e below (T.setTop { g with pc := g.pc + 1, stack := v :: rest }) target → Steps p.tables e below (T.setTop g) target := by
  obtain ⟨cl, A, q, S, N, H, G⟩ := F
  have hin := inb_of S hj
  exact X.iaload hx (by rw [eT]; exact A.1) (State.isArrayOf_alike hZ.alike A.2.1) A.2.2 hin (H.at hin hv) hg hs hd
theorem own_ast (X : Stand p l e R s m args below meth c T locs cells slots) (hx : p.tables.exec = Jvm.exec) (hZ : Z.Warmed39 s.vm) (eT : T.heap = h) (F : Arv Z h a k .int z vs dv) {j : Int32} (hj : ¬ j < 0 ∧ j < z) {x : Int32} {i : Nat} (hi : j.toNatClampNeg = i) (hl : i < vs.length) {g : JFrame} (hg : g.method = m) {rest : List Value} (hs : g.stack = .int x :: .int j :: .ref a :: rest) (hd : decode c.code g.pc = .ok (.iastore, 1)) :
    ∃ T' h', Stand p l e R s m args below meth c T' (locs ++ [⟨a, j.toNatClampNeg⟩]) cells slots ∧ T'.heap = h' ∧ Wr h h' a j.toNatClampNeg (.int x) ∧ Arv Z h' a k .int z (vs.set i (.int x)) dv ∧ ∀ target, Steps p.tables e below (T'.setTop { g with pc := g.pc + 1, stack := rest }) target → Steps p.tables e below (T.setTop g) target := by
  obtain ⟨cl, A, q, S, N, H, G⟩ := F
  have hin := inb_of S hj
  obtain ⟨T', h', X', e', W, st⟩ := stI X hx hZ eT A hin hg hs hd
  exact ⟨T', h', X', e', W, Arv.set A q S N H G rfl W i hi hl, st⟩
theorem own_cst (X : Stand p l e R s m args below meth c T locs cells slots) (hx : p.tables.exec = Jvm.exec) (hZ : Z.Warmed39 s.vm) (eT : T.heap = h) (F : Arv Z h a k .char z vs dv) {j : Int32} (hj : ¬ j < 0 ∧ j < z) {x : Int32} {i : Nat} (hi : j.toNatClampNeg = i) (hl : i < vs.length) {g : JFrame} (hg : g.method = m) {rest : List Value} (hs : g.stack = .int x :: .int j :: .ref a :: rest) (hd : decode c.code g.pc = .ok (.castore, 1)) :
    ∃ T' h', Stand p l e R s m args below meth c T' (locs ++ [⟨a, j.toNatClampNeg⟩]) cells slots ∧ T'.heap = h' ∧ Wr h h' a j.toNatClampNeg (.int (nar .char x)) ∧ Arv Z h' a k .char z (vs.set i (.int (nar .char x))) dv ∧ ∀ target, Steps p.tables e below (T'.setTop { g with pc := g.pc + 1, stack := rest }) target → Steps p.tables e below (T.setTop g) target := by
  obtain ⟨cl, A, q, S, N, H, G⟩ := F
  have hin := inb_of S hj
  obtain ⟨T', h', X', e', W, st⟩ := stC X hx hZ eT A hin hg hs hd
  exact ⟨T', h', X', e', W, Arv.set A q S N H G (fits_nar_char _) W i hi hl, st⟩
end OwnArr
theorem own_lor1 (a : Int64) : (a ||| (1 : Int64)).toInt % 2 = 1 := by
  rw [parL]
  have h : (a ||| (1 : Int64)).toBitVec.toNat = a.toBitVec.toNat ||| 1 := by rw [Int64.toBitVec_or, BitVec.toNat_or]; rfl
  have h2 : (a.toBitVec.toNat ||| 1) % 2 = 1 := by
    simp
  rw [h, h2]; rfl
theorem own_landm2 (a : Int64) : (a &&& (-2 : Int64)).toInt % 2 = 0 := by
  rw [parL]
  have h : (a &&& (-2 : Int64)).toBitVec.toNat = a.toBitVec.toNat &&& 18446744073709551614 := by rw [Int64.toBitVec_and, BitVec.toNat_and]; rfl
  have h2 : (a.toBitVec.toNat &&& 18446744073709551614) % 2 = 0 := by
    have q := Nat.and_mod_two_pow (a := a.toBitVec.toNat) (b := 18446744073709551614) (n := 1)
    simpa using q
  rw [h, h2]; rfl
theorem own_d_jdk_30_method_1_0 : decode jdk_30_method_1_code 0 = .ok (.aload_n 0, 1) := by decide +kernel
theorem own_d_jdk_30_method_1_1 : decode jdk_30_method_1_code 1 = .ok (.invokespecial 1, 3) := by decide +kernel
theorem own_d_jdk_30_method_1_4 : decode jdk_30_method_1_code 4 = .ok (.return_, 1) := by decide +kernel
def own_rec_Q (a1 : Addr) (h0 : Heap) (v : Option Value) (h : Heap) (L : List Loc) : Prop := ((v = none)) ∧ h = h0 ∧ L = []
abbrev own_y0 : MethodName := ⟨"java/lang/Record", "<init>", "()V"⟩
theorem own_pn_Record : plainName "java/lang/Record" = true := by first | (simp [plainName, overriddenIn]; done) | decide +kernel
theorem own_rec_ef (m : MethodId) (a1 : Addr) : entryFrame m #[(.ref a1)] 1 = mkF m 0 #[.val (.ref a1)] [] := by first | (simp [entryFrame, mkF, argsToLocals, Value.category]; done) | rfl
set_option maxRecDepth 65536 in
set_option maxHeartbeats 40000000 in
theorem own_rec (l : Launch) (Z : State) (a0 : Array Value) (hw : ∀ d ∈ tables_1, d.before a0 Z = true) (ws : List Jvm.Cond) (a1 : Addr) (h0 : Heap) (n0 : Nat) (Z0 : n0 ≤ h0.size)  :
    MetFree l own_y0 (head1 (Jvm.Cond.code own_y0 jdk_30_method_1_code 1 none :: ws) ({ frames := 1, cells := 0, slots := 0, locals := 12 } : Room)) (fun a U => a = #[(.ref a1)] ∧ Z.Warmed39 U.vm ∧ U.heap = h0) (fun _ _ _ _ _ => True) (fun _ U o U' => ∃ v L, o = .returned v ∧ own_rec_Q a1 h0 v U'.heap L ∧ FrameEnd U o U' L ({ frames := 1, cells := 0, slots := 0, locals := 12 } : Room).cells ({ frames := 1, cells := 0, slots := 0, locals := 12 } : Room).slots) := by
  refine MetFree.of_bodySF (plainFor_of_name own_pn_Record) hisR ?_
  intro p e s m args below meth c s₁ Bd hml0 hP hK
  obtain ⟨rfl, hZ, hh⟩ := hP
  have hx := Bd.exec
  have hby := Bd.bytes
  have hml : c.maxLocals = 1 := hml0
  have hown : s.vm.findClass "java/lang/Record" = some m.cls := findClass_of_methodNamed Bd.named
  have hnm := (name_of_methodNamed Bd.named Bd.method).1
  have X0 : Stand p l e ({ frames := 1, cells := 0, slots := 0, locals := 12 } : Room) s m #[(.ref a1)] below meth c s₁ [] 0 0 := Stand.of_body Bd
  have e0 : s₁.heap = h0 := by rw [← hh, Bd.state]; rfl
  show own_E p e below (own_K (own_rec_Q a1 h0) s ({ frames := 1, cells := 0, slots := 0, locals := 12 } : Room).cells ({ frames := 1, cells := 0, slots := 0, locals := 12 } : Room).slots) s₁ (entryFrame m #[(.ref a1)] 1)
  refine own_pre (own_rec_ef m a1) ?_
  show own_E p e below _ s₁ (mkF m 0 #[rv a1] [])
  refine own_st (fun t k => XS.aloadN X0.here hx rfl (hb hby own_d_jdk_30_method_1_0) rfl rfl k) ?_
  show own_E p e below _ s₁ (mkF m 1 #[rv a1] [.ref a1])
  obtain ⟨T1, X1, e1, st1⟩ := initO X0 hx hZ hown (own_w hw 14 rfl) (own_w hw 15 rfl) (own_w hw 16 rfl) e0 (g := (mkF m 1 #[rv a1] [.ref a1])) rfl (by rw [hml]; rfl) rfl (hb hby own_d_jdk_30_method_1_1) (by decide) (W := 0) (by show 2 * 0 + _ ≤ _; exact Nat.le_of_eq rfl) (by decide)
  refine own_st st1 ?_
  show own_E p e below _ T1 (mkF m 4 #[rv a1] [])
  refine own_retV X1 hx Bd.notSynchronized Bd.returns (hb hby own_d_jdk_30_method_1_4) (by decide) (by decide) ?_
  exact ⟨rfl, e1, rfl⟩
theorem own_d_prog_68_method_1_0 : decode prog_68_method_1_code 0 = .ok (.aload_n 0, 1) := by decide +kernel
theorem own_d_prog_68_method_1_1 : decode prog_68_method_1_code 1 = .ok (.invokespecial 3, 3) := by decide +kernel
theorem own_pd_0 : parseMethodDescriptor "()V" = some ⟨[], none⟩ := by decide +kernel
theorem own_d_prog_68_method_1_4 : decode prog_68_method_1_code 4 = .ok (.lload 7, 2) := by decide +kernel
theorem own_d_prog_68_method_1_6 : decode prog_68_method_1_code 6 = .ok (.lconst 0, 1) := by decide +kernel
theorem own_d_prog_68_method_1_7 : decode prog_68_method_1_code 7 = .ok (.lcmp, 1) := by decide +kernel
theorem own_d_prog_68_method_1_8 : decode prog_68_method_1_code 8 = .ok (.ifCond .ge 13, 3) := by decide +kernel
theorem own_d_prog_68_method_1_21 : decode prog_68_method_1_code 21 = .ok (.aload_n 0, 1) := by decide +kernel
theorem own_d_prog_68_method_1_22 : decode prog_68_method_1_code 22 = .ok (.lload_n 1, 1) := by decide +kernel
theorem own_d_prog_68_method_1_23 : decode prog_68_method_1_code 23 = .ok (.putfield 16, 3) := by decide +kernel
theorem own_d_prog_68_method_1_26 : decode prog_68_method_1_code 26 = .ok (.aload_n 0, 1) := by decide +kernel
theorem own_d_prog_68_method_1_27 : decode prog_68_method_1_code 27 = .ok (.lload_n 3, 1) := by decide +kernel
theorem own_d_prog_68_method_1_28 : decode prog_68_method_1_code 28 = .ok (.putfield 22, 3) := by decide +kernel
theorem own_d_prog_68_method_1_31 : decode prog_68_method_1_code 31 = .ok (.aload_n 0, 1) := by decide +kernel
theorem own_d_prog_68_method_1_32 : decode prog_68_method_1_code 32 = .ok (.lload 5, 2) := by decide +kernel
theorem own_d_prog_68_method_1_34 : decode prog_68_method_1_code 34 = .ok (.putfield 25, 3) := by decide +kernel
theorem own_d_prog_68_method_1_37 : decode prog_68_method_1_code 37 = .ok (.aload_n 0, 1) := by decide +kernel
theorem own_d_prog_68_method_1_38 : decode prog_68_method_1_code 38 = .ok (.lload 7, 2) := by decide +kernel
theorem own_d_prog_68_method_1_40 : decode prog_68_method_1_code 40 = .ok (.putfield 28, 3) := by decide +kernel
theorem own_d_prog_68_method_1_43 : decode prog_68_method_1_code 43 = .ok (.return_, 1) := by decide +kernel
def own_init_Q (Z : State) (a1 : Addr) (q1 : Int64) (q2 : Int64) (q3 : Int64) (q4 : Int64) (h0 : Heap) (n0 : Nat) (v : Option Value) (h : Heap) (L : List Loc) : Prop := v = none ∧ Fr n0 L ∧ Keep h0 h [a1] ∧ Exa Z h a1 "com/example/brazier/brazier/store/HistoryBound" ∧ Fld Z h a1 "com/example/brazier/brazier/store/HistoryBound" "storedFrom" "J" (.long q1) ∧ Fld Z h a1 "com/example/brazier/brazier/store/HistoryBound" "currentFrom" "J" (.long q2) ∧ Fld Z h a1 "com/example/brazier/brazier/store/HistoryBound" "currentTo" "J" (.long q3) ∧ Fld Z h a1 "com/example/brazier/brazier/store/HistoryBound" "storedUpTo" "J" (.long q4)
abbrev own_y1 : MethodName := ⟨"com/example/brazier/brazier/store/HistoryBound", "<init>", "(JJJJ)V"⟩
theorem own_pn_HistoryBound : plainName "com/example/brazier/brazier/store/HistoryBound" = true := by first | (simp [plainName, overriddenIn]; done) | decide +kernel
theorem own_init_ef (m : MethodId) (a1 : Addr) (q1 : Int64) (q2 : Int64) (q3 : Int64) (q4 : Int64) : entryFrame m #[(.ref a1), (.long q1), (.long q2), (.long q3), (.long q4)] 9 = mkF m 0 #[.val (.ref a1), .val (.long q1), .second, .val (.long q2), .second, .val (.long q3), .second, .val (.long q4), .second] [] := by first | (simp [entryFrame, mkF, argsToLocals, Value.category]; done) | rfl
set_option maxRecDepth 65536 in
set_option maxHeartbeats 40000000 in
theorem own_init (l : Launch) (Z : State) (a0 : Array Value) (hw : ∀ d ∈ tables_1, d.before a0 Z = true) (ws : List Jvm.Cond) (a1 : Addr) (q1 : Int64) (q2 : Int64) (q3 : Int64) (q4 : Int64) (h0 : Heap) (n0 : Nat) (Z0 : n0 ≤ h0.size) (E_a1 : Exa Z h0 a1 "com/example/brazier/brazier/store/HistoryBound") (F_storedFrom_a1 : Fld Z h0 a1 "com/example/brazier/brazier/store/HistoryBound" "storedFrom" "J" (.long (0 : Int64))) (F_currentFrom_a1 : Fld Z h0 a1 "com/example/brazier/brazier/store/HistoryBound" "currentFrom" "J" (.long (0 : Int64))) (F_currentTo_a1 : Fld Z h0 a1 "com/example/brazier/brazier/store/HistoryBound" "currentTo" "J" (.long (0 : Int64))) (F_storedUpTo_a1 : Fld Z h0 a1 "com/example/brazier/brazier/store/HistoryBound" "storedUpTo" "J" (.long (0 : Int64))) (hq4 : ¬ (q4 < (0 : Int64))) (g_a1 : n0 ≤ a1) :
    MetFree l own_y1 (head1 (Jvm.Cond.code own_y1 prog_68_method_1_code 9 none :: ws) ({ frames := 2, cells := 0, slots := 0, locals := 24 } : Room)) (fun a U => a = #[(.ref a1), (.long q1), (.long q2), (.long q3), (.long q4)] ∧ Z.Warmed39 U.vm ∧ U.heap = h0) (fun _ _ _ _ _ => True) (fun _ U o U' => ∃ v L, o = .returned v ∧ own_init_Q Z a1 q1 q2 q3 q4 h0 n0 v U'.heap L ∧ FrameEnd U o U' L ({ frames := 2, cells := 0, slots := 0, locals := 24 } : Room).cells ({ frames := 2, cells := 0, slots := 0, locals := 24 } : Room).slots) := by
  refine MetFree.of_bodySF (plainFor_of_name own_pn_HistoryBound) hisR ?_
  intro p e s m args below meth c s₁ Bd hml0 hP hK
  obtain ⟨rfl, hZ, hh⟩ := hP
  have hx := Bd.exec
  have hby := Bd.bytes
  have hml : c.maxLocals = 9 := hml0
  have hown : s.vm.findClass "com/example/brazier/brazier/store/HistoryBound" = some m.cls := findClass_of_methodNamed Bd.named
  have hnm := (name_of_methodNamed Bd.named Bd.method).1
  have X0 : Stand p l e ({ frames := 2, cells := 0, slots := 0, locals := 24 } : Room) s m #[(.ref a1), (.long q1), (.long q2), (.long q3), (.long q4)] below meth c s₁ [] 0 0 := Stand.of_body Bd
  have e0 : s₁.heap = h0 := by rw [← hh, Bd.state]; rfl
  show own_E p e below (own_K (own_init_Q Z a1 q1 q2 q3 q4 h0 n0) s ({ frames := 2, cells := 0, slots := 0, locals := 24 } : Room).cells ({ frames := 2, cells := 0, slots := 0, locals := 24 } : Room).slots) s₁ (entryFrame m #[(.ref a1), (.long q1), (.long q2), (.long q3), (.long q4)] 9)
  refine own_pre (own_init_ef m a1 q1 q2 q3 q4) ?_
  show own_E p e below _ s₁ (mkF m 0 #[rv a1, .val (.long q1), .second, .val (.long q2), .second, .val (.long q3), .second, .val (.long q4), .second] [])
  refine own_st (fun t k => XS.aloadN X0.here hx rfl (hb hby own_d_prog_68_method_1_0) rfl rfl k) ?_
  show own_E p e below _ s₁ (mkF m 1 #[rv a1, .val (.long q1), .second, .val (.long q2), .second, .val (.long q3), .second, .val (.long q4), .second] [.ref a1])
  obtain ⟨_, _, ⟨T1, L1, k1, n1⟩, -, X1, ⟨Lc1, hQ1, l1, y1, z1⟩, st1⟩ := X0.specialBack hx (y := own_y0) rfl hown (mvT hZ (own_w hw 9 rfl)) (mvT hZ (own_w hw 10 rfl)) (mvT hZ (own_w hw 13 rfl)) (by decide) (backOf (W := 0) (own_rec l Z a0 hw [] a1 h0 n0 Z0 ) hZ (own_w hw 13 rfl) (own_w hw 12 rfl) (by decide) (by decide)) (g := (mkF m 1 #[rv a1, .val (.long q1), .second, .val (.long q2), .second, .val (.long q3), .second, .val (.long q4), .second] [.ref a1])) rfl (by rw [hml]; rfl) (Steps.refl _) (a := a1) (argsL := []) (rest := []) (lenOf own_pd_0 rfl) rfl (by show 2 * 0 + _ ≤ _; exact Nat.le_of_eq rfl) (hb hby own_d_prog_68_method_1_1) (fun _ _ => ⟨rfl, e0, (by decide : 0 + 0 ≤ _), (by decide : 0 + 0 ≤ _)⟩)
  dsimp only [Pt.U, Pt.locs, Pt.cells, Pt.slots] at X1 l1 y1 z1 st1 hQ1
  subst l1 y1 z1
  obtain ⟨hR1, e1, rfl⟩ := hQ1
  have N1 := Fr.app (Fr.nil n0) (Fr.nil n0)
  obtain rfl := hR1
  refine own_tr st1 ?_
  show own_E p e below _ T1 (mkF m 4 #[rv a1, .val (.long q1), .second, .val (.long q2), .second, .val (.long q3), .second, .val (.long q4), .second] [])
  refine own_st (fun t k => XS.lload X1.here hx rfl (hb hby own_d_prog_68_method_1_4) rfl k) ?_
  show own_E p e below _ T1 (mkF m 6 #[rv a1, .val (.long q1), .second, .val (.long q2), .second, .val (.long q3), .second, .val (.long q4), .second] [.long q4])
  refine own_st (fun t k => XS.lconst X1.here hx rfl (hb hby own_d_prog_68_method_1_6) k) ?_
  show own_E p e below _ T1 (mkF m 7 #[rv a1, .val (.long q1), .second, .val (.long q2), .second, .val (.long q3), .second, .val (.long q4), .second] [.long 0, .long q4])
  refine own_st (fun t k => XS.lcmp X1.here hx rfl (hb hby own_d_prog_68_method_1_7) rfl k) ?_
  show own_E p e below _ T1 (mkF m 8 #[rv a1, .val (.long q1), .second, .val (.long q2), .second, .val (.long q3), .second, .val (.long q4), .second] [.int (lcmpW q4 (0 : Int64))])
  refine own_st (fun t k => XS.ifYes X1.here hx rfl (pc0 := 8) (pc' := 21) rfl (hb hby own_d_prog_68_method_1_8) rfl ((if0 _ _).trans (flt (fun q => hq4 ((lw_lt _ _).mp q))).2.1) (by decide) (by decide) k) ?_
  show own_E p e below _ T1 (mkF m 21 #[rv a1, .val (.long q1), .second, .val (.long q2), .second, .val (.long q3), .second, .val (.long q4), .second] [])
  refine own_st (fun t k => XS.aloadN X1.here hx rfl (hb hby own_d_prog_68_method_1_21) rfl rfl k) ?_
  show own_E p e below _ T1 (mkF m 22 #[rv a1, .val (.long q1), .second, .val (.long q2), .second, .val (.long q3), .second, .val (.long q4), .second] [.ref a1])
  refine own_st (fun t k => XS.lloadN X1.here hx rfl (hb hby own_d_prog_68_method_1_22) rfl k) ?_
  show own_E p e below _ T1 (mkF m 23 #[rv a1, .val (.long q1), .second, .val (.long q2), .second, .val (.long q3), .second, .val (.long q4), .second] [.long q1, .ref a1])
  obtain ⟨T2, h2, X2, e2, W2, st2⟩ := putF X1 hx hZ hown (host := "") (Or.inl (own_w hw 17 rfl)) Via.refl e1 F_storedFrom_a1 E_a1 (Or.inr ⟨(own_w hw 18 rfl), rfl, hnm⟩) (own_w hw 4 rfl) (ty := .long) (by decide) rfl rfl (g := (mkF m 23 #[rv a1, .val (.long q1), .second, .val (.long q2), .second, .val (.long q3), .second, .val (.long q4), .second] [.long q1, .ref a1])) rfl rfl (hb hby own_d_prog_68_method_1_23)
  have N2 := Fr.snoc X2 N1 g_a1
  have Fw2 := F_storedFrom_a1.same W2
  have Z3 := Nat.le_trans Z0 (Keep.of_wr W2).1
  have K4 : Keep h0 _ [a1] := (Keep.refl h0 [a1]).wr W2 (Or.inl (List.mem_of_getElem? (i := 0) rfl))
  refine own_st st2 ?_
  show own_E p e below _ T2 (mkF m 26 #[rv a1, .val (.long q1), .second, .val (.long q2), .second, .val (.long q3), .second, .val (.long q4), .second] [])
  refine own_st (fun t k => XS.aloadN X2.here hx rfl (hb hby own_d_prog_68_method_1_26) rfl rfl k) ?_
  show own_E p e below _ T2 (mkF m 27 #[rv a1, .val (.long q1), .second, .val (.long q2), .second, .val (.long q3), .second, .val (.long q4), .second] [.ref a1])
  refine own_st (fun t k => XS.lloadN X2.here hx rfl (hb hby own_d_prog_68_method_1_27) rfl k) ?_
  show own_E p e below _ T2 (mkF m 28 #[rv a1, .val (.long q1), .second, .val (.long q2), .second, .val (.long q3), .second, .val (.long q4), .second] [.long q2, .ref a1])
  have B6 := (F_currentFrom_a1.other W2 (Or.inr (slot_ne (Or.inr (own_w hw 20 rfl)) (Or.inr (own_w hw 18 rfl)) (by decide) (t := .long) (t' := .long) (by decide) (by decide))))
  have B7 := (E_a1.wr W2)
  obtain ⟨T5, h5, X5, e5, W5, st5⟩ := putF X2 hx hZ hown (host := "") (Or.inl (own_w hw 19 rfl)) Via.refl e2 B6 B7 (Or.inr ⟨(own_w hw 20 rfl), rfl, hnm⟩) (own_w hw 4 rfl) (ty := .long) (by decide) rfl rfl (g := (mkF m 28 #[rv a1, .val (.long q1), .second, .val (.long q2), .second, .val (.long q3), .second, .val (.long q4), .second] [.long q2, .ref a1])) rfl rfl (hb hby own_d_prog_68_method_1_28)
  have N5 := Fr.snoc X5 N2 g_a1
  have Fw5 := B6.same W5
  have Z8 := Nat.le_trans Z3 (Keep.of_wr W5).1
  have K9 : Keep h0 _ [a1] := K4.wr W5 (Or.inl (List.mem_of_getElem? (i := 0) rfl))
  refine own_st st5 ?_
  show own_E p e below _ T5 (mkF m 31 #[rv a1, .val (.long q1), .second, .val (.long q2), .second, .val (.long q3), .second, .val (.long q4), .second] [])
  refine own_st (fun t k => XS.aloadN X5.here hx rfl (hb hby own_d_prog_68_method_1_31) rfl rfl k) ?_
  show own_E p e below _ T5 (mkF m 32 #[rv a1, .val (.long q1), .second, .val (.long q2), .second, .val (.long q3), .second, .val (.long q4), .second] [.ref a1])
  refine own_st (fun t k => XS.lload X5.here hx rfl (hb hby own_d_prog_68_method_1_32) rfl k) ?_
  show own_E p e below _ T5 (mkF m 34 #[rv a1, .val (.long q1), .second, .val (.long q2), .second, .val (.long q3), .second, .val (.long q4), .second] [.long q3, .ref a1])
  have B11 := ((F_currentTo_a1.other W2 (Or.inr (slot_ne (Or.inr (own_w hw 22 rfl)) (Or.inr (own_w hw 18 rfl)) (by decide) (t := .long) (t' := .long) (by decide) (by decide)))).other W5 (Or.inr (slot_ne (Or.inr (own_w hw 22 rfl)) (Or.inr (own_w hw 20 rfl)) (by decide) (t := .long) (t' := .long) (by decide) (by decide))))
  have B12 := (B7.wr W5)
  obtain ⟨T10, h10, X10, e10, W10, st10⟩ := putF X5 hx hZ hown (host := "") (Or.inl (own_w hw 21 rfl)) Via.refl e5 B11 B12 (Or.inr ⟨(own_w hw 22 rfl), rfl, hnm⟩) (own_w hw 4 rfl) (ty := .long) (by decide) rfl rfl (g := (mkF m 34 #[rv a1, .val (.long q1), .second, .val (.long q2), .second, .val (.long q3), .second, .val (.long q4), .second] [.long q3, .ref a1])) rfl rfl (hb hby own_d_prog_68_method_1_34)
  have N10 := Fr.snoc X10 N5 g_a1
  have Fw10 := B11.same W10
  have Z13 := Nat.le_trans Z8 (Keep.of_wr W10).1
  have K14 : Keep h0 _ [a1] := K9.wr W10 (Or.inl (List.mem_of_getElem? (i := 0) rfl))
  refine own_st st10 ?_
  show own_E p e below _ T10 (mkF m 37 #[rv a1, .val (.long q1), .second, .val (.long q2), .second, .val (.long q3), .second, .val (.long q4), .second] [])
  refine own_st (fun t k => XS.aloadN X10.here hx rfl (hb hby own_d_prog_68_method_1_37) rfl rfl k) ?_
  show own_E p e below _ T10 (mkF m 38 #[rv a1, .val (.long q1), .second, .val (.long q2), .second, .val (.long q3), .second, .val (.long q4), .second] [.ref a1])
  refine own_st (fun t k => XS.lload X10.here hx rfl (hb hby own_d_prog_68_method_1_38) rfl k) ?_
  show own_E p e below _ T10 (mkF m 40 #[rv a1, .val (.long q1), .second, .val (.long q2), .second, .val (.long q3), .second, .val (.long q4), .second] [.long q4, .ref a1])
  have B16 := (((F_storedUpTo_a1.other W2 (Or.inr (slot_ne (Or.inr (own_w hw 24 rfl)) (Or.inr (own_w hw 18 rfl)) (by decide) (t := .long) (t' := .long) (by decide) (by decide)))).other W5 (Or.inr (slot_ne (Or.inr (own_w hw 24 rfl)) (Or.inr (own_w hw 20 rfl)) (by decide) (t := .long) (t' := .long) (by decide) (by decide)))).other W10 (Or.inr (slot_ne (Or.inr (own_w hw 24 rfl)) (Or.inr (own_w hw 22 rfl)) (by decide) (t := .long) (t' := .long) (by decide) (by decide))))
  have B17 := (B12.wr W10)
  obtain ⟨T15, h15, X15, e15, W15, st15⟩ := putF X10 hx hZ hown (host := "") (Or.inl (own_w hw 23 rfl)) Via.refl e10 B16 B17 (Or.inr ⟨(own_w hw 24 rfl), rfl, hnm⟩) (own_w hw 4 rfl) (ty := .long) (by decide) rfl rfl (g := (mkF m 40 #[rv a1, .val (.long q1), .second, .val (.long q2), .second, .val (.long q3), .second, .val (.long q4), .second] [.long q4, .ref a1])) rfl rfl (hb hby own_d_prog_68_method_1_40)
  have N15 := Fr.snoc X15 N10 g_a1
  have Fw15 := B16.same W15
  have Z18 := Nat.le_trans Z13 (Keep.of_wr W15).1
  have K19 : Keep h0 _ [a1] := K14.wr W15 (Or.inl (List.mem_of_getElem? (i := 0) rfl))
  refine own_st st15 ?_
  show own_E p e below _ T15 (mkF m 43 #[rv a1, .val (.long q1), .second, .val (.long q2), .second, .val (.long q3), .second, .val (.long q4), .second] [])
  refine own_retV X15 hx Bd.notSynchronized Bd.returns (hb hby own_d_prog_68_method_1_43) (by decide) (by decide) ?_
  have B20 := (B17.wr W15)
  have B21 := (((Fw2.other W5 (Or.inr (slot_ne (Or.inr (own_w hw 18 rfl)) (Or.inr (own_w hw 20 rfl)) (by decide) (t := .long) (t' := .long) (by decide) (by decide)))).other W10 (Or.inr (slot_ne (Or.inr (own_w hw 18 rfl)) (Or.inr (own_w hw 22 rfl)) (by decide) (t := .long) (t' := .long) (by decide) (by decide)))).other W15 (Or.inr (slot_ne (Or.inr (own_w hw 18 rfl)) (Or.inr (own_w hw 24 rfl)) (by decide) (t := .long) (t' := .long) (by decide) (by decide))))
  have B22 := ((Fw5.other W10 (Or.inr (slot_ne (Or.inr (own_w hw 20 rfl)) (Or.inr (own_w hw 22 rfl)) (by decide) (t := .long) (t' := .long) (by decide) (by decide)))).other W15 (Or.inr (slot_ne (Or.inr (own_w hw 20 rfl)) (Or.inr (own_w hw 24 rfl)) (by decide) (t := .long) (t' := .long) (by decide) (by decide))))
  have B23 := (Fw10.other W15 (Or.inr (slot_ne (Or.inr (own_w hw 22 rfl)) (Or.inr (own_w hw 24 rfl)) (by decide) (t := .long) (t' := .long) (by decide) (by decide))))
  show own_init_Q Z a1 q1 q2 q3 q4 h0 n0 _ T15.heap _
  rw [e15]
  exact ⟨rfl, N15, K19, B20, B21, B22, B23, Fw15⟩
theorem own_d_prog_68_method_3_0 : decode prog_68_method_3_code 0 = .ok (.aload_n 0, 1) := by decide +kernel
theorem own_d_prog_68_method_3_1 : decode prog_68_method_3_code 1 = .ok (.getfield 16, 3) := by decide +kernel
theorem own_d_prog_68_method_3_4 : decode prog_68_method_3_code 4 = .ok (.ldc2_w 38, 3) := by decide +kernel
theorem own_d_prog_68_method_3_7 : decode prog_68_method_3_code 7 = .ok (.lcmp, 1) := by decide +kernel
theorem own_d_prog_68_method_3_8 : decode prog_68_method_3_code 8 = .ok (.ifCond .ne 29, 3) := by decide +kernel
theorem own_d_prog_68_method_3_11 : decode prog_68_method_3_code 11 = .ok (.aload_n 0, 1) := by decide +kernel
theorem own_d_prog_68_method_3_12 : decode prog_68_method_3_code 12 = .ok (.getfield 22, 3) := by decide +kernel
theorem own_d_prog_68_method_3_15 : decode prog_68_method_3_code 15 = .ok (.ldc2_w 38, 3) := by decide +kernel
theorem own_d_prog_68_method_3_18 : decode prog_68_method_3_code 18 = .ok (.lcmp, 1) := by decide +kernel
theorem own_d_prog_68_method_3_19 : decode prog_68_method_3_code 19 = .ok (.ifCond .ne 18, 3) := by decide +kernel
theorem own_d_prog_68_method_3_22 : decode prog_68_method_3_code 22 = .ok (.aload_n 0, 1) := by decide +kernel
theorem own_d_prog_68_method_3_23 : decode prog_68_method_3_code 23 = .ok (.getfield 25, 3) := by decide +kernel
theorem own_d_prog_68_method_3_26 : decode prog_68_method_3_code 26 = .ok (.ldc2_w 31, 3) := by decide +kernel
theorem own_d_prog_68_method_3_29 : decode prog_68_method_3_code 29 = .ok (.lcmp, 1) := by decide +kernel
theorem own_d_prog_68_method_3_30 : decode prog_68_method_3_code 30 = .ok (.ifCond .ne 7, 3) := by decide +kernel
theorem own_d_prog_68_method_3_33 : decode prog_68_method_3_code 33 = .ok (.iconst 1, 1) := by decide +kernel
theorem own_d_prog_68_method_3_34 : decode prog_68_method_3_code 34 = .ok (.goto 4, 3) := by decide +kernel
theorem own_d_prog_68_method_3_38 : decode prog_68_method_3_code 38 = .ok (.ireturn, 1) := by decide +kernel
theorem own_d_prog_68_method_3_37 : decode prog_68_method_3_code 37 = .ok (.iconst 0, 1) := by decide +kernel
def own_every_Q (a1 : Addr) (q1 : Int64) (q2 : Int64) (q3 : Int64) (h0 : Heap) (v : Option Value) (h : Heap) (L : List Loc) : Prop := ((v = some (.int (1 : Int32)) ∧ q1 = (-9223372036854775808 : Int64) ∧ q2 = (-9223372036854775808 : Int64) ∧ q3 = (9223372036854775807 : Int64)) ∨ (v = some (.int (0 : Int32)) ∧ q1 = (-9223372036854775808 : Int64) ∧ q2 = (-9223372036854775808 : Int64) ∧ ¬ (q3 = (9223372036854775807 : Int64))) ∨ (v = some (.int (0 : Int32)) ∧ q1 = (-9223372036854775808 : Int64) ∧ ¬ (q2 = (-9223372036854775808 : Int64))) ∨ (v = some (.int (0 : Int32)) ∧ ¬ (q1 = (-9223372036854775808 : Int64)))) ∧ h = h0 ∧ L = []
abbrev own_y2 : MethodName := ⟨"com/example/brazier/brazier/store/HistoryBound", "everyMoment", "()Z"⟩
theorem own_every_ef (m : MethodId) (a1 : Addr) (q1 : Int64) (q2 : Int64) (q3 : Int64) : entryFrame m #[(.ref a1)] 1 = mkF m 0 #[.val (.ref a1)] [] := by first | (simp [entryFrame, mkF, argsToLocals, Value.category]; done) | rfl
set_option maxRecDepth 65536 in
set_option maxHeartbeats 40000000 in
theorem own_every (l : Launch) (Z : State) (a0 : Array Value) (hw : ∀ d ∈ tables_1, d.before a0 Z = true) (ws : List Jvm.Cond) (a1 : Addr) (q1 : Int64) (q2 : Int64) (q3 : Int64) (h0 : Heap) (n0 : Nat) (Z0 : n0 ≤ h0.size) (F_storedFrom_a1 : Fld Z h0 a1 "com/example/brazier/brazier/store/HistoryBound" "storedFrom" "J" (.long q1)) (F_currentFrom_a1 : Fld Z h0 a1 "com/example/brazier/brazier/store/HistoryBound" "currentFrom" "J" (.long q2)) (F_currentTo_a1 : Fld Z h0 a1 "com/example/brazier/brazier/store/HistoryBound" "currentTo" "J" (.long q3)) :
    MetFree l own_y2 (head1 (Jvm.Cond.code own_y2 prog_68_method_3_code 1 (some .boolean) :: ws) ({ frames := 0, cells := 0, slots := 0, locals := 0 } : Room)) (fun a U => a = #[(.ref a1)] ∧ Z.Warmed39 U.vm ∧ U.heap = h0) (fun _ _ _ _ _ => True) (fun _ U o U' => ∃ v L, o = .returned v ∧ own_every_Q a1 q1 q2 q3 h0 v U'.heap L ∧ FrameEnd U o U' L ({ frames := 0, cells := 0, slots := 0, locals := 0 } : Room).cells ({ frames := 0, cells := 0, slots := 0, locals := 0 } : Room).slots) := by
  refine MetFree.of_bodySF (plainFor_of_name own_pn_HistoryBound) hisR ?_
  intro p e s m args below meth c s₁ Bd hml0 hP hK
  obtain ⟨rfl, hZ, hh⟩ := hP
  have hx := Bd.exec
  have hby := Bd.bytes
  have hml : c.maxLocals = 1 := hml0
  have hown : s.vm.findClass "com/example/brazier/brazier/store/HistoryBound" = some m.cls := findClass_of_methodNamed Bd.named
  have hnm := (name_of_methodNamed Bd.named Bd.method).1
  have X0 : Stand p l e ({ frames := 0, cells := 0, slots := 0, locals := 0 } : Room) s m #[(.ref a1)] below meth c s₁ [] 0 0 := Stand.of_body Bd
  have e0 : s₁.heap = h0 := by rw [← hh, Bd.state]; rfl
  show own_E p e below (own_K (own_every_Q a1 q1 q2 q3 h0) s ({ frames := 0, cells := 0, slots := 0, locals := 0 } : Room).cells ({ frames := 0, cells := 0, slots := 0, locals := 0 } : Room).slots) s₁ (entryFrame m #[(.ref a1)] 1)
  refine own_pre (own_every_ef m a1 q1 q2 q3) ?_
  show own_E p e below _ s₁ (mkF m 0 #[rv a1] [])
  refine own_st (fun t k => XS.aloadN X0.here hx rfl (hb hby own_d_prog_68_method_3_0) rfl rfl k) ?_
  show own_E p e below _ s₁ (mkF m 1 #[rv a1] [.ref a1])
  obtain ⟨T1, X1, e1, st1⟩ := getF X0 hx hZ hown (host := "") (Or.inl (own_w hw 17 rfl)) Via.refl e0 F_storedFrom_a1 (g := (mkF m 1 #[rv a1] [.ref a1])) rfl rfl (hb hby own_d_prog_68_method_3_1)
  refine own_st st1 ?_
  show own_E p e below _ T1 (mkF m 4 #[rv a1] [.long q1])
  refine own_st (X1.ldc2Long hx hown (mvT hZ (own_w hw 30 rfl)) (g := (mkF m 4 #[rv a1] [.long q1])) rfl (hb hby own_d_prog_68_method_3_4)) ?_
  show own_E p e below _ T1 (mkF m 7 #[rv a1] [.long (-9223372036854775808), .long q1])
  refine own_st (fun t k => XS.lcmp X1.here hx rfl (hb hby own_d_prog_68_method_3_7) rfl k) ?_
  show own_E p e below _ T1 (mkF m 8 #[rv a1] [.int (lcmpW q1 (-9223372036854775808 : Int64))])
  by_cases hc2 : q1 = (-9223372036854775808 : Int64)
  · refine own_st (fun t k => XS.ifNo X1.here hx rfl (hb hby own_d_prog_68_method_3_8) rfl ((if0 _ _).trans (teq ((lw_eq _ _).mpr hc2)).2) k) ?_
    show own_E p e below _ T1 (mkF m 11 #[rv a1] [])
    refine own_st (fun t k => XS.aloadN X1.here hx rfl (hb hby own_d_prog_68_method_3_11) rfl rfl k) ?_
    show own_E p e below _ T1 (mkF m 12 #[rv a1] [.ref a1])
    obtain ⟨T3, X3, e3, st3⟩ := getF X1 hx hZ hown (host := "") (Or.inl (own_w hw 19 rfl)) Via.refl e1 F_currentFrom_a1 (g := (mkF m 12 #[rv a1] [.ref a1])) rfl rfl (hb hby own_d_prog_68_method_3_12)
    refine own_st st3 ?_
    show own_E p e below _ T3 (mkF m 15 #[rv a1] [.long q2])
    refine own_st (X3.ldc2Long hx hown (mvT hZ (own_w hw 30 rfl)) (g := (mkF m 15 #[rv a1] [.long q2])) rfl (hb hby own_d_prog_68_method_3_15)) ?_
    show own_E p e below _ T3 (mkF m 18 #[rv a1] [.long (-9223372036854775808), .long q2])
    refine own_st (fun t k => XS.lcmp X3.here hx rfl (hb hby own_d_prog_68_method_3_18) rfl k) ?_
    show own_E p e below _ T3 (mkF m 19 #[rv a1] [.int (lcmpW q2 (-9223372036854775808 : Int64))])
    by_cases hc4 : q2 = (-9223372036854775808 : Int64)
    · refine own_st (fun t k => XS.ifNo X3.here hx rfl (hb hby own_d_prog_68_method_3_19) rfl ((if0 _ _).trans (teq ((lw_eq _ _).mpr hc4)).2) k) ?_
      show own_E p e below _ T3 (mkF m 22 #[rv a1] [])
      refine own_st (fun t k => XS.aloadN X3.here hx rfl (hb hby own_d_prog_68_method_3_22) rfl rfl k) ?_
      show own_E p e below _ T3 (mkF m 23 #[rv a1] [.ref a1])
      obtain ⟨T5, X5, e5, st5⟩ := getF X3 hx hZ hown (host := "") (Or.inl (own_w hw 21 rfl)) Via.refl e3 F_currentTo_a1 (g := (mkF m 23 #[rv a1] [.ref a1])) rfl rfl (hb hby own_d_prog_68_method_3_23)
      refine own_st st5 ?_
      show own_E p e below _ T5 (mkF m 26 #[rv a1] [.long q3])
      refine own_st (X5.ldc2Long hx hown (mvT hZ (own_w hw 31 rfl)) (g := (mkF m 26 #[rv a1] [.long q3])) rfl (hb hby own_d_prog_68_method_3_26)) ?_
      show own_E p e below _ T5 (mkF m 29 #[rv a1] [.long 9223372036854775807, .long q3])
      refine own_st (fun t k => XS.lcmp X5.here hx rfl (hb hby own_d_prog_68_method_3_29) rfl k) ?_
      show own_E p e below _ T5 (mkF m 30 #[rv a1] [.int (lcmpW q3 (9223372036854775807 : Int64))])
      by_cases hc6 : q3 = (9223372036854775807 : Int64)
      · refine own_st (fun t k => XS.ifNo X5.here hx rfl (hb hby own_d_prog_68_method_3_30) rfl ((if0 _ _).trans (teq ((lw_eq _ _).mpr hc6)).2) k) ?_
        show own_E p e below _ T5 (mkF m 33 #[rv a1] [])
        refine own_st (fun t k => XS.iconst X5.here hx rfl (hb hby own_d_prog_68_method_3_33) k) ?_
        show own_E p e below _ T5 (mkF m 34 #[rv a1] [.int 1])
        refine own_st (fun t k => XS.goto X5.here hx rfl (pc0 := 34) (pc' := 38) rfl (hb hby own_d_prog_68_method_3_34) (by decide) (by decide) k) ?_
        show own_E p e below _ T5 (mkF m 38 #[rv a1] [.int 1])
        refine own_retS X5 hx Bd.notSynchronized Bd.returns rfl (by decide) (hb hby own_d_prog_68_method_3_38) (by decide) (by decide) ?_
        exact ⟨(Or.inl ⟨rfl, hc2, hc4, hc6⟩), e5, rfl⟩
      · refine own_st (fun t k => XS.ifYes X5.here hx rfl (pc0 := 30) (pc' := 37) rfl (hb hby own_d_prog_68_method_3_30) rfl ((if0 _ _).trans (feq (fun q => hc6 ((lw_eq _ _).mp q))).2) (by decide) (by decide) k) ?_
        show own_E p e below _ T5 (mkF m 37 #[rv a1] [])
        refine own_st (fun t k => XS.iconst X5.here hx rfl (hb hby own_d_prog_68_method_3_37) k) ?_
        show own_E p e below _ T5 (mkF m 38 #[rv a1] [.int 0])
        refine own_retS X5 hx Bd.notSynchronized Bd.returns rfl (by decide) (hb hby own_d_prog_68_method_3_38) (by decide) (by decide) ?_
        exact ⟨(Or.inr (Or.inl ⟨rfl, hc2, hc4, hc6⟩)), e5, rfl⟩
    · refine own_st (fun t k => XS.ifYes X3.here hx rfl (pc0 := 19) (pc' := 37) rfl (hb hby own_d_prog_68_method_3_19) rfl ((if0 _ _).trans (feq (fun q => hc4 ((lw_eq _ _).mp q))).2) (by decide) (by decide) k) ?_
      show own_E p e below _ T3 (mkF m 37 #[rv a1] [])
      refine own_st (fun t k => XS.iconst X3.here hx rfl (hb hby own_d_prog_68_method_3_37) k) ?_
      show own_E p e below _ T3 (mkF m 38 #[rv a1] [.int 0])
      refine own_retS X3 hx Bd.notSynchronized Bd.returns rfl (by decide) (hb hby own_d_prog_68_method_3_38) (by decide) (by decide) ?_
      exact ⟨(Or.inr (Or.inr (Or.inl ⟨rfl, hc2, hc4⟩))), e3, rfl⟩
  · refine own_st (fun t k => XS.ifYes X1.here hx rfl (pc0 := 8) (pc' := 37) rfl (hb hby own_d_prog_68_method_3_8) rfl ((if0 _ _).trans (feq (fun q => hc2 ((lw_eq _ _).mp q))).2) (by decide) (by decide) k) ?_
    show own_E p e below _ T1 (mkF m 37 #[rv a1] [])
    refine own_st (fun t k => XS.iconst X1.here hx rfl (hb hby own_d_prog_68_method_3_37) k) ?_
    show own_E p e below _ T1 (mkF m 38 #[rv a1] [.int 0])
    refine own_retS X1 hx Bd.notSynchronized Bd.returns rfl (by decide) (hb hby own_d_prog_68_method_3_38) (by decide) (by decide) ?_
    exact ⟨(Or.inr (Or.inr (Or.inr ⟨rfl, hc2⟩))), e1, rfl⟩
theorem own_pd_2 : parseMethodDescriptor "(JJJJ)V" = some ⟨[.long, .long, .long, .long], none⟩ := by decide +kernel
theorem own_pd_1 : parseMethodDescriptor "()Z" = some ⟨[], some .boolean⟩ := by decide +kernel
def own_law_Q (n0 : Nat) (v : Option Value) (h : Heap) (L : List Loc) : Prop := v = some (.int 1) ∧ Fr n0 L
theorem own_pn_HistoryBoundEveryMomentPinLaw : plainName "com/example/brazier/brazier/store/HistoryBoundEveryMomentPinLaw" = true := by first | (simp [plainName, overriddenIn]; done) | decide +kernel
theorem own_law_ef (m : MethodId) (q1 : Int64) (q2 : Int64) (q3 : Int64) (q4 : Int64) (p5 : Int32) : entryFrame m #[(.long q1), (.long q2), (.long q3), (.long q4), (.int p5)] maxLocals = mkF m 0 #[.val (.long q1), .second, .val (.long q2), .second, .val (.long q3), .second, .val (.long q4), .second, .val (.int p5), .unset, .unset, .unset, .unset, .unset, .unset, .unset, .unset, .unset, .unset, .unset, .unset, .unset] [] := by first | (simp [entryFrame, mkF, argsToLocals, Value.category, maxLocals]; done) | rfl
set_option maxRecDepth 65536 in
set_option maxHeartbeats 40000000 in
theorem own_law (l : Launch) (Z : State) (a0 : Array Value) (hw : ∀ d ∈ tables_1, d.before a0 Z = true) (ws : List Jvm.Cond) (q1 : Int64) (q2 : Int64) (q3 : Int64) (q4 : Int64) (p5 : Int32) (h0 : Heap) (n0 : Nat) (Z0 : n0 ≤ h0.size)  :
    MetFree l x (head1 (Jvm.Cond.code x code maxLocals ret :: ws) room_1) (fun a U => a = #[(.long q1), (.long q2), (.long q3), (.long q4), (.int p5)] ∧ Z.Warmed39 U.vm ∧ U.heap = h0) (fun _ _ _ _ _ => True) (fun _ U o U' => ∃ v L, o = .returned v ∧ own_law_Q n0 v U'.heap L ∧ FrameEnd U o U' L room_1.cells room_1.slots) := by
  refine MetFree.of_bodySF (plainFor_of_name own_pn_HistoryBoundEveryMomentPinLaw) hisR ?_
  intro p e s m args below meth c s₁ Bd hml0 hP hK
  obtain ⟨rfl, hZ, hh⟩ := hP
  have hx := Bd.exec
  have hby := Bd.bytes
  have hml : c.maxLocals = 22 := hml0
  have hown : s.vm.findClass "com/example/brazier/brazier/store/HistoryBoundEveryMomentPinLaw" = some m.cls := findClass_of_methodNamed Bd.named
  have hnm := (name_of_methodNamed Bd.named Bd.method).1
  have X0 : Stand p l e room_1 s m #[(.long q1), (.long q2), (.long q3), (.long q4), (.int p5)] below meth c s₁ [] 0 0 := Stand.of_body Bd
  have e0 : s₁.heap = h0 := by rw [← hh, Bd.state]; rfl
  show own_E p e below (own_K (own_law_Q n0) s room_1.cells room_1.slots) s₁ (entryFrame m #[(.long q1), (.long q2), (.long q3), (.long q4), (.int p5)] maxLocals)
  refine own_pre (own_law_ef m q1 q2 q3 q4 p5) ?_
  show own_E p e below _ s₁ (mkF m 0 #[.val (.long q1), .second, .val (.long q2), .second, .val (.long q3), .second, .val (.long q4), .second, iv p5, .unset, .unset, .unset, .unset, .unset, .unset, .unset, .unset, .unset, .unset, .unset, .unset, .unset] [])
  refine own_st (fun t k => XS.iload X0.here hx rfl (hb hby at_0) rfl k) ?_
  show own_E p e below _ s₁ (mkF m 2 #[.val (.long q1), .second, .val (.long q2), .second, .val (.long q3), .second, .val (.long q4), .second, iv p5, .unset, .unset, .unset, .unset, .unset, .unset, .unset, .unset, .unset, .unset, .unset, .unset, .unset] [.int p5])
  refine own_st (fun t k => XS.iconst X0.here hx rfl (hb hby at_2) k) ?_
  show own_E p e below _ s₁ (mkF m 3 #[.val (.long q1), .second, .val (.long q2), .second, .val (.long q3), .second, .val (.long q4), .second, iv p5, .unset, .unset, .unset, .unset, .unset, .unset, .unset, .unset, .unset, .unset, .unset, .unset, .unset] [.int 1, .int p5])
  refine own_st (fun t k => XS.iand X0.here hx rfl (hb hby at_3) rfl k) ?_
  show own_E p e below _ s₁ (mkF m 4 #[.val (.long q1), .second, .val (.long q2), .second, .val (.long q3), .second, .val (.long q4), .second, iv p5, .unset, .unset, .unset, .unset, .unset, .unset, .unset, .unset, .unset, .unset, .unset, .unset, .unset] [.int (p5 &&& (1 : Int32))])
  by_cases hc1 : (p5 &&& (1 : Int32)) = (0 : Int32)
  · refine own_st (fun t k => XS.ifYes X0.here hx rfl (pc0 := 4) (pc' := 11) rfl (hb hby at_4) rfl ((if0 _ _).trans (teq hc1).1) (by decide) (by decide) k) ?_
    show own_E p e below _ s₁ (mkF m 11 #[.val (.long q1), .second, .val (.long q2), .second, .val (.long q3), .second, .val (.long q4), .second, iv p5, .unset, .unset, .unset, .unset, .unset, .unset, .unset, .unset, .unset, .unset, .unset, .unset, .unset] [])
    refine own_st (fun t k => XS.iconst X0.here hx rfl (hb hby at_11) k) ?_
    show own_E p e below _ s₁ (mkF m 12 #[.val (.long q1), .second, .val (.long q2), .second, .val (.long q3), .second, .val (.long q4), .second, iv p5, .unset, .unset, .unset, .unset, .unset, .unset, .unset, .unset, .unset, .unset, .unset, .unset, .unset] [.int 0])
    refine own_st (fun t k => XS.istore X0.here hx rfl (hb hby at_12) rfl (l' := #[.val (.long q1), .second, .val (.long q2), .second, .val (.long q3), .second, .val (.long q4), .second, iv p5, iv 0, .unset, .unset, .unset, .unset, .unset, .unset, .unset, .unset, .unset, .unset, .unset, .unset]) rfl k) ?_
    show own_E p e below _ s₁ (mkF m 14 #[.val (.long q1), .second, .val (.long q2), .second, .val (.long q3), .second, .val (.long q4), .second, iv p5, iv 0, .unset, .unset, .unset, .unset, .unset, .unset, .unset, .unset, .unset, .unset, .unset, .unset] [])
    refine own_st (fun t k => XS.iload X0.here hx rfl (hb hby at_14) rfl k) ?_
    show own_E p e below _ s₁ (mkF m 16 #[.val (.long q1), .second, .val (.long q2), .second, .val (.long q3), .second, .val (.long q4), .second, iv p5, iv 0, .unset, .unset, .unset, .unset, .unset, .unset, .unset, .unset, .unset, .unset, .unset, .unset] [.int p5])
    refine own_st (fun t k => XS.iconst X0.here hx rfl (hb hby at_16) k) ?_
    show own_E p e below _ s₁ (mkF m 17 #[.val (.long q1), .second, .val (.long q2), .second, .val (.long q3), .second, .val (.long q4), .second, iv p5, iv 0, .unset, .unset, .unset, .unset, .unset, .unset, .unset, .unset, .unset, .unset, .unset, .unset] [.int 2, .int p5])
    refine own_st (fun t k => XS.iand X0.here hx rfl (hb hby at_17) rfl k) ?_
    show own_E p e below _ s₁ (mkF m 18 #[.val (.long q1), .second, .val (.long q2), .second, .val (.long q3), .second, .val (.long q4), .second, iv p5, iv 0, .unset, .unset, .unset, .unset, .unset, .unset, .unset, .unset, .unset, .unset, .unset, .unset] [.int (p5 &&& (2 : Int32))])
    by_cases hc2 : (p5 &&& (2 : Int32)) = (0 : Int32)
    · refine own_st (fun t k => XS.ifYes X0.here hx rfl (pc0 := 18) (pc' := 25) rfl (hb hby at_18) rfl ((if0 _ _).trans (teq hc2).1) (by decide) (by decide) k) ?_
      show own_E p e below _ s₁ (mkF m 25 #[.val (.long q1), .second, .val (.long q2), .second, .val (.long q3), .second, .val (.long q4), .second, iv p5, iv 0, .unset, .unset, .unset, .unset, .unset, .unset, .unset, .unset, .unset, .unset, .unset, .unset] [])
      refine own_st (fun t k => XS.iconst X0.here hx rfl (hb hby at_25) k) ?_
      show own_E p e below _ s₁ (mkF m 26 #[.val (.long q1), .second, .val (.long q2), .second, .val (.long q3), .second, .val (.long q4), .second, iv p5, iv 0, .unset, .unset, .unset, .unset, .unset, .unset, .unset, .unset, .unset, .unset, .unset, .unset] [.int 0])
      refine own_st (fun t k => XS.istore X0.here hx rfl (hb hby at_26) rfl (l' := #[.val (.long q1), .second, .val (.long q2), .second, .val (.long q3), .second, .val (.long q4), .second, iv p5, iv 0, iv 0, .unset, .unset, .unset, .unset, .unset, .unset, .unset, .unset, .unset, .unset, .unset]) rfl k) ?_
      show own_E p e below _ s₁ (mkF m 28 #[.val (.long q1), .second, .val (.long q2), .second, .val (.long q3), .second, .val (.long q4), .second, iv p5, iv 0, iv 0, .unset, .unset, .unset, .unset, .unset, .unset, .unset, .unset, .unset, .unset, .unset] [])
      refine own_st (fun t k => XS.iload X0.here hx rfl (hb hby at_28) rfl k) ?_
      show own_E p e below _ s₁ (mkF m 30 #[.val (.long q1), .second, .val (.long q2), .second, .val (.long q3), .second, .val (.long q4), .second, iv p5, iv 0, iv 0, .unset, .unset, .unset, .unset, .unset, .unset, .unset, .unset, .unset, .unset, .unset] [.int p5])
      refine own_st (fun t k => XS.iconst X0.here hx rfl (hb hby at_30) k) ?_
      show own_E p e below _ s₁ (mkF m 31 #[.val (.long q1), .second, .val (.long q2), .second, .val (.long q3), .second, .val (.long q4), .second, iv p5, iv 0, iv 0, .unset, .unset, .unset, .unset, .unset, .unset, .unset, .unset, .unset, .unset, .unset] [.int 4, .int p5])
      refine own_st (fun t k => XS.iand X0.here hx rfl (hb hby at_31) rfl k) ?_
      show own_E p e below _ s₁ (mkF m 32 #[.val (.long q1), .second, .val (.long q2), .second, .val (.long q3), .second, .val (.long q4), .second, iv p5, iv 0, iv 0, .unset, .unset, .unset, .unset, .unset, .unset, .unset, .unset, .unset, .unset, .unset] [.int (p5 &&& (4 : Int32))])
      by_cases hc3 : (p5 &&& (4 : Int32)) = (0 : Int32)
      · refine own_st (fun t k => XS.ifYes X0.here hx rfl (pc0 := 32) (pc' := 39) rfl (hb hby at_32) rfl ((if0 _ _).trans (teq hc3).1) (by decide) (by decide) k) ?_
        show own_E p e below _ s₁ (mkF m 39 #[.val (.long q1), .second, .val (.long q2), .second, .val (.long q3), .second, .val (.long q4), .second, iv p5, iv 0, iv 0, .unset, .unset, .unset, .unset, .unset, .unset, .unset, .unset, .unset, .unset, .unset] [])
        refine own_st (fun t k => XS.iconst X0.here hx rfl (hb hby at_39) k) ?_
        show own_E p e below _ s₁ (mkF m 40 #[.val (.long q1), .second, .val (.long q2), .second, .val (.long q3), .second, .val (.long q4), .second, iv p5, iv 0, iv 0, .unset, .unset, .unset, .unset, .unset, .unset, .unset, .unset, .unset, .unset, .unset] [.int 0])
        refine own_st (fun t k => XS.istore X0.here hx rfl (hb hby at_40) rfl (l' := #[.val (.long q1), .second, .val (.long q2), .second, .val (.long q3), .second, .val (.long q4), .second, iv p5, iv 0, iv 0, iv 0, .unset, .unset, .unset, .unset, .unset, .unset, .unset, .unset, .unset, .unset]) rfl k) ?_
        show own_E p e below _ s₁ (mkF m 42 #[.val (.long q1), .second, .val (.long q2), .second, .val (.long q3), .second, .val (.long q4), .second, iv p5, iv 0, iv 0, iv 0, .unset, .unset, .unset, .unset, .unset, .unset, .unset, .unset, .unset, .unset] [])
        refine own_st (fun t k => XS.iload X0.here hx rfl (hb hby at_42) rfl k) ?_
        show own_E p e below _ s₁ (mkF m 44 #[.val (.long q1), .second, .val (.long q2), .second, .val (.long q3), .second, .val (.long q4), .second, iv p5, iv 0, iv 0, iv 0, .unset, .unset, .unset, .unset, .unset, .unset, .unset, .unset, .unset, .unset] [.int 0])
        refine own_st (fun t k => XS.ifYes X0.here hx rfl (pc0 := 44) (pc' := 53) rfl (hb hby at_44) rfl (by decide) (by decide) (by decide) k) ?_
        show own_E p e below _ s₁ (mkF m 53 #[.val (.long q1), .second, .val (.long q2), .second, .val (.long q3), .second, .val (.long q4), .second, iv p5, iv 0, iv 0, iv 0, .unset, .unset, .unset, .unset, .unset, .unset, .unset, .unset, .unset, .unset] [])
        refine own_st (fun t k => XS.lloadN X0.here hx rfl (hb hby at_53) rfl k) ?_
        show own_E p e below _ s₁ (mkF m 54 #[.val (.long q1), .second, .val (.long q2), .second, .val (.long q3), .second, .val (.long q4), .second, iv p5, iv 0, iv 0, iv 0, .unset, .unset, .unset, .unset, .unset, .unset, .unset, .unset, .unset, .unset] [.long q1])
        refine own_st (fun t k => XS.lconst X0.here hx rfl (hb hby at_54) k) ?_
        show own_E p e below _ s₁ (mkF m 55 #[.val (.long q1), .second, .val (.long q2), .second, .val (.long q3), .second, .val (.long q4), .second, iv p5, iv 0, iv 0, iv 0, .unset, .unset, .unset, .unset, .unset, .unset, .unset, .unset, .unset, .unset] [.long 1, .long q1])
        refine own_st (fun t k => XS.lor X0.here hx rfl (hb hby at_55) rfl k) ?_
        show own_E p e below _ s₁ (mkF m 56 #[.val (.long q1), .second, .val (.long q2), .second, .val (.long q3), .second, .val (.long q4), .second, iv p5, iv 0, iv 0, iv 0, .unset, .unset, .unset, .unset, .unset, .unset, .unset, .unset, .unset, .unset] [.long (q1 ||| (1 : Int64))])
        refine own_st (fun t k => XS.lstore X0.here hx rfl (hb hby at_56) rfl (l' := #[.val (.long q1), .second, .val (.long q2), .second, .val (.long q3), .second, .val (.long q4), .second, iv p5, iv 0, iv 0, iv 0, .val (.long (q1 ||| (1 : Int64))), .second, .unset, .unset, .unset, .unset, .unset, .unset, .unset, .unset]) rfl k) ?_
        show own_E p e below _ s₁ (mkF m 58 #[.val (.long q1), .second, .val (.long q2), .second, .val (.long q3), .second, .val (.long q4), .second, iv p5, iv 0, iv 0, iv 0, .val (.long (q1 ||| (1 : Int64))), .second, .unset, .unset, .unset, .unset, .unset, .unset, .unset, .unset] [])
        refine own_st (fun t k => XS.iload X0.here hx rfl (hb hby at_58) rfl k) ?_
        show own_E p e below _ s₁ (mkF m 60 #[.val (.long q1), .second, .val (.long q2), .second, .val (.long q3), .second, .val (.long q4), .second, iv p5, iv 0, iv 0, iv 0, .val (.long (q1 ||| (1 : Int64))), .second, .unset, .unset, .unset, .unset, .unset, .unset, .unset, .unset] [.int 0])
        refine own_st (fun t k => XS.ifYes X0.here hx rfl (pc0 := 60) (pc' := 69) rfl (hb hby at_60) rfl (by decide) (by decide) (by decide) k) ?_
        show own_E p e below _ s₁ (mkF m 69 #[.val (.long q1), .second, .val (.long q2), .second, .val (.long q3), .second, .val (.long q4), .second, iv p5, iv 0, iv 0, iv 0, .val (.long (q1 ||| (1 : Int64))), .second, .unset, .unset, .unset, .unset, .unset, .unset, .unset, .unset] [])
        refine own_st (fun t k => XS.lloadN X0.here hx rfl (hb hby at_69) rfl k) ?_
        show own_E p e below _ s₁ (mkF m 70 #[.val (.long q1), .second, .val (.long q2), .second, .val (.long q3), .second, .val (.long q4), .second, iv p5, iv 0, iv 0, iv 0, .val (.long (q1 ||| (1 : Int64))), .second, .unset, .unset, .unset, .unset, .unset, .unset, .unset, .unset] [.long q2])
        refine own_st (fun t k => XS.lconst X0.here hx rfl (hb hby at_70) k) ?_
        show own_E p e below _ s₁ (mkF m 71 #[.val (.long q1), .second, .val (.long q2), .second, .val (.long q3), .second, .val (.long q4), .second, iv p5, iv 0, iv 0, iv 0, .val (.long (q1 ||| (1 : Int64))), .second, .unset, .unset, .unset, .unset, .unset, .unset, .unset, .unset] [.long 1, .long q2])
        refine own_st (fun t k => XS.lor X0.here hx rfl (hb hby at_71) rfl k) ?_
        show own_E p e below _ s₁ (mkF m 72 #[.val (.long q1), .second, .val (.long q2), .second, .val (.long q3), .second, .val (.long q4), .second, iv p5, iv 0, iv 0, iv 0, .val (.long (q1 ||| (1 : Int64))), .second, .unset, .unset, .unset, .unset, .unset, .unset, .unset, .unset] [.long (q2 ||| (1 : Int64))])
        refine own_st (fun t k => XS.lstore X0.here hx rfl (hb hby at_72) rfl (l' := #[.val (.long q1), .second, .val (.long q2), .second, .val (.long q3), .second, .val (.long q4), .second, iv p5, iv 0, iv 0, iv 0, .val (.long (q1 ||| (1 : Int64))), .second, .val (.long (q2 ||| (1 : Int64))), .second, .unset, .unset, .unset, .unset, .unset, .unset]) rfl k) ?_
        show own_E p e below _ s₁ (mkF m 74 #[.val (.long q1), .second, .val (.long q2), .second, .val (.long q3), .second, .val (.long q4), .second, iv p5, iv 0, iv 0, iv 0, .val (.long (q1 ||| (1 : Int64))), .second, .val (.long (q2 ||| (1 : Int64))), .second, .unset, .unset, .unset, .unset, .unset, .unset] [])
        refine own_st (fun t k => XS.iload X0.here hx rfl (hb hby at_74) rfl k) ?_
        show own_E p e below _ s₁ (mkF m 76 #[.val (.long q1), .second, .val (.long q2), .second, .val (.long q3), .second, .val (.long q4), .second, iv p5, iv 0, iv 0, iv 0, .val (.long (q1 ||| (1 : Int64))), .second, .val (.long (q2 ||| (1 : Int64))), .second, .unset, .unset, .unset, .unset, .unset, .unset] [.int 0])
        refine own_st (fun t k => XS.ifYes X0.here hx rfl (pc0 := 76) (pc' := 85) rfl (hb hby at_76) rfl (by decide) (by decide) (by decide) k) ?_
        show own_E p e below _ s₁ (mkF m 85 #[.val (.long q1), .second, .val (.long q2), .second, .val (.long q3), .second, .val (.long q4), .second, iv p5, iv 0, iv 0, iv 0, .val (.long (q1 ||| (1 : Int64))), .second, .val (.long (q2 ||| (1 : Int64))), .second, .unset, .unset, .unset, .unset, .unset, .unset] [])
        refine own_st (fun t k => XS.lload X0.here hx rfl (hb hby at_85) rfl k) ?_
        show own_E p e below _ s₁ (mkF m 87 #[.val (.long q1), .second, .val (.long q2), .second, .val (.long q3), .second, .val (.long q4), .second, iv p5, iv 0, iv 0, iv 0, .val (.long (q1 ||| (1 : Int64))), .second, .val (.long (q2 ||| (1 : Int64))), .second, .unset, .unset, .unset, .unset, .unset, .unset] [.long q3])
        refine own_st (X0.ldc2Long hx hown (mvT hZ (own_w hw 1 rfl)) (g := (mkF m 87 #[.val (.long q1), .second, .val (.long q2), .second, .val (.long q3), .second, .val (.long q4), .second, iv p5, iv 0, iv 0, iv 0, .val (.long (q1 ||| (1 : Int64))), .second, .val (.long (q2 ||| (1 : Int64))), .second, .unset, .unset, .unset, .unset, .unset, .unset] [.long q3])) rfl (hb hby at_87)) ?_
        show own_E p e below _ s₁ (mkF m 90 #[.val (.long q1), .second, .val (.long q2), .second, .val (.long q3), .second, .val (.long q4), .second, iv p5, iv 0, iv 0, iv 0, .val (.long (q1 ||| (1 : Int64))), .second, .val (.long (q2 ||| (1 : Int64))), .second, .unset, .unset, .unset, .unset, .unset, .unset] [.long (-2), .long q3])
        refine own_st (fun t k => XS.land X0.here hx rfl (hb hby at_90) rfl k) ?_
        show own_E p e below _ s₁ (mkF m 91 #[.val (.long q1), .second, .val (.long q2), .second, .val (.long q3), .second, .val (.long q4), .second, iv p5, iv 0, iv 0, iv 0, .val (.long (q1 ||| (1 : Int64))), .second, .val (.long (q2 ||| (1 : Int64))), .second, .unset, .unset, .unset, .unset, .unset, .unset] [.long (q3 &&& (-2 : Int64))])
        refine own_st (fun t k => XS.lstore X0.here hx rfl (hb hby at_91) rfl (l' := #[.val (.long q1), .second, .val (.long q2), .second, .val (.long q3), .second, .val (.long q4), .second, iv p5, iv 0, iv 0, iv 0, .val (.long (q1 ||| (1 : Int64))), .second, .val (.long (q2 ||| (1 : Int64))), .second, .val (.long (q3 &&& (-2 : Int64))), .second, .unset, .unset, .unset, .unset]) rfl k) ?_
        show own_E p e below _ s₁ (mkF m 93 #[.val (.long q1), .second, .val (.long q2), .second, .val (.long q3), .second, .val (.long q4), .second, iv p5, iv 0, iv 0, iv 0, .val (.long (q1 ||| (1 : Int64))), .second, .val (.long (q2 ||| (1 : Int64))), .second, .val (.long (q3 &&& (-2 : Int64))), .second, .unset, .unset, .unset, .unset] [])
        refine own_st (fun t k => XS.lload X0.here hx rfl (hb hby at_93) rfl k) ?_
        show own_E p e below _ s₁ (mkF m 95 #[.val (.long q1), .second, .val (.long q2), .second, .val (.long q3), .second, .val (.long q4), .second, iv p5, iv 0, iv 0, iv 0, .val (.long (q1 ||| (1 : Int64))), .second, .val (.long (q2 ||| (1 : Int64))), .second, .val (.long (q3 &&& (-2 : Int64))), .second, .unset, .unset, .unset, .unset] [.long q4])
        refine own_st (X0.ldc2Long hx hown (mvT hZ (own_w hw 2 rfl)) (g := (mkF m 95 #[.val (.long q1), .second, .val (.long q2), .second, .val (.long q3), .second, .val (.long q4), .second, iv p5, iv 0, iv 0, iv 0, .val (.long (q1 ||| (1 : Int64))), .second, .val (.long (q2 ||| (1 : Int64))), .second, .val (.long (q3 &&& (-2 : Int64))), .second, .unset, .unset, .unset, .unset] [.long q4])) rfl (hb hby at_95)) ?_
        show own_E p e below _ s₁ (mkF m 98 #[.val (.long q1), .second, .val (.long q2), .second, .val (.long q3), .second, .val (.long q4), .second, iv p5, iv 0, iv 0, iv 0, .val (.long (q1 ||| (1 : Int64))), .second, .val (.long (q2 ||| (1 : Int64))), .second, .val (.long (q3 &&& (-2 : Int64))), .second, .unset, .unset, .unset, .unset] [.long 9223372036854775807, .long q4])
        refine own_st (fun t k => XS.land X0.here hx rfl (hb hby at_98) rfl k) ?_
        show own_E p e below _ s₁ (mkF m 99 #[.val (.long q1), .second, .val (.long q2), .second, .val (.long q3), .second, .val (.long q4), .second, iv p5, iv 0, iv 0, iv 0, .val (.long (q1 ||| (1 : Int64))), .second, .val (.long (q2 ||| (1 : Int64))), .second, .val (.long (q3 &&& (-2 : Int64))), .second, .unset, .unset, .unset, .unset] [.long (q4 &&& (9223372036854775807 : Int64))])
        refine own_st (fun t k => XS.lstore X0.here hx rfl (hb hby at_99) rfl (l' := #[.val (.long q1), .second, .val (.long q2), .second, .val (.long q3), .second, .val (.long q4), .second, iv p5, iv 0, iv 0, iv 0, .val (.long (q1 ||| (1 : Int64))), .second, .val (.long (q2 ||| (1 : Int64))), .second, .val (.long (q3 &&& (-2 : Int64))), .second, .val (.long (q4 &&& (9223372036854775807 : Int64))), .second, .unset, .unset]) rfl k) ?_
        show own_E p e below _ s₁ (mkF m 101 #[.val (.long q1), .second, .val (.long q2), .second, .val (.long q3), .second, .val (.long q4), .second, iv p5, iv 0, iv 0, iv 0, .val (.long (q1 ||| (1 : Int64))), .second, .val (.long (q2 ||| (1 : Int64))), .second, .val (.long (q3 &&& (-2 : Int64))), .second, .val (.long (q4 &&& (9223372036854775807 : Int64))), .second, .unset, .unset] [])
        obtain ⟨T4, h4, X4, e4, E4, A4, D4, -, st4⟩ := newO X0 hx hZ hown (own_w hw 3 rfl) (own_w hw 4 rfl) (own_w hw 5 rfl) e0 (g := (mkF m 101 #[.val (.long q1), .second, .val (.long q2), .second, .val (.long q3), .second, .val (.long q4), .second, iv p5, iv 0, iv 0, iv 0, .val (.long (q1 ||| (1 : Int64))), .second, .val (.long (q2 ||| (1 : Int64))), .second, .val (.long (q3 &&& (-2 : Int64))), .second, .val (.long (q4 &&& (9223372036854775807 : Int64))), .second, .unset, .unset] [])) rfl (hb hby at_101) (by decide) (by decide)
        obtain ⟨b4, g4⟩ : ∃ z, z = h0.size := ⟨_, rfl⟩
        rw [← g4] at A4 D4 st4
        have g_b4 : n0 ≤ b4 := Nat.le_trans Z0 (Nat.le_of_eq g4.symm)
        have Z5 := Nat.le_trans Z0 E4.1
        have F_storedFrom_b4 : Fld Z h4 b4 "com/example/brazier/brazier/store/HistoryBound" "storedFrom" "J" (.long (0 : Int64)) := D4 (Or.inr (own_w hw 18 rfl)) (ty := .long) (by decide)
        have F_currentFrom_b4 : Fld Z h4 b4 "com/example/brazier/brazier/store/HistoryBound" "currentFrom" "J" (.long (0 : Int64)) := D4 (Or.inr (own_w hw 20 rfl)) (ty := .long) (by decide)
        have F_currentTo_b4 : Fld Z h4 b4 "com/example/brazier/brazier/store/HistoryBound" "currentTo" "J" (.long (0 : Int64)) := D4 (Or.inr (own_w hw 22 rfl)) (ty := .long) (by decide)
        have F_storedUpTo_b4 : Fld Z h4 b4 "com/example/brazier/brazier/store/HistoryBound" "storedUpTo" "J" (.long (0 : Int64)) := D4 (Or.inr (own_w hw 24 rfl)) (ty := .long) (by decide)
        refine own_st st4 ?_
        show own_E p e below _ T4 (mkF m 104 #[.val (.long q1), .second, .val (.long q2), .second, .val (.long q3), .second, .val (.long q4), .second, iv p5, iv 0, iv 0, iv 0, .val (.long (q1 ||| (1 : Int64))), .second, .val (.long (q2 ||| (1 : Int64))), .second, .val (.long (q3 &&& (-2 : Int64))), .second, .val (.long (q4 &&& (9223372036854775807 : Int64))), .second, .unset, .unset] [.ref b4])
        refine own_st (fun t k => XS.dup X4.here hx rfl (hb hby at_104) rfl rfl k) ?_
        show own_E p e below _ T4 (mkF m 105 #[.val (.long q1), .second, .val (.long q2), .second, .val (.long q3), .second, .val (.long q4), .second, iv p5, iv 0, iv 0, iv 0, .val (.long (q1 ||| (1 : Int64))), .second, .val (.long (q2 ||| (1 : Int64))), .second, .val (.long (q3 &&& (-2 : Int64))), .second, .val (.long (q4 &&& (9223372036854775807 : Int64))), .second, .unset, .unset] [.ref b4, .ref b4])
        refine own_st (fun t k => XS.lload X4.here hx rfl (hb hby at_105) rfl k) ?_
        show own_E p e below _ T4 (mkF m 107 #[.val (.long q1), .second, .val (.long q2), .second, .val (.long q3), .second, .val (.long q4), .second, iv p5, iv 0, iv 0, iv 0, .val (.long (q1 ||| (1 : Int64))), .second, .val (.long (q2 ||| (1 : Int64))), .second, .val (.long (q3 &&& (-2 : Int64))), .second, .val (.long (q4 &&& (9223372036854775807 : Int64))), .second, .unset, .unset] [.long (q1 ||| (1 : Int64)), .ref b4, .ref b4])
        refine own_st (fun t k => XS.lload X4.here hx rfl (hb hby at_107) rfl k) ?_
        show own_E p e below _ T4 (mkF m 109 #[.val (.long q1), .second, .val (.long q2), .second, .val (.long q3), .second, .val (.long q4), .second, iv p5, iv 0, iv 0, iv 0, .val (.long (q1 ||| (1 : Int64))), .second, .val (.long (q2 ||| (1 : Int64))), .second, .val (.long (q3 &&& (-2 : Int64))), .second, .val (.long (q4 &&& (9223372036854775807 : Int64))), .second, .unset, .unset] [.long (q2 ||| (1 : Int64)), .long (q1 ||| (1 : Int64)), .ref b4, .ref b4])
        refine own_st (fun t k => XS.lload X4.here hx rfl (hb hby at_109) rfl k) ?_
        show own_E p e below _ T4 (mkF m 111 #[.val (.long q1), .second, .val (.long q2), .second, .val (.long q3), .second, .val (.long q4), .second, iv p5, iv 0, iv 0, iv 0, .val (.long (q1 ||| (1 : Int64))), .second, .val (.long (q2 ||| (1 : Int64))), .second, .val (.long (q3 &&& (-2 : Int64))), .second, .val (.long (q4 &&& (9223372036854775807 : Int64))), .second, .unset, .unset] [.long (q3 &&& (-2 : Int64)), .long (q2 ||| (1 : Int64)), .long (q1 ||| (1 : Int64)), .ref b4, .ref b4])
        refine own_st (fun t k => XS.lload X4.here hx rfl (hb hby at_111) rfl k) ?_
        show own_E p e below _ T4 (mkF m 113 #[.val (.long q1), .second, .val (.long q2), .second, .val (.long q3), .second, .val (.long q4), .second, iv p5, iv 0, iv 0, iv 0, .val (.long (q1 ||| (1 : Int64))), .second, .val (.long (q2 ||| (1 : Int64))), .second, .val (.long (q3 &&& (-2 : Int64))), .second, .val (.long (q4 &&& (9223372036854775807 : Int64))), .second, .unset, .unset] [.long (q4 &&& (9223372036854775807 : Int64)), .long (q3 &&& (-2 : Int64)), .long (q2 ||| (1 : Int64)), .long (q1 ||| (1 : Int64)), .ref b4, .ref b4])
        have hv6 : ¬ ((q4 &&& (9223372036854775807 : Int64)) < (0 : Int64)) := by
          rw [Int64.lt_iff_toInt_lt]
          have f7 := rng32 p5
          have f8 : (1 : Int32).toInt = 1 := rfl
          have f9 := rng32 (p5 &&& (1 : Int32))
          have f10 : (p5 &&& (1 : Int32)).toInt = p5.toInt % 2 := c_mask p5 (1 : Int32) 1 (by decide) (by decide)
          have f11 : (0 : Int32).toInt = 0 := rfl
          have f12 : (2 : Int32).toInt = 2 := rfl
          have f13 := rng32 (p5 &&& (2 : Int32))
          have f14 := c_and p5 (2 : Int32) (by decide)
          have f15 : (4 : Int32).toInt = 4 := rfl
          have f16 := rng32 (p5 &&& (4 : Int32))
          have f17 := c_and p5 (4 : Int32) (by decide)
          have f18 := rng64 q4
          have f19 : (9223372036854775807 : Int64).toInt = 9223372036854775807 := rfl
          have f20 := rng64 (q4 &&& (9223372036854775807 : Int64))
          have f21 : (q4 &&& (9223372036854775807 : Int64)).toInt = q4.toInt % 9223372036854775808 := c_maskL q4 (9223372036854775807 : Int64) 63 (by decide) (by decide)
          have f22 : (0 : Int64).toInt = 0 := rfl
          have g23 := hc1
          rw [← Int32.toInt_inj] at g23
          have g24 := hc2
          rw [← Int32.toInt_inj] at g24
          have g25 := hc3
          rw [← Int32.toInt_inj] at g25
          omega
        obtain ⟨_, _, ⟨T26, L26, k26, n26⟩, -, X26, ⟨Lc26, hQ26, l26, y26, z26⟩, st26⟩ := X4.specialBack hx (y := own_y1) rfl hown (mvT hZ (own_w hw 6 rfl)) (mvT hZ (own_w hw 7 rfl)) (mvT hZ (own_w hw 8 rfl)) (by decide) (backOf (W := 1) (own_init l Z a0 hw [] b4 (q1 ||| (1 : Int64)) (q2 ||| (1 : Int64)) (q3 &&& (-2 : Int64)) (q4 &&& (9223372036854775807 : Int64)) h4 n0 Z5 A4 F_storedFrom_b4 F_currentFrom_b4 F_currentTo_b4 F_storedUpTo_b4 hv6 g_b4) hZ (own_w hw 8 rfl) (own_w hw 5 rfl) (by decide) (by decide)) (g := (mkF m 113 #[.val (.long q1), .second, .val (.long q2), .second, .val (.long q3), .second, .val (.long q4), .second, iv p5, iv 0, iv 0, iv 0, .val (.long (q1 ||| (1 : Int64))), .second, .val (.long (q2 ||| (1 : Int64))), .second, .val (.long (q3 &&& (-2 : Int64))), .second, .val (.long (q4 &&& (9223372036854775807 : Int64))), .second, .unset, .unset] [.long (q4 &&& (9223372036854775807 : Int64)), .long (q3 &&& (-2 : Int64)), .long (q2 ||| (1 : Int64)), .long (q1 ||| (1 : Int64)), .ref b4, .ref b4])) rfl (by rw [hml]; rfl) (Steps.refl _) (a := b4) (argsL := [(.long (q1 ||| (1 : Int64))), (.long (q2 ||| (1 : Int64))), (.long (q3 &&& (-2 : Int64))), (.long (q4 &&& (9223372036854775807 : Int64)))]) (rest := [(.ref b4)]) (lenOf own_pd_2 rfl) rfl (by show 2 * 0 + _ ≤ _; exact Nat.le_of_eq rfl) (hb hby at_113) (fun _ _ => ⟨rfl, e4, (by decide : 1 + 0 ≤ _), (by decide : 4 + 0 ≤ _)⟩)
        dsimp only [Pt.U, Pt.locs, Pt.cells, Pt.slots] at X26 l26 y26 z26 st26 hQ26
        subst l26 y26 z26
        obtain ⟨rfl, Nq26, Kq26, P26_0, P26_1, P26_2, P26_3, P26_4⟩ := hQ26
        have N26 := Fr.app (Fr.nil n0) Nq26
        have e26 : T26.heap = T26.heap := rfl
        have Z27 := Nat.le_trans Z5 Kq26.1
        refine own_tr st26 ?_
        show own_E p e below _ T26 (mkF m 116 #[.val (.long q1), .second, .val (.long q2), .second, .val (.long q3), .second, .val (.long q4), .second, iv p5, iv 0, iv 0, iv 0, .val (.long (q1 ||| (1 : Int64))), .second, .val (.long (q2 ||| (1 : Int64))), .second, .val (.long (q3 &&& (-2 : Int64))), .second, .val (.long (q4 &&& (9223372036854775807 : Int64))), .second, .unset, .unset] [.ref b4])
        refine own_st (fun t k => XS.astore X26.here hx rfl (hb hby at_116) rfl rfl (l' := #[.val (.long q1), .second, .val (.long q2), .second, .val (.long q3), .second, .val (.long q4), .second, iv p5, iv 0, iv 0, iv 0, .val (.long (q1 ||| (1 : Int64))), .second, .val (.long (q2 ||| (1 : Int64))), .second, .val (.long (q3 &&& (-2 : Int64))), .second, .val (.long (q4 &&& (9223372036854775807 : Int64))), .second, rv b4, .unset]) rfl k) ?_
        show own_E p e below _ T26 (mkF m 118 #[.val (.long q1), .second, .val (.long q2), .second, .val (.long q3), .second, .val (.long q4), .second, iv p5, iv 0, iv 0, iv 0, .val (.long (q1 ||| (1 : Int64))), .second, .val (.long (q2 ||| (1 : Int64))), .second, .val (.long (q3 &&& (-2 : Int64))), .second, .val (.long (q4 &&& (9223372036854775807 : Int64))), .second, rv b4, .unset] [])
        refine own_st (fun t k => XS.iload X26.here hx rfl (hb hby at_118) rfl k) ?_
        show own_E p e below _ T26 (mkF m 120 #[.val (.long q1), .second, .val (.long q2), .second, .val (.long q3), .second, .val (.long q4), .second, iv p5, iv 0, iv 0, iv 0, .val (.long (q1 ||| (1 : Int64))), .second, .val (.long (q2 ||| (1 : Int64))), .second, .val (.long (q3 &&& (-2 : Int64))), .second, .val (.long (q4 &&& (9223372036854775807 : Int64))), .second, rv b4, .unset] [.int 0])
        refine own_st (fun t k => XS.ifYes X26.here hx rfl (pc0 := 120) (pc' := 137) rfl (hb hby at_120) rfl (by decide) (by decide) (by decide) k) ?_
        show own_E p e below _ T26 (mkF m 137 #[.val (.long q1), .second, .val (.long q2), .second, .val (.long q3), .second, .val (.long q4), .second, iv p5, iv 0, iv 0, iv 0, .val (.long (q1 ||| (1 : Int64))), .second, .val (.long (q2 ||| (1 : Int64))), .second, .val (.long (q3 &&& (-2 : Int64))), .second, .val (.long (q4 &&& (9223372036854775807 : Int64))), .second, rv b4, .unset] [])
        refine own_st (fun t k => XS.iconst X26.here hx rfl (hb hby at_137) k) ?_
        show own_E p e below _ T26 (mkF m 138 #[.val (.long q1), .second, .val (.long q2), .second, .val (.long q3), .second, .val (.long q4), .second, iv p5, iv 0, iv 0, iv 0, .val (.long (q1 ||| (1 : Int64))), .second, .val (.long (q2 ||| (1 : Int64))), .second, .val (.long (q3 &&& (-2 : Int64))), .second, .val (.long (q4 &&& (9223372036854775807 : Int64))), .second, rv b4, .unset] [.int 0])
        refine own_st (fun t k => XS.istore X26.here hx rfl (hb hby at_138) rfl (l' := #[.val (.long q1), .second, .val (.long q2), .second, .val (.long q3), .second, .val (.long q4), .second, iv p5, iv 0, iv 0, iv 0, .val (.long (q1 ||| (1 : Int64))), .second, .val (.long (q2 ||| (1 : Int64))), .second, .val (.long (q3 &&& (-2 : Int64))), .second, .val (.long (q4 &&& (9223372036854775807 : Int64))), .second, rv b4, iv 0]) rfl k) ?_
        show own_E p e below _ T26 (mkF m 140 #[.val (.long q1), .second, .val (.long q2), .second, .val (.long q3), .second, .val (.long q4), .second, iv p5, iv 0, iv 0, iv 0, .val (.long (q1 ||| (1 : Int64))), .second, .val (.long (q2 ||| (1 : Int64))), .second, .val (.long (q3 &&& (-2 : Int64))), .second, .val (.long (q4 &&& (9223372036854775807 : Int64))), .second, rv b4, iv 0] [])
        refine own_st (fun t k => XS.aload X26.here hx rfl (hb hby at_140) rfl rfl k) ?_
        show own_E p e below _ T26 (mkF m 142 #[.val (.long q1), .second, .val (.long q2), .second, .val (.long q3), .second, .val (.long q4), .second, iv p5, iv 0, iv 0, iv 0, .val (.long (q1 ||| (1 : Int64))), .second, .val (.long (q2 ||| (1 : Int64))), .second, .val (.long (q3 &&& (-2 : Int64))), .second, .val (.long (q4 &&& (9223372036854775807 : Int64))), .second, rv b4, iv 0] [.ref b4])
        obtain ⟨cq28, kq28, q28a, q28b, q28c⟩ := isOf hZ e26 P26_0
        obtain ⟨_, _, ⟨T28, L28, k28, n28⟩, -, X28, ⟨Lc28, hQ28, l28, y28, z28⟩, st28⟩ := X26.virtualBack hx (y := own_y2) (z := own_y2) hown (mvT hZ (own_w hw 25 rfl)) (mvT hZ (own_w hw 26 rfl)) (notFace_of_selects (args := #[]) (mvT hZ (own_w hw 28 rfl))) (mvT hZ (own_w hw 28 rfl)) (mvT hZ (own_w hw 27 rfl)) (by decide) (backOf (W := 0) (own_every l Z a0 hw [] b4 (q1 ||| (1 : Int64)) (q2 ||| (1 : Int64)) (q3 &&& (-2 : Int64)) T26.heap n0 Z27 P26_1 P26_2 P26_3) hZ (own_w hw 29 rfl) (own_w hw 5 rfl) (by decide) (by decide)) q28a q28c (g := (mkF m 142 #[.val (.long q1), .second, .val (.long q2), .second, .val (.long q3), .second, .val (.long q4), .second, iv p5, iv 0, iv 0, iv 0, .val (.long (q1 ||| (1 : Int64))), .second, .val (.long (q2 ||| (1 : Int64))), .second, .val (.long (q3 &&& (-2 : Int64))), .second, .val (.long (q4 &&& (9223372036854775807 : Int64))), .second, rv b4, iv 0] [.ref b4])) rfl (by rw [hml]; rfl) (Steps.refl _) (argsL := []) (rest := []) (lenOf own_pd_1 rfl) rfl (by show 2 * 0 + _ ≤ _; exact Nat.le_of_eq rfl) (hb hby at_142) (fun _ _ => ⟨rfl, e26, (by decide : 1 + 0 ≤ _), (by decide : 4 + 0 ≤ _)⟩)
        dsimp only [Pt.U, Pt.locs, Pt.cells, Pt.slots] at X28 l28 y28 z28 st28 hQ28
        subst l28 y28 z28
        obtain ⟨hR28, e28, rfl⟩ := hQ28
        have N28 := Fr.app N26 (Fr.nil n0)
        rcases hR28 with ⟨rfl, ha28_0, ha28_1, ha28_2⟩ | ⟨rfl, ha28_0, ha28_1, ha28_2⟩ | ⟨rfl, ha28_0, ha28_1⟩ | ⟨rfl, ha28_0⟩
        · refine own_tr st28 ?_
          show own_E p e below _ T28 (mkF m 145 #[.val (.long q1), .second, .val (.long q2), .second, .val (.long q3), .second, .val (.long q4), .second, iv p5, iv 0, iv 0, iv 0, .val (.long (q1 ||| (1 : Int64))), .second, .val (.long (q2 ||| (1 : Int64))), .second, .val (.long (q3 &&& (-2 : Int64))), .second, .val (.long (q4 &&& (9223372036854775807 : Int64))), .second, rv b4, iv 0] [.int 1])
          refine own_st (fun t k => XS.iload X28.here hx rfl (hb hby at_145) rfl k) ?_
          show own_E p e below _ T28 (mkF m 147 #[.val (.long q1), .second, .val (.long q2), .second, .val (.long q3), .second, .val (.long q4), .second, iv p5, iv 0, iv 0, iv 0, .val (.long (q1 ||| (1 : Int64))), .second, .val (.long (q2 ||| (1 : Int64))), .second, .val (.long (q3 &&& (-2 : Int64))), .second, .val (.long (q4 &&& (9223372036854775807 : Int64))), .second, rv b4, iv 0] [.int 0, .int 1])
          refine own_st (fun t k => XS.icmpYes X28.here hx rfl (pc0 := 147) (pc' := 154) rfl (hb hby at_147) rfl (by decide) (by decide) (by decide) k) ?_
          show own_E p e below _ T28 (mkF m 154 #[.val (.long q1), .second, .val (.long q2), .second, .val (.long q3), .second, .val (.long q4), .second, iv p5, iv 0, iv 0, iv 0, .val (.long (q1 ||| (1 : Int64))), .second, .val (.long (q2 ||| (1 : Int64))), .second, .val (.long (q3 &&& (-2 : Int64))), .second, .val (.long (q4 &&& (9223372036854775807 : Int64))), .second, rv b4, iv 0] [])
          refine own_st (fun t k => XS.iconst X28.here hx rfl (hb hby at_154) k) ?_
          show own_E p e below _ T28 (mkF m 155 #[.val (.long q1), .second, .val (.long q2), .second, .val (.long q3), .second, .val (.long q4), .second, iv p5, iv 0, iv 0, iv 0, .val (.long (q1 ||| (1 : Int64))), .second, .val (.long (q2 ||| (1 : Int64))), .second, .val (.long (q3 &&& (-2 : Int64))), .second, .val (.long (q4 &&& (9223372036854775807 : Int64))), .second, rv b4, iv 0] [.int 0])
          refine own_retS X28 hx Bd.notSynchronized Bd.returns rfl (by decide) (hb hby at_155) (by decide) (by decide) ?_
          exfalso
          have f29 := rng32 p5
          have f30 : (1 : Int32).toInt = 1 := rfl
          have f31 := rng32 (p5 &&& (1 : Int32))
          have f32 : (p5 &&& (1 : Int32)).toInt = p5.toInt % 2 := c_mask p5 (1 : Int32) 1 (by decide) (by decide)
          have f33 : (0 : Int32).toInt = 0 := rfl
          have f34 : (2 : Int32).toInt = 2 := rfl
          have f35 := rng32 (p5 &&& (2 : Int32))
          have f36 := c_and p5 (2 : Int32) (by decide)
          have f37 : (4 : Int32).toInt = 4 := rfl
          have f38 := rng32 (p5 &&& (4 : Int32))
          have f39 := c_and p5 (4 : Int32) (by decide)
          have f40 := rng64 q1
          have f41 : (1 : Int64).toInt = 1 := rfl
          have f42 := rng64 (q1 ||| (1 : Int64))
          have f43 := own_lor1 q1
          have f44 : (-9223372036854775808 : Int64).toInt = -9223372036854775808 := rfl
          have f45 := rng64 q2
          have f46 := rng64 (q2 ||| (1 : Int64))
          have f47 := own_lor1 q2
          have f48 := rng64 q3
          have f49 : (-2 : Int64).toInt = -2 := rfl
          have f50 := rng64 (q3 &&& (-2 : Int64))
          have f51 := own_landm2 q3
          have f52 : (9223372036854775807 : Int64).toInt = 9223372036854775807 := rfl
          have g53 := hc1
          rw [← Int32.toInt_inj] at g53
          have g54 := hc2
          rw [← Int32.toInt_inj] at g54
          have g55 := hc3
          rw [← Int32.toInt_inj] at g55
          have g56 := ha28_0
          rw [← Int64.toInt_inj] at g56
          have g57 := ha28_1
          rw [← Int64.toInt_inj] at g57
          have g58 := ha28_2
          rw [← Int64.toInt_inj] at g58
          omega
        · refine own_tr st28 ?_
          show own_E p e below _ T28 (mkF m 145 #[.val (.long q1), .second, .val (.long q2), .second, .val (.long q3), .second, .val (.long q4), .second, iv p5, iv 0, iv 0, iv 0, .val (.long (q1 ||| (1 : Int64))), .second, .val (.long (q2 ||| (1 : Int64))), .second, .val (.long (q3 &&& (-2 : Int64))), .second, .val (.long (q4 &&& (9223372036854775807 : Int64))), .second, rv b4, iv 0] [.int 0])
          refine own_st (fun t k => XS.iload X28.here hx rfl (hb hby at_145) rfl k) ?_
          show own_E p e below _ T28 (mkF m 147 #[.val (.long q1), .second, .val (.long q2), .second, .val (.long q3), .second, .val (.long q4), .second, iv p5, iv 0, iv 0, iv 0, .val (.long (q1 ||| (1 : Int64))), .second, .val (.long (q2 ||| (1 : Int64))), .second, .val (.long (q3 &&& (-2 : Int64))), .second, .val (.long (q4 &&& (9223372036854775807 : Int64))), .second, rv b4, iv 0] [.int 0, .int 0])
          refine own_st (fun t k => XS.icmpNo X28.here hx rfl (hb hby at_147) rfl (by decide) k) ?_
          show own_E p e below _ T28 (mkF m 150 #[.val (.long q1), .second, .val (.long q2), .second, .val (.long q3), .second, .val (.long q4), .second, iv p5, iv 0, iv 0, iv 0, .val (.long (q1 ||| (1 : Int64))), .second, .val (.long (q2 ||| (1 : Int64))), .second, .val (.long (q3 &&& (-2 : Int64))), .second, .val (.long (q4 &&& (9223372036854775807 : Int64))), .second, rv b4, iv 0] [])
          refine own_st (fun t k => XS.iconst X28.here hx rfl (hb hby at_150) k) ?_
          show own_E p e below _ T28 (mkF m 151 #[.val (.long q1), .second, .val (.long q2), .second, .val (.long q3), .second, .val (.long q4), .second, iv p5, iv 0, iv 0, iv 0, .val (.long (q1 ||| (1 : Int64))), .second, .val (.long (q2 ||| (1 : Int64))), .second, .val (.long (q3 &&& (-2 : Int64))), .second, .val (.long (q4 &&& (9223372036854775807 : Int64))), .second, rv b4, iv 0] [.int 1])
          refine own_st (fun t k => XS.goto X28.here hx rfl (pc0 := 151) (pc' := 155) rfl (hb hby at_151) (by decide) (by decide) k) ?_
          show own_E p e below _ T28 (mkF m 155 #[.val (.long q1), .second, .val (.long q2), .second, .val (.long q3), .second, .val (.long q4), .second, iv p5, iv 0, iv 0, iv 0, .val (.long (q1 ||| (1 : Int64))), .second, .val (.long (q2 ||| (1 : Int64))), .second, .val (.long (q3 &&& (-2 : Int64))), .second, .val (.long (q4 &&& (9223372036854775807 : Int64))), .second, rv b4, iv 0] [.int 1])
          refine own_retS X28 hx Bd.notSynchronized Bd.returns rfl (by decide) (hb hby at_155) (by decide) (by decide) ?_
          exact ⟨rfl, N28⟩
        · refine own_tr st28 ?_
          show own_E p e below _ T28 (mkF m 145 #[.val (.long q1), .second, .val (.long q2), .second, .val (.long q3), .second, .val (.long q4), .second, iv p5, iv 0, iv 0, iv 0, .val (.long (q1 ||| (1 : Int64))), .second, .val (.long (q2 ||| (1 : Int64))), .second, .val (.long (q3 &&& (-2 : Int64))), .second, .val (.long (q4 &&& (9223372036854775807 : Int64))), .second, rv b4, iv 0] [.int 0])
          refine own_st (fun t k => XS.iload X28.here hx rfl (hb hby at_145) rfl k) ?_
          show own_E p e below _ T28 (mkF m 147 #[.val (.long q1), .second, .val (.long q2), .second, .val (.long q3), .second, .val (.long q4), .second, iv p5, iv 0, iv 0, iv 0, .val (.long (q1 ||| (1 : Int64))), .second, .val (.long (q2 ||| (1 : Int64))), .second, .val (.long (q3 &&& (-2 : Int64))), .second, .val (.long (q4 &&& (9223372036854775807 : Int64))), .second, rv b4, iv 0] [.int 0, .int 0])
          refine own_st (fun t k => XS.icmpNo X28.here hx rfl (hb hby at_147) rfl (by decide) k) ?_
          show own_E p e below _ T28 (mkF m 150 #[.val (.long q1), .second, .val (.long q2), .second, .val (.long q3), .second, .val (.long q4), .second, iv p5, iv 0, iv 0, iv 0, .val (.long (q1 ||| (1 : Int64))), .second, .val (.long (q2 ||| (1 : Int64))), .second, .val (.long (q3 &&& (-2 : Int64))), .second, .val (.long (q4 &&& (9223372036854775807 : Int64))), .second, rv b4, iv 0] [])
          refine own_st (fun t k => XS.iconst X28.here hx rfl (hb hby at_150) k) ?_
          show own_E p e below _ T28 (mkF m 151 #[.val (.long q1), .second, .val (.long q2), .second, .val (.long q3), .second, .val (.long q4), .second, iv p5, iv 0, iv 0, iv 0, .val (.long (q1 ||| (1 : Int64))), .second, .val (.long (q2 ||| (1 : Int64))), .second, .val (.long (q3 &&& (-2 : Int64))), .second, .val (.long (q4 &&& (9223372036854775807 : Int64))), .second, rv b4, iv 0] [.int 1])
          refine own_st (fun t k => XS.goto X28.here hx rfl (pc0 := 151) (pc' := 155) rfl (hb hby at_151) (by decide) (by decide) k) ?_
          show own_E p e below _ T28 (mkF m 155 #[.val (.long q1), .second, .val (.long q2), .second, .val (.long q3), .second, .val (.long q4), .second, iv p5, iv 0, iv 0, iv 0, .val (.long (q1 ||| (1 : Int64))), .second, .val (.long (q2 ||| (1 : Int64))), .second, .val (.long (q3 &&& (-2 : Int64))), .second, .val (.long (q4 &&& (9223372036854775807 : Int64))), .second, rv b4, iv 0] [.int 1])
          refine own_retS X28 hx Bd.notSynchronized Bd.returns rfl (by decide) (hb hby at_155) (by decide) (by decide) ?_
          exact ⟨rfl, N28⟩
        · refine own_tr st28 ?_
          show own_E p e below _ T28 (mkF m 145 #[.val (.long q1), .second, .val (.long q2), .second, .val (.long q3), .second, .val (.long q4), .second, iv p5, iv 0, iv 0, iv 0, .val (.long (q1 ||| (1 : Int64))), .second, .val (.long (q2 ||| (1 : Int64))), .second, .val (.long (q3 &&& (-2 : Int64))), .second, .val (.long (q4 &&& (9223372036854775807 : Int64))), .second, rv b4, iv 0] [.int 0])
          refine own_st (fun t k => XS.iload X28.here hx rfl (hb hby at_145) rfl k) ?_
          show own_E p e below _ T28 (mkF m 147 #[.val (.long q1), .second, .val (.long q2), .second, .val (.long q3), .second, .val (.long q4), .second, iv p5, iv 0, iv 0, iv 0, .val (.long (q1 ||| (1 : Int64))), .second, .val (.long (q2 ||| (1 : Int64))), .second, .val (.long (q3 &&& (-2 : Int64))), .second, .val (.long (q4 &&& (9223372036854775807 : Int64))), .second, rv b4, iv 0] [.int 0, .int 0])
          refine own_st (fun t k => XS.icmpNo X28.here hx rfl (hb hby at_147) rfl (by decide) k) ?_
          show own_E p e below _ T28 (mkF m 150 #[.val (.long q1), .second, .val (.long q2), .second, .val (.long q3), .second, .val (.long q4), .second, iv p5, iv 0, iv 0, iv 0, .val (.long (q1 ||| (1 : Int64))), .second, .val (.long (q2 ||| (1 : Int64))), .second, .val (.long (q3 &&& (-2 : Int64))), .second, .val (.long (q4 &&& (9223372036854775807 : Int64))), .second, rv b4, iv 0] [])
          refine own_st (fun t k => XS.iconst X28.here hx rfl (hb hby at_150) k) ?_
          show own_E p e below _ T28 (mkF m 151 #[.val (.long q1), .second, .val (.long q2), .second, .val (.long q3), .second, .val (.long q4), .second, iv p5, iv 0, iv 0, iv 0, .val (.long (q1 ||| (1 : Int64))), .second, .val (.long (q2 ||| (1 : Int64))), .second, .val (.long (q3 &&& (-2 : Int64))), .second, .val (.long (q4 &&& (9223372036854775807 : Int64))), .second, rv b4, iv 0] [.int 1])
          refine own_st (fun t k => XS.goto X28.here hx rfl (pc0 := 151) (pc' := 155) rfl (hb hby at_151) (by decide) (by decide) k) ?_
          show own_E p e below _ T28 (mkF m 155 #[.val (.long q1), .second, .val (.long q2), .second, .val (.long q3), .second, .val (.long q4), .second, iv p5, iv 0, iv 0, iv 0, .val (.long (q1 ||| (1 : Int64))), .second, .val (.long (q2 ||| (1 : Int64))), .second, .val (.long (q3 &&& (-2 : Int64))), .second, .val (.long (q4 &&& (9223372036854775807 : Int64))), .second, rv b4, iv 0] [.int 1])
          refine own_retS X28 hx Bd.notSynchronized Bd.returns rfl (by decide) (hb hby at_155) (by decide) (by decide) ?_
          exact ⟨rfl, N28⟩
      · refine own_st (fun t k => XS.ifNo X0.here hx rfl (hb hby at_32) rfl ((if0 _ _).trans (feq hc3).1) k) ?_
        show own_E p e below _ s₁ (mkF m 35 #[.val (.long q1), .second, .val (.long q2), .second, .val (.long q3), .second, .val (.long q4), .second, iv p5, iv 0, iv 0, .unset, .unset, .unset, .unset, .unset, .unset, .unset, .unset, .unset, .unset, .unset] [])
        refine own_st (fun t k => XS.iconst X0.here hx rfl (hb hby at_35) k) ?_
        show own_E p e below _ s₁ (mkF m 36 #[.val (.long q1), .second, .val (.long q2), .second, .val (.long q3), .second, .val (.long q4), .second, iv p5, iv 0, iv 0, .unset, .unset, .unset, .unset, .unset, .unset, .unset, .unset, .unset, .unset, .unset] [.int 1])
        refine own_st (fun t k => XS.goto X0.here hx rfl (pc0 := 36) (pc' := 40) rfl (hb hby at_36) (by decide) (by decide) k) ?_
        show own_E p e below _ s₁ (mkF m 40 #[.val (.long q1), .second, .val (.long q2), .second, .val (.long q3), .second, .val (.long q4), .second, iv p5, iv 0, iv 0, .unset, .unset, .unset, .unset, .unset, .unset, .unset, .unset, .unset, .unset, .unset] [.int 1])
        refine own_st (fun t k => XS.istore X0.here hx rfl (hb hby at_40) rfl (l' := #[.val (.long q1), .second, .val (.long q2), .second, .val (.long q3), .second, .val (.long q4), .second, iv p5, iv 0, iv 0, iv 1, .unset, .unset, .unset, .unset, .unset, .unset, .unset, .unset, .unset, .unset]) rfl k) ?_
        show own_E p e below _ s₁ (mkF m 42 #[.val (.long q1), .second, .val (.long q2), .second, .val (.long q3), .second, .val (.long q4), .second, iv p5, iv 0, iv 0, iv 1, .unset, .unset, .unset, .unset, .unset, .unset, .unset, .unset, .unset, .unset] [])
        refine own_st (fun t k => XS.iload X0.here hx rfl (hb hby at_42) rfl k) ?_
        show own_E p e below _ s₁ (mkF m 44 #[.val (.long q1), .second, .val (.long q2), .second, .val (.long q3), .second, .val (.long q4), .second, iv p5, iv 0, iv 0, iv 1, .unset, .unset, .unset, .unset, .unset, .unset, .unset, .unset, .unset, .unset] [.int 0])
        refine own_st (fun t k => XS.ifYes X0.here hx rfl (pc0 := 44) (pc' := 53) rfl (hb hby at_44) rfl (by decide) (by decide) (by decide) k) ?_
        show own_E p e below _ s₁ (mkF m 53 #[.val (.long q1), .second, .val (.long q2), .second, .val (.long q3), .second, .val (.long q4), .second, iv p5, iv 0, iv 0, iv 1, .unset, .unset, .unset, .unset, .unset, .unset, .unset, .unset, .unset, .unset] [])
        refine own_st (fun t k => XS.lloadN X0.here hx rfl (hb hby at_53) rfl k) ?_
        show own_E p e below _ s₁ (mkF m 54 #[.val (.long q1), .second, .val (.long q2), .second, .val (.long q3), .second, .val (.long q4), .second, iv p5, iv 0, iv 0, iv 1, .unset, .unset, .unset, .unset, .unset, .unset, .unset, .unset, .unset, .unset] [.long q1])
        refine own_st (fun t k => XS.lconst X0.here hx rfl (hb hby at_54) k) ?_
        show own_E p e below _ s₁ (mkF m 55 #[.val (.long q1), .second, .val (.long q2), .second, .val (.long q3), .second, .val (.long q4), .second, iv p5, iv 0, iv 0, iv 1, .unset, .unset, .unset, .unset, .unset, .unset, .unset, .unset, .unset, .unset] [.long 1, .long q1])
        refine own_st (fun t k => XS.lor X0.here hx rfl (hb hby at_55) rfl k) ?_
        show own_E p e below _ s₁ (mkF m 56 #[.val (.long q1), .second, .val (.long q2), .second, .val (.long q3), .second, .val (.long q4), .second, iv p5, iv 0, iv 0, iv 1, .unset, .unset, .unset, .unset, .unset, .unset, .unset, .unset, .unset, .unset] [.long (q1 ||| (1 : Int64))])
        refine own_st (fun t k => XS.lstore X0.here hx rfl (hb hby at_56) rfl (l' := #[.val (.long q1), .second, .val (.long q2), .second, .val (.long q3), .second, .val (.long q4), .second, iv p5, iv 0, iv 0, iv 1, .val (.long (q1 ||| (1 : Int64))), .second, .unset, .unset, .unset, .unset, .unset, .unset, .unset, .unset]) rfl k) ?_
        show own_E p e below _ s₁ (mkF m 58 #[.val (.long q1), .second, .val (.long q2), .second, .val (.long q3), .second, .val (.long q4), .second, iv p5, iv 0, iv 0, iv 1, .val (.long (q1 ||| (1 : Int64))), .second, .unset, .unset, .unset, .unset, .unset, .unset, .unset, .unset] [])
        refine own_st (fun t k => XS.iload X0.here hx rfl (hb hby at_58) rfl k) ?_
        show own_E p e below _ s₁ (mkF m 60 #[.val (.long q1), .second, .val (.long q2), .second, .val (.long q3), .second, .val (.long q4), .second, iv p5, iv 0, iv 0, iv 1, .val (.long (q1 ||| (1 : Int64))), .second, .unset, .unset, .unset, .unset, .unset, .unset, .unset, .unset] [.int 0])
        refine own_st (fun t k => XS.ifYes X0.here hx rfl (pc0 := 60) (pc' := 69) rfl (hb hby at_60) rfl (by decide) (by decide) (by decide) k) ?_
        show own_E p e below _ s₁ (mkF m 69 #[.val (.long q1), .second, .val (.long q2), .second, .val (.long q3), .second, .val (.long q4), .second, iv p5, iv 0, iv 0, iv 1, .val (.long (q1 ||| (1 : Int64))), .second, .unset, .unset, .unset, .unset, .unset, .unset, .unset, .unset] [])
        refine own_st (fun t k => XS.lloadN X0.here hx rfl (hb hby at_69) rfl k) ?_
        show own_E p e below _ s₁ (mkF m 70 #[.val (.long q1), .second, .val (.long q2), .second, .val (.long q3), .second, .val (.long q4), .second, iv p5, iv 0, iv 0, iv 1, .val (.long (q1 ||| (1 : Int64))), .second, .unset, .unset, .unset, .unset, .unset, .unset, .unset, .unset] [.long q2])
        refine own_st (fun t k => XS.lconst X0.here hx rfl (hb hby at_70) k) ?_
        show own_E p e below _ s₁ (mkF m 71 #[.val (.long q1), .second, .val (.long q2), .second, .val (.long q3), .second, .val (.long q4), .second, iv p5, iv 0, iv 0, iv 1, .val (.long (q1 ||| (1 : Int64))), .second, .unset, .unset, .unset, .unset, .unset, .unset, .unset, .unset] [.long 1, .long q2])
        refine own_st (fun t k => XS.lor X0.here hx rfl (hb hby at_71) rfl k) ?_
        show own_E p e below _ s₁ (mkF m 72 #[.val (.long q1), .second, .val (.long q2), .second, .val (.long q3), .second, .val (.long q4), .second, iv p5, iv 0, iv 0, iv 1, .val (.long (q1 ||| (1 : Int64))), .second, .unset, .unset, .unset, .unset, .unset, .unset, .unset, .unset] [.long (q2 ||| (1 : Int64))])
        refine own_st (fun t k => XS.lstore X0.here hx rfl (hb hby at_72) rfl (l' := #[.val (.long q1), .second, .val (.long q2), .second, .val (.long q3), .second, .val (.long q4), .second, iv p5, iv 0, iv 0, iv 1, .val (.long (q1 ||| (1 : Int64))), .second, .val (.long (q2 ||| (1 : Int64))), .second, .unset, .unset, .unset, .unset, .unset, .unset]) rfl k) ?_
        show own_E p e below _ s₁ (mkF m 74 #[.val (.long q1), .second, .val (.long q2), .second, .val (.long q3), .second, .val (.long q4), .second, iv p5, iv 0, iv 0, iv 1, .val (.long (q1 ||| (1 : Int64))), .second, .val (.long (q2 ||| (1 : Int64))), .second, .unset, .unset, .unset, .unset, .unset, .unset] [])
        refine own_st (fun t k => XS.iload X0.here hx rfl (hb hby at_74) rfl k) ?_
        show own_E p e below _ s₁ (mkF m 76 #[.val (.long q1), .second, .val (.long q2), .second, .val (.long q3), .second, .val (.long q4), .second, iv p5, iv 0, iv 0, iv 1, .val (.long (q1 ||| (1 : Int64))), .second, .val (.long (q2 ||| (1 : Int64))), .second, .unset, .unset, .unset, .unset, .unset, .unset] [.int 1])
        refine own_st (fun t k => XS.ifNo X0.here hx rfl (hb hby at_76) rfl (by decide) k) ?_
        show own_E p e below _ s₁ (mkF m 79 #[.val (.long q1), .second, .val (.long q2), .second, .val (.long q3), .second, .val (.long q4), .second, iv p5, iv 0, iv 0, iv 1, .val (.long (q1 ||| (1 : Int64))), .second, .val (.long (q2 ||| (1 : Int64))), .second, .unset, .unset, .unset, .unset, .unset, .unset] [])
        refine own_st (X0.ldc2Long hx hown (mvT hZ (own_w hw 2 rfl)) (g := (mkF m 79 #[.val (.long q1), .second, .val (.long q2), .second, .val (.long q3), .second, .val (.long q4), .second, iv p5, iv 0, iv 0, iv 1, .val (.long (q1 ||| (1 : Int64))), .second, .val (.long (q2 ||| (1 : Int64))), .second, .unset, .unset, .unset, .unset, .unset, .unset] [])) rfl (hb hby at_79)) ?_
        show own_E p e below _ s₁ (mkF m 82 #[.val (.long q1), .second, .val (.long q2), .second, .val (.long q3), .second, .val (.long q4), .second, iv p5, iv 0, iv 0, iv 1, .val (.long (q1 ||| (1 : Int64))), .second, .val (.long (q2 ||| (1 : Int64))), .second, .unset, .unset, .unset, .unset, .unset, .unset] [.long 9223372036854775807])
        refine own_st (fun t k => XS.goto X0.here hx rfl (pc0 := 82) (pc' := 91) rfl (hb hby at_82) (by decide) (by decide) k) ?_
        show own_E p e below _ s₁ (mkF m 91 #[.val (.long q1), .second, .val (.long q2), .second, .val (.long q3), .second, .val (.long q4), .second, iv p5, iv 0, iv 0, iv 1, .val (.long (q1 ||| (1 : Int64))), .second, .val (.long (q2 ||| (1 : Int64))), .second, .unset, .unset, .unset, .unset, .unset, .unset] [.long 9223372036854775807])
        refine own_st (fun t k => XS.lstore X0.here hx rfl (hb hby at_91) rfl (l' := #[.val (.long q1), .second, .val (.long q2), .second, .val (.long q3), .second, .val (.long q4), .second, iv p5, iv 0, iv 0, iv 1, .val (.long (q1 ||| (1 : Int64))), .second, .val (.long (q2 ||| (1 : Int64))), .second, .val (.long 9223372036854775807), .second, .unset, .unset, .unset, .unset]) rfl k) ?_
        show own_E p e below _ s₁ (mkF m 93 #[.val (.long q1), .second, .val (.long q2), .second, .val (.long q3), .second, .val (.long q4), .second, iv p5, iv 0, iv 0, iv 1, .val (.long (q1 ||| (1 : Int64))), .second, .val (.long (q2 ||| (1 : Int64))), .second, .val (.long 9223372036854775807), .second, .unset, .unset, .unset, .unset] [])
        refine own_st (fun t k => XS.lload X0.here hx rfl (hb hby at_93) rfl k) ?_
        show own_E p e below _ s₁ (mkF m 95 #[.val (.long q1), .second, .val (.long q2), .second, .val (.long q3), .second, .val (.long q4), .second, iv p5, iv 0, iv 0, iv 1, .val (.long (q1 ||| (1 : Int64))), .second, .val (.long (q2 ||| (1 : Int64))), .second, .val (.long 9223372036854775807), .second, .unset, .unset, .unset, .unset] [.long q4])
        refine own_st (X0.ldc2Long hx hown (mvT hZ (own_w hw 2 rfl)) (g := (mkF m 95 #[.val (.long q1), .second, .val (.long q2), .second, .val (.long q3), .second, .val (.long q4), .second, iv p5, iv 0, iv 0, iv 1, .val (.long (q1 ||| (1 : Int64))), .second, .val (.long (q2 ||| (1 : Int64))), .second, .val (.long 9223372036854775807), .second, .unset, .unset, .unset, .unset] [.long q4])) rfl (hb hby at_95)) ?_
        show own_E p e below _ s₁ (mkF m 98 #[.val (.long q1), .second, .val (.long q2), .second, .val (.long q3), .second, .val (.long q4), .second, iv p5, iv 0, iv 0, iv 1, .val (.long (q1 ||| (1 : Int64))), .second, .val (.long (q2 ||| (1 : Int64))), .second, .val (.long 9223372036854775807), .second, .unset, .unset, .unset, .unset] [.long 9223372036854775807, .long q4])
        refine own_st (fun t k => XS.land X0.here hx rfl (hb hby at_98) rfl k) ?_
        show own_E p e below _ s₁ (mkF m 99 #[.val (.long q1), .second, .val (.long q2), .second, .val (.long q3), .second, .val (.long q4), .second, iv p5, iv 0, iv 0, iv 1, .val (.long (q1 ||| (1 : Int64))), .second, .val (.long (q2 ||| (1 : Int64))), .second, .val (.long 9223372036854775807), .second, .unset, .unset, .unset, .unset] [.long (q4 &&& (9223372036854775807 : Int64))])
        refine own_st (fun t k => XS.lstore X0.here hx rfl (hb hby at_99) rfl (l' := #[.val (.long q1), .second, .val (.long q2), .second, .val (.long q3), .second, .val (.long q4), .second, iv p5, iv 0, iv 0, iv 1, .val (.long (q1 ||| (1 : Int64))), .second, .val (.long (q2 ||| (1 : Int64))), .second, .val (.long 9223372036854775807), .second, .val (.long (q4 &&& (9223372036854775807 : Int64))), .second, .unset, .unset]) rfl k) ?_
        show own_E p e below _ s₁ (mkF m 101 #[.val (.long q1), .second, .val (.long q2), .second, .val (.long q3), .second, .val (.long q4), .second, iv p5, iv 0, iv 0, iv 1, .val (.long (q1 ||| (1 : Int64))), .second, .val (.long (q2 ||| (1 : Int64))), .second, .val (.long 9223372036854775807), .second, .val (.long (q4 &&& (9223372036854775807 : Int64))), .second, .unset, .unset] [])
        obtain ⟨T59, h59, X59, e59, E59, A59, D59, -, st59⟩ := newO X0 hx hZ hown (own_w hw 3 rfl) (own_w hw 4 rfl) (own_w hw 5 rfl) e0 (g := (mkF m 101 #[.val (.long q1), .second, .val (.long q2), .second, .val (.long q3), .second, .val (.long q4), .second, iv p5, iv 0, iv 0, iv 1, .val (.long (q1 ||| (1 : Int64))), .second, .val (.long (q2 ||| (1 : Int64))), .second, .val (.long 9223372036854775807), .second, .val (.long (q4 &&& (9223372036854775807 : Int64))), .second, .unset, .unset] [])) rfl (hb hby at_101) (by decide) (by decide)
        obtain ⟨b59, g59⟩ : ∃ z, z = h0.size := ⟨_, rfl⟩
        rw [← g59] at A59 D59 st59
        have g_b59 : n0 ≤ b59 := Nat.le_trans Z0 (Nat.le_of_eq g59.symm)
        have Z60 := Nat.le_trans Z0 E59.1
        have F_storedFrom_b59 : Fld Z h59 b59 "com/example/brazier/brazier/store/HistoryBound" "storedFrom" "J" (.long (0 : Int64)) := D59 (Or.inr (own_w hw 18 rfl)) (ty := .long) (by decide)
        have F_currentFrom_b59 : Fld Z h59 b59 "com/example/brazier/brazier/store/HistoryBound" "currentFrom" "J" (.long (0 : Int64)) := D59 (Or.inr (own_w hw 20 rfl)) (ty := .long) (by decide)
        have F_currentTo_b59 : Fld Z h59 b59 "com/example/brazier/brazier/store/HistoryBound" "currentTo" "J" (.long (0 : Int64)) := D59 (Or.inr (own_w hw 22 rfl)) (ty := .long) (by decide)
        have F_storedUpTo_b59 : Fld Z h59 b59 "com/example/brazier/brazier/store/HistoryBound" "storedUpTo" "J" (.long (0 : Int64)) := D59 (Or.inr (own_w hw 24 rfl)) (ty := .long) (by decide)
        refine own_st st59 ?_
        show own_E p e below _ T59 (mkF m 104 #[.val (.long q1), .second, .val (.long q2), .second, .val (.long q3), .second, .val (.long q4), .second, iv p5, iv 0, iv 0, iv 1, .val (.long (q1 ||| (1 : Int64))), .second, .val (.long (q2 ||| (1 : Int64))), .second, .val (.long 9223372036854775807), .second, .val (.long (q4 &&& (9223372036854775807 : Int64))), .second, .unset, .unset] [.ref b59])
        refine own_st (fun t k => XS.dup X59.here hx rfl (hb hby at_104) rfl rfl k) ?_
        show own_E p e below _ T59 (mkF m 105 #[.val (.long q1), .second, .val (.long q2), .second, .val (.long q3), .second, .val (.long q4), .second, iv p5, iv 0, iv 0, iv 1, .val (.long (q1 ||| (1 : Int64))), .second, .val (.long (q2 ||| (1 : Int64))), .second, .val (.long 9223372036854775807), .second, .val (.long (q4 &&& (9223372036854775807 : Int64))), .second, .unset, .unset] [.ref b59, .ref b59])
        refine own_st (fun t k => XS.lload X59.here hx rfl (hb hby at_105) rfl k) ?_
        show own_E p e below _ T59 (mkF m 107 #[.val (.long q1), .second, .val (.long q2), .second, .val (.long q3), .second, .val (.long q4), .second, iv p5, iv 0, iv 0, iv 1, .val (.long (q1 ||| (1 : Int64))), .second, .val (.long (q2 ||| (1 : Int64))), .second, .val (.long 9223372036854775807), .second, .val (.long (q4 &&& (9223372036854775807 : Int64))), .second, .unset, .unset] [.long (q1 ||| (1 : Int64)), .ref b59, .ref b59])
        refine own_st (fun t k => XS.lload X59.here hx rfl (hb hby at_107) rfl k) ?_
        show own_E p e below _ T59 (mkF m 109 #[.val (.long q1), .second, .val (.long q2), .second, .val (.long q3), .second, .val (.long q4), .second, iv p5, iv 0, iv 0, iv 1, .val (.long (q1 ||| (1 : Int64))), .second, .val (.long (q2 ||| (1 : Int64))), .second, .val (.long 9223372036854775807), .second, .val (.long (q4 &&& (9223372036854775807 : Int64))), .second, .unset, .unset] [.long (q2 ||| (1 : Int64)), .long (q1 ||| (1 : Int64)), .ref b59, .ref b59])
        refine own_st (fun t k => XS.lload X59.here hx rfl (hb hby at_109) rfl k) ?_
        show own_E p e below _ T59 (mkF m 111 #[.val (.long q1), .second, .val (.long q2), .second, .val (.long q3), .second, .val (.long q4), .second, iv p5, iv 0, iv 0, iv 1, .val (.long (q1 ||| (1 : Int64))), .second, .val (.long (q2 ||| (1 : Int64))), .second, .val (.long 9223372036854775807), .second, .val (.long (q4 &&& (9223372036854775807 : Int64))), .second, .unset, .unset] [.long 9223372036854775807, .long (q2 ||| (1 : Int64)), .long (q1 ||| (1 : Int64)), .ref b59, .ref b59])
        refine own_st (fun t k => XS.lload X59.here hx rfl (hb hby at_111) rfl k) ?_
        show own_E p e below _ T59 (mkF m 113 #[.val (.long q1), .second, .val (.long q2), .second, .val (.long q3), .second, .val (.long q4), .second, iv p5, iv 0, iv 0, iv 1, .val (.long (q1 ||| (1 : Int64))), .second, .val (.long (q2 ||| (1 : Int64))), .second, .val (.long 9223372036854775807), .second, .val (.long (q4 &&& (9223372036854775807 : Int64))), .second, .unset, .unset] [.long (q4 &&& (9223372036854775807 : Int64)), .long 9223372036854775807, .long (q2 ||| (1 : Int64)), .long (q1 ||| (1 : Int64)), .ref b59, .ref b59])
        have hv61 : ¬ ((q4 &&& (9223372036854775807 : Int64)) < (0 : Int64)) := by
          rw [Int64.lt_iff_toInt_lt]
          have f62 := rng32 p5
          have f63 : (1 : Int32).toInt = 1 := rfl
          have f64 := rng32 (p5 &&& (1 : Int32))
          have f65 : (p5 &&& (1 : Int32)).toInt = p5.toInt % 2 := c_mask p5 (1 : Int32) 1 (by decide) (by decide)
          have f66 : (0 : Int32).toInt = 0 := rfl
          have f67 : (2 : Int32).toInt = 2 := rfl
          have f68 := rng32 (p5 &&& (2 : Int32))
          have f69 := c_and p5 (2 : Int32) (by decide)
          have f70 : (4 : Int32).toInt = 4 := rfl
          have f71 := rng32 (p5 &&& (4 : Int32))
          have f72 := c_and p5 (4 : Int32) (by decide)
          have f73 := rng64 q4
          have f74 : (9223372036854775807 : Int64).toInt = 9223372036854775807 := rfl
          have f75 := rng64 (q4 &&& (9223372036854775807 : Int64))
          have f76 : (q4 &&& (9223372036854775807 : Int64)).toInt = q4.toInt % 9223372036854775808 := c_maskL q4 (9223372036854775807 : Int64) 63 (by decide) (by decide)
          have f77 : (0 : Int64).toInt = 0 := rfl
          have g78 := hc1
          rw [← Int32.toInt_inj] at g78
          have g79 := hc2
          rw [← Int32.toInt_inj] at g79
          have g80 := hc3
          rw [← Int32.toInt_inj] at g80
          omega
        obtain ⟨_, _, ⟨T81, L81, k81, n81⟩, -, X81, ⟨Lc81, hQ81, l81, y81, z81⟩, st81⟩ := X59.specialBack hx (y := own_y1) rfl hown (mvT hZ (own_w hw 6 rfl)) (mvT hZ (own_w hw 7 rfl)) (mvT hZ (own_w hw 8 rfl)) (by decide) (backOf (W := 1) (own_init l Z a0 hw [] b59 (q1 ||| (1 : Int64)) (q2 ||| (1 : Int64)) (9223372036854775807 : Int64) (q4 &&& (9223372036854775807 : Int64)) h59 n0 Z60 A59 F_storedFrom_b59 F_currentFrom_b59 F_currentTo_b59 F_storedUpTo_b59 hv61 g_b59) hZ (own_w hw 8 rfl) (own_w hw 5 rfl) (by decide) (by decide)) (g := (mkF m 113 #[.val (.long q1), .second, .val (.long q2), .second, .val (.long q3), .second, .val (.long q4), .second, iv p5, iv 0, iv 0, iv 1, .val (.long (q1 ||| (1 : Int64))), .second, .val (.long (q2 ||| (1 : Int64))), .second, .val (.long 9223372036854775807), .second, .val (.long (q4 &&& (9223372036854775807 : Int64))), .second, .unset, .unset] [.long (q4 &&& (9223372036854775807 : Int64)), .long 9223372036854775807, .long (q2 ||| (1 : Int64)), .long (q1 ||| (1 : Int64)), .ref b59, .ref b59])) rfl (by rw [hml]; rfl) (Steps.refl _) (a := b59) (argsL := [(.long (q1 ||| (1 : Int64))), (.long (q2 ||| (1 : Int64))), (.long (9223372036854775807 : Int64)), (.long (q4 &&& (9223372036854775807 : Int64)))]) (rest := [(.ref b59)]) (lenOf own_pd_2 rfl) rfl (by show 2 * 0 + _ ≤ _; exact Nat.le_of_eq rfl) (hb hby at_113) (fun _ _ => ⟨rfl, e59, (by decide : 1 + 0 ≤ _), (by decide : 4 + 0 ≤ _)⟩)
        dsimp only [Pt.U, Pt.locs, Pt.cells, Pt.slots] at X81 l81 y81 z81 st81 hQ81
        subst l81 y81 z81
        obtain ⟨rfl, Nq81, Kq81, P81_0, P81_1, P81_2, P81_3, P81_4⟩ := hQ81
        have N81 := Fr.app (Fr.nil n0) Nq81
        have e81 : T81.heap = T81.heap := rfl
        have Z82 := Nat.le_trans Z60 Kq81.1
        refine own_tr st81 ?_
        show own_E p e below _ T81 (mkF m 116 #[.val (.long q1), .second, .val (.long q2), .second, .val (.long q3), .second, .val (.long q4), .second, iv p5, iv 0, iv 0, iv 1, .val (.long (q1 ||| (1 : Int64))), .second, .val (.long (q2 ||| (1 : Int64))), .second, .val (.long 9223372036854775807), .second, .val (.long (q4 &&& (9223372036854775807 : Int64))), .second, .unset, .unset] [.ref b59])
        refine own_st (fun t k => XS.astore X81.here hx rfl (hb hby at_116) rfl rfl (l' := #[.val (.long q1), .second, .val (.long q2), .second, .val (.long q3), .second, .val (.long q4), .second, iv p5, iv 0, iv 0, iv 1, .val (.long (q1 ||| (1 : Int64))), .second, .val (.long (q2 ||| (1 : Int64))), .second, .val (.long 9223372036854775807), .second, .val (.long (q4 &&& (9223372036854775807 : Int64))), .second, rv b59, .unset]) rfl k) ?_
        show own_E p e below _ T81 (mkF m 118 #[.val (.long q1), .second, .val (.long q2), .second, .val (.long q3), .second, .val (.long q4), .second, iv p5, iv 0, iv 0, iv 1, .val (.long (q1 ||| (1 : Int64))), .second, .val (.long (q2 ||| (1 : Int64))), .second, .val (.long 9223372036854775807), .second, .val (.long (q4 &&& (9223372036854775807 : Int64))), .second, rv b59, .unset] [])
        refine own_st (fun t k => XS.iload X81.here hx rfl (hb hby at_118) rfl k) ?_
        show own_E p e below _ T81 (mkF m 120 #[.val (.long q1), .second, .val (.long q2), .second, .val (.long q3), .second, .val (.long q4), .second, iv p5, iv 0, iv 0, iv 1, .val (.long (q1 ||| (1 : Int64))), .second, .val (.long (q2 ||| (1 : Int64))), .second, .val (.long 9223372036854775807), .second, .val (.long (q4 &&& (9223372036854775807 : Int64))), .second, rv b59, .unset] [.int 0])
        refine own_st (fun t k => XS.ifYes X81.here hx rfl (pc0 := 120) (pc' := 137) rfl (hb hby at_120) rfl (by decide) (by decide) (by decide) k) ?_
        show own_E p e below _ T81 (mkF m 137 #[.val (.long q1), .second, .val (.long q2), .second, .val (.long q3), .second, .val (.long q4), .second, iv p5, iv 0, iv 0, iv 1, .val (.long (q1 ||| (1 : Int64))), .second, .val (.long (q2 ||| (1 : Int64))), .second, .val (.long 9223372036854775807), .second, .val (.long (q4 &&& (9223372036854775807 : Int64))), .second, rv b59, .unset] [])
        refine own_st (fun t k => XS.iconst X81.here hx rfl (hb hby at_137) k) ?_
        show own_E p e below _ T81 (mkF m 138 #[.val (.long q1), .second, .val (.long q2), .second, .val (.long q3), .second, .val (.long q4), .second, iv p5, iv 0, iv 0, iv 1, .val (.long (q1 ||| (1 : Int64))), .second, .val (.long (q2 ||| (1 : Int64))), .second, .val (.long 9223372036854775807), .second, .val (.long (q4 &&& (9223372036854775807 : Int64))), .second, rv b59, .unset] [.int 0])
        refine own_st (fun t k => XS.istore X81.here hx rfl (hb hby at_138) rfl (l' := #[.val (.long q1), .second, .val (.long q2), .second, .val (.long q3), .second, .val (.long q4), .second, iv p5, iv 0, iv 0, iv 1, .val (.long (q1 ||| (1 : Int64))), .second, .val (.long (q2 ||| (1 : Int64))), .second, .val (.long 9223372036854775807), .second, .val (.long (q4 &&& (9223372036854775807 : Int64))), .second, rv b59, iv 0]) rfl k) ?_
        show own_E p e below _ T81 (mkF m 140 #[.val (.long q1), .second, .val (.long q2), .second, .val (.long q3), .second, .val (.long q4), .second, iv p5, iv 0, iv 0, iv 1, .val (.long (q1 ||| (1 : Int64))), .second, .val (.long (q2 ||| (1 : Int64))), .second, .val (.long 9223372036854775807), .second, .val (.long (q4 &&& (9223372036854775807 : Int64))), .second, rv b59, iv 0] [])
        refine own_st (fun t k => XS.aload X81.here hx rfl (hb hby at_140) rfl rfl k) ?_
        show own_E p e below _ T81 (mkF m 142 #[.val (.long q1), .second, .val (.long q2), .second, .val (.long q3), .second, .val (.long q4), .second, iv p5, iv 0, iv 0, iv 1, .val (.long (q1 ||| (1 : Int64))), .second, .val (.long (q2 ||| (1 : Int64))), .second, .val (.long 9223372036854775807), .second, .val (.long (q4 &&& (9223372036854775807 : Int64))), .second, rv b59, iv 0] [.ref b59])
        obtain ⟨cq83, kq83, q83a, q83b, q83c⟩ := isOf hZ e81 P81_0
        obtain ⟨_, _, ⟨T83, L83, k83, n83⟩, -, X83, ⟨Lc83, hQ83, l83, y83, z83⟩, st83⟩ := X81.virtualBack hx (y := own_y2) (z := own_y2) hown (mvT hZ (own_w hw 25 rfl)) (mvT hZ (own_w hw 26 rfl)) (notFace_of_selects (args := #[]) (mvT hZ (own_w hw 28 rfl))) (mvT hZ (own_w hw 28 rfl)) (mvT hZ (own_w hw 27 rfl)) (by decide) (backOf (W := 0) (own_every l Z a0 hw [] b59 (q1 ||| (1 : Int64)) (q2 ||| (1 : Int64)) (9223372036854775807 : Int64) T81.heap n0 Z82 P81_1 P81_2 P81_3) hZ (own_w hw 29 rfl) (own_w hw 5 rfl) (by decide) (by decide)) q83a q83c (g := (mkF m 142 #[.val (.long q1), .second, .val (.long q2), .second, .val (.long q3), .second, .val (.long q4), .second, iv p5, iv 0, iv 0, iv 1, .val (.long (q1 ||| (1 : Int64))), .second, .val (.long (q2 ||| (1 : Int64))), .second, .val (.long 9223372036854775807), .second, .val (.long (q4 &&& (9223372036854775807 : Int64))), .second, rv b59, iv 0] [.ref b59])) rfl (by rw [hml]; rfl) (Steps.refl _) (argsL := []) (rest := []) (lenOf own_pd_1 rfl) rfl (by show 2 * 0 + _ ≤ _; exact Nat.le_of_eq rfl) (hb hby at_142) (fun _ _ => ⟨rfl, e81, (by decide : 1 + 0 ≤ _), (by decide : 4 + 0 ≤ _)⟩)
        dsimp only [Pt.U, Pt.locs, Pt.cells, Pt.slots] at X83 l83 y83 z83 st83 hQ83
        subst l83 y83 z83
        obtain ⟨hR83, e83, rfl⟩ := hQ83
        have N83 := Fr.app N81 (Fr.nil n0)
        rcases hR83 with ⟨rfl, ha83_0, ha83_1, ha83_2⟩ | ⟨rfl, ha83_0, ha83_1, ha83_2⟩ | ⟨rfl, ha83_0, ha83_1⟩ | ⟨rfl, ha83_0⟩
        · refine own_tr st83 ?_
          show own_E p e below _ T83 (mkF m 145 #[.val (.long q1), .second, .val (.long q2), .second, .val (.long q3), .second, .val (.long q4), .second, iv p5, iv 0, iv 0, iv 1, .val (.long (q1 ||| (1 : Int64))), .second, .val (.long (q2 ||| (1 : Int64))), .second, .val (.long 9223372036854775807), .second, .val (.long (q4 &&& (9223372036854775807 : Int64))), .second, rv b59, iv 0] [.int 1])
          refine own_st (fun t k => XS.iload X83.here hx rfl (hb hby at_145) rfl k) ?_
          show own_E p e below _ T83 (mkF m 147 #[.val (.long q1), .second, .val (.long q2), .second, .val (.long q3), .second, .val (.long q4), .second, iv p5, iv 0, iv 0, iv 1, .val (.long (q1 ||| (1 : Int64))), .second, .val (.long (q2 ||| (1 : Int64))), .second, .val (.long 9223372036854775807), .second, .val (.long (q4 &&& (9223372036854775807 : Int64))), .second, rv b59, iv 0] [.int 0, .int 1])
          refine own_st (fun t k => XS.icmpYes X83.here hx rfl (pc0 := 147) (pc' := 154) rfl (hb hby at_147) rfl (by decide) (by decide) (by decide) k) ?_
          show own_E p e below _ T83 (mkF m 154 #[.val (.long q1), .second, .val (.long q2), .second, .val (.long q3), .second, .val (.long q4), .second, iv p5, iv 0, iv 0, iv 1, .val (.long (q1 ||| (1 : Int64))), .second, .val (.long (q2 ||| (1 : Int64))), .second, .val (.long 9223372036854775807), .second, .val (.long (q4 &&& (9223372036854775807 : Int64))), .second, rv b59, iv 0] [])
          refine own_st (fun t k => XS.iconst X83.here hx rfl (hb hby at_154) k) ?_
          show own_E p e below _ T83 (mkF m 155 #[.val (.long q1), .second, .val (.long q2), .second, .val (.long q3), .second, .val (.long q4), .second, iv p5, iv 0, iv 0, iv 1, .val (.long (q1 ||| (1 : Int64))), .second, .val (.long (q2 ||| (1 : Int64))), .second, .val (.long 9223372036854775807), .second, .val (.long (q4 &&& (9223372036854775807 : Int64))), .second, rv b59, iv 0] [.int 0])
          refine own_retS X83 hx Bd.notSynchronized Bd.returns rfl (by decide) (hb hby at_155) (by decide) (by decide) ?_
          exfalso
          have f84 := rng32 p5
          have f85 : (1 : Int32).toInt = 1 := rfl
          have f86 := rng32 (p5 &&& (1 : Int32))
          have f87 : (p5 &&& (1 : Int32)).toInt = p5.toInt % 2 := c_mask p5 (1 : Int32) 1 (by decide) (by decide)
          have f88 : (0 : Int32).toInt = 0 := rfl
          have f89 : (2 : Int32).toInt = 2 := rfl
          have f90 := rng32 (p5 &&& (2 : Int32))
          have f91 := c_and p5 (2 : Int32) (by decide)
          have f92 : (4 : Int32).toInt = 4 := rfl
          have f93 := rng32 (p5 &&& (4 : Int32))
          have f94 := c_and p5 (4 : Int32) (by decide)
          have f95 := rng64 q1
          have f96 : (1 : Int64).toInt = 1 := rfl
          have f97 := rng64 (q1 ||| (1 : Int64))
          have f98 := own_lor1 q1
          have f99 : (-9223372036854775808 : Int64).toInt = -9223372036854775808 := rfl
          have f100 := rng64 q2
          have f101 := rng64 (q2 ||| (1 : Int64))
          have f102 := own_lor1 q2
          have g103 := hc1
          rw [← Int32.toInt_inj] at g103
          have g104 := hc2
          rw [← Int32.toInt_inj] at g104
          have g105 := hc3
          rw [← Int32.toInt_inj] at g105
          have g106 := ha83_0
          rw [← Int64.toInt_inj] at g106
          have g107 := ha83_1
          rw [← Int64.toInt_inj] at g107
          omega
        · exact absurd ha83_2 (by decide)
        · refine own_tr st83 ?_
          show own_E p e below _ T83 (mkF m 145 #[.val (.long q1), .second, .val (.long q2), .second, .val (.long q3), .second, .val (.long q4), .second, iv p5, iv 0, iv 0, iv 1, .val (.long (q1 ||| (1 : Int64))), .second, .val (.long (q2 ||| (1 : Int64))), .second, .val (.long 9223372036854775807), .second, .val (.long (q4 &&& (9223372036854775807 : Int64))), .second, rv b59, iv 0] [.int 0])
          refine own_st (fun t k => XS.iload X83.here hx rfl (hb hby at_145) rfl k) ?_
          show own_E p e below _ T83 (mkF m 147 #[.val (.long q1), .second, .val (.long q2), .second, .val (.long q3), .second, .val (.long q4), .second, iv p5, iv 0, iv 0, iv 1, .val (.long (q1 ||| (1 : Int64))), .second, .val (.long (q2 ||| (1 : Int64))), .second, .val (.long 9223372036854775807), .second, .val (.long (q4 &&& (9223372036854775807 : Int64))), .second, rv b59, iv 0] [.int 0, .int 0])
          refine own_st (fun t k => XS.icmpNo X83.here hx rfl (hb hby at_147) rfl (by decide) k) ?_
          show own_E p e below _ T83 (mkF m 150 #[.val (.long q1), .second, .val (.long q2), .second, .val (.long q3), .second, .val (.long q4), .second, iv p5, iv 0, iv 0, iv 1, .val (.long (q1 ||| (1 : Int64))), .second, .val (.long (q2 ||| (1 : Int64))), .second, .val (.long 9223372036854775807), .second, .val (.long (q4 &&& (9223372036854775807 : Int64))), .second, rv b59, iv 0] [])
          refine own_st (fun t k => XS.iconst X83.here hx rfl (hb hby at_150) k) ?_
          show own_E p e below _ T83 (mkF m 151 #[.val (.long q1), .second, .val (.long q2), .second, .val (.long q3), .second, .val (.long q4), .second, iv p5, iv 0, iv 0, iv 1, .val (.long (q1 ||| (1 : Int64))), .second, .val (.long (q2 ||| (1 : Int64))), .second, .val (.long 9223372036854775807), .second, .val (.long (q4 &&& (9223372036854775807 : Int64))), .second, rv b59, iv 0] [.int 1])
          refine own_st (fun t k => XS.goto X83.here hx rfl (pc0 := 151) (pc' := 155) rfl (hb hby at_151) (by decide) (by decide) k) ?_
          show own_E p e below _ T83 (mkF m 155 #[.val (.long q1), .second, .val (.long q2), .second, .val (.long q3), .second, .val (.long q4), .second, iv p5, iv 0, iv 0, iv 1, .val (.long (q1 ||| (1 : Int64))), .second, .val (.long (q2 ||| (1 : Int64))), .second, .val (.long 9223372036854775807), .second, .val (.long (q4 &&& (9223372036854775807 : Int64))), .second, rv b59, iv 0] [.int 1])
          refine own_retS X83 hx Bd.notSynchronized Bd.returns rfl (by decide) (hb hby at_155) (by decide) (by decide) ?_
          exact ⟨rfl, N83⟩
        · refine own_tr st83 ?_
          show own_E p e below _ T83 (mkF m 145 #[.val (.long q1), .second, .val (.long q2), .second, .val (.long q3), .second, .val (.long q4), .second, iv p5, iv 0, iv 0, iv 1, .val (.long (q1 ||| (1 : Int64))), .second, .val (.long (q2 ||| (1 : Int64))), .second, .val (.long 9223372036854775807), .second, .val (.long (q4 &&& (9223372036854775807 : Int64))), .second, rv b59, iv 0] [.int 0])
          refine own_st (fun t k => XS.iload X83.here hx rfl (hb hby at_145) rfl k) ?_
          show own_E p e below _ T83 (mkF m 147 #[.val (.long q1), .second, .val (.long q2), .second, .val (.long q3), .second, .val (.long q4), .second, iv p5, iv 0, iv 0, iv 1, .val (.long (q1 ||| (1 : Int64))), .second, .val (.long (q2 ||| (1 : Int64))), .second, .val (.long 9223372036854775807), .second, .val (.long (q4 &&& (9223372036854775807 : Int64))), .second, rv b59, iv 0] [.int 0, .int 0])
          refine own_st (fun t k => XS.icmpNo X83.here hx rfl (hb hby at_147) rfl (by decide) k) ?_
          show own_E p e below _ T83 (mkF m 150 #[.val (.long q1), .second, .val (.long q2), .second, .val (.long q3), .second, .val (.long q4), .second, iv p5, iv 0, iv 0, iv 1, .val (.long (q1 ||| (1 : Int64))), .second, .val (.long (q2 ||| (1 : Int64))), .second, .val (.long 9223372036854775807), .second, .val (.long (q4 &&& (9223372036854775807 : Int64))), .second, rv b59, iv 0] [])
          refine own_st (fun t k => XS.iconst X83.here hx rfl (hb hby at_150) k) ?_
          show own_E p e below _ T83 (mkF m 151 #[.val (.long q1), .second, .val (.long q2), .second, .val (.long q3), .second, .val (.long q4), .second, iv p5, iv 0, iv 0, iv 1, .val (.long (q1 ||| (1 : Int64))), .second, .val (.long (q2 ||| (1 : Int64))), .second, .val (.long 9223372036854775807), .second, .val (.long (q4 &&& (9223372036854775807 : Int64))), .second, rv b59, iv 0] [.int 1])
          refine own_st (fun t k => XS.goto X83.here hx rfl (pc0 := 151) (pc' := 155) rfl (hb hby at_151) (by decide) (by decide) k) ?_
          show own_E p e below _ T83 (mkF m 155 #[.val (.long q1), .second, .val (.long q2), .second, .val (.long q3), .second, .val (.long q4), .second, iv p5, iv 0, iv 0, iv 1, .val (.long (q1 ||| (1 : Int64))), .second, .val (.long (q2 ||| (1 : Int64))), .second, .val (.long 9223372036854775807), .second, .val (.long (q4 &&& (9223372036854775807 : Int64))), .second, rv b59, iv 0] [.int 1])
          refine own_retS X83 hx Bd.notSynchronized Bd.returns rfl (by decide) (hb hby at_155) (by decide) (by decide) ?_
          exact ⟨rfl, N83⟩
    · refine own_st (fun t k => XS.ifNo X0.here hx rfl (hb hby at_18) rfl ((if0 _ _).trans (feq hc2).1) k) ?_
      show own_E p e below _ s₁ (mkF m 21 #[.val (.long q1), .second, .val (.long q2), .second, .val (.long q3), .second, .val (.long q4), .second, iv p5, iv 0, .unset, .unset, .unset, .unset, .unset, .unset, .unset, .unset, .unset, .unset, .unset, .unset] [])
      refine own_st (fun t k => XS.iconst X0.here hx rfl (hb hby at_21) k) ?_
      show own_E p e below _ s₁ (mkF m 22 #[.val (.long q1), .second, .val (.long q2), .second, .val (.long q3), .second, .val (.long q4), .second, iv p5, iv 0, .unset, .unset, .unset, .unset, .unset, .unset, .unset, .unset, .unset, .unset, .unset, .unset] [.int 1])
      refine own_st (fun t k => XS.goto X0.here hx rfl (pc0 := 22) (pc' := 26) rfl (hb hby at_22) (by decide) (by decide) k) ?_
      show own_E p e below _ s₁ (mkF m 26 #[.val (.long q1), .second, .val (.long q2), .second, .val (.long q3), .second, .val (.long q4), .second, iv p5, iv 0, .unset, .unset, .unset, .unset, .unset, .unset, .unset, .unset, .unset, .unset, .unset, .unset] [.int 1])
      refine own_st (fun t k => XS.istore X0.here hx rfl (hb hby at_26) rfl (l' := #[.val (.long q1), .second, .val (.long q2), .second, .val (.long q3), .second, .val (.long q4), .second, iv p5, iv 0, iv 1, .unset, .unset, .unset, .unset, .unset, .unset, .unset, .unset, .unset, .unset, .unset]) rfl k) ?_
      show own_E p e below _ s₁ (mkF m 28 #[.val (.long q1), .second, .val (.long q2), .second, .val (.long q3), .second, .val (.long q4), .second, iv p5, iv 0, iv 1, .unset, .unset, .unset, .unset, .unset, .unset, .unset, .unset, .unset, .unset, .unset] [])
      refine own_st (fun t k => XS.iload X0.here hx rfl (hb hby at_28) rfl k) ?_
      show own_E p e below _ s₁ (mkF m 30 #[.val (.long q1), .second, .val (.long q2), .second, .val (.long q3), .second, .val (.long q4), .second, iv p5, iv 0, iv 1, .unset, .unset, .unset, .unset, .unset, .unset, .unset, .unset, .unset, .unset, .unset] [.int p5])
      refine own_st (fun t k => XS.iconst X0.here hx rfl (hb hby at_30) k) ?_
      show own_E p e below _ s₁ (mkF m 31 #[.val (.long q1), .second, .val (.long q2), .second, .val (.long q3), .second, .val (.long q4), .second, iv p5, iv 0, iv 1, .unset, .unset, .unset, .unset, .unset, .unset, .unset, .unset, .unset, .unset, .unset] [.int 4, .int p5])
      refine own_st (fun t k => XS.iand X0.here hx rfl (hb hby at_31) rfl k) ?_
      show own_E p e below _ s₁ (mkF m 32 #[.val (.long q1), .second, .val (.long q2), .second, .val (.long q3), .second, .val (.long q4), .second, iv p5, iv 0, iv 1, .unset, .unset, .unset, .unset, .unset, .unset, .unset, .unset, .unset, .unset, .unset] [.int (p5 &&& (4 : Int32))])
      by_cases hc108 : (p5 &&& (4 : Int32)) = (0 : Int32)
      · refine own_st (fun t k => XS.ifYes X0.here hx rfl (pc0 := 32) (pc' := 39) rfl (hb hby at_32) rfl ((if0 _ _).trans (teq hc108).1) (by decide) (by decide) k) ?_
        show own_E p e below _ s₁ (mkF m 39 #[.val (.long q1), .second, .val (.long q2), .second, .val (.long q3), .second, .val (.long q4), .second, iv p5, iv 0, iv 1, .unset, .unset, .unset, .unset, .unset, .unset, .unset, .unset, .unset, .unset, .unset] [])
        refine own_st (fun t k => XS.iconst X0.here hx rfl (hb hby at_39) k) ?_
        show own_E p e below _ s₁ (mkF m 40 #[.val (.long q1), .second, .val (.long q2), .second, .val (.long q3), .second, .val (.long q4), .second, iv p5, iv 0, iv 1, .unset, .unset, .unset, .unset, .unset, .unset, .unset, .unset, .unset, .unset, .unset] [.int 0])
        refine own_st (fun t k => XS.istore X0.here hx rfl (hb hby at_40) rfl (l' := #[.val (.long q1), .second, .val (.long q2), .second, .val (.long q3), .second, .val (.long q4), .second, iv p5, iv 0, iv 1, iv 0, .unset, .unset, .unset, .unset, .unset, .unset, .unset, .unset, .unset, .unset]) rfl k) ?_
        show own_E p e below _ s₁ (mkF m 42 #[.val (.long q1), .second, .val (.long q2), .second, .val (.long q3), .second, .val (.long q4), .second, iv p5, iv 0, iv 1, iv 0, .unset, .unset, .unset, .unset, .unset, .unset, .unset, .unset, .unset, .unset] [])
        refine own_st (fun t k => XS.iload X0.here hx rfl (hb hby at_42) rfl k) ?_
        show own_E p e below _ s₁ (mkF m 44 #[.val (.long q1), .second, .val (.long q2), .second, .val (.long q3), .second, .val (.long q4), .second, iv p5, iv 0, iv 1, iv 0, .unset, .unset, .unset, .unset, .unset, .unset, .unset, .unset, .unset, .unset] [.int 0])
        refine own_st (fun t k => XS.ifYes X0.here hx rfl (pc0 := 44) (pc' := 53) rfl (hb hby at_44) rfl (by decide) (by decide) (by decide) k) ?_
        show own_E p e below _ s₁ (mkF m 53 #[.val (.long q1), .second, .val (.long q2), .second, .val (.long q3), .second, .val (.long q4), .second, iv p5, iv 0, iv 1, iv 0, .unset, .unset, .unset, .unset, .unset, .unset, .unset, .unset, .unset, .unset] [])
        refine own_st (fun t k => XS.lloadN X0.here hx rfl (hb hby at_53) rfl k) ?_
        show own_E p e below _ s₁ (mkF m 54 #[.val (.long q1), .second, .val (.long q2), .second, .val (.long q3), .second, .val (.long q4), .second, iv p5, iv 0, iv 1, iv 0, .unset, .unset, .unset, .unset, .unset, .unset, .unset, .unset, .unset, .unset] [.long q1])
        refine own_st (fun t k => XS.lconst X0.here hx rfl (hb hby at_54) k) ?_
        show own_E p e below _ s₁ (mkF m 55 #[.val (.long q1), .second, .val (.long q2), .second, .val (.long q3), .second, .val (.long q4), .second, iv p5, iv 0, iv 1, iv 0, .unset, .unset, .unset, .unset, .unset, .unset, .unset, .unset, .unset, .unset] [.long 1, .long q1])
        refine own_st (fun t k => XS.lor X0.here hx rfl (hb hby at_55) rfl k) ?_
        show own_E p e below _ s₁ (mkF m 56 #[.val (.long q1), .second, .val (.long q2), .second, .val (.long q3), .second, .val (.long q4), .second, iv p5, iv 0, iv 1, iv 0, .unset, .unset, .unset, .unset, .unset, .unset, .unset, .unset, .unset, .unset] [.long (q1 ||| (1 : Int64))])
        refine own_st (fun t k => XS.lstore X0.here hx rfl (hb hby at_56) rfl (l' := #[.val (.long q1), .second, .val (.long q2), .second, .val (.long q3), .second, .val (.long q4), .second, iv p5, iv 0, iv 1, iv 0, .val (.long (q1 ||| (1 : Int64))), .second, .unset, .unset, .unset, .unset, .unset, .unset, .unset, .unset]) rfl k) ?_
        show own_E p e below _ s₁ (mkF m 58 #[.val (.long q1), .second, .val (.long q2), .second, .val (.long q3), .second, .val (.long q4), .second, iv p5, iv 0, iv 1, iv 0, .val (.long (q1 ||| (1 : Int64))), .second, .unset, .unset, .unset, .unset, .unset, .unset, .unset, .unset] [])
        refine own_st (fun t k => XS.iload X0.here hx rfl (hb hby at_58) rfl k) ?_
        show own_E p e below _ s₁ (mkF m 60 #[.val (.long q1), .second, .val (.long q2), .second, .val (.long q3), .second, .val (.long q4), .second, iv p5, iv 0, iv 1, iv 0, .val (.long (q1 ||| (1 : Int64))), .second, .unset, .unset, .unset, .unset, .unset, .unset, .unset, .unset] [.int 1])
        refine own_st (fun t k => XS.ifNo X0.here hx rfl (hb hby at_60) rfl (by decide) k) ?_
        show own_E p e below _ s₁ (mkF m 63 #[.val (.long q1), .second, .val (.long q2), .second, .val (.long q3), .second, .val (.long q4), .second, iv p5, iv 0, iv 1, iv 0, .val (.long (q1 ||| (1 : Int64))), .second, .unset, .unset, .unset, .unset, .unset, .unset, .unset, .unset] [])
        refine own_st (X0.ldc2Long hx hown (mvT hZ (own_w hw 0 rfl)) (g := (mkF m 63 #[.val (.long q1), .second, .val (.long q2), .second, .val (.long q3), .second, .val (.long q4), .second, iv p5, iv 0, iv 1, iv 0, .val (.long (q1 ||| (1 : Int64))), .second, .unset, .unset, .unset, .unset, .unset, .unset, .unset, .unset] [])) rfl (hb hby at_63)) ?_
        show own_E p e below _ s₁ (mkF m 66 #[.val (.long q1), .second, .val (.long q2), .second, .val (.long q3), .second, .val (.long q4), .second, iv p5, iv 0, iv 1, iv 0, .val (.long (q1 ||| (1 : Int64))), .second, .unset, .unset, .unset, .unset, .unset, .unset, .unset, .unset] [.long (-9223372036854775808)])
        refine own_st (fun t k => XS.goto X0.here hx rfl (pc0 := 66) (pc' := 72) rfl (hb hby at_66) (by decide) (by decide) k) ?_
        show own_E p e below _ s₁ (mkF m 72 #[.val (.long q1), .second, .val (.long q2), .second, .val (.long q3), .second, .val (.long q4), .second, iv p5, iv 0, iv 1, iv 0, .val (.long (q1 ||| (1 : Int64))), .second, .unset, .unset, .unset, .unset, .unset, .unset, .unset, .unset] [.long (-9223372036854775808)])
        refine own_st (fun t k => XS.lstore X0.here hx rfl (hb hby at_72) rfl (l' := #[.val (.long q1), .second, .val (.long q2), .second, .val (.long q3), .second, .val (.long q4), .second, iv p5, iv 0, iv 1, iv 0, .val (.long (q1 ||| (1 : Int64))), .second, .val (.long (-9223372036854775808)), .second, .unset, .unset, .unset, .unset, .unset, .unset]) rfl k) ?_
        show own_E p e below _ s₁ (mkF m 74 #[.val (.long q1), .second, .val (.long q2), .second, .val (.long q3), .second, .val (.long q4), .second, iv p5, iv 0, iv 1, iv 0, .val (.long (q1 ||| (1 : Int64))), .second, .val (.long (-9223372036854775808)), .second, .unset, .unset, .unset, .unset, .unset, .unset] [])
        refine own_st (fun t k => XS.iload X0.here hx rfl (hb hby at_74) rfl k) ?_
        show own_E p e below _ s₁ (mkF m 76 #[.val (.long q1), .second, .val (.long q2), .second, .val (.long q3), .second, .val (.long q4), .second, iv p5, iv 0, iv 1, iv 0, .val (.long (q1 ||| (1 : Int64))), .second, .val (.long (-9223372036854775808)), .second, .unset, .unset, .unset, .unset, .unset, .unset] [.int 0])
        refine own_st (fun t k => XS.ifYes X0.here hx rfl (pc0 := 76) (pc' := 85) rfl (hb hby at_76) rfl (by decide) (by decide) (by decide) k) ?_
        show own_E p e below _ s₁ (mkF m 85 #[.val (.long q1), .second, .val (.long q2), .second, .val (.long q3), .second, .val (.long q4), .second, iv p5, iv 0, iv 1, iv 0, .val (.long (q1 ||| (1 : Int64))), .second, .val (.long (-9223372036854775808)), .second, .unset, .unset, .unset, .unset, .unset, .unset] [])
        refine own_st (fun t k => XS.lload X0.here hx rfl (hb hby at_85) rfl k) ?_
        show own_E p e below _ s₁ (mkF m 87 #[.val (.long q1), .second, .val (.long q2), .second, .val (.long q3), .second, .val (.long q4), .second, iv p5, iv 0, iv 1, iv 0, .val (.long (q1 ||| (1 : Int64))), .second, .val (.long (-9223372036854775808)), .second, .unset, .unset, .unset, .unset, .unset, .unset] [.long q3])
        refine own_st (X0.ldc2Long hx hown (mvT hZ (own_w hw 1 rfl)) (g := (mkF m 87 #[.val (.long q1), .second, .val (.long q2), .second, .val (.long q3), .second, .val (.long q4), .second, iv p5, iv 0, iv 1, iv 0, .val (.long (q1 ||| (1 : Int64))), .second, .val (.long (-9223372036854775808)), .second, .unset, .unset, .unset, .unset, .unset, .unset] [.long q3])) rfl (hb hby at_87)) ?_
        show own_E p e below _ s₁ (mkF m 90 #[.val (.long q1), .second, .val (.long q2), .second, .val (.long q3), .second, .val (.long q4), .second, iv p5, iv 0, iv 1, iv 0, .val (.long (q1 ||| (1 : Int64))), .second, .val (.long (-9223372036854775808)), .second, .unset, .unset, .unset, .unset, .unset, .unset] [.long (-2), .long q3])
        refine own_st (fun t k => XS.land X0.here hx rfl (hb hby at_90) rfl k) ?_
        show own_E p e below _ s₁ (mkF m 91 #[.val (.long q1), .second, .val (.long q2), .second, .val (.long q3), .second, .val (.long q4), .second, iv p5, iv 0, iv 1, iv 0, .val (.long (q1 ||| (1 : Int64))), .second, .val (.long (-9223372036854775808)), .second, .unset, .unset, .unset, .unset, .unset, .unset] [.long (q3 &&& (-2 : Int64))])
        refine own_st (fun t k => XS.lstore X0.here hx rfl (hb hby at_91) rfl (l' := #[.val (.long q1), .second, .val (.long q2), .second, .val (.long q3), .second, .val (.long q4), .second, iv p5, iv 0, iv 1, iv 0, .val (.long (q1 ||| (1 : Int64))), .second, .val (.long (-9223372036854775808)), .second, .val (.long (q3 &&& (-2 : Int64))), .second, .unset, .unset, .unset, .unset]) rfl k) ?_
        show own_E p e below _ s₁ (mkF m 93 #[.val (.long q1), .second, .val (.long q2), .second, .val (.long q3), .second, .val (.long q4), .second, iv p5, iv 0, iv 1, iv 0, .val (.long (q1 ||| (1 : Int64))), .second, .val (.long (-9223372036854775808)), .second, .val (.long (q3 &&& (-2 : Int64))), .second, .unset, .unset, .unset, .unset] [])
        refine own_st (fun t k => XS.lload X0.here hx rfl (hb hby at_93) rfl k) ?_
        show own_E p e below _ s₁ (mkF m 95 #[.val (.long q1), .second, .val (.long q2), .second, .val (.long q3), .second, .val (.long q4), .second, iv p5, iv 0, iv 1, iv 0, .val (.long (q1 ||| (1 : Int64))), .second, .val (.long (-9223372036854775808)), .second, .val (.long (q3 &&& (-2 : Int64))), .second, .unset, .unset, .unset, .unset] [.long q4])
        refine own_st (X0.ldc2Long hx hown (mvT hZ (own_w hw 2 rfl)) (g := (mkF m 95 #[.val (.long q1), .second, .val (.long q2), .second, .val (.long q3), .second, .val (.long q4), .second, iv p5, iv 0, iv 1, iv 0, .val (.long (q1 ||| (1 : Int64))), .second, .val (.long (-9223372036854775808)), .second, .val (.long (q3 &&& (-2 : Int64))), .second, .unset, .unset, .unset, .unset] [.long q4])) rfl (hb hby at_95)) ?_
        show own_E p e below _ s₁ (mkF m 98 #[.val (.long q1), .second, .val (.long q2), .second, .val (.long q3), .second, .val (.long q4), .second, iv p5, iv 0, iv 1, iv 0, .val (.long (q1 ||| (1 : Int64))), .second, .val (.long (-9223372036854775808)), .second, .val (.long (q3 &&& (-2 : Int64))), .second, .unset, .unset, .unset, .unset] [.long 9223372036854775807, .long q4])
        refine own_st (fun t k => XS.land X0.here hx rfl (hb hby at_98) rfl k) ?_
        show own_E p e below _ s₁ (mkF m 99 #[.val (.long q1), .second, .val (.long q2), .second, .val (.long q3), .second, .val (.long q4), .second, iv p5, iv 0, iv 1, iv 0, .val (.long (q1 ||| (1 : Int64))), .second, .val (.long (-9223372036854775808)), .second, .val (.long (q3 &&& (-2 : Int64))), .second, .unset, .unset, .unset, .unset] [.long (q4 &&& (9223372036854775807 : Int64))])
        refine own_st (fun t k => XS.lstore X0.here hx rfl (hb hby at_99) rfl (l' := #[.val (.long q1), .second, .val (.long q2), .second, .val (.long q3), .second, .val (.long q4), .second, iv p5, iv 0, iv 1, iv 0, .val (.long (q1 ||| (1 : Int64))), .second, .val (.long (-9223372036854775808)), .second, .val (.long (q3 &&& (-2 : Int64))), .second, .val (.long (q4 &&& (9223372036854775807 : Int64))), .second, .unset, .unset]) rfl k) ?_
        show own_E p e below _ s₁ (mkF m 101 #[.val (.long q1), .second, .val (.long q2), .second, .val (.long q3), .second, .val (.long q4), .second, iv p5, iv 0, iv 1, iv 0, .val (.long (q1 ||| (1 : Int64))), .second, .val (.long (-9223372036854775808)), .second, .val (.long (q3 &&& (-2 : Int64))), .second, .val (.long (q4 &&& (9223372036854775807 : Int64))), .second, .unset, .unset] [])
        obtain ⟨T109, h109, X109, e109, E109, A109, D109, -, st109⟩ := newO X0 hx hZ hown (own_w hw 3 rfl) (own_w hw 4 rfl) (own_w hw 5 rfl) e0 (g := (mkF m 101 #[.val (.long q1), .second, .val (.long q2), .second, .val (.long q3), .second, .val (.long q4), .second, iv p5, iv 0, iv 1, iv 0, .val (.long (q1 ||| (1 : Int64))), .second, .val (.long (-9223372036854775808)), .second, .val (.long (q3 &&& (-2 : Int64))), .second, .val (.long (q4 &&& (9223372036854775807 : Int64))), .second, .unset, .unset] [])) rfl (hb hby at_101) (by decide) (by decide)
        obtain ⟨b109, g109⟩ : ∃ z, z = h0.size := ⟨_, rfl⟩
        rw [← g109] at A109 D109 st109
        have g_b109 : n0 ≤ b109 := Nat.le_trans Z0 (Nat.le_of_eq g109.symm)
        have Z110 := Nat.le_trans Z0 E109.1
        have F_storedFrom_b109 : Fld Z h109 b109 "com/example/brazier/brazier/store/HistoryBound" "storedFrom" "J" (.long (0 : Int64)) := D109 (Or.inr (own_w hw 18 rfl)) (ty := .long) (by decide)
        have F_currentFrom_b109 : Fld Z h109 b109 "com/example/brazier/brazier/store/HistoryBound" "currentFrom" "J" (.long (0 : Int64)) := D109 (Or.inr (own_w hw 20 rfl)) (ty := .long) (by decide)
        have F_currentTo_b109 : Fld Z h109 b109 "com/example/brazier/brazier/store/HistoryBound" "currentTo" "J" (.long (0 : Int64)) := D109 (Or.inr (own_w hw 22 rfl)) (ty := .long) (by decide)
        have F_storedUpTo_b109 : Fld Z h109 b109 "com/example/brazier/brazier/store/HistoryBound" "storedUpTo" "J" (.long (0 : Int64)) := D109 (Or.inr (own_w hw 24 rfl)) (ty := .long) (by decide)
        refine own_st st109 ?_
        show own_E p e below _ T109 (mkF m 104 #[.val (.long q1), .second, .val (.long q2), .second, .val (.long q3), .second, .val (.long q4), .second, iv p5, iv 0, iv 1, iv 0, .val (.long (q1 ||| (1 : Int64))), .second, .val (.long (-9223372036854775808)), .second, .val (.long (q3 &&& (-2 : Int64))), .second, .val (.long (q4 &&& (9223372036854775807 : Int64))), .second, .unset, .unset] [.ref b109])
        refine own_st (fun t k => XS.dup X109.here hx rfl (hb hby at_104) rfl rfl k) ?_
        show own_E p e below _ T109 (mkF m 105 #[.val (.long q1), .second, .val (.long q2), .second, .val (.long q3), .second, .val (.long q4), .second, iv p5, iv 0, iv 1, iv 0, .val (.long (q1 ||| (1 : Int64))), .second, .val (.long (-9223372036854775808)), .second, .val (.long (q3 &&& (-2 : Int64))), .second, .val (.long (q4 &&& (9223372036854775807 : Int64))), .second, .unset, .unset] [.ref b109, .ref b109])
        refine own_st (fun t k => XS.lload X109.here hx rfl (hb hby at_105) rfl k) ?_
        show own_E p e below _ T109 (mkF m 107 #[.val (.long q1), .second, .val (.long q2), .second, .val (.long q3), .second, .val (.long q4), .second, iv p5, iv 0, iv 1, iv 0, .val (.long (q1 ||| (1 : Int64))), .second, .val (.long (-9223372036854775808)), .second, .val (.long (q3 &&& (-2 : Int64))), .second, .val (.long (q4 &&& (9223372036854775807 : Int64))), .second, .unset, .unset] [.long (q1 ||| (1 : Int64)), .ref b109, .ref b109])
        refine own_st (fun t k => XS.lload X109.here hx rfl (hb hby at_107) rfl k) ?_
        show own_E p e below _ T109 (mkF m 109 #[.val (.long q1), .second, .val (.long q2), .second, .val (.long q3), .second, .val (.long q4), .second, iv p5, iv 0, iv 1, iv 0, .val (.long (q1 ||| (1 : Int64))), .second, .val (.long (-9223372036854775808)), .second, .val (.long (q3 &&& (-2 : Int64))), .second, .val (.long (q4 &&& (9223372036854775807 : Int64))), .second, .unset, .unset] [.long (-9223372036854775808), .long (q1 ||| (1 : Int64)), .ref b109, .ref b109])
        refine own_st (fun t k => XS.lload X109.here hx rfl (hb hby at_109) rfl k) ?_
        show own_E p e below _ T109 (mkF m 111 #[.val (.long q1), .second, .val (.long q2), .second, .val (.long q3), .second, .val (.long q4), .second, iv p5, iv 0, iv 1, iv 0, .val (.long (q1 ||| (1 : Int64))), .second, .val (.long (-9223372036854775808)), .second, .val (.long (q3 &&& (-2 : Int64))), .second, .val (.long (q4 &&& (9223372036854775807 : Int64))), .second, .unset, .unset] [.long (q3 &&& (-2 : Int64)), .long (-9223372036854775808), .long (q1 ||| (1 : Int64)), .ref b109, .ref b109])
        refine own_st (fun t k => XS.lload X109.here hx rfl (hb hby at_111) rfl k) ?_
        show own_E p e below _ T109 (mkF m 113 #[.val (.long q1), .second, .val (.long q2), .second, .val (.long q3), .second, .val (.long q4), .second, iv p5, iv 0, iv 1, iv 0, .val (.long (q1 ||| (1 : Int64))), .second, .val (.long (-9223372036854775808)), .second, .val (.long (q3 &&& (-2 : Int64))), .second, .val (.long (q4 &&& (9223372036854775807 : Int64))), .second, .unset, .unset] [.long (q4 &&& (9223372036854775807 : Int64)), .long (q3 &&& (-2 : Int64)), .long (-9223372036854775808), .long (q1 ||| (1 : Int64)), .ref b109, .ref b109])
        have hv111 : ¬ ((q4 &&& (9223372036854775807 : Int64)) < (0 : Int64)) := by
          rw [Int64.lt_iff_toInt_lt]
          have f112 := rng32 p5
          have f113 : (1 : Int32).toInt = 1 := rfl
          have f114 := rng32 (p5 &&& (1 : Int32))
          have f115 : (p5 &&& (1 : Int32)).toInt = p5.toInt % 2 := c_mask p5 (1 : Int32) 1 (by decide) (by decide)
          have f116 : (0 : Int32).toInt = 0 := rfl
          have f117 : (2 : Int32).toInt = 2 := rfl
          have f118 := rng32 (p5 &&& (2 : Int32))
          have f119 := c_and p5 (2 : Int32) (by decide)
          have f120 : (4 : Int32).toInt = 4 := rfl
          have f121 := rng32 (p5 &&& (4 : Int32))
          have f122 := c_and p5 (4 : Int32) (by decide)
          have f123 := rng64 q4
          have f124 : (9223372036854775807 : Int64).toInt = 9223372036854775807 := rfl
          have f125 := rng64 (q4 &&& (9223372036854775807 : Int64))
          have f126 : (q4 &&& (9223372036854775807 : Int64)).toInt = q4.toInt % 9223372036854775808 := c_maskL q4 (9223372036854775807 : Int64) 63 (by decide) (by decide)
          have f127 : (0 : Int64).toInt = 0 := rfl
          have g128 := hc1
          rw [← Int32.toInt_inj] at g128
          have g129 := hc2
          rw [← Int32.toInt_inj] at g129
          have g130 := hc108
          rw [← Int32.toInt_inj] at g130
          omega
        obtain ⟨_, _, ⟨T131, L131, k131, n131⟩, -, X131, ⟨Lc131, hQ131, l131, y131, z131⟩, st131⟩ := X109.specialBack hx (y := own_y1) rfl hown (mvT hZ (own_w hw 6 rfl)) (mvT hZ (own_w hw 7 rfl)) (mvT hZ (own_w hw 8 rfl)) (by decide) (backOf (W := 1) (own_init l Z a0 hw [] b109 (q1 ||| (1 : Int64)) (-9223372036854775808 : Int64) (q3 &&& (-2 : Int64)) (q4 &&& (9223372036854775807 : Int64)) h109 n0 Z110 A109 F_storedFrom_b109 F_currentFrom_b109 F_currentTo_b109 F_storedUpTo_b109 hv111 g_b109) hZ (own_w hw 8 rfl) (own_w hw 5 rfl) (by decide) (by decide)) (g := (mkF m 113 #[.val (.long q1), .second, .val (.long q2), .second, .val (.long q3), .second, .val (.long q4), .second, iv p5, iv 0, iv 1, iv 0, .val (.long (q1 ||| (1 : Int64))), .second, .val (.long (-9223372036854775808)), .second, .val (.long (q3 &&& (-2 : Int64))), .second, .val (.long (q4 &&& (9223372036854775807 : Int64))), .second, .unset, .unset] [.long (q4 &&& (9223372036854775807 : Int64)), .long (q3 &&& (-2 : Int64)), .long (-9223372036854775808), .long (q1 ||| (1 : Int64)), .ref b109, .ref b109])) rfl (by rw [hml]; rfl) (Steps.refl _) (a := b109) (argsL := [(.long (q1 ||| (1 : Int64))), (.long (-9223372036854775808 : Int64)), (.long (q3 &&& (-2 : Int64))), (.long (q4 &&& (9223372036854775807 : Int64)))]) (rest := [(.ref b109)]) (lenOf own_pd_2 rfl) rfl (by show 2 * 0 + _ ≤ _; exact Nat.le_of_eq rfl) (hb hby at_113) (fun _ _ => ⟨rfl, e109, (by decide : 1 + 0 ≤ _), (by decide : 4 + 0 ≤ _)⟩)
        dsimp only [Pt.U, Pt.locs, Pt.cells, Pt.slots] at X131 l131 y131 z131 st131 hQ131
        subst l131 y131 z131
        obtain ⟨rfl, Nq131, Kq131, P131_0, P131_1, P131_2, P131_3, P131_4⟩ := hQ131
        have N131 := Fr.app (Fr.nil n0) Nq131
        have e131 : T131.heap = T131.heap := rfl
        have Z132 := Nat.le_trans Z110 Kq131.1
        refine own_tr st131 ?_
        show own_E p e below _ T131 (mkF m 116 #[.val (.long q1), .second, .val (.long q2), .second, .val (.long q3), .second, .val (.long q4), .second, iv p5, iv 0, iv 1, iv 0, .val (.long (q1 ||| (1 : Int64))), .second, .val (.long (-9223372036854775808)), .second, .val (.long (q3 &&& (-2 : Int64))), .second, .val (.long (q4 &&& (9223372036854775807 : Int64))), .second, .unset, .unset] [.ref b109])
        refine own_st (fun t k => XS.astore X131.here hx rfl (hb hby at_116) rfl rfl (l' := #[.val (.long q1), .second, .val (.long q2), .second, .val (.long q3), .second, .val (.long q4), .second, iv p5, iv 0, iv 1, iv 0, .val (.long (q1 ||| (1 : Int64))), .second, .val (.long (-9223372036854775808)), .second, .val (.long (q3 &&& (-2 : Int64))), .second, .val (.long (q4 &&& (9223372036854775807 : Int64))), .second, rv b109, .unset]) rfl k) ?_
        show own_E p e below _ T131 (mkF m 118 #[.val (.long q1), .second, .val (.long q2), .second, .val (.long q3), .second, .val (.long q4), .second, iv p5, iv 0, iv 1, iv 0, .val (.long (q1 ||| (1 : Int64))), .second, .val (.long (-9223372036854775808)), .second, .val (.long (q3 &&& (-2 : Int64))), .second, .val (.long (q4 &&& (9223372036854775807 : Int64))), .second, rv b109, .unset] [])
        refine own_st (fun t k => XS.iload X131.here hx rfl (hb hby at_118) rfl k) ?_
        show own_E p e below _ T131 (mkF m 120 #[.val (.long q1), .second, .val (.long q2), .second, .val (.long q3), .second, .val (.long q4), .second, iv p5, iv 0, iv 1, iv 0, .val (.long (q1 ||| (1 : Int64))), .second, .val (.long (-9223372036854775808)), .second, .val (.long (q3 &&& (-2 : Int64))), .second, .val (.long (q4 &&& (9223372036854775807 : Int64))), .second, rv b109, .unset] [.int 0])
        refine own_st (fun t k => XS.ifYes X131.here hx rfl (pc0 := 120) (pc' := 137) rfl (hb hby at_120) rfl (by decide) (by decide) (by decide) k) ?_
        show own_E p e below _ T131 (mkF m 137 #[.val (.long q1), .second, .val (.long q2), .second, .val (.long q3), .second, .val (.long q4), .second, iv p5, iv 0, iv 1, iv 0, .val (.long (q1 ||| (1 : Int64))), .second, .val (.long (-9223372036854775808)), .second, .val (.long (q3 &&& (-2 : Int64))), .second, .val (.long (q4 &&& (9223372036854775807 : Int64))), .second, rv b109, .unset] [])
        refine own_st (fun t k => XS.iconst X131.here hx rfl (hb hby at_137) k) ?_
        show own_E p e below _ T131 (mkF m 138 #[.val (.long q1), .second, .val (.long q2), .second, .val (.long q3), .second, .val (.long q4), .second, iv p5, iv 0, iv 1, iv 0, .val (.long (q1 ||| (1 : Int64))), .second, .val (.long (-9223372036854775808)), .second, .val (.long (q3 &&& (-2 : Int64))), .second, .val (.long (q4 &&& (9223372036854775807 : Int64))), .second, rv b109, .unset] [.int 0])
        refine own_st (fun t k => XS.istore X131.here hx rfl (hb hby at_138) rfl (l' := #[.val (.long q1), .second, .val (.long q2), .second, .val (.long q3), .second, .val (.long q4), .second, iv p5, iv 0, iv 1, iv 0, .val (.long (q1 ||| (1 : Int64))), .second, .val (.long (-9223372036854775808)), .second, .val (.long (q3 &&& (-2 : Int64))), .second, .val (.long (q4 &&& (9223372036854775807 : Int64))), .second, rv b109, iv 0]) rfl k) ?_
        show own_E p e below _ T131 (mkF m 140 #[.val (.long q1), .second, .val (.long q2), .second, .val (.long q3), .second, .val (.long q4), .second, iv p5, iv 0, iv 1, iv 0, .val (.long (q1 ||| (1 : Int64))), .second, .val (.long (-9223372036854775808)), .second, .val (.long (q3 &&& (-2 : Int64))), .second, .val (.long (q4 &&& (9223372036854775807 : Int64))), .second, rv b109, iv 0] [])
        refine own_st (fun t k => XS.aload X131.here hx rfl (hb hby at_140) rfl rfl k) ?_
        show own_E p e below _ T131 (mkF m 142 #[.val (.long q1), .second, .val (.long q2), .second, .val (.long q3), .second, .val (.long q4), .second, iv p5, iv 0, iv 1, iv 0, .val (.long (q1 ||| (1 : Int64))), .second, .val (.long (-9223372036854775808)), .second, .val (.long (q3 &&& (-2 : Int64))), .second, .val (.long (q4 &&& (9223372036854775807 : Int64))), .second, rv b109, iv 0] [.ref b109])
        obtain ⟨cq133, kq133, q133a, q133b, q133c⟩ := isOf hZ e131 P131_0
        obtain ⟨_, _, ⟨T133, L133, k133, n133⟩, -, X133, ⟨Lc133, hQ133, l133, y133, z133⟩, st133⟩ := X131.virtualBack hx (y := own_y2) (z := own_y2) hown (mvT hZ (own_w hw 25 rfl)) (mvT hZ (own_w hw 26 rfl)) (notFace_of_selects (args := #[]) (mvT hZ (own_w hw 28 rfl))) (mvT hZ (own_w hw 28 rfl)) (mvT hZ (own_w hw 27 rfl)) (by decide) (backOf (W := 0) (own_every l Z a0 hw [] b109 (q1 ||| (1 : Int64)) (-9223372036854775808 : Int64) (q3 &&& (-2 : Int64)) T131.heap n0 Z132 P131_1 P131_2 P131_3) hZ (own_w hw 29 rfl) (own_w hw 5 rfl) (by decide) (by decide)) q133a q133c (g := (mkF m 142 #[.val (.long q1), .second, .val (.long q2), .second, .val (.long q3), .second, .val (.long q4), .second, iv p5, iv 0, iv 1, iv 0, .val (.long (q1 ||| (1 : Int64))), .second, .val (.long (-9223372036854775808)), .second, .val (.long (q3 &&& (-2 : Int64))), .second, .val (.long (q4 &&& (9223372036854775807 : Int64))), .second, rv b109, iv 0] [.ref b109])) rfl (by rw [hml]; rfl) (Steps.refl _) (argsL := []) (rest := []) (lenOf own_pd_1 rfl) rfl (by show 2 * 0 + _ ≤ _; exact Nat.le_of_eq rfl) (hb hby at_142) (fun _ _ => ⟨rfl, e131, (by decide : 1 + 0 ≤ _), (by decide : 4 + 0 ≤ _)⟩)
        dsimp only [Pt.U, Pt.locs, Pt.cells, Pt.slots] at X133 l133 y133 z133 st133 hQ133
        subst l133 y133 z133
        obtain ⟨hR133, e133, rfl⟩ := hQ133
        have N133 := Fr.app N131 (Fr.nil n0)
        rcases hR133 with ⟨rfl, ha133_0, ha133_1, ha133_2⟩ | ⟨rfl, ha133_0, ha133_1, ha133_2⟩ | ⟨rfl, ha133_0, ha133_1⟩ | ⟨rfl, ha133_0⟩
        · refine own_tr st133 ?_
          show own_E p e below _ T133 (mkF m 145 #[.val (.long q1), .second, .val (.long q2), .second, .val (.long q3), .second, .val (.long q4), .second, iv p5, iv 0, iv 1, iv 0, .val (.long (q1 ||| (1 : Int64))), .second, .val (.long (-9223372036854775808)), .second, .val (.long (q3 &&& (-2 : Int64))), .second, .val (.long (q4 &&& (9223372036854775807 : Int64))), .second, rv b109, iv 0] [.int 1])
          refine own_st (fun t k => XS.iload X133.here hx rfl (hb hby at_145) rfl k) ?_
          show own_E p e below _ T133 (mkF m 147 #[.val (.long q1), .second, .val (.long q2), .second, .val (.long q3), .second, .val (.long q4), .second, iv p5, iv 0, iv 1, iv 0, .val (.long (q1 ||| (1 : Int64))), .second, .val (.long (-9223372036854775808)), .second, .val (.long (q3 &&& (-2 : Int64))), .second, .val (.long (q4 &&& (9223372036854775807 : Int64))), .second, rv b109, iv 0] [.int 0, .int 1])
          refine own_st (fun t k => XS.icmpYes X133.here hx rfl (pc0 := 147) (pc' := 154) rfl (hb hby at_147) rfl (by decide) (by decide) (by decide) k) ?_
          show own_E p e below _ T133 (mkF m 154 #[.val (.long q1), .second, .val (.long q2), .second, .val (.long q3), .second, .val (.long q4), .second, iv p5, iv 0, iv 1, iv 0, .val (.long (q1 ||| (1 : Int64))), .second, .val (.long (-9223372036854775808)), .second, .val (.long (q3 &&& (-2 : Int64))), .second, .val (.long (q4 &&& (9223372036854775807 : Int64))), .second, rv b109, iv 0] [])
          refine own_st (fun t k => XS.iconst X133.here hx rfl (hb hby at_154) k) ?_
          show own_E p e below _ T133 (mkF m 155 #[.val (.long q1), .second, .val (.long q2), .second, .val (.long q3), .second, .val (.long q4), .second, iv p5, iv 0, iv 1, iv 0, .val (.long (q1 ||| (1 : Int64))), .second, .val (.long (-9223372036854775808)), .second, .val (.long (q3 &&& (-2 : Int64))), .second, .val (.long (q4 &&& (9223372036854775807 : Int64))), .second, rv b109, iv 0] [.int 0])
          refine own_retS X133 hx Bd.notSynchronized Bd.returns rfl (by decide) (hb hby at_155) (by decide) (by decide) ?_
          exfalso
          have f134 := rng32 p5
          have f135 : (1 : Int32).toInt = 1 := rfl
          have f136 := rng32 (p5 &&& (1 : Int32))
          have f137 : (p5 &&& (1 : Int32)).toInt = p5.toInt % 2 := c_mask p5 (1 : Int32) 1 (by decide) (by decide)
          have f138 : (0 : Int32).toInt = 0 := rfl
          have f139 : (2 : Int32).toInt = 2 := rfl
          have f140 := rng32 (p5 &&& (2 : Int32))
          have f141 := c_and p5 (2 : Int32) (by decide)
          have f142 : (4 : Int32).toInt = 4 := rfl
          have f143 := rng32 (p5 &&& (4 : Int32))
          have f144 := c_and p5 (4 : Int32) (by decide)
          have f145 := rng64 q1
          have f146 : (1 : Int64).toInt = 1 := rfl
          have f147 := rng64 (q1 ||| (1 : Int64))
          have f148 := own_lor1 q1
          have f149 : (-9223372036854775808 : Int64).toInt = -9223372036854775808 := rfl
          have f150 := rng64 q3
          have f151 : (-2 : Int64).toInt = -2 := rfl
          have f152 := rng64 (q3 &&& (-2 : Int64))
          have f153 := own_landm2 q3
          have f154 : (9223372036854775807 : Int64).toInt = 9223372036854775807 := rfl
          have g155 := hc1
          rw [← Int32.toInt_inj] at g155
          have g156 := hc2
          rw [← Int32.toInt_inj] at g156
          have g157 := hc108
          rw [← Int32.toInt_inj] at g157
          have g158 := ha133_0
          rw [← Int64.toInt_inj] at g158
          have g159 := ha133_2
          rw [← Int64.toInt_inj] at g159
          omega
        · refine own_tr st133 ?_
          show own_E p e below _ T133 (mkF m 145 #[.val (.long q1), .second, .val (.long q2), .second, .val (.long q3), .second, .val (.long q4), .second, iv p5, iv 0, iv 1, iv 0, .val (.long (q1 ||| (1 : Int64))), .second, .val (.long (-9223372036854775808)), .second, .val (.long (q3 &&& (-2 : Int64))), .second, .val (.long (q4 &&& (9223372036854775807 : Int64))), .second, rv b109, iv 0] [.int 0])
          refine own_st (fun t k => XS.iload X133.here hx rfl (hb hby at_145) rfl k) ?_
          show own_E p e below _ T133 (mkF m 147 #[.val (.long q1), .second, .val (.long q2), .second, .val (.long q3), .second, .val (.long q4), .second, iv p5, iv 0, iv 1, iv 0, .val (.long (q1 ||| (1 : Int64))), .second, .val (.long (-9223372036854775808)), .second, .val (.long (q3 &&& (-2 : Int64))), .second, .val (.long (q4 &&& (9223372036854775807 : Int64))), .second, rv b109, iv 0] [.int 0, .int 0])
          refine own_st (fun t k => XS.icmpNo X133.here hx rfl (hb hby at_147) rfl (by decide) k) ?_
          show own_E p e below _ T133 (mkF m 150 #[.val (.long q1), .second, .val (.long q2), .second, .val (.long q3), .second, .val (.long q4), .second, iv p5, iv 0, iv 1, iv 0, .val (.long (q1 ||| (1 : Int64))), .second, .val (.long (-9223372036854775808)), .second, .val (.long (q3 &&& (-2 : Int64))), .second, .val (.long (q4 &&& (9223372036854775807 : Int64))), .second, rv b109, iv 0] [])
          refine own_st (fun t k => XS.iconst X133.here hx rfl (hb hby at_150) k) ?_
          show own_E p e below _ T133 (mkF m 151 #[.val (.long q1), .second, .val (.long q2), .second, .val (.long q3), .second, .val (.long q4), .second, iv p5, iv 0, iv 1, iv 0, .val (.long (q1 ||| (1 : Int64))), .second, .val (.long (-9223372036854775808)), .second, .val (.long (q3 &&& (-2 : Int64))), .second, .val (.long (q4 &&& (9223372036854775807 : Int64))), .second, rv b109, iv 0] [.int 1])
          refine own_st (fun t k => XS.goto X133.here hx rfl (pc0 := 151) (pc' := 155) rfl (hb hby at_151) (by decide) (by decide) k) ?_
          show own_E p e below _ T133 (mkF m 155 #[.val (.long q1), .second, .val (.long q2), .second, .val (.long q3), .second, .val (.long q4), .second, iv p5, iv 0, iv 1, iv 0, .val (.long (q1 ||| (1 : Int64))), .second, .val (.long (-9223372036854775808)), .second, .val (.long (q3 &&& (-2 : Int64))), .second, .val (.long (q4 &&& (9223372036854775807 : Int64))), .second, rv b109, iv 0] [.int 1])
          refine own_retS X133 hx Bd.notSynchronized Bd.returns rfl (by decide) (hb hby at_155) (by decide) (by decide) ?_
          exact ⟨rfl, N133⟩
        · exact absurd ha133_1 (by decide)
        · refine own_tr st133 ?_
          show own_E p e below _ T133 (mkF m 145 #[.val (.long q1), .second, .val (.long q2), .second, .val (.long q3), .second, .val (.long q4), .second, iv p5, iv 0, iv 1, iv 0, .val (.long (q1 ||| (1 : Int64))), .second, .val (.long (-9223372036854775808)), .second, .val (.long (q3 &&& (-2 : Int64))), .second, .val (.long (q4 &&& (9223372036854775807 : Int64))), .second, rv b109, iv 0] [.int 0])
          refine own_st (fun t k => XS.iload X133.here hx rfl (hb hby at_145) rfl k) ?_
          show own_E p e below _ T133 (mkF m 147 #[.val (.long q1), .second, .val (.long q2), .second, .val (.long q3), .second, .val (.long q4), .second, iv p5, iv 0, iv 1, iv 0, .val (.long (q1 ||| (1 : Int64))), .second, .val (.long (-9223372036854775808)), .second, .val (.long (q3 &&& (-2 : Int64))), .second, .val (.long (q4 &&& (9223372036854775807 : Int64))), .second, rv b109, iv 0] [.int 0, .int 0])
          refine own_st (fun t k => XS.icmpNo X133.here hx rfl (hb hby at_147) rfl (by decide) k) ?_
          show own_E p e below _ T133 (mkF m 150 #[.val (.long q1), .second, .val (.long q2), .second, .val (.long q3), .second, .val (.long q4), .second, iv p5, iv 0, iv 1, iv 0, .val (.long (q1 ||| (1 : Int64))), .second, .val (.long (-9223372036854775808)), .second, .val (.long (q3 &&& (-2 : Int64))), .second, .val (.long (q4 &&& (9223372036854775807 : Int64))), .second, rv b109, iv 0] [])
          refine own_st (fun t k => XS.iconst X133.here hx rfl (hb hby at_150) k) ?_
          show own_E p e below _ T133 (mkF m 151 #[.val (.long q1), .second, .val (.long q2), .second, .val (.long q3), .second, .val (.long q4), .second, iv p5, iv 0, iv 1, iv 0, .val (.long (q1 ||| (1 : Int64))), .second, .val (.long (-9223372036854775808)), .second, .val (.long (q3 &&& (-2 : Int64))), .second, .val (.long (q4 &&& (9223372036854775807 : Int64))), .second, rv b109, iv 0] [.int 1])
          refine own_st (fun t k => XS.goto X133.here hx rfl (pc0 := 151) (pc' := 155) rfl (hb hby at_151) (by decide) (by decide) k) ?_
          show own_E p e below _ T133 (mkF m 155 #[.val (.long q1), .second, .val (.long q2), .second, .val (.long q3), .second, .val (.long q4), .second, iv p5, iv 0, iv 1, iv 0, .val (.long (q1 ||| (1 : Int64))), .second, .val (.long (-9223372036854775808)), .second, .val (.long (q3 &&& (-2 : Int64))), .second, .val (.long (q4 &&& (9223372036854775807 : Int64))), .second, rv b109, iv 0] [.int 1])
          refine own_retS X133 hx Bd.notSynchronized Bd.returns rfl (by decide) (hb hby at_155) (by decide) (by decide) ?_
          exact ⟨rfl, N133⟩
      · refine own_st (fun t k => XS.ifNo X0.here hx rfl (hb hby at_32) rfl ((if0 _ _).trans (feq hc108).1) k) ?_
        show own_E p e below _ s₁ (mkF m 35 #[.val (.long q1), .second, .val (.long q2), .second, .val (.long q3), .second, .val (.long q4), .second, iv p5, iv 0, iv 1, .unset, .unset, .unset, .unset, .unset, .unset, .unset, .unset, .unset, .unset, .unset] [])
        refine own_st (fun t k => XS.iconst X0.here hx rfl (hb hby at_35) k) ?_
        show own_E p e below _ s₁ (mkF m 36 #[.val (.long q1), .second, .val (.long q2), .second, .val (.long q3), .second, .val (.long q4), .second, iv p5, iv 0, iv 1, .unset, .unset, .unset, .unset, .unset, .unset, .unset, .unset, .unset, .unset, .unset] [.int 1])
        refine own_st (fun t k => XS.goto X0.here hx rfl (pc0 := 36) (pc' := 40) rfl (hb hby at_36) (by decide) (by decide) k) ?_
        show own_E p e below _ s₁ (mkF m 40 #[.val (.long q1), .second, .val (.long q2), .second, .val (.long q3), .second, .val (.long q4), .second, iv p5, iv 0, iv 1, .unset, .unset, .unset, .unset, .unset, .unset, .unset, .unset, .unset, .unset, .unset] [.int 1])
        refine own_st (fun t k => XS.istore X0.here hx rfl (hb hby at_40) rfl (l' := #[.val (.long q1), .second, .val (.long q2), .second, .val (.long q3), .second, .val (.long q4), .second, iv p5, iv 0, iv 1, iv 1, .unset, .unset, .unset, .unset, .unset, .unset, .unset, .unset, .unset, .unset]) rfl k) ?_
        show own_E p e below _ s₁ (mkF m 42 #[.val (.long q1), .second, .val (.long q2), .second, .val (.long q3), .second, .val (.long q4), .second, iv p5, iv 0, iv 1, iv 1, .unset, .unset, .unset, .unset, .unset, .unset, .unset, .unset, .unset, .unset] [])
        refine own_st (fun t k => XS.iload X0.here hx rfl (hb hby at_42) rfl k) ?_
        show own_E p e below _ s₁ (mkF m 44 #[.val (.long q1), .second, .val (.long q2), .second, .val (.long q3), .second, .val (.long q4), .second, iv p5, iv 0, iv 1, iv 1, .unset, .unset, .unset, .unset, .unset, .unset, .unset, .unset, .unset, .unset] [.int 0])
        refine own_st (fun t k => XS.ifYes X0.here hx rfl (pc0 := 44) (pc' := 53) rfl (hb hby at_44) rfl (by decide) (by decide) (by decide) k) ?_
        show own_E p e below _ s₁ (mkF m 53 #[.val (.long q1), .second, .val (.long q2), .second, .val (.long q3), .second, .val (.long q4), .second, iv p5, iv 0, iv 1, iv 1, .unset, .unset, .unset, .unset, .unset, .unset, .unset, .unset, .unset, .unset] [])
        refine own_st (fun t k => XS.lloadN X0.here hx rfl (hb hby at_53) rfl k) ?_
        show own_E p e below _ s₁ (mkF m 54 #[.val (.long q1), .second, .val (.long q2), .second, .val (.long q3), .second, .val (.long q4), .second, iv p5, iv 0, iv 1, iv 1, .unset, .unset, .unset, .unset, .unset, .unset, .unset, .unset, .unset, .unset] [.long q1])
        refine own_st (fun t k => XS.lconst X0.here hx rfl (hb hby at_54) k) ?_
        show own_E p e below _ s₁ (mkF m 55 #[.val (.long q1), .second, .val (.long q2), .second, .val (.long q3), .second, .val (.long q4), .second, iv p5, iv 0, iv 1, iv 1, .unset, .unset, .unset, .unset, .unset, .unset, .unset, .unset, .unset, .unset] [.long 1, .long q1])
        refine own_st (fun t k => XS.lor X0.here hx rfl (hb hby at_55) rfl k) ?_
        show own_E p e below _ s₁ (mkF m 56 #[.val (.long q1), .second, .val (.long q2), .second, .val (.long q3), .second, .val (.long q4), .second, iv p5, iv 0, iv 1, iv 1, .unset, .unset, .unset, .unset, .unset, .unset, .unset, .unset, .unset, .unset] [.long (q1 ||| (1 : Int64))])
        refine own_st (fun t k => XS.lstore X0.here hx rfl (hb hby at_56) rfl (l' := #[.val (.long q1), .second, .val (.long q2), .second, .val (.long q3), .second, .val (.long q4), .second, iv p5, iv 0, iv 1, iv 1, .val (.long (q1 ||| (1 : Int64))), .second, .unset, .unset, .unset, .unset, .unset, .unset, .unset, .unset]) rfl k) ?_
        show own_E p e below _ s₁ (mkF m 58 #[.val (.long q1), .second, .val (.long q2), .second, .val (.long q3), .second, .val (.long q4), .second, iv p5, iv 0, iv 1, iv 1, .val (.long (q1 ||| (1 : Int64))), .second, .unset, .unset, .unset, .unset, .unset, .unset, .unset, .unset] [])
        refine own_st (fun t k => XS.iload X0.here hx rfl (hb hby at_58) rfl k) ?_
        show own_E p e below _ s₁ (mkF m 60 #[.val (.long q1), .second, .val (.long q2), .second, .val (.long q3), .second, .val (.long q4), .second, iv p5, iv 0, iv 1, iv 1, .val (.long (q1 ||| (1 : Int64))), .second, .unset, .unset, .unset, .unset, .unset, .unset, .unset, .unset] [.int 1])
        refine own_st (fun t k => XS.ifNo X0.here hx rfl (hb hby at_60) rfl (by decide) k) ?_
        show own_E p e below _ s₁ (mkF m 63 #[.val (.long q1), .second, .val (.long q2), .second, .val (.long q3), .second, .val (.long q4), .second, iv p5, iv 0, iv 1, iv 1, .val (.long (q1 ||| (1 : Int64))), .second, .unset, .unset, .unset, .unset, .unset, .unset, .unset, .unset] [])
        refine own_st (X0.ldc2Long hx hown (mvT hZ (own_w hw 0 rfl)) (g := (mkF m 63 #[.val (.long q1), .second, .val (.long q2), .second, .val (.long q3), .second, .val (.long q4), .second, iv p5, iv 0, iv 1, iv 1, .val (.long (q1 ||| (1 : Int64))), .second, .unset, .unset, .unset, .unset, .unset, .unset, .unset, .unset] [])) rfl (hb hby at_63)) ?_
        show own_E p e below _ s₁ (mkF m 66 #[.val (.long q1), .second, .val (.long q2), .second, .val (.long q3), .second, .val (.long q4), .second, iv p5, iv 0, iv 1, iv 1, .val (.long (q1 ||| (1 : Int64))), .second, .unset, .unset, .unset, .unset, .unset, .unset, .unset, .unset] [.long (-9223372036854775808)])
        refine own_st (fun t k => XS.goto X0.here hx rfl (pc0 := 66) (pc' := 72) rfl (hb hby at_66) (by decide) (by decide) k) ?_
        show own_E p e below _ s₁ (mkF m 72 #[.val (.long q1), .second, .val (.long q2), .second, .val (.long q3), .second, .val (.long q4), .second, iv p5, iv 0, iv 1, iv 1, .val (.long (q1 ||| (1 : Int64))), .second, .unset, .unset, .unset, .unset, .unset, .unset, .unset, .unset] [.long (-9223372036854775808)])
        refine own_st (fun t k => XS.lstore X0.here hx rfl (hb hby at_72) rfl (l' := #[.val (.long q1), .second, .val (.long q2), .second, .val (.long q3), .second, .val (.long q4), .second, iv p5, iv 0, iv 1, iv 1, .val (.long (q1 ||| (1 : Int64))), .second, .val (.long (-9223372036854775808)), .second, .unset, .unset, .unset, .unset, .unset, .unset]) rfl k) ?_
        show own_E p e below _ s₁ (mkF m 74 #[.val (.long q1), .second, .val (.long q2), .second, .val (.long q3), .second, .val (.long q4), .second, iv p5, iv 0, iv 1, iv 1, .val (.long (q1 ||| (1 : Int64))), .second, .val (.long (-9223372036854775808)), .second, .unset, .unset, .unset, .unset, .unset, .unset] [])
        refine own_st (fun t k => XS.iload X0.here hx rfl (hb hby at_74) rfl k) ?_
        show own_E p e below _ s₁ (mkF m 76 #[.val (.long q1), .second, .val (.long q2), .second, .val (.long q3), .second, .val (.long q4), .second, iv p5, iv 0, iv 1, iv 1, .val (.long (q1 ||| (1 : Int64))), .second, .val (.long (-9223372036854775808)), .second, .unset, .unset, .unset, .unset, .unset, .unset] [.int 1])
        refine own_st (fun t k => XS.ifNo X0.here hx rfl (hb hby at_76) rfl (by decide) k) ?_
        show own_E p e below _ s₁ (mkF m 79 #[.val (.long q1), .second, .val (.long q2), .second, .val (.long q3), .second, .val (.long q4), .second, iv p5, iv 0, iv 1, iv 1, .val (.long (q1 ||| (1 : Int64))), .second, .val (.long (-9223372036854775808)), .second, .unset, .unset, .unset, .unset, .unset, .unset] [])
        refine own_st (X0.ldc2Long hx hown (mvT hZ (own_w hw 2 rfl)) (g := (mkF m 79 #[.val (.long q1), .second, .val (.long q2), .second, .val (.long q3), .second, .val (.long q4), .second, iv p5, iv 0, iv 1, iv 1, .val (.long (q1 ||| (1 : Int64))), .second, .val (.long (-9223372036854775808)), .second, .unset, .unset, .unset, .unset, .unset, .unset] [])) rfl (hb hby at_79)) ?_
        show own_E p e below _ s₁ (mkF m 82 #[.val (.long q1), .second, .val (.long q2), .second, .val (.long q3), .second, .val (.long q4), .second, iv p5, iv 0, iv 1, iv 1, .val (.long (q1 ||| (1 : Int64))), .second, .val (.long (-9223372036854775808)), .second, .unset, .unset, .unset, .unset, .unset, .unset] [.long 9223372036854775807])
        refine own_st (fun t k => XS.goto X0.here hx rfl (pc0 := 82) (pc' := 91) rfl (hb hby at_82) (by decide) (by decide) k) ?_
        show own_E p e below _ s₁ (mkF m 91 #[.val (.long q1), .second, .val (.long q2), .second, .val (.long q3), .second, .val (.long q4), .second, iv p5, iv 0, iv 1, iv 1, .val (.long (q1 ||| (1 : Int64))), .second, .val (.long (-9223372036854775808)), .second, .unset, .unset, .unset, .unset, .unset, .unset] [.long 9223372036854775807])
        refine own_st (fun t k => XS.lstore X0.here hx rfl (hb hby at_91) rfl (l' := #[.val (.long q1), .second, .val (.long q2), .second, .val (.long q3), .second, .val (.long q4), .second, iv p5, iv 0, iv 1, iv 1, .val (.long (q1 ||| (1 : Int64))), .second, .val (.long (-9223372036854775808)), .second, .val (.long 9223372036854775807), .second, .unset, .unset, .unset, .unset]) rfl k) ?_
        show own_E p e below _ s₁ (mkF m 93 #[.val (.long q1), .second, .val (.long q2), .second, .val (.long q3), .second, .val (.long q4), .second, iv p5, iv 0, iv 1, iv 1, .val (.long (q1 ||| (1 : Int64))), .second, .val (.long (-9223372036854775808)), .second, .val (.long 9223372036854775807), .second, .unset, .unset, .unset, .unset] [])
        refine own_st (fun t k => XS.lload X0.here hx rfl (hb hby at_93) rfl k) ?_
        show own_E p e below _ s₁ (mkF m 95 #[.val (.long q1), .second, .val (.long q2), .second, .val (.long q3), .second, .val (.long q4), .second, iv p5, iv 0, iv 1, iv 1, .val (.long (q1 ||| (1 : Int64))), .second, .val (.long (-9223372036854775808)), .second, .val (.long 9223372036854775807), .second, .unset, .unset, .unset, .unset] [.long q4])
        refine own_st (X0.ldc2Long hx hown (mvT hZ (own_w hw 2 rfl)) (g := (mkF m 95 #[.val (.long q1), .second, .val (.long q2), .second, .val (.long q3), .second, .val (.long q4), .second, iv p5, iv 0, iv 1, iv 1, .val (.long (q1 ||| (1 : Int64))), .second, .val (.long (-9223372036854775808)), .second, .val (.long 9223372036854775807), .second, .unset, .unset, .unset, .unset] [.long q4])) rfl (hb hby at_95)) ?_
        show own_E p e below _ s₁ (mkF m 98 #[.val (.long q1), .second, .val (.long q2), .second, .val (.long q3), .second, .val (.long q4), .second, iv p5, iv 0, iv 1, iv 1, .val (.long (q1 ||| (1 : Int64))), .second, .val (.long (-9223372036854775808)), .second, .val (.long 9223372036854775807), .second, .unset, .unset, .unset, .unset] [.long 9223372036854775807, .long q4])
        refine own_st (fun t k => XS.land X0.here hx rfl (hb hby at_98) rfl k) ?_
        show own_E p e below _ s₁ (mkF m 99 #[.val (.long q1), .second, .val (.long q2), .second, .val (.long q3), .second, .val (.long q4), .second, iv p5, iv 0, iv 1, iv 1, .val (.long (q1 ||| (1 : Int64))), .second, .val (.long (-9223372036854775808)), .second, .val (.long 9223372036854775807), .second, .unset, .unset, .unset, .unset] [.long (q4 &&& (9223372036854775807 : Int64))])
        refine own_st (fun t k => XS.lstore X0.here hx rfl (hb hby at_99) rfl (l' := #[.val (.long q1), .second, .val (.long q2), .second, .val (.long q3), .second, .val (.long q4), .second, iv p5, iv 0, iv 1, iv 1, .val (.long (q1 ||| (1 : Int64))), .second, .val (.long (-9223372036854775808)), .second, .val (.long 9223372036854775807), .second, .val (.long (q4 &&& (9223372036854775807 : Int64))), .second, .unset, .unset]) rfl k) ?_
        show own_E p e below _ s₁ (mkF m 101 #[.val (.long q1), .second, .val (.long q2), .second, .val (.long q3), .second, .val (.long q4), .second, iv p5, iv 0, iv 1, iv 1, .val (.long (q1 ||| (1 : Int64))), .second, .val (.long (-9223372036854775808)), .second, .val (.long 9223372036854775807), .second, .val (.long (q4 &&& (9223372036854775807 : Int64))), .second, .unset, .unset] [])
        obtain ⟨T160, h160, X160, e160, E160, A160, D160, -, st160⟩ := newO X0 hx hZ hown (own_w hw 3 rfl) (own_w hw 4 rfl) (own_w hw 5 rfl) e0 (g := (mkF m 101 #[.val (.long q1), .second, .val (.long q2), .second, .val (.long q3), .second, .val (.long q4), .second, iv p5, iv 0, iv 1, iv 1, .val (.long (q1 ||| (1 : Int64))), .second, .val (.long (-9223372036854775808)), .second, .val (.long 9223372036854775807), .second, .val (.long (q4 &&& (9223372036854775807 : Int64))), .second, .unset, .unset] [])) rfl (hb hby at_101) (by decide) (by decide)
        obtain ⟨b160, g160⟩ : ∃ z, z = h0.size := ⟨_, rfl⟩
        rw [← g160] at A160 D160 st160
        have g_b160 : n0 ≤ b160 := Nat.le_trans Z0 (Nat.le_of_eq g160.symm)
        have Z161 := Nat.le_trans Z0 E160.1
        have F_storedFrom_b160 : Fld Z h160 b160 "com/example/brazier/brazier/store/HistoryBound" "storedFrom" "J" (.long (0 : Int64)) := D160 (Or.inr (own_w hw 18 rfl)) (ty := .long) (by decide)
        have F_currentFrom_b160 : Fld Z h160 b160 "com/example/brazier/brazier/store/HistoryBound" "currentFrom" "J" (.long (0 : Int64)) := D160 (Or.inr (own_w hw 20 rfl)) (ty := .long) (by decide)
        have F_currentTo_b160 : Fld Z h160 b160 "com/example/brazier/brazier/store/HistoryBound" "currentTo" "J" (.long (0 : Int64)) := D160 (Or.inr (own_w hw 22 rfl)) (ty := .long) (by decide)
        have F_storedUpTo_b160 : Fld Z h160 b160 "com/example/brazier/brazier/store/HistoryBound" "storedUpTo" "J" (.long (0 : Int64)) := D160 (Or.inr (own_w hw 24 rfl)) (ty := .long) (by decide)
        refine own_st st160 ?_
        show own_E p e below _ T160 (mkF m 104 #[.val (.long q1), .second, .val (.long q2), .second, .val (.long q3), .second, .val (.long q4), .second, iv p5, iv 0, iv 1, iv 1, .val (.long (q1 ||| (1 : Int64))), .second, .val (.long (-9223372036854775808)), .second, .val (.long 9223372036854775807), .second, .val (.long (q4 &&& (9223372036854775807 : Int64))), .second, .unset, .unset] [.ref b160])
        refine own_st (fun t k => XS.dup X160.here hx rfl (hb hby at_104) rfl rfl k) ?_
        show own_E p e below _ T160 (mkF m 105 #[.val (.long q1), .second, .val (.long q2), .second, .val (.long q3), .second, .val (.long q4), .second, iv p5, iv 0, iv 1, iv 1, .val (.long (q1 ||| (1 : Int64))), .second, .val (.long (-9223372036854775808)), .second, .val (.long 9223372036854775807), .second, .val (.long (q4 &&& (9223372036854775807 : Int64))), .second, .unset, .unset] [.ref b160, .ref b160])
        refine own_st (fun t k => XS.lload X160.here hx rfl (hb hby at_105) rfl k) ?_
        show own_E p e below _ T160 (mkF m 107 #[.val (.long q1), .second, .val (.long q2), .second, .val (.long q3), .second, .val (.long q4), .second, iv p5, iv 0, iv 1, iv 1, .val (.long (q1 ||| (1 : Int64))), .second, .val (.long (-9223372036854775808)), .second, .val (.long 9223372036854775807), .second, .val (.long (q4 &&& (9223372036854775807 : Int64))), .second, .unset, .unset] [.long (q1 ||| (1 : Int64)), .ref b160, .ref b160])
        refine own_st (fun t k => XS.lload X160.here hx rfl (hb hby at_107) rfl k) ?_
        show own_E p e below _ T160 (mkF m 109 #[.val (.long q1), .second, .val (.long q2), .second, .val (.long q3), .second, .val (.long q4), .second, iv p5, iv 0, iv 1, iv 1, .val (.long (q1 ||| (1 : Int64))), .second, .val (.long (-9223372036854775808)), .second, .val (.long 9223372036854775807), .second, .val (.long (q4 &&& (9223372036854775807 : Int64))), .second, .unset, .unset] [.long (-9223372036854775808), .long (q1 ||| (1 : Int64)), .ref b160, .ref b160])
        refine own_st (fun t k => XS.lload X160.here hx rfl (hb hby at_109) rfl k) ?_
        show own_E p e below _ T160 (mkF m 111 #[.val (.long q1), .second, .val (.long q2), .second, .val (.long q3), .second, .val (.long q4), .second, iv p5, iv 0, iv 1, iv 1, .val (.long (q1 ||| (1 : Int64))), .second, .val (.long (-9223372036854775808)), .second, .val (.long 9223372036854775807), .second, .val (.long (q4 &&& (9223372036854775807 : Int64))), .second, .unset, .unset] [.long 9223372036854775807, .long (-9223372036854775808), .long (q1 ||| (1 : Int64)), .ref b160, .ref b160])
        refine own_st (fun t k => XS.lload X160.here hx rfl (hb hby at_111) rfl k) ?_
        show own_E p e below _ T160 (mkF m 113 #[.val (.long q1), .second, .val (.long q2), .second, .val (.long q3), .second, .val (.long q4), .second, iv p5, iv 0, iv 1, iv 1, .val (.long (q1 ||| (1 : Int64))), .second, .val (.long (-9223372036854775808)), .second, .val (.long 9223372036854775807), .second, .val (.long (q4 &&& (9223372036854775807 : Int64))), .second, .unset, .unset] [.long (q4 &&& (9223372036854775807 : Int64)), .long 9223372036854775807, .long (-9223372036854775808), .long (q1 ||| (1 : Int64)), .ref b160, .ref b160])
        have hv162 : ¬ ((q4 &&& (9223372036854775807 : Int64)) < (0 : Int64)) := by
          rw [Int64.lt_iff_toInt_lt]
          have f163 := rng32 p5
          have f164 : (1 : Int32).toInt = 1 := rfl
          have f165 := rng32 (p5 &&& (1 : Int32))
          have f166 : (p5 &&& (1 : Int32)).toInt = p5.toInt % 2 := c_mask p5 (1 : Int32) 1 (by decide) (by decide)
          have f167 : (0 : Int32).toInt = 0 := rfl
          have f168 : (2 : Int32).toInt = 2 := rfl
          have f169 := rng32 (p5 &&& (2 : Int32))
          have f170 := c_and p5 (2 : Int32) (by decide)
          have f171 : (4 : Int32).toInt = 4 := rfl
          have f172 := rng32 (p5 &&& (4 : Int32))
          have f173 := c_and p5 (4 : Int32) (by decide)
          have f174 := rng64 q4
          have f175 : (9223372036854775807 : Int64).toInt = 9223372036854775807 := rfl
          have f176 := rng64 (q4 &&& (9223372036854775807 : Int64))
          have f177 : (q4 &&& (9223372036854775807 : Int64)).toInt = q4.toInt % 9223372036854775808 := c_maskL q4 (9223372036854775807 : Int64) 63 (by decide) (by decide)
          have f178 : (0 : Int64).toInt = 0 := rfl
          have g179 := hc1
          rw [← Int32.toInt_inj] at g179
          have g180 := hc2
          rw [← Int32.toInt_inj] at g180
          have g181 := hc108
          rw [← Int32.toInt_inj] at g181
          omega
        obtain ⟨_, _, ⟨T182, L182, k182, n182⟩, -, X182, ⟨Lc182, hQ182, l182, y182, z182⟩, st182⟩ := X160.specialBack hx (y := own_y1) rfl hown (mvT hZ (own_w hw 6 rfl)) (mvT hZ (own_w hw 7 rfl)) (mvT hZ (own_w hw 8 rfl)) (by decide) (backOf (W := 1) (own_init l Z a0 hw [] b160 (q1 ||| (1 : Int64)) (-9223372036854775808 : Int64) (9223372036854775807 : Int64) (q4 &&& (9223372036854775807 : Int64)) h160 n0 Z161 A160 F_storedFrom_b160 F_currentFrom_b160 F_currentTo_b160 F_storedUpTo_b160 hv162 g_b160) hZ (own_w hw 8 rfl) (own_w hw 5 rfl) (by decide) (by decide)) (g := (mkF m 113 #[.val (.long q1), .second, .val (.long q2), .second, .val (.long q3), .second, .val (.long q4), .second, iv p5, iv 0, iv 1, iv 1, .val (.long (q1 ||| (1 : Int64))), .second, .val (.long (-9223372036854775808)), .second, .val (.long 9223372036854775807), .second, .val (.long (q4 &&& (9223372036854775807 : Int64))), .second, .unset, .unset] [.long (q4 &&& (9223372036854775807 : Int64)), .long 9223372036854775807, .long (-9223372036854775808), .long (q1 ||| (1 : Int64)), .ref b160, .ref b160])) rfl (by rw [hml]; rfl) (Steps.refl _) (a := b160) (argsL := [(.long (q1 ||| (1 : Int64))), (.long (-9223372036854775808 : Int64)), (.long (9223372036854775807 : Int64)), (.long (q4 &&& (9223372036854775807 : Int64)))]) (rest := [(.ref b160)]) (lenOf own_pd_2 rfl) rfl (by show 2 * 0 + _ ≤ _; exact Nat.le_of_eq rfl) (hb hby at_113) (fun _ _ => ⟨rfl, e160, (by decide : 1 + 0 ≤ _), (by decide : 4 + 0 ≤ _)⟩)
        dsimp only [Pt.U, Pt.locs, Pt.cells, Pt.slots] at X182 l182 y182 z182 st182 hQ182
        subst l182 y182 z182
        obtain ⟨rfl, Nq182, Kq182, P182_0, P182_1, P182_2, P182_3, P182_4⟩ := hQ182
        have N182 := Fr.app (Fr.nil n0) Nq182
        have e182 : T182.heap = T182.heap := rfl
        have Z183 := Nat.le_trans Z161 Kq182.1
        refine own_tr st182 ?_
        show own_E p e below _ T182 (mkF m 116 #[.val (.long q1), .second, .val (.long q2), .second, .val (.long q3), .second, .val (.long q4), .second, iv p5, iv 0, iv 1, iv 1, .val (.long (q1 ||| (1 : Int64))), .second, .val (.long (-9223372036854775808)), .second, .val (.long 9223372036854775807), .second, .val (.long (q4 &&& (9223372036854775807 : Int64))), .second, .unset, .unset] [.ref b160])
        refine own_st (fun t k => XS.astore X182.here hx rfl (hb hby at_116) rfl rfl (l' := #[.val (.long q1), .second, .val (.long q2), .second, .val (.long q3), .second, .val (.long q4), .second, iv p5, iv 0, iv 1, iv 1, .val (.long (q1 ||| (1 : Int64))), .second, .val (.long (-9223372036854775808)), .second, .val (.long 9223372036854775807), .second, .val (.long (q4 &&& (9223372036854775807 : Int64))), .second, rv b160, .unset]) rfl k) ?_
        show own_E p e below _ T182 (mkF m 118 #[.val (.long q1), .second, .val (.long q2), .second, .val (.long q3), .second, .val (.long q4), .second, iv p5, iv 0, iv 1, iv 1, .val (.long (q1 ||| (1 : Int64))), .second, .val (.long (-9223372036854775808)), .second, .val (.long 9223372036854775807), .second, .val (.long (q4 &&& (9223372036854775807 : Int64))), .second, rv b160, .unset] [])
        refine own_st (fun t k => XS.iload X182.here hx rfl (hb hby at_118) rfl k) ?_
        show own_E p e below _ T182 (mkF m 120 #[.val (.long q1), .second, .val (.long q2), .second, .val (.long q3), .second, .val (.long q4), .second, iv p5, iv 0, iv 1, iv 1, .val (.long (q1 ||| (1 : Int64))), .second, .val (.long (-9223372036854775808)), .second, .val (.long 9223372036854775807), .second, .val (.long (q4 &&& (9223372036854775807 : Int64))), .second, rv b160, .unset] [.int 0])
        refine own_st (fun t k => XS.ifYes X182.here hx rfl (pc0 := 120) (pc' := 137) rfl (hb hby at_120) rfl (by decide) (by decide) (by decide) k) ?_
        show own_E p e below _ T182 (mkF m 137 #[.val (.long q1), .second, .val (.long q2), .second, .val (.long q3), .second, .val (.long q4), .second, iv p5, iv 0, iv 1, iv 1, .val (.long (q1 ||| (1 : Int64))), .second, .val (.long (-9223372036854775808)), .second, .val (.long 9223372036854775807), .second, .val (.long (q4 &&& (9223372036854775807 : Int64))), .second, rv b160, .unset] [])
        refine own_st (fun t k => XS.iconst X182.here hx rfl (hb hby at_137) k) ?_
        show own_E p e below _ T182 (mkF m 138 #[.val (.long q1), .second, .val (.long q2), .second, .val (.long q3), .second, .val (.long q4), .second, iv p5, iv 0, iv 1, iv 1, .val (.long (q1 ||| (1 : Int64))), .second, .val (.long (-9223372036854775808)), .second, .val (.long 9223372036854775807), .second, .val (.long (q4 &&& (9223372036854775807 : Int64))), .second, rv b160, .unset] [.int 0])
        refine own_st (fun t k => XS.istore X182.here hx rfl (hb hby at_138) rfl (l' := #[.val (.long q1), .second, .val (.long q2), .second, .val (.long q3), .second, .val (.long q4), .second, iv p5, iv 0, iv 1, iv 1, .val (.long (q1 ||| (1 : Int64))), .second, .val (.long (-9223372036854775808)), .second, .val (.long 9223372036854775807), .second, .val (.long (q4 &&& (9223372036854775807 : Int64))), .second, rv b160, iv 0]) rfl k) ?_
        show own_E p e below _ T182 (mkF m 140 #[.val (.long q1), .second, .val (.long q2), .second, .val (.long q3), .second, .val (.long q4), .second, iv p5, iv 0, iv 1, iv 1, .val (.long (q1 ||| (1 : Int64))), .second, .val (.long (-9223372036854775808)), .second, .val (.long 9223372036854775807), .second, .val (.long (q4 &&& (9223372036854775807 : Int64))), .second, rv b160, iv 0] [])
        refine own_st (fun t k => XS.aload X182.here hx rfl (hb hby at_140) rfl rfl k) ?_
        show own_E p e below _ T182 (mkF m 142 #[.val (.long q1), .second, .val (.long q2), .second, .val (.long q3), .second, .val (.long q4), .second, iv p5, iv 0, iv 1, iv 1, .val (.long (q1 ||| (1 : Int64))), .second, .val (.long (-9223372036854775808)), .second, .val (.long 9223372036854775807), .second, .val (.long (q4 &&& (9223372036854775807 : Int64))), .second, rv b160, iv 0] [.ref b160])
        obtain ⟨cq184, kq184, q184a, q184b, q184c⟩ := isOf hZ e182 P182_0
        obtain ⟨_, _, ⟨T184, L184, k184, n184⟩, -, X184, ⟨Lc184, hQ184, l184, y184, z184⟩, st184⟩ := X182.virtualBack hx (y := own_y2) (z := own_y2) hown (mvT hZ (own_w hw 25 rfl)) (mvT hZ (own_w hw 26 rfl)) (notFace_of_selects (args := #[]) (mvT hZ (own_w hw 28 rfl))) (mvT hZ (own_w hw 28 rfl)) (mvT hZ (own_w hw 27 rfl)) (by decide) (backOf (W := 0) (own_every l Z a0 hw [] b160 (q1 ||| (1 : Int64)) (-9223372036854775808 : Int64) (9223372036854775807 : Int64) T182.heap n0 Z183 P182_1 P182_2 P182_3) hZ (own_w hw 29 rfl) (own_w hw 5 rfl) (by decide) (by decide)) q184a q184c (g := (mkF m 142 #[.val (.long q1), .second, .val (.long q2), .second, .val (.long q3), .second, .val (.long q4), .second, iv p5, iv 0, iv 1, iv 1, .val (.long (q1 ||| (1 : Int64))), .second, .val (.long (-9223372036854775808)), .second, .val (.long 9223372036854775807), .second, .val (.long (q4 &&& (9223372036854775807 : Int64))), .second, rv b160, iv 0] [.ref b160])) rfl (by rw [hml]; rfl) (Steps.refl _) (argsL := []) (rest := []) (lenOf own_pd_1 rfl) rfl (by show 2 * 0 + _ ≤ _; exact Nat.le_of_eq rfl) (hb hby at_142) (fun _ _ => ⟨rfl, e182, (by decide : 1 + 0 ≤ _), (by decide : 4 + 0 ≤ _)⟩)
        dsimp only [Pt.U, Pt.locs, Pt.cells, Pt.slots] at X184 l184 y184 z184 st184 hQ184
        subst l184 y184 z184
        obtain ⟨hR184, e184, rfl⟩ := hQ184
        have N184 := Fr.app N182 (Fr.nil n0)
        rcases hR184 with ⟨rfl, ha184_0, ha184_1, ha184_2⟩ | ⟨rfl, ha184_0, ha184_1, ha184_2⟩ | ⟨rfl, ha184_0, ha184_1⟩ | ⟨rfl, ha184_0⟩
        · refine own_tr st184 ?_
          show own_E p e below _ T184 (mkF m 145 #[.val (.long q1), .second, .val (.long q2), .second, .val (.long q3), .second, .val (.long q4), .second, iv p5, iv 0, iv 1, iv 1, .val (.long (q1 ||| (1 : Int64))), .second, .val (.long (-9223372036854775808)), .second, .val (.long 9223372036854775807), .second, .val (.long (q4 &&& (9223372036854775807 : Int64))), .second, rv b160, iv 0] [.int 1])
          refine own_st (fun t k => XS.iload X184.here hx rfl (hb hby at_145) rfl k) ?_
          show own_E p e below _ T184 (mkF m 147 #[.val (.long q1), .second, .val (.long q2), .second, .val (.long q3), .second, .val (.long q4), .second, iv p5, iv 0, iv 1, iv 1, .val (.long (q1 ||| (1 : Int64))), .second, .val (.long (-9223372036854775808)), .second, .val (.long 9223372036854775807), .second, .val (.long (q4 &&& (9223372036854775807 : Int64))), .second, rv b160, iv 0] [.int 0, .int 1])
          refine own_st (fun t k => XS.icmpYes X184.here hx rfl (pc0 := 147) (pc' := 154) rfl (hb hby at_147) rfl (by decide) (by decide) (by decide) k) ?_
          show own_E p e below _ T184 (mkF m 154 #[.val (.long q1), .second, .val (.long q2), .second, .val (.long q3), .second, .val (.long q4), .second, iv p5, iv 0, iv 1, iv 1, .val (.long (q1 ||| (1 : Int64))), .second, .val (.long (-9223372036854775808)), .second, .val (.long 9223372036854775807), .second, .val (.long (q4 &&& (9223372036854775807 : Int64))), .second, rv b160, iv 0] [])
          refine own_st (fun t k => XS.iconst X184.here hx rfl (hb hby at_154) k) ?_
          show own_E p e below _ T184 (mkF m 155 #[.val (.long q1), .second, .val (.long q2), .second, .val (.long q3), .second, .val (.long q4), .second, iv p5, iv 0, iv 1, iv 1, .val (.long (q1 ||| (1 : Int64))), .second, .val (.long (-9223372036854775808)), .second, .val (.long 9223372036854775807), .second, .val (.long (q4 &&& (9223372036854775807 : Int64))), .second, rv b160, iv 0] [.int 0])
          refine own_retS X184 hx Bd.notSynchronized Bd.returns rfl (by decide) (hb hby at_155) (by decide) (by decide) ?_
          exfalso
          have f185 := rng32 p5
          have f186 : (1 : Int32).toInt = 1 := rfl
          have f187 := rng32 (p5 &&& (1 : Int32))
          have f188 : (p5 &&& (1 : Int32)).toInt = p5.toInt % 2 := c_mask p5 (1 : Int32) 1 (by decide) (by decide)
          have f189 : (0 : Int32).toInt = 0 := rfl
          have f190 : (2 : Int32).toInt = 2 := rfl
          have f191 := rng32 (p5 &&& (2 : Int32))
          have f192 := c_and p5 (2 : Int32) (by decide)
          have f193 : (4 : Int32).toInt = 4 := rfl
          have f194 := rng32 (p5 &&& (4 : Int32))
          have f195 := c_and p5 (4 : Int32) (by decide)
          have f196 := rng64 q1
          have f197 : (1 : Int64).toInt = 1 := rfl
          have f198 := rng64 (q1 ||| (1 : Int64))
          have f199 := own_lor1 q1
          have f200 : (-9223372036854775808 : Int64).toInt = -9223372036854775808 := rfl
          have g201 := hc1
          rw [← Int32.toInt_inj] at g201
          have g202 := hc2
          rw [← Int32.toInt_inj] at g202
          have g203 := hc108
          rw [← Int32.toInt_inj] at g203
          have g204 := ha184_0
          rw [← Int64.toInt_inj] at g204
          omega
        · exact absurd ha184_2 (by decide)
        · exact absurd ha184_1 (by decide)
        · refine own_tr st184 ?_
          show own_E p e below _ T184 (mkF m 145 #[.val (.long q1), .second, .val (.long q2), .second, .val (.long q3), .second, .val (.long q4), .second, iv p5, iv 0, iv 1, iv 1, .val (.long (q1 ||| (1 : Int64))), .second, .val (.long (-9223372036854775808)), .second, .val (.long 9223372036854775807), .second, .val (.long (q4 &&& (9223372036854775807 : Int64))), .second, rv b160, iv 0] [.int 0])
          refine own_st (fun t k => XS.iload X184.here hx rfl (hb hby at_145) rfl k) ?_
          show own_E p e below _ T184 (mkF m 147 #[.val (.long q1), .second, .val (.long q2), .second, .val (.long q3), .second, .val (.long q4), .second, iv p5, iv 0, iv 1, iv 1, .val (.long (q1 ||| (1 : Int64))), .second, .val (.long (-9223372036854775808)), .second, .val (.long 9223372036854775807), .second, .val (.long (q4 &&& (9223372036854775807 : Int64))), .second, rv b160, iv 0] [.int 0, .int 0])
          refine own_st (fun t k => XS.icmpNo X184.here hx rfl (hb hby at_147) rfl (by decide) k) ?_
          show own_E p e below _ T184 (mkF m 150 #[.val (.long q1), .second, .val (.long q2), .second, .val (.long q3), .second, .val (.long q4), .second, iv p5, iv 0, iv 1, iv 1, .val (.long (q1 ||| (1 : Int64))), .second, .val (.long (-9223372036854775808)), .second, .val (.long 9223372036854775807), .second, .val (.long (q4 &&& (9223372036854775807 : Int64))), .second, rv b160, iv 0] [])
          refine own_st (fun t k => XS.iconst X184.here hx rfl (hb hby at_150) k) ?_
          show own_E p e below _ T184 (mkF m 151 #[.val (.long q1), .second, .val (.long q2), .second, .val (.long q3), .second, .val (.long q4), .second, iv p5, iv 0, iv 1, iv 1, .val (.long (q1 ||| (1 : Int64))), .second, .val (.long (-9223372036854775808)), .second, .val (.long 9223372036854775807), .second, .val (.long (q4 &&& (9223372036854775807 : Int64))), .second, rv b160, iv 0] [.int 1])
          refine own_st (fun t k => XS.goto X184.here hx rfl (pc0 := 151) (pc' := 155) rfl (hb hby at_151) (by decide) (by decide) k) ?_
          show own_E p e below _ T184 (mkF m 155 #[.val (.long q1), .second, .val (.long q2), .second, .val (.long q3), .second, .val (.long q4), .second, iv p5, iv 0, iv 1, iv 1, .val (.long (q1 ||| (1 : Int64))), .second, .val (.long (-9223372036854775808)), .second, .val (.long 9223372036854775807), .second, .val (.long (q4 &&& (9223372036854775807 : Int64))), .second, rv b160, iv 0] [.int 1])
          refine own_retS X184 hx Bd.notSynchronized Bd.returns rfl (by decide) (hb hby at_155) (by decide) (by decide) ?_
          exact ⟨rfl, N184⟩
  · refine own_st (fun t k => XS.ifNo X0.here hx rfl (hb hby at_4) rfl ((if0 _ _).trans (feq hc1).1) k) ?_
    show own_E p e below _ s₁ (mkF m 7 #[.val (.long q1), .second, .val (.long q2), .second, .val (.long q3), .second, .val (.long q4), .second, iv p5, .unset, .unset, .unset, .unset, .unset, .unset, .unset, .unset, .unset, .unset, .unset, .unset, .unset] [])
    refine own_st (fun t k => XS.iconst X0.here hx rfl (hb hby at_7) k) ?_
    show own_E p e below _ s₁ (mkF m 8 #[.val (.long q1), .second, .val (.long q2), .second, .val (.long q3), .second, .val (.long q4), .second, iv p5, .unset, .unset, .unset, .unset, .unset, .unset, .unset, .unset, .unset, .unset, .unset, .unset, .unset] [.int 1])
    refine own_st (fun t k => XS.goto X0.here hx rfl (pc0 := 8) (pc' := 12) rfl (hb hby at_8) (by decide) (by decide) k) ?_
    show own_E p e below _ s₁ (mkF m 12 #[.val (.long q1), .second, .val (.long q2), .second, .val (.long q3), .second, .val (.long q4), .second, iv p5, .unset, .unset, .unset, .unset, .unset, .unset, .unset, .unset, .unset, .unset, .unset, .unset, .unset] [.int 1])
    refine own_st (fun t k => XS.istore X0.here hx rfl (hb hby at_12) rfl (l' := #[.val (.long q1), .second, .val (.long q2), .second, .val (.long q3), .second, .val (.long q4), .second, iv p5, iv 1, .unset, .unset, .unset, .unset, .unset, .unset, .unset, .unset, .unset, .unset, .unset, .unset]) rfl k) ?_
    show own_E p e below _ s₁ (mkF m 14 #[.val (.long q1), .second, .val (.long q2), .second, .val (.long q3), .second, .val (.long q4), .second, iv p5, iv 1, .unset, .unset, .unset, .unset, .unset, .unset, .unset, .unset, .unset, .unset, .unset, .unset] [])
    refine own_st (fun t k => XS.iload X0.here hx rfl (hb hby at_14) rfl k) ?_
    show own_E p e below _ s₁ (mkF m 16 #[.val (.long q1), .second, .val (.long q2), .second, .val (.long q3), .second, .val (.long q4), .second, iv p5, iv 1, .unset, .unset, .unset, .unset, .unset, .unset, .unset, .unset, .unset, .unset, .unset, .unset] [.int p5])
    refine own_st (fun t k => XS.iconst X0.here hx rfl (hb hby at_16) k) ?_
    show own_E p e below _ s₁ (mkF m 17 #[.val (.long q1), .second, .val (.long q2), .second, .val (.long q3), .second, .val (.long q4), .second, iv p5, iv 1, .unset, .unset, .unset, .unset, .unset, .unset, .unset, .unset, .unset, .unset, .unset, .unset] [.int 2, .int p5])
    refine own_st (fun t k => XS.iand X0.here hx rfl (hb hby at_17) rfl k) ?_
    show own_E p e below _ s₁ (mkF m 18 #[.val (.long q1), .second, .val (.long q2), .second, .val (.long q3), .second, .val (.long q4), .second, iv p5, iv 1, .unset, .unset, .unset, .unset, .unset, .unset, .unset, .unset, .unset, .unset, .unset, .unset] [.int (p5 &&& (2 : Int32))])
    by_cases hc205 : (p5 &&& (2 : Int32)) = (0 : Int32)
    · refine own_st (fun t k => XS.ifYes X0.here hx rfl (pc0 := 18) (pc' := 25) rfl (hb hby at_18) rfl ((if0 _ _).trans (teq hc205).1) (by decide) (by decide) k) ?_
      show own_E p e below _ s₁ (mkF m 25 #[.val (.long q1), .second, .val (.long q2), .second, .val (.long q3), .second, .val (.long q4), .second, iv p5, iv 1, .unset, .unset, .unset, .unset, .unset, .unset, .unset, .unset, .unset, .unset, .unset, .unset] [])
      refine own_st (fun t k => XS.iconst X0.here hx rfl (hb hby at_25) k) ?_
      show own_E p e below _ s₁ (mkF m 26 #[.val (.long q1), .second, .val (.long q2), .second, .val (.long q3), .second, .val (.long q4), .second, iv p5, iv 1, .unset, .unset, .unset, .unset, .unset, .unset, .unset, .unset, .unset, .unset, .unset, .unset] [.int 0])
      refine own_st (fun t k => XS.istore X0.here hx rfl (hb hby at_26) rfl (l' := #[.val (.long q1), .second, .val (.long q2), .second, .val (.long q3), .second, .val (.long q4), .second, iv p5, iv 1, iv 0, .unset, .unset, .unset, .unset, .unset, .unset, .unset, .unset, .unset, .unset, .unset]) rfl k) ?_
      show own_E p e below _ s₁ (mkF m 28 #[.val (.long q1), .second, .val (.long q2), .second, .val (.long q3), .second, .val (.long q4), .second, iv p5, iv 1, iv 0, .unset, .unset, .unset, .unset, .unset, .unset, .unset, .unset, .unset, .unset, .unset] [])
      refine own_st (fun t k => XS.iload X0.here hx rfl (hb hby at_28) rfl k) ?_
      show own_E p e below _ s₁ (mkF m 30 #[.val (.long q1), .second, .val (.long q2), .second, .val (.long q3), .second, .val (.long q4), .second, iv p5, iv 1, iv 0, .unset, .unset, .unset, .unset, .unset, .unset, .unset, .unset, .unset, .unset, .unset] [.int p5])
      refine own_st (fun t k => XS.iconst X0.here hx rfl (hb hby at_30) k) ?_
      show own_E p e below _ s₁ (mkF m 31 #[.val (.long q1), .second, .val (.long q2), .second, .val (.long q3), .second, .val (.long q4), .second, iv p5, iv 1, iv 0, .unset, .unset, .unset, .unset, .unset, .unset, .unset, .unset, .unset, .unset, .unset] [.int 4, .int p5])
      refine own_st (fun t k => XS.iand X0.here hx rfl (hb hby at_31) rfl k) ?_
      show own_E p e below _ s₁ (mkF m 32 #[.val (.long q1), .second, .val (.long q2), .second, .val (.long q3), .second, .val (.long q4), .second, iv p5, iv 1, iv 0, .unset, .unset, .unset, .unset, .unset, .unset, .unset, .unset, .unset, .unset, .unset] [.int (p5 &&& (4 : Int32))])
      by_cases hc206 : (p5 &&& (4 : Int32)) = (0 : Int32)
      · refine own_st (fun t k => XS.ifYes X0.here hx rfl (pc0 := 32) (pc' := 39) rfl (hb hby at_32) rfl ((if0 _ _).trans (teq hc206).1) (by decide) (by decide) k) ?_
        show own_E p e below _ s₁ (mkF m 39 #[.val (.long q1), .second, .val (.long q2), .second, .val (.long q3), .second, .val (.long q4), .second, iv p5, iv 1, iv 0, .unset, .unset, .unset, .unset, .unset, .unset, .unset, .unset, .unset, .unset, .unset] [])
        refine own_st (fun t k => XS.iconst X0.here hx rfl (hb hby at_39) k) ?_
        show own_E p e below _ s₁ (mkF m 40 #[.val (.long q1), .second, .val (.long q2), .second, .val (.long q3), .second, .val (.long q4), .second, iv p5, iv 1, iv 0, .unset, .unset, .unset, .unset, .unset, .unset, .unset, .unset, .unset, .unset, .unset] [.int 0])
        refine own_st (fun t k => XS.istore X0.here hx rfl (hb hby at_40) rfl (l' := #[.val (.long q1), .second, .val (.long q2), .second, .val (.long q3), .second, .val (.long q4), .second, iv p5, iv 1, iv 0, iv 0, .unset, .unset, .unset, .unset, .unset, .unset, .unset, .unset, .unset, .unset]) rfl k) ?_
        show own_E p e below _ s₁ (mkF m 42 #[.val (.long q1), .second, .val (.long q2), .second, .val (.long q3), .second, .val (.long q4), .second, iv p5, iv 1, iv 0, iv 0, .unset, .unset, .unset, .unset, .unset, .unset, .unset, .unset, .unset, .unset] [])
        refine own_st (fun t k => XS.iload X0.here hx rfl (hb hby at_42) rfl k) ?_
        show own_E p e below _ s₁ (mkF m 44 #[.val (.long q1), .second, .val (.long q2), .second, .val (.long q3), .second, .val (.long q4), .second, iv p5, iv 1, iv 0, iv 0, .unset, .unset, .unset, .unset, .unset, .unset, .unset, .unset, .unset, .unset] [.int 1])
        refine own_st (fun t k => XS.ifNo X0.here hx rfl (hb hby at_44) rfl (by decide) k) ?_
        show own_E p e below _ s₁ (mkF m 47 #[.val (.long q1), .second, .val (.long q2), .second, .val (.long q3), .second, .val (.long q4), .second, iv p5, iv 1, iv 0, iv 0, .unset, .unset, .unset, .unset, .unset, .unset, .unset, .unset, .unset, .unset] [])
        refine own_st (X0.ldc2Long hx hown (mvT hZ (own_w hw 0 rfl)) (g := (mkF m 47 #[.val (.long q1), .second, .val (.long q2), .second, .val (.long q3), .second, .val (.long q4), .second, iv p5, iv 1, iv 0, iv 0, .unset, .unset, .unset, .unset, .unset, .unset, .unset, .unset, .unset, .unset] [])) rfl (hb hby at_47)) ?_
        show own_E p e below _ s₁ (mkF m 50 #[.val (.long q1), .second, .val (.long q2), .second, .val (.long q3), .second, .val (.long q4), .second, iv p5, iv 1, iv 0, iv 0, .unset, .unset, .unset, .unset, .unset, .unset, .unset, .unset, .unset, .unset] [.long (-9223372036854775808)])
        refine own_st (fun t k => XS.goto X0.here hx rfl (pc0 := 50) (pc' := 56) rfl (hb hby at_50) (by decide) (by decide) k) ?_
        show own_E p e below _ s₁ (mkF m 56 #[.val (.long q1), .second, .val (.long q2), .second, .val (.long q3), .second, .val (.long q4), .second, iv p5, iv 1, iv 0, iv 0, .unset, .unset, .unset, .unset, .unset, .unset, .unset, .unset, .unset, .unset] [.long (-9223372036854775808)])
        refine own_st (fun t k => XS.lstore X0.here hx rfl (hb hby at_56) rfl (l' := #[.val (.long q1), .second, .val (.long q2), .second, .val (.long q3), .second, .val (.long q4), .second, iv p5, iv 1, iv 0, iv 0, .val (.long (-9223372036854775808)), .second, .unset, .unset, .unset, .unset, .unset, .unset, .unset, .unset]) rfl k) ?_
        show own_E p e below _ s₁ (mkF m 58 #[.val (.long q1), .second, .val (.long q2), .second, .val (.long q3), .second, .val (.long q4), .second, iv p5, iv 1, iv 0, iv 0, .val (.long (-9223372036854775808)), .second, .unset, .unset, .unset, .unset, .unset, .unset, .unset, .unset] [])
        refine own_st (fun t k => XS.iload X0.here hx rfl (hb hby at_58) rfl k) ?_
        show own_E p e below _ s₁ (mkF m 60 #[.val (.long q1), .second, .val (.long q2), .second, .val (.long q3), .second, .val (.long q4), .second, iv p5, iv 1, iv 0, iv 0, .val (.long (-9223372036854775808)), .second, .unset, .unset, .unset, .unset, .unset, .unset, .unset, .unset] [.int 0])
        refine own_st (fun t k => XS.ifYes X0.here hx rfl (pc0 := 60) (pc' := 69) rfl (hb hby at_60) rfl (by decide) (by decide) (by decide) k) ?_
        show own_E p e below _ s₁ (mkF m 69 #[.val (.long q1), .second, .val (.long q2), .second, .val (.long q3), .second, .val (.long q4), .second, iv p5, iv 1, iv 0, iv 0, .val (.long (-9223372036854775808)), .second, .unset, .unset, .unset, .unset, .unset, .unset, .unset, .unset] [])
        refine own_st (fun t k => XS.lloadN X0.here hx rfl (hb hby at_69) rfl k) ?_
        show own_E p e below _ s₁ (mkF m 70 #[.val (.long q1), .second, .val (.long q2), .second, .val (.long q3), .second, .val (.long q4), .second, iv p5, iv 1, iv 0, iv 0, .val (.long (-9223372036854775808)), .second, .unset, .unset, .unset, .unset, .unset, .unset, .unset, .unset] [.long q2])
        refine own_st (fun t k => XS.lconst X0.here hx rfl (hb hby at_70) k) ?_
        show own_E p e below _ s₁ (mkF m 71 #[.val (.long q1), .second, .val (.long q2), .second, .val (.long q3), .second, .val (.long q4), .second, iv p5, iv 1, iv 0, iv 0, .val (.long (-9223372036854775808)), .second, .unset, .unset, .unset, .unset, .unset, .unset, .unset, .unset] [.long 1, .long q2])
        refine own_st (fun t k => XS.lor X0.here hx rfl (hb hby at_71) rfl k) ?_
        show own_E p e below _ s₁ (mkF m 72 #[.val (.long q1), .second, .val (.long q2), .second, .val (.long q3), .second, .val (.long q4), .second, iv p5, iv 1, iv 0, iv 0, .val (.long (-9223372036854775808)), .second, .unset, .unset, .unset, .unset, .unset, .unset, .unset, .unset] [.long (q2 ||| (1 : Int64))])
        refine own_st (fun t k => XS.lstore X0.here hx rfl (hb hby at_72) rfl (l' := #[.val (.long q1), .second, .val (.long q2), .second, .val (.long q3), .second, .val (.long q4), .second, iv p5, iv 1, iv 0, iv 0, .val (.long (-9223372036854775808)), .second, .val (.long (q2 ||| (1 : Int64))), .second, .unset, .unset, .unset, .unset, .unset, .unset]) rfl k) ?_
        show own_E p e below _ s₁ (mkF m 74 #[.val (.long q1), .second, .val (.long q2), .second, .val (.long q3), .second, .val (.long q4), .second, iv p5, iv 1, iv 0, iv 0, .val (.long (-9223372036854775808)), .second, .val (.long (q2 ||| (1 : Int64))), .second, .unset, .unset, .unset, .unset, .unset, .unset] [])
        refine own_st (fun t k => XS.iload X0.here hx rfl (hb hby at_74) rfl k) ?_
        show own_E p e below _ s₁ (mkF m 76 #[.val (.long q1), .second, .val (.long q2), .second, .val (.long q3), .second, .val (.long q4), .second, iv p5, iv 1, iv 0, iv 0, .val (.long (-9223372036854775808)), .second, .val (.long (q2 ||| (1 : Int64))), .second, .unset, .unset, .unset, .unset, .unset, .unset] [.int 0])
        refine own_st (fun t k => XS.ifYes X0.here hx rfl (pc0 := 76) (pc' := 85) rfl (hb hby at_76) rfl (by decide) (by decide) (by decide) k) ?_
        show own_E p e below _ s₁ (mkF m 85 #[.val (.long q1), .second, .val (.long q2), .second, .val (.long q3), .second, .val (.long q4), .second, iv p5, iv 1, iv 0, iv 0, .val (.long (-9223372036854775808)), .second, .val (.long (q2 ||| (1 : Int64))), .second, .unset, .unset, .unset, .unset, .unset, .unset] [])
        refine own_st (fun t k => XS.lload X0.here hx rfl (hb hby at_85) rfl k) ?_
        show own_E p e below _ s₁ (mkF m 87 #[.val (.long q1), .second, .val (.long q2), .second, .val (.long q3), .second, .val (.long q4), .second, iv p5, iv 1, iv 0, iv 0, .val (.long (-9223372036854775808)), .second, .val (.long (q2 ||| (1 : Int64))), .second, .unset, .unset, .unset, .unset, .unset, .unset] [.long q3])
        refine own_st (X0.ldc2Long hx hown (mvT hZ (own_w hw 1 rfl)) (g := (mkF m 87 #[.val (.long q1), .second, .val (.long q2), .second, .val (.long q3), .second, .val (.long q4), .second, iv p5, iv 1, iv 0, iv 0, .val (.long (-9223372036854775808)), .second, .val (.long (q2 ||| (1 : Int64))), .second, .unset, .unset, .unset, .unset, .unset, .unset] [.long q3])) rfl (hb hby at_87)) ?_
        show own_E p e below _ s₁ (mkF m 90 #[.val (.long q1), .second, .val (.long q2), .second, .val (.long q3), .second, .val (.long q4), .second, iv p5, iv 1, iv 0, iv 0, .val (.long (-9223372036854775808)), .second, .val (.long (q2 ||| (1 : Int64))), .second, .unset, .unset, .unset, .unset, .unset, .unset] [.long (-2), .long q3])
        refine own_st (fun t k => XS.land X0.here hx rfl (hb hby at_90) rfl k) ?_
        show own_E p e below _ s₁ (mkF m 91 #[.val (.long q1), .second, .val (.long q2), .second, .val (.long q3), .second, .val (.long q4), .second, iv p5, iv 1, iv 0, iv 0, .val (.long (-9223372036854775808)), .second, .val (.long (q2 ||| (1 : Int64))), .second, .unset, .unset, .unset, .unset, .unset, .unset] [.long (q3 &&& (-2 : Int64))])
        refine own_st (fun t k => XS.lstore X0.here hx rfl (hb hby at_91) rfl (l' := #[.val (.long q1), .second, .val (.long q2), .second, .val (.long q3), .second, .val (.long q4), .second, iv p5, iv 1, iv 0, iv 0, .val (.long (-9223372036854775808)), .second, .val (.long (q2 ||| (1 : Int64))), .second, .val (.long (q3 &&& (-2 : Int64))), .second, .unset, .unset, .unset, .unset]) rfl k) ?_
        show own_E p e below _ s₁ (mkF m 93 #[.val (.long q1), .second, .val (.long q2), .second, .val (.long q3), .second, .val (.long q4), .second, iv p5, iv 1, iv 0, iv 0, .val (.long (-9223372036854775808)), .second, .val (.long (q2 ||| (1 : Int64))), .second, .val (.long (q3 &&& (-2 : Int64))), .second, .unset, .unset, .unset, .unset] [])
        refine own_st (fun t k => XS.lload X0.here hx rfl (hb hby at_93) rfl k) ?_
        show own_E p e below _ s₁ (mkF m 95 #[.val (.long q1), .second, .val (.long q2), .second, .val (.long q3), .second, .val (.long q4), .second, iv p5, iv 1, iv 0, iv 0, .val (.long (-9223372036854775808)), .second, .val (.long (q2 ||| (1 : Int64))), .second, .val (.long (q3 &&& (-2 : Int64))), .second, .unset, .unset, .unset, .unset] [.long q4])
        refine own_st (X0.ldc2Long hx hown (mvT hZ (own_w hw 2 rfl)) (g := (mkF m 95 #[.val (.long q1), .second, .val (.long q2), .second, .val (.long q3), .second, .val (.long q4), .second, iv p5, iv 1, iv 0, iv 0, .val (.long (-9223372036854775808)), .second, .val (.long (q2 ||| (1 : Int64))), .second, .val (.long (q3 &&& (-2 : Int64))), .second, .unset, .unset, .unset, .unset] [.long q4])) rfl (hb hby at_95)) ?_
        show own_E p e below _ s₁ (mkF m 98 #[.val (.long q1), .second, .val (.long q2), .second, .val (.long q3), .second, .val (.long q4), .second, iv p5, iv 1, iv 0, iv 0, .val (.long (-9223372036854775808)), .second, .val (.long (q2 ||| (1 : Int64))), .second, .val (.long (q3 &&& (-2 : Int64))), .second, .unset, .unset, .unset, .unset] [.long 9223372036854775807, .long q4])
        refine own_st (fun t k => XS.land X0.here hx rfl (hb hby at_98) rfl k) ?_
        show own_E p e below _ s₁ (mkF m 99 #[.val (.long q1), .second, .val (.long q2), .second, .val (.long q3), .second, .val (.long q4), .second, iv p5, iv 1, iv 0, iv 0, .val (.long (-9223372036854775808)), .second, .val (.long (q2 ||| (1 : Int64))), .second, .val (.long (q3 &&& (-2 : Int64))), .second, .unset, .unset, .unset, .unset] [.long (q4 &&& (9223372036854775807 : Int64))])
        refine own_st (fun t k => XS.lstore X0.here hx rfl (hb hby at_99) rfl (l' := #[.val (.long q1), .second, .val (.long q2), .second, .val (.long q3), .second, .val (.long q4), .second, iv p5, iv 1, iv 0, iv 0, .val (.long (-9223372036854775808)), .second, .val (.long (q2 ||| (1 : Int64))), .second, .val (.long (q3 &&& (-2 : Int64))), .second, .val (.long (q4 &&& (9223372036854775807 : Int64))), .second, .unset, .unset]) rfl k) ?_
        show own_E p e below _ s₁ (mkF m 101 #[.val (.long q1), .second, .val (.long q2), .second, .val (.long q3), .second, .val (.long q4), .second, iv p5, iv 1, iv 0, iv 0, .val (.long (-9223372036854775808)), .second, .val (.long (q2 ||| (1 : Int64))), .second, .val (.long (q3 &&& (-2 : Int64))), .second, .val (.long (q4 &&& (9223372036854775807 : Int64))), .second, .unset, .unset] [])
        obtain ⟨T207, h207, X207, e207, E207, A207, D207, -, st207⟩ := newO X0 hx hZ hown (own_w hw 3 rfl) (own_w hw 4 rfl) (own_w hw 5 rfl) e0 (g := (mkF m 101 #[.val (.long q1), .second, .val (.long q2), .second, .val (.long q3), .second, .val (.long q4), .second, iv p5, iv 1, iv 0, iv 0, .val (.long (-9223372036854775808)), .second, .val (.long (q2 ||| (1 : Int64))), .second, .val (.long (q3 &&& (-2 : Int64))), .second, .val (.long (q4 &&& (9223372036854775807 : Int64))), .second, .unset, .unset] [])) rfl (hb hby at_101) (by decide) (by decide)
        obtain ⟨b207, g207⟩ : ∃ z, z = h0.size := ⟨_, rfl⟩
        rw [← g207] at A207 D207 st207
        have g_b207 : n0 ≤ b207 := Nat.le_trans Z0 (Nat.le_of_eq g207.symm)
        have Z208 := Nat.le_trans Z0 E207.1
        have F_storedFrom_b207 : Fld Z h207 b207 "com/example/brazier/brazier/store/HistoryBound" "storedFrom" "J" (.long (0 : Int64)) := D207 (Or.inr (own_w hw 18 rfl)) (ty := .long) (by decide)
        have F_currentFrom_b207 : Fld Z h207 b207 "com/example/brazier/brazier/store/HistoryBound" "currentFrom" "J" (.long (0 : Int64)) := D207 (Or.inr (own_w hw 20 rfl)) (ty := .long) (by decide)
        have F_currentTo_b207 : Fld Z h207 b207 "com/example/brazier/brazier/store/HistoryBound" "currentTo" "J" (.long (0 : Int64)) := D207 (Or.inr (own_w hw 22 rfl)) (ty := .long) (by decide)
        have F_storedUpTo_b207 : Fld Z h207 b207 "com/example/brazier/brazier/store/HistoryBound" "storedUpTo" "J" (.long (0 : Int64)) := D207 (Or.inr (own_w hw 24 rfl)) (ty := .long) (by decide)
        refine own_st st207 ?_
        show own_E p e below _ T207 (mkF m 104 #[.val (.long q1), .second, .val (.long q2), .second, .val (.long q3), .second, .val (.long q4), .second, iv p5, iv 1, iv 0, iv 0, .val (.long (-9223372036854775808)), .second, .val (.long (q2 ||| (1 : Int64))), .second, .val (.long (q3 &&& (-2 : Int64))), .second, .val (.long (q4 &&& (9223372036854775807 : Int64))), .second, .unset, .unset] [.ref b207])
        refine own_st (fun t k => XS.dup X207.here hx rfl (hb hby at_104) rfl rfl k) ?_
        show own_E p e below _ T207 (mkF m 105 #[.val (.long q1), .second, .val (.long q2), .second, .val (.long q3), .second, .val (.long q4), .second, iv p5, iv 1, iv 0, iv 0, .val (.long (-9223372036854775808)), .second, .val (.long (q2 ||| (1 : Int64))), .second, .val (.long (q3 &&& (-2 : Int64))), .second, .val (.long (q4 &&& (9223372036854775807 : Int64))), .second, .unset, .unset] [.ref b207, .ref b207])
        refine own_st (fun t k => XS.lload X207.here hx rfl (hb hby at_105) rfl k) ?_
        show own_E p e below _ T207 (mkF m 107 #[.val (.long q1), .second, .val (.long q2), .second, .val (.long q3), .second, .val (.long q4), .second, iv p5, iv 1, iv 0, iv 0, .val (.long (-9223372036854775808)), .second, .val (.long (q2 ||| (1 : Int64))), .second, .val (.long (q3 &&& (-2 : Int64))), .second, .val (.long (q4 &&& (9223372036854775807 : Int64))), .second, .unset, .unset] [.long (-9223372036854775808), .ref b207, .ref b207])
        refine own_st (fun t k => XS.lload X207.here hx rfl (hb hby at_107) rfl k) ?_
        show own_E p e below _ T207 (mkF m 109 #[.val (.long q1), .second, .val (.long q2), .second, .val (.long q3), .second, .val (.long q4), .second, iv p5, iv 1, iv 0, iv 0, .val (.long (-9223372036854775808)), .second, .val (.long (q2 ||| (1 : Int64))), .second, .val (.long (q3 &&& (-2 : Int64))), .second, .val (.long (q4 &&& (9223372036854775807 : Int64))), .second, .unset, .unset] [.long (q2 ||| (1 : Int64)), .long (-9223372036854775808), .ref b207, .ref b207])
        refine own_st (fun t k => XS.lload X207.here hx rfl (hb hby at_109) rfl k) ?_
        show own_E p e below _ T207 (mkF m 111 #[.val (.long q1), .second, .val (.long q2), .second, .val (.long q3), .second, .val (.long q4), .second, iv p5, iv 1, iv 0, iv 0, .val (.long (-9223372036854775808)), .second, .val (.long (q2 ||| (1 : Int64))), .second, .val (.long (q3 &&& (-2 : Int64))), .second, .val (.long (q4 &&& (9223372036854775807 : Int64))), .second, .unset, .unset] [.long (q3 &&& (-2 : Int64)), .long (q2 ||| (1 : Int64)), .long (-9223372036854775808), .ref b207, .ref b207])
        refine own_st (fun t k => XS.lload X207.here hx rfl (hb hby at_111) rfl k) ?_
        show own_E p e below _ T207 (mkF m 113 #[.val (.long q1), .second, .val (.long q2), .second, .val (.long q3), .second, .val (.long q4), .second, iv p5, iv 1, iv 0, iv 0, .val (.long (-9223372036854775808)), .second, .val (.long (q2 ||| (1 : Int64))), .second, .val (.long (q3 &&& (-2 : Int64))), .second, .val (.long (q4 &&& (9223372036854775807 : Int64))), .second, .unset, .unset] [.long (q4 &&& (9223372036854775807 : Int64)), .long (q3 &&& (-2 : Int64)), .long (q2 ||| (1 : Int64)), .long (-9223372036854775808), .ref b207, .ref b207])
        have hv209 : ¬ ((q4 &&& (9223372036854775807 : Int64)) < (0 : Int64)) := by
          rw [Int64.lt_iff_toInt_lt]
          have f210 := rng32 p5
          have f211 : (1 : Int32).toInt = 1 := rfl
          have f212 := rng32 (p5 &&& (1 : Int32))
          have f213 : (p5 &&& (1 : Int32)).toInt = p5.toInt % 2 := c_mask p5 (1 : Int32) 1 (by decide) (by decide)
          have f214 : (0 : Int32).toInt = 0 := rfl
          have f215 : (2 : Int32).toInt = 2 := rfl
          have f216 := rng32 (p5 &&& (2 : Int32))
          have f217 := c_and p5 (2 : Int32) (by decide)
          have f218 : (4 : Int32).toInt = 4 := rfl
          have f219 := rng32 (p5 &&& (4 : Int32))
          have f220 := c_and p5 (4 : Int32) (by decide)
          have f221 := rng64 q4
          have f222 : (9223372036854775807 : Int64).toInt = 9223372036854775807 := rfl
          have f223 := rng64 (q4 &&& (9223372036854775807 : Int64))
          have f224 : (q4 &&& (9223372036854775807 : Int64)).toInt = q4.toInt % 9223372036854775808 := c_maskL q4 (9223372036854775807 : Int64) 63 (by decide) (by decide)
          have f225 : (0 : Int64).toInt = 0 := rfl
          have g226 := hc1
          rw [← Int32.toInt_inj] at g226
          have g227 := hc205
          rw [← Int32.toInt_inj] at g227
          have g228 := hc206
          rw [← Int32.toInt_inj] at g228
          omega
        obtain ⟨_, _, ⟨T229, L229, k229, n229⟩, -, X229, ⟨Lc229, hQ229, l229, y229, z229⟩, st229⟩ := X207.specialBack hx (y := own_y1) rfl hown (mvT hZ (own_w hw 6 rfl)) (mvT hZ (own_w hw 7 rfl)) (mvT hZ (own_w hw 8 rfl)) (by decide) (backOf (W := 1) (own_init l Z a0 hw [] b207 (-9223372036854775808 : Int64) (q2 ||| (1 : Int64)) (q3 &&& (-2 : Int64)) (q4 &&& (9223372036854775807 : Int64)) h207 n0 Z208 A207 F_storedFrom_b207 F_currentFrom_b207 F_currentTo_b207 F_storedUpTo_b207 hv209 g_b207) hZ (own_w hw 8 rfl) (own_w hw 5 rfl) (by decide) (by decide)) (g := (mkF m 113 #[.val (.long q1), .second, .val (.long q2), .second, .val (.long q3), .second, .val (.long q4), .second, iv p5, iv 1, iv 0, iv 0, .val (.long (-9223372036854775808)), .second, .val (.long (q2 ||| (1 : Int64))), .second, .val (.long (q3 &&& (-2 : Int64))), .second, .val (.long (q4 &&& (9223372036854775807 : Int64))), .second, .unset, .unset] [.long (q4 &&& (9223372036854775807 : Int64)), .long (q3 &&& (-2 : Int64)), .long (q2 ||| (1 : Int64)), .long (-9223372036854775808), .ref b207, .ref b207])) rfl (by rw [hml]; rfl) (Steps.refl _) (a := b207) (argsL := [(.long (-9223372036854775808 : Int64)), (.long (q2 ||| (1 : Int64))), (.long (q3 &&& (-2 : Int64))), (.long (q4 &&& (9223372036854775807 : Int64)))]) (rest := [(.ref b207)]) (lenOf own_pd_2 rfl) rfl (by show 2 * 0 + _ ≤ _; exact Nat.le_of_eq rfl) (hb hby at_113) (fun _ _ => ⟨rfl, e207, (by decide : 1 + 0 ≤ _), (by decide : 4 + 0 ≤ _)⟩)
        dsimp only [Pt.U, Pt.locs, Pt.cells, Pt.slots] at X229 l229 y229 z229 st229 hQ229
        subst l229 y229 z229
        obtain ⟨rfl, Nq229, Kq229, P229_0, P229_1, P229_2, P229_3, P229_4⟩ := hQ229
        have N229 := Fr.app (Fr.nil n0) Nq229
        have e229 : T229.heap = T229.heap := rfl
        have Z230 := Nat.le_trans Z208 Kq229.1
        refine own_tr st229 ?_
        show own_E p e below _ T229 (mkF m 116 #[.val (.long q1), .second, .val (.long q2), .second, .val (.long q3), .second, .val (.long q4), .second, iv p5, iv 1, iv 0, iv 0, .val (.long (-9223372036854775808)), .second, .val (.long (q2 ||| (1 : Int64))), .second, .val (.long (q3 &&& (-2 : Int64))), .second, .val (.long (q4 &&& (9223372036854775807 : Int64))), .second, .unset, .unset] [.ref b207])
        refine own_st (fun t k => XS.astore X229.here hx rfl (hb hby at_116) rfl rfl (l' := #[.val (.long q1), .second, .val (.long q2), .second, .val (.long q3), .second, .val (.long q4), .second, iv p5, iv 1, iv 0, iv 0, .val (.long (-9223372036854775808)), .second, .val (.long (q2 ||| (1 : Int64))), .second, .val (.long (q3 &&& (-2 : Int64))), .second, .val (.long (q4 &&& (9223372036854775807 : Int64))), .second, rv b207, .unset]) rfl k) ?_
        show own_E p e below _ T229 (mkF m 118 #[.val (.long q1), .second, .val (.long q2), .second, .val (.long q3), .second, .val (.long q4), .second, iv p5, iv 1, iv 0, iv 0, .val (.long (-9223372036854775808)), .second, .val (.long (q2 ||| (1 : Int64))), .second, .val (.long (q3 &&& (-2 : Int64))), .second, .val (.long (q4 &&& (9223372036854775807 : Int64))), .second, rv b207, .unset] [])
        refine own_st (fun t k => XS.iload X229.here hx rfl (hb hby at_118) rfl k) ?_
        show own_E p e below _ T229 (mkF m 120 #[.val (.long q1), .second, .val (.long q2), .second, .val (.long q3), .second, .val (.long q4), .second, iv p5, iv 1, iv 0, iv 0, .val (.long (-9223372036854775808)), .second, .val (.long (q2 ||| (1 : Int64))), .second, .val (.long (q3 &&& (-2 : Int64))), .second, .val (.long (q4 &&& (9223372036854775807 : Int64))), .second, rv b207, .unset] [.int 1])
        refine own_st (fun t k => XS.ifNo X229.here hx rfl (hb hby at_120) rfl (by decide) k) ?_
        show own_E p e below _ T229 (mkF m 123 #[.val (.long q1), .second, .val (.long q2), .second, .val (.long q3), .second, .val (.long q4), .second, iv p5, iv 1, iv 0, iv 0, .val (.long (-9223372036854775808)), .second, .val (.long (q2 ||| (1 : Int64))), .second, .val (.long (q3 &&& (-2 : Int64))), .second, .val (.long (q4 &&& (9223372036854775807 : Int64))), .second, rv b207, .unset] [])
        refine own_st (fun t k => XS.iload X229.here hx rfl (hb hby at_123) rfl k) ?_
        show own_E p e below _ T229 (mkF m 125 #[.val (.long q1), .second, .val (.long q2), .second, .val (.long q3), .second, .val (.long q4), .second, iv p5, iv 1, iv 0, iv 0, .val (.long (-9223372036854775808)), .second, .val (.long (q2 ||| (1 : Int64))), .second, .val (.long (q3 &&& (-2 : Int64))), .second, .val (.long (q4 &&& (9223372036854775807 : Int64))), .second, rv b207, .unset] [.int 0])
        refine own_st (fun t k => XS.ifYes X229.here hx rfl (pc0 := 125) (pc' := 137) rfl (hb hby at_125) rfl (by decide) (by decide) (by decide) k) ?_
        show own_E p e below _ T229 (mkF m 137 #[.val (.long q1), .second, .val (.long q2), .second, .val (.long q3), .second, .val (.long q4), .second, iv p5, iv 1, iv 0, iv 0, .val (.long (-9223372036854775808)), .second, .val (.long (q2 ||| (1 : Int64))), .second, .val (.long (q3 &&& (-2 : Int64))), .second, .val (.long (q4 &&& (9223372036854775807 : Int64))), .second, rv b207, .unset] [])
        refine own_st (fun t k => XS.iconst X229.here hx rfl (hb hby at_137) k) ?_
        show own_E p e below _ T229 (mkF m 138 #[.val (.long q1), .second, .val (.long q2), .second, .val (.long q3), .second, .val (.long q4), .second, iv p5, iv 1, iv 0, iv 0, .val (.long (-9223372036854775808)), .second, .val (.long (q2 ||| (1 : Int64))), .second, .val (.long (q3 &&& (-2 : Int64))), .second, .val (.long (q4 &&& (9223372036854775807 : Int64))), .second, rv b207, .unset] [.int 0])
        refine own_st (fun t k => XS.istore X229.here hx rfl (hb hby at_138) rfl (l' := #[.val (.long q1), .second, .val (.long q2), .second, .val (.long q3), .second, .val (.long q4), .second, iv p5, iv 1, iv 0, iv 0, .val (.long (-9223372036854775808)), .second, .val (.long (q2 ||| (1 : Int64))), .second, .val (.long (q3 &&& (-2 : Int64))), .second, .val (.long (q4 &&& (9223372036854775807 : Int64))), .second, rv b207, iv 0]) rfl k) ?_
        show own_E p e below _ T229 (mkF m 140 #[.val (.long q1), .second, .val (.long q2), .second, .val (.long q3), .second, .val (.long q4), .second, iv p5, iv 1, iv 0, iv 0, .val (.long (-9223372036854775808)), .second, .val (.long (q2 ||| (1 : Int64))), .second, .val (.long (q3 &&& (-2 : Int64))), .second, .val (.long (q4 &&& (9223372036854775807 : Int64))), .second, rv b207, iv 0] [])
        refine own_st (fun t k => XS.aload X229.here hx rfl (hb hby at_140) rfl rfl k) ?_
        show own_E p e below _ T229 (mkF m 142 #[.val (.long q1), .second, .val (.long q2), .second, .val (.long q3), .second, .val (.long q4), .second, iv p5, iv 1, iv 0, iv 0, .val (.long (-9223372036854775808)), .second, .val (.long (q2 ||| (1 : Int64))), .second, .val (.long (q3 &&& (-2 : Int64))), .second, .val (.long (q4 &&& (9223372036854775807 : Int64))), .second, rv b207, iv 0] [.ref b207])
        obtain ⟨cq231, kq231, q231a, q231b, q231c⟩ := isOf hZ e229 P229_0
        obtain ⟨_, _, ⟨T231, L231, k231, n231⟩, -, X231, ⟨Lc231, hQ231, l231, y231, z231⟩, st231⟩ := X229.virtualBack hx (y := own_y2) (z := own_y2) hown (mvT hZ (own_w hw 25 rfl)) (mvT hZ (own_w hw 26 rfl)) (notFace_of_selects (args := #[]) (mvT hZ (own_w hw 28 rfl))) (mvT hZ (own_w hw 28 rfl)) (mvT hZ (own_w hw 27 rfl)) (by decide) (backOf (W := 0) (own_every l Z a0 hw [] b207 (-9223372036854775808 : Int64) (q2 ||| (1 : Int64)) (q3 &&& (-2 : Int64)) T229.heap n0 Z230 P229_1 P229_2 P229_3) hZ (own_w hw 29 rfl) (own_w hw 5 rfl) (by decide) (by decide)) q231a q231c (g := (mkF m 142 #[.val (.long q1), .second, .val (.long q2), .second, .val (.long q3), .second, .val (.long q4), .second, iv p5, iv 1, iv 0, iv 0, .val (.long (-9223372036854775808)), .second, .val (.long (q2 ||| (1 : Int64))), .second, .val (.long (q3 &&& (-2 : Int64))), .second, .val (.long (q4 &&& (9223372036854775807 : Int64))), .second, rv b207, iv 0] [.ref b207])) rfl (by rw [hml]; rfl) (Steps.refl _) (argsL := []) (rest := []) (lenOf own_pd_1 rfl) rfl (by show 2 * 0 + _ ≤ _; exact Nat.le_of_eq rfl) (hb hby at_142) (fun _ _ => ⟨rfl, e229, (by decide : 1 + 0 ≤ _), (by decide : 4 + 0 ≤ _)⟩)
        dsimp only [Pt.U, Pt.locs, Pt.cells, Pt.slots] at X231 l231 y231 z231 st231 hQ231
        subst l231 y231 z231
        obtain ⟨hR231, e231, rfl⟩ := hQ231
        have N231 := Fr.app N229 (Fr.nil n0)
        rcases hR231 with ⟨rfl, ha231_0, ha231_1, ha231_2⟩ | ⟨rfl, ha231_0, ha231_1, ha231_2⟩ | ⟨rfl, ha231_0, ha231_1⟩ | ⟨rfl, ha231_0⟩
        · refine own_tr st231 ?_
          show own_E p e below _ T231 (mkF m 145 #[.val (.long q1), .second, .val (.long q2), .second, .val (.long q3), .second, .val (.long q4), .second, iv p5, iv 1, iv 0, iv 0, .val (.long (-9223372036854775808)), .second, .val (.long (q2 ||| (1 : Int64))), .second, .val (.long (q3 &&& (-2 : Int64))), .second, .val (.long (q4 &&& (9223372036854775807 : Int64))), .second, rv b207, iv 0] [.int 1])
          refine own_st (fun t k => XS.iload X231.here hx rfl (hb hby at_145) rfl k) ?_
          show own_E p e below _ T231 (mkF m 147 #[.val (.long q1), .second, .val (.long q2), .second, .val (.long q3), .second, .val (.long q4), .second, iv p5, iv 1, iv 0, iv 0, .val (.long (-9223372036854775808)), .second, .val (.long (q2 ||| (1 : Int64))), .second, .val (.long (q3 &&& (-2 : Int64))), .second, .val (.long (q4 &&& (9223372036854775807 : Int64))), .second, rv b207, iv 0] [.int 0, .int 1])
          refine own_st (fun t k => XS.icmpYes X231.here hx rfl (pc0 := 147) (pc' := 154) rfl (hb hby at_147) rfl (by decide) (by decide) (by decide) k) ?_
          show own_E p e below _ T231 (mkF m 154 #[.val (.long q1), .second, .val (.long q2), .second, .val (.long q3), .second, .val (.long q4), .second, iv p5, iv 1, iv 0, iv 0, .val (.long (-9223372036854775808)), .second, .val (.long (q2 ||| (1 : Int64))), .second, .val (.long (q3 &&& (-2 : Int64))), .second, .val (.long (q4 &&& (9223372036854775807 : Int64))), .second, rv b207, iv 0] [])
          refine own_st (fun t k => XS.iconst X231.here hx rfl (hb hby at_154) k) ?_
          show own_E p e below _ T231 (mkF m 155 #[.val (.long q1), .second, .val (.long q2), .second, .val (.long q3), .second, .val (.long q4), .second, iv p5, iv 1, iv 0, iv 0, .val (.long (-9223372036854775808)), .second, .val (.long (q2 ||| (1 : Int64))), .second, .val (.long (q3 &&& (-2 : Int64))), .second, .val (.long (q4 &&& (9223372036854775807 : Int64))), .second, rv b207, iv 0] [.int 0])
          refine own_retS X231 hx Bd.notSynchronized Bd.returns rfl (by decide) (hb hby at_155) (by decide) (by decide) ?_
          exfalso
          have f232 := rng32 p5
          have f233 : (1 : Int32).toInt = 1 := rfl
          have f234 := rng32 (p5 &&& (1 : Int32))
          have f235 : (p5 &&& (1 : Int32)).toInt = p5.toInt % 2 := c_mask p5 (1 : Int32) 1 (by decide) (by decide)
          have f236 : (0 : Int32).toInt = 0 := rfl
          have f237 : (2 : Int32).toInt = 2 := rfl
          have f238 := rng32 (p5 &&& (2 : Int32))
          have f239 := c_and p5 (2 : Int32) (by decide)
          have f240 : (4 : Int32).toInt = 4 := rfl
          have f241 := rng32 (p5 &&& (4 : Int32))
          have f242 := c_and p5 (4 : Int32) (by decide)
          have f243 := rng64 q2
          have f244 : (1 : Int64).toInt = 1 := rfl
          have f245 := rng64 (q2 ||| (1 : Int64))
          have f246 := own_lor1 q2
          have f247 : (-9223372036854775808 : Int64).toInt = -9223372036854775808 := rfl
          have f248 := rng64 q3
          have f249 : (-2 : Int64).toInt = -2 := rfl
          have f250 := rng64 (q3 &&& (-2 : Int64))
          have f251 := own_landm2 q3
          have f252 : (9223372036854775807 : Int64).toInt = 9223372036854775807 := rfl
          have g253 := hc1
          rw [← Int32.toInt_inj] at g253
          have g254 := hc205
          rw [← Int32.toInt_inj] at g254
          have g255 := hc206
          rw [← Int32.toInt_inj] at g255
          have g256 := ha231_1
          rw [← Int64.toInt_inj] at g256
          have g257 := ha231_2
          rw [← Int64.toInt_inj] at g257
          omega
        · refine own_tr st231 ?_
          show own_E p e below _ T231 (mkF m 145 #[.val (.long q1), .second, .val (.long q2), .second, .val (.long q3), .second, .val (.long q4), .second, iv p5, iv 1, iv 0, iv 0, .val (.long (-9223372036854775808)), .second, .val (.long (q2 ||| (1 : Int64))), .second, .val (.long (q3 &&& (-2 : Int64))), .second, .val (.long (q4 &&& (9223372036854775807 : Int64))), .second, rv b207, iv 0] [.int 0])
          refine own_st (fun t k => XS.iload X231.here hx rfl (hb hby at_145) rfl k) ?_
          show own_E p e below _ T231 (mkF m 147 #[.val (.long q1), .second, .val (.long q2), .second, .val (.long q3), .second, .val (.long q4), .second, iv p5, iv 1, iv 0, iv 0, .val (.long (-9223372036854775808)), .second, .val (.long (q2 ||| (1 : Int64))), .second, .val (.long (q3 &&& (-2 : Int64))), .second, .val (.long (q4 &&& (9223372036854775807 : Int64))), .second, rv b207, iv 0] [.int 0, .int 0])
          refine own_st (fun t k => XS.icmpNo X231.here hx rfl (hb hby at_147) rfl (by decide) k) ?_
          show own_E p e below _ T231 (mkF m 150 #[.val (.long q1), .second, .val (.long q2), .second, .val (.long q3), .second, .val (.long q4), .second, iv p5, iv 1, iv 0, iv 0, .val (.long (-9223372036854775808)), .second, .val (.long (q2 ||| (1 : Int64))), .second, .val (.long (q3 &&& (-2 : Int64))), .second, .val (.long (q4 &&& (9223372036854775807 : Int64))), .second, rv b207, iv 0] [])
          refine own_st (fun t k => XS.iconst X231.here hx rfl (hb hby at_150) k) ?_
          show own_E p e below _ T231 (mkF m 151 #[.val (.long q1), .second, .val (.long q2), .second, .val (.long q3), .second, .val (.long q4), .second, iv p5, iv 1, iv 0, iv 0, .val (.long (-9223372036854775808)), .second, .val (.long (q2 ||| (1 : Int64))), .second, .val (.long (q3 &&& (-2 : Int64))), .second, .val (.long (q4 &&& (9223372036854775807 : Int64))), .second, rv b207, iv 0] [.int 1])
          refine own_st (fun t k => XS.goto X231.here hx rfl (pc0 := 151) (pc' := 155) rfl (hb hby at_151) (by decide) (by decide) k) ?_
          show own_E p e below _ T231 (mkF m 155 #[.val (.long q1), .second, .val (.long q2), .second, .val (.long q3), .second, .val (.long q4), .second, iv p5, iv 1, iv 0, iv 0, .val (.long (-9223372036854775808)), .second, .val (.long (q2 ||| (1 : Int64))), .second, .val (.long (q3 &&& (-2 : Int64))), .second, .val (.long (q4 &&& (9223372036854775807 : Int64))), .second, rv b207, iv 0] [.int 1])
          refine own_retS X231 hx Bd.notSynchronized Bd.returns rfl (by decide) (hb hby at_155) (by decide) (by decide) ?_
          exact ⟨rfl, N231⟩
        · refine own_tr st231 ?_
          show own_E p e below _ T231 (mkF m 145 #[.val (.long q1), .second, .val (.long q2), .second, .val (.long q3), .second, .val (.long q4), .second, iv p5, iv 1, iv 0, iv 0, .val (.long (-9223372036854775808)), .second, .val (.long (q2 ||| (1 : Int64))), .second, .val (.long (q3 &&& (-2 : Int64))), .second, .val (.long (q4 &&& (9223372036854775807 : Int64))), .second, rv b207, iv 0] [.int 0])
          refine own_st (fun t k => XS.iload X231.here hx rfl (hb hby at_145) rfl k) ?_
          show own_E p e below _ T231 (mkF m 147 #[.val (.long q1), .second, .val (.long q2), .second, .val (.long q3), .second, .val (.long q4), .second, iv p5, iv 1, iv 0, iv 0, .val (.long (-9223372036854775808)), .second, .val (.long (q2 ||| (1 : Int64))), .second, .val (.long (q3 &&& (-2 : Int64))), .second, .val (.long (q4 &&& (9223372036854775807 : Int64))), .second, rv b207, iv 0] [.int 0, .int 0])
          refine own_st (fun t k => XS.icmpNo X231.here hx rfl (hb hby at_147) rfl (by decide) k) ?_
          show own_E p e below _ T231 (mkF m 150 #[.val (.long q1), .second, .val (.long q2), .second, .val (.long q3), .second, .val (.long q4), .second, iv p5, iv 1, iv 0, iv 0, .val (.long (-9223372036854775808)), .second, .val (.long (q2 ||| (1 : Int64))), .second, .val (.long (q3 &&& (-2 : Int64))), .second, .val (.long (q4 &&& (9223372036854775807 : Int64))), .second, rv b207, iv 0] [])
          refine own_st (fun t k => XS.iconst X231.here hx rfl (hb hby at_150) k) ?_
          show own_E p e below _ T231 (mkF m 151 #[.val (.long q1), .second, .val (.long q2), .second, .val (.long q3), .second, .val (.long q4), .second, iv p5, iv 1, iv 0, iv 0, .val (.long (-9223372036854775808)), .second, .val (.long (q2 ||| (1 : Int64))), .second, .val (.long (q3 &&& (-2 : Int64))), .second, .val (.long (q4 &&& (9223372036854775807 : Int64))), .second, rv b207, iv 0] [.int 1])
          refine own_st (fun t k => XS.goto X231.here hx rfl (pc0 := 151) (pc' := 155) rfl (hb hby at_151) (by decide) (by decide) k) ?_
          show own_E p e below _ T231 (mkF m 155 #[.val (.long q1), .second, .val (.long q2), .second, .val (.long q3), .second, .val (.long q4), .second, iv p5, iv 1, iv 0, iv 0, .val (.long (-9223372036854775808)), .second, .val (.long (q2 ||| (1 : Int64))), .second, .val (.long (q3 &&& (-2 : Int64))), .second, .val (.long (q4 &&& (9223372036854775807 : Int64))), .second, rv b207, iv 0] [.int 1])
          refine own_retS X231 hx Bd.notSynchronized Bd.returns rfl (by decide) (hb hby at_155) (by decide) (by decide) ?_
          exact ⟨rfl, N231⟩
        · exact absurd ha231_0 (by decide)
      · refine own_st (fun t k => XS.ifNo X0.here hx rfl (hb hby at_32) rfl ((if0 _ _).trans (feq hc206).1) k) ?_
        show own_E p e below _ s₁ (mkF m 35 #[.val (.long q1), .second, .val (.long q2), .second, .val (.long q3), .second, .val (.long q4), .second, iv p5, iv 1, iv 0, .unset, .unset, .unset, .unset, .unset, .unset, .unset, .unset, .unset, .unset, .unset] [])
        refine own_st (fun t k => XS.iconst X0.here hx rfl (hb hby at_35) k) ?_
        show own_E p e below _ s₁ (mkF m 36 #[.val (.long q1), .second, .val (.long q2), .second, .val (.long q3), .second, .val (.long q4), .second, iv p5, iv 1, iv 0, .unset, .unset, .unset, .unset, .unset, .unset, .unset, .unset, .unset, .unset, .unset] [.int 1])
        refine own_st (fun t k => XS.goto X0.here hx rfl (pc0 := 36) (pc' := 40) rfl (hb hby at_36) (by decide) (by decide) k) ?_
        show own_E p e below _ s₁ (mkF m 40 #[.val (.long q1), .second, .val (.long q2), .second, .val (.long q3), .second, .val (.long q4), .second, iv p5, iv 1, iv 0, .unset, .unset, .unset, .unset, .unset, .unset, .unset, .unset, .unset, .unset, .unset] [.int 1])
        refine own_st (fun t k => XS.istore X0.here hx rfl (hb hby at_40) rfl (l' := #[.val (.long q1), .second, .val (.long q2), .second, .val (.long q3), .second, .val (.long q4), .second, iv p5, iv 1, iv 0, iv 1, .unset, .unset, .unset, .unset, .unset, .unset, .unset, .unset, .unset, .unset]) rfl k) ?_
        show own_E p e below _ s₁ (mkF m 42 #[.val (.long q1), .second, .val (.long q2), .second, .val (.long q3), .second, .val (.long q4), .second, iv p5, iv 1, iv 0, iv 1, .unset, .unset, .unset, .unset, .unset, .unset, .unset, .unset, .unset, .unset] [])
        refine own_st (fun t k => XS.iload X0.here hx rfl (hb hby at_42) rfl k) ?_
        show own_E p e below _ s₁ (mkF m 44 #[.val (.long q1), .second, .val (.long q2), .second, .val (.long q3), .second, .val (.long q4), .second, iv p5, iv 1, iv 0, iv 1, .unset, .unset, .unset, .unset, .unset, .unset, .unset, .unset, .unset, .unset] [.int 1])
        refine own_st (fun t k => XS.ifNo X0.here hx rfl (hb hby at_44) rfl (by decide) k) ?_
        show own_E p e below _ s₁ (mkF m 47 #[.val (.long q1), .second, .val (.long q2), .second, .val (.long q3), .second, .val (.long q4), .second, iv p5, iv 1, iv 0, iv 1, .unset, .unset, .unset, .unset, .unset, .unset, .unset, .unset, .unset, .unset] [])
        refine own_st (X0.ldc2Long hx hown (mvT hZ (own_w hw 0 rfl)) (g := (mkF m 47 #[.val (.long q1), .second, .val (.long q2), .second, .val (.long q3), .second, .val (.long q4), .second, iv p5, iv 1, iv 0, iv 1, .unset, .unset, .unset, .unset, .unset, .unset, .unset, .unset, .unset, .unset] [])) rfl (hb hby at_47)) ?_
        show own_E p e below _ s₁ (mkF m 50 #[.val (.long q1), .second, .val (.long q2), .second, .val (.long q3), .second, .val (.long q4), .second, iv p5, iv 1, iv 0, iv 1, .unset, .unset, .unset, .unset, .unset, .unset, .unset, .unset, .unset, .unset] [.long (-9223372036854775808)])
        refine own_st (fun t k => XS.goto X0.here hx rfl (pc0 := 50) (pc' := 56) rfl (hb hby at_50) (by decide) (by decide) k) ?_
        show own_E p e below _ s₁ (mkF m 56 #[.val (.long q1), .second, .val (.long q2), .second, .val (.long q3), .second, .val (.long q4), .second, iv p5, iv 1, iv 0, iv 1, .unset, .unset, .unset, .unset, .unset, .unset, .unset, .unset, .unset, .unset] [.long (-9223372036854775808)])
        refine own_st (fun t k => XS.lstore X0.here hx rfl (hb hby at_56) rfl (l' := #[.val (.long q1), .second, .val (.long q2), .second, .val (.long q3), .second, .val (.long q4), .second, iv p5, iv 1, iv 0, iv 1, .val (.long (-9223372036854775808)), .second, .unset, .unset, .unset, .unset, .unset, .unset, .unset, .unset]) rfl k) ?_
        show own_E p e below _ s₁ (mkF m 58 #[.val (.long q1), .second, .val (.long q2), .second, .val (.long q3), .second, .val (.long q4), .second, iv p5, iv 1, iv 0, iv 1, .val (.long (-9223372036854775808)), .second, .unset, .unset, .unset, .unset, .unset, .unset, .unset, .unset] [])
        refine own_st (fun t k => XS.iload X0.here hx rfl (hb hby at_58) rfl k) ?_
        show own_E p e below _ s₁ (mkF m 60 #[.val (.long q1), .second, .val (.long q2), .second, .val (.long q3), .second, .val (.long q4), .second, iv p5, iv 1, iv 0, iv 1, .val (.long (-9223372036854775808)), .second, .unset, .unset, .unset, .unset, .unset, .unset, .unset, .unset] [.int 0])
        refine own_st (fun t k => XS.ifYes X0.here hx rfl (pc0 := 60) (pc' := 69) rfl (hb hby at_60) rfl (by decide) (by decide) (by decide) k) ?_
        show own_E p e below _ s₁ (mkF m 69 #[.val (.long q1), .second, .val (.long q2), .second, .val (.long q3), .second, .val (.long q4), .second, iv p5, iv 1, iv 0, iv 1, .val (.long (-9223372036854775808)), .second, .unset, .unset, .unset, .unset, .unset, .unset, .unset, .unset] [])
        refine own_st (fun t k => XS.lloadN X0.here hx rfl (hb hby at_69) rfl k) ?_
        show own_E p e below _ s₁ (mkF m 70 #[.val (.long q1), .second, .val (.long q2), .second, .val (.long q3), .second, .val (.long q4), .second, iv p5, iv 1, iv 0, iv 1, .val (.long (-9223372036854775808)), .second, .unset, .unset, .unset, .unset, .unset, .unset, .unset, .unset] [.long q2])
        refine own_st (fun t k => XS.lconst X0.here hx rfl (hb hby at_70) k) ?_
        show own_E p e below _ s₁ (mkF m 71 #[.val (.long q1), .second, .val (.long q2), .second, .val (.long q3), .second, .val (.long q4), .second, iv p5, iv 1, iv 0, iv 1, .val (.long (-9223372036854775808)), .second, .unset, .unset, .unset, .unset, .unset, .unset, .unset, .unset] [.long 1, .long q2])
        refine own_st (fun t k => XS.lor X0.here hx rfl (hb hby at_71) rfl k) ?_
        show own_E p e below _ s₁ (mkF m 72 #[.val (.long q1), .second, .val (.long q2), .second, .val (.long q3), .second, .val (.long q4), .second, iv p5, iv 1, iv 0, iv 1, .val (.long (-9223372036854775808)), .second, .unset, .unset, .unset, .unset, .unset, .unset, .unset, .unset] [.long (q2 ||| (1 : Int64))])
        refine own_st (fun t k => XS.lstore X0.here hx rfl (hb hby at_72) rfl (l' := #[.val (.long q1), .second, .val (.long q2), .second, .val (.long q3), .second, .val (.long q4), .second, iv p5, iv 1, iv 0, iv 1, .val (.long (-9223372036854775808)), .second, .val (.long (q2 ||| (1 : Int64))), .second, .unset, .unset, .unset, .unset, .unset, .unset]) rfl k) ?_
        show own_E p e below _ s₁ (mkF m 74 #[.val (.long q1), .second, .val (.long q2), .second, .val (.long q3), .second, .val (.long q4), .second, iv p5, iv 1, iv 0, iv 1, .val (.long (-9223372036854775808)), .second, .val (.long (q2 ||| (1 : Int64))), .second, .unset, .unset, .unset, .unset, .unset, .unset] [])
        refine own_st (fun t k => XS.iload X0.here hx rfl (hb hby at_74) rfl k) ?_
        show own_E p e below _ s₁ (mkF m 76 #[.val (.long q1), .second, .val (.long q2), .second, .val (.long q3), .second, .val (.long q4), .second, iv p5, iv 1, iv 0, iv 1, .val (.long (-9223372036854775808)), .second, .val (.long (q2 ||| (1 : Int64))), .second, .unset, .unset, .unset, .unset, .unset, .unset] [.int 1])
        refine own_st (fun t k => XS.ifNo X0.here hx rfl (hb hby at_76) rfl (by decide) k) ?_
        show own_E p e below _ s₁ (mkF m 79 #[.val (.long q1), .second, .val (.long q2), .second, .val (.long q3), .second, .val (.long q4), .second, iv p5, iv 1, iv 0, iv 1, .val (.long (-9223372036854775808)), .second, .val (.long (q2 ||| (1 : Int64))), .second, .unset, .unset, .unset, .unset, .unset, .unset] [])
        refine own_st (X0.ldc2Long hx hown (mvT hZ (own_w hw 2 rfl)) (g := (mkF m 79 #[.val (.long q1), .second, .val (.long q2), .second, .val (.long q3), .second, .val (.long q4), .second, iv p5, iv 1, iv 0, iv 1, .val (.long (-9223372036854775808)), .second, .val (.long (q2 ||| (1 : Int64))), .second, .unset, .unset, .unset, .unset, .unset, .unset] [])) rfl (hb hby at_79)) ?_
        show own_E p e below _ s₁ (mkF m 82 #[.val (.long q1), .second, .val (.long q2), .second, .val (.long q3), .second, .val (.long q4), .second, iv p5, iv 1, iv 0, iv 1, .val (.long (-9223372036854775808)), .second, .val (.long (q2 ||| (1 : Int64))), .second, .unset, .unset, .unset, .unset, .unset, .unset] [.long 9223372036854775807])
        refine own_st (fun t k => XS.goto X0.here hx rfl (pc0 := 82) (pc' := 91) rfl (hb hby at_82) (by decide) (by decide) k) ?_
        show own_E p e below _ s₁ (mkF m 91 #[.val (.long q1), .second, .val (.long q2), .second, .val (.long q3), .second, .val (.long q4), .second, iv p5, iv 1, iv 0, iv 1, .val (.long (-9223372036854775808)), .second, .val (.long (q2 ||| (1 : Int64))), .second, .unset, .unset, .unset, .unset, .unset, .unset] [.long 9223372036854775807])
        refine own_st (fun t k => XS.lstore X0.here hx rfl (hb hby at_91) rfl (l' := #[.val (.long q1), .second, .val (.long q2), .second, .val (.long q3), .second, .val (.long q4), .second, iv p5, iv 1, iv 0, iv 1, .val (.long (-9223372036854775808)), .second, .val (.long (q2 ||| (1 : Int64))), .second, .val (.long 9223372036854775807), .second, .unset, .unset, .unset, .unset]) rfl k) ?_
        show own_E p e below _ s₁ (mkF m 93 #[.val (.long q1), .second, .val (.long q2), .second, .val (.long q3), .second, .val (.long q4), .second, iv p5, iv 1, iv 0, iv 1, .val (.long (-9223372036854775808)), .second, .val (.long (q2 ||| (1 : Int64))), .second, .val (.long 9223372036854775807), .second, .unset, .unset, .unset, .unset] [])
        refine own_st (fun t k => XS.lload X0.here hx rfl (hb hby at_93) rfl k) ?_
        show own_E p e below _ s₁ (mkF m 95 #[.val (.long q1), .second, .val (.long q2), .second, .val (.long q3), .second, .val (.long q4), .second, iv p5, iv 1, iv 0, iv 1, .val (.long (-9223372036854775808)), .second, .val (.long (q2 ||| (1 : Int64))), .second, .val (.long 9223372036854775807), .second, .unset, .unset, .unset, .unset] [.long q4])
        refine own_st (X0.ldc2Long hx hown (mvT hZ (own_w hw 2 rfl)) (g := (mkF m 95 #[.val (.long q1), .second, .val (.long q2), .second, .val (.long q3), .second, .val (.long q4), .second, iv p5, iv 1, iv 0, iv 1, .val (.long (-9223372036854775808)), .second, .val (.long (q2 ||| (1 : Int64))), .second, .val (.long 9223372036854775807), .second, .unset, .unset, .unset, .unset] [.long q4])) rfl (hb hby at_95)) ?_
        show own_E p e below _ s₁ (mkF m 98 #[.val (.long q1), .second, .val (.long q2), .second, .val (.long q3), .second, .val (.long q4), .second, iv p5, iv 1, iv 0, iv 1, .val (.long (-9223372036854775808)), .second, .val (.long (q2 ||| (1 : Int64))), .second, .val (.long 9223372036854775807), .second, .unset, .unset, .unset, .unset] [.long 9223372036854775807, .long q4])
        refine own_st (fun t k => XS.land X0.here hx rfl (hb hby at_98) rfl k) ?_
        show own_E p e below _ s₁ (mkF m 99 #[.val (.long q1), .second, .val (.long q2), .second, .val (.long q3), .second, .val (.long q4), .second, iv p5, iv 1, iv 0, iv 1, .val (.long (-9223372036854775808)), .second, .val (.long (q2 ||| (1 : Int64))), .second, .val (.long 9223372036854775807), .second, .unset, .unset, .unset, .unset] [.long (q4 &&& (9223372036854775807 : Int64))])
        refine own_st (fun t k => XS.lstore X0.here hx rfl (hb hby at_99) rfl (l' := #[.val (.long q1), .second, .val (.long q2), .second, .val (.long q3), .second, .val (.long q4), .second, iv p5, iv 1, iv 0, iv 1, .val (.long (-9223372036854775808)), .second, .val (.long (q2 ||| (1 : Int64))), .second, .val (.long 9223372036854775807), .second, .val (.long (q4 &&& (9223372036854775807 : Int64))), .second, .unset, .unset]) rfl k) ?_
        show own_E p e below _ s₁ (mkF m 101 #[.val (.long q1), .second, .val (.long q2), .second, .val (.long q3), .second, .val (.long q4), .second, iv p5, iv 1, iv 0, iv 1, .val (.long (-9223372036854775808)), .second, .val (.long (q2 ||| (1 : Int64))), .second, .val (.long 9223372036854775807), .second, .val (.long (q4 &&& (9223372036854775807 : Int64))), .second, .unset, .unset] [])
        obtain ⟨T258, h258, X258, e258, E258, A258, D258, -, st258⟩ := newO X0 hx hZ hown (own_w hw 3 rfl) (own_w hw 4 rfl) (own_w hw 5 rfl) e0 (g := (mkF m 101 #[.val (.long q1), .second, .val (.long q2), .second, .val (.long q3), .second, .val (.long q4), .second, iv p5, iv 1, iv 0, iv 1, .val (.long (-9223372036854775808)), .second, .val (.long (q2 ||| (1 : Int64))), .second, .val (.long 9223372036854775807), .second, .val (.long (q4 &&& (9223372036854775807 : Int64))), .second, .unset, .unset] [])) rfl (hb hby at_101) (by decide) (by decide)
        obtain ⟨b258, g258⟩ : ∃ z, z = h0.size := ⟨_, rfl⟩
        rw [← g258] at A258 D258 st258
        have g_b258 : n0 ≤ b258 := Nat.le_trans Z0 (Nat.le_of_eq g258.symm)
        have Z259 := Nat.le_trans Z0 E258.1
        have F_storedFrom_b258 : Fld Z h258 b258 "com/example/brazier/brazier/store/HistoryBound" "storedFrom" "J" (.long (0 : Int64)) := D258 (Or.inr (own_w hw 18 rfl)) (ty := .long) (by decide)
        have F_currentFrom_b258 : Fld Z h258 b258 "com/example/brazier/brazier/store/HistoryBound" "currentFrom" "J" (.long (0 : Int64)) := D258 (Or.inr (own_w hw 20 rfl)) (ty := .long) (by decide)
        have F_currentTo_b258 : Fld Z h258 b258 "com/example/brazier/brazier/store/HistoryBound" "currentTo" "J" (.long (0 : Int64)) := D258 (Or.inr (own_w hw 22 rfl)) (ty := .long) (by decide)
        have F_storedUpTo_b258 : Fld Z h258 b258 "com/example/brazier/brazier/store/HistoryBound" "storedUpTo" "J" (.long (0 : Int64)) := D258 (Or.inr (own_w hw 24 rfl)) (ty := .long) (by decide)
        refine own_st st258 ?_
        show own_E p e below _ T258 (mkF m 104 #[.val (.long q1), .second, .val (.long q2), .second, .val (.long q3), .second, .val (.long q4), .second, iv p5, iv 1, iv 0, iv 1, .val (.long (-9223372036854775808)), .second, .val (.long (q2 ||| (1 : Int64))), .second, .val (.long 9223372036854775807), .second, .val (.long (q4 &&& (9223372036854775807 : Int64))), .second, .unset, .unset] [.ref b258])
        refine own_st (fun t k => XS.dup X258.here hx rfl (hb hby at_104) rfl rfl k) ?_
        show own_E p e below _ T258 (mkF m 105 #[.val (.long q1), .second, .val (.long q2), .second, .val (.long q3), .second, .val (.long q4), .second, iv p5, iv 1, iv 0, iv 1, .val (.long (-9223372036854775808)), .second, .val (.long (q2 ||| (1 : Int64))), .second, .val (.long 9223372036854775807), .second, .val (.long (q4 &&& (9223372036854775807 : Int64))), .second, .unset, .unset] [.ref b258, .ref b258])
        refine own_st (fun t k => XS.lload X258.here hx rfl (hb hby at_105) rfl k) ?_
        show own_E p e below _ T258 (mkF m 107 #[.val (.long q1), .second, .val (.long q2), .second, .val (.long q3), .second, .val (.long q4), .second, iv p5, iv 1, iv 0, iv 1, .val (.long (-9223372036854775808)), .second, .val (.long (q2 ||| (1 : Int64))), .second, .val (.long 9223372036854775807), .second, .val (.long (q4 &&& (9223372036854775807 : Int64))), .second, .unset, .unset] [.long (-9223372036854775808), .ref b258, .ref b258])
        refine own_st (fun t k => XS.lload X258.here hx rfl (hb hby at_107) rfl k) ?_
        show own_E p e below _ T258 (mkF m 109 #[.val (.long q1), .second, .val (.long q2), .second, .val (.long q3), .second, .val (.long q4), .second, iv p5, iv 1, iv 0, iv 1, .val (.long (-9223372036854775808)), .second, .val (.long (q2 ||| (1 : Int64))), .second, .val (.long 9223372036854775807), .second, .val (.long (q4 &&& (9223372036854775807 : Int64))), .second, .unset, .unset] [.long (q2 ||| (1 : Int64)), .long (-9223372036854775808), .ref b258, .ref b258])
        refine own_st (fun t k => XS.lload X258.here hx rfl (hb hby at_109) rfl k) ?_
        show own_E p e below _ T258 (mkF m 111 #[.val (.long q1), .second, .val (.long q2), .second, .val (.long q3), .second, .val (.long q4), .second, iv p5, iv 1, iv 0, iv 1, .val (.long (-9223372036854775808)), .second, .val (.long (q2 ||| (1 : Int64))), .second, .val (.long 9223372036854775807), .second, .val (.long (q4 &&& (9223372036854775807 : Int64))), .second, .unset, .unset] [.long 9223372036854775807, .long (q2 ||| (1 : Int64)), .long (-9223372036854775808), .ref b258, .ref b258])
        refine own_st (fun t k => XS.lload X258.here hx rfl (hb hby at_111) rfl k) ?_
        show own_E p e below _ T258 (mkF m 113 #[.val (.long q1), .second, .val (.long q2), .second, .val (.long q3), .second, .val (.long q4), .second, iv p5, iv 1, iv 0, iv 1, .val (.long (-9223372036854775808)), .second, .val (.long (q2 ||| (1 : Int64))), .second, .val (.long 9223372036854775807), .second, .val (.long (q4 &&& (9223372036854775807 : Int64))), .second, .unset, .unset] [.long (q4 &&& (9223372036854775807 : Int64)), .long 9223372036854775807, .long (q2 ||| (1 : Int64)), .long (-9223372036854775808), .ref b258, .ref b258])
        have hv260 : ¬ ((q4 &&& (9223372036854775807 : Int64)) < (0 : Int64)) := by
          rw [Int64.lt_iff_toInt_lt]
          have f261 := rng32 p5
          have f262 : (1 : Int32).toInt = 1 := rfl
          have f263 := rng32 (p5 &&& (1 : Int32))
          have f264 : (p5 &&& (1 : Int32)).toInt = p5.toInt % 2 := c_mask p5 (1 : Int32) 1 (by decide) (by decide)
          have f265 : (0 : Int32).toInt = 0 := rfl
          have f266 : (2 : Int32).toInt = 2 := rfl
          have f267 := rng32 (p5 &&& (2 : Int32))
          have f268 := c_and p5 (2 : Int32) (by decide)
          have f269 : (4 : Int32).toInt = 4 := rfl
          have f270 := rng32 (p5 &&& (4 : Int32))
          have f271 := c_and p5 (4 : Int32) (by decide)
          have f272 := rng64 q4
          have f273 : (9223372036854775807 : Int64).toInt = 9223372036854775807 := rfl
          have f274 := rng64 (q4 &&& (9223372036854775807 : Int64))
          have f275 : (q4 &&& (9223372036854775807 : Int64)).toInt = q4.toInt % 9223372036854775808 := c_maskL q4 (9223372036854775807 : Int64) 63 (by decide) (by decide)
          have f276 : (0 : Int64).toInt = 0 := rfl
          have g277 := hc1
          rw [← Int32.toInt_inj] at g277
          have g278 := hc205
          rw [← Int32.toInt_inj] at g278
          have g279 := hc206
          rw [← Int32.toInt_inj] at g279
          omega
        obtain ⟨_, _, ⟨T280, L280, k280, n280⟩, -, X280, ⟨Lc280, hQ280, l280, y280, z280⟩, st280⟩ := X258.specialBack hx (y := own_y1) rfl hown (mvT hZ (own_w hw 6 rfl)) (mvT hZ (own_w hw 7 rfl)) (mvT hZ (own_w hw 8 rfl)) (by decide) (backOf (W := 1) (own_init l Z a0 hw [] b258 (-9223372036854775808 : Int64) (q2 ||| (1 : Int64)) (9223372036854775807 : Int64) (q4 &&& (9223372036854775807 : Int64)) h258 n0 Z259 A258 F_storedFrom_b258 F_currentFrom_b258 F_currentTo_b258 F_storedUpTo_b258 hv260 g_b258) hZ (own_w hw 8 rfl) (own_w hw 5 rfl) (by decide) (by decide)) (g := (mkF m 113 #[.val (.long q1), .second, .val (.long q2), .second, .val (.long q3), .second, .val (.long q4), .second, iv p5, iv 1, iv 0, iv 1, .val (.long (-9223372036854775808)), .second, .val (.long (q2 ||| (1 : Int64))), .second, .val (.long 9223372036854775807), .second, .val (.long (q4 &&& (9223372036854775807 : Int64))), .second, .unset, .unset] [.long (q4 &&& (9223372036854775807 : Int64)), .long 9223372036854775807, .long (q2 ||| (1 : Int64)), .long (-9223372036854775808), .ref b258, .ref b258])) rfl (by rw [hml]; rfl) (Steps.refl _) (a := b258) (argsL := [(.long (-9223372036854775808 : Int64)), (.long (q2 ||| (1 : Int64))), (.long (9223372036854775807 : Int64)), (.long (q4 &&& (9223372036854775807 : Int64)))]) (rest := [(.ref b258)]) (lenOf own_pd_2 rfl) rfl (by show 2 * 0 + _ ≤ _; exact Nat.le_of_eq rfl) (hb hby at_113) (fun _ _ => ⟨rfl, e258, (by decide : 1 + 0 ≤ _), (by decide : 4 + 0 ≤ _)⟩)
        dsimp only [Pt.U, Pt.locs, Pt.cells, Pt.slots] at X280 l280 y280 z280 st280 hQ280
        subst l280 y280 z280
        obtain ⟨rfl, Nq280, Kq280, P280_0, P280_1, P280_2, P280_3, P280_4⟩ := hQ280
        have N280 := Fr.app (Fr.nil n0) Nq280
        have e280 : T280.heap = T280.heap := rfl
        have Z281 := Nat.le_trans Z259 Kq280.1
        refine own_tr st280 ?_
        show own_E p e below _ T280 (mkF m 116 #[.val (.long q1), .second, .val (.long q2), .second, .val (.long q3), .second, .val (.long q4), .second, iv p5, iv 1, iv 0, iv 1, .val (.long (-9223372036854775808)), .second, .val (.long (q2 ||| (1 : Int64))), .second, .val (.long 9223372036854775807), .second, .val (.long (q4 &&& (9223372036854775807 : Int64))), .second, .unset, .unset] [.ref b258])
        refine own_st (fun t k => XS.astore X280.here hx rfl (hb hby at_116) rfl rfl (l' := #[.val (.long q1), .second, .val (.long q2), .second, .val (.long q3), .second, .val (.long q4), .second, iv p5, iv 1, iv 0, iv 1, .val (.long (-9223372036854775808)), .second, .val (.long (q2 ||| (1 : Int64))), .second, .val (.long 9223372036854775807), .second, .val (.long (q4 &&& (9223372036854775807 : Int64))), .second, rv b258, .unset]) rfl k) ?_
        show own_E p e below _ T280 (mkF m 118 #[.val (.long q1), .second, .val (.long q2), .second, .val (.long q3), .second, .val (.long q4), .second, iv p5, iv 1, iv 0, iv 1, .val (.long (-9223372036854775808)), .second, .val (.long (q2 ||| (1 : Int64))), .second, .val (.long 9223372036854775807), .second, .val (.long (q4 &&& (9223372036854775807 : Int64))), .second, rv b258, .unset] [])
        refine own_st (fun t k => XS.iload X280.here hx rfl (hb hby at_118) rfl k) ?_
        show own_E p e below _ T280 (mkF m 120 #[.val (.long q1), .second, .val (.long q2), .second, .val (.long q3), .second, .val (.long q4), .second, iv p5, iv 1, iv 0, iv 1, .val (.long (-9223372036854775808)), .second, .val (.long (q2 ||| (1 : Int64))), .second, .val (.long 9223372036854775807), .second, .val (.long (q4 &&& (9223372036854775807 : Int64))), .second, rv b258, .unset] [.int 1])
        refine own_st (fun t k => XS.ifNo X280.here hx rfl (hb hby at_120) rfl (by decide) k) ?_
        show own_E p e below _ T280 (mkF m 123 #[.val (.long q1), .second, .val (.long q2), .second, .val (.long q3), .second, .val (.long q4), .second, iv p5, iv 1, iv 0, iv 1, .val (.long (-9223372036854775808)), .second, .val (.long (q2 ||| (1 : Int64))), .second, .val (.long 9223372036854775807), .second, .val (.long (q4 &&& (9223372036854775807 : Int64))), .second, rv b258, .unset] [])
        refine own_st (fun t k => XS.iload X280.here hx rfl (hb hby at_123) rfl k) ?_
        show own_E p e below _ T280 (mkF m 125 #[.val (.long q1), .second, .val (.long q2), .second, .val (.long q3), .second, .val (.long q4), .second, iv p5, iv 1, iv 0, iv 1, .val (.long (-9223372036854775808)), .second, .val (.long (q2 ||| (1 : Int64))), .second, .val (.long 9223372036854775807), .second, .val (.long (q4 &&& (9223372036854775807 : Int64))), .second, rv b258, .unset] [.int 0])
        refine own_st (fun t k => XS.ifYes X280.here hx rfl (pc0 := 125) (pc' := 137) rfl (hb hby at_125) rfl (by decide) (by decide) (by decide) k) ?_
        show own_E p e below _ T280 (mkF m 137 #[.val (.long q1), .second, .val (.long q2), .second, .val (.long q3), .second, .val (.long q4), .second, iv p5, iv 1, iv 0, iv 1, .val (.long (-9223372036854775808)), .second, .val (.long (q2 ||| (1 : Int64))), .second, .val (.long 9223372036854775807), .second, .val (.long (q4 &&& (9223372036854775807 : Int64))), .second, rv b258, .unset] [])
        refine own_st (fun t k => XS.iconst X280.here hx rfl (hb hby at_137) k) ?_
        show own_E p e below _ T280 (mkF m 138 #[.val (.long q1), .second, .val (.long q2), .second, .val (.long q3), .second, .val (.long q4), .second, iv p5, iv 1, iv 0, iv 1, .val (.long (-9223372036854775808)), .second, .val (.long (q2 ||| (1 : Int64))), .second, .val (.long 9223372036854775807), .second, .val (.long (q4 &&& (9223372036854775807 : Int64))), .second, rv b258, .unset] [.int 0])
        refine own_st (fun t k => XS.istore X280.here hx rfl (hb hby at_138) rfl (l' := #[.val (.long q1), .second, .val (.long q2), .second, .val (.long q3), .second, .val (.long q4), .second, iv p5, iv 1, iv 0, iv 1, .val (.long (-9223372036854775808)), .second, .val (.long (q2 ||| (1 : Int64))), .second, .val (.long 9223372036854775807), .second, .val (.long (q4 &&& (9223372036854775807 : Int64))), .second, rv b258, iv 0]) rfl k) ?_
        show own_E p e below _ T280 (mkF m 140 #[.val (.long q1), .second, .val (.long q2), .second, .val (.long q3), .second, .val (.long q4), .second, iv p5, iv 1, iv 0, iv 1, .val (.long (-9223372036854775808)), .second, .val (.long (q2 ||| (1 : Int64))), .second, .val (.long 9223372036854775807), .second, .val (.long (q4 &&& (9223372036854775807 : Int64))), .second, rv b258, iv 0] [])
        refine own_st (fun t k => XS.aload X280.here hx rfl (hb hby at_140) rfl rfl k) ?_
        show own_E p e below _ T280 (mkF m 142 #[.val (.long q1), .second, .val (.long q2), .second, .val (.long q3), .second, .val (.long q4), .second, iv p5, iv 1, iv 0, iv 1, .val (.long (-9223372036854775808)), .second, .val (.long (q2 ||| (1 : Int64))), .second, .val (.long 9223372036854775807), .second, .val (.long (q4 &&& (9223372036854775807 : Int64))), .second, rv b258, iv 0] [.ref b258])
        obtain ⟨cq282, kq282, q282a, q282b, q282c⟩ := isOf hZ e280 P280_0
        obtain ⟨_, _, ⟨T282, L282, k282, n282⟩, -, X282, ⟨Lc282, hQ282, l282, y282, z282⟩, st282⟩ := X280.virtualBack hx (y := own_y2) (z := own_y2) hown (mvT hZ (own_w hw 25 rfl)) (mvT hZ (own_w hw 26 rfl)) (notFace_of_selects (args := #[]) (mvT hZ (own_w hw 28 rfl))) (mvT hZ (own_w hw 28 rfl)) (mvT hZ (own_w hw 27 rfl)) (by decide) (backOf (W := 0) (own_every l Z a0 hw [] b258 (-9223372036854775808 : Int64) (q2 ||| (1 : Int64)) (9223372036854775807 : Int64) T280.heap n0 Z281 P280_1 P280_2 P280_3) hZ (own_w hw 29 rfl) (own_w hw 5 rfl) (by decide) (by decide)) q282a q282c (g := (mkF m 142 #[.val (.long q1), .second, .val (.long q2), .second, .val (.long q3), .second, .val (.long q4), .second, iv p5, iv 1, iv 0, iv 1, .val (.long (-9223372036854775808)), .second, .val (.long (q2 ||| (1 : Int64))), .second, .val (.long 9223372036854775807), .second, .val (.long (q4 &&& (9223372036854775807 : Int64))), .second, rv b258, iv 0] [.ref b258])) rfl (by rw [hml]; rfl) (Steps.refl _) (argsL := []) (rest := []) (lenOf own_pd_1 rfl) rfl (by show 2 * 0 + _ ≤ _; exact Nat.le_of_eq rfl) (hb hby at_142) (fun _ _ => ⟨rfl, e280, (by decide : 1 + 0 ≤ _), (by decide : 4 + 0 ≤ _)⟩)
        dsimp only [Pt.U, Pt.locs, Pt.cells, Pt.slots] at X282 l282 y282 z282 st282 hQ282
        subst l282 y282 z282
        obtain ⟨hR282, e282, rfl⟩ := hQ282
        have N282 := Fr.app N280 (Fr.nil n0)
        rcases hR282 with ⟨rfl, ha282_0, ha282_1, ha282_2⟩ | ⟨rfl, ha282_0, ha282_1, ha282_2⟩ | ⟨rfl, ha282_0, ha282_1⟩ | ⟨rfl, ha282_0⟩
        · refine own_tr st282 ?_
          show own_E p e below _ T282 (mkF m 145 #[.val (.long q1), .second, .val (.long q2), .second, .val (.long q3), .second, .val (.long q4), .second, iv p5, iv 1, iv 0, iv 1, .val (.long (-9223372036854775808)), .second, .val (.long (q2 ||| (1 : Int64))), .second, .val (.long 9223372036854775807), .second, .val (.long (q4 &&& (9223372036854775807 : Int64))), .second, rv b258, iv 0] [.int 1])
          refine own_st (fun t k => XS.iload X282.here hx rfl (hb hby at_145) rfl k) ?_
          show own_E p e below _ T282 (mkF m 147 #[.val (.long q1), .second, .val (.long q2), .second, .val (.long q3), .second, .val (.long q4), .second, iv p5, iv 1, iv 0, iv 1, .val (.long (-9223372036854775808)), .second, .val (.long (q2 ||| (1 : Int64))), .second, .val (.long 9223372036854775807), .second, .val (.long (q4 &&& (9223372036854775807 : Int64))), .second, rv b258, iv 0] [.int 0, .int 1])
          refine own_st (fun t k => XS.icmpYes X282.here hx rfl (pc0 := 147) (pc' := 154) rfl (hb hby at_147) rfl (by decide) (by decide) (by decide) k) ?_
          show own_E p e below _ T282 (mkF m 154 #[.val (.long q1), .second, .val (.long q2), .second, .val (.long q3), .second, .val (.long q4), .second, iv p5, iv 1, iv 0, iv 1, .val (.long (-9223372036854775808)), .second, .val (.long (q2 ||| (1 : Int64))), .second, .val (.long 9223372036854775807), .second, .val (.long (q4 &&& (9223372036854775807 : Int64))), .second, rv b258, iv 0] [])
          refine own_st (fun t k => XS.iconst X282.here hx rfl (hb hby at_154) k) ?_
          show own_E p e below _ T282 (mkF m 155 #[.val (.long q1), .second, .val (.long q2), .second, .val (.long q3), .second, .val (.long q4), .second, iv p5, iv 1, iv 0, iv 1, .val (.long (-9223372036854775808)), .second, .val (.long (q2 ||| (1 : Int64))), .second, .val (.long 9223372036854775807), .second, .val (.long (q4 &&& (9223372036854775807 : Int64))), .second, rv b258, iv 0] [.int 0])
          refine own_retS X282 hx Bd.notSynchronized Bd.returns rfl (by decide) (hb hby at_155) (by decide) (by decide) ?_
          exfalso
          have f283 := rng32 p5
          have f284 : (1 : Int32).toInt = 1 := rfl
          have f285 := rng32 (p5 &&& (1 : Int32))
          have f286 : (p5 &&& (1 : Int32)).toInt = p5.toInt % 2 := c_mask p5 (1 : Int32) 1 (by decide) (by decide)
          have f287 : (0 : Int32).toInt = 0 := rfl
          have f288 : (2 : Int32).toInt = 2 := rfl
          have f289 := rng32 (p5 &&& (2 : Int32))
          have f290 := c_and p5 (2 : Int32) (by decide)
          have f291 : (4 : Int32).toInt = 4 := rfl
          have f292 := rng32 (p5 &&& (4 : Int32))
          have f293 := c_and p5 (4 : Int32) (by decide)
          have f294 := rng64 q2
          have f295 : (1 : Int64).toInt = 1 := rfl
          have f296 := rng64 (q2 ||| (1 : Int64))
          have f297 := own_lor1 q2
          have f298 : (-9223372036854775808 : Int64).toInt = -9223372036854775808 := rfl
          have g299 := hc1
          rw [← Int32.toInt_inj] at g299
          have g300 := hc205
          rw [← Int32.toInt_inj] at g300
          have g301 := hc206
          rw [← Int32.toInt_inj] at g301
          have g302 := ha282_1
          rw [← Int64.toInt_inj] at g302
          omega
        · exact absurd ha282_2 (by decide)
        · refine own_tr st282 ?_
          show own_E p e below _ T282 (mkF m 145 #[.val (.long q1), .second, .val (.long q2), .second, .val (.long q3), .second, .val (.long q4), .second, iv p5, iv 1, iv 0, iv 1, .val (.long (-9223372036854775808)), .second, .val (.long (q2 ||| (1 : Int64))), .second, .val (.long 9223372036854775807), .second, .val (.long (q4 &&& (9223372036854775807 : Int64))), .second, rv b258, iv 0] [.int 0])
          refine own_st (fun t k => XS.iload X282.here hx rfl (hb hby at_145) rfl k) ?_
          show own_E p e below _ T282 (mkF m 147 #[.val (.long q1), .second, .val (.long q2), .second, .val (.long q3), .second, .val (.long q4), .second, iv p5, iv 1, iv 0, iv 1, .val (.long (-9223372036854775808)), .second, .val (.long (q2 ||| (1 : Int64))), .second, .val (.long 9223372036854775807), .second, .val (.long (q4 &&& (9223372036854775807 : Int64))), .second, rv b258, iv 0] [.int 0, .int 0])
          refine own_st (fun t k => XS.icmpNo X282.here hx rfl (hb hby at_147) rfl (by decide) k) ?_
          show own_E p e below _ T282 (mkF m 150 #[.val (.long q1), .second, .val (.long q2), .second, .val (.long q3), .second, .val (.long q4), .second, iv p5, iv 1, iv 0, iv 1, .val (.long (-9223372036854775808)), .second, .val (.long (q2 ||| (1 : Int64))), .second, .val (.long 9223372036854775807), .second, .val (.long (q4 &&& (9223372036854775807 : Int64))), .second, rv b258, iv 0] [])
          refine own_st (fun t k => XS.iconst X282.here hx rfl (hb hby at_150) k) ?_
          show own_E p e below _ T282 (mkF m 151 #[.val (.long q1), .second, .val (.long q2), .second, .val (.long q3), .second, .val (.long q4), .second, iv p5, iv 1, iv 0, iv 1, .val (.long (-9223372036854775808)), .second, .val (.long (q2 ||| (1 : Int64))), .second, .val (.long 9223372036854775807), .second, .val (.long (q4 &&& (9223372036854775807 : Int64))), .second, rv b258, iv 0] [.int 1])
          refine own_st (fun t k => XS.goto X282.here hx rfl (pc0 := 151) (pc' := 155) rfl (hb hby at_151) (by decide) (by decide) k) ?_
          show own_E p e below _ T282 (mkF m 155 #[.val (.long q1), .second, .val (.long q2), .second, .val (.long q3), .second, .val (.long q4), .second, iv p5, iv 1, iv 0, iv 1, .val (.long (-9223372036854775808)), .second, .val (.long (q2 ||| (1 : Int64))), .second, .val (.long 9223372036854775807), .second, .val (.long (q4 &&& (9223372036854775807 : Int64))), .second, rv b258, iv 0] [.int 1])
          refine own_retS X282 hx Bd.notSynchronized Bd.returns rfl (by decide) (hb hby at_155) (by decide) (by decide) ?_
          exact ⟨rfl, N282⟩
        · exact absurd ha282_0 (by decide)
    · refine own_st (fun t k => XS.ifNo X0.here hx rfl (hb hby at_18) rfl ((if0 _ _).trans (feq hc205).1) k) ?_
      show own_E p e below _ s₁ (mkF m 21 #[.val (.long q1), .second, .val (.long q2), .second, .val (.long q3), .second, .val (.long q4), .second, iv p5, iv 1, .unset, .unset, .unset, .unset, .unset, .unset, .unset, .unset, .unset, .unset, .unset, .unset] [])
      refine own_st (fun t k => XS.iconst X0.here hx rfl (hb hby at_21) k) ?_
      show own_E p e below _ s₁ (mkF m 22 #[.val (.long q1), .second, .val (.long q2), .second, .val (.long q3), .second, .val (.long q4), .second, iv p5, iv 1, .unset, .unset, .unset, .unset, .unset, .unset, .unset, .unset, .unset, .unset, .unset, .unset] [.int 1])
      refine own_st (fun t k => XS.goto X0.here hx rfl (pc0 := 22) (pc' := 26) rfl (hb hby at_22) (by decide) (by decide) k) ?_
      show own_E p e below _ s₁ (mkF m 26 #[.val (.long q1), .second, .val (.long q2), .second, .val (.long q3), .second, .val (.long q4), .second, iv p5, iv 1, .unset, .unset, .unset, .unset, .unset, .unset, .unset, .unset, .unset, .unset, .unset, .unset] [.int 1])
      refine own_st (fun t k => XS.istore X0.here hx rfl (hb hby at_26) rfl (l' := #[.val (.long q1), .second, .val (.long q2), .second, .val (.long q3), .second, .val (.long q4), .second, iv p5, iv 1, iv 1, .unset, .unset, .unset, .unset, .unset, .unset, .unset, .unset, .unset, .unset, .unset]) rfl k) ?_
      show own_E p e below _ s₁ (mkF m 28 #[.val (.long q1), .second, .val (.long q2), .second, .val (.long q3), .second, .val (.long q4), .second, iv p5, iv 1, iv 1, .unset, .unset, .unset, .unset, .unset, .unset, .unset, .unset, .unset, .unset, .unset] [])
      refine own_st (fun t k => XS.iload X0.here hx rfl (hb hby at_28) rfl k) ?_
      show own_E p e below _ s₁ (mkF m 30 #[.val (.long q1), .second, .val (.long q2), .second, .val (.long q3), .second, .val (.long q4), .second, iv p5, iv 1, iv 1, .unset, .unset, .unset, .unset, .unset, .unset, .unset, .unset, .unset, .unset, .unset] [.int p5])
      refine own_st (fun t k => XS.iconst X0.here hx rfl (hb hby at_30) k) ?_
      show own_E p e below _ s₁ (mkF m 31 #[.val (.long q1), .second, .val (.long q2), .second, .val (.long q3), .second, .val (.long q4), .second, iv p5, iv 1, iv 1, .unset, .unset, .unset, .unset, .unset, .unset, .unset, .unset, .unset, .unset, .unset] [.int 4, .int p5])
      refine own_st (fun t k => XS.iand X0.here hx rfl (hb hby at_31) rfl k) ?_
      show own_E p e below _ s₁ (mkF m 32 #[.val (.long q1), .second, .val (.long q2), .second, .val (.long q3), .second, .val (.long q4), .second, iv p5, iv 1, iv 1, .unset, .unset, .unset, .unset, .unset, .unset, .unset, .unset, .unset, .unset, .unset] [.int (p5 &&& (4 : Int32))])
      by_cases hc303 : (p5 &&& (4 : Int32)) = (0 : Int32)
      · refine own_st (fun t k => XS.ifYes X0.here hx rfl (pc0 := 32) (pc' := 39) rfl (hb hby at_32) rfl ((if0 _ _).trans (teq hc303).1) (by decide) (by decide) k) ?_
        show own_E p e below _ s₁ (mkF m 39 #[.val (.long q1), .second, .val (.long q2), .second, .val (.long q3), .second, .val (.long q4), .second, iv p5, iv 1, iv 1, .unset, .unset, .unset, .unset, .unset, .unset, .unset, .unset, .unset, .unset, .unset] [])
        refine own_st (fun t k => XS.iconst X0.here hx rfl (hb hby at_39) k) ?_
        show own_E p e below _ s₁ (mkF m 40 #[.val (.long q1), .second, .val (.long q2), .second, .val (.long q3), .second, .val (.long q4), .second, iv p5, iv 1, iv 1, .unset, .unset, .unset, .unset, .unset, .unset, .unset, .unset, .unset, .unset, .unset] [.int 0])
        refine own_st (fun t k => XS.istore X0.here hx rfl (hb hby at_40) rfl (l' := #[.val (.long q1), .second, .val (.long q2), .second, .val (.long q3), .second, .val (.long q4), .second, iv p5, iv 1, iv 1, iv 0, .unset, .unset, .unset, .unset, .unset, .unset, .unset, .unset, .unset, .unset]) rfl k) ?_
        show own_E p e below _ s₁ (mkF m 42 #[.val (.long q1), .second, .val (.long q2), .second, .val (.long q3), .second, .val (.long q4), .second, iv p5, iv 1, iv 1, iv 0, .unset, .unset, .unset, .unset, .unset, .unset, .unset, .unset, .unset, .unset] [])
        refine own_st (fun t k => XS.iload X0.here hx rfl (hb hby at_42) rfl k) ?_
        show own_E p e below _ s₁ (mkF m 44 #[.val (.long q1), .second, .val (.long q2), .second, .val (.long q3), .second, .val (.long q4), .second, iv p5, iv 1, iv 1, iv 0, .unset, .unset, .unset, .unset, .unset, .unset, .unset, .unset, .unset, .unset] [.int 1])
        refine own_st (fun t k => XS.ifNo X0.here hx rfl (hb hby at_44) rfl (by decide) k) ?_
        show own_E p e below _ s₁ (mkF m 47 #[.val (.long q1), .second, .val (.long q2), .second, .val (.long q3), .second, .val (.long q4), .second, iv p5, iv 1, iv 1, iv 0, .unset, .unset, .unset, .unset, .unset, .unset, .unset, .unset, .unset, .unset] [])
        refine own_st (X0.ldc2Long hx hown (mvT hZ (own_w hw 0 rfl)) (g := (mkF m 47 #[.val (.long q1), .second, .val (.long q2), .second, .val (.long q3), .second, .val (.long q4), .second, iv p5, iv 1, iv 1, iv 0, .unset, .unset, .unset, .unset, .unset, .unset, .unset, .unset, .unset, .unset] [])) rfl (hb hby at_47)) ?_
        show own_E p e below _ s₁ (mkF m 50 #[.val (.long q1), .second, .val (.long q2), .second, .val (.long q3), .second, .val (.long q4), .second, iv p5, iv 1, iv 1, iv 0, .unset, .unset, .unset, .unset, .unset, .unset, .unset, .unset, .unset, .unset] [.long (-9223372036854775808)])
        refine own_st (fun t k => XS.goto X0.here hx rfl (pc0 := 50) (pc' := 56) rfl (hb hby at_50) (by decide) (by decide) k) ?_
        show own_E p e below _ s₁ (mkF m 56 #[.val (.long q1), .second, .val (.long q2), .second, .val (.long q3), .second, .val (.long q4), .second, iv p5, iv 1, iv 1, iv 0, .unset, .unset, .unset, .unset, .unset, .unset, .unset, .unset, .unset, .unset] [.long (-9223372036854775808)])
        refine own_st (fun t k => XS.lstore X0.here hx rfl (hb hby at_56) rfl (l' := #[.val (.long q1), .second, .val (.long q2), .second, .val (.long q3), .second, .val (.long q4), .second, iv p5, iv 1, iv 1, iv 0, .val (.long (-9223372036854775808)), .second, .unset, .unset, .unset, .unset, .unset, .unset, .unset, .unset]) rfl k) ?_
        show own_E p e below _ s₁ (mkF m 58 #[.val (.long q1), .second, .val (.long q2), .second, .val (.long q3), .second, .val (.long q4), .second, iv p5, iv 1, iv 1, iv 0, .val (.long (-9223372036854775808)), .second, .unset, .unset, .unset, .unset, .unset, .unset, .unset, .unset] [])
        refine own_st (fun t k => XS.iload X0.here hx rfl (hb hby at_58) rfl k) ?_
        show own_E p e below _ s₁ (mkF m 60 #[.val (.long q1), .second, .val (.long q2), .second, .val (.long q3), .second, .val (.long q4), .second, iv p5, iv 1, iv 1, iv 0, .val (.long (-9223372036854775808)), .second, .unset, .unset, .unset, .unset, .unset, .unset, .unset, .unset] [.int 1])
        refine own_st (fun t k => XS.ifNo X0.here hx rfl (hb hby at_60) rfl (by decide) k) ?_
        show own_E p e below _ s₁ (mkF m 63 #[.val (.long q1), .second, .val (.long q2), .second, .val (.long q3), .second, .val (.long q4), .second, iv p5, iv 1, iv 1, iv 0, .val (.long (-9223372036854775808)), .second, .unset, .unset, .unset, .unset, .unset, .unset, .unset, .unset] [])
        refine own_st (X0.ldc2Long hx hown (mvT hZ (own_w hw 0 rfl)) (g := (mkF m 63 #[.val (.long q1), .second, .val (.long q2), .second, .val (.long q3), .second, .val (.long q4), .second, iv p5, iv 1, iv 1, iv 0, .val (.long (-9223372036854775808)), .second, .unset, .unset, .unset, .unset, .unset, .unset, .unset, .unset] [])) rfl (hb hby at_63)) ?_
        show own_E p e below _ s₁ (mkF m 66 #[.val (.long q1), .second, .val (.long q2), .second, .val (.long q3), .second, .val (.long q4), .second, iv p5, iv 1, iv 1, iv 0, .val (.long (-9223372036854775808)), .second, .unset, .unset, .unset, .unset, .unset, .unset, .unset, .unset] [.long (-9223372036854775808)])
        refine own_st (fun t k => XS.goto X0.here hx rfl (pc0 := 66) (pc' := 72) rfl (hb hby at_66) (by decide) (by decide) k) ?_
        show own_E p e below _ s₁ (mkF m 72 #[.val (.long q1), .second, .val (.long q2), .second, .val (.long q3), .second, .val (.long q4), .second, iv p5, iv 1, iv 1, iv 0, .val (.long (-9223372036854775808)), .second, .unset, .unset, .unset, .unset, .unset, .unset, .unset, .unset] [.long (-9223372036854775808)])
        refine own_st (fun t k => XS.lstore X0.here hx rfl (hb hby at_72) rfl (l' := #[.val (.long q1), .second, .val (.long q2), .second, .val (.long q3), .second, .val (.long q4), .second, iv p5, iv 1, iv 1, iv 0, .val (.long (-9223372036854775808)), .second, .val (.long (-9223372036854775808)), .second, .unset, .unset, .unset, .unset, .unset, .unset]) rfl k) ?_
        show own_E p e below _ s₁ (mkF m 74 #[.val (.long q1), .second, .val (.long q2), .second, .val (.long q3), .second, .val (.long q4), .second, iv p5, iv 1, iv 1, iv 0, .val (.long (-9223372036854775808)), .second, .val (.long (-9223372036854775808)), .second, .unset, .unset, .unset, .unset, .unset, .unset] [])
        refine own_st (fun t k => XS.iload X0.here hx rfl (hb hby at_74) rfl k) ?_
        show own_E p e below _ s₁ (mkF m 76 #[.val (.long q1), .second, .val (.long q2), .second, .val (.long q3), .second, .val (.long q4), .second, iv p5, iv 1, iv 1, iv 0, .val (.long (-9223372036854775808)), .second, .val (.long (-9223372036854775808)), .second, .unset, .unset, .unset, .unset, .unset, .unset] [.int 0])
        refine own_st (fun t k => XS.ifYes X0.here hx rfl (pc0 := 76) (pc' := 85) rfl (hb hby at_76) rfl (by decide) (by decide) (by decide) k) ?_
        show own_E p e below _ s₁ (mkF m 85 #[.val (.long q1), .second, .val (.long q2), .second, .val (.long q3), .second, .val (.long q4), .second, iv p5, iv 1, iv 1, iv 0, .val (.long (-9223372036854775808)), .second, .val (.long (-9223372036854775808)), .second, .unset, .unset, .unset, .unset, .unset, .unset] [])
        refine own_st (fun t k => XS.lload X0.here hx rfl (hb hby at_85) rfl k) ?_
        show own_E p e below _ s₁ (mkF m 87 #[.val (.long q1), .second, .val (.long q2), .second, .val (.long q3), .second, .val (.long q4), .second, iv p5, iv 1, iv 1, iv 0, .val (.long (-9223372036854775808)), .second, .val (.long (-9223372036854775808)), .second, .unset, .unset, .unset, .unset, .unset, .unset] [.long q3])
        refine own_st (X0.ldc2Long hx hown (mvT hZ (own_w hw 1 rfl)) (g := (mkF m 87 #[.val (.long q1), .second, .val (.long q2), .second, .val (.long q3), .second, .val (.long q4), .second, iv p5, iv 1, iv 1, iv 0, .val (.long (-9223372036854775808)), .second, .val (.long (-9223372036854775808)), .second, .unset, .unset, .unset, .unset, .unset, .unset] [.long q3])) rfl (hb hby at_87)) ?_
        show own_E p e below _ s₁ (mkF m 90 #[.val (.long q1), .second, .val (.long q2), .second, .val (.long q3), .second, .val (.long q4), .second, iv p5, iv 1, iv 1, iv 0, .val (.long (-9223372036854775808)), .second, .val (.long (-9223372036854775808)), .second, .unset, .unset, .unset, .unset, .unset, .unset] [.long (-2), .long q3])
        refine own_st (fun t k => XS.land X0.here hx rfl (hb hby at_90) rfl k) ?_
        show own_E p e below _ s₁ (mkF m 91 #[.val (.long q1), .second, .val (.long q2), .second, .val (.long q3), .second, .val (.long q4), .second, iv p5, iv 1, iv 1, iv 0, .val (.long (-9223372036854775808)), .second, .val (.long (-9223372036854775808)), .second, .unset, .unset, .unset, .unset, .unset, .unset] [.long (q3 &&& (-2 : Int64))])
        refine own_st (fun t k => XS.lstore X0.here hx rfl (hb hby at_91) rfl (l' := #[.val (.long q1), .second, .val (.long q2), .second, .val (.long q3), .second, .val (.long q4), .second, iv p5, iv 1, iv 1, iv 0, .val (.long (-9223372036854775808)), .second, .val (.long (-9223372036854775808)), .second, .val (.long (q3 &&& (-2 : Int64))), .second, .unset, .unset, .unset, .unset]) rfl k) ?_
        show own_E p e below _ s₁ (mkF m 93 #[.val (.long q1), .second, .val (.long q2), .second, .val (.long q3), .second, .val (.long q4), .second, iv p5, iv 1, iv 1, iv 0, .val (.long (-9223372036854775808)), .second, .val (.long (-9223372036854775808)), .second, .val (.long (q3 &&& (-2 : Int64))), .second, .unset, .unset, .unset, .unset] [])
        refine own_st (fun t k => XS.lload X0.here hx rfl (hb hby at_93) rfl k) ?_
        show own_E p e below _ s₁ (mkF m 95 #[.val (.long q1), .second, .val (.long q2), .second, .val (.long q3), .second, .val (.long q4), .second, iv p5, iv 1, iv 1, iv 0, .val (.long (-9223372036854775808)), .second, .val (.long (-9223372036854775808)), .second, .val (.long (q3 &&& (-2 : Int64))), .second, .unset, .unset, .unset, .unset] [.long q4])
        refine own_st (X0.ldc2Long hx hown (mvT hZ (own_w hw 2 rfl)) (g := (mkF m 95 #[.val (.long q1), .second, .val (.long q2), .second, .val (.long q3), .second, .val (.long q4), .second, iv p5, iv 1, iv 1, iv 0, .val (.long (-9223372036854775808)), .second, .val (.long (-9223372036854775808)), .second, .val (.long (q3 &&& (-2 : Int64))), .second, .unset, .unset, .unset, .unset] [.long q4])) rfl (hb hby at_95)) ?_
        show own_E p e below _ s₁ (mkF m 98 #[.val (.long q1), .second, .val (.long q2), .second, .val (.long q3), .second, .val (.long q4), .second, iv p5, iv 1, iv 1, iv 0, .val (.long (-9223372036854775808)), .second, .val (.long (-9223372036854775808)), .second, .val (.long (q3 &&& (-2 : Int64))), .second, .unset, .unset, .unset, .unset] [.long 9223372036854775807, .long q4])
        refine own_st (fun t k => XS.land X0.here hx rfl (hb hby at_98) rfl k) ?_
        show own_E p e below _ s₁ (mkF m 99 #[.val (.long q1), .second, .val (.long q2), .second, .val (.long q3), .second, .val (.long q4), .second, iv p5, iv 1, iv 1, iv 0, .val (.long (-9223372036854775808)), .second, .val (.long (-9223372036854775808)), .second, .val (.long (q3 &&& (-2 : Int64))), .second, .unset, .unset, .unset, .unset] [.long (q4 &&& (9223372036854775807 : Int64))])
        refine own_st (fun t k => XS.lstore X0.here hx rfl (hb hby at_99) rfl (l' := #[.val (.long q1), .second, .val (.long q2), .second, .val (.long q3), .second, .val (.long q4), .second, iv p5, iv 1, iv 1, iv 0, .val (.long (-9223372036854775808)), .second, .val (.long (-9223372036854775808)), .second, .val (.long (q3 &&& (-2 : Int64))), .second, .val (.long (q4 &&& (9223372036854775807 : Int64))), .second, .unset, .unset]) rfl k) ?_
        show own_E p e below _ s₁ (mkF m 101 #[.val (.long q1), .second, .val (.long q2), .second, .val (.long q3), .second, .val (.long q4), .second, iv p5, iv 1, iv 1, iv 0, .val (.long (-9223372036854775808)), .second, .val (.long (-9223372036854775808)), .second, .val (.long (q3 &&& (-2 : Int64))), .second, .val (.long (q4 &&& (9223372036854775807 : Int64))), .second, .unset, .unset] [])
        obtain ⟨T304, h304, X304, e304, E304, A304, D304, -, st304⟩ := newO X0 hx hZ hown (own_w hw 3 rfl) (own_w hw 4 rfl) (own_w hw 5 rfl) e0 (g := (mkF m 101 #[.val (.long q1), .second, .val (.long q2), .second, .val (.long q3), .second, .val (.long q4), .second, iv p5, iv 1, iv 1, iv 0, .val (.long (-9223372036854775808)), .second, .val (.long (-9223372036854775808)), .second, .val (.long (q3 &&& (-2 : Int64))), .second, .val (.long (q4 &&& (9223372036854775807 : Int64))), .second, .unset, .unset] [])) rfl (hb hby at_101) (by decide) (by decide)
        obtain ⟨b304, g304⟩ : ∃ z, z = h0.size := ⟨_, rfl⟩
        rw [← g304] at A304 D304 st304
        have g_b304 : n0 ≤ b304 := Nat.le_trans Z0 (Nat.le_of_eq g304.symm)
        have Z305 := Nat.le_trans Z0 E304.1
        have F_storedFrom_b304 : Fld Z h304 b304 "com/example/brazier/brazier/store/HistoryBound" "storedFrom" "J" (.long (0 : Int64)) := D304 (Or.inr (own_w hw 18 rfl)) (ty := .long) (by decide)
        have F_currentFrom_b304 : Fld Z h304 b304 "com/example/brazier/brazier/store/HistoryBound" "currentFrom" "J" (.long (0 : Int64)) := D304 (Or.inr (own_w hw 20 rfl)) (ty := .long) (by decide)
        have F_currentTo_b304 : Fld Z h304 b304 "com/example/brazier/brazier/store/HistoryBound" "currentTo" "J" (.long (0 : Int64)) := D304 (Or.inr (own_w hw 22 rfl)) (ty := .long) (by decide)
        have F_storedUpTo_b304 : Fld Z h304 b304 "com/example/brazier/brazier/store/HistoryBound" "storedUpTo" "J" (.long (0 : Int64)) := D304 (Or.inr (own_w hw 24 rfl)) (ty := .long) (by decide)
        refine own_st st304 ?_
        show own_E p e below _ T304 (mkF m 104 #[.val (.long q1), .second, .val (.long q2), .second, .val (.long q3), .second, .val (.long q4), .second, iv p5, iv 1, iv 1, iv 0, .val (.long (-9223372036854775808)), .second, .val (.long (-9223372036854775808)), .second, .val (.long (q3 &&& (-2 : Int64))), .second, .val (.long (q4 &&& (9223372036854775807 : Int64))), .second, .unset, .unset] [.ref b304])
        refine own_st (fun t k => XS.dup X304.here hx rfl (hb hby at_104) rfl rfl k) ?_
        show own_E p e below _ T304 (mkF m 105 #[.val (.long q1), .second, .val (.long q2), .second, .val (.long q3), .second, .val (.long q4), .second, iv p5, iv 1, iv 1, iv 0, .val (.long (-9223372036854775808)), .second, .val (.long (-9223372036854775808)), .second, .val (.long (q3 &&& (-2 : Int64))), .second, .val (.long (q4 &&& (9223372036854775807 : Int64))), .second, .unset, .unset] [.ref b304, .ref b304])
        refine own_st (fun t k => XS.lload X304.here hx rfl (hb hby at_105) rfl k) ?_
        show own_E p e below _ T304 (mkF m 107 #[.val (.long q1), .second, .val (.long q2), .second, .val (.long q3), .second, .val (.long q4), .second, iv p5, iv 1, iv 1, iv 0, .val (.long (-9223372036854775808)), .second, .val (.long (-9223372036854775808)), .second, .val (.long (q3 &&& (-2 : Int64))), .second, .val (.long (q4 &&& (9223372036854775807 : Int64))), .second, .unset, .unset] [.long (-9223372036854775808), .ref b304, .ref b304])
        refine own_st (fun t k => XS.lload X304.here hx rfl (hb hby at_107) rfl k) ?_
        show own_E p e below _ T304 (mkF m 109 #[.val (.long q1), .second, .val (.long q2), .second, .val (.long q3), .second, .val (.long q4), .second, iv p5, iv 1, iv 1, iv 0, .val (.long (-9223372036854775808)), .second, .val (.long (-9223372036854775808)), .second, .val (.long (q3 &&& (-2 : Int64))), .second, .val (.long (q4 &&& (9223372036854775807 : Int64))), .second, .unset, .unset] [.long (-9223372036854775808), .long (-9223372036854775808), .ref b304, .ref b304])
        refine own_st (fun t k => XS.lload X304.here hx rfl (hb hby at_109) rfl k) ?_
        show own_E p e below _ T304 (mkF m 111 #[.val (.long q1), .second, .val (.long q2), .second, .val (.long q3), .second, .val (.long q4), .second, iv p5, iv 1, iv 1, iv 0, .val (.long (-9223372036854775808)), .second, .val (.long (-9223372036854775808)), .second, .val (.long (q3 &&& (-2 : Int64))), .second, .val (.long (q4 &&& (9223372036854775807 : Int64))), .second, .unset, .unset] [.long (q3 &&& (-2 : Int64)), .long (-9223372036854775808), .long (-9223372036854775808), .ref b304, .ref b304])
        refine own_st (fun t k => XS.lload X304.here hx rfl (hb hby at_111) rfl k) ?_
        show own_E p e below _ T304 (mkF m 113 #[.val (.long q1), .second, .val (.long q2), .second, .val (.long q3), .second, .val (.long q4), .second, iv p5, iv 1, iv 1, iv 0, .val (.long (-9223372036854775808)), .second, .val (.long (-9223372036854775808)), .second, .val (.long (q3 &&& (-2 : Int64))), .second, .val (.long (q4 &&& (9223372036854775807 : Int64))), .second, .unset, .unset] [.long (q4 &&& (9223372036854775807 : Int64)), .long (q3 &&& (-2 : Int64)), .long (-9223372036854775808), .long (-9223372036854775808), .ref b304, .ref b304])
        have hv306 : ¬ ((q4 &&& (9223372036854775807 : Int64)) < (0 : Int64)) := by
          rw [Int64.lt_iff_toInt_lt]
          have f307 := rng32 p5
          have f308 : (1 : Int32).toInt = 1 := rfl
          have f309 := rng32 (p5 &&& (1 : Int32))
          have f310 : (p5 &&& (1 : Int32)).toInt = p5.toInt % 2 := c_mask p5 (1 : Int32) 1 (by decide) (by decide)
          have f311 : (0 : Int32).toInt = 0 := rfl
          have f312 : (2 : Int32).toInt = 2 := rfl
          have f313 := rng32 (p5 &&& (2 : Int32))
          have f314 := c_and p5 (2 : Int32) (by decide)
          have f315 : (4 : Int32).toInt = 4 := rfl
          have f316 := rng32 (p5 &&& (4 : Int32))
          have f317 := c_and p5 (4 : Int32) (by decide)
          have f318 := rng64 q4
          have f319 : (9223372036854775807 : Int64).toInt = 9223372036854775807 := rfl
          have f320 := rng64 (q4 &&& (9223372036854775807 : Int64))
          have f321 : (q4 &&& (9223372036854775807 : Int64)).toInt = q4.toInt % 9223372036854775808 := c_maskL q4 (9223372036854775807 : Int64) 63 (by decide) (by decide)
          have f322 : (0 : Int64).toInt = 0 := rfl
          have g323 := hc1
          rw [← Int32.toInt_inj] at g323
          have g324 := hc205
          rw [← Int32.toInt_inj] at g324
          have g325 := hc303
          rw [← Int32.toInt_inj] at g325
          omega
        obtain ⟨_, _, ⟨T326, L326, k326, n326⟩, -, X326, ⟨Lc326, hQ326, l326, y326, z326⟩, st326⟩ := X304.specialBack hx (y := own_y1) rfl hown (mvT hZ (own_w hw 6 rfl)) (mvT hZ (own_w hw 7 rfl)) (mvT hZ (own_w hw 8 rfl)) (by decide) (backOf (W := 1) (own_init l Z a0 hw [] b304 (-9223372036854775808 : Int64) (-9223372036854775808 : Int64) (q3 &&& (-2 : Int64)) (q4 &&& (9223372036854775807 : Int64)) h304 n0 Z305 A304 F_storedFrom_b304 F_currentFrom_b304 F_currentTo_b304 F_storedUpTo_b304 hv306 g_b304) hZ (own_w hw 8 rfl) (own_w hw 5 rfl) (by decide) (by decide)) (g := (mkF m 113 #[.val (.long q1), .second, .val (.long q2), .second, .val (.long q3), .second, .val (.long q4), .second, iv p5, iv 1, iv 1, iv 0, .val (.long (-9223372036854775808)), .second, .val (.long (-9223372036854775808)), .second, .val (.long (q3 &&& (-2 : Int64))), .second, .val (.long (q4 &&& (9223372036854775807 : Int64))), .second, .unset, .unset] [.long (q4 &&& (9223372036854775807 : Int64)), .long (q3 &&& (-2 : Int64)), .long (-9223372036854775808), .long (-9223372036854775808), .ref b304, .ref b304])) rfl (by rw [hml]; rfl) (Steps.refl _) (a := b304) (argsL := [(.long (-9223372036854775808 : Int64)), (.long (-9223372036854775808 : Int64)), (.long (q3 &&& (-2 : Int64))), (.long (q4 &&& (9223372036854775807 : Int64)))]) (rest := [(.ref b304)]) (lenOf own_pd_2 rfl) rfl (by show 2 * 0 + _ ≤ _; exact Nat.le_of_eq rfl) (hb hby at_113) (fun _ _ => ⟨rfl, e304, (by decide : 1 + 0 ≤ _), (by decide : 4 + 0 ≤ _)⟩)
        dsimp only [Pt.U, Pt.locs, Pt.cells, Pt.slots] at X326 l326 y326 z326 st326 hQ326
        subst l326 y326 z326
        obtain ⟨rfl, Nq326, Kq326, P326_0, P326_1, P326_2, P326_3, P326_4⟩ := hQ326
        have N326 := Fr.app (Fr.nil n0) Nq326
        have e326 : T326.heap = T326.heap := rfl
        have Z327 := Nat.le_trans Z305 Kq326.1
        refine own_tr st326 ?_
        show own_E p e below _ T326 (mkF m 116 #[.val (.long q1), .second, .val (.long q2), .second, .val (.long q3), .second, .val (.long q4), .second, iv p5, iv 1, iv 1, iv 0, .val (.long (-9223372036854775808)), .second, .val (.long (-9223372036854775808)), .second, .val (.long (q3 &&& (-2 : Int64))), .second, .val (.long (q4 &&& (9223372036854775807 : Int64))), .second, .unset, .unset] [.ref b304])
        refine own_st (fun t k => XS.astore X326.here hx rfl (hb hby at_116) rfl rfl (l' := #[.val (.long q1), .second, .val (.long q2), .second, .val (.long q3), .second, .val (.long q4), .second, iv p5, iv 1, iv 1, iv 0, .val (.long (-9223372036854775808)), .second, .val (.long (-9223372036854775808)), .second, .val (.long (q3 &&& (-2 : Int64))), .second, .val (.long (q4 &&& (9223372036854775807 : Int64))), .second, rv b304, .unset]) rfl k) ?_
        show own_E p e below _ T326 (mkF m 118 #[.val (.long q1), .second, .val (.long q2), .second, .val (.long q3), .second, .val (.long q4), .second, iv p5, iv 1, iv 1, iv 0, .val (.long (-9223372036854775808)), .second, .val (.long (-9223372036854775808)), .second, .val (.long (q3 &&& (-2 : Int64))), .second, .val (.long (q4 &&& (9223372036854775807 : Int64))), .second, rv b304, .unset] [])
        refine own_st (fun t k => XS.iload X326.here hx rfl (hb hby at_118) rfl k) ?_
        show own_E p e below _ T326 (mkF m 120 #[.val (.long q1), .second, .val (.long q2), .second, .val (.long q3), .second, .val (.long q4), .second, iv p5, iv 1, iv 1, iv 0, .val (.long (-9223372036854775808)), .second, .val (.long (-9223372036854775808)), .second, .val (.long (q3 &&& (-2 : Int64))), .second, .val (.long (q4 &&& (9223372036854775807 : Int64))), .second, rv b304, .unset] [.int 1])
        refine own_st (fun t k => XS.ifNo X326.here hx rfl (hb hby at_120) rfl (by decide) k) ?_
        show own_E p e below _ T326 (mkF m 123 #[.val (.long q1), .second, .val (.long q2), .second, .val (.long q3), .second, .val (.long q4), .second, iv p5, iv 1, iv 1, iv 0, .val (.long (-9223372036854775808)), .second, .val (.long (-9223372036854775808)), .second, .val (.long (q3 &&& (-2 : Int64))), .second, .val (.long (q4 &&& (9223372036854775807 : Int64))), .second, rv b304, .unset] [])
        refine own_st (fun t k => XS.iload X326.here hx rfl (hb hby at_123) rfl k) ?_
        show own_E p e below _ T326 (mkF m 125 #[.val (.long q1), .second, .val (.long q2), .second, .val (.long q3), .second, .val (.long q4), .second, iv p5, iv 1, iv 1, iv 0, .val (.long (-9223372036854775808)), .second, .val (.long (-9223372036854775808)), .second, .val (.long (q3 &&& (-2 : Int64))), .second, .val (.long (q4 &&& (9223372036854775807 : Int64))), .second, rv b304, .unset] [.int 1])
        refine own_st (fun t k => XS.ifNo X326.here hx rfl (hb hby at_125) rfl (by decide) k) ?_
        show own_E p e below _ T326 (mkF m 128 #[.val (.long q1), .second, .val (.long q2), .second, .val (.long q3), .second, .val (.long q4), .second, iv p5, iv 1, iv 1, iv 0, .val (.long (-9223372036854775808)), .second, .val (.long (-9223372036854775808)), .second, .val (.long (q3 &&& (-2 : Int64))), .second, .val (.long (q4 &&& (9223372036854775807 : Int64))), .second, rv b304, .unset] [])
        refine own_st (fun t k => XS.iload X326.here hx rfl (hb hby at_128) rfl k) ?_
        show own_E p e below _ T326 (mkF m 130 #[.val (.long q1), .second, .val (.long q2), .second, .val (.long q3), .second, .val (.long q4), .second, iv p5, iv 1, iv 1, iv 0, .val (.long (-9223372036854775808)), .second, .val (.long (-9223372036854775808)), .second, .val (.long (q3 &&& (-2 : Int64))), .second, .val (.long (q4 &&& (9223372036854775807 : Int64))), .second, rv b304, .unset] [.int 0])
        refine own_st (fun t k => XS.ifYes X326.here hx rfl (pc0 := 130) (pc' := 137) rfl (hb hby at_130) rfl (by decide) (by decide) (by decide) k) ?_
        show own_E p e below _ T326 (mkF m 137 #[.val (.long q1), .second, .val (.long q2), .second, .val (.long q3), .second, .val (.long q4), .second, iv p5, iv 1, iv 1, iv 0, .val (.long (-9223372036854775808)), .second, .val (.long (-9223372036854775808)), .second, .val (.long (q3 &&& (-2 : Int64))), .second, .val (.long (q4 &&& (9223372036854775807 : Int64))), .second, rv b304, .unset] [])
        refine own_st (fun t k => XS.iconst X326.here hx rfl (hb hby at_137) k) ?_
        show own_E p e below _ T326 (mkF m 138 #[.val (.long q1), .second, .val (.long q2), .second, .val (.long q3), .second, .val (.long q4), .second, iv p5, iv 1, iv 1, iv 0, .val (.long (-9223372036854775808)), .second, .val (.long (-9223372036854775808)), .second, .val (.long (q3 &&& (-2 : Int64))), .second, .val (.long (q4 &&& (9223372036854775807 : Int64))), .second, rv b304, .unset] [.int 0])
        refine own_st (fun t k => XS.istore X326.here hx rfl (hb hby at_138) rfl (l' := #[.val (.long q1), .second, .val (.long q2), .second, .val (.long q3), .second, .val (.long q4), .second, iv p5, iv 1, iv 1, iv 0, .val (.long (-9223372036854775808)), .second, .val (.long (-9223372036854775808)), .second, .val (.long (q3 &&& (-2 : Int64))), .second, .val (.long (q4 &&& (9223372036854775807 : Int64))), .second, rv b304, iv 0]) rfl k) ?_
        show own_E p e below _ T326 (mkF m 140 #[.val (.long q1), .second, .val (.long q2), .second, .val (.long q3), .second, .val (.long q4), .second, iv p5, iv 1, iv 1, iv 0, .val (.long (-9223372036854775808)), .second, .val (.long (-9223372036854775808)), .second, .val (.long (q3 &&& (-2 : Int64))), .second, .val (.long (q4 &&& (9223372036854775807 : Int64))), .second, rv b304, iv 0] [])
        refine own_st (fun t k => XS.aload X326.here hx rfl (hb hby at_140) rfl rfl k) ?_
        show own_E p e below _ T326 (mkF m 142 #[.val (.long q1), .second, .val (.long q2), .second, .val (.long q3), .second, .val (.long q4), .second, iv p5, iv 1, iv 1, iv 0, .val (.long (-9223372036854775808)), .second, .val (.long (-9223372036854775808)), .second, .val (.long (q3 &&& (-2 : Int64))), .second, .val (.long (q4 &&& (9223372036854775807 : Int64))), .second, rv b304, iv 0] [.ref b304])
        obtain ⟨cq328, kq328, q328a, q328b, q328c⟩ := isOf hZ e326 P326_0
        obtain ⟨_, _, ⟨T328, L328, k328, n328⟩, -, X328, ⟨Lc328, hQ328, l328, y328, z328⟩, st328⟩ := X326.virtualBack hx (y := own_y2) (z := own_y2) hown (mvT hZ (own_w hw 25 rfl)) (mvT hZ (own_w hw 26 rfl)) (notFace_of_selects (args := #[]) (mvT hZ (own_w hw 28 rfl))) (mvT hZ (own_w hw 28 rfl)) (mvT hZ (own_w hw 27 rfl)) (by decide) (backOf (W := 0) (own_every l Z a0 hw [] b304 (-9223372036854775808 : Int64) (-9223372036854775808 : Int64) (q3 &&& (-2 : Int64)) T326.heap n0 Z327 P326_1 P326_2 P326_3) hZ (own_w hw 29 rfl) (own_w hw 5 rfl) (by decide) (by decide)) q328a q328c (g := (mkF m 142 #[.val (.long q1), .second, .val (.long q2), .second, .val (.long q3), .second, .val (.long q4), .second, iv p5, iv 1, iv 1, iv 0, .val (.long (-9223372036854775808)), .second, .val (.long (-9223372036854775808)), .second, .val (.long (q3 &&& (-2 : Int64))), .second, .val (.long (q4 &&& (9223372036854775807 : Int64))), .second, rv b304, iv 0] [.ref b304])) rfl (by rw [hml]; rfl) (Steps.refl _) (argsL := []) (rest := []) (lenOf own_pd_1 rfl) rfl (by show 2 * 0 + _ ≤ _; exact Nat.le_of_eq rfl) (hb hby at_142) (fun _ _ => ⟨rfl, e326, (by decide : 1 + 0 ≤ _), (by decide : 4 + 0 ≤ _)⟩)
        dsimp only [Pt.U, Pt.locs, Pt.cells, Pt.slots] at X328 l328 y328 z328 st328 hQ328
        subst l328 y328 z328
        obtain ⟨hR328, e328, rfl⟩ := hQ328
        have N328 := Fr.app N326 (Fr.nil n0)
        rcases hR328 with ⟨rfl, ha328_0, ha328_1, ha328_2⟩ | ⟨rfl, ha328_0, ha328_1, ha328_2⟩ | ⟨rfl, ha328_0, ha328_1⟩ | ⟨rfl, ha328_0⟩
        · refine own_tr st328 ?_
          show own_E p e below _ T328 (mkF m 145 #[.val (.long q1), .second, .val (.long q2), .second, .val (.long q3), .second, .val (.long q4), .second, iv p5, iv 1, iv 1, iv 0, .val (.long (-9223372036854775808)), .second, .val (.long (-9223372036854775808)), .second, .val (.long (q3 &&& (-2 : Int64))), .second, .val (.long (q4 &&& (9223372036854775807 : Int64))), .second, rv b304, iv 0] [.int 1])
          refine own_st (fun t k => XS.iload X328.here hx rfl (hb hby at_145) rfl k) ?_
          show own_E p e below _ T328 (mkF m 147 #[.val (.long q1), .second, .val (.long q2), .second, .val (.long q3), .second, .val (.long q4), .second, iv p5, iv 1, iv 1, iv 0, .val (.long (-9223372036854775808)), .second, .val (.long (-9223372036854775808)), .second, .val (.long (q3 &&& (-2 : Int64))), .second, .val (.long (q4 &&& (9223372036854775807 : Int64))), .second, rv b304, iv 0] [.int 0, .int 1])
          refine own_st (fun t k => XS.icmpYes X328.here hx rfl (pc0 := 147) (pc' := 154) rfl (hb hby at_147) rfl (by decide) (by decide) (by decide) k) ?_
          show own_E p e below _ T328 (mkF m 154 #[.val (.long q1), .second, .val (.long q2), .second, .val (.long q3), .second, .val (.long q4), .second, iv p5, iv 1, iv 1, iv 0, .val (.long (-9223372036854775808)), .second, .val (.long (-9223372036854775808)), .second, .val (.long (q3 &&& (-2 : Int64))), .second, .val (.long (q4 &&& (9223372036854775807 : Int64))), .second, rv b304, iv 0] [])
          refine own_st (fun t k => XS.iconst X328.here hx rfl (hb hby at_154) k) ?_
          show own_E p e below _ T328 (mkF m 155 #[.val (.long q1), .second, .val (.long q2), .second, .val (.long q3), .second, .val (.long q4), .second, iv p5, iv 1, iv 1, iv 0, .val (.long (-9223372036854775808)), .second, .val (.long (-9223372036854775808)), .second, .val (.long (q3 &&& (-2 : Int64))), .second, .val (.long (q4 &&& (9223372036854775807 : Int64))), .second, rv b304, iv 0] [.int 0])
          refine own_retS X328 hx Bd.notSynchronized Bd.returns rfl (by decide) (hb hby at_155) (by decide) (by decide) ?_
          exfalso
          have f329 := rng32 p5
          have f330 : (1 : Int32).toInt = 1 := rfl
          have f331 := rng32 (p5 &&& (1 : Int32))
          have f332 : (p5 &&& (1 : Int32)).toInt = p5.toInt % 2 := c_mask p5 (1 : Int32) 1 (by decide) (by decide)
          have f333 : (0 : Int32).toInt = 0 := rfl
          have f334 : (2 : Int32).toInt = 2 := rfl
          have f335 := rng32 (p5 &&& (2 : Int32))
          have f336 := c_and p5 (2 : Int32) (by decide)
          have f337 : (4 : Int32).toInt = 4 := rfl
          have f338 := rng32 (p5 &&& (4 : Int32))
          have f339 := c_and p5 (4 : Int32) (by decide)
          have f340 := rng64 q3
          have f341 : (-2 : Int64).toInt = -2 := rfl
          have f342 := rng64 (q3 &&& (-2 : Int64))
          have f343 := own_landm2 q3
          have f344 : (9223372036854775807 : Int64).toInt = 9223372036854775807 := rfl
          have g345 := hc1
          rw [← Int32.toInt_inj] at g345
          have g346 := hc205
          rw [← Int32.toInt_inj] at g346
          have g347 := hc303
          rw [← Int32.toInt_inj] at g347
          have g348 := ha328_2
          rw [← Int64.toInt_inj] at g348
          omega
        · refine own_tr st328 ?_
          show own_E p e below _ T328 (mkF m 145 #[.val (.long q1), .second, .val (.long q2), .second, .val (.long q3), .second, .val (.long q4), .second, iv p5, iv 1, iv 1, iv 0, .val (.long (-9223372036854775808)), .second, .val (.long (-9223372036854775808)), .second, .val (.long (q3 &&& (-2 : Int64))), .second, .val (.long (q4 &&& (9223372036854775807 : Int64))), .second, rv b304, iv 0] [.int 0])
          refine own_st (fun t k => XS.iload X328.here hx rfl (hb hby at_145) rfl k) ?_
          show own_E p e below _ T328 (mkF m 147 #[.val (.long q1), .second, .val (.long q2), .second, .val (.long q3), .second, .val (.long q4), .second, iv p5, iv 1, iv 1, iv 0, .val (.long (-9223372036854775808)), .second, .val (.long (-9223372036854775808)), .second, .val (.long (q3 &&& (-2 : Int64))), .second, .val (.long (q4 &&& (9223372036854775807 : Int64))), .second, rv b304, iv 0] [.int 0, .int 0])
          refine own_st (fun t k => XS.icmpNo X328.here hx rfl (hb hby at_147) rfl (by decide) k) ?_
          show own_E p e below _ T328 (mkF m 150 #[.val (.long q1), .second, .val (.long q2), .second, .val (.long q3), .second, .val (.long q4), .second, iv p5, iv 1, iv 1, iv 0, .val (.long (-9223372036854775808)), .second, .val (.long (-9223372036854775808)), .second, .val (.long (q3 &&& (-2 : Int64))), .second, .val (.long (q4 &&& (9223372036854775807 : Int64))), .second, rv b304, iv 0] [])
          refine own_st (fun t k => XS.iconst X328.here hx rfl (hb hby at_150) k) ?_
          show own_E p e below _ T328 (mkF m 151 #[.val (.long q1), .second, .val (.long q2), .second, .val (.long q3), .second, .val (.long q4), .second, iv p5, iv 1, iv 1, iv 0, .val (.long (-9223372036854775808)), .second, .val (.long (-9223372036854775808)), .second, .val (.long (q3 &&& (-2 : Int64))), .second, .val (.long (q4 &&& (9223372036854775807 : Int64))), .second, rv b304, iv 0] [.int 1])
          refine own_st (fun t k => XS.goto X328.here hx rfl (pc0 := 151) (pc' := 155) rfl (hb hby at_151) (by decide) (by decide) k) ?_
          show own_E p e below _ T328 (mkF m 155 #[.val (.long q1), .second, .val (.long q2), .second, .val (.long q3), .second, .val (.long q4), .second, iv p5, iv 1, iv 1, iv 0, .val (.long (-9223372036854775808)), .second, .val (.long (-9223372036854775808)), .second, .val (.long (q3 &&& (-2 : Int64))), .second, .val (.long (q4 &&& (9223372036854775807 : Int64))), .second, rv b304, iv 0] [.int 1])
          refine own_retS X328 hx Bd.notSynchronized Bd.returns rfl (by decide) (hb hby at_155) (by decide) (by decide) ?_
          exact ⟨rfl, N328⟩
        · exact absurd ha328_1 (by decide)
        · exact absurd ha328_0 (by decide)
      · refine own_st (fun t k => XS.ifNo X0.here hx rfl (hb hby at_32) rfl ((if0 _ _).trans (feq hc303).1) k) ?_
        show own_E p e below _ s₁ (mkF m 35 #[.val (.long q1), .second, .val (.long q2), .second, .val (.long q3), .second, .val (.long q4), .second, iv p5, iv 1, iv 1, .unset, .unset, .unset, .unset, .unset, .unset, .unset, .unset, .unset, .unset, .unset] [])
        refine own_st (fun t k => XS.iconst X0.here hx rfl (hb hby at_35) k) ?_
        show own_E p e below _ s₁ (mkF m 36 #[.val (.long q1), .second, .val (.long q2), .second, .val (.long q3), .second, .val (.long q4), .second, iv p5, iv 1, iv 1, .unset, .unset, .unset, .unset, .unset, .unset, .unset, .unset, .unset, .unset, .unset] [.int 1])
        refine own_st (fun t k => XS.goto X0.here hx rfl (pc0 := 36) (pc' := 40) rfl (hb hby at_36) (by decide) (by decide) k) ?_
        show own_E p e below _ s₁ (mkF m 40 #[.val (.long q1), .second, .val (.long q2), .second, .val (.long q3), .second, .val (.long q4), .second, iv p5, iv 1, iv 1, .unset, .unset, .unset, .unset, .unset, .unset, .unset, .unset, .unset, .unset, .unset] [.int 1])
        refine own_st (fun t k => XS.istore X0.here hx rfl (hb hby at_40) rfl (l' := #[.val (.long q1), .second, .val (.long q2), .second, .val (.long q3), .second, .val (.long q4), .second, iv p5, iv 1, iv 1, iv 1, .unset, .unset, .unset, .unset, .unset, .unset, .unset, .unset, .unset, .unset]) rfl k) ?_
        show own_E p e below _ s₁ (mkF m 42 #[.val (.long q1), .second, .val (.long q2), .second, .val (.long q3), .second, .val (.long q4), .second, iv p5, iv 1, iv 1, iv 1, .unset, .unset, .unset, .unset, .unset, .unset, .unset, .unset, .unset, .unset] [])
        refine own_st (fun t k => XS.iload X0.here hx rfl (hb hby at_42) rfl k) ?_
        show own_E p e below _ s₁ (mkF m 44 #[.val (.long q1), .second, .val (.long q2), .second, .val (.long q3), .second, .val (.long q4), .second, iv p5, iv 1, iv 1, iv 1, .unset, .unset, .unset, .unset, .unset, .unset, .unset, .unset, .unset, .unset] [.int 1])
        refine own_st (fun t k => XS.ifNo X0.here hx rfl (hb hby at_44) rfl (by decide) k) ?_
        show own_E p e below _ s₁ (mkF m 47 #[.val (.long q1), .second, .val (.long q2), .second, .val (.long q3), .second, .val (.long q4), .second, iv p5, iv 1, iv 1, iv 1, .unset, .unset, .unset, .unset, .unset, .unset, .unset, .unset, .unset, .unset] [])
        refine own_st (X0.ldc2Long hx hown (mvT hZ (own_w hw 0 rfl)) (g := (mkF m 47 #[.val (.long q1), .second, .val (.long q2), .second, .val (.long q3), .second, .val (.long q4), .second, iv p5, iv 1, iv 1, iv 1, .unset, .unset, .unset, .unset, .unset, .unset, .unset, .unset, .unset, .unset] [])) rfl (hb hby at_47)) ?_
        show own_E p e below _ s₁ (mkF m 50 #[.val (.long q1), .second, .val (.long q2), .second, .val (.long q3), .second, .val (.long q4), .second, iv p5, iv 1, iv 1, iv 1, .unset, .unset, .unset, .unset, .unset, .unset, .unset, .unset, .unset, .unset] [.long (-9223372036854775808)])
        refine own_st (fun t k => XS.goto X0.here hx rfl (pc0 := 50) (pc' := 56) rfl (hb hby at_50) (by decide) (by decide) k) ?_
        show own_E p e below _ s₁ (mkF m 56 #[.val (.long q1), .second, .val (.long q2), .second, .val (.long q3), .second, .val (.long q4), .second, iv p5, iv 1, iv 1, iv 1, .unset, .unset, .unset, .unset, .unset, .unset, .unset, .unset, .unset, .unset] [.long (-9223372036854775808)])
        refine own_st (fun t k => XS.lstore X0.here hx rfl (hb hby at_56) rfl (l' := #[.val (.long q1), .second, .val (.long q2), .second, .val (.long q3), .second, .val (.long q4), .second, iv p5, iv 1, iv 1, iv 1, .val (.long (-9223372036854775808)), .second, .unset, .unset, .unset, .unset, .unset, .unset, .unset, .unset]) rfl k) ?_
        show own_E p e below _ s₁ (mkF m 58 #[.val (.long q1), .second, .val (.long q2), .second, .val (.long q3), .second, .val (.long q4), .second, iv p5, iv 1, iv 1, iv 1, .val (.long (-9223372036854775808)), .second, .unset, .unset, .unset, .unset, .unset, .unset, .unset, .unset] [])
        refine own_st (fun t k => XS.iload X0.here hx rfl (hb hby at_58) rfl k) ?_
        show own_E p e below _ s₁ (mkF m 60 #[.val (.long q1), .second, .val (.long q2), .second, .val (.long q3), .second, .val (.long q4), .second, iv p5, iv 1, iv 1, iv 1, .val (.long (-9223372036854775808)), .second, .unset, .unset, .unset, .unset, .unset, .unset, .unset, .unset] [.int 1])
        refine own_st (fun t k => XS.ifNo X0.here hx rfl (hb hby at_60) rfl (by decide) k) ?_
        show own_E p e below _ s₁ (mkF m 63 #[.val (.long q1), .second, .val (.long q2), .second, .val (.long q3), .second, .val (.long q4), .second, iv p5, iv 1, iv 1, iv 1, .val (.long (-9223372036854775808)), .second, .unset, .unset, .unset, .unset, .unset, .unset, .unset, .unset] [])
        refine own_st (X0.ldc2Long hx hown (mvT hZ (own_w hw 0 rfl)) (g := (mkF m 63 #[.val (.long q1), .second, .val (.long q2), .second, .val (.long q3), .second, .val (.long q4), .second, iv p5, iv 1, iv 1, iv 1, .val (.long (-9223372036854775808)), .second, .unset, .unset, .unset, .unset, .unset, .unset, .unset, .unset] [])) rfl (hb hby at_63)) ?_
        show own_E p e below _ s₁ (mkF m 66 #[.val (.long q1), .second, .val (.long q2), .second, .val (.long q3), .second, .val (.long q4), .second, iv p5, iv 1, iv 1, iv 1, .val (.long (-9223372036854775808)), .second, .unset, .unset, .unset, .unset, .unset, .unset, .unset, .unset] [.long (-9223372036854775808)])
        refine own_st (fun t k => XS.goto X0.here hx rfl (pc0 := 66) (pc' := 72) rfl (hb hby at_66) (by decide) (by decide) k) ?_
        show own_E p e below _ s₁ (mkF m 72 #[.val (.long q1), .second, .val (.long q2), .second, .val (.long q3), .second, .val (.long q4), .second, iv p5, iv 1, iv 1, iv 1, .val (.long (-9223372036854775808)), .second, .unset, .unset, .unset, .unset, .unset, .unset, .unset, .unset] [.long (-9223372036854775808)])
        refine own_st (fun t k => XS.lstore X0.here hx rfl (hb hby at_72) rfl (l' := #[.val (.long q1), .second, .val (.long q2), .second, .val (.long q3), .second, .val (.long q4), .second, iv p5, iv 1, iv 1, iv 1, .val (.long (-9223372036854775808)), .second, .val (.long (-9223372036854775808)), .second, .unset, .unset, .unset, .unset, .unset, .unset]) rfl k) ?_
        show own_E p e below _ s₁ (mkF m 74 #[.val (.long q1), .second, .val (.long q2), .second, .val (.long q3), .second, .val (.long q4), .second, iv p5, iv 1, iv 1, iv 1, .val (.long (-9223372036854775808)), .second, .val (.long (-9223372036854775808)), .second, .unset, .unset, .unset, .unset, .unset, .unset] [])
        refine own_st (fun t k => XS.iload X0.here hx rfl (hb hby at_74) rfl k) ?_
        show own_E p e below _ s₁ (mkF m 76 #[.val (.long q1), .second, .val (.long q2), .second, .val (.long q3), .second, .val (.long q4), .second, iv p5, iv 1, iv 1, iv 1, .val (.long (-9223372036854775808)), .second, .val (.long (-9223372036854775808)), .second, .unset, .unset, .unset, .unset, .unset, .unset] [.int 1])
        refine own_st (fun t k => XS.ifNo X0.here hx rfl (hb hby at_76) rfl (by decide) k) ?_
        show own_E p e below _ s₁ (mkF m 79 #[.val (.long q1), .second, .val (.long q2), .second, .val (.long q3), .second, .val (.long q4), .second, iv p5, iv 1, iv 1, iv 1, .val (.long (-9223372036854775808)), .second, .val (.long (-9223372036854775808)), .second, .unset, .unset, .unset, .unset, .unset, .unset] [])
        refine own_st (X0.ldc2Long hx hown (mvT hZ (own_w hw 2 rfl)) (g := (mkF m 79 #[.val (.long q1), .second, .val (.long q2), .second, .val (.long q3), .second, .val (.long q4), .second, iv p5, iv 1, iv 1, iv 1, .val (.long (-9223372036854775808)), .second, .val (.long (-9223372036854775808)), .second, .unset, .unset, .unset, .unset, .unset, .unset] [])) rfl (hb hby at_79)) ?_
        show own_E p e below _ s₁ (mkF m 82 #[.val (.long q1), .second, .val (.long q2), .second, .val (.long q3), .second, .val (.long q4), .second, iv p5, iv 1, iv 1, iv 1, .val (.long (-9223372036854775808)), .second, .val (.long (-9223372036854775808)), .second, .unset, .unset, .unset, .unset, .unset, .unset] [.long 9223372036854775807])
        refine own_st (fun t k => XS.goto X0.here hx rfl (pc0 := 82) (pc' := 91) rfl (hb hby at_82) (by decide) (by decide) k) ?_
        show own_E p e below _ s₁ (mkF m 91 #[.val (.long q1), .second, .val (.long q2), .second, .val (.long q3), .second, .val (.long q4), .second, iv p5, iv 1, iv 1, iv 1, .val (.long (-9223372036854775808)), .second, .val (.long (-9223372036854775808)), .second, .unset, .unset, .unset, .unset, .unset, .unset] [.long 9223372036854775807])
        refine own_st (fun t k => XS.lstore X0.here hx rfl (hb hby at_91) rfl (l' := #[.val (.long q1), .second, .val (.long q2), .second, .val (.long q3), .second, .val (.long q4), .second, iv p5, iv 1, iv 1, iv 1, .val (.long (-9223372036854775808)), .second, .val (.long (-9223372036854775808)), .second, .val (.long 9223372036854775807), .second, .unset, .unset, .unset, .unset]) rfl k) ?_
        show own_E p e below _ s₁ (mkF m 93 #[.val (.long q1), .second, .val (.long q2), .second, .val (.long q3), .second, .val (.long q4), .second, iv p5, iv 1, iv 1, iv 1, .val (.long (-9223372036854775808)), .second, .val (.long (-9223372036854775808)), .second, .val (.long 9223372036854775807), .second, .unset, .unset, .unset, .unset] [])
        refine own_st (fun t k => XS.lload X0.here hx rfl (hb hby at_93) rfl k) ?_
        show own_E p e below _ s₁ (mkF m 95 #[.val (.long q1), .second, .val (.long q2), .second, .val (.long q3), .second, .val (.long q4), .second, iv p5, iv 1, iv 1, iv 1, .val (.long (-9223372036854775808)), .second, .val (.long (-9223372036854775808)), .second, .val (.long 9223372036854775807), .second, .unset, .unset, .unset, .unset] [.long q4])
        refine own_st (X0.ldc2Long hx hown (mvT hZ (own_w hw 2 rfl)) (g := (mkF m 95 #[.val (.long q1), .second, .val (.long q2), .second, .val (.long q3), .second, .val (.long q4), .second, iv p5, iv 1, iv 1, iv 1, .val (.long (-9223372036854775808)), .second, .val (.long (-9223372036854775808)), .second, .val (.long 9223372036854775807), .second, .unset, .unset, .unset, .unset] [.long q4])) rfl (hb hby at_95)) ?_
        show own_E p e below _ s₁ (mkF m 98 #[.val (.long q1), .second, .val (.long q2), .second, .val (.long q3), .second, .val (.long q4), .second, iv p5, iv 1, iv 1, iv 1, .val (.long (-9223372036854775808)), .second, .val (.long (-9223372036854775808)), .second, .val (.long 9223372036854775807), .second, .unset, .unset, .unset, .unset] [.long 9223372036854775807, .long q4])
        refine own_st (fun t k => XS.land X0.here hx rfl (hb hby at_98) rfl k) ?_
        show own_E p e below _ s₁ (mkF m 99 #[.val (.long q1), .second, .val (.long q2), .second, .val (.long q3), .second, .val (.long q4), .second, iv p5, iv 1, iv 1, iv 1, .val (.long (-9223372036854775808)), .second, .val (.long (-9223372036854775808)), .second, .val (.long 9223372036854775807), .second, .unset, .unset, .unset, .unset] [.long (q4 &&& (9223372036854775807 : Int64))])
        refine own_st (fun t k => XS.lstore X0.here hx rfl (hb hby at_99) rfl (l' := #[.val (.long q1), .second, .val (.long q2), .second, .val (.long q3), .second, .val (.long q4), .second, iv p5, iv 1, iv 1, iv 1, .val (.long (-9223372036854775808)), .second, .val (.long (-9223372036854775808)), .second, .val (.long 9223372036854775807), .second, .val (.long (q4 &&& (9223372036854775807 : Int64))), .second, .unset, .unset]) rfl k) ?_
        show own_E p e below _ s₁ (mkF m 101 #[.val (.long q1), .second, .val (.long q2), .second, .val (.long q3), .second, .val (.long q4), .second, iv p5, iv 1, iv 1, iv 1, .val (.long (-9223372036854775808)), .second, .val (.long (-9223372036854775808)), .second, .val (.long 9223372036854775807), .second, .val (.long (q4 &&& (9223372036854775807 : Int64))), .second, .unset, .unset] [])
        obtain ⟨T349, h349, X349, e349, E349, A349, D349, -, st349⟩ := newO X0 hx hZ hown (own_w hw 3 rfl) (own_w hw 4 rfl) (own_w hw 5 rfl) e0 (g := (mkF m 101 #[.val (.long q1), .second, .val (.long q2), .second, .val (.long q3), .second, .val (.long q4), .second, iv p5, iv 1, iv 1, iv 1, .val (.long (-9223372036854775808)), .second, .val (.long (-9223372036854775808)), .second, .val (.long 9223372036854775807), .second, .val (.long (q4 &&& (9223372036854775807 : Int64))), .second, .unset, .unset] [])) rfl (hb hby at_101) (by decide) (by decide)
        obtain ⟨b349, g349⟩ : ∃ z, z = h0.size := ⟨_, rfl⟩
        rw [← g349] at A349 D349 st349
        have g_b349 : n0 ≤ b349 := Nat.le_trans Z0 (Nat.le_of_eq g349.symm)
        have Z350 := Nat.le_trans Z0 E349.1
        have F_storedFrom_b349 : Fld Z h349 b349 "com/example/brazier/brazier/store/HistoryBound" "storedFrom" "J" (.long (0 : Int64)) := D349 (Or.inr (own_w hw 18 rfl)) (ty := .long) (by decide)
        have F_currentFrom_b349 : Fld Z h349 b349 "com/example/brazier/brazier/store/HistoryBound" "currentFrom" "J" (.long (0 : Int64)) := D349 (Or.inr (own_w hw 20 rfl)) (ty := .long) (by decide)
        have F_currentTo_b349 : Fld Z h349 b349 "com/example/brazier/brazier/store/HistoryBound" "currentTo" "J" (.long (0 : Int64)) := D349 (Or.inr (own_w hw 22 rfl)) (ty := .long) (by decide)
        have F_storedUpTo_b349 : Fld Z h349 b349 "com/example/brazier/brazier/store/HistoryBound" "storedUpTo" "J" (.long (0 : Int64)) := D349 (Or.inr (own_w hw 24 rfl)) (ty := .long) (by decide)
        refine own_st st349 ?_
        show own_E p e below _ T349 (mkF m 104 #[.val (.long q1), .second, .val (.long q2), .second, .val (.long q3), .second, .val (.long q4), .second, iv p5, iv 1, iv 1, iv 1, .val (.long (-9223372036854775808)), .second, .val (.long (-9223372036854775808)), .second, .val (.long 9223372036854775807), .second, .val (.long (q4 &&& (9223372036854775807 : Int64))), .second, .unset, .unset] [.ref b349])
        refine own_st (fun t k => XS.dup X349.here hx rfl (hb hby at_104) rfl rfl k) ?_
        show own_E p e below _ T349 (mkF m 105 #[.val (.long q1), .second, .val (.long q2), .second, .val (.long q3), .second, .val (.long q4), .second, iv p5, iv 1, iv 1, iv 1, .val (.long (-9223372036854775808)), .second, .val (.long (-9223372036854775808)), .second, .val (.long 9223372036854775807), .second, .val (.long (q4 &&& (9223372036854775807 : Int64))), .second, .unset, .unset] [.ref b349, .ref b349])
        refine own_st (fun t k => XS.lload X349.here hx rfl (hb hby at_105) rfl k) ?_
        show own_E p e below _ T349 (mkF m 107 #[.val (.long q1), .second, .val (.long q2), .second, .val (.long q3), .second, .val (.long q4), .second, iv p5, iv 1, iv 1, iv 1, .val (.long (-9223372036854775808)), .second, .val (.long (-9223372036854775808)), .second, .val (.long 9223372036854775807), .second, .val (.long (q4 &&& (9223372036854775807 : Int64))), .second, .unset, .unset] [.long (-9223372036854775808), .ref b349, .ref b349])
        refine own_st (fun t k => XS.lload X349.here hx rfl (hb hby at_107) rfl k) ?_
        show own_E p e below _ T349 (mkF m 109 #[.val (.long q1), .second, .val (.long q2), .second, .val (.long q3), .second, .val (.long q4), .second, iv p5, iv 1, iv 1, iv 1, .val (.long (-9223372036854775808)), .second, .val (.long (-9223372036854775808)), .second, .val (.long 9223372036854775807), .second, .val (.long (q4 &&& (9223372036854775807 : Int64))), .second, .unset, .unset] [.long (-9223372036854775808), .long (-9223372036854775808), .ref b349, .ref b349])
        refine own_st (fun t k => XS.lload X349.here hx rfl (hb hby at_109) rfl k) ?_
        show own_E p e below _ T349 (mkF m 111 #[.val (.long q1), .second, .val (.long q2), .second, .val (.long q3), .second, .val (.long q4), .second, iv p5, iv 1, iv 1, iv 1, .val (.long (-9223372036854775808)), .second, .val (.long (-9223372036854775808)), .second, .val (.long 9223372036854775807), .second, .val (.long (q4 &&& (9223372036854775807 : Int64))), .second, .unset, .unset] [.long 9223372036854775807, .long (-9223372036854775808), .long (-9223372036854775808), .ref b349, .ref b349])
        refine own_st (fun t k => XS.lload X349.here hx rfl (hb hby at_111) rfl k) ?_
        show own_E p e below _ T349 (mkF m 113 #[.val (.long q1), .second, .val (.long q2), .second, .val (.long q3), .second, .val (.long q4), .second, iv p5, iv 1, iv 1, iv 1, .val (.long (-9223372036854775808)), .second, .val (.long (-9223372036854775808)), .second, .val (.long 9223372036854775807), .second, .val (.long (q4 &&& (9223372036854775807 : Int64))), .second, .unset, .unset] [.long (q4 &&& (9223372036854775807 : Int64)), .long 9223372036854775807, .long (-9223372036854775808), .long (-9223372036854775808), .ref b349, .ref b349])
        have hv351 : ¬ ((q4 &&& (9223372036854775807 : Int64)) < (0 : Int64)) := by
          rw [Int64.lt_iff_toInt_lt]
          have f352 := rng32 p5
          have f353 : (1 : Int32).toInt = 1 := rfl
          have f354 := rng32 (p5 &&& (1 : Int32))
          have f355 : (p5 &&& (1 : Int32)).toInt = p5.toInt % 2 := c_mask p5 (1 : Int32) 1 (by decide) (by decide)
          have f356 : (0 : Int32).toInt = 0 := rfl
          have f357 : (2 : Int32).toInt = 2 := rfl
          have f358 := rng32 (p5 &&& (2 : Int32))
          have f359 := c_and p5 (2 : Int32) (by decide)
          have f360 : (4 : Int32).toInt = 4 := rfl
          have f361 := rng32 (p5 &&& (4 : Int32))
          have f362 := c_and p5 (4 : Int32) (by decide)
          have f363 := rng64 q4
          have f364 : (9223372036854775807 : Int64).toInt = 9223372036854775807 := rfl
          have f365 := rng64 (q4 &&& (9223372036854775807 : Int64))
          have f366 : (q4 &&& (9223372036854775807 : Int64)).toInt = q4.toInt % 9223372036854775808 := c_maskL q4 (9223372036854775807 : Int64) 63 (by decide) (by decide)
          have f367 : (0 : Int64).toInt = 0 := rfl
          have g368 := hc1
          rw [← Int32.toInt_inj] at g368
          have g369 := hc205
          rw [← Int32.toInt_inj] at g369
          have g370 := hc303
          rw [← Int32.toInt_inj] at g370
          omega
        obtain ⟨_, _, ⟨T371, L371, k371, n371⟩, -, X371, ⟨Lc371, hQ371, l371, y371, z371⟩, st371⟩ := X349.specialBack hx (y := own_y1) rfl hown (mvT hZ (own_w hw 6 rfl)) (mvT hZ (own_w hw 7 rfl)) (mvT hZ (own_w hw 8 rfl)) (by decide) (backOf (W := 1) (own_init l Z a0 hw [] b349 (-9223372036854775808 : Int64) (-9223372036854775808 : Int64) (9223372036854775807 : Int64) (q4 &&& (9223372036854775807 : Int64)) h349 n0 Z350 A349 F_storedFrom_b349 F_currentFrom_b349 F_currentTo_b349 F_storedUpTo_b349 hv351 g_b349) hZ (own_w hw 8 rfl) (own_w hw 5 rfl) (by decide) (by decide)) (g := (mkF m 113 #[.val (.long q1), .second, .val (.long q2), .second, .val (.long q3), .second, .val (.long q4), .second, iv p5, iv 1, iv 1, iv 1, .val (.long (-9223372036854775808)), .second, .val (.long (-9223372036854775808)), .second, .val (.long 9223372036854775807), .second, .val (.long (q4 &&& (9223372036854775807 : Int64))), .second, .unset, .unset] [.long (q4 &&& (9223372036854775807 : Int64)), .long 9223372036854775807, .long (-9223372036854775808), .long (-9223372036854775808), .ref b349, .ref b349])) rfl (by rw [hml]; rfl) (Steps.refl _) (a := b349) (argsL := [(.long (-9223372036854775808 : Int64)), (.long (-9223372036854775808 : Int64)), (.long (9223372036854775807 : Int64)), (.long (q4 &&& (9223372036854775807 : Int64)))]) (rest := [(.ref b349)]) (lenOf own_pd_2 rfl) rfl (by show 2 * 0 + _ ≤ _; exact Nat.le_of_eq rfl) (hb hby at_113) (fun _ _ => ⟨rfl, e349, (by decide : 1 + 0 ≤ _), (by decide : 4 + 0 ≤ _)⟩)
        dsimp only [Pt.U, Pt.locs, Pt.cells, Pt.slots] at X371 l371 y371 z371 st371 hQ371
        subst l371 y371 z371
        obtain ⟨rfl, Nq371, Kq371, P371_0, P371_1, P371_2, P371_3, P371_4⟩ := hQ371
        have N371 := Fr.app (Fr.nil n0) Nq371
        have e371 : T371.heap = T371.heap := rfl
        have Z372 := Nat.le_trans Z350 Kq371.1
        refine own_tr st371 ?_
        show own_E p e below _ T371 (mkF m 116 #[.val (.long q1), .second, .val (.long q2), .second, .val (.long q3), .second, .val (.long q4), .second, iv p5, iv 1, iv 1, iv 1, .val (.long (-9223372036854775808)), .second, .val (.long (-9223372036854775808)), .second, .val (.long 9223372036854775807), .second, .val (.long (q4 &&& (9223372036854775807 : Int64))), .second, .unset, .unset] [.ref b349])
        refine own_st (fun t k => XS.astore X371.here hx rfl (hb hby at_116) rfl rfl (l' := #[.val (.long q1), .second, .val (.long q2), .second, .val (.long q3), .second, .val (.long q4), .second, iv p5, iv 1, iv 1, iv 1, .val (.long (-9223372036854775808)), .second, .val (.long (-9223372036854775808)), .second, .val (.long 9223372036854775807), .second, .val (.long (q4 &&& (9223372036854775807 : Int64))), .second, rv b349, .unset]) rfl k) ?_
        show own_E p e below _ T371 (mkF m 118 #[.val (.long q1), .second, .val (.long q2), .second, .val (.long q3), .second, .val (.long q4), .second, iv p5, iv 1, iv 1, iv 1, .val (.long (-9223372036854775808)), .second, .val (.long (-9223372036854775808)), .second, .val (.long 9223372036854775807), .second, .val (.long (q4 &&& (9223372036854775807 : Int64))), .second, rv b349, .unset] [])
        refine own_st (fun t k => XS.iload X371.here hx rfl (hb hby at_118) rfl k) ?_
        show own_E p e below _ T371 (mkF m 120 #[.val (.long q1), .second, .val (.long q2), .second, .val (.long q3), .second, .val (.long q4), .second, iv p5, iv 1, iv 1, iv 1, .val (.long (-9223372036854775808)), .second, .val (.long (-9223372036854775808)), .second, .val (.long 9223372036854775807), .second, .val (.long (q4 &&& (9223372036854775807 : Int64))), .second, rv b349, .unset] [.int 1])
        refine own_st (fun t k => XS.ifNo X371.here hx rfl (hb hby at_120) rfl (by decide) k) ?_
        show own_E p e below _ T371 (mkF m 123 #[.val (.long q1), .second, .val (.long q2), .second, .val (.long q3), .second, .val (.long q4), .second, iv p5, iv 1, iv 1, iv 1, .val (.long (-9223372036854775808)), .second, .val (.long (-9223372036854775808)), .second, .val (.long 9223372036854775807), .second, .val (.long (q4 &&& (9223372036854775807 : Int64))), .second, rv b349, .unset] [])
        refine own_st (fun t k => XS.iload X371.here hx rfl (hb hby at_123) rfl k) ?_
        show own_E p e below _ T371 (mkF m 125 #[.val (.long q1), .second, .val (.long q2), .second, .val (.long q3), .second, .val (.long q4), .second, iv p5, iv 1, iv 1, iv 1, .val (.long (-9223372036854775808)), .second, .val (.long (-9223372036854775808)), .second, .val (.long 9223372036854775807), .second, .val (.long (q4 &&& (9223372036854775807 : Int64))), .second, rv b349, .unset] [.int 1])
        refine own_st (fun t k => XS.ifNo X371.here hx rfl (hb hby at_125) rfl (by decide) k) ?_
        show own_E p e below _ T371 (mkF m 128 #[.val (.long q1), .second, .val (.long q2), .second, .val (.long q3), .second, .val (.long q4), .second, iv p5, iv 1, iv 1, iv 1, .val (.long (-9223372036854775808)), .second, .val (.long (-9223372036854775808)), .second, .val (.long 9223372036854775807), .second, .val (.long (q4 &&& (9223372036854775807 : Int64))), .second, rv b349, .unset] [])
        refine own_st (fun t k => XS.iload X371.here hx rfl (hb hby at_128) rfl k) ?_
        show own_E p e below _ T371 (mkF m 130 #[.val (.long q1), .second, .val (.long q2), .second, .val (.long q3), .second, .val (.long q4), .second, iv p5, iv 1, iv 1, iv 1, .val (.long (-9223372036854775808)), .second, .val (.long (-9223372036854775808)), .second, .val (.long 9223372036854775807), .second, .val (.long (q4 &&& (9223372036854775807 : Int64))), .second, rv b349, .unset] [.int 1])
        refine own_st (fun t k => XS.ifNo X371.here hx rfl (hb hby at_130) rfl (by decide) k) ?_
        show own_E p e below _ T371 (mkF m 133 #[.val (.long q1), .second, .val (.long q2), .second, .val (.long q3), .second, .val (.long q4), .second, iv p5, iv 1, iv 1, iv 1, .val (.long (-9223372036854775808)), .second, .val (.long (-9223372036854775808)), .second, .val (.long 9223372036854775807), .second, .val (.long (q4 &&& (9223372036854775807 : Int64))), .second, rv b349, .unset] [])
        refine own_st (fun t k => XS.iconst X371.here hx rfl (hb hby at_133) k) ?_
        show own_E p e below _ T371 (mkF m 134 #[.val (.long q1), .second, .val (.long q2), .second, .val (.long q3), .second, .val (.long q4), .second, iv p5, iv 1, iv 1, iv 1, .val (.long (-9223372036854775808)), .second, .val (.long (-9223372036854775808)), .second, .val (.long 9223372036854775807), .second, .val (.long (q4 &&& (9223372036854775807 : Int64))), .second, rv b349, .unset] [.int 1])
        refine own_st (fun t k => XS.goto X371.here hx rfl (pc0 := 134) (pc' := 138) rfl (hb hby at_134) (by decide) (by decide) k) ?_
        show own_E p e below _ T371 (mkF m 138 #[.val (.long q1), .second, .val (.long q2), .second, .val (.long q3), .second, .val (.long q4), .second, iv p5, iv 1, iv 1, iv 1, .val (.long (-9223372036854775808)), .second, .val (.long (-9223372036854775808)), .second, .val (.long 9223372036854775807), .second, .val (.long (q4 &&& (9223372036854775807 : Int64))), .second, rv b349, .unset] [.int 1])
        refine own_st (fun t k => XS.istore X371.here hx rfl (hb hby at_138) rfl (l' := #[.val (.long q1), .second, .val (.long q2), .second, .val (.long q3), .second, .val (.long q4), .second, iv p5, iv 1, iv 1, iv 1, .val (.long (-9223372036854775808)), .second, .val (.long (-9223372036854775808)), .second, .val (.long 9223372036854775807), .second, .val (.long (q4 &&& (9223372036854775807 : Int64))), .second, rv b349, iv 1]) rfl k) ?_
        show own_E p e below _ T371 (mkF m 140 #[.val (.long q1), .second, .val (.long q2), .second, .val (.long q3), .second, .val (.long q4), .second, iv p5, iv 1, iv 1, iv 1, .val (.long (-9223372036854775808)), .second, .val (.long (-9223372036854775808)), .second, .val (.long 9223372036854775807), .second, .val (.long (q4 &&& (9223372036854775807 : Int64))), .second, rv b349, iv 1] [])
        refine own_st (fun t k => XS.aload X371.here hx rfl (hb hby at_140) rfl rfl k) ?_
        show own_E p e below _ T371 (mkF m 142 #[.val (.long q1), .second, .val (.long q2), .second, .val (.long q3), .second, .val (.long q4), .second, iv p5, iv 1, iv 1, iv 1, .val (.long (-9223372036854775808)), .second, .val (.long (-9223372036854775808)), .second, .val (.long 9223372036854775807), .second, .val (.long (q4 &&& (9223372036854775807 : Int64))), .second, rv b349, iv 1] [.ref b349])
        obtain ⟨cq373, kq373, q373a, q373b, q373c⟩ := isOf hZ e371 P371_0
        obtain ⟨_, _, ⟨T373, L373, k373, n373⟩, -, X373, ⟨Lc373, hQ373, l373, y373, z373⟩, st373⟩ := X371.virtualBack hx (y := own_y2) (z := own_y2) hown (mvT hZ (own_w hw 25 rfl)) (mvT hZ (own_w hw 26 rfl)) (notFace_of_selects (args := #[]) (mvT hZ (own_w hw 28 rfl))) (mvT hZ (own_w hw 28 rfl)) (mvT hZ (own_w hw 27 rfl)) (by decide) (backOf (W := 0) (own_every l Z a0 hw [] b349 (-9223372036854775808 : Int64) (-9223372036854775808 : Int64) (9223372036854775807 : Int64) T371.heap n0 Z372 P371_1 P371_2 P371_3) hZ (own_w hw 29 rfl) (own_w hw 5 rfl) (by decide) (by decide)) q373a q373c (g := (mkF m 142 #[.val (.long q1), .second, .val (.long q2), .second, .val (.long q3), .second, .val (.long q4), .second, iv p5, iv 1, iv 1, iv 1, .val (.long (-9223372036854775808)), .second, .val (.long (-9223372036854775808)), .second, .val (.long 9223372036854775807), .second, .val (.long (q4 &&& (9223372036854775807 : Int64))), .second, rv b349, iv 1] [.ref b349])) rfl (by rw [hml]; rfl) (Steps.refl _) (argsL := []) (rest := []) (lenOf own_pd_1 rfl) rfl (by show 2 * 0 + _ ≤ _; exact Nat.le_of_eq rfl) (hb hby at_142) (fun _ _ => ⟨rfl, e371, (by decide : 1 + 0 ≤ _), (by decide : 4 + 0 ≤ _)⟩)
        dsimp only [Pt.U, Pt.locs, Pt.cells, Pt.slots] at X373 l373 y373 z373 st373 hQ373
        subst l373 y373 z373
        obtain ⟨hR373, e373, rfl⟩ := hQ373
        have N373 := Fr.app N371 (Fr.nil n0)
        rcases hR373 with ⟨rfl, ha373_0, ha373_1, ha373_2⟩ | ⟨rfl, ha373_0, ha373_1, ha373_2⟩ | ⟨rfl, ha373_0, ha373_1⟩ | ⟨rfl, ha373_0⟩
        · refine own_tr st373 ?_
          show own_E p e below _ T373 (mkF m 145 #[.val (.long q1), .second, .val (.long q2), .second, .val (.long q3), .second, .val (.long q4), .second, iv p5, iv 1, iv 1, iv 1, .val (.long (-9223372036854775808)), .second, .val (.long (-9223372036854775808)), .second, .val (.long 9223372036854775807), .second, .val (.long (q4 &&& (9223372036854775807 : Int64))), .second, rv b349, iv 1] [.int 1])
          refine own_st (fun t k => XS.iload X373.here hx rfl (hb hby at_145) rfl k) ?_
          show own_E p e below _ T373 (mkF m 147 #[.val (.long q1), .second, .val (.long q2), .second, .val (.long q3), .second, .val (.long q4), .second, iv p5, iv 1, iv 1, iv 1, .val (.long (-9223372036854775808)), .second, .val (.long (-9223372036854775808)), .second, .val (.long 9223372036854775807), .second, .val (.long (q4 &&& (9223372036854775807 : Int64))), .second, rv b349, iv 1] [.int 1, .int 1])
          refine own_st (fun t k => XS.icmpNo X373.here hx rfl (hb hby at_147) rfl (by decide) k) ?_
          show own_E p e below _ T373 (mkF m 150 #[.val (.long q1), .second, .val (.long q2), .second, .val (.long q3), .second, .val (.long q4), .second, iv p5, iv 1, iv 1, iv 1, .val (.long (-9223372036854775808)), .second, .val (.long (-9223372036854775808)), .second, .val (.long 9223372036854775807), .second, .val (.long (q4 &&& (9223372036854775807 : Int64))), .second, rv b349, iv 1] [])
          refine own_st (fun t k => XS.iconst X373.here hx rfl (hb hby at_150) k) ?_
          show own_E p e below _ T373 (mkF m 151 #[.val (.long q1), .second, .val (.long q2), .second, .val (.long q3), .second, .val (.long q4), .second, iv p5, iv 1, iv 1, iv 1, .val (.long (-9223372036854775808)), .second, .val (.long (-9223372036854775808)), .second, .val (.long 9223372036854775807), .second, .val (.long (q4 &&& (9223372036854775807 : Int64))), .second, rv b349, iv 1] [.int 1])
          refine own_st (fun t k => XS.goto X373.here hx rfl (pc0 := 151) (pc' := 155) rfl (hb hby at_151) (by decide) (by decide) k) ?_
          show own_E p e below _ T373 (mkF m 155 #[.val (.long q1), .second, .val (.long q2), .second, .val (.long q3), .second, .val (.long q4), .second, iv p5, iv 1, iv 1, iv 1, .val (.long (-9223372036854775808)), .second, .val (.long (-9223372036854775808)), .second, .val (.long 9223372036854775807), .second, .val (.long (q4 &&& (9223372036854775807 : Int64))), .second, rv b349, iv 1] [.int 1])
          refine own_retS X373 hx Bd.notSynchronized Bd.returns rfl (by decide) (hb hby at_155) (by decide) (by decide) ?_
          exact ⟨rfl, N373⟩
        · exact absurd ha373_2 (by decide)
        · exact absurd ha373_1 (by decide)
        · exact absurd ha373_0 (by decide)
set_option maxRecDepth 65536 in
set_option maxHeartbeats 40000000 in
theorem comes_1 {Post : Tables → Env → Array Value → State → Outcome → State → Prop} (hpost : ∀ tb e args s v u, (limb_1_1.after args s (.returned v) u = true ∧ limb_1_2.after args s (.returned v) u = true ∧ True) → FrameEnd s (.returned v) u (Jvm.fieldLocs frame_1_writes args s ++ Jvm.arrayLocs frame_1_arrays args s ++ Jvm.staticLocs frame_1_statics s) 16 128 → Post tb e args s (.returned v) u) :
    ArmFor flags0 classFile x code maxLocals ret World_1 tables_1 room_1 Calls_1 rest_1 Pre_1 Post := by
  intro l hfl _ _ p e ha hc hk s m args below hf hA hF happ hP
  obtain ⟨hcalls, hrest, hpre⟩ := hP
  obtain ⟨-, -, -, hnamed, -, -, -, hat⟩ := (Spec.applies_iff hf).mp happ
  obtain ⟨hg, hn⟩ := and_e (Cond.before_iff.mp (show (Jvm.Cond.and given_1 narrow_1).before args s = true from hpre))
  obtain ⟨hg0, hg1⟩ := and_e hg
  obtain ⟨hv0, hg2⟩ := and_e hg1
  obtain ⟨hv1, hg3⟩ := and_e hg2
  obtain ⟨hv2, hg4⟩ := and_e hg3
  obtain ⟨hv3, hg5⟩ := and_e hg4
  have hv4 := hg5
  obtain ⟨w0, w1, w2, w3, w4, rfl⟩ : ∃ w0 w1 w2 w3 w4 : Value, args = #[w0, w1, w2, w3, w4] := by
    have hs : args.size = 5 := by simpa [Cond.value, given_1] using hg0
    obtain ⟨L⟩ := args
    match L, hs with
    | [w0, w1, w2, w3, w4], _ => exact ⟨w0, w1, w2, w3, w4, rfl⟩
  have hw := fun d (hd : d ∈ tables_1) => atoms_spec (ws := Jvm.Cond.code x code maxLocals ret :: tables_1) hat d (List.mem_cons_of_mem _ hd)
  have hfit : Fit s := fun {y c} hc i hi => by
    obtain ⟨ha, rfl⟩ := Array.getElem?_eq_some_iff.mp hc
    have q := List.all_eq_true.mp ((Array.all_eq_true_iff_forall_mem.mp hF) _ (Array.getElem_mem ha)) i (List.mem_range.mpr hi)
    simpa [Array.getElem?_eq_getElem hi] using q
  obtain ⟨i0, ev0⟩ := isL_v hv0
  obtain rfl : w0 = (.long i0) := Option.some.inj ev0
  obtain ⟨i1, ev1⟩ := isL_v hv1
  obtain rfl : w1 = (.long i1) := Option.some.inj ev1
  obtain ⟨i2, ev2⟩ := isL_v hv2
  obtain rfl : w2 = (.long i2) := Option.some.inj ev2
  obtain ⟨i3, ev3⟩ := isL_v hv3
  obtain rfl : w3 = (.long i3) := Option.some.inj ev3
  obtain ⟨i4, ev4⟩ := is_v hv4
  obtain rfl : w4 = (.int i4) := Option.some.inj ev4
  obtain ⟨n, o, h1, h2, h3, _, L, rfl, ⟨rfl, N⟩, hq⟩ := own_law l s _ hw tables_1 i0 i1 i2 i3 i4 s.heap s.heap.size (Nat.le_refl _)  p e ha hc hk s m _ below hf ((Spec.applies_iff_loose hf).mp happ).1 ⟨rfl, State.Warmed39.refl s, rfl⟩ trivial
  refine ⟨n, _, h1, h2, h3, hpost _ _ _ _ _ _ ⟨Cond.after_iff.mpr rfl, Cond.after_iff.mpr (eq_i res_at (Term.int_eval (1)) rfl), trivial⟩ ⟨hq.1, hq.2.1, (hq.2.2.sift fun y hy => Or.inr (N y hy)).mono (by decide) (by decide)⟩⟩
theorem main_1_1 : Claimed_1_1 := comes_1 fun _ _ _ _ _ _ h hF => ⟨h.1, hF⟩
theorem main_1_2 : Claimed_1_2 := comes_1 fun _ _ _ _ _ _ h hF => ⟨h.2.1, hF⟩
end Jvm.Pilot.@@N@@
namespace Jvm.Pilot.@@N@@
open Jvm Jvm.ClassFile Sem Op Lib Jvm.Free Jvm.Stand Jvm.Pilot.@@N@@.Jvm.D
/-! MADE BY PROGRAM (witnessworld.py) out of the Statement's table words and the real class files: 10 classes; the members and pool entries that the words name. The judged class is class 1, her method 1. -/
namespace start1
open Jvm.ClassFile
def u (s : String) : CpInfo := .utf8 (stringToUtf16 s)
/-- a pool by its gaps: so many unusable entries, then the entry; so many at the end -/
def gap : Nat → List CpInfo → List CpInfo
  | 0, r => r
  | n + 1, r => .unusable :: gap n r
def poolList (es : List (Nat × CpInfo)) (last : Nat) : List CpInfo := es.foldr (fun e r => gap e.1 (e.2 :: r)) (gap last [])
def pool (es : List (Nat × CpInfo)) (last : Nat) : Array CpInfo := ⟨poolList es last⟩
def fileOf (pool : Array CpInfo) (this : Nat) (attrs : Array Attribute := #[]) (ms : Array MethodInfo := #[]) (fl : Nat := 33) (sup : Nat := 0) (ifs : Array Nat := #[]) (fds : Array FieldInfo := #[]) : ClassFile where
  minorVersion := 0
  majorVersion := 65
  constantPool := pool
  accessFlags := fl
  thisClass := this
  superClass := sup
  interfaces := ifs
  fields := fds
  methods := ms
  attributes := attrs
def plain (name : String) (sup : Option ClassId) : Class where
  name := name
  kind := .ordinary
  loader := none
  accessFlags := 33
  super := sup
  interfaces := #[]
  cf := none
  fields := #[]
  methods := #[]
  instanceTypes := #[]
  staticTypes := #[]
  resolved := #[]
  callSites := []
  init := .initialized
  statics := none
  mirror := none

def pool0 : Array CpInfo := pool [(5, u "<init>"), (0, u "()V"), (1, .class_ 10), (1, u "java/lang/Object")] 113

def k0c0 : Code := { maxStack := 0, maxLocals := 1, code := object_method_1_code, exceptionTable := #[], attributes := #[] }
def k0m0 : Method := { name := "<init>", desc := "()V", sig := { parameters := [], returnType := none }, accessFlags := 1, code := some k0c0 }
/-- java/lang/Object -/
def k0 : Class := { plain "java/lang/Object" none with
  accessFlags := 33
  interfaces := #[]
  cf := some (fileOf pool0 8 #[] #[{ accessFlags := 1, nameIndex := 5, descriptorIndex := 6, attributes := #[] }] 33 0 #[] #[])
  fields := #[]
  methods := #[k0m0]
  instanceTypes := #[]
  staticTypes := #[]
  resolved := Array.replicate 124 none
  statics := none }

def pool1 : Array CpInfo := pool [(2, .class_ 4), (1, u "java/lang/Object"), (0, u "<init>"), (0, u "()V"), (2, .long 9223372036854775808), (1, .long 9223372036854775807), (1, .long 18446744073709551614), (3, .class_ 18), (0, u "com/example/brazier/brazier/store/HistoryBound"), (0, .methodref 17 20), (0, .nameAndType 5 21), (0, u "(JJJJ)V"), (0, .methodref 17 23), (0, .nameAndType 24 25), (0, u "everyMoment"), (0, u "()Z"), (0, .class_ 27), (0, u "com/example/brazier/brazier/store/HistoryBoundEveryMomentPinLaw"), (2, u "law"), (0, u "(JJJJI)Z")] 3

def k1m0 : Method := { name := "<init>", desc := "()V", sig := { parameters := [], returnType := none }, accessFlags := 1, code := none }
def k1c1 : Code := { maxStack := 10, maxLocals := 22, code := code, exceptionTable := #[], attributes := #[] }
def k1m1 : Method := { name := "law", desc := "(JJJJI)Z", sig := { parameters := [.long, .long, .long, .long, .int], returnType := some .boolean }, accessFlags := 9, code := some k1c1 }
/-- com/example/brazier/brazier/store/HistoryBoundEveryMomentPinLaw -/
def k1 : Class := { plain "com/example/brazier/brazier/store/HistoryBoundEveryMomentPinLaw" (some 0) with
  accessFlags := 49
  interfaces := #[]
  cf := some (fileOf pool1 26 #[] #[{ accessFlags := 1, nameIndex := 5, descriptorIndex := 6, attributes := #[] }, { accessFlags := 9, nameIndex := 30, descriptorIndex := 31, attributes := #[] }] 49 2 #[] #[])
  fields := #[]
  methods := #[k1m0, k1m1]
  instanceTypes := #[]
  staticTypes := #[]
  resolved := Array.replicate 35 none
  statics := none }

def pool2 : Array CpInfo := pool [(1, .methodref 2 3), (0, .class_ 4), (0, .nameAndType 5 6), (0, u "java/lang/Object"), (0, u "<init>"), (0, u "()V"), (0, .class_ 8), (0, u "java/lang/Record")] 13

def k2c0 : Code := { maxStack := 1, maxLocals := 1, code := jdk_30_method_1_code, exceptionTable := #[], attributes := #[] }
def k2m0 : Method := { name := "<init>", desc := "()V", sig := { parameters := [], returnType := none }, accessFlags := 4, code := some k2c0 }
/-- java/lang/Record -/
def k2 : Class := { plain "java/lang/Record" (some 0) with
  accessFlags := 1057
  interfaces := #[]
  cf := some (fileOf pool2 7 #[] #[{ accessFlags := 4, nameIndex := 5, descriptorIndex := 6, attributes := #[] }] 1057 2 #[] #[])
  fields := #[]
  methods := #[k2m0]
  instanceTypes := #[]
  staticTypes := #[]
  resolved := Array.replicate 22 none
  statics := none }

def pool3 : Array CpInfo := pool [(3, .methodref 4 5), (0, .class_ 6), (0, .nameAndType 7 8), (0, u "java/lang/Record"), (0, u "<init>"), (0, u "()V"), (7, .fieldref 17 18), (0, .class_ 19), (0, .nameAndType 20 21), (0, u "com/example/brazier/brazier/store/HistoryBound"), (0, u "storedFrom"), (0, u "J"), (0, .fieldref 17 23), (0, .nameAndType 24 21), (0, u "currentFrom"), (0, .fieldref 17 26), (0, .nameAndType 27 21), (0, u "currentTo"), (0, .fieldref 17 29), (0, .nameAndType 30 21), (0, u "storedUpTo"), (0, .long 9223372036854775807), (3, u "(JJJJ)V"), (2, .long 9223372036854775808), (15, u "EVERY_VERSION"), (0, u "Lcom/example/brazier/brazier/store/HistoryBound;"), (0, u "NOW"), (6, u "everyMoment"), (0, u "()Z")] 28

def k3c0 : Code := { maxStack := 4, maxLocals := 9, code := prog_68_method_1_code, exceptionTable := #[], attributes := #[] }
def k3m0 : Method := { name := "<init>", desc := "(JJJJ)V", sig := { parameters := [.long, .long, .long, .long], returnType := none }, accessFlags := 1, code := some k3c0 }
def k3c1 : Code := { maxStack := 4, maxLocals := 1, code := prog_68_method_3_code, exceptionTable := #[], attributes := #[] }
def k3m1 : Method := { name := "everyMoment", desc := "()Z", sig := { parameters := [], returnType := some .boolean }, accessFlags := 0, code := some k3c1 }
/-- com/example/brazier/brazier/store/HistoryBound -/
def k3 : Class := { plain "com/example/brazier/brazier/store/HistoryBound" (some 2) with
  accessFlags := 49
  interfaces := #[]
  cf := some (fileOf pool3 17 #[] #[{ accessFlags := 1, nameIndex := 7, descriptorIndex := 35, attributes := #[] }, { accessFlags := 0, nameIndex := 63, descriptorIndex := 64, attributes := #[] }] 49 4 #[] #[{ accessFlags := 18, nameIndex := 20, descriptorIndex := 21, attributes := #[] }, { accessFlags := 18, nameIndex := 24, descriptorIndex := 21, attributes := #[] }, { accessFlags := 18, nameIndex := 27, descriptorIndex := 21, attributes := #[] }, { accessFlags := 18, nameIndex := 30, descriptorIndex := 21, attributes := #[] }, { accessFlags := 25, nameIndex := 56, descriptorIndex := 21, attributes := #[] }, { accessFlags := 25, nameIndex := 54, descriptorIndex := 55, attributes := #[] }])
  fields := #[{ name := "storedFrom", type := .long, accessFlags := 18, slot := 0, constantValue := 0 }, { name := "currentFrom", type := .long, accessFlags := 18, slot := 1, constantValue := 0 }, { name := "currentTo", type := .long, accessFlags := 18, slot := 2, constantValue := 0 }, { name := "storedUpTo", type := .long, accessFlags := 18, slot := 3, constantValue := 0 }, { name := "NOW", type := .long, accessFlags := 25, slot := 0, constantValue := 0 }, { name := "EVERY_VERSION", type := (.object "com/example/brazier/brazier/store/HistoryBound"), accessFlags := 25, slot := 1, constantValue := 0 }]
  methods := #[k3m0, k3m1]
  instanceTypes := #[.long, .long, .long, .long]
  staticTypes := #[.long, (.object "com/example/brazier/brazier/store/HistoryBound")]
  resolved := Array.replicate 93 none
  statics := none }

def pool4 : Array CpInfo := pool [(1, u "java/lang/Cloneable"), (0, .class_ 1), (0, u "java/lang/Object"), (0, .class_ 3)] 3

/-- java/lang/Cloneable -/
def k4 : Class := { plain "java/lang/Cloneable" (some 0) with
  accessFlags := 1537
  interfaces := #[]
  cf := some (fileOf pool4 2 #[] #[] 1537 4 #[] #[])
  fields := #[]
  methods := #[]
  instanceTypes := #[]
  staticTypes := #[]
  resolved := Array.replicate 8 none
  statics := none }

def pool5 : Array CpInfo := pool [(1, u "java/io/Serializable"), (0, .class_ 1), (0, u "java/lang/Object"), (0, .class_ 3)] 3

/-- java/io/Serializable -/
def k5 : Class := { plain "java/io/Serializable" (some 0) with
  accessFlags := 1537
  interfaces := #[]
  cf := some (fileOf pool5 2 #[] #[] 1537 4 #[] #[])
  fields := #[]
  methods := #[]
  instanceTypes := #[]
  staticTypes := #[]
  resolved := Array.replicate 8 none
  statics := none }

/-- the primitive byte -/
def k6 : Class := { plain "byte" none with kind := .primitive 'B', accessFlags := 0x411 }
/-- [B -/
def k7 : Class := { plain "[B" (some 0) with kind := .array 6 .byte, interfaces := #[4, 5], accessFlags := 1041 }

/-- the primitive int -/
def k8 : Class := { plain "int" none with kind := .primitive 'I', accessFlags := 0x411 }
/-- [I -/
def k9 : Class := { plain "[I" (some 0) with kind := .array 8 .int, interfaces := #[4, 5], accessFlags := 1041 }

def heap : Heap := #[]
def classes : Array Class := #[k0, k1, k2, k3, k4, k5, k6, k7, k8, k9]
def interned : List (Array UInt16 × Addr) := []
def slotsUsed : Nat := 0
def theMethod : MethodId := ⟨1, 1⟩
def args0 : Array Value := #[.long 1, .long 2, .long 3, .long 4, .int 5]
def aboutOver (below : List Frame) : State where
  vm := { classes := classes, interned := interned.toArray }
  heap := heap
  slotsUsed := slotsUsed
  threads := #[{ frames := .invoking theMethod args0 :: below }]
def below0 : List Frame := [.native { method := ⟨0, 0⟩, args := #[] }]
def about1 : State := aboutOver below0
def p0 : Program := .bare "" "" ""
def e0 : Env := launch0.env 0 0 0
theorem w_frames : about1.frames = Frame.invoking theMethod args0 :: below0 := rfl
set_option maxRecDepth 65536 in
theorem w_args : argsFit about1.vm theMethod args0 = true := by decide +kernel
set_option maxRecDepth 65536 in
theorem w_heap : heapFits about1 = true := by decide +kernel
set_option maxRecDepth 65536 in
theorem w_runnable : about1.curStatus? = some .runnable := by decide +kernel
set_option maxRecDepth 65536 in
theorem w_alone : about1.alone = true := by decide +kernel
set_option maxRecDepth 65536 in
theorem w_named : about1.methodNamed? x = some theMethod := by decide +kernel
set_option maxRecDepth 65536 in
theorem w_hears : about1.hears theMethod below0 = true := by decide +kernel
set_option maxRecDepth 65536 in
theorem w_ripe : about1.ripe theMethod args0 below0 = true := by decide +kernel
theorem w_running : about1.status = .running := rfl
set_option maxRecDepth 65536 in
theorem w_room : about1.hasRoom e0.platform room_1 = true :=
  launch0.hasRoom_least _ room_1 (by decide +kernel) (by decide +kernel) (by decide +kernel) (by decide +kernel) (by decide +kernel) (by decide +kernel)
theorem allAtoms_all (ts : List Jvm.Cond) (a : Array Jvm.Value) (st : Jvm.State) : (allAtoms ts).before a st = ts.all (fun c => c.before a st) := by
  induction ts with
  | nil => rfl
  | cons c t ih =>
    show (Jvm.Cond.and c (allAtoms t)).before a st = _
    rw [Jvm.Cond.before_and, ih, List.all_cons]
def words1 : List Jvm.Cond := Jvm.Cond.code x code maxLocals ret :: tables_1
/-- a 'code' word, met by the world's own term for the bytes: nothing is compared byte by byte -/
theorem code_word {y : MethodName} {bytes : ByteArray} {mx : Nat} {rt : Option FieldType} {a : Array Value} {s : State} {m : MethodId} {meth : Method} {c : Code} (h1 : s.methodNamed? y = some m) (h2 : s.vm.method? m = some meth) (h3 : meth.code = some c) (h4 : c.code = bytes)
    (h5 : (c.maxLocals == mx && c.exceptionTable.isEmpty && decide (c.maxStack ≤ mostOperands) && decide (meth.sig.returnType = rt) && !meth.locks && decide (parseMethodDescriptor y.desc = some meth.sig)) = true) : (Jvm.Cond.code y bytes mx rt).before a s = true := by
  simp only [Bool.and_eq_true, beq_iff_eq, Bool.not_eq_true', decide_eq_true_eq] at h5
  obtain ⟨⟨⟨⟨⟨g1, g2⟩, g3⟩, g4⟩, g5⟩, g6⟩ := h5
  simp [Cond.before, Cond.holds, Cond.value, h1, h2, h3, h4, g1, g2, g3, g4, g5, g6]
def isCode : Jvm.Cond → Bool
  | .code _ _ _ _ => true
  | _ => false
theorem all_split {L : List Jvm.Cond} {P : Jvm.Cond → Bool} (h1 : L.all (fun c => isCode c || P c) = true) (h2 : ∀ c ∈ L.filter isCode, P c = true) : L.all P = true := by
  refine List.all_eq_true.mpr fun c hc => ?_
  have h := List.all_eq_true.mp h1 c hc
  rcases Bool.eq_false_or_eq_true (isCode c) with hi | hi
  · exact h2 c (List.mem_filter.mpr ⟨hc, hi⟩)
  · simpa [hi] using h
set_option maxRecDepth 65536 in
theorem w_c0 : (Jvm.Cond.code x code maxLocals ret).before args0 about1 = true := code_word (m := ⟨1, 1⟩) (meth := k1m1) (c := k1c1) (by decide +kernel) rfl rfl rfl (by decide +kernel)
set_option maxRecDepth 65536 in
theorem w_c1 : (Jvm.Cond.code ({ cls := "com/example/brazier/brazier/store/HistoryBound", name := "<init>", desc := "(JJJJ)V" } : Jvm.MethodName) prog_68_method_1_code (9 : Nat) (Option.none : Option Jvm.ClassFile.FieldType)).before args0 about1 = true := code_word (m := ⟨3, 0⟩) (meth := k3m0) (c := k3c0) (by decide +kernel) rfl rfl rfl (by decide +kernel)
set_option maxRecDepth 65536 in
theorem w_c2 : (Jvm.Cond.code ({ cls := "java/lang/Record", name := "<init>", desc := "()V" } : Jvm.MethodName) jdk_30_method_1_code (1 : Nat) (Option.none : Option Jvm.ClassFile.FieldType)).before args0 about1 = true := code_word (m := ⟨2, 0⟩) (meth := k2m0) (c := k2c0) (by decide +kernel) rfl rfl rfl (by decide +kernel)
set_option maxRecDepth 65536 in
theorem w_c3 : (Jvm.Cond.code ({ cls := "java/lang/Object", name := "<init>", desc := "()V" } : Jvm.MethodName) object_method_1_code (1 : Nat) (Option.none : Option Jvm.ClassFile.FieldType)).before args0 about1 = true := code_word (m := ⟨0, 0⟩) (meth := k0m0) (c := k0c0) (by decide +kernel) rfl rfl rfl (by decide +kernel)
set_option maxRecDepth 65536 in
theorem w_c4 : (Jvm.Cond.code ({ cls := "com/example/brazier/brazier/store/HistoryBound", name := "everyMoment", desc := "()Z" } : Jvm.MethodName) prog_68_method_3_code (1 : Nat) (Option.some Jvm.ClassFile.FieldType.boolean)).before args0 about1 = true := code_word (m := ⟨3, 1⟩) (meth := k3m1) (c := k3c1) (by decide +kernel) rfl rfl rfl (by decide +kernel)
def codes1 : List Jvm.Cond := [Jvm.Cond.code x code maxLocals ret, Jvm.Cond.code ({ cls := "com/example/brazier/brazier/store/HistoryBound", name := "<init>", desc := "(JJJJ)V" } : Jvm.MethodName) prog_68_method_1_code (9 : Nat) (Option.none : Option Jvm.ClassFile.FieldType), Jvm.Cond.code ({ cls := "java/lang/Record", name := "<init>", desc := "()V" } : Jvm.MethodName) jdk_30_method_1_code (1 : Nat) (Option.none : Option Jvm.ClassFile.FieldType), Jvm.Cond.code ({ cls := "java/lang/Object", name := "<init>", desc := "()V" } : Jvm.MethodName) object_method_1_code (1 : Nat) (Option.none : Option Jvm.ClassFile.FieldType), Jvm.Cond.code ({ cls := "com/example/brazier/brazier/store/HistoryBound", name := "everyMoment", desc := "()Z" } : Jvm.MethodName) prog_68_method_3_code (1 : Nat) (Option.some Jvm.ClassFile.FieldType.boolean)]
set_option maxRecDepth 65536 in
theorem codes_eq : words1.filter isCode = codes1 := rfl
theorem w_codes : ∀ c ∈ words1.filter isCode, c.before args0 about1 = true := by
  rw [codes_eq]
  intro c hc
  simp only [codes1, List.mem_cons, List.not_mem_nil, or_false] at hc
  rcases hc with rfl | rfl | rfl | rfl | rfl
  · exact w_c0
  · exact w_c1
  · exact w_c2
  · exact w_c3
  · exact w_c4
set_option maxRecDepth 65536 in
theorem w_t1 : (words1.take 24).all (fun c => isCode c || c.before args0 about1) = true := by decide +kernel
set_option maxRecDepth 65536 in
theorem w_t2 : (words1.drop 24).all (fun c => isCode c || c.before args0 about1) = true := by decide +kernel
theorem w_tables : (allAtoms (Jvm.Cond.code x code maxLocals ret :: tables_1)).before args0 about1 = true := by
  rw [allAtoms_all]
  show words1.all (fun c => c.before args0 about1) = true
  refine all_split ?_ w_codes
  rw [← List.take_append_drop 24 words1, List.all_append, w_t1, w_t2]
  rfl
set_option maxRecDepth 65536 in
theorem w_case : (Jvm.Cond.and given_1 narrow_1).before args0 about1 = true := by decide +kernel
theorem w_applies : (headSpec (Jvm.Cond.code x code maxLocals ret :: tables_1) room_1).applies x e0.platform about1 = true :=
  (Spec.applies_iff w_frames).mpr ⟨w_running, w_runnable, w_alone, w_named, w_hears, w_ripe, w_room, w_tables⟩
theorem atStart : AtStart classFile x code maxLocals ret World_1 tables_1 room_1 Calls_1 rest_1 Pre_1 launch0 p0 e0 about1 theMethod args0 below0 :=
  ⟨lists_1, trivial, launch0.admits_env _ _ _, launch0.least_env, fairChoices_fair.cas, fairChoices_fair.clock, w_frames, w_args, w_heap, w_applies, trivial, trivial, w_case⟩
end start1
theorem witness_1 : WitnessClaimed_1 := ⟨start1.p0, start1.e0, start1.about1, start1.theMethod, start1.args0, start1.below0, start1.atStart⟩
end Jvm.Pilot.@@N@@
