import JvmDerived
import JvmDerived.Pilot.@@N@@Statement
import JvmDerived.Pilot.@@N@@Code
set_option linter.unusedVariables false
set_option linter.unusedSimpArgs false
namespace Jvm.Pilot.@@N@@
open Jvm Jvm.ClassFile Sem Op Lib Jvm.Free Jvm.Stand Jvm.LawKit Jvm.RoadKit Bundle Jvm.Pilot.@@N@@.Jvm.D
theorem own_w {a0 : Array Value} {Z : State} (hw : ∀ d ∈ tables_1, d.before a0 Z = true) (i : Nat) {d : Jvm.Cond} (h : tables_1[i]? = some d) : d.before a0 Z = true := hw d (List.mem_of_getElem? h)
section Own
variable {p : Program} {l : Launch} {e : Env} {R : Room} {s : State} {m : MethodId} {args : Array Value} {below : List Frame} {meth : Method} {c : Code} {T T' : State} {locs : List Loc} {cells slots : Nat} {g g' : JFrame} {K : Outcome → State → Prop} {Q : Option Value → Heap → List Loc → Prop} {kc ks : Nat}
/-- from this state, with this frame on top, the run comes to an end at which K holds -/
def own_E (p : Program) (e : Env) (below : List Frame) (K : Outcome → State → Prop) (T : State) (g : JFrame) : Prop :=
  ∃ s₂ o, Steps p.tables e below (T.setTop g) s₂ ∧ s₂.status = .running ∧ Ended s₂ below o ∧ K o s₂
def own_K (Q : Option Value → Heap → List Loc → Prop) (s : State) (kc ks : Nat) : Outcome → State → Prop :=
  fun o U' => ∃ v L, o = .returned v ∧ Q v U'.heap L ∧ FrameEnd s o U' L kc ks
theorem own_st (st : ∀ t, Steps p.tables e below (T'.setTop g') t → Steps p.tables e below (T.setTop g) t) (k : own_E p e below K T' g') : own_E p e below K T g := by
  obtain ⟨s2, o, h1, h2⟩ := k
  exact ⟨s2, o, st _ h1, h2⟩
theorem own_tr (st : Steps p.tables e below (T.setTop g) (T'.setTop g')) (k : own_E p e below K T' g') : own_E p e below K T g :=
  own_st (fun _ h => st.trans h) k
theorem own_pre (q : g = g') (k : own_E p e below K T g') : own_E p e below K T g := q ▸ k
theorem own_end (X : Stand p l e R s m args below meth c T locs cells slots) (hlk : meth.locks = false) {v : Option Value} (hv : meth.sig.returnType = none → v = none)
    (hr : ∀ fs : List Frame, (∀ (f : JFrame) (acts : List Action), f.method = m → f.locked = none → f.entered = [] → (doReturn e (T.setTop f) acts v).1 = T.setFrames fs) → Steps p.tables e below (T.setTop g) (T.setFrames fs))
    (hc : cells ≤ kc) (hs : slots ≤ ks) (hQ : Q v T.heap locs) : own_E p e below (own_K Q s kc ks) T g := by
  obtain ⟨fs, h1, hrun, hended, hW, hsame⟩ := X.leave (v := v) hv hlk
  exact ⟨_, _, hr fs h1, hrun, hended, _, _, rfl, hQ, ⟨_, rfl⟩, hW, hsame.mono hc hs⟩
theorem own_retV (X : Stand p l e R s m args below meth c T locs cells slots) (hx : p.tables.exec = Jvm.exec) (hlk : meth.locks = false) {pc : Nat} {Ls : Array Slot} (hret : meth.sig.returnType = none)
    (hd : decode c.code pc = .ok (.return_, 1)) (hc : cells ≤ kc) (hs : slots ≤ ks) (hQ : Q none T.heap locs) : own_E p e below (own_K Q s kc ks) T (mkF m pc Ls []) :=
  own_end X hlk (fun _ => rfl) (fun fs h => X.returnOut hx hret hd h) hc hs hQ
theorem own_retG (X : Stand p l e R s m args below meth c T locs cells slots) (hx : p.tables.exec = Jvm.exec) (hlk : meth.locks = false) {pc : Nat} {Ls : Array Slot} {w : Value} {t : FieldType} {i : Instr} {rest : List Value} (hret : meth.sig.returnType = some t) (hn : narrow t w = w)
    (hi : (i = .ireturn ∧ (t = .int ∨ t = .boolean ∨ t = .byte ∨ t = .char ∨ t = .short) ∧ ∃ z, w = .int z) ∨ (i = .lreturn ∧ t = .long ∧ ∃ z, w = .long z) ∨ (i = .dreturn ∧ t = .double ∧ ∃ z, w = .double z) ∨ (i = .freturn ∧ t = .float ∧ ∃ z, w = .float z) ∨ (i = .areturn ∧ t.isReference = true ∧ w.isRef = true))
    (hd : decode c.code pc = .ok (i, 1)) (hc : cells ≤ kc) (hs : slots ≤ ks) (hQ : Q (some w) T.heap locs) : own_E p e below (own_K Q s kc ks) T (mkF m pc Ls (w :: rest)) :=
  own_end X hlk (fun h => by rw [hret] at h; cases h) (fun fs h => retOut X hx hret hn hi hd h) hc hs hQ
theorem own_retI (X : Stand p l e R s m args below meth c T locs cells slots) (hx : p.tables.exec = Jvm.exec) (hlk : meth.locks = false) {pc : Nat} {Ls : Array Slot} {z : Int32} {rest : List Value} (hret : meth.sig.returnType = some .int)
    (hd : decode c.code pc = .ok (.ireturn, 1)) (hc : cells ≤ kc) (hs : slots ≤ ks) (hQ : Q (some (.int z)) T.heap locs) : own_E p e below (own_K Q s kc ks) T (mkF m pc Ls (.int z :: rest)) :=
  own_retG X hx hlk hret rfl (Or.inl ⟨rfl, Or.inl rfl, z, rfl⟩) hd hc hs hQ
theorem own_retS (X : Stand p l e R s m args below meth c T locs cells slots) (hx : p.tables.exec = Jvm.exec) (hlk : meth.locks = false) {pc : Nat} {Ls : Array Slot} {z : Int32} {t : FieldType} {rest : List Value} (hret : meth.sig.returnType = some t) (hn : narrow t (.int z) = .int z)
    (ht : t = .int ∨ t = .boolean ∨ t = .byte ∨ t = .char ∨ t = .short) (hd : decode c.code pc = .ok (.ireturn, 1)) (hc : cells ≤ kc) (hs : slots ≤ ks) (hQ : Q (some (.int z)) T.heap locs) : own_E p e below (own_K Q s kc ks) T (mkF m pc Ls (.int z :: rest)) :=
  own_retG X hx hlk hret hn (Or.inl ⟨rfl, ht, z, rfl⟩) hd hc hs hQ
theorem own_retN (X : Stand p l e R s m args below meth c T locs cells slots) (hx : p.tables.exec = Jvm.exec) (hlk : meth.locks = false) {pc : Nat} {Ls : Array Slot} {z : Int32} {t : FieldType} {rest : List Value} (hret : meth.sig.returnType = some t)
    (ht : t = .boolean ∨ t = .byte ∨ t = .char ∨ t = .short) (hd : decode c.code pc = .ok (.ireturn, 1)) (hc : cells ≤ kc) (hs : slots ≤ ks) (hQ : Q (some (.int (nar t z))) T.heap locs) : own_E p e below (own_K Q s kc ks) T (mkF m pc Ls (.int z :: rest)) :=
  own_end X hlk (fun h => by rw [hret] at h; cases h) (fun fs h => retN X hx hret ht hd h) hc hs hQ
theorem own_retJ (X : Stand p l e R s m args below meth c T locs cells slots) (hx : p.tables.exec = Jvm.exec) (hlk : meth.locks = false) {pc : Nat} {Ls : Array Slot} {z : Int64} {rest : List Value} (hret : meth.sig.returnType = some .long)
    (hd : decode c.code pc = .ok (.lreturn, 1)) (hc : cells ≤ kc) (hs : slots ≤ ks) (hQ : Q (some (.long z)) T.heap locs) : own_E p e below (own_K Q s kc ks) T (mkF m pc Ls (.long z :: rest)) :=
  own_retG X hx hlk hret rfl (Or.inr (Or.inl ⟨rfl, rfl, z, rfl⟩)) hd hc hs hQ
theorem own_retA (X : Stand p l e R s m args below meth c T locs cells slots) (hx : p.tables.exec = Jvm.exec) (hlk : meth.locks = false) {pc : Nat} {Ls : Array Slot} {w : Value} {t : FieldType} {rest : List Value} (hret : meth.sig.returnType = some t) (ht : t.isReference = true) (hw : w.isRef = true)
    (hd : decode c.code pc = .ok (.areturn, 1)) (hc : cells ≤ kc) (hs : slots ≤ ks) (hQ : Q (some w) T.heap locs) : own_E p e below (own_K Q s kc ks) T (mkF m pc Ls (w :: rest)) :=
  own_retG X hx hlk hret (by cases w <;> cases t <;> first | rfl | (simp [Value.isRef] at hw) | (simp [FieldType.isReference] at ht)) (Or.inr (Or.inr (Or.inr (Or.inr ⟨rfl, ht, hw⟩)))) hd hc hs hQ
end Own
theorem own_StaK {Z : State} {h h' : Heap} {C n d : String} {v : Value} (F : Sta Z h C n d v) (K : Keep h h' []) : Sta Z h' C n d v := Sta.ext ⟨K.1, fun a c q => K.2.1 a c q nin0⟩ F
section OwnArr
variable {p : Program} {l : Launch} {e : Env} {R : Room} {s : State} {m : MethodId} {args : Array Value} {below : List Frame} {meth : Method} {c : Code} {T : State} {locs : List Loc} {cells slots : Nat} {Z : State} {h : Heap} {a : Addr} {k : ClassId} {z : Int32} {vs : List Value} {dv : Value}
theorem own_alen (X : Stand p l e R s m args below meth c T locs cells slots) (hx : p.tables.exec = Jvm.exec) (hZ : Z.Warmed39 s.vm) (eT : T.heap = h) {ty : FieldType} (F : Arv Z h a k ty z vs dv) {g : JFrame} (hg : g.method = m) {rest : List Value} (hs : g.stack = .ref a :: rest) (hd : decode c.code g.pc = .ok (.arraylength, 1)) :
    ∀ target, Steps p.tables e below (T.setTop { g with pc := g.pc + 1, stack := .int z :: rest }) target → Steps p.tables e below (T.setTop g) target := by
  obtain ⟨cl, A, q, S, N, H, G⟩ := F
  intro target hr
  refine X.arraylength hx (by rw [eT]; exact A.1) (State.isArrayOf_alike hZ.alike A.2.1) hg hs hd _ ?_
  rw [len_of S N]; exact hr
theorem own_ald (X : Stand p l e R s m args below meth c T locs cells slots) (hx : p.tables.exec = Jvm.exec) (hZ : Z.Warmed39 s.vm) (eT : T.heap = h) (F : Arv Z h a k .int z vs dv) {j : Int32} (hj : ¬ j < 0 ∧ j < z) {v : Value} (hv : vs.getD j.toNatClampNeg dv = v) {g : JFrame} (hg : g.method = m) {rest : List Value} (hs : g.stack = .int j :: .ref a :: rest) (hd : decode c.code g.pc = .ok (.iaload, 1)) :
    ∀ target, Steps p.tables e below (T.setTop { g with pc := g.pc + 1, stack := v :: rest }) target → Steps p.tables e below (T.setTop g) target := by
  obtain ⟨cl, A, q, S, N, H, G⟩ := F
  have hin := inb_of S hj
  exact X.iaload hx (by rw [eT]; exact A.1) (State.isArrayOf_alike hZ.alike A.2.1) A.2.2 hin (H.at hin hv) hg hs hd
theorem own_ast (X : Stand p l e R s m args below meth c T locs cells slots) (hx : p.tables.exec = Jvm.exec) (hZ : Z.Warmed39 s.vm) (eT : T.heap = h) (F : Arv Z h a k .int z vs dv) {j : Int32} (hj : ¬ j < 0 ∧ j < z) {x : Int32} {i : Nat} (hi : j.toNatClampNeg = i) (hl : i < vs.length) {g : JFrame} (hg : g.method = m) {rest : List Value} (hs : g.stack = .int x :: .int j :: .ref a :: rest) (hd : decode c.code g.pc = .ok (.iastore, 1)) :
    ∃ T' h', Stand p l e R s m args below meth c T' (locs ++ [⟨a, j.toNatClampNeg⟩]) cells slots ∧ T'.heap = h' ∧ Wr h h' a j.toNatClampNeg (.int x) ∧ Arv Z h' a k .int z (vs.set i (.int x)) dv ∧ ∀ target, Steps p.tables e below (T'.setTop { g with pc := g.pc + 1, stack := rest }) target → Steps p.tables e below (T.setTop g) target := by
  obtain ⟨cl, A, q, S, N, H, G⟩ := F
  have hin := inb_of S hj
  obtain ⟨T', h', X', e', W, st⟩ := stI X hx hZ eT A hin hg hs hd
  exact ⟨T', h', X', e', W, Arv.set A q S N H G rfl W i hi hl, st⟩
theorem own_cst (X : Stand p l e R s m args below meth c T locs cells slots) (hx : p.tables.exec = Jvm.exec) (hZ : Z.Warmed39 s.vm) (eT : T.heap = h) (F : Arv Z h a k .char z vs dv) {j : Int32} (hj : ¬ j < 0 ∧ j < z) {x : Int32} {i : Nat} (hi : j.toNatClampNeg = i) (hl : i < vs.length) {g : JFrame} (hg : g.method = m) {rest : List Value} (hs : g.stack = .int x :: .int j :: .ref a :: rest) (hd : decode c.code g.pc = .ok (.castore, 1)) :
    ∃ T' h', Stand p l e R s m args below meth c T' (locs ++ [⟨a, j.toNatClampNeg⟩]) cells slots ∧ T'.heap = h' ∧ Wr h h' a j.toNatClampNeg (.int (nar .char x)) ∧ Arv Z h' a k .char z (vs.set i (.int (nar .char x))) dv ∧ ∀ target, Steps p.tables e below (T'.setTop { g with pc := g.pc + 1, stack := rest }) target → Steps p.tables e below (T.setTop g) target := by
  obtain ⟨cl, A, q, S, N, H, G⟩ := F
  have hin := inb_of S hj
  obtain ⟨T', h', X', e', W, st⟩ := stC X hx hZ eT A hin hg hs hd
  exact ⟨T', h', X', e', W, Arv.set A q S N H G (fits_nar_char _) W i hi hl, st⟩
end OwnArr
theorem own_eqi {args : Array Value} {s : State} {t : Term} {a : Addr} {C n d : String} {k : Int32} (ht : t.eval args s none [] s = some (.ref a)) (h : (Jvm.Cond.eq (.field t C n d) (.int k)).value args s none s [] = some true) : s.fieldOf? a C n d = some (.int k) := by
  simp only [Jvm.Cond.value, fld_at ht] at h
  generalize s.fieldOf? a C n d = o at h
  rcases o with _ | w
  · simp [Term.eval] at h
  · cases w <;> simp [Term.eval] at h
    rw [h]
section OwnWide
variable {p : Program} {l : Launch} {e : Env} {R : Room} {s : State} {vm₁ : Vm} {m : MethodId} {args : Array Value} {below : List Frame} {meth : Method} {c : Code} {T : State} {locs : List Loc} {cells slots : Nat} {g : JFrame} {Q : Option Value → Heap → List Loc → Prop} {kc ks n : Nat}
theorem own_Zw {Z : State} (hZ : Z.Warmed39 s.vm) (hS : s.Since vm₁ n) : Z.Warmed39 (s.setVm vm₁).vm := State.Warmed39.trans hZ hS.1
theorem own_ow {own : String} {k : ClassId} (ho : s.vm.findClass own = some k) (hS : s.Since vm₁ n) : (s.setVm vm₁).vm.findClass own = some k := by
  rw [show (s.setVm vm₁).vm = vm₁ from rfl, hS.1.alike.findClass]; exact ho
def own_KW (Q : Option Value → Heap → List Loc → Prop) (s : State) (kc ks : Nat) : Outcome → State → Prop :=
  fun o U' => ∃ v L, o = .returned v ∧ Q v U'.heap L ∧ ReturnedEndW s o U' L kc ks
theorem own_since (s : State) : s.Since s.vm 0 := (State.WarmedH.refl s).since 0
theorem own_wS {a0 : Array Value} {Z : State} (hw : ∀ d ∈ tables_1, d.before a0 Z = true) : ∀ a ∈ Bundle.stringAtoms, a.before a0 Z = true := by
  intro a ha
  simp only [Bundle.stringAtoms, List.mem_cons, List.not_mem_nil, or_false] at ha
  rcases ha with rfl | rfl | rfl | rfl | rfl | rfl | rfl
  · exact own_w hw 43 rfl
  · exact own_w hw 44 rfl
  · exact own_w hw 45 rfl
  · exact own_w hw 46 rfl
  · exact own_w hw 47 rfl
  · exact own_w hw 48 rfl
  · exact own_w hw 49 rfl
theorem own_endW (X : Stand p l e R (s.setVm vm₁) m args below meth c T locs cells slots) (hS : s.Since vm₁ n) (hn : n ≤ T.heap.size) (hlk : meth.locks = false) {v : Option Value} (hv : meth.sig.returnType = none → v = none)
    (hr : ∀ fs : List Frame, (∀ (f : JFrame) (acts : List Action), f.method = m → f.locked = none → f.entered = [] → (doReturn e (T.setTop f) acts v).1 = T.setFrames fs) → Steps p.tables e below (T.setTop g) (T.setFrames fs))
    (hc : cells ≤ kc) (hs : slots ≤ ks) (hQ : Q v T.heap locs) : own_E p e below (own_KW Q s kc ks) T g := by
  obtain ⟨fs, h1, hrun, hended, q1, q2, q3, q4⟩ := X.leaveW hS hn (v := v) hv hlk
  exact ⟨_, _, hr fs h1, hrun, hended, _, _, rfl, hQ, q1, q2, q3, q4.mono hc hs⟩
theorem own_retVW (X : Stand p l e R (s.setVm vm₁) m args below meth c T locs cells slots) (hS : s.Since vm₁ n) (hn : n ≤ T.heap.size) (hx : p.tables.exec = Jvm.exec) (hlk : meth.locks = false) {pc : Nat} {Ls : Array Slot} (hret : meth.sig.returnType = none)
    (hd : decode c.code pc = .ok (.return_, 1)) (hc : cells ≤ kc) (hs : slots ≤ ks) (hQ : Q none T.heap locs) : own_E p e below (own_KW Q s kc ks) T (mkF m pc Ls []) :=
  own_endW X hS hn hlk (fun _ => rfl) (fun fs h => X.returnOut hx hret hd h) hc hs hQ
theorem own_retSW (X : Stand p l e R (s.setVm vm₁) m args below meth c T locs cells slots) (hS : s.Since vm₁ n) (hn : n ≤ T.heap.size) (hx : p.tables.exec = Jvm.exec) (hlk : meth.locks = false) {pc : Nat} {Ls : Array Slot} {z : Int32} {t : FieldType} {rest : List Value} (hret : meth.sig.returnType = some t) (hn' : narrow t (.int z) = .int z)
    (ht : t = .int ∨ t = .boolean ∨ t = .byte ∨ t = .char ∨ t = .short) (hd : decode c.code pc = .ok (.ireturn, 1)) (hc : cells ≤ kc) (hs : slots ≤ ks) (hQ : Q (some (.int z)) T.heap locs) : own_E p e below (own_KW Q s kc ks) T (mkF m pc Ls (.int z :: rest)) :=
  own_endW X hS hn hlk (fun h => by rw [hret] at h; cases h) (fun fs h => retOut X hx hret hn' (Or.inl ⟨rfl, ht, z, rfl⟩) hd h) hc hs hQ
theorem own_retAW (X : Stand p l e R (s.setVm vm₁) m args below meth c T locs cells slots) (hS : s.Since vm₁ n) (hn : n ≤ T.heap.size) (hx : p.tables.exec = Jvm.exec) (hlk : meth.locks = false) {pc : Nat} {Ls : Array Slot} {w : Value} {t : FieldType} {rest : List Value} (hret : meth.sig.returnType = some t) (ht : t.isReference = true) (hw : w.isRef = true)
    (hd : decode c.code pc = .ok (.areturn, 1)) (hc : cells ≤ kc) (hs : slots ≤ ks) (hQ : Q (some w) T.heap locs) : own_E p e below (own_KW Q s kc ks) T (mkF m pc Ls (w :: rest)) :=
  own_endW X hS hn hlk (fun h => by rw [hret] at h; cases h) (fun fs h => retOut X hx hret (by cases w <;> cases t <;> first | rfl | (simp [Value.isRef] at hw) | (simp [FieldType.isReference] at ht)) (Or.inr (Or.inr (Or.inr (Or.inr ⟨rfl, ht, hw⟩)))) hd h) hc hs hQ
end OwnWide

theorem own_d_prog_80_method_18_0 : decode prog_80_method_18_code 0 = .ok (.aconst_null, 1) := by decide +kernel
theorem own_d_prog_80_method_18_1 : decode prog_80_method_18_code 1 = .ok (.areturn, 1) := by decide +kernel
def own_sr_Q (a1 : Addr) (h0 : Heap) (v : Option Value) (h : Heap) (L : List Loc) : Prop := ((v = some .null)) ∧ h = h0 ∧ L = []
abbrev own_y0 : MethodName := ⟨"com/example/brazier/brazier/store/IndexTable", "sortedRows", "()Ljava/lang/String;"⟩
theorem own_pn_IndexTable : plainName "com/example/brazier/brazier/store/IndexTable" = true := by first | (simp [plainName, overriddenIn]; done) | decide +kernel
theorem own_sr_ef (m : MethodId) (a1 : Addr) : entryFrame m #[(.ref a1)] 1 = mkF m 0 #[.val (.ref a1)] [] := by first | (simp [entryFrame, mkF, argsToLocals, Value.category]; done) | rfl
set_option maxRecDepth 65536 in
set_option maxHeartbeats 40000000 in
theorem own_sr (l : Launch) (Z : State) (a0 : Array Value) (hw : ∀ d ∈ tables_1, d.before a0 Z = true) (ws : List Jvm.Cond) (a1 : Addr) (h0 : Heap) (n0 : Nat) (Z0 : n0 ≤ h0.size)  :
    MetFree l own_y0 (head1 (Jvm.Cond.code own_y0 prog_80_method_18_code 1 (some (.object "java/lang/String")) :: ws) ({ frames := 0, cells := 0, slots := 0, locals := 0 } : Room)) (fun a U => a = #[(.ref a1)] ∧ Z.Warmed39 U.vm ∧ U.heap = h0) (fun _ _ _ _ _ => True) (fun _ U o U' => ∃ v L, o = .returned v ∧ own_sr_Q a1 h0 v U'.heap L ∧ FrameEnd U o U' L ({ frames := 0, cells := 0, slots := 0, locals := 0 } : Room).cells ({ frames := 0, cells := 0, slots := 0, locals := 0 } : Room).slots) := by
  refine MetFree.of_bodySF (plainFor_of_name own_pn_IndexTable) hisR ?_
  intro p e s m args below meth c s₁ Bd hml0 hP hK
  obtain ⟨rfl, hZ, hh⟩ := hP
  have hx := Bd.exec
  have hby := Bd.bytes
  have hml : c.maxLocals = 1 := hml0
  have hown : s.vm.findClass "com/example/brazier/brazier/store/IndexTable" = some m.cls := findClass_of_methodNamed Bd.named
  have hnm := (name_of_methodNamed Bd.named Bd.method).1
  have X0 : Stand p l e ({ frames := 0, cells := 0, slots := 0, locals := 0 } : Room) s m #[(.ref a1)] below meth c s₁ [] 0 0 := Stand.of_body Bd
  have e0 : s₁.heap = h0 := by rw [← hh, Bd.state]; rfl
  show own_E p e below (own_K (own_sr_Q a1 h0) s ({ frames := 0, cells := 0, slots := 0, locals := 0 } : Room).cells ({ frames := 0, cells := 0, slots := 0, locals := 0 } : Room).slots) s₁ (entryFrame m #[(.ref a1)] 1)
  refine own_pre (own_sr_ef m a1) ?_
  show own_E p e below _ s₁ (mkF m 0 #[rv a1] [])
  refine own_st (fun t k => XS.aconstNull X0.here hx rfl (hb hby own_d_prog_80_method_18_0) k) ?_
  show own_E p e below _ s₁ (mkF m 1 #[rv a1] [.null])
  refine own_retA X0 hx Bd.notSynchronized Bd.returns rfl rfl (hb hby own_d_prog_80_method_18_1) (by decide) (by decide) ?_
  exact ⟨rfl, e0, rfl⟩
theorem own_d_prog_80_method_19_0 : decode prog_80_method_19_code 0 = .ok (.iconst 0, 1) := by decide +kernel
theorem own_d_prog_80_method_19_1 : decode prog_80_method_19_code 1 = .ok (.ireturn, 1) := by decide +kernel
def own_hh_Q (a1 : Addr) (h0 : Heap) (v : Option Value) (h : Heap) (L : List Loc) : Prop := ((v = some (.int (0 : Int32)))) ∧ h = h0 ∧ L = []
abbrev own_y1 : MethodName := ⟨"com/example/brazier/brazier/store/IndexTable", "heldHighestFirst", "()Z"⟩
theorem own_hh_ef (m : MethodId) (a1 : Addr) : entryFrame m #[(.ref a1)] 1 = mkF m 0 #[.val (.ref a1)] [] := by first | (simp [entryFrame, mkF, argsToLocals, Value.category]; done) | rfl
set_option maxRecDepth 65536 in
set_option maxHeartbeats 40000000 in
theorem own_hh (l : Launch) (Z : State) (a0 : Array Value) (hw : ∀ d ∈ tables_1, d.before a0 Z = true) (ws : List Jvm.Cond) (a1 : Addr) (h0 : Heap) (n0 : Nat) (Z0 : n0 ≤ h0.size)  :
    MetFree l own_y1 (head1 (Jvm.Cond.code own_y1 prog_80_method_19_code 1 (some .boolean) :: ws) ({ frames := 0, cells := 0, slots := 0, locals := 0 } : Room)) (fun a U => a = #[(.ref a1)] ∧ Z.Warmed39 U.vm ∧ U.heap = h0) (fun _ _ _ _ _ => True) (fun _ U o U' => ∃ v L, o = .returned v ∧ own_hh_Q a1 h0 v U'.heap L ∧ FrameEnd U o U' L ({ frames := 0, cells := 0, slots := 0, locals := 0 } : Room).cells ({ frames := 0, cells := 0, slots := 0, locals := 0 } : Room).slots) := by
  refine MetFree.of_bodySF (plainFor_of_name own_pn_IndexTable) hisR ?_
  intro p e s m args below meth c s₁ Bd hml0 hP hK
  obtain ⟨rfl, hZ, hh⟩ := hP
  have hx := Bd.exec
  have hby := Bd.bytes
  have hml : c.maxLocals = 1 := hml0
  have hown : s.vm.findClass "com/example/brazier/brazier/store/IndexTable" = some m.cls := findClass_of_methodNamed Bd.named
  have hnm := (name_of_methodNamed Bd.named Bd.method).1
  have X0 : Stand p l e ({ frames := 0, cells := 0, slots := 0, locals := 0 } : Room) s m #[(.ref a1)] below meth c s₁ [] 0 0 := Stand.of_body Bd
  have e0 : s₁.heap = h0 := by rw [← hh, Bd.state]; rfl
  show own_E p e below (own_K (own_hh_Q a1 h0) s ({ frames := 0, cells := 0, slots := 0, locals := 0 } : Room).cells ({ frames := 0, cells := 0, slots := 0, locals := 0 } : Room).slots) s₁ (entryFrame m #[(.ref a1)] 1)
  refine own_pre (own_hh_ef m a1) ?_
  show own_E p e below _ s₁ (mkF m 0 #[rv a1] [])
  refine own_st (fun t k => XS.iconst X0.here hx rfl (hb hby own_d_prog_80_method_19_0) k) ?_
  show own_E p e below _ s₁ (mkF m 1 #[rv a1] [.int 0])
  refine own_retS X0 hx Bd.notSynchronized Bd.returns rfl (by decide) (hb hby own_d_prog_80_method_19_1) (by decide) (by decide) ?_
  exact ⟨rfl, e0, rfl⟩
theorem own_d_prog_84_method_4_0 : decode prog_84_method_4_code 0 = .ok (.iconst 1, 1) := by decide +kernel
theorem own_d_prog_84_method_4_1 : decode prog_84_method_4_code 1 = .ok (.ireturn, 1) := by decide +kernel
def own_hh4_Q (a1 : Addr) (h0 : Heap) (v : Option Value) (h : Heap) (L : List Loc) : Prop := ((v = some (.int (1 : Int32)))) ∧ h = h0 ∧ L = []
abbrev own_y2 : MethodName := ⟨"com/example/brazier/brazier/store/IndexTable$4", "heldHighestFirst", "()Z"⟩
theorem own_pn_IndexTable_4 : plainName "com/example/brazier/brazier/store/IndexTable$4" = true := by first | (simp [plainName, overriddenIn]; done) | decide +kernel
theorem own_hh4_ef (m : MethodId) (a1 : Addr) : entryFrame m #[(.ref a1)] 1 = mkF m 0 #[.val (.ref a1)] [] := by first | (simp [entryFrame, mkF, argsToLocals, Value.category]; done) | rfl
set_option maxRecDepth 65536 in
set_option maxHeartbeats 40000000 in
theorem own_hh4 (l : Launch) (Z : State) (a0 : Array Value) (hw : ∀ d ∈ tables_1, d.before a0 Z = true) (ws : List Jvm.Cond) (a1 : Addr) (h0 : Heap) (n0 : Nat) (Z0 : n0 ≤ h0.size)  :
    MetFree l own_y2 (head1 (Jvm.Cond.code own_y2 prog_84_method_4_code 1 (some .boolean) :: ws) ({ frames := 0, cells := 0, slots := 0, locals := 0 } : Room)) (fun a U => a = #[(.ref a1)] ∧ Z.Warmed39 U.vm ∧ U.heap = h0) (fun _ _ _ _ _ => True) (fun _ U o U' => ∃ v L, o = .returned v ∧ own_hh4_Q a1 h0 v U'.heap L ∧ FrameEnd U o U' L ({ frames := 0, cells := 0, slots := 0, locals := 0 } : Room).cells ({ frames := 0, cells := 0, slots := 0, locals := 0 } : Room).slots) := by
  refine MetFree.of_bodySF (plainFor_of_name own_pn_IndexTable_4) hisR ?_
  intro p e s m args below meth c s₁ Bd hml0 hP hK
  obtain ⟨rfl, hZ, hh⟩ := hP
  have hx := Bd.exec
  have hby := Bd.bytes
  have hml : c.maxLocals = 1 := hml0
  have hown : s.vm.findClass "com/example/brazier/brazier/store/IndexTable$4" = some m.cls := findClass_of_methodNamed Bd.named
  have hnm := (name_of_methodNamed Bd.named Bd.method).1
  have X0 : Stand p l e ({ frames := 0, cells := 0, slots := 0, locals := 0 } : Room) s m #[(.ref a1)] below meth c s₁ [] 0 0 := Stand.of_body Bd
  have e0 : s₁.heap = h0 := by rw [← hh, Bd.state]; rfl
  show own_E p e below (own_K (own_hh4_Q a1 h0) s ({ frames := 0, cells := 0, slots := 0, locals := 0 } : Room).cells ({ frames := 0, cells := 0, slots := 0, locals := 0 } : Room).slots) s₁ (entryFrame m #[(.ref a1)] 1)
  refine own_pre (own_hh4_ef m a1) ?_
  show own_E p e below _ s₁ (mkF m 0 #[rv a1] [])
  refine own_st (fun t k => XS.iconst X0.here hx rfl (hb hby own_d_prog_84_method_4_0) k) ?_
  show own_E p e below _ s₁ (mkF m 1 #[rv a1] [.int 1])
  refine own_retS X0 hx Bd.notSynchronized Bd.returns rfl (by decide) (hb hby own_d_prog_84_method_4_1) (by decide) (by decide) ?_
  exact ⟨rfl, e0, rfl⟩
theorem own_d_prog_85_method_4_0 : decode prog_85_method_4_code 0 = .ok (.iconst 1, 1) := by decide +kernel
theorem own_d_prog_85_method_4_1 : decode prog_85_method_4_code 1 = .ok (.ireturn, 1) := by decide +kernel
def own_hh5_Q (a1 : Addr) (h0 : Heap) (v : Option Value) (h : Heap) (L : List Loc) : Prop := ((v = some (.int (1 : Int32)))) ∧ h = h0 ∧ L = []
abbrev own_y3 : MethodName := ⟨"com/example/brazier/brazier/store/IndexTable$5", "heldHighestFirst", "()Z"⟩
theorem own_pn_IndexTable_5 : plainName "com/example/brazier/brazier/store/IndexTable$5" = true := by first | (simp [plainName, overriddenIn]; done) | decide +kernel
theorem own_hh5_ef (m : MethodId) (a1 : Addr) : entryFrame m #[(.ref a1)] 1 = mkF m 0 #[.val (.ref a1)] [] := by first | (simp [entryFrame, mkF, argsToLocals, Value.category]; done) | rfl
set_option maxRecDepth 65536 in
set_option maxHeartbeats 40000000 in
theorem own_hh5 (l : Launch) (Z : State) (a0 : Array Value) (hw : ∀ d ∈ tables_1, d.before a0 Z = true) (ws : List Jvm.Cond) (a1 : Addr) (h0 : Heap) (n0 : Nat) (Z0 : n0 ≤ h0.size)  :
    MetFree l own_y3 (head1 (Jvm.Cond.code own_y3 prog_85_method_4_code 1 (some .boolean) :: ws) ({ frames := 0, cells := 0, slots := 0, locals := 0 } : Room)) (fun a U => a = #[(.ref a1)] ∧ Z.Warmed39 U.vm ∧ U.heap = h0) (fun _ _ _ _ _ => True) (fun _ U o U' => ∃ v L, o = .returned v ∧ own_hh5_Q a1 h0 v U'.heap L ∧ FrameEnd U o U' L ({ frames := 0, cells := 0, slots := 0, locals := 0 } : Room).cells ({ frames := 0, cells := 0, slots := 0, locals := 0 } : Room).slots) := by
  refine MetFree.of_bodySF (plainFor_of_name own_pn_IndexTable_5) hisR ?_
  intro p e s m args below meth c s₁ Bd hml0 hP hK
  obtain ⟨rfl, hZ, hh⟩ := hP
  have hx := Bd.exec
  have hby := Bd.bytes
  have hml : c.maxLocals = 1 := hml0
  have hown : s.vm.findClass "com/example/brazier/brazier/store/IndexTable$5" = some m.cls := findClass_of_methodNamed Bd.named
  have hnm := (name_of_methodNamed Bd.named Bd.method).1
  have X0 : Stand p l e ({ frames := 0, cells := 0, slots := 0, locals := 0 } : Room) s m #[(.ref a1)] below meth c s₁ [] 0 0 := Stand.of_body Bd
  have e0 : s₁.heap = h0 := by rw [← hh, Bd.state]; rfl
  show own_E p e below (own_K (own_hh5_Q a1 h0) s ({ frames := 0, cells := 0, slots := 0, locals := 0 } : Room).cells ({ frames := 0, cells := 0, slots := 0, locals := 0 } : Room).slots) s₁ (entryFrame m #[(.ref a1)] 1)
  refine own_pre (own_hh5_ef m a1) ?_
  show own_E p e below _ s₁ (mkF m 0 #[rv a1] [])
  refine own_st (fun t k => XS.iconst X0.here hx rfl (hb hby own_d_prog_85_method_4_0) k) ?_
  show own_E p e below _ s₁ (mkF m 1 #[rv a1] [.int 1])
  refine own_retS X0 hx Bd.notSynchronized Bd.returns rfl (by decide) (hb hby own_d_prog_85_method_4_1) (by decide) (by decide) ?_
  exact ⟨rfl, e0, rfl⟩
theorem own_d_prog_82_method_4_0 : decode prog_82_method_4_code 0 = .ok (.ldc 27, 2) := by decide +kernel
theorem own_d_prog_82_method_4_2 : decode prog_82_method_4_code 2 = .ok (.areturn, 1) := by decide +kernel
def own_sr2_Q (Z : State) (a1 : Addr) (h0 : Heap) (n0 : Nat) (v : Option Value) (h : Heap) (L : List Loc) : Prop := ∃ (o0 : Addr), v = some (.ref o0) ∧ Fr n0 L ∧ Keep h0 h []
abbrev own_y4 : MethodName := ⟨"com/example/brazier/brazier/store/IndexTable$2", "sortedRows", "()Ljava/lang/String;"⟩
theorem own_pn_IndexTable_2 : plainName "com/example/brazier/brazier/store/IndexTable$2" = true := by first | (simp [plainName, overriddenIn]; done) | decide +kernel
theorem own_sr2_ef (m : MethodId) (a1 : Addr) : entryFrame m #[(.ref a1)] 1 = mkF m 0 #[.val (.ref a1)] [] := by first | (simp [entryFrame, mkF, argsToLocals, Value.category]; done) | rfl
set_option maxRecDepth 65536 in
set_option maxHeartbeats 40000000 in
theorem own_sr2 (l : Launch) (Z : State) (a0 : Array Value) (hw : ∀ d ∈ tables_1, d.before a0 Z = true) (ws : List Jvm.Cond) (a1 : Addr) (h0 : Heap) (n0 : Nat) (Z0 : n0 ≤ h0.size)  :
    MetFree l own_y4 (head1 (Jvm.Cond.code own_y4 prog_82_method_4_code 1 (some (.object "java/lang/String")) :: ws) ({ frames := 0, cells := 2, slots := 148, locals := 0 } : Room)) (fun a U => a = #[(.ref a1)] ∧ Z.Warmed39 U.vm ∧ U.heap = h0) (fun _ _ _ _ _ => True) (fun _ U o U' => ∃ v L, o = .returned v ∧ own_sr2_Q Z a1 h0 n0 v U'.heap L ∧ ReturnedEndW U o U' L ({ frames := 0, cells := 2, slots := 148, locals := 0 } : Room).cells ({ frames := 0, cells := 2, slots := 148, locals := 0 } : Room).slots) := by
  refine MetFree.of_bodySF (plainFor_of_name own_pn_IndexTable_2) hisR ?_
  intro p e s m args below meth c s₁ Bd hml0 hP hK
  obtain ⟨rfl, hZ, hh⟩ := hP
  have hx := Bd.exec
  have hby := Bd.bytes
  have hml : c.maxLocals = 1 := hml0
  have hown : s.vm.findClass "com/example/brazier/brazier/store/IndexTable$2" = some m.cls := findClass_of_methodNamed Bd.named
  have hnm := (name_of_methodNamed Bd.named Bd.method).1
  have X0 : Stand p l e ({ frames := 0, cells := 2, slots := 148, locals := 0 } : Room) s m #[(.ref a1)] below meth c s₁ [] 0 0 := Stand.of_body Bd
  have e0 : s₁.heap = h0 := by rw [← hh, Bd.state]; rfl
  show own_E p e below (own_KW (own_sr2_Q Z a1 h0 n0) s ({ frames := 0, cells := 2, slots := 148, locals := 0 } : Room).cells ({ frames := 0, cells := 2, slots := 148, locals := 0 } : Room).slots) s₁ (entryFrame m #[(.ref a1)] 1)
  refine own_pre (own_sr2_ef m a1) ?_
  show own_E p e below _ s₁ (mkF m 0 #[rv a1] [])
  obtain ⟨b1, T1, h1, k1, X1, e1, E1, hS1, hk1, hZ1, ho1, st1⟩ := ldcS (s := s) (vm0 := s.vm) X0 hx hZ hown (own_w hw 42 rfl) (own_wS hw) e0 (own_since s) (Nat.zero_le _) (g := (mkF m 0 #[rv a1] [])) rfl (hb hby own_d_prog_82_method_4_0) (n := 144) (by decide) (by decide) (by decide) (by decide)
  have Z2 := Nat.le_trans Z0 E1.1
  have K3 : Keep h0 _ [] := (Keep.refl h0 []).ext E1
  refine own_st st1 ?_
  show own_E p e below _ T1 (mkF m 2 #[rv a1] [.ref b1])
  refine own_retAW X1 hS1 (by rw [e1]; exact hk1) hx Bd.notSynchronized Bd.returns rfl rfl (hb hby own_d_prog_82_method_4_2) (by decide) (by decide) ?_
  show own_sr2_Q Z a1 h0 n0 _ T1.heap _
  rw [e1]
  exact ⟨b1, rfl, (Fr.nil n0), K3⟩
theorem own_d_prog_80_method_20_0 : decode prog_80_method_20_code 0 = .ok (.aload_n 0, 1) := by decide +kernel
theorem own_d_prog_80_method_20_1 : decode prog_80_method_20_code 1 = .ok (.invokevirtual 194, 3) := by decide +kernel
theorem own_pd_0 : parseMethodDescriptor "()Ljava/lang/String;" = some ⟨[], some (.object "java/lang/String")⟩ := by decide +kernel
theorem own_d_prog_80_method_20_4 : decode prog_80_method_20_code 4 = .ok (.ifnonnull 18, 3) := by decide +kernel
theorem own_d_prog_80_method_20_7 : decode prog_80_method_20_code 7 = .ok (.iload_n 1, 1) := by decide +kernel
theorem own_d_prog_80_method_20_8 : decode prog_80_method_20_code 8 = .ok (.ifCond .eq 10, 3) := by decide +kernel
theorem own_d_prog_80_method_20_18 : decode prog_80_method_20_code 18 = .ok (.iconst 1, 1) := by decide +kernel
theorem own_d_prog_80_method_20_19 : decode prog_80_method_20_code 19 = .ok (.goto 4, 3) := by decide +kernel
theorem own_d_prog_80_method_20_23 : decode prog_80_method_20_code 23 = .ok (.ireturn, 1) := by decide +kernel
def own_wk_TOKEN0_Q (a1 : Addr) (h0 : Heap) (v : Option Value) (h : Heap) (L : List Loc) : Prop := ((v = some (.int (1 : Int32)))) ∧ h = h0 ∧ L = []
abbrev own_y5 : MethodName := ⟨"com/example/brazier/brazier/store/IndexTable", "walkedByKey", "(Z)Z"⟩
theorem own_wk_TOKEN0_ef (m : MethodId) (a1 : Addr) : entryFrame m #[(.ref a1), (.int (0 : Int32))] 2 = mkF m 0 #[.val (.ref a1), .val (.int (0 : Int32))] [] := by first | (simp [entryFrame, mkF, argsToLocals, Value.category]; done) | rfl
set_option maxRecDepth 65536 in
set_option maxHeartbeats 40000000 in
theorem own_wk_TOKEN0 (l : Launch) (Z : State) (a0 : Array Value) (hw : ∀ d ∈ tables_1, d.before a0 Z = true) (ws : List Jvm.Cond) (a1 : Addr) (h0 : Heap) (n0 : Nat) (Z0 : n0 ≤ h0.size) (E_a1 : Exa Z h0 a1 "com/example/brazier/brazier/store/IndexTable$1") :
    MetFree l own_y5 (head1 (Jvm.Cond.code own_y5 prog_80_method_20_code 2 (some .boolean) :: ws) ({ frames := 1, cells := 0, slots := 0, locals := 12 } : Room)) (fun a U => a = #[(.ref a1), (.int (0 : Int32))] ∧ Z.Warmed39 U.vm ∧ U.heap = h0) (fun _ _ _ _ _ => True) (fun _ U o U' => ∃ v L, o = .returned v ∧ own_wk_TOKEN0_Q a1 h0 v U'.heap L ∧ FrameEnd U o U' L ({ frames := 1, cells := 0, slots := 0, locals := 12 } : Room).cells ({ frames := 1, cells := 0, slots := 0, locals := 12 } : Room).slots) := by
  refine MetFree.of_bodySF (plainFor_of_name own_pn_IndexTable) hisR ?_
  intro p e s m args below meth c s₁ Bd hml0 hP hK
  obtain ⟨rfl, hZ, hh⟩ := hP
  have hx := Bd.exec
  have hby := Bd.bytes
  have hml : c.maxLocals = 2 := hml0
  have hown : s.vm.findClass "com/example/brazier/brazier/store/IndexTable" = some m.cls := findClass_of_methodNamed Bd.named
  have hnm := (name_of_methodNamed Bd.named Bd.method).1
  have X0 : Stand p l e ({ frames := 1, cells := 0, slots := 0, locals := 12 } : Room) s m #[(.ref a1), (.int (0 : Int32))] below meth c s₁ [] 0 0 := Stand.of_body Bd
  have e0 : s₁.heap = h0 := by rw [← hh, Bd.state]; rfl
  show own_E p e below (own_K (own_wk_TOKEN0_Q a1 h0) s ({ frames := 1, cells := 0, slots := 0, locals := 12 } : Room).cells ({ frames := 1, cells := 0, slots := 0, locals := 12 } : Room).slots) s₁ (entryFrame m #[(.ref a1), (.int (0 : Int32))] 2)
  refine own_pre (own_wk_TOKEN0_ef m a1) ?_
  show own_E p e below _ s₁ (mkF m 0 #[rv a1, iv 0] [])
  refine own_st (fun t k => XS.aloadN X0.here hx rfl (hb hby own_d_prog_80_method_20_0) rfl rfl k) ?_
  show own_E p e below _ s₁ (mkF m 1 #[rv a1, iv 0] [.ref a1])
  obtain ⟨cq1, kq1, q1a, q1b, q1c⟩ := isOf hZ e0 E_a1
  obtain ⟨_, _, ⟨T1, L1, k1, n1⟩, -, X1, ⟨Lc1, hQ1, l1, y1, z1⟩, st1⟩ := X0.virtualBack hx (y := own_y0) (z := own_y0) hown (mvT hZ (own_w hw 9 rfl)) (mvT hZ (own_w hw 10 rfl)) (notFace_of_selects (args := #[]) (mvT hZ (own_w hw 12 rfl))) (mvT hZ (own_w hw 12 rfl)) (mvT hZ (own_w hw 11 rfl)) (by decide) (backOf (W := 0) (own_sr l Z a0 hw [] a1 h0 n0 Z0 ) hZ (own_w hw 13 rfl) (own_w hw 2 rfl) (by decide) (by decide)) q1a q1c (g := (mkF m 1 #[rv a1, iv 0] [.ref a1])) rfl (by rw [hml]; rfl) (Steps.refl _) (argsL := []) (rest := []) (lenOf own_pd_0 rfl) rfl (by show 2 * 0 + _ ≤ _; exact Nat.le_of_eq rfl) (hb hby own_d_prog_80_method_20_1) (fun _ _ => ⟨rfl, e0, (by decide : 0 + 0 ≤ _), (by decide : 0 + 0 ≤ _)⟩)
  dsimp only [Pt.U, Pt.locs, Pt.cells, Pt.slots] at X1 l1 y1 z1 st1 hQ1
  subst l1 y1 z1
  obtain ⟨hR1, e1, rfl⟩ := hQ1
  have N1 := Fr.app (Fr.nil n0) (Fr.nil n0)
  obtain rfl := hR1
  refine own_tr st1 ?_
  show own_E p e below _ T1 (mkF m 4 #[rv a1, iv 0] [.null])
  refine own_st (fun t k => XS.ifnonnullNo X1.here hx rfl (hb hby own_d_prog_80_method_20_4) rfl k) ?_
  show own_E p e below _ T1 (mkF m 7 #[rv a1, iv 0] [])
  refine own_st (fun t k => XS.iloadN X1.here hx rfl (hb hby own_d_prog_80_method_20_7) rfl k) ?_
  show own_E p e below _ T1 (mkF m 8 #[rv a1, iv 0] [.int 0])
  refine own_st (fun t k => XS.ifYes X1.here hx rfl (pc0 := 8) (pc' := 18) rfl (hb hby own_d_prog_80_method_20_8) rfl (by decide) (by decide) (by decide) k) ?_
  show own_E p e below _ T1 (mkF m 18 #[rv a1, iv 0] [])
  refine own_st (fun t k => XS.iconst X1.here hx rfl (hb hby own_d_prog_80_method_20_18) k) ?_
  show own_E p e below _ T1 (mkF m 19 #[rv a1, iv 0] [.int 1])
  refine own_st (fun t k => XS.goto X1.here hx rfl (pc0 := 19) (pc' := 23) rfl (hb hby own_d_prog_80_method_20_19) (by decide) (by decide) k) ?_
  show own_E p e below _ T1 (mkF m 23 #[rv a1, iv 0] [.int 1])
  refine own_retS X1 hx Bd.notSynchronized Bd.returns rfl (by decide) (hb hby own_d_prog_80_method_20_23) (by decide) (by decide) ?_
  exact ⟨rfl, e1, rfl⟩
theorem own_d_prog_80_method_20_11 : decode prog_80_method_20_code 11 = .ok (.aload_n 0, 1) := by decide +kernel
theorem own_d_prog_80_method_20_12 : decode prog_80_method_20_code 12 = .ok (.invokevirtual 197, 3) := by decide +kernel
theorem own_pd_1 : parseMethodDescriptor "()Z" = some ⟨[], some .boolean⟩ := by decide +kernel
theorem own_d_prog_80_method_20_15 : decode prog_80_method_20_code 15 = .ok (.ifCond .ne 7, 3) := by decide +kernel
def own_wk_TOKEN1_Q (a1 : Addr) (h0 : Heap) (v : Option Value) (h : Heap) (L : List Loc) : Prop := ((v = some (.int (1 : Int32)))) ∧ h = h0 ∧ L = []
theorem own_wk_TOKEN1_ef (m : MethodId) (a1 : Addr) : entryFrame m #[(.ref a1), (.int (1 : Int32))] 2 = mkF m 0 #[.val (.ref a1), .val (.int (1 : Int32))] [] := by first | (simp [entryFrame, mkF, argsToLocals, Value.category]; done) | rfl
set_option maxRecDepth 65536 in
set_option maxHeartbeats 40000000 in
theorem own_wk_TOKEN1 (l : Launch) (Z : State) (a0 : Array Value) (hw : ∀ d ∈ tables_1, d.before a0 Z = true) (ws : List Jvm.Cond) (a1 : Addr) (h0 : Heap) (n0 : Nat) (Z0 : n0 ≤ h0.size) (E_a1 : Exa Z h0 a1 "com/example/brazier/brazier/store/IndexTable$1") :
    MetFree l own_y5 (head1 (Jvm.Cond.code own_y5 prog_80_method_20_code 2 (some .boolean) :: ws) ({ frames := 1, cells := 0, slots := 0, locals := 12 } : Room)) (fun a U => a = #[(.ref a1), (.int (1 : Int32))] ∧ Z.Warmed39 U.vm ∧ U.heap = h0) (fun _ _ _ _ _ => True) (fun _ U o U' => ∃ v L, o = .returned v ∧ own_wk_TOKEN1_Q a1 h0 v U'.heap L ∧ FrameEnd U o U' L ({ frames := 1, cells := 0, slots := 0, locals := 12 } : Room).cells ({ frames := 1, cells := 0, slots := 0, locals := 12 } : Room).slots) := by
  refine MetFree.of_bodySF (plainFor_of_name own_pn_IndexTable) hisR ?_
  intro p e s m args below meth c s₁ Bd hml0 hP hK
  obtain ⟨rfl, hZ, hh⟩ := hP
  have hx := Bd.exec
  have hby := Bd.bytes
  have hml : c.maxLocals = 2 := hml0
  have hown : s.vm.findClass "com/example/brazier/brazier/store/IndexTable" = some m.cls := findClass_of_methodNamed Bd.named
  have hnm := (name_of_methodNamed Bd.named Bd.method).1
  have X0 : Stand p l e ({ frames := 1, cells := 0, slots := 0, locals := 12 } : Room) s m #[(.ref a1), (.int (1 : Int32))] below meth c s₁ [] 0 0 := Stand.of_body Bd
  have e0 : s₁.heap = h0 := by rw [← hh, Bd.state]; rfl
  show own_E p e below (own_K (own_wk_TOKEN1_Q a1 h0) s ({ frames := 1, cells := 0, slots := 0, locals := 12 } : Room).cells ({ frames := 1, cells := 0, slots := 0, locals := 12 } : Room).slots) s₁ (entryFrame m #[(.ref a1), (.int (1 : Int32))] 2)
  refine own_pre (own_wk_TOKEN1_ef m a1) ?_
  show own_E p e below _ s₁ (mkF m 0 #[rv a1, iv 1] [])
  refine own_st (fun t k => XS.aloadN X0.here hx rfl (hb hby own_d_prog_80_method_20_0) rfl rfl k) ?_
  show own_E p e below _ s₁ (mkF m 1 #[rv a1, iv 1] [.ref a1])
  obtain ⟨cq1, kq1, q1a, q1b, q1c⟩ := isOf hZ e0 E_a1
  obtain ⟨_, _, ⟨T1, L1, k1, n1⟩, -, X1, ⟨Lc1, hQ1, l1, y1, z1⟩, st1⟩ := X0.virtualBack hx (y := own_y0) (z := own_y0) hown (mvT hZ (own_w hw 9 rfl)) (mvT hZ (own_w hw 10 rfl)) (notFace_of_selects (args := #[]) (mvT hZ (own_w hw 12 rfl))) (mvT hZ (own_w hw 12 rfl)) (mvT hZ (own_w hw 11 rfl)) (by decide) (backOf (W := 0) (own_sr l Z a0 hw [] a1 h0 n0 Z0 ) hZ (own_w hw 13 rfl) (own_w hw 2 rfl) (by decide) (by decide)) q1a q1c (g := (mkF m 1 #[rv a1, iv 1] [.ref a1])) rfl (by rw [hml]; rfl) (Steps.refl _) (argsL := []) (rest := []) (lenOf own_pd_0 rfl) rfl (by show 2 * 0 + _ ≤ _; exact Nat.le_of_eq rfl) (hb hby own_d_prog_80_method_20_1) (fun _ _ => ⟨rfl, e0, (by decide : 0 + 0 ≤ _), (by decide : 0 + 0 ≤ _)⟩)
  dsimp only [Pt.U, Pt.locs, Pt.cells, Pt.slots] at X1 l1 y1 z1 st1 hQ1
  subst l1 y1 z1
  obtain ⟨hR1, e1, rfl⟩ := hQ1
  have N1 := Fr.app (Fr.nil n0) (Fr.nil n0)
  obtain rfl := hR1
  refine own_tr st1 ?_
  show own_E p e below _ T1 (mkF m 4 #[rv a1, iv 1] [.null])
  refine own_st (fun t k => XS.ifnonnullNo X1.here hx rfl (hb hby own_d_prog_80_method_20_4) rfl k) ?_
  show own_E p e below _ T1 (mkF m 7 #[rv a1, iv 1] [])
  refine own_st (fun t k => XS.iloadN X1.here hx rfl (hb hby own_d_prog_80_method_20_7) rfl k) ?_
  show own_E p e below _ T1 (mkF m 8 #[rv a1, iv 1] [.int 1])
  refine own_st (fun t k => XS.ifNo X1.here hx rfl (hb hby own_d_prog_80_method_20_8) rfl (by decide) k) ?_
  show own_E p e below _ T1 (mkF m 11 #[rv a1, iv 1] [])
  refine own_st (fun t k => XS.aloadN X1.here hx rfl (hb hby own_d_prog_80_method_20_11) rfl rfl k) ?_
  show own_E p e below _ T1 (mkF m 12 #[rv a1, iv 1] [.ref a1])
  obtain ⟨cq2, kq2, q2a, q2b, q2c⟩ := isOf hZ e1 E_a1
  obtain ⟨_, _, ⟨T2, L2, k2, n2⟩, -, X2, ⟨Lc2, hQ2, l2, y2, z2⟩, st2⟩ := X1.virtualBack hx (y := own_y1) (z := own_y1) hown (mvT hZ (own_w hw 14 rfl)) (mvT hZ (own_w hw 15 rfl)) (notFace_of_selects (args := #[]) (mvT hZ (own_w hw 17 rfl))) (mvT hZ (own_w hw 17 rfl)) (mvT hZ (own_w hw 16 rfl)) (by decide) (backOf (W := 0) (own_hh l Z a0 hw [] a1 h0 n0 Z0 ) hZ (own_w hw 18 rfl) (own_w hw 2 rfl) (by decide) (by decide)) q2a q2c (g := (mkF m 12 #[rv a1, iv 1] [.ref a1])) rfl (by rw [hml]; rfl) (Steps.refl _) (argsL := []) (rest := []) (lenOf own_pd_1 rfl) rfl (by show 2 * 0 + _ ≤ _; exact Nat.le_of_eq rfl) (hb hby own_d_prog_80_method_20_12) (fun _ _ => ⟨rfl, e1, (by decide : 0 + 0 ≤ _), (by decide : 0 + 0 ≤ _)⟩)
  dsimp only [Pt.U, Pt.locs, Pt.cells, Pt.slots] at X2 l2 y2 z2 st2 hQ2
  subst l2 y2 z2
  obtain ⟨hR2, e2, rfl⟩ := hQ2
  have N2 := Fr.app N1 (Fr.nil n0)
  obtain rfl := hR2
  refine own_tr st2 ?_
  show own_E p e below _ T2 (mkF m 15 #[rv a1, iv 1] [.int 0])
  refine own_st (fun t k => XS.ifNo X2.here hx rfl (hb hby own_d_prog_80_method_20_15) rfl (by decide) k) ?_
  show own_E p e below _ T2 (mkF m 18 #[rv a1, iv 1] [])
  refine own_st (fun t k => XS.iconst X2.here hx rfl (hb hby own_d_prog_80_method_20_18) k) ?_
  show own_E p e below _ T2 (mkF m 19 #[rv a1, iv 1] [.int 1])
  refine own_st (fun t k => XS.goto X2.here hx rfl (pc0 := 19) (pc' := 23) rfl (hb hby own_d_prog_80_method_20_19) (by decide) (by decide) k) ?_
  show own_E p e below _ T2 (mkF m 23 #[rv a1, iv 1] [.int 1])
  refine own_retS X2 hx Bd.notSynchronized Bd.returns rfl (by decide) (hb hby own_d_prog_80_method_20_23) (by decide) (by decide) ?_
  exact ⟨rfl, e2, rfl⟩
def own_wk_QUANTITY0_Q (a1 : Addr) (h0 : Heap) (v : Option Value) (h : Heap) (L : List Loc) : Prop := ((v = some (.int (1 : Int32)))) ∧ h = h0 ∧ L = []
theorem own_wk_QUANTITY0_ef (m : MethodId) (a1 : Addr) : entryFrame m #[(.ref a1), (.int (0 : Int32))] 2 = mkF m 0 #[.val (.ref a1), .val (.int (0 : Int32))] [] := by first | (simp [entryFrame, mkF, argsToLocals, Value.category]; done) | rfl
set_option maxRecDepth 65536 in
set_option maxHeartbeats 40000000 in
theorem own_wk_QUANTITY0 (l : Launch) (Z : State) (a0 : Array Value) (hw : ∀ d ∈ tables_1, d.before a0 Z = true) (ws : List Jvm.Cond) (a1 : Addr) (h0 : Heap) (n0 : Nat) (Z0 : n0 ≤ h0.size) (E_a1 : Exa Z h0 a1 "com/example/brazier/brazier/store/IndexTable$5") :
    MetFree l own_y5 (head1 (Jvm.Cond.code own_y5 prog_80_method_20_code 2 (some .boolean) :: ws) ({ frames := 1, cells := 0, slots := 0, locals := 12 } : Room)) (fun a U => a = #[(.ref a1), (.int (0 : Int32))] ∧ Z.Warmed39 U.vm ∧ U.heap = h0) (fun _ _ _ _ _ => True) (fun _ U o U' => ∃ v L, o = .returned v ∧ own_wk_QUANTITY0_Q a1 h0 v U'.heap L ∧ FrameEnd U o U' L ({ frames := 1, cells := 0, slots := 0, locals := 12 } : Room).cells ({ frames := 1, cells := 0, slots := 0, locals := 12 } : Room).slots) := by
  refine MetFree.of_bodySF (plainFor_of_name own_pn_IndexTable) hisR ?_
  intro p e s m args below meth c s₁ Bd hml0 hP hK
  obtain ⟨rfl, hZ, hh⟩ := hP
  have hx := Bd.exec
  have hby := Bd.bytes
  have hml : c.maxLocals = 2 := hml0
  have hown : s.vm.findClass "com/example/brazier/brazier/store/IndexTable" = some m.cls := findClass_of_methodNamed Bd.named
  have hnm := (name_of_methodNamed Bd.named Bd.method).1
  have X0 : Stand p l e ({ frames := 1, cells := 0, slots := 0, locals := 12 } : Room) s m #[(.ref a1), (.int (0 : Int32))] below meth c s₁ [] 0 0 := Stand.of_body Bd
  have e0 : s₁.heap = h0 := by rw [← hh, Bd.state]; rfl
  show own_E p e below (own_K (own_wk_QUANTITY0_Q a1 h0) s ({ frames := 1, cells := 0, slots := 0, locals := 12 } : Room).cells ({ frames := 1, cells := 0, slots := 0, locals := 12 } : Room).slots) s₁ (entryFrame m #[(.ref a1), (.int (0 : Int32))] 2)
  refine own_pre (own_wk_QUANTITY0_ef m a1) ?_
  show own_E p e below _ s₁ (mkF m 0 #[rv a1, iv 0] [])
  refine own_st (fun t k => XS.aloadN X0.here hx rfl (hb hby own_d_prog_80_method_20_0) rfl rfl k) ?_
  show own_E p e below _ s₁ (mkF m 1 #[rv a1, iv 0] [.ref a1])
  obtain ⟨cq1, kq1, q1a, q1b, q1c⟩ := isOf hZ e0 E_a1
  obtain ⟨_, _, ⟨T1, L1, k1, n1⟩, -, X1, ⟨Lc1, hQ1, l1, y1, z1⟩, st1⟩ := X0.virtualBack hx (y := own_y0) (z := own_y0) hown (mvT hZ (own_w hw 9 rfl)) (mvT hZ (own_w hw 10 rfl)) (notFace_of_selects (args := #[]) (mvT hZ (own_w hw 22 rfl))) (mvT hZ (own_w hw 22 rfl)) (mvT hZ (own_w hw 11 rfl)) (by decide) (backOf (W := 0) (own_sr l Z a0 hw [] a1 h0 n0 Z0 ) hZ (own_w hw 13 rfl) (own_w hw 2 rfl) (by decide) (by decide)) q1a q1c (g := (mkF m 1 #[rv a1, iv 0] [.ref a1])) rfl (by rw [hml]; rfl) (Steps.refl _) (argsL := []) (rest := []) (lenOf own_pd_0 rfl) rfl (by show 2 * 0 + _ ≤ _; exact Nat.le_of_eq rfl) (hb hby own_d_prog_80_method_20_1) (fun _ _ => ⟨rfl, e0, (by decide : 0 + 0 ≤ _), (by decide : 0 + 0 ≤ _)⟩)
  dsimp only [Pt.U, Pt.locs, Pt.cells, Pt.slots] at X1 l1 y1 z1 st1 hQ1
  subst l1 y1 z1
  obtain ⟨hR1, e1, rfl⟩ := hQ1
  have N1 := Fr.app (Fr.nil n0) (Fr.nil n0)
  obtain rfl := hR1
  refine own_tr st1 ?_
  show own_E p e below _ T1 (mkF m 4 #[rv a1, iv 0] [.null])
  refine own_st (fun t k => XS.ifnonnullNo X1.here hx rfl (hb hby own_d_prog_80_method_20_4) rfl k) ?_
  show own_E p e below _ T1 (mkF m 7 #[rv a1, iv 0] [])
  refine own_st (fun t k => XS.iloadN X1.here hx rfl (hb hby own_d_prog_80_method_20_7) rfl k) ?_
  show own_E p e below _ T1 (mkF m 8 #[rv a1, iv 0] [.int 0])
  refine own_st (fun t k => XS.ifYes X1.here hx rfl (pc0 := 8) (pc' := 18) rfl (hb hby own_d_prog_80_method_20_8) rfl (by decide) (by decide) (by decide) k) ?_
  show own_E p e below _ T1 (mkF m 18 #[rv a1, iv 0] [])
  refine own_st (fun t k => XS.iconst X1.here hx rfl (hb hby own_d_prog_80_method_20_18) k) ?_
  show own_E p e below _ T1 (mkF m 19 #[rv a1, iv 0] [.int 1])
  refine own_st (fun t k => XS.goto X1.here hx rfl (pc0 := 19) (pc' := 23) rfl (hb hby own_d_prog_80_method_20_19) (by decide) (by decide) k) ?_
  show own_E p e below _ T1 (mkF m 23 #[rv a1, iv 0] [.int 1])
  refine own_retS X1 hx Bd.notSynchronized Bd.returns rfl (by decide) (hb hby own_d_prog_80_method_20_23) (by decide) (by decide) ?_
  exact ⟨rfl, e1, rfl⟩
theorem own_d_prog_80_method_20_22 : decode prog_80_method_20_code 22 = .ok (.iconst 0, 1) := by decide +kernel
def own_wk_QUANTITY1_Q (a1 : Addr) (h0 : Heap) (v : Option Value) (h : Heap) (L : List Loc) : Prop := ((v = some (.int (0 : Int32)))) ∧ h = h0 ∧ L = []
theorem own_wk_QUANTITY1_ef (m : MethodId) (a1 : Addr) : entryFrame m #[(.ref a1), (.int (1 : Int32))] 2 = mkF m 0 #[.val (.ref a1), .val (.int (1 : Int32))] [] := by first | (simp [entryFrame, mkF, argsToLocals, Value.category]; done) | rfl
set_option maxRecDepth 65536 in
set_option maxHeartbeats 40000000 in
theorem own_wk_QUANTITY1 (l : Launch) (Z : State) (a0 : Array Value) (hw : ∀ d ∈ tables_1, d.before a0 Z = true) (ws : List Jvm.Cond) (a1 : Addr) (h0 : Heap) (n0 : Nat) (Z0 : n0 ≤ h0.size) (E_a1 : Exa Z h0 a1 "com/example/brazier/brazier/store/IndexTable$5") :
    MetFree l own_y5 (head1 (Jvm.Cond.code own_y5 prog_80_method_20_code 2 (some .boolean) :: ws) ({ frames := 1, cells := 0, slots := 0, locals := 12 } : Room)) (fun a U => a = #[(.ref a1), (.int (1 : Int32))] ∧ Z.Warmed39 U.vm ∧ U.heap = h0) (fun _ _ _ _ _ => True) (fun _ U o U' => ∃ v L, o = .returned v ∧ own_wk_QUANTITY1_Q a1 h0 v U'.heap L ∧ FrameEnd U o U' L ({ frames := 1, cells := 0, slots := 0, locals := 12 } : Room).cells ({ frames := 1, cells := 0, slots := 0, locals := 12 } : Room).slots) := by
  refine MetFree.of_bodySF (plainFor_of_name own_pn_IndexTable) hisR ?_
  intro p e s m args below meth c s₁ Bd hml0 hP hK
  obtain ⟨rfl, hZ, hh⟩ := hP
  have hx := Bd.exec
  have hby := Bd.bytes
  have hml : c.maxLocals = 2 := hml0
  have hown : s.vm.findClass "com/example/brazier/brazier/store/IndexTable" = some m.cls := findClass_of_methodNamed Bd.named
  have hnm := (name_of_methodNamed Bd.named Bd.method).1
  have X0 : Stand p l e ({ frames := 1, cells := 0, slots := 0, locals := 12 } : Room) s m #[(.ref a1), (.int (1 : Int32))] below meth c s₁ [] 0 0 := Stand.of_body Bd
  have e0 : s₁.heap = h0 := by rw [← hh, Bd.state]; rfl
  show own_E p e below (own_K (own_wk_QUANTITY1_Q a1 h0) s ({ frames := 1, cells := 0, slots := 0, locals := 12 } : Room).cells ({ frames := 1, cells := 0, slots := 0, locals := 12 } : Room).slots) s₁ (entryFrame m #[(.ref a1), (.int (1 : Int32))] 2)
  refine own_pre (own_wk_QUANTITY1_ef m a1) ?_
  show own_E p e below _ s₁ (mkF m 0 #[rv a1, iv 1] [])
  refine own_st (fun t k => XS.aloadN X0.here hx rfl (hb hby own_d_prog_80_method_20_0) rfl rfl k) ?_
  show own_E p e below _ s₁ (mkF m 1 #[rv a1, iv 1] [.ref a1])
  obtain ⟨cq1, kq1, q1a, q1b, q1c⟩ := isOf hZ e0 E_a1
  obtain ⟨_, _, ⟨T1, L1, k1, n1⟩, -, X1, ⟨Lc1, hQ1, l1, y1, z1⟩, st1⟩ := X0.virtualBack hx (y := own_y0) (z := own_y0) hown (mvT hZ (own_w hw 9 rfl)) (mvT hZ (own_w hw 10 rfl)) (notFace_of_selects (args := #[]) (mvT hZ (own_w hw 22 rfl))) (mvT hZ (own_w hw 22 rfl)) (mvT hZ (own_w hw 11 rfl)) (by decide) (backOf (W := 0) (own_sr l Z a0 hw [] a1 h0 n0 Z0 ) hZ (own_w hw 13 rfl) (own_w hw 2 rfl) (by decide) (by decide)) q1a q1c (g := (mkF m 1 #[rv a1, iv 1] [.ref a1])) rfl (by rw [hml]; rfl) (Steps.refl _) (argsL := []) (rest := []) (lenOf own_pd_0 rfl) rfl (by show 2 * 0 + _ ≤ _; exact Nat.le_of_eq rfl) (hb hby own_d_prog_80_method_20_1) (fun _ _ => ⟨rfl, e0, (by decide : 0 + 0 ≤ _), (by decide : 0 + 0 ≤ _)⟩)
  dsimp only [Pt.U, Pt.locs, Pt.cells, Pt.slots] at X1 l1 y1 z1 st1 hQ1
  subst l1 y1 z1
  obtain ⟨hR1, e1, rfl⟩ := hQ1
  have N1 := Fr.app (Fr.nil n0) (Fr.nil n0)
  obtain rfl := hR1
  refine own_tr st1 ?_
  show own_E p e below _ T1 (mkF m 4 #[rv a1, iv 1] [.null])
  refine own_st (fun t k => XS.ifnonnullNo X1.here hx rfl (hb hby own_d_prog_80_method_20_4) rfl k) ?_
  show own_E p e below _ T1 (mkF m 7 #[rv a1, iv 1] [])
  refine own_st (fun t k => XS.iloadN X1.here hx rfl (hb hby own_d_prog_80_method_20_7) rfl k) ?_
  show own_E p e below _ T1 (mkF m 8 #[rv a1, iv 1] [.int 1])
  refine own_st (fun t k => XS.ifNo X1.here hx rfl (hb hby own_d_prog_80_method_20_8) rfl (by decide) k) ?_
  show own_E p e below _ T1 (mkF m 11 #[rv a1, iv 1] [])
  refine own_st (fun t k => XS.aloadN X1.here hx rfl (hb hby own_d_prog_80_method_20_11) rfl rfl k) ?_
  show own_E p e below _ T1 (mkF m 12 #[rv a1, iv 1] [.ref a1])
  obtain ⟨cq2, kq2, q2a, q2b, q2c⟩ := isOf hZ e1 E_a1
  obtain ⟨_, _, ⟨T2, L2, k2, n2⟩, -, X2, ⟨Lc2, hQ2, l2, y2, z2⟩, st2⟩ := X1.virtualBack hx (y := own_y1) (z := own_y3) hown (mvT hZ (own_w hw 14 rfl)) (mvT hZ (own_w hw 15 rfl)) (notFace_of_selects (args := #[]) (mvT hZ (own_w hw 17 rfl))) (mvT hZ (own_w hw 23 rfl)) (mvT hZ (own_w hw 24 rfl)) (by decide) (backOf (W := 0) (own_hh5 l Z a0 hw [] a1 h0 n0 Z0 ) hZ (own_w hw 26 rfl) (own_w hw 25 rfl) (by decide) (by decide)) q2a q2c (g := (mkF m 12 #[rv a1, iv 1] [.ref a1])) rfl (by rw [hml]; rfl) (Steps.refl _) (argsL := []) (rest := []) (lenOf own_pd_1 rfl) rfl (by show 2 * 0 + _ ≤ _; exact Nat.le_of_eq rfl) (hb hby own_d_prog_80_method_20_12) (fun _ _ => ⟨rfl, e1, (by decide : 0 + 0 ≤ _), (by decide : 0 + 0 ≤ _)⟩)
  dsimp only [Pt.U, Pt.locs, Pt.cells, Pt.slots] at X2 l2 y2 z2 st2 hQ2
  subst l2 y2 z2
  obtain ⟨hR2, e2, rfl⟩ := hQ2
  have N2 := Fr.app N1 (Fr.nil n0)
  obtain rfl := hR2
  refine own_tr st2 ?_
  show own_E p e below _ T2 (mkF m 15 #[rv a1, iv 1] [.int 1])
  refine own_st (fun t k => XS.ifYes X2.here hx rfl (pc0 := 15) (pc' := 22) rfl (hb hby own_d_prog_80_method_20_15) rfl (by decide) (by decide) (by decide) k) ?_
  show own_E p e below _ T2 (mkF m 22 #[rv a1, iv 1] [])
  refine own_st (fun t k => XS.iconst X2.here hx rfl (hb hby own_d_prog_80_method_20_22) k) ?_
  show own_E p e below _ T2 (mkF m 23 #[rv a1, iv 1] [.int 0])
  refine own_retS X2 hx Bd.notSynchronized Bd.returns rfl (by decide) (hb hby own_d_prog_80_method_20_23) (by decide) (by decide) ?_
  exact ⟨rfl, e2, rfl⟩
def own_wk_DATE0_Q (a1 : Addr) (h0 : Heap) (v : Option Value) (h : Heap) (L : List Loc) : Prop := ((v = some (.int (1 : Int32)))) ∧ h = h0 ∧ L = []
theorem own_wk_DATE0_ef (m : MethodId) (a1 : Addr) : entryFrame m #[(.ref a1), (.int (0 : Int32))] 2 = mkF m 0 #[.val (.ref a1), .val (.int (0 : Int32))] [] := by first | (simp [entryFrame, mkF, argsToLocals, Value.category]; done) | rfl
set_option maxRecDepth 65536 in
set_option maxHeartbeats 40000000 in
theorem own_wk_DATE0 (l : Launch) (Z : State) (a0 : Array Value) (hw : ∀ d ∈ tables_1, d.before a0 Z = true) (ws : List Jvm.Cond) (a1 : Addr) (h0 : Heap) (n0 : Nat) (Z0 : n0 ≤ h0.size) (E_a1 : Exa Z h0 a1 "com/example/brazier/brazier/store/IndexTable$4") :
    MetFree l own_y5 (head1 (Jvm.Cond.code own_y5 prog_80_method_20_code 2 (some .boolean) :: ws) ({ frames := 1, cells := 0, slots := 0, locals := 12 } : Room)) (fun a U => a = #[(.ref a1), (.int (0 : Int32))] ∧ Z.Warmed39 U.vm ∧ U.heap = h0) (fun _ _ _ _ _ => True) (fun _ U o U' => ∃ v L, o = .returned v ∧ own_wk_DATE0_Q a1 h0 v U'.heap L ∧ FrameEnd U o U' L ({ frames := 1, cells := 0, slots := 0, locals := 12 } : Room).cells ({ frames := 1, cells := 0, slots := 0, locals := 12 } : Room).slots) := by
  refine MetFree.of_bodySF (plainFor_of_name own_pn_IndexTable) hisR ?_
  intro p e s m args below meth c s₁ Bd hml0 hP hK
  obtain ⟨rfl, hZ, hh⟩ := hP
  have hx := Bd.exec
  have hby := Bd.bytes
  have hml : c.maxLocals = 2 := hml0
  have hown : s.vm.findClass "com/example/brazier/brazier/store/IndexTable" = some m.cls := findClass_of_methodNamed Bd.named
  have hnm := (name_of_methodNamed Bd.named Bd.method).1
  have X0 : Stand p l e ({ frames := 1, cells := 0, slots := 0, locals := 12 } : Room) s m #[(.ref a1), (.int (0 : Int32))] below meth c s₁ [] 0 0 := Stand.of_body Bd
  have e0 : s₁.heap = h0 := by rw [← hh, Bd.state]; rfl
  show own_E p e below (own_K (own_wk_DATE0_Q a1 h0) s ({ frames := 1, cells := 0, slots := 0, locals := 12 } : Room).cells ({ frames := 1, cells := 0, slots := 0, locals := 12 } : Room).slots) s₁ (entryFrame m #[(.ref a1), (.int (0 : Int32))] 2)
  refine own_pre (own_wk_DATE0_ef m a1) ?_
  show own_E p e below _ s₁ (mkF m 0 #[rv a1, iv 0] [])
  refine own_st (fun t k => XS.aloadN X0.here hx rfl (hb hby own_d_prog_80_method_20_0) rfl rfl k) ?_
  show own_E p e below _ s₁ (mkF m 1 #[rv a1, iv 0] [.ref a1])
  obtain ⟨cq1, kq1, q1a, q1b, q1c⟩ := isOf hZ e0 E_a1
  obtain ⟨_, _, ⟨T1, L1, k1, n1⟩, -, X1, ⟨Lc1, hQ1, l1, y1, z1⟩, st1⟩ := X0.virtualBack hx (y := own_y0) (z := own_y0) hown (mvT hZ (own_w hw 9 rfl)) (mvT hZ (own_w hw 10 rfl)) (notFace_of_selects (args := #[]) (mvT hZ (own_w hw 30 rfl))) (mvT hZ (own_w hw 30 rfl)) (mvT hZ (own_w hw 11 rfl)) (by decide) (backOf (W := 0) (own_sr l Z a0 hw [] a1 h0 n0 Z0 ) hZ (own_w hw 13 rfl) (own_w hw 2 rfl) (by decide) (by decide)) q1a q1c (g := (mkF m 1 #[rv a1, iv 0] [.ref a1])) rfl (by rw [hml]; rfl) (Steps.refl _) (argsL := []) (rest := []) (lenOf own_pd_0 rfl) rfl (by show 2 * 0 + _ ≤ _; exact Nat.le_of_eq rfl) (hb hby own_d_prog_80_method_20_1) (fun _ _ => ⟨rfl, e0, (by decide : 0 + 0 ≤ _), (by decide : 0 + 0 ≤ _)⟩)
  dsimp only [Pt.U, Pt.locs, Pt.cells, Pt.slots] at X1 l1 y1 z1 st1 hQ1
  subst l1 y1 z1
  obtain ⟨hR1, e1, rfl⟩ := hQ1
  have N1 := Fr.app (Fr.nil n0) (Fr.nil n0)
  obtain rfl := hR1
  refine own_tr st1 ?_
  show own_E p e below _ T1 (mkF m 4 #[rv a1, iv 0] [.null])
  refine own_st (fun t k => XS.ifnonnullNo X1.here hx rfl (hb hby own_d_prog_80_method_20_4) rfl k) ?_
  show own_E p e below _ T1 (mkF m 7 #[rv a1, iv 0] [])
  refine own_st (fun t k => XS.iloadN X1.here hx rfl (hb hby own_d_prog_80_method_20_7) rfl k) ?_
  show own_E p e below _ T1 (mkF m 8 #[rv a1, iv 0] [.int 0])
  refine own_st (fun t k => XS.ifYes X1.here hx rfl (pc0 := 8) (pc' := 18) rfl (hb hby own_d_prog_80_method_20_8) rfl (by decide) (by decide) (by decide) k) ?_
  show own_E p e below _ T1 (mkF m 18 #[rv a1, iv 0] [])
  refine own_st (fun t k => XS.iconst X1.here hx rfl (hb hby own_d_prog_80_method_20_18) k) ?_
  show own_E p e below _ T1 (mkF m 19 #[rv a1, iv 0] [.int 1])
  refine own_st (fun t k => XS.goto X1.here hx rfl (pc0 := 19) (pc' := 23) rfl (hb hby own_d_prog_80_method_20_19) (by decide) (by decide) k) ?_
  show own_E p e below _ T1 (mkF m 23 #[rv a1, iv 0] [.int 1])
  refine own_retS X1 hx Bd.notSynchronized Bd.returns rfl (by decide) (hb hby own_d_prog_80_method_20_23) (by decide) (by decide) ?_
  exact ⟨rfl, e1, rfl⟩
def own_wk_DATE1_Q (a1 : Addr) (h0 : Heap) (v : Option Value) (h : Heap) (L : List Loc) : Prop := ((v = some (.int (0 : Int32)))) ∧ h = h0 ∧ L = []
theorem own_wk_DATE1_ef (m : MethodId) (a1 : Addr) : entryFrame m #[(.ref a1), (.int (1 : Int32))] 2 = mkF m 0 #[.val (.ref a1), .val (.int (1 : Int32))] [] := by first | (simp [entryFrame, mkF, argsToLocals, Value.category]; done) | rfl
set_option maxRecDepth 65536 in
set_option maxHeartbeats 40000000 in
theorem own_wk_DATE1 (l : Launch) (Z : State) (a0 : Array Value) (hw : ∀ d ∈ tables_1, d.before a0 Z = true) (ws : List Jvm.Cond) (a1 : Addr) (h0 : Heap) (n0 : Nat) (Z0 : n0 ≤ h0.size) (E_a1 : Exa Z h0 a1 "com/example/brazier/brazier/store/IndexTable$4") :
    MetFree l own_y5 (head1 (Jvm.Cond.code own_y5 prog_80_method_20_code 2 (some .boolean) :: ws) ({ frames := 1, cells := 0, slots := 0, locals := 12 } : Room)) (fun a U => a = #[(.ref a1), (.int (1 : Int32))] ∧ Z.Warmed39 U.vm ∧ U.heap = h0) (fun _ _ _ _ _ => True) (fun _ U o U' => ∃ v L, o = .returned v ∧ own_wk_DATE1_Q a1 h0 v U'.heap L ∧ FrameEnd U o U' L ({ frames := 1, cells := 0, slots := 0, locals := 12 } : Room).cells ({ frames := 1, cells := 0, slots := 0, locals := 12 } : Room).slots) := by
  refine MetFree.of_bodySF (plainFor_of_name own_pn_IndexTable) hisR ?_
  intro p e s m args below meth c s₁ Bd hml0 hP hK
  obtain ⟨rfl, hZ, hh⟩ := hP
  have hx := Bd.exec
  have hby := Bd.bytes
  have hml : c.maxLocals = 2 := hml0
  have hown : s.vm.findClass "com/example/brazier/brazier/store/IndexTable" = some m.cls := findClass_of_methodNamed Bd.named
  have hnm := (name_of_methodNamed Bd.named Bd.method).1
  have X0 : Stand p l e ({ frames := 1, cells := 0, slots := 0, locals := 12 } : Room) s m #[(.ref a1), (.int (1 : Int32))] below meth c s₁ [] 0 0 := Stand.of_body Bd
  have e0 : s₁.heap = h0 := by rw [← hh, Bd.state]; rfl
  show own_E p e below (own_K (own_wk_DATE1_Q a1 h0) s ({ frames := 1, cells := 0, slots := 0, locals := 12 } : Room).cells ({ frames := 1, cells := 0, slots := 0, locals := 12 } : Room).slots) s₁ (entryFrame m #[(.ref a1), (.int (1 : Int32))] 2)
  refine own_pre (own_wk_DATE1_ef m a1) ?_
  show own_E p e below _ s₁ (mkF m 0 #[rv a1, iv 1] [])
  refine own_st (fun t k => XS.aloadN X0.here hx rfl (hb hby own_d_prog_80_method_20_0) rfl rfl k) ?_
  show own_E p e below _ s₁ (mkF m 1 #[rv a1, iv 1] [.ref a1])
  obtain ⟨cq1, kq1, q1a, q1b, q1c⟩ := isOf hZ e0 E_a1
  obtain ⟨_, _, ⟨T1, L1, k1, n1⟩, -, X1, ⟨Lc1, hQ1, l1, y1, z1⟩, st1⟩ := X0.virtualBack hx (y := own_y0) (z := own_y0) hown (mvT hZ (own_w hw 9 rfl)) (mvT hZ (own_w hw 10 rfl)) (notFace_of_selects (args := #[]) (mvT hZ (own_w hw 30 rfl))) (mvT hZ (own_w hw 30 rfl)) (mvT hZ (own_w hw 11 rfl)) (by decide) (backOf (W := 0) (own_sr l Z a0 hw [] a1 h0 n0 Z0 ) hZ (own_w hw 13 rfl) (own_w hw 2 rfl) (by decide) (by decide)) q1a q1c (g := (mkF m 1 #[rv a1, iv 1] [.ref a1])) rfl (by rw [hml]; rfl) (Steps.refl _) (argsL := []) (rest := []) (lenOf own_pd_0 rfl) rfl (by show 2 * 0 + _ ≤ _; exact Nat.le_of_eq rfl) (hb hby own_d_prog_80_method_20_1) (fun _ _ => ⟨rfl, e0, (by decide : 0 + 0 ≤ _), (by decide : 0 + 0 ≤ _)⟩)
  dsimp only [Pt.U, Pt.locs, Pt.cells, Pt.slots] at X1 l1 y1 z1 st1 hQ1
  subst l1 y1 z1
  obtain ⟨hR1, e1, rfl⟩ := hQ1
  have N1 := Fr.app (Fr.nil n0) (Fr.nil n0)
  obtain rfl := hR1
  refine own_tr st1 ?_
  show own_E p e below _ T1 (mkF m 4 #[rv a1, iv 1] [.null])
  refine own_st (fun t k => XS.ifnonnullNo X1.here hx rfl (hb hby own_d_prog_80_method_20_4) rfl k) ?_
  show own_E p e below _ T1 (mkF m 7 #[rv a1, iv 1] [])
  refine own_st (fun t k => XS.iloadN X1.here hx rfl (hb hby own_d_prog_80_method_20_7) rfl k) ?_
  show own_E p e below _ T1 (mkF m 8 #[rv a1, iv 1] [.int 1])
  refine own_st (fun t k => XS.ifNo X1.here hx rfl (hb hby own_d_prog_80_method_20_8) rfl (by decide) k) ?_
  show own_E p e below _ T1 (mkF m 11 #[rv a1, iv 1] [])
  refine own_st (fun t k => XS.aloadN X1.here hx rfl (hb hby own_d_prog_80_method_20_11) rfl rfl k) ?_
  show own_E p e below _ T1 (mkF m 12 #[rv a1, iv 1] [.ref a1])
  obtain ⟨cq2, kq2, q2a, q2b, q2c⟩ := isOf hZ e1 E_a1
  obtain ⟨_, _, ⟨T2, L2, k2, n2⟩, -, X2, ⟨Lc2, hQ2, l2, y2, z2⟩, st2⟩ := X1.virtualBack hx (y := own_y1) (z := own_y2) hown (mvT hZ (own_w hw 14 rfl)) (mvT hZ (own_w hw 15 rfl)) (notFace_of_selects (args := #[]) (mvT hZ (own_w hw 17 rfl))) (mvT hZ (own_w hw 31 rfl)) (mvT hZ (own_w hw 32 rfl)) (by decide) (backOf (W := 0) (own_hh4 l Z a0 hw [] a1 h0 n0 Z0 ) hZ (own_w hw 34 rfl) (own_w hw 33 rfl) (by decide) (by decide)) q2a q2c (g := (mkF m 12 #[rv a1, iv 1] [.ref a1])) rfl (by rw [hml]; rfl) (Steps.refl _) (argsL := []) (rest := []) (lenOf own_pd_1 rfl) rfl (by show 2 * 0 + _ ≤ _; exact Nat.le_of_eq rfl) (hb hby own_d_prog_80_method_20_12) (fun _ _ => ⟨rfl, e1, (by decide : 0 + 0 ≤ _), (by decide : 0 + 0 ≤ _)⟩)
  dsimp only [Pt.U, Pt.locs, Pt.cells, Pt.slots] at X2 l2 y2 z2 st2 hQ2
  subst l2 y2 z2
  obtain ⟨hR2, e2, rfl⟩ := hQ2
  have N2 := Fr.app N1 (Fr.nil n0)
  obtain rfl := hR2
  refine own_tr st2 ?_
  show own_E p e below _ T2 (mkF m 15 #[rv a1, iv 1] [.int 1])
  refine own_st (fun t k => XS.ifYes X2.here hx rfl (pc0 := 15) (pc' := 22) rfl (hb hby own_d_prog_80_method_20_15) rfl (by decide) (by decide) (by decide) k) ?_
  show own_E p e below _ T2 (mkF m 22 #[rv a1, iv 1] [])
  refine own_st (fun t k => XS.iconst X2.here hx rfl (hb hby own_d_prog_80_method_20_22) k) ?_
  show own_E p e below _ T2 (mkF m 23 #[rv a1, iv 1] [.int 0])
  refine own_retS X2 hx Bd.notSynchronized Bd.returns rfl (by decide) (hb hby own_d_prog_80_method_20_23) (by decide) (by decide) ?_
  exact ⟨rfl, e2, rfl⟩
def own_wk_REFERENCE0_Q (Z : State) (a1 : Addr) (h0 : Heap) (n0 : Nat) (v : Option Value) (h : Heap) (L : List Loc) : Prop := v = some (.int (0 : Int32)) ∧ Fr n0 L ∧ Keep h0 h []
theorem own_wk_REFERENCE0_ef (m : MethodId) (a1 : Addr) : entryFrame m #[(.ref a1), (.int (0 : Int32))] 2 = mkF m 0 #[.val (.ref a1), .val (.int (0 : Int32))] [] := by first | (simp [entryFrame, mkF, argsToLocals, Value.category]; done) | rfl
set_option maxRecDepth 65536 in
set_option maxHeartbeats 40000000 in
theorem own_wk_REFERENCE0 (l : Launch) (Z : State) (a0 : Array Value) (hw : ∀ d ∈ tables_1, d.before a0 Z = true) (ws : List Jvm.Cond) (a1 : Addr) (h0 : Heap) (n0 : Nat) (Z0 : n0 ≤ h0.size) (E_a1 : Exa Z h0 a1 "com/example/brazier/brazier/store/IndexTable$2") :
    MetFree l own_y5 (head1 (Jvm.Cond.code own_y5 prog_80_method_20_code 2 (some .boolean) :: ws) ({ frames := 1, cells := 2, slots := 148, locals := 12 } : Room)) (fun a U => a = #[(.ref a1), (.int (0 : Int32))] ∧ Z.Warmed39 U.vm ∧ U.heap = h0) (fun _ _ _ _ _ => True) (fun _ U o U' => ∃ v L, o = .returned v ∧ own_wk_REFERENCE0_Q Z a1 h0 n0 v U'.heap L ∧ ReturnedEndW U o U' L ({ frames := 1, cells := 2, slots := 148, locals := 12 } : Room).cells ({ frames := 1, cells := 2, slots := 148, locals := 12 } : Room).slots) := by
  refine MetFree.of_bodySF (plainFor_of_name own_pn_IndexTable) hisR ?_
  intro p e s m args below meth c s₁ Bd hml0 hP hK
  obtain ⟨rfl, hZ, hh⟩ := hP
  have hx := Bd.exec
  have hby := Bd.bytes
  have hml : c.maxLocals = 2 := hml0
  have hown : s.vm.findClass "com/example/brazier/brazier/store/IndexTable" = some m.cls := findClass_of_methodNamed Bd.named
  have hnm := (name_of_methodNamed Bd.named Bd.method).1
  have X0 : Stand p l e ({ frames := 1, cells := 2, slots := 148, locals := 12 } : Room) s m #[(.ref a1), (.int (0 : Int32))] below meth c s₁ [] 0 0 := Stand.of_body Bd
  have e0 : s₁.heap = h0 := by rw [← hh, Bd.state]; rfl
  show own_E p e below (own_KW (own_wk_REFERENCE0_Q Z a1 h0 n0) s ({ frames := 1, cells := 2, slots := 148, locals := 12 } : Room).cells ({ frames := 1, cells := 2, slots := 148, locals := 12 } : Room).slots) s₁ (entryFrame m #[(.ref a1), (.int (0 : Int32))] 2)
  refine own_pre (own_wk_REFERENCE0_ef m a1) ?_
  show own_E p e below _ s₁ (mkF m 0 #[rv a1, iv 0] [])
  refine own_st (fun t k => XS.aloadN X0.here hx rfl (hb hby own_d_prog_80_method_20_0) rfl rfl k) ?_
  show own_E p e below _ s₁ (mkF m 1 #[rv a1, iv 0] [.ref a1])
  obtain ⟨cq1, kq1, q1a, q1b, q1c⟩ := isOf hZ e0 E_a1
  obtain ⟨_, _, ⟨T1, L1, k1, n1⟩, -, X1, hS1, hgr1, ⟨Lc1, hQ1, l1, y1, z1⟩, st1⟩ := X0.virtualBackS hx (y := own_y0) (z := own_y4) hown (mvT hZ (own_w hw 9 rfl)) (mvT hZ (own_w hw 10 rfl)) (notFace_of_selects (args := #[]) (mvT hZ (own_w hw 12 rfl))) (mvT hZ (own_w hw 38 rfl)) (mvT hZ (own_w hw 39 rfl)) (by decide) (backOfS (W := 0) (own_sr2 l Z a0 hw [] a1 h0 n0 Z0 ) hZ (own_w hw 41 rfl) (own_w hw 40 rfl) (by decide) (by decide)) q1a q1c (g := (mkF m 1 #[rv a1, iv 0] [.ref a1])) rfl (by rw [hml]; rfl) (Steps.refl _) (argsL := []) (rest := []) (lenOf own_pd_0 rfl) rfl (by show 2 * 0 + _ ≤ _; exact Nat.le_of_eq rfl) (hb hby own_d_prog_80_method_20_1) (fun _ _ => ⟨rfl, e0, (by decide : 0 + 2 ≤ _), (by decide : 0 + 148 ≤ _)⟩)
  dsimp only [Pt.U, Pt.locs, Pt.cells, Pt.slots] at X1 l1 y1 z1 st1 hQ1 hS1 hgr1
  subst l1 y1 z1
  have hZ1 := own_Zw hZ hS1
  have ho1 := own_ow hown hS1
  have hk1 := Nat.le_refl T1.heap.size
  obtain ⟨b1_o0, rfl, Nq1, Kq1⟩ := hQ1
  have N1 := Fr.app (Fr.nil n0) Nq1
  have e1 : T1.heap = T1.heap := rfl
  have Z2 := Nat.le_trans Z0 Kq1.1
  have K3 : Keep h0 _ [] := (Keep.refl h0 []).trans Kq1 all0
  refine own_tr st1 ?_
  show own_E p e below _ T1 (mkF m 4 #[rv a1, iv 0] [.ref b1_o0])
  refine own_st (fun t k => XS.ifnonnullYes X1.here hx rfl (pc0 := 4) (pc' := 22) rfl (hb hby own_d_prog_80_method_20_4) rfl (by decide) (by decide) k) ?_
  show own_E p e below _ T1 (mkF m 22 #[rv a1, iv 0] [])
  refine own_st (fun t k => XS.iconst X1.here hx rfl (hb hby own_d_prog_80_method_20_22) k) ?_
  show own_E p e below _ T1 (mkF m 23 #[rv a1, iv 0] [.int 0])
  refine own_retSW X1 hS1 (by rw [e1]; exact hk1) hx Bd.notSynchronized Bd.returns rfl (by decide) (hb hby own_d_prog_80_method_20_23) (by decide) (by decide) ?_
  show own_wk_REFERENCE0_Q Z a1 h0 n0 _ T1.heap _
  rw [e1]
  exact ⟨rfl, N1, K3⟩
def own_wk_REFERENCE1_Q (Z : State) (a1 : Addr) (h0 : Heap) (n0 : Nat) (v : Option Value) (h : Heap) (L : List Loc) : Prop := v = some (.int (0 : Int32)) ∧ Fr n0 L ∧ Keep h0 h []
theorem own_wk_REFERENCE1_ef (m : MethodId) (a1 : Addr) : entryFrame m #[(.ref a1), (.int (1 : Int32))] 2 = mkF m 0 #[.val (.ref a1), .val (.int (1 : Int32))] [] := by first | (simp [entryFrame, mkF, argsToLocals, Value.category]; done) | rfl
set_option maxRecDepth 65536 in
set_option maxHeartbeats 40000000 in
theorem own_wk_REFERENCE1 (l : Launch) (Z : State) (a0 : Array Value) (hw : ∀ d ∈ tables_1, d.before a0 Z = true) (ws : List Jvm.Cond) (a1 : Addr) (h0 : Heap) (n0 : Nat) (Z0 : n0 ≤ h0.size) (E_a1 : Exa Z h0 a1 "com/example/brazier/brazier/store/IndexTable$2") :
    MetFree l own_y5 (head1 (Jvm.Cond.code own_y5 prog_80_method_20_code 2 (some .boolean) :: ws) ({ frames := 1, cells := 2, slots := 148, locals := 12 } : Room)) (fun a U => a = #[(.ref a1), (.int (1 : Int32))] ∧ Z.Warmed39 U.vm ∧ U.heap = h0) (fun _ _ _ _ _ => True) (fun _ U o U' => ∃ v L, o = .returned v ∧ own_wk_REFERENCE1_Q Z a1 h0 n0 v U'.heap L ∧ ReturnedEndW U o U' L ({ frames := 1, cells := 2, slots := 148, locals := 12 } : Room).cells ({ frames := 1, cells := 2, slots := 148, locals := 12 } : Room).slots) := by
  refine MetFree.of_bodySF (plainFor_of_name own_pn_IndexTable) hisR ?_
  intro p e s m args below meth c s₁ Bd hml0 hP hK
  obtain ⟨rfl, hZ, hh⟩ := hP
  have hx := Bd.exec
  have hby := Bd.bytes
  have hml : c.maxLocals = 2 := hml0
  have hown : s.vm.findClass "com/example/brazier/brazier/store/IndexTable" = some m.cls := findClass_of_methodNamed Bd.named
  have hnm := (name_of_methodNamed Bd.named Bd.method).1
  have X0 : Stand p l e ({ frames := 1, cells := 2, slots := 148, locals := 12 } : Room) s m #[(.ref a1), (.int (1 : Int32))] below meth c s₁ [] 0 0 := Stand.of_body Bd
  have e0 : s₁.heap = h0 := by rw [← hh, Bd.state]; rfl
  show own_E p e below (own_KW (own_wk_REFERENCE1_Q Z a1 h0 n0) s ({ frames := 1, cells := 2, slots := 148, locals := 12 } : Room).cells ({ frames := 1, cells := 2, slots := 148, locals := 12 } : Room).slots) s₁ (entryFrame m #[(.ref a1), (.int (1 : Int32))] 2)
  refine own_pre (own_wk_REFERENCE1_ef m a1) ?_
  show own_E p e below _ s₁ (mkF m 0 #[rv a1, iv 1] [])
  refine own_st (fun t k => XS.aloadN X0.here hx rfl (hb hby own_d_prog_80_method_20_0) rfl rfl k) ?_
  show own_E p e below _ s₁ (mkF m 1 #[rv a1, iv 1] [.ref a1])
  obtain ⟨cq1, kq1, q1a, q1b, q1c⟩ := isOf hZ e0 E_a1
  obtain ⟨_, _, ⟨T1, L1, k1, n1⟩, -, X1, hS1, hgr1, ⟨Lc1, hQ1, l1, y1, z1⟩, st1⟩ := X0.virtualBackS hx (y := own_y0) (z := own_y4) hown (mvT hZ (own_w hw 9 rfl)) (mvT hZ (own_w hw 10 rfl)) (notFace_of_selects (args := #[]) (mvT hZ (own_w hw 12 rfl))) (mvT hZ (own_w hw 38 rfl)) (mvT hZ (own_w hw 39 rfl)) (by decide) (backOfS (W := 0) (own_sr2 l Z a0 hw [] a1 h0 n0 Z0 ) hZ (own_w hw 41 rfl) (own_w hw 40 rfl) (by decide) (by decide)) q1a q1c (g := (mkF m 1 #[rv a1, iv 1] [.ref a1])) rfl (by rw [hml]; rfl) (Steps.refl _) (argsL := []) (rest := []) (lenOf own_pd_0 rfl) rfl (by show 2 * 0 + _ ≤ _; exact Nat.le_of_eq rfl) (hb hby own_d_prog_80_method_20_1) (fun _ _ => ⟨rfl, e0, (by decide : 0 + 2 ≤ _), (by decide : 0 + 148 ≤ _)⟩)
  dsimp only [Pt.U, Pt.locs, Pt.cells, Pt.slots] at X1 l1 y1 z1 st1 hQ1 hS1 hgr1
  subst l1 y1 z1
  have hZ1 := own_Zw hZ hS1
  have ho1 := own_ow hown hS1
  have hk1 := Nat.le_refl T1.heap.size
  obtain ⟨b1_o0, rfl, Nq1, Kq1⟩ := hQ1
  have N1 := Fr.app (Fr.nil n0) Nq1
  have e1 : T1.heap = T1.heap := rfl
  have Z2 := Nat.le_trans Z0 Kq1.1
  have K3 : Keep h0 _ [] := (Keep.refl h0 []).trans Kq1 all0
  refine own_tr st1 ?_
  show own_E p e below _ T1 (mkF m 4 #[rv a1, iv 1] [.ref b1_o0])
  refine own_st (fun t k => XS.ifnonnullYes X1.here hx rfl (pc0 := 4) (pc' := 22) rfl (hb hby own_d_prog_80_method_20_4) rfl (by decide) (by decide) k) ?_
  show own_E p e below _ T1 (mkF m 22 #[rv a1, iv 1] [])
  refine own_st (fun t k => XS.iconst X1.here hx rfl (hb hby own_d_prog_80_method_20_22) k) ?_
  show own_E p e below _ T1 (mkF m 23 #[rv a1, iv 1] [.int 0])
  refine own_retSW X1 hS1 (by rw [e1]; exact hk1) hx Bd.notSynchronized Bd.returns rfl (by decide) (hb hby own_d_prog_80_method_20_23) (by decide) (by decide) ?_
  show own_wk_REFERENCE1_Q Z a1 h0 n0 _ T1.heap _
  rw [e1]
  exact ⟨rfl, N1, K3⟩
def own_wk_STRING0_Q (a1 : Addr) (h0 : Heap) (v : Option Value) (h : Heap) (L : List Loc) : Prop := ((v = some (.int (1 : Int32)))) ∧ h = h0 ∧ L = []
theorem own_wk_STRING0_ef (m : MethodId) (a1 : Addr) : entryFrame m #[(.ref a1), (.int (0 : Int32))] 2 = mkF m 0 #[.val (.ref a1), .val (.int (0 : Int32))] [] := by first | (simp [entryFrame, mkF, argsToLocals, Value.category]; done) | rfl
set_option maxRecDepth 65536 in
set_option maxHeartbeats 40000000 in
theorem own_wk_STRING0 (l : Launch) (Z : State) (a0 : Array Value) (hw : ∀ d ∈ tables_1, d.before a0 Z = true) (ws : List Jvm.Cond) (a1 : Addr) (h0 : Heap) (n0 : Nat) (Z0 : n0 ≤ h0.size) (E_a1 : Exa Z h0 a1 "com/example/brazier/brazier/store/IndexTable$3") :
    MetFree l own_y5 (head1 (Jvm.Cond.code own_y5 prog_80_method_20_code 2 (some .boolean) :: ws) ({ frames := 1, cells := 0, slots := 0, locals := 12 } : Room)) (fun a U => a = #[(.ref a1), (.int (0 : Int32))] ∧ Z.Warmed39 U.vm ∧ U.heap = h0) (fun _ _ _ _ _ => True) (fun _ U o U' => ∃ v L, o = .returned v ∧ own_wk_STRING0_Q a1 h0 v U'.heap L ∧ FrameEnd U o U' L ({ frames := 1, cells := 0, slots := 0, locals := 12 } : Room).cells ({ frames := 1, cells := 0, slots := 0, locals := 12 } : Room).slots) := by
  refine MetFree.of_bodySF (plainFor_of_name own_pn_IndexTable) hisR ?_
  intro p e s m args below meth c s₁ Bd hml0 hP hK
  obtain ⟨rfl, hZ, hh⟩ := hP
  have hx := Bd.exec
  have hby := Bd.bytes
  have hml : c.maxLocals = 2 := hml0
  have hown : s.vm.findClass "com/example/brazier/brazier/store/IndexTable" = some m.cls := findClass_of_methodNamed Bd.named
  have hnm := (name_of_methodNamed Bd.named Bd.method).1
  have X0 : Stand p l e ({ frames := 1, cells := 0, slots := 0, locals := 12 } : Room) s m #[(.ref a1), (.int (0 : Int32))] below meth c s₁ [] 0 0 := Stand.of_body Bd
  have e0 : s₁.heap = h0 := by rw [← hh, Bd.state]; rfl
  show own_E p e below (own_K (own_wk_STRING0_Q a1 h0) s ({ frames := 1, cells := 0, slots := 0, locals := 12 } : Room).cells ({ frames := 1, cells := 0, slots := 0, locals := 12 } : Room).slots) s₁ (entryFrame m #[(.ref a1), (.int (0 : Int32))] 2)
  refine own_pre (own_wk_STRING0_ef m a1) ?_
  show own_E p e below _ s₁ (mkF m 0 #[rv a1, iv 0] [])
  refine own_st (fun t k => XS.aloadN X0.here hx rfl (hb hby own_d_prog_80_method_20_0) rfl rfl k) ?_
  show own_E p e below _ s₁ (mkF m 1 #[rv a1, iv 0] [.ref a1])
  obtain ⟨cq1, kq1, q1a, q1b, q1c⟩ := isOf hZ e0 E_a1
  obtain ⟨_, _, ⟨T1, L1, k1, n1⟩, -, X1, ⟨Lc1, hQ1, l1, y1, z1⟩, st1⟩ := X0.virtualBack hx (y := own_y0) (z := own_y0) hown (mvT hZ (own_w hw 9 rfl)) (mvT hZ (own_w hw 10 rfl)) (notFace_of_selects (args := #[]) (mvT hZ (own_w hw 53 rfl))) (mvT hZ (own_w hw 53 rfl)) (mvT hZ (own_w hw 11 rfl)) (by decide) (backOf (W := 0) (own_sr l Z a0 hw [] a1 h0 n0 Z0 ) hZ (own_w hw 13 rfl) (own_w hw 2 rfl) (by decide) (by decide)) q1a q1c (g := (mkF m 1 #[rv a1, iv 0] [.ref a1])) rfl (by rw [hml]; rfl) (Steps.refl _) (argsL := []) (rest := []) (lenOf own_pd_0 rfl) rfl (by show 2 * 0 + _ ≤ _; exact Nat.le_of_eq rfl) (hb hby own_d_prog_80_method_20_1) (fun _ _ => ⟨rfl, e0, (by decide : 0 + 0 ≤ _), (by decide : 0 + 0 ≤ _)⟩)
  dsimp only [Pt.U, Pt.locs, Pt.cells, Pt.slots] at X1 l1 y1 z1 st1 hQ1
  subst l1 y1 z1
  obtain ⟨hR1, e1, rfl⟩ := hQ1
  have N1 := Fr.app (Fr.nil n0) (Fr.nil n0)
  obtain rfl := hR1
  refine own_tr st1 ?_
  show own_E p e below _ T1 (mkF m 4 #[rv a1, iv 0] [.null])
  refine own_st (fun t k => XS.ifnonnullNo X1.here hx rfl (hb hby own_d_prog_80_method_20_4) rfl k) ?_
  show own_E p e below _ T1 (mkF m 7 #[rv a1, iv 0] [])
  refine own_st (fun t k => XS.iloadN X1.here hx rfl (hb hby own_d_prog_80_method_20_7) rfl k) ?_
  show own_E p e below _ T1 (mkF m 8 #[rv a1, iv 0] [.int 0])
  refine own_st (fun t k => XS.ifYes X1.here hx rfl (pc0 := 8) (pc' := 18) rfl (hb hby own_d_prog_80_method_20_8) rfl (by decide) (by decide) (by decide) k) ?_
  show own_E p e below _ T1 (mkF m 18 #[rv a1, iv 0] [])
  refine own_st (fun t k => XS.iconst X1.here hx rfl (hb hby own_d_prog_80_method_20_18) k) ?_
  show own_E p e below _ T1 (mkF m 19 #[rv a1, iv 0] [.int 1])
  refine own_st (fun t k => XS.goto X1.here hx rfl (pc0 := 19) (pc' := 23) rfl (hb hby own_d_prog_80_method_20_19) (by decide) (by decide) k) ?_
  show own_E p e below _ T1 (mkF m 23 #[rv a1, iv 0] [.int 1])
  refine own_retS X1 hx Bd.notSynchronized Bd.returns rfl (by decide) (hb hby own_d_prog_80_method_20_23) (by decide) (by decide) ?_
  exact ⟨rfl, e1, rfl⟩
def own_wk_STRING1_Q (a1 : Addr) (h0 : Heap) (v : Option Value) (h : Heap) (L : List Loc) : Prop := ((v = some (.int (1 : Int32)))) ∧ h = h0 ∧ L = []
theorem own_wk_STRING1_ef (m : MethodId) (a1 : Addr) : entryFrame m #[(.ref a1), (.int (1 : Int32))] 2 = mkF m 0 #[.val (.ref a1), .val (.int (1 : Int32))] [] := by first | (simp [entryFrame, mkF, argsToLocals, Value.category]; done) | rfl
set_option maxRecDepth 65536 in
set_option maxHeartbeats 40000000 in
theorem own_wk_STRING1 (l : Launch) (Z : State) (a0 : Array Value) (hw : ∀ d ∈ tables_1, d.before a0 Z = true) (ws : List Jvm.Cond) (a1 : Addr) (h0 : Heap) (n0 : Nat) (Z0 : n0 ≤ h0.size) (E_a1 : Exa Z h0 a1 "com/example/brazier/brazier/store/IndexTable$3") :
    MetFree l own_y5 (head1 (Jvm.Cond.code own_y5 prog_80_method_20_code 2 (some .boolean) :: ws) ({ frames := 1, cells := 0, slots := 0, locals := 12 } : Room)) (fun a U => a = #[(.ref a1), (.int (1 : Int32))] ∧ Z.Warmed39 U.vm ∧ U.heap = h0) (fun _ _ _ _ _ => True) (fun _ U o U' => ∃ v L, o = .returned v ∧ own_wk_STRING1_Q a1 h0 v U'.heap L ∧ FrameEnd U o U' L ({ frames := 1, cells := 0, slots := 0, locals := 12 } : Room).cells ({ frames := 1, cells := 0, slots := 0, locals := 12 } : Room).slots) := by
  refine MetFree.of_bodySF (plainFor_of_name own_pn_IndexTable) hisR ?_
  intro p e s m args below meth c s₁ Bd hml0 hP hK
  obtain ⟨rfl, hZ, hh⟩ := hP
  have hx := Bd.exec
  have hby := Bd.bytes
  have hml : c.maxLocals = 2 := hml0
  have hown : s.vm.findClass "com/example/brazier/brazier/store/IndexTable" = some m.cls := findClass_of_methodNamed Bd.named
  have hnm := (name_of_methodNamed Bd.named Bd.method).1
  have X0 : Stand p l e ({ frames := 1, cells := 0, slots := 0, locals := 12 } : Room) s m #[(.ref a1), (.int (1 : Int32))] below meth c s₁ [] 0 0 := Stand.of_body Bd
  have e0 : s₁.heap = h0 := by rw [← hh, Bd.state]; rfl
  show own_E p e below (own_K (own_wk_STRING1_Q a1 h0) s ({ frames := 1, cells := 0, slots := 0, locals := 12 } : Room).cells ({ frames := 1, cells := 0, slots := 0, locals := 12 } : Room).slots) s₁ (entryFrame m #[(.ref a1), (.int (1 : Int32))] 2)
  refine own_pre (own_wk_STRING1_ef m a1) ?_
  show own_E p e below _ s₁ (mkF m 0 #[rv a1, iv 1] [])
  refine own_st (fun t k => XS.aloadN X0.here hx rfl (hb hby own_d_prog_80_method_20_0) rfl rfl k) ?_
  show own_E p e below _ s₁ (mkF m 1 #[rv a1, iv 1] [.ref a1])
  obtain ⟨cq1, kq1, q1a, q1b, q1c⟩ := isOf hZ e0 E_a1
  obtain ⟨_, _, ⟨T1, L1, k1, n1⟩, -, X1, ⟨Lc1, hQ1, l1, y1, z1⟩, st1⟩ := X0.virtualBack hx (y := own_y0) (z := own_y0) hown (mvT hZ (own_w hw 9 rfl)) (mvT hZ (own_w hw 10 rfl)) (notFace_of_selects (args := #[]) (mvT hZ (own_w hw 53 rfl))) (mvT hZ (own_w hw 53 rfl)) (mvT hZ (own_w hw 11 rfl)) (by decide) (backOf (W := 0) (own_sr l Z a0 hw [] a1 h0 n0 Z0 ) hZ (own_w hw 13 rfl) (own_w hw 2 rfl) (by decide) (by decide)) q1a q1c (g := (mkF m 1 #[rv a1, iv 1] [.ref a1])) rfl (by rw [hml]; rfl) (Steps.refl _) (argsL := []) (rest := []) (lenOf own_pd_0 rfl) rfl (by show 2 * 0 + _ ≤ _; exact Nat.le_of_eq rfl) (hb hby own_d_prog_80_method_20_1) (fun _ _ => ⟨rfl, e0, (by decide : 0 + 0 ≤ _), (by decide : 0 + 0 ≤ _)⟩)
  dsimp only [Pt.U, Pt.locs, Pt.cells, Pt.slots] at X1 l1 y1 z1 st1 hQ1
  subst l1 y1 z1
  obtain ⟨hR1, e1, rfl⟩ := hQ1
  have N1 := Fr.app (Fr.nil n0) (Fr.nil n0)
  obtain rfl := hR1
  refine own_tr st1 ?_
  show own_E p e below _ T1 (mkF m 4 #[rv a1, iv 1] [.null])
  refine own_st (fun t k => XS.ifnonnullNo X1.here hx rfl (hb hby own_d_prog_80_method_20_4) rfl k) ?_
  show own_E p e below _ T1 (mkF m 7 #[rv a1, iv 1] [])
  refine own_st (fun t k => XS.iloadN X1.here hx rfl (hb hby own_d_prog_80_method_20_7) rfl k) ?_
  show own_E p e below _ T1 (mkF m 8 #[rv a1, iv 1] [.int 1])
  refine own_st (fun t k => XS.ifNo X1.here hx rfl (hb hby own_d_prog_80_method_20_8) rfl (by decide) k) ?_
  show own_E p e below _ T1 (mkF m 11 #[rv a1, iv 1] [])
  refine own_st (fun t k => XS.aloadN X1.here hx rfl (hb hby own_d_prog_80_method_20_11) rfl rfl k) ?_
  show own_E p e below _ T1 (mkF m 12 #[rv a1, iv 1] [.ref a1])
  obtain ⟨cq2, kq2, q2a, q2b, q2c⟩ := isOf hZ e1 E_a1
  obtain ⟨_, _, ⟨T2, L2, k2, n2⟩, -, X2, ⟨Lc2, hQ2, l2, y2, z2⟩, st2⟩ := X1.virtualBack hx (y := own_y1) (z := own_y1) hown (mvT hZ (own_w hw 14 rfl)) (mvT hZ (own_w hw 15 rfl)) (notFace_of_selects (args := #[]) (mvT hZ (own_w hw 54 rfl))) (mvT hZ (own_w hw 54 rfl)) (mvT hZ (own_w hw 16 rfl)) (by decide) (backOf (W := 0) (own_hh l Z a0 hw [] a1 h0 n0 Z0 ) hZ (own_w hw 18 rfl) (own_w hw 2 rfl) (by decide) (by decide)) q2a q2c (g := (mkF m 12 #[rv a1, iv 1] [.ref a1])) rfl (by rw [hml]; rfl) (Steps.refl _) (argsL := []) (rest := []) (lenOf own_pd_1 rfl) rfl (by show 2 * 0 + _ ≤ _; exact Nat.le_of_eq rfl) (hb hby own_d_prog_80_method_20_12) (fun _ _ => ⟨rfl, e1, (by decide : 0 + 0 ≤ _), (by decide : 0 + 0 ≤ _)⟩)
  dsimp only [Pt.U, Pt.locs, Pt.cells, Pt.slots] at X2 l2 y2 z2 st2 hQ2
  subst l2 y2 z2
  obtain ⟨hR2, e2, rfl⟩ := hQ2
  have N2 := Fr.app N1 (Fr.nil n0)
  obtain rfl := hR2
  refine own_tr st2 ?_
  show own_E p e below _ T2 (mkF m 15 #[rv a1, iv 1] [.int 0])
  refine own_st (fun t k => XS.ifNo X2.here hx rfl (hb hby own_d_prog_80_method_20_15) rfl (by decide) k) ?_
  show own_E p e below _ T2 (mkF m 18 #[rv a1, iv 1] [])
  refine own_st (fun t k => XS.iconst X2.here hx rfl (hb hby own_d_prog_80_method_20_18) k) ?_
  show own_E p e below _ T2 (mkF m 19 #[rv a1, iv 1] [.int 1])
  refine own_st (fun t k => XS.goto X2.here hx rfl (pc0 := 19) (pc' := 23) rfl (hb hby own_d_prog_80_method_20_19) (by decide) (by decide) k) ?_
  show own_E p e below _ T2 (mkF m 23 #[rv a1, iv 1] [.int 1])
  refine own_retS X2 hx Bd.notSynchronized Bd.returns rfl (by decide) (hb hby own_d_prog_80_method_20_23) (by decide) (by decide) ?_
  exact ⟨rfl, e2, rfl⟩
theorem own_pd_3 : parseMethodDescriptor "(Z)Z" = some ⟨[.boolean], some .boolean⟩ := by decide +kernel
def own_law_Q (n0 : Nat) (v : Option Value) (h : Heap) (L : List Loc) : Prop := v = some (.int 1) ∧ Fr n0 L
theorem own_pn_IndexTableWalkedByKeyPinLaw : plainName "com/example/brazier/brazier/store/IndexTableWalkedByKeyPinLaw" = true := by first | (simp [plainName, overriddenIn]; done) | decide +kernel
theorem own_law_ef (m : MethodId) (aTOKEN : Addr) (aQUANTITY : Addr) (aDATE : Addr) (aREFERENCE : Addr) (aSTRING : Addr) (p1 : Int32) (p2 : Int32) : entryFrame m #[(.int p1), (.int p2)] maxLocals = mkF m 0 #[.val (.int p1), .val (.int p2), .unset, .unset, .unset, .unset] [] := by first | (simp [entryFrame, mkF, argsToLocals, Value.category, maxLocals]; done) | rfl
set_option maxRecDepth 65536 in
set_option maxHeartbeats 40000000 in
theorem own_law (l : Launch) (Z : State) (a0 : Array Value) (hw : ∀ d ∈ tables_1, d.before a0 Z = true) (ws : List Jvm.Cond) (aTOKEN : Addr) (aQUANTITY : Addr) (aDATE : Addr) (aREFERENCE : Addr) (aSTRING : Addr) (p1 : Int32) (p2 : Int32) (h0 : Heap) (n0 : Nat) (Z0 : n0 ≤ h0.size) (S_TOKEN : Sta Z h0 "com/example/brazier/brazier/store/IndexTable" "TOKEN" "Lcom/example/brazier/brazier/store/IndexTable;" (.ref aTOKEN)) (S_QUANTITY : Sta Z h0 "com/example/brazier/brazier/store/IndexTable" "QUANTITY" "Lcom/example/brazier/brazier/store/IndexTable;" (.ref aQUANTITY)) (S_DATE : Sta Z h0 "com/example/brazier/brazier/store/IndexTable" "DATE" "Lcom/example/brazier/brazier/store/IndexTable;" (.ref aDATE)) (S_REFERENCE : Sta Z h0 "com/example/brazier/brazier/store/IndexTable" "REFERENCE" "Lcom/example/brazier/brazier/store/IndexTable;" (.ref aREFERENCE)) (S_STRING : Sta Z h0 "com/example/brazier/brazier/store/IndexTable" "STRING" "Lcom/example/brazier/brazier/store/IndexTable;" (.ref aSTRING)) (E_TOKEN : Exa Z h0 aTOKEN "com/example/brazier/brazier/store/IndexTable$1") (E_QUANTITY : Exa Z h0 aQUANTITY "com/example/brazier/brazier/store/IndexTable$5") (E_DATE : Exa Z h0 aDATE "com/example/brazier/brazier/store/IndexTable$4") (E_REFERENCE : Exa Z h0 aREFERENCE "com/example/brazier/brazier/store/IndexTable$2") (E_STRING : Exa Z h0 aSTRING "com/example/brazier/brazier/store/IndexTable$3") :
    MetFree l x (head1 (Jvm.Cond.code x code maxLocals ret :: ws) room_1) (fun a U => a = #[(.int p1), (.int p2)] ∧ Z.Warmed39 U.vm ∧ U.heap = h0) (fun _ _ _ _ _ => True) (fun _ U o U' => ∃ v L, o = .returned v ∧ own_law_Q n0 v U'.heap L ∧ ReturnedEndW U o U' L room_1.cells room_1.slots) := by
  refine MetFree.of_bodySF (plainFor_of_name own_pn_IndexTableWalkedByKeyPinLaw) hisR ?_
  intro p e s m args below meth c s₁ Bd hml0 hP hK
  obtain ⟨rfl, hZ, hh⟩ := hP
  have hx := Bd.exec
  have hby := Bd.bytes
  have hml : c.maxLocals = 6 := hml0
  have hown : s.vm.findClass "com/example/brazier/brazier/store/IndexTableWalkedByKeyPinLaw" = some m.cls := findClass_of_methodNamed Bd.named
  have hnm := (name_of_methodNamed Bd.named Bd.method).1
  have X0 : Stand p l e room_1 s m #[(.int p1), (.int p2)] below meth c s₁ [] 0 0 := Stand.of_body Bd
  have e0 : s₁.heap = h0 := by rw [← hh, Bd.state]; rfl
  show own_E p e below (own_KW (own_law_Q n0) s room_1.cells room_1.slots) s₁ (entryFrame m #[(.int p1), (.int p2)] maxLocals)
  refine own_pre (own_law_ef m aTOKEN aQUANTITY aDATE aREFERENCE aSTRING p1 p2) ?_
  show own_E p e below _ s₁ (mkF m 0 #[iv p1, iv p2, .unset, .unset, .unset, .unset] [])
  refine own_st (fun t k => XS.iloadN X0.here hx rfl (hb hby at_0) rfl k) ?_
  show own_E p e below _ s₁ (mkF m 1 #[iv p1, iv p2, .unset, .unset, .unset, .unset] [.int p1])
  refine own_st (X0.ldcInt hx hown (mvT hZ (own_w hw 0 rfl)) (g := (mkF m 1 #[iv p1, iv p2, .unset, .unset, .unset, .unset] [.int p1])) rfl (hb hby at_1)) ?_
  show own_E p e below _ s₁ (mkF m 3 #[iv p1, iv p2, .unset, .unset, .unset, .unset] [.int 2147483647, .int p1])
  refine own_st (fun t k => XS.iand X0.here hx rfl (hb hby at_3) rfl k) ?_
  show own_E p e below _ s₁ (mkF m 4 #[iv p1, iv p2, .unset, .unset, .unset, .unset] [.int (p1 &&& (2147483647 : Int32))])
  refine own_st (fun t k => XS.iconst X0.here hx rfl (hb hby at_4) k) ?_
  show own_E p e below _ s₁ (mkF m 5 #[iv p1, iv p2, .unset, .unset, .unset, .unset] [.int 5, .int (p1 &&& (2147483647 : Int32))])
  refine own_st (fun t k => iremM X0 hx rfl (hb hby at_5) rfl (by decide) k) ?_
  show own_E p e below _ s₁ (mkF m 6 #[iv p1, iv p2, .unset, .unset, .unset, .unset] [.int ((p1 &&& (2147483647 : Int32)) % (5 : Int32))])
  refine own_st (fun t k => XS.istoreN X0.here hx rfl (hb hby at_6) rfl (l' := #[iv p1, iv p2, iv ((p1 &&& (2147483647 : Int32)) % (5 : Int32)), .unset, .unset, .unset]) rfl k) ?_
  show own_E p e below _ s₁ (mkF m 7 #[iv p1, iv p2, iv ((p1 &&& (2147483647 : Int32)) % (5 : Int32)), .unset, .unset, .unset] [])
  refine own_st (fun t k => XS.iloadN X0.here hx rfl (hb hby at_7) rfl k) ?_
  show own_E p e below _ s₁ (mkF m 8 #[iv p1, iv p2, iv ((p1 &&& (2147483647 : Int32)) % (5 : Int32)), .unset, .unset, .unset] [.int p2])
  refine own_st (fun t k => XS.iconst X0.here hx rfl (hb hby at_8) k) ?_
  show own_E p e below _ s₁ (mkF m 9 #[iv p1, iv p2, iv ((p1 &&& (2147483647 : Int32)) % (5 : Int32)), .unset, .unset, .unset] [.int 1, .int p2])
  refine own_st (fun t k => XS.iand X0.here hx rfl (hb hby at_9) rfl k) ?_
  show own_E p e below _ s₁ (mkF m 10 #[iv p1, iv p2, iv ((p1 &&& (2147483647 : Int32)) % (5 : Int32)), .unset, .unset, .unset] [.int (p2 &&& (1 : Int32))])
  by_cases hc1 : (p2 &&& (1 : Int32)) = (0 : Int32)
  · refine own_st (fun t k => XS.ifYes X0.here hx rfl (pc0 := 10) (pc' := 17) rfl (hb hby at_10) rfl ((if0 _ _).trans (teq hc1).1) (by decide) (by decide) k) ?_
    show own_E p e below _ s₁ (mkF m 17 #[iv p1, iv p2, iv ((p1 &&& (2147483647 : Int32)) % (5 : Int32)), .unset, .unset, .unset] [])
    refine own_st (fun t k => XS.iconst X0.here hx rfl (hb hby at_17) k) ?_
    show own_E p e below _ s₁ (mkF m 18 #[iv p1, iv p2, iv ((p1 &&& (2147483647 : Int32)) % (5 : Int32)), .unset, .unset, .unset] [.int 0])
    refine own_st (fun t k => XS.istoreN X0.here hx rfl (hb hby at_18) rfl (l' := #[iv p1, iv p2, iv ((p1 &&& (2147483647 : Int32)) % (5 : Int32)), iv 0, .unset, .unset]) rfl k) ?_
    show own_E p e below _ s₁ (mkF m 19 #[iv p1, iv p2, iv ((p1 &&& (2147483647 : Int32)) % (5 : Int32)), iv 0, .unset, .unset] [])
    refine own_st (fun t k => XS.iloadN X0.here hx rfl (hb hby at_19) rfl k) ?_
    show own_E p e below _ s₁ (mkF m 20 #[iv p1, iv p2, iv ((p1 &&& (2147483647 : Int32)) % (5 : Int32)), iv 0, .unset, .unset] [.int ((p1 &&& (2147483647 : Int32)) % (5 : Int32))])
    by_cases hc2 : ((p1 &&& (2147483647 : Int32)) % (5 : Int32)) = (0 : Int32)
    · refine own_st (fun t k => XS.ifNo X0.here hx rfl (hb hby at_20) rfl ((if0 _ _).trans (teq hc2).2) k) ?_
      show own_E p e below _ s₁ (mkF m 23 #[iv p1, iv p2, iv ((p1 &&& (2147483647 : Int32)) % (5 : Int32)), iv 0, .unset, .unset] [])
      obtain ⟨T3, X3, e3, st3⟩ := getS2 X0 hx hZ hown (host := "") (Or.inl (own_w hw 1 rfl)) Via.refl e0 S_TOKEN (g := (mkF m 23 #[iv p1, iv p2, iv ((p1 &&& (2147483647 : Int32)) % (5 : Int32)), iv 0, .unset, .unset] [])) rfl (hb hby at_23)
      refine own_st st3 ?_
      show own_E p e below _ T3 (mkF m 26 #[iv p1, iv p2, iv ((p1 &&& (2147483647 : Int32)) % (5 : Int32)), iv 0, .unset, .unset] [.ref aTOKEN])
      refine own_st (fun t k => XS.astore X3.here hx rfl (hb hby at_26) rfl rfl (l' := #[iv p1, iv p2, iv ((p1 &&& (2147483647 : Int32)) % (5 : Int32)), iv 0, rv aTOKEN, .unset]) rfl k) ?_
      show own_E p e below _ T3 (mkF m 28 #[iv p1, iv p2, iv ((p1 &&& (2147483647 : Int32)) % (5 : Int32)), iv 0, rv aTOKEN, .unset] [])
      refine own_st (fun t k => XS.iconst X3.here hx rfl (hb hby at_28) k) ?_
      show own_E p e below _ T3 (mkF m 29 #[iv p1, iv p2, iv ((p1 &&& (2147483647 : Int32)) % (5 : Int32)), iv 0, rv aTOKEN, .unset] [.int 1])
      refine own_st (fun t k => XS.istore X3.here hx rfl (hb hby at_29) rfl (l' := #[iv p1, iv p2, iv ((p1 &&& (2147483647 : Int32)) % (5 : Int32)), iv 0, rv aTOKEN, iv 1]) rfl k) ?_
      show own_E p e below _ T3 (mkF m 31 #[iv p1, iv p2, iv ((p1 &&& (2147483647 : Int32)) % (5 : Int32)), iv 0, rv aTOKEN, iv 1] [])
      refine own_st (fun t k => XS.goto X3.here hx rfl (pc0 := 31) (pc' := 106) rfl (hb hby at_31) (by decide) (by decide) k) ?_
      show own_E p e below _ T3 (mkF m 106 #[iv p1, iv p2, iv ((p1 &&& (2147483647 : Int32)) % (5 : Int32)), iv 0, rv aTOKEN, iv 1] [])
      refine own_st (fun t k => XS.aload X3.here hx rfl (hb hby at_106) rfl rfl k) ?_
      show own_E p e below _ T3 (mkF m 108 #[iv p1, iv p2, iv ((p1 &&& (2147483647 : Int32)) % (5 : Int32)), iv 0, rv aTOKEN, iv 1] [.ref aTOKEN])
      refine own_st (fun t k => XS.iloadN X3.here hx rfl (hb hby at_108) rfl k) ?_
      show own_E p e below _ T3 (mkF m 109 #[iv p1, iv p2, iv ((p1 &&& (2147483647 : Int32)) % (5 : Int32)), iv 0, rv aTOKEN, iv 1] [.int 0, .ref aTOKEN])
      obtain ⟨cq4, kq4, q4a, q4b, q4c⟩ := isOf hZ e3 E_TOKEN
      obtain ⟨_, _, ⟨T4, L4, k4, n4⟩, -, X4, ⟨Lc4, hQ4, l4, y4, z4⟩, st4⟩ := X3.virtualBack hx (y := own_y5) (z := own_y5) hown (mvT hZ (own_w hw 4 rfl)) (mvT hZ (own_w hw 5 rfl)) (notFace_of_selects (args := #[]) (mvT hZ (own_w hw 7 rfl))) (mvT hZ (own_w hw 7 rfl)) (mvT hZ (own_w hw 6 rfl)) (by decide) (backOf (W := 0) (own_wk_TOKEN0 l Z a0 hw [] aTOKEN h0 n0 Z0 E_TOKEN) hZ (own_w hw 8 rfl) (own_w hw 2 rfl) (by decide) (by decide)) q4a q4c (g := (mkF m 109 #[iv p1, iv p2, iv ((p1 &&& (2147483647 : Int32)) % (5 : Int32)), iv 0, rv aTOKEN, iv 1] [.int 0, .ref aTOKEN])) rfl (by rw [hml]; rfl) (Steps.refl _) (argsL := [(.int (0 : Int32))]) (rest := []) (lenOf own_pd_3 rfl) rfl (by show 2 * 0 + _ ≤ _; exact Nat.le_of_eq rfl) (hb hby at_109) (fun _ _ => ⟨rfl, e3, (by decide : 0 + 0 ≤ _), (by decide : 0 + 0 ≤ _)⟩)
      dsimp only [Pt.U, Pt.locs, Pt.cells, Pt.slots] at X4 l4 y4 z4 st4 hQ4
      subst l4 y4 z4
      obtain ⟨hR4, e4, rfl⟩ := hQ4
      have N4 := Fr.app (Fr.nil n0) (Fr.nil n0)
      obtain rfl := hR4
      refine own_tr st4 ?_
      show own_E p e below _ T4 (mkF m 112 #[iv p1, iv p2, iv ((p1 &&& (2147483647 : Int32)) % (5 : Int32)), iv 0, rv aTOKEN, iv 1] [.int 1])
      refine own_st (fun t k => XS.iload X4.here hx rfl (hb hby at_112) rfl k) ?_
      show own_E p e below _ T4 (mkF m 114 #[iv p1, iv p2, iv ((p1 &&& (2147483647 : Int32)) % (5 : Int32)), iv 0, rv aTOKEN, iv 1] [.int 1, .int 1])
      refine own_st (fun t k => XS.icmpNo X4.here hx rfl (hb hby at_114) rfl (by decide) k) ?_
      show own_E p e below _ T4 (mkF m 117 #[iv p1, iv p2, iv ((p1 &&& (2147483647 : Int32)) % (5 : Int32)), iv 0, rv aTOKEN, iv 1] [])
      refine own_st (fun t k => XS.iconst X4.here hx rfl (hb hby at_117) k) ?_
      show own_E p e below _ T4 (mkF m 118 #[iv p1, iv p2, iv ((p1 &&& (2147483647 : Int32)) % (5 : Int32)), iv 0, rv aTOKEN, iv 1] [.int 1])
      refine own_st (fun t k => XS.goto X4.here hx rfl (pc0 := 118) (pc' := 122) rfl (hb hby at_118) (by decide) (by decide) k) ?_
      show own_E p e below _ T4 (mkF m 122 #[iv p1, iv p2, iv ((p1 &&& (2147483647 : Int32)) % (5 : Int32)), iv 0, rv aTOKEN, iv 1] [.int 1])
      refine own_retSW X4 (own_since s) (by rw [e4]; exact (Nat.zero_le _)) hx Bd.notSynchronized Bd.returns rfl (by decide) (hb hby at_122) (by decide) (by decide) ?_
      exact ⟨rfl, N4⟩
    · refine own_st (fun t k => XS.ifYes X0.here hx rfl (pc0 := 20) (pc' := 34) rfl (hb hby at_20) rfl ((if0 _ _).trans (feq hc2).2) (by decide) (by decide) k) ?_
      show own_E p e below _ s₁ (mkF m 34 #[iv p1, iv p2, iv ((p1 &&& (2147483647 : Int32)) % (5 : Int32)), iv 0, .unset, .unset] [])
      refine own_st (fun t k => XS.iloadN X0.here hx rfl (hb hby at_34) rfl k) ?_
      show own_E p e below _ s₁ (mkF m 35 #[iv p1, iv p2, iv ((p1 &&& (2147483647 : Int32)) % (5 : Int32)), iv 0, .unset, .unset] [.int ((p1 &&& (2147483647 : Int32)) % (5 : Int32))])
      refine own_st (fun t k => XS.iconst X0.here hx rfl (hb hby at_35) k) ?_
      show own_E p e below _ s₁ (mkF m 36 #[iv p1, iv p2, iv ((p1 &&& (2147483647 : Int32)) % (5 : Int32)), iv 0, .unset, .unset] [.int 1, .int ((p1 &&& (2147483647 : Int32)) % (5 : Int32))])
      by_cases hc5 : ((p1 &&& (2147483647 : Int32)) % (5 : Int32)) = (1 : Int32)
      · refine own_st (fun t k => XS.icmpNo X0.here hx rfl (hb hby at_36) rfl (teq hc5).2 k) ?_
        show own_E p e below _ s₁ (mkF m 39 #[iv p1, iv p2, iv ((p1 &&& (2147483647 : Int32)) % (5 : Int32)), iv 0, .unset, .unset] [])
        obtain ⟨T6, X6, e6, st6⟩ := getS2 X0 hx hZ hown (host := "") (Or.inl (own_w hw 35 rfl)) Via.refl e0 S_REFERENCE (g := (mkF m 39 #[iv p1, iv p2, iv ((p1 &&& (2147483647 : Int32)) % (5 : Int32)), iv 0, .unset, .unset] [])) rfl (hb hby at_39)
        refine own_st st6 ?_
        show own_E p e below _ T6 (mkF m 42 #[iv p1, iv p2, iv ((p1 &&& (2147483647 : Int32)) % (5 : Int32)), iv 0, .unset, .unset] [.ref aREFERENCE])
        refine own_st (fun t k => XS.astore X6.here hx rfl (hb hby at_42) rfl rfl (l' := #[iv p1, iv p2, iv ((p1 &&& (2147483647 : Int32)) % (5 : Int32)), iv 0, rv aREFERENCE, .unset]) rfl k) ?_
        show own_E p e below _ T6 (mkF m 44 #[iv p1, iv p2, iv ((p1 &&& (2147483647 : Int32)) % (5 : Int32)), iv 0, rv aREFERENCE, .unset] [])
        refine own_st (fun t k => XS.iconst X6.here hx rfl (hb hby at_44) k) ?_
        show own_E p e below _ T6 (mkF m 45 #[iv p1, iv p2, iv ((p1 &&& (2147483647 : Int32)) % (5 : Int32)), iv 0, rv aREFERENCE, .unset] [.int 0])
        refine own_st (fun t k => XS.istore X6.here hx rfl (hb hby at_45) rfl (l' := #[iv p1, iv p2, iv ((p1 &&& (2147483647 : Int32)) % (5 : Int32)), iv 0, rv aREFERENCE, iv 0]) rfl k) ?_
        show own_E p e below _ T6 (mkF m 47 #[iv p1, iv p2, iv ((p1 &&& (2147483647 : Int32)) % (5 : Int32)), iv 0, rv aREFERENCE, iv 0] [])
        refine own_st (fun t k => XS.goto X6.here hx rfl (pc0 := 47) (pc' := 106) rfl (hb hby at_47) (by decide) (by decide) k) ?_
        show own_E p e below _ T6 (mkF m 106 #[iv p1, iv p2, iv ((p1 &&& (2147483647 : Int32)) % (5 : Int32)), iv 0, rv aREFERENCE, iv 0] [])
        refine own_st (fun t k => XS.aload X6.here hx rfl (hb hby at_106) rfl rfl k) ?_
        show own_E p e below _ T6 (mkF m 108 #[iv p1, iv p2, iv ((p1 &&& (2147483647 : Int32)) % (5 : Int32)), iv 0, rv aREFERENCE, iv 0] [.ref aREFERENCE])
        refine own_st (fun t k => XS.iloadN X6.here hx rfl (hb hby at_108) rfl k) ?_
        show own_E p e below _ T6 (mkF m 109 #[iv p1, iv p2, iv ((p1 &&& (2147483647 : Int32)) % (5 : Int32)), iv 0, rv aREFERENCE, iv 0] [.int 0, .ref aREFERENCE])
        obtain ⟨cq7, kq7, q7a, q7b, q7c⟩ := isOf hZ e6 E_REFERENCE
        obtain ⟨_, _, ⟨T7, L7, k7, n7⟩, -, X7, hS7, hgr7, ⟨Lc7, hQ7, l7, y7, z7⟩, st7⟩ := X6.virtualBackS hx (y := own_y5) (z := own_y5) hown (mvT hZ (own_w hw 4 rfl)) (mvT hZ (own_w hw 5 rfl)) (notFace_of_selects (args := #[]) (mvT hZ (own_w hw 37 rfl))) (mvT hZ (own_w hw 37 rfl)) (mvT hZ (own_w hw 6 rfl)) (by decide) (backOfS (W := 0) (own_wk_REFERENCE0 l Z a0 hw [] aREFERENCE h0 n0 Z0 E_REFERENCE) hZ (own_w hw 8 rfl) (own_w hw 2 rfl) (by decide) (by decide)) q7a q7c (g := (mkF m 109 #[iv p1, iv p2, iv ((p1 &&& (2147483647 : Int32)) % (5 : Int32)), iv 0, rv aREFERENCE, iv 0] [.int 0, .ref aREFERENCE])) rfl (by rw [hml]; rfl) (Steps.refl _) (argsL := [(.int (0 : Int32))]) (rest := []) (lenOf own_pd_3 rfl) rfl (by show 2 * 0 + _ ≤ _; exact Nat.le_of_eq rfl) (hb hby at_109) (fun _ _ => ⟨rfl, e6, (by decide : 0 + 2 ≤ _), (by decide : 0 + 148 ≤ _)⟩)
        dsimp only [Pt.U, Pt.locs, Pt.cells, Pt.slots] at X7 l7 y7 z7 st7 hQ7 hS7 hgr7
        subst l7 y7 z7
        have hZ7 := own_Zw hZ hS7
        have ho7 := own_ow hown hS7
        have hk7 := Nat.le_refl T7.heap.size
        obtain ⟨rfl, Nq7, Kq7⟩ := hQ7
        have N7 := Fr.app (Fr.nil n0) Nq7
        have e7 : T7.heap = T7.heap := rfl
        have Z8 := Nat.le_trans Z0 Kq7.1
        refine own_tr st7 ?_
        show own_E p e below _ T7 (mkF m 112 #[iv p1, iv p2, iv ((p1 &&& (2147483647 : Int32)) % (5 : Int32)), iv 0, rv aREFERENCE, iv 0] [.int 0])
        refine own_st (fun t k => XS.iload X7.here hx rfl (hb hby at_112) rfl k) ?_
        show own_E p e below _ T7 (mkF m 114 #[iv p1, iv p2, iv ((p1 &&& (2147483647 : Int32)) % (5 : Int32)), iv 0, rv aREFERENCE, iv 0] [.int 0, .int 0])
        refine own_st (fun t k => XS.icmpNo X7.here hx rfl (hb hby at_114) rfl (by decide) k) ?_
        show own_E p e below _ T7 (mkF m 117 #[iv p1, iv p2, iv ((p1 &&& (2147483647 : Int32)) % (5 : Int32)), iv 0, rv aREFERENCE, iv 0] [])
        refine own_st (fun t k => XS.iconst X7.here hx rfl (hb hby at_117) k) ?_
        show own_E p e below _ T7 (mkF m 118 #[iv p1, iv p2, iv ((p1 &&& (2147483647 : Int32)) % (5 : Int32)), iv 0, rv aREFERENCE, iv 0] [.int 1])
        refine own_st (fun t k => XS.goto X7.here hx rfl (pc0 := 118) (pc' := 122) rfl (hb hby at_118) (by decide) (by decide) k) ?_
        show own_E p e below _ T7 (mkF m 122 #[iv p1, iv p2, iv ((p1 &&& (2147483647 : Int32)) % (5 : Int32)), iv 0, rv aREFERENCE, iv 0] [.int 1])
        refine own_retSW X7 hS7 (by rw [e7]; exact hk7) hx Bd.notSynchronized Bd.returns rfl (by decide) (hb hby at_122) (by decide) (by decide) ?_
        exact ⟨rfl, N7⟩
      · refine own_st (fun t k => XS.icmpYes X0.here hx rfl (pc0 := 36) (pc' := 50) rfl (hb hby at_36) rfl (feq hc5).2 (by decide) (by decide) k) ?_
        show own_E p e below _ s₁ (mkF m 50 #[iv p1, iv p2, iv ((p1 &&& (2147483647 : Int32)) % (5 : Int32)), iv 0, .unset, .unset] [])
        refine own_st (fun t k => XS.iloadN X0.here hx rfl (hb hby at_50) rfl k) ?_
        show own_E p e below _ s₁ (mkF m 51 #[iv p1, iv p2, iv ((p1 &&& (2147483647 : Int32)) % (5 : Int32)), iv 0, .unset, .unset] [.int ((p1 &&& (2147483647 : Int32)) % (5 : Int32))])
        refine own_st (fun t k => XS.iconst X0.here hx rfl (hb hby at_51) k) ?_
        show own_E p e below _ s₁ (mkF m 52 #[iv p1, iv p2, iv ((p1 &&& (2147483647 : Int32)) % (5 : Int32)), iv 0, .unset, .unset] [.int 2, .int ((p1 &&& (2147483647 : Int32)) % (5 : Int32))])
        by_cases hc9 : ((p1 &&& (2147483647 : Int32)) % (5 : Int32)) = (2 : Int32)
        · refine own_st (fun t k => XS.icmpNo X0.here hx rfl (hb hby at_52) rfl (teq hc9).2 k) ?_
          show own_E p e below _ s₁ (mkF m 55 #[iv p1, iv p2, iv ((p1 &&& (2147483647 : Int32)) % (5 : Int32)), iv 0, .unset, .unset] [])
          obtain ⟨T10, X10, e10, st10⟩ := getS2 X0 hx hZ hown (host := "") (Or.inl (own_w hw 50 rfl)) Via.refl e0 S_STRING (g := (mkF m 55 #[iv p1, iv p2, iv ((p1 &&& (2147483647 : Int32)) % (5 : Int32)), iv 0, .unset, .unset] [])) rfl (hb hby at_55)
          refine own_st st10 ?_
          show own_E p e below _ T10 (mkF m 58 #[iv p1, iv p2, iv ((p1 &&& (2147483647 : Int32)) % (5 : Int32)), iv 0, .unset, .unset] [.ref aSTRING])
          refine own_st (fun t k => XS.astore X10.here hx rfl (hb hby at_58) rfl rfl (l' := #[iv p1, iv p2, iv ((p1 &&& (2147483647 : Int32)) % (5 : Int32)), iv 0, rv aSTRING, .unset]) rfl k) ?_
          show own_E p e below _ T10 (mkF m 60 #[iv p1, iv p2, iv ((p1 &&& (2147483647 : Int32)) % (5 : Int32)), iv 0, rv aSTRING, .unset] [])
          refine own_st (fun t k => XS.iconst X10.here hx rfl (hb hby at_60) k) ?_
          show own_E p e below _ T10 (mkF m 61 #[iv p1, iv p2, iv ((p1 &&& (2147483647 : Int32)) % (5 : Int32)), iv 0, rv aSTRING, .unset] [.int 1])
          refine own_st (fun t k => XS.istore X10.here hx rfl (hb hby at_61) rfl (l' := #[iv p1, iv p2, iv ((p1 &&& (2147483647 : Int32)) % (5 : Int32)), iv 0, rv aSTRING, iv 1]) rfl k) ?_
          show own_E p e below _ T10 (mkF m 63 #[iv p1, iv p2, iv ((p1 &&& (2147483647 : Int32)) % (5 : Int32)), iv 0, rv aSTRING, iv 1] [])
          refine own_st (fun t k => XS.goto X10.here hx rfl (pc0 := 63) (pc' := 106) rfl (hb hby at_63) (by decide) (by decide) k) ?_
          show own_E p e below _ T10 (mkF m 106 #[iv p1, iv p2, iv ((p1 &&& (2147483647 : Int32)) % (5 : Int32)), iv 0, rv aSTRING, iv 1] [])
          refine own_st (fun t k => XS.aload X10.here hx rfl (hb hby at_106) rfl rfl k) ?_
          show own_E p e below _ T10 (mkF m 108 #[iv p1, iv p2, iv ((p1 &&& (2147483647 : Int32)) % (5 : Int32)), iv 0, rv aSTRING, iv 1] [.ref aSTRING])
          refine own_st (fun t k => XS.iloadN X10.here hx rfl (hb hby at_108) rfl k) ?_
          show own_E p e below _ T10 (mkF m 109 #[iv p1, iv p2, iv ((p1 &&& (2147483647 : Int32)) % (5 : Int32)), iv 0, rv aSTRING, iv 1] [.int 0, .ref aSTRING])
          obtain ⟨cq11, kq11, q11a, q11b, q11c⟩ := isOf hZ e10 E_STRING
          obtain ⟨_, _, ⟨T11, L11, k11, n11⟩, -, X11, ⟨Lc11, hQ11, l11, y11, z11⟩, st11⟩ := X10.virtualBack hx (y := own_y5) (z := own_y5) hown (mvT hZ (own_w hw 4 rfl)) (mvT hZ (own_w hw 5 rfl)) (notFace_of_selects (args := #[]) (mvT hZ (own_w hw 52 rfl))) (mvT hZ (own_w hw 52 rfl)) (mvT hZ (own_w hw 6 rfl)) (by decide) (backOf (W := 0) (own_wk_STRING0 l Z a0 hw [] aSTRING h0 n0 Z0 E_STRING) hZ (own_w hw 8 rfl) (own_w hw 2 rfl) (by decide) (by decide)) q11a q11c (g := (mkF m 109 #[iv p1, iv p2, iv ((p1 &&& (2147483647 : Int32)) % (5 : Int32)), iv 0, rv aSTRING, iv 1] [.int 0, .ref aSTRING])) rfl (by rw [hml]; rfl) (Steps.refl _) (argsL := [(.int (0 : Int32))]) (rest := []) (lenOf own_pd_3 rfl) rfl (by show 2 * 0 + _ ≤ _; exact Nat.le_of_eq rfl) (hb hby at_109) (fun _ _ => ⟨rfl, e10, (by decide : 0 + 0 ≤ _), (by decide : 0 + 0 ≤ _)⟩)
          dsimp only [Pt.U, Pt.locs, Pt.cells, Pt.slots] at X11 l11 y11 z11 st11 hQ11
          subst l11 y11 z11
          obtain ⟨hR11, e11, rfl⟩ := hQ11
          have N11 := Fr.app (Fr.nil n0) (Fr.nil n0)
          obtain rfl := hR11
          refine own_tr st11 ?_
          show own_E p e below _ T11 (mkF m 112 #[iv p1, iv p2, iv ((p1 &&& (2147483647 : Int32)) % (5 : Int32)), iv 0, rv aSTRING, iv 1] [.int 1])
          refine own_st (fun t k => XS.iload X11.here hx rfl (hb hby at_112) rfl k) ?_
          show own_E p e below _ T11 (mkF m 114 #[iv p1, iv p2, iv ((p1 &&& (2147483647 : Int32)) % (5 : Int32)), iv 0, rv aSTRING, iv 1] [.int 1, .int 1])
          refine own_st (fun t k => XS.icmpNo X11.here hx rfl (hb hby at_114) rfl (by decide) k) ?_
          show own_E p e below _ T11 (mkF m 117 #[iv p1, iv p2, iv ((p1 &&& (2147483647 : Int32)) % (5 : Int32)), iv 0, rv aSTRING, iv 1] [])
          refine own_st (fun t k => XS.iconst X11.here hx rfl (hb hby at_117) k) ?_
          show own_E p e below _ T11 (mkF m 118 #[iv p1, iv p2, iv ((p1 &&& (2147483647 : Int32)) % (5 : Int32)), iv 0, rv aSTRING, iv 1] [.int 1])
          refine own_st (fun t k => XS.goto X11.here hx rfl (pc0 := 118) (pc' := 122) rfl (hb hby at_118) (by decide) (by decide) k) ?_
          show own_E p e below _ T11 (mkF m 122 #[iv p1, iv p2, iv ((p1 &&& (2147483647 : Int32)) % (5 : Int32)), iv 0, rv aSTRING, iv 1] [.int 1])
          refine own_retSW X11 (own_since s) (by rw [e11]; exact (Nat.zero_le _)) hx Bd.notSynchronized Bd.returns rfl (by decide) (hb hby at_122) (by decide) (by decide) ?_
          exact ⟨rfl, N11⟩
        · refine own_st (fun t k => XS.icmpYes X0.here hx rfl (pc0 := 52) (pc' := 66) rfl (hb hby at_52) rfl (feq hc9).2 (by decide) (by decide) k) ?_
          show own_E p e below _ s₁ (mkF m 66 #[iv p1, iv p2, iv ((p1 &&& (2147483647 : Int32)) % (5 : Int32)), iv 0, .unset, .unset] [])
          refine own_st (fun t k => XS.iloadN X0.here hx rfl (hb hby at_66) rfl k) ?_
          show own_E p e below _ s₁ (mkF m 67 #[iv p1, iv p2, iv ((p1 &&& (2147483647 : Int32)) % (5 : Int32)), iv 0, .unset, .unset] [.int ((p1 &&& (2147483647 : Int32)) % (5 : Int32))])
          refine own_st (fun t k => XS.iconst X0.here hx rfl (hb hby at_67) k) ?_
          show own_E p e below _ s₁ (mkF m 68 #[iv p1, iv p2, iv ((p1 &&& (2147483647 : Int32)) % (5 : Int32)), iv 0, .unset, .unset] [.int 3, .int ((p1 &&& (2147483647 : Int32)) % (5 : Int32))])
          by_cases hc12 : ((p1 &&& (2147483647 : Int32)) % (5 : Int32)) = (3 : Int32)
          · refine own_st (fun t k => XS.icmpNo X0.here hx rfl (hb hby at_68) rfl (teq hc12).2 k) ?_
            show own_E p e below _ s₁ (mkF m 71 #[iv p1, iv p2, iv ((p1 &&& (2147483647 : Int32)) % (5 : Int32)), iv 0, .unset, .unset] [])
            obtain ⟨T13, X13, e13, st13⟩ := getS2 X0 hx hZ hown (host := "") (Or.inl (own_w hw 27 rfl)) Via.refl e0 S_DATE (g := (mkF m 71 #[iv p1, iv p2, iv ((p1 &&& (2147483647 : Int32)) % (5 : Int32)), iv 0, .unset, .unset] [])) rfl (hb hby at_71)
            refine own_st st13 ?_
            show own_E p e below _ T13 (mkF m 74 #[iv p1, iv p2, iv ((p1 &&& (2147483647 : Int32)) % (5 : Int32)), iv 0, .unset, .unset] [.ref aDATE])
            refine own_st (fun t k => XS.astore X13.here hx rfl (hb hby at_74) rfl rfl (l' := #[iv p1, iv p2, iv ((p1 &&& (2147483647 : Int32)) % (5 : Int32)), iv 0, rv aDATE, .unset]) rfl k) ?_
            show own_E p e below _ T13 (mkF m 76 #[iv p1, iv p2, iv ((p1 &&& (2147483647 : Int32)) % (5 : Int32)), iv 0, rv aDATE, .unset] [])
            refine own_st (fun t k => XS.iloadN X13.here hx rfl (hb hby at_76) rfl k) ?_
            show own_E p e below _ T13 (mkF m 77 #[iv p1, iv p2, iv ((p1 &&& (2147483647 : Int32)) % (5 : Int32)), iv 0, rv aDATE, .unset] [.int 0])
            refine own_st (fun t k => XS.ifNo X13.here hx rfl (hb hby at_77) rfl (by decide) k) ?_
            show own_E p e below _ T13 (mkF m 80 #[iv p1, iv p2, iv ((p1 &&& (2147483647 : Int32)) % (5 : Int32)), iv 0, rv aDATE, .unset] [])
            refine own_st (fun t k => XS.iconst X13.here hx rfl (hb hby at_80) k) ?_
            show own_E p e below _ T13 (mkF m 81 #[iv p1, iv p2, iv ((p1 &&& (2147483647 : Int32)) % (5 : Int32)), iv 0, rv aDATE, .unset] [.int 1])
            refine own_st (fun t k => XS.goto X13.here hx rfl (pc0 := 81) (pc' := 85) rfl (hb hby at_81) (by decide) (by decide) k) ?_
            show own_E p e below _ T13 (mkF m 85 #[iv p1, iv p2, iv ((p1 &&& (2147483647 : Int32)) % (5 : Int32)), iv 0, rv aDATE, .unset] [.int 1])
            refine own_st (fun t k => XS.istore X13.here hx rfl (hb hby at_85) rfl (l' := #[iv p1, iv p2, iv ((p1 &&& (2147483647 : Int32)) % (5 : Int32)), iv 0, rv aDATE, iv 1]) rfl k) ?_
            show own_E p e below _ T13 (mkF m 87 #[iv p1, iv p2, iv ((p1 &&& (2147483647 : Int32)) % (5 : Int32)), iv 0, rv aDATE, iv 1] [])
            refine own_st (fun t k => XS.goto X13.here hx rfl (pc0 := 87) (pc' := 106) rfl (hb hby at_87) (by decide) (by decide) k) ?_
            show own_E p e below _ T13 (mkF m 106 #[iv p1, iv p2, iv ((p1 &&& (2147483647 : Int32)) % (5 : Int32)), iv 0, rv aDATE, iv 1] [])
            refine own_st (fun t k => XS.aload X13.here hx rfl (hb hby at_106) rfl rfl k) ?_
            show own_E p e below _ T13 (mkF m 108 #[iv p1, iv p2, iv ((p1 &&& (2147483647 : Int32)) % (5 : Int32)), iv 0, rv aDATE, iv 1] [.ref aDATE])
            refine own_st (fun t k => XS.iloadN X13.here hx rfl (hb hby at_108) rfl k) ?_
            show own_E p e below _ T13 (mkF m 109 #[iv p1, iv p2, iv ((p1 &&& (2147483647 : Int32)) % (5 : Int32)), iv 0, rv aDATE, iv 1] [.int 0, .ref aDATE])
            obtain ⟨cq14, kq14, q14a, q14b, q14c⟩ := isOf hZ e13 E_DATE
            obtain ⟨_, _, ⟨T14, L14, k14, n14⟩, -, X14, ⟨Lc14, hQ14, l14, y14, z14⟩, st14⟩ := X13.virtualBack hx (y := own_y5) (z := own_y5) hown (mvT hZ (own_w hw 4 rfl)) (mvT hZ (own_w hw 5 rfl)) (notFace_of_selects (args := #[]) (mvT hZ (own_w hw 29 rfl))) (mvT hZ (own_w hw 29 rfl)) (mvT hZ (own_w hw 6 rfl)) (by decide) (backOf (W := 0) (own_wk_DATE0 l Z a0 hw [] aDATE h0 n0 Z0 E_DATE) hZ (own_w hw 8 rfl) (own_w hw 2 rfl) (by decide) (by decide)) q14a q14c (g := (mkF m 109 #[iv p1, iv p2, iv ((p1 &&& (2147483647 : Int32)) % (5 : Int32)), iv 0, rv aDATE, iv 1] [.int 0, .ref aDATE])) rfl (by rw [hml]; rfl) (Steps.refl _) (argsL := [(.int (0 : Int32))]) (rest := []) (lenOf own_pd_3 rfl) rfl (by show 2 * 0 + _ ≤ _; exact Nat.le_of_eq rfl) (hb hby at_109) (fun _ _ => ⟨rfl, e13, (by decide : 0 + 0 ≤ _), (by decide : 0 + 0 ≤ _)⟩)
            dsimp only [Pt.U, Pt.locs, Pt.cells, Pt.slots] at X14 l14 y14 z14 st14 hQ14
            subst l14 y14 z14
            obtain ⟨hR14, e14, rfl⟩ := hQ14
            have N14 := Fr.app (Fr.nil n0) (Fr.nil n0)
            obtain rfl := hR14
            refine own_tr st14 ?_
            show own_E p e below _ T14 (mkF m 112 #[iv p1, iv p2, iv ((p1 &&& (2147483647 : Int32)) % (5 : Int32)), iv 0, rv aDATE, iv 1] [.int 1])
            refine own_st (fun t k => XS.iload X14.here hx rfl (hb hby at_112) rfl k) ?_
            show own_E p e below _ T14 (mkF m 114 #[iv p1, iv p2, iv ((p1 &&& (2147483647 : Int32)) % (5 : Int32)), iv 0, rv aDATE, iv 1] [.int 1, .int 1])
            refine own_st (fun t k => XS.icmpNo X14.here hx rfl (hb hby at_114) rfl (by decide) k) ?_
            show own_E p e below _ T14 (mkF m 117 #[iv p1, iv p2, iv ((p1 &&& (2147483647 : Int32)) % (5 : Int32)), iv 0, rv aDATE, iv 1] [])
            refine own_st (fun t k => XS.iconst X14.here hx rfl (hb hby at_117) k) ?_
            show own_E p e below _ T14 (mkF m 118 #[iv p1, iv p2, iv ((p1 &&& (2147483647 : Int32)) % (5 : Int32)), iv 0, rv aDATE, iv 1] [.int 1])
            refine own_st (fun t k => XS.goto X14.here hx rfl (pc0 := 118) (pc' := 122) rfl (hb hby at_118) (by decide) (by decide) k) ?_
            show own_E p e below _ T14 (mkF m 122 #[iv p1, iv p2, iv ((p1 &&& (2147483647 : Int32)) % (5 : Int32)), iv 0, rv aDATE, iv 1] [.int 1])
            refine own_retSW X14 (own_since s) (by rw [e14]; exact (Nat.zero_le _)) hx Bd.notSynchronized Bd.returns rfl (by decide) (hb hby at_122) (by decide) (by decide) ?_
            exact ⟨rfl, N14⟩
          · refine own_st (fun t k => XS.icmpYes X0.here hx rfl (pc0 := 68) (pc' := 90) rfl (hb hby at_68) rfl (feq hc12).2 (by decide) (by decide) k) ?_
            show own_E p e below _ s₁ (mkF m 90 #[iv p1, iv p2, iv ((p1 &&& (2147483647 : Int32)) % (5 : Int32)), iv 0, .unset, .unset] [])
            obtain ⟨T15, X15, e15, st15⟩ := getS2 X0 hx hZ hown (host := "") (Or.inl (own_w hw 19 rfl)) Via.refl e0 S_QUANTITY (g := (mkF m 90 #[iv p1, iv p2, iv ((p1 &&& (2147483647 : Int32)) % (5 : Int32)), iv 0, .unset, .unset] [])) rfl (hb hby at_90)
            refine own_st st15 ?_
            show own_E p e below _ T15 (mkF m 93 #[iv p1, iv p2, iv ((p1 &&& (2147483647 : Int32)) % (5 : Int32)), iv 0, .unset, .unset] [.ref aQUANTITY])
            refine own_st (fun t k => XS.astore X15.here hx rfl (hb hby at_93) rfl rfl (l' := #[iv p1, iv p2, iv ((p1 &&& (2147483647 : Int32)) % (5 : Int32)), iv 0, rv aQUANTITY, .unset]) rfl k) ?_
            show own_E p e below _ T15 (mkF m 95 #[iv p1, iv p2, iv ((p1 &&& (2147483647 : Int32)) % (5 : Int32)), iv 0, rv aQUANTITY, .unset] [])
            refine own_st (fun t k => XS.iloadN X15.here hx rfl (hb hby at_95) rfl k) ?_
            show own_E p e below _ T15 (mkF m 96 #[iv p1, iv p2, iv ((p1 &&& (2147483647 : Int32)) % (5 : Int32)), iv 0, rv aQUANTITY, .unset] [.int 0])
            refine own_st (fun t k => XS.ifNo X15.here hx rfl (hb hby at_96) rfl (by decide) k) ?_
            show own_E p e below _ T15 (mkF m 99 #[iv p1, iv p2, iv ((p1 &&& (2147483647 : Int32)) % (5 : Int32)), iv 0, rv aQUANTITY, .unset] [])
            refine own_st (fun t k => XS.iconst X15.here hx rfl (hb hby at_99) k) ?_
            show own_E p e below _ T15 (mkF m 100 #[iv p1, iv p2, iv ((p1 &&& (2147483647 : Int32)) % (5 : Int32)), iv 0, rv aQUANTITY, .unset] [.int 1])
            refine own_st (fun t k => XS.goto X15.here hx rfl (pc0 := 100) (pc' := 104) rfl (hb hby at_100) (by decide) (by decide) k) ?_
            show own_E p e below _ T15 (mkF m 104 #[iv p1, iv p2, iv ((p1 &&& (2147483647 : Int32)) % (5 : Int32)), iv 0, rv aQUANTITY, .unset] [.int 1])
            refine own_st (fun t k => XS.istore X15.here hx rfl (hb hby at_104) rfl (l' := #[iv p1, iv p2, iv ((p1 &&& (2147483647 : Int32)) % (5 : Int32)), iv 0, rv aQUANTITY, iv 1]) rfl k) ?_
            show own_E p e below _ T15 (mkF m 106 #[iv p1, iv p2, iv ((p1 &&& (2147483647 : Int32)) % (5 : Int32)), iv 0, rv aQUANTITY, iv 1] [])
            refine own_st (fun t k => XS.aload X15.here hx rfl (hb hby at_106) rfl rfl k) ?_
            show own_E p e below _ T15 (mkF m 108 #[iv p1, iv p2, iv ((p1 &&& (2147483647 : Int32)) % (5 : Int32)), iv 0, rv aQUANTITY, iv 1] [.ref aQUANTITY])
            refine own_st (fun t k => XS.iloadN X15.here hx rfl (hb hby at_108) rfl k) ?_
            show own_E p e below _ T15 (mkF m 109 #[iv p1, iv p2, iv ((p1 &&& (2147483647 : Int32)) % (5 : Int32)), iv 0, rv aQUANTITY, iv 1] [.int 0, .ref aQUANTITY])
            obtain ⟨cq16, kq16, q16a, q16b, q16c⟩ := isOf hZ e15 E_QUANTITY
            obtain ⟨_, _, ⟨T16, L16, k16, n16⟩, -, X16, ⟨Lc16, hQ16, l16, y16, z16⟩, st16⟩ := X15.virtualBack hx (y := own_y5) (z := own_y5) hown (mvT hZ (own_w hw 4 rfl)) (mvT hZ (own_w hw 5 rfl)) (notFace_of_selects (args := #[]) (mvT hZ (own_w hw 21 rfl))) (mvT hZ (own_w hw 21 rfl)) (mvT hZ (own_w hw 6 rfl)) (by decide) (backOf (W := 0) (own_wk_QUANTITY0 l Z a0 hw [] aQUANTITY h0 n0 Z0 E_QUANTITY) hZ (own_w hw 8 rfl) (own_w hw 2 rfl) (by decide) (by decide)) q16a q16c (g := (mkF m 109 #[iv p1, iv p2, iv ((p1 &&& (2147483647 : Int32)) % (5 : Int32)), iv 0, rv aQUANTITY, iv 1] [.int 0, .ref aQUANTITY])) rfl (by rw [hml]; rfl) (Steps.refl _) (argsL := [(.int (0 : Int32))]) (rest := []) (lenOf own_pd_3 rfl) rfl (by show 2 * 0 + _ ≤ _; exact Nat.le_of_eq rfl) (hb hby at_109) (fun _ _ => ⟨rfl, e15, (by decide : 0 + 0 ≤ _), (by decide : 0 + 0 ≤ _)⟩)
            dsimp only [Pt.U, Pt.locs, Pt.cells, Pt.slots] at X16 l16 y16 z16 st16 hQ16
            subst l16 y16 z16
            obtain ⟨hR16, e16, rfl⟩ := hQ16
            have N16 := Fr.app (Fr.nil n0) (Fr.nil n0)
            obtain rfl := hR16
            refine own_tr st16 ?_
            show own_E p e below _ T16 (mkF m 112 #[iv p1, iv p2, iv ((p1 &&& (2147483647 : Int32)) % (5 : Int32)), iv 0, rv aQUANTITY, iv 1] [.int 1])
            refine own_st (fun t k => XS.iload X16.here hx rfl (hb hby at_112) rfl k) ?_
            show own_E p e below _ T16 (mkF m 114 #[iv p1, iv p2, iv ((p1 &&& (2147483647 : Int32)) % (5 : Int32)), iv 0, rv aQUANTITY, iv 1] [.int 1, .int 1])
            refine own_st (fun t k => XS.icmpNo X16.here hx rfl (hb hby at_114) rfl (by decide) k) ?_
            show own_E p e below _ T16 (mkF m 117 #[iv p1, iv p2, iv ((p1 &&& (2147483647 : Int32)) % (5 : Int32)), iv 0, rv aQUANTITY, iv 1] [])
            refine own_st (fun t k => XS.iconst X16.here hx rfl (hb hby at_117) k) ?_
            show own_E p e below _ T16 (mkF m 118 #[iv p1, iv p2, iv ((p1 &&& (2147483647 : Int32)) % (5 : Int32)), iv 0, rv aQUANTITY, iv 1] [.int 1])
            refine own_st (fun t k => XS.goto X16.here hx rfl (pc0 := 118) (pc' := 122) rfl (hb hby at_118) (by decide) (by decide) k) ?_
            show own_E p e below _ T16 (mkF m 122 #[iv p1, iv p2, iv ((p1 &&& (2147483647 : Int32)) % (5 : Int32)), iv 0, rv aQUANTITY, iv 1] [.int 1])
            refine own_retSW X16 (own_since s) (by rw [e16]; exact (Nat.zero_le _)) hx Bd.notSynchronized Bd.returns rfl (by decide) (hb hby at_122) (by decide) (by decide) ?_
            exact ⟨rfl, N16⟩
  · refine own_st (fun t k => XS.ifNo X0.here hx rfl (hb hby at_10) rfl ((if0 _ _).trans (feq hc1).1) k) ?_
    show own_E p e below _ s₁ (mkF m 13 #[iv p1, iv p2, iv ((p1 &&& (2147483647 : Int32)) % (5 : Int32)), .unset, .unset, .unset] [])
    refine own_st (fun t k => XS.iconst X0.here hx rfl (hb hby at_13) k) ?_
    show own_E p e below _ s₁ (mkF m 14 #[iv p1, iv p2, iv ((p1 &&& (2147483647 : Int32)) % (5 : Int32)), .unset, .unset, .unset] [.int 1])
    refine own_st (fun t k => XS.goto X0.here hx rfl (pc0 := 14) (pc' := 18) rfl (hb hby at_14) (by decide) (by decide) k) ?_
    show own_E p e below _ s₁ (mkF m 18 #[iv p1, iv p2, iv ((p1 &&& (2147483647 : Int32)) % (5 : Int32)), .unset, .unset, .unset] [.int 1])
    refine own_st (fun t k => XS.istoreN X0.here hx rfl (hb hby at_18) rfl (l' := #[iv p1, iv p2, iv ((p1 &&& (2147483647 : Int32)) % (5 : Int32)), iv 1, .unset, .unset]) rfl k) ?_
    show own_E p e below _ s₁ (mkF m 19 #[iv p1, iv p2, iv ((p1 &&& (2147483647 : Int32)) % (5 : Int32)), iv 1, .unset, .unset] [])
    refine own_st (fun t k => XS.iloadN X0.here hx rfl (hb hby at_19) rfl k) ?_
    show own_E p e below _ s₁ (mkF m 20 #[iv p1, iv p2, iv ((p1 &&& (2147483647 : Int32)) % (5 : Int32)), iv 1, .unset, .unset] [.int ((p1 &&& (2147483647 : Int32)) % (5 : Int32))])
    by_cases hc17 : ((p1 &&& (2147483647 : Int32)) % (5 : Int32)) = (0 : Int32)
    · refine own_st (fun t k => XS.ifNo X0.here hx rfl (hb hby at_20) rfl ((if0 _ _).trans (teq hc17).2) k) ?_
      show own_E p e below _ s₁ (mkF m 23 #[iv p1, iv p2, iv ((p1 &&& (2147483647 : Int32)) % (5 : Int32)), iv 1, .unset, .unset] [])
      obtain ⟨T18, X18, e18, st18⟩ := getS2 X0 hx hZ hown (host := "") (Or.inl (own_w hw 1 rfl)) Via.refl e0 S_TOKEN (g := (mkF m 23 #[iv p1, iv p2, iv ((p1 &&& (2147483647 : Int32)) % (5 : Int32)), iv 1, .unset, .unset] [])) rfl (hb hby at_23)
      refine own_st st18 ?_
      show own_E p e below _ T18 (mkF m 26 #[iv p1, iv p2, iv ((p1 &&& (2147483647 : Int32)) % (5 : Int32)), iv 1, .unset, .unset] [.ref aTOKEN])
      refine own_st (fun t k => XS.astore X18.here hx rfl (hb hby at_26) rfl rfl (l' := #[iv p1, iv p2, iv ((p1 &&& (2147483647 : Int32)) % (5 : Int32)), iv 1, rv aTOKEN, .unset]) rfl k) ?_
      show own_E p e below _ T18 (mkF m 28 #[iv p1, iv p2, iv ((p1 &&& (2147483647 : Int32)) % (5 : Int32)), iv 1, rv aTOKEN, .unset] [])
      refine own_st (fun t k => XS.iconst X18.here hx rfl (hb hby at_28) k) ?_
      show own_E p e below _ T18 (mkF m 29 #[iv p1, iv p2, iv ((p1 &&& (2147483647 : Int32)) % (5 : Int32)), iv 1, rv aTOKEN, .unset] [.int 1])
      refine own_st (fun t k => XS.istore X18.here hx rfl (hb hby at_29) rfl (l' := #[iv p1, iv p2, iv ((p1 &&& (2147483647 : Int32)) % (5 : Int32)), iv 1, rv aTOKEN, iv 1]) rfl k) ?_
      show own_E p e below _ T18 (mkF m 31 #[iv p1, iv p2, iv ((p1 &&& (2147483647 : Int32)) % (5 : Int32)), iv 1, rv aTOKEN, iv 1] [])
      refine own_st (fun t k => XS.goto X18.here hx rfl (pc0 := 31) (pc' := 106) rfl (hb hby at_31) (by decide) (by decide) k) ?_
      show own_E p e below _ T18 (mkF m 106 #[iv p1, iv p2, iv ((p1 &&& (2147483647 : Int32)) % (5 : Int32)), iv 1, rv aTOKEN, iv 1] [])
      refine own_st (fun t k => XS.aload X18.here hx rfl (hb hby at_106) rfl rfl k) ?_
      show own_E p e below _ T18 (mkF m 108 #[iv p1, iv p2, iv ((p1 &&& (2147483647 : Int32)) % (5 : Int32)), iv 1, rv aTOKEN, iv 1] [.ref aTOKEN])
      refine own_st (fun t k => XS.iloadN X18.here hx rfl (hb hby at_108) rfl k) ?_
      show own_E p e below _ T18 (mkF m 109 #[iv p1, iv p2, iv ((p1 &&& (2147483647 : Int32)) % (5 : Int32)), iv 1, rv aTOKEN, iv 1] [.int 1, .ref aTOKEN])
      obtain ⟨cq19, kq19, q19a, q19b, q19c⟩ := isOf hZ e18 E_TOKEN
      obtain ⟨_, _, ⟨T19, L19, k19, n19⟩, -, X19, ⟨Lc19, hQ19, l19, y19, z19⟩, st19⟩ := X18.virtualBack hx (y := own_y5) (z := own_y5) hown (mvT hZ (own_w hw 4 rfl)) (mvT hZ (own_w hw 5 rfl)) (notFace_of_selects (args := #[]) (mvT hZ (own_w hw 7 rfl))) (mvT hZ (own_w hw 7 rfl)) (mvT hZ (own_w hw 6 rfl)) (by decide) (backOf (W := 0) (own_wk_TOKEN1 l Z a0 hw [] aTOKEN h0 n0 Z0 E_TOKEN) hZ (own_w hw 8 rfl) (own_w hw 2 rfl) (by decide) (by decide)) q19a q19c (g := (mkF m 109 #[iv p1, iv p2, iv ((p1 &&& (2147483647 : Int32)) % (5 : Int32)), iv 1, rv aTOKEN, iv 1] [.int 1, .ref aTOKEN])) rfl (by rw [hml]; rfl) (Steps.refl _) (argsL := [(.int (1 : Int32))]) (rest := []) (lenOf own_pd_3 rfl) rfl (by show 2 * 0 + _ ≤ _; exact Nat.le_of_eq rfl) (hb hby at_109) (fun _ _ => ⟨rfl, e18, (by decide : 0 + 0 ≤ _), (by decide : 0 + 0 ≤ _)⟩)
      dsimp only [Pt.U, Pt.locs, Pt.cells, Pt.slots] at X19 l19 y19 z19 st19 hQ19
      subst l19 y19 z19
      obtain ⟨hR19, e19, rfl⟩ := hQ19
      have N19 := Fr.app (Fr.nil n0) (Fr.nil n0)
      obtain rfl := hR19
      refine own_tr st19 ?_
      show own_E p e below _ T19 (mkF m 112 #[iv p1, iv p2, iv ((p1 &&& (2147483647 : Int32)) % (5 : Int32)), iv 1, rv aTOKEN, iv 1] [.int 1])
      refine own_st (fun t k => XS.iload X19.here hx rfl (hb hby at_112) rfl k) ?_
      show own_E p e below _ T19 (mkF m 114 #[iv p1, iv p2, iv ((p1 &&& (2147483647 : Int32)) % (5 : Int32)), iv 1, rv aTOKEN, iv 1] [.int 1, .int 1])
      refine own_st (fun t k => XS.icmpNo X19.here hx rfl (hb hby at_114) rfl (by decide) k) ?_
      show own_E p e below _ T19 (mkF m 117 #[iv p1, iv p2, iv ((p1 &&& (2147483647 : Int32)) % (5 : Int32)), iv 1, rv aTOKEN, iv 1] [])
      refine own_st (fun t k => XS.iconst X19.here hx rfl (hb hby at_117) k) ?_
      show own_E p e below _ T19 (mkF m 118 #[iv p1, iv p2, iv ((p1 &&& (2147483647 : Int32)) % (5 : Int32)), iv 1, rv aTOKEN, iv 1] [.int 1])
      refine own_st (fun t k => XS.goto X19.here hx rfl (pc0 := 118) (pc' := 122) rfl (hb hby at_118) (by decide) (by decide) k) ?_
      show own_E p e below _ T19 (mkF m 122 #[iv p1, iv p2, iv ((p1 &&& (2147483647 : Int32)) % (5 : Int32)), iv 1, rv aTOKEN, iv 1] [.int 1])
      refine own_retSW X19 (own_since s) (by rw [e19]; exact (Nat.zero_le _)) hx Bd.notSynchronized Bd.returns rfl (by decide) (hb hby at_122) (by decide) (by decide) ?_
      exact ⟨rfl, N19⟩
    · refine own_st (fun t k => XS.ifYes X0.here hx rfl (pc0 := 20) (pc' := 34) rfl (hb hby at_20) rfl ((if0 _ _).trans (feq hc17).2) (by decide) (by decide) k) ?_
      show own_E p e below _ s₁ (mkF m 34 #[iv p1, iv p2, iv ((p1 &&& (2147483647 : Int32)) % (5 : Int32)), iv 1, .unset, .unset] [])
      refine own_st (fun t k => XS.iloadN X0.here hx rfl (hb hby at_34) rfl k) ?_
      show own_E p e below _ s₁ (mkF m 35 #[iv p1, iv p2, iv ((p1 &&& (2147483647 : Int32)) % (5 : Int32)), iv 1, .unset, .unset] [.int ((p1 &&& (2147483647 : Int32)) % (5 : Int32))])
      refine own_st (fun t k => XS.iconst X0.here hx rfl (hb hby at_35) k) ?_
      show own_E p e below _ s₁ (mkF m 36 #[iv p1, iv p2, iv ((p1 &&& (2147483647 : Int32)) % (5 : Int32)), iv 1, .unset, .unset] [.int 1, .int ((p1 &&& (2147483647 : Int32)) % (5 : Int32))])
      by_cases hc20 : ((p1 &&& (2147483647 : Int32)) % (5 : Int32)) = (1 : Int32)
      · refine own_st (fun t k => XS.icmpNo X0.here hx rfl (hb hby at_36) rfl (teq hc20).2 k) ?_
        show own_E p e below _ s₁ (mkF m 39 #[iv p1, iv p2, iv ((p1 &&& (2147483647 : Int32)) % (5 : Int32)), iv 1, .unset, .unset] [])
        obtain ⟨T21, X21, e21, st21⟩ := getS2 X0 hx hZ hown (host := "") (Or.inl (own_w hw 35 rfl)) Via.refl e0 S_REFERENCE (g := (mkF m 39 #[iv p1, iv p2, iv ((p1 &&& (2147483647 : Int32)) % (5 : Int32)), iv 1, .unset, .unset] [])) rfl (hb hby at_39)
        refine own_st st21 ?_
        show own_E p e below _ T21 (mkF m 42 #[iv p1, iv p2, iv ((p1 &&& (2147483647 : Int32)) % (5 : Int32)), iv 1, .unset, .unset] [.ref aREFERENCE])
        refine own_st (fun t k => XS.astore X21.here hx rfl (hb hby at_42) rfl rfl (l' := #[iv p1, iv p2, iv ((p1 &&& (2147483647 : Int32)) % (5 : Int32)), iv 1, rv aREFERENCE, .unset]) rfl k) ?_
        show own_E p e below _ T21 (mkF m 44 #[iv p1, iv p2, iv ((p1 &&& (2147483647 : Int32)) % (5 : Int32)), iv 1, rv aREFERENCE, .unset] [])
        refine own_st (fun t k => XS.iconst X21.here hx rfl (hb hby at_44) k) ?_
        show own_E p e below _ T21 (mkF m 45 #[iv p1, iv p2, iv ((p1 &&& (2147483647 : Int32)) % (5 : Int32)), iv 1, rv aREFERENCE, .unset] [.int 0])
        refine own_st (fun t k => XS.istore X21.here hx rfl (hb hby at_45) rfl (l' := #[iv p1, iv p2, iv ((p1 &&& (2147483647 : Int32)) % (5 : Int32)), iv 1, rv aREFERENCE, iv 0]) rfl k) ?_
        show own_E p e below _ T21 (mkF m 47 #[iv p1, iv p2, iv ((p1 &&& (2147483647 : Int32)) % (5 : Int32)), iv 1, rv aREFERENCE, iv 0] [])
        refine own_st (fun t k => XS.goto X21.here hx rfl (pc0 := 47) (pc' := 106) rfl (hb hby at_47) (by decide) (by decide) k) ?_
        show own_E p e below _ T21 (mkF m 106 #[iv p1, iv p2, iv ((p1 &&& (2147483647 : Int32)) % (5 : Int32)), iv 1, rv aREFERENCE, iv 0] [])
        refine own_st (fun t k => XS.aload X21.here hx rfl (hb hby at_106) rfl rfl k) ?_
        show own_E p e below _ T21 (mkF m 108 #[iv p1, iv p2, iv ((p1 &&& (2147483647 : Int32)) % (5 : Int32)), iv 1, rv aREFERENCE, iv 0] [.ref aREFERENCE])
        refine own_st (fun t k => XS.iloadN X21.here hx rfl (hb hby at_108) rfl k) ?_
        show own_E p e below _ T21 (mkF m 109 #[iv p1, iv p2, iv ((p1 &&& (2147483647 : Int32)) % (5 : Int32)), iv 1, rv aREFERENCE, iv 0] [.int 1, .ref aREFERENCE])
        obtain ⟨cq22, kq22, q22a, q22b, q22c⟩ := isOf hZ e21 E_REFERENCE
        obtain ⟨_, _, ⟨T22, L22, k22, n22⟩, -, X22, hS22, hgr22, ⟨Lc22, hQ22, l22, y22, z22⟩, st22⟩ := X21.virtualBackS hx (y := own_y5) (z := own_y5) hown (mvT hZ (own_w hw 4 rfl)) (mvT hZ (own_w hw 5 rfl)) (notFace_of_selects (args := #[]) (mvT hZ (own_w hw 37 rfl))) (mvT hZ (own_w hw 37 rfl)) (mvT hZ (own_w hw 6 rfl)) (by decide) (backOfS (W := 0) (own_wk_REFERENCE1 l Z a0 hw [] aREFERENCE h0 n0 Z0 E_REFERENCE) hZ (own_w hw 8 rfl) (own_w hw 2 rfl) (by decide) (by decide)) q22a q22c (g := (mkF m 109 #[iv p1, iv p2, iv ((p1 &&& (2147483647 : Int32)) % (5 : Int32)), iv 1, rv aREFERENCE, iv 0] [.int 1, .ref aREFERENCE])) rfl (by rw [hml]; rfl) (Steps.refl _) (argsL := [(.int (1 : Int32))]) (rest := []) (lenOf own_pd_3 rfl) rfl (by show 2 * 0 + _ ≤ _; exact Nat.le_of_eq rfl) (hb hby at_109) (fun _ _ => ⟨rfl, e21, (by decide : 0 + 2 ≤ _), (by decide : 0 + 148 ≤ _)⟩)
        dsimp only [Pt.U, Pt.locs, Pt.cells, Pt.slots] at X22 l22 y22 z22 st22 hQ22 hS22 hgr22
        subst l22 y22 z22
        have hZ22 := own_Zw hZ hS22
        have ho22 := own_ow hown hS22
        have hk22 := Nat.le_refl T22.heap.size
        obtain ⟨rfl, Nq22, Kq22⟩ := hQ22
        have N22 := Fr.app (Fr.nil n0) Nq22
        have e22 : T22.heap = T22.heap := rfl
        have Z23 := Nat.le_trans Z0 Kq22.1
        refine own_tr st22 ?_
        show own_E p e below _ T22 (mkF m 112 #[iv p1, iv p2, iv ((p1 &&& (2147483647 : Int32)) % (5 : Int32)), iv 1, rv aREFERENCE, iv 0] [.int 0])
        refine own_st (fun t k => XS.iload X22.here hx rfl (hb hby at_112) rfl k) ?_
        show own_E p e below _ T22 (mkF m 114 #[iv p1, iv p2, iv ((p1 &&& (2147483647 : Int32)) % (5 : Int32)), iv 1, rv aREFERENCE, iv 0] [.int 0, .int 0])
        refine own_st (fun t k => XS.icmpNo X22.here hx rfl (hb hby at_114) rfl (by decide) k) ?_
        show own_E p e below _ T22 (mkF m 117 #[iv p1, iv p2, iv ((p1 &&& (2147483647 : Int32)) % (5 : Int32)), iv 1, rv aREFERENCE, iv 0] [])
        refine own_st (fun t k => XS.iconst X22.here hx rfl (hb hby at_117) k) ?_
        show own_E p e below _ T22 (mkF m 118 #[iv p1, iv p2, iv ((p1 &&& (2147483647 : Int32)) % (5 : Int32)), iv 1, rv aREFERENCE, iv 0] [.int 1])
        refine own_st (fun t k => XS.goto X22.here hx rfl (pc0 := 118) (pc' := 122) rfl (hb hby at_118) (by decide) (by decide) k) ?_
        show own_E p e below _ T22 (mkF m 122 #[iv p1, iv p2, iv ((p1 &&& (2147483647 : Int32)) % (5 : Int32)), iv 1, rv aREFERENCE, iv 0] [.int 1])
        refine own_retSW X22 hS22 (by rw [e22]; exact hk22) hx Bd.notSynchronized Bd.returns rfl (by decide) (hb hby at_122) (by decide) (by decide) ?_
        exact ⟨rfl, N22⟩
      · refine own_st (fun t k => XS.icmpYes X0.here hx rfl (pc0 := 36) (pc' := 50) rfl (hb hby at_36) rfl (feq hc20).2 (by decide) (by decide) k) ?_
        show own_E p e below _ s₁ (mkF m 50 #[iv p1, iv p2, iv ((p1 &&& (2147483647 : Int32)) % (5 : Int32)), iv 1, .unset, .unset] [])
        refine own_st (fun t k => XS.iloadN X0.here hx rfl (hb hby at_50) rfl k) ?_
        show own_E p e below _ s₁ (mkF m 51 #[iv p1, iv p2, iv ((p1 &&& (2147483647 : Int32)) % (5 : Int32)), iv 1, .unset, .unset] [.int ((p1 &&& (2147483647 : Int32)) % (5 : Int32))])
        refine own_st (fun t k => XS.iconst X0.here hx rfl (hb hby at_51) k) ?_
        show own_E p e below _ s₁ (mkF m 52 #[iv p1, iv p2, iv ((p1 &&& (2147483647 : Int32)) % (5 : Int32)), iv 1, .unset, .unset] [.int 2, .int ((p1 &&& (2147483647 : Int32)) % (5 : Int32))])
        by_cases hc24 : ((p1 &&& (2147483647 : Int32)) % (5 : Int32)) = (2 : Int32)
        · refine own_st (fun t k => XS.icmpNo X0.here hx rfl (hb hby at_52) rfl (teq hc24).2 k) ?_
          show own_E p e below _ s₁ (mkF m 55 #[iv p1, iv p2, iv ((p1 &&& (2147483647 : Int32)) % (5 : Int32)), iv 1, .unset, .unset] [])
          obtain ⟨T25, X25, e25, st25⟩ := getS2 X0 hx hZ hown (host := "") (Or.inl (own_w hw 50 rfl)) Via.refl e0 S_STRING (g := (mkF m 55 #[iv p1, iv p2, iv ((p1 &&& (2147483647 : Int32)) % (5 : Int32)), iv 1, .unset, .unset] [])) rfl (hb hby at_55)
          refine own_st st25 ?_
          show own_E p e below _ T25 (mkF m 58 #[iv p1, iv p2, iv ((p1 &&& (2147483647 : Int32)) % (5 : Int32)), iv 1, .unset, .unset] [.ref aSTRING])
          refine own_st (fun t k => XS.astore X25.here hx rfl (hb hby at_58) rfl rfl (l' := #[iv p1, iv p2, iv ((p1 &&& (2147483647 : Int32)) % (5 : Int32)), iv 1, rv aSTRING, .unset]) rfl k) ?_
          show own_E p e below _ T25 (mkF m 60 #[iv p1, iv p2, iv ((p1 &&& (2147483647 : Int32)) % (5 : Int32)), iv 1, rv aSTRING, .unset] [])
          refine own_st (fun t k => XS.iconst X25.here hx rfl (hb hby at_60) k) ?_
          show own_E p e below _ T25 (mkF m 61 #[iv p1, iv p2, iv ((p1 &&& (2147483647 : Int32)) % (5 : Int32)), iv 1, rv aSTRING, .unset] [.int 1])
          refine own_st (fun t k => XS.istore X25.here hx rfl (hb hby at_61) rfl (l' := #[iv p1, iv p2, iv ((p1 &&& (2147483647 : Int32)) % (5 : Int32)), iv 1, rv aSTRING, iv 1]) rfl k) ?_
          show own_E p e below _ T25 (mkF m 63 #[iv p1, iv p2, iv ((p1 &&& (2147483647 : Int32)) % (5 : Int32)), iv 1, rv aSTRING, iv 1] [])
          refine own_st (fun t k => XS.goto X25.here hx rfl (pc0 := 63) (pc' := 106) rfl (hb hby at_63) (by decide) (by decide) k) ?_
          show own_E p e below _ T25 (mkF m 106 #[iv p1, iv p2, iv ((p1 &&& (2147483647 : Int32)) % (5 : Int32)), iv 1, rv aSTRING, iv 1] [])
          refine own_st (fun t k => XS.aload X25.here hx rfl (hb hby at_106) rfl rfl k) ?_
          show own_E p e below _ T25 (mkF m 108 #[iv p1, iv p2, iv ((p1 &&& (2147483647 : Int32)) % (5 : Int32)), iv 1, rv aSTRING, iv 1] [.ref aSTRING])
          refine own_st (fun t k => XS.iloadN X25.here hx rfl (hb hby at_108) rfl k) ?_
          show own_E p e below _ T25 (mkF m 109 #[iv p1, iv p2, iv ((p1 &&& (2147483647 : Int32)) % (5 : Int32)), iv 1, rv aSTRING, iv 1] [.int 1, .ref aSTRING])
          obtain ⟨cq26, kq26, q26a, q26b, q26c⟩ := isOf hZ e25 E_STRING
          obtain ⟨_, _, ⟨T26, L26, k26, n26⟩, -, X26, ⟨Lc26, hQ26, l26, y26, z26⟩, st26⟩ := X25.virtualBack hx (y := own_y5) (z := own_y5) hown (mvT hZ (own_w hw 4 rfl)) (mvT hZ (own_w hw 5 rfl)) (notFace_of_selects (args := #[]) (mvT hZ (own_w hw 52 rfl))) (mvT hZ (own_w hw 52 rfl)) (mvT hZ (own_w hw 6 rfl)) (by decide) (backOf (W := 0) (own_wk_STRING1 l Z a0 hw [] aSTRING h0 n0 Z0 E_STRING) hZ (own_w hw 8 rfl) (own_w hw 2 rfl) (by decide) (by decide)) q26a q26c (g := (mkF m 109 #[iv p1, iv p2, iv ((p1 &&& (2147483647 : Int32)) % (5 : Int32)), iv 1, rv aSTRING, iv 1] [.int 1, .ref aSTRING])) rfl (by rw [hml]; rfl) (Steps.refl _) (argsL := [(.int (1 : Int32))]) (rest := []) (lenOf own_pd_3 rfl) rfl (by show 2 * 0 + _ ≤ _; exact Nat.le_of_eq rfl) (hb hby at_109) (fun _ _ => ⟨rfl, e25, (by decide : 0 + 0 ≤ _), (by decide : 0 + 0 ≤ _)⟩)
          dsimp only [Pt.U, Pt.locs, Pt.cells, Pt.slots] at X26 l26 y26 z26 st26 hQ26
          subst l26 y26 z26
          obtain ⟨hR26, e26, rfl⟩ := hQ26
          have N26 := Fr.app (Fr.nil n0) (Fr.nil n0)
          obtain rfl := hR26
          refine own_tr st26 ?_
          show own_E p e below _ T26 (mkF m 112 #[iv p1, iv p2, iv ((p1 &&& (2147483647 : Int32)) % (5 : Int32)), iv 1, rv aSTRING, iv 1] [.int 1])
          refine own_st (fun t k => XS.iload X26.here hx rfl (hb hby at_112) rfl k) ?_
          show own_E p e below _ T26 (mkF m 114 #[iv p1, iv p2, iv ((p1 &&& (2147483647 : Int32)) % (5 : Int32)), iv 1, rv aSTRING, iv 1] [.int 1, .int 1])
          refine own_st (fun t k => XS.icmpNo X26.here hx rfl (hb hby at_114) rfl (by decide) k) ?_
          show own_E p e below _ T26 (mkF m 117 #[iv p1, iv p2, iv ((p1 &&& (2147483647 : Int32)) % (5 : Int32)), iv 1, rv aSTRING, iv 1] [])
          refine own_st (fun t k => XS.iconst X26.here hx rfl (hb hby at_117) k) ?_
          show own_E p e below _ T26 (mkF m 118 #[iv p1, iv p2, iv ((p1 &&& (2147483647 : Int32)) % (5 : Int32)), iv 1, rv aSTRING, iv 1] [.int 1])
          refine own_st (fun t k => XS.goto X26.here hx rfl (pc0 := 118) (pc' := 122) rfl (hb hby at_118) (by decide) (by decide) k) ?_
          show own_E p e below _ T26 (mkF m 122 #[iv p1, iv p2, iv ((p1 &&& (2147483647 : Int32)) % (5 : Int32)), iv 1, rv aSTRING, iv 1] [.int 1])
          refine own_retSW X26 (own_since s) (by rw [e26]; exact (Nat.zero_le _)) hx Bd.notSynchronized Bd.returns rfl (by decide) (hb hby at_122) (by decide) (by decide) ?_
          exact ⟨rfl, N26⟩
        · refine own_st (fun t k => XS.icmpYes X0.here hx rfl (pc0 := 52) (pc' := 66) rfl (hb hby at_52) rfl (feq hc24).2 (by decide) (by decide) k) ?_
          show own_E p e below _ s₁ (mkF m 66 #[iv p1, iv p2, iv ((p1 &&& (2147483647 : Int32)) % (5 : Int32)), iv 1, .unset, .unset] [])
          refine own_st (fun t k => XS.iloadN X0.here hx rfl (hb hby at_66) rfl k) ?_
          show own_E p e below _ s₁ (mkF m 67 #[iv p1, iv p2, iv ((p1 &&& (2147483647 : Int32)) % (5 : Int32)), iv 1, .unset, .unset] [.int ((p1 &&& (2147483647 : Int32)) % (5 : Int32))])
          refine own_st (fun t k => XS.iconst X0.here hx rfl (hb hby at_67) k) ?_
          show own_E p e below _ s₁ (mkF m 68 #[iv p1, iv p2, iv ((p1 &&& (2147483647 : Int32)) % (5 : Int32)), iv 1, .unset, .unset] [.int 3, .int ((p1 &&& (2147483647 : Int32)) % (5 : Int32))])
          by_cases hc27 : ((p1 &&& (2147483647 : Int32)) % (5 : Int32)) = (3 : Int32)
          · refine own_st (fun t k => XS.icmpNo X0.here hx rfl (hb hby at_68) rfl (teq hc27).2 k) ?_
            show own_E p e below _ s₁ (mkF m 71 #[iv p1, iv p2, iv ((p1 &&& (2147483647 : Int32)) % (5 : Int32)), iv 1, .unset, .unset] [])
            obtain ⟨T28, X28, e28, st28⟩ := getS2 X0 hx hZ hown (host := "") (Or.inl (own_w hw 27 rfl)) Via.refl e0 S_DATE (g := (mkF m 71 #[iv p1, iv p2, iv ((p1 &&& (2147483647 : Int32)) % (5 : Int32)), iv 1, .unset, .unset] [])) rfl (hb hby at_71)
            refine own_st st28 ?_
            show own_E p e below _ T28 (mkF m 74 #[iv p1, iv p2, iv ((p1 &&& (2147483647 : Int32)) % (5 : Int32)), iv 1, .unset, .unset] [.ref aDATE])
            refine own_st (fun t k => XS.astore X28.here hx rfl (hb hby at_74) rfl rfl (l' := #[iv p1, iv p2, iv ((p1 &&& (2147483647 : Int32)) % (5 : Int32)), iv 1, rv aDATE, .unset]) rfl k) ?_
            show own_E p e below _ T28 (mkF m 76 #[iv p1, iv p2, iv ((p1 &&& (2147483647 : Int32)) % (5 : Int32)), iv 1, rv aDATE, .unset] [])
            refine own_st (fun t k => XS.iloadN X28.here hx rfl (hb hby at_76) rfl k) ?_
            show own_E p e below _ T28 (mkF m 77 #[iv p1, iv p2, iv ((p1 &&& (2147483647 : Int32)) % (5 : Int32)), iv 1, rv aDATE, .unset] [.int 1])
            refine own_st (fun t k => XS.ifYes X28.here hx rfl (pc0 := 77) (pc' := 84) rfl (hb hby at_77) rfl (by decide) (by decide) (by decide) k) ?_
            show own_E p e below _ T28 (mkF m 84 #[iv p1, iv p2, iv ((p1 &&& (2147483647 : Int32)) % (5 : Int32)), iv 1, rv aDATE, .unset] [])
            refine own_st (fun t k => XS.iconst X28.here hx rfl (hb hby at_84) k) ?_
            show own_E p e below _ T28 (mkF m 85 #[iv p1, iv p2, iv ((p1 &&& (2147483647 : Int32)) % (5 : Int32)), iv 1, rv aDATE, .unset] [.int 0])
            refine own_st (fun t k => XS.istore X28.here hx rfl (hb hby at_85) rfl (l' := #[iv p1, iv p2, iv ((p1 &&& (2147483647 : Int32)) % (5 : Int32)), iv 1, rv aDATE, iv 0]) rfl k) ?_
            show own_E p e below _ T28 (mkF m 87 #[iv p1, iv p2, iv ((p1 &&& (2147483647 : Int32)) % (5 : Int32)), iv 1, rv aDATE, iv 0] [])
            refine own_st (fun t k => XS.goto X28.here hx rfl (pc0 := 87) (pc' := 106) rfl (hb hby at_87) (by decide) (by decide) k) ?_
            show own_E p e below _ T28 (mkF m 106 #[iv p1, iv p2, iv ((p1 &&& (2147483647 : Int32)) % (5 : Int32)), iv 1, rv aDATE, iv 0] [])
            refine own_st (fun t k => XS.aload X28.here hx rfl (hb hby at_106) rfl rfl k) ?_
            show own_E p e below _ T28 (mkF m 108 #[iv p1, iv p2, iv ((p1 &&& (2147483647 : Int32)) % (5 : Int32)), iv 1, rv aDATE, iv 0] [.ref aDATE])
            refine own_st (fun t k => XS.iloadN X28.here hx rfl (hb hby at_108) rfl k) ?_
            show own_E p e below _ T28 (mkF m 109 #[iv p1, iv p2, iv ((p1 &&& (2147483647 : Int32)) % (5 : Int32)), iv 1, rv aDATE, iv 0] [.int 1, .ref aDATE])
            obtain ⟨cq29, kq29, q29a, q29b, q29c⟩ := isOf hZ e28 E_DATE
            obtain ⟨_, _, ⟨T29, L29, k29, n29⟩, -, X29, ⟨Lc29, hQ29, l29, y29, z29⟩, st29⟩ := X28.virtualBack hx (y := own_y5) (z := own_y5) hown (mvT hZ (own_w hw 4 rfl)) (mvT hZ (own_w hw 5 rfl)) (notFace_of_selects (args := #[]) (mvT hZ (own_w hw 29 rfl))) (mvT hZ (own_w hw 29 rfl)) (mvT hZ (own_w hw 6 rfl)) (by decide) (backOf (W := 0) (own_wk_DATE1 l Z a0 hw [] aDATE h0 n0 Z0 E_DATE) hZ (own_w hw 8 rfl) (own_w hw 2 rfl) (by decide) (by decide)) q29a q29c (g := (mkF m 109 #[iv p1, iv p2, iv ((p1 &&& (2147483647 : Int32)) % (5 : Int32)), iv 1, rv aDATE, iv 0] [.int 1, .ref aDATE])) rfl (by rw [hml]; rfl) (Steps.refl _) (argsL := [(.int (1 : Int32))]) (rest := []) (lenOf own_pd_3 rfl) rfl (by show 2 * 0 + _ ≤ _; exact Nat.le_of_eq rfl) (hb hby at_109) (fun _ _ => ⟨rfl, e28, (by decide : 0 + 0 ≤ _), (by decide : 0 + 0 ≤ _)⟩)
            dsimp only [Pt.U, Pt.locs, Pt.cells, Pt.slots] at X29 l29 y29 z29 st29 hQ29
            subst l29 y29 z29
            obtain ⟨hR29, e29, rfl⟩ := hQ29
            have N29 := Fr.app (Fr.nil n0) (Fr.nil n0)
            obtain rfl := hR29
            refine own_tr st29 ?_
            show own_E p e below _ T29 (mkF m 112 #[iv p1, iv p2, iv ((p1 &&& (2147483647 : Int32)) % (5 : Int32)), iv 1, rv aDATE, iv 0] [.int 0])
            refine own_st (fun t k => XS.iload X29.here hx rfl (hb hby at_112) rfl k) ?_
            show own_E p e below _ T29 (mkF m 114 #[iv p1, iv p2, iv ((p1 &&& (2147483647 : Int32)) % (5 : Int32)), iv 1, rv aDATE, iv 0] [.int 0, .int 0])
            refine own_st (fun t k => XS.icmpNo X29.here hx rfl (hb hby at_114) rfl (by decide) k) ?_
            show own_E p e below _ T29 (mkF m 117 #[iv p1, iv p2, iv ((p1 &&& (2147483647 : Int32)) % (5 : Int32)), iv 1, rv aDATE, iv 0] [])
            refine own_st (fun t k => XS.iconst X29.here hx rfl (hb hby at_117) k) ?_
            show own_E p e below _ T29 (mkF m 118 #[iv p1, iv p2, iv ((p1 &&& (2147483647 : Int32)) % (5 : Int32)), iv 1, rv aDATE, iv 0] [.int 1])
            refine own_st (fun t k => XS.goto X29.here hx rfl (pc0 := 118) (pc' := 122) rfl (hb hby at_118) (by decide) (by decide) k) ?_
            show own_E p e below _ T29 (mkF m 122 #[iv p1, iv p2, iv ((p1 &&& (2147483647 : Int32)) % (5 : Int32)), iv 1, rv aDATE, iv 0] [.int 1])
            refine own_retSW X29 (own_since s) (by rw [e29]; exact (Nat.zero_le _)) hx Bd.notSynchronized Bd.returns rfl (by decide) (hb hby at_122) (by decide) (by decide) ?_
            exact ⟨rfl, N29⟩
          · refine own_st (fun t k => XS.icmpYes X0.here hx rfl (pc0 := 68) (pc' := 90) rfl (hb hby at_68) rfl (feq hc27).2 (by decide) (by decide) k) ?_
            show own_E p e below _ s₁ (mkF m 90 #[iv p1, iv p2, iv ((p1 &&& (2147483647 : Int32)) % (5 : Int32)), iv 1, .unset, .unset] [])
            obtain ⟨T30, X30, e30, st30⟩ := getS2 X0 hx hZ hown (host := "") (Or.inl (own_w hw 19 rfl)) Via.refl e0 S_QUANTITY (g := (mkF m 90 #[iv p1, iv p2, iv ((p1 &&& (2147483647 : Int32)) % (5 : Int32)), iv 1, .unset, .unset] [])) rfl (hb hby at_90)
            refine own_st st30 ?_
            show own_E p e below _ T30 (mkF m 93 #[iv p1, iv p2, iv ((p1 &&& (2147483647 : Int32)) % (5 : Int32)), iv 1, .unset, .unset] [.ref aQUANTITY])
            refine own_st (fun t k => XS.astore X30.here hx rfl (hb hby at_93) rfl rfl (l' := #[iv p1, iv p2, iv ((p1 &&& (2147483647 : Int32)) % (5 : Int32)), iv 1, rv aQUANTITY, .unset]) rfl k) ?_
            show own_E p e below _ T30 (mkF m 95 #[iv p1, iv p2, iv ((p1 &&& (2147483647 : Int32)) % (5 : Int32)), iv 1, rv aQUANTITY, .unset] [])
            refine own_st (fun t k => XS.iloadN X30.here hx rfl (hb hby at_95) rfl k) ?_
            show own_E p e below _ T30 (mkF m 96 #[iv p1, iv p2, iv ((p1 &&& (2147483647 : Int32)) % (5 : Int32)), iv 1, rv aQUANTITY, .unset] [.int 1])
            refine own_st (fun t k => XS.ifYes X30.here hx rfl (pc0 := 96) (pc' := 103) rfl (hb hby at_96) rfl (by decide) (by decide) (by decide) k) ?_
            show own_E p e below _ T30 (mkF m 103 #[iv p1, iv p2, iv ((p1 &&& (2147483647 : Int32)) % (5 : Int32)), iv 1, rv aQUANTITY, .unset] [])
            refine own_st (fun t k => XS.iconst X30.here hx rfl (hb hby at_103) k) ?_
            show own_E p e below _ T30 (mkF m 104 #[iv p1, iv p2, iv ((p1 &&& (2147483647 : Int32)) % (5 : Int32)), iv 1, rv aQUANTITY, .unset] [.int 0])
            refine own_st (fun t k => XS.istore X30.here hx rfl (hb hby at_104) rfl (l' := #[iv p1, iv p2, iv ((p1 &&& (2147483647 : Int32)) % (5 : Int32)), iv 1, rv aQUANTITY, iv 0]) rfl k) ?_
            show own_E p e below _ T30 (mkF m 106 #[iv p1, iv p2, iv ((p1 &&& (2147483647 : Int32)) % (5 : Int32)), iv 1, rv aQUANTITY, iv 0] [])
            refine own_st (fun t k => XS.aload X30.here hx rfl (hb hby at_106) rfl rfl k) ?_
            show own_E p e below _ T30 (mkF m 108 #[iv p1, iv p2, iv ((p1 &&& (2147483647 : Int32)) % (5 : Int32)), iv 1, rv aQUANTITY, iv 0] [.ref aQUANTITY])
            refine own_st (fun t k => XS.iloadN X30.here hx rfl (hb hby at_108) rfl k) ?_
            show own_E p e below _ T30 (mkF m 109 #[iv p1, iv p2, iv ((p1 &&& (2147483647 : Int32)) % (5 : Int32)), iv 1, rv aQUANTITY, iv 0] [.int 1, .ref aQUANTITY])
            obtain ⟨cq31, kq31, q31a, q31b, q31c⟩ := isOf hZ e30 E_QUANTITY
            obtain ⟨_, _, ⟨T31, L31, k31, n31⟩, -, X31, ⟨Lc31, hQ31, l31, y31, z31⟩, st31⟩ := X30.virtualBack hx (y := own_y5) (z := own_y5) hown (mvT hZ (own_w hw 4 rfl)) (mvT hZ (own_w hw 5 rfl)) (notFace_of_selects (args := #[]) (mvT hZ (own_w hw 21 rfl))) (mvT hZ (own_w hw 21 rfl)) (mvT hZ (own_w hw 6 rfl)) (by decide) (backOf (W := 0) (own_wk_QUANTITY1 l Z a0 hw [] aQUANTITY h0 n0 Z0 E_QUANTITY) hZ (own_w hw 8 rfl) (own_w hw 2 rfl) (by decide) (by decide)) q31a q31c (g := (mkF m 109 #[iv p1, iv p2, iv ((p1 &&& (2147483647 : Int32)) % (5 : Int32)), iv 1, rv aQUANTITY, iv 0] [.int 1, .ref aQUANTITY])) rfl (by rw [hml]; rfl) (Steps.refl _) (argsL := [(.int (1 : Int32))]) (rest := []) (lenOf own_pd_3 rfl) rfl (by show 2 * 0 + _ ≤ _; exact Nat.le_of_eq rfl) (hb hby at_109) (fun _ _ => ⟨rfl, e30, (by decide : 0 + 0 ≤ _), (by decide : 0 + 0 ≤ _)⟩)
            dsimp only [Pt.U, Pt.locs, Pt.cells, Pt.slots] at X31 l31 y31 z31 st31 hQ31
            subst l31 y31 z31
            obtain ⟨hR31, e31, rfl⟩ := hQ31
            have N31 := Fr.app (Fr.nil n0) (Fr.nil n0)
            obtain rfl := hR31
            refine own_tr st31 ?_
            show own_E p e below _ T31 (mkF m 112 #[iv p1, iv p2, iv ((p1 &&& (2147483647 : Int32)) % (5 : Int32)), iv 1, rv aQUANTITY, iv 0] [.int 0])
            refine own_st (fun t k => XS.iload X31.here hx rfl (hb hby at_112) rfl k) ?_
            show own_E p e below _ T31 (mkF m 114 #[iv p1, iv p2, iv ((p1 &&& (2147483647 : Int32)) % (5 : Int32)), iv 1, rv aQUANTITY, iv 0] [.int 0, .int 0])
            refine own_st (fun t k => XS.icmpNo X31.here hx rfl (hb hby at_114) rfl (by decide) k) ?_
            show own_E p e below _ T31 (mkF m 117 #[iv p1, iv p2, iv ((p1 &&& (2147483647 : Int32)) % (5 : Int32)), iv 1, rv aQUANTITY, iv 0] [])
            refine own_st (fun t k => XS.iconst X31.here hx rfl (hb hby at_117) k) ?_
            show own_E p e below _ T31 (mkF m 118 #[iv p1, iv p2, iv ((p1 &&& (2147483647 : Int32)) % (5 : Int32)), iv 1, rv aQUANTITY, iv 0] [.int 1])
            refine own_st (fun t k => XS.goto X31.here hx rfl (pc0 := 118) (pc' := 122) rfl (hb hby at_118) (by decide) (by decide) k) ?_
            show own_E p e below _ T31 (mkF m 122 #[iv p1, iv p2, iv ((p1 &&& (2147483647 : Int32)) % (5 : Int32)), iv 1, rv aQUANTITY, iv 0] [.int 1])
            refine own_retSW X31 (own_since s) (by rw [e31]; exact (Nat.zero_le _)) hx Bd.notSynchronized Bd.returns rfl (by decide) (hb hby at_122) (by decide) (by decide) ?_
            exact ⟨rfl, N31⟩
set_option maxRecDepth 65536 in
set_option maxHeartbeats 40000000 in
theorem comes_1 {Post : Tables → Env → Array Value → State → Outcome → State → Prop} (hpost : ∀ tb e args s v u, (limb_1_1.after args s (.returned v) u = true ∧ limb_1_2.after args s (.returned v) u = true ∧ True) → Jvm.ReturnedEndW s (.returned v) u (Jvm.fieldLocs frame_1_writes args s ++ Jvm.arrayLocs frame_1_arrays args s ++ Jvm.staticLocs frame_1_statics s) 8 1088 → Post tb e args s (.returned v) u) :
    ArmFor flags0 classFile x code maxLocals ret World_1 tables_1 room_1 Calls_1 rest_1 Pre_1 Post := by
  intro l hfl _ _ p e ha hc hk s m args below hf hA hF happ hP
  obtain ⟨hcalls, hrest, hpre⟩ := hP
  obtain ⟨-, -, -, hnamed, -, -, -, hat⟩ := (Spec.applies_iff hf).mp happ
  obtain ⟨hg, hn⟩ := and_e (Cond.before_iff.mp (show (Jvm.Cond.and given_1 narrow_1).before args s = true from hpre))
  obtain ⟨hg0, hg1⟩ := and_e hg
  obtain ⟨hv0, hg2⟩ := and_e hg1
  have hv1 := hg2
  obtain ⟨w0, w1, rfl⟩ : ∃ w0 w1 : Value, args = #[w0, w1] := by
    have hs : args.size = 2 := by simpa [Cond.value, given_1] using hg0
    obtain ⟨L⟩ := args
    match L, hs with
    | [w0, w1], _ => exact ⟨w0, w1, rfl⟩
  have hw := fun d (hd : d ∈ tables_1) => atoms_spec (ws := Jvm.Cond.code x code maxLocals ret :: tables_1) hat d (List.mem_cons_of_mem _ hd)
  have hfit : Fit s := fun {y c} hc i hi => by
    obtain ⟨ha, rfl⟩ := Array.getElem?_eq_some_iff.mp hc
    have q := List.all_eq_true.mp ((Array.all_eq_true_iff_forall_mem.mp hF) _ (Array.getElem_mem ha)) i (List.mem_range.mpr hi)
    simpa [Array.getElem?_eq_getElem hi] using q
  obtain ⟨i0, ev0⟩ := is_v hv0
  obtain rfl : w0 = (.int i0) := Option.some.inj ev0
  obtain ⟨i1, ev1⟩ := is_v hv1
  obtain rfl : w1 = (.int i1) := Option.some.inj ev1
  obtain ⟨hp0, hq0⟩ := and_e hn
  obtain ⟨hp1, hq1⟩ := and_e hq0
  obtain ⟨hp2, hq2⟩ := and_e hq1
  obtain ⟨hp3, hq3⟩ := and_e hq2
  have hp4 := hq3
  obtain ⟨aTOKEN, evTOKEN⟩ := exa_v hp0
  have S_TOKEN := Sta.start evTOKEN (Or.inr ⟨(own_w hw 2 rfl), (own_w hw 3 rfl)⟩)
  have E_TOKEN := Exa.start evTOKEN hp0
  obtain ⟨aQUANTITY, evQUANTITY⟩ := exa_v hp1
  have S_QUANTITY := Sta.start evQUANTITY (Or.inr ⟨(own_w hw 2 rfl), (own_w hw 20 rfl)⟩)
  have E_QUANTITY := Exa.start evQUANTITY hp1
  obtain ⟨aDATE, evDATE⟩ := exa_v hp2
  have S_DATE := Sta.start evDATE (Or.inr ⟨(own_w hw 2 rfl), (own_w hw 28 rfl)⟩)
  have E_DATE := Exa.start evDATE hp2
  obtain ⟨aREFERENCE, evREFERENCE⟩ := exa_v hp3
  have S_REFERENCE := Sta.start evREFERENCE (Or.inr ⟨(own_w hw 2 rfl), (own_w hw 36 rfl)⟩)
  have E_REFERENCE := Exa.start evREFERENCE hp3
  obtain ⟨aSTRING, evSTRING⟩ := exa_v hp4
  have S_STRING := Sta.start evSTRING (Or.inr ⟨(own_w hw 2 rfl), (own_w hw 51 rfl)⟩)
  have E_STRING := Exa.start evSTRING hp4
  obtain ⟨n, o, h1, h2, h3, _, L, rfl, ⟨rfl, N⟩, hq⟩ := own_law l s _ hw tables_1 aTOKEN aQUANTITY aDATE aREFERENCE aSTRING i0 i1 s.heap s.heap.size (Nat.le_refl _) S_TOKEN S_QUANTITY S_DATE S_REFERENCE S_STRING E_TOKEN E_QUANTITY E_DATE E_REFERENCE E_STRING p e ha hc hk s m _ below hf ((Spec.applies_iff_loose hf).mp happ).1 ⟨rfl, State.Warmed39.refl s, rfl⟩ trivial
  refine ⟨n, _, h1, h2, h3, hpost _ _ _ _ _ _ ⟨Cond.after_iff.mpr rfl, Cond.after_iff.mpr (eq_i res_at (Term.int_eval (1)) rfl), trivial⟩ ⟨hq.1, hq.2.1, hq.2.2.1, (hq.2.2.2.sift fun y hy => Or.inr (N y hy)).mono (by decide) (by decide)⟩⟩
theorem main_1_1 : Claimed_1_1 := comes_1 fun _ _ _ _ _ _ h hF => ⟨h.1, hF⟩
theorem main_1_2 : Claimed_1_2 := comes_1 fun _ _ _ _ _ _ h hF => ⟨h.2.1, hF⟩
end Jvm.Pilot.@@N@@
namespace Jvm.Pilot.@@N@@
open Jvm Jvm.ClassFile Sem Op Lib Jvm.Free Jvm.Stand Jvm.Pilot.@@N@@.Jvm.D
/-! MADE BY PROGRAM (witnessworld.py) out of the Statement's table words and the real class files: 20 classes; the members and pool entries that the words name. The judged class is class 1, her method 1. -/
namespace start1
open Jvm.ClassFile
def u (s : String) : CpInfo := .utf8 (stringToUtf16 s)
/-- a pool by its gaps: so many unusable entries, then the entry; so many at the end -/
def gap : Nat → List CpInfo → List CpInfo
  | 0, r => r
  | n + 1, r => .unusable :: gap n r
def poolList (es : List (Nat × CpInfo)) (last : Nat) : List CpInfo := es.foldr (fun e r => gap e.1 (e.2 :: r)) (gap last [])
def pool (es : List (Nat × CpInfo)) (last : Nat) : Array CpInfo := ⟨poolList es last⟩
def fileOf (pool : Array CpInfo) (this : Nat) (attrs : Array Attribute := #[]) (ms : Array MethodInfo := #[]) (fl : Nat := 33) (sup : Nat := 0) (ifs : Array Nat := #[]) (fds : Array FieldInfo := #[]) : ClassFile where
  minorVersion := 0
  majorVersion := 65
  constantPool := pool
  accessFlags := fl
  thisClass := this
  superClass := sup
  interfaces := ifs
  fields := fds
  methods := ms
  attributes := attrs
def plain (name : String) (sup : Option ClassId) : Class where
  name := name
  kind := .ordinary
  loader := none
  accessFlags := 33
  super := sup
  interfaces := #[]
  cf := none
  fields := #[]
  methods := #[]
  instanceTypes := #[]
  staticTypes := #[]
  resolved := #[]
  callSites := []
  init := .initialized
  statics := none
  mirror := none

def pool0 : Array CpInfo := pool [(5, u "<init>"), (0, u "()V"), (1, .class_ 10), (1, u "java/lang/Object")] 113

def k0m0 : Method := { name := "<init>", desc := "()V", sig := { parameters := [], returnType := none }, accessFlags := 1, code := none }
/-- java/lang/Object -/
def k0 : Class := { plain "java/lang/Object" none with
  accessFlags := 33
  interfaces := #[]
  cf := some (fileOf pool0 8 #[] #[{ accessFlags := 1, nameIndex := 5, descriptorIndex := 6, attributes := #[] }] 33 0 #[] #[])
  fields := #[]
  methods := #[k0m0]
  instanceTypes := #[]
  staticTypes := #[]
  resolved := Array.replicate 124 none
  statics := none }

def pool1 : Array CpInfo := pool [(2, .class_ 4), (1, u "java/lang/Object"), (0, u "<init>"), (0, u "()V"), (0, .integer 2147483647), (0, .fieldref 9 10), (0, .class_ 11), (0, .nameAndType 12 13), (0, u "com/example/brazier/brazier/store/IndexTable"), (0, u "TOKEN"), (0, u "Lcom/example/brazier/brazier/store/IndexTable;"), (0, .fieldref 9 15), (0, .nameAndType 16 13), (0, u "REFERENCE"), (0, .fieldref 9 18), (0, .nameAndType 19 13), (0, u "STRING"), (0, .fieldref 9 21), (0, .nameAndType 22 13), (0, u "DATE"), (0, .fieldref 9 24), (0, .nameAndType 25 13), (0, u "QUANTITY"), (0, .methodref 9 27), (0, .nameAndType 28 29), (0, u "walkedByKey"), (0, u "(Z)Z"), (0, .class_ 31), (0, u "com/example/brazier/brazier/store/IndexTableWalkedByKeyPinLaw"), (2, u "law"), (0, u "(II)Z")] 3

def k1m0 : Method := { name := "<init>", desc := "()V", sig := { parameters := [], returnType := none }, accessFlags := 1, code := none }
def k1c1 : Code := { maxStack := 2, maxLocals := 6, code := code, exceptionTable := #[], attributes := #[] }
def k1m1 : Method := { name := "law", desc := "(II)Z", sig := { parameters := [.int, .int], returnType := some .boolean }, accessFlags := 9, code := some k1c1 }
/-- com/example/brazier/brazier/store/IndexTableWalkedByKeyPinLaw -/
def k1 : Class := { plain "com/example/brazier/brazier/store/IndexTableWalkedByKeyPinLaw" (some 0) with
  accessFlags := 49
  interfaces := #[]
  cf := some (fileOf pool1 30 #[] #[{ accessFlags := 1, nameIndex := 5, descriptorIndex := 6, attributes := #[] }, { accessFlags := 9, nameIndex := 34, descriptorIndex := 35, attributes := #[] }] 49 2 #[] #[])
  fields := #[]
  methods := #[k1m0, k1m1]
  instanceTypes := #[]
  staticTypes := #[]
  resolved := Array.replicate 39 none
  statics := none }

def pool2 : Array CpInfo := pool [(1, .class_ 2), (0, u "java/lang/constant/Constable"), (0, .class_ 4), (0, u "java/lang/Object")] 6

/-- java/lang/constant/Constable -/
def k2 : Class := { plain "java/lang/constant/Constable" (some 0) with
  accessFlags := 1537
  interfaces := #[]
  cf := some (fileOf pool2 1 #[] #[] 1537 3 #[] #[])
  fields := #[]
  methods := #[]
  instanceTypes := #[]
  staticTypes := #[]
  resolved := Array.replicate 11 none
  statics := none }

def pool3 : Array CpInfo := pool [(1, .class_ 2), (0, u "java/lang/Comparable"), (0, .class_ 4), (0, u "java/lang/Object")] 7

/-- java/lang/Comparable -/
def k3 : Class := { plain "java/lang/Comparable" (some 0) with
  accessFlags := 1537
  interfaces := #[]
  cf := some (fileOf pool3 1 #[] #[] 1537 3 #[] #[])
  fields := #[]
  methods := #[]
  instanceTypes := #[]
  staticTypes := #[]
  resolved := Array.replicate 12 none
  statics := none }

def pool4 : Array CpInfo := pool [(1, .class_ 2), (0, u "java/io/Serializable"), (0, .class_ 4), (0, u "java/lang/Object")] 2

/-- java/io/Serializable -/
def k4 : Class := { plain "java/io/Serializable" (some 0) with
  accessFlags := 1537
  interfaces := #[]
  cf := some (fileOf pool4 1 #[] #[] 1537 3 #[] #[])
  fields := #[]
  methods := #[]
  instanceTypes := #[]
  staticTypes := #[]
  resolved := Array.replicate 7 none
  statics := none }

def pool5 : Array CpInfo := pool [(2, .class_ 4), (1, u "java/lang/Enum"), (0, u "name"), (0, u "Ljava/lang/String;"), (2, u "ordinal"), (0, u "I"), (1, .class_ 14), (1, u "java/lang/Object"), (4, u "hash"), (86, .class_ 108), (1, u "java/lang/Enum$EnumDesc"), (2, .class_ 112), (0, u "java/lang/constant/Constable"), (0, .class_ 114), (0, u "java/lang/Comparable"), (0, .class_ 116), (0, u "java/io/Serializable")] 87

/-- java/lang/Enum -/
def k5 : Class := { plain "java/lang/Enum" (some 0) with
  accessFlags := 1057
  interfaces := #[2, 3, 4]
  cf := some (fileOf pool5 2 #[.nestMembers #[106]] #[] 1057 12 #[111, 113, 115] #[{ accessFlags := 18, nameIndex := 5, descriptorIndex := 6, attributes := #[] }, { accessFlags := 18, nameIndex := 9, descriptorIndex := 10, attributes := #[] }, { accessFlags := 2, nameIndex := 19, descriptorIndex := 10, attributes := #[] }])
  fields := #[{ name := "name", type := (.object "java/lang/String"), accessFlags := 18, slot := 0, constantValue := 0 }, { name := "ordinal", type := .int, accessFlags := 18, slot := 1, constantValue := 0 }, { name := "hash", type := .int, accessFlags := 2, slot := 2, constantValue := 0 }]
  methods := #[]
  instanceTypes := #[(.object "java/lang/String"), .int, .int]
  staticTypes := #[]
  resolved := Array.replicate 204 none
  statics := none }

def pool6 : Array CpInfo := pool [(1, .class_ 2), (0, u "com/example/brazier/brazier/store/IndexTable"), (2, u "TOKEN"), (0, u "Lcom/example/brazier/brazier/store/IndexTable;"), (2, u "REFERENCE"), (2, u "STRING"), (2, u "DATE"), (2, u "QUANTITY"), (2, u "$VALUES"), (0, u "[Lcom/example/brazier/brazier/store/IndexTable;"), (6, .class_ 31), (1, u "java/lang/Enum"), (8, u "sqlName"), (0, u "Ljava/lang/String;"), (2, u "counted"), (0, u "Z"), (2, u "kind"), (0, u "Ljava/lang/Class;"), (8, u "valueColumns"), (0, u "Ljava/util/List;"), (2, u "OF_KIND"), (0, u "Ljava/util/Map;"), (16, u "ROW"), (82, u "()Z"), (7, u "()Ljava/lang/String;"), (22, .methodref 1 195), (0, .nameAndType 196 171), (0, u "sortedRows"), (0, .methodref 1 198), (0, .nameAndType 199 163), (0, u "heldHighestFirst"), (4, .class_ 205), (0, u "com/example/brazier/brazier/store/IndexTable$1"), (12, .class_ 219), (0, u "com/example/brazier/brazier/store/IndexTable$2"), (12, .class_ 233), (0, u "com/example/brazier/brazier/store/IndexTable$3"), (10, .class_ 245), (0, u "com/example/brazier/brazier/store/IndexTable$4"), (8, .class_ 255), (0, u "com/example/brazier/brazier/store/IndexTable$5"), (62, u "walkedByKey"), (0, u "(Z)Z")] 38

def k6c0 : Code := { maxStack := 1, maxLocals := 1, code := prog_80_method_18_code, exceptionTable := #[], attributes := #[] }
def k6m0 : Method := { name := "sortedRows", desc := "()Ljava/lang/String;", sig := { parameters := [], returnType := some (.object "java/lang/String") }, accessFlags := 0, code := some k6c0 }
def k6c1 : Code := { maxStack := 1, maxLocals := 1, code := prog_80_method_19_code, exceptionTable := #[], attributes := #[] }
def k6m1 : Method := { name := "heldHighestFirst", desc := "()Z", sig := { parameters := [], returnType := some .boolean }, accessFlags := 0, code := some k6c1 }
def k6c2 : Code := { maxStack := 1, maxLocals := 2, code := prog_80_method_20_code, exceptionTable := #[], attributes := #[] }
def k6m2 : Method := { name := "walkedByKey", desc := "(Z)Z", sig := { parameters := [.boolean], returnType := some .boolean }, accessFlags := 0, code := some k6c2 }
/-- com/example/brazier/brazier/store/IndexTable -/
def k6 : Class := { plain "com/example/brazier/brazier/store/IndexTable" (some 5) with
  accessFlags := 17440
  interfaces := #[]
  cf := some (fileOf pool6 1 #[.nestMembers #[254, 244, 232, 218, 204]] #[{ accessFlags := 0, nameIndex := 196, descriptorIndex := 171, attributes := #[] }, { accessFlags := 0, nameIndex := 199, descriptorIndex := 163, attributes := #[] }, { accessFlags := 0, nameIndex := 318, descriptorIndex := 319, attributes := #[] }] 17440 29 #[] #[{ accessFlags := 16409, nameIndex := 5, descriptorIndex := 6, attributes := #[] }, { accessFlags := 16409, nameIndex := 9, descriptorIndex := 6, attributes := #[] }, { accessFlags := 16409, nameIndex := 12, descriptorIndex := 6, attributes := #[] }, { accessFlags := 16409, nameIndex := 15, descriptorIndex := 6, attributes := #[] }, { accessFlags := 16409, nameIndex := 18, descriptorIndex := 6, attributes := #[] }, { accessFlags := 24, nameIndex := 80, descriptorIndex := 59, attributes := #[] }, { accessFlags := 26, nameIndex := 62, descriptorIndex := 63, attributes := #[] }, { accessFlags := 18, nameIndex := 40, descriptorIndex := 41, attributes := #[] }, { accessFlags := 18, nameIndex := 44, descriptorIndex := 45, attributes := #[] }, { accessFlags := 18, nameIndex := 48, descriptorIndex := 49, attributes := #[] }, { accessFlags := 18, nameIndex := 58, descriptorIndex := 59, attributes := #[] }, { accessFlags := 4122, nameIndex := 21, descriptorIndex := 22, attributes := #[] }])
  fields := #[{ name := "TOKEN", type := (.object "com/example/brazier/brazier/store/IndexTable"), accessFlags := 16409, slot := 0, constantValue := 0 }, { name := "REFERENCE", type := (.object "com/example/brazier/brazier/store/IndexTable"), accessFlags := 16409, slot := 1, constantValue := 0 }, { name := "STRING", type := (.object "com/example/brazier/brazier/store/IndexTable"), accessFlags := 16409, slot := 2, constantValue := 0 }, { name := "DATE", type := (.object "com/example/brazier/brazier/store/IndexTable"), accessFlags := 16409, slot := 3, constantValue := 0 }, { name := "QUANTITY", type := (.object "com/example/brazier/brazier/store/IndexTable"), accessFlags := 16409, slot := 4, constantValue := 0 }, { name := "ROW", type := (.object "java/util/List"), accessFlags := 24, slot := 5, constantValue := 0 }, { name := "OF_KIND", type := (.object "java/util/Map"), accessFlags := 26, slot := 6, constantValue := 0 }, { name := "sqlName", type := (.object "java/lang/String"), accessFlags := 18, slot := 3, constantValue := 0 }, { name := "counted", type := .boolean, accessFlags := 18, slot := 4, constantValue := 0 }, { name := "kind", type := (.object "java/lang/Class"), accessFlags := 18, slot := 5, constantValue := 0 }, { name := "valueColumns", type := (.object "java/util/List"), accessFlags := 18, slot := 6, constantValue := 0 }, { name := "$VALUES", type := (.array (.object "com/example/brazier/brazier/store/IndexTable")), accessFlags := 4122, slot := 7, constantValue := 0 }]
  methods := #[k6m0, k6m1, k6m2]
  instanceTypes := #[(.object "java/lang/String"), .int, .int, (.object "java/lang/String"), .boolean, (.object "java/lang/Class"), (.object "java/util/List")]
  staticTypes := #[(.object "com/example/brazier/brazier/store/IndexTable"), (.object "com/example/brazier/brazier/store/IndexTable"), (.object "com/example/brazier/brazier/store/IndexTable"), (.object "com/example/brazier/brazier/store/IndexTable"), (.object "com/example/brazier/brazier/store/IndexTable"), (.object "java/util/List"), (.object "java/util/Map"), (.array (.object "com/example/brazier/brazier/store/IndexTable"))]
  resolved := Array.replicate 358 none
  statics := some 0 }

def pool7 : Array CpInfo := pool [(2, .class_ 4), (1, u "com/example/brazier/brazier/store/IndexTable"), (21, .class_ 27), (0, u "com/example/brazier/brazier/store/IndexTable$1")] 18

/-- com/example/brazier/brazier/store/IndexTable$1 -/
def k7 : Class := { plain "com/example/brazier/brazier/store/IndexTable$1" (some 6) with
  accessFlags := 16432
  interfaces := #[]
  cf := some (fileOf pool7 26 #[.nestHost 2] #[] 16432 2 #[] #[])
  fields := #[]
  methods := #[]
  instanceTypes := #[(.object "java/lang/String"), .int, .int, (.object "java/lang/String"), .boolean, (.object "java/lang/Class"), (.object "java/util/List")]
  staticTypes := #[]
  resolved := Array.replicate 46 none
  statics := none }

def pool8 : Array CpInfo := pool [(2, .class_ 4), (1, u "com/example/brazier/brazier/store/IndexTable"), (7, .class_ 14), (1, u "com/example/brazier/brazier/store/IndexTable$5"), (45, u "heldHighestFirst"), (0, u "()Z")] 8

def k8c0 : Code := { maxStack := 1, maxLocals := 1, code := prog_85_method_4_code, exceptionTable := #[], attributes := #[] }
def k8m0 : Method := { name := "heldHighestFirst", desc := "()Z", sig := { parameters := [], returnType := some .boolean }, accessFlags := 0, code := some k8c0 }
/-- com/example/brazier/brazier/store/IndexTable$5 -/
def k8 : Class := { plain "com/example/brazier/brazier/store/IndexTable$5" (some 6) with
  accessFlags := 16432
  interfaces := #[]
  cf := some (fileOf pool8 12 #[.nestHost 2] #[{ accessFlags := 0, nameIndex := 60, descriptorIndex := 61, attributes := #[] }] 16432 2 #[] #[])
  fields := #[]
  methods := #[k8m0]
  instanceTypes := #[(.object "java/lang/String"), .int, .int, (.object "java/lang/String"), .boolean, (.object "java/lang/Class"), (.object "java/util/List")]
  staticTypes := #[]
  resolved := Array.replicate 70 none
  statics := none }

def pool9 : Array CpInfo := pool [(2, .class_ 4), (1, u "com/example/brazier/brazier/store/IndexTable"), (33, .class_ 39), (0, u "com/example/brazier/brazier/store/IndexTable$4"), (12, u "heldHighestFirst"), (0, u "()Z")] 8

def k9c0 : Code := { maxStack := 1, maxLocals := 1, code := prog_84_method_4_code, exceptionTable := #[], attributes := #[] }
def k9m0 : Method := { name := "heldHighestFirst", desc := "()Z", sig := { parameters := [], returnType := some .boolean }, accessFlags := 0, code := some k9c0 }
/-- com/example/brazier/brazier/store/IndexTable$4 -/
def k9 : Class := { plain "com/example/brazier/brazier/store/IndexTable$4" (some 6) with
  accessFlags := 16432
  interfaces := #[]
  cf := some (fileOf pool9 38 #[.nestHost 2] #[{ accessFlags := 0, nameIndex := 52, descriptorIndex := 53, attributes := #[] }] 16432 2 #[] #[])
  fields := #[]
  methods := #[k9m0]
  instanceTypes := #[(.object "java/lang/String"), .int, .int, (.object "java/lang/String"), .boolean, (.object "java/lang/Class"), (.object "java/util/List")]
  staticTypes := #[]
  resolved := Array.replicate 62 none
  statics := none }

def pool10 : Array CpInfo := pool [(2, .class_ 4), (1, u "com/example/brazier/brazier/store/IndexTable"), (7, u "()Ljava/lang/String;"), (14, .string 28), (0, u "(i.target_type <> '' OR i.base = '')"), (0, .class_ 30), (0, u "com/example/brazier/brazier/store/IndexTable$2"), (9, u "sortedRows")] 8

def k10c0 : Code := { maxStack := 1, maxLocals := 1, code := prog_82_method_4_code, exceptionTable := #[], attributes := #[] }
def k10m0 : Method := { name := "sortedRows", desc := "()Ljava/lang/String;", sig := { parameters := [], returnType := some (.object "java/lang/String") }, accessFlags := 0, code := some k10c0 }
/-- com/example/brazier/brazier/store/IndexTable$2 -/
def k10 : Class := { plain "com/example/brazier/brazier/store/IndexTable$2" (some 6) with
  accessFlags := 16432
  interfaces := #[]
  cf := some (fileOf pool10 29 #[.nestHost 2] #[{ accessFlags := 0, nameIndex := 40, descriptorIndex := 12, attributes := #[] }] 16432 2 #[] #[])
  fields := #[]
  methods := #[k10m0]
  instanceTypes := #[(.object "java/lang/String"), .int, .int, (.object "java/lang/String"), .boolean, (.object "java/lang/Class"), (.object "java/util/List")]
  staticTypes := #[]
  resolved := Array.replicate 49 none
  statics := none }

def pool11 : Array CpInfo := pool [(2, .class_ 4), (1, u "java/lang/CharSequence"), (42, .class_ 48), (0, u "java/lang/CharSequence$1CodePointIterator"), (10, .class_ 60), (0, u "java/lang/CharSequence$1CharIterator"), (5, .class_ 67), (0, u "java/lang/Object")] 63

/-- java/lang/CharSequence -/
def k11 : Class := { plain "java/lang/CharSequence" (some 0) with
  accessFlags := 1537
  interfaces := #[]
  cf := some (fileOf pool11 2 #[.nestMembers #[47, 59]] #[] 1537 66 #[] #[])
  fields := #[]
  methods := #[]
  instanceTypes := #[]
  staticTypes := #[]
  resolved := Array.replicate 131 none
  statics := none }

def pool12 : Array CpInfo := pool [(1, .class_ 2), (0, u "java/lang/constant/ConstantDesc"), (0, .class_ 4), (0, u "java/lang/Object")] 32

/-- java/lang/constant/ConstantDesc -/
def k12 : Class := { plain "java/lang/constant/ConstantDesc" (some 0) with
  accessFlags := 1537
  interfaces := #[]
  cf := some (fileOf pool12 1 #[] #[] 1537 3 #[] #[])
  fields := #[]
  methods := #[]
  instanceTypes := #[]
  staticTypes := #[]
  resolved := Array.replicate 37 none
  statics := none }

def pool13 : Array CpInfo := pool [(2, .class_ 4), (1, u "java/lang/Object"), (0, u "<init>"), (0, u "()V"), (3, .class_ 12), (1, u "java/lang/String"), (0, u "value"), (0, u "[B"), (2, u "coder"), (0, u "B"), (2, u "hash"), (0, u "I"), (2, u "hashIsZero"), (0, u "Z"), (13, u "COMPACT_STRINGS"), (534, .class_ 576), (0, u "java/lang/CharSequence"), (22, u "CASE_INSENSITIVE_ORDER"), (0, u "Ljava/util/Comparator;"), (500, u "serialPersistentFields"), (0, u "[Ljava/io/ObjectStreamField;"), (0, .class_ 1104), (0, u "java/lang/String$CaseInsensitiveComparator"), (1, .class_ 1107), (0, u "java/io/Serializable"), (0, .class_ 1109), (0, u "java/lang/Comparable"), (0, .class_ 1111), (0, u "java/lang/constant/Constable"), (0, .class_ 1113), (0, u "java/lang/constant/ConstantDesc"), (2, u "serialVersionUID"), (0, u "J"), (3, u "REPL"), (0, u "C"), (2, u "LATIN1"), (1, u "UTF16")] 323

def k13m0 : Method := { name := "<init>", desc := "()V", sig := { parameters := [], returnType := none }, accessFlags := 1, code := none }
/-- java/lang/String -/
def k13 : Class := { plain "java/lang/String" (some 0) with
  accessFlags := 49
  interfaces := #[4, 3, 11, 2, 12]
  cf := some (fileOf pool13 10 #[.nestMembers #[1103]] #[{ accessFlags := 1, nameIndex := 5, descriptorIndex := 6, attributes := #[] }] 49 2 #[1106, 1108, 575, 1110, 1112] #[{ accessFlags := 18, nameIndex := 13, descriptorIndex := 14, attributes := #[] }, { accessFlags := 18, nameIndex := 17, descriptorIndex := 18, attributes := #[] }, { accessFlags := 2, nameIndex := 21, descriptorIndex := 22, attributes := #[] }, { accessFlags := 2, nameIndex := 25, descriptorIndex := 26, attributes := #[] }, { accessFlags := 26, nameIndex := 1116, descriptorIndex := 1117, attributes := #[] }, { accessFlags := 24, nameIndex := 40, descriptorIndex := 26, attributes := #[] }, { accessFlags := 26, nameIndex := 1101, descriptorIndex := 1102, attributes := #[] }, { accessFlags := 26, nameIndex := 1121, descriptorIndex := 1122, attributes := #[] }, { accessFlags := 25, nameIndex := 599, descriptorIndex := 600, attributes := #[] }, { accessFlags := 24, nameIndex := 1125, descriptorIndex := 18, attributes := #[] }, { accessFlags := 24, nameIndex := 1127, descriptorIndex := 18, attributes := #[] }])
  fields := #[{ name := "value", type := (.array .byte), accessFlags := 18, slot := 0, constantValue := 0 }, { name := "coder", type := .byte, accessFlags := 18, slot := 1, constantValue := 0 }, { name := "hash", type := .int, accessFlags := 2, slot := 2, constantValue := 0 }, { name := "hashIsZero", type := .boolean, accessFlags := 2, slot := 3, constantValue := 0 }, { name := "serialVersionUID", type := .long, accessFlags := 26, slot := 0, constantValue := 0 }, { name := "COMPACT_STRINGS", type := .boolean, accessFlags := 24, slot := 1, constantValue := 0 }, { name := "serialPersistentFields", type := (.array (.object "java/io/ObjectStreamField")), accessFlags := 26, slot := 2, constantValue := 0 }, { name := "REPL", type := .char, accessFlags := 26, slot := 3, constantValue := 0 }, { name := "CASE_INSENSITIVE_ORDER", type := (.object "java/util/Comparator"), accessFlags := 25, slot := 4, constantValue := 0 }, { name := "LATIN1", type := .byte, accessFlags := 24, slot := 5, constantValue := 0 }, { name := "UTF16", type := .byte, accessFlags := 24, slot := 6, constantValue := 0 }]
  methods := #[k13m0]
  instanceTypes := #[(.array .byte), .byte, .int, .boolean]
  staticTypes := #[.long, .boolean, (.array (.object "java/io/ObjectStreamField")), .char, (.object "java/util/Comparator"), .byte, .byte]
  resolved := Array.replicate 1451 none
  statics := none }

def pool14 : Array CpInfo := pool [(2, .class_ 4), (1, u "com/example/brazier/brazier/store/IndexTable"), (20, .class_ 26), (0, u "com/example/brazier/brazier/store/IndexTable$3")] 17

/-- com/example/brazier/brazier/store/IndexTable$3 -/
def k14 : Class := { plain "com/example/brazier/brazier/store/IndexTable$3" (some 6) with
  accessFlags := 16432
  interfaces := #[]
  cf := some (fileOf pool14 25 #[.nestHost 2] #[] 16432 2 #[] #[])
  fields := #[]
  methods := #[]
  instanceTypes := #[(.object "java/lang/String"), .int, .int, (.object "java/lang/String"), .boolean, (.object "java/lang/Class"), (.object "java/util/List")]
  staticTypes := #[]
  resolved := Array.replicate 44 none
  statics := none }

def pool15 : Array CpInfo := pool [(1, u "java/lang/Cloneable"), (0, .class_ 1), (0, u "java/lang/Object"), (0, .class_ 3)] 3

/-- java/lang/Cloneable -/
def k15 : Class := { plain "java/lang/Cloneable" (some 0) with
  accessFlags := 1537
  interfaces := #[]
  cf := some (fileOf pool15 2 #[] #[] 1537 4 #[] #[])
  fields := #[]
  methods := #[]
  instanceTypes := #[]
  staticTypes := #[]
  resolved := Array.replicate 8 none
  statics := none }

/-- the primitive byte -/
def k16 : Class := { plain "byte" none with kind := .primitive 'B', accessFlags := 0x411 }
/-- [B -/
def k17 : Class := { plain "[B" (some 0) with kind := .array 16 .byte, interfaces := #[15, 4], accessFlags := 1041 }

/-- the primitive int -/
def k18 : Class := { plain "int" none with kind := .primitive 'I', accessFlags := 0x411 }
/-- [I -/
def k19 : Class := { plain "[I" (some 0) with kind := .array 18 .int, interfaces := #[15, 4], accessFlags := 1041 }

def heap : Heap := #[{ cls := 6, slots := #[.ref 1, .ref 4, .ref 5, .ref 3, .ref 2, .null, .null, .null], vm := .statics 6 },
  { cls := 7, slots := #[.null, .int 0, .int 0, .null, .int 0, .null, .null], vm := .none },
  { cls := 8, slots := #[.null, .int 0, .int 0, .null, .int 0, .null, .null], vm := .none },
  { cls := 9, slots := #[.null, .int 0, .int 0, .null, .int 0, .null, .null], vm := .none },
  { cls := 10, slots := #[.null, .int 0, .int 0, .null, .int 0, .null, .null], vm := .none },
  { cls := 14, slots := #[.null, .int 0, .int 0, .null, .int 0, .null, .null], vm := .none }]
def classes : Array Class := #[k0, k1, k2, k3, k4, k5, k6, k7, k8, k9, k10, k11, k12, k13, k14, k15, k16, k17, k18, k19]
def interned : List (Array UInt16 × Addr) := []
def slotsUsed : Nat := 43
def theMethod : MethodId := ⟨1, 1⟩
def args0 : Array Value := #[.int 1, .int 0]
def aboutOver (below : List Frame) : State where
  vm := { classes := classes, interned := interned.toArray }
  heap := heap
  slotsUsed := slotsUsed
  threads := #[{ frames := .invoking theMethod args0 :: below }]
def below0 : List Frame := [.native { method := ⟨0, 0⟩, args := #[] }]
def about1 : State := aboutOver below0
def p0 : Program := .bare "" "" ""
def e0 : Env := launch0.env 0 0 0
theorem w_frames : about1.frames = Frame.invoking theMethod args0 :: below0 := rfl
set_option maxRecDepth 65536 in
theorem w_args : argsFit about1.vm theMethod args0 = true := by decide +kernel
set_option maxRecDepth 65536 in
theorem w_heap : heapFits about1 = true := by decide +kernel
set_option maxRecDepth 65536 in
theorem w_runnable : about1.curStatus? = some .runnable := by decide +kernel
set_option maxRecDepth 65536 in
theorem w_alone : about1.alone = true := by decide +kernel
set_option maxRecDepth 65536 in
theorem w_named : about1.methodNamed? x = some theMethod := by decide +kernel
set_option maxRecDepth 65536 in
theorem w_hears : about1.hears theMethod below0 = true := by decide +kernel
set_option maxRecDepth 65536 in
theorem w_ripe : about1.ripe theMethod args0 below0 = true := by decide +kernel
theorem w_running : about1.status = .running := rfl
set_option maxRecDepth 65536 in
theorem w_room : about1.hasRoom e0.platform room_1 = true :=
  launch0.hasRoom_least _ room_1 (by decide +kernel) (by decide +kernel) (by decide +kernel) (by decide +kernel) (by decide +kernel) (by decide +kernel)
theorem allAtoms_all (ts : List Jvm.Cond) (a : Array Jvm.Value) (st : Jvm.State) : (allAtoms ts).before a st = ts.all (fun c => c.before a st) := by
  induction ts with
  | nil => rfl
  | cons c t ih =>
    show (Jvm.Cond.and c (allAtoms t)).before a st = _
    rw [Jvm.Cond.before_and, ih, List.all_cons]
def words1 : List Jvm.Cond := Jvm.Cond.code x code maxLocals ret :: tables_1
/-- a 'code' word, met by the world's own term for the bytes: nothing is compared byte by byte -/
theorem code_word {y : MethodName} {bytes : ByteArray} {mx : Nat} {rt : Option FieldType} {a : Array Value} {s : State} {m : MethodId} {meth : Method} {c : Code} (h1 : s.methodNamed? y = some m) (h2 : s.vm.method? m = some meth) (h3 : meth.code = some c) (h4 : c.code = bytes)
    (h5 : (c.maxLocals == mx && c.exceptionTable.isEmpty && decide (c.maxStack ≤ mostOperands) && decide (meth.sig.returnType = rt) && !meth.locks && decide (parseMethodDescriptor y.desc = some meth.sig)) = true) : (Jvm.Cond.code y bytes mx rt).before a s = true := by
  simp only [Bool.and_eq_true, beq_iff_eq, Bool.not_eq_true', decide_eq_true_eq] at h5
  obtain ⟨⟨⟨⟨⟨g1, g2⟩, g3⟩, g4⟩, g5⟩, g6⟩ := h5
  simp [Cond.before, Cond.holds, Cond.value, h1, h2, h3, h4, g1, g2, g3, g4, g5, g6]
def isCode : Jvm.Cond → Bool
  | .code _ _ _ _ => true
  | _ => false
theorem all_split {L : List Jvm.Cond} {P : Jvm.Cond → Bool} (h1 : L.all (fun c => isCode c || P c) = true) (h2 : ∀ c ∈ L.filter isCode, P c = true) : L.all P = true := by
  refine List.all_eq_true.mpr fun c hc => ?_
  have h := List.all_eq_true.mp h1 c hc
  rcases Bool.eq_false_or_eq_true (isCode c) with hi | hi
  · exact h2 c (List.mem_filter.mpr ⟨hc, hi⟩)
  · simpa [hi] using h
set_option maxRecDepth 65536 in
theorem w_c0 : (Jvm.Cond.code x code maxLocals ret).before args0 about1 = true := code_word (m := ⟨1, 1⟩) (meth := k1m1) (c := k1c1) (by decide +kernel) rfl rfl rfl (by decide +kernel)
set_option maxRecDepth 65536 in
theorem w_c1 : (Jvm.Cond.code ({ cls := "com/example/brazier/brazier/store/IndexTable", name := "walkedByKey", desc := "(Z)Z" } : Jvm.MethodName) prog_80_method_20_code (2 : Nat) (Option.some Jvm.ClassFile.FieldType.boolean)).before args0 about1 = true := code_word (m := ⟨6, 2⟩) (meth := k6m2) (c := k6c2) (by decide +kernel) rfl rfl rfl (by decide +kernel)
set_option maxRecDepth 65536 in
theorem w_c2 : (Jvm.Cond.code ({ cls := "com/example/brazier/brazier/store/IndexTable", name := "sortedRows", desc := "()Ljava/lang/String;" } : Jvm.MethodName) prog_80_method_18_code (1 : Nat) (Option.some (Jvm.ClassFile.FieldType.object "java/lang/String"))).before args0 about1 = true := code_word (m := ⟨6, 0⟩) (meth := k6m0) (c := k6c0) (by decide +kernel) rfl rfl rfl (by decide +kernel)
set_option maxRecDepth 65536 in
theorem w_c3 : (Jvm.Cond.code ({ cls := "com/example/brazier/brazier/store/IndexTable", name := "heldHighestFirst", desc := "()Z" } : Jvm.MethodName) prog_80_method_19_code (1 : Nat) (Option.some Jvm.ClassFile.FieldType.boolean)).before args0 about1 = true := code_word (m := ⟨6, 1⟩) (meth := k6m1) (c := k6c1) (by decide +kernel) rfl rfl rfl (by decide +kernel)
set_option maxRecDepth 65536 in
theorem w_c4 : (Jvm.Cond.code ({ cls := "com/example/brazier/brazier/store/IndexTable$5", name := "heldHighestFirst", desc := "()Z" } : Jvm.MethodName) prog_85_method_4_code (1 : Nat) (Option.some Jvm.ClassFile.FieldType.boolean)).before args0 about1 = true := code_word (m := ⟨8, 0⟩) (meth := k8m0) (c := k8c0) (by decide +kernel) rfl rfl rfl (by decide +kernel)
set_option maxRecDepth 65536 in
theorem w_c5 : (Jvm.Cond.code ({ cls := "com/example/brazier/brazier/store/IndexTable$4", name := "heldHighestFirst", desc := "()Z" } : Jvm.MethodName) prog_84_method_4_code (1 : Nat) (Option.some Jvm.ClassFile.FieldType.boolean)).before args0 about1 = true := code_word (m := ⟨9, 0⟩) (meth := k9m0) (c := k9c0) (by decide +kernel) rfl rfl rfl (by decide +kernel)
set_option maxRecDepth 65536 in
theorem w_c6 : (Jvm.Cond.code ({ cls := "com/example/brazier/brazier/store/IndexTable$2", name := "sortedRows", desc := "()Ljava/lang/String;" } : Jvm.MethodName) prog_82_method_4_code (1 : Nat) (Option.some (Jvm.ClassFile.FieldType.object "java/lang/String"))).before args0 about1 = true := code_word (m := ⟨10, 0⟩) (meth := k10m0) (c := k10c0) (by decide +kernel) rfl rfl rfl (by decide +kernel)
def codes1 : List Jvm.Cond := [Jvm.Cond.code x code maxLocals ret, Jvm.Cond.code ({ cls := "com/example/brazier/brazier/store/IndexTable", name := "walkedByKey", desc := "(Z)Z" } : Jvm.MethodName) prog_80_method_20_code (2 : Nat) (Option.some Jvm.ClassFile.FieldType.boolean), Jvm.Cond.code ({ cls := "com/example/brazier/brazier/store/IndexTable", name := "sortedRows", desc := "()Ljava/lang/String;" } : Jvm.MethodName) prog_80_method_18_code (1 : Nat) (Option.some (Jvm.ClassFile.FieldType.object "java/lang/String")), Jvm.Cond.code ({ cls := "com/example/brazier/brazier/store/IndexTable", name := "heldHighestFirst", desc := "()Z" } : Jvm.MethodName) prog_80_method_19_code (1 : Nat) (Option.some Jvm.ClassFile.FieldType.boolean), Jvm.Cond.code ({ cls := "com/example/brazier/brazier/store/IndexTable$5", name := "heldHighestFirst", desc := "()Z" } : Jvm.MethodName) prog_85_method_4_code (1 : Nat) (Option.some Jvm.ClassFile.FieldType.boolean), Jvm.Cond.code ({ cls := "com/example/brazier/brazier/store/IndexTable$4", name := "heldHighestFirst", desc := "()Z" } : Jvm.MethodName) prog_84_method_4_code (1 : Nat) (Option.some Jvm.ClassFile.FieldType.boolean), Jvm.Cond.code ({ cls := "com/example/brazier/brazier/store/IndexTable$2", name := "sortedRows", desc := "()Ljava/lang/String;" } : Jvm.MethodName) prog_82_method_4_code (1 : Nat) (Option.some (Jvm.ClassFile.FieldType.object "java/lang/String"))]
set_option maxRecDepth 65536 in
theorem codes_eq : words1.filter isCode = codes1 := rfl
theorem w_codes : ∀ c ∈ words1.filter isCode, c.before args0 about1 = true := by
  rw [codes_eq]
  intro c hc
  simp only [codes1, List.mem_cons, List.not_mem_nil, or_false] at hc
  rcases hc with rfl | rfl | rfl | rfl | rfl | rfl | rfl
  · exact w_c0
  · exact w_c1
  · exact w_c2
  · exact w_c3
  · exact w_c4
  · exact w_c5
  · exact w_c6
set_option maxRecDepth 65536 in
theorem w_t1 : (words1.take 24).all (fun c => isCode c || c.before args0 about1) = true := by decide +kernel
set_option maxRecDepth 65536 in
theorem w_t2 : ((words1.drop 24).take 24).all (fun c => isCode c || c.before args0 about1) = true := by decide +kernel
set_option maxRecDepth 65536 in
theorem w_t3 : ((words1.drop 24).drop 24).all (fun c => isCode c || c.before args0 about1) = true := by decide +kernel
theorem w_tables : (allAtoms (Jvm.Cond.code x code maxLocals ret :: tables_1)).before args0 about1 = true := by
  rw [allAtoms_all]
  show words1.all (fun c => c.before args0 about1) = true
  refine all_split ?_ w_codes
  rw [← List.take_append_drop 24 words1, List.all_append, w_t1, ← List.take_append_drop 24 (words1.drop 24), List.all_append, w_t2, w_t3]
  rfl
set_option maxRecDepth 65536 in
theorem w_case : (Jvm.Cond.and given_1 narrow_1).before args0 about1 = true := by decide +kernel
theorem w_applies : (headSpec (Jvm.Cond.code x code maxLocals ret :: tables_1) room_1).applies x e0.platform about1 = true :=
  (Spec.applies_iff w_frames).mpr ⟨w_running, w_runnable, w_alone, w_named, w_hears, w_ripe, w_room, w_tables⟩
theorem atStart : AtStart classFile x code maxLocals ret World_1 tables_1 room_1 Calls_1 rest_1 Pre_1 launch0 p0 e0 about1 theMethod args0 below0 :=
  ⟨lists_1, trivial, launch0.admits_env _ _ _, launch0.least_env, fairChoices_fair.cas, fairChoices_fair.clock, w_frames, w_args, w_heap, w_applies, trivial, trivial, w_case⟩
end start1
theorem witness_1 : WitnessClaimed_1 := ⟨start1.p0, start1.e0, start1.about1, start1.theMethod, start1.args0, start1.below0, start1.atStart⟩
end Jvm.Pilot.@@N@@
