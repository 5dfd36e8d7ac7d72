import JvmDerived
import JvmDerived.Pilot.@@N@@Statement
import JvmDerived.Pilot.@@N@@Code
set_option linter.unusedVariables false
set_option linter.unusedSimpArgs false
namespace Jvm.Pilot.@@N@@
open Jvm Jvm.ClassFile Sem Op Lib Jvm.Free Jvm.Stand Jvm.LawKit Jvm.RoadKit Bundle Jvm.Pilot.@@N@@.Jvm.D
theorem own_w {a0 : Array Value} {Z : State} (hw : ∀ d ∈ tables_1, d.before a0 Z = true) (i : Nat) {d : Jvm.Cond} (h : tables_1[i]? = some d) : d.before a0 Z = true := hw d (List.mem_of_getElem? h)
section Own
variable {p : Program} {l : Launch} {e : Env} {R : Room} {s : State} {m : MethodId} {args : Array Value} {below : List Frame} {meth : Method} {c : Code} {T T' : State} {locs : List Loc} {cells slots : Nat} {g g' : JFrame} {K : Outcome → State → Prop} {Q : Option Value → Heap → List Loc → Prop} {kc ks : Nat}
/-- from this state, with this frame on top, the run comes to an end at which K holds -/
def own_E (p : Program) (e : Env) (below : List Frame) (K : Outcome → State → Prop) (T : State) (g : JFrame) : Prop :=
  ∃ s₂ o, Steps p.tables e below (T.setTop g) s₂ ∧ s₂.status = .running ∧ Ended s₂ below o ∧ K o s₂
def own_K (Q : Option Value → Heap → List Loc → Prop) (s : State) (kc ks : Nat) : Outcome → State → Prop :=
  fun o U' => ∃ v L, o = .returned v ∧ Q v U'.heap L ∧ FrameEnd s o U' L kc ks
theorem own_st (st : ∀ t, Steps p.tables e below (T'.setTop g') t → Steps p.tables e below (T.setTop g) t) (k : own_E p e below K T' g') : own_E p e below K T g := by
  obtain ⟨s2, o, h1, h2⟩ := k
  exact ⟨s2, o, st _ h1, h2⟩
theorem own_tr (st : Steps p.tables e below (T.setTop g) (T'.setTop g')) (k : own_E p e below K T' g') : own_E p e below K T g :=
  own_st (fun _ h => st.trans h) k
theorem own_pre (q : g = g') (k : own_E p e below K T g') : own_E p e below K T g := q ▸ k
theorem own_end (X : Stand p l e R s m args below meth c T locs cells slots) (hlk : meth.locks = false) {v : Option Value} (hv : meth.sig.returnType = none → v = none)
    (hr : ∀ fs : List Frame, (∀ (f : JFrame) (acts : List Action), f.method = m → f.locked = none → f.entered = [] → (doReturn e (T.setTop f) acts v).1 = T.setFrames fs) → Steps p.tables e below (T.setTop g) (T.setFrames fs))
    (hc : cells ≤ kc) (hs : slots ≤ ks) (hQ : Q v T.heap locs) : own_E p e below (own_K Q s kc ks) T g := by
  obtain ⟨fs, h1, hrun, hended, hW, hsame⟩ := X.leave (v := v) hv hlk
  exact ⟨_, _, hr fs h1, hrun, hended, _, _, rfl, hQ, ⟨_, rfl⟩, hW, hsame.mono hc hs⟩
theorem own_retV (X : Stand p l e R s m args below meth c T locs cells slots) (hx : p.tables.exec = Jvm.exec) (hlk : meth.locks = false) {pc : Nat} {Ls : Array Slot} (hret : meth.sig.returnType = none)
    (hd : decode c.code pc = .ok (.return_, 1)) (hc : cells ≤ kc) (hs : slots ≤ ks) (hQ : Q none T.heap locs) : own_E p e below (own_K Q s kc ks) T (mkF m pc Ls []) :=
  own_end X hlk (fun _ => rfl) (fun fs h => X.returnOut hx hret hd h) hc hs hQ
theorem own_retG (X : Stand p l e R s m args below meth c T locs cells slots) (hx : p.tables.exec = Jvm.exec) (hlk : meth.locks = false) {pc : Nat} {Ls : Array Slot} {w : Value} {t : FieldType} {i : Instr} {rest : List Value} (hret : meth.sig.returnType = some t) (hn : narrow t w = w)
    (hi : (i = .ireturn ∧ (t = .int ∨ t = .boolean ∨ t = .byte ∨ t = .char ∨ t = .short) ∧ ∃ z, w = .int z) ∨ (i = .lreturn ∧ t = .long ∧ ∃ z, w = .long z) ∨ (i = .dreturn ∧ t = .double ∧ ∃ z, w = .double z) ∨ (i = .freturn ∧ t = .float ∧ ∃ z, w = .float z) ∨ (i = .areturn ∧ t.isReference = true ∧ w.isRef = true))
    (hd : decode c.code pc = .ok (i, 1)) (hc : cells ≤ kc) (hs : slots ≤ ks) (hQ : Q (some w) T.heap locs) : own_E p e below (own_K Q s kc ks) T (mkF m pc Ls (w :: rest)) :=
  own_end X hlk (fun h => by rw [hret] at h; cases h) (fun fs h => retOut X hx hret hn hi hd h) hc hs hQ
theorem own_retI (X : Stand p l e R s m args below meth c T locs cells slots) (hx : p.tables.exec = Jvm.exec) (hlk : meth.locks = false) {pc : Nat} {Ls : Array Slot} {z : Int32} {rest : List Value} (hret : meth.sig.returnType = some .int)
    (hd : decode c.code pc = .ok (.ireturn, 1)) (hc : cells ≤ kc) (hs : slots ≤ ks) (hQ : Q (some (.int z)) T.heap locs) : own_E p e below (own_K Q s kc ks) T (mkF m pc Ls (.int z :: rest)) :=
  own_retG X hx hlk hret rfl (Or.inl ⟨rfl, Or.inl rfl, z, rfl⟩) hd hc hs hQ
theorem own_retS (X : Stand p l e R s m args below meth c T locs cells slots) (hx : p.tables.exec = Jvm.exec) (hlk : meth.locks = false) {pc : Nat} {Ls : Array Slot} {z : Int32} {t : FieldType} {rest : List Value} (hret : meth.sig.returnType = some t) (hn : narrow t (.int z) = .int z)
    (ht : t = .int ∨ t = .boolean ∨ t = .byte ∨ t = .char ∨ t = .short) (hd : decode c.code pc = .ok (.ireturn, 1)) (hc : cells ≤ kc) (hs : slots ≤ ks) (hQ : Q (some (.int z)) T.heap locs) : own_E p e below (own_K Q s kc ks) T (mkF m pc Ls (.int z :: rest)) :=
  own_retG X hx hlk hret hn (Or.inl ⟨rfl, ht, z, rfl⟩) hd hc hs hQ
theorem own_retN (X : Stand p l e R s m args below meth c T locs cells slots) (hx : p.tables.exec = Jvm.exec) (hlk : meth.locks = false) {pc : Nat} {Ls : Array Slot} {z : Int32} {t : FieldType} {rest : List Value} (hret : meth.sig.returnType = some t)
    (ht : t = .boolean ∨ t = .byte ∨ t = .char ∨ t = .short) (hd : decode c.code pc = .ok (.ireturn, 1)) (hc : cells ≤ kc) (hs : slots ≤ ks) (hQ : Q (some (.int (nar t z))) T.heap locs) : own_E p e below (own_K Q s kc ks) T (mkF m pc Ls (.int z :: rest)) :=
  own_end X hlk (fun h => by rw [hret] at h; cases h) (fun fs h => retN X hx hret ht hd h) hc hs hQ
theorem own_retJ (X : Stand p l e R s m args below meth c T locs cells slots) (hx : p.tables.exec = Jvm.exec) (hlk : meth.locks = false) {pc : Nat} {Ls : Array Slot} {z : Int64} {rest : List Value} (hret : meth.sig.returnType = some .long)
    (hd : decode c.code pc = .ok (.lreturn, 1)) (hc : cells ≤ kc) (hs : slots ≤ ks) (hQ : Q (some (.long z)) T.heap locs) : own_E p e below (own_K Q s kc ks) T (mkF m pc Ls (.long z :: rest)) :=
  own_retG X hx hlk hret rfl (Or.inr (Or.inl ⟨rfl, rfl, z, rfl⟩)) hd hc hs hQ
theorem own_retA (X : Stand p l e R s m args below meth c T locs cells slots) (hx : p.tables.exec = Jvm.exec) (hlk : meth.locks = false) {pc : Nat} {Ls : Array Slot} {w : Value} {t : FieldType} {rest : List Value} (hret : meth.sig.returnType = some t) (ht : t.isReference = true) (hw : w.isRef = true)
    (hd : decode c.code pc = .ok (.areturn, 1)) (hc : cells ≤ kc) (hs : slots ≤ ks) (hQ : Q (some w) T.heap locs) : own_E p e below (own_K Q s kc ks) T (mkF m pc Ls (w :: rest)) :=
  own_retG X hx hlk hret (by cases w <;> cases t <;> first | rfl | (simp [Value.isRef] at hw) | (simp [FieldType.isReference] at ht)) (Or.inr (Or.inr (Or.inr (Or.inr ⟨rfl, ht, hw⟩)))) hd hc hs hQ
end Own
theorem own_StaK {Z : State} {h h' : Heap} {C n d : String} {v : Value} (F : Sta Z h C n d v) (K : Keep h h' []) : Sta Z h' C n d v := Sta.ext ⟨K.1, fun a c q => K.2.1 a c q nin0⟩ F
section OwnArr
variable {p : Program} {l : Launch} {e : Env} {R : Room} {s : State} {m : MethodId} {args : Array Value} {below : List Frame} {meth : Method} {c : Code} {T : State} {locs : List Loc} {cells slots : Nat} {Z : State} {h : Heap} {a : Addr} {k : ClassId} {z : Int32} {vs : List Value} {dv : Value}
theorem own_alen (X : Stand p l e R s m args below meth c T locs cells slots) (hx : p.tables.exec = Jvm.exec) (hZ : Z.Warmed39 s.vm) (eT : T.heap = h) {ty : FieldType} (F : Arv Z h a k ty z vs dv) {g : JFrame} (hg : g.method = m) {rest : List Value} (hs : g.stack = .ref a :: rest) (hd : decode c.code g.pc = .ok (.arraylength, 1)) :
    ∀ target, Steps p.tables e below (T.setTop { g with pc := g.pc + 1, stack := .int z :: rest }) target → Steps p.tables e below (T.setTop g) target := by
  obtain ⟨cl, A, q, S, N, H, G⟩ := F
  intro target hr
  refine X.arraylength hx (by rw [eT]; exact A.1) (State.isArrayOf_alike hZ.alike A.2.1) hg hs hd _ ?_
  rw [len_of S N]; exact hr
theorem own_ald (X : Stand p l e R s m args below meth c T locs cells slots) (hx : p.tables.exec = Jvm.exec) (hZ : Z.Warmed39 s.vm) (eT : T.heap = h) (F : Arv Z h a k .int z vs dv) {j : Int32} (hj : ¬ j < 0 ∧ j < z) {v : Value} (hv : vs.getD j.toNatClampNeg dv = v) {g : JFrame} (hg : g.method = m) {rest : List Value} (hs : g.stack = .int j :: .ref a :: rest) (hd : decode c.code g.pc = .ok (.iaload, 1)) :
    ∀ target, Steps p.tables e below (T.setTop { g with pc := g.pc + 1, stack := v :: rest }) target → Steps p.tables e below (T.setTop g) target := by
  obtain ⟨cl, A, q, S, N, H, G⟩ := F
  have hin := inb_of S hj
  exact X.iaload hx (by rw [eT]; exact A.1) (State.isArrayOf_alike hZ.alike A.2.1) A.2.2 hin (H.at hin hv) hg hs hd
theorem own_ast (X : Stand p l e R s m args below meth c T locs cells slots) (hx : p.tables.exec = Jvm.exec) (hZ : Z.Warmed39 s.vm) (eT : T.heap = h) (F : Arv Z h a k .int z vs dv) {j : Int32} (hj : ¬ j < 0 ∧ j < z) {x : Int32} {i : Nat} (hi : j.toNatClampNeg = i) (hl : i < vs.length) {g : JFrame} (hg : g.method = m) {rest : List Value} (hs : g.stack = .int x :: .int j :: .ref a :: rest) (hd : decode c.code g.pc = .ok (.iastore, 1)) :
    ∃ T' h', Stand p l e R s m args below meth c T' (locs ++ [⟨a, j.toNatClampNeg⟩]) cells slots ∧ T'.heap = h' ∧ Wr h h' a j.toNatClampNeg (.int x) ∧ Arv Z h' a k .int z (vs.set i (.int x)) dv ∧ ∀ target, Steps p.tables e below (T'.setTop { g with pc := g.pc + 1, stack := rest }) target → Steps p.tables e below (T.setTop g) target := by
  obtain ⟨cl, A, q, S, N, H, G⟩ := F
  have hin := inb_of S hj
  obtain ⟨T', h', X', e', W, st⟩ := stI X hx hZ eT A hin hg hs hd
  exact ⟨T', h', X', e', W, Arv.set A q S N H G rfl W i hi hl, st⟩
theorem own_cst (X : Stand p l e R s m args below meth c T locs cells slots) (hx : p.tables.exec = Jvm.exec) (hZ : Z.Warmed39 s.vm) (eT : T.heap = h) (F : Arv Z h a k .char z vs dv) {j : Int32} (hj : ¬ j < 0 ∧ j < z) {x : Int32} {i : Nat} (hi : j.toNatClampNeg = i) (hl : i < vs.length) {g : JFrame} (hg : g.method = m) {rest : List Value} (hs : g.stack = .int x :: .int j :: .ref a :: rest) (hd : decode c.code g.pc = .ok (.castore, 1)) :
    ∃ T' h', Stand p l e R s m args below meth c T' (locs ++ [⟨a, j.toNatClampNeg⟩]) cells slots ∧ T'.heap = h' ∧ Wr h h' a j.toNatClampNeg (.int (nar .char x)) ∧ Arv Z h' a k .char z (vs.set i (.int (nar .char x))) dv ∧ ∀ target, Steps p.tables e below (T'.setTop { g with pc := g.pc + 1, stack := rest }) target → Steps p.tables e below (T.setTop g) target := by
  obtain ⟨cl, A, q, S, N, H, G⟩ := F
  have hin := inb_of S hj
  obtain ⟨T', h', X', e', W, st⟩ := stC X hx hZ eT A hin hg hs hd
  exact ⟨T', h', X', e', W, Arv.set A q S N H G (fits_nar_char _) W i hi hl, st⟩
end OwnArr
theorem own_lor1 (a : Int64) : (a ||| (1 : Int64)).toInt % 2 = 1 := by
  rw [parL]
  have h : (a ||| (1 : Int64)).toBitVec.toNat = a.toBitVec.toNat ||| 1 := by rw [Int64.toBitVec_or, BitVec.toNat_or]; rfl
  have h2 : (a.toBitVec.toNat ||| 1) % 2 = 1 := by
    simp
  rw [h, h2]; rfl
section OwnWide
variable {p : Program} {l : Launch} {e : Env} {R : Room} {s : State} {vm₁ : Vm} {m : MethodId} {args : Array Value} {below : List Frame} {meth : Method} {c : Code} {T : State} {locs : List Loc} {cells slots : Nat} {g : JFrame} {Q : Option Value → Heap → List Loc → Prop} {kc ks n : Nat}
theorem own_Zw {Z : State} (hZ : Z.Warmed39 s.vm) (hS : s.Since vm₁ n) : Z.Warmed39 (s.setVm vm₁).vm := State.Warmed39.trans hZ hS.1
theorem own_ow {own : String} {k : ClassId} (ho : s.vm.findClass own = some k) (hS : s.Since vm₁ n) : (s.setVm vm₁).vm.findClass own = some k := by
  rw [show (s.setVm vm₁).vm = vm₁ from rfl, hS.1.alike.findClass]; exact ho
def own_KW (Q : Option Value → Heap → List Loc → Prop) (s : State) (kc ks : Nat) : Outcome → State → Prop :=
  fun o U' => ∃ v L, o = .returned v ∧ Q v U'.heap L ∧ ReturnedEndW s o U' L kc ks
theorem own_since (s : State) : s.Since s.vm 0 := (State.WarmedH.refl s).since 0
theorem own_wS {a0 : Array Value} {Z : State} (hw : ∀ d ∈ tables_1, d.before a0 Z = true) : ∀ a ∈ Bundle.stringAtoms, a.before a0 Z = true := by
  intro a ha
  simp only [Bundle.stringAtoms, List.mem_cons, List.not_mem_nil, or_false] at ha
  rcases ha with rfl | rfl | rfl | rfl | rfl | rfl | rfl
  · exact own_w hw 1 rfl
  · exact own_w hw 2 rfl
  · exact own_w hw 3 rfl
  · exact own_w hw 4 rfl
  · exact own_w hw 5 rfl
  · exact own_w hw 6 rfl
  · exact own_w hw 7 rfl
theorem own_endW (X : Stand p l e R (s.setVm vm₁) m args below meth c T locs cells slots) (hS : s.Since vm₁ n) (hn : n ≤ T.heap.size) (hlk : meth.locks = false) {v : Option Value} (hv : meth.sig.returnType = none → v = none)
    (hr : ∀ fs : List Frame, (∀ (f : JFrame) (acts : List Action), f.method = m → f.locked = none → f.entered = [] → (doReturn e (T.setTop f) acts v).1 = T.setFrames fs) → Steps p.tables e below (T.setTop g) (T.setFrames fs))
    (hc : cells ≤ kc) (hs : slots ≤ ks) (hQ : Q v T.heap locs) : own_E p e below (own_KW Q s kc ks) T g := by
  obtain ⟨fs, h1, hrun, hended, q1, q2, q3, q4⟩ := X.leaveW hS hn (v := v) hv hlk
  exact ⟨_, _, hr fs h1, hrun, hended, _, _, rfl, hQ, q1, q2, q3, q4.mono hc hs⟩
theorem own_retVW (X : Stand p l e R (s.setVm vm₁) m args below meth c T locs cells slots) (hS : s.Since vm₁ n) (hn : n ≤ T.heap.size) (hx : p.tables.exec = Jvm.exec) (hlk : meth.locks = false) {pc : Nat} {Ls : Array Slot} (hret : meth.sig.returnType = none)
    (hd : decode c.code pc = .ok (.return_, 1)) (hc : cells ≤ kc) (hs : slots ≤ ks) (hQ : Q none T.heap locs) : own_E p e below (own_KW Q s kc ks) T (mkF m pc Ls []) :=
  own_endW X hS hn hlk (fun _ => rfl) (fun fs h => X.returnOut hx hret hd h) hc hs hQ
theorem own_retSW (X : Stand p l e R (s.setVm vm₁) m args below meth c T locs cells slots) (hS : s.Since vm₁ n) (hn : n ≤ T.heap.size) (hx : p.tables.exec = Jvm.exec) (hlk : meth.locks = false) {pc : Nat} {Ls : Array Slot} {z : Int32} {t : FieldType} {rest : List Value} (hret : meth.sig.returnType = some t) (hn' : narrow t (.int z) = .int z)
    (ht : t = .int ∨ t = .boolean ∨ t = .byte ∨ t = .char ∨ t = .short) (hd : decode c.code pc = .ok (.ireturn, 1)) (hc : cells ≤ kc) (hs : slots ≤ ks) (hQ : Q (some (.int z)) T.heap locs) : own_E p e below (own_KW Q s kc ks) T (mkF m pc Ls (.int z :: rest)) :=
  own_endW X hS hn hlk (fun h => by rw [hret] at h; cases h) (fun fs h => retOut X hx hret hn' (Or.inl ⟨rfl, ht, z, rfl⟩) hd h) hc hs hQ
theorem own_retAW (X : Stand p l e R (s.setVm vm₁) m args below meth c T locs cells slots) (hS : s.Since vm₁ n) (hn : n ≤ T.heap.size) (hx : p.tables.exec = Jvm.exec) (hlk : meth.locks = false) {pc : Nat} {Ls : Array Slot} {w : Value} {t : FieldType} {rest : List Value} (hret : meth.sig.returnType = some t) (ht : t.isReference = true) (hw : w.isRef = true)
    (hd : decode c.code pc = .ok (.areturn, 1)) (hc : cells ≤ kc) (hs : slots ≤ ks) (hQ : Q (some w) T.heap locs) : own_E p e below (own_KW Q s kc ks) T (mkF m pc Ls (w :: rest)) :=
  own_endW X hS hn hlk (fun h => by rw [hret] at h; cases h) (fun fs h => retOut X hx hret (by cases w <;> cases t <;> first | rfl | (simp [Value.isRef] at hw) | (simp [FieldType.isReference] at ht)) (Or.inr (Or.inr (Or.inr (Or.inr ⟨rfl, ht, hw⟩)))) hd h) hc hs hQ
end OwnWide

theorem own_d_jdk_30_method_1_0 : decode jdk_30_method_1_code 0 = .ok (.aload_n 0, 1) := by decide +kernel
theorem own_d_jdk_30_method_1_1 : decode jdk_30_method_1_code 1 = .ok (.invokespecial 1, 3) := by decide +kernel
theorem own_d_jdk_30_method_1_4 : decode jdk_30_method_1_code 4 = .ok (.return_, 1) := by decide +kernel
def own_rec_Q (a1 : Addr) (h0 : Heap) (v : Option Value) (h : Heap) (L : List Loc) : Prop := ((v = none)) ∧ h = h0 ∧ L = []
abbrev own_y0 : MethodName := ⟨"java/lang/Record", "<init>", "()V"⟩
theorem own_pn_Record : plainName "java/lang/Record" = true := by first | (simp [plainName, overriddenIn]; done) | decide +kernel
theorem own_rec_ef (m : MethodId) (a1 : Addr) : entryFrame m #[(.ref a1)] 1 = mkF m 0 #[.val (.ref a1)] [] := by first | (simp [entryFrame, mkF, argsToLocals, Value.category]; done) | rfl
set_option maxRecDepth 65536 in
set_option maxHeartbeats 40000000 in
theorem own_rec (l : Launch) (Z : State) (a0 : Array Value) (hw : ∀ d ∈ tables_1, d.before a0 Z = true) (ws : List Jvm.Cond) (a1 : Addr) (h0 : Heap) (n0 : Nat) (Z0 : n0 ≤ h0.size)  :
    MetFree l own_y0 (head1 (Jvm.Cond.code own_y0 jdk_30_method_1_code 1 none :: ws) ({ frames := 1, cells := 0, slots := 0, locals := 12 } : Room)) (fun a U => a = #[(.ref a1)] ∧ Z.Warmed39 U.vm ∧ U.heap = h0) (fun _ _ _ _ _ => True) (fun _ U o U' => ∃ v L, o = .returned v ∧ own_rec_Q a1 h0 v U'.heap L ∧ FrameEnd U o U' L ({ frames := 1, cells := 0, slots := 0, locals := 12 } : Room).cells ({ frames := 1, cells := 0, slots := 0, locals := 12 } : Room).slots) := by
  refine MetFree.of_bodySF (plainFor_of_name own_pn_Record) hisR ?_
  intro p e s m args below meth c s₁ Bd hml0 hP hK
  obtain ⟨rfl, hZ, hh⟩ := hP
  have hx := Bd.exec
  have hby := Bd.bytes
  have hml : c.maxLocals = 1 := hml0
  have hown : s.vm.findClass "java/lang/Record" = some m.cls := findClass_of_methodNamed Bd.named
  have hnm := (name_of_methodNamed Bd.named Bd.method).1
  have X0 : Stand p l e ({ frames := 1, cells := 0, slots := 0, locals := 12 } : Room) s m #[(.ref a1)] below meth c s₁ [] 0 0 := Stand.of_body Bd
  have e0 : s₁.heap = h0 := by rw [← hh, Bd.state]; rfl
  show own_E p e below (own_K (own_rec_Q a1 h0) s ({ frames := 1, cells := 0, slots := 0, locals := 12 } : Room).cells ({ frames := 1, cells := 0, slots := 0, locals := 12 } : Room).slots) s₁ (entryFrame m #[(.ref a1)] 1)
  refine own_pre (own_rec_ef m a1) ?_
  show own_E p e below _ s₁ (mkF m 0 #[rv a1] [])
  refine own_st (fun t k => XS.aloadN X0.here hx rfl (hb hby own_d_jdk_30_method_1_0) rfl rfl k) ?_
  show own_E p e below _ s₁ (mkF m 1 #[rv a1] [.ref a1])
  obtain ⟨T1, X1, e1, st1⟩ := initO X0 hx hZ hown (own_w hw 20 rfl) (own_w hw 21 rfl) (own_w hw 22 rfl) e0 (g := (mkF m 1 #[rv a1] [.ref a1])) rfl (by rw [hml]; rfl) rfl (hb hby own_d_jdk_30_method_1_1) (by decide) (W := 0) (by show 2 * 0 + _ ≤ _; exact Nat.le_of_eq rfl) (by decide)
  refine own_st st1 ?_
  show own_E p e below _ T1 (mkF m 4 #[rv a1] [])
  refine own_retV X1 hx Bd.notSynchronized Bd.returns (hb hby own_d_jdk_30_method_1_4) (by decide) (by decide) ?_
  exact ⟨rfl, e1, rfl⟩
theorem own_d_prog_20_method_1_0 : decode prog_20_method_1_code 0 = .ok (.aload_n 0, 1) := by decide +kernel
theorem own_d_prog_20_method_1_1 : decode prog_20_method_1_code 1 = .ok (.invokespecial 1, 3) := by decide +kernel
theorem own_pd_0 : parseMethodDescriptor "()V" = some ⟨[], none⟩ := by decide +kernel
theorem own_d_prog_20_method_1_4 : decode prog_20_method_1_code 4 = .ok (.aload_n 0, 1) := by decide +kernel
theorem own_d_prog_20_method_1_5 : decode prog_20_method_1_code 5 = .ok (.aload_n 1, 1) := by decide +kernel
theorem own_d_prog_20_method_1_6 : decode prog_20_method_1_code 6 = .ok (.putfield 7, 3) := by decide +kernel
theorem own_d_prog_20_method_1_9 : decode prog_20_method_1_code 9 = .ok (.aload_n 0, 1) := by decide +kernel
theorem own_d_prog_20_method_1_10 : decode prog_20_method_1_code 10 = .ok (.aload_n 2, 1) := by decide +kernel
theorem own_d_prog_20_method_1_11 : decode prog_20_method_1_code 11 = .ok (.putfield 13, 3) := by decide +kernel
theorem own_d_prog_20_method_1_14 : decode prog_20_method_1_code 14 = .ok (.aload_n 0, 1) := by decide +kernel
theorem own_d_prog_20_method_1_15 : decode prog_20_method_1_code 15 = .ok (.lload_n 3, 1) := by decide +kernel
theorem own_d_prog_20_method_1_16 : decode prog_20_method_1_code 16 = .ok (.putfield 16, 3) := by decide +kernel
theorem own_d_prog_20_method_1_19 : decode prog_20_method_1_code 19 = .ok (.aload_n 0, 1) := by decide +kernel
theorem own_d_prog_20_method_1_20 : decode prog_20_method_1_code 20 = .ok (.lload 5, 2) := by decide +kernel
theorem own_d_prog_20_method_1_22 : decode prog_20_method_1_code 22 = .ok (.putfield 20, 3) := by decide +kernel
theorem own_d_prog_20_method_1_25 : decode prog_20_method_1_code 25 = .ok (.aload_n 0, 1) := by decide +kernel
theorem own_d_prog_20_method_1_26 : decode prog_20_method_1_code 26 = .ok (.lload 7, 2) := by decide +kernel
theorem own_d_prog_20_method_1_28 : decode prog_20_method_1_code 28 = .ok (.putfield 23, 3) := by decide +kernel
theorem own_d_prog_20_method_1_31 : decode prog_20_method_1_code 31 = .ok (.aload_n 0, 1) := by decide +kernel
theorem own_d_prog_20_method_1_32 : decode prog_20_method_1_code 32 = .ok (.lload 9, 2) := by decide +kernel
theorem own_d_prog_20_method_1_34 : decode prog_20_method_1_code 34 = .ok (.putfield 26, 3) := by decide +kernel
theorem own_d_prog_20_method_1_37 : decode prog_20_method_1_code 37 = .ok (.aload_n 0, 1) := by decide +kernel
theorem own_d_prog_20_method_1_38 : decode prog_20_method_1_code 38 = .ok (.aload 11, 2) := by decide +kernel
theorem own_d_prog_20_method_1_40 : decode prog_20_method_1_code 40 = .ok (.putfield 29, 3) := by decide +kernel
theorem own_d_prog_20_method_1_43 : decode prog_20_method_1_code 43 = .ok (.aload_n 0, 1) := by decide +kernel
theorem own_d_prog_20_method_1_44 : decode prog_20_method_1_code 44 = .ok (.aload 12, 2) := by decide +kernel
theorem own_d_prog_20_method_1_46 : decode prog_20_method_1_code 46 = .ok (.putfield 32, 3) := by decide +kernel
theorem own_d_prog_20_method_1_49 : decode prog_20_method_1_code 49 = .ok (.aload_n 0, 1) := by decide +kernel
theorem own_d_prog_20_method_1_50 : decode prog_20_method_1_code 50 = .ok (.aload 13, 2) := by decide +kernel
theorem own_d_prog_20_method_1_52 : decode prog_20_method_1_code 52 = .ok (.putfield 35, 3) := by decide +kernel
theorem own_d_prog_20_method_1_55 : decode prog_20_method_1_code 55 = .ok (.aload_n 0, 1) := by decide +kernel
theorem own_d_prog_20_method_1_56 : decode prog_20_method_1_code 56 = .ok (.aload 14, 2) := by decide +kernel
theorem own_d_prog_20_method_1_58 : decode prog_20_method_1_code 58 = .ok (.putfield 38, 3) := by decide +kernel
theorem own_d_prog_20_method_1_61 : decode prog_20_method_1_code 61 = .ok (.aload_n 0, 1) := by decide +kernel
theorem own_d_prog_20_method_1_62 : decode prog_20_method_1_code 62 = .ok (.aload 15, 2) := by decide +kernel
theorem own_d_prog_20_method_1_64 : decode prog_20_method_1_code 64 = .ok (.putfield 42, 3) := by decide +kernel
theorem own_d_prog_20_method_1_67 : decode prog_20_method_1_code 67 = .ok (.aload_n 0, 1) := by decide +kernel
theorem own_d_prog_20_method_1_68 : decode prog_20_method_1_code 68 = .ok (.aload 16, 2) := by decide +kernel
theorem own_d_prog_20_method_1_70 : decode prog_20_method_1_code 70 = .ok (.putfield 46, 3) := by decide +kernel
theorem own_d_prog_20_method_1_73 : decode prog_20_method_1_code 73 = .ok (.return_, 1) := by decide +kernel
def own_init_Q (Z : State) (a1 : Addr) (r1 : Addr) (r2 : Addr) (q1 : Int64) (q2 : Int64) (q3 : Int64) (q4 : Int64) (h0 : Heap) (n0 : Nat) (v : Option Value) (h : Heap) (L : List Loc) : Prop := v = none ∧ Fr n0 L ∧ Keep h0 h [a1] ∧ Exa Z h a1 "com/example/acquirer/acquirer/Payment" ∧ Fld Z h a1 "com/example/acquirer/acquirer/Payment" "amountCaptured" "J" (.long q3) ∧ Fld Z h a1 "com/example/acquirer/acquirer/Payment" "amountRefunded" "J" (.long q4)
abbrev own_y1 : MethodName := ⟨"com/example/acquirer/acquirer/Payment", "<init>", "(Ljava/lang/String;Ljava/lang/String;JJJJLjava/lang/String;Ljava/lang/String;Ljava/lang/String;Lcom/example/acquirer/acquirer/Card;Lcom/example/acquirer/acquirer/Approval;Ljava/lang/String;)V"⟩
theorem own_pn_Payment : plainName "com/example/acquirer/acquirer/Payment" = true := by first | (simp [plainName, overriddenIn]; done) | decide +kernel
theorem own_init_ef (m : MethodId) (a1 : Addr) (r1 : Addr) (r2 : Addr) (q1 : Int64) (q2 : Int64) (q3 : Int64) (q4 : Int64) : entryFrame m #[(.ref a1), .null, .null, (.long q1), (.long q2), (.long q3), (.long q4), (.ref r1), (.ref r2), .null, .null, .null, .null] 17 = mkF m 0 #[.val (.ref a1), .val .null, .val .null, .val (.long q1), .second, .val (.long q2), .second, .val (.long q3), .second, .val (.long q4), .second, .val (.ref r1), .val (.ref r2), .val .null, .val .null, .val .null, .val .null] [] := by first | (simp [entryFrame, mkF, argsToLocals, Value.category]; done) | rfl
set_option maxRecDepth 65536 in
set_option maxHeartbeats 40000000 in
theorem own_init (l : Launch) (Z : State) (a0 : Array Value) (hw : ∀ d ∈ tables_1, d.before a0 Z = true) (ws : List Jvm.Cond) (a1 : Addr) (r1 : Addr) (r2 : Addr) (q1 : Int64) (q2 : Int64) (q3 : Int64) (q4 : Int64) (h0 : Heap) (n0 : Nat) (Z0 : n0 ≤ h0.size) (E_a1 : Exa Z h0 a1 "com/example/acquirer/acquirer/Payment") (F_id_a1 : Fld Z h0 a1 "com/example/acquirer/acquirer/Payment" "id" "Ljava/lang/String;" .null) (F_session_a1 : Fld Z h0 a1 "com/example/acquirer/acquirer/Payment" "session" "Ljava/lang/String;" .null) (F_created_a1 : Fld Z h0 a1 "com/example/acquirer/acquirer/Payment" "created" "J" (.long (0 : Int64))) (F_amount_a1 : Fld Z h0 a1 "com/example/acquirer/acquirer/Payment" "amount" "J" (.long (0 : Int64))) (F_amountCaptured_a1 : Fld Z h0 a1 "com/example/acquirer/acquirer/Payment" "amountCaptured" "J" (.long (0 : Int64))) (F_amountRefunded_a1 : Fld Z h0 a1 "com/example/acquirer/acquirer/Payment" "amountRefunded" "J" (.long (0 : Int64))) (F_currency_a1 : Fld Z h0 a1 "com/example/acquirer/acquirer/Payment" "currency" "Ljava/lang/String;" .null) (F_status_a1 : Fld Z h0 a1 "com/example/acquirer/acquirer/Payment" "status" "Ljava/lang/String;" .null) (F_gateway_a1 : Fld Z h0 a1 "com/example/acquirer/acquirer/Payment" "gateway" "Ljava/lang/String;" .null) (F_card_a1 : Fld Z h0 a1 "com/example/acquirer/acquirer/Payment" "card" "Lcom/example/acquirer/acquirer/Card;" .null) (F_approval_a1 : Fld Z h0 a1 "com/example/acquirer/acquirer/Payment" "approval" "Lcom/example/acquirer/acquirer/Approval;" .null) (F_lastError_a1 : Fld Z h0 a1 "com/example/acquirer/acquirer/Payment" "lastError" "Ljava/lang/String;" .null) (g_a1 : n0 ≤ a1) :
    MetFree l own_y1 (head1 (Jvm.Cond.code own_y1 prog_20_method_1_code 17 none :: ws) ({ frames := 2, cells := 0, slots := 0, locals := 24 } : Room)) (fun a U => a = #[(.ref a1), .null, .null, (.long q1), (.long q2), (.long q3), (.long q4), (.ref r1), (.ref r2), .null, .null, .null, .null] ∧ Z.Warmed39 U.vm ∧ U.heap = h0) (fun _ _ _ _ _ => True) (fun _ U o U' => ∃ v L, o = .returned v ∧ own_init_Q Z a1 r1 r2 q1 q2 q3 q4 h0 n0 v U'.heap L ∧ FrameEnd U o U' L ({ frames := 2, cells := 0, slots := 0, locals := 24 } : Room).cells ({ frames := 2, cells := 0, slots := 0, locals := 24 } : Room).slots) := by
  refine MetFree.of_bodySF (plainFor_of_name own_pn_Payment) hisR ?_
  intro p e s m args below meth c s₁ Bd hml0 hP hK
  obtain ⟨rfl, hZ, hh⟩ := hP
  have hx := Bd.exec
  have hby := Bd.bytes
  have hml : c.maxLocals = 17 := hml0
  have hown : s.vm.findClass "com/example/acquirer/acquirer/Payment" = some m.cls := findClass_of_methodNamed Bd.named
  have hnm := (name_of_methodNamed Bd.named Bd.method).1
  have X0 : Stand p l e ({ frames := 2, cells := 0, slots := 0, locals := 24 } : Room) s m #[(.ref a1), .null, .null, (.long q1), (.long q2), (.long q3), (.long q4), (.ref r1), (.ref r2), .null, .null, .null, .null] below meth c s₁ [] 0 0 := Stand.of_body Bd
  have e0 : s₁.heap = h0 := by rw [← hh, Bd.state]; rfl
  show own_E p e below (own_K (own_init_Q Z a1 r1 r2 q1 q2 q3 q4 h0 n0) s ({ frames := 2, cells := 0, slots := 0, locals := 24 } : Room).cells ({ frames := 2, cells := 0, slots := 0, locals := 24 } : Room).slots) s₁ (entryFrame m #[(.ref a1), .null, .null, (.long q1), (.long q2), (.long q3), (.long q4), (.ref r1), (.ref r2), .null, .null, .null, .null] 17)
  refine own_pre (own_init_ef m a1 r1 r2 q1 q2 q3 q4) ?_
  show own_E p e below _ s₁ (mkF m 0 #[rv a1, .val (.null), .val (.null), .val (.long q1), .second, .val (.long q2), .second, .val (.long q3), .second, .val (.long q4), .second, rv r1, rv r2, .val (.null), .val (.null), .val (.null), .val (.null)] [])
  refine own_st (fun t k => XS.aloadN X0.here hx rfl (hb hby own_d_prog_20_method_1_0) rfl rfl k) ?_
  show own_E p e below _ s₁ (mkF m 1 #[rv a1, .val (.null), .val (.null), .val (.long q1), .second, .val (.long q2), .second, .val (.long q3), .second, .val (.long q4), .second, rv r1, rv r2, .val (.null), .val (.null), .val (.null), .val (.null)] [.ref a1])
  obtain ⟨_, _, ⟨T1, L1, k1, n1⟩, -, X1, ⟨Lc1, hQ1, l1, y1, z1⟩, st1⟩ := X0.specialBack hx (y := own_y0) rfl hown (mvT hZ (own_w hw 15 rfl)) (mvT hZ (own_w hw 16 rfl)) (mvT hZ (own_w hw 19 rfl)) (by decide) (backOf (W := 0) (own_rec l Z a0 hw [] a1 h0 n0 Z0 ) hZ (own_w hw 19 rfl) (own_w hw 18 rfl) (by decide) (by decide)) (g := (mkF m 1 #[rv a1, .val (.null), .val (.null), .val (.long q1), .second, .val (.long q2), .second, .val (.long q3), .second, .val (.long q4), .second, rv r1, rv r2, .val (.null), .val (.null), .val (.null), .val (.null)] [.ref a1])) rfl (by rw [hml]; rfl) (Steps.refl _) (a := a1) (argsL := []) (rest := []) (lenOf own_pd_0 rfl) rfl (by show 2 * 0 + _ ≤ _; exact Nat.le_of_eq rfl) (hb hby own_d_prog_20_method_1_1) (fun _ _ => ⟨rfl, e0, (by decide : 0 + 0 ≤ _), (by decide : 0 + 0 ≤ _)⟩)
  dsimp only [Pt.U, Pt.locs, Pt.cells, Pt.slots] at X1 l1 y1 z1 st1 hQ1
  subst l1 y1 z1
  obtain ⟨hR1, e1, rfl⟩ := hQ1
  have N1 := Fr.app (Fr.nil n0) (Fr.nil n0)
  obtain rfl := hR1
  refine own_tr st1 ?_
  show own_E p e below _ T1 (mkF m 4 #[rv a1, .val (.null), .val (.null), .val (.long q1), .second, .val (.long q2), .second, .val (.long q3), .second, .val (.long q4), .second, rv r1, rv r2, .val (.null), .val (.null), .val (.null), .val (.null)] [])
  refine own_st (fun t k => XS.aloadN X1.here hx rfl (hb hby own_d_prog_20_method_1_4) rfl rfl k) ?_
  show own_E p e below _ T1 (mkF m 5 #[rv a1, .val (.null), .val (.null), .val (.long q1), .second, .val (.long q2), .second, .val (.long q3), .second, .val (.long q4), .second, rv r1, rv r2, .val (.null), .val (.null), .val (.null), .val (.null)] [.ref a1])
  refine own_st (fun t k => XS.aloadN X1.here hx rfl (hb hby own_d_prog_20_method_1_5) rfl rfl k) ?_
  show own_E p e below _ T1 (mkF m 6 #[rv a1, .val (.null), .val (.null), .val (.long q1), .second, .val (.long q2), .second, .val (.long q3), .second, .val (.long q4), .second, rv r1, rv r2, .val (.null), .val (.null), .val (.null), .val (.null)] [.null, .ref a1])
  obtain ⟨T2, h2, X2, e2, W2, st2⟩ := putF X1 hx hZ hown (host := "") (Or.inl (own_w hw 23 rfl)) Via.refl e1 F_id_a1 E_a1 (Or.inr ⟨(own_w hw 24 rfl), rfl, hnm⟩) (own_w hw 9 rfl) (ty := (.object "java/lang/String")) (by decide) rfl rfl (g := (mkF m 6 #[rv a1, .val (.null), .val (.null), .val (.long q1), .second, .val (.long q2), .second, .val (.long q3), .second, .val (.long q4), .second, rv r1, rv r2, .val (.null), .val (.null), .val (.null), .val (.null)] [.null, .ref a1])) rfl rfl (hb hby own_d_prog_20_method_1_6)
  have N2 := Fr.snoc X2 N1 g_a1
  have Fw2 := F_id_a1.same W2
  have Z3 := Nat.le_trans Z0 (Keep.of_wr W2).1
  have K4 : Keep h0 _ [a1] := (Keep.refl h0 [a1]).wr W2 (Or.inl (List.mem_of_getElem? (i := 0) rfl))
  refine own_st st2 ?_
  show own_E p e below _ T2 (mkF m 9 #[rv a1, .val (.null), .val (.null), .val (.long q1), .second, .val (.long q2), .second, .val (.long q3), .second, .val (.long q4), .second, rv r1, rv r2, .val (.null), .val (.null), .val (.null), .val (.null)] [])
  refine own_st (fun t k => XS.aloadN X2.here hx rfl (hb hby own_d_prog_20_method_1_9) rfl rfl k) ?_
  show own_E p e below _ T2 (mkF m 10 #[rv a1, .val (.null), .val (.null), .val (.long q1), .second, .val (.long q2), .second, .val (.long q3), .second, .val (.long q4), .second, rv r1, rv r2, .val (.null), .val (.null), .val (.null), .val (.null)] [.ref a1])
  refine own_st (fun t k => XS.aloadN X2.here hx rfl (hb hby own_d_prog_20_method_1_10) rfl rfl k) ?_
  show own_E p e below _ T2 (mkF m 11 #[rv a1, .val (.null), .val (.null), .val (.long q1), .second, .val (.long q2), .second, .val (.long q3), .second, .val (.long q4), .second, rv r1, rv r2, .val (.null), .val (.null), .val (.null), .val (.null)] [.null, .ref a1])
  have B6 := (F_session_a1.other W2 (Or.inr (slot_ne (Or.inr (own_w hw 26 rfl)) (Or.inr (own_w hw 24 rfl)) (by decide) (t := (.object "java/lang/String")) (t' := (.object "java/lang/String")) (by decide) (by decide))))
  have B7 := (E_a1.wr W2)
  obtain ⟨T5, h5, X5, e5, W5, st5⟩ := putF X2 hx hZ hown (host := "") (Or.inl (own_w hw 25 rfl)) Via.refl e2 B6 B7 (Or.inr ⟨(own_w hw 26 rfl), rfl, hnm⟩) (own_w hw 9 rfl) (ty := (.object "java/lang/String")) (by decide) rfl rfl (g := (mkF m 11 #[rv a1, .val (.null), .val (.null), .val (.long q1), .second, .val (.long q2), .second, .val (.long q3), .second, .val (.long q4), .second, rv r1, rv r2, .val (.null), .val (.null), .val (.null), .val (.null)] [.null, .ref a1])) rfl rfl (hb hby own_d_prog_20_method_1_11)
  have N5 := Fr.snoc X5 N2 g_a1
  have Fw5 := B6.same W5
  have Z8 := Nat.le_trans Z3 (Keep.of_wr W5).1
  have K9 : Keep h0 _ [a1] := K4.wr W5 (Or.inl (List.mem_of_getElem? (i := 0) rfl))
  refine own_st st5 ?_
  show own_E p e below _ T5 (mkF m 14 #[rv a1, .val (.null), .val (.null), .val (.long q1), .second, .val (.long q2), .second, .val (.long q3), .second, .val (.long q4), .second, rv r1, rv r2, .val (.null), .val (.null), .val (.null), .val (.null)] [])
  refine own_st (fun t k => XS.aloadN X5.here hx rfl (hb hby own_d_prog_20_method_1_14) rfl rfl k) ?_
  show own_E p e below _ T5 (mkF m 15 #[rv a1, .val (.null), .val (.null), .val (.long q1), .second, .val (.long q2), .second, .val (.long q3), .second, .val (.long q4), .second, rv r1, rv r2, .val (.null), .val (.null), .val (.null), .val (.null)] [.ref a1])
  refine own_st (fun t k => XS.lloadN X5.here hx rfl (hb hby own_d_prog_20_method_1_15) rfl k) ?_
  show own_E p e below _ T5 (mkF m 16 #[rv a1, .val (.null), .val (.null), .val (.long q1), .second, .val (.long q2), .second, .val (.long q3), .second, .val (.long q4), .second, rv r1, rv r2, .val (.null), .val (.null), .val (.null), .val (.null)] [.long q1, .ref a1])
  have B11 := ((F_created_a1.other W2 (Or.inr (slot_ne (Or.inr (own_w hw 28 rfl)) (Or.inr (own_w hw 24 rfl)) (by decide) (t := .long) (t' := (.object "java/lang/String")) (by decide) (by decide)))).other W5 (Or.inr (slot_ne (Or.inr (own_w hw 28 rfl)) (Or.inr (own_w hw 26 rfl)) (by decide) (t := .long) (t' := (.object "java/lang/String")) (by decide) (by decide))))
  have B12 := (B7.wr W5)
  obtain ⟨T10, h10, X10, e10, W10, st10⟩ := putF X5 hx hZ hown (host := "") (Or.inl (own_w hw 27 rfl)) Via.refl e5 B11 B12 (Or.inr ⟨(own_w hw 28 rfl), rfl, hnm⟩) (own_w hw 9 rfl) (ty := .long) (by decide) rfl rfl (g := (mkF m 16 #[rv a1, .val (.null), .val (.null), .val (.long q1), .second, .val (.long q2), .second, .val (.long q3), .second, .val (.long q4), .second, rv r1, rv r2, .val (.null), .val (.null), .val (.null), .val (.null)] [.long q1, .ref a1])) rfl rfl (hb hby own_d_prog_20_method_1_16)
  have N10 := Fr.snoc X10 N5 g_a1
  have Fw10 := B11.same W10
  have Z13 := Nat.le_trans Z8 (Keep.of_wr W10).1
  have K14 : Keep h0 _ [a1] := K9.wr W10 (Or.inl (List.mem_of_getElem? (i := 0) rfl))
  refine own_st st10 ?_
  show own_E p e below _ T10 (mkF m 19 #[rv a1, .val (.null), .val (.null), .val (.long q1), .second, .val (.long q2), .second, .val (.long q3), .second, .val (.long q4), .second, rv r1, rv r2, .val (.null), .val (.null), .val (.null), .val (.null)] [])
  refine own_st (fun t k => XS.aloadN X10.here hx rfl (hb hby own_d_prog_20_method_1_19) rfl rfl k) ?_
  show own_E p e below _ T10 (mkF m 20 #[rv a1, .val (.null), .val (.null), .val (.long q1), .second, .val (.long q2), .second, .val (.long q3), .second, .val (.long q4), .second, rv r1, rv r2, .val (.null), .val (.null), .val (.null), .val (.null)] [.ref a1])
  refine own_st (fun t k => XS.lload X10.here hx rfl (hb hby own_d_prog_20_method_1_20) rfl k) ?_
  show own_E p e below _ T10 (mkF m 22 #[rv a1, .val (.null), .val (.null), .val (.long q1), .second, .val (.long q2), .second, .val (.long q3), .second, .val (.long q4), .second, rv r1, rv r2, .val (.null), .val (.null), .val (.null), .val (.null)] [.long q2, .ref a1])
  have B16 := (((F_amount_a1.other W2 (Or.inr (slot_ne (Or.inr (own_w hw 30 rfl)) (Or.inr (own_w hw 24 rfl)) (by decide) (t := .long) (t' := (.object "java/lang/String")) (by decide) (by decide)))).other W5 (Or.inr (slot_ne (Or.inr (own_w hw 30 rfl)) (Or.inr (own_w hw 26 rfl)) (by decide) (t := .long) (t' := (.object "java/lang/String")) (by decide) (by decide)))).other W10 (Or.inr (slot_ne (Or.inr (own_w hw 30 rfl)) (Or.inr (own_w hw 28 rfl)) (by decide) (t := .long) (t' := .long) (by decide) (by decide))))
  have B17 := (B12.wr W10)
  obtain ⟨T15, h15, X15, e15, W15, st15⟩ := putF X10 hx hZ hown (host := "") (Or.inl (own_w hw 29 rfl)) Via.refl e10 B16 B17 (Or.inr ⟨(own_w hw 30 rfl), rfl, hnm⟩) (own_w hw 9 rfl) (ty := .long) (by decide) rfl rfl (g := (mkF m 22 #[rv a1, .val (.null), .val (.null), .val (.long q1), .second, .val (.long q2), .second, .val (.long q3), .second, .val (.long q4), .second, rv r1, rv r2, .val (.null), .val (.null), .val (.null), .val (.null)] [.long q2, .ref a1])) rfl rfl (hb hby own_d_prog_20_method_1_22)
  have N15 := Fr.snoc X15 N10 g_a1
  have Fw15 := B16.same W15
  have Z18 := Nat.le_trans Z13 (Keep.of_wr W15).1
  have K19 : Keep h0 _ [a1] := K14.wr W15 (Or.inl (List.mem_of_getElem? (i := 0) rfl))
  refine own_st st15 ?_
  show own_E p e below _ T15 (mkF m 25 #[rv a1, .val (.null), .val (.null), .val (.long q1), .second, .val (.long q2), .second, .val (.long q3), .second, .val (.long q4), .second, rv r1, rv r2, .val (.null), .val (.null), .val (.null), .val (.null)] [])
  refine own_st (fun t k => XS.aloadN X15.here hx rfl (hb hby own_d_prog_20_method_1_25) rfl rfl k) ?_
  show own_E p e below _ T15 (mkF m 26 #[rv a1, .val (.null), .val (.null), .val (.long q1), .second, .val (.long q2), .second, .val (.long q3), .second, .val (.long q4), .second, rv r1, rv r2, .val (.null), .val (.null), .val (.null), .val (.null)] [.ref a1])
  refine own_st (fun t k => XS.lload X15.here hx rfl (hb hby own_d_prog_20_method_1_26) rfl k) ?_
  show own_E p e below _ T15 (mkF m 28 #[rv a1, .val (.null), .val (.null), .val (.long q1), .second, .val (.long q2), .second, .val (.long q3), .second, .val (.long q4), .second, rv r1, rv r2, .val (.null), .val (.null), .val (.null), .val (.null)] [.long q3, .ref a1])
  have B21 := ((((F_amountCaptured_a1.other W2 (Or.inr (slot_ne (Or.inr (own_w hw 32 rfl)) (Or.inr (own_w hw 24 rfl)) (by decide) (t := .long) (t' := (.object "java/lang/String")) (by decide) (by decide)))).other W5 (Or.inr (slot_ne (Or.inr (own_w hw 32 rfl)) (Or.inr (own_w hw 26 rfl)) (by decide) (t := .long) (t' := (.object "java/lang/String")) (by decide) (by decide)))).other W10 (Or.inr (slot_ne (Or.inr (own_w hw 32 rfl)) (Or.inr (own_w hw 28 rfl)) (by decide) (t := .long) (t' := .long) (by decide) (by decide)))).other W15 (Or.inr (slot_ne (Or.inr (own_w hw 32 rfl)) (Or.inr (own_w hw 30 rfl)) (by decide) (t := .long) (t' := .long) (by decide) (by decide))))
  have B22 := (B17.wr W15)
  obtain ⟨T20, h20, X20, e20, W20, st20⟩ := putF X15 hx hZ hown (host := "") (Or.inl (own_w hw 31 rfl)) Via.refl e15 B21 B22 (Or.inr ⟨(own_w hw 32 rfl), rfl, hnm⟩) (own_w hw 9 rfl) (ty := .long) (by decide) rfl rfl (g := (mkF m 28 #[rv a1, .val (.null), .val (.null), .val (.long q1), .second, .val (.long q2), .second, .val (.long q3), .second, .val (.long q4), .second, rv r1, rv r2, .val (.null), .val (.null), .val (.null), .val (.null)] [.long q3, .ref a1])) rfl rfl (hb hby own_d_prog_20_method_1_28)
  have N20 := Fr.snoc X20 N15 g_a1
  have Fw20 := B21.same W20
  have Z23 := Nat.le_trans Z18 (Keep.of_wr W20).1
  have K24 : Keep h0 _ [a1] := K19.wr W20 (Or.inl (List.mem_of_getElem? (i := 0) rfl))
  refine own_st st20 ?_
  show own_E p e below _ T20 (mkF m 31 #[rv a1, .val (.null), .val (.null), .val (.long q1), .second, .val (.long q2), .second, .val (.long q3), .second, .val (.long q4), .second, rv r1, rv r2, .val (.null), .val (.null), .val (.null), .val (.null)] [])
  refine own_st (fun t k => XS.aloadN X20.here hx rfl (hb hby own_d_prog_20_method_1_31) rfl rfl k) ?_
  show own_E p e below _ T20 (mkF m 32 #[rv a1, .val (.null), .val (.null), .val (.long q1), .second, .val (.long q2), .second, .val (.long q3), .second, .val (.long q4), .second, rv r1, rv r2, .val (.null), .val (.null), .val (.null), .val (.null)] [.ref a1])
  refine own_st (fun t k => XS.lload X20.here hx rfl (hb hby own_d_prog_20_method_1_32) rfl k) ?_
  show own_E p e below _ T20 (mkF m 34 #[rv a1, .val (.null), .val (.null), .val (.long q1), .second, .val (.long q2), .second, .val (.long q3), .second, .val (.long q4), .second, rv r1, rv r2, .val (.null), .val (.null), .val (.null), .val (.null)] [.long q4, .ref a1])
  have B26 := (((((F_amountRefunded_a1.other W2 (Or.inr (slot_ne (Or.inr (own_w hw 34 rfl)) (Or.inr (own_w hw 24 rfl)) (by decide) (t := .long) (t' := (.object "java/lang/String")) (by decide) (by decide)))).other W5 (Or.inr (slot_ne (Or.inr (own_w hw 34 rfl)) (Or.inr (own_w hw 26 rfl)) (by decide) (t := .long) (t' := (.object "java/lang/String")) (by decide) (by decide)))).other W10 (Or.inr (slot_ne (Or.inr (own_w hw 34 rfl)) (Or.inr (own_w hw 28 rfl)) (by decide) (t := .long) (t' := .long) (by decide) (by decide)))).other W15 (Or.inr (slot_ne (Or.inr (own_w hw 34 rfl)) (Or.inr (own_w hw 30 rfl)) (by decide) (t := .long) (t' := .long) (by decide) (by decide)))).other W20 (Or.inr (slot_ne (Or.inr (own_w hw 34 rfl)) (Or.inr (own_w hw 32 rfl)) (by decide) (t := .long) (t' := .long) (by decide) (by decide))))
  have B27 := (B22.wr W20)
  obtain ⟨T25, h25, X25, e25, W25, st25⟩ := putF X20 hx hZ hown (host := "") (Or.inl (own_w hw 33 rfl)) Via.refl e20 B26 B27 (Or.inr ⟨(own_w hw 34 rfl), rfl, hnm⟩) (own_w hw 9 rfl) (ty := .long) (by decide) rfl rfl (g := (mkF m 34 #[rv a1, .val (.null), .val (.null), .val (.long q1), .second, .val (.long q2), .second, .val (.long q3), .second, .val (.long q4), .second, rv r1, rv r2, .val (.null), .val (.null), .val (.null), .val (.null)] [.long q4, .ref a1])) rfl rfl (hb hby own_d_prog_20_method_1_34)
  have N25 := Fr.snoc X25 N20 g_a1
  have Fw25 := B26.same W25
  have Z28 := Nat.le_trans Z23 (Keep.of_wr W25).1
  have K29 : Keep h0 _ [a1] := K24.wr W25 (Or.inl (List.mem_of_getElem? (i := 0) rfl))
  refine own_st st25 ?_
  show own_E p e below _ T25 (mkF m 37 #[rv a1, .val (.null), .val (.null), .val (.long q1), .second, .val (.long q2), .second, .val (.long q3), .second, .val (.long q4), .second, rv r1, rv r2, .val (.null), .val (.null), .val (.null), .val (.null)] [])
  refine own_st (fun t k => XS.aloadN X25.here hx rfl (hb hby own_d_prog_20_method_1_37) rfl rfl k) ?_
  show own_E p e below _ T25 (mkF m 38 #[rv a1, .val (.null), .val (.null), .val (.long q1), .second, .val (.long q2), .second, .val (.long q3), .second, .val (.long q4), .second, rv r1, rv r2, .val (.null), .val (.null), .val (.null), .val (.null)] [.ref a1])
  refine own_st (fun t k => XS.aload X25.here hx rfl (hb hby own_d_prog_20_method_1_38) rfl rfl k) ?_
  show own_E p e below _ T25 (mkF m 40 #[rv a1, .val (.null), .val (.null), .val (.long q1), .second, .val (.long q2), .second, .val (.long q3), .second, .val (.long q4), .second, rv r1, rv r2, .val (.null), .val (.null), .val (.null), .val (.null)] [.ref r1, .ref a1])
  have B31 := ((((((F_currency_a1.other W2 (Or.inr (slot_ne (Or.inr (own_w hw 36 rfl)) (Or.inr (own_w hw 24 rfl)) (by decide) (t := (.object "java/lang/String")) (t' := (.object "java/lang/String")) (by decide) (by decide)))).other W5 (Or.inr (slot_ne (Or.inr (own_w hw 36 rfl)) (Or.inr (own_w hw 26 rfl)) (by decide) (t := (.object "java/lang/String")) (t' := (.object "java/lang/String")) (by decide) (by decide)))).other W10 (Or.inr (slot_ne (Or.inr (own_w hw 36 rfl)) (Or.inr (own_w hw 28 rfl)) (by decide) (t := (.object "java/lang/String")) (t' := .long) (by decide) (by decide)))).other W15 (Or.inr (slot_ne (Or.inr (own_w hw 36 rfl)) (Or.inr (own_w hw 30 rfl)) (by decide) (t := (.object "java/lang/String")) (t' := .long) (by decide) (by decide)))).other W20 (Or.inr (slot_ne (Or.inr (own_w hw 36 rfl)) (Or.inr (own_w hw 32 rfl)) (by decide) (t := (.object "java/lang/String")) (t' := .long) (by decide) (by decide)))).other W25 (Or.inr (slot_ne (Or.inr (own_w hw 36 rfl)) (Or.inr (own_w hw 34 rfl)) (by decide) (t := (.object "java/lang/String")) (t' := .long) (by decide) (by decide))))
  have B32 := (B27.wr W25)
  obtain ⟨T30, h30, X30, e30, W30, st30⟩ := putF X25 hx hZ hown (host := "") (Or.inl (own_w hw 35 rfl)) Via.refl e25 B31 B32 (Or.inr ⟨(own_w hw 36 rfl), rfl, hnm⟩) (own_w hw 9 rfl) (ty := (.object "java/lang/String")) (by decide) rfl rfl (g := (mkF m 40 #[rv a1, .val (.null), .val (.null), .val (.long q1), .second, .val (.long q2), .second, .val (.long q3), .second, .val (.long q4), .second, rv r1, rv r2, .val (.null), .val (.null), .val (.null), .val (.null)] [.ref r1, .ref a1])) rfl rfl (hb hby own_d_prog_20_method_1_40)
  have N30 := Fr.snoc X30 N25 g_a1
  have Fw30 := B31.same W30
  have Z33 := Nat.le_trans Z28 (Keep.of_wr W30).1
  have K34 : Keep h0 _ [a1] := K29.wr W30 (Or.inl (List.mem_of_getElem? (i := 0) rfl))
  refine own_st st30 ?_
  show own_E p e below _ T30 (mkF m 43 #[rv a1, .val (.null), .val (.null), .val (.long q1), .second, .val (.long q2), .second, .val (.long q3), .second, .val (.long q4), .second, rv r1, rv r2, .val (.null), .val (.null), .val (.null), .val (.null)] [])
  refine own_st (fun t k => XS.aloadN X30.here hx rfl (hb hby own_d_prog_20_method_1_43) rfl rfl k) ?_
  show own_E p e below _ T30 (mkF m 44 #[rv a1, .val (.null), .val (.null), .val (.long q1), .second, .val (.long q2), .second, .val (.long q3), .second, .val (.long q4), .second, rv r1, rv r2, .val (.null), .val (.null), .val (.null), .val (.null)] [.ref a1])
  refine own_st (fun t k => XS.aload X30.here hx rfl (hb hby own_d_prog_20_method_1_44) rfl rfl k) ?_
  show own_E p e below _ T30 (mkF m 46 #[rv a1, .val (.null), .val (.null), .val (.long q1), .second, .val (.long q2), .second, .val (.long q3), .second, .val (.long q4), .second, rv r1, rv r2, .val (.null), .val (.null), .val (.null), .val (.null)] [.ref r2, .ref a1])
  have B36 := (((((((F_status_a1.other W2 (Or.inr (slot_ne (Or.inr (own_w hw 38 rfl)) (Or.inr (own_w hw 24 rfl)) (by decide) (t := (.object "java/lang/String")) (t' := (.object "java/lang/String")) (by decide) (by decide)))).other W5 (Or.inr (slot_ne (Or.inr (own_w hw 38 rfl)) (Or.inr (own_w hw 26 rfl)) (by decide) (t := (.object "java/lang/String")) (t' := (.object "java/lang/String")) (by decide) (by decide)))).other W10 (Or.inr (slot_ne (Or.inr (own_w hw 38 rfl)) (Or.inr (own_w hw 28 rfl)) (by decide) (t := (.object "java/lang/String")) (t' := .long) (by decide) (by decide)))).other W15 (Or.inr (slot_ne (Or.inr (own_w hw 38 rfl)) (Or.inr (own_w hw 30 rfl)) (by decide) (t := (.object "java/lang/String")) (t' := .long) (by decide) (by decide)))).other W20 (Or.inr (slot_ne (Or.inr (own_w hw 38 rfl)) (Or.inr (own_w hw 32 rfl)) (by decide) (t := (.object "java/lang/String")) (t' := .long) (by decide) (by decide)))).other W25 (Or.inr (slot_ne (Or.inr (own_w hw 38 rfl)) (Or.inr (own_w hw 34 rfl)) (by decide) (t := (.object "java/lang/String")) (t' := .long) (by decide) (by decide)))).other W30 (Or.inr (slot_ne (Or.inr (own_w hw 38 rfl)) (Or.inr (own_w hw 36 rfl)) (by decide) (t := (.object "java/lang/String")) (t' := (.object "java/lang/String")) (by decide) (by decide))))
  have B37 := (B32.wr W30)
  obtain ⟨T35, h35, X35, e35, W35, st35⟩ := putF X30 hx hZ hown (host := "") (Or.inl (own_w hw 37 rfl)) Via.refl e30 B36 B37 (Or.inr ⟨(own_w hw 38 rfl), rfl, hnm⟩) (own_w hw 9 rfl) (ty := (.object "java/lang/String")) (by decide) rfl rfl (g := (mkF m 46 #[rv a1, .val (.null), .val (.null), .val (.long q1), .second, .val (.long q2), .second, .val (.long q3), .second, .val (.long q4), .second, rv r1, rv r2, .val (.null), .val (.null), .val (.null), .val (.null)] [.ref r2, .ref a1])) rfl rfl (hb hby own_d_prog_20_method_1_46)
  have N35 := Fr.snoc X35 N30 g_a1
  have Fw35 := B36.same W35
  have Z38 := Nat.le_trans Z33 (Keep.of_wr W35).1
  have K39 : Keep h0 _ [a1] := K34.wr W35 (Or.inl (List.mem_of_getElem? (i := 0) rfl))
  refine own_st st35 ?_
  show own_E p e below _ T35 (mkF m 49 #[rv a1, .val (.null), .val (.null), .val (.long q1), .second, .val (.long q2), .second, .val (.long q3), .second, .val (.long q4), .second, rv r1, rv r2, .val (.null), .val (.null), .val (.null), .val (.null)] [])
  refine own_st (fun t k => XS.aloadN X35.here hx rfl (hb hby own_d_prog_20_method_1_49) rfl rfl k) ?_
  show own_E p e below _ T35 (mkF m 50 #[rv a1, .val (.null), .val (.null), .val (.long q1), .second, .val (.long q2), .second, .val (.long q3), .second, .val (.long q4), .second, rv r1, rv r2, .val (.null), .val (.null), .val (.null), .val (.null)] [.ref a1])
  refine own_st (fun t k => XS.aload X35.here hx rfl (hb hby own_d_prog_20_method_1_50) rfl rfl k) ?_
  show own_E p e below _ T35 (mkF m 52 #[rv a1, .val (.null), .val (.null), .val (.long q1), .second, .val (.long q2), .second, .val (.long q3), .second, .val (.long q4), .second, rv r1, rv r2, .val (.null), .val (.null), .val (.null), .val (.null)] [.null, .ref a1])
  have B41 := ((((((((F_gateway_a1.other W2 (Or.inr (slot_ne (Or.inr (own_w hw 40 rfl)) (Or.inr (own_w hw 24 rfl)) (by decide) (t := (.object "java/lang/String")) (t' := (.object "java/lang/String")) (by decide) (by decide)))).other W5 (Or.inr (slot_ne (Or.inr (own_w hw 40 rfl)) (Or.inr (own_w hw 26 rfl)) (by decide) (t := (.object "java/lang/String")) (t' := (.object "java/lang/String")) (by decide) (by decide)))).other W10 (Or.inr (slot_ne (Or.inr (own_w hw 40 rfl)) (Or.inr (own_w hw 28 rfl)) (by decide) (t := (.object "java/lang/String")) (t' := .long) (by decide) (by decide)))).other W15 (Or.inr (slot_ne (Or.inr (own_w hw 40 rfl)) (Or.inr (own_w hw 30 rfl)) (by decide) (t := (.object "java/lang/String")) (t' := .long) (by decide) (by decide)))).other W20 (Or.inr (slot_ne (Or.inr (own_w hw 40 rfl)) (Or.inr (own_w hw 32 rfl)) (by decide) (t := (.object "java/lang/String")) (t' := .long) (by decide) (by decide)))).other W25 (Or.inr (slot_ne (Or.inr (own_w hw 40 rfl)) (Or.inr (own_w hw 34 rfl)) (by decide) (t := (.object "java/lang/String")) (t' := .long) (by decide) (by decide)))).other W30 (Or.inr (slot_ne (Or.inr (own_w hw 40 rfl)) (Or.inr (own_w hw 36 rfl)) (by decide) (t := (.object "java/lang/String")) (t' := (.object "java/lang/String")) (by decide) (by decide)))).other W35 (Or.inr (slot_ne (Or.inr (own_w hw 40 rfl)) (Or.inr (own_w hw 38 rfl)) (by decide) (t := (.object "java/lang/String")) (t' := (.object "java/lang/String")) (by decide) (by decide))))
  have B42 := (B37.wr W35)
  obtain ⟨T40, h40, X40, e40, W40, st40⟩ := putF X35 hx hZ hown (host := "") (Or.inl (own_w hw 39 rfl)) Via.refl e35 B41 B42 (Or.inr ⟨(own_w hw 40 rfl), rfl, hnm⟩) (own_w hw 9 rfl) (ty := (.object "java/lang/String")) (by decide) rfl rfl (g := (mkF m 52 #[rv a1, .val (.null), .val (.null), .val (.long q1), .second, .val (.long q2), .second, .val (.long q3), .second, .val (.long q4), .second, rv r1, rv r2, .val (.null), .val (.null), .val (.null), .val (.null)] [.null, .ref a1])) rfl rfl (hb hby own_d_prog_20_method_1_52)
  have N40 := Fr.snoc X40 N35 g_a1
  have Fw40 := B41.same W40
  have Z43 := Nat.le_trans Z38 (Keep.of_wr W40).1
  have K44 : Keep h0 _ [a1] := K39.wr W40 (Or.inl (List.mem_of_getElem? (i := 0) rfl))
  refine own_st st40 ?_
  show own_E p e below _ T40 (mkF m 55 #[rv a1, .val (.null), .val (.null), .val (.long q1), .second, .val (.long q2), .second, .val (.long q3), .second, .val (.long q4), .second, rv r1, rv r2, .val (.null), .val (.null), .val (.null), .val (.null)] [])
  refine own_st (fun t k => XS.aloadN X40.here hx rfl (hb hby own_d_prog_20_method_1_55) rfl rfl k) ?_
  show own_E p e below _ T40 (mkF m 56 #[rv a1, .val (.null), .val (.null), .val (.long q1), .second, .val (.long q2), .second, .val (.long q3), .second, .val (.long q4), .second, rv r1, rv r2, .val (.null), .val (.null), .val (.null), .val (.null)] [.ref a1])
  refine own_st (fun t k => XS.aload X40.here hx rfl (hb hby own_d_prog_20_method_1_56) rfl rfl k) ?_
  show own_E p e below _ T40 (mkF m 58 #[rv a1, .val (.null), .val (.null), .val (.long q1), .second, .val (.long q2), .second, .val (.long q3), .second, .val (.long q4), .second, rv r1, rv r2, .val (.null), .val (.null), .val (.null), .val (.null)] [.null, .ref a1])
  have B46 := (((((((((F_card_a1.other W2 (Or.inr (slot_ne (Or.inr (own_w hw 42 rfl)) (Or.inr (own_w hw 24 rfl)) (by decide) (t := (.object "com/example/acquirer/acquirer/Card")) (t' := (.object "java/lang/String")) (by decide) (by decide)))).other W5 (Or.inr (slot_ne (Or.inr (own_w hw 42 rfl)) (Or.inr (own_w hw 26 rfl)) (by decide) (t := (.object "com/example/acquirer/acquirer/Card")) (t' := (.object "java/lang/String")) (by decide) (by decide)))).other W10 (Or.inr (slot_ne (Or.inr (own_w hw 42 rfl)) (Or.inr (own_w hw 28 rfl)) (by decide) (t := (.object "com/example/acquirer/acquirer/Card")) (t' := .long) (by decide) (by decide)))).other W15 (Or.inr (slot_ne (Or.inr (own_w hw 42 rfl)) (Or.inr (own_w hw 30 rfl)) (by decide) (t := (.object "com/example/acquirer/acquirer/Card")) (t' := .long) (by decide) (by decide)))).other W20 (Or.inr (slot_ne (Or.inr (own_w hw 42 rfl)) (Or.inr (own_w hw 32 rfl)) (by decide) (t := (.object "com/example/acquirer/acquirer/Card")) (t' := .long) (by decide) (by decide)))).other W25 (Or.inr (slot_ne (Or.inr (own_w hw 42 rfl)) (Or.inr (own_w hw 34 rfl)) (by decide) (t := (.object "com/example/acquirer/acquirer/Card")) (t' := .long) (by decide) (by decide)))).other W30 (Or.inr (slot_ne (Or.inr (own_w hw 42 rfl)) (Or.inr (own_w hw 36 rfl)) (by decide) (t := (.object "com/example/acquirer/acquirer/Card")) (t' := (.object "java/lang/String")) (by decide) (by decide)))).other W35 (Or.inr (slot_ne (Or.inr (own_w hw 42 rfl)) (Or.inr (own_w hw 38 rfl)) (by decide) (t := (.object "com/example/acquirer/acquirer/Card")) (t' := (.object "java/lang/String")) (by decide) (by decide)))).other W40 (Or.inr (slot_ne (Or.inr (own_w hw 42 rfl)) (Or.inr (own_w hw 40 rfl)) (by decide) (t := (.object "com/example/acquirer/acquirer/Card")) (t' := (.object "java/lang/String")) (by decide) (by decide))))
  have B47 := (B42.wr W40)
  obtain ⟨T45, h45, X45, e45, W45, st45⟩ := putF X40 hx hZ hown (host := "") (Or.inl (own_w hw 41 rfl)) Via.refl e40 B46 B47 (Or.inr ⟨(own_w hw 42 rfl), rfl, hnm⟩) (own_w hw 9 rfl) (ty := (.object "com/example/acquirer/acquirer/Card")) (by decide) rfl rfl (g := (mkF m 58 #[rv a1, .val (.null), .val (.null), .val (.long q1), .second, .val (.long q2), .second, .val (.long q3), .second, .val (.long q4), .second, rv r1, rv r2, .val (.null), .val (.null), .val (.null), .val (.null)] [.null, .ref a1])) rfl rfl (hb hby own_d_prog_20_method_1_58)
  have N45 := Fr.snoc X45 N40 g_a1
  have Fw45 := B46.same W45
  have Z48 := Nat.le_trans Z43 (Keep.of_wr W45).1
  have K49 : Keep h0 _ [a1] := K44.wr W45 (Or.inl (List.mem_of_getElem? (i := 0) rfl))
  refine own_st st45 ?_
  show own_E p e below _ T45 (mkF m 61 #[rv a1, .val (.null), .val (.null), .val (.long q1), .second, .val (.long q2), .second, .val (.long q3), .second, .val (.long q4), .second, rv r1, rv r2, .val (.null), .val (.null), .val (.null), .val (.null)] [])
  refine own_st (fun t k => XS.aloadN X45.here hx rfl (hb hby own_d_prog_20_method_1_61) rfl rfl k) ?_
  show own_E p e below _ T45 (mkF m 62 #[rv a1, .val (.null), .val (.null), .val (.long q1), .second, .val (.long q2), .second, .val (.long q3), .second, .val (.long q4), .second, rv r1, rv r2, .val (.null), .val (.null), .val (.null), .val (.null)] [.ref a1])
  refine own_st (fun t k => XS.aload X45.here hx rfl (hb hby own_d_prog_20_method_1_62) rfl rfl k) ?_
  show own_E p e below _ T45 (mkF m 64 #[rv a1, .val (.null), .val (.null), .val (.long q1), .second, .val (.long q2), .second, .val (.long q3), .second, .val (.long q4), .second, rv r1, rv r2, .val (.null), .val (.null), .val (.null), .val (.null)] [.null, .ref a1])
  have B51 := ((((((((((F_approval_a1.other W2 (Or.inr (slot_ne (Or.inr (own_w hw 44 rfl)) (Or.inr (own_w hw 24 rfl)) (by decide) (t := (.object "com/example/acquirer/acquirer/Approval")) (t' := (.object "java/lang/String")) (by decide) (by decide)))).other W5 (Or.inr (slot_ne (Or.inr (own_w hw 44 rfl)) (Or.inr (own_w hw 26 rfl)) (by decide) (t := (.object "com/example/acquirer/acquirer/Approval")) (t' := (.object "java/lang/String")) (by decide) (by decide)))).other W10 (Or.inr (slot_ne (Or.inr (own_w hw 44 rfl)) (Or.inr (own_w hw 28 rfl)) (by decide) (t := (.object "com/example/acquirer/acquirer/Approval")) (t' := .long) (by decide) (by decide)))).other W15 (Or.inr (slot_ne (Or.inr (own_w hw 44 rfl)) (Or.inr (own_w hw 30 rfl)) (by decide) (t := (.object "com/example/acquirer/acquirer/Approval")) (t' := .long) (by decide) (by decide)))).other W20 (Or.inr (slot_ne (Or.inr (own_w hw 44 rfl)) (Or.inr (own_w hw 32 rfl)) (by decide) (t := (.object "com/example/acquirer/acquirer/Approval")) (t' := .long) (by decide) (by decide)))).other W25 (Or.inr (slot_ne (Or.inr (own_w hw 44 rfl)) (Or.inr (own_w hw 34 rfl)) (by decide) (t := (.object "com/example/acquirer/acquirer/Approval")) (t' := .long) (by decide) (by decide)))).other W30 (Or.inr (slot_ne (Or.inr (own_w hw 44 rfl)) (Or.inr (own_w hw 36 rfl)) (by decide) (t := (.object "com/example/acquirer/acquirer/Approval")) (t' := (.object "java/lang/String")) (by decide) (by decide)))).other W35 (Or.inr (slot_ne (Or.inr (own_w hw 44 rfl)) (Or.inr (own_w hw 38 rfl)) (by decide) (t := (.object "com/example/acquirer/acquirer/Approval")) (t' := (.object "java/lang/String")) (by decide) (by decide)))).other W40 (Or.inr (slot_ne (Or.inr (own_w hw 44 rfl)) (Or.inr (own_w hw 40 rfl)) (by decide) (t := (.object "com/example/acquirer/acquirer/Approval")) (t' := (.object "java/lang/String")) (by decide) (by decide)))).other W45 (Or.inr (slot_ne (Or.inr (own_w hw 44 rfl)) (Or.inr (own_w hw 42 rfl)) (by decide) (t := (.object "com/example/acquirer/acquirer/Approval")) (t' := (.object "com/example/acquirer/acquirer/Card")) (by decide) (by decide))))
  have B52 := (B47.wr W45)
  obtain ⟨T50, h50, X50, e50, W50, st50⟩ := putF X45 hx hZ hown (host := "") (Or.inl (own_w hw 43 rfl)) Via.refl e45 B51 B52 (Or.inr ⟨(own_w hw 44 rfl), rfl, hnm⟩) (own_w hw 9 rfl) (ty := (.object "com/example/acquirer/acquirer/Approval")) (by decide) rfl rfl (g := (mkF m 64 #[rv a1, .val (.null), .val (.null), .val (.long q1), .second, .val (.long q2), .second, .val (.long q3), .second, .val (.long q4), .second, rv r1, rv r2, .val (.null), .val (.null), .val (.null), .val (.null)] [.null, .ref a1])) rfl rfl (hb hby own_d_prog_20_method_1_64)
  have N50 := Fr.snoc X50 N45 g_a1
  have Fw50 := B51.same W50
  have Z53 := Nat.le_trans Z48 (Keep.of_wr W50).1
  have K54 : Keep h0 _ [a1] := K49.wr W50 (Or.inl (List.mem_of_getElem? (i := 0) rfl))
  refine own_st st50 ?_
  show own_E p e below _ T50 (mkF m 67 #[rv a1, .val (.null), .val (.null), .val (.long q1), .second, .val (.long q2), .second, .val (.long q3), .second, .val (.long q4), .second, rv r1, rv r2, .val (.null), .val (.null), .val (.null), .val (.null)] [])
  refine own_st (fun t k => XS.aloadN X50.here hx rfl (hb hby own_d_prog_20_method_1_67) rfl rfl k) ?_
  show own_E p e below _ T50 (mkF m 68 #[rv a1, .val (.null), .val (.null), .val (.long q1), .second, .val (.long q2), .second, .val (.long q3), .second, .val (.long q4), .second, rv r1, rv r2, .val (.null), .val (.null), .val (.null), .val (.null)] [.ref a1])
  refine own_st (fun t k => XS.aload X50.here hx rfl (hb hby own_d_prog_20_method_1_68) rfl rfl k) ?_
  show own_E p e below _ T50 (mkF m 70 #[rv a1, .val (.null), .val (.null), .val (.long q1), .second, .val (.long q2), .second, .val (.long q3), .second, .val (.long q4), .second, rv r1, rv r2, .val (.null), .val (.null), .val (.null), .val (.null)] [.null, .ref a1])
  have B56 := (((((((((((F_lastError_a1.other W2 (Or.inr (slot_ne (Or.inr (own_w hw 46 rfl)) (Or.inr (own_w hw 24 rfl)) (by decide) (t := (.object "java/lang/String")) (t' := (.object "java/lang/String")) (by decide) (by decide)))).other W5 (Or.inr (slot_ne (Or.inr (own_w hw 46 rfl)) (Or.inr (own_w hw 26 rfl)) (by decide) (t := (.object "java/lang/String")) (t' := (.object "java/lang/String")) (by decide) (by decide)))).other W10 (Or.inr (slot_ne (Or.inr (own_w hw 46 rfl)) (Or.inr (own_w hw 28 rfl)) (by decide) (t := (.object "java/lang/String")) (t' := .long) (by decide) (by decide)))).other W15 (Or.inr (slot_ne (Or.inr (own_w hw 46 rfl)) (Or.inr (own_w hw 30 rfl)) (by decide) (t := (.object "java/lang/String")) (t' := .long) (by decide) (by decide)))).other W20 (Or.inr (slot_ne (Or.inr (own_w hw 46 rfl)) (Or.inr (own_w hw 32 rfl)) (by decide) (t := (.object "java/lang/String")) (t' := .long) (by decide) (by decide)))).other W25 (Or.inr (slot_ne (Or.inr (own_w hw 46 rfl)) (Or.inr (own_w hw 34 rfl)) (by decide) (t := (.object "java/lang/String")) (t' := .long) (by decide) (by decide)))).other W30 (Or.inr (slot_ne (Or.inr (own_w hw 46 rfl)) (Or.inr (own_w hw 36 rfl)) (by decide) (t := (.object "java/lang/String")) (t' := (.object "java/lang/String")) (by decide) (by decide)))).other W35 (Or.inr (slot_ne (Or.inr (own_w hw 46 rfl)) (Or.inr (own_w hw 38 rfl)) (by decide) (t := (.object "java/lang/String")) (t' := (.object "java/lang/String")) (by decide) (by decide)))).other W40 (Or.inr (slot_ne (Or.inr (own_w hw 46 rfl)) (Or.inr (own_w hw 40 rfl)) (by decide) (t := (.object "java/lang/String")) (t' := (.object "java/lang/String")) (by decide) (by decide)))).other W45 (Or.inr (slot_ne (Or.inr (own_w hw 46 rfl)) (Or.inr (own_w hw 42 rfl)) (by decide) (t := (.object "java/lang/String")) (t' := (.object "com/example/acquirer/acquirer/Card")) (by decide) (by decide)))).other W50 (Or.inr (slot_ne (Or.inr (own_w hw 46 rfl)) (Or.inr (own_w hw 44 rfl)) (by decide) (t := (.object "java/lang/String")) (t' := (.object "com/example/acquirer/acquirer/Approval")) (by decide) (by decide))))
  have B57 := (B52.wr W50)
  obtain ⟨T55, h55, X55, e55, W55, st55⟩ := putF X50 hx hZ hown (host := "") (Or.inl (own_w hw 45 rfl)) Via.refl e50 B56 B57 (Or.inr ⟨(own_w hw 46 rfl), rfl, hnm⟩) (own_w hw 9 rfl) (ty := (.object "java/lang/String")) (by decide) rfl rfl (g := (mkF m 70 #[rv a1, .val (.null), .val (.null), .val (.long q1), .second, .val (.long q2), .second, .val (.long q3), .second, .val (.long q4), .second, rv r1, rv r2, .val (.null), .val (.null), .val (.null), .val (.null)] [.null, .ref a1])) rfl rfl (hb hby own_d_prog_20_method_1_70)
  have N55 := Fr.snoc X55 N50 g_a1
  have Fw55 := B56.same W55
  have Z58 := Nat.le_trans Z53 (Keep.of_wr W55).1
  have K59 : Keep h0 _ [a1] := K54.wr W55 (Or.inl (List.mem_of_getElem? (i := 0) rfl))
  refine own_st st55 ?_
  show own_E p e below _ T55 (mkF m 73 #[rv a1, .val (.null), .val (.null), .val (.long q1), .second, .val (.long q2), .second, .val (.long q3), .second, .val (.long q4), .second, rv r1, rv r2, .val (.null), .val (.null), .val (.null), .val (.null)] [])
  refine own_retV X55 hx Bd.notSynchronized Bd.returns (hb hby own_d_prog_20_method_1_73) (by decide) (by decide) ?_
  have B60 := (B57.wr W55)
  have B61 := (((((((Fw20.other W25 (Or.inr (slot_ne (Or.inr (own_w hw 32 rfl)) (Or.inr (own_w hw 34 rfl)) (by decide) (t := .long) (t' := .long) (by decide) (by decide)))).other W30 (Or.inr (slot_ne (Or.inr (own_w hw 32 rfl)) (Or.inr (own_w hw 36 rfl)) (by decide) (t := .long) (t' := (.object "java/lang/String")) (by decide) (by decide)))).other W35 (Or.inr (slot_ne (Or.inr (own_w hw 32 rfl)) (Or.inr (own_w hw 38 rfl)) (by decide) (t := .long) (t' := (.object "java/lang/String")) (by decide) (by decide)))).other W40 (Or.inr (slot_ne (Or.inr (own_w hw 32 rfl)) (Or.inr (own_w hw 40 rfl)) (by decide) (t := .long) (t' := (.object "java/lang/String")) (by decide) (by decide)))).other W45 (Or.inr (slot_ne (Or.inr (own_w hw 32 rfl)) (Or.inr (own_w hw 42 rfl)) (by decide) (t := .long) (t' := (.object "com/example/acquirer/acquirer/Card")) (by decide) (by decide)))).other W50 (Or.inr (slot_ne (Or.inr (own_w hw 32 rfl)) (Or.inr (own_w hw 44 rfl)) (by decide) (t := .long) (t' := (.object "com/example/acquirer/acquirer/Approval")) (by decide) (by decide)))).other W55 (Or.inr (slot_ne (Or.inr (own_w hw 32 rfl)) (Or.inr (own_w hw 46 rfl)) (by decide) (t := .long) (t' := (.object "java/lang/String")) (by decide) (by decide))))
  have B62 := ((((((Fw25.other W30 (Or.inr (slot_ne (Or.inr (own_w hw 34 rfl)) (Or.inr (own_w hw 36 rfl)) (by decide) (t := .long) (t' := (.object "java/lang/String")) (by decide) (by decide)))).other W35 (Or.inr (slot_ne (Or.inr (own_w hw 34 rfl)) (Or.inr (own_w hw 38 rfl)) (by decide) (t := .long) (t' := (.object "java/lang/String")) (by decide) (by decide)))).other W40 (Or.inr (slot_ne (Or.inr (own_w hw 34 rfl)) (Or.inr (own_w hw 40 rfl)) (by decide) (t := .long) (t' := (.object "java/lang/String")) (by decide) (by decide)))).other W45 (Or.inr (slot_ne (Or.inr (own_w hw 34 rfl)) (Or.inr (own_w hw 42 rfl)) (by decide) (t := .long) (t' := (.object "com/example/acquirer/acquirer/Card")) (by decide) (by decide)))).other W50 (Or.inr (slot_ne (Or.inr (own_w hw 34 rfl)) (Or.inr (own_w hw 44 rfl)) (by decide) (t := .long) (t' := (.object "com/example/acquirer/acquirer/Approval")) (by decide) (by decide)))).other W55 (Or.inr (slot_ne (Or.inr (own_w hw 34 rfl)) (Or.inr (own_w hw 46 rfl)) (by decide) (t := .long) (t' := (.object "java/lang/String")) (by decide) (by decide))))
  show own_init_Q Z a1 r1 r2 q1 q2 q3 q4 h0 n0 _ T55.heap _
  rw [e55]
  exact ⟨rfl, N55, K59, B60, B61, B62⟩
theorem own_d_prog_20_method_5_0 : decode prog_20_method_5_code 0 = .ok (.aload_n 0, 1) := by decide +kernel
theorem own_d_prog_20_method_5_1 : decode prog_20_method_5_code 1 = .ok (.getfield 23, 3) := by decide +kernel
theorem own_d_prog_20_method_5_4 : decode prog_20_method_5_code 4 = .ok (.lconst 0, 1) := by decide +kernel
theorem own_d_prog_20_method_5_5 : decode prog_20_method_5_code 5 = .ok (.lcmp, 1) := by decide +kernel
theorem own_d_prog_20_method_5_6 : decode prog_20_method_5_code 6 = .ok (.ifCond .le 19, 3) := by decide +kernel
theorem own_d_prog_20_method_5_9 : decode prog_20_method_5_code 9 = .ok (.aload_n 0, 1) := by decide +kernel
theorem own_d_prog_20_method_5_10 : decode prog_20_method_5_code 10 = .ok (.getfield 26, 3) := by decide +kernel
theorem own_d_prog_20_method_5_13 : decode prog_20_method_5_code 13 = .ok (.aload_n 0, 1) := by decide +kernel
theorem own_d_prog_20_method_5_14 : decode prog_20_method_5_code 14 = .ok (.getfield 23, 3) := by decide +kernel
theorem own_d_prog_20_method_5_17 : decode prog_20_method_5_code 17 = .ok (.lcmp, 1) := by decide +kernel
theorem own_d_prog_20_method_5_18 : decode prog_20_method_5_code 18 = .ok (.ifCond .ne 7, 3) := by decide +kernel
theorem own_d_prog_20_method_5_21 : decode prog_20_method_5_code 21 = .ok (.iconst 1, 1) := by decide +kernel
theorem own_d_prog_20_method_5_22 : decode prog_20_method_5_code 22 = .ok (.goto 4, 3) := by decide +kernel
theorem own_d_prog_20_method_5_26 : decode prog_20_method_5_code 26 = .ok (.ireturn, 1) := by decide +kernel
theorem own_d_prog_20_method_5_25 : decode prog_20_method_5_code 25 = .ok (.iconst 0, 1) := by decide +kernel
def own_isref_Q (a1 : Addr) (q1 : Int64) (q2 : Int64) (h0 : Heap) (v : Option Value) (h : Heap) (L : List Loc) : Prop := ((v = some (.int (1 : Int32)) ∧ (0 : Int64) < q1 ∧ q2 = q1) ∨ (v = some (.int (0 : Int32)) ∧ (0 : Int64) < q1 ∧ ¬ (q2 = q1)) ∨ (v = some (.int (0 : Int32)) ∧ ¬ ((0 : Int64) < q1))) ∧ h = h0 ∧ L = []
abbrev own_y2 : MethodName := ⟨"com/example/acquirer/acquirer/Payment", "isRefunded", "()Z"⟩
theorem own_isref_ef (m : MethodId) (a1 : Addr) (q1 : Int64) (q2 : Int64) : entryFrame m #[(.ref a1)] 1 = mkF m 0 #[.val (.ref a1)] [] := by first | (simp [entryFrame, mkF, argsToLocals, Value.category]; done) | rfl
set_option maxRecDepth 65536 in
set_option maxHeartbeats 40000000 in
theorem own_isref (l : Launch) (Z : State) (a0 : Array Value) (hw : ∀ d ∈ tables_1, d.before a0 Z = true) (ws : List Jvm.Cond) (a1 : Addr) (q1 : Int64) (q2 : Int64) (h0 : Heap) (n0 : Nat) (Z0 : n0 ≤ h0.size) (F_amountCaptured_a1 : Fld Z h0 a1 "com/example/acquirer/acquirer/Payment" "amountCaptured" "J" (.long q1)) (F_amountRefunded_a1 : Fld Z h0 a1 "com/example/acquirer/acquirer/Payment" "amountRefunded" "J" (.long q2)) :
    MetFree l own_y2 (head1 (Jvm.Cond.code own_y2 prog_20_method_5_code 1 (some .boolean) :: ws) ({ frames := 0, cells := 0, slots := 0, locals := 0 } : Room)) (fun a U => a = #[(.ref a1)] ∧ Z.Warmed39 U.vm ∧ U.heap = h0) (fun _ _ _ _ _ => True) (fun _ U o U' => ∃ v L, o = .returned v ∧ own_isref_Q a1 q1 q2 h0 v U'.heap L ∧ FrameEnd U o U' L ({ frames := 0, cells := 0, slots := 0, locals := 0 } : Room).cells ({ frames := 0, cells := 0, slots := 0, locals := 0 } : Room).slots) := by
  refine MetFree.of_bodySF (plainFor_of_name own_pn_Payment) hisR ?_
  intro p e s m args below meth c s₁ Bd hml0 hP hK
  obtain ⟨rfl, hZ, hh⟩ := hP
  have hx := Bd.exec
  have hby := Bd.bytes
  have hml : c.maxLocals = 1 := hml0
  have hown : s.vm.findClass "com/example/acquirer/acquirer/Payment" = some m.cls := findClass_of_methodNamed Bd.named
  have hnm := (name_of_methodNamed Bd.named Bd.method).1
  have X0 : Stand p l e ({ frames := 0, cells := 0, slots := 0, locals := 0 } : Room) s m #[(.ref a1)] below meth c s₁ [] 0 0 := Stand.of_body Bd
  have e0 : s₁.heap = h0 := by rw [← hh, Bd.state]; rfl
  show own_E p e below (own_K (own_isref_Q a1 q1 q2 h0) s ({ frames := 0, cells := 0, slots := 0, locals := 0 } : Room).cells ({ frames := 0, cells := 0, slots := 0, locals := 0 } : Room).slots) s₁ (entryFrame m #[(.ref a1)] 1)
  refine own_pre (own_isref_ef m a1 q1 q2) ?_
  show own_E p e below _ s₁ (mkF m 0 #[rv a1] [])
  refine own_st (fun t k => XS.aloadN X0.here hx rfl (hb hby own_d_prog_20_method_5_0) rfl rfl k) ?_
  show own_E p e below _ s₁ (mkF m 1 #[rv a1] [.ref a1])
  obtain ⟨T1, X1, e1, st1⟩ := getF X0 hx hZ hown (host := "") (Or.inl (own_w hw 31 rfl)) Via.refl e0 F_amountCaptured_a1 (g := (mkF m 1 #[rv a1] [.ref a1])) rfl rfl (hb hby own_d_prog_20_method_5_1)
  refine own_st st1 ?_
  show own_E p e below _ T1 (mkF m 4 #[rv a1] [.long q1])
  refine own_st (fun t k => XS.lconst X1.here hx rfl (hb hby own_d_prog_20_method_5_4) k) ?_
  show own_E p e below _ T1 (mkF m 5 #[rv a1] [.long 0, .long q1])
  refine own_st (fun t k => XS.lcmp X1.here hx rfl (hb hby own_d_prog_20_method_5_5) rfl k) ?_
  show own_E p e below _ T1 (mkF m 6 #[rv a1] [.int (lcmpW q1 (0 : Int64))])
  by_cases hc2 : (0 : Int64) < q1
  · refine own_st (fun t k => XS.ifNo X1.here hx rfl (hb hby own_d_prog_20_method_5_6) rfl ((if0 _ _).trans (tlt ((lw_gt _ _).mpr hc2)).2.2.2) k) ?_
    show own_E p e below _ T1 (mkF m 9 #[rv a1] [])
    refine own_st (fun t k => XS.aloadN X1.here hx rfl (hb hby own_d_prog_20_method_5_9) rfl rfl k) ?_
    show own_E p e below _ T1 (mkF m 10 #[rv a1] [.ref a1])
    obtain ⟨T3, X3, e3, st3⟩ := getF X1 hx hZ hown (host := "") (Or.inl (own_w hw 33 rfl)) Via.refl e1 F_amountRefunded_a1 (g := (mkF m 10 #[rv a1] [.ref a1])) rfl rfl (hb hby own_d_prog_20_method_5_10)
    refine own_st st3 ?_
    show own_E p e below _ T3 (mkF m 13 #[rv a1] [.long q2])
    refine own_st (fun t k => XS.aloadN X3.here hx rfl (hb hby own_d_prog_20_method_5_13) rfl rfl k) ?_
    show own_E p e below _ T3 (mkF m 14 #[rv a1] [.ref a1, .long q2])
    obtain ⟨T4, X4, e4, st4⟩ := getF X3 hx hZ hown (host := "") (Or.inl (own_w hw 31 rfl)) Via.refl e3 F_amountCaptured_a1 (g := (mkF m 14 #[rv a1] [.ref a1, .long q2])) rfl rfl (hb hby own_d_prog_20_method_5_14)
    refine own_st st4 ?_
    show own_E p e below _ T4 (mkF m 17 #[rv a1] [.long q1, .long q2])
    refine own_st (fun t k => XS.lcmp X4.here hx rfl (hb hby own_d_prog_20_method_5_17) rfl k) ?_
    show own_E p e below _ T4 (mkF m 18 #[rv a1] [.int (lcmpW q2 q1)])
    by_cases hc5 : q2 = q1
    · refine own_st (fun t k => XS.ifNo X4.here hx rfl (hb hby own_d_prog_20_method_5_18) rfl ((if0 _ _).trans (teq ((lw_eq _ _).mpr hc5)).2) k) ?_
      show own_E p e below _ T4 (mkF m 21 #[rv a1] [])
      refine own_st (fun t k => XS.iconst X4.here hx rfl (hb hby own_d_prog_20_method_5_21) k) ?_
      show own_E p e below _ T4 (mkF m 22 #[rv a1] [.int 1])
      refine own_st (fun t k => XS.goto X4.here hx rfl (pc0 := 22) (pc' := 26) rfl (hb hby own_d_prog_20_method_5_22) (by decide) (by decide) k) ?_
      show own_E p e below _ T4 (mkF m 26 #[rv a1] [.int 1])
      refine own_retS X4 hx Bd.notSynchronized Bd.returns rfl (by decide) (hb hby own_d_prog_20_method_5_26) (by decide) (by decide) ?_
      exact ⟨(Or.inl ⟨rfl, hc2, hc5⟩), e4, rfl⟩
    · refine own_st (fun t k => XS.ifYes X4.here hx rfl (pc0 := 18) (pc' := 25) rfl (hb hby own_d_prog_20_method_5_18) rfl ((if0 _ _).trans (feq (fun q => hc5 ((lw_eq _ _).mp q))).2) (by decide) (by decide) k) ?_
      show own_E p e below _ T4 (mkF m 25 #[rv a1] [])
      refine own_st (fun t k => XS.iconst X4.here hx rfl (hb hby own_d_prog_20_method_5_25) k) ?_
      show own_E p e below _ T4 (mkF m 26 #[rv a1] [.int 0])
      refine own_retS X4 hx Bd.notSynchronized Bd.returns rfl (by decide) (hb hby own_d_prog_20_method_5_26) (by decide) (by decide) ?_
      exact ⟨(Or.inr (Or.inl ⟨rfl, hc2, hc5⟩)), e4, rfl⟩
  · refine own_st (fun t k => XS.ifYes X1.here hx rfl (pc0 := 6) (pc' := 25) rfl (hb hby own_d_prog_20_method_5_6) rfl ((if0 _ _).trans (flt (fun q => hc2 ((lw_gt _ _).mp q))).2.2.2) (by decide) (by decide) k) ?_
    show own_E p e below _ T1 (mkF m 25 #[rv a1] [])
    refine own_st (fun t k => XS.iconst X1.here hx rfl (hb hby own_d_prog_20_method_5_25) k) ?_
    show own_E p e below _ T1 (mkF m 26 #[rv a1] [.int 0])
    refine own_retS X1 hx Bd.notSynchronized Bd.returns rfl (by decide) (hb hby own_d_prog_20_method_5_26) (by decide) (by decide) ?_
    exact ⟨(Or.inr (Or.inr ⟨rfl, hc2⟩)), e1, rfl⟩
theorem own_pd_3 : parseMethodDescriptor "(Ljava/lang/String;Ljava/lang/String;JJJJLjava/lang/String;Ljava/lang/String;Ljava/lang/String;Lcom/example/acquirer/acquirer/Card;Lcom/example/acquirer/acquirer/Approval;Ljava/lang/String;)V" = some ⟨[(.object "java/lang/String"), (.object "java/lang/String"), .long, .long, .long, .long, (.object "java/lang/String"), (.object "java/lang/String"), (.object "java/lang/String"), (.object "com/example/acquirer/acquirer/Card"), (.object "com/example/acquirer/acquirer/Approval"), (.object "java/lang/String")], none⟩ := by decide +kernel
theorem own_pd_1 : parseMethodDescriptor "()Z" = some ⟨[], some .boolean⟩ := by decide +kernel
def own_law_Q (n0 : Nat) (v : Option Value) (h : Heap) (L : List Loc) : Prop := v = some (.int 1) ∧ Fr n0 L
theorem own_pn_PaymentIsRefundedPinLaw : plainName "com/example/acquirer/acquirer/PaymentIsRefundedPinLaw" = true := by first | (simp [plainName, overriddenIn]; done) | decide +kernel
theorem own_law_ef (m : MethodId) (q1 : Int64) (q2 : Int64) (q3 : Int64) (q4 : Int64) (p5 : Int32) : entryFrame m #[(.long q1), (.long q2), (.long q3), (.long q4), (.int p5)] maxLocals = mkF m 0 #[.val (.long q1), .second, .val (.long q2), .second, .val (.long q3), .second, .val (.long q4), .second, .val (.int p5), .unset, .unset, .unset, .unset, .unset, .unset, .unset, .unset] [] := by first | (simp [entryFrame, mkF, argsToLocals, Value.category, maxLocals]; done) | rfl
set_option maxRecDepth 65536 in
set_option maxHeartbeats 40000000 in
theorem own_law (l : Launch) (Z : State) (a0 : Array Value) (hw : ∀ d ∈ tables_1, d.before a0 Z = true) (ws : List Jvm.Cond) (q1 : Int64) (q2 : Int64) (q3 : Int64) (q4 : Int64) (p5 : Int32) (h0 : Heap) (n0 : Nat) (Z0 : n0 ≤ h0.size)  :
    MetFree l x (head1 (Jvm.Cond.code x code maxLocals ret :: ws) room_1) (fun a U => a = #[(.long q1), (.long q2), (.long q3), (.long q4), (.int p5)] ∧ Z.Warmed39 U.vm ∧ U.heap = h0) (fun _ _ _ _ _ => True) (fun _ U o U' => ∃ v L, o = .returned v ∧ own_law_Q n0 v U'.heap L ∧ ReturnedEndW U o U' L room_1.cells room_1.slots) := by
  refine MetFree.of_bodySF (plainFor_of_name own_pn_PaymentIsRefundedPinLaw) hisR ?_
  intro p e s m args below meth c s₁ Bd hml0 hP hK
  obtain ⟨rfl, hZ, hh⟩ := hP
  have hx := Bd.exec
  have hby := Bd.bytes
  have hml : c.maxLocals = 17 := hml0
  have hown : s.vm.findClass "com/example/acquirer/acquirer/PaymentIsRefundedPinLaw" = some m.cls := findClass_of_methodNamed Bd.named
  have hnm := (name_of_methodNamed Bd.named Bd.method).1
  have X0 : Stand p l e room_1 s m #[(.long q1), (.long q2), (.long q3), (.long q4), (.int p5)] below meth c s₁ [] 0 0 := Stand.of_body Bd
  have e0 : s₁.heap = h0 := by rw [← hh, Bd.state]; rfl
  show own_E p e below (own_KW (own_law_Q n0) s room_1.cells room_1.slots) s₁ (entryFrame m #[(.long q1), (.long q2), (.long q3), (.long q4), (.int p5)] maxLocals)
  refine own_pre (own_law_ef m q1 q2 q3 q4 p5) ?_
  show own_E p e below _ s₁ (mkF m 0 #[.val (.long q1), .second, .val (.long q2), .second, .val (.long q3), .second, .val (.long q4), .second, iv p5, .unset, .unset, .unset, .unset, .unset, .unset, .unset, .unset] [])
  refine own_st (fun t k => XS.iload X0.here hx rfl (hb hby at_0) rfl k) ?_
  show own_E p e below _ s₁ (mkF m 2 #[.val (.long q1), .second, .val (.long q2), .second, .val (.long q3), .second, .val (.long q4), .second, iv p5, .unset, .unset, .unset, .unset, .unset, .unset, .unset, .unset] [.int p5])
  refine own_st (fun t k => XS.iconst X0.here hx rfl (hb hby at_2) k) ?_
  show own_E p e below _ s₁ (mkF m 3 #[.val (.long q1), .second, .val (.long q2), .second, .val (.long q3), .second, .val (.long q4), .second, iv p5, .unset, .unset, .unset, .unset, .unset, .unset, .unset, .unset] [.int 3, .int p5])
  refine own_st (fun t k => XS.iand X0.here hx rfl (hb hby at_3) rfl k) ?_
  show own_E p e below _ s₁ (mkF m 4 #[.val (.long q1), .second, .val (.long q2), .second, .val (.long q3), .second, .val (.long q4), .second, iv p5, .unset, .unset, .unset, .unset, .unset, .unset, .unset, .unset] [.int (p5 &&& (3 : Int32))])
  refine own_st (fun t k => XS.istore X0.here hx rfl (hb hby at_4) rfl (l' := #[.val (.long q1), .second, .val (.long q2), .second, .val (.long q3), .second, .val (.long q4), .second, iv p5, iv (p5 &&& (3 : Int32)), .unset, .unset, .unset, .unset, .unset, .unset, .unset]) rfl k) ?_
  show own_E p e below _ s₁ (mkF m 6 #[.val (.long q1), .second, .val (.long q2), .second, .val (.long q3), .second, .val (.long q4), .second, iv p5, iv (p5 &&& (3 : Int32)), .unset, .unset, .unset, .unset, .unset, .unset, .unset] [])
  refine own_st (fun t k => XS.iload X0.here hx rfl (hb hby at_6) rfl k) ?_
  show own_E p e below _ s₁ (mkF m 8 #[.val (.long q1), .second, .val (.long q2), .second, .val (.long q3), .second, .val (.long q4), .second, iv p5, iv (p5 &&& (3 : Int32)), .unset, .unset, .unset, .unset, .unset, .unset, .unset] [.int (p5 &&& (3 : Int32))])
  by_cases hc1 : (p5 &&& (3 : Int32)) = (0 : Int32)
  · refine own_st (fun t k => XS.ifNo X0.here hx rfl (hb hby at_8) rfl ((if0 _ _).trans (teq hc1).2) k) ?_
    show own_E p e below _ s₁ (mkF m 11 #[.val (.long q1), .second, .val (.long q2), .second, .val (.long q3), .second, .val (.long q4), .second, iv p5, iv (p5 &&& (3 : Int32)), .unset, .unset, .unset, .unset, .unset, .unset, .unset] [])
    refine own_st (fun t k => XS.lloadN X0.here hx rfl (hb hby at_11) rfl k) ?_
    show own_E p e below _ s₁ (mkF m 12 #[.val (.long q1), .second, .val (.long q2), .second, .val (.long q3), .second, .val (.long q4), .second, iv p5, iv (p5 &&& (3 : Int32)), .unset, .unset, .unset, .unset, .unset, .unset, .unset] [.long q1])
    refine own_st (fun t k => XS.lstore X0.here hx rfl (hb hby at_12) rfl (l' := #[.val (.long q1), .second, .val (.long q2), .second, .val (.long q3), .second, .val (.long q4), .second, iv p5, iv (p5 &&& (3 : Int32)), .val (.long q1), .second, .unset, .unset, .unset, .unset, .unset]) rfl k) ?_
    show own_E p e below _ s₁ (mkF m 14 #[.val (.long q1), .second, .val (.long q2), .second, .val (.long q3), .second, .val (.long q4), .second, iv p5, iv (p5 &&& (3 : Int32)), .val (.long q1), .second, .unset, .unset, .unset, .unset, .unset] [])
    refine own_st (fun t k => XS.lloadN X0.here hx rfl (hb hby at_14) rfl k) ?_
    show own_E p e below _ s₁ (mkF m 15 #[.val (.long q1), .second, .val (.long q2), .second, .val (.long q3), .second, .val (.long q4), .second, iv p5, iv (p5 &&& (3 : Int32)), .val (.long q1), .second, .unset, .unset, .unset, .unset, .unset] [.long q1])
    refine own_st (fun t k => XS.lstore X0.here hx rfl (hb hby at_15) rfl (l' := #[.val (.long q1), .second, .val (.long q2), .second, .val (.long q3), .second, .val (.long q4), .second, iv p5, iv (p5 &&& (3 : Int32)), .val (.long q1), .second, .val (.long q1), .second, .unset, .unset, .unset]) rfl k) ?_
    show own_E p e below _ s₁ (mkF m 17 #[.val (.long q1), .second, .val (.long q2), .second, .val (.long q3), .second, .val (.long q4), .second, iv p5, iv (p5 &&& (3 : Int32)), .val (.long q1), .second, .val (.long q1), .second, .unset, .unset, .unset] [])
    refine own_st (fun t k => XS.lloadN X0.here hx rfl (hb hby at_17) rfl k) ?_
    show own_E p e below _ s₁ (mkF m 18 #[.val (.long q1), .second, .val (.long q2), .second, .val (.long q3), .second, .val (.long q4), .second, iv p5, iv (p5 &&& (3 : Int32)), .val (.long q1), .second, .val (.long q1), .second, .unset, .unset, .unset] [.long q1])
    refine own_st (fun t k => XS.lconst X0.here hx rfl (hb hby at_18) k) ?_
    show own_E p e below _ s₁ (mkF m 19 #[.val (.long q1), .second, .val (.long q2), .second, .val (.long q3), .second, .val (.long q4), .second, iv p5, iv (p5 &&& (3 : Int32)), .val (.long q1), .second, .val (.long q1), .second, .unset, .unset, .unset] [.long 0, .long q1])
    refine own_st (fun t k => XS.lcmp X0.here hx rfl (hb hby at_19) rfl k) ?_
    show own_E p e below _ s₁ (mkF m 20 #[.val (.long q1), .second, .val (.long q2), .second, .val (.long q3), .second, .val (.long q4), .second, iv p5, iv (p5 &&& (3 : Int32)), .val (.long q1), .second, .val (.long q1), .second, .unset, .unset, .unset] [.int (lcmpW q1 (0 : Int64))])
    by_cases hc2 : (0 : Int64) < q1
    · refine own_st (fun t k => XS.ifNo X0.here hx rfl (hb hby at_20) rfl ((if0 _ _).trans (tlt ((lw_gt _ _).mpr hc2)).2.2.2) k) ?_
      show own_E p e below _ s₁ (mkF m 23 #[.val (.long q1), .second, .val (.long q2), .second, .val (.long q3), .second, .val (.long q4), .second, iv p5, iv (p5 &&& (3 : Int32)), .val (.long q1), .second, .val (.long q1), .second, .unset, .unset, .unset] [])
      refine own_st (fun t k => XS.iconst X0.here hx rfl (hb hby at_23) k) ?_
      show own_E p e below _ s₁ (mkF m 24 #[.val (.long q1), .second, .val (.long q2), .second, .val (.long q3), .second, .val (.long q4), .second, iv p5, iv (p5 &&& (3 : Int32)), .val (.long q1), .second, .val (.long q1), .second, .unset, .unset, .unset] [.int 1])
      refine own_st (fun t k => XS.goto X0.here hx rfl (pc0 := 24) (pc' := 28) rfl (hb hby at_24) (by decide) (by decide) k) ?_
      show own_E p e below _ s₁ (mkF m 28 #[.val (.long q1), .second, .val (.long q2), .second, .val (.long q3), .second, .val (.long q4), .second, iv p5, iv (p5 &&& (3 : Int32)), .val (.long q1), .second, .val (.long q1), .second, .unset, .unset, .unset] [.int 1])
      refine own_st (fun t k => XS.istore X0.here hx rfl (hb hby at_28) rfl (l' := #[.val (.long q1), .second, .val (.long q2), .second, .val (.long q3), .second, .val (.long q4), .second, iv p5, iv (p5 &&& (3 : Int32)), .val (.long q1), .second, .val (.long q1), .second, iv 1, .unset, .unset]) rfl k) ?_
      show own_E p e below _ s₁ (mkF m 30 #[.val (.long q1), .second, .val (.long q2), .second, .val (.long q3), .second, .val (.long q4), .second, iv p5, iv (p5 &&& (3 : Int32)), .val (.long q1), .second, .val (.long q1), .second, iv 1, .unset, .unset] [])
      refine own_st (fun t k => XS.goto X0.here hx rfl (pc0 := 30) (pc' := 86) rfl (hb hby at_30) (by decide) (by decide) k) ?_
      show own_E p e below _ s₁ (mkF m 86 #[.val (.long q1), .second, .val (.long q2), .second, .val (.long q3), .second, .val (.long q4), .second, iv p5, iv (p5 &&& (3 : Int32)), .val (.long q1), .second, .val (.long q1), .second, iv 1, .unset, .unset] [])
      refine own_st (fun t k => XS.iload X0.here hx rfl (hb hby at_86) rfl k) ?_
      show own_E p e below _ s₁ (mkF m 88 #[.val (.long q1), .second, .val (.long q2), .second, .val (.long q3), .second, .val (.long q4), .second, iv p5, iv (p5 &&& (3 : Int32)), .val (.long q1), .second, .val (.long q1), .second, iv 1, .unset, .unset] [.int p5])
      refine own_st (fun t k => XS.iconst X0.here hx rfl (hb hby at_88) k) ?_
      show own_E p e below _ s₁ (mkF m 89 #[.val (.long q1), .second, .val (.long q2), .second, .val (.long q3), .second, .val (.long q4), .second, iv p5, iv (p5 &&& (3 : Int32)), .val (.long q1), .second, .val (.long q1), .second, iv 1, .unset, .unset] [.int 2, .int p5])
      refine own_st (fun t k => XS.iushr X0.here hx rfl (hb hby at_89) rfl k) ?_
      show own_E p e below _ s₁ (mkF m 90 #[.val (.long q1), .second, .val (.long q2), .second, .val (.long q3), .second, .val (.long q4), .second, iv p5, iv (p5 &&& (3 : Int32)), .val (.long q1), .second, .val (.long q1), .second, iv 1, .unset, .unset] [.int ((p5.toUInt32 >>> ((2 : Int32) &&& 31).toUInt32).toInt32)])
      refine own_st (fun t k => XS.iconst X0.here hx rfl (hb hby at_90) k) ?_
      show own_E p e below _ s₁ (mkF m 91 #[.val (.long q1), .second, .val (.long q2), .second, .val (.long q3), .second, .val (.long q4), .second, iv p5, iv (p5 &&& (3 : Int32)), .val (.long q1), .second, .val (.long q1), .second, iv 1, .unset, .unset] [.int 1, .int ((p5.toUInt32 >>> ((2 : Int32) &&& 31).toUInt32).toInt32)])
      refine own_st (fun t k => XS.iand X0.here hx rfl (hb hby at_91) rfl k) ?_
      show own_E p e below _ s₁ (mkF m 92 #[.val (.long q1), .second, .val (.long q2), .second, .val (.long q3), .second, .val (.long q4), .second, iv p5, iv (p5 &&& (3 : Int32)), .val (.long q1), .second, .val (.long q1), .second, iv 1, .unset, .unset] [.int (((p5.toUInt32 >>> ((2 : Int32) &&& 31).toUInt32).toInt32) &&& (1 : Int32))])
      by_cases hc3 : (((p5.toUInt32 >>> ((2 : Int32) &&& 31).toUInt32).toInt32) &&& (1 : Int32)) = (0 : Int32)
      · refine own_st (fun t k => XS.ifYes X0.here hx rfl (pc0 := 92) (pc' := 100) rfl (hb hby at_92) rfl ((if0 _ _).trans (teq hc3).1) (by decide) (by decide) k) ?_
        show own_E p e below _ s₁ (mkF m 100 #[.val (.long q1), .second, .val (.long q2), .second, .val (.long q3), .second, .val (.long q4), .second, iv p5, iv (p5 &&& (3 : Int32)), .val (.long q1), .second, .val (.long q1), .second, iv 1, .unset, .unset] [])
        obtain ⟨b4, T4, h4, k4, X4, e4, E4, hS4, hk4, hZ4, ho4, st4⟩ := ldcS (s := s) (vm0 := s.vm) X0 hx hZ hown (own_w hw 0 rfl) (own_wS hw) e0 (own_since s) (Nat.zero_le _) (g := (mkF m 100 #[.val (.long q1), .second, .val (.long q2), .second, .val (.long q3), .second, .val (.long q4), .second, iv p5, iv (p5 &&& (3 : Int32)), .val (.long q1), .second, .val (.long q1), .second, iv 1, .unset, .unset] [])) rfl (hb hby at_100) (n := 24) (by decide) (by decide) (by decide) (by decide)
        have Z5 := Nat.le_trans Z0 E4.1
        refine own_st st4 ?_
        show own_E p e below _ T4 (mkF m 102 #[.val (.long q1), .second, .val (.long q2), .second, .val (.long q3), .second, .val (.long q4), .second, iv p5, iv (p5 &&& (3 : Int32)), .val (.long q1), .second, .val (.long q1), .second, iv 1, .unset, .unset] [.ref b4])
        refine own_st (fun t k => XS.astore X4.here hx rfl (hb hby at_102) rfl rfl (l' := #[.val (.long q1), .second, .val (.long q2), .second, .val (.long q3), .second, .val (.long q4), .second, iv p5, iv (p5 &&& (3 : Int32)), .val (.long q1), .second, .val (.long q1), .second, iv 1, rv b4, .unset]) rfl k) ?_
        show own_E p e below _ T4 (mkF m 104 #[.val (.long q1), .second, .val (.long q2), .second, .val (.long q3), .second, .val (.long q4), .second, iv p5, iv (p5 &&& (3 : Int32)), .val (.long q1), .second, .val (.long q1), .second, iv 1, rv b4, .unset] [])
        obtain ⟨T6, h6, X6, e6, E6, A6, D6, -, st6⟩ := newO X4 hx hZ4 ho4 (own_w hw 8 rfl) (own_w hw 9 rfl) (own_w hw 10 rfl) e4 (g := (mkF m 104 #[.val (.long q1), .second, .val (.long q2), .second, .val (.long q3), .second, .val (.long q4), .second, iv p5, iv (p5 &&& (3 : Int32)), .val (.long q1), .second, .val (.long q1), .second, iv 1, rv b4, .unset] [])) rfl (hb hby at_104) (by decide) (by decide)
        obtain ⟨b6, g6⟩ : ∃ z, z = h4.size := ⟨_, rfl⟩
        rw [← g6] at A6 D6 st6
        have g_b6 : n0 ≤ b6 := Nat.le_trans Z5 (Nat.le_of_eq g6.symm)
        have Z7 := Nat.le_trans Z5 E6.1
        have hk8 := Nat.le_trans hk4 E6.1
        have F_id_b6 : Fld Z h6 b6 "com/example/acquirer/acquirer/Payment" "id" "Ljava/lang/String;" .null := D6 (Or.inr (own_w hw 24 rfl)) (ty := (.object "java/lang/String")) (by decide)
        have F_session_b6 : Fld Z h6 b6 "com/example/acquirer/acquirer/Payment" "session" "Ljava/lang/String;" .null := D6 (Or.inr (own_w hw 26 rfl)) (ty := (.object "java/lang/String")) (by decide)
        have F_created_b6 : Fld Z h6 b6 "com/example/acquirer/acquirer/Payment" "created" "J" (.long (0 : Int64)) := D6 (Or.inr (own_w hw 28 rfl)) (ty := .long) (by decide)
        have F_amount_b6 : Fld Z h6 b6 "com/example/acquirer/acquirer/Payment" "amount" "J" (.long (0 : Int64)) := D6 (Or.inr (own_w hw 30 rfl)) (ty := .long) (by decide)
        have F_amountCaptured_b6 : Fld Z h6 b6 "com/example/acquirer/acquirer/Payment" "amountCaptured" "J" (.long (0 : Int64)) := D6 (Or.inr (own_w hw 32 rfl)) (ty := .long) (by decide)
        have F_amountRefunded_b6 : Fld Z h6 b6 "com/example/acquirer/acquirer/Payment" "amountRefunded" "J" (.long (0 : Int64)) := D6 (Or.inr (own_w hw 34 rfl)) (ty := .long) (by decide)
        have F_currency_b6 : Fld Z h6 b6 "com/example/acquirer/acquirer/Payment" "currency" "Ljava/lang/String;" .null := D6 (Or.inr (own_w hw 36 rfl)) (ty := (.object "java/lang/String")) (by decide)
        have F_status_b6 : Fld Z h6 b6 "com/example/acquirer/acquirer/Payment" "status" "Ljava/lang/String;" .null := D6 (Or.inr (own_w hw 38 rfl)) (ty := (.object "java/lang/String")) (by decide)
        have F_gateway_b6 : Fld Z h6 b6 "com/example/acquirer/acquirer/Payment" "gateway" "Ljava/lang/String;" .null := D6 (Or.inr (own_w hw 40 rfl)) (ty := (.object "java/lang/String")) (by decide)
        have F_card_b6 : Fld Z h6 b6 "com/example/acquirer/acquirer/Payment" "card" "Lcom/example/acquirer/acquirer/Card;" .null := D6 (Or.inr (own_w hw 42 rfl)) (ty := (.object "com/example/acquirer/acquirer/Card")) (by decide)
        have F_approval_b6 : Fld Z h6 b6 "com/example/acquirer/acquirer/Payment" "approval" "Lcom/example/acquirer/acquirer/Approval;" .null := D6 (Or.inr (own_w hw 44 rfl)) (ty := (.object "com/example/acquirer/acquirer/Approval")) (by decide)
        have F_lastError_b6 : Fld Z h6 b6 "com/example/acquirer/acquirer/Payment" "lastError" "Ljava/lang/String;" .null := D6 (Or.inr (own_w hw 46 rfl)) (ty := (.object "java/lang/String")) (by decide)
        refine own_st st6 ?_
        show own_E p e below _ T6 (mkF m 107 #[.val (.long q1), .second, .val (.long q2), .second, .val (.long q3), .second, .val (.long q4), .second, iv p5, iv (p5 &&& (3 : Int32)), .val (.long q1), .second, .val (.long q1), .second, iv 1, rv b4, .unset] [.ref b6])
        refine own_st (fun t k => XS.dup X6.here hx rfl (hb hby at_107) rfl rfl k) ?_
        show own_E p e below _ T6 (mkF m 108 #[.val (.long q1), .second, .val (.long q2), .second, .val (.long q3), .second, .val (.long q4), .second, iv p5, iv (p5 &&& (3 : Int32)), .val (.long q1), .second, .val (.long q1), .second, iv 1, rv b4, .unset] [.ref b6, .ref b6])
        refine own_st (fun t k => XS.aconstNull X6.here hx rfl (hb hby at_108) k) ?_
        show own_E p e below _ T6 (mkF m 109 #[.val (.long q1), .second, .val (.long q2), .second, .val (.long q3), .second, .val (.long q4), .second, iv p5, iv (p5 &&& (3 : Int32)), .val (.long q1), .second, .val (.long q1), .second, iv 1, rv b4, .unset] [.null, .ref b6, .ref b6])
        refine own_st (fun t k => XS.aconstNull X6.here hx rfl (hb hby at_109) k) ?_
        show own_E p e below _ T6 (mkF m 110 #[.val (.long q1), .second, .val (.long q2), .second, .val (.long q3), .second, .val (.long q4), .second, iv p5, iv (p5 &&& (3 : Int32)), .val (.long q1), .second, .val (.long q1), .second, iv 1, rv b4, .unset] [.null, .null, .ref b6, .ref b6])
        refine own_st (fun t k => XS.lload X6.here hx rfl (hb hby at_110) rfl k) ?_
        show own_E p e below _ T6 (mkF m 112 #[.val (.long q1), .second, .val (.long q2), .second, .val (.long q3), .second, .val (.long q4), .second, iv p5, iv (p5 &&& (3 : Int32)), .val (.long q1), .second, .val (.long q1), .second, iv 1, rv b4, .unset] [.long q4, .null, .null, .ref b6, .ref b6])
        refine own_st (fun t k => XS.lload X6.here hx rfl (hb hby at_112) rfl k) ?_
        show own_E p e below _ T6 (mkF m 114 #[.val (.long q1), .second, .val (.long q2), .second, .val (.long q3), .second, .val (.long q4), .second, iv p5, iv (p5 &&& (3 : Int32)), .val (.long q1), .second, .val (.long q1), .second, iv 1, rv b4, .unset] [.long q3, .long q4, .null, .null, .ref b6, .ref b6])
        refine own_st (fun t k => XS.lload X6.here hx rfl (hb hby at_114) rfl k) ?_
        show own_E p e below _ T6 (mkF m 116 #[.val (.long q1), .second, .val (.long q2), .second, .val (.long q3), .second, .val (.long q4), .second, iv p5, iv (p5 &&& (3 : Int32)), .val (.long q1), .second, .val (.long q1), .second, iv 1, rv b4, .unset] [.long q1, .long q3, .long q4, .null, .null, .ref b6, .ref b6])
        refine own_st (fun t k => XS.lload X6.here hx rfl (hb hby at_116) rfl k) ?_
        show own_E p e below _ T6 (mkF m 118 #[.val (.long q1), .second, .val (.long q2), .second, .val (.long q3), .second, .val (.long q4), .second, iv p5, iv (p5 &&& (3 : Int32)), .val (.long q1), .second, .val (.long q1), .second, iv 1, rv b4, .unset] [.long q1, .long q1, .long q3, .long q4, .null, .null, .ref b6, .ref b6])
        obtain ⟨b9, T9, h9, k9, X9, e9, E9, hS9, hk9, hZ9, ho9, st9⟩ := ldcS (s := s) (vm0 := T4.vm) X6 hx hZ4 ho4 (own_w hw 11 rfl) (own_wS hw) e6 hS4 hk8 (g := (mkF m 118 #[.val (.long q1), .second, .val (.long q2), .second, .val (.long q3), .second, .val (.long q4), .second, iv p5, iv (p5 &&& (3 : Int32)), .val (.long q1), .second, .val (.long q1), .second, iv 1, rv b4, .unset] [.long q1, .long q1, .long q3, .long q4, .null, .null, .ref b6, .ref b6])) rfl (hb hby at_118) (n := 12) (by decide) (by decide) (by decide) (by decide)
        have Z10 := Nat.le_trans Z7 E9.1
        have hk11 := Nat.le_trans hk8 E9.1
        refine own_st st9 ?_
        show own_E p e below _ T9 (mkF m 120 #[.val (.long q1), .second, .val (.long q2), .second, .val (.long q3), .second, .val (.long q4), .second, iv p5, iv (p5 &&& (3 : Int32)), .val (.long q1), .second, .val (.long q1), .second, iv 1, rv b4, .unset] [.ref b9, .long q1, .long q1, .long q3, .long q4, .null, .null, .ref b6, .ref b6])
        refine own_st (fun t k => XS.aload X9.here hx rfl (hb hby at_120) rfl rfl k) ?_
        show own_E p e below _ T9 (mkF m 122 #[.val (.long q1), .second, .val (.long q2), .second, .val (.long q3), .second, .val (.long q4), .second, iv p5, iv (p5 &&& (3 : Int32)), .val (.long q1), .second, .val (.long q1), .second, iv 1, rv b4, .unset] [.ref b4, .ref b9, .long q1, .long q1, .long q3, .long q4, .null, .null, .ref b6, .ref b6])
        refine own_st (fun t k => XS.aconstNull X9.here hx rfl (hb hby at_122) k) ?_
        show own_E p e below _ T9 (mkF m 123 #[.val (.long q1), .second, .val (.long q2), .second, .val (.long q3), .second, .val (.long q4), .second, iv p5, iv (p5 &&& (3 : Int32)), .val (.long q1), .second, .val (.long q1), .second, iv 1, rv b4, .unset] [.null, .ref b4, .ref b9, .long q1, .long q1, .long q3, .long q4, .null, .null, .ref b6, .ref b6])
        refine own_st (fun t k => XS.aconstNull X9.here hx rfl (hb hby at_123) k) ?_
        show own_E p e below _ T9 (mkF m 124 #[.val (.long q1), .second, .val (.long q2), .second, .val (.long q3), .second, .val (.long q4), .second, iv p5, iv (p5 &&& (3 : Int32)), .val (.long q1), .second, .val (.long q1), .second, iv 1, rv b4, .unset] [.null, .null, .ref b4, .ref b9, .long q1, .long q1, .long q3, .long q4, .null, .null, .ref b6, .ref b6])
        refine own_st (fun t k => XS.aconstNull X9.here hx rfl (hb hby at_124) k) ?_
        show own_E p e below _ T9 (mkF m 125 #[.val (.long q1), .second, .val (.long q2), .second, .val (.long q3), .second, .val (.long q4), .second, iv p5, iv (p5 &&& (3 : Int32)), .val (.long q1), .second, .val (.long q1), .second, iv 1, rv b4, .unset] [.null, .null, .null, .ref b4, .ref b9, .long q1, .long q1, .long q3, .long q4, .null, .null, .ref b6, .ref b6])
        refine own_st (fun t k => XS.aconstNull X9.here hx rfl (hb hby at_125) k) ?_
        show own_E p e below _ T9 (mkF m 126 #[.val (.long q1), .second, .val (.long q2), .second, .val (.long q3), .second, .val (.long q4), .second, iv p5, iv (p5 &&& (3 : Int32)), .val (.long q1), .second, .val (.long q1), .second, iv 1, rv b4, .unset] [.null, .null, .null, .null, .ref b4, .ref b9, .long q1, .long q1, .long q3, .long q4, .null, .null, .ref b6, .ref b6])
        have B12 := (A6.ext E9)
        have B13 := (F_id_b6.ext E9)
        have B14 := (F_session_b6.ext E9)
        have B15 := (F_created_b6.ext E9)
        have B16 := (F_amount_b6.ext E9)
        have B17 := (F_amountCaptured_b6.ext E9)
        have B18 := (F_amountRefunded_b6.ext E9)
        have B19 := (F_currency_b6.ext E9)
        have B20 := (F_status_b6.ext E9)
        have B21 := (F_gateway_b6.ext E9)
        have B22 := (F_card_b6.ext E9)
        have B23 := (F_approval_b6.ext E9)
        have B24 := (F_lastError_b6.ext E9)
        obtain ⟨_, _, ⟨T25, L25, k25, n25⟩, -, X25, ⟨Lc25, hQ25, l25, y25, z25⟩, st25⟩ := X9.specialBack hx (y := own_y1) rfl ho9 (mvT hZ9 (own_w hw 12 rfl)) (mvT hZ9 (own_w hw 13 rfl)) (mvT hZ9 (own_w hw 14 rfl)) (by decide) (backOf (W := 1) (own_init l Z a0 hw [] b6 b9 b4 q4 q3 q1 q1 h9 n0 Z10 B12 B13 B14 B15 B16 B17 B18 B19 B20 B21 B22 B23 B24 g_b6) hZ9 (own_w hw 14 rfl) (own_w hw 10 rfl) (by decide) (by decide)) (g := (mkF m 126 #[.val (.long q1), .second, .val (.long q2), .second, .val (.long q3), .second, .val (.long q4), .second, iv p5, iv (p5 &&& (3 : Int32)), .val (.long q1), .second, .val (.long q1), .second, iv 1, rv b4, .unset] [.null, .null, .null, .null, .ref b4, .ref b9, .long q1, .long q1, .long q3, .long q4, .null, .null, .ref b6, .ref b6])) rfl (by rw [hml]; rfl) (Steps.refl _) (a := b6) (argsL := [.null, .null, (.long q4), (.long q3), (.long q1), (.long q1), (.ref b9), (.ref b4), .null, .null, .null, .null]) (rest := [(.ref b6)]) (lenOf own_pd_3 rfl) rfl (by show 2 * 0 + _ ≤ _; exact Nat.le_of_eq rfl) (hb hby at_126) (fun _ _ => ⟨rfl, e9, (by decide : 5 + 0 ≤ _), (by decide : 56 + 0 ≤ _)⟩)
        dsimp only [Pt.U, Pt.locs, Pt.cells, Pt.slots] at X25 l25 y25 z25 st25 hQ25
        subst l25 y25 z25
        obtain ⟨rfl, Nq25, Kq25, P25_0, P25_1, P25_2⟩ := hQ25
        have N25 := Fr.app (Fr.nil n0) Nq25
        have e25 : T25.heap = T25.heap := rfl
        have Z26 := Nat.le_trans Z10 Kq25.1
        have hk27 := Nat.le_trans hk9 Kq25.1
        refine own_tr st25 ?_
        show own_E p e below _ T25 (mkF m 129 #[.val (.long q1), .second, .val (.long q2), .second, .val (.long q3), .second, .val (.long q4), .second, iv p5, iv (p5 &&& (3 : Int32)), .val (.long q1), .second, .val (.long q1), .second, iv 1, rv b4, .unset] [.ref b6])
        refine own_st (fun t k => XS.astore X25.here hx rfl (hb hby at_129) rfl rfl (l' := #[.val (.long q1), .second, .val (.long q2), .second, .val (.long q3), .second, .val (.long q4), .second, iv p5, iv (p5 &&& (3 : Int32)), .val (.long q1), .second, .val (.long q1), .second, iv 1, rv b4, rv b6]) rfl k) ?_
        show own_E p e below _ T25 (mkF m 131 #[.val (.long q1), .second, .val (.long q2), .second, .val (.long q3), .second, .val (.long q4), .second, iv p5, iv (p5 &&& (3 : Int32)), .val (.long q1), .second, .val (.long q1), .second, iv 1, rv b4, rv b6] [])
        refine own_st (fun t k => XS.aload X25.here hx rfl (hb hby at_131) rfl rfl k) ?_
        show own_E p e below _ T25 (mkF m 133 #[.val (.long q1), .second, .val (.long q2), .second, .val (.long q3), .second, .val (.long q4), .second, iv p5, iv (p5 &&& (3 : Int32)), .val (.long q1), .second, .val (.long q1), .second, iv 1, rv b4, rv b6] [.ref b6])
        obtain ⟨cq28, kq28, q28a, q28b, q28c⟩ := isOf hZ9 e25 P25_0
        obtain ⟨_, _, ⟨T28, L28, k28, n28⟩, -, X28, ⟨Lc28, hQ28, l28, y28, z28⟩, st28⟩ := X25.virtualBack hx (y := own_y2) (z := own_y2) ho9 (mvT hZ9 (own_w hw 47 rfl)) (mvT hZ9 (own_w hw 48 rfl)) (notFace_of_selects (args := #[]) (mvT hZ9 (own_w hw 50 rfl))) (mvT hZ9 (own_w hw 50 rfl)) (mvT hZ9 (own_w hw 49 rfl)) (by decide) (backOf (W := 0) (own_isref l Z a0 hw [] b6 q1 q1 T25.heap n0 Z26 P25_1 P25_2) hZ9 (own_w hw 51 rfl) (own_w hw 10 rfl) (by decide) (by decide)) q28a q28c (g := (mkF m 133 #[.val (.long q1), .second, .val (.long q2), .second, .val (.long q3), .second, .val (.long q4), .second, iv p5, iv (p5 &&& (3 : Int32)), .val (.long q1), .second, .val (.long q1), .second, iv 1, rv b4, rv b6] [.ref b6])) rfl (by rw [hml]; rfl) (Steps.refl _) (argsL := []) (rest := []) (lenOf own_pd_1 rfl) rfl (by show 2 * 0 + _ ≤ _; exact Nat.le_of_eq rfl) (hb hby at_133) (fun _ _ => ⟨rfl, e25, (by decide : 5 + 0 ≤ _), (by decide : 56 + 0 ≤ _)⟩)
        dsimp only [Pt.U, Pt.locs, Pt.cells, Pt.slots] at X28 l28 y28 z28 st28 hQ28
        subst l28 y28 z28
        obtain ⟨hR28, e28, rfl⟩ := hQ28
        have N28 := Fr.app N25 (Fr.nil n0)
        rcases hR28 with ⟨rfl, ha28_0, ha28_1⟩ | ⟨rfl, ha28_0, ha28_1⟩ | ⟨rfl, ha28_0⟩
        · refine own_tr st28 ?_
          show own_E p e below _ T28 (mkF m 136 #[.val (.long q1), .second, .val (.long q2), .second, .val (.long q3), .second, .val (.long q4), .second, iv p5, iv (p5 &&& (3 : Int32)), .val (.long q1), .second, .val (.long q1), .second, iv 1, rv b4, rv b6] [.int 1])
          refine own_st (fun t k => XS.iload X28.here hx rfl (hb hby at_136) rfl k) ?_
          show own_E p e below _ T28 (mkF m 138 #[.val (.long q1), .second, .val (.long q2), .second, .val (.long q3), .second, .val (.long q4), .second, iv p5, iv (p5 &&& (3 : Int32)), .val (.long q1), .second, .val (.long q1), .second, iv 1, rv b4, rv b6] [.int 1, .int 1])
          refine own_st (fun t k => XS.icmpNo X28.here hx rfl (hb hby at_138) rfl (by decide) k) ?_
          show own_E p e below _ T28 (mkF m 141 #[.val (.long q1), .second, .val (.long q2), .second, .val (.long q3), .second, .val (.long q4), .second, iv p5, iv (p5 &&& (3 : Int32)), .val (.long q1), .second, .val (.long q1), .second, iv 1, rv b4, rv b6] [])
          refine own_st (fun t k => XS.iconst X28.here hx rfl (hb hby at_141) k) ?_
          show own_E p e below _ T28 (mkF m 142 #[.val (.long q1), .second, .val (.long q2), .second, .val (.long q3), .second, .val (.long q4), .second, iv p5, iv (p5 &&& (3 : Int32)), .val (.long q1), .second, .val (.long q1), .second, iv 1, rv b4, rv b6] [.int 1])
          refine own_st (fun t k => XS.goto X28.here hx rfl (pc0 := 142) (pc' := 146) rfl (hb hby at_142) (by decide) (by decide) k) ?_
          show own_E p e below _ T28 (mkF m 146 #[.val (.long q1), .second, .val (.long q2), .second, .val (.long q3), .second, .val (.long q4), .second, iv p5, iv (p5 &&& (3 : Int32)), .val (.long q1), .second, .val (.long q1), .second, iv 1, rv b4, rv b6] [.int 1])
          refine own_retSW X28 hS9 (by rw [e28]; exact hk27) hx Bd.notSynchronized Bd.returns rfl (by decide) (hb hby at_146) (by decide) (by decide) ?_
          exact ⟨rfl, N28⟩
        · exfalso
          have f29 := rng32 p5
          have f30 : (3 : Int32).toInt = 3 := rfl
          have f31 := rng32 (p5 &&& (3 : Int32))
          have f32 : (p5 &&& (3 : Int32)).toInt = p5.toInt % 4 := c_mask p5 (3 : Int32) 2 (by decide) (by decide)
          have f33 : (0 : Int32).toInt = 0 := rfl
          have f34 : (0 : Int64).toInt = 0 := rfl
          have f35 := rng64 q1
          have f36 : (2 : Int32).toInt = 2 := rfl
          have f37 := rng32 ((p5.toUInt32 >>> ((2 : Int32) &&& 31).toUInt32).toInt32)
          have f38 : ((p5.toUInt32 >>> ((2 : Int32) &&& 31).toUInt32).toInt32).toInt = (p5.toInt % 4294967296) / 4 := c_iushr p5 (2 : Int32) 2 (by decide) (by decide)
          have f39 : (1 : Int32).toInt = 1 := rfl
          have f40 := rng32 (((p5.toUInt32 >>> ((2 : Int32) &&& 31).toUInt32).toInt32) &&& (1 : Int32))
          have f41 : (((p5.toUInt32 >>> ((2 : Int32) &&& 31).toUInt32).toInt32) &&& (1 : Int32)).toInt = ((p5.toUInt32 >>> ((2 : Int32) &&& 31).toUInt32).toInt32).toInt % 2 := c_mask ((p5.toUInt32 >>> ((2 : Int32) &&& 31).toUInt32).toInt32) (1 : Int32) 1 (by decide) (by decide)
          have g42 := hc1
          rw [← Int32.toInt_inj] at g42
          have g43 := hc2
          rw [Int64.lt_iff_toInt_lt] at g43
          have g44 := hc3
          rw [← Int32.toInt_inj] at g44
          have g45 := ha28_1
          rw [← Int64.toInt_inj] at g45
          omega
        · exact absurd hc2 ha28_0
      · refine own_st (fun t k => XS.ifNo X0.here hx rfl (hb hby at_92) rfl ((if0 _ _).trans (feq hc3).1) k) ?_
        show own_E p e below _ s₁ (mkF m 95 #[.val (.long q1), .second, .val (.long q2), .second, .val (.long q3), .second, .val (.long q4), .second, iv p5, iv (p5 &&& (3 : Int32)), .val (.long q1), .second, .val (.long q1), .second, iv 1, .unset, .unset] [])
        obtain ⟨b46, T46, h46, k46, X46, e46, E46, hS46, hk46, hZ46, ho46, st46⟩ := ldcS (s := s) (vm0 := s.vm) X0 hx hZ hown (own_w hw 52 rfl) (own_wS hw) e0 (own_since s) (Nat.zero_le _) (g := (mkF m 95 #[.val (.long q1), .second, .val (.long q2), .second, .val (.long q3), .second, .val (.long q4), .second, iv p5, iv (p5 &&& (3 : Int32)), .val (.long q1), .second, .val (.long q1), .second, iv 1, .unset, .unset] [])) rfl (hb hby at_95) (n := 32) (by decide) (by decide) (by decide) (by decide)
        have Z47 := Nat.le_trans Z0 E46.1
        refine own_st st46 ?_
        show own_E p e below _ T46 (mkF m 97 #[.val (.long q1), .second, .val (.long q2), .second, .val (.long q3), .second, .val (.long q4), .second, iv p5, iv (p5 &&& (3 : Int32)), .val (.long q1), .second, .val (.long q1), .second, iv 1, .unset, .unset] [.ref b46])
        refine own_st (fun t k => XS.goto X46.here hx rfl (pc0 := 97) (pc' := 102) rfl (hb hby at_97) (by decide) (by decide) k) ?_
        show own_E p e below _ T46 (mkF m 102 #[.val (.long q1), .second, .val (.long q2), .second, .val (.long q3), .second, .val (.long q4), .second, iv p5, iv (p5 &&& (3 : Int32)), .val (.long q1), .second, .val (.long q1), .second, iv 1, .unset, .unset] [.ref b46])
        refine own_st (fun t k => XS.astore X46.here hx rfl (hb hby at_102) rfl rfl (l' := #[.val (.long q1), .second, .val (.long q2), .second, .val (.long q3), .second, .val (.long q4), .second, iv p5, iv (p5 &&& (3 : Int32)), .val (.long q1), .second, .val (.long q1), .second, iv 1, rv b46, .unset]) rfl k) ?_
        show own_E p e below _ T46 (mkF m 104 #[.val (.long q1), .second, .val (.long q2), .second, .val (.long q3), .second, .val (.long q4), .second, iv p5, iv (p5 &&& (3 : Int32)), .val (.long q1), .second, .val (.long q1), .second, iv 1, rv b46, .unset] [])
        obtain ⟨T48, h48, X48, e48, E48, A48, D48, -, st48⟩ := newO X46 hx hZ46 ho46 (own_w hw 8 rfl) (own_w hw 9 rfl) (own_w hw 10 rfl) e46 (g := (mkF m 104 #[.val (.long q1), .second, .val (.long q2), .second, .val (.long q3), .second, .val (.long q4), .second, iv p5, iv (p5 &&& (3 : Int32)), .val (.long q1), .second, .val (.long q1), .second, iv 1, rv b46, .unset] [])) rfl (hb hby at_104) (by decide) (by decide)
        obtain ⟨b48, g48⟩ : ∃ z, z = h46.size := ⟨_, rfl⟩
        rw [← g48] at A48 D48 st48
        have g_b48 : n0 ≤ b48 := Nat.le_trans Z47 (Nat.le_of_eq g48.symm)
        have Z49 := Nat.le_trans Z47 E48.1
        have hk50 := Nat.le_trans hk46 E48.1
        have F_id_b48 : Fld Z h48 b48 "com/example/acquirer/acquirer/Payment" "id" "Ljava/lang/String;" .null := D48 (Or.inr (own_w hw 24 rfl)) (ty := (.object "java/lang/String")) (by decide)
        have F_session_b48 : Fld Z h48 b48 "com/example/acquirer/acquirer/Payment" "session" "Ljava/lang/String;" .null := D48 (Or.inr (own_w hw 26 rfl)) (ty := (.object "java/lang/String")) (by decide)
        have F_created_b48 : Fld Z h48 b48 "com/example/acquirer/acquirer/Payment" "created" "J" (.long (0 : Int64)) := D48 (Or.inr (own_w hw 28 rfl)) (ty := .long) (by decide)
        have F_amount_b48 : Fld Z h48 b48 "com/example/acquirer/acquirer/Payment" "amount" "J" (.long (0 : Int64)) := D48 (Or.inr (own_w hw 30 rfl)) (ty := .long) (by decide)
        have F_amountCaptured_b48 : Fld Z h48 b48 "com/example/acquirer/acquirer/Payment" "amountCaptured" "J" (.long (0 : Int64)) := D48 (Or.inr (own_w hw 32 rfl)) (ty := .long) (by decide)
        have F_amountRefunded_b48 : Fld Z h48 b48 "com/example/acquirer/acquirer/Payment" "amountRefunded" "J" (.long (0 : Int64)) := D48 (Or.inr (own_w hw 34 rfl)) (ty := .long) (by decide)
        have F_currency_b48 : Fld Z h48 b48 "com/example/acquirer/acquirer/Payment" "currency" "Ljava/lang/String;" .null := D48 (Or.inr (own_w hw 36 rfl)) (ty := (.object "java/lang/String")) (by decide)
        have F_status_b48 : Fld Z h48 b48 "com/example/acquirer/acquirer/Payment" "status" "Ljava/lang/String;" .null := D48 (Or.inr (own_w hw 38 rfl)) (ty := (.object "java/lang/String")) (by decide)
        have F_gateway_b48 : Fld Z h48 b48 "com/example/acquirer/acquirer/Payment" "gateway" "Ljava/lang/String;" .null := D48 (Or.inr (own_w hw 40 rfl)) (ty := (.object "java/lang/String")) (by decide)
        have F_card_b48 : Fld Z h48 b48 "com/example/acquirer/acquirer/Payment" "card" "Lcom/example/acquirer/acquirer/Card;" .null := D48 (Or.inr (own_w hw 42 rfl)) (ty := (.object "com/example/acquirer/acquirer/Card")) (by decide)
        have F_approval_b48 : Fld Z h48 b48 "com/example/acquirer/acquirer/Payment" "approval" "Lcom/example/acquirer/acquirer/Approval;" .null := D48 (Or.inr (own_w hw 44 rfl)) (ty := (.object "com/example/acquirer/acquirer/Approval")) (by decide)
        have F_lastError_b48 : Fld Z h48 b48 "com/example/acquirer/acquirer/Payment" "lastError" "Ljava/lang/String;" .null := D48 (Or.inr (own_w hw 46 rfl)) (ty := (.object "java/lang/String")) (by decide)
        refine own_st st48 ?_
        show own_E p e below _ T48 (mkF m 107 #[.val (.long q1), .second, .val (.long q2), .second, .val (.long q3), .second, .val (.long q4), .second, iv p5, iv (p5 &&& (3 : Int32)), .val (.long q1), .second, .val (.long q1), .second, iv 1, rv b46, .unset] [.ref b48])
        refine own_st (fun t k => XS.dup X48.here hx rfl (hb hby at_107) rfl rfl k) ?_
        show own_E p e below _ T48 (mkF m 108 #[.val (.long q1), .second, .val (.long q2), .second, .val (.long q3), .second, .val (.long q4), .second, iv p5, iv (p5 &&& (3 : Int32)), .val (.long q1), .second, .val (.long q1), .second, iv 1, rv b46, .unset] [.ref b48, .ref b48])
        refine own_st (fun t k => XS.aconstNull X48.here hx rfl (hb hby at_108) k) ?_
        show own_E p e below _ T48 (mkF m 109 #[.val (.long q1), .second, .val (.long q2), .second, .val (.long q3), .second, .val (.long q4), .second, iv p5, iv (p5 &&& (3 : Int32)), .val (.long q1), .second, .val (.long q1), .second, iv 1, rv b46, .unset] [.null, .ref b48, .ref b48])
        refine own_st (fun t k => XS.aconstNull X48.here hx rfl (hb hby at_109) k) ?_
        show own_E p e below _ T48 (mkF m 110 #[.val (.long q1), .second, .val (.long q2), .second, .val (.long q3), .second, .val (.long q4), .second, iv p5, iv (p5 &&& (3 : Int32)), .val (.long q1), .second, .val (.long q1), .second, iv 1, rv b46, .unset] [.null, .null, .ref b48, .ref b48])
        refine own_st (fun t k => XS.lload X48.here hx rfl (hb hby at_110) rfl k) ?_
        show own_E p e below _ T48 (mkF m 112 #[.val (.long q1), .second, .val (.long q2), .second, .val (.long q3), .second, .val (.long q4), .second, iv p5, iv (p5 &&& (3 : Int32)), .val (.long q1), .second, .val (.long q1), .second, iv 1, rv b46, .unset] [.long q4, .null, .null, .ref b48, .ref b48])
        refine own_st (fun t k => XS.lload X48.here hx rfl (hb hby at_112) rfl k) ?_
        show own_E p e below _ T48 (mkF m 114 #[.val (.long q1), .second, .val (.long q2), .second, .val (.long q3), .second, .val (.long q4), .second, iv p5, iv (p5 &&& (3 : Int32)), .val (.long q1), .second, .val (.long q1), .second, iv 1, rv b46, .unset] [.long q3, .long q4, .null, .null, .ref b48, .ref b48])
        refine own_st (fun t k => XS.lload X48.here hx rfl (hb hby at_114) rfl k) ?_
        show own_E p e below _ T48 (mkF m 116 #[.val (.long q1), .second, .val (.long q2), .second, .val (.long q3), .second, .val (.long q4), .second, iv p5, iv (p5 &&& (3 : Int32)), .val (.long q1), .second, .val (.long q1), .second, iv 1, rv b46, .unset] [.long q1, .long q3, .long q4, .null, .null, .ref b48, .ref b48])
        refine own_st (fun t k => XS.lload X48.here hx rfl (hb hby at_116) rfl k) ?_
        show own_E p e below _ T48 (mkF m 118 #[.val (.long q1), .second, .val (.long q2), .second, .val (.long q3), .second, .val (.long q4), .second, iv p5, iv (p5 &&& (3 : Int32)), .val (.long q1), .second, .val (.long q1), .second, iv 1, rv b46, .unset] [.long q1, .long q1, .long q3, .long q4, .null, .null, .ref b48, .ref b48])
        obtain ⟨b51, T51, h51, k51, X51, e51, E51, hS51, hk51, hZ51, ho51, st51⟩ := ldcS (s := s) (vm0 := T46.vm) X48 hx hZ46 ho46 (own_w hw 11 rfl) (own_wS hw) e48 hS46 hk50 (g := (mkF m 118 #[.val (.long q1), .second, .val (.long q2), .second, .val (.long q3), .second, .val (.long q4), .second, iv p5, iv (p5 &&& (3 : Int32)), .val (.long q1), .second, .val (.long q1), .second, iv 1, rv b46, .unset] [.long q1, .long q1, .long q3, .long q4, .null, .null, .ref b48, .ref b48])) rfl (hb hby at_118) (n := 12) (by decide) (by decide) (by decide) (by decide)
        have Z52 := Nat.le_trans Z49 E51.1
        have hk53 := Nat.le_trans hk50 E51.1
        refine own_st st51 ?_
        show own_E p e below _ T51 (mkF m 120 #[.val (.long q1), .second, .val (.long q2), .second, .val (.long q3), .second, .val (.long q4), .second, iv p5, iv (p5 &&& (3 : Int32)), .val (.long q1), .second, .val (.long q1), .second, iv 1, rv b46, .unset] [.ref b51, .long q1, .long q1, .long q3, .long q4, .null, .null, .ref b48, .ref b48])
        refine own_st (fun t k => XS.aload X51.here hx rfl (hb hby at_120) rfl rfl k) ?_
        show own_E p e below _ T51 (mkF m 122 #[.val (.long q1), .second, .val (.long q2), .second, .val (.long q3), .second, .val (.long q4), .second, iv p5, iv (p5 &&& (3 : Int32)), .val (.long q1), .second, .val (.long q1), .second, iv 1, rv b46, .unset] [.ref b46, .ref b51, .long q1, .long q1, .long q3, .long q4, .null, .null, .ref b48, .ref b48])
        refine own_st (fun t k => XS.aconstNull X51.here hx rfl (hb hby at_122) k) ?_
        show own_E p e below _ T51 (mkF m 123 #[.val (.long q1), .second, .val (.long q2), .second, .val (.long q3), .second, .val (.long q4), .second, iv p5, iv (p5 &&& (3 : Int32)), .val (.long q1), .second, .val (.long q1), .second, iv 1, rv b46, .unset] [.null, .ref b46, .ref b51, .long q1, .long q1, .long q3, .long q4, .null, .null, .ref b48, .ref b48])
        refine own_st (fun t k => XS.aconstNull X51.here hx rfl (hb hby at_123) k) ?_
        show own_E p e below _ T51 (mkF m 124 #[.val (.long q1), .second, .val (.long q2), .second, .val (.long q3), .second, .val (.long q4), .second, iv p5, iv (p5 &&& (3 : Int32)), .val (.long q1), .second, .val (.long q1), .second, iv 1, rv b46, .unset] [.null, .null, .ref b46, .ref b51, .long q1, .long q1, .long q3, .long q4, .null, .null, .ref b48, .ref b48])
        refine own_st (fun t k => XS.aconstNull X51.here hx rfl (hb hby at_124) k) ?_
        show own_E p e below _ T51 (mkF m 125 #[.val (.long q1), .second, .val (.long q2), .second, .val (.long q3), .second, .val (.long q4), .second, iv p5, iv (p5 &&& (3 : Int32)), .val (.long q1), .second, .val (.long q1), .second, iv 1, rv b46, .unset] [.null, .null, .null, .ref b46, .ref b51, .long q1, .long q1, .long q3, .long q4, .null, .null, .ref b48, .ref b48])
        refine own_st (fun t k => XS.aconstNull X51.here hx rfl (hb hby at_125) k) ?_
        show own_E p e below _ T51 (mkF m 126 #[.val (.long q1), .second, .val (.long q2), .second, .val (.long q3), .second, .val (.long q4), .second, iv p5, iv (p5 &&& (3 : Int32)), .val (.long q1), .second, .val (.long q1), .second, iv 1, rv b46, .unset] [.null, .null, .null, .null, .ref b46, .ref b51, .long q1, .long q1, .long q3, .long q4, .null, .null, .ref b48, .ref b48])
        have B54 := (A48.ext E51)
        have B55 := (F_id_b48.ext E51)
        have B56 := (F_session_b48.ext E51)
        have B57 := (F_created_b48.ext E51)
        have B58 := (F_amount_b48.ext E51)
        have B59 := (F_amountCaptured_b48.ext E51)
        have B60 := (F_amountRefunded_b48.ext E51)
        have B61 := (F_currency_b48.ext E51)
        have B62 := (F_status_b48.ext E51)
        have B63 := (F_gateway_b48.ext E51)
        have B64 := (F_card_b48.ext E51)
        have B65 := (F_approval_b48.ext E51)
        have B66 := (F_lastError_b48.ext E51)
        obtain ⟨_, _, ⟨T67, L67, k67, n67⟩, -, X67, ⟨Lc67, hQ67, l67, y67, z67⟩, st67⟩ := X51.specialBack hx (y := own_y1) rfl ho51 (mvT hZ51 (own_w hw 12 rfl)) (mvT hZ51 (own_w hw 13 rfl)) (mvT hZ51 (own_w hw 14 rfl)) (by decide) (backOf (W := 1) (own_init l Z a0 hw [] b48 b51 b46 q4 q3 q1 q1 h51 n0 Z52 B54 B55 B56 B57 B58 B59 B60 B61 B62 B63 B64 B65 B66 g_b48) hZ51 (own_w hw 14 rfl) (own_w hw 10 rfl) (by decide) (by decide)) (g := (mkF m 126 #[.val (.long q1), .second, .val (.long q2), .second, .val (.long q3), .second, .val (.long q4), .second, iv p5, iv (p5 &&& (3 : Int32)), .val (.long q1), .second, .val (.long q1), .second, iv 1, rv b46, .unset] [.null, .null, .null, .null, .ref b46, .ref b51, .long q1, .long q1, .long q3, .long q4, .null, .null, .ref b48, .ref b48])) rfl (by rw [hml]; rfl) (Steps.refl _) (a := b48) (argsL := [.null, .null, (.long q4), (.long q3), (.long q1), (.long q1), (.ref b51), (.ref b46), .null, .null, .null, .null]) (rest := [(.ref b48)]) (lenOf own_pd_3 rfl) rfl (by show 2 * 0 + _ ≤ _; exact Nat.le_of_eq rfl) (hb hby at_126) (fun _ _ => ⟨rfl, e51, (by decide : 5 + 0 ≤ _), (by decide : 64 + 0 ≤ _)⟩)
        dsimp only [Pt.U, Pt.locs, Pt.cells, Pt.slots] at X67 l67 y67 z67 st67 hQ67
        subst l67 y67 z67
        obtain ⟨rfl, Nq67, Kq67, P67_0, P67_1, P67_2⟩ := hQ67
        have N67 := Fr.app (Fr.nil n0) Nq67
        have e67 : T67.heap = T67.heap := rfl
        have Z68 := Nat.le_trans Z52 Kq67.1
        have hk69 := Nat.le_trans hk51 Kq67.1
        refine own_tr st67 ?_
        show own_E p e below _ T67 (mkF m 129 #[.val (.long q1), .second, .val (.long q2), .second, .val (.long q3), .second, .val (.long q4), .second, iv p5, iv (p5 &&& (3 : Int32)), .val (.long q1), .second, .val (.long q1), .second, iv 1, rv b46, .unset] [.ref b48])
        refine own_st (fun t k => XS.astore X67.here hx rfl (hb hby at_129) rfl rfl (l' := #[.val (.long q1), .second, .val (.long q2), .second, .val (.long q3), .second, .val (.long q4), .second, iv p5, iv (p5 &&& (3 : Int32)), .val (.long q1), .second, .val (.long q1), .second, iv 1, rv b46, rv b48]) rfl k) ?_
        show own_E p e below _ T67 (mkF m 131 #[.val (.long q1), .second, .val (.long q2), .second, .val (.long q3), .second, .val (.long q4), .second, iv p5, iv (p5 &&& (3 : Int32)), .val (.long q1), .second, .val (.long q1), .second, iv 1, rv b46, rv b48] [])
        refine own_st (fun t k => XS.aload X67.here hx rfl (hb hby at_131) rfl rfl k) ?_
        show own_E p e below _ T67 (mkF m 133 #[.val (.long q1), .second, .val (.long q2), .second, .val (.long q3), .second, .val (.long q4), .second, iv p5, iv (p5 &&& (3 : Int32)), .val (.long q1), .second, .val (.long q1), .second, iv 1, rv b46, rv b48] [.ref b48])
        obtain ⟨cq70, kq70, q70a, q70b, q70c⟩ := isOf hZ51 e67 P67_0
        obtain ⟨_, _, ⟨T70, L70, k70, n70⟩, -, X70, ⟨Lc70, hQ70, l70, y70, z70⟩, st70⟩ := X67.virtualBack hx (y := own_y2) (z := own_y2) ho51 (mvT hZ51 (own_w hw 47 rfl)) (mvT hZ51 (own_w hw 48 rfl)) (notFace_of_selects (args := #[]) (mvT hZ51 (own_w hw 50 rfl))) (mvT hZ51 (own_w hw 50 rfl)) (mvT hZ51 (own_w hw 49 rfl)) (by decide) (backOf (W := 0) (own_isref l Z a0 hw [] b48 q1 q1 T67.heap n0 Z68 P67_1 P67_2) hZ51 (own_w hw 51 rfl) (own_w hw 10 rfl) (by decide) (by decide)) q70a q70c (g := (mkF m 133 #[.val (.long q1), .second, .val (.long q2), .second, .val (.long q3), .second, .val (.long q4), .second, iv p5, iv (p5 &&& (3 : Int32)), .val (.long q1), .second, .val (.long q1), .second, iv 1, rv b46, rv b48] [.ref b48])) rfl (by rw [hml]; rfl) (Steps.refl _) (argsL := []) (rest := []) (lenOf own_pd_1 rfl) rfl (by show 2 * 0 + _ ≤ _; exact Nat.le_of_eq rfl) (hb hby at_133) (fun _ _ => ⟨rfl, e67, (by decide : 5 + 0 ≤ _), (by decide : 64 + 0 ≤ _)⟩)
        dsimp only [Pt.U, Pt.locs, Pt.cells, Pt.slots] at X70 l70 y70 z70 st70 hQ70
        subst l70 y70 z70
        obtain ⟨hR70, e70, rfl⟩ := hQ70
        have N70 := Fr.app N67 (Fr.nil n0)
        rcases hR70 with ⟨rfl, ha70_0, ha70_1⟩ | ⟨rfl, ha70_0, ha70_1⟩ | ⟨rfl, ha70_0⟩
        · refine own_tr st70 ?_
          show own_E p e below _ T70 (mkF m 136 #[.val (.long q1), .second, .val (.long q2), .second, .val (.long q3), .second, .val (.long q4), .second, iv p5, iv (p5 &&& (3 : Int32)), .val (.long q1), .second, .val (.long q1), .second, iv 1, rv b46, rv b48] [.int 1])
          refine own_st (fun t k => XS.iload X70.here hx rfl (hb hby at_136) rfl k) ?_
          show own_E p e below _ T70 (mkF m 138 #[.val (.long q1), .second, .val (.long q2), .second, .val (.long q3), .second, .val (.long q4), .second, iv p5, iv (p5 &&& (3 : Int32)), .val (.long q1), .second, .val (.long q1), .second, iv 1, rv b46, rv b48] [.int 1, .int 1])
          refine own_st (fun t k => XS.icmpNo X70.here hx rfl (hb hby at_138) rfl (by decide) k) ?_
          show own_E p e below _ T70 (mkF m 141 #[.val (.long q1), .second, .val (.long q2), .second, .val (.long q3), .second, .val (.long q4), .second, iv p5, iv (p5 &&& (3 : Int32)), .val (.long q1), .second, .val (.long q1), .second, iv 1, rv b46, rv b48] [])
          refine own_st (fun t k => XS.iconst X70.here hx rfl (hb hby at_141) k) ?_
          show own_E p e below _ T70 (mkF m 142 #[.val (.long q1), .second, .val (.long q2), .second, .val (.long q3), .second, .val (.long q4), .second, iv p5, iv (p5 &&& (3 : Int32)), .val (.long q1), .second, .val (.long q1), .second, iv 1, rv b46, rv b48] [.int 1])
          refine own_st (fun t k => XS.goto X70.here hx rfl (pc0 := 142) (pc' := 146) rfl (hb hby at_142) (by decide) (by decide) k) ?_
          show own_E p e below _ T70 (mkF m 146 #[.val (.long q1), .second, .val (.long q2), .second, .val (.long q3), .second, .val (.long q4), .second, iv p5, iv (p5 &&& (3 : Int32)), .val (.long q1), .second, .val (.long q1), .second, iv 1, rv b46, rv b48] [.int 1])
          refine own_retSW X70 hS51 (by rw [e70]; exact hk69) hx Bd.notSynchronized Bd.returns rfl (by decide) (hb hby at_146) (by decide) (by decide) ?_
          exact ⟨rfl, N70⟩
        · exfalso
          have f71 := rng32 p5
          have f72 : (3 : Int32).toInt = 3 := rfl
          have f73 := rng32 (p5 &&& (3 : Int32))
          have f74 : (p5 &&& (3 : Int32)).toInt = p5.toInt % 4 := c_mask p5 (3 : Int32) 2 (by decide) (by decide)
          have f75 : (0 : Int32).toInt = 0 := rfl
          have f76 : (0 : Int64).toInt = 0 := rfl
          have f77 := rng64 q1
          have f78 : (2 : Int32).toInt = 2 := rfl
          have f79 := rng32 ((p5.toUInt32 >>> ((2 : Int32) &&& 31).toUInt32).toInt32)
          have f80 : ((p5.toUInt32 >>> ((2 : Int32) &&& 31).toUInt32).toInt32).toInt = (p5.toInt % 4294967296) / 4 := c_iushr p5 (2 : Int32) 2 (by decide) (by decide)
          have f81 : (1 : Int32).toInt = 1 := rfl
          have f82 := rng32 (((p5.toUInt32 >>> ((2 : Int32) &&& 31).toUInt32).toInt32) &&& (1 : Int32))
          have f83 : (((p5.toUInt32 >>> ((2 : Int32) &&& 31).toUInt32).toInt32) &&& (1 : Int32)).toInt = ((p5.toUInt32 >>> ((2 : Int32) &&& 31).toUInt32).toInt32).toInt % 2 := c_mask ((p5.toUInt32 >>> ((2 : Int32) &&& 31).toUInt32).toInt32) (1 : Int32) 1 (by decide) (by decide)
          have g84 := hc1
          rw [← Int32.toInt_inj] at g84
          have g85 := hc2
          rw [Int64.lt_iff_toInt_lt] at g85
          have g86 := hc3
          rw [← Int32.toInt_inj] at g86
          have g87 := ha70_1
          rw [← Int64.toInt_inj] at g87
          omega
        · exact absurd hc2 ha70_0
    · refine own_st (fun t k => XS.ifYes X0.here hx rfl (pc0 := 20) (pc' := 27) rfl (hb hby at_20) rfl ((if0 _ _).trans (flt (fun q => hc2 ((lw_gt _ _).mp q))).2.2.2) (by decide) (by decide) k) ?_
      show own_E p e below _ s₁ (mkF m 27 #[.val (.long q1), .second, .val (.long q2), .second, .val (.long q3), .second, .val (.long q4), .second, iv p5, iv (p5 &&& (3 : Int32)), .val (.long q1), .second, .val (.long q1), .second, .unset, .unset, .unset] [])
      refine own_st (fun t k => XS.iconst X0.here hx rfl (hb hby at_27) k) ?_
      show own_E p e below _ s₁ (mkF m 28 #[.val (.long q1), .second, .val (.long q2), .second, .val (.long q3), .second, .val (.long q4), .second, iv p5, iv (p5 &&& (3 : Int32)), .val (.long q1), .second, .val (.long q1), .second, .unset, .unset, .unset] [.int 0])
      refine own_st (fun t k => XS.istore X0.here hx rfl (hb hby at_28) rfl (l' := #[.val (.long q1), .second, .val (.long q2), .second, .val (.long q3), .second, .val (.long q4), .second, iv p5, iv (p5 &&& (3 : Int32)), .val (.long q1), .second, .val (.long q1), .second, iv 0, .unset, .unset]) rfl k) ?_
      show own_E p e below _ s₁ (mkF m 30 #[.val (.long q1), .second, .val (.long q2), .second, .val (.long q3), .second, .val (.long q4), .second, iv p5, iv (p5 &&& (3 : Int32)), .val (.long q1), .second, .val (.long q1), .second, iv 0, .unset, .unset] [])
      refine own_st (fun t k => XS.goto X0.here hx rfl (pc0 := 30) (pc' := 86) rfl (hb hby at_30) (by decide) (by decide) k) ?_
      show own_E p e below _ s₁ (mkF m 86 #[.val (.long q1), .second, .val (.long q2), .second, .val (.long q3), .second, .val (.long q4), .second, iv p5, iv (p5 &&& (3 : Int32)), .val (.long q1), .second, .val (.long q1), .second, iv 0, .unset, .unset] [])
      refine own_st (fun t k => XS.iload X0.here hx rfl (hb hby at_86) rfl k) ?_
      show own_E p e below _ s₁ (mkF m 88 #[.val (.long q1), .second, .val (.long q2), .second, .val (.long q3), .second, .val (.long q4), .second, iv p5, iv (p5 &&& (3 : Int32)), .val (.long q1), .second, .val (.long q1), .second, iv 0, .unset, .unset] [.int p5])
      refine own_st (fun t k => XS.iconst X0.here hx rfl (hb hby at_88) k) ?_
      show own_E p e below _ s₁ (mkF m 89 #[.val (.long q1), .second, .val (.long q2), .second, .val (.long q3), .second, .val (.long q4), .second, iv p5, iv (p5 &&& (3 : Int32)), .val (.long q1), .second, .val (.long q1), .second, iv 0, .unset, .unset] [.int 2, .int p5])
      refine own_st (fun t k => XS.iushr X0.here hx rfl (hb hby at_89) rfl k) ?_
      show own_E p e below _ s₁ (mkF m 90 #[.val (.long q1), .second, .val (.long q2), .second, .val (.long q3), .second, .val (.long q4), .second, iv p5, iv (p5 &&& (3 : Int32)), .val (.long q1), .second, .val (.long q1), .second, iv 0, .unset, .unset] [.int ((p5.toUInt32 >>> ((2 : Int32) &&& 31).toUInt32).toInt32)])
      refine own_st (fun t k => XS.iconst X0.here hx rfl (hb hby at_90) k) ?_
      show own_E p e below _ s₁ (mkF m 91 #[.val (.long q1), .second, .val (.long q2), .second, .val (.long q3), .second, .val (.long q4), .second, iv p5, iv (p5 &&& (3 : Int32)), .val (.long q1), .second, .val (.long q1), .second, iv 0, .unset, .unset] [.int 1, .int ((p5.toUInt32 >>> ((2 : Int32) &&& 31).toUInt32).toInt32)])
      refine own_st (fun t k => XS.iand X0.here hx rfl (hb hby at_91) rfl k) ?_
      show own_E p e below _ s₁ (mkF m 92 #[.val (.long q1), .second, .val (.long q2), .second, .val (.long q3), .second, .val (.long q4), .second, iv p5, iv (p5 &&& (3 : Int32)), .val (.long q1), .second, .val (.long q1), .second, iv 0, .unset, .unset] [.int (((p5.toUInt32 >>> ((2 : Int32) &&& 31).toUInt32).toInt32) &&& (1 : Int32))])
      by_cases hc88 : (((p5.toUInt32 >>> ((2 : Int32) &&& 31).toUInt32).toInt32) &&& (1 : Int32)) = (0 : Int32)
      · refine own_st (fun t k => XS.ifYes X0.here hx rfl (pc0 := 92) (pc' := 100) rfl (hb hby at_92) rfl ((if0 _ _).trans (teq hc88).1) (by decide) (by decide) k) ?_
        show own_E p e below _ s₁ (mkF m 100 #[.val (.long q1), .second, .val (.long q2), .second, .val (.long q3), .second, .val (.long q4), .second, iv p5, iv (p5 &&& (3 : Int32)), .val (.long q1), .second, .val (.long q1), .second, iv 0, .unset, .unset] [])
        obtain ⟨b89, T89, h89, k89, X89, e89, E89, hS89, hk89, hZ89, ho89, st89⟩ := ldcS (s := s) (vm0 := s.vm) X0 hx hZ hown (own_w hw 0 rfl) (own_wS hw) e0 (own_since s) (Nat.zero_le _) (g := (mkF m 100 #[.val (.long q1), .second, .val (.long q2), .second, .val (.long q3), .second, .val (.long q4), .second, iv p5, iv (p5 &&& (3 : Int32)), .val (.long q1), .second, .val (.long q1), .second, iv 0, .unset, .unset] [])) rfl (hb hby at_100) (n := 24) (by decide) (by decide) (by decide) (by decide)
        have Z90 := Nat.le_trans Z0 E89.1
        refine own_st st89 ?_
        show own_E p e below _ T89 (mkF m 102 #[.val (.long q1), .second, .val (.long q2), .second, .val (.long q3), .second, .val (.long q4), .second, iv p5, iv (p5 &&& (3 : Int32)), .val (.long q1), .second, .val (.long q1), .second, iv 0, .unset, .unset] [.ref b89])
        refine own_st (fun t k => XS.astore X89.here hx rfl (hb hby at_102) rfl rfl (l' := #[.val (.long q1), .second, .val (.long q2), .second, .val (.long q3), .second, .val (.long q4), .second, iv p5, iv (p5 &&& (3 : Int32)), .val (.long q1), .second, .val (.long q1), .second, iv 0, rv b89, .unset]) rfl k) ?_
        show own_E p e below _ T89 (mkF m 104 #[.val (.long q1), .second, .val (.long q2), .second, .val (.long q3), .second, .val (.long q4), .second, iv p5, iv (p5 &&& (3 : Int32)), .val (.long q1), .second, .val (.long q1), .second, iv 0, rv b89, .unset] [])
        obtain ⟨T91, h91, X91, e91, E91, A91, D91, -, st91⟩ := newO X89 hx hZ89 ho89 (own_w hw 8 rfl) (own_w hw 9 rfl) (own_w hw 10 rfl) e89 (g := (mkF m 104 #[.val (.long q1), .second, .val (.long q2), .second, .val (.long q3), .second, .val (.long q4), .second, iv p5, iv (p5 &&& (3 : Int32)), .val (.long q1), .second, .val (.long q1), .second, iv 0, rv b89, .unset] [])) rfl (hb hby at_104) (by decide) (by decide)
        obtain ⟨b91, g91⟩ : ∃ z, z = h89.size := ⟨_, rfl⟩
        rw [← g91] at A91 D91 st91
        have g_b91 : n0 ≤ b91 := Nat.le_trans Z90 (Nat.le_of_eq g91.symm)
        have Z92 := Nat.le_trans Z90 E91.1
        have hk93 := Nat.le_trans hk89 E91.1
        have F_id_b91 : Fld Z h91 b91 "com/example/acquirer/acquirer/Payment" "id" "Ljava/lang/String;" .null := D91 (Or.inr (own_w hw 24 rfl)) (ty := (.object "java/lang/String")) (by decide)
        have F_session_b91 : Fld Z h91 b91 "com/example/acquirer/acquirer/Payment" "session" "Ljava/lang/String;" .null := D91 (Or.inr (own_w hw 26 rfl)) (ty := (.object "java/lang/String")) (by decide)
        have F_created_b91 : Fld Z h91 b91 "com/example/acquirer/acquirer/Payment" "created" "J" (.long (0 : Int64)) := D91 (Or.inr (own_w hw 28 rfl)) (ty := .long) (by decide)
        have F_amount_b91 : Fld Z h91 b91 "com/example/acquirer/acquirer/Payment" "amount" "J" (.long (0 : Int64)) := D91 (Or.inr (own_w hw 30 rfl)) (ty := .long) (by decide)
        have F_amountCaptured_b91 : Fld Z h91 b91 "com/example/acquirer/acquirer/Payment" "amountCaptured" "J" (.long (0 : Int64)) := D91 (Or.inr (own_w hw 32 rfl)) (ty := .long) (by decide)
        have F_amountRefunded_b91 : Fld Z h91 b91 "com/example/acquirer/acquirer/Payment" "amountRefunded" "J" (.long (0 : Int64)) := D91 (Or.inr (own_w hw 34 rfl)) (ty := .long) (by decide)
        have F_currency_b91 : Fld Z h91 b91 "com/example/acquirer/acquirer/Payment" "currency" "Ljava/lang/String;" .null := D91 (Or.inr (own_w hw 36 rfl)) (ty := (.object "java/lang/String")) (by decide)
        have F_status_b91 : Fld Z h91 b91 "com/example/acquirer/acquirer/Payment" "status" "Ljava/lang/String;" .null := D91 (Or.inr (own_w hw 38 rfl)) (ty := (.object "java/lang/String")) (by decide)
        have F_gateway_b91 : Fld Z h91 b91 "com/example/acquirer/acquirer/Payment" "gateway" "Ljava/lang/String;" .null := D91 (Or.inr (own_w hw 40 rfl)) (ty := (.object "java/lang/String")) (by decide)
        have F_card_b91 : Fld Z h91 b91 "com/example/acquirer/acquirer/Payment" "card" "Lcom/example/acquirer/acquirer/Card;" .null := D91 (Or.inr (own_w hw 42 rfl)) (ty := (.object "com/example/acquirer/acquirer/Card")) (by decide)
        have F_approval_b91 : Fld Z h91 b91 "com/example/acquirer/acquirer/Payment" "approval" "Lcom/example/acquirer/acquirer/Approval;" .null := D91 (Or.inr (own_w hw 44 rfl)) (ty := (.object "com/example/acquirer/acquirer/Approval")) (by decide)
        have F_lastError_b91 : Fld Z h91 b91 "com/example/acquirer/acquirer/Payment" "lastError" "Ljava/lang/String;" .null := D91 (Or.inr (own_w hw 46 rfl)) (ty := (.object "java/lang/String")) (by decide)
        refine own_st st91 ?_
        show own_E p e below _ T91 (mkF m 107 #[.val (.long q1), .second, .val (.long q2), .second, .val (.long q3), .second, .val (.long q4), .second, iv p5, iv (p5 &&& (3 : Int32)), .val (.long q1), .second, .val (.long q1), .second, iv 0, rv b89, .unset] [.ref b91])
        refine own_st (fun t k => XS.dup X91.here hx rfl (hb hby at_107) rfl rfl k) ?_
        show own_E p e below _ T91 (mkF m 108 #[.val (.long q1), .second, .val (.long q2), .second, .val (.long q3), .second, .val (.long q4), .second, iv p5, iv (p5 &&& (3 : Int32)), .val (.long q1), .second, .val (.long q1), .second, iv 0, rv b89, .unset] [.ref b91, .ref b91])
        refine own_st (fun t k => XS.aconstNull X91.here hx rfl (hb hby at_108) k) ?_
        show own_E p e below _ T91 (mkF m 109 #[.val (.long q1), .second, .val (.long q2), .second, .val (.long q3), .second, .val (.long q4), .second, iv p5, iv (p5 &&& (3 : Int32)), .val (.long q1), .second, .val (.long q1), .second, iv 0, rv b89, .unset] [.null, .ref b91, .ref b91])
        refine own_st (fun t k => XS.aconstNull X91.here hx rfl (hb hby at_109) k) ?_
        show own_E p e below _ T91 (mkF m 110 #[.val (.long q1), .second, .val (.long q2), .second, .val (.long q3), .second, .val (.long q4), .second, iv p5, iv (p5 &&& (3 : Int32)), .val (.long q1), .second, .val (.long q1), .second, iv 0, rv b89, .unset] [.null, .null, .ref b91, .ref b91])
        refine own_st (fun t k => XS.lload X91.here hx rfl (hb hby at_110) rfl k) ?_
        show own_E p e below _ T91 (mkF m 112 #[.val (.long q1), .second, .val (.long q2), .second, .val (.long q3), .second, .val (.long q4), .second, iv p5, iv (p5 &&& (3 : Int32)), .val (.long q1), .second, .val (.long q1), .second, iv 0, rv b89, .unset] [.long q4, .null, .null, .ref b91, .ref b91])
        refine own_st (fun t k => XS.lload X91.here hx rfl (hb hby at_112) rfl k) ?_
        show own_E p e below _ T91 (mkF m 114 #[.val (.long q1), .second, .val (.long q2), .second, .val (.long q3), .second, .val (.long q4), .second, iv p5, iv (p5 &&& (3 : Int32)), .val (.long q1), .second, .val (.long q1), .second, iv 0, rv b89, .unset] [.long q3, .long q4, .null, .null, .ref b91, .ref b91])
        refine own_st (fun t k => XS.lload X91.here hx rfl (hb hby at_114) rfl k) ?_
        show own_E p e below _ T91 (mkF m 116 #[.val (.long q1), .second, .val (.long q2), .second, .val (.long q3), .second, .val (.long q4), .second, iv p5, iv (p5 &&& (3 : Int32)), .val (.long q1), .second, .val (.long q1), .second, iv 0, rv b89, .unset] [.long q1, .long q3, .long q4, .null, .null, .ref b91, .ref b91])
        refine own_st (fun t k => XS.lload X91.here hx rfl (hb hby at_116) rfl k) ?_
        show own_E p e below _ T91 (mkF m 118 #[.val (.long q1), .second, .val (.long q2), .second, .val (.long q3), .second, .val (.long q4), .second, iv p5, iv (p5 &&& (3 : Int32)), .val (.long q1), .second, .val (.long q1), .second, iv 0, rv b89, .unset] [.long q1, .long q1, .long q3, .long q4, .null, .null, .ref b91, .ref b91])
        obtain ⟨b94, T94, h94, k94, X94, e94, E94, hS94, hk94, hZ94, ho94, st94⟩ := ldcS (s := s) (vm0 := T89.vm) X91 hx hZ89 ho89 (own_w hw 11 rfl) (own_wS hw) e91 hS89 hk93 (g := (mkF m 118 #[.val (.long q1), .second, .val (.long q2), .second, .val (.long q3), .second, .val (.long q4), .second, iv p5, iv (p5 &&& (3 : Int32)), .val (.long q1), .second, .val (.long q1), .second, iv 0, rv b89, .unset] [.long q1, .long q1, .long q3, .long q4, .null, .null, .ref b91, .ref b91])) rfl (hb hby at_118) (n := 12) (by decide) (by decide) (by decide) (by decide)
        have Z95 := Nat.le_trans Z92 E94.1
        have hk96 := Nat.le_trans hk93 E94.1
        refine own_st st94 ?_
        show own_E p e below _ T94 (mkF m 120 #[.val (.long q1), .second, .val (.long q2), .second, .val (.long q3), .second, .val (.long q4), .second, iv p5, iv (p5 &&& (3 : Int32)), .val (.long q1), .second, .val (.long q1), .second, iv 0, rv b89, .unset] [.ref b94, .long q1, .long q1, .long q3, .long q4, .null, .null, .ref b91, .ref b91])
        refine own_st (fun t k => XS.aload X94.here hx rfl (hb hby at_120) rfl rfl k) ?_
        show own_E p e below _ T94 (mkF m 122 #[.val (.long q1), .second, .val (.long q2), .second, .val (.long q3), .second, .val (.long q4), .second, iv p5, iv (p5 &&& (3 : Int32)), .val (.long q1), .second, .val (.long q1), .second, iv 0, rv b89, .unset] [.ref b89, .ref b94, .long q1, .long q1, .long q3, .long q4, .null, .null, .ref b91, .ref b91])
        refine own_st (fun t k => XS.aconstNull X94.here hx rfl (hb hby at_122) k) ?_
        show own_E p e below _ T94 (mkF m 123 #[.val (.long q1), .second, .val (.long q2), .second, .val (.long q3), .second, .val (.long q4), .second, iv p5, iv (p5 &&& (3 : Int32)), .val (.long q1), .second, .val (.long q1), .second, iv 0, rv b89, .unset] [.null, .ref b89, .ref b94, .long q1, .long q1, .long q3, .long q4, .null, .null, .ref b91, .ref b91])
        refine own_st (fun t k => XS.aconstNull X94.here hx rfl (hb hby at_123) k) ?_
        show own_E p e below _ T94 (mkF m 124 #[.val (.long q1), .second, .val (.long q2), .second, .val (.long q3), .second, .val (.long q4), .second, iv p5, iv (p5 &&& (3 : Int32)), .val (.long q1), .second, .val (.long q1), .second, iv 0, rv b89, .unset] [.null, .null, .ref b89, .ref b94, .long q1, .long q1, .long q3, .long q4, .null, .null, .ref b91, .ref b91])
        refine own_st (fun t k => XS.aconstNull X94.here hx rfl (hb hby at_124) k) ?_
        show own_E p e below _ T94 (mkF m 125 #[.val (.long q1), .second, .val (.long q2), .second, .val (.long q3), .second, .val (.long q4), .second, iv p5, iv (p5 &&& (3 : Int32)), .val (.long q1), .second, .val (.long q1), .second, iv 0, rv b89, .unset] [.null, .null, .null, .ref b89, .ref b94, .long q1, .long q1, .long q3, .long q4, .null, .null, .ref b91, .ref b91])
        refine own_st (fun t k => XS.aconstNull X94.here hx rfl (hb hby at_125) k) ?_
        show own_E p e below _ T94 (mkF m 126 #[.val (.long q1), .second, .val (.long q2), .second, .val (.long q3), .second, .val (.long q4), .second, iv p5, iv (p5 &&& (3 : Int32)), .val (.long q1), .second, .val (.long q1), .second, iv 0, rv b89, .unset] [.null, .null, .null, .null, .ref b89, .ref b94, .long q1, .long q1, .long q3, .long q4, .null, .null, .ref b91, .ref b91])
        have B97 := (A91.ext E94)
        have B98 := (F_id_b91.ext E94)
        have B99 := (F_session_b91.ext E94)
        have B100 := (F_created_b91.ext E94)
        have B101 := (F_amount_b91.ext E94)
        have B102 := (F_amountCaptured_b91.ext E94)
        have B103 := (F_amountRefunded_b91.ext E94)
        have B104 := (F_currency_b91.ext E94)
        have B105 := (F_status_b91.ext E94)
        have B106 := (F_gateway_b91.ext E94)
        have B107 := (F_card_b91.ext E94)
        have B108 := (F_approval_b91.ext E94)
        have B109 := (F_lastError_b91.ext E94)
        obtain ⟨_, _, ⟨T110, L110, k110, n110⟩, -, X110, ⟨Lc110, hQ110, l110, y110, z110⟩, st110⟩ := X94.specialBack hx (y := own_y1) rfl ho94 (mvT hZ94 (own_w hw 12 rfl)) (mvT hZ94 (own_w hw 13 rfl)) (mvT hZ94 (own_w hw 14 rfl)) (by decide) (backOf (W := 1) (own_init l Z a0 hw [] b91 b94 b89 q4 q3 q1 q1 h94 n0 Z95 B97 B98 B99 B100 B101 B102 B103 B104 B105 B106 B107 B108 B109 g_b91) hZ94 (own_w hw 14 rfl) (own_w hw 10 rfl) (by decide) (by decide)) (g := (mkF m 126 #[.val (.long q1), .second, .val (.long q2), .second, .val (.long q3), .second, .val (.long q4), .second, iv p5, iv (p5 &&& (3 : Int32)), .val (.long q1), .second, .val (.long q1), .second, iv 0, rv b89, .unset] [.null, .null, .null, .null, .ref b89, .ref b94, .long q1, .long q1, .long q3, .long q4, .null, .null, .ref b91, .ref b91])) rfl (by rw [hml]; rfl) (Steps.refl _) (a := b91) (argsL := [.null, .null, (.long q4), (.long q3), (.long q1), (.long q1), (.ref b94), (.ref b89), .null, .null, .null, .null]) (rest := [(.ref b91)]) (lenOf own_pd_3 rfl) rfl (by show 2 * 0 + _ ≤ _; exact Nat.le_of_eq rfl) (hb hby at_126) (fun _ _ => ⟨rfl, e94, (by decide : 5 + 0 ≤ _), (by decide : 56 + 0 ≤ _)⟩)
        dsimp only [Pt.U, Pt.locs, Pt.cells, Pt.slots] at X110 l110 y110 z110 st110 hQ110
        subst l110 y110 z110
        obtain ⟨rfl, Nq110, Kq110, P110_0, P110_1, P110_2⟩ := hQ110
        have N110 := Fr.app (Fr.nil n0) Nq110
        have e110 : T110.heap = T110.heap := rfl
        have Z111 := Nat.le_trans Z95 Kq110.1
        have hk112 := Nat.le_trans hk94 Kq110.1
        refine own_tr st110 ?_
        show own_E p e below _ T110 (mkF m 129 #[.val (.long q1), .second, .val (.long q2), .second, .val (.long q3), .second, .val (.long q4), .second, iv p5, iv (p5 &&& (3 : Int32)), .val (.long q1), .second, .val (.long q1), .second, iv 0, rv b89, .unset] [.ref b91])
        refine own_st (fun t k => XS.astore X110.here hx rfl (hb hby at_129) rfl rfl (l' := #[.val (.long q1), .second, .val (.long q2), .second, .val (.long q3), .second, .val (.long q4), .second, iv p5, iv (p5 &&& (3 : Int32)), .val (.long q1), .second, .val (.long q1), .second, iv 0, rv b89, rv b91]) rfl k) ?_
        show own_E p e below _ T110 (mkF m 131 #[.val (.long q1), .second, .val (.long q2), .second, .val (.long q3), .second, .val (.long q4), .second, iv p5, iv (p5 &&& (3 : Int32)), .val (.long q1), .second, .val (.long q1), .second, iv 0, rv b89, rv b91] [])
        refine own_st (fun t k => XS.aload X110.here hx rfl (hb hby at_131) rfl rfl k) ?_
        show own_E p e below _ T110 (mkF m 133 #[.val (.long q1), .second, .val (.long q2), .second, .val (.long q3), .second, .val (.long q4), .second, iv p5, iv (p5 &&& (3 : Int32)), .val (.long q1), .second, .val (.long q1), .second, iv 0, rv b89, rv b91] [.ref b91])
        obtain ⟨cq113, kq113, q113a, q113b, q113c⟩ := isOf hZ94 e110 P110_0
        obtain ⟨_, _, ⟨T113, L113, k113, n113⟩, -, X113, ⟨Lc113, hQ113, l113, y113, z113⟩, st113⟩ := X110.virtualBack hx (y := own_y2) (z := own_y2) ho94 (mvT hZ94 (own_w hw 47 rfl)) (mvT hZ94 (own_w hw 48 rfl)) (notFace_of_selects (args := #[]) (mvT hZ94 (own_w hw 50 rfl))) (mvT hZ94 (own_w hw 50 rfl)) (mvT hZ94 (own_w hw 49 rfl)) (by decide) (backOf (W := 0) (own_isref l Z a0 hw [] b91 q1 q1 T110.heap n0 Z111 P110_1 P110_2) hZ94 (own_w hw 51 rfl) (own_w hw 10 rfl) (by decide) (by decide)) q113a q113c (g := (mkF m 133 #[.val (.long q1), .second, .val (.long q2), .second, .val (.long q3), .second, .val (.long q4), .second, iv p5, iv (p5 &&& (3 : Int32)), .val (.long q1), .second, .val (.long q1), .second, iv 0, rv b89, rv b91] [.ref b91])) rfl (by rw [hml]; rfl) (Steps.refl _) (argsL := []) (rest := []) (lenOf own_pd_1 rfl) rfl (by show 2 * 0 + _ ≤ _; exact Nat.le_of_eq rfl) (hb hby at_133) (fun _ _ => ⟨rfl, e110, (by decide : 5 + 0 ≤ _), (by decide : 56 + 0 ≤ _)⟩)
        dsimp only [Pt.U, Pt.locs, Pt.cells, Pt.slots] at X113 l113 y113 z113 st113 hQ113
        subst l113 y113 z113
        obtain ⟨hR113, e113, rfl⟩ := hQ113
        have N113 := Fr.app N110 (Fr.nil n0)
        rcases hR113 with ⟨rfl, ha113_0, ha113_1⟩ | ⟨rfl, ha113_0, ha113_1⟩ | ⟨rfl, ha113_0⟩
        · exact absurd ha113_0 hc2
        · exact absurd ha113_0 hc2
        · refine own_tr st113 ?_
          show own_E p e below _ T113 (mkF m 136 #[.val (.long q1), .second, .val (.long q2), .second, .val (.long q3), .second, .val (.long q4), .second, iv p5, iv (p5 &&& (3 : Int32)), .val (.long q1), .second, .val (.long q1), .second, iv 0, rv b89, rv b91] [.int 0])
          refine own_st (fun t k => XS.iload X113.here hx rfl (hb hby at_136) rfl k) ?_
          show own_E p e below _ T113 (mkF m 138 #[.val (.long q1), .second, .val (.long q2), .second, .val (.long q3), .second, .val (.long q4), .second, iv p5, iv (p5 &&& (3 : Int32)), .val (.long q1), .second, .val (.long q1), .second, iv 0, rv b89, rv b91] [.int 0, .int 0])
          refine own_st (fun t k => XS.icmpNo X113.here hx rfl (hb hby at_138) rfl (by decide) k) ?_
          show own_E p e below _ T113 (mkF m 141 #[.val (.long q1), .second, .val (.long q2), .second, .val (.long q3), .second, .val (.long q4), .second, iv p5, iv (p5 &&& (3 : Int32)), .val (.long q1), .second, .val (.long q1), .second, iv 0, rv b89, rv b91] [])
          refine own_st (fun t k => XS.iconst X113.here hx rfl (hb hby at_141) k) ?_
          show own_E p e below _ T113 (mkF m 142 #[.val (.long q1), .second, .val (.long q2), .second, .val (.long q3), .second, .val (.long q4), .second, iv p5, iv (p5 &&& (3 : Int32)), .val (.long q1), .second, .val (.long q1), .second, iv 0, rv b89, rv b91] [.int 1])
          refine own_st (fun t k => XS.goto X113.here hx rfl (pc0 := 142) (pc' := 146) rfl (hb hby at_142) (by decide) (by decide) k) ?_
          show own_E p e below _ T113 (mkF m 146 #[.val (.long q1), .second, .val (.long q2), .second, .val (.long q3), .second, .val (.long q4), .second, iv p5, iv (p5 &&& (3 : Int32)), .val (.long q1), .second, .val (.long q1), .second, iv 0, rv b89, rv b91] [.int 1])
          refine own_retSW X113 hS94 (by rw [e113]; exact hk112) hx Bd.notSynchronized Bd.returns rfl (by decide) (hb hby at_146) (by decide) (by decide) ?_
          exact ⟨rfl, N113⟩
      · refine own_st (fun t k => XS.ifNo X0.here hx rfl (hb hby at_92) rfl ((if0 _ _).trans (feq hc88).1) k) ?_
        show own_E p e below _ s₁ (mkF m 95 #[.val (.long q1), .second, .val (.long q2), .second, .val (.long q3), .second, .val (.long q4), .second, iv p5, iv (p5 &&& (3 : Int32)), .val (.long q1), .second, .val (.long q1), .second, iv 0, .unset, .unset] [])
        obtain ⟨b114, T114, h114, k114, X114, e114, E114, hS114, hk114, hZ114, ho114, st114⟩ := ldcS (s := s) (vm0 := s.vm) X0 hx hZ hown (own_w hw 52 rfl) (own_wS hw) e0 (own_since s) (Nat.zero_le _) (g := (mkF m 95 #[.val (.long q1), .second, .val (.long q2), .second, .val (.long q3), .second, .val (.long q4), .second, iv p5, iv (p5 &&& (3 : Int32)), .val (.long q1), .second, .val (.long q1), .second, iv 0, .unset, .unset] [])) rfl (hb hby at_95) (n := 32) (by decide) (by decide) (by decide) (by decide)
        have Z115 := Nat.le_trans Z0 E114.1
        refine own_st st114 ?_
        show own_E p e below _ T114 (mkF m 97 #[.val (.long q1), .second, .val (.long q2), .second, .val (.long q3), .second, .val (.long q4), .second, iv p5, iv (p5 &&& (3 : Int32)), .val (.long q1), .second, .val (.long q1), .second, iv 0, .unset, .unset] [.ref b114])
        refine own_st (fun t k => XS.goto X114.here hx rfl (pc0 := 97) (pc' := 102) rfl (hb hby at_97) (by decide) (by decide) k) ?_
        show own_E p e below _ T114 (mkF m 102 #[.val (.long q1), .second, .val (.long q2), .second, .val (.long q3), .second, .val (.long q4), .second, iv p5, iv (p5 &&& (3 : Int32)), .val (.long q1), .second, .val (.long q1), .second, iv 0, .unset, .unset] [.ref b114])
        refine own_st (fun t k => XS.astore X114.here hx rfl (hb hby at_102) rfl rfl (l' := #[.val (.long q1), .second, .val (.long q2), .second, .val (.long q3), .second, .val (.long q4), .second, iv p5, iv (p5 &&& (3 : Int32)), .val (.long q1), .second, .val (.long q1), .second, iv 0, rv b114, .unset]) rfl k) ?_
        show own_E p e below _ T114 (mkF m 104 #[.val (.long q1), .second, .val (.long q2), .second, .val (.long q3), .second, .val (.long q4), .second, iv p5, iv (p5 &&& (3 : Int32)), .val (.long q1), .second, .val (.long q1), .second, iv 0, rv b114, .unset] [])
        obtain ⟨T116, h116, X116, e116, E116, A116, D116, -, st116⟩ := newO X114 hx hZ114 ho114 (own_w hw 8 rfl) (own_w hw 9 rfl) (own_w hw 10 rfl) e114 (g := (mkF m 104 #[.val (.long q1), .second, .val (.long q2), .second, .val (.long q3), .second, .val (.long q4), .second, iv p5, iv (p5 &&& (3 : Int32)), .val (.long q1), .second, .val (.long q1), .second, iv 0, rv b114, .unset] [])) rfl (hb hby at_104) (by decide) (by decide)
        obtain ⟨b116, g116⟩ : ∃ z, z = h114.size := ⟨_, rfl⟩
        rw [← g116] at A116 D116 st116
        have g_b116 : n0 ≤ b116 := Nat.le_trans Z115 (Nat.le_of_eq g116.symm)
        have Z117 := Nat.le_trans Z115 E116.1
        have hk118 := Nat.le_trans hk114 E116.1
        have F_id_b116 : Fld Z h116 b116 "com/example/acquirer/acquirer/Payment" "id" "Ljava/lang/String;" .null := D116 (Or.inr (own_w hw 24 rfl)) (ty := (.object "java/lang/String")) (by decide)
        have F_session_b116 : Fld Z h116 b116 "com/example/acquirer/acquirer/Payment" "session" "Ljava/lang/String;" .null := D116 (Or.inr (own_w hw 26 rfl)) (ty := (.object "java/lang/String")) (by decide)
        have F_created_b116 : Fld Z h116 b116 "com/example/acquirer/acquirer/Payment" "created" "J" (.long (0 : Int64)) := D116 (Or.inr (own_w hw 28 rfl)) (ty := .long) (by decide)
        have F_amount_b116 : Fld Z h116 b116 "com/example/acquirer/acquirer/Payment" "amount" "J" (.long (0 : Int64)) := D116 (Or.inr (own_w hw 30 rfl)) (ty := .long) (by decide)
        have F_amountCaptured_b116 : Fld Z h116 b116 "com/example/acquirer/acquirer/Payment" "amountCaptured" "J" (.long (0 : Int64)) := D116 (Or.inr (own_w hw 32 rfl)) (ty := .long) (by decide)
        have F_amountRefunded_b116 : Fld Z h116 b116 "com/example/acquirer/acquirer/Payment" "amountRefunded" "J" (.long (0 : Int64)) := D116 (Or.inr (own_w hw 34 rfl)) (ty := .long) (by decide)
        have F_currency_b116 : Fld Z h116 b116 "com/example/acquirer/acquirer/Payment" "currency" "Ljava/lang/String;" .null := D116 (Or.inr (own_w hw 36 rfl)) (ty := (.object "java/lang/String")) (by decide)
        have F_status_b116 : Fld Z h116 b116 "com/example/acquirer/acquirer/Payment" "status" "Ljava/lang/String;" .null := D116 (Or.inr (own_w hw 38 rfl)) (ty := (.object "java/lang/String")) (by decide)
        have F_gateway_b116 : Fld Z h116 b116 "com/example/acquirer/acquirer/Payment" "gateway" "Ljava/lang/String;" .null := D116 (Or.inr (own_w hw 40 rfl)) (ty := (.object "java/lang/String")) (by decide)
        have F_card_b116 : Fld Z h116 b116 "com/example/acquirer/acquirer/Payment" "card" "Lcom/example/acquirer/acquirer/Card;" .null := D116 (Or.inr (own_w hw 42 rfl)) (ty := (.object "com/example/acquirer/acquirer/Card")) (by decide)
        have F_approval_b116 : Fld Z h116 b116 "com/example/acquirer/acquirer/Payment" "approval" "Lcom/example/acquirer/acquirer/Approval;" .null := D116 (Or.inr (own_w hw 44 rfl)) (ty := (.object "com/example/acquirer/acquirer/Approval")) (by decide)
        have F_lastError_b116 : Fld Z h116 b116 "com/example/acquirer/acquirer/Payment" "lastError" "Ljava/lang/String;" .null := D116 (Or.inr (own_w hw 46 rfl)) (ty := (.object "java/lang/String")) (by decide)
        refine own_st st116 ?_
        show own_E p e below _ T116 (mkF m 107 #[.val (.long q1), .second, .val (.long q2), .second, .val (.long q3), .second, .val (.long q4), .second, iv p5, iv (p5 &&& (3 : Int32)), .val (.long q1), .second, .val (.long q1), .second, iv 0, rv b114, .unset] [.ref b116])
        refine own_st (fun t k => XS.dup X116.here hx rfl (hb hby at_107) rfl rfl k) ?_
        show own_E p e below _ T116 (mkF m 108 #[.val (.long q1), .second, .val (.long q2), .second, .val (.long q3), .second, .val (.long q4), .second, iv p5, iv (p5 &&& (3 : Int32)), .val (.long q1), .second, .val (.long q1), .second, iv 0, rv b114, .unset] [.ref b116, .ref b116])
        refine own_st (fun t k => XS.aconstNull X116.here hx rfl (hb hby at_108) k) ?_
        show own_E p e below _ T116 (mkF m 109 #[.val (.long q1), .second, .val (.long q2), .second, .val (.long q3), .second, .val (.long q4), .second, iv p5, iv (p5 &&& (3 : Int32)), .val (.long q1), .second, .val (.long q1), .second, iv 0, rv b114, .unset] [.null, .ref b116, .ref b116])
        refine own_st (fun t k => XS.aconstNull X116.here hx rfl (hb hby at_109) k) ?_
        show own_E p e below _ T116 (mkF m 110 #[.val (.long q1), .second, .val (.long q2), .second, .val (.long q3), .second, .val (.long q4), .second, iv p5, iv (p5 &&& (3 : Int32)), .val (.long q1), .second, .val (.long q1), .second, iv 0, rv b114, .unset] [.null, .null, .ref b116, .ref b116])
        refine own_st (fun t k => XS.lload X116.here hx rfl (hb hby at_110) rfl k) ?_
        show own_E p e below _ T116 (mkF m 112 #[.val (.long q1), .second, .val (.long q2), .second, .val (.long q3), .second, .val (.long q4), .second, iv p5, iv (p5 &&& (3 : Int32)), .val (.long q1), .second, .val (.long q1), .second, iv 0, rv b114, .unset] [.long q4, .null, .null, .ref b116, .ref b116])
        refine own_st (fun t k => XS.lload X116.here hx rfl (hb hby at_112) rfl k) ?_
        show own_E p e below _ T116 (mkF m 114 #[.val (.long q1), .second, .val (.long q2), .second, .val (.long q3), .second, .val (.long q4), .second, iv p5, iv (p5 &&& (3 : Int32)), .val (.long q1), .second, .val (.long q1), .second, iv 0, rv b114, .unset] [.long q3, .long q4, .null, .null, .ref b116, .ref b116])
        refine own_st (fun t k => XS.lload X116.here hx rfl (hb hby at_114) rfl k) ?_
        show own_E p e below _ T116 (mkF m 116 #[.val (.long q1), .second, .val (.long q2), .second, .val (.long q3), .second, .val (.long q4), .second, iv p5, iv (p5 &&& (3 : Int32)), .val (.long q1), .second, .val (.long q1), .second, iv 0, rv b114, .unset] [.long q1, .long q3, .long q4, .null, .null, .ref b116, .ref b116])
        refine own_st (fun t k => XS.lload X116.here hx rfl (hb hby at_116) rfl k) ?_
        show own_E p e below _ T116 (mkF m 118 #[.val (.long q1), .second, .val (.long q2), .second, .val (.long q3), .second, .val (.long q4), .second, iv p5, iv (p5 &&& (3 : Int32)), .val (.long q1), .second, .val (.long q1), .second, iv 0, rv b114, .unset] [.long q1, .long q1, .long q3, .long q4, .null, .null, .ref b116, .ref b116])
        obtain ⟨b119, T119, h119, k119, X119, e119, E119, hS119, hk119, hZ119, ho119, st119⟩ := ldcS (s := s) (vm0 := T114.vm) X116 hx hZ114 ho114 (own_w hw 11 rfl) (own_wS hw) e116 hS114 hk118 (g := (mkF m 118 #[.val (.long q1), .second, .val (.long q2), .second, .val (.long q3), .second, .val (.long q4), .second, iv p5, iv (p5 &&& (3 : Int32)), .val (.long q1), .second, .val (.long q1), .second, iv 0, rv b114, .unset] [.long q1, .long q1, .long q3, .long q4, .null, .null, .ref b116, .ref b116])) rfl (hb hby at_118) (n := 12) (by decide) (by decide) (by decide) (by decide)
        have Z120 := Nat.le_trans Z117 E119.1
        have hk121 := Nat.le_trans hk118 E119.1
        refine own_st st119 ?_
        show own_E p e below _ T119 (mkF m 120 #[.val (.long q1), .second, .val (.long q2), .second, .val (.long q3), .second, .val (.long q4), .second, iv p5, iv (p5 &&& (3 : Int32)), .val (.long q1), .second, .val (.long q1), .second, iv 0, rv b114, .unset] [.ref b119, .long q1, .long q1, .long q3, .long q4, .null, .null, .ref b116, .ref b116])
        refine own_st (fun t k => XS.aload X119.here hx rfl (hb hby at_120) rfl rfl k) ?_
        show own_E p e below _ T119 (mkF m 122 #[.val (.long q1), .second, .val (.long q2), .second, .val (.long q3), .second, .val (.long q4), .second, iv p5, iv (p5 &&& (3 : Int32)), .val (.long q1), .second, .val (.long q1), .second, iv 0, rv b114, .unset] [.ref b114, .ref b119, .long q1, .long q1, .long q3, .long q4, .null, .null, .ref b116, .ref b116])
        refine own_st (fun t k => XS.aconstNull X119.here hx rfl (hb hby at_122) k) ?_
        show own_E p e below _ T119 (mkF m 123 #[.val (.long q1), .second, .val (.long q2), .second, .val (.long q3), .second, .val (.long q4), .second, iv p5, iv (p5 &&& (3 : Int32)), .val (.long q1), .second, .val (.long q1), .second, iv 0, rv b114, .unset] [.null, .ref b114, .ref b119, .long q1, .long q1, .long q3, .long q4, .null, .null, .ref b116, .ref b116])
        refine own_st (fun t k => XS.aconstNull X119.here hx rfl (hb hby at_123) k) ?_
        show own_E p e below _ T119 (mkF m 124 #[.val (.long q1), .second, .val (.long q2), .second, .val (.long q3), .second, .val (.long q4), .second, iv p5, iv (p5 &&& (3 : Int32)), .val (.long q1), .second, .val (.long q1), .second, iv 0, rv b114, .unset] [.null, .null, .ref b114, .ref b119, .long q1, .long q1, .long q3, .long q4, .null, .null, .ref b116, .ref b116])
        refine own_st (fun t k => XS.aconstNull X119.here hx rfl (hb hby at_124) k) ?_
        show own_E p e below _ T119 (mkF m 125 #[.val (.long q1), .second, .val (.long q2), .second, .val (.long q3), .second, .val (.long q4), .second, iv p5, iv (p5 &&& (3 : Int32)), .val (.long q1), .second, .val (.long q1), .second, iv 0, rv b114, .unset] [.null, .null, .null, .ref b114, .ref b119, .long q1, .long q1, .long q3, .long q4, .null, .null, .ref b116, .ref b116])
        refine own_st (fun t k => XS.aconstNull X119.here hx rfl (hb hby at_125) k) ?_
        show own_E p e below _ T119 (mkF m 126 #[.val (.long q1), .second, .val (.long q2), .second, .val (.long q3), .second, .val (.long q4), .second, iv p5, iv (p5 &&& (3 : Int32)), .val (.long q1), .second, .val (.long q1), .second, iv 0, rv b114, .unset] [.null, .null, .null, .null, .ref b114, .ref b119, .long q1, .long q1, .long q3, .long q4, .null, .null, .ref b116, .ref b116])
        have B122 := (A116.ext E119)
        have B123 := (F_id_b116.ext E119)
        have B124 := (F_session_b116.ext E119)
        have B125 := (F_created_b116.ext E119)
        have B126 := (F_amount_b116.ext E119)
        have B127 := (F_amountCaptured_b116.ext E119)
        have B128 := (F_amountRefunded_b116.ext E119)
        have B129 := (F_currency_b116.ext E119)
        have B130 := (F_status_b116.ext E119)
        have B131 := (F_gateway_b116.ext E119)
        have B132 := (F_card_b116.ext E119)
        have B133 := (F_approval_b116.ext E119)
        have B134 := (F_lastError_b116.ext E119)
        obtain ⟨_, _, ⟨T135, L135, k135, n135⟩, -, X135, ⟨Lc135, hQ135, l135, y135, z135⟩, st135⟩ := X119.specialBack hx (y := own_y1) rfl ho119 (mvT hZ119 (own_w hw 12 rfl)) (mvT hZ119 (own_w hw 13 rfl)) (mvT hZ119 (own_w hw 14 rfl)) (by decide) (backOf (W := 1) (own_init l Z a0 hw [] b116 b119 b114 q4 q3 q1 q1 h119 n0 Z120 B122 B123 B124 B125 B126 B127 B128 B129 B130 B131 B132 B133 B134 g_b116) hZ119 (own_w hw 14 rfl) (own_w hw 10 rfl) (by decide) (by decide)) (g := (mkF m 126 #[.val (.long q1), .second, .val (.long q2), .second, .val (.long q3), .second, .val (.long q4), .second, iv p5, iv (p5 &&& (3 : Int32)), .val (.long q1), .second, .val (.long q1), .second, iv 0, rv b114, .unset] [.null, .null, .null, .null, .ref b114, .ref b119, .long q1, .long q1, .long q3, .long q4, .null, .null, .ref b116, .ref b116])) rfl (by rw [hml]; rfl) (Steps.refl _) (a := b116) (argsL := [.null, .null, (.long q4), (.long q3), (.long q1), (.long q1), (.ref b119), (.ref b114), .null, .null, .null, .null]) (rest := [(.ref b116)]) (lenOf own_pd_3 rfl) rfl (by show 2 * 0 + _ ≤ _; exact Nat.le_of_eq rfl) (hb hby at_126) (fun _ _ => ⟨rfl, e119, (by decide : 5 + 0 ≤ _), (by decide : 64 + 0 ≤ _)⟩)
        dsimp only [Pt.U, Pt.locs, Pt.cells, Pt.slots] at X135 l135 y135 z135 st135 hQ135
        subst l135 y135 z135
        obtain ⟨rfl, Nq135, Kq135, P135_0, P135_1, P135_2⟩ := hQ135
        have N135 := Fr.app (Fr.nil n0) Nq135
        have e135 : T135.heap = T135.heap := rfl
        have Z136 := Nat.le_trans Z120 Kq135.1
        have hk137 := Nat.le_trans hk119 Kq135.1
        refine own_tr st135 ?_
        show own_E p e below _ T135 (mkF m 129 #[.val (.long q1), .second, .val (.long q2), .second, .val (.long q3), .second, .val (.long q4), .second, iv p5, iv (p5 &&& (3 : Int32)), .val (.long q1), .second, .val (.long q1), .second, iv 0, rv b114, .unset] [.ref b116])
        refine own_st (fun t k => XS.astore X135.here hx rfl (hb hby at_129) rfl rfl (l' := #[.val (.long q1), .second, .val (.long q2), .second, .val (.long q3), .second, .val (.long q4), .second, iv p5, iv (p5 &&& (3 : Int32)), .val (.long q1), .second, .val (.long q1), .second, iv 0, rv b114, rv b116]) rfl k) ?_
        show own_E p e below _ T135 (mkF m 131 #[.val (.long q1), .second, .val (.long q2), .second, .val (.long q3), .second, .val (.long q4), .second, iv p5, iv (p5 &&& (3 : Int32)), .val (.long q1), .second, .val (.long q1), .second, iv 0, rv b114, rv b116] [])
        refine own_st (fun t k => XS.aload X135.here hx rfl (hb hby at_131) rfl rfl k) ?_
        show own_E p e below _ T135 (mkF m 133 #[.val (.long q1), .second, .val (.long q2), .second, .val (.long q3), .second, .val (.long q4), .second, iv p5, iv (p5 &&& (3 : Int32)), .val (.long q1), .second, .val (.long q1), .second, iv 0, rv b114, rv b116] [.ref b116])
        obtain ⟨cq138, kq138, q138a, q138b, q138c⟩ := isOf hZ119 e135 P135_0
        obtain ⟨_, _, ⟨T138, L138, k138, n138⟩, -, X138, ⟨Lc138, hQ138, l138, y138, z138⟩, st138⟩ := X135.virtualBack hx (y := own_y2) (z := own_y2) ho119 (mvT hZ119 (own_w hw 47 rfl)) (mvT hZ119 (own_w hw 48 rfl)) (notFace_of_selects (args := #[]) (mvT hZ119 (own_w hw 50 rfl))) (mvT hZ119 (own_w hw 50 rfl)) (mvT hZ119 (own_w hw 49 rfl)) (by decide) (backOf (W := 0) (own_isref l Z a0 hw [] b116 q1 q1 T135.heap n0 Z136 P135_1 P135_2) hZ119 (own_w hw 51 rfl) (own_w hw 10 rfl) (by decide) (by decide)) q138a q138c (g := (mkF m 133 #[.val (.long q1), .second, .val (.long q2), .second, .val (.long q3), .second, .val (.long q4), .second, iv p5, iv (p5 &&& (3 : Int32)), .val (.long q1), .second, .val (.long q1), .second, iv 0, rv b114, rv b116] [.ref b116])) rfl (by rw [hml]; rfl) (Steps.refl _) (argsL := []) (rest := []) (lenOf own_pd_1 rfl) rfl (by show 2 * 0 + _ ≤ _; exact Nat.le_of_eq rfl) (hb hby at_133) (fun _ _ => ⟨rfl, e135, (by decide : 5 + 0 ≤ _), (by decide : 64 + 0 ≤ _)⟩)
        dsimp only [Pt.U, Pt.locs, Pt.cells, Pt.slots] at X138 l138 y138 z138 st138 hQ138
        subst l138 y138 z138
        obtain ⟨hR138, e138, rfl⟩ := hQ138
        have N138 := Fr.app N135 (Fr.nil n0)
        rcases hR138 with ⟨rfl, ha138_0, ha138_1⟩ | ⟨rfl, ha138_0, ha138_1⟩ | ⟨rfl, ha138_0⟩
        · exact absurd ha138_0 hc2
        · exact absurd ha138_0 hc2
        · refine own_tr st138 ?_
          show own_E p e below _ T138 (mkF m 136 #[.val (.long q1), .second, .val (.long q2), .second, .val (.long q3), .second, .val (.long q4), .second, iv p5, iv (p5 &&& (3 : Int32)), .val (.long q1), .second, .val (.long q1), .second, iv 0, rv b114, rv b116] [.int 0])
          refine own_st (fun t k => XS.iload X138.here hx rfl (hb hby at_136) rfl k) ?_
          show own_E p e below _ T138 (mkF m 138 #[.val (.long q1), .second, .val (.long q2), .second, .val (.long q3), .second, .val (.long q4), .second, iv p5, iv (p5 &&& (3 : Int32)), .val (.long q1), .second, .val (.long q1), .second, iv 0, rv b114, rv b116] [.int 0, .int 0])
          refine own_st (fun t k => XS.icmpNo X138.here hx rfl (hb hby at_138) rfl (by decide) k) ?_
          show own_E p e below _ T138 (mkF m 141 #[.val (.long q1), .second, .val (.long q2), .second, .val (.long q3), .second, .val (.long q4), .second, iv p5, iv (p5 &&& (3 : Int32)), .val (.long q1), .second, .val (.long q1), .second, iv 0, rv b114, rv b116] [])
          refine own_st (fun t k => XS.iconst X138.here hx rfl (hb hby at_141) k) ?_
          show own_E p e below _ T138 (mkF m 142 #[.val (.long q1), .second, .val (.long q2), .second, .val (.long q3), .second, .val (.long q4), .second, iv p5, iv (p5 &&& (3 : Int32)), .val (.long q1), .second, .val (.long q1), .second, iv 0, rv b114, rv b116] [.int 1])
          refine own_st (fun t k => XS.goto X138.here hx rfl (pc0 := 142) (pc' := 146) rfl (hb hby at_142) (by decide) (by decide) k) ?_
          show own_E p e below _ T138 (mkF m 146 #[.val (.long q1), .second, .val (.long q2), .second, .val (.long q3), .second, .val (.long q4), .second, iv p5, iv (p5 &&& (3 : Int32)), .val (.long q1), .second, .val (.long q1), .second, iv 0, rv b114, rv b116] [.int 1])
          refine own_retSW X138 hS119 (by rw [e138]; exact hk137) hx Bd.notSynchronized Bd.returns rfl (by decide) (hb hby at_146) (by decide) (by decide) ?_
          exact ⟨rfl, N138⟩
  · refine own_st (fun t k => XS.ifYes X0.here hx rfl (pc0 := 8) (pc' := 33) rfl (hb hby at_8) rfl ((if0 _ _).trans (feq hc1).2) (by decide) (by decide) k) ?_
    show own_E p e below _ s₁ (mkF m 33 #[.val (.long q1), .second, .val (.long q2), .second, .val (.long q3), .second, .val (.long q4), .second, iv p5, iv (p5 &&& (3 : Int32)), .unset, .unset, .unset, .unset, .unset, .unset, .unset] [])
    refine own_st (fun t k => XS.iload X0.here hx rfl (hb hby at_33) rfl k) ?_
    show own_E p e below _ s₁ (mkF m 35 #[.val (.long q1), .second, .val (.long q2), .second, .val (.long q3), .second, .val (.long q4), .second, iv p5, iv (p5 &&& (3 : Int32)), .unset, .unset, .unset, .unset, .unset, .unset, .unset] [.int (p5 &&& (3 : Int32))])
    refine own_st (fun t k => XS.iconst X0.here hx rfl (hb hby at_35) k) ?_
    show own_E p e below _ s₁ (mkF m 36 #[.val (.long q1), .second, .val (.long q2), .second, .val (.long q3), .second, .val (.long q4), .second, iv p5, iv (p5 &&& (3 : Int32)), .unset, .unset, .unset, .unset, .unset, .unset, .unset] [.int 1, .int (p5 &&& (3 : Int32))])
    by_cases hc139 : (p5 &&& (3 : Int32)) = (1 : Int32)
    · refine own_st (fun t k => XS.icmpNo X0.here hx rfl (hb hby at_36) rfl (teq hc139).2 k) ?_
      show own_E p e below _ s₁ (mkF m 39 #[.val (.long q1), .second, .val (.long q2), .second, .val (.long q3), .second, .val (.long q4), .second, iv p5, iv (p5 &&& (3 : Int32)), .unset, .unset, .unset, .unset, .unset, .unset, .unset] [])
      refine own_st (fun t k => XS.lloadN X0.here hx rfl (hb hby at_39) rfl k) ?_
      show own_E p e below _ s₁ (mkF m 40 #[.val (.long q1), .second, .val (.long q2), .second, .val (.long q3), .second, .val (.long q4), .second, iv p5, iv (p5 &&& (3 : Int32)), .unset, .unset, .unset, .unset, .unset, .unset, .unset] [.long q1])
      refine own_st (fun t k => XS.lstore X0.here hx rfl (hb hby at_40) rfl (l' := #[.val (.long q1), .second, .val (.long q2), .second, .val (.long q3), .second, .val (.long q4), .second, iv p5, iv (p5 &&& (3 : Int32)), .val (.long q1), .second, .unset, .unset, .unset, .unset, .unset]) rfl k) ?_
      show own_E p e below _ s₁ (mkF m 42 #[.val (.long q1), .second, .val (.long q2), .second, .val (.long q3), .second, .val (.long q4), .second, iv p5, iv (p5 &&& (3 : Int32)), .val (.long q1), .second, .unset, .unset, .unset, .unset, .unset] [])
      refine own_st (fun t k => XS.lloadN X0.here hx rfl (hb hby at_42) rfl k) ?_
      show own_E p e below _ s₁ (mkF m 43 #[.val (.long q1), .second, .val (.long q2), .second, .val (.long q3), .second, .val (.long q4), .second, iv p5, iv (p5 &&& (3 : Int32)), .val (.long q1), .second, .unset, .unset, .unset, .unset, .unset] [.long q1])
      refine own_st (fun t k => XS.lloadN X0.here hx rfl (hb hby at_43) rfl k) ?_
      show own_E p e below _ s₁ (mkF m 44 #[.val (.long q1), .second, .val (.long q2), .second, .val (.long q3), .second, .val (.long q4), .second, iv p5, iv (p5 &&& (3 : Int32)), .val (.long q1), .second, .unset, .unset, .unset, .unset, .unset] [.long q2, .long q1])
      refine own_st (fun t k => XS.lconst X0.here hx rfl (hb hby at_44) k) ?_
      show own_E p e below _ s₁ (mkF m 45 #[.val (.long q1), .second, .val (.long q2), .second, .val (.long q3), .second, .val (.long q4), .second, iv p5, iv (p5 &&& (3 : Int32)), .val (.long q1), .second, .unset, .unset, .unset, .unset, .unset] [.long 1, .long q2, .long q1])
      refine own_st (fun t k => XS.lor X0.here hx rfl (hb hby at_45) rfl k) ?_
      show own_E p e below _ s₁ (mkF m 46 #[.val (.long q1), .second, .val (.long q2), .second, .val (.long q3), .second, .val (.long q4), .second, iv p5, iv (p5 &&& (3 : Int32)), .val (.long q1), .second, .unset, .unset, .unset, .unset, .unset] [.long (q2 ||| (1 : Int64)), .long q1])
      refine own_st (fun t k => XS.ladd X0.here hx rfl (hb hby at_46) rfl k) ?_
      show own_E p e below _ s₁ (mkF m 47 #[.val (.long q1), .second, .val (.long q2), .second, .val (.long q3), .second, .val (.long q4), .second, iv p5, iv (p5 &&& (3 : Int32)), .val (.long q1), .second, .unset, .unset, .unset, .unset, .unset] [.long (q1 + (q2 ||| (1 : Int64)))])
      refine own_st (fun t k => XS.lstore X0.here hx rfl (hb hby at_47) rfl (l' := #[.val (.long q1), .second, .val (.long q2), .second, .val (.long q3), .second, .val (.long q4), .second, iv p5, iv (p5 &&& (3 : Int32)), .val (.long q1), .second, .val (.long (q1 + (q2 ||| (1 : Int64)))), .second, .unset, .unset, .unset]) rfl k) ?_
      show own_E p e below _ s₁ (mkF m 49 #[.val (.long q1), .second, .val (.long q2), .second, .val (.long q3), .second, .val (.long q4), .second, iv p5, iv (p5 &&& (3 : Int32)), .val (.long q1), .second, .val (.long (q1 + (q2 ||| (1 : Int64)))), .second, .unset, .unset, .unset] [])
      refine own_st (fun t k => XS.iconst X0.here hx rfl (hb hby at_49) k) ?_
      show own_E p e below _ s₁ (mkF m 50 #[.val (.long q1), .second, .val (.long q2), .second, .val (.long q3), .second, .val (.long q4), .second, iv p5, iv (p5 &&& (3 : Int32)), .val (.long q1), .second, .val (.long (q1 + (q2 ||| (1 : Int64)))), .second, .unset, .unset, .unset] [.int 0])
      refine own_st (fun t k => XS.istore X0.here hx rfl (hb hby at_50) rfl (l' := #[.val (.long q1), .second, .val (.long q2), .second, .val (.long q3), .second, .val (.long q4), .second, iv p5, iv (p5 &&& (3 : Int32)), .val (.long q1), .second, .val (.long (q1 + (q2 ||| (1 : Int64)))), .second, iv 0, .unset, .unset]) rfl k) ?_
      show own_E p e below _ s₁ (mkF m 52 #[.val (.long q1), .second, .val (.long q2), .second, .val (.long q3), .second, .val (.long q4), .second, iv p5, iv (p5 &&& (3 : Int32)), .val (.long q1), .second, .val (.long (q1 + (q2 ||| (1 : Int64)))), .second, iv 0, .unset, .unset] [])
      refine own_st (fun t k => XS.goto X0.here hx rfl (pc0 := 52) (pc' := 86) rfl (hb hby at_52) (by decide) (by decide) k) ?_
      show own_E p e below _ s₁ (mkF m 86 #[.val (.long q1), .second, .val (.long q2), .second, .val (.long q3), .second, .val (.long q4), .second, iv p5, iv (p5 &&& (3 : Int32)), .val (.long q1), .second, .val (.long (q1 + (q2 ||| (1 : Int64)))), .second, iv 0, .unset, .unset] [])
      refine own_st (fun t k => XS.iload X0.here hx rfl (hb hby at_86) rfl k) ?_
      show own_E p e below _ s₁ (mkF m 88 #[.val (.long q1), .second, .val (.long q2), .second, .val (.long q3), .second, .val (.long q4), .second, iv p5, iv (p5 &&& (3 : Int32)), .val (.long q1), .second, .val (.long (q1 + (q2 ||| (1 : Int64)))), .second, iv 0, .unset, .unset] [.int p5])
      refine own_st (fun t k => XS.iconst X0.here hx rfl (hb hby at_88) k) ?_
      show own_E p e below _ s₁ (mkF m 89 #[.val (.long q1), .second, .val (.long q2), .second, .val (.long q3), .second, .val (.long q4), .second, iv p5, iv (p5 &&& (3 : Int32)), .val (.long q1), .second, .val (.long (q1 + (q2 ||| (1 : Int64)))), .second, iv 0, .unset, .unset] [.int 2, .int p5])
      refine own_st (fun t k => XS.iushr X0.here hx rfl (hb hby at_89) rfl k) ?_
      show own_E p e below _ s₁ (mkF m 90 #[.val (.long q1), .second, .val (.long q2), .second, .val (.long q3), .second, .val (.long q4), .second, iv p5, iv (p5 &&& (3 : Int32)), .val (.long q1), .second, .val (.long (q1 + (q2 ||| (1 : Int64)))), .second, iv 0, .unset, .unset] [.int ((p5.toUInt32 >>> ((2 : Int32) &&& 31).toUInt32).toInt32)])
      refine own_st (fun t k => XS.iconst X0.here hx rfl (hb hby at_90) k) ?_
      show own_E p e below _ s₁ (mkF m 91 #[.val (.long q1), .second, .val (.long q2), .second, .val (.long q3), .second, .val (.long q4), .second, iv p5, iv (p5 &&& (3 : Int32)), .val (.long q1), .second, .val (.long (q1 + (q2 ||| (1 : Int64)))), .second, iv 0, .unset, .unset] [.int 1, .int ((p5.toUInt32 >>> ((2 : Int32) &&& 31).toUInt32).toInt32)])
      refine own_st (fun t k => XS.iand X0.here hx rfl (hb hby at_91) rfl k) ?_
      show own_E p e below _ s₁ (mkF m 92 #[.val (.long q1), .second, .val (.long q2), .second, .val (.long q3), .second, .val (.long q4), .second, iv p5, iv (p5 &&& (3 : Int32)), .val (.long q1), .second, .val (.long (q1 + (q2 ||| (1 : Int64)))), .second, iv 0, .unset, .unset] [.int (((p5.toUInt32 >>> ((2 : Int32) &&& 31).toUInt32).toInt32) &&& (1 : Int32))])
      by_cases hc140 : (((p5.toUInt32 >>> ((2 : Int32) &&& 31).toUInt32).toInt32) &&& (1 : Int32)) = (0 : Int32)
      · refine own_st (fun t k => XS.ifYes X0.here hx rfl (pc0 := 92) (pc' := 100) rfl (hb hby at_92) rfl ((if0 _ _).trans (teq hc140).1) (by decide) (by decide) k) ?_
        show own_E p e below _ s₁ (mkF m 100 #[.val (.long q1), .second, .val (.long q2), .second, .val (.long q3), .second, .val (.long q4), .second, iv p5, iv (p5 &&& (3 : Int32)), .val (.long q1), .second, .val (.long (q1 + (q2 ||| (1 : Int64)))), .second, iv 0, .unset, .unset] [])
        obtain ⟨b141, T141, h141, k141, X141, e141, E141, hS141, hk141, hZ141, ho141, st141⟩ := ldcS (s := s) (vm0 := s.vm) X0 hx hZ hown (own_w hw 0 rfl) (own_wS hw) e0 (own_since s) (Nat.zero_le _) (g := (mkF m 100 #[.val (.long q1), .second, .val (.long q2), .second, .val (.long q3), .second, .val (.long q4), .second, iv p5, iv (p5 &&& (3 : Int32)), .val (.long q1), .second, .val (.long (q1 + (q2 ||| (1 : Int64)))), .second, iv 0, .unset, .unset] [])) rfl (hb hby at_100) (n := 24) (by decide) (by decide) (by decide) (by decide)
        have Z142 := Nat.le_trans Z0 E141.1
        refine own_st st141 ?_
        show own_E p e below _ T141 (mkF m 102 #[.val (.long q1), .second, .val (.long q2), .second, .val (.long q3), .second, .val (.long q4), .second, iv p5, iv (p5 &&& (3 : Int32)), .val (.long q1), .second, .val (.long (q1 + (q2 ||| (1 : Int64)))), .second, iv 0, .unset, .unset] [.ref b141])
        refine own_st (fun t k => XS.astore X141.here hx rfl (hb hby at_102) rfl rfl (l' := #[.val (.long q1), .second, .val (.long q2), .second, .val (.long q3), .second, .val (.long q4), .second, iv p5, iv (p5 &&& (3 : Int32)), .val (.long q1), .second, .val (.long (q1 + (q2 ||| (1 : Int64)))), .second, iv 0, rv b141, .unset]) rfl k) ?_
        show own_E p e below _ T141 (mkF m 104 #[.val (.long q1), .second, .val (.long q2), .second, .val (.long q3), .second, .val (.long q4), .second, iv p5, iv (p5 &&& (3 : Int32)), .val (.long q1), .second, .val (.long (q1 + (q2 ||| (1 : Int64)))), .second, iv 0, rv b141, .unset] [])
        obtain ⟨T143, h143, X143, e143, E143, A143, D143, -, st143⟩ := newO X141 hx hZ141 ho141 (own_w hw 8 rfl) (own_w hw 9 rfl) (own_w hw 10 rfl) e141 (g := (mkF m 104 #[.val (.long q1), .second, .val (.long q2), .second, .val (.long q3), .second, .val (.long q4), .second, iv p5, iv (p5 &&& (3 : Int32)), .val (.long q1), .second, .val (.long (q1 + (q2 ||| (1 : Int64)))), .second, iv 0, rv b141, .unset] [])) rfl (hb hby at_104) (by decide) (by decide)
        obtain ⟨b143, g143⟩ : ∃ z, z = h141.size := ⟨_, rfl⟩
        rw [← g143] at A143 D143 st143
        have g_b143 : n0 ≤ b143 := Nat.le_trans Z142 (Nat.le_of_eq g143.symm)
        have Z144 := Nat.le_trans Z142 E143.1
        have hk145 := Nat.le_trans hk141 E143.1
        have F_id_b143 : Fld Z h143 b143 "com/example/acquirer/acquirer/Payment" "id" "Ljava/lang/String;" .null := D143 (Or.inr (own_w hw 24 rfl)) (ty := (.object "java/lang/String")) (by decide)
        have F_session_b143 : Fld Z h143 b143 "com/example/acquirer/acquirer/Payment" "session" "Ljava/lang/String;" .null := D143 (Or.inr (own_w hw 26 rfl)) (ty := (.object "java/lang/String")) (by decide)
        have F_created_b143 : Fld Z h143 b143 "com/example/acquirer/acquirer/Payment" "created" "J" (.long (0 : Int64)) := D143 (Or.inr (own_w hw 28 rfl)) (ty := .long) (by decide)
        have F_amount_b143 : Fld Z h143 b143 "com/example/acquirer/acquirer/Payment" "amount" "J" (.long (0 : Int64)) := D143 (Or.inr (own_w hw 30 rfl)) (ty := .long) (by decide)
        have F_amountCaptured_b143 : Fld Z h143 b143 "com/example/acquirer/acquirer/Payment" "amountCaptured" "J" (.long (0 : Int64)) := D143 (Or.inr (own_w hw 32 rfl)) (ty := .long) (by decide)
        have F_amountRefunded_b143 : Fld Z h143 b143 "com/example/acquirer/acquirer/Payment" "amountRefunded" "J" (.long (0 : Int64)) := D143 (Or.inr (own_w hw 34 rfl)) (ty := .long) (by decide)
        have F_currency_b143 : Fld Z h143 b143 "com/example/acquirer/acquirer/Payment" "currency" "Ljava/lang/String;" .null := D143 (Or.inr (own_w hw 36 rfl)) (ty := (.object "java/lang/String")) (by decide)
        have F_status_b143 : Fld Z h143 b143 "com/example/acquirer/acquirer/Payment" "status" "Ljava/lang/String;" .null := D143 (Or.inr (own_w hw 38 rfl)) (ty := (.object "java/lang/String")) (by decide)
        have F_gateway_b143 : Fld Z h143 b143 "com/example/acquirer/acquirer/Payment" "gateway" "Ljava/lang/String;" .null := D143 (Or.inr (own_w hw 40 rfl)) (ty := (.object "java/lang/String")) (by decide)
        have F_card_b143 : Fld Z h143 b143 "com/example/acquirer/acquirer/Payment" "card" "Lcom/example/acquirer/acquirer/Card;" .null := D143 (Or.inr (own_w hw 42 rfl)) (ty := (.object "com/example/acquirer/acquirer/Card")) (by decide)
        have F_approval_b143 : Fld Z h143 b143 "com/example/acquirer/acquirer/Payment" "approval" "Lcom/example/acquirer/acquirer/Approval;" .null := D143 (Or.inr (own_w hw 44 rfl)) (ty := (.object "com/example/acquirer/acquirer/Approval")) (by decide)
        have F_lastError_b143 : Fld Z h143 b143 "com/example/acquirer/acquirer/Payment" "lastError" "Ljava/lang/String;" .null := D143 (Or.inr (own_w hw 46 rfl)) (ty := (.object "java/lang/String")) (by decide)
        refine own_st st143 ?_
        show own_E p e below _ T143 (mkF m 107 #[.val (.long q1), .second, .val (.long q2), .second, .val (.long q3), .second, .val (.long q4), .second, iv p5, iv (p5 &&& (3 : Int32)), .val (.long q1), .second, .val (.long (q1 + (q2 ||| (1 : Int64)))), .second, iv 0, rv b141, .unset] [.ref b143])
        refine own_st (fun t k => XS.dup X143.here hx rfl (hb hby at_107) rfl rfl k) ?_
        show own_E p e below _ T143 (mkF m 108 #[.val (.long q1), .second, .val (.long q2), .second, .val (.long q3), .second, .val (.long q4), .second, iv p5, iv (p5 &&& (3 : Int32)), .val (.long q1), .second, .val (.long (q1 + (q2 ||| (1 : Int64)))), .second, iv 0, rv b141, .unset] [.ref b143, .ref b143])
        refine own_st (fun t k => XS.aconstNull X143.here hx rfl (hb hby at_108) k) ?_
        show own_E p e below _ T143 (mkF m 109 #[.val (.long q1), .second, .val (.long q2), .second, .val (.long q3), .second, .val (.long q4), .second, iv p5, iv (p5 &&& (3 : Int32)), .val (.long q1), .second, .val (.long (q1 + (q2 ||| (1 : Int64)))), .second, iv 0, rv b141, .unset] [.null, .ref b143, .ref b143])
        refine own_st (fun t k => XS.aconstNull X143.here hx rfl (hb hby at_109) k) ?_
        show own_E p e below _ T143 (mkF m 110 #[.val (.long q1), .second, .val (.long q2), .second, .val (.long q3), .second, .val (.long q4), .second, iv p5, iv (p5 &&& (3 : Int32)), .val (.long q1), .second, .val (.long (q1 + (q2 ||| (1 : Int64)))), .second, iv 0, rv b141, .unset] [.null, .null, .ref b143, .ref b143])
        refine own_st (fun t k => XS.lload X143.here hx rfl (hb hby at_110) rfl k) ?_
        show own_E p e below _ T143 (mkF m 112 #[.val (.long q1), .second, .val (.long q2), .second, .val (.long q3), .second, .val (.long q4), .second, iv p5, iv (p5 &&& (3 : Int32)), .val (.long q1), .second, .val (.long (q1 + (q2 ||| (1 : Int64)))), .second, iv 0, rv b141, .unset] [.long q4, .null, .null, .ref b143, .ref b143])
        refine own_st (fun t k => XS.lload X143.here hx rfl (hb hby at_112) rfl k) ?_
        show own_E p e below _ T143 (mkF m 114 #[.val (.long q1), .second, .val (.long q2), .second, .val (.long q3), .second, .val (.long q4), .second, iv p5, iv (p5 &&& (3 : Int32)), .val (.long q1), .second, .val (.long (q1 + (q2 ||| (1 : Int64)))), .second, iv 0, rv b141, .unset] [.long q3, .long q4, .null, .null, .ref b143, .ref b143])
        refine own_st (fun t k => XS.lload X143.here hx rfl (hb hby at_114) rfl k) ?_
        show own_E p e below _ T143 (mkF m 116 #[.val (.long q1), .second, .val (.long q2), .second, .val (.long q3), .second, .val (.long q4), .second, iv p5, iv (p5 &&& (3 : Int32)), .val (.long q1), .second, .val (.long (q1 + (q2 ||| (1 : Int64)))), .second, iv 0, rv b141, .unset] [.long q1, .long q3, .long q4, .null, .null, .ref b143, .ref b143])
        refine own_st (fun t k => XS.lload X143.here hx rfl (hb hby at_116) rfl k) ?_
        show own_E p e below _ T143 (mkF m 118 #[.val (.long q1), .second, .val (.long q2), .second, .val (.long q3), .second, .val (.long q4), .second, iv p5, iv (p5 &&& (3 : Int32)), .val (.long q1), .second, .val (.long (q1 + (q2 ||| (1 : Int64)))), .second, iv 0, rv b141, .unset] [.long (q1 + (q2 ||| (1 : Int64))), .long q1, .long q3, .long q4, .null, .null, .ref b143, .ref b143])
        obtain ⟨b146, T146, h146, k146, X146, e146, E146, hS146, hk146, hZ146, ho146, st146⟩ := ldcS (s := s) (vm0 := T141.vm) X143 hx hZ141 ho141 (own_w hw 11 rfl) (own_wS hw) e143 hS141 hk145 (g := (mkF m 118 #[.val (.long q1), .second, .val (.long q2), .second, .val (.long q3), .second, .val (.long q4), .second, iv p5, iv (p5 &&& (3 : Int32)), .val (.long q1), .second, .val (.long (q1 + (q2 ||| (1 : Int64)))), .second, iv 0, rv b141, .unset] [.long (q1 + (q2 ||| (1 : Int64))), .long q1, .long q3, .long q4, .null, .null, .ref b143, .ref b143])) rfl (hb hby at_118) (n := 12) (by decide) (by decide) (by decide) (by decide)
        have Z147 := Nat.le_trans Z144 E146.1
        have hk148 := Nat.le_trans hk145 E146.1
        refine own_st st146 ?_
        show own_E p e below _ T146 (mkF m 120 #[.val (.long q1), .second, .val (.long q2), .second, .val (.long q3), .second, .val (.long q4), .second, iv p5, iv (p5 &&& (3 : Int32)), .val (.long q1), .second, .val (.long (q1 + (q2 ||| (1 : Int64)))), .second, iv 0, rv b141, .unset] [.ref b146, .long (q1 + (q2 ||| (1 : Int64))), .long q1, .long q3, .long q4, .null, .null, .ref b143, .ref b143])
        refine own_st (fun t k => XS.aload X146.here hx rfl (hb hby at_120) rfl rfl k) ?_
        show own_E p e below _ T146 (mkF m 122 #[.val (.long q1), .second, .val (.long q2), .second, .val (.long q3), .second, .val (.long q4), .second, iv p5, iv (p5 &&& (3 : Int32)), .val (.long q1), .second, .val (.long (q1 + (q2 ||| (1 : Int64)))), .second, iv 0, rv b141, .unset] [.ref b141, .ref b146, .long (q1 + (q2 ||| (1 : Int64))), .long q1, .long q3, .long q4, .null, .null, .ref b143, .ref b143])
        refine own_st (fun t k => XS.aconstNull X146.here hx rfl (hb hby at_122) k) ?_
        show own_E p e below _ T146 (mkF m 123 #[.val (.long q1), .second, .val (.long q2), .second, .val (.long q3), .second, .val (.long q4), .second, iv p5, iv (p5 &&& (3 : Int32)), .val (.long q1), .second, .val (.long (q1 + (q2 ||| (1 : Int64)))), .second, iv 0, rv b141, .unset] [.null, .ref b141, .ref b146, .long (q1 + (q2 ||| (1 : Int64))), .long q1, .long q3, .long q4, .null, .null, .ref b143, .ref b143])
        refine own_st (fun t k => XS.aconstNull X146.here hx rfl (hb hby at_123) k) ?_
        show own_E p e below _ T146 (mkF m 124 #[.val (.long q1), .second, .val (.long q2), .second, .val (.long q3), .second, .val (.long q4), .second, iv p5, iv (p5 &&& (3 : Int32)), .val (.long q1), .second, .val (.long (q1 + (q2 ||| (1 : Int64)))), .second, iv 0, rv b141, .unset] [.null, .null, .ref b141, .ref b146, .long (q1 + (q2 ||| (1 : Int64))), .long q1, .long q3, .long q4, .null, .null, .ref b143, .ref b143])
        refine own_st (fun t k => XS.aconstNull X146.here hx rfl (hb hby at_124) k) ?_
        show own_E p e below _ T146 (mkF m 125 #[.val (.long q1), .second, .val (.long q2), .second, .val (.long q3), .second, .val (.long q4), .second, iv p5, iv (p5 &&& (3 : Int32)), .val (.long q1), .second, .val (.long (q1 + (q2 ||| (1 : Int64)))), .second, iv 0, rv b141, .unset] [.null, .null, .null, .ref b141, .ref b146, .long (q1 + (q2 ||| (1 : Int64))), .long q1, .long q3, .long q4, .null, .null, .ref b143, .ref b143])
        refine own_st (fun t k => XS.aconstNull X146.here hx rfl (hb hby at_125) k) ?_
        show own_E p e below _ T146 (mkF m 126 #[.val (.long q1), .second, .val (.long q2), .second, .val (.long q3), .second, .val (.long q4), .second, iv p5, iv (p5 &&& (3 : Int32)), .val (.long q1), .second, .val (.long (q1 + (q2 ||| (1 : Int64)))), .second, iv 0, rv b141, .unset] [.null, .null, .null, .null, .ref b141, .ref b146, .long (q1 + (q2 ||| (1 : Int64))), .long q1, .long q3, .long q4, .null, .null, .ref b143, .ref b143])
        have B149 := (A143.ext E146)
        have B150 := (F_id_b143.ext E146)
        have B151 := (F_session_b143.ext E146)
        have B152 := (F_created_b143.ext E146)
        have B153 := (F_amount_b143.ext E146)
        have B154 := (F_amountCaptured_b143.ext E146)
        have B155 := (F_amountRefunded_b143.ext E146)
        have B156 := (F_currency_b143.ext E146)
        have B157 := (F_status_b143.ext E146)
        have B158 := (F_gateway_b143.ext E146)
        have B159 := (F_card_b143.ext E146)
        have B160 := (F_approval_b143.ext E146)
        have B161 := (F_lastError_b143.ext E146)
        obtain ⟨_, _, ⟨T162, L162, k162, n162⟩, -, X162, ⟨Lc162, hQ162, l162, y162, z162⟩, st162⟩ := X146.specialBack hx (y := own_y1) rfl ho146 (mvT hZ146 (own_w hw 12 rfl)) (mvT hZ146 (own_w hw 13 rfl)) (mvT hZ146 (own_w hw 14 rfl)) (by decide) (backOf (W := 1) (own_init l Z a0 hw [] b143 b146 b141 q4 q3 q1 (q1 + (q2 ||| (1 : Int64))) h146 n0 Z147 B149 B150 B151 B152 B153 B154 B155 B156 B157 B158 B159 B160 B161 g_b143) hZ146 (own_w hw 14 rfl) (own_w hw 10 rfl) (by decide) (by decide)) (g := (mkF m 126 #[.val (.long q1), .second, .val (.long q2), .second, .val (.long q3), .second, .val (.long q4), .second, iv p5, iv (p5 &&& (3 : Int32)), .val (.long q1), .second, .val (.long (q1 + (q2 ||| (1 : Int64)))), .second, iv 0, rv b141, .unset] [.null, .null, .null, .null, .ref b141, .ref b146, .long (q1 + (q2 ||| (1 : Int64))), .long q1, .long q3, .long q4, .null, .null, .ref b143, .ref b143])) rfl (by rw [hml]; rfl) (Steps.refl _) (a := b143) (argsL := [.null, .null, (.long q4), (.long q3), (.long q1), (.long (q1 + (q2 ||| (1 : Int64)))), (.ref b146), (.ref b141), .null, .null, .null, .null]) (rest := [(.ref b143)]) (lenOf own_pd_3 rfl) rfl (by show 2 * 0 + _ ≤ _; exact Nat.le_of_eq rfl) (hb hby at_126) (fun _ _ => ⟨rfl, e146, (by decide : 5 + 0 ≤ _), (by decide : 56 + 0 ≤ _)⟩)
        dsimp only [Pt.U, Pt.locs, Pt.cells, Pt.slots] at X162 l162 y162 z162 st162 hQ162
        subst l162 y162 z162
        obtain ⟨rfl, Nq162, Kq162, P162_0, P162_1, P162_2⟩ := hQ162
        have N162 := Fr.app (Fr.nil n0) Nq162
        have e162 : T162.heap = T162.heap := rfl
        have Z163 := Nat.le_trans Z147 Kq162.1
        have hk164 := Nat.le_trans hk146 Kq162.1
        refine own_tr st162 ?_
        show own_E p e below _ T162 (mkF m 129 #[.val (.long q1), .second, .val (.long q2), .second, .val (.long q3), .second, .val (.long q4), .second, iv p5, iv (p5 &&& (3 : Int32)), .val (.long q1), .second, .val (.long (q1 + (q2 ||| (1 : Int64)))), .second, iv 0, rv b141, .unset] [.ref b143])
        refine own_st (fun t k => XS.astore X162.here hx rfl (hb hby at_129) rfl rfl (l' := #[.val (.long q1), .second, .val (.long q2), .second, .val (.long q3), .second, .val (.long q4), .second, iv p5, iv (p5 &&& (3 : Int32)), .val (.long q1), .second, .val (.long (q1 + (q2 ||| (1 : Int64)))), .second, iv 0, rv b141, rv b143]) rfl k) ?_
        show own_E p e below _ T162 (mkF m 131 #[.val (.long q1), .second, .val (.long q2), .second, .val (.long q3), .second, .val (.long q4), .second, iv p5, iv (p5 &&& (3 : Int32)), .val (.long q1), .second, .val (.long (q1 + (q2 ||| (1 : Int64)))), .second, iv 0, rv b141, rv b143] [])
        refine own_st (fun t k => XS.aload X162.here hx rfl (hb hby at_131) rfl rfl k) ?_
        show own_E p e below _ T162 (mkF m 133 #[.val (.long q1), .second, .val (.long q2), .second, .val (.long q3), .second, .val (.long q4), .second, iv p5, iv (p5 &&& (3 : Int32)), .val (.long q1), .second, .val (.long (q1 + (q2 ||| (1 : Int64)))), .second, iv 0, rv b141, rv b143] [.ref b143])
        obtain ⟨cq165, kq165, q165a, q165b, q165c⟩ := isOf hZ146 e162 P162_0
        obtain ⟨_, _, ⟨T165, L165, k165, n165⟩, -, X165, ⟨Lc165, hQ165, l165, y165, z165⟩, st165⟩ := X162.virtualBack hx (y := own_y2) (z := own_y2) ho146 (mvT hZ146 (own_w hw 47 rfl)) (mvT hZ146 (own_w hw 48 rfl)) (notFace_of_selects (args := #[]) (mvT hZ146 (own_w hw 50 rfl))) (mvT hZ146 (own_w hw 50 rfl)) (mvT hZ146 (own_w hw 49 rfl)) (by decide) (backOf (W := 0) (own_isref l Z a0 hw [] b143 q1 (q1 + (q2 ||| (1 : Int64))) T162.heap n0 Z163 P162_1 P162_2) hZ146 (own_w hw 51 rfl) (own_w hw 10 rfl) (by decide) (by decide)) q165a q165c (g := (mkF m 133 #[.val (.long q1), .second, .val (.long q2), .second, .val (.long q3), .second, .val (.long q4), .second, iv p5, iv (p5 &&& (3 : Int32)), .val (.long q1), .second, .val (.long (q1 + (q2 ||| (1 : Int64)))), .second, iv 0, rv b141, rv b143] [.ref b143])) rfl (by rw [hml]; rfl) (Steps.refl _) (argsL := []) (rest := []) (lenOf own_pd_1 rfl) rfl (by show 2 * 0 + _ ≤ _; exact Nat.le_of_eq rfl) (hb hby at_133) (fun _ _ => ⟨rfl, e162, (by decide : 5 + 0 ≤ _), (by decide : 56 + 0 ≤ _)⟩)
        dsimp only [Pt.U, Pt.locs, Pt.cells, Pt.slots] at X165 l165 y165 z165 st165 hQ165
        subst l165 y165 z165
        obtain ⟨hR165, e165, rfl⟩ := hQ165
        have N165 := Fr.app N162 (Fr.nil n0)
        rcases hR165 with ⟨rfl, ha165_0, ha165_1⟩ | ⟨rfl, ha165_0, ha165_1⟩ | ⟨rfl, ha165_0⟩
        · exfalso
          have f166 := rng32 p5
          have f167 : (3 : Int32).toInt = 3 := rfl
          have f168 := rng32 (p5 &&& (3 : Int32))
          have f169 : (p5 &&& (3 : Int32)).toInt = p5.toInt % 4 := c_mask p5 (3 : Int32) 2 (by decide) (by decide)
          have f170 : (0 : Int32).toInt = 0 := rfl
          have f171 : (1 : Int32).toInt = 1 := rfl
          have f172 : (2 : Int32).toInt = 2 := rfl
          have f173 := rng32 ((p5.toUInt32 >>> ((2 : Int32) &&& 31).toUInt32).toInt32)
          have f174 : ((p5.toUInt32 >>> ((2 : Int32) &&& 31).toUInt32).toInt32).toInt = (p5.toInt % 4294967296) / 4 := c_iushr p5 (2 : Int32) 2 (by decide) (by decide)
          have f175 := rng32 (((p5.toUInt32 >>> ((2 : Int32) &&& 31).toUInt32).toInt32) &&& (1 : Int32))
          have f176 : (((p5.toUInt32 >>> ((2 : Int32) &&& 31).toUInt32).toInt32) &&& (1 : Int32)).toInt = ((p5.toUInt32 >>> ((2 : Int32) &&& 31).toUInt32).toInt32).toInt % 2 := c_mask ((p5.toUInt32 >>> ((2 : Int32) &&& 31).toUInt32).toInt32) (1 : Int32) 1 (by decide) (by decide)
          have f177 : (0 : Int64).toInt = 0 := rfl
          have f178 := rng64 q1
          have f179 := rng64 q2
          have f180 : (1 : Int64).toInt = 1 := rfl
          have f181 := rng64 (q2 ||| (1 : Int64))
          have f182 := own_lor1 q2
          have f183 := rng64 (q1 + (q2 ||| (1 : Int64)))
          have f184 := c_ladd q1 (q2 ||| (1 : Int64))
          have g185 := hc1
          rw [← Int32.toInt_inj] at g185
          have g186 := hc139
          rw [← Int32.toInt_inj] at g186
          have g187 := hc140
          rw [← Int32.toInt_inj] at g187
          have g188 := ha165_0
          rw [Int64.lt_iff_toInt_lt] at g188
          have g189 := ha165_1
          rw [← Int64.toInt_inj] at g189
          omega
        · refine own_tr st165 ?_
          show own_E p e below _ T165 (mkF m 136 #[.val (.long q1), .second, .val (.long q2), .second, .val (.long q3), .second, .val (.long q4), .second, iv p5, iv (p5 &&& (3 : Int32)), .val (.long q1), .second, .val (.long (q1 + (q2 ||| (1 : Int64)))), .second, iv 0, rv b141, rv b143] [.int 0])
          refine own_st (fun t k => XS.iload X165.here hx rfl (hb hby at_136) rfl k) ?_
          show own_E p e below _ T165 (mkF m 138 #[.val (.long q1), .second, .val (.long q2), .second, .val (.long q3), .second, .val (.long q4), .second, iv p5, iv (p5 &&& (3 : Int32)), .val (.long q1), .second, .val (.long (q1 + (q2 ||| (1 : Int64)))), .second, iv 0, rv b141, rv b143] [.int 0, .int 0])
          refine own_st (fun t k => XS.icmpNo X165.here hx rfl (hb hby at_138) rfl (by decide) k) ?_
          show own_E p e below _ T165 (mkF m 141 #[.val (.long q1), .second, .val (.long q2), .second, .val (.long q3), .second, .val (.long q4), .second, iv p5, iv (p5 &&& (3 : Int32)), .val (.long q1), .second, .val (.long (q1 + (q2 ||| (1 : Int64)))), .second, iv 0, rv b141, rv b143] [])
          refine own_st (fun t k => XS.iconst X165.here hx rfl (hb hby at_141) k) ?_
          show own_E p e below _ T165 (mkF m 142 #[.val (.long q1), .second, .val (.long q2), .second, .val (.long q3), .second, .val (.long q4), .second, iv p5, iv (p5 &&& (3 : Int32)), .val (.long q1), .second, .val (.long (q1 + (q2 ||| (1 : Int64)))), .second, iv 0, rv b141, rv b143] [.int 1])
          refine own_st (fun t k => XS.goto X165.here hx rfl (pc0 := 142) (pc' := 146) rfl (hb hby at_142) (by decide) (by decide) k) ?_
          show own_E p e below _ T165 (mkF m 146 #[.val (.long q1), .second, .val (.long q2), .second, .val (.long q3), .second, .val (.long q4), .second, iv p5, iv (p5 &&& (3 : Int32)), .val (.long q1), .second, .val (.long (q1 + (q2 ||| (1 : Int64)))), .second, iv 0, rv b141, rv b143] [.int 1])
          refine own_retSW X165 hS146 (by rw [e165]; exact hk164) hx Bd.notSynchronized Bd.returns rfl (by decide) (hb hby at_146) (by decide) (by decide) ?_
          exact ⟨rfl, N165⟩
        · refine own_tr st165 ?_
          show own_E p e below _ T165 (mkF m 136 #[.val (.long q1), .second, .val (.long q2), .second, .val (.long q3), .second, .val (.long q4), .second, iv p5, iv (p5 &&& (3 : Int32)), .val (.long q1), .second, .val (.long (q1 + (q2 ||| (1 : Int64)))), .second, iv 0, rv b141, rv b143] [.int 0])
          refine own_st (fun t k => XS.iload X165.here hx rfl (hb hby at_136) rfl k) ?_
          show own_E p e below _ T165 (mkF m 138 #[.val (.long q1), .second, .val (.long q2), .second, .val (.long q3), .second, .val (.long q4), .second, iv p5, iv (p5 &&& (3 : Int32)), .val (.long q1), .second, .val (.long (q1 + (q2 ||| (1 : Int64)))), .second, iv 0, rv b141, rv b143] [.int 0, .int 0])
          refine own_st (fun t k => XS.icmpNo X165.here hx rfl (hb hby at_138) rfl (by decide) k) ?_
          show own_E p e below _ T165 (mkF m 141 #[.val (.long q1), .second, .val (.long q2), .second, .val (.long q3), .second, .val (.long q4), .second, iv p5, iv (p5 &&& (3 : Int32)), .val (.long q1), .second, .val (.long (q1 + (q2 ||| (1 : Int64)))), .second, iv 0, rv b141, rv b143] [])
          refine own_st (fun t k => XS.iconst X165.here hx rfl (hb hby at_141) k) ?_
          show own_E p e below _ T165 (mkF m 142 #[.val (.long q1), .second, .val (.long q2), .second, .val (.long q3), .second, .val (.long q4), .second, iv p5, iv (p5 &&& (3 : Int32)), .val (.long q1), .second, .val (.long (q1 + (q2 ||| (1 : Int64)))), .second, iv 0, rv b141, rv b143] [.int 1])
          refine own_st (fun t k => XS.goto X165.here hx rfl (pc0 := 142) (pc' := 146) rfl (hb hby at_142) (by decide) (by decide) k) ?_
          show own_E p e below _ T165 (mkF m 146 #[.val (.long q1), .second, .val (.long q2), .second, .val (.long q3), .second, .val (.long q4), .second, iv p5, iv (p5 &&& (3 : Int32)), .val (.long q1), .second, .val (.long (q1 + (q2 ||| (1 : Int64)))), .second, iv 0, rv b141, rv b143] [.int 1])
          refine own_retSW X165 hS146 (by rw [e165]; exact hk164) hx Bd.notSynchronized Bd.returns rfl (by decide) (hb hby at_146) (by decide) (by decide) ?_
          exact ⟨rfl, N165⟩
      · refine own_st (fun t k => XS.ifNo X0.here hx rfl (hb hby at_92) rfl ((if0 _ _).trans (feq hc140).1) k) ?_
        show own_E p e below _ s₁ (mkF m 95 #[.val (.long q1), .second, .val (.long q2), .second, .val (.long q3), .second, .val (.long q4), .second, iv p5, iv (p5 &&& (3 : Int32)), .val (.long q1), .second, .val (.long (q1 + (q2 ||| (1 : Int64)))), .second, iv 0, .unset, .unset] [])
        obtain ⟨b190, T190, h190, k190, X190, e190, E190, hS190, hk190, hZ190, ho190, st190⟩ := ldcS (s := s) (vm0 := s.vm) X0 hx hZ hown (own_w hw 52 rfl) (own_wS hw) e0 (own_since s) (Nat.zero_le _) (g := (mkF m 95 #[.val (.long q1), .second, .val (.long q2), .second, .val (.long q3), .second, .val (.long q4), .second, iv p5, iv (p5 &&& (3 : Int32)), .val (.long q1), .second, .val (.long (q1 + (q2 ||| (1 : Int64)))), .second, iv 0, .unset, .unset] [])) rfl (hb hby at_95) (n := 32) (by decide) (by decide) (by decide) (by decide)
        have Z191 := Nat.le_trans Z0 E190.1
        refine own_st st190 ?_
        show own_E p e below _ T190 (mkF m 97 #[.val (.long q1), .second, .val (.long q2), .second, .val (.long q3), .second, .val (.long q4), .second, iv p5, iv (p5 &&& (3 : Int32)), .val (.long q1), .second, .val (.long (q1 + (q2 ||| (1 : Int64)))), .second, iv 0, .unset, .unset] [.ref b190])
        refine own_st (fun t k => XS.goto X190.here hx rfl (pc0 := 97) (pc' := 102) rfl (hb hby at_97) (by decide) (by decide) k) ?_
        show own_E p e below _ T190 (mkF m 102 #[.val (.long q1), .second, .val (.long q2), .second, .val (.long q3), .second, .val (.long q4), .second, iv p5, iv (p5 &&& (3 : Int32)), .val (.long q1), .second, .val (.long (q1 + (q2 ||| (1 : Int64)))), .second, iv 0, .unset, .unset] [.ref b190])
        refine own_st (fun t k => XS.astore X190.here hx rfl (hb hby at_102) rfl rfl (l' := #[.val (.long q1), .second, .val (.long q2), .second, .val (.long q3), .second, .val (.long q4), .second, iv p5, iv (p5 &&& (3 : Int32)), .val (.long q1), .second, .val (.long (q1 + (q2 ||| (1 : Int64)))), .second, iv 0, rv b190, .unset]) rfl k) ?_
        show own_E p e below _ T190 (mkF m 104 #[.val (.long q1), .second, .val (.long q2), .second, .val (.long q3), .second, .val (.long q4), .second, iv p5, iv (p5 &&& (3 : Int32)), .val (.long q1), .second, .val (.long (q1 + (q2 ||| (1 : Int64)))), .second, iv 0, rv b190, .unset] [])
        obtain ⟨T192, h192, X192, e192, E192, A192, D192, -, st192⟩ := newO X190 hx hZ190 ho190 (own_w hw 8 rfl) (own_w hw 9 rfl) (own_w hw 10 rfl) e190 (g := (mkF m 104 #[.val (.long q1), .second, .val (.long q2), .second, .val (.long q3), .second, .val (.long q4), .second, iv p5, iv (p5 &&& (3 : Int32)), .val (.long q1), .second, .val (.long (q1 + (q2 ||| (1 : Int64)))), .second, iv 0, rv b190, .unset] [])) rfl (hb hby at_104) (by decide) (by decide)
        obtain ⟨b192, g192⟩ : ∃ z, z = h190.size := ⟨_, rfl⟩
        rw [← g192] at A192 D192 st192
        have g_b192 : n0 ≤ b192 := Nat.le_trans Z191 (Nat.le_of_eq g192.symm)
        have Z193 := Nat.le_trans Z191 E192.1
        have hk194 := Nat.le_trans hk190 E192.1
        have F_id_b192 : Fld Z h192 b192 "com/example/acquirer/acquirer/Payment" "id" "Ljava/lang/String;" .null := D192 (Or.inr (own_w hw 24 rfl)) (ty := (.object "java/lang/String")) (by decide)
        have F_session_b192 : Fld Z h192 b192 "com/example/acquirer/acquirer/Payment" "session" "Ljava/lang/String;" .null := D192 (Or.inr (own_w hw 26 rfl)) (ty := (.object "java/lang/String")) (by decide)
        have F_created_b192 : Fld Z h192 b192 "com/example/acquirer/acquirer/Payment" "created" "J" (.long (0 : Int64)) := D192 (Or.inr (own_w hw 28 rfl)) (ty := .long) (by decide)
        have F_amount_b192 : Fld Z h192 b192 "com/example/acquirer/acquirer/Payment" "amount" "J" (.long (0 : Int64)) := D192 (Or.inr (own_w hw 30 rfl)) (ty := .long) (by decide)
        have F_amountCaptured_b192 : Fld Z h192 b192 "com/example/acquirer/acquirer/Payment" "amountCaptured" "J" (.long (0 : Int64)) := D192 (Or.inr (own_w hw 32 rfl)) (ty := .long) (by decide)
        have F_amountRefunded_b192 : Fld Z h192 b192 "com/example/acquirer/acquirer/Payment" "amountRefunded" "J" (.long (0 : Int64)) := D192 (Or.inr (own_w hw 34 rfl)) (ty := .long) (by decide)
        have F_currency_b192 : Fld Z h192 b192 "com/example/acquirer/acquirer/Payment" "currency" "Ljava/lang/String;" .null := D192 (Or.inr (own_w hw 36 rfl)) (ty := (.object "java/lang/String")) (by decide)
        have F_status_b192 : Fld Z h192 b192 "com/example/acquirer/acquirer/Payment" "status" "Ljava/lang/String;" .null := D192 (Or.inr (own_w hw 38 rfl)) (ty := (.object "java/lang/String")) (by decide)
        have F_gateway_b192 : Fld Z h192 b192 "com/example/acquirer/acquirer/Payment" "gateway" "Ljava/lang/String;" .null := D192 (Or.inr (own_w hw 40 rfl)) (ty := (.object "java/lang/String")) (by decide)
        have F_card_b192 : Fld Z h192 b192 "com/example/acquirer/acquirer/Payment" "card" "Lcom/example/acquirer/acquirer/Card;" .null := D192 (Or.inr (own_w hw 42 rfl)) (ty := (.object "com/example/acquirer/acquirer/Card")) (by decide)
        have F_approval_b192 : Fld Z h192 b192 "com/example/acquirer/acquirer/Payment" "approval" "Lcom/example/acquirer/acquirer/Approval;" .null := D192 (Or.inr (own_w hw 44 rfl)) (ty := (.object "com/example/acquirer/acquirer/Approval")) (by decide)
        have F_lastError_b192 : Fld Z h192 b192 "com/example/acquirer/acquirer/Payment" "lastError" "Ljava/lang/String;" .null := D192 (Or.inr (own_w hw 46 rfl)) (ty := (.object "java/lang/String")) (by decide)
        refine own_st st192 ?_
        show own_E p e below _ T192 (mkF m 107 #[.val (.long q1), .second, .val (.long q2), .second, .val (.long q3), .second, .val (.long q4), .second, iv p5, iv (p5 &&& (3 : Int32)), .val (.long q1), .second, .val (.long (q1 + (q2 ||| (1 : Int64)))), .second, iv 0, rv b190, .unset] [.ref b192])
        refine own_st (fun t k => XS.dup X192.here hx rfl (hb hby at_107) rfl rfl k) ?_
        show own_E p e below _ T192 (mkF m 108 #[.val (.long q1), .second, .val (.long q2), .second, .val (.long q3), .second, .val (.long q4), .second, iv p5, iv (p5 &&& (3 : Int32)), .val (.long q1), .second, .val (.long (q1 + (q2 ||| (1 : Int64)))), .second, iv 0, rv b190, .unset] [.ref b192, .ref b192])
        refine own_st (fun t k => XS.aconstNull X192.here hx rfl (hb hby at_108) k) ?_
        show own_E p e below _ T192 (mkF m 109 #[.val (.long q1), .second, .val (.long q2), .second, .val (.long q3), .second, .val (.long q4), .second, iv p5, iv (p5 &&& (3 : Int32)), .val (.long q1), .second, .val (.long (q1 + (q2 ||| (1 : Int64)))), .second, iv 0, rv b190, .unset] [.null, .ref b192, .ref b192])
        refine own_st (fun t k => XS.aconstNull X192.here hx rfl (hb hby at_109) k) ?_
        show own_E p e below _ T192 (mkF m 110 #[.val (.long q1), .second, .val (.long q2), .second, .val (.long q3), .second, .val (.long q4), .second, iv p5, iv (p5 &&& (3 : Int32)), .val (.long q1), .second, .val (.long (q1 + (q2 ||| (1 : Int64)))), .second, iv 0, rv b190, .unset] [.null, .null, .ref b192, .ref b192])
        refine own_st (fun t k => XS.lload X192.here hx rfl (hb hby at_110) rfl k) ?_
        show own_E p e below _ T192 (mkF m 112 #[.val (.long q1), .second, .val (.long q2), .second, .val (.long q3), .second, .val (.long q4), .second, iv p5, iv (p5 &&& (3 : Int32)), .val (.long q1), .second, .val (.long (q1 + (q2 ||| (1 : Int64)))), .second, iv 0, rv b190, .unset] [.long q4, .null, .null, .ref b192, .ref b192])
        refine own_st (fun t k => XS.lload X192.here hx rfl (hb hby at_112) rfl k) ?_
        show own_E p e below _ T192 (mkF m 114 #[.val (.long q1), .second, .val (.long q2), .second, .val (.long q3), .second, .val (.long q4), .second, iv p5, iv (p5 &&& (3 : Int32)), .val (.long q1), .second, .val (.long (q1 + (q2 ||| (1 : Int64)))), .second, iv 0, rv b190, .unset] [.long q3, .long q4, .null, .null, .ref b192, .ref b192])
        refine own_st (fun t k => XS.lload X192.here hx rfl (hb hby at_114) rfl k) ?_
        show own_E p e below _ T192 (mkF m 116 #[.val (.long q1), .second, .val (.long q2), .second, .val (.long q3), .second, .val (.long q4), .second, iv p5, iv (p5 &&& (3 : Int32)), .val (.long q1), .second, .val (.long (q1 + (q2 ||| (1 : Int64)))), .second, iv 0, rv b190, .unset] [.long q1, .long q3, .long q4, .null, .null, .ref b192, .ref b192])
        refine own_st (fun t k => XS.lload X192.here hx rfl (hb hby at_116) rfl k) ?_
        show own_E p e below _ T192 (mkF m 118 #[.val (.long q1), .second, .val (.long q2), .second, .val (.long q3), .second, .val (.long q4), .second, iv p5, iv (p5 &&& (3 : Int32)), .val (.long q1), .second, .val (.long (q1 + (q2 ||| (1 : Int64)))), .second, iv 0, rv b190, .unset] [.long (q1 + (q2 ||| (1 : Int64))), .long q1, .long q3, .long q4, .null, .null, .ref b192, .ref b192])
        obtain ⟨b195, T195, h195, k195, X195, e195, E195, hS195, hk195, hZ195, ho195, st195⟩ := ldcS (s := s) (vm0 := T190.vm) X192 hx hZ190 ho190 (own_w hw 11 rfl) (own_wS hw) e192 hS190 hk194 (g := (mkF m 118 #[.val (.long q1), .second, .val (.long q2), .second, .val (.long q3), .second, .val (.long q4), .second, iv p5, iv (p5 &&& (3 : Int32)), .val (.long q1), .second, .val (.long (q1 + (q2 ||| (1 : Int64)))), .second, iv 0, rv b190, .unset] [.long (q1 + (q2 ||| (1 : Int64))), .long q1, .long q3, .long q4, .null, .null, .ref b192, .ref b192])) rfl (hb hby at_118) (n := 12) (by decide) (by decide) (by decide) (by decide)
        have Z196 := Nat.le_trans Z193 E195.1
        have hk197 := Nat.le_trans hk194 E195.1
        refine own_st st195 ?_
        show own_E p e below _ T195 (mkF m 120 #[.val (.long q1), .second, .val (.long q2), .second, .val (.long q3), .second, .val (.long q4), .second, iv p5, iv (p5 &&& (3 : Int32)), .val (.long q1), .second, .val (.long (q1 + (q2 ||| (1 : Int64)))), .second, iv 0, rv b190, .unset] [.ref b195, .long (q1 + (q2 ||| (1 : Int64))), .long q1, .long q3, .long q4, .null, .null, .ref b192, .ref b192])
        refine own_st (fun t k => XS.aload X195.here hx rfl (hb hby at_120) rfl rfl k) ?_
        show own_E p e below _ T195 (mkF m 122 #[.val (.long q1), .second, .val (.long q2), .second, .val (.long q3), .second, .val (.long q4), .second, iv p5, iv (p5 &&& (3 : Int32)), .val (.long q1), .second, .val (.long (q1 + (q2 ||| (1 : Int64)))), .second, iv 0, rv b190, .unset] [.ref b190, .ref b195, .long (q1 + (q2 ||| (1 : Int64))), .long q1, .long q3, .long q4, .null, .null, .ref b192, .ref b192])
        refine own_st (fun t k => XS.aconstNull X195.here hx rfl (hb hby at_122) k) ?_
        show own_E p e below _ T195 (mkF m 123 #[.val (.long q1), .second, .val (.long q2), .second, .val (.long q3), .second, .val (.long q4), .second, iv p5, iv (p5 &&& (3 : Int32)), .val (.long q1), .second, .val (.long (q1 + (q2 ||| (1 : Int64)))), .second, iv 0, rv b190, .unset] [.null, .ref b190, .ref b195, .long (q1 + (q2 ||| (1 : Int64))), .long q1, .long q3, .long q4, .null, .null, .ref b192, .ref b192])
        refine own_st (fun t k => XS.aconstNull X195.here hx rfl (hb hby at_123) k) ?_
        show own_E p e below _ T195 (mkF m 124 #[.val (.long q1), .second, .val (.long q2), .second, .val (.long q3), .second, .val (.long q4), .second, iv p5, iv (p5 &&& (3 : Int32)), .val (.long q1), .second, .val (.long (q1 + (q2 ||| (1 : Int64)))), .second, iv 0, rv b190, .unset] [.null, .null, .ref b190, .ref b195, .long (q1 + (q2 ||| (1 : Int64))), .long q1, .long q3, .long q4, .null, .null, .ref b192, .ref b192])
        refine own_st (fun t k => XS.aconstNull X195.here hx rfl (hb hby at_124) k) ?_
        show own_E p e below _ T195 (mkF m 125 #[.val (.long q1), .second, .val (.long q2), .second, .val (.long q3), .second, .val (.long q4), .second, iv p5, iv (p5 &&& (3 : Int32)), .val (.long q1), .second, .val (.long (q1 + (q2 ||| (1 : Int64)))), .second, iv 0, rv b190, .unset] [.null, .null, .null, .ref b190, .ref b195, .long (q1 + (q2 ||| (1 : Int64))), .long q1, .long q3, .long q4, .null, .null, .ref b192, .ref b192])
        refine own_st (fun t k => XS.aconstNull X195.here hx rfl (hb hby at_125) k) ?_
        show own_E p e below _ T195 (mkF m 126 #[.val (.long q1), .second, .val (.long q2), .second, .val (.long q3), .second, .val (.long q4), .second, iv p5, iv (p5 &&& (3 : Int32)), .val (.long q1), .second, .val (.long (q1 + (q2 ||| (1 : Int64)))), .second, iv 0, rv b190, .unset] [.null, .null, .null, .null, .ref b190, .ref b195, .long (q1 + (q2 ||| (1 : Int64))), .long q1, .long q3, .long q4, .null, .null, .ref b192, .ref b192])
        have B198 := (A192.ext E195)
        have B199 := (F_id_b192.ext E195)
        have B200 := (F_session_b192.ext E195)
        have B201 := (F_created_b192.ext E195)
        have B202 := (F_amount_b192.ext E195)
        have B203 := (F_amountCaptured_b192.ext E195)
        have B204 := (F_amountRefunded_b192.ext E195)
        have B205 := (F_currency_b192.ext E195)
        have B206 := (F_status_b192.ext E195)
        have B207 := (F_gateway_b192.ext E195)
        have B208 := (F_card_b192.ext E195)
        have B209 := (F_approval_b192.ext E195)
        have B210 := (F_lastError_b192.ext E195)
        obtain ⟨_, _, ⟨T211, L211, k211, n211⟩, -, X211, ⟨Lc211, hQ211, l211, y211, z211⟩, st211⟩ := X195.specialBack hx (y := own_y1) rfl ho195 (mvT hZ195 (own_w hw 12 rfl)) (mvT hZ195 (own_w hw 13 rfl)) (mvT hZ195 (own_w hw 14 rfl)) (by decide) (backOf (W := 1) (own_init l Z a0 hw [] b192 b195 b190 q4 q3 q1 (q1 + (q2 ||| (1 : Int64))) h195 n0 Z196 B198 B199 B200 B201 B202 B203 B204 B205 B206 B207 B208 B209 B210 g_b192) hZ195 (own_w hw 14 rfl) (own_w hw 10 rfl) (by decide) (by decide)) (g := (mkF m 126 #[.val (.long q1), .second, .val (.long q2), .second, .val (.long q3), .second, .val (.long q4), .second, iv p5, iv (p5 &&& (3 : Int32)), .val (.long q1), .second, .val (.long (q1 + (q2 ||| (1 : Int64)))), .second, iv 0, rv b190, .unset] [.null, .null, .null, .null, .ref b190, .ref b195, .long (q1 + (q2 ||| (1 : Int64))), .long q1, .long q3, .long q4, .null, .null, .ref b192, .ref b192])) rfl (by rw [hml]; rfl) (Steps.refl _) (a := b192) (argsL := [.null, .null, (.long q4), (.long q3), (.long q1), (.long (q1 + (q2 ||| (1 : Int64)))), (.ref b195), (.ref b190), .null, .null, .null, .null]) (rest := [(.ref b192)]) (lenOf own_pd_3 rfl) rfl (by show 2 * 0 + _ ≤ _; exact Nat.le_of_eq rfl) (hb hby at_126) (fun _ _ => ⟨rfl, e195, (by decide : 5 + 0 ≤ _), (by decide : 64 + 0 ≤ _)⟩)
        dsimp only [Pt.U, Pt.locs, Pt.cells, Pt.slots] at X211 l211 y211 z211 st211 hQ211
        subst l211 y211 z211
        obtain ⟨rfl, Nq211, Kq211, P211_0, P211_1, P211_2⟩ := hQ211
        have N211 := Fr.app (Fr.nil n0) Nq211
        have e211 : T211.heap = T211.heap := rfl
        have Z212 := Nat.le_trans Z196 Kq211.1
        have hk213 := Nat.le_trans hk195 Kq211.1
        refine own_tr st211 ?_
        show own_E p e below _ T211 (mkF m 129 #[.val (.long q1), .second, .val (.long q2), .second, .val (.long q3), .second, .val (.long q4), .second, iv p5, iv (p5 &&& (3 : Int32)), .val (.long q1), .second, .val (.long (q1 + (q2 ||| (1 : Int64)))), .second, iv 0, rv b190, .unset] [.ref b192])
        refine own_st (fun t k => XS.astore X211.here hx rfl (hb hby at_129) rfl rfl (l' := #[.val (.long q1), .second, .val (.long q2), .second, .val (.long q3), .second, .val (.long q4), .second, iv p5, iv (p5 &&& (3 : Int32)), .val (.long q1), .second, .val (.long (q1 + (q2 ||| (1 : Int64)))), .second, iv 0, rv b190, rv b192]) rfl k) ?_
        show own_E p e below _ T211 (mkF m 131 #[.val (.long q1), .second, .val (.long q2), .second, .val (.long q3), .second, .val (.long q4), .second, iv p5, iv (p5 &&& (3 : Int32)), .val (.long q1), .second, .val (.long (q1 + (q2 ||| (1 : Int64)))), .second, iv 0, rv b190, rv b192] [])
        refine own_st (fun t k => XS.aload X211.here hx rfl (hb hby at_131) rfl rfl k) ?_
        show own_E p e below _ T211 (mkF m 133 #[.val (.long q1), .second, .val (.long q2), .second, .val (.long q3), .second, .val (.long q4), .second, iv p5, iv (p5 &&& (3 : Int32)), .val (.long q1), .second, .val (.long (q1 + (q2 ||| (1 : Int64)))), .second, iv 0, rv b190, rv b192] [.ref b192])
        obtain ⟨cq214, kq214, q214a, q214b, q214c⟩ := isOf hZ195 e211 P211_0
        obtain ⟨_, _, ⟨T214, L214, k214, n214⟩, -, X214, ⟨Lc214, hQ214, l214, y214, z214⟩, st214⟩ := X211.virtualBack hx (y := own_y2) (z := own_y2) ho195 (mvT hZ195 (own_w hw 47 rfl)) (mvT hZ195 (own_w hw 48 rfl)) (notFace_of_selects (args := #[]) (mvT hZ195 (own_w hw 50 rfl))) (mvT hZ195 (own_w hw 50 rfl)) (mvT hZ195 (own_w hw 49 rfl)) (by decide) (backOf (W := 0) (own_isref l Z a0 hw [] b192 q1 (q1 + (q2 ||| (1 : Int64))) T211.heap n0 Z212 P211_1 P211_2) hZ195 (own_w hw 51 rfl) (own_w hw 10 rfl) (by decide) (by decide)) q214a q214c (g := (mkF m 133 #[.val (.long q1), .second, .val (.long q2), .second, .val (.long q3), .second, .val (.long q4), .second, iv p5, iv (p5 &&& (3 : Int32)), .val (.long q1), .second, .val (.long (q1 + (q2 ||| (1 : Int64)))), .second, iv 0, rv b190, rv b192] [.ref b192])) rfl (by rw [hml]; rfl) (Steps.refl _) (argsL := []) (rest := []) (lenOf own_pd_1 rfl) rfl (by show 2 * 0 + _ ≤ _; exact Nat.le_of_eq rfl) (hb hby at_133) (fun _ _ => ⟨rfl, e211, (by decide : 5 + 0 ≤ _), (by decide : 64 + 0 ≤ _)⟩)
        dsimp only [Pt.U, Pt.locs, Pt.cells, Pt.slots] at X214 l214 y214 z214 st214 hQ214
        subst l214 y214 z214
        obtain ⟨hR214, e214, rfl⟩ := hQ214
        have N214 := Fr.app N211 (Fr.nil n0)
        rcases hR214 with ⟨rfl, ha214_0, ha214_1⟩ | ⟨rfl, ha214_0, ha214_1⟩ | ⟨rfl, ha214_0⟩
        · exfalso
          have f215 := rng32 p5
          have f216 : (3 : Int32).toInt = 3 := rfl
          have f217 := rng32 (p5 &&& (3 : Int32))
          have f218 : (p5 &&& (3 : Int32)).toInt = p5.toInt % 4 := c_mask p5 (3 : Int32) 2 (by decide) (by decide)
          have f219 : (0 : Int32).toInt = 0 := rfl
          have f220 : (1 : Int32).toInt = 1 := rfl
          have f221 : (2 : Int32).toInt = 2 := rfl
          have f222 := rng32 ((p5.toUInt32 >>> ((2 : Int32) &&& 31).toUInt32).toInt32)
          have f223 : ((p5.toUInt32 >>> ((2 : Int32) &&& 31).toUInt32).toInt32).toInt = (p5.toInt % 4294967296) / 4 := c_iushr p5 (2 : Int32) 2 (by decide) (by decide)
          have f224 := rng32 (((p5.toUInt32 >>> ((2 : Int32) &&& 31).toUInt32).toInt32) &&& (1 : Int32))
          have f225 : (((p5.toUInt32 >>> ((2 : Int32) &&& 31).toUInt32).toInt32) &&& (1 : Int32)).toInt = ((p5.toUInt32 >>> ((2 : Int32) &&& 31).toUInt32).toInt32).toInt % 2 := c_mask ((p5.toUInt32 >>> ((2 : Int32) &&& 31).toUInt32).toInt32) (1 : Int32) 1 (by decide) (by decide)
          have f226 : (0 : Int64).toInt = 0 := rfl
          have f227 := rng64 q1
          have f228 := rng64 q2
          have f229 : (1 : Int64).toInt = 1 := rfl
          have f230 := rng64 (q2 ||| (1 : Int64))
          have f231 := own_lor1 q2
          have f232 := rng64 (q1 + (q2 ||| (1 : Int64)))
          have f233 := c_ladd q1 (q2 ||| (1 : Int64))
          have g234 := hc1
          rw [← Int32.toInt_inj] at g234
          have g235 := hc139
          rw [← Int32.toInt_inj] at g235
          have g236 := hc140
          rw [← Int32.toInt_inj] at g236
          have g237 := ha214_0
          rw [Int64.lt_iff_toInt_lt] at g237
          have g238 := ha214_1
          rw [← Int64.toInt_inj] at g238
          omega
        · refine own_tr st214 ?_
          show own_E p e below _ T214 (mkF m 136 #[.val (.long q1), .second, .val (.long q2), .second, .val (.long q3), .second, .val (.long q4), .second, iv p5, iv (p5 &&& (3 : Int32)), .val (.long q1), .second, .val (.long (q1 + (q2 ||| (1 : Int64)))), .second, iv 0, rv b190, rv b192] [.int 0])
          refine own_st (fun t k => XS.iload X214.here hx rfl (hb hby at_136) rfl k) ?_
          show own_E p e below _ T214 (mkF m 138 #[.val (.long q1), .second, .val (.long q2), .second, .val (.long q3), .second, .val (.long q4), .second, iv p5, iv (p5 &&& (3 : Int32)), .val (.long q1), .second, .val (.long (q1 + (q2 ||| (1 : Int64)))), .second, iv 0, rv b190, rv b192] [.int 0, .int 0])
          refine own_st (fun t k => XS.icmpNo X214.here hx rfl (hb hby at_138) rfl (by decide) k) ?_
          show own_E p e below _ T214 (mkF m 141 #[.val (.long q1), .second, .val (.long q2), .second, .val (.long q3), .second, .val (.long q4), .second, iv p5, iv (p5 &&& (3 : Int32)), .val (.long q1), .second, .val (.long (q1 + (q2 ||| (1 : Int64)))), .second, iv 0, rv b190, rv b192] [])
          refine own_st (fun t k => XS.iconst X214.here hx rfl (hb hby at_141) k) ?_
          show own_E p e below _ T214 (mkF m 142 #[.val (.long q1), .second, .val (.long q2), .second, .val (.long q3), .second, .val (.long q4), .second, iv p5, iv (p5 &&& (3 : Int32)), .val (.long q1), .second, .val (.long (q1 + (q2 ||| (1 : Int64)))), .second, iv 0, rv b190, rv b192] [.int 1])
          refine own_st (fun t k => XS.goto X214.here hx rfl (pc0 := 142) (pc' := 146) rfl (hb hby at_142) (by decide) (by decide) k) ?_
          show own_E p e below _ T214 (mkF m 146 #[.val (.long q1), .second, .val (.long q2), .second, .val (.long q3), .second, .val (.long q4), .second, iv p5, iv (p5 &&& (3 : Int32)), .val (.long q1), .second, .val (.long (q1 + (q2 ||| (1 : Int64)))), .second, iv 0, rv b190, rv b192] [.int 1])
          refine own_retSW X214 hS195 (by rw [e214]; exact hk213) hx Bd.notSynchronized Bd.returns rfl (by decide) (hb hby at_146) (by decide) (by decide) ?_
          exact ⟨rfl, N214⟩
        · refine own_tr st214 ?_
          show own_E p e below _ T214 (mkF m 136 #[.val (.long q1), .second, .val (.long q2), .second, .val (.long q3), .second, .val (.long q4), .second, iv p5, iv (p5 &&& (3 : Int32)), .val (.long q1), .second, .val (.long (q1 + (q2 ||| (1 : Int64)))), .second, iv 0, rv b190, rv b192] [.int 0])
          refine own_st (fun t k => XS.iload X214.here hx rfl (hb hby at_136) rfl k) ?_
          show own_E p e below _ T214 (mkF m 138 #[.val (.long q1), .second, .val (.long q2), .second, .val (.long q3), .second, .val (.long q4), .second, iv p5, iv (p5 &&& (3 : Int32)), .val (.long q1), .second, .val (.long (q1 + (q2 ||| (1 : Int64)))), .second, iv 0, rv b190, rv b192] [.int 0, .int 0])
          refine own_st (fun t k => XS.icmpNo X214.here hx rfl (hb hby at_138) rfl (by decide) k) ?_
          show own_E p e below _ T214 (mkF m 141 #[.val (.long q1), .second, .val (.long q2), .second, .val (.long q3), .second, .val (.long q4), .second, iv p5, iv (p5 &&& (3 : Int32)), .val (.long q1), .second, .val (.long (q1 + (q2 ||| (1 : Int64)))), .second, iv 0, rv b190, rv b192] [])
          refine own_st (fun t k => XS.iconst X214.here hx rfl (hb hby at_141) k) ?_
          show own_E p e below _ T214 (mkF m 142 #[.val (.long q1), .second, .val (.long q2), .second, .val (.long q3), .second, .val (.long q4), .second, iv p5, iv (p5 &&& (3 : Int32)), .val (.long q1), .second, .val (.long (q1 + (q2 ||| (1 : Int64)))), .second, iv 0, rv b190, rv b192] [.int 1])
          refine own_st (fun t k => XS.goto X214.here hx rfl (pc0 := 142) (pc' := 146) rfl (hb hby at_142) (by decide) (by decide) k) ?_
          show own_E p e below _ T214 (mkF m 146 #[.val (.long q1), .second, .val (.long q2), .second, .val (.long q3), .second, .val (.long q4), .second, iv p5, iv (p5 &&& (3 : Int32)), .val (.long q1), .second, .val (.long (q1 + (q2 ||| (1 : Int64)))), .second, iv 0, rv b190, rv b192] [.int 1])
          refine own_retSW X214 hS195 (by rw [e214]; exact hk213) hx Bd.notSynchronized Bd.returns rfl (by decide) (hb hby at_146) (by decide) (by decide) ?_
          exact ⟨rfl, N214⟩
    · refine own_st (fun t k => XS.icmpYes X0.here hx rfl (pc0 := 36) (pc' := 55) rfl (hb hby at_36) rfl (feq hc139).2 (by decide) (by decide) k) ?_
      show own_E p e below _ s₁ (mkF m 55 #[.val (.long q1), .second, .val (.long q2), .second, .val (.long q3), .second, .val (.long q4), .second, iv p5, iv (p5 &&& (3 : Int32)), .unset, .unset, .unset, .unset, .unset, .unset, .unset] [])
      refine own_st (fun t k => XS.lloadN X0.here hx rfl (hb hby at_55) rfl k) ?_
      show own_E p e below _ s₁ (mkF m 56 #[.val (.long q1), .second, .val (.long q2), .second, .val (.long q3), .second, .val (.long q4), .second, iv p5, iv (p5 &&& (3 : Int32)), .unset, .unset, .unset, .unset, .unset, .unset, .unset] [.long q1])
      refine own_st (fun t k => XS.lconst X0.here hx rfl (hb hby at_56) k) ?_
      show own_E p e below _ s₁ (mkF m 57 #[.val (.long q1), .second, .val (.long q2), .second, .val (.long q3), .second, .val (.long q4), .second, iv p5, iv (p5 &&& (3 : Int32)), .unset, .unset, .unset, .unset, .unset, .unset, .unset] [.long 0, .long q1])
      refine own_st (fun t k => XS.lcmp X0.here hx rfl (hb hby at_57) rfl k) ?_
      show own_E p e below _ s₁ (mkF m 58 #[.val (.long q1), .second, .val (.long q2), .second, .val (.long q3), .second, .val (.long q4), .second, iv p5, iv (p5 &&& (3 : Int32)), .unset, .unset, .unset, .unset, .unset, .unset, .unset] [.int (lcmpW q1 (0 : Int64))])
      by_cases hc239 : (0 : Int64) < q1
      · refine own_st (fun t k => XS.ifNo X0.here hx rfl (hb hby at_58) rfl ((if0 _ _).trans (tlt ((lw_gt _ _).mpr hc239)).2.2.2) k) ?_
        show own_E p e below _ s₁ (mkF m 61 #[.val (.long q1), .second, .val (.long q2), .second, .val (.long q3), .second, .val (.long q4), .second, iv p5, iv (p5 &&& (3 : Int32)), .unset, .unset, .unset, .unset, .unset, .unset, .unset] [])
        refine own_st (fun t k => XS.lloadN X0.here hx rfl (hb hby at_61) rfl k) ?_
        show own_E p e below _ s₁ (mkF m 62 #[.val (.long q1), .second, .val (.long q2), .second, .val (.long q3), .second, .val (.long q4), .second, iv p5, iv (p5 &&& (3 : Int32)), .unset, .unset, .unset, .unset, .unset, .unset, .unset] [.long q1])
        refine own_st (fun t k => XS.lneg X0.here hx rfl (hb hby at_62) rfl k) ?_
        show own_E p e below _ s₁ (mkF m 63 #[.val (.long q1), .second, .val (.long q2), .second, .val (.long q3), .second, .val (.long q4), .second, iv p5, iv (p5 &&& (3 : Int32)), .unset, .unset, .unset, .unset, .unset, .unset, .unset] [.long (-q1)])
        refine own_st (fun t k => XS.goto X0.here hx rfl (pc0 := 63) (pc' := 67) rfl (hb hby at_63) (by decide) (by decide) k) ?_
        show own_E p e below _ s₁ (mkF m 67 #[.val (.long q1), .second, .val (.long q2), .second, .val (.long q3), .second, .val (.long q4), .second, iv p5, iv (p5 &&& (3 : Int32)), .unset, .unset, .unset, .unset, .unset, .unset, .unset] [.long (-q1)])
        refine own_st (fun t k => XS.lstore X0.here hx rfl (hb hby at_67) rfl (l' := #[.val (.long q1), .second, .val (.long q2), .second, .val (.long q3), .second, .val (.long q4), .second, iv p5, iv (p5 &&& (3 : Int32)), .val (.long (-q1)), .second, .unset, .unset, .unset, .unset, .unset]) rfl k) ?_
        show own_E p e below _ s₁ (mkF m 69 #[.val (.long q1), .second, .val (.long q2), .second, .val (.long q3), .second, .val (.long q4), .second, iv p5, iv (p5 &&& (3 : Int32)), .val (.long (-q1)), .second, .unset, .unset, .unset, .unset, .unset] [])
        refine own_st (fun t k => XS.iload X0.here hx rfl (hb hby at_69) rfl k) ?_
        show own_E p e below _ s₁ (mkF m 71 #[.val (.long q1), .second, .val (.long q2), .second, .val (.long q3), .second, .val (.long q4), .second, iv p5, iv (p5 &&& (3 : Int32)), .val (.long (-q1)), .second, .unset, .unset, .unset, .unset, .unset] [.int (p5 &&& (3 : Int32))])
        refine own_st (fun t k => XS.iconst X0.here hx rfl (hb hby at_71) k) ?_
        show own_E p e below _ s₁ (mkF m 72 #[.val (.long q1), .second, .val (.long q2), .second, .val (.long q3), .second, .val (.long q4), .second, iv p5, iv (p5 &&& (3 : Int32)), .val (.long (-q1)), .second, .unset, .unset, .unset, .unset, .unset] [.int 2, .int (p5 &&& (3 : Int32))])
        by_cases hc240 : (p5 &&& (3 : Int32)) = (2 : Int32)
        · refine own_st (fun t k => XS.icmpNo X0.here hx rfl (hb hby at_72) rfl (teq hc240).2 k) ?_
          show own_E p e below _ s₁ (mkF m 75 #[.val (.long q1), .second, .val (.long q2), .second, .val (.long q3), .second, .val (.long q4), .second, iv p5, iv (p5 &&& (3 : Int32)), .val (.long (-q1)), .second, .unset, .unset, .unset, .unset, .unset] [])
          refine own_st (fun t k => XS.lloadN X0.here hx rfl (hb hby at_75) rfl k) ?_
          show own_E p e below _ s₁ (mkF m 76 #[.val (.long q1), .second, .val (.long q2), .second, .val (.long q3), .second, .val (.long q4), .second, iv p5, iv (p5 &&& (3 : Int32)), .val (.long (-q1)), .second, .unset, .unset, .unset, .unset, .unset] [.long q2])
          refine own_st (fun t k => XS.goto X0.here hx rfl (pc0 := 76) (pc' := 81) rfl (hb hby at_76) (by decide) (by decide) k) ?_
          show own_E p e below _ s₁ (mkF m 81 #[.val (.long q1), .second, .val (.long q2), .second, .val (.long q3), .second, .val (.long q4), .second, iv p5, iv (p5 &&& (3 : Int32)), .val (.long (-q1)), .second, .unset, .unset, .unset, .unset, .unset] [.long q2])
          refine own_st (fun t k => XS.lstore X0.here hx rfl (hb hby at_81) rfl (l' := #[.val (.long q1), .second, .val (.long q2), .second, .val (.long q3), .second, .val (.long q4), .second, iv p5, iv (p5 &&& (3 : Int32)), .val (.long (-q1)), .second, .val (.long q2), .second, .unset, .unset, .unset]) rfl k) ?_
          show own_E p e below _ s₁ (mkF m 83 #[.val (.long q1), .second, .val (.long q2), .second, .val (.long q3), .second, .val (.long q4), .second, iv p5, iv (p5 &&& (3 : Int32)), .val (.long (-q1)), .second, .val (.long q2), .second, .unset, .unset, .unset] [])
          refine own_st (fun t k => XS.iconst X0.here hx rfl (hb hby at_83) k) ?_
          show own_E p e below _ s₁ (mkF m 84 #[.val (.long q1), .second, .val (.long q2), .second, .val (.long q3), .second, .val (.long q4), .second, iv p5, iv (p5 &&& (3 : Int32)), .val (.long (-q1)), .second, .val (.long q2), .second, .unset, .unset, .unset] [.int 0])
          refine own_st (fun t k => XS.istore X0.here hx rfl (hb hby at_84) rfl (l' := #[.val (.long q1), .second, .val (.long q2), .second, .val (.long q3), .second, .val (.long q4), .second, iv p5, iv (p5 &&& (3 : Int32)), .val (.long (-q1)), .second, .val (.long q2), .second, iv 0, .unset, .unset]) rfl k) ?_
          show own_E p e below _ s₁ (mkF m 86 #[.val (.long q1), .second, .val (.long q2), .second, .val (.long q3), .second, .val (.long q4), .second, iv p5, iv (p5 &&& (3 : Int32)), .val (.long (-q1)), .second, .val (.long q2), .second, iv 0, .unset, .unset] [])
          refine own_st (fun t k => XS.iload X0.here hx rfl (hb hby at_86) rfl k) ?_
          show own_E p e below _ s₁ (mkF m 88 #[.val (.long q1), .second, .val (.long q2), .second, .val (.long q3), .second, .val (.long q4), .second, iv p5, iv (p5 &&& (3 : Int32)), .val (.long (-q1)), .second, .val (.long q2), .second, iv 0, .unset, .unset] [.int p5])
          refine own_st (fun t k => XS.iconst X0.here hx rfl (hb hby at_88) k) ?_
          show own_E p e below _ s₁ (mkF m 89 #[.val (.long q1), .second, .val (.long q2), .second, .val (.long q3), .second, .val (.long q4), .second, iv p5, iv (p5 &&& (3 : Int32)), .val (.long (-q1)), .second, .val (.long q2), .second, iv 0, .unset, .unset] [.int 2, .int p5])
          refine own_st (fun t k => XS.iushr X0.here hx rfl (hb hby at_89) rfl k) ?_
          show own_E p e below _ s₁ (mkF m 90 #[.val (.long q1), .second, .val (.long q2), .second, .val (.long q3), .second, .val (.long q4), .second, iv p5, iv (p5 &&& (3 : Int32)), .val (.long (-q1)), .second, .val (.long q2), .second, iv 0, .unset, .unset] [.int ((p5.toUInt32 >>> ((2 : Int32) &&& 31).toUInt32).toInt32)])
          refine own_st (fun t k => XS.iconst X0.here hx rfl (hb hby at_90) k) ?_
          show own_E p e below _ s₁ (mkF m 91 #[.val (.long q1), .second, .val (.long q2), .second, .val (.long q3), .second, .val (.long q4), .second, iv p5, iv (p5 &&& (3 : Int32)), .val (.long (-q1)), .second, .val (.long q2), .second, iv 0, .unset, .unset] [.int 1, .int ((p5.toUInt32 >>> ((2 : Int32) &&& 31).toUInt32).toInt32)])
          refine own_st (fun t k => XS.iand X0.here hx rfl (hb hby at_91) rfl k) ?_
          show own_E p e below _ s₁ (mkF m 92 #[.val (.long q1), .second, .val (.long q2), .second, .val (.long q3), .second, .val (.long q4), .second, iv p5, iv (p5 &&& (3 : Int32)), .val (.long (-q1)), .second, .val (.long q2), .second, iv 0, .unset, .unset] [.int (((p5.toUInt32 >>> ((2 : Int32) &&& 31).toUInt32).toInt32) &&& (1 : Int32))])
          by_cases hc241 : (((p5.toUInt32 >>> ((2 : Int32) &&& 31).toUInt32).toInt32) &&& (1 : Int32)) = (0 : Int32)
          · refine own_st (fun t k => XS.ifYes X0.here hx rfl (pc0 := 92) (pc' := 100) rfl (hb hby at_92) rfl ((if0 _ _).trans (teq hc241).1) (by decide) (by decide) k) ?_
            show own_E p e below _ s₁ (mkF m 100 #[.val (.long q1), .second, .val (.long q2), .second, .val (.long q3), .second, .val (.long q4), .second, iv p5, iv (p5 &&& (3 : Int32)), .val (.long (-q1)), .second, .val (.long q2), .second, iv 0, .unset, .unset] [])
            obtain ⟨b242, T242, h242, k242, X242, e242, E242, hS242, hk242, hZ242, ho242, st242⟩ := ldcS (s := s) (vm0 := s.vm) X0 hx hZ hown (own_w hw 0 rfl) (own_wS hw) e0 (own_since s) (Nat.zero_le _) (g := (mkF m 100 #[.val (.long q1), .second, .val (.long q2), .second, .val (.long q3), .second, .val (.long q4), .second, iv p5, iv (p5 &&& (3 : Int32)), .val (.long (-q1)), .second, .val (.long q2), .second, iv 0, .unset, .unset] [])) rfl (hb hby at_100) (n := 24) (by decide) (by decide) (by decide) (by decide)
            have Z243 := Nat.le_trans Z0 E242.1
            refine own_st st242 ?_
            show own_E p e below _ T242 (mkF m 102 #[.val (.long q1), .second, .val (.long q2), .second, .val (.long q3), .second, .val (.long q4), .second, iv p5, iv (p5 &&& (3 : Int32)), .val (.long (-q1)), .second, .val (.long q2), .second, iv 0, .unset, .unset] [.ref b242])
            refine own_st (fun t k => XS.astore X242.here hx rfl (hb hby at_102) rfl rfl (l' := #[.val (.long q1), .second, .val (.long q2), .second, .val (.long q3), .second, .val (.long q4), .second, iv p5, iv (p5 &&& (3 : Int32)), .val (.long (-q1)), .second, .val (.long q2), .second, iv 0, rv b242, .unset]) rfl k) ?_
            show own_E p e below _ T242 (mkF m 104 #[.val (.long q1), .second, .val (.long q2), .second, .val (.long q3), .second, .val (.long q4), .second, iv p5, iv (p5 &&& (3 : Int32)), .val (.long (-q1)), .second, .val (.long q2), .second, iv 0, rv b242, .unset] [])
            obtain ⟨T244, h244, X244, e244, E244, A244, D244, -, st244⟩ := newO X242 hx hZ242 ho242 (own_w hw 8 rfl) (own_w hw 9 rfl) (own_w hw 10 rfl) e242 (g := (mkF m 104 #[.val (.long q1), .second, .val (.long q2), .second, .val (.long q3), .second, .val (.long q4), .second, iv p5, iv (p5 &&& (3 : Int32)), .val (.long (-q1)), .second, .val (.long q2), .second, iv 0, rv b242, .unset] [])) rfl (hb hby at_104) (by decide) (by decide)
            obtain ⟨b244, g244⟩ : ∃ z, z = h242.size := ⟨_, rfl⟩
            rw [← g244] at A244 D244 st244
            have g_b244 : n0 ≤ b244 := Nat.le_trans Z243 (Nat.le_of_eq g244.symm)
            have Z245 := Nat.le_trans Z243 E244.1
            have hk246 := Nat.le_trans hk242 E244.1
            have F_id_b244 : Fld Z h244 b244 "com/example/acquirer/acquirer/Payment" "id" "Ljava/lang/String;" .null := D244 (Or.inr (own_w hw 24 rfl)) (ty := (.object "java/lang/String")) (by decide)
            have F_session_b244 : Fld Z h244 b244 "com/example/acquirer/acquirer/Payment" "session" "Ljava/lang/String;" .null := D244 (Or.inr (own_w hw 26 rfl)) (ty := (.object "java/lang/String")) (by decide)
            have F_created_b244 : Fld Z h244 b244 "com/example/acquirer/acquirer/Payment" "created" "J" (.long (0 : Int64)) := D244 (Or.inr (own_w hw 28 rfl)) (ty := .long) (by decide)
            have F_amount_b244 : Fld Z h244 b244 "com/example/acquirer/acquirer/Payment" "amount" "J" (.long (0 : Int64)) := D244 (Or.inr (own_w hw 30 rfl)) (ty := .long) (by decide)
            have F_amountCaptured_b244 : Fld Z h244 b244 "com/example/acquirer/acquirer/Payment" "amountCaptured" "J" (.long (0 : Int64)) := D244 (Or.inr (own_w hw 32 rfl)) (ty := .long) (by decide)
            have F_amountRefunded_b244 : Fld Z h244 b244 "com/example/acquirer/acquirer/Payment" "amountRefunded" "J" (.long (0 : Int64)) := D244 (Or.inr (own_w hw 34 rfl)) (ty := .long) (by decide)
            have F_currency_b244 : Fld Z h244 b244 "com/example/acquirer/acquirer/Payment" "currency" "Ljava/lang/String;" .null := D244 (Or.inr (own_w hw 36 rfl)) (ty := (.object "java/lang/String")) (by decide)
            have F_status_b244 : Fld Z h244 b244 "com/example/acquirer/acquirer/Payment" "status" "Ljava/lang/String;" .null := D244 (Or.inr (own_w hw 38 rfl)) (ty := (.object "java/lang/String")) (by decide)
            have F_gateway_b244 : Fld Z h244 b244 "com/example/acquirer/acquirer/Payment" "gateway" "Ljava/lang/String;" .null := D244 (Or.inr (own_w hw 40 rfl)) (ty := (.object "java/lang/String")) (by decide)
            have F_card_b244 : Fld Z h244 b244 "com/example/acquirer/acquirer/Payment" "card" "Lcom/example/acquirer/acquirer/Card;" .null := D244 (Or.inr (own_w hw 42 rfl)) (ty := (.object "com/example/acquirer/acquirer/Card")) (by decide)
            have F_approval_b244 : Fld Z h244 b244 "com/example/acquirer/acquirer/Payment" "approval" "Lcom/example/acquirer/acquirer/Approval;" .null := D244 (Or.inr (own_w hw 44 rfl)) (ty := (.object "com/example/acquirer/acquirer/Approval")) (by decide)
            have F_lastError_b244 : Fld Z h244 b244 "com/example/acquirer/acquirer/Payment" "lastError" "Ljava/lang/String;" .null := D244 (Or.inr (own_w hw 46 rfl)) (ty := (.object "java/lang/String")) (by decide)
            refine own_st st244 ?_
            show own_E p e below _ T244 (mkF m 107 #[.val (.long q1), .second, .val (.long q2), .second, .val (.long q3), .second, .val (.long q4), .second, iv p5, iv (p5 &&& (3 : Int32)), .val (.long (-q1)), .second, .val (.long q2), .second, iv 0, rv b242, .unset] [.ref b244])
            refine own_st (fun t k => XS.dup X244.here hx rfl (hb hby at_107) rfl rfl k) ?_
            show own_E p e below _ T244 (mkF m 108 #[.val (.long q1), .second, .val (.long q2), .second, .val (.long q3), .second, .val (.long q4), .second, iv p5, iv (p5 &&& (3 : Int32)), .val (.long (-q1)), .second, .val (.long q2), .second, iv 0, rv b242, .unset] [.ref b244, .ref b244])
            refine own_st (fun t k => XS.aconstNull X244.here hx rfl (hb hby at_108) k) ?_
            show own_E p e below _ T244 (mkF m 109 #[.val (.long q1), .second, .val (.long q2), .second, .val (.long q3), .second, .val (.long q4), .second, iv p5, iv (p5 &&& (3 : Int32)), .val (.long (-q1)), .second, .val (.long q2), .second, iv 0, rv b242, .unset] [.null, .ref b244, .ref b244])
            refine own_st (fun t k => XS.aconstNull X244.here hx rfl (hb hby at_109) k) ?_
            show own_E p e below _ T244 (mkF m 110 #[.val (.long q1), .second, .val (.long q2), .second, .val (.long q3), .second, .val (.long q4), .second, iv p5, iv (p5 &&& (3 : Int32)), .val (.long (-q1)), .second, .val (.long q2), .second, iv 0, rv b242, .unset] [.null, .null, .ref b244, .ref b244])
            refine own_st (fun t k => XS.lload X244.here hx rfl (hb hby at_110) rfl k) ?_
            show own_E p e below _ T244 (mkF m 112 #[.val (.long q1), .second, .val (.long q2), .second, .val (.long q3), .second, .val (.long q4), .second, iv p5, iv (p5 &&& (3 : Int32)), .val (.long (-q1)), .second, .val (.long q2), .second, iv 0, rv b242, .unset] [.long q4, .null, .null, .ref b244, .ref b244])
            refine own_st (fun t k => XS.lload X244.here hx rfl (hb hby at_112) rfl k) ?_
            show own_E p e below _ T244 (mkF m 114 #[.val (.long q1), .second, .val (.long q2), .second, .val (.long q3), .second, .val (.long q4), .second, iv p5, iv (p5 &&& (3 : Int32)), .val (.long (-q1)), .second, .val (.long q2), .second, iv 0, rv b242, .unset] [.long q3, .long q4, .null, .null, .ref b244, .ref b244])
            refine own_st (fun t k => XS.lload X244.here hx rfl (hb hby at_114) rfl k) ?_
            show own_E p e below _ T244 (mkF m 116 #[.val (.long q1), .second, .val (.long q2), .second, .val (.long q3), .second, .val (.long q4), .second, iv p5, iv (p5 &&& (3 : Int32)), .val (.long (-q1)), .second, .val (.long q2), .second, iv 0, rv b242, .unset] [.long (-q1), .long q3, .long q4, .null, .null, .ref b244, .ref b244])
            refine own_st (fun t k => XS.lload X244.here hx rfl (hb hby at_116) rfl k) ?_
            show own_E p e below _ T244 (mkF m 118 #[.val (.long q1), .second, .val (.long q2), .second, .val (.long q3), .second, .val (.long q4), .second, iv p5, iv (p5 &&& (3 : Int32)), .val (.long (-q1)), .second, .val (.long q2), .second, iv 0, rv b242, .unset] [.long q2, .long (-q1), .long q3, .long q4, .null, .null, .ref b244, .ref b244])
            obtain ⟨b247, T247, h247, k247, X247, e247, E247, hS247, hk247, hZ247, ho247, st247⟩ := ldcS (s := s) (vm0 := T242.vm) X244 hx hZ242 ho242 (own_w hw 11 rfl) (own_wS hw) e244 hS242 hk246 (g := (mkF m 118 #[.val (.long q1), .second, .val (.long q2), .second, .val (.long q3), .second, .val (.long q4), .second, iv p5, iv (p5 &&& (3 : Int32)), .val (.long (-q1)), .second, .val (.long q2), .second, iv 0, rv b242, .unset] [.long q2, .long (-q1), .long q3, .long q4, .null, .null, .ref b244, .ref b244])) rfl (hb hby at_118) (n := 12) (by decide) (by decide) (by decide) (by decide)
            have Z248 := Nat.le_trans Z245 E247.1
            have hk249 := Nat.le_trans hk246 E247.1
            refine own_st st247 ?_
            show own_E p e below _ T247 (mkF m 120 #[.val (.long q1), .second, .val (.long q2), .second, .val (.long q3), .second, .val (.long q4), .second, iv p5, iv (p5 &&& (3 : Int32)), .val (.long (-q1)), .second, .val (.long q2), .second, iv 0, rv b242, .unset] [.ref b247, .long q2, .long (-q1), .long q3, .long q4, .null, .null, .ref b244, .ref b244])
            refine own_st (fun t k => XS.aload X247.here hx rfl (hb hby at_120) rfl rfl k) ?_
            show own_E p e below _ T247 (mkF m 122 #[.val (.long q1), .second, .val (.long q2), .second, .val (.long q3), .second, .val (.long q4), .second, iv p5, iv (p5 &&& (3 : Int32)), .val (.long (-q1)), .second, .val (.long q2), .second, iv 0, rv b242, .unset] [.ref b242, .ref b247, .long q2, .long (-q1), .long q3, .long q4, .null, .null, .ref b244, .ref b244])
            refine own_st (fun t k => XS.aconstNull X247.here hx rfl (hb hby at_122) k) ?_
            show own_E p e below _ T247 (mkF m 123 #[.val (.long q1), .second, .val (.long q2), .second, .val (.long q3), .second, .val (.long q4), .second, iv p5, iv (p5 &&& (3 : Int32)), .val (.long (-q1)), .second, .val (.long q2), .second, iv 0, rv b242, .unset] [.null, .ref b242, .ref b247, .long q2, .long (-q1), .long q3, .long q4, .null, .null, .ref b244, .ref b244])
            refine own_st (fun t k => XS.aconstNull X247.here hx rfl (hb hby at_123) k) ?_
            show own_E p e below _ T247 (mkF m 124 #[.val (.long q1), .second, .val (.long q2), .second, .val (.long q3), .second, .val (.long q4), .second, iv p5, iv (p5 &&& (3 : Int32)), .val (.long (-q1)), .second, .val (.long q2), .second, iv 0, rv b242, .unset] [.null, .null, .ref b242, .ref b247, .long q2, .long (-q1), .long q3, .long q4, .null, .null, .ref b244, .ref b244])
            refine own_st (fun t k => XS.aconstNull X247.here hx rfl (hb hby at_124) k) ?_
            show own_E p e below _ T247 (mkF m 125 #[.val (.long q1), .second, .val (.long q2), .second, .val (.long q3), .second, .val (.long q4), .second, iv p5, iv (p5 &&& (3 : Int32)), .val (.long (-q1)), .second, .val (.long q2), .second, iv 0, rv b242, .unset] [.null, .null, .null, .ref b242, .ref b247, .long q2, .long (-q1), .long q3, .long q4, .null, .null, .ref b244, .ref b244])
            refine own_st (fun t k => XS.aconstNull X247.here hx rfl (hb hby at_125) k) ?_
            show own_E p e below _ T247 (mkF m 126 #[.val (.long q1), .second, .val (.long q2), .second, .val (.long q3), .second, .val (.long q4), .second, iv p5, iv (p5 &&& (3 : Int32)), .val (.long (-q1)), .second, .val (.long q2), .second, iv 0, rv b242, .unset] [.null, .null, .null, .null, .ref b242, .ref b247, .long q2, .long (-q1), .long q3, .long q4, .null, .null, .ref b244, .ref b244])
            have B250 := (A244.ext E247)
            have B251 := (F_id_b244.ext E247)
            have B252 := (F_session_b244.ext E247)
            have B253 := (F_created_b244.ext E247)
            have B254 := (F_amount_b244.ext E247)
            have B255 := (F_amountCaptured_b244.ext E247)
            have B256 := (F_amountRefunded_b244.ext E247)
            have B257 := (F_currency_b244.ext E247)
            have B258 := (F_status_b244.ext E247)
            have B259 := (F_gateway_b244.ext E247)
            have B260 := (F_card_b244.ext E247)
            have B261 := (F_approval_b244.ext E247)
            have B262 := (F_lastError_b244.ext E247)
            obtain ⟨_, _, ⟨T263, L263, k263, n263⟩, -, X263, ⟨Lc263, hQ263, l263, y263, z263⟩, st263⟩ := X247.specialBack hx (y := own_y1) rfl ho247 (mvT hZ247 (own_w hw 12 rfl)) (mvT hZ247 (own_w hw 13 rfl)) (mvT hZ247 (own_w hw 14 rfl)) (by decide) (backOf (W := 1) (own_init l Z a0 hw [] b244 b247 b242 q4 q3 (-q1) q2 h247 n0 Z248 B250 B251 B252 B253 B254 B255 B256 B257 B258 B259 B260 B261 B262 g_b244) hZ247 (own_w hw 14 rfl) (own_w hw 10 rfl) (by decide) (by decide)) (g := (mkF m 126 #[.val (.long q1), .second, .val (.long q2), .second, .val (.long q3), .second, .val (.long q4), .second, iv p5, iv (p5 &&& (3 : Int32)), .val (.long (-q1)), .second, .val (.long q2), .second, iv 0, rv b242, .unset] [.null, .null, .null, .null, .ref b242, .ref b247, .long q2, .long (-q1), .long q3, .long q4, .null, .null, .ref b244, .ref b244])) rfl (by rw [hml]; rfl) (Steps.refl _) (a := b244) (argsL := [.null, .null, (.long q4), (.long q3), (.long (-q1)), (.long q2), (.ref b247), (.ref b242), .null, .null, .null, .null]) (rest := [(.ref b244)]) (lenOf own_pd_3 rfl) rfl (by show 2 * 0 + _ ≤ _; exact Nat.le_of_eq rfl) (hb hby at_126) (fun _ _ => ⟨rfl, e247, (by decide : 5 + 0 ≤ _), (by decide : 56 + 0 ≤ _)⟩)
            dsimp only [Pt.U, Pt.locs, Pt.cells, Pt.slots] at X263 l263 y263 z263 st263 hQ263
            subst l263 y263 z263
            obtain ⟨rfl, Nq263, Kq263, P263_0, P263_1, P263_2⟩ := hQ263
            have N263 := Fr.app (Fr.nil n0) Nq263
            have e263 : T263.heap = T263.heap := rfl
            have Z264 := Nat.le_trans Z248 Kq263.1
            have hk265 := Nat.le_trans hk247 Kq263.1
            refine own_tr st263 ?_
            show own_E p e below _ T263 (mkF m 129 #[.val (.long q1), .second, .val (.long q2), .second, .val (.long q3), .second, .val (.long q4), .second, iv p5, iv (p5 &&& (3 : Int32)), .val (.long (-q1)), .second, .val (.long q2), .second, iv 0, rv b242, .unset] [.ref b244])
            refine own_st (fun t k => XS.astore X263.here hx rfl (hb hby at_129) rfl rfl (l' := #[.val (.long q1), .second, .val (.long q2), .second, .val (.long q3), .second, .val (.long q4), .second, iv p5, iv (p5 &&& (3 : Int32)), .val (.long (-q1)), .second, .val (.long q2), .second, iv 0, rv b242, rv b244]) rfl k) ?_
            show own_E p e below _ T263 (mkF m 131 #[.val (.long q1), .second, .val (.long q2), .second, .val (.long q3), .second, .val (.long q4), .second, iv p5, iv (p5 &&& (3 : Int32)), .val (.long (-q1)), .second, .val (.long q2), .second, iv 0, rv b242, rv b244] [])
            refine own_st (fun t k => XS.aload X263.here hx rfl (hb hby at_131) rfl rfl k) ?_
            show own_E p e below _ T263 (mkF m 133 #[.val (.long q1), .second, .val (.long q2), .second, .val (.long q3), .second, .val (.long q4), .second, iv p5, iv (p5 &&& (3 : Int32)), .val (.long (-q1)), .second, .val (.long q2), .second, iv 0, rv b242, rv b244] [.ref b244])
            obtain ⟨cq266, kq266, q266a, q266b, q266c⟩ := isOf hZ247 e263 P263_0
            obtain ⟨_, _, ⟨T266, L266, k266, n266⟩, -, X266, ⟨Lc266, hQ266, l266, y266, z266⟩, st266⟩ := X263.virtualBack hx (y := own_y2) (z := own_y2) ho247 (mvT hZ247 (own_w hw 47 rfl)) (mvT hZ247 (own_w hw 48 rfl)) (notFace_of_selects (args := #[]) (mvT hZ247 (own_w hw 50 rfl))) (mvT hZ247 (own_w hw 50 rfl)) (mvT hZ247 (own_w hw 49 rfl)) (by decide) (backOf (W := 0) (own_isref l Z a0 hw [] b244 (-q1) q2 T263.heap n0 Z264 P263_1 P263_2) hZ247 (own_w hw 51 rfl) (own_w hw 10 rfl) (by decide) (by decide)) q266a q266c (g := (mkF m 133 #[.val (.long q1), .second, .val (.long q2), .second, .val (.long q3), .second, .val (.long q4), .second, iv p5, iv (p5 &&& (3 : Int32)), .val (.long (-q1)), .second, .val (.long q2), .second, iv 0, rv b242, rv b244] [.ref b244])) rfl (by rw [hml]; rfl) (Steps.refl _) (argsL := []) (rest := []) (lenOf own_pd_1 rfl) rfl (by show 2 * 0 + _ ≤ _; exact Nat.le_of_eq rfl) (hb hby at_133) (fun _ _ => ⟨rfl, e263, (by decide : 5 + 0 ≤ _), (by decide : 56 + 0 ≤ _)⟩)
            dsimp only [Pt.U, Pt.locs, Pt.cells, Pt.slots] at X266 l266 y266 z266 st266 hQ266
            subst l266 y266 z266
            obtain ⟨hR266, e266, rfl⟩ := hQ266
            have N266 := Fr.app N263 (Fr.nil n0)
            rcases hR266 with ⟨rfl, ha266_0, ha266_1⟩ | ⟨rfl, ha266_0, ha266_1⟩ | ⟨rfl, ha266_0⟩
            · exfalso
              have f267 := rng32 p5
              have f268 : (3 : Int32).toInt = 3 := rfl
              have f269 := rng32 (p5 &&& (3 : Int32))
              have f270 : (p5 &&& (3 : Int32)).toInt = p5.toInt % 4 := c_mask p5 (3 : Int32) 2 (by decide) (by decide)
              have f271 : (0 : Int32).toInt = 0 := rfl
              have f272 : (1 : Int32).toInt = 1 := rfl
              have f273 : (0 : Int64).toInt = 0 := rfl
              have f274 := rng64 q1
              have f275 : (2 : Int32).toInt = 2 := rfl
              have f276 := rng32 ((p5.toUInt32 >>> ((2 : Int32) &&& 31).toUInt32).toInt32)
              have f277 : ((p5.toUInt32 >>> ((2 : Int32) &&& 31).toUInt32).toInt32).toInt = (p5.toInt % 4294967296) / 4 := c_iushr p5 (2 : Int32) 2 (by decide) (by decide)
              have f278 := rng32 (((p5.toUInt32 >>> ((2 : Int32) &&& 31).toUInt32).toInt32) &&& (1 : Int32))
              have f279 : (((p5.toUInt32 >>> ((2 : Int32) &&& 31).toUInt32).toInt32) &&& (1 : Int32)).toInt = ((p5.toUInt32 >>> ((2 : Int32) &&& 31).toUInt32).toInt32).toInt % 2 := c_mask ((p5.toUInt32 >>> ((2 : Int32) &&& 31).toUInt32).toInt32) (1 : Int32) 1 (by decide) (by decide)
              have f280 := rng64 (-q1)
              have f281 := c_lneg q1
              have f282 := rng64 q2
              have g283 := hc1
              rw [← Int32.toInt_inj] at g283
              have g284 := hc139
              rw [← Int32.toInt_inj] at g284
              have g285 := hc239
              rw [Int64.lt_iff_toInt_lt] at g285
              have g286 := hc240
              rw [← Int32.toInt_inj] at g286
              have g287 := hc241
              rw [← Int32.toInt_inj] at g287
              have g288 := ha266_0
              rw [Int64.lt_iff_toInt_lt] at g288
              have g289 := ha266_1
              rw [← Int64.toInt_inj] at g289
              omega
            · exfalso
              have f290 := rng32 p5
              have f291 : (3 : Int32).toInt = 3 := rfl
              have f292 := rng32 (p5 &&& (3 : Int32))
              have f293 : (p5 &&& (3 : Int32)).toInt = p5.toInt % 4 := c_mask p5 (3 : Int32) 2 (by decide) (by decide)
              have f294 : (0 : Int32).toInt = 0 := rfl
              have f295 : (1 : Int32).toInt = 1 := rfl
              have f296 : (0 : Int64).toInt = 0 := rfl
              have f297 := rng64 q1
              have f298 : (2 : Int32).toInt = 2 := rfl
              have f299 := rng32 ((p5.toUInt32 >>> ((2 : Int32) &&& 31).toUInt32).toInt32)
              have f300 : ((p5.toUInt32 >>> ((2 : Int32) &&& 31).toUInt32).toInt32).toInt = (p5.toInt % 4294967296) / 4 := c_iushr p5 (2 : Int32) 2 (by decide) (by decide)
              have f301 := rng32 (((p5.toUInt32 >>> ((2 : Int32) &&& 31).toUInt32).toInt32) &&& (1 : Int32))
              have f302 : (((p5.toUInt32 >>> ((2 : Int32) &&& 31).toUInt32).toInt32) &&& (1 : Int32)).toInt = ((p5.toUInt32 >>> ((2 : Int32) &&& 31).toUInt32).toInt32).toInt % 2 := c_mask ((p5.toUInt32 >>> ((2 : Int32) &&& 31).toUInt32).toInt32) (1 : Int32) 1 (by decide) (by decide)
              have f303 := rng64 (-q1)
              have f304 := c_lneg q1
              have f305 := rng64 q2
              have g306 := hc1
              rw [← Int32.toInt_inj] at g306
              have g307 := hc139
              rw [← Int32.toInt_inj] at g307
              have g308 := hc239
              rw [Int64.lt_iff_toInt_lt] at g308
              have g309 := hc240
              rw [← Int32.toInt_inj] at g309
              have g310 := hc241
              rw [← Int32.toInt_inj] at g310
              have g311 := ha266_0
              rw [Int64.lt_iff_toInt_lt] at g311
              have g312 := ha266_1
              rw [← Int64.toInt_inj] at g312
              omega
            · refine own_tr st266 ?_
              show own_E p e below _ T266 (mkF m 136 #[.val (.long q1), .second, .val (.long q2), .second, .val (.long q3), .second, .val (.long q4), .second, iv p5, iv (p5 &&& (3 : Int32)), .val (.long (-q1)), .second, .val (.long q2), .second, iv 0, rv b242, rv b244] [.int 0])
              refine own_st (fun t k => XS.iload X266.here hx rfl (hb hby at_136) rfl k) ?_
              show own_E p e below _ T266 (mkF m 138 #[.val (.long q1), .second, .val (.long q2), .second, .val (.long q3), .second, .val (.long q4), .second, iv p5, iv (p5 &&& (3 : Int32)), .val (.long (-q1)), .second, .val (.long q2), .second, iv 0, rv b242, rv b244] [.int 0, .int 0])
              refine own_st (fun t k => XS.icmpNo X266.here hx rfl (hb hby at_138) rfl (by decide) k) ?_
              show own_E p e below _ T266 (mkF m 141 #[.val (.long q1), .second, .val (.long q2), .second, .val (.long q3), .second, .val (.long q4), .second, iv p5, iv (p5 &&& (3 : Int32)), .val (.long (-q1)), .second, .val (.long q2), .second, iv 0, rv b242, rv b244] [])
              refine own_st (fun t k => XS.iconst X266.here hx rfl (hb hby at_141) k) ?_
              show own_E p e below _ T266 (mkF m 142 #[.val (.long q1), .second, .val (.long q2), .second, .val (.long q3), .second, .val (.long q4), .second, iv p5, iv (p5 &&& (3 : Int32)), .val (.long (-q1)), .second, .val (.long q2), .second, iv 0, rv b242, rv b244] [.int 1])
              refine own_st (fun t k => XS.goto X266.here hx rfl (pc0 := 142) (pc' := 146) rfl (hb hby at_142) (by decide) (by decide) k) ?_
              show own_E p e below _ T266 (mkF m 146 #[.val (.long q1), .second, .val (.long q2), .second, .val (.long q3), .second, .val (.long q4), .second, iv p5, iv (p5 &&& (3 : Int32)), .val (.long (-q1)), .second, .val (.long q2), .second, iv 0, rv b242, rv b244] [.int 1])
              refine own_retSW X266 hS247 (by rw [e266]; exact hk265) hx Bd.notSynchronized Bd.returns rfl (by decide) (hb hby at_146) (by decide) (by decide) ?_
              exact ⟨rfl, N266⟩
          · refine own_st (fun t k => XS.ifNo X0.here hx rfl (hb hby at_92) rfl ((if0 _ _).trans (feq hc241).1) k) ?_
            show own_E p e below _ s₁ (mkF m 95 #[.val (.long q1), .second, .val (.long q2), .second, .val (.long q3), .second, .val (.long q4), .second, iv p5, iv (p5 &&& (3 : Int32)), .val (.long (-q1)), .second, .val (.long q2), .second, iv 0, .unset, .unset] [])
            obtain ⟨b313, T313, h313, k313, X313, e313, E313, hS313, hk313, hZ313, ho313, st313⟩ := ldcS (s := s) (vm0 := s.vm) X0 hx hZ hown (own_w hw 52 rfl) (own_wS hw) e0 (own_since s) (Nat.zero_le _) (g := (mkF m 95 #[.val (.long q1), .second, .val (.long q2), .second, .val (.long q3), .second, .val (.long q4), .second, iv p5, iv (p5 &&& (3 : Int32)), .val (.long (-q1)), .second, .val (.long q2), .second, iv 0, .unset, .unset] [])) rfl (hb hby at_95) (n := 32) (by decide) (by decide) (by decide) (by decide)
            have Z314 := Nat.le_trans Z0 E313.1
            refine own_st st313 ?_
            show own_E p e below _ T313 (mkF m 97 #[.val (.long q1), .second, .val (.long q2), .second, .val (.long q3), .second, .val (.long q4), .second, iv p5, iv (p5 &&& (3 : Int32)), .val (.long (-q1)), .second, .val (.long q2), .second, iv 0, .unset, .unset] [.ref b313])
            refine own_st (fun t k => XS.goto X313.here hx rfl (pc0 := 97) (pc' := 102) rfl (hb hby at_97) (by decide) (by decide) k) ?_
            show own_E p e below _ T313 (mkF m 102 #[.val (.long q1), .second, .val (.long q2), .second, .val (.long q3), .second, .val (.long q4), .second, iv p5, iv (p5 &&& (3 : Int32)), .val (.long (-q1)), .second, .val (.long q2), .second, iv 0, .unset, .unset] [.ref b313])
            refine own_st (fun t k => XS.astore X313.here hx rfl (hb hby at_102) rfl rfl (l' := #[.val (.long q1), .second, .val (.long q2), .second, .val (.long q3), .second, .val (.long q4), .second, iv p5, iv (p5 &&& (3 : Int32)), .val (.long (-q1)), .second, .val (.long q2), .second, iv 0, rv b313, .unset]) rfl k) ?_
            show own_E p e below _ T313 (mkF m 104 #[.val (.long q1), .second, .val (.long q2), .second, .val (.long q3), .second, .val (.long q4), .second, iv p5, iv (p5 &&& (3 : Int32)), .val (.long (-q1)), .second, .val (.long q2), .second, iv 0, rv b313, .unset] [])
            obtain ⟨T315, h315, X315, e315, E315, A315, D315, -, st315⟩ := newO X313 hx hZ313 ho313 (own_w hw 8 rfl) (own_w hw 9 rfl) (own_w hw 10 rfl) e313 (g := (mkF m 104 #[.val (.long q1), .second, .val (.long q2), .second, .val (.long q3), .second, .val (.long q4), .second, iv p5, iv (p5 &&& (3 : Int32)), .val (.long (-q1)), .second, .val (.long q2), .second, iv 0, rv b313, .unset] [])) rfl (hb hby at_104) (by decide) (by decide)
            obtain ⟨b315, g315⟩ : ∃ z, z = h313.size := ⟨_, rfl⟩
            rw [← g315] at A315 D315 st315
            have g_b315 : n0 ≤ b315 := Nat.le_trans Z314 (Nat.le_of_eq g315.symm)
            have Z316 := Nat.le_trans Z314 E315.1
            have hk317 := Nat.le_trans hk313 E315.1
            have F_id_b315 : Fld Z h315 b315 "com/example/acquirer/acquirer/Payment" "id" "Ljava/lang/String;" .null := D315 (Or.inr (own_w hw 24 rfl)) (ty := (.object "java/lang/String")) (by decide)
            have F_session_b315 : Fld Z h315 b315 "com/example/acquirer/acquirer/Payment" "session" "Ljava/lang/String;" .null := D315 (Or.inr (own_w hw 26 rfl)) (ty := (.object "java/lang/String")) (by decide)
            have F_created_b315 : Fld Z h315 b315 "com/example/acquirer/acquirer/Payment" "created" "J" (.long (0 : Int64)) := D315 (Or.inr (own_w hw 28 rfl)) (ty := .long) (by decide)
            have F_amount_b315 : Fld Z h315 b315 "com/example/acquirer/acquirer/Payment" "amount" "J" (.long (0 : Int64)) := D315 (Or.inr (own_w hw 30 rfl)) (ty := .long) (by decide)
            have F_amountCaptured_b315 : Fld Z h315 b315 "com/example/acquirer/acquirer/Payment" "amountCaptured" "J" (.long (0 : Int64)) := D315 (Or.inr (own_w hw 32 rfl)) (ty := .long) (by decide)
            have F_amountRefunded_b315 : Fld Z h315 b315 "com/example/acquirer/acquirer/Payment" "amountRefunded" "J" (.long (0 : Int64)) := D315 (Or.inr (own_w hw 34 rfl)) (ty := .long) (by decide)
            have F_currency_b315 : Fld Z h315 b315 "com/example/acquirer/acquirer/Payment" "currency" "Ljava/lang/String;" .null := D315 (Or.inr (own_w hw 36 rfl)) (ty := (.object "java/lang/String")) (by decide)
            have F_status_b315 : Fld Z h315 b315 "com/example/acquirer/acquirer/Payment" "status" "Ljava/lang/String;" .null := D315 (Or.inr (own_w hw 38 rfl)) (ty := (.object "java/lang/String")) (by decide)
            have F_gateway_b315 : Fld Z h315 b315 "com/example/acquirer/acquirer/Payment" "gateway" "Ljava/lang/String;" .null := D315 (Or.inr (own_w hw 40 rfl)) (ty := (.object "java/lang/String")) (by decide)
            have F_card_b315 : Fld Z h315 b315 "com/example/acquirer/acquirer/Payment" "card" "Lcom/example/acquirer/acquirer/Card;" .null := D315 (Or.inr (own_w hw 42 rfl)) (ty := (.object "com/example/acquirer/acquirer/Card")) (by decide)
            have F_approval_b315 : Fld Z h315 b315 "com/example/acquirer/acquirer/Payment" "approval" "Lcom/example/acquirer/acquirer/Approval;" .null := D315 (Or.inr (own_w hw 44 rfl)) (ty := (.object "com/example/acquirer/acquirer/Approval")) (by decide)
            have F_lastError_b315 : Fld Z h315 b315 "com/example/acquirer/acquirer/Payment" "lastError" "Ljava/lang/String;" .null := D315 (Or.inr (own_w hw 46 rfl)) (ty := (.object "java/lang/String")) (by decide)
            refine own_st st315 ?_
            show own_E p e below _ T315 (mkF m 107 #[.val (.long q1), .second, .val (.long q2), .second, .val (.long q3), .second, .val (.long q4), .second, iv p5, iv (p5 &&& (3 : Int32)), .val (.long (-q1)), .second, .val (.long q2), .second, iv 0, rv b313, .unset] [.ref b315])
            refine own_st (fun t k => XS.dup X315.here hx rfl (hb hby at_107) rfl rfl k) ?_
            show own_E p e below _ T315 (mkF m 108 #[.val (.long q1), .second, .val (.long q2), .second, .val (.long q3), .second, .val (.long q4), .second, iv p5, iv (p5 &&& (3 : Int32)), .val (.long (-q1)), .second, .val (.long q2), .second, iv 0, rv b313, .unset] [.ref b315, .ref b315])
            refine own_st (fun t k => XS.aconstNull X315.here hx rfl (hb hby at_108) k) ?_
            show own_E p e below _ T315 (mkF m 109 #[.val (.long q1), .second, .val (.long q2), .second, .val (.long q3), .second, .val (.long q4), .second, iv p5, iv (p5 &&& (3 : Int32)), .val (.long (-q1)), .second, .val (.long q2), .second, iv 0, rv b313, .unset] [.null, .ref b315, .ref b315])
            refine own_st (fun t k => XS.aconstNull X315.here hx rfl (hb hby at_109) k) ?_
            show own_E p e below _ T315 (mkF m 110 #[.val (.long q1), .second, .val (.long q2), .second, .val (.long q3), .second, .val (.long q4), .second, iv p5, iv (p5 &&& (3 : Int32)), .val (.long (-q1)), .second, .val (.long q2), .second, iv 0, rv b313, .unset] [.null, .null, .ref b315, .ref b315])
            refine own_st (fun t k => XS.lload X315.here hx rfl (hb hby at_110) rfl k) ?_
            show own_E p e below _ T315 (mkF m 112 #[.val (.long q1), .second, .val (.long q2), .second, .val (.long q3), .second, .val (.long q4), .second, iv p5, iv (p5 &&& (3 : Int32)), .val (.long (-q1)), .second, .val (.long q2), .second, iv 0, rv b313, .unset] [.long q4, .null, .null, .ref b315, .ref b315])
            refine own_st (fun t k => XS.lload X315.here hx rfl (hb hby at_112) rfl k) ?_
            show own_E p e below _ T315 (mkF m 114 #[.val (.long q1), .second, .val (.long q2), .second, .val (.long q3), .second, .val (.long q4), .second, iv p5, iv (p5 &&& (3 : Int32)), .val (.long (-q1)), .second, .val (.long q2), .second, iv 0, rv b313, .unset] [.long q3, .long q4, .null, .null, .ref b315, .ref b315])
            refine own_st (fun t k => XS.lload X315.here hx rfl (hb hby at_114) rfl k) ?_
            show own_E p e below _ T315 (mkF m 116 #[.val (.long q1), .second, .val (.long q2), .second, .val (.long q3), .second, .val (.long q4), .second, iv p5, iv (p5 &&& (3 : Int32)), .val (.long (-q1)), .second, .val (.long q2), .second, iv 0, rv b313, .unset] [.long (-q1), .long q3, .long q4, .null, .null, .ref b315, .ref b315])
            refine own_st (fun t k => XS.lload X315.here hx rfl (hb hby at_116) rfl k) ?_
            show own_E p e below _ T315 (mkF m 118 #[.val (.long q1), .second, .val (.long q2), .second, .val (.long q3), .second, .val (.long q4), .second, iv p5, iv (p5 &&& (3 : Int32)), .val (.long (-q1)), .second, .val (.long q2), .second, iv 0, rv b313, .unset] [.long q2, .long (-q1), .long q3, .long q4, .null, .null, .ref b315, .ref b315])
            obtain ⟨b318, T318, h318, k318, X318, e318, E318, hS318, hk318, hZ318, ho318, st318⟩ := ldcS (s := s) (vm0 := T313.vm) X315 hx hZ313 ho313 (own_w hw 11 rfl) (own_wS hw) e315 hS313 hk317 (g := (mkF m 118 #[.val (.long q1), .second, .val (.long q2), .second, .val (.long q3), .second, .val (.long q4), .second, iv p5, iv (p5 &&& (3 : Int32)), .val (.long (-q1)), .second, .val (.long q2), .second, iv 0, rv b313, .unset] [.long q2, .long (-q1), .long q3, .long q4, .null, .null, .ref b315, .ref b315])) rfl (hb hby at_118) (n := 12) (by decide) (by decide) (by decide) (by decide)
            have Z319 := Nat.le_trans Z316 E318.1
            have hk320 := Nat.le_trans hk317 E318.1
            refine own_st st318 ?_
            show own_E p e below _ T318 (mkF m 120 #[.val (.long q1), .second, .val (.long q2), .second, .val (.long q3), .second, .val (.long q4), .second, iv p5, iv (p5 &&& (3 : Int32)), .val (.long (-q1)), .second, .val (.long q2), .second, iv 0, rv b313, .unset] [.ref b318, .long q2, .long (-q1), .long q3, .long q4, .null, .null, .ref b315, .ref b315])
            refine own_st (fun t k => XS.aload X318.here hx rfl (hb hby at_120) rfl rfl k) ?_
            show own_E p e below _ T318 (mkF m 122 #[.val (.long q1), .second, .val (.long q2), .second, .val (.long q3), .second, .val (.long q4), .second, iv p5, iv (p5 &&& (3 : Int32)), .val (.long (-q1)), .second, .val (.long q2), .second, iv 0, rv b313, .unset] [.ref b313, .ref b318, .long q2, .long (-q1), .long q3, .long q4, .null, .null, .ref b315, .ref b315])
            refine own_st (fun t k => XS.aconstNull X318.here hx rfl (hb hby at_122) k) ?_
            show own_E p e below _ T318 (mkF m 123 #[.val (.long q1), .second, .val (.long q2), .second, .val (.long q3), .second, .val (.long q4), .second, iv p5, iv (p5 &&& (3 : Int32)), .val (.long (-q1)), .second, .val (.long q2), .second, iv 0, rv b313, .unset] [.null, .ref b313, .ref b318, .long q2, .long (-q1), .long q3, .long q4, .null, .null, .ref b315, .ref b315])
            refine own_st (fun t k => XS.aconstNull X318.here hx rfl (hb hby at_123) k) ?_
            show own_E p e below _ T318 (mkF m 124 #[.val (.long q1), .second, .val (.long q2), .second, .val (.long q3), .second, .val (.long q4), .second, iv p5, iv (p5 &&& (3 : Int32)), .val (.long (-q1)), .second, .val (.long q2), .second, iv 0, rv b313, .unset] [.null, .null, .ref b313, .ref b318, .long q2, .long (-q1), .long q3, .long q4, .null, .null, .ref b315, .ref b315])
            refine own_st (fun t k => XS.aconstNull X318.here hx rfl (hb hby at_124) k) ?_
            show own_E p e below _ T318 (mkF m 125 #[.val (.long q1), .second, .val (.long q2), .second, .val (.long q3), .second, .val (.long q4), .second, iv p5, iv (p5 &&& (3 : Int32)), .val (.long (-q1)), .second, .val (.long q2), .second, iv 0, rv b313, .unset] [.null, .null, .null, .ref b313, .ref b318, .long q2, .long (-q1), .long q3, .long q4, .null, .null, .ref b315, .ref b315])
            refine own_st (fun t k => XS.aconstNull X318.here hx rfl (hb hby at_125) k) ?_
            show own_E p e below _ T318 (mkF m 126 #[.val (.long q1), .second, .val (.long q2), .second, .val (.long q3), .second, .val (.long q4), .second, iv p5, iv (p5 &&& (3 : Int32)), .val (.long (-q1)), .second, .val (.long q2), .second, iv 0, rv b313, .unset] [.null, .null, .null, .null, .ref b313, .ref b318, .long q2, .long (-q1), .long q3, .long q4, .null, .null, .ref b315, .ref b315])
            have B321 := (A315.ext E318)
            have B322 := (F_id_b315.ext E318)
            have B323 := (F_session_b315.ext E318)
            have B324 := (F_created_b315.ext E318)
            have B325 := (F_amount_b315.ext E318)
            have B326 := (F_amountCaptured_b315.ext E318)
            have B327 := (F_amountRefunded_b315.ext E318)
            have B328 := (F_currency_b315.ext E318)
            have B329 := (F_status_b315.ext E318)
            have B330 := (F_gateway_b315.ext E318)
            have B331 := (F_card_b315.ext E318)
            have B332 := (F_approval_b315.ext E318)
            have B333 := (F_lastError_b315.ext E318)
            obtain ⟨_, _, ⟨T334, L334, k334, n334⟩, -, X334, ⟨Lc334, hQ334, l334, y334, z334⟩, st334⟩ := X318.specialBack hx (y := own_y1) rfl ho318 (mvT hZ318 (own_w hw 12 rfl)) (mvT hZ318 (own_w hw 13 rfl)) (mvT hZ318 (own_w hw 14 rfl)) (by decide) (backOf (W := 1) (own_init l Z a0 hw [] b315 b318 b313 q4 q3 (-q1) q2 h318 n0 Z319 B321 B322 B323 B324 B325 B326 B327 B328 B329 B330 B331 B332 B333 g_b315) hZ318 (own_w hw 14 rfl) (own_w hw 10 rfl) (by decide) (by decide)) (g := (mkF m 126 #[.val (.long q1), .second, .val (.long q2), .second, .val (.long q3), .second, .val (.long q4), .second, iv p5, iv (p5 &&& (3 : Int32)), .val (.long (-q1)), .second, .val (.long q2), .second, iv 0, rv b313, .unset] [.null, .null, .null, .null, .ref b313, .ref b318, .long q2, .long (-q1), .long q3, .long q4, .null, .null, .ref b315, .ref b315])) rfl (by rw [hml]; rfl) (Steps.refl _) (a := b315) (argsL := [.null, .null, (.long q4), (.long q3), (.long (-q1)), (.long q2), (.ref b318), (.ref b313), .null, .null, .null, .null]) (rest := [(.ref b315)]) (lenOf own_pd_3 rfl) rfl (by show 2 * 0 + _ ≤ _; exact Nat.le_of_eq rfl) (hb hby at_126) (fun _ _ => ⟨rfl, e318, (by decide : 5 + 0 ≤ _), (by decide : 64 + 0 ≤ _)⟩)
            dsimp only [Pt.U, Pt.locs, Pt.cells, Pt.slots] at X334 l334 y334 z334 st334 hQ334
            subst l334 y334 z334
            obtain ⟨rfl, Nq334, Kq334, P334_0, P334_1, P334_2⟩ := hQ334
            have N334 := Fr.app (Fr.nil n0) Nq334
            have e334 : T334.heap = T334.heap := rfl
            have Z335 := Nat.le_trans Z319 Kq334.1
            have hk336 := Nat.le_trans hk318 Kq334.1
            refine own_tr st334 ?_
            show own_E p e below _ T334 (mkF m 129 #[.val (.long q1), .second, .val (.long q2), .second, .val (.long q3), .second, .val (.long q4), .second, iv p5, iv (p5 &&& (3 : Int32)), .val (.long (-q1)), .second, .val (.long q2), .second, iv 0, rv b313, .unset] [.ref b315])
            refine own_st (fun t k => XS.astore X334.here hx rfl (hb hby at_129) rfl rfl (l' := #[.val (.long q1), .second, .val (.long q2), .second, .val (.long q3), .second, .val (.long q4), .second, iv p5, iv (p5 &&& (3 : Int32)), .val (.long (-q1)), .second, .val (.long q2), .second, iv 0, rv b313, rv b315]) rfl k) ?_
            show own_E p e below _ T334 (mkF m 131 #[.val (.long q1), .second, .val (.long q2), .second, .val (.long q3), .second, .val (.long q4), .second, iv p5, iv (p5 &&& (3 : Int32)), .val (.long (-q1)), .second, .val (.long q2), .second, iv 0, rv b313, rv b315] [])
            refine own_st (fun t k => XS.aload X334.here hx rfl (hb hby at_131) rfl rfl k) ?_
            show own_E p e below _ T334 (mkF m 133 #[.val (.long q1), .second, .val (.long q2), .second, .val (.long q3), .second, .val (.long q4), .second, iv p5, iv (p5 &&& (3 : Int32)), .val (.long (-q1)), .second, .val (.long q2), .second, iv 0, rv b313, rv b315] [.ref b315])
            obtain ⟨cq337, kq337, q337a, q337b, q337c⟩ := isOf hZ318 e334 P334_0
            obtain ⟨_, _, ⟨T337, L337, k337, n337⟩, -, X337, ⟨Lc337, hQ337, l337, y337, z337⟩, st337⟩ := X334.virtualBack hx (y := own_y2) (z := own_y2) ho318 (mvT hZ318 (own_w hw 47 rfl)) (mvT hZ318 (own_w hw 48 rfl)) (notFace_of_selects (args := #[]) (mvT hZ318 (own_w hw 50 rfl))) (mvT hZ318 (own_w hw 50 rfl)) (mvT hZ318 (own_w hw 49 rfl)) (by decide) (backOf (W := 0) (own_isref l Z a0 hw [] b315 (-q1) q2 T334.heap n0 Z335 P334_1 P334_2) hZ318 (own_w hw 51 rfl) (own_w hw 10 rfl) (by decide) (by decide)) q337a q337c (g := (mkF m 133 #[.val (.long q1), .second, .val (.long q2), .second, .val (.long q3), .second, .val (.long q4), .second, iv p5, iv (p5 &&& (3 : Int32)), .val (.long (-q1)), .second, .val (.long q2), .second, iv 0, rv b313, rv b315] [.ref b315])) rfl (by rw [hml]; rfl) (Steps.refl _) (argsL := []) (rest := []) (lenOf own_pd_1 rfl) rfl (by show 2 * 0 + _ ≤ _; exact Nat.le_of_eq rfl) (hb hby at_133) (fun _ _ => ⟨rfl, e334, (by decide : 5 + 0 ≤ _), (by decide : 64 + 0 ≤ _)⟩)
            dsimp only [Pt.U, Pt.locs, Pt.cells, Pt.slots] at X337 l337 y337 z337 st337 hQ337
            subst l337 y337 z337
            obtain ⟨hR337, e337, rfl⟩ := hQ337
            have N337 := Fr.app N334 (Fr.nil n0)
            rcases hR337 with ⟨rfl, ha337_0, ha337_1⟩ | ⟨rfl, ha337_0, ha337_1⟩ | ⟨rfl, ha337_0⟩
            · exfalso
              have f338 := rng32 p5
              have f339 : (3 : Int32).toInt = 3 := rfl
              have f340 := rng32 (p5 &&& (3 : Int32))
              have f341 : (p5 &&& (3 : Int32)).toInt = p5.toInt % 4 := c_mask p5 (3 : Int32) 2 (by decide) (by decide)
              have f342 : (0 : Int32).toInt = 0 := rfl
              have f343 : (1 : Int32).toInt = 1 := rfl
              have f344 : (0 : Int64).toInt = 0 := rfl
              have f345 := rng64 q1
              have f346 : (2 : Int32).toInt = 2 := rfl
              have f347 := rng32 ((p5.toUInt32 >>> ((2 : Int32) &&& 31).toUInt32).toInt32)
              have f348 : ((p5.toUInt32 >>> ((2 : Int32) &&& 31).toUInt32).toInt32).toInt = (p5.toInt % 4294967296) / 4 := c_iushr p5 (2 : Int32) 2 (by decide) (by decide)
              have f349 := rng32 (((p5.toUInt32 >>> ((2 : Int32) &&& 31).toUInt32).toInt32) &&& (1 : Int32))
              have f350 : (((p5.toUInt32 >>> ((2 : Int32) &&& 31).toUInt32).toInt32) &&& (1 : Int32)).toInt = ((p5.toUInt32 >>> ((2 : Int32) &&& 31).toUInt32).toInt32).toInt % 2 := c_mask ((p5.toUInt32 >>> ((2 : Int32) &&& 31).toUInt32).toInt32) (1 : Int32) 1 (by decide) (by decide)
              have f351 := rng64 (-q1)
              have f352 := c_lneg q1
              have f353 := rng64 q2
              have g354 := hc1
              rw [← Int32.toInt_inj] at g354
              have g355 := hc139
              rw [← Int32.toInt_inj] at g355
              have g356 := hc239
              rw [Int64.lt_iff_toInt_lt] at g356
              have g357 := hc240
              rw [← Int32.toInt_inj] at g357
              have g358 := hc241
              rw [← Int32.toInt_inj] at g358
              have g359 := ha337_0
              rw [Int64.lt_iff_toInt_lt] at g359
              have g360 := ha337_1
              rw [← Int64.toInt_inj] at g360
              omega
            · exfalso
              have f361 := rng32 p5
              have f362 : (3 : Int32).toInt = 3 := rfl
              have f363 := rng32 (p5 &&& (3 : Int32))
              have f364 : (p5 &&& (3 : Int32)).toInt = p5.toInt % 4 := c_mask p5 (3 : Int32) 2 (by decide) (by decide)
              have f365 : (0 : Int32).toInt = 0 := rfl
              have f366 : (1 : Int32).toInt = 1 := rfl
              have f367 : (0 : Int64).toInt = 0 := rfl
              have f368 := rng64 q1
              have f369 : (2 : Int32).toInt = 2 := rfl
              have f370 := rng32 ((p5.toUInt32 >>> ((2 : Int32) &&& 31).toUInt32).toInt32)
              have f371 : ((p5.toUInt32 >>> ((2 : Int32) &&& 31).toUInt32).toInt32).toInt = (p5.toInt % 4294967296) / 4 := c_iushr p5 (2 : Int32) 2 (by decide) (by decide)
              have f372 := rng32 (((p5.toUInt32 >>> ((2 : Int32) &&& 31).toUInt32).toInt32) &&& (1 : Int32))
              have f373 : (((p5.toUInt32 >>> ((2 : Int32) &&& 31).toUInt32).toInt32) &&& (1 : Int32)).toInt = ((p5.toUInt32 >>> ((2 : Int32) &&& 31).toUInt32).toInt32).toInt % 2 := c_mask ((p5.toUInt32 >>> ((2 : Int32) &&& 31).toUInt32).toInt32) (1 : Int32) 1 (by decide) (by decide)
              have f374 := rng64 (-q1)
              have f375 := c_lneg q1
              have f376 := rng64 q2
              have g377 := hc1
              rw [← Int32.toInt_inj] at g377
              have g378 := hc139
              rw [← Int32.toInt_inj] at g378
              have g379 := hc239
              rw [Int64.lt_iff_toInt_lt] at g379
              have g380 := hc240
              rw [← Int32.toInt_inj] at g380
              have g381 := hc241
              rw [← Int32.toInt_inj] at g381
              have g382 := ha337_0
              rw [Int64.lt_iff_toInt_lt] at g382
              have g383 := ha337_1
              rw [← Int64.toInt_inj] at g383
              omega
            · refine own_tr st337 ?_
              show own_E p e below _ T337 (mkF m 136 #[.val (.long q1), .second, .val (.long q2), .second, .val (.long q3), .second, .val (.long q4), .second, iv p5, iv (p5 &&& (3 : Int32)), .val (.long (-q1)), .second, .val (.long q2), .second, iv 0, rv b313, rv b315] [.int 0])
              refine own_st (fun t k => XS.iload X337.here hx rfl (hb hby at_136) rfl k) ?_
              show own_E p e below _ T337 (mkF m 138 #[.val (.long q1), .second, .val (.long q2), .second, .val (.long q3), .second, .val (.long q4), .second, iv p5, iv (p5 &&& (3 : Int32)), .val (.long (-q1)), .second, .val (.long q2), .second, iv 0, rv b313, rv b315] [.int 0, .int 0])
              refine own_st (fun t k => XS.icmpNo X337.here hx rfl (hb hby at_138) rfl (by decide) k) ?_
              show own_E p e below _ T337 (mkF m 141 #[.val (.long q1), .second, .val (.long q2), .second, .val (.long q3), .second, .val (.long q4), .second, iv p5, iv (p5 &&& (3 : Int32)), .val (.long (-q1)), .second, .val (.long q2), .second, iv 0, rv b313, rv b315] [])
              refine own_st (fun t k => XS.iconst X337.here hx rfl (hb hby at_141) k) ?_
              show own_E p e below _ T337 (mkF m 142 #[.val (.long q1), .second, .val (.long q2), .second, .val (.long q3), .second, .val (.long q4), .second, iv p5, iv (p5 &&& (3 : Int32)), .val (.long (-q1)), .second, .val (.long q2), .second, iv 0, rv b313, rv b315] [.int 1])
              refine own_st (fun t k => XS.goto X337.here hx rfl (pc0 := 142) (pc' := 146) rfl (hb hby at_142) (by decide) (by decide) k) ?_
              show own_E p e below _ T337 (mkF m 146 #[.val (.long q1), .second, .val (.long q2), .second, .val (.long q3), .second, .val (.long q4), .second, iv p5, iv (p5 &&& (3 : Int32)), .val (.long (-q1)), .second, .val (.long q2), .second, iv 0, rv b313, rv b315] [.int 1])
              refine own_retSW X337 hS318 (by rw [e337]; exact hk336) hx Bd.notSynchronized Bd.returns rfl (by decide) (hb hby at_146) (by decide) (by decide) ?_
              exact ⟨rfl, N337⟩
        · refine own_st (fun t k => XS.icmpYes X0.here hx rfl (pc0 := 72) (pc' := 79) rfl (hb hby at_72) rfl (feq hc240).2 (by decide) (by decide) k) ?_
          show own_E p e below _ s₁ (mkF m 79 #[.val (.long q1), .second, .val (.long q2), .second, .val (.long q3), .second, .val (.long q4), .second, iv p5, iv (p5 &&& (3 : Int32)), .val (.long (-q1)), .second, .unset, .unset, .unset, .unset, .unset] [])
          refine own_st (fun t k => XS.lload X0.here hx rfl (hb hby at_79) rfl k) ?_
          show own_E p e below _ s₁ (mkF m 81 #[.val (.long q1), .second, .val (.long q2), .second, .val (.long q3), .second, .val (.long q4), .second, iv p5, iv (p5 &&& (3 : Int32)), .val (.long (-q1)), .second, .unset, .unset, .unset, .unset, .unset] [.long (-q1)])
          refine own_st (fun t k => XS.lstore X0.here hx rfl (hb hby at_81) rfl (l' := #[.val (.long q1), .second, .val (.long q2), .second, .val (.long q3), .second, .val (.long q4), .second, iv p5, iv (p5 &&& (3 : Int32)), .val (.long (-q1)), .second, .val (.long (-q1)), .second, .unset, .unset, .unset]) rfl k) ?_
          show own_E p e below _ s₁ (mkF m 83 #[.val (.long q1), .second, .val (.long q2), .second, .val (.long q3), .second, .val (.long q4), .second, iv p5, iv (p5 &&& (3 : Int32)), .val (.long (-q1)), .second, .val (.long (-q1)), .second, .unset, .unset, .unset] [])
          refine own_st (fun t k => XS.iconst X0.here hx rfl (hb hby at_83) k) ?_
          show own_E p e below _ s₁ (mkF m 84 #[.val (.long q1), .second, .val (.long q2), .second, .val (.long q3), .second, .val (.long q4), .second, iv p5, iv (p5 &&& (3 : Int32)), .val (.long (-q1)), .second, .val (.long (-q1)), .second, .unset, .unset, .unset] [.int 0])
          refine own_st (fun t k => XS.istore X0.here hx rfl (hb hby at_84) rfl (l' := #[.val (.long q1), .second, .val (.long q2), .second, .val (.long q3), .second, .val (.long q4), .second, iv p5, iv (p5 &&& (3 : Int32)), .val (.long (-q1)), .second, .val (.long (-q1)), .second, iv 0, .unset, .unset]) rfl k) ?_
          show own_E p e below _ s₁ (mkF m 86 #[.val (.long q1), .second, .val (.long q2), .second, .val (.long q3), .second, .val (.long q4), .second, iv p5, iv (p5 &&& (3 : Int32)), .val (.long (-q1)), .second, .val (.long (-q1)), .second, iv 0, .unset, .unset] [])
          refine own_st (fun t k => XS.iload X0.here hx rfl (hb hby at_86) rfl k) ?_
          show own_E p e below _ s₁ (mkF m 88 #[.val (.long q1), .second, .val (.long q2), .second, .val (.long q3), .second, .val (.long q4), .second, iv p5, iv (p5 &&& (3 : Int32)), .val (.long (-q1)), .second, .val (.long (-q1)), .second, iv 0, .unset, .unset] [.int p5])
          refine own_st (fun t k => XS.iconst X0.here hx rfl (hb hby at_88) k) ?_
          show own_E p e below _ s₁ (mkF m 89 #[.val (.long q1), .second, .val (.long q2), .second, .val (.long q3), .second, .val (.long q4), .second, iv p5, iv (p5 &&& (3 : Int32)), .val (.long (-q1)), .second, .val (.long (-q1)), .second, iv 0, .unset, .unset] [.int 2, .int p5])
          refine own_st (fun t k => XS.iushr X0.here hx rfl (hb hby at_89) rfl k) ?_
          show own_E p e below _ s₁ (mkF m 90 #[.val (.long q1), .second, .val (.long q2), .second, .val (.long q3), .second, .val (.long q4), .second, iv p5, iv (p5 &&& (3 : Int32)), .val (.long (-q1)), .second, .val (.long (-q1)), .second, iv 0, .unset, .unset] [.int ((p5.toUInt32 >>> ((2 : Int32) &&& 31).toUInt32).toInt32)])
          refine own_st (fun t k => XS.iconst X0.here hx rfl (hb hby at_90) k) ?_
          show own_E p e below _ s₁ (mkF m 91 #[.val (.long q1), .second, .val (.long q2), .second, .val (.long q3), .second, .val (.long q4), .second, iv p5, iv (p5 &&& (3 : Int32)), .val (.long (-q1)), .second, .val (.long (-q1)), .second, iv 0, .unset, .unset] [.int 1, .int ((p5.toUInt32 >>> ((2 : Int32) &&& 31).toUInt32).toInt32)])
          refine own_st (fun t k => XS.iand X0.here hx rfl (hb hby at_91) rfl k) ?_
          show own_E p e below _ s₁ (mkF m 92 #[.val (.long q1), .second, .val (.long q2), .second, .val (.long q3), .second, .val (.long q4), .second, iv p5, iv (p5 &&& (3 : Int32)), .val (.long (-q1)), .second, .val (.long (-q1)), .second, iv 0, .unset, .unset] [.int (((p5.toUInt32 >>> ((2 : Int32) &&& 31).toUInt32).toInt32) &&& (1 : Int32))])
          by_cases hc384 : (((p5.toUInt32 >>> ((2 : Int32) &&& 31).toUInt32).toInt32) &&& (1 : Int32)) = (0 : Int32)
          · refine own_st (fun t k => XS.ifYes X0.here hx rfl (pc0 := 92) (pc' := 100) rfl (hb hby at_92) rfl ((if0 _ _).trans (teq hc384).1) (by decide) (by decide) k) ?_
            show own_E p e below _ s₁ (mkF m 100 #[.val (.long q1), .second, .val (.long q2), .second, .val (.long q3), .second, .val (.long q4), .second, iv p5, iv (p5 &&& (3 : Int32)), .val (.long (-q1)), .second, .val (.long (-q1)), .second, iv 0, .unset, .unset] [])
            obtain ⟨b385, T385, h385, k385, X385, e385, E385, hS385, hk385, hZ385, ho385, st385⟩ := ldcS (s := s) (vm0 := s.vm) X0 hx hZ hown (own_w hw 0 rfl) (own_wS hw) e0 (own_since s) (Nat.zero_le _) (g := (mkF m 100 #[.val (.long q1), .second, .val (.long q2), .second, .val (.long q3), .second, .val (.long q4), .second, iv p5, iv (p5 &&& (3 : Int32)), .val (.long (-q1)), .second, .val (.long (-q1)), .second, iv 0, .unset, .unset] [])) rfl (hb hby at_100) (n := 24) (by decide) (by decide) (by decide) (by decide)
            have Z386 := Nat.le_trans Z0 E385.1
            refine own_st st385 ?_
            show own_E p e below _ T385 (mkF m 102 #[.val (.long q1), .second, .val (.long q2), .second, .val (.long q3), .second, .val (.long q4), .second, iv p5, iv (p5 &&& (3 : Int32)), .val (.long (-q1)), .second, .val (.long (-q1)), .second, iv 0, .unset, .unset] [.ref b385])
            refine own_st (fun t k => XS.astore X385.here hx rfl (hb hby at_102) rfl rfl (l' := #[.val (.long q1), .second, .val (.long q2), .second, .val (.long q3), .second, .val (.long q4), .second, iv p5, iv (p5 &&& (3 : Int32)), .val (.long (-q1)), .second, .val (.long (-q1)), .second, iv 0, rv b385, .unset]) rfl k) ?_
            show own_E p e below _ T385 (mkF m 104 #[.val (.long q1), .second, .val (.long q2), .second, .val (.long q3), .second, .val (.long q4), .second, iv p5, iv (p5 &&& (3 : Int32)), .val (.long (-q1)), .second, .val (.long (-q1)), .second, iv 0, rv b385, .unset] [])
            obtain ⟨T387, h387, X387, e387, E387, A387, D387, -, st387⟩ := newO X385 hx hZ385 ho385 (own_w hw 8 rfl) (own_w hw 9 rfl) (own_w hw 10 rfl) e385 (g := (mkF m 104 #[.val (.long q1), .second, .val (.long q2), .second, .val (.long q3), .second, .val (.long q4), .second, iv p5, iv (p5 &&& (3 : Int32)), .val (.long (-q1)), .second, .val (.long (-q1)), .second, iv 0, rv b385, .unset] [])) rfl (hb hby at_104) (by decide) (by decide)
            obtain ⟨b387, g387⟩ : ∃ z, z = h385.size := ⟨_, rfl⟩
            rw [← g387] at A387 D387 st387
            have g_b387 : n0 ≤ b387 := Nat.le_trans Z386 (Nat.le_of_eq g387.symm)
            have Z388 := Nat.le_trans Z386 E387.1
            have hk389 := Nat.le_trans hk385 E387.1
            have F_id_b387 : Fld Z h387 b387 "com/example/acquirer/acquirer/Payment" "id" "Ljava/lang/String;" .null := D387 (Or.inr (own_w hw 24 rfl)) (ty := (.object "java/lang/String")) (by decide)
            have F_session_b387 : Fld Z h387 b387 "com/example/acquirer/acquirer/Payment" "session" "Ljava/lang/String;" .null := D387 (Or.inr (own_w hw 26 rfl)) (ty := (.object "java/lang/String")) (by decide)
            have F_created_b387 : Fld Z h387 b387 "com/example/acquirer/acquirer/Payment" "created" "J" (.long (0 : Int64)) := D387 (Or.inr (own_w hw 28 rfl)) (ty := .long) (by decide)
            have F_amount_b387 : Fld Z h387 b387 "com/example/acquirer/acquirer/Payment" "amount" "J" (.long (0 : Int64)) := D387 (Or.inr (own_w hw 30 rfl)) (ty := .long) (by decide)
            have F_amountCaptured_b387 : Fld Z h387 b387 "com/example/acquirer/acquirer/Payment" "amountCaptured" "J" (.long (0 : Int64)) := D387 (Or.inr (own_w hw 32 rfl)) (ty := .long) (by decide)
            have F_amountRefunded_b387 : Fld Z h387 b387 "com/example/acquirer/acquirer/Payment" "amountRefunded" "J" (.long (0 : Int64)) := D387 (Or.inr (own_w hw 34 rfl)) (ty := .long) (by decide)
            have F_currency_b387 : Fld Z h387 b387 "com/example/acquirer/acquirer/Payment" "currency" "Ljava/lang/String;" .null := D387 (Or.inr (own_w hw 36 rfl)) (ty := (.object "java/lang/String")) (by decide)
            have F_status_b387 : Fld Z h387 b387 "com/example/acquirer/acquirer/Payment" "status" "Ljava/lang/String;" .null := D387 (Or.inr (own_w hw 38 rfl)) (ty := (.object "java/lang/String")) (by decide)
            have F_gateway_b387 : Fld Z h387 b387 "com/example/acquirer/acquirer/Payment" "gateway" "Ljava/lang/String;" .null := D387 (Or.inr (own_w hw 40 rfl)) (ty := (.object "java/lang/String")) (by decide)
            have F_card_b387 : Fld Z h387 b387 "com/example/acquirer/acquirer/Payment" "card" "Lcom/example/acquirer/acquirer/Card;" .null := D387 (Or.inr (own_w hw 42 rfl)) (ty := (.object "com/example/acquirer/acquirer/Card")) (by decide)
            have F_approval_b387 : Fld Z h387 b387 "com/example/acquirer/acquirer/Payment" "approval" "Lcom/example/acquirer/acquirer/Approval;" .null := D387 (Or.inr (own_w hw 44 rfl)) (ty := (.object "com/example/acquirer/acquirer/Approval")) (by decide)
            have F_lastError_b387 : Fld Z h387 b387 "com/example/acquirer/acquirer/Payment" "lastError" "Ljava/lang/String;" .null := D387 (Or.inr (own_w hw 46 rfl)) (ty := (.object "java/lang/String")) (by decide)
            refine own_st st387 ?_
            show own_E p e below _ T387 (mkF m 107 #[.val (.long q1), .second, .val (.long q2), .second, .val (.long q3), .second, .val (.long q4), .second, iv p5, iv (p5 &&& (3 : Int32)), .val (.long (-q1)), .second, .val (.long (-q1)), .second, iv 0, rv b385, .unset] [.ref b387])
            refine own_st (fun t k => XS.dup X387.here hx rfl (hb hby at_107) rfl rfl k) ?_
            show own_E p e below _ T387 (mkF m 108 #[.val (.long q1), .second, .val (.long q2), .second, .val (.long q3), .second, .val (.long q4), .second, iv p5, iv (p5 &&& (3 : Int32)), .val (.long (-q1)), .second, .val (.long (-q1)), .second, iv 0, rv b385, .unset] [.ref b387, .ref b387])
            refine own_st (fun t k => XS.aconstNull X387.here hx rfl (hb hby at_108) k) ?_
            show own_E p e below _ T387 (mkF m 109 #[.val (.long q1), .second, .val (.long q2), .second, .val (.long q3), .second, .val (.long q4), .second, iv p5, iv (p5 &&& (3 : Int32)), .val (.long (-q1)), .second, .val (.long (-q1)), .second, iv 0, rv b385, .unset] [.null, .ref b387, .ref b387])
            refine own_st (fun t k => XS.aconstNull X387.here hx rfl (hb hby at_109) k) ?_
            show own_E p e below _ T387 (mkF m 110 #[.val (.long q1), .second, .val (.long q2), .second, .val (.long q3), .second, .val (.long q4), .second, iv p5, iv (p5 &&& (3 : Int32)), .val (.long (-q1)), .second, .val (.long (-q1)), .second, iv 0, rv b385, .unset] [.null, .null, .ref b387, .ref b387])
            refine own_st (fun t k => XS.lload X387.here hx rfl (hb hby at_110) rfl k) ?_
            show own_E p e below _ T387 (mkF m 112 #[.val (.long q1), .second, .val (.long q2), .second, .val (.long q3), .second, .val (.long q4), .second, iv p5, iv (p5 &&& (3 : Int32)), .val (.long (-q1)), .second, .val (.long (-q1)), .second, iv 0, rv b385, .unset] [.long q4, .null, .null, .ref b387, .ref b387])
            refine own_st (fun t k => XS.lload X387.here hx rfl (hb hby at_112) rfl k) ?_
            show own_E p e below _ T387 (mkF m 114 #[.val (.long q1), .second, .val (.long q2), .second, .val (.long q3), .second, .val (.long q4), .second, iv p5, iv (p5 &&& (3 : Int32)), .val (.long (-q1)), .second, .val (.long (-q1)), .second, iv 0, rv b385, .unset] [.long q3, .long q4, .null, .null, .ref b387, .ref b387])
            refine own_st (fun t k => XS.lload X387.here hx rfl (hb hby at_114) rfl k) ?_
            show own_E p e below _ T387 (mkF m 116 #[.val (.long q1), .second, .val (.long q2), .second, .val (.long q3), .second, .val (.long q4), .second, iv p5, iv (p5 &&& (3 : Int32)), .val (.long (-q1)), .second, .val (.long (-q1)), .second, iv 0, rv b385, .unset] [.long (-q1), .long q3, .long q4, .null, .null, .ref b387, .ref b387])
            refine own_st (fun t k => XS.lload X387.here hx rfl (hb hby at_116) rfl k) ?_
            show own_E p e below _ T387 (mkF m 118 #[.val (.long q1), .second, .val (.long q2), .second, .val (.long q3), .second, .val (.long q4), .second, iv p5, iv (p5 &&& (3 : Int32)), .val (.long (-q1)), .second, .val (.long (-q1)), .second, iv 0, rv b385, .unset] [.long (-q1), .long (-q1), .long q3, .long q4, .null, .null, .ref b387, .ref b387])
            obtain ⟨b390, T390, h390, k390, X390, e390, E390, hS390, hk390, hZ390, ho390, st390⟩ := ldcS (s := s) (vm0 := T385.vm) X387 hx hZ385 ho385 (own_w hw 11 rfl) (own_wS hw) e387 hS385 hk389 (g := (mkF m 118 #[.val (.long q1), .second, .val (.long q2), .second, .val (.long q3), .second, .val (.long q4), .second, iv p5, iv (p5 &&& (3 : Int32)), .val (.long (-q1)), .second, .val (.long (-q1)), .second, iv 0, rv b385, .unset] [.long (-q1), .long (-q1), .long q3, .long q4, .null, .null, .ref b387, .ref b387])) rfl (hb hby at_118) (n := 12) (by decide) (by decide) (by decide) (by decide)
            have Z391 := Nat.le_trans Z388 E390.1
            have hk392 := Nat.le_trans hk389 E390.1
            refine own_st st390 ?_
            show own_E p e below _ T390 (mkF m 120 #[.val (.long q1), .second, .val (.long q2), .second, .val (.long q3), .second, .val (.long q4), .second, iv p5, iv (p5 &&& (3 : Int32)), .val (.long (-q1)), .second, .val (.long (-q1)), .second, iv 0, rv b385, .unset] [.ref b390, .long (-q1), .long (-q1), .long q3, .long q4, .null, .null, .ref b387, .ref b387])
            refine own_st (fun t k => XS.aload X390.here hx rfl (hb hby at_120) rfl rfl k) ?_
            show own_E p e below _ T390 (mkF m 122 #[.val (.long q1), .second, .val (.long q2), .second, .val (.long q3), .second, .val (.long q4), .second, iv p5, iv (p5 &&& (3 : Int32)), .val (.long (-q1)), .second, .val (.long (-q1)), .second, iv 0, rv b385, .unset] [.ref b385, .ref b390, .long (-q1), .long (-q1), .long q3, .long q4, .null, .null, .ref b387, .ref b387])
            refine own_st (fun t k => XS.aconstNull X390.here hx rfl (hb hby at_122) k) ?_
            show own_E p e below _ T390 (mkF m 123 #[.val (.long q1), .second, .val (.long q2), .second, .val (.long q3), .second, .val (.long q4), .second, iv p5, iv (p5 &&& (3 : Int32)), .val (.long (-q1)), .second, .val (.long (-q1)), .second, iv 0, rv b385, .unset] [.null, .ref b385, .ref b390, .long (-q1), .long (-q1), .long q3, .long q4, .null, .null, .ref b387, .ref b387])
            refine own_st (fun t k => XS.aconstNull X390.here hx rfl (hb hby at_123) k) ?_
            show own_E p e below _ T390 (mkF m 124 #[.val (.long q1), .second, .val (.long q2), .second, .val (.long q3), .second, .val (.long q4), .second, iv p5, iv (p5 &&& (3 : Int32)), .val (.long (-q1)), .second, .val (.long (-q1)), .second, iv 0, rv b385, .unset] [.null, .null, .ref b385, .ref b390, .long (-q1), .long (-q1), .long q3, .long q4, .null, .null, .ref b387, .ref b387])
            refine own_st (fun t k => XS.aconstNull X390.here hx rfl (hb hby at_124) k) ?_
            show own_E p e below _ T390 (mkF m 125 #[.val (.long q1), .second, .val (.long q2), .second, .val (.long q3), .second, .val (.long q4), .second, iv p5, iv (p5 &&& (3 : Int32)), .val (.long (-q1)), .second, .val (.long (-q1)), .second, iv 0, rv b385, .unset] [.null, .null, .null, .ref b385, .ref b390, .long (-q1), .long (-q1), .long q3, .long q4, .null, .null, .ref b387, .ref b387])
            refine own_st (fun t k => XS.aconstNull X390.here hx rfl (hb hby at_125) k) ?_
            show own_E p e below _ T390 (mkF m 126 #[.val (.long q1), .second, .val (.long q2), .second, .val (.long q3), .second, .val (.long q4), .second, iv p5, iv (p5 &&& (3 : Int32)), .val (.long (-q1)), .second, .val (.long (-q1)), .second, iv 0, rv b385, .unset] [.null, .null, .null, .null, .ref b385, .ref b390, .long (-q1), .long (-q1), .long q3, .long q4, .null, .null, .ref b387, .ref b387])
            have B393 := (A387.ext E390)
            have B394 := (F_id_b387.ext E390)
            have B395 := (F_session_b387.ext E390)
            have B396 := (F_created_b387.ext E390)
            have B397 := (F_amount_b387.ext E390)
            have B398 := (F_amountCaptured_b387.ext E390)
            have B399 := (F_amountRefunded_b387.ext E390)
            have B400 := (F_currency_b387.ext E390)
            have B401 := (F_status_b387.ext E390)
            have B402 := (F_gateway_b387.ext E390)
            have B403 := (F_card_b387.ext E390)
            have B404 := (F_approval_b387.ext E390)
            have B405 := (F_lastError_b387.ext E390)
            obtain ⟨_, _, ⟨T406, L406, k406, n406⟩, -, X406, ⟨Lc406, hQ406, l406, y406, z406⟩, st406⟩ := X390.specialBack hx (y := own_y1) rfl ho390 (mvT hZ390 (own_w hw 12 rfl)) (mvT hZ390 (own_w hw 13 rfl)) (mvT hZ390 (own_w hw 14 rfl)) (by decide) (backOf (W := 1) (own_init l Z a0 hw [] b387 b390 b385 q4 q3 (-q1) (-q1) h390 n0 Z391 B393 B394 B395 B396 B397 B398 B399 B400 B401 B402 B403 B404 B405 g_b387) hZ390 (own_w hw 14 rfl) (own_w hw 10 rfl) (by decide) (by decide)) (g := (mkF m 126 #[.val (.long q1), .second, .val (.long q2), .second, .val (.long q3), .second, .val (.long q4), .second, iv p5, iv (p5 &&& (3 : Int32)), .val (.long (-q1)), .second, .val (.long (-q1)), .second, iv 0, rv b385, .unset] [.null, .null, .null, .null, .ref b385, .ref b390, .long (-q1), .long (-q1), .long q3, .long q4, .null, .null, .ref b387, .ref b387])) rfl (by rw [hml]; rfl) (Steps.refl _) (a := b387) (argsL := [.null, .null, (.long q4), (.long q3), (.long (-q1)), (.long (-q1)), (.ref b390), (.ref b385), .null, .null, .null, .null]) (rest := [(.ref b387)]) (lenOf own_pd_3 rfl) rfl (by show 2 * 0 + _ ≤ _; exact Nat.le_of_eq rfl) (hb hby at_126) (fun _ _ => ⟨rfl, e390, (by decide : 5 + 0 ≤ _), (by decide : 56 + 0 ≤ _)⟩)
            dsimp only [Pt.U, Pt.locs, Pt.cells, Pt.slots] at X406 l406 y406 z406 st406 hQ406
            subst l406 y406 z406
            obtain ⟨rfl, Nq406, Kq406, P406_0, P406_1, P406_2⟩ := hQ406
            have N406 := Fr.app (Fr.nil n0) Nq406
            have e406 : T406.heap = T406.heap := rfl
            have Z407 := Nat.le_trans Z391 Kq406.1
            have hk408 := Nat.le_trans hk390 Kq406.1
            refine own_tr st406 ?_
            show own_E p e below _ T406 (mkF m 129 #[.val (.long q1), .second, .val (.long q2), .second, .val (.long q3), .second, .val (.long q4), .second, iv p5, iv (p5 &&& (3 : Int32)), .val (.long (-q1)), .second, .val (.long (-q1)), .second, iv 0, rv b385, .unset] [.ref b387])
            refine own_st (fun t k => XS.astore X406.here hx rfl (hb hby at_129) rfl rfl (l' := #[.val (.long q1), .second, .val (.long q2), .second, .val (.long q3), .second, .val (.long q4), .second, iv p5, iv (p5 &&& (3 : Int32)), .val (.long (-q1)), .second, .val (.long (-q1)), .second, iv 0, rv b385, rv b387]) rfl k) ?_
            show own_E p e below _ T406 (mkF m 131 #[.val (.long q1), .second, .val (.long q2), .second, .val (.long q3), .second, .val (.long q4), .second, iv p5, iv (p5 &&& (3 : Int32)), .val (.long (-q1)), .second, .val (.long (-q1)), .second, iv 0, rv b385, rv b387] [])
            refine own_st (fun t k => XS.aload X406.here hx rfl (hb hby at_131) rfl rfl k) ?_
            show own_E p e below _ T406 (mkF m 133 #[.val (.long q1), .second, .val (.long q2), .second, .val (.long q3), .second, .val (.long q4), .second, iv p5, iv (p5 &&& (3 : Int32)), .val (.long (-q1)), .second, .val (.long (-q1)), .second, iv 0, rv b385, rv b387] [.ref b387])
            obtain ⟨cq409, kq409, q409a, q409b, q409c⟩ := isOf hZ390 e406 P406_0
            obtain ⟨_, _, ⟨T409, L409, k409, n409⟩, -, X409, ⟨Lc409, hQ409, l409, y409, z409⟩, st409⟩ := X406.virtualBack hx (y := own_y2) (z := own_y2) ho390 (mvT hZ390 (own_w hw 47 rfl)) (mvT hZ390 (own_w hw 48 rfl)) (notFace_of_selects (args := #[]) (mvT hZ390 (own_w hw 50 rfl))) (mvT hZ390 (own_w hw 50 rfl)) (mvT hZ390 (own_w hw 49 rfl)) (by decide) (backOf (W := 0) (own_isref l Z a0 hw [] b387 (-q1) (-q1) T406.heap n0 Z407 P406_1 P406_2) hZ390 (own_w hw 51 rfl) (own_w hw 10 rfl) (by decide) (by decide)) q409a q409c (g := (mkF m 133 #[.val (.long q1), .second, .val (.long q2), .second, .val (.long q3), .second, .val (.long q4), .second, iv p5, iv (p5 &&& (3 : Int32)), .val (.long (-q1)), .second, .val (.long (-q1)), .second, iv 0, rv b385, rv b387] [.ref b387])) rfl (by rw [hml]; rfl) (Steps.refl _) (argsL := []) (rest := []) (lenOf own_pd_1 rfl) rfl (by show 2 * 0 + _ ≤ _; exact Nat.le_of_eq rfl) (hb hby at_133) (fun _ _ => ⟨rfl, e406, (by decide : 5 + 0 ≤ _), (by decide : 56 + 0 ≤ _)⟩)
            dsimp only [Pt.U, Pt.locs, Pt.cells, Pt.slots] at X409 l409 y409 z409 st409 hQ409
            subst l409 y409 z409
            obtain ⟨hR409, e409, rfl⟩ := hQ409
            have N409 := Fr.app N406 (Fr.nil n0)
            rcases hR409 with ⟨rfl, ha409_0, ha409_1⟩ | ⟨rfl, ha409_0, ha409_1⟩ | ⟨rfl, ha409_0⟩
            · exfalso
              have f410 := rng32 p5
              have f411 : (3 : Int32).toInt = 3 := rfl
              have f412 := rng32 (p5 &&& (3 : Int32))
              have f413 : (p5 &&& (3 : Int32)).toInt = p5.toInt % 4 := c_mask p5 (3 : Int32) 2 (by decide) (by decide)
              have f414 : (0 : Int32).toInt = 0 := rfl
              have f415 : (1 : Int32).toInt = 1 := rfl
              have f416 : (0 : Int64).toInt = 0 := rfl
              have f417 := rng64 q1
              have f418 : (2 : Int32).toInt = 2 := rfl
              have f419 := rng32 ((p5.toUInt32 >>> ((2 : Int32) &&& 31).toUInt32).toInt32)
              have f420 : ((p5.toUInt32 >>> ((2 : Int32) &&& 31).toUInt32).toInt32).toInt = (p5.toInt % 4294967296) / 4 := c_iushr p5 (2 : Int32) 2 (by decide) (by decide)
              have f421 := rng32 (((p5.toUInt32 >>> ((2 : Int32) &&& 31).toUInt32).toInt32) &&& (1 : Int32))
              have f422 : (((p5.toUInt32 >>> ((2 : Int32) &&& 31).toUInt32).toInt32) &&& (1 : Int32)).toInt = ((p5.toUInt32 >>> ((2 : Int32) &&& 31).toUInt32).toInt32).toInt % 2 := c_mask ((p5.toUInt32 >>> ((2 : Int32) &&& 31).toUInt32).toInt32) (1 : Int32) 1 (by decide) (by decide)
              have f423 := rng64 (-q1)
              have f424 := c_lneg q1
              have g425 := hc1
              rw [← Int32.toInt_inj] at g425
              have g426 := hc139
              rw [← Int32.toInt_inj] at g426
              have g427 := hc239
              rw [Int64.lt_iff_toInt_lt] at g427
              have g428 := hc240
              rw [← Int32.toInt_inj] at g428
              have g429 := hc384
              rw [← Int32.toInt_inj] at g429
              have g430 := ha409_0
              rw [Int64.lt_iff_toInt_lt] at g430
              have g431 := ha409_1
              rw [← Int64.toInt_inj] at g431
              omega
            · exfalso
              have f432 := rng32 p5
              have f433 : (3 : Int32).toInt = 3 := rfl
              have f434 := rng32 (p5 &&& (3 : Int32))
              have f435 : (p5 &&& (3 : Int32)).toInt = p5.toInt % 4 := c_mask p5 (3 : Int32) 2 (by decide) (by decide)
              have f436 : (0 : Int32).toInt = 0 := rfl
              have f437 : (1 : Int32).toInt = 1 := rfl
              have f438 : (0 : Int64).toInt = 0 := rfl
              have f439 := rng64 q1
              have f440 : (2 : Int32).toInt = 2 := rfl
              have f441 := rng32 ((p5.toUInt32 >>> ((2 : Int32) &&& 31).toUInt32).toInt32)
              have f442 : ((p5.toUInt32 >>> ((2 : Int32) &&& 31).toUInt32).toInt32).toInt = (p5.toInt % 4294967296) / 4 := c_iushr p5 (2 : Int32) 2 (by decide) (by decide)
              have f443 := rng32 (((p5.toUInt32 >>> ((2 : Int32) &&& 31).toUInt32).toInt32) &&& (1 : Int32))
              have f444 : (((p5.toUInt32 >>> ((2 : Int32) &&& 31).toUInt32).toInt32) &&& (1 : Int32)).toInt = ((p5.toUInt32 >>> ((2 : Int32) &&& 31).toUInt32).toInt32).toInt % 2 := c_mask ((p5.toUInt32 >>> ((2 : Int32) &&& 31).toUInt32).toInt32) (1 : Int32) 1 (by decide) (by decide)
              have f445 := rng64 (-q1)
              have f446 := c_lneg q1
              have g447 := hc1
              rw [← Int32.toInt_inj] at g447
              have g448 := hc139
              rw [← Int32.toInt_inj] at g448
              have g449 := hc239
              rw [Int64.lt_iff_toInt_lt] at g449
              have g450 := hc240
              rw [← Int32.toInt_inj] at g450
              have g451 := hc384
              rw [← Int32.toInt_inj] at g451
              have g452 := ha409_0
              rw [Int64.lt_iff_toInt_lt] at g452
              have g453 := ha409_1
              rw [← Int64.toInt_inj] at g453
              omega
            · refine own_tr st409 ?_
              show own_E p e below _ T409 (mkF m 136 #[.val (.long q1), .second, .val (.long q2), .second, .val (.long q3), .second, .val (.long q4), .second, iv p5, iv (p5 &&& (3 : Int32)), .val (.long (-q1)), .second, .val (.long (-q1)), .second, iv 0, rv b385, rv b387] [.int 0])
              refine own_st (fun t k => XS.iload X409.here hx rfl (hb hby at_136) rfl k) ?_
              show own_E p e below _ T409 (mkF m 138 #[.val (.long q1), .second, .val (.long q2), .second, .val (.long q3), .second, .val (.long q4), .second, iv p5, iv (p5 &&& (3 : Int32)), .val (.long (-q1)), .second, .val (.long (-q1)), .second, iv 0, rv b385, rv b387] [.int 0, .int 0])
              refine own_st (fun t k => XS.icmpNo X409.here hx rfl (hb hby at_138) rfl (by decide) k) ?_
              show own_E p e below _ T409 (mkF m 141 #[.val (.long q1), .second, .val (.long q2), .second, .val (.long q3), .second, .val (.long q4), .second, iv p5, iv (p5 &&& (3 : Int32)), .val (.long (-q1)), .second, .val (.long (-q1)), .second, iv 0, rv b385, rv b387] [])
              refine own_st (fun t k => XS.iconst X409.here hx rfl (hb hby at_141) k) ?_
              show own_E p e below _ T409 (mkF m 142 #[.val (.long q1), .second, .val (.long q2), .second, .val (.long q3), .second, .val (.long q4), .second, iv p5, iv (p5 &&& (3 : Int32)), .val (.long (-q1)), .second, .val (.long (-q1)), .second, iv 0, rv b385, rv b387] [.int 1])
              refine own_st (fun t k => XS.goto X409.here hx rfl (pc0 := 142) (pc' := 146) rfl (hb hby at_142) (by decide) (by decide) k) ?_
              show own_E p e below _ T409 (mkF m 146 #[.val (.long q1), .second, .val (.long q2), .second, .val (.long q3), .second, .val (.long q4), .second, iv p5, iv (p5 &&& (3 : Int32)), .val (.long (-q1)), .second, .val (.long (-q1)), .second, iv 0, rv b385, rv b387] [.int 1])
              refine own_retSW X409 hS390 (by rw [e409]; exact hk408) hx Bd.notSynchronized Bd.returns rfl (by decide) (hb hby at_146) (by decide) (by decide) ?_
              exact ⟨rfl, N409⟩
          · refine own_st (fun t k => XS.ifNo X0.here hx rfl (hb hby at_92) rfl ((if0 _ _).trans (feq hc384).1) k) ?_
            show own_E p e below _ s₁ (mkF m 95 #[.val (.long q1), .second, .val (.long q2), .second, .val (.long q3), .second, .val (.long q4), .second, iv p5, iv (p5 &&& (3 : Int32)), .val (.long (-q1)), .second, .val (.long (-q1)), .second, iv 0, .unset, .unset] [])
            obtain ⟨b454, T454, h454, k454, X454, e454, E454, hS454, hk454, hZ454, ho454, st454⟩ := ldcS (s := s) (vm0 := s.vm) X0 hx hZ hown (own_w hw 52 rfl) (own_wS hw) e0 (own_since s) (Nat.zero_le _) (g := (mkF m 95 #[.val (.long q1), .second, .val (.long q2), .second, .val (.long q3), .second, .val (.long q4), .second, iv p5, iv (p5 &&& (3 : Int32)), .val (.long (-q1)), .second, .val (.long (-q1)), .second, iv 0, .unset, .unset] [])) rfl (hb hby at_95) (n := 32) (by decide) (by decide) (by decide) (by decide)
            have Z455 := Nat.le_trans Z0 E454.1
            refine own_st st454 ?_
            show own_E p e below _ T454 (mkF m 97 #[.val (.long q1), .second, .val (.long q2), .second, .val (.long q3), .second, .val (.long q4), .second, iv p5, iv (p5 &&& (3 : Int32)), .val (.long (-q1)), .second, .val (.long (-q1)), .second, iv 0, .unset, .unset] [.ref b454])
            refine own_st (fun t k => XS.goto X454.here hx rfl (pc0 := 97) (pc' := 102) rfl (hb hby at_97) (by decide) (by decide) k) ?_
            show own_E p e below _ T454 (mkF m 102 #[.val (.long q1), .second, .val (.long q2), .second, .val (.long q3), .second, .val (.long q4), .second, iv p5, iv (p5 &&& (3 : Int32)), .val (.long (-q1)), .second, .val (.long (-q1)), .second, iv 0, .unset, .unset] [.ref b454])
            refine own_st (fun t k => XS.astore X454.here hx rfl (hb hby at_102) rfl rfl (l' := #[.val (.long q1), .second, .val (.long q2), .second, .val (.long q3), .second, .val (.long q4), .second, iv p5, iv (p5 &&& (3 : Int32)), .val (.long (-q1)), .second, .val (.long (-q1)), .second, iv 0, rv b454, .unset]) rfl k) ?_
            show own_E p e below _ T454 (mkF m 104 #[.val (.long q1), .second, .val (.long q2), .second, .val (.long q3), .second, .val (.long q4), .second, iv p5, iv (p5 &&& (3 : Int32)), .val (.long (-q1)), .second, .val (.long (-q1)), .second, iv 0, rv b454, .unset] [])
            obtain ⟨T456, h456, X456, e456, E456, A456, D456, -, st456⟩ := newO X454 hx hZ454 ho454 (own_w hw 8 rfl) (own_w hw 9 rfl) (own_w hw 10 rfl) e454 (g := (mkF m 104 #[.val (.long q1), .second, .val (.long q2), .second, .val (.long q3), .second, .val (.long q4), .second, iv p5, iv (p5 &&& (3 : Int32)), .val (.long (-q1)), .second, .val (.long (-q1)), .second, iv 0, rv b454, .unset] [])) rfl (hb hby at_104) (by decide) (by decide)
            obtain ⟨b456, g456⟩ : ∃ z, z = h454.size := ⟨_, rfl⟩
            rw [← g456] at A456 D456 st456
            have g_b456 : n0 ≤ b456 := Nat.le_trans Z455 (Nat.le_of_eq g456.symm)
            have Z457 := Nat.le_trans Z455 E456.1
            have hk458 := Nat.le_trans hk454 E456.1
            have F_id_b456 : Fld Z h456 b456 "com/example/acquirer/acquirer/Payment" "id" "Ljava/lang/String;" .null := D456 (Or.inr (own_w hw 24 rfl)) (ty := (.object "java/lang/String")) (by decide)
            have F_session_b456 : Fld Z h456 b456 "com/example/acquirer/acquirer/Payment" "session" "Ljava/lang/String;" .null := D456 (Or.inr (own_w hw 26 rfl)) (ty := (.object "java/lang/String")) (by decide)
            have F_created_b456 : Fld Z h456 b456 "com/example/acquirer/acquirer/Payment" "created" "J" (.long (0 : Int64)) := D456 (Or.inr (own_w hw 28 rfl)) (ty := .long) (by decide)
            have F_amount_b456 : Fld Z h456 b456 "com/example/acquirer/acquirer/Payment" "amount" "J" (.long (0 : Int64)) := D456 (Or.inr (own_w hw 30 rfl)) (ty := .long) (by decide)
            have F_amountCaptured_b456 : Fld Z h456 b456 "com/example/acquirer/acquirer/Payment" "amountCaptured" "J" (.long (0 : Int64)) := D456 (Or.inr (own_w hw 32 rfl)) (ty := .long) (by decide)
            have F_amountRefunded_b456 : Fld Z h456 b456 "com/example/acquirer/acquirer/Payment" "amountRefunded" "J" (.long (0 : Int64)) := D456 (Or.inr (own_w hw 34 rfl)) (ty := .long) (by decide)
            have F_currency_b456 : Fld Z h456 b456 "com/example/acquirer/acquirer/Payment" "currency" "Ljava/lang/String;" .null := D456 (Or.inr (own_w hw 36 rfl)) (ty := (.object "java/lang/String")) (by decide)
            have F_status_b456 : Fld Z h456 b456 "com/example/acquirer/acquirer/Payment" "status" "Ljava/lang/String;" .null := D456 (Or.inr (own_w hw 38 rfl)) (ty := (.object "java/lang/String")) (by decide)
            have F_gateway_b456 : Fld Z h456 b456 "com/example/acquirer/acquirer/Payment" "gateway" "Ljava/lang/String;" .null := D456 (Or.inr (own_w hw 40 rfl)) (ty := (.object "java/lang/String")) (by decide)
            have F_card_b456 : Fld Z h456 b456 "com/example/acquirer/acquirer/Payment" "card" "Lcom/example/acquirer/acquirer/Card;" .null := D456 (Or.inr (own_w hw 42 rfl)) (ty := (.object "com/example/acquirer/acquirer/Card")) (by decide)
            have F_approval_b456 : Fld Z h456 b456 "com/example/acquirer/acquirer/Payment" "approval" "Lcom/example/acquirer/acquirer/Approval;" .null := D456 (Or.inr (own_w hw 44 rfl)) (ty := (.object "com/example/acquirer/acquirer/Approval")) (by decide)
            have F_lastError_b456 : Fld Z h456 b456 "com/example/acquirer/acquirer/Payment" "lastError" "Ljava/lang/String;" .null := D456 (Or.inr (own_w hw 46 rfl)) (ty := (.object "java/lang/String")) (by decide)
            refine own_st st456 ?_
            show own_E p e below _ T456 (mkF m 107 #[.val (.long q1), .second, .val (.long q2), .second, .val (.long q3), .second, .val (.long q4), .second, iv p5, iv (p5 &&& (3 : Int32)), .val (.long (-q1)), .second, .val (.long (-q1)), .second, iv 0, rv b454, .unset] [.ref b456])
            refine own_st (fun t k => XS.dup X456.here hx rfl (hb hby at_107) rfl rfl k) ?_
            show own_E p e below _ T456 (mkF m 108 #[.val (.long q1), .second, .val (.long q2), .second, .val (.long q3), .second, .val (.long q4), .second, iv p5, iv (p5 &&& (3 : Int32)), .val (.long (-q1)), .second, .val (.long (-q1)), .second, iv 0, rv b454, .unset] [.ref b456, .ref b456])
            refine own_st (fun t k => XS.aconstNull X456.here hx rfl (hb hby at_108) k) ?_
            show own_E p e below _ T456 (mkF m 109 #[.val (.long q1), .second, .val (.long q2), .second, .val (.long q3), .second, .val (.long q4), .second, iv p5, iv (p5 &&& (3 : Int32)), .val (.long (-q1)), .second, .val (.long (-q1)), .second, iv 0, rv b454, .unset] [.null, .ref b456, .ref b456])
            refine own_st (fun t k => XS.aconstNull X456.here hx rfl (hb hby at_109) k) ?_
            show own_E p e below _ T456 (mkF m 110 #[.val (.long q1), .second, .val (.long q2), .second, .val (.long q3), .second, .val (.long q4), .second, iv p5, iv (p5 &&& (3 : Int32)), .val (.long (-q1)), .second, .val (.long (-q1)), .second, iv 0, rv b454, .unset] [.null, .null, .ref b456, .ref b456])
            refine own_st (fun t k => XS.lload X456.here hx rfl (hb hby at_110) rfl k) ?_
            show own_E p e below _ T456 (mkF m 112 #[.val (.long q1), .second, .val (.long q2), .second, .val (.long q3), .second, .val (.long q4), .second, iv p5, iv (p5 &&& (3 : Int32)), .val (.long (-q1)), .second, .val (.long (-q1)), .second, iv 0, rv b454, .unset] [.long q4, .null, .null, .ref b456, .ref b456])
            refine own_st (fun t k => XS.lload X456.here hx rfl (hb hby at_112) rfl k) ?_
            show own_E p e below _ T456 (mkF m 114 #[.val (.long q1), .second, .val (.long q2), .second, .val (.long q3), .second, .val (.long q4), .second, iv p5, iv (p5 &&& (3 : Int32)), .val (.long (-q1)), .second, .val (.long (-q1)), .second, iv 0, rv b454, .unset] [.long q3, .long q4, .null, .null, .ref b456, .ref b456])
            refine own_st (fun t k => XS.lload X456.here hx rfl (hb hby at_114) rfl k) ?_
            show own_E p e below _ T456 (mkF m 116 #[.val (.long q1), .second, .val (.long q2), .second, .val (.long q3), .second, .val (.long q4), .second, iv p5, iv (p5 &&& (3 : Int32)), .val (.long (-q1)), .second, .val (.long (-q1)), .second, iv 0, rv b454, .unset] [.long (-q1), .long q3, .long q4, .null, .null, .ref b456, .ref b456])
            refine own_st (fun t k => XS.lload X456.here hx rfl (hb hby at_116) rfl k) ?_
            show own_E p e below _ T456 (mkF m 118 #[.val (.long q1), .second, .val (.long q2), .second, .val (.long q3), .second, .val (.long q4), .second, iv p5, iv (p5 &&& (3 : Int32)), .val (.long (-q1)), .second, .val (.long (-q1)), .second, iv 0, rv b454, .unset] [.long (-q1), .long (-q1), .long q3, .long q4, .null, .null, .ref b456, .ref b456])
            obtain ⟨b459, T459, h459, k459, X459, e459, E459, hS459, hk459, hZ459, ho459, st459⟩ := ldcS (s := s) (vm0 := T454.vm) X456 hx hZ454 ho454 (own_w hw 11 rfl) (own_wS hw) e456 hS454 hk458 (g := (mkF m 118 #[.val (.long q1), .second, .val (.long q2), .second, .val (.long q3), .second, .val (.long q4), .second, iv p5, iv (p5 &&& (3 : Int32)), .val (.long (-q1)), .second, .val (.long (-q1)), .second, iv 0, rv b454, .unset] [.long (-q1), .long (-q1), .long q3, .long q4, .null, .null, .ref b456, .ref b456])) rfl (hb hby at_118) (n := 12) (by decide) (by decide) (by decide) (by decide)
            have Z460 := Nat.le_trans Z457 E459.1
            have hk461 := Nat.le_trans hk458 E459.1
            refine own_st st459 ?_
            show own_E p e below _ T459 (mkF m 120 #[.val (.long q1), .second, .val (.long q2), .second, .val (.long q3), .second, .val (.long q4), .second, iv p5, iv (p5 &&& (3 : Int32)), .val (.long (-q1)), .second, .val (.long (-q1)), .second, iv 0, rv b454, .unset] [.ref b459, .long (-q1), .long (-q1), .long q3, .long q4, .null, .null, .ref b456, .ref b456])
            refine own_st (fun t k => XS.aload X459.here hx rfl (hb hby at_120) rfl rfl k) ?_
            show own_E p e below _ T459 (mkF m 122 #[.val (.long q1), .second, .val (.long q2), .second, .val (.long q3), .second, .val (.long q4), .second, iv p5, iv (p5 &&& (3 : Int32)), .val (.long (-q1)), .second, .val (.long (-q1)), .second, iv 0, rv b454, .unset] [.ref b454, .ref b459, .long (-q1), .long (-q1), .long q3, .long q4, .null, .null, .ref b456, .ref b456])
            refine own_st (fun t k => XS.aconstNull X459.here hx rfl (hb hby at_122) k) ?_
            show own_E p e below _ T459 (mkF m 123 #[.val (.long q1), .second, .val (.long q2), .second, .val (.long q3), .second, .val (.long q4), .second, iv p5, iv (p5 &&& (3 : Int32)), .val (.long (-q1)), .second, .val (.long (-q1)), .second, iv 0, rv b454, .unset] [.null, .ref b454, .ref b459, .long (-q1), .long (-q1), .long q3, .long q4, .null, .null, .ref b456, .ref b456])
            refine own_st (fun t k => XS.aconstNull X459.here hx rfl (hb hby at_123) k) ?_
            show own_E p e below _ T459 (mkF m 124 #[.val (.long q1), .second, .val (.long q2), .second, .val (.long q3), .second, .val (.long q4), .second, iv p5, iv (p5 &&& (3 : Int32)), .val (.long (-q1)), .second, .val (.long (-q1)), .second, iv 0, rv b454, .unset] [.null, .null, .ref b454, .ref b459, .long (-q1), .long (-q1), .long q3, .long q4, .null, .null, .ref b456, .ref b456])
            refine own_st (fun t k => XS.aconstNull X459.here hx rfl (hb hby at_124) k) ?_
            show own_E p e below _ T459 (mkF m 125 #[.val (.long q1), .second, .val (.long q2), .second, .val (.long q3), .second, .val (.long q4), .second, iv p5, iv (p5 &&& (3 : Int32)), .val (.long (-q1)), .second, .val (.long (-q1)), .second, iv 0, rv b454, .unset] [.null, .null, .null, .ref b454, .ref b459, .long (-q1), .long (-q1), .long q3, .long q4, .null, .null, .ref b456, .ref b456])
            refine own_st (fun t k => XS.aconstNull X459.here hx rfl (hb hby at_125) k) ?_
            show own_E p e below _ T459 (mkF m 126 #[.val (.long q1), .second, .val (.long q2), .second, .val (.long q3), .second, .val (.long q4), .second, iv p5, iv (p5 &&& (3 : Int32)), .val (.long (-q1)), .second, .val (.long (-q1)), .second, iv 0, rv b454, .unset] [.null, .null, .null, .null, .ref b454, .ref b459, .long (-q1), .long (-q1), .long q3, .long q4, .null, .null, .ref b456, .ref b456])
            have B462 := (A456.ext E459)
            have B463 := (F_id_b456.ext E459)
            have B464 := (F_session_b456.ext E459)
            have B465 := (F_created_b456.ext E459)
            have B466 := (F_amount_b456.ext E459)
            have B467 := (F_amountCaptured_b456.ext E459)
            have B468 := (F_amountRefunded_b456.ext E459)
            have B469 := (F_currency_b456.ext E459)
            have B470 := (F_status_b456.ext E459)
            have B471 := (F_gateway_b456.ext E459)
            have B472 := (F_card_b456.ext E459)
            have B473 := (F_approval_b456.ext E459)
            have B474 := (F_lastError_b456.ext E459)
            obtain ⟨_, _, ⟨T475, L475, k475, n475⟩, -, X475, ⟨Lc475, hQ475, l475, y475, z475⟩, st475⟩ := X459.specialBack hx (y := own_y1) rfl ho459 (mvT hZ459 (own_w hw 12 rfl)) (mvT hZ459 (own_w hw 13 rfl)) (mvT hZ459 (own_w hw 14 rfl)) (by decide) (backOf (W := 1) (own_init l Z a0 hw [] b456 b459 b454 q4 q3 (-q1) (-q1) h459 n0 Z460 B462 B463 B464 B465 B466 B467 B468 B469 B470 B471 B472 B473 B474 g_b456) hZ459 (own_w hw 14 rfl) (own_w hw 10 rfl) (by decide) (by decide)) (g := (mkF m 126 #[.val (.long q1), .second, .val (.long q2), .second, .val (.long q3), .second, .val (.long q4), .second, iv p5, iv (p5 &&& (3 : Int32)), .val (.long (-q1)), .second, .val (.long (-q1)), .second, iv 0, rv b454, .unset] [.null, .null, .null, .null, .ref b454, .ref b459, .long (-q1), .long (-q1), .long q3, .long q4, .null, .null, .ref b456, .ref b456])) rfl (by rw [hml]; rfl) (Steps.refl _) (a := b456) (argsL := [.null, .null, (.long q4), (.long q3), (.long (-q1)), (.long (-q1)), (.ref b459), (.ref b454), .null, .null, .null, .null]) (rest := [(.ref b456)]) (lenOf own_pd_3 rfl) rfl (by show 2 * 0 + _ ≤ _; exact Nat.le_of_eq rfl) (hb hby at_126) (fun _ _ => ⟨rfl, e459, (by decide : 5 + 0 ≤ _), (by decide : 64 + 0 ≤ _)⟩)
            dsimp only [Pt.U, Pt.locs, Pt.cells, Pt.slots] at X475 l475 y475 z475 st475 hQ475
            subst l475 y475 z475
            obtain ⟨rfl, Nq475, Kq475, P475_0, P475_1, P475_2⟩ := hQ475
            have N475 := Fr.app (Fr.nil n0) Nq475
            have e475 : T475.heap = T475.heap := rfl
            have Z476 := Nat.le_trans Z460 Kq475.1
            have hk477 := Nat.le_trans hk459 Kq475.1
            refine own_tr st475 ?_
            show own_E p e below _ T475 (mkF m 129 #[.val (.long q1), .second, .val (.long q2), .second, .val (.long q3), .second, .val (.long q4), .second, iv p5, iv (p5 &&& (3 : Int32)), .val (.long (-q1)), .second, .val (.long (-q1)), .second, iv 0, rv b454, .unset] [.ref b456])
            refine own_st (fun t k => XS.astore X475.here hx rfl (hb hby at_129) rfl rfl (l' := #[.val (.long q1), .second, .val (.long q2), .second, .val (.long q3), .second, .val (.long q4), .second, iv p5, iv (p5 &&& (3 : Int32)), .val (.long (-q1)), .second, .val (.long (-q1)), .second, iv 0, rv b454, rv b456]) rfl k) ?_
            show own_E p e below _ T475 (mkF m 131 #[.val (.long q1), .second, .val (.long q2), .second, .val (.long q3), .second, .val (.long q4), .second, iv p5, iv (p5 &&& (3 : Int32)), .val (.long (-q1)), .second, .val (.long (-q1)), .second, iv 0, rv b454, rv b456] [])
            refine own_st (fun t k => XS.aload X475.here hx rfl (hb hby at_131) rfl rfl k) ?_
            show own_E p e below _ T475 (mkF m 133 #[.val (.long q1), .second, .val (.long q2), .second, .val (.long q3), .second, .val (.long q4), .second, iv p5, iv (p5 &&& (3 : Int32)), .val (.long (-q1)), .second, .val (.long (-q1)), .second, iv 0, rv b454, rv b456] [.ref b456])
            obtain ⟨cq478, kq478, q478a, q478b, q478c⟩ := isOf hZ459 e475 P475_0
            obtain ⟨_, _, ⟨T478, L478, k478, n478⟩, -, X478, ⟨Lc478, hQ478, l478, y478, z478⟩, st478⟩ := X475.virtualBack hx (y := own_y2) (z := own_y2) ho459 (mvT hZ459 (own_w hw 47 rfl)) (mvT hZ459 (own_w hw 48 rfl)) (notFace_of_selects (args := #[]) (mvT hZ459 (own_w hw 50 rfl))) (mvT hZ459 (own_w hw 50 rfl)) (mvT hZ459 (own_w hw 49 rfl)) (by decide) (backOf (W := 0) (own_isref l Z a0 hw [] b456 (-q1) (-q1) T475.heap n0 Z476 P475_1 P475_2) hZ459 (own_w hw 51 rfl) (own_w hw 10 rfl) (by decide) (by decide)) q478a q478c (g := (mkF m 133 #[.val (.long q1), .second, .val (.long q2), .second, .val (.long q3), .second, .val (.long q4), .second, iv p5, iv (p5 &&& (3 : Int32)), .val (.long (-q1)), .second, .val (.long (-q1)), .second, iv 0, rv b454, rv b456] [.ref b456])) rfl (by rw [hml]; rfl) (Steps.refl _) (argsL := []) (rest := []) (lenOf own_pd_1 rfl) rfl (by show 2 * 0 + _ ≤ _; exact Nat.le_of_eq rfl) (hb hby at_133) (fun _ _ => ⟨rfl, e475, (by decide : 5 + 0 ≤ _), (by decide : 64 + 0 ≤ _)⟩)
            dsimp only [Pt.U, Pt.locs, Pt.cells, Pt.slots] at X478 l478 y478 z478 st478 hQ478
            subst l478 y478 z478
            obtain ⟨hR478, e478, rfl⟩ := hQ478
            have N478 := Fr.app N475 (Fr.nil n0)
            rcases hR478 with ⟨rfl, ha478_0, ha478_1⟩ | ⟨rfl, ha478_0, ha478_1⟩ | ⟨rfl, ha478_0⟩
            · exfalso
              have f479 := rng32 p5
              have f480 : (3 : Int32).toInt = 3 := rfl
              have f481 := rng32 (p5 &&& (3 : Int32))
              have f482 : (p5 &&& (3 : Int32)).toInt = p5.toInt % 4 := c_mask p5 (3 : Int32) 2 (by decide) (by decide)
              have f483 : (0 : Int32).toInt = 0 := rfl
              have f484 : (1 : Int32).toInt = 1 := rfl
              have f485 : (0 : Int64).toInt = 0 := rfl
              have f486 := rng64 q1
              have f487 : (2 : Int32).toInt = 2 := rfl
              have f488 := rng32 ((p5.toUInt32 >>> ((2 : Int32) &&& 31).toUInt32).toInt32)
              have f489 : ((p5.toUInt32 >>> ((2 : Int32) &&& 31).toUInt32).toInt32).toInt = (p5.toInt % 4294967296) / 4 := c_iushr p5 (2 : Int32) 2 (by decide) (by decide)
              have f490 := rng32 (((p5.toUInt32 >>> ((2 : Int32) &&& 31).toUInt32).toInt32) &&& (1 : Int32))
              have f491 : (((p5.toUInt32 >>> ((2 : Int32) &&& 31).toUInt32).toInt32) &&& (1 : Int32)).toInt = ((p5.toUInt32 >>> ((2 : Int32) &&& 31).toUInt32).toInt32).toInt % 2 := c_mask ((p5.toUInt32 >>> ((2 : Int32) &&& 31).toUInt32).toInt32) (1 : Int32) 1 (by decide) (by decide)
              have f492 := rng64 (-q1)
              have f493 := c_lneg q1
              have g494 := hc1
              rw [← Int32.toInt_inj] at g494
              have g495 := hc139
              rw [← Int32.toInt_inj] at g495
              have g496 := hc239
              rw [Int64.lt_iff_toInt_lt] at g496
              have g497 := hc240
              rw [← Int32.toInt_inj] at g497
              have g498 := hc384
              rw [← Int32.toInt_inj] at g498
              have g499 := ha478_0
              rw [Int64.lt_iff_toInt_lt] at g499
              have g500 := ha478_1
              rw [← Int64.toInt_inj] at g500
              omega
            · exfalso
              have f501 := rng32 p5
              have f502 : (3 : Int32).toInt = 3 := rfl
              have f503 := rng32 (p5 &&& (3 : Int32))
              have f504 : (p5 &&& (3 : Int32)).toInt = p5.toInt % 4 := c_mask p5 (3 : Int32) 2 (by decide) (by decide)
              have f505 : (0 : Int32).toInt = 0 := rfl
              have f506 : (1 : Int32).toInt = 1 := rfl
              have f507 : (0 : Int64).toInt = 0 := rfl
              have f508 := rng64 q1
              have f509 : (2 : Int32).toInt = 2 := rfl
              have f510 := rng32 ((p5.toUInt32 >>> ((2 : Int32) &&& 31).toUInt32).toInt32)
              have f511 : ((p5.toUInt32 >>> ((2 : Int32) &&& 31).toUInt32).toInt32).toInt = (p5.toInt % 4294967296) / 4 := c_iushr p5 (2 : Int32) 2 (by decide) (by decide)
              have f512 := rng32 (((p5.toUInt32 >>> ((2 : Int32) &&& 31).toUInt32).toInt32) &&& (1 : Int32))
              have f513 : (((p5.toUInt32 >>> ((2 : Int32) &&& 31).toUInt32).toInt32) &&& (1 : Int32)).toInt = ((p5.toUInt32 >>> ((2 : Int32) &&& 31).toUInt32).toInt32).toInt % 2 := c_mask ((p5.toUInt32 >>> ((2 : Int32) &&& 31).toUInt32).toInt32) (1 : Int32) 1 (by decide) (by decide)
              have f514 := rng64 (-q1)
              have f515 := c_lneg q1
              have g516 := hc1
              rw [← Int32.toInt_inj] at g516
              have g517 := hc139
              rw [← Int32.toInt_inj] at g517
              have g518 := hc239
              rw [Int64.lt_iff_toInt_lt] at g518
              have g519 := hc240
              rw [← Int32.toInt_inj] at g519
              have g520 := hc384
              rw [← Int32.toInt_inj] at g520
              have g521 := ha478_0
              rw [Int64.lt_iff_toInt_lt] at g521
              have g522 := ha478_1
              rw [← Int64.toInt_inj] at g522
              omega
            · refine own_tr st478 ?_
              show own_E p e below _ T478 (mkF m 136 #[.val (.long q1), .second, .val (.long q2), .second, .val (.long q3), .second, .val (.long q4), .second, iv p5, iv (p5 &&& (3 : Int32)), .val (.long (-q1)), .second, .val (.long (-q1)), .second, iv 0, rv b454, rv b456] [.int 0])
              refine own_st (fun t k => XS.iload X478.here hx rfl (hb hby at_136) rfl k) ?_
              show own_E p e below _ T478 (mkF m 138 #[.val (.long q1), .second, .val (.long q2), .second, .val (.long q3), .second, .val (.long q4), .second, iv p5, iv (p5 &&& (3 : Int32)), .val (.long (-q1)), .second, .val (.long (-q1)), .second, iv 0, rv b454, rv b456] [.int 0, .int 0])
              refine own_st (fun t k => XS.icmpNo X478.here hx rfl (hb hby at_138) rfl (by decide) k) ?_
              show own_E p e below _ T478 (mkF m 141 #[.val (.long q1), .second, .val (.long q2), .second, .val (.long q3), .second, .val (.long q4), .second, iv p5, iv (p5 &&& (3 : Int32)), .val (.long (-q1)), .second, .val (.long (-q1)), .second, iv 0, rv b454, rv b456] [])
              refine own_st (fun t k => XS.iconst X478.here hx rfl (hb hby at_141) k) ?_
              show own_E p e below _ T478 (mkF m 142 #[.val (.long q1), .second, .val (.long q2), .second, .val (.long q3), .second, .val (.long q4), .second, iv p5, iv (p5 &&& (3 : Int32)), .val (.long (-q1)), .second, .val (.long (-q1)), .second, iv 0, rv b454, rv b456] [.int 1])
              refine own_st (fun t k => XS.goto X478.here hx rfl (pc0 := 142) (pc' := 146) rfl (hb hby at_142) (by decide) (by decide) k) ?_
              show own_E p e below _ T478 (mkF m 146 #[.val (.long q1), .second, .val (.long q2), .second, .val (.long q3), .second, .val (.long q4), .second, iv p5, iv (p5 &&& (3 : Int32)), .val (.long (-q1)), .second, .val (.long (-q1)), .second, iv 0, rv b454, rv b456] [.int 1])
              refine own_retSW X478 hS459 (by rw [e478]; exact hk477) hx Bd.notSynchronized Bd.returns rfl (by decide) (hb hby at_146) (by decide) (by decide) ?_
              exact ⟨rfl, N478⟩
      · refine own_st (fun t k => XS.ifYes X0.here hx rfl (pc0 := 58) (pc' := 66) rfl (hb hby at_58) rfl ((if0 _ _).trans (flt (fun q => hc239 ((lw_gt _ _).mp q))).2.2.2) (by decide) (by decide) k) ?_
        show own_E p e below _ s₁ (mkF m 66 #[.val (.long q1), .second, .val (.long q2), .second, .val (.long q3), .second, .val (.long q4), .second, iv p5, iv (p5 &&& (3 : Int32)), .unset, .unset, .unset, .unset, .unset, .unset, .unset] [])
        refine own_st (fun t k => XS.lloadN X0.here hx rfl (hb hby at_66) rfl k) ?_
        show own_E p e below _ s₁ (mkF m 67 #[.val (.long q1), .second, .val (.long q2), .second, .val (.long q3), .second, .val (.long q4), .second, iv p5, iv (p5 &&& (3 : Int32)), .unset, .unset, .unset, .unset, .unset, .unset, .unset] [.long q1])
        refine own_st (fun t k => XS.lstore X0.here hx rfl (hb hby at_67) rfl (l' := #[.val (.long q1), .second, .val (.long q2), .second, .val (.long q3), .second, .val (.long q4), .second, iv p5, iv (p5 &&& (3 : Int32)), .val (.long q1), .second, .unset, .unset, .unset, .unset, .unset]) rfl k) ?_
        show own_E p e below _ s₁ (mkF m 69 #[.val (.long q1), .second, .val (.long q2), .second, .val (.long q3), .second, .val (.long q4), .second, iv p5, iv (p5 &&& (3 : Int32)), .val (.long q1), .second, .unset, .unset, .unset, .unset, .unset] [])
        refine own_st (fun t k => XS.iload X0.here hx rfl (hb hby at_69) rfl k) ?_
        show own_E p e below _ s₁ (mkF m 71 #[.val (.long q1), .second, .val (.long q2), .second, .val (.long q3), .second, .val (.long q4), .second, iv p5, iv (p5 &&& (3 : Int32)), .val (.long q1), .second, .unset, .unset, .unset, .unset, .unset] [.int (p5 &&& (3 : Int32))])
        refine own_st (fun t k => XS.iconst X0.here hx rfl (hb hby at_71) k) ?_
        show own_E p e below _ s₁ (mkF m 72 #[.val (.long q1), .second, .val (.long q2), .second, .val (.long q3), .second, .val (.long q4), .second, iv p5, iv (p5 &&& (3 : Int32)), .val (.long q1), .second, .unset, .unset, .unset, .unset, .unset] [.int 2, .int (p5 &&& (3 : Int32))])
        by_cases hc523 : (p5 &&& (3 : Int32)) = (2 : Int32)
        · refine own_st (fun t k => XS.icmpNo X0.here hx rfl (hb hby at_72) rfl (teq hc523).2 k) ?_
          show own_E p e below _ s₁ (mkF m 75 #[.val (.long q1), .second, .val (.long q2), .second, .val (.long q3), .second, .val (.long q4), .second, iv p5, iv (p5 &&& (3 : Int32)), .val (.long q1), .second, .unset, .unset, .unset, .unset, .unset] [])
          refine own_st (fun t k => XS.lloadN X0.here hx rfl (hb hby at_75) rfl k) ?_
          show own_E p e below _ s₁ (mkF m 76 #[.val (.long q1), .second, .val (.long q2), .second, .val (.long q3), .second, .val (.long q4), .second, iv p5, iv (p5 &&& (3 : Int32)), .val (.long q1), .second, .unset, .unset, .unset, .unset, .unset] [.long q2])
          refine own_st (fun t k => XS.goto X0.here hx rfl (pc0 := 76) (pc' := 81) rfl (hb hby at_76) (by decide) (by decide) k) ?_
          show own_E p e below _ s₁ (mkF m 81 #[.val (.long q1), .second, .val (.long q2), .second, .val (.long q3), .second, .val (.long q4), .second, iv p5, iv (p5 &&& (3 : Int32)), .val (.long q1), .second, .unset, .unset, .unset, .unset, .unset] [.long q2])
          refine own_st (fun t k => XS.lstore X0.here hx rfl (hb hby at_81) rfl (l' := #[.val (.long q1), .second, .val (.long q2), .second, .val (.long q3), .second, .val (.long q4), .second, iv p5, iv (p5 &&& (3 : Int32)), .val (.long q1), .second, .val (.long q2), .second, .unset, .unset, .unset]) rfl k) ?_
          show own_E p e below _ s₁ (mkF m 83 #[.val (.long q1), .second, .val (.long q2), .second, .val (.long q3), .second, .val (.long q4), .second, iv p5, iv (p5 &&& (3 : Int32)), .val (.long q1), .second, .val (.long q2), .second, .unset, .unset, .unset] [])
          refine own_st (fun t k => XS.iconst X0.here hx rfl (hb hby at_83) k) ?_
          show own_E p e below _ s₁ (mkF m 84 #[.val (.long q1), .second, .val (.long q2), .second, .val (.long q3), .second, .val (.long q4), .second, iv p5, iv (p5 &&& (3 : Int32)), .val (.long q1), .second, .val (.long q2), .second, .unset, .unset, .unset] [.int 0])
          refine own_st (fun t k => XS.istore X0.here hx rfl (hb hby at_84) rfl (l' := #[.val (.long q1), .second, .val (.long q2), .second, .val (.long q3), .second, .val (.long q4), .second, iv p5, iv (p5 &&& (3 : Int32)), .val (.long q1), .second, .val (.long q2), .second, iv 0, .unset, .unset]) rfl k) ?_
          show own_E p e below _ s₁ (mkF m 86 #[.val (.long q1), .second, .val (.long q2), .second, .val (.long q3), .second, .val (.long q4), .second, iv p5, iv (p5 &&& (3 : Int32)), .val (.long q1), .second, .val (.long q2), .second, iv 0, .unset, .unset] [])
          refine own_st (fun t k => XS.iload X0.here hx rfl (hb hby at_86) rfl k) ?_
          show own_E p e below _ s₁ (mkF m 88 #[.val (.long q1), .second, .val (.long q2), .second, .val (.long q3), .second, .val (.long q4), .second, iv p5, iv (p5 &&& (3 : Int32)), .val (.long q1), .second, .val (.long q2), .second, iv 0, .unset, .unset] [.int p5])
          refine own_st (fun t k => XS.iconst X0.here hx rfl (hb hby at_88) k) ?_
          show own_E p e below _ s₁ (mkF m 89 #[.val (.long q1), .second, .val (.long q2), .second, .val (.long q3), .second, .val (.long q4), .second, iv p5, iv (p5 &&& (3 : Int32)), .val (.long q1), .second, .val (.long q2), .second, iv 0, .unset, .unset] [.int 2, .int p5])
          refine own_st (fun t k => XS.iushr X0.here hx rfl (hb hby at_89) rfl k) ?_
          show own_E p e below _ s₁ (mkF m 90 #[.val (.long q1), .second, .val (.long q2), .second, .val (.long q3), .second, .val (.long q4), .second, iv p5, iv (p5 &&& (3 : Int32)), .val (.long q1), .second, .val (.long q2), .second, iv 0, .unset, .unset] [.int ((p5.toUInt32 >>> ((2 : Int32) &&& 31).toUInt32).toInt32)])
          refine own_st (fun t k => XS.iconst X0.here hx rfl (hb hby at_90) k) ?_
          show own_E p e below _ s₁ (mkF m 91 #[.val (.long q1), .second, .val (.long q2), .second, .val (.long q3), .second, .val (.long q4), .second, iv p5, iv (p5 &&& (3 : Int32)), .val (.long q1), .second, .val (.long q2), .second, iv 0, .unset, .unset] [.int 1, .int ((p5.toUInt32 >>> ((2 : Int32) &&& 31).toUInt32).toInt32)])
          refine own_st (fun t k => XS.iand X0.here hx rfl (hb hby at_91) rfl k) ?_
          show own_E p e below _ s₁ (mkF m 92 #[.val (.long q1), .second, .val (.long q2), .second, .val (.long q3), .second, .val (.long q4), .second, iv p5, iv (p5 &&& (3 : Int32)), .val (.long q1), .second, .val (.long q2), .second, iv 0, .unset, .unset] [.int (((p5.toUInt32 >>> ((2 : Int32) &&& 31).toUInt32).toInt32) &&& (1 : Int32))])
          by_cases hc524 : (((p5.toUInt32 >>> ((2 : Int32) &&& 31).toUInt32).toInt32) &&& (1 : Int32)) = (0 : Int32)
          · refine own_st (fun t k => XS.ifYes X0.here hx rfl (pc0 := 92) (pc' := 100) rfl (hb hby at_92) rfl ((if0 _ _).trans (teq hc524).1) (by decide) (by decide) k) ?_
            show own_E p e below _ s₁ (mkF m 100 #[.val (.long q1), .second, .val (.long q2), .second, .val (.long q3), .second, .val (.long q4), .second, iv p5, iv (p5 &&& (3 : Int32)), .val (.long q1), .second, .val (.long q2), .second, iv 0, .unset, .unset] [])
            obtain ⟨b525, T525, h525, k525, X525, e525, E525, hS525, hk525, hZ525, ho525, st525⟩ := ldcS (s := s) (vm0 := s.vm) X0 hx hZ hown (own_w hw 0 rfl) (own_wS hw) e0 (own_since s) (Nat.zero_le _) (g := (mkF m 100 #[.val (.long q1), .second, .val (.long q2), .second, .val (.long q3), .second, .val (.long q4), .second, iv p5, iv (p5 &&& (3 : Int32)), .val (.long q1), .second, .val (.long q2), .second, iv 0, .unset, .unset] [])) rfl (hb hby at_100) (n := 24) (by decide) (by decide) (by decide) (by decide)
            have Z526 := Nat.le_trans Z0 E525.1
            refine own_st st525 ?_
            show own_E p e below _ T525 (mkF m 102 #[.val (.long q1), .second, .val (.long q2), .second, .val (.long q3), .second, .val (.long q4), .second, iv p5, iv (p5 &&& (3 : Int32)), .val (.long q1), .second, .val (.long q2), .second, iv 0, .unset, .unset] [.ref b525])
            refine own_st (fun t k => XS.astore X525.here hx rfl (hb hby at_102) rfl rfl (l' := #[.val (.long q1), .second, .val (.long q2), .second, .val (.long q3), .second, .val (.long q4), .second, iv p5, iv (p5 &&& (3 : Int32)), .val (.long q1), .second, .val (.long q2), .second, iv 0, rv b525, .unset]) rfl k) ?_
            show own_E p e below _ T525 (mkF m 104 #[.val (.long q1), .second, .val (.long q2), .second, .val (.long q3), .second, .val (.long q4), .second, iv p5, iv (p5 &&& (3 : Int32)), .val (.long q1), .second, .val (.long q2), .second, iv 0, rv b525, .unset] [])
            obtain ⟨T527, h527, X527, e527, E527, A527, D527, -, st527⟩ := newO X525 hx hZ525 ho525 (own_w hw 8 rfl) (own_w hw 9 rfl) (own_w hw 10 rfl) e525 (g := (mkF m 104 #[.val (.long q1), .second, .val (.long q2), .second, .val (.long q3), .second, .val (.long q4), .second, iv p5, iv (p5 &&& (3 : Int32)), .val (.long q1), .second, .val (.long q2), .second, iv 0, rv b525, .unset] [])) rfl (hb hby at_104) (by decide) (by decide)
            obtain ⟨b527, g527⟩ : ∃ z, z = h525.size := ⟨_, rfl⟩
            rw [← g527] at A527 D527 st527
            have g_b527 : n0 ≤ b527 := Nat.le_trans Z526 (Nat.le_of_eq g527.symm)
            have Z528 := Nat.le_trans Z526 E527.1
            have hk529 := Nat.le_trans hk525 E527.1
            have F_id_b527 : Fld Z h527 b527 "com/example/acquirer/acquirer/Payment" "id" "Ljava/lang/String;" .null := D527 (Or.inr (own_w hw 24 rfl)) (ty := (.object "java/lang/String")) (by decide)
            have F_session_b527 : Fld Z h527 b527 "com/example/acquirer/acquirer/Payment" "session" "Ljava/lang/String;" .null := D527 (Or.inr (own_w hw 26 rfl)) (ty := (.object "java/lang/String")) (by decide)
            have F_created_b527 : Fld Z h527 b527 "com/example/acquirer/acquirer/Payment" "created" "J" (.long (0 : Int64)) := D527 (Or.inr (own_w hw 28 rfl)) (ty := .long) (by decide)
            have F_amount_b527 : Fld Z h527 b527 "com/example/acquirer/acquirer/Payment" "amount" "J" (.long (0 : Int64)) := D527 (Or.inr (own_w hw 30 rfl)) (ty := .long) (by decide)
            have F_amountCaptured_b527 : Fld Z h527 b527 "com/example/acquirer/acquirer/Payment" "amountCaptured" "J" (.long (0 : Int64)) := D527 (Or.inr (own_w hw 32 rfl)) (ty := .long) (by decide)
            have F_amountRefunded_b527 : Fld Z h527 b527 "com/example/acquirer/acquirer/Payment" "amountRefunded" "J" (.long (0 : Int64)) := D527 (Or.inr (own_w hw 34 rfl)) (ty := .long) (by decide)
            have F_currency_b527 : Fld Z h527 b527 "com/example/acquirer/acquirer/Payment" "currency" "Ljava/lang/String;" .null := D527 (Or.inr (own_w hw 36 rfl)) (ty := (.object "java/lang/String")) (by decide)
            have F_status_b527 : Fld Z h527 b527 "com/example/acquirer/acquirer/Payment" "status" "Ljava/lang/String;" .null := D527 (Or.inr (own_w hw 38 rfl)) (ty := (.object "java/lang/String")) (by decide)
            have F_gateway_b527 : Fld Z h527 b527 "com/example/acquirer/acquirer/Payment" "gateway" "Ljava/lang/String;" .null := D527 (Or.inr (own_w hw 40 rfl)) (ty := (.object "java/lang/String")) (by decide)
            have F_card_b527 : Fld Z h527 b527 "com/example/acquirer/acquirer/Payment" "card" "Lcom/example/acquirer/acquirer/Card;" .null := D527 (Or.inr (own_w hw 42 rfl)) (ty := (.object "com/example/acquirer/acquirer/Card")) (by decide)
            have F_approval_b527 : Fld Z h527 b527 "com/example/acquirer/acquirer/Payment" "approval" "Lcom/example/acquirer/acquirer/Approval;" .null := D527 (Or.inr (own_w hw 44 rfl)) (ty := (.object "com/example/acquirer/acquirer/Approval")) (by decide)
            have F_lastError_b527 : Fld Z h527 b527 "com/example/acquirer/acquirer/Payment" "lastError" "Ljava/lang/String;" .null := D527 (Or.inr (own_w hw 46 rfl)) (ty := (.object "java/lang/String")) (by decide)
            refine own_st st527 ?_
            show own_E p e below _ T527 (mkF m 107 #[.val (.long q1), .second, .val (.long q2), .second, .val (.long q3), .second, .val (.long q4), .second, iv p5, iv (p5 &&& (3 : Int32)), .val (.long q1), .second, .val (.long q2), .second, iv 0, rv b525, .unset] [.ref b527])
            refine own_st (fun t k => XS.dup X527.here hx rfl (hb hby at_107) rfl rfl k) ?_
            show own_E p e below _ T527 (mkF m 108 #[.val (.long q1), .second, .val (.long q2), .second, .val (.long q3), .second, .val (.long q4), .second, iv p5, iv (p5 &&& (3 : Int32)), .val (.long q1), .second, .val (.long q2), .second, iv 0, rv b525, .unset] [.ref b527, .ref b527])
            refine own_st (fun t k => XS.aconstNull X527.here hx rfl (hb hby at_108) k) ?_
            show own_E p e below _ T527 (mkF m 109 #[.val (.long q1), .second, .val (.long q2), .second, .val (.long q3), .second, .val (.long q4), .second, iv p5, iv (p5 &&& (3 : Int32)), .val (.long q1), .second, .val (.long q2), .second, iv 0, rv b525, .unset] [.null, .ref b527, .ref b527])
            refine own_st (fun t k => XS.aconstNull X527.here hx rfl (hb hby at_109) k) ?_
            show own_E p e below _ T527 (mkF m 110 #[.val (.long q1), .second, .val (.long q2), .second, .val (.long q3), .second, .val (.long q4), .second, iv p5, iv (p5 &&& (3 : Int32)), .val (.long q1), .second, .val (.long q2), .second, iv 0, rv b525, .unset] [.null, .null, .ref b527, .ref b527])
            refine own_st (fun t k => XS.lload X527.here hx rfl (hb hby at_110) rfl k) ?_
            show own_E p e below _ T527 (mkF m 112 #[.val (.long q1), .second, .val (.long q2), .second, .val (.long q3), .second, .val (.long q4), .second, iv p5, iv (p5 &&& (3 : Int32)), .val (.long q1), .second, .val (.long q2), .second, iv 0, rv b525, .unset] [.long q4, .null, .null, .ref b527, .ref b527])
            refine own_st (fun t k => XS.lload X527.here hx rfl (hb hby at_112) rfl k) ?_
            show own_E p e below _ T527 (mkF m 114 #[.val (.long q1), .second, .val (.long q2), .second, .val (.long q3), .second, .val (.long q4), .second, iv p5, iv (p5 &&& (3 : Int32)), .val (.long q1), .second, .val (.long q2), .second, iv 0, rv b525, .unset] [.long q3, .long q4, .null, .null, .ref b527, .ref b527])
            refine own_st (fun t k => XS.lload X527.here hx rfl (hb hby at_114) rfl k) ?_
            show own_E p e below _ T527 (mkF m 116 #[.val (.long q1), .second, .val (.long q2), .second, .val (.long q3), .second, .val (.long q4), .second, iv p5, iv (p5 &&& (3 : Int32)), .val (.long q1), .second, .val (.long q2), .second, iv 0, rv b525, .unset] [.long q1, .long q3, .long q4, .null, .null, .ref b527, .ref b527])
            refine own_st (fun t k => XS.lload X527.here hx rfl (hb hby at_116) rfl k) ?_
            show own_E p e below _ T527 (mkF m 118 #[.val (.long q1), .second, .val (.long q2), .second, .val (.long q3), .second, .val (.long q4), .second, iv p5, iv (p5 &&& (3 : Int32)), .val (.long q1), .second, .val (.long q2), .second, iv 0, rv b525, .unset] [.long q2, .long q1, .long q3, .long q4, .null, .null, .ref b527, .ref b527])
            obtain ⟨b530, T530, h530, k530, X530, e530, E530, hS530, hk530, hZ530, ho530, st530⟩ := ldcS (s := s) (vm0 := T525.vm) X527 hx hZ525 ho525 (own_w hw 11 rfl) (own_wS hw) e527 hS525 hk529 (g := (mkF m 118 #[.val (.long q1), .second, .val (.long q2), .second, .val (.long q3), .second, .val (.long q4), .second, iv p5, iv (p5 &&& (3 : Int32)), .val (.long q1), .second, .val (.long q2), .second, iv 0, rv b525, .unset] [.long q2, .long q1, .long q3, .long q4, .null, .null, .ref b527, .ref b527])) rfl (hb hby at_118) (n := 12) (by decide) (by decide) (by decide) (by decide)
            have Z531 := Nat.le_trans Z528 E530.1
            have hk532 := Nat.le_trans hk529 E530.1
            refine own_st st530 ?_
            show own_E p e below _ T530 (mkF m 120 #[.val (.long q1), .second, .val (.long q2), .second, .val (.long q3), .second, .val (.long q4), .second, iv p5, iv (p5 &&& (3 : Int32)), .val (.long q1), .second, .val (.long q2), .second, iv 0, rv b525, .unset] [.ref b530, .long q2, .long q1, .long q3, .long q4, .null, .null, .ref b527, .ref b527])
            refine own_st (fun t k => XS.aload X530.here hx rfl (hb hby at_120) rfl rfl k) ?_
            show own_E p e below _ T530 (mkF m 122 #[.val (.long q1), .second, .val (.long q2), .second, .val (.long q3), .second, .val (.long q4), .second, iv p5, iv (p5 &&& (3 : Int32)), .val (.long q1), .second, .val (.long q2), .second, iv 0, rv b525, .unset] [.ref b525, .ref b530, .long q2, .long q1, .long q3, .long q4, .null, .null, .ref b527, .ref b527])
            refine own_st (fun t k => XS.aconstNull X530.here hx rfl (hb hby at_122) k) ?_
            show own_E p e below _ T530 (mkF m 123 #[.val (.long q1), .second, .val (.long q2), .second, .val (.long q3), .second, .val (.long q4), .second, iv p5, iv (p5 &&& (3 : Int32)), .val (.long q1), .second, .val (.long q2), .second, iv 0, rv b525, .unset] [.null, .ref b525, .ref b530, .long q2, .long q1, .long q3, .long q4, .null, .null, .ref b527, .ref b527])
            refine own_st (fun t k => XS.aconstNull X530.here hx rfl (hb hby at_123) k) ?_
            show own_E p e below _ T530 (mkF m 124 #[.val (.long q1), .second, .val (.long q2), .second, .val (.long q3), .second, .val (.long q4), .second, iv p5, iv (p5 &&& (3 : Int32)), .val (.long q1), .second, .val (.long q2), .second, iv 0, rv b525, .unset] [.null, .null, .ref b525, .ref b530, .long q2, .long q1, .long q3, .long q4, .null, .null, .ref b527, .ref b527])
            refine own_st (fun t k => XS.aconstNull X530.here hx rfl (hb hby at_124) k) ?_
            show own_E p e below _ T530 (mkF m 125 #[.val (.long q1), .second, .val (.long q2), .second, .val (.long q3), .second, .val (.long q4), .second, iv p5, iv (p5 &&& (3 : Int32)), .val (.long q1), .second, .val (.long q2), .second, iv 0, rv b525, .unset] [.null, .null, .null, .ref b525, .ref b530, .long q2, .long q1, .long q3, .long q4, .null, .null, .ref b527, .ref b527])
            refine own_st (fun t k => XS.aconstNull X530.here hx rfl (hb hby at_125) k) ?_
            show own_E p e below _ T530 (mkF m 126 #[.val (.long q1), .second, .val (.long q2), .second, .val (.long q3), .second, .val (.long q4), .second, iv p5, iv (p5 &&& (3 : Int32)), .val (.long q1), .second, .val (.long q2), .second, iv 0, rv b525, .unset] [.null, .null, .null, .null, .ref b525, .ref b530, .long q2, .long q1, .long q3, .long q4, .null, .null, .ref b527, .ref b527])
            have B533 := (A527.ext E530)
            have B534 := (F_id_b527.ext E530)
            have B535 := (F_session_b527.ext E530)
            have B536 := (F_created_b527.ext E530)
            have B537 := (F_amount_b527.ext E530)
            have B538 := (F_amountCaptured_b527.ext E530)
            have B539 := (F_amountRefunded_b527.ext E530)
            have B540 := (F_currency_b527.ext E530)
            have B541 := (F_status_b527.ext E530)
            have B542 := (F_gateway_b527.ext E530)
            have B543 := (F_card_b527.ext E530)
            have B544 := (F_approval_b527.ext E530)
            have B545 := (F_lastError_b527.ext E530)
            obtain ⟨_, _, ⟨T546, L546, k546, n546⟩, -, X546, ⟨Lc546, hQ546, l546, y546, z546⟩, st546⟩ := X530.specialBack hx (y := own_y1) rfl ho530 (mvT hZ530 (own_w hw 12 rfl)) (mvT hZ530 (own_w hw 13 rfl)) (mvT hZ530 (own_w hw 14 rfl)) (by decide) (backOf (W := 1) (own_init l Z a0 hw [] b527 b530 b525 q4 q3 q1 q2 h530 n0 Z531 B533 B534 B535 B536 B537 B538 B539 B540 B541 B542 B543 B544 B545 g_b527) hZ530 (own_w hw 14 rfl) (own_w hw 10 rfl) (by decide) (by decide)) (g := (mkF m 126 #[.val (.long q1), .second, .val (.long q2), .second, .val (.long q3), .second, .val (.long q4), .second, iv p5, iv (p5 &&& (3 : Int32)), .val (.long q1), .second, .val (.long q2), .second, iv 0, rv b525, .unset] [.null, .null, .null, .null, .ref b525, .ref b530, .long q2, .long q1, .long q3, .long q4, .null, .null, .ref b527, .ref b527])) rfl (by rw [hml]; rfl) (Steps.refl _) (a := b527) (argsL := [.null, .null, (.long q4), (.long q3), (.long q1), (.long q2), (.ref b530), (.ref b525), .null, .null, .null, .null]) (rest := [(.ref b527)]) (lenOf own_pd_3 rfl) rfl (by show 2 * 0 + _ ≤ _; exact Nat.le_of_eq rfl) (hb hby at_126) (fun _ _ => ⟨rfl, e530, (by decide : 5 + 0 ≤ _), (by decide : 56 + 0 ≤ _)⟩)
            dsimp only [Pt.U, Pt.locs, Pt.cells, Pt.slots] at X546 l546 y546 z546 st546 hQ546
            subst l546 y546 z546
            obtain ⟨rfl, Nq546, Kq546, P546_0, P546_1, P546_2⟩ := hQ546
            have N546 := Fr.app (Fr.nil n0) Nq546
            have e546 : T546.heap = T546.heap := rfl
            have Z547 := Nat.le_trans Z531 Kq546.1
            have hk548 := Nat.le_trans hk530 Kq546.1
            refine own_tr st546 ?_
            show own_E p e below _ T546 (mkF m 129 #[.val (.long q1), .second, .val (.long q2), .second, .val (.long q3), .second, .val (.long q4), .second, iv p5, iv (p5 &&& (3 : Int32)), .val (.long q1), .second, .val (.long q2), .second, iv 0, rv b525, .unset] [.ref b527])
            refine own_st (fun t k => XS.astore X546.here hx rfl (hb hby at_129) rfl rfl (l' := #[.val (.long q1), .second, .val (.long q2), .second, .val (.long q3), .second, .val (.long q4), .second, iv p5, iv (p5 &&& (3 : Int32)), .val (.long q1), .second, .val (.long q2), .second, iv 0, rv b525, rv b527]) rfl k) ?_
            show own_E p e below _ T546 (mkF m 131 #[.val (.long q1), .second, .val (.long q2), .second, .val (.long q3), .second, .val (.long q4), .second, iv p5, iv (p5 &&& (3 : Int32)), .val (.long q1), .second, .val (.long q2), .second, iv 0, rv b525, rv b527] [])
            refine own_st (fun t k => XS.aload X546.here hx rfl (hb hby at_131) rfl rfl k) ?_
            show own_E p e below _ T546 (mkF m 133 #[.val (.long q1), .second, .val (.long q2), .second, .val (.long q3), .second, .val (.long q4), .second, iv p5, iv (p5 &&& (3 : Int32)), .val (.long q1), .second, .val (.long q2), .second, iv 0, rv b525, rv b527] [.ref b527])
            obtain ⟨cq549, kq549, q549a, q549b, q549c⟩ := isOf hZ530 e546 P546_0
            obtain ⟨_, _, ⟨T549, L549, k549, n549⟩, -, X549, ⟨Lc549, hQ549, l549, y549, z549⟩, st549⟩ := X546.virtualBack hx (y := own_y2) (z := own_y2) ho530 (mvT hZ530 (own_w hw 47 rfl)) (mvT hZ530 (own_w hw 48 rfl)) (notFace_of_selects (args := #[]) (mvT hZ530 (own_w hw 50 rfl))) (mvT hZ530 (own_w hw 50 rfl)) (mvT hZ530 (own_w hw 49 rfl)) (by decide) (backOf (W := 0) (own_isref l Z a0 hw [] b527 q1 q2 T546.heap n0 Z547 P546_1 P546_2) hZ530 (own_w hw 51 rfl) (own_w hw 10 rfl) (by decide) (by decide)) q549a q549c (g := (mkF m 133 #[.val (.long q1), .second, .val (.long q2), .second, .val (.long q3), .second, .val (.long q4), .second, iv p5, iv (p5 &&& (3 : Int32)), .val (.long q1), .second, .val (.long q2), .second, iv 0, rv b525, rv b527] [.ref b527])) rfl (by rw [hml]; rfl) (Steps.refl _) (argsL := []) (rest := []) (lenOf own_pd_1 rfl) rfl (by show 2 * 0 + _ ≤ _; exact Nat.le_of_eq rfl) (hb hby at_133) (fun _ _ => ⟨rfl, e546, (by decide : 5 + 0 ≤ _), (by decide : 56 + 0 ≤ _)⟩)
            dsimp only [Pt.U, Pt.locs, Pt.cells, Pt.slots] at X549 l549 y549 z549 st549 hQ549
            subst l549 y549 z549
            obtain ⟨hR549, e549, rfl⟩ := hQ549
            have N549 := Fr.app N546 (Fr.nil n0)
            rcases hR549 with ⟨rfl, ha549_0, ha549_1⟩ | ⟨rfl, ha549_0, ha549_1⟩ | ⟨rfl, ha549_0⟩
            · exact absurd ha549_0 hc239
            · exact absurd ha549_0 hc239
            · refine own_tr st549 ?_
              show own_E p e below _ T549 (mkF m 136 #[.val (.long q1), .second, .val (.long q2), .second, .val (.long q3), .second, .val (.long q4), .second, iv p5, iv (p5 &&& (3 : Int32)), .val (.long q1), .second, .val (.long q2), .second, iv 0, rv b525, rv b527] [.int 0])
              refine own_st (fun t k => XS.iload X549.here hx rfl (hb hby at_136) rfl k) ?_
              show own_E p e below _ T549 (mkF m 138 #[.val (.long q1), .second, .val (.long q2), .second, .val (.long q3), .second, .val (.long q4), .second, iv p5, iv (p5 &&& (3 : Int32)), .val (.long q1), .second, .val (.long q2), .second, iv 0, rv b525, rv b527] [.int 0, .int 0])
              refine own_st (fun t k => XS.icmpNo X549.here hx rfl (hb hby at_138) rfl (by decide) k) ?_
              show own_E p e below _ T549 (mkF m 141 #[.val (.long q1), .second, .val (.long q2), .second, .val (.long q3), .second, .val (.long q4), .second, iv p5, iv (p5 &&& (3 : Int32)), .val (.long q1), .second, .val (.long q2), .second, iv 0, rv b525, rv b527] [])
              refine own_st (fun t k => XS.iconst X549.here hx rfl (hb hby at_141) k) ?_
              show own_E p e below _ T549 (mkF m 142 #[.val (.long q1), .second, .val (.long q2), .second, .val (.long q3), .second, .val (.long q4), .second, iv p5, iv (p5 &&& (3 : Int32)), .val (.long q1), .second, .val (.long q2), .second, iv 0, rv b525, rv b527] [.int 1])
              refine own_st (fun t k => XS.goto X549.here hx rfl (pc0 := 142) (pc' := 146) rfl (hb hby at_142) (by decide) (by decide) k) ?_
              show own_E p e below _ T549 (mkF m 146 #[.val (.long q1), .second, .val (.long q2), .second, .val (.long q3), .second, .val (.long q4), .second, iv p5, iv (p5 &&& (3 : Int32)), .val (.long q1), .second, .val (.long q2), .second, iv 0, rv b525, rv b527] [.int 1])
              refine own_retSW X549 hS530 (by rw [e549]; exact hk548) hx Bd.notSynchronized Bd.returns rfl (by decide) (hb hby at_146) (by decide) (by decide) ?_
              exact ⟨rfl, N549⟩
          · refine own_st (fun t k => XS.ifNo X0.here hx rfl (hb hby at_92) rfl ((if0 _ _).trans (feq hc524).1) k) ?_
            show own_E p e below _ s₁ (mkF m 95 #[.val (.long q1), .second, .val (.long q2), .second, .val (.long q3), .second, .val (.long q4), .second, iv p5, iv (p5 &&& (3 : Int32)), .val (.long q1), .second, .val (.long q2), .second, iv 0, .unset, .unset] [])
            obtain ⟨b550, T550, h550, k550, X550, e550, E550, hS550, hk550, hZ550, ho550, st550⟩ := ldcS (s := s) (vm0 := s.vm) X0 hx hZ hown (own_w hw 52 rfl) (own_wS hw) e0 (own_since s) (Nat.zero_le _) (g := (mkF m 95 #[.val (.long q1), .second, .val (.long q2), .second, .val (.long q3), .second, .val (.long q4), .second, iv p5, iv (p5 &&& (3 : Int32)), .val (.long q1), .second, .val (.long q2), .second, iv 0, .unset, .unset] [])) rfl (hb hby at_95) (n := 32) (by decide) (by decide) (by decide) (by decide)
            have Z551 := Nat.le_trans Z0 E550.1
            refine own_st st550 ?_
            show own_E p e below _ T550 (mkF m 97 #[.val (.long q1), .second, .val (.long q2), .second, .val (.long q3), .second, .val (.long q4), .second, iv p5, iv (p5 &&& (3 : Int32)), .val (.long q1), .second, .val (.long q2), .second, iv 0, .unset, .unset] [.ref b550])
            refine own_st (fun t k => XS.goto X550.here hx rfl (pc0 := 97) (pc' := 102) rfl (hb hby at_97) (by decide) (by decide) k) ?_
            show own_E p e below _ T550 (mkF m 102 #[.val (.long q1), .second, .val (.long q2), .second, .val (.long q3), .second, .val (.long q4), .second, iv p5, iv (p5 &&& (3 : Int32)), .val (.long q1), .second, .val (.long q2), .second, iv 0, .unset, .unset] [.ref b550])
            refine own_st (fun t k => XS.astore X550.here hx rfl (hb hby at_102) rfl rfl (l' := #[.val (.long q1), .second, .val (.long q2), .second, .val (.long q3), .second, .val (.long q4), .second, iv p5, iv (p5 &&& (3 : Int32)), .val (.long q1), .second, .val (.long q2), .second, iv 0, rv b550, .unset]) rfl k) ?_
            show own_E p e below _ T550 (mkF m 104 #[.val (.long q1), .second, .val (.long q2), .second, .val (.long q3), .second, .val (.long q4), .second, iv p5, iv (p5 &&& (3 : Int32)), .val (.long q1), .second, .val (.long q2), .second, iv 0, rv b550, .unset] [])
            obtain ⟨T552, h552, X552, e552, E552, A552, D552, -, st552⟩ := newO X550 hx hZ550 ho550 (own_w hw 8 rfl) (own_w hw 9 rfl) (own_w hw 10 rfl) e550 (g := (mkF m 104 #[.val (.long q1), .second, .val (.long q2), .second, .val (.long q3), .second, .val (.long q4), .second, iv p5, iv (p5 &&& (3 : Int32)), .val (.long q1), .second, .val (.long q2), .second, iv 0, rv b550, .unset] [])) rfl (hb hby at_104) (by decide) (by decide)
            obtain ⟨b552, g552⟩ : ∃ z, z = h550.size := ⟨_, rfl⟩
            rw [← g552] at A552 D552 st552
            have g_b552 : n0 ≤ b552 := Nat.le_trans Z551 (Nat.le_of_eq g552.symm)
            have Z553 := Nat.le_trans Z551 E552.1
            have hk554 := Nat.le_trans hk550 E552.1
            have F_id_b552 : Fld Z h552 b552 "com/example/acquirer/acquirer/Payment" "id" "Ljava/lang/String;" .null := D552 (Or.inr (own_w hw 24 rfl)) (ty := (.object "java/lang/String")) (by decide)
            have F_session_b552 : Fld Z h552 b552 "com/example/acquirer/acquirer/Payment" "session" "Ljava/lang/String;" .null := D552 (Or.inr (own_w hw 26 rfl)) (ty := (.object "java/lang/String")) (by decide)
            have F_created_b552 : Fld Z h552 b552 "com/example/acquirer/acquirer/Payment" "created" "J" (.long (0 : Int64)) := D552 (Or.inr (own_w hw 28 rfl)) (ty := .long) (by decide)
            have F_amount_b552 : Fld Z h552 b552 "com/example/acquirer/acquirer/Payment" "amount" "J" (.long (0 : Int64)) := D552 (Or.inr (own_w hw 30 rfl)) (ty := .long) (by decide)
            have F_amountCaptured_b552 : Fld Z h552 b552 "com/example/acquirer/acquirer/Payment" "amountCaptured" "J" (.long (0 : Int64)) := D552 (Or.inr (own_w hw 32 rfl)) (ty := .long) (by decide)
            have F_amountRefunded_b552 : Fld Z h552 b552 "com/example/acquirer/acquirer/Payment" "amountRefunded" "J" (.long (0 : Int64)) := D552 (Or.inr (own_w hw 34 rfl)) (ty := .long) (by decide)
            have F_currency_b552 : Fld Z h552 b552 "com/example/acquirer/acquirer/Payment" "currency" "Ljava/lang/String;" .null := D552 (Or.inr (own_w hw 36 rfl)) (ty := (.object "java/lang/String")) (by decide)
            have F_status_b552 : Fld Z h552 b552 "com/example/acquirer/acquirer/Payment" "status" "Ljava/lang/String;" .null := D552 (Or.inr (own_w hw 38 rfl)) (ty := (.object "java/lang/String")) (by decide)
            have F_gateway_b552 : Fld Z h552 b552 "com/example/acquirer/acquirer/Payment" "gateway" "Ljava/lang/String;" .null := D552 (Or.inr (own_w hw 40 rfl)) (ty := (.object "java/lang/String")) (by decide)
            have F_card_b552 : Fld Z h552 b552 "com/example/acquirer/acquirer/Payment" "card" "Lcom/example/acquirer/acquirer/Card;" .null := D552 (Or.inr (own_w hw 42 rfl)) (ty := (.object "com/example/acquirer/acquirer/Card")) (by decide)
            have F_approval_b552 : Fld Z h552 b552 "com/example/acquirer/acquirer/Payment" "approval" "Lcom/example/acquirer/acquirer/Approval;" .null := D552 (Or.inr (own_w hw 44 rfl)) (ty := (.object "com/example/acquirer/acquirer/Approval")) (by decide)
            have F_lastError_b552 : Fld Z h552 b552 "com/example/acquirer/acquirer/Payment" "lastError" "Ljava/lang/String;" .null := D552 (Or.inr (own_w hw 46 rfl)) (ty := (.object "java/lang/String")) (by decide)
            refine own_st st552 ?_
            show own_E p e below _ T552 (mkF m 107 #[.val (.long q1), .second, .val (.long q2), .second, .val (.long q3), .second, .val (.long q4), .second, iv p5, iv (p5 &&& (3 : Int32)), .val (.long q1), .second, .val (.long q2), .second, iv 0, rv b550, .unset] [.ref b552])
            refine own_st (fun t k => XS.dup X552.here hx rfl (hb hby at_107) rfl rfl k) ?_
            show own_E p e below _ T552 (mkF m 108 #[.val (.long q1), .second, .val (.long q2), .second, .val (.long q3), .second, .val (.long q4), .second, iv p5, iv (p5 &&& (3 : Int32)), .val (.long q1), .second, .val (.long q2), .second, iv 0, rv b550, .unset] [.ref b552, .ref b552])
            refine own_st (fun t k => XS.aconstNull X552.here hx rfl (hb hby at_108) k) ?_
            show own_E p e below _ T552 (mkF m 109 #[.val (.long q1), .second, .val (.long q2), .second, .val (.long q3), .second, .val (.long q4), .second, iv p5, iv (p5 &&& (3 : Int32)), .val (.long q1), .second, .val (.long q2), .second, iv 0, rv b550, .unset] [.null, .ref b552, .ref b552])
            refine own_st (fun t k => XS.aconstNull X552.here hx rfl (hb hby at_109) k) ?_
            show own_E p e below _ T552 (mkF m 110 #[.val (.long q1), .second, .val (.long q2), .second, .val (.long q3), .second, .val (.long q4), .second, iv p5, iv (p5 &&& (3 : Int32)), .val (.long q1), .second, .val (.long q2), .second, iv 0, rv b550, .unset] [.null, .null, .ref b552, .ref b552])
            refine own_st (fun t k => XS.lload X552.here hx rfl (hb hby at_110) rfl k) ?_
            show own_E p e below _ T552 (mkF m 112 #[.val (.long q1), .second, .val (.long q2), .second, .val (.long q3), .second, .val (.long q4), .second, iv p5, iv (p5 &&& (3 : Int32)), .val (.long q1), .second, .val (.long q2), .second, iv 0, rv b550, .unset] [.long q4, .null, .null, .ref b552, .ref b552])
            refine own_st (fun t k => XS.lload X552.here hx rfl (hb hby at_112) rfl k) ?_
            show own_E p e below _ T552 (mkF m 114 #[.val (.long q1), .second, .val (.long q2), .second, .val (.long q3), .second, .val (.long q4), .second, iv p5, iv (p5 &&& (3 : Int32)), .val (.long q1), .second, .val (.long q2), .second, iv 0, rv b550, .unset] [.long q3, .long q4, .null, .null, .ref b552, .ref b552])
            refine own_st (fun t k => XS.lload X552.here hx rfl (hb hby at_114) rfl k) ?_
            show own_E p e below _ T552 (mkF m 116 #[.val (.long q1), .second, .val (.long q2), .second, .val (.long q3), .second, .val (.long q4), .second, iv p5, iv (p5 &&& (3 : Int32)), .val (.long q1), .second, .val (.long q2), .second, iv 0, rv b550, .unset] [.long q1, .long q3, .long q4, .null, .null, .ref b552, .ref b552])
            refine own_st (fun t k => XS.lload X552.here hx rfl (hb hby at_116) rfl k) ?_
            show own_E p e below _ T552 (mkF m 118 #[.val (.long q1), .second, .val (.long q2), .second, .val (.long q3), .second, .val (.long q4), .second, iv p5, iv (p5 &&& (3 : Int32)), .val (.long q1), .second, .val (.long q2), .second, iv 0, rv b550, .unset] [.long q2, .long q1, .long q3, .long q4, .null, .null, .ref b552, .ref b552])
            obtain ⟨b555, T555, h555, k555, X555, e555, E555, hS555, hk555, hZ555, ho555, st555⟩ := ldcS (s := s) (vm0 := T550.vm) X552 hx hZ550 ho550 (own_w hw 11 rfl) (own_wS hw) e552 hS550 hk554 (g := (mkF m 118 #[.val (.long q1), .second, .val (.long q2), .second, .val (.long q3), .second, .val (.long q4), .second, iv p5, iv (p5 &&& (3 : Int32)), .val (.long q1), .second, .val (.long q2), .second, iv 0, rv b550, .unset] [.long q2, .long q1, .long q3, .long q4, .null, .null, .ref b552, .ref b552])) rfl (hb hby at_118) (n := 12) (by decide) (by decide) (by decide) (by decide)
            have Z556 := Nat.le_trans Z553 E555.1
            have hk557 := Nat.le_trans hk554 E555.1
            refine own_st st555 ?_
            show own_E p e below _ T555 (mkF m 120 #[.val (.long q1), .second, .val (.long q2), .second, .val (.long q3), .second, .val (.long q4), .second, iv p5, iv (p5 &&& (3 : Int32)), .val (.long q1), .second, .val (.long q2), .second, iv 0, rv b550, .unset] [.ref b555, .long q2, .long q1, .long q3, .long q4, .null, .null, .ref b552, .ref b552])
            refine own_st (fun t k => XS.aload X555.here hx rfl (hb hby at_120) rfl rfl k) ?_
            show own_E p e below _ T555 (mkF m 122 #[.val (.long q1), .second, .val (.long q2), .second, .val (.long q3), .second, .val (.long q4), .second, iv p5, iv (p5 &&& (3 : Int32)), .val (.long q1), .second, .val (.long q2), .second, iv 0, rv b550, .unset] [.ref b550, .ref b555, .long q2, .long q1, .long q3, .long q4, .null, .null, .ref b552, .ref b552])
            refine own_st (fun t k => XS.aconstNull X555.here hx rfl (hb hby at_122) k) ?_
            show own_E p e below _ T555 (mkF m 123 #[.val (.long q1), .second, .val (.long q2), .second, .val (.long q3), .second, .val (.long q4), .second, iv p5, iv (p5 &&& (3 : Int32)), .val (.long q1), .second, .val (.long q2), .second, iv 0, rv b550, .unset] [.null, .ref b550, .ref b555, .long q2, .long q1, .long q3, .long q4, .null, .null, .ref b552, .ref b552])
            refine own_st (fun t k => XS.aconstNull X555.here hx rfl (hb hby at_123) k) ?_
            show own_E p e below _ T555 (mkF m 124 #[.val (.long q1), .second, .val (.long q2), .second, .val (.long q3), .second, .val (.long q4), .second, iv p5, iv (p5 &&& (3 : Int32)), .val (.long q1), .second, .val (.long q2), .second, iv 0, rv b550, .unset] [.null, .null, .ref b550, .ref b555, .long q2, .long q1, .long q3, .long q4, .null, .null, .ref b552, .ref b552])
            refine own_st (fun t k => XS.aconstNull X555.here hx rfl (hb hby at_124) k) ?_
            show own_E p e below _ T555 (mkF m 125 #[.val (.long q1), .second, .val (.long q2), .second, .val (.long q3), .second, .val (.long q4), .second, iv p5, iv (p5 &&& (3 : Int32)), .val (.long q1), .second, .val (.long q2), .second, iv 0, rv b550, .unset] [.null, .null, .null, .ref b550, .ref b555, .long q2, .long q1, .long q3, .long q4, .null, .null, .ref b552, .ref b552])
            refine own_st (fun t k => XS.aconstNull X555.here hx rfl (hb hby at_125) k) ?_
            show own_E p e below _ T555 (mkF m 126 #[.val (.long q1), .second, .val (.long q2), .second, .val (.long q3), .second, .val (.long q4), .second, iv p5, iv (p5 &&& (3 : Int32)), .val (.long q1), .second, .val (.long q2), .second, iv 0, rv b550, .unset] [.null, .null, .null, .null, .ref b550, .ref b555, .long q2, .long q1, .long q3, .long q4, .null, .null, .ref b552, .ref b552])
            have B558 := (A552.ext E555)
            have B559 := (F_id_b552.ext E555)
            have B560 := (F_session_b552.ext E555)
            have B561 := (F_created_b552.ext E555)
            have B562 := (F_amount_b552.ext E555)
            have B563 := (F_amountCaptured_b552.ext E555)
            have B564 := (F_amountRefunded_b552.ext E555)
            have B565 := (F_currency_b552.ext E555)
            have B566 := (F_status_b552.ext E555)
            have B567 := (F_gateway_b552.ext E555)
            have B568 := (F_card_b552.ext E555)
            have B569 := (F_approval_b552.ext E555)
            have B570 := (F_lastError_b552.ext E555)
            obtain ⟨_, _, ⟨T571, L571, k571, n571⟩, -, X571, ⟨Lc571, hQ571, l571, y571, z571⟩, st571⟩ := X555.specialBack hx (y := own_y1) rfl ho555 (mvT hZ555 (own_w hw 12 rfl)) (mvT hZ555 (own_w hw 13 rfl)) (mvT hZ555 (own_w hw 14 rfl)) (by decide) (backOf (W := 1) (own_init l Z a0 hw [] b552 b555 b550 q4 q3 q1 q2 h555 n0 Z556 B558 B559 B560 B561 B562 B563 B564 B565 B566 B567 B568 B569 B570 g_b552) hZ555 (own_w hw 14 rfl) (own_w hw 10 rfl) (by decide) (by decide)) (g := (mkF m 126 #[.val (.long q1), .second, .val (.long q2), .second, .val (.long q3), .second, .val (.long q4), .second, iv p5, iv (p5 &&& (3 : Int32)), .val (.long q1), .second, .val (.long q2), .second, iv 0, rv b550, .unset] [.null, .null, .null, .null, .ref b550, .ref b555, .long q2, .long q1, .long q3, .long q4, .null, .null, .ref b552, .ref b552])) rfl (by rw [hml]; rfl) (Steps.refl _) (a := b552) (argsL := [.null, .null, (.long q4), (.long q3), (.long q1), (.long q2), (.ref b555), (.ref b550), .null, .null, .null, .null]) (rest := [(.ref b552)]) (lenOf own_pd_3 rfl) rfl (by show 2 * 0 + _ ≤ _; exact Nat.le_of_eq rfl) (hb hby at_126) (fun _ _ => ⟨rfl, e555, (by decide : 5 + 0 ≤ _), (by decide : 64 + 0 ≤ _)⟩)
            dsimp only [Pt.U, Pt.locs, Pt.cells, Pt.slots] at X571 l571 y571 z571 st571 hQ571
            subst l571 y571 z571
            obtain ⟨rfl, Nq571, Kq571, P571_0, P571_1, P571_2⟩ := hQ571
            have N571 := Fr.app (Fr.nil n0) Nq571
            have e571 : T571.heap = T571.heap := rfl
            have Z572 := Nat.le_trans Z556 Kq571.1
            have hk573 := Nat.le_trans hk555 Kq571.1
            refine own_tr st571 ?_
            show own_E p e below _ T571 (mkF m 129 #[.val (.long q1), .second, .val (.long q2), .second, .val (.long q3), .second, .val (.long q4), .second, iv p5, iv (p5 &&& (3 : Int32)), .val (.long q1), .second, .val (.long q2), .second, iv 0, rv b550, .unset] [.ref b552])
            refine own_st (fun t k => XS.astore X571.here hx rfl (hb hby at_129) rfl rfl (l' := #[.val (.long q1), .second, .val (.long q2), .second, .val (.long q3), .second, .val (.long q4), .second, iv p5, iv (p5 &&& (3 : Int32)), .val (.long q1), .second, .val (.long q2), .second, iv 0, rv b550, rv b552]) rfl k) ?_
            show own_E p e below _ T571 (mkF m 131 #[.val (.long q1), .second, .val (.long q2), .second, .val (.long q3), .second, .val (.long q4), .second, iv p5, iv (p5 &&& (3 : Int32)), .val (.long q1), .second, .val (.long q2), .second, iv 0, rv b550, rv b552] [])
            refine own_st (fun t k => XS.aload X571.here hx rfl (hb hby at_131) rfl rfl k) ?_
            show own_E p e below _ T571 (mkF m 133 #[.val (.long q1), .second, .val (.long q2), .second, .val (.long q3), .second, .val (.long q4), .second, iv p5, iv (p5 &&& (3 : Int32)), .val (.long q1), .second, .val (.long q2), .second, iv 0, rv b550, rv b552] [.ref b552])
            obtain ⟨cq574, kq574, q574a, q574b, q574c⟩ := isOf hZ555 e571 P571_0
            obtain ⟨_, _, ⟨T574, L574, k574, n574⟩, -, X574, ⟨Lc574, hQ574, l574, y574, z574⟩, st574⟩ := X571.virtualBack hx (y := own_y2) (z := own_y2) ho555 (mvT hZ555 (own_w hw 47 rfl)) (mvT hZ555 (own_w hw 48 rfl)) (notFace_of_selects (args := #[]) (mvT hZ555 (own_w hw 50 rfl))) (mvT hZ555 (own_w hw 50 rfl)) (mvT hZ555 (own_w hw 49 rfl)) (by decide) (backOf (W := 0) (own_isref l Z a0 hw [] b552 q1 q2 T571.heap n0 Z572 P571_1 P571_2) hZ555 (own_w hw 51 rfl) (own_w hw 10 rfl) (by decide) (by decide)) q574a q574c (g := (mkF m 133 #[.val (.long q1), .second, .val (.long q2), .second, .val (.long q3), .second, .val (.long q4), .second, iv p5, iv (p5 &&& (3 : Int32)), .val (.long q1), .second, .val (.long q2), .second, iv 0, rv b550, rv b552] [.ref b552])) rfl (by rw [hml]; rfl) (Steps.refl _) (argsL := []) (rest := []) (lenOf own_pd_1 rfl) rfl (by show 2 * 0 + _ ≤ _; exact Nat.le_of_eq rfl) (hb hby at_133) (fun _ _ => ⟨rfl, e571, (by decide : 5 + 0 ≤ _), (by decide : 64 + 0 ≤ _)⟩)
            dsimp only [Pt.U, Pt.locs, Pt.cells, Pt.slots] at X574 l574 y574 z574 st574 hQ574
            subst l574 y574 z574
            obtain ⟨hR574, e574, rfl⟩ := hQ574
            have N574 := Fr.app N571 (Fr.nil n0)
            rcases hR574 with ⟨rfl, ha574_0, ha574_1⟩ | ⟨rfl, ha574_0, ha574_1⟩ | ⟨rfl, ha574_0⟩
            · exact absurd ha574_0 hc239
            · exact absurd ha574_0 hc239
            · refine own_tr st574 ?_
              show own_E p e below _ T574 (mkF m 136 #[.val (.long q1), .second, .val (.long q2), .second, .val (.long q3), .second, .val (.long q4), .second, iv p5, iv (p5 &&& (3 : Int32)), .val (.long q1), .second, .val (.long q2), .second, iv 0, rv b550, rv b552] [.int 0])
              refine own_st (fun t k => XS.iload X574.here hx rfl (hb hby at_136) rfl k) ?_
              show own_E p e below _ T574 (mkF m 138 #[.val (.long q1), .second, .val (.long q2), .second, .val (.long q3), .second, .val (.long q4), .second, iv p5, iv (p5 &&& (3 : Int32)), .val (.long q1), .second, .val (.long q2), .second, iv 0, rv b550, rv b552] [.int 0, .int 0])
              refine own_st (fun t k => XS.icmpNo X574.here hx rfl (hb hby at_138) rfl (by decide) k) ?_
              show own_E p e below _ T574 (mkF m 141 #[.val (.long q1), .second, .val (.long q2), .second, .val (.long q3), .second, .val (.long q4), .second, iv p5, iv (p5 &&& (3 : Int32)), .val (.long q1), .second, .val (.long q2), .second, iv 0, rv b550, rv b552] [])
              refine own_st (fun t k => XS.iconst X574.here hx rfl (hb hby at_141) k) ?_
              show own_E p e below _ T574 (mkF m 142 #[.val (.long q1), .second, .val (.long q2), .second, .val (.long q3), .second, .val (.long q4), .second, iv p5, iv (p5 &&& (3 : Int32)), .val (.long q1), .second, .val (.long q2), .second, iv 0, rv b550, rv b552] [.int 1])
              refine own_st (fun t k => XS.goto X574.here hx rfl (pc0 := 142) (pc' := 146) rfl (hb hby at_142) (by decide) (by decide) k) ?_
              show own_E p e below _ T574 (mkF m 146 #[.val (.long q1), .second, .val (.long q2), .second, .val (.long q3), .second, .val (.long q4), .second, iv p5, iv (p5 &&& (3 : Int32)), .val (.long q1), .second, .val (.long q2), .second, iv 0, rv b550, rv b552] [.int 1])
              refine own_retSW X574 hS555 (by rw [e574]; exact hk573) hx Bd.notSynchronized Bd.returns rfl (by decide) (hb hby at_146) (by decide) (by decide) ?_
              exact ⟨rfl, N574⟩
        · refine own_st (fun t k => XS.icmpYes X0.here hx rfl (pc0 := 72) (pc' := 79) rfl (hb hby at_72) rfl (feq hc523).2 (by decide) (by decide) k) ?_
          show own_E p e below _ s₁ (mkF m 79 #[.val (.long q1), .second, .val (.long q2), .second, .val (.long q3), .second, .val (.long q4), .second, iv p5, iv (p5 &&& (3 : Int32)), .val (.long q1), .second, .unset, .unset, .unset, .unset, .unset] [])
          refine own_st (fun t k => XS.lload X0.here hx rfl (hb hby at_79) rfl k) ?_
          show own_E p e below _ s₁ (mkF m 81 #[.val (.long q1), .second, .val (.long q2), .second, .val (.long q3), .second, .val (.long q4), .second, iv p5, iv (p5 &&& (3 : Int32)), .val (.long q1), .second, .unset, .unset, .unset, .unset, .unset] [.long q1])
          refine own_st (fun t k => XS.lstore X0.here hx rfl (hb hby at_81) rfl (l' := #[.val (.long q1), .second, .val (.long q2), .second, .val (.long q3), .second, .val (.long q4), .second, iv p5, iv (p5 &&& (3 : Int32)), .val (.long q1), .second, .val (.long q1), .second, .unset, .unset, .unset]) rfl k) ?_
          show own_E p e below _ s₁ (mkF m 83 #[.val (.long q1), .second, .val (.long q2), .second, .val (.long q3), .second, .val (.long q4), .second, iv p5, iv (p5 &&& (3 : Int32)), .val (.long q1), .second, .val (.long q1), .second, .unset, .unset, .unset] [])
          refine own_st (fun t k => XS.iconst X0.here hx rfl (hb hby at_83) k) ?_
          show own_E p e below _ s₁ (mkF m 84 #[.val (.long q1), .second, .val (.long q2), .second, .val (.long q3), .second, .val (.long q4), .second, iv p5, iv (p5 &&& (3 : Int32)), .val (.long q1), .second, .val (.long q1), .second, .unset, .unset, .unset] [.int 0])
          refine own_st (fun t k => XS.istore X0.here hx rfl (hb hby at_84) rfl (l' := #[.val (.long q1), .second, .val (.long q2), .second, .val (.long q3), .second, .val (.long q4), .second, iv p5, iv (p5 &&& (3 : Int32)), .val (.long q1), .second, .val (.long q1), .second, iv 0, .unset, .unset]) rfl k) ?_
          show own_E p e below _ s₁ (mkF m 86 #[.val (.long q1), .second, .val (.long q2), .second, .val (.long q3), .second, .val (.long q4), .second, iv p5, iv (p5 &&& (3 : Int32)), .val (.long q1), .second, .val (.long q1), .second, iv 0, .unset, .unset] [])
          refine own_st (fun t k => XS.iload X0.here hx rfl (hb hby at_86) rfl k) ?_
          show own_E p e below _ s₁ (mkF m 88 #[.val (.long q1), .second, .val (.long q2), .second, .val (.long q3), .second, .val (.long q4), .second, iv p5, iv (p5 &&& (3 : Int32)), .val (.long q1), .second, .val (.long q1), .second, iv 0, .unset, .unset] [.int p5])
          refine own_st (fun t k => XS.iconst X0.here hx rfl (hb hby at_88) k) ?_
          show own_E p e below _ s₁ (mkF m 89 #[.val (.long q1), .second, .val (.long q2), .second, .val (.long q3), .second, .val (.long q4), .second, iv p5, iv (p5 &&& (3 : Int32)), .val (.long q1), .second, .val (.long q1), .second, iv 0, .unset, .unset] [.int 2, .int p5])
          refine own_st (fun t k => XS.iushr X0.here hx rfl (hb hby at_89) rfl k) ?_
          show own_E p e below _ s₁ (mkF m 90 #[.val (.long q1), .second, .val (.long q2), .second, .val (.long q3), .second, .val (.long q4), .second, iv p5, iv (p5 &&& (3 : Int32)), .val (.long q1), .second, .val (.long q1), .second, iv 0, .unset, .unset] [.int ((p5.toUInt32 >>> ((2 : Int32) &&& 31).toUInt32).toInt32)])
          refine own_st (fun t k => XS.iconst X0.here hx rfl (hb hby at_90) k) ?_
          show own_E p e below _ s₁ (mkF m 91 #[.val (.long q1), .second, .val (.long q2), .second, .val (.long q3), .second, .val (.long q4), .second, iv p5, iv (p5 &&& (3 : Int32)), .val (.long q1), .second, .val (.long q1), .second, iv 0, .unset, .unset] [.int 1, .int ((p5.toUInt32 >>> ((2 : Int32) &&& 31).toUInt32).toInt32)])
          refine own_st (fun t k => XS.iand X0.here hx rfl (hb hby at_91) rfl k) ?_
          show own_E p e below _ s₁ (mkF m 92 #[.val (.long q1), .second, .val (.long q2), .second, .val (.long q3), .second, .val (.long q4), .second, iv p5, iv (p5 &&& (3 : Int32)), .val (.long q1), .second, .val (.long q1), .second, iv 0, .unset, .unset] [.int (((p5.toUInt32 >>> ((2 : Int32) &&& 31).toUInt32).toInt32) &&& (1 : Int32))])
          by_cases hc575 : (((p5.toUInt32 >>> ((2 : Int32) &&& 31).toUInt32).toInt32) &&& (1 : Int32)) = (0 : Int32)
          · refine own_st (fun t k => XS.ifYes X0.here hx rfl (pc0 := 92) (pc' := 100) rfl (hb hby at_92) rfl ((if0 _ _).trans (teq hc575).1) (by decide) (by decide) k) ?_
            show own_E p e below _ s₁ (mkF m 100 #[.val (.long q1), .second, .val (.long q2), .second, .val (.long q3), .second, .val (.long q4), .second, iv p5, iv (p5 &&& (3 : Int32)), .val (.long q1), .second, .val (.long q1), .second, iv 0, .unset, .unset] [])
            obtain ⟨b576, T576, h576, k576, X576, e576, E576, hS576, hk576, hZ576, ho576, st576⟩ := ldcS (s := s) (vm0 := s.vm) X0 hx hZ hown (own_w hw 0 rfl) (own_wS hw) e0 (own_since s) (Nat.zero_le _) (g := (mkF m 100 #[.val (.long q1), .second, .val (.long q2), .second, .val (.long q3), .second, .val (.long q4), .second, iv p5, iv (p5 &&& (3 : Int32)), .val (.long q1), .second, .val (.long q1), .second, iv 0, .unset, .unset] [])) rfl (hb hby at_100) (n := 24) (by decide) (by decide) (by decide) (by decide)
            have Z577 := Nat.le_trans Z0 E576.1
            refine own_st st576 ?_
            show own_E p e below _ T576 (mkF m 102 #[.val (.long q1), .second, .val (.long q2), .second, .val (.long q3), .second, .val (.long q4), .second, iv p5, iv (p5 &&& (3 : Int32)), .val (.long q1), .second, .val (.long q1), .second, iv 0, .unset, .unset] [.ref b576])
            refine own_st (fun t k => XS.astore X576.here hx rfl (hb hby at_102) rfl rfl (l' := #[.val (.long q1), .second, .val (.long q2), .second, .val (.long q3), .second, .val (.long q4), .second, iv p5, iv (p5 &&& (3 : Int32)), .val (.long q1), .second, .val (.long q1), .second, iv 0, rv b576, .unset]) rfl k) ?_
            show own_E p e below _ T576 (mkF m 104 #[.val (.long q1), .second, .val (.long q2), .second, .val (.long q3), .second, .val (.long q4), .second, iv p5, iv (p5 &&& (3 : Int32)), .val (.long q1), .second, .val (.long q1), .second, iv 0, rv b576, .unset] [])
            obtain ⟨T578, h578, X578, e578, E578, A578, D578, -, st578⟩ := newO X576 hx hZ576 ho576 (own_w hw 8 rfl) (own_w hw 9 rfl) (own_w hw 10 rfl) e576 (g := (mkF m 104 #[.val (.long q1), .second, .val (.long q2), .second, .val (.long q3), .second, .val (.long q4), .second, iv p5, iv (p5 &&& (3 : Int32)), .val (.long q1), .second, .val (.long q1), .second, iv 0, rv b576, .unset] [])) rfl (hb hby at_104) (by decide) (by decide)
            obtain ⟨b578, g578⟩ : ∃ z, z = h576.size := ⟨_, rfl⟩
            rw [← g578] at A578 D578 st578
            have g_b578 : n0 ≤ b578 := Nat.le_trans Z577 (Nat.le_of_eq g578.symm)
            have Z579 := Nat.le_trans Z577 E578.1
            have hk580 := Nat.le_trans hk576 E578.1
            have F_id_b578 : Fld Z h578 b578 "com/example/acquirer/acquirer/Payment" "id" "Ljava/lang/String;" .null := D578 (Or.inr (own_w hw 24 rfl)) (ty := (.object "java/lang/String")) (by decide)
            have F_session_b578 : Fld Z h578 b578 "com/example/acquirer/acquirer/Payment" "session" "Ljava/lang/String;" .null := D578 (Or.inr (own_w hw 26 rfl)) (ty := (.object "java/lang/String")) (by decide)
            have F_created_b578 : Fld Z h578 b578 "com/example/acquirer/acquirer/Payment" "created" "J" (.long (0 : Int64)) := D578 (Or.inr (own_w hw 28 rfl)) (ty := .long) (by decide)
            have F_amount_b578 : Fld Z h578 b578 "com/example/acquirer/acquirer/Payment" "amount" "J" (.long (0 : Int64)) := D578 (Or.inr (own_w hw 30 rfl)) (ty := .long) (by decide)
            have F_amountCaptured_b578 : Fld Z h578 b578 "com/example/acquirer/acquirer/Payment" "amountCaptured" "J" (.long (0 : Int64)) := D578 (Or.inr (own_w hw 32 rfl)) (ty := .long) (by decide)
            have F_amountRefunded_b578 : Fld Z h578 b578 "com/example/acquirer/acquirer/Payment" "amountRefunded" "J" (.long (0 : Int64)) := D578 (Or.inr (own_w hw 34 rfl)) (ty := .long) (by decide)
            have F_currency_b578 : Fld Z h578 b578 "com/example/acquirer/acquirer/Payment" "currency" "Ljava/lang/String;" .null := D578 (Or.inr (own_w hw 36 rfl)) (ty := (.object "java/lang/String")) (by decide)
            have F_status_b578 : Fld Z h578 b578 "com/example/acquirer/acquirer/Payment" "status" "Ljava/lang/String;" .null := D578 (Or.inr (own_w hw 38 rfl)) (ty := (.object "java/lang/String")) (by decide)
            have F_gateway_b578 : Fld Z h578 b578 "com/example/acquirer/acquirer/Payment" "gateway" "Ljava/lang/String;" .null := D578 (Or.inr (own_w hw 40 rfl)) (ty := (.object "java/lang/String")) (by decide)
            have F_card_b578 : Fld Z h578 b578 "com/example/acquirer/acquirer/Payment" "card" "Lcom/example/acquirer/acquirer/Card;" .null := D578 (Or.inr (own_w hw 42 rfl)) (ty := (.object "com/example/acquirer/acquirer/Card")) (by decide)
            have F_approval_b578 : Fld Z h578 b578 "com/example/acquirer/acquirer/Payment" "approval" "Lcom/example/acquirer/acquirer/Approval;" .null := D578 (Or.inr (own_w hw 44 rfl)) (ty := (.object "com/example/acquirer/acquirer/Approval")) (by decide)
            have F_lastError_b578 : Fld Z h578 b578 "com/example/acquirer/acquirer/Payment" "lastError" "Ljava/lang/String;" .null := D578 (Or.inr (own_w hw 46 rfl)) (ty := (.object "java/lang/String")) (by decide)
            refine own_st st578 ?_
            show own_E p e below _ T578 (mkF m 107 #[.val (.long q1), .second, .val (.long q2), .second, .val (.long q3), .second, .val (.long q4), .second, iv p5, iv (p5 &&& (3 : Int32)), .val (.long q1), .second, .val (.long q1), .second, iv 0, rv b576, .unset] [.ref b578])
            refine own_st (fun t k => XS.dup X578.here hx rfl (hb hby at_107) rfl rfl k) ?_
            show own_E p e below _ T578 (mkF m 108 #[.val (.long q1), .second, .val (.long q2), .second, .val (.long q3), .second, .val (.long q4), .second, iv p5, iv (p5 &&& (3 : Int32)), .val (.long q1), .second, .val (.long q1), .second, iv 0, rv b576, .unset] [.ref b578, .ref b578])
            refine own_st (fun t k => XS.aconstNull X578.here hx rfl (hb hby at_108) k) ?_
            show own_E p e below _ T578 (mkF m 109 #[.val (.long q1), .second, .val (.long q2), .second, .val (.long q3), .second, .val (.long q4), .second, iv p5, iv (p5 &&& (3 : Int32)), .val (.long q1), .second, .val (.long q1), .second, iv 0, rv b576, .unset] [.null, .ref b578, .ref b578])
            refine own_st (fun t k => XS.aconstNull X578.here hx rfl (hb hby at_109) k) ?_
            show own_E p e below _ T578 (mkF m 110 #[.val (.long q1), .second, .val (.long q2), .second, .val (.long q3), .second, .val (.long q4), .second, iv p5, iv (p5 &&& (3 : Int32)), .val (.long q1), .second, .val (.long q1), .second, iv 0, rv b576, .unset] [.null, .null, .ref b578, .ref b578])
            refine own_st (fun t k => XS.lload X578.here hx rfl (hb hby at_110) rfl k) ?_
            show own_E p e below _ T578 (mkF m 112 #[.val (.long q1), .second, .val (.long q2), .second, .val (.long q3), .second, .val (.long q4), .second, iv p5, iv (p5 &&& (3 : Int32)), .val (.long q1), .second, .val (.long q1), .second, iv 0, rv b576, .unset] [.long q4, .null, .null, .ref b578, .ref b578])
            refine own_st (fun t k => XS.lload X578.here hx rfl (hb hby at_112) rfl k) ?_
            show own_E p e below _ T578 (mkF m 114 #[.val (.long q1), .second, .val (.long q2), .second, .val (.long q3), .second, .val (.long q4), .second, iv p5, iv (p5 &&& (3 : Int32)), .val (.long q1), .second, .val (.long q1), .second, iv 0, rv b576, .unset] [.long q3, .long q4, .null, .null, .ref b578, .ref b578])
            refine own_st (fun t k => XS.lload X578.here hx rfl (hb hby at_114) rfl k) ?_
            show own_E p e below _ T578 (mkF m 116 #[.val (.long q1), .second, .val (.long q2), .second, .val (.long q3), .second, .val (.long q4), .second, iv p5, iv (p5 &&& (3 : Int32)), .val (.long q1), .second, .val (.long q1), .second, iv 0, rv b576, .unset] [.long q1, .long q3, .long q4, .null, .null, .ref b578, .ref b578])
            refine own_st (fun t k => XS.lload X578.here hx rfl (hb hby at_116) rfl k) ?_
            show own_E p e below _ T578 (mkF m 118 #[.val (.long q1), .second, .val (.long q2), .second, .val (.long q3), .second, .val (.long q4), .second, iv p5, iv (p5 &&& (3 : Int32)), .val (.long q1), .second, .val (.long q1), .second, iv 0, rv b576, .unset] [.long q1, .long q1, .long q3, .long q4, .null, .null, .ref b578, .ref b578])
            obtain ⟨b581, T581, h581, k581, X581, e581, E581, hS581, hk581, hZ581, ho581, st581⟩ := ldcS (s := s) (vm0 := T576.vm) X578 hx hZ576 ho576 (own_w hw 11 rfl) (own_wS hw) e578 hS576 hk580 (g := (mkF m 118 #[.val (.long q1), .second, .val (.long q2), .second, .val (.long q3), .second, .val (.long q4), .second, iv p5, iv (p5 &&& (3 : Int32)), .val (.long q1), .second, .val (.long q1), .second, iv 0, rv b576, .unset] [.long q1, .long q1, .long q3, .long q4, .null, .null, .ref b578, .ref b578])) rfl (hb hby at_118) (n := 12) (by decide) (by decide) (by decide) (by decide)
            have Z582 := Nat.le_trans Z579 E581.1
            have hk583 := Nat.le_trans hk580 E581.1
            refine own_st st581 ?_
            show own_E p e below _ T581 (mkF m 120 #[.val (.long q1), .second, .val (.long q2), .second, .val (.long q3), .second, .val (.long q4), .second, iv p5, iv (p5 &&& (3 : Int32)), .val (.long q1), .second, .val (.long q1), .second, iv 0, rv b576, .unset] [.ref b581, .long q1, .long q1, .long q3, .long q4, .null, .null, .ref b578, .ref b578])
            refine own_st (fun t k => XS.aload X581.here hx rfl (hb hby at_120) rfl rfl k) ?_
            show own_E p e below _ T581 (mkF m 122 #[.val (.long q1), .second, .val (.long q2), .second, .val (.long q3), .second, .val (.long q4), .second, iv p5, iv (p5 &&& (3 : Int32)), .val (.long q1), .second, .val (.long q1), .second, iv 0, rv b576, .unset] [.ref b576, .ref b581, .long q1, .long q1, .long q3, .long q4, .null, .null, .ref b578, .ref b578])
            refine own_st (fun t k => XS.aconstNull X581.here hx rfl (hb hby at_122) k) ?_
            show own_E p e below _ T581 (mkF m 123 #[.val (.long q1), .second, .val (.long q2), .second, .val (.long q3), .second, .val (.long q4), .second, iv p5, iv (p5 &&& (3 : Int32)), .val (.long q1), .second, .val (.long q1), .second, iv 0, rv b576, .unset] [.null, .ref b576, .ref b581, .long q1, .long q1, .long q3, .long q4, .null, .null, .ref b578, .ref b578])
            refine own_st (fun t k => XS.aconstNull X581.here hx rfl (hb hby at_123) k) ?_
            show own_E p e below _ T581 (mkF m 124 #[.val (.long q1), .second, .val (.long q2), .second, .val (.long q3), .second, .val (.long q4), .second, iv p5, iv (p5 &&& (3 : Int32)), .val (.long q1), .second, .val (.long q1), .second, iv 0, rv b576, .unset] [.null, .null, .ref b576, .ref b581, .long q1, .long q1, .long q3, .long q4, .null, .null, .ref b578, .ref b578])
            refine own_st (fun t k => XS.aconstNull X581.here hx rfl (hb hby at_124) k) ?_
            show own_E p e below _ T581 (mkF m 125 #[.val (.long q1), .second, .val (.long q2), .second, .val (.long q3), .second, .val (.long q4), .second, iv p5, iv (p5 &&& (3 : Int32)), .val (.long q1), .second, .val (.long q1), .second, iv 0, rv b576, .unset] [.null, .null, .null, .ref b576, .ref b581, .long q1, .long q1, .long q3, .long q4, .null, .null, .ref b578, .ref b578])
            refine own_st (fun t k => XS.aconstNull X581.here hx rfl (hb hby at_125) k) ?_
            show own_E p e below _ T581 (mkF m 126 #[.val (.long q1), .second, .val (.long q2), .second, .val (.long q3), .second, .val (.long q4), .second, iv p5, iv (p5 &&& (3 : Int32)), .val (.long q1), .second, .val (.long q1), .second, iv 0, rv b576, .unset] [.null, .null, .null, .null, .ref b576, .ref b581, .long q1, .long q1, .long q3, .long q4, .null, .null, .ref b578, .ref b578])
            have B584 := (A578.ext E581)
            have B585 := (F_id_b578.ext E581)
            have B586 := (F_session_b578.ext E581)
            have B587 := (F_created_b578.ext E581)
            have B588 := (F_amount_b578.ext E581)
            have B589 := (F_amountCaptured_b578.ext E581)
            have B590 := (F_amountRefunded_b578.ext E581)
            have B591 := (F_currency_b578.ext E581)
            have B592 := (F_status_b578.ext E581)
            have B593 := (F_gateway_b578.ext E581)
            have B594 := (F_card_b578.ext E581)
            have B595 := (F_approval_b578.ext E581)
            have B596 := (F_lastError_b578.ext E581)
            obtain ⟨_, _, ⟨T597, L597, k597, n597⟩, -, X597, ⟨Lc597, hQ597, l597, y597, z597⟩, st597⟩ := X581.specialBack hx (y := own_y1) rfl ho581 (mvT hZ581 (own_w hw 12 rfl)) (mvT hZ581 (own_w hw 13 rfl)) (mvT hZ581 (own_w hw 14 rfl)) (by decide) (backOf (W := 1) (own_init l Z a0 hw [] b578 b581 b576 q4 q3 q1 q1 h581 n0 Z582 B584 B585 B586 B587 B588 B589 B590 B591 B592 B593 B594 B595 B596 g_b578) hZ581 (own_w hw 14 rfl) (own_w hw 10 rfl) (by decide) (by decide)) (g := (mkF m 126 #[.val (.long q1), .second, .val (.long q2), .second, .val (.long q3), .second, .val (.long q4), .second, iv p5, iv (p5 &&& (3 : Int32)), .val (.long q1), .second, .val (.long q1), .second, iv 0, rv b576, .unset] [.null, .null, .null, .null, .ref b576, .ref b581, .long q1, .long q1, .long q3, .long q4, .null, .null, .ref b578, .ref b578])) rfl (by rw [hml]; rfl) (Steps.refl _) (a := b578) (argsL := [.null, .null, (.long q4), (.long q3), (.long q1), (.long q1), (.ref b581), (.ref b576), .null, .null, .null, .null]) (rest := [(.ref b578)]) (lenOf own_pd_3 rfl) rfl (by show 2 * 0 + _ ≤ _; exact Nat.le_of_eq rfl) (hb hby at_126) (fun _ _ => ⟨rfl, e581, (by decide : 5 + 0 ≤ _), (by decide : 56 + 0 ≤ _)⟩)
            dsimp only [Pt.U, Pt.locs, Pt.cells, Pt.slots] at X597 l597 y597 z597 st597 hQ597
            subst l597 y597 z597
            obtain ⟨rfl, Nq597, Kq597, P597_0, P597_1, P597_2⟩ := hQ597
            have N597 := Fr.app (Fr.nil n0) Nq597
            have e597 : T597.heap = T597.heap := rfl
            have Z598 := Nat.le_trans Z582 Kq597.1
            have hk599 := Nat.le_trans hk581 Kq597.1
            refine own_tr st597 ?_
            show own_E p e below _ T597 (mkF m 129 #[.val (.long q1), .second, .val (.long q2), .second, .val (.long q3), .second, .val (.long q4), .second, iv p5, iv (p5 &&& (3 : Int32)), .val (.long q1), .second, .val (.long q1), .second, iv 0, rv b576, .unset] [.ref b578])
            refine own_st (fun t k => XS.astore X597.here hx rfl (hb hby at_129) rfl rfl (l' := #[.val (.long q1), .second, .val (.long q2), .second, .val (.long q3), .second, .val (.long q4), .second, iv p5, iv (p5 &&& (3 : Int32)), .val (.long q1), .second, .val (.long q1), .second, iv 0, rv b576, rv b578]) rfl k) ?_
            show own_E p e below _ T597 (mkF m 131 #[.val (.long q1), .second, .val (.long q2), .second, .val (.long q3), .second, .val (.long q4), .second, iv p5, iv (p5 &&& (3 : Int32)), .val (.long q1), .second, .val (.long q1), .second, iv 0, rv b576, rv b578] [])
            refine own_st (fun t k => XS.aload X597.here hx rfl (hb hby at_131) rfl rfl k) ?_
            show own_E p e below _ T597 (mkF m 133 #[.val (.long q1), .second, .val (.long q2), .second, .val (.long q3), .second, .val (.long q4), .second, iv p5, iv (p5 &&& (3 : Int32)), .val (.long q1), .second, .val (.long q1), .second, iv 0, rv b576, rv b578] [.ref b578])
            obtain ⟨cq600, kq600, q600a, q600b, q600c⟩ := isOf hZ581 e597 P597_0
            obtain ⟨_, _, ⟨T600, L600, k600, n600⟩, -, X600, ⟨Lc600, hQ600, l600, y600, z600⟩, st600⟩ := X597.virtualBack hx (y := own_y2) (z := own_y2) ho581 (mvT hZ581 (own_w hw 47 rfl)) (mvT hZ581 (own_w hw 48 rfl)) (notFace_of_selects (args := #[]) (mvT hZ581 (own_w hw 50 rfl))) (mvT hZ581 (own_w hw 50 rfl)) (mvT hZ581 (own_w hw 49 rfl)) (by decide) (backOf (W := 0) (own_isref l Z a0 hw [] b578 q1 q1 T597.heap n0 Z598 P597_1 P597_2) hZ581 (own_w hw 51 rfl) (own_w hw 10 rfl) (by decide) (by decide)) q600a q600c (g := (mkF m 133 #[.val (.long q1), .second, .val (.long q2), .second, .val (.long q3), .second, .val (.long q4), .second, iv p5, iv (p5 &&& (3 : Int32)), .val (.long q1), .second, .val (.long q1), .second, iv 0, rv b576, rv b578] [.ref b578])) rfl (by rw [hml]; rfl) (Steps.refl _) (argsL := []) (rest := []) (lenOf own_pd_1 rfl) rfl (by show 2 * 0 + _ ≤ _; exact Nat.le_of_eq rfl) (hb hby at_133) (fun _ _ => ⟨rfl, e597, (by decide : 5 + 0 ≤ _), (by decide : 56 + 0 ≤ _)⟩)
            dsimp only [Pt.U, Pt.locs, Pt.cells, Pt.slots] at X600 l600 y600 z600 st600 hQ600
            subst l600 y600 z600
            obtain ⟨hR600, e600, rfl⟩ := hQ600
            have N600 := Fr.app N597 (Fr.nil n0)
            rcases hR600 with ⟨rfl, ha600_0, ha600_1⟩ | ⟨rfl, ha600_0, ha600_1⟩ | ⟨rfl, ha600_0⟩
            · exact absurd ha600_0 hc239
            · exact absurd ha600_0 hc239
            · refine own_tr st600 ?_
              show own_E p e below _ T600 (mkF m 136 #[.val (.long q1), .second, .val (.long q2), .second, .val (.long q3), .second, .val (.long q4), .second, iv p5, iv (p5 &&& (3 : Int32)), .val (.long q1), .second, .val (.long q1), .second, iv 0, rv b576, rv b578] [.int 0])
              refine own_st (fun t k => XS.iload X600.here hx rfl (hb hby at_136) rfl k) ?_
              show own_E p e below _ T600 (mkF m 138 #[.val (.long q1), .second, .val (.long q2), .second, .val (.long q3), .second, .val (.long q4), .second, iv p5, iv (p5 &&& (3 : Int32)), .val (.long q1), .second, .val (.long q1), .second, iv 0, rv b576, rv b578] [.int 0, .int 0])
              refine own_st (fun t k => XS.icmpNo X600.here hx rfl (hb hby at_138) rfl (by decide) k) ?_
              show own_E p e below _ T600 (mkF m 141 #[.val (.long q1), .second, .val (.long q2), .second, .val (.long q3), .second, .val (.long q4), .second, iv p5, iv (p5 &&& (3 : Int32)), .val (.long q1), .second, .val (.long q1), .second, iv 0, rv b576, rv b578] [])
              refine own_st (fun t k => XS.iconst X600.here hx rfl (hb hby at_141) k) ?_
              show own_E p e below _ T600 (mkF m 142 #[.val (.long q1), .second, .val (.long q2), .second, .val (.long q3), .second, .val (.long q4), .second, iv p5, iv (p5 &&& (3 : Int32)), .val (.long q1), .second, .val (.long q1), .second, iv 0, rv b576, rv b578] [.int 1])
              refine own_st (fun t k => XS.goto X600.here hx rfl (pc0 := 142) (pc' := 146) rfl (hb hby at_142) (by decide) (by decide) k) ?_
              show own_E p e below _ T600 (mkF m 146 #[.val (.long q1), .second, .val (.long q2), .second, .val (.long q3), .second, .val (.long q4), .second, iv p5, iv (p5 &&& (3 : Int32)), .val (.long q1), .second, .val (.long q1), .second, iv 0, rv b576, rv b578] [.int 1])
              refine own_retSW X600 hS581 (by rw [e600]; exact hk599) hx Bd.notSynchronized Bd.returns rfl (by decide) (hb hby at_146) (by decide) (by decide) ?_
              exact ⟨rfl, N600⟩
          · refine own_st (fun t k => XS.ifNo X0.here hx rfl (hb hby at_92) rfl ((if0 _ _).trans (feq hc575).1) k) ?_
            show own_E p e below _ s₁ (mkF m 95 #[.val (.long q1), .second, .val (.long q2), .second, .val (.long q3), .second, .val (.long q4), .second, iv p5, iv (p5 &&& (3 : Int32)), .val (.long q1), .second, .val (.long q1), .second, iv 0, .unset, .unset] [])
            obtain ⟨b601, T601, h601, k601, X601, e601, E601, hS601, hk601, hZ601, ho601, st601⟩ := ldcS (s := s) (vm0 := s.vm) X0 hx hZ hown (own_w hw 52 rfl) (own_wS hw) e0 (own_since s) (Nat.zero_le _) (g := (mkF m 95 #[.val (.long q1), .second, .val (.long q2), .second, .val (.long q3), .second, .val (.long q4), .second, iv p5, iv (p5 &&& (3 : Int32)), .val (.long q1), .second, .val (.long q1), .second, iv 0, .unset, .unset] [])) rfl (hb hby at_95) (n := 32) (by decide) (by decide) (by decide) (by decide)
            have Z602 := Nat.le_trans Z0 E601.1
            refine own_st st601 ?_
            show own_E p e below _ T601 (mkF m 97 #[.val (.long q1), .second, .val (.long q2), .second, .val (.long q3), .second, .val (.long q4), .second, iv p5, iv (p5 &&& (3 : Int32)), .val (.long q1), .second, .val (.long q1), .second, iv 0, .unset, .unset] [.ref b601])
            refine own_st (fun t k => XS.goto X601.here hx rfl (pc0 := 97) (pc' := 102) rfl (hb hby at_97) (by decide) (by decide) k) ?_
            show own_E p e below _ T601 (mkF m 102 #[.val (.long q1), .second, .val (.long q2), .second, .val (.long q3), .second, .val (.long q4), .second, iv p5, iv (p5 &&& (3 : Int32)), .val (.long q1), .second, .val (.long q1), .second, iv 0, .unset, .unset] [.ref b601])
            refine own_st (fun t k => XS.astore X601.here hx rfl (hb hby at_102) rfl rfl (l' := #[.val (.long q1), .second, .val (.long q2), .second, .val (.long q3), .second, .val (.long q4), .second, iv p5, iv (p5 &&& (3 : Int32)), .val (.long q1), .second, .val (.long q1), .second, iv 0, rv b601, .unset]) rfl k) ?_
            show own_E p e below _ T601 (mkF m 104 #[.val (.long q1), .second, .val (.long q2), .second, .val (.long q3), .second, .val (.long q4), .second, iv p5, iv (p5 &&& (3 : Int32)), .val (.long q1), .second, .val (.long q1), .second, iv 0, rv b601, .unset] [])
            obtain ⟨T603, h603, X603, e603, E603, A603, D603, -, st603⟩ := newO X601 hx hZ601 ho601 (own_w hw 8 rfl) (own_w hw 9 rfl) (own_w hw 10 rfl) e601 (g := (mkF m 104 #[.val (.long q1), .second, .val (.long q2), .second, .val (.long q3), .second, .val (.long q4), .second, iv p5, iv (p5 &&& (3 : Int32)), .val (.long q1), .second, .val (.long q1), .second, iv 0, rv b601, .unset] [])) rfl (hb hby at_104) (by decide) (by decide)
            obtain ⟨b603, g603⟩ : ∃ z, z = h601.size := ⟨_, rfl⟩
            rw [← g603] at A603 D603 st603
            have g_b603 : n0 ≤ b603 := Nat.le_trans Z602 (Nat.le_of_eq g603.symm)
            have Z604 := Nat.le_trans Z602 E603.1
            have hk605 := Nat.le_trans hk601 E603.1
            have F_id_b603 : Fld Z h603 b603 "com/example/acquirer/acquirer/Payment" "id" "Ljava/lang/String;" .null := D603 (Or.inr (own_w hw 24 rfl)) (ty := (.object "java/lang/String")) (by decide)
            have F_session_b603 : Fld Z h603 b603 "com/example/acquirer/acquirer/Payment" "session" "Ljava/lang/String;" .null := D603 (Or.inr (own_w hw 26 rfl)) (ty := (.object "java/lang/String")) (by decide)
            have F_created_b603 : Fld Z h603 b603 "com/example/acquirer/acquirer/Payment" "created" "J" (.long (0 : Int64)) := D603 (Or.inr (own_w hw 28 rfl)) (ty := .long) (by decide)
            have F_amount_b603 : Fld Z h603 b603 "com/example/acquirer/acquirer/Payment" "amount" "J" (.long (0 : Int64)) := D603 (Or.inr (own_w hw 30 rfl)) (ty := .long) (by decide)
            have F_amountCaptured_b603 : Fld Z h603 b603 "com/example/acquirer/acquirer/Payment" "amountCaptured" "J" (.long (0 : Int64)) := D603 (Or.inr (own_w hw 32 rfl)) (ty := .long) (by decide)
            have F_amountRefunded_b603 : Fld Z h603 b603 "com/example/acquirer/acquirer/Payment" "amountRefunded" "J" (.long (0 : Int64)) := D603 (Or.inr (own_w hw 34 rfl)) (ty := .long) (by decide)
            have F_currency_b603 : Fld Z h603 b603 "com/example/acquirer/acquirer/Payment" "currency" "Ljava/lang/String;" .null := D603 (Or.inr (own_w hw 36 rfl)) (ty := (.object "java/lang/String")) (by decide)
            have F_status_b603 : Fld Z h603 b603 "com/example/acquirer/acquirer/Payment" "status" "Ljava/lang/String;" .null := D603 (Or.inr (own_w hw 38 rfl)) (ty := (.object "java/lang/String")) (by decide)
            have F_gateway_b603 : Fld Z h603 b603 "com/example/acquirer/acquirer/Payment" "gateway" "Ljava/lang/String;" .null := D603 (Or.inr (own_w hw 40 rfl)) (ty := (.object "java/lang/String")) (by decide)
            have F_card_b603 : Fld Z h603 b603 "com/example/acquirer/acquirer/Payment" "card" "Lcom/example/acquirer/acquirer/Card;" .null := D603 (Or.inr (own_w hw 42 rfl)) (ty := (.object "com/example/acquirer/acquirer/Card")) (by decide)
            have F_approval_b603 : Fld Z h603 b603 "com/example/acquirer/acquirer/Payment" "approval" "Lcom/example/acquirer/acquirer/Approval;" .null := D603 (Or.inr (own_w hw 44 rfl)) (ty := (.object "com/example/acquirer/acquirer/Approval")) (by decide)
            have F_lastError_b603 : Fld Z h603 b603 "com/example/acquirer/acquirer/Payment" "lastError" "Ljava/lang/String;" .null := D603 (Or.inr (own_w hw 46 rfl)) (ty := (.object "java/lang/String")) (by decide)
            refine own_st st603 ?_
            show own_E p e below _ T603 (mkF m 107 #[.val (.long q1), .second, .val (.long q2), .second, .val (.long q3), .second, .val (.long q4), .second, iv p5, iv (p5 &&& (3 : Int32)), .val (.long q1), .second, .val (.long q1), .second, iv 0, rv b601, .unset] [.ref b603])
            refine own_st (fun t k => XS.dup X603.here hx rfl (hb hby at_107) rfl rfl k) ?_
            show own_E p e below _ T603 (mkF m 108 #[.val (.long q1), .second, .val (.long q2), .second, .val (.long q3), .second, .val (.long q4), .second, iv p5, iv (p5 &&& (3 : Int32)), .val (.long q1), .second, .val (.long q1), .second, iv 0, rv b601, .unset] [.ref b603, .ref b603])
            refine own_st (fun t k => XS.aconstNull X603.here hx rfl (hb hby at_108) k) ?_
            show own_E p e below _ T603 (mkF m 109 #[.val (.long q1), .second, .val (.long q2), .second, .val (.long q3), .second, .val (.long q4), .second, iv p5, iv (p5 &&& (3 : Int32)), .val (.long q1), .second, .val (.long q1), .second, iv 0, rv b601, .unset] [.null, .ref b603, .ref b603])
            refine own_st (fun t k => XS.aconstNull X603.here hx rfl (hb hby at_109) k) ?_
            show own_E p e below _ T603 (mkF m 110 #[.val (.long q1), .second, .val (.long q2), .second, .val (.long q3), .second, .val (.long q4), .second, iv p5, iv (p5 &&& (3 : Int32)), .val (.long q1), .second, .val (.long q1), .second, iv 0, rv b601, .unset] [.null, .null, .ref b603, .ref b603])
            refine own_st (fun t k => XS.lload X603.here hx rfl (hb hby at_110) rfl k) ?_
            show own_E p e below _ T603 (mkF m 112 #[.val (.long q1), .second, .val (.long q2), .second, .val (.long q3), .second, .val (.long q4), .second, iv p5, iv (p5 &&& (3 : Int32)), .val (.long q1), .second, .val (.long q1), .second, iv 0, rv b601, .unset] [.long q4, .null, .null, .ref b603, .ref b603])
            refine own_st (fun t k => XS.lload X603.here hx rfl (hb hby at_112) rfl k) ?_
            show own_E p e below _ T603 (mkF m 114 #[.val (.long q1), .second, .val (.long q2), .second, .val (.long q3), .second, .val (.long q4), .second, iv p5, iv (p5 &&& (3 : Int32)), .val (.long q1), .second, .val (.long q1), .second, iv 0, rv b601, .unset] [.long q3, .long q4, .null, .null, .ref b603, .ref b603])
            refine own_st (fun t k => XS.lload X603.here hx rfl (hb hby at_114) rfl k) ?_
            show own_E p e below _ T603 (mkF m 116 #[.val (.long q1), .second, .val (.long q2), .second, .val (.long q3), .second, .val (.long q4), .second, iv p5, iv (p5 &&& (3 : Int32)), .val (.long q1), .second, .val (.long q1), .second, iv 0, rv b601, .unset] [.long q1, .long q3, .long q4, .null, .null, .ref b603, .ref b603])
            refine own_st (fun t k => XS.lload X603.here hx rfl (hb hby at_116) rfl k) ?_
            show own_E p e below _ T603 (mkF m 118 #[.val (.long q1), .second, .val (.long q2), .second, .val (.long q3), .second, .val (.long q4), .second, iv p5, iv (p5 &&& (3 : Int32)), .val (.long q1), .second, .val (.long q1), .second, iv 0, rv b601, .unset] [.long q1, .long q1, .long q3, .long q4, .null, .null, .ref b603, .ref b603])
            obtain ⟨b606, T606, h606, k606, X606, e606, E606, hS606, hk606, hZ606, ho606, st606⟩ := ldcS (s := s) (vm0 := T601.vm) X603 hx hZ601 ho601 (own_w hw 11 rfl) (own_wS hw) e603 hS601 hk605 (g := (mkF m 118 #[.val (.long q1), .second, .val (.long q2), .second, .val (.long q3), .second, .val (.long q4), .second, iv p5, iv (p5 &&& (3 : Int32)), .val (.long q1), .second, .val (.long q1), .second, iv 0, rv b601, .unset] [.long q1, .long q1, .long q3, .long q4, .null, .null, .ref b603, .ref b603])) rfl (hb hby at_118) (n := 12) (by decide) (by decide) (by decide) (by decide)
            have Z607 := Nat.le_trans Z604 E606.1
            have hk608 := Nat.le_trans hk605 E606.1
            refine own_st st606 ?_
            show own_E p e below _ T606 (mkF m 120 #[.val (.long q1), .second, .val (.long q2), .second, .val (.long q3), .second, .val (.long q4), .second, iv p5, iv (p5 &&& (3 : Int32)), .val (.long q1), .second, .val (.long q1), .second, iv 0, rv b601, .unset] [.ref b606, .long q1, .long q1, .long q3, .long q4, .null, .null, .ref b603, .ref b603])
            refine own_st (fun t k => XS.aload X606.here hx rfl (hb hby at_120) rfl rfl k) ?_
            show own_E p e below _ T606 (mkF m 122 #[.val (.long q1), .second, .val (.long q2), .second, .val (.long q3), .second, .val (.long q4), .second, iv p5, iv (p5 &&& (3 : Int32)), .val (.long q1), .second, .val (.long q1), .second, iv 0, rv b601, .unset] [.ref b601, .ref b606, .long q1, .long q1, .long q3, .long q4, .null, .null, .ref b603, .ref b603])
            refine own_st (fun t k => XS.aconstNull X606.here hx rfl (hb hby at_122) k) ?_
            show own_E p e below _ T606 (mkF m 123 #[.val (.long q1), .second, .val (.long q2), .second, .val (.long q3), .second, .val (.long q4), .second, iv p5, iv (p5 &&& (3 : Int32)), .val (.long q1), .second, .val (.long q1), .second, iv 0, rv b601, .unset] [.null, .ref b601, .ref b606, .long q1, .long q1, .long q3, .long q4, .null, .null, .ref b603, .ref b603])
            refine own_st (fun t k => XS.aconstNull X606.here hx rfl (hb hby at_123) k) ?_
            show own_E p e below _ T606 (mkF m 124 #[.val (.long q1), .second, .val (.long q2), .second, .val (.long q3), .second, .val (.long q4), .second, iv p5, iv (p5 &&& (3 : Int32)), .val (.long q1), .second, .val (.long q1), .second, iv 0, rv b601, .unset] [.null, .null, .ref b601, .ref b606, .long q1, .long q1, .long q3, .long q4, .null, .null, .ref b603, .ref b603])
            refine own_st (fun t k => XS.aconstNull X606.here hx rfl (hb hby at_124) k) ?_
            show own_E p e below _ T606 (mkF m 125 #[.val (.long q1), .second, .val (.long q2), .second, .val (.long q3), .second, .val (.long q4), .second, iv p5, iv (p5 &&& (3 : Int32)), .val (.long q1), .second, .val (.long q1), .second, iv 0, rv b601, .unset] [.null, .null, .null, .ref b601, .ref b606, .long q1, .long q1, .long q3, .long q4, .null, .null, .ref b603, .ref b603])
            refine own_st (fun t k => XS.aconstNull X606.here hx rfl (hb hby at_125) k) ?_
            show own_E p e below _ T606 (mkF m 126 #[.val (.long q1), .second, .val (.long q2), .second, .val (.long q3), .second, .val (.long q4), .second, iv p5, iv (p5 &&& (3 : Int32)), .val (.long q1), .second, .val (.long q1), .second, iv 0, rv b601, .unset] [.null, .null, .null, .null, .ref b601, .ref b606, .long q1, .long q1, .long q3, .long q4, .null, .null, .ref b603, .ref b603])
            have B609 := (A603.ext E606)
            have B610 := (F_id_b603.ext E606)
            have B611 := (F_session_b603.ext E606)
            have B612 := (F_created_b603.ext E606)
            have B613 := (F_amount_b603.ext E606)
            have B614 := (F_amountCaptured_b603.ext E606)
            have B615 := (F_amountRefunded_b603.ext E606)
            have B616 := (F_currency_b603.ext E606)
            have B617 := (F_status_b603.ext E606)
            have B618 := (F_gateway_b603.ext E606)
            have B619 := (F_card_b603.ext E606)
            have B620 := (F_approval_b603.ext E606)
            have B621 := (F_lastError_b603.ext E606)
            obtain ⟨_, _, ⟨T622, L622, k622, n622⟩, -, X622, ⟨Lc622, hQ622, l622, y622, z622⟩, st622⟩ := X606.specialBack hx (y := own_y1) rfl ho606 (mvT hZ606 (own_w hw 12 rfl)) (mvT hZ606 (own_w hw 13 rfl)) (mvT hZ606 (own_w hw 14 rfl)) (by decide) (backOf (W := 1) (own_init l Z a0 hw [] b603 b606 b601 q4 q3 q1 q1 h606 n0 Z607 B609 B610 B611 B612 B613 B614 B615 B616 B617 B618 B619 B620 B621 g_b603) hZ606 (own_w hw 14 rfl) (own_w hw 10 rfl) (by decide) (by decide)) (g := (mkF m 126 #[.val (.long q1), .second, .val (.long q2), .second, .val (.long q3), .second, .val (.long q4), .second, iv p5, iv (p5 &&& (3 : Int32)), .val (.long q1), .second, .val (.long q1), .second, iv 0, rv b601, .unset] [.null, .null, .null, .null, .ref b601, .ref b606, .long q1, .long q1, .long q3, .long q4, .null, .null, .ref b603, .ref b603])) rfl (by rw [hml]; rfl) (Steps.refl _) (a := b603) (argsL := [.null, .null, (.long q4), (.long q3), (.long q1), (.long q1), (.ref b606), (.ref b601), .null, .null, .null, .null]) (rest := [(.ref b603)]) (lenOf own_pd_3 rfl) rfl (by show 2 * 0 + _ ≤ _; exact Nat.le_of_eq rfl) (hb hby at_126) (fun _ _ => ⟨rfl, e606, (by decide : 5 + 0 ≤ _), (by decide : 64 + 0 ≤ _)⟩)
            dsimp only [Pt.U, Pt.locs, Pt.cells, Pt.slots] at X622 l622 y622 z622 st622 hQ622
            subst l622 y622 z622
            obtain ⟨rfl, Nq622, Kq622, P622_0, P622_1, P622_2⟩ := hQ622
            have N622 := Fr.app (Fr.nil n0) Nq622
            have e622 : T622.heap = T622.heap := rfl
            have Z623 := Nat.le_trans Z607 Kq622.1
            have hk624 := Nat.le_trans hk606 Kq622.1
            refine own_tr st622 ?_
            show own_E p e below _ T622 (mkF m 129 #[.val (.long q1), .second, .val (.long q2), .second, .val (.long q3), .second, .val (.long q4), .second, iv p5, iv (p5 &&& (3 : Int32)), .val (.long q1), .second, .val (.long q1), .second, iv 0, rv b601, .unset] [.ref b603])
            refine own_st (fun t k => XS.astore X622.here hx rfl (hb hby at_129) rfl rfl (l' := #[.val (.long q1), .second, .val (.long q2), .second, .val (.long q3), .second, .val (.long q4), .second, iv p5, iv (p5 &&& (3 : Int32)), .val (.long q1), .second, .val (.long q1), .second, iv 0, rv b601, rv b603]) rfl k) ?_
            show own_E p e below _ T622 (mkF m 131 #[.val (.long q1), .second, .val (.long q2), .second, .val (.long q3), .second, .val (.long q4), .second, iv p5, iv (p5 &&& (3 : Int32)), .val (.long q1), .second, .val (.long q1), .second, iv 0, rv b601, rv b603] [])
            refine own_st (fun t k => XS.aload X622.here hx rfl (hb hby at_131) rfl rfl k) ?_
            show own_E p e below _ T622 (mkF m 133 #[.val (.long q1), .second, .val (.long q2), .second, .val (.long q3), .second, .val (.long q4), .second, iv p5, iv (p5 &&& (3 : Int32)), .val (.long q1), .second, .val (.long q1), .second, iv 0, rv b601, rv b603] [.ref b603])
            obtain ⟨cq625, kq625, q625a, q625b, q625c⟩ := isOf hZ606 e622 P622_0
            obtain ⟨_, _, ⟨T625, L625, k625, n625⟩, -, X625, ⟨Lc625, hQ625, l625, y625, z625⟩, st625⟩ := X622.virtualBack hx (y := own_y2) (z := own_y2) ho606 (mvT hZ606 (own_w hw 47 rfl)) (mvT hZ606 (own_w hw 48 rfl)) (notFace_of_selects (args := #[]) (mvT hZ606 (own_w hw 50 rfl))) (mvT hZ606 (own_w hw 50 rfl)) (mvT hZ606 (own_w hw 49 rfl)) (by decide) (backOf (W := 0) (own_isref l Z a0 hw [] b603 q1 q1 T622.heap n0 Z623 P622_1 P622_2) hZ606 (own_w hw 51 rfl) (own_w hw 10 rfl) (by decide) (by decide)) q625a q625c (g := (mkF m 133 #[.val (.long q1), .second, .val (.long q2), .second, .val (.long q3), .second, .val (.long q4), .second, iv p5, iv (p5 &&& (3 : Int32)), .val (.long q1), .second, .val (.long q1), .second, iv 0, rv b601, rv b603] [.ref b603])) rfl (by rw [hml]; rfl) (Steps.refl _) (argsL := []) (rest := []) (lenOf own_pd_1 rfl) rfl (by show 2 * 0 + _ ≤ _; exact Nat.le_of_eq rfl) (hb hby at_133) (fun _ _ => ⟨rfl, e622, (by decide : 5 + 0 ≤ _), (by decide : 64 + 0 ≤ _)⟩)
            dsimp only [Pt.U, Pt.locs, Pt.cells, Pt.slots] at X625 l625 y625 z625 st625 hQ625
            subst l625 y625 z625
            obtain ⟨hR625, e625, rfl⟩ := hQ625
            have N625 := Fr.app N622 (Fr.nil n0)
            rcases hR625 with ⟨rfl, ha625_0, ha625_1⟩ | ⟨rfl, ha625_0, ha625_1⟩ | ⟨rfl, ha625_0⟩
            · exact absurd ha625_0 hc239
            · exact absurd ha625_0 hc239
            · refine own_tr st625 ?_
              show own_E p e below _ T625 (mkF m 136 #[.val (.long q1), .second, .val (.long q2), .second, .val (.long q3), .second, .val (.long q4), .second, iv p5, iv (p5 &&& (3 : Int32)), .val (.long q1), .second, .val (.long q1), .second, iv 0, rv b601, rv b603] [.int 0])
              refine own_st (fun t k => XS.iload X625.here hx rfl (hb hby at_136) rfl k) ?_
              show own_E p e below _ T625 (mkF m 138 #[.val (.long q1), .second, .val (.long q2), .second, .val (.long q3), .second, .val (.long q4), .second, iv p5, iv (p5 &&& (3 : Int32)), .val (.long q1), .second, .val (.long q1), .second, iv 0, rv b601, rv b603] [.int 0, .int 0])
              refine own_st (fun t k => XS.icmpNo X625.here hx rfl (hb hby at_138) rfl (by decide) k) ?_
              show own_E p e below _ T625 (mkF m 141 #[.val (.long q1), .second, .val (.long q2), .second, .val (.long q3), .second, .val (.long q4), .second, iv p5, iv (p5 &&& (3 : Int32)), .val (.long q1), .second, .val (.long q1), .second, iv 0, rv b601, rv b603] [])
              refine own_st (fun t k => XS.iconst X625.here hx rfl (hb hby at_141) k) ?_
              show own_E p e below _ T625 (mkF m 142 #[.val (.long q1), .second, .val (.long q2), .second, .val (.long q3), .second, .val (.long q4), .second, iv p5, iv (p5 &&& (3 : Int32)), .val (.long q1), .second, .val (.long q1), .second, iv 0, rv b601, rv b603] [.int 1])
              refine own_st (fun t k => XS.goto X625.here hx rfl (pc0 := 142) (pc' := 146) rfl (hb hby at_142) (by decide) (by decide) k) ?_
              show own_E p e below _ T625 (mkF m 146 #[.val (.long q1), .second, .val (.long q2), .second, .val (.long q3), .second, .val (.long q4), .second, iv p5, iv (p5 &&& (3 : Int32)), .val (.long q1), .second, .val (.long q1), .second, iv 0, rv b601, rv b603] [.int 1])
              refine own_retSW X625 hS606 (by rw [e625]; exact hk624) hx Bd.notSynchronized Bd.returns rfl (by decide) (hb hby at_146) (by decide) (by decide) ?_
              exact ⟨rfl, N625⟩
set_option maxRecDepth 65536 in
set_option maxHeartbeats 40000000 in
theorem comes_1 {Post : Tables → Env → Array Value → State → Outcome → State → Prop} (hpost : ∀ tb e args s v u, (limb_1_1.after args s (.returned v) u = true ∧ limb_1_2.after args s (.returned v) u = true ∧ True) → Jvm.ReturnedEndW s (.returned v) u (Jvm.fieldLocs frame_1_writes args s ++ Jvm.arrayLocs frame_1_arrays args s ++ Jvm.staticLocs frame_1_statics s) 16 3200 → Post tb e args s (.returned v) u) :
    ArmFor flags0 classFile x code maxLocals ret World_1 tables_1 room_1 Calls_1 rest_1 Pre_1 Post := by
  intro l hfl _ _ p e ha hc hk s m args below hf hA hF happ hP
  obtain ⟨hcalls, hrest, hpre⟩ := hP
  obtain ⟨-, -, -, hnamed, -, -, -, hat⟩ := (Spec.applies_iff hf).mp happ
  obtain ⟨hg, hn⟩ := and_e (Cond.before_iff.mp (show (Jvm.Cond.and given_1 narrow_1).before args s = true from hpre))
  obtain ⟨hg0, hg1⟩ := and_e hg
  obtain ⟨hv0, hg2⟩ := and_e hg1
  obtain ⟨hv1, hg3⟩ := and_e hg2
  obtain ⟨hv2, hg4⟩ := and_e hg3
  obtain ⟨hv3, hg5⟩ := and_e hg4
  have hv4 := hg5
  obtain ⟨w0, w1, w2, w3, w4, rfl⟩ : ∃ w0 w1 w2 w3 w4 : Value, args = #[w0, w1, w2, w3, w4] := by
    have hs : args.size = 5 := by simpa [Cond.value, given_1] using hg0
    obtain ⟨L⟩ := args
    match L, hs with
    | [w0, w1, w2, w3, w4], _ => exact ⟨w0, w1, w2, w3, w4, rfl⟩
  have hw := fun d (hd : d ∈ tables_1) => atoms_spec (ws := Jvm.Cond.code x code maxLocals ret :: tables_1) hat d (List.mem_cons_of_mem _ hd)
  have hfit : Fit s := fun {y c} hc i hi => by
    obtain ⟨ha, rfl⟩ := Array.getElem?_eq_some_iff.mp hc
    have q := List.all_eq_true.mp ((Array.all_eq_true_iff_forall_mem.mp hF) _ (Array.getElem_mem ha)) i (List.mem_range.mpr hi)
    simpa [Array.getElem?_eq_getElem hi] using q
  obtain ⟨i0, ev0⟩ := isL_v hv0
  obtain rfl : w0 = (.long i0) := Option.some.inj ev0
  obtain ⟨i1, ev1⟩ := isL_v hv1
  obtain rfl : w1 = (.long i1) := Option.some.inj ev1
  obtain ⟨i2, ev2⟩ := isL_v hv2
  obtain rfl : w2 = (.long i2) := Option.some.inj ev2
  obtain ⟨i3, ev3⟩ := isL_v hv3
  obtain rfl : w3 = (.long i3) := Option.some.inj ev3
  obtain ⟨i4, ev4⟩ := is_v hv4
  obtain rfl : w4 = (.int i4) := Option.some.inj ev4
  obtain ⟨n, o, h1, h2, h3, _, L, rfl, ⟨rfl, N⟩, hq⟩ := own_law l s _ hw tables_1 i0 i1 i2 i3 i4 s.heap s.heap.size (Nat.le_refl _)  p e ha hc hk s m _ below hf ((Spec.applies_iff_loose hf).mp happ).1 ⟨rfl, State.Warmed39.refl s, rfl⟩ trivial
  refine ⟨n, _, h1, h2, h3, hpost _ _ _ _ _ _ ⟨Cond.after_iff.mpr rfl, Cond.after_iff.mpr (eq_i res_at (Term.int_eval (1)) rfl), trivial⟩ ⟨hq.1, hq.2.1, hq.2.2.1, (hq.2.2.2.sift fun y hy => Or.inr (N y hy)).mono (by decide) (by decide)⟩⟩
theorem main_1_1 : Claimed_1_1 := comes_1 fun _ _ _ _ _ _ h hF => ⟨h.1, hF⟩
theorem main_1_2 : Claimed_1_2 := comes_1 fun _ _ _ _ _ _ h hF => ⟨h.2.1, hF⟩
end Jvm.Pilot.@@N@@
namespace Jvm.Pilot.@@N@@
open Jvm Jvm.ClassFile Sem Op Lib Jvm.Free Jvm.Stand Jvm.Pilot.@@N@@.Jvm.D
/-! MADE BY PROGRAM (witnessworld.py) out of the Statement's table words and the real class files: 15 classes; the members and pool entries that the words name. The judged class is class 1, her method 1. -/
namespace start1
open Jvm.ClassFile
def u (s : String) : CpInfo := .utf8 (stringToUtf16 s)
/-- a pool by its gaps: so many unusable entries, then the entry; so many at the end -/
def gap : Nat → List CpInfo → List CpInfo
  | 0, r => r
  | n + 1, r => .unusable :: gap n r
def poolList (es : List (Nat × CpInfo)) (last : Nat) : List CpInfo := es.foldr (fun e r => gap e.1 (e.2 :: r)) (gap last [])
def pool (es : List (Nat × CpInfo)) (last : Nat) : Array CpInfo := ⟨poolList es last⟩
def fileOf (pool : Array CpInfo) (this : Nat) (attrs : Array Attribute := #[]) (ms : Array MethodInfo := #[]) (fl : Nat := 33) (sup : Nat := 0) (ifs : Array Nat := #[]) (fds : Array FieldInfo := #[]) : ClassFile where
  minorVersion := 0
  majorVersion := 65
  constantPool := pool
  accessFlags := fl
  thisClass := this
  superClass := sup
  interfaces := ifs
  fields := fds
  methods := ms
  attributes := attrs
def plain (name : String) (sup : Option ClassId) : Class where
  name := name
  kind := .ordinary
  loader := none
  accessFlags := 33
  super := sup
  interfaces := #[]
  cf := none
  fields := #[]
  methods := #[]
  instanceTypes := #[]
  staticTypes := #[]
  resolved := #[]
  callSites := []
  init := .initialized
  statics := none
  mirror := none

def pool0 : Array CpInfo := pool [(5, u "<init>"), (0, u "()V"), (1, .class_ 10), (1, u "java/lang/Object")] 113

def k0c0 : Code := { maxStack := 0, maxLocals := 1, code := object_method_1_code, exceptionTable := #[], attributes := #[] }
def k0m0 : Method := { name := "<init>", desc := "()V", sig := { parameters := [], returnType := none }, accessFlags := 1, code := some k0c0 }
/-- java/lang/Object -/
def k0 : Class := { plain "java/lang/Object" none with
  accessFlags := 33
  interfaces := #[]
  cf := some (fileOf pool0 8 #[] #[{ accessFlags := 1, nameIndex := 5, descriptorIndex := 6, attributes := #[] }] 33 0 #[] #[])
  fields := #[]
  methods := #[k0m0]
  instanceTypes := #[]
  staticTypes := #[]
  resolved := Array.replicate 124 none
  statics := none }

def pool1 : Array CpInfo := pool [(2, .class_ 4), (1, u "java/lang/Object"), (0, u "<init>"), (0, u "()V"), (0, .class_ 8), (0, u "com/example/acquirer/acquirer/Payment"), (0, .string 10), (0, u "captured"), (0, .string 12), (0, u "failed"), (0, .string 14), (0, u "EUR"), (0, .methodref 7 16), (0, .nameAndType 5 17), (0, u "(Ljava/lang/String;Ljava/lang/String;JJJJLjava/lang/String;Ljava/lang/String;Ljava/lang/String;Lcom/example/acquirer/acquirer/Card;Lcom/example/acquirer/acquirer/Approval;Ljava/lang/String;)V"), (0, .methodref 7 19), (0, .nameAndType 20 21), (0, u "isRefunded"), (0, u "()Z"), (0, .class_ 23), (0, u "com/example/acquirer/acquirer/PaymentIsRefundedPinLaw"), (2, u "law"), (0, u "(JJJJI)Z")] 5

def k1m0 : Method := { name := "<init>", desc := "()V", sig := { parameters := [], returnType := none }, accessFlags := 1, code := none }
def k1c1 : Code := { maxStack := 18, maxLocals := 17, code := code, exceptionTable := #[], attributes := #[] }
def k1m1 : Method := { name := "law", desc := "(JJJJI)Z", sig := { parameters := [.long, .long, .long, .long, .int], returnType := some .boolean }, accessFlags := 9, code := some k1c1 }
/-- com/example/acquirer/acquirer/PaymentIsRefundedPinLaw -/
def k1 : Class := { plain "com/example/acquirer/acquirer/PaymentIsRefundedPinLaw" (some 0) with
  accessFlags := 49
  interfaces := #[]
  cf := some (fileOf pool1 22 #[] #[{ accessFlags := 1, nameIndex := 5, descriptorIndex := 6, attributes := #[] }, { accessFlags := 9, nameIndex := 26, descriptorIndex := 27, attributes := #[] }] 49 2 #[] #[])
  fields := #[]
  methods := #[k1m0, k1m1]
  instanceTypes := #[]
  staticTypes := #[]
  resolved := Array.replicate 33 none
  statics := none }

def pool2 : Array CpInfo := pool [(1, .class_ 2), (0, u "java/io/Serializable"), (0, .class_ 4), (0, u "java/lang/Object")] 2

/-- java/io/Serializable -/
def k2 : Class := { plain "java/io/Serializable" (some 0) with
  accessFlags := 1537
  interfaces := #[]
  cf := some (fileOf pool2 1 #[] #[] 1537 3 #[] #[])
  fields := #[]
  methods := #[]
  instanceTypes := #[]
  staticTypes := #[]
  resolved := Array.replicate 7 none
  statics := none }

def pool3 : Array CpInfo := pool [(1, .class_ 2), (0, u "java/lang/Comparable"), (0, .class_ 4), (0, u "java/lang/Object")] 7

/-- java/lang/Comparable -/
def k3 : Class := { plain "java/lang/Comparable" (some 0) with
  accessFlags := 1537
  interfaces := #[]
  cf := some (fileOf pool3 1 #[] #[] 1537 3 #[] #[])
  fields := #[]
  methods := #[]
  instanceTypes := #[]
  staticTypes := #[]
  resolved := Array.replicate 12 none
  statics := none }

def pool4 : Array CpInfo := pool [(2, .class_ 4), (1, u "java/lang/CharSequence"), (42, .class_ 48), (0, u "java/lang/CharSequence$1CodePointIterator"), (10, .class_ 60), (0, u "java/lang/CharSequence$1CharIterator"), (5, .class_ 67), (0, u "java/lang/Object")] 63

/-- java/lang/CharSequence -/
def k4 : Class := { plain "java/lang/CharSequence" (some 0) with
  accessFlags := 1537
  interfaces := #[]
  cf := some (fileOf pool4 2 #[.nestMembers #[47, 59]] #[] 1537 66 #[] #[])
  fields := #[]
  methods := #[]
  instanceTypes := #[]
  staticTypes := #[]
  resolved := Array.replicate 131 none
  statics := none }

def pool5 : Array CpInfo := pool [(1, .class_ 2), (0, u "java/lang/constant/Constable"), (0, .class_ 4), (0, u "java/lang/Object")] 6

/-- java/lang/constant/Constable -/
def k5 : Class := { plain "java/lang/constant/Constable" (some 0) with
  accessFlags := 1537
  interfaces := #[]
  cf := some (fileOf pool5 1 #[] #[] 1537 3 #[] #[])
  fields := #[]
  methods := #[]
  instanceTypes := #[]
  staticTypes := #[]
  resolved := Array.replicate 11 none
  statics := none }

def pool6 : Array CpInfo := pool [(1, .class_ 2), (0, u "java/lang/constant/ConstantDesc"), (0, .class_ 4), (0, u "java/lang/Object")] 32

/-- java/lang/constant/ConstantDesc -/
def k6 : Class := { plain "java/lang/constant/ConstantDesc" (some 0) with
  accessFlags := 1537
  interfaces := #[]
  cf := some (fileOf pool6 1 #[] #[] 1537 3 #[] #[])
  fields := #[]
  methods := #[]
  instanceTypes := #[]
  staticTypes := #[]
  resolved := Array.replicate 37 none
  statics := none }

def pool7 : Array CpInfo := pool [(2, .class_ 4), (1, u "java/lang/Object"), (0, u "<init>"), (0, u "()V"), (3, .class_ 12), (1, u "java/lang/String"), (0, u "value"), (0, u "[B"), (2, u "coder"), (0, u "B"), (2, u "hash"), (0, u "I"), (2, u "hashIsZero"), (0, u "Z"), (13, u "COMPACT_STRINGS"), (534, .class_ 576), (0, u "java/lang/CharSequence"), (22, u "CASE_INSENSITIVE_ORDER"), (0, u "Ljava/util/Comparator;"), (500, u "serialPersistentFields"), (0, u "[Ljava/io/ObjectStreamField;"), (0, .class_ 1104), (0, u "java/lang/String$CaseInsensitiveComparator"), (1, .class_ 1107), (0, u "java/io/Serializable"), (0, .class_ 1109), (0, u "java/lang/Comparable"), (0, .class_ 1111), (0, u "java/lang/constant/Constable"), (0, .class_ 1113), (0, u "java/lang/constant/ConstantDesc"), (2, u "serialVersionUID"), (0, u "J"), (3, u "REPL"), (0, u "C"), (2, u "LATIN1"), (1, u "UTF16")] 323

def k7m0 : Method := { name := "<init>", desc := "()V", sig := { parameters := [], returnType := none }, accessFlags := 1, code := none }
/-- java/lang/String -/
def k7 : Class := { plain "java/lang/String" (some 0) with
  accessFlags := 49
  interfaces := #[2, 3, 4, 5, 6]
  cf := some (fileOf pool7 10 #[.nestMembers #[1103]] #[{ accessFlags := 1, nameIndex := 5, descriptorIndex := 6, attributes := #[] }] 49 2 #[1106, 1108, 575, 1110, 1112] #[{ accessFlags := 18, nameIndex := 13, descriptorIndex := 14, attributes := #[] }, { accessFlags := 18, nameIndex := 17, descriptorIndex := 18, attributes := #[] }, { accessFlags := 2, nameIndex := 21, descriptorIndex := 22, attributes := #[] }, { accessFlags := 2, nameIndex := 25, descriptorIndex := 26, attributes := #[] }, { accessFlags := 26, nameIndex := 1116, descriptorIndex := 1117, attributes := #[] }, { accessFlags := 24, nameIndex := 40, descriptorIndex := 26, attributes := #[] }, { accessFlags := 26, nameIndex := 1101, descriptorIndex := 1102, attributes := #[] }, { accessFlags := 26, nameIndex := 1121, descriptorIndex := 1122, attributes := #[] }, { accessFlags := 25, nameIndex := 599, descriptorIndex := 600, attributes := #[] }, { accessFlags := 24, nameIndex := 1125, descriptorIndex := 18, attributes := #[] }, { accessFlags := 24, nameIndex := 1127, descriptorIndex := 18, attributes := #[] }])
  fields := #[{ name := "value", type := (.array .byte), accessFlags := 18, slot := 0, constantValue := 0 }, { name := "coder", type := .byte, accessFlags := 18, slot := 1, constantValue := 0 }, { name := "hash", type := .int, accessFlags := 2, slot := 2, constantValue := 0 }, { name := "hashIsZero", type := .boolean, accessFlags := 2, slot := 3, constantValue := 0 }, { name := "serialVersionUID", type := .long, accessFlags := 26, slot := 0, constantValue := 0 }, { name := "COMPACT_STRINGS", type := .boolean, accessFlags := 24, slot := 1, constantValue := 0 }, { name := "serialPersistentFields", type := (.array (.object "java/io/ObjectStreamField")), accessFlags := 26, slot := 2, constantValue := 0 }, { name := "REPL", type := .char, accessFlags := 26, slot := 3, constantValue := 0 }, { name := "CASE_INSENSITIVE_ORDER", type := (.object "java/util/Comparator"), accessFlags := 25, slot := 4, constantValue := 0 }, { name := "LATIN1", type := .byte, accessFlags := 24, slot := 5, constantValue := 0 }, { name := "UTF16", type := .byte, accessFlags := 24, slot := 6, constantValue := 0 }]
  methods := #[k7m0]
  instanceTypes := #[(.array .byte), .byte, .int, .boolean]
  staticTypes := #[.long, .boolean, (.array (.object "java/io/ObjectStreamField")), .char, (.object "java/util/Comparator"), .byte, .byte]
  resolved := Array.replicate 1451 none
  statics := none }

def pool8 : Array CpInfo := pool [(1, .methodref 2 3), (0, .class_ 4), (0, .nameAndType 5 6), (0, u "java/lang/Object"), (0, u "<init>"), (0, u "()V"), (0, .class_ 8), (0, u "java/lang/Record")] 13

def k8c0 : Code := { maxStack := 1, maxLocals := 1, code := jdk_30_method_1_code, exceptionTable := #[], attributes := #[] }
def k8m0 : Method := { name := "<init>", desc := "()V", sig := { parameters := [], returnType := none }, accessFlags := 4, code := some k8c0 }
/-- java/lang/Record -/
def k8 : Class := { plain "java/lang/Record" (some 0) with
  accessFlags := 1057
  interfaces := #[]
  cf := some (fileOf pool8 7 #[] #[{ accessFlags := 4, nameIndex := 5, descriptorIndex := 6, attributes := #[] }] 1057 2 #[] #[])
  fields := #[]
  methods := #[k8m0]
  instanceTypes := #[]
  staticTypes := #[]
  resolved := Array.replicate 22 none
  statics := none }

def pool9 : Array CpInfo := pool [(1, .methodref 2 3), (0, .class_ 4), (0, .nameAndType 5 6), (0, u "java/lang/Record"), (0, u "<init>"), (0, u "()V"), (0, .fieldref 8 9), (0, .class_ 10), (0, .nameAndType 11 12), (0, u "com/example/acquirer/acquirer/Payment"), (0, u "id"), (0, u "Ljava/lang/String;"), (0, .fieldref 8 14), (0, .nameAndType 15 12), (0, u "session"), (0, .fieldref 8 17), (0, .nameAndType 18 19), (0, u "created"), (0, u "J"), (0, .fieldref 8 21), (0, .nameAndType 22 19), (0, u "amount"), (0, .fieldref 8 24), (0, .nameAndType 25 19), (0, u "amountCaptured"), (0, .fieldref 8 27), (0, .nameAndType 28 19), (0, u "amountRefunded"), (0, .fieldref 8 30), (0, .nameAndType 31 12), (0, u "currency"), (0, .fieldref 8 33), (0, .nameAndType 34 12), (0, u "status"), (0, .fieldref 8 36), (0, .nameAndType 37 12), (0, u "gateway"), (0, .fieldref 8 39), (0, .nameAndType 40 41), (0, u "card"), (0, u "Lcom/example/acquirer/acquirer/Card;"), (0, .fieldref 8 43), (0, .nameAndType 44 45), (0, u "approval"), (0, u "Lcom/example/acquirer/acquirer/Approval;"), (0, .fieldref 8 47), (0, .nameAndType 48 12), (0, u "lastError"), (15, u "()Z"), (16, u "(Ljava/lang/String;Ljava/lang/String;JJJJLjava/lang/String;Ljava/lang/String;Ljava/lang/String;Lcom/example/acquirer/acquirer/Card;Lcom/example/acquirer/acquirer/Approval;Ljava/lang/String;)V"), (19, u "STATUSES"), (0, u "Ljava/util/List;"), (0, u "REQUIRES_ACTION"), (1, u "CAPTURED"), (0, u "FAILED"), (11, u "isRefunded")] 53

def k9c0 : Code := { maxStack := 3, maxLocals := 17, code := prog_20_method_1_code, exceptionTable := #[], attributes := #[] }
def k9m0 : Method := { name := "<init>", desc := "(Ljava/lang/String;Ljava/lang/String;JJJJLjava/lang/String;Ljava/lang/String;Ljava/lang/String;Lcom/example/acquirer/acquirer/Card;Lcom/example/acquirer/acquirer/Approval;Ljava/lang/String;)V", sig := { parameters := [(.object "java/lang/String"), (.object "java/lang/String"), .long, .long, .long, .long, (.object "java/lang/String"), (.object "java/lang/String"), (.object "java/lang/String"), (.object "com/example/acquirer/acquirer/Card"), (.object "com/example/acquirer/acquirer/Approval"), (.object "java/lang/String")], returnType := none }, accessFlags := 1, code := some k9c0 }
def k9c1 : Code := { maxStack := 4, maxLocals := 1, code := prog_20_method_5_code, exceptionTable := #[], attributes := #[] }
def k9m1 : Method := { name := "isRefunded", desc := "()Z", sig := { parameters := [], returnType := some .boolean }, accessFlags := 1, code := some k9c1 }
/-- com/example/acquirer/acquirer/Payment -/
def k9 : Class := { plain "com/example/acquirer/acquirer/Payment" (some 8) with
  accessFlags := 49
  interfaces := #[]
  cf := some (fileOf pool9 8 #[] #[{ accessFlags := 1, nameIndex := 5, descriptorIndex := 81, attributes := #[] }, { accessFlags := 1, nameIndex := 118, descriptorIndex := 64, attributes := #[] }] 49 2 #[] #[{ accessFlags := 18, nameIndex := 11, descriptorIndex := 12, attributes := #[] }, { accessFlags := 18, nameIndex := 15, descriptorIndex := 12, attributes := #[] }, { accessFlags := 18, nameIndex := 18, descriptorIndex := 19, attributes := #[] }, { accessFlags := 18, nameIndex := 22, descriptorIndex := 19, attributes := #[] }, { accessFlags := 18, nameIndex := 25, descriptorIndex := 19, attributes := #[] }, { accessFlags := 18, nameIndex := 28, descriptorIndex := 19, attributes := #[] }, { accessFlags := 18, nameIndex := 31, descriptorIndex := 12, attributes := #[] }, { accessFlags := 18, nameIndex := 34, descriptorIndex := 12, attributes := #[] }, { accessFlags := 18, nameIndex := 37, descriptorIndex := 12, attributes := #[] }, { accessFlags := 18, nameIndex := 40, descriptorIndex := 41, attributes := #[] }, { accessFlags := 18, nameIndex := 44, descriptorIndex := 45, attributes := #[] }, { accessFlags := 18, nameIndex := 48, descriptorIndex := 12, attributes := #[] }, { accessFlags := 25, nameIndex := 103, descriptorIndex := 12, attributes := #[] }, { accessFlags := 25, nameIndex := 105, descriptorIndex := 12, attributes := #[] }, { accessFlags := 25, nameIndex := 106, descriptorIndex := 12, attributes := #[] }, { accessFlags := 25, nameIndex := 101, descriptorIndex := 102, attributes := #[] }])
  fields := #[{ name := "id", type := (.object "java/lang/String"), accessFlags := 18, slot := 0, constantValue := 0 }, { name := "session", type := (.object "java/lang/String"), accessFlags := 18, slot := 1, constantValue := 0 }, { name := "created", type := .long, accessFlags := 18, slot := 2, constantValue := 0 }, { name := "amount", type := .long, accessFlags := 18, slot := 3, constantValue := 0 }, { name := "amountCaptured", type := .long, accessFlags := 18, slot := 4, constantValue := 0 }, { name := "amountRefunded", type := .long, accessFlags := 18, slot := 5, constantValue := 0 }, { name := "currency", type := (.object "java/lang/String"), accessFlags := 18, slot := 6, constantValue := 0 }, { name := "status", type := (.object "java/lang/String"), accessFlags := 18, slot := 7, constantValue := 0 }, { name := "gateway", type := (.object "java/lang/String"), accessFlags := 18, slot := 8, constantValue := 0 }, { name := "card", type := (.object "com/example/acquirer/acquirer/Card"), accessFlags := 18, slot := 9, constantValue := 0 }, { name := "approval", type := (.object "com/example/acquirer/acquirer/Approval"), accessFlags := 18, slot := 10, constantValue := 0 }, { name := "lastError", type := (.object "java/lang/String"), accessFlags := 18, slot := 11, constantValue := 0 }, { name := "REQUIRES_ACTION", type := (.object "java/lang/String"), accessFlags := 25, slot := 0, constantValue := 0 }, { name := "CAPTURED", type := (.object "java/lang/String"), accessFlags := 25, slot := 1, constantValue := 0 }, { name := "FAILED", type := (.object "java/lang/String"), accessFlags := 25, slot := 2, constantValue := 0 }, { name := "STATUSES", type := (.object "java/util/List"), accessFlags := 25, slot := 3, constantValue := 0 }]
  methods := #[k9m0, k9m1]
  instanceTypes := #[(.object "java/lang/String"), (.object "java/lang/String"), .long, .long, .long, .long, (.object "java/lang/String"), (.object "java/lang/String"), (.object "java/lang/String"), (.object "com/example/acquirer/acquirer/Card"), (.object "com/example/acquirer/acquirer/Approval"), (.object "java/lang/String")]
  staticTypes := #[(.object "java/lang/String"), (.object "java/lang/String"), (.object "java/lang/String"), (.object "java/util/List")]
  resolved := Array.replicate 172 none
  statics := none }

def pool10 : Array CpInfo := pool [(1, u "java/lang/Cloneable"), (0, .class_ 1), (0, u "java/lang/Object"), (0, .class_ 3)] 3

/-- java/lang/Cloneable -/
def k10 : Class := { plain "java/lang/Cloneable" (some 0) with
  accessFlags := 1537
  interfaces := #[]
  cf := some (fileOf pool10 2 #[] #[] 1537 4 #[] #[])
  fields := #[]
  methods := #[]
  instanceTypes := #[]
  staticTypes := #[]
  resolved := Array.replicate 8 none
  statics := none }

/-- the primitive byte -/
def k11 : Class := { plain "byte" none with kind := .primitive 'B', accessFlags := 0x411 }
/-- [B -/
def k12 : Class := { plain "[B" (some 0) with kind := .array 11 .byte, interfaces := #[10, 2], accessFlags := 1041 }

/-- the primitive int -/
def k13 : Class := { plain "int" none with kind := .primitive 'I', accessFlags := 0x411 }
/-- [I -/
def k14 : Class := { plain "[I" (some 0) with kind := .array 13 .int, interfaces := #[10, 2], accessFlags := 1041 }

def heap : Heap := #[]
def classes : Array Class := #[k0, k1, k2, k3, k4, k5, k6, k7, k8, k9, k10, k11, k12, k13, k14]
def interned : List (Array UInt16 × Addr) := []
def slotsUsed : Nat := 0
def theMethod : MethodId := ⟨1, 1⟩
def args0 : Array Value := #[.long 1, .long 2, .long 3, .long 4, .int 5]
def aboutOver (below : List Frame) : State where
  vm := { classes := classes, interned := interned.toArray }
  heap := heap
  slotsUsed := slotsUsed
  threads := #[{ frames := .invoking theMethod args0 :: below }]
def below0 : List Frame := [.native { method := ⟨0, 0⟩, args := #[] }]
def about1 : State := aboutOver below0
def p0 : Program := .bare "" "" ""
def e0 : Env := launch0.env 0 0 0
theorem w_frames : about1.frames = Frame.invoking theMethod args0 :: below0 := rfl
set_option maxRecDepth 65536 in
theorem w_args : argsFit about1.vm theMethod args0 = true := by decide +kernel
set_option maxRecDepth 65536 in
theorem w_heap : heapFits about1 = true := by decide +kernel
set_option maxRecDepth 65536 in
theorem w_runnable : about1.curStatus? = some .runnable := by decide +kernel
set_option maxRecDepth 65536 in
theorem w_alone : about1.alone = true := by decide +kernel
set_option maxRecDepth 65536 in
theorem w_named : about1.methodNamed? x = some theMethod := by decide +kernel
set_option maxRecDepth 65536 in
theorem w_hears : about1.hears theMethod below0 = true := by decide +kernel
set_option maxRecDepth 65536 in
theorem w_ripe : about1.ripe theMethod args0 below0 = true := by decide +kernel
theorem w_running : about1.status = .running := rfl
set_option maxRecDepth 65536 in
theorem w_room : about1.hasRoom e0.platform room_1 = true :=
  launch0.hasRoom_least _ room_1 (by decide +kernel) (by decide +kernel) (by decide +kernel) (by decide +kernel) (by decide +kernel) (by decide +kernel)
theorem allAtoms_all (ts : List Jvm.Cond) (a : Array Jvm.Value) (st : Jvm.State) : (allAtoms ts).before a st = ts.all (fun c => c.before a st) := by
  induction ts with
  | nil => rfl
  | cons c t ih =>
    show (Jvm.Cond.and c (allAtoms t)).before a st = _
    rw [Jvm.Cond.before_and, ih, List.all_cons]
def words1 : List Jvm.Cond := Jvm.Cond.code x code maxLocals ret :: tables_1
/-- a 'code' word, met by the world's own term for the bytes: nothing is compared byte by byte -/
theorem code_word {y : MethodName} {bytes : ByteArray} {mx : Nat} {rt : Option FieldType} {a : Array Value} {s : State} {m : MethodId} {meth : Method} {c : Code} (h1 : s.methodNamed? y = some m) (h2 : s.vm.method? m = some meth) (h3 : meth.code = some c) (h4 : c.code = bytes)
    (h5 : (c.maxLocals == mx && c.exceptionTable.isEmpty && decide (c.maxStack ≤ mostOperands) && decide (meth.sig.returnType = rt) && !meth.locks && decide (parseMethodDescriptor y.desc = some meth.sig)) = true) : (Jvm.Cond.code y bytes mx rt).before a s = true := by
  simp only [Bool.and_eq_true, beq_iff_eq, Bool.not_eq_true', decide_eq_true_eq] at h5
  obtain ⟨⟨⟨⟨⟨g1, g2⟩, g3⟩, g4⟩, g5⟩, g6⟩ := h5
  simp [Cond.before, Cond.holds, Cond.value, h1, h2, h3, h4, g1, g2, g3, g4, g5, g6]
def isCode : Jvm.Cond → Bool
  | .code _ _ _ _ => true
  | _ => false
theorem all_split {L : List Jvm.Cond} {P : Jvm.Cond → Bool} (h1 : L.all (fun c => isCode c || P c) = true) (h2 : ∀ c ∈ L.filter isCode, P c = true) : L.all P = true := by
  refine List.all_eq_true.mpr fun c hc => ?_
  have h := List.all_eq_true.mp h1 c hc
  rcases Bool.eq_false_or_eq_true (isCode c) with hi | hi
  · exact h2 c (List.mem_filter.mpr ⟨hc, hi⟩)
  · simpa [hi] using h
set_option maxRecDepth 65536 in
theorem w_c0 : (Jvm.Cond.code x code maxLocals ret).before args0 about1 = true := code_word (m := ⟨1, 1⟩) (meth := k1m1) (c := k1c1) (by decide +kernel) rfl rfl rfl (by decide +kernel)
set_option maxRecDepth 65536 in
theorem w_c1 : (Jvm.Cond.code ({ cls := "com/example/acquirer/acquirer/Payment", name := "<init>", desc := "(Ljava/lang/String;Ljava/lang/String;JJJJLjava/lang/String;Ljava/lang/String;Ljava/lang/String;Lcom/example/acquirer/acquirer/Card;Lcom/example/acquirer/acquirer/Approval;Ljava/lang/String;)V" } : Jvm.MethodName) prog_20_method_1_code (17 : Nat) (Option.none : Option Jvm.ClassFile.FieldType)).before args0 about1 = true := code_word (m := ⟨9, 0⟩) (meth := k9m0) (c := k9c0) (by decide +kernel) rfl rfl rfl (by decide +kernel)
set_option maxRecDepth 65536 in
theorem w_c2 : (Jvm.Cond.code ({ cls := "java/lang/Record", name := "<init>", desc := "()V" } : Jvm.MethodName) jdk_30_method_1_code (1 : Nat) (Option.none : Option Jvm.ClassFile.FieldType)).before args0 about1 = true := code_word (m := ⟨8, 0⟩) (meth := k8m0) (c := k8c0) (by decide +kernel) rfl rfl rfl (by decide +kernel)
set_option maxRecDepth 65536 in
theorem w_c3 : (Jvm.Cond.code ({ cls := "java/lang/Object", name := "<init>", desc := "()V" } : Jvm.MethodName) object_method_1_code (1 : Nat) (Option.none : Option Jvm.ClassFile.FieldType)).before args0 about1 = true := code_word (m := ⟨0, 0⟩) (meth := k0m0) (c := k0c0) (by decide +kernel) rfl rfl rfl (by decide +kernel)
set_option maxRecDepth 65536 in
theorem w_c4 : (Jvm.Cond.code ({ cls := "com/example/acquirer/acquirer/Payment", name := "isRefunded", desc := "()Z" } : Jvm.MethodName) prog_20_method_5_code (1 : Nat) (Option.some Jvm.ClassFile.FieldType.boolean)).before args0 about1 = true := code_word (m := ⟨9, 1⟩) (meth := k9m1) (c := k9c1) (by decide +kernel) rfl rfl rfl (by decide +kernel)
def codes1 : List Jvm.Cond := [Jvm.Cond.code x code maxLocals ret, Jvm.Cond.code ({ cls := "com/example/acquirer/acquirer/Payment", name := "<init>", desc := "(Ljava/lang/String;Ljava/lang/String;JJJJLjava/lang/String;Ljava/lang/String;Ljava/lang/String;Lcom/example/acquirer/acquirer/Card;Lcom/example/acquirer/acquirer/Approval;Ljava/lang/String;)V" } : Jvm.MethodName) prog_20_method_1_code (17 : Nat) (Option.none : Option Jvm.ClassFile.FieldType), Jvm.Cond.code ({ cls := "java/lang/Record", name := "<init>", desc := "()V" } : Jvm.MethodName) jdk_30_method_1_code (1 : Nat) (Option.none : Option Jvm.ClassFile.FieldType), Jvm.Cond.code ({ cls := "java/lang/Object", name := "<init>", desc := "()V" } : Jvm.MethodName) object_method_1_code (1 : Nat) (Option.none : Option Jvm.ClassFile.FieldType), Jvm.Cond.code ({ cls := "com/example/acquirer/acquirer/Payment", name := "isRefunded", desc := "()Z" } : Jvm.MethodName) prog_20_method_5_code (1 : Nat) (Option.some Jvm.ClassFile.FieldType.boolean)]
set_option maxRecDepth 65536 in
theorem codes_eq : words1.filter isCode = codes1 := rfl
theorem w_codes : ∀ c ∈ words1.filter isCode, c.before args0 about1 = true := by
  rw [codes_eq]
  intro c hc
  simp only [codes1, List.mem_cons, List.not_mem_nil, or_false] at hc
  rcases hc with rfl | rfl | rfl | rfl | rfl
  · exact w_c0
  · exact w_c1
  · exact w_c2
  · exact w_c3
  · exact w_c4
set_option maxRecDepth 65536 in
theorem w_t1 : (words1.take 24).all (fun c => isCode c || c.before args0 about1) = true := by decide +kernel
set_option maxRecDepth 65536 in
theorem w_t2 : ((words1.drop 24).take 24).all (fun c => isCode c || c.before args0 about1) = true := by decide +kernel
set_option maxRecDepth 65536 in
theorem w_t3 : ((words1.drop 24).drop 24).all (fun c => isCode c || c.before args0 about1) = true := by decide +kernel
theorem w_tables : (allAtoms (Jvm.Cond.code x code maxLocals ret :: tables_1)).before args0 about1 = true := by
  rw [allAtoms_all]
  show words1.all (fun c => c.before args0 about1) = true
  refine all_split ?_ w_codes
  rw [← List.take_append_drop 24 words1, List.all_append, w_t1, ← List.take_append_drop 24 (words1.drop 24), List.all_append, w_t2, w_t3]
  rfl
set_option maxRecDepth 65536 in
theorem w_case : (Jvm.Cond.and given_1 narrow_1).before args0 about1 = true := by decide +kernel
theorem w_applies : (headSpec (Jvm.Cond.code x code maxLocals ret :: tables_1) room_1).applies x e0.platform about1 = true :=
  (Spec.applies_iff w_frames).mpr ⟨w_running, w_runnable, w_alone, w_named, w_hears, w_ripe, w_room, w_tables⟩
theorem atStart : AtStart classFile x code maxLocals ret World_1 tables_1 room_1 Calls_1 rest_1 Pre_1 launch0 p0 e0 about1 theMethod args0 below0 :=
  ⟨lists_1, trivial, launch0.admits_env _ _ _, launch0.least_env, fairChoices_fair.cas, fairChoices_fair.clock, w_frames, w_args, w_heap, w_applies, trivial, trivial, w_case⟩
end start1
theorem witness_1 : WitnessClaimed_1 := ⟨start1.p0, start1.e0, start1.about1, start1.theMethod, start1.args0, start1.below0, start1.atStart⟩
end Jvm.Pilot.@@N@@
