import JvmDerived
import JvmDerived.Pilot.@@N@@Statement
import JvmDerived.Pilot.@@N@@Code
set_option linter.unusedVariables false
set_option linter.unusedSimpArgs false
namespace Jvm.Pilot.@@N@@
open Jvm Jvm.ClassFile Sem Op Lib Jvm.Free Jvm.Stand Jvm.LawKit Jvm.RoadKit Bundle Jvm.Pilot.@@N@@.Jvm.D
theorem own_w {a0 : Array Value} {Z : State} (hw : ∀ d ∈ tables_1, d.before a0 Z = true) (i : Nat) {d : Jvm.Cond} (h : tables_1[i]? = some d) : d.before a0 Z = true := hw d (List.mem_of_getElem? h)
section Own
variable {p : Program} {l : Launch} {e : Env} {R : Room} {s : State} {m : MethodId} {args : Array Value} {below : List Frame} {meth : Method} {c : Code} {T T' : State} {locs : List Loc} {cells slots : Nat} {g g' : JFrame} {K : Outcome → State → Prop} {Q : Option Value → Heap → List Loc → Prop} {kc ks : Nat}
/-- from this state, with this frame on top, the run comes to an end at which K holds -/
def own_E (p : Program) (e : Env) (below : List Frame) (K : Outcome → State → Prop) (T : State) (g : JFrame) : Prop :=
  ∃ s₂ o, Steps p.tables e below (T.setTop g) s₂ ∧ s₂.status = .running ∧ Ended s₂ below o ∧ K o s₂
def own_K (Q : Option Value → Heap → List Loc → Prop) (s : State) (kc ks : Nat) : Outcome → State → Prop :=
  fun o U' => ∃ v L, o = .returned v ∧ Q v U'.heap L ∧ FrameEnd s o U' L kc ks
theorem own_st (st : ∀ t, Steps p.tables e below (T'.setTop g') t → Steps p.tables e below (T.setTop g) t) (k : own_E p e below K T' g') : own_E p e below K T g := by
  obtain ⟨s2, o, h1, h2⟩ := k
  exact ⟨s2, o, st _ h1, h2⟩
theorem own_tr (st : Steps p.tables e below (T.setTop g) (T'.setTop g')) (k : own_E p e below K T' g') : own_E p e below K T g :=
  own_st (fun _ h => st.trans h) k
theorem own_pre (q : g = g') (k : own_E p e below K T g') : own_E p e below K T g := q ▸ k
theorem own_end (X : Stand p l e R s m args below meth c T locs cells slots) (hlk : meth.locks = false) {v : Option Value} (hv : meth.sig.returnType = none → v = none)
    (hr : ∀ fs : List Frame, (∀ (f : JFrame) (acts : List Action), f.method = m → f.locked = none → f.entered = [] → (doReturn e (T.setTop f) acts v).1 = T.setFrames fs) → Steps p.tables e below (T.setTop g) (T.setFrames fs))
    (hc : cells ≤ kc) (hs : slots ≤ ks) (hQ : Q v T.heap locs) : own_E p e below (own_K Q s kc ks) T g := by
  obtain ⟨fs, h1, hrun, hended, hW, hsame⟩ := X.leave (v := v) hv hlk
  exact ⟨_, _, hr fs h1, hrun, hended, _, _, rfl, hQ, ⟨_, rfl⟩, hW, hsame.mono hc hs⟩
theorem own_retV (X : Stand p l e R s m args below meth c T locs cells slots) (hx : p.tables.exec = Jvm.exec) (hlk : meth.locks = false) {pc : Nat} {Ls : Array Slot} (hret : meth.sig.returnType = none)
    (hd : decode c.code pc = .ok (.return_, 1)) (hc : cells ≤ kc) (hs : slots ≤ ks) (hQ : Q none T.heap locs) : own_E p e below (own_K Q s kc ks) T (mkF m pc Ls []) :=
  own_end X hlk (fun _ => rfl) (fun fs h => X.returnOut hx hret hd h) hc hs hQ
theorem own_retG (X : Stand p l e R s m args below meth c T locs cells slots) (hx : p.tables.exec = Jvm.exec) (hlk : meth.locks = false) {pc : Nat} {Ls : Array Slot} {w : Value} {t : FieldType} {i : Instr} {rest : List Value} (hret : meth.sig.returnType = some t) (hn : narrow t w = w)
    (hi : (i = .ireturn ∧ (t = .int ∨ t = .boolean ∨ t = .byte ∨ t = .char ∨ t = .short) ∧ ∃ z, w = .int z) ∨ (i = .lreturn ∧ t = .long ∧ ∃ z, w = .long z) ∨ (i = .dreturn ∧ t = .double ∧ ∃ z, w = .double z) ∨ (i = .freturn ∧ t = .float ∧ ∃ z, w = .float z) ∨ (i = .areturn ∧ t.isReference = true ∧ w.isRef = true))
    (hd : decode c.code pc = .ok (i, 1)) (hc : cells ≤ kc) (hs : slots ≤ ks) (hQ : Q (some w) T.heap locs) : own_E p e below (own_K Q s kc ks) T (mkF m pc Ls (w :: rest)) :=
  own_end X hlk (fun h => by rw [hret] at h; cases h) (fun fs h => retOut X hx hret hn hi hd h) hc hs hQ
theorem own_retI (X : Stand p l e R s m args below meth c T locs cells slots) (hx : p.tables.exec = Jvm.exec) (hlk : meth.locks = false) {pc : Nat} {Ls : Array Slot} {z : Int32} {rest : List Value} (hret : meth.sig.returnType = some .int)
    (hd : decode c.code pc = .ok (.ireturn, 1)) (hc : cells ≤ kc) (hs : slots ≤ ks) (hQ : Q (some (.int z)) T.heap locs) : own_E p e below (own_K Q s kc ks) T (mkF m pc Ls (.int z :: rest)) :=
  own_retG X hx hlk hret rfl (Or.inl ⟨rfl, Or.inl rfl, z, rfl⟩) hd hc hs hQ
theorem own_retS (X : Stand p l e R s m args below meth c T locs cells slots) (hx : p.tables.exec = Jvm.exec) (hlk : meth.locks = false) {pc : Nat} {Ls : Array Slot} {z : Int32} {t : FieldType} {rest : List Value} (hret : meth.sig.returnType = some t) (hn : narrow t (.int z) = .int z)
    (ht : t = .int ∨ t = .boolean ∨ t = .byte ∨ t = .char ∨ t = .short) (hd : decode c.code pc = .ok (.ireturn, 1)) (hc : cells ≤ kc) (hs : slots ≤ ks) (hQ : Q (some (.int z)) T.heap locs) : own_E p e below (own_K Q s kc ks) T (mkF m pc Ls (.int z :: rest)) :=
  own_retG X hx hlk hret hn (Or.inl ⟨rfl, ht, z, rfl⟩) hd hc hs hQ
theorem own_retN (X : Stand p l e R s m args below meth c T locs cells slots) (hx : p.tables.exec = Jvm.exec) (hlk : meth.locks = false) {pc : Nat} {Ls : Array Slot} {z : Int32} {t : FieldType} {rest : List Value} (hret : meth.sig.returnType = some t)
    (ht : t = .boolean ∨ t = .byte ∨ t = .char ∨ t = .short) (hd : decode c.code pc = .ok (.ireturn, 1)) (hc : cells ≤ kc) (hs : slots ≤ ks) (hQ : Q (some (.int (nar t z))) T.heap locs) : own_E p e below (own_K Q s kc ks) T (mkF m pc Ls (.int z :: rest)) :=
  own_end X hlk (fun h => by rw [hret] at h; cases h) (fun fs h => retN X hx hret ht hd h) hc hs hQ
theorem own_retJ (X : Stand p l e R s m args below meth c T locs cells slots) (hx : p.tables.exec = Jvm.exec) (hlk : meth.locks = false) {pc : Nat} {Ls : Array Slot} {z : Int64} {rest : List Value} (hret : meth.sig.returnType = some .long)
    (hd : decode c.code pc = .ok (.lreturn, 1)) (hc : cells ≤ kc) (hs : slots ≤ ks) (hQ : Q (some (.long z)) T.heap locs) : own_E p e below (own_K Q s kc ks) T (mkF m pc Ls (.long z :: rest)) :=
  own_retG X hx hlk hret rfl (Or.inr (Or.inl ⟨rfl, rfl, z, rfl⟩)) hd hc hs hQ
theorem own_retD (X : Stand p l e R s m args below meth c T locs cells slots) (hx : p.tables.exec = Jvm.exec) (hlk : meth.locks = false) {pc : Nat} {Ls : Array Slot} {z : UInt64} {rest : List Value} (hret : meth.sig.returnType = some .double)
    (hd : decode c.code pc = .ok (.dreturn, 1)) (hc : cells ≤ kc) (hs : slots ≤ ks) (hQ : Q (some (.double z)) T.heap locs) : own_E p e below (own_K Q s kc ks) T (mkF m pc Ls (.double z :: rest)) :=
  own_retG X hx hlk hret rfl (Or.inr (Or.inr (Or.inl ⟨rfl, rfl, z, rfl⟩))) hd hc hs hQ
theorem own_retA (X : Stand p l e R s m args below meth c T locs cells slots) (hx : p.tables.exec = Jvm.exec) (hlk : meth.locks = false) {pc : Nat} {Ls : Array Slot} {w : Value} {t : FieldType} {rest : List Value} (hret : meth.sig.returnType = some t) (ht : t.isReference = true) (hw : w.isRef = true)
    (hd : decode c.code pc = .ok (.areturn, 1)) (hc : cells ≤ kc) (hs : slots ≤ ks) (hQ : Q (some w) T.heap locs) : own_E p e below (own_K Q s kc ks) T (mkF m pc Ls (w :: rest)) :=
  own_retG X hx hlk hret (by cases w <;> cases t <;> first | rfl | (simp [Value.isRef] at hw) | (simp [FieldType.isReference] at ht)) (Or.inr (Or.inr (Or.inr (Or.inr ⟨rfl, ht, hw⟩)))) hd hc hs hQ
end Own
theorem own_StaK {Z : State} {h h' : Heap} {C n d : String} {v : Value} (F : Sta Z h C n d v) (K : Keep h h' []) : Sta Z h' C n d v := Sta.ext ⟨K.1, fun a c q => K.2.1 a c q nin0⟩ F
section OwnArr
variable {p : Program} {l : Launch} {e : Env} {R : Room} {s : State} {m : MethodId} {args : Array Value} {below : List Frame} {meth : Method} {c : Code} {T : State} {locs : List Loc} {cells slots : Nat} {Z : State} {h : Heap} {a : Addr} {k : ClassId} {z : Int32} {vs : List Value} {dv : Value}
theorem own_alen (X : Stand p l e R s m args below meth c T locs cells slots) (hx : p.tables.exec = Jvm.exec) (hZ : Z.Warmed39 s.vm) (eT : T.heap = h) {ty : FieldType} (F : Arv Z h a k ty z vs dv) {g : JFrame} (hg : g.method = m) {rest : List Value} (hs : g.stack = .ref a :: rest) (hd : decode c.code g.pc = .ok (.arraylength, 1)) :
    ∀ target, Steps p.tables e below (T.setTop { g with pc := g.pc + 1, stack := .int z :: rest }) target → Steps p.tables e below (T.setTop g) target := by
  obtain ⟨cl, A, q, S, N, H, G⟩ := F
  intro target hr
  refine X.arraylength hx (by rw [eT]; exact A.1) (State.isArrayOf_alike hZ.alike A.2.1) hg hs hd _ ?_
  rw [len_of S N]; exact hr
theorem own_ald (X : Stand p l e R s m args below meth c T locs cells slots) (hx : p.tables.exec = Jvm.exec) (hZ : Z.Warmed39 s.vm) (eT : T.heap = h) (F : Arv Z h a k .int z vs dv) {j : Int32} (hj : ¬ j < 0 ∧ j < z) {v : Value} (hv : vs.getD j.toNatClampNeg dv = v) {g : JFrame} (hg : g.method = m) {rest : List Value} (hs : g.stack = .int j :: .ref a :: rest) (hd : decode c.code g.pc = .ok (.iaload, 1)) :
    ∀ target, Steps p.tables e below (T.setTop { g with pc := g.pc + 1, stack := v :: rest }) target → Steps p.tables e below (T.setTop g) target := by
  obtain ⟨cl, A, q, S, N, H, G⟩ := F
  have hin := inb_of S hj
  exact X.iaload hx (by rw [eT]; exact A.1) (State.isArrayOf_alike hZ.alike A.2.1) A.2.2 hin (H.at hin hv) hg hs hd
theorem own_ast (X : Stand p l e R s m args below meth c T locs cells slots) (hx : p.tables.exec = Jvm.exec) (hZ : Z.Warmed39 s.vm) (eT : T.heap = h) (F : Arv Z h a k .int z vs dv) {j : Int32} (hj : ¬ j < 0 ∧ j < z) {x : Int32} {i : Nat} (hi : j.toNatClampNeg = i) (hl : i < vs.length) {g : JFrame} (hg : g.method = m) {rest : List Value} (hs : g.stack = .int x :: .int j :: .ref a :: rest) (hd : decode c.code g.pc = .ok (.iastore, 1)) :
    ∃ T' h', Stand p l e R s m args below meth c T' (locs ++ [⟨a, j.toNatClampNeg⟩]) cells slots ∧ T'.heap = h' ∧ Wr h h' a j.toNatClampNeg (.int x) ∧ Arv Z h' a k .int z (vs.set i (.int x)) dv ∧ ∀ target, Steps p.tables e below (T'.setTop { g with pc := g.pc + 1, stack := rest }) target → Steps p.tables e below (T.setTop g) target := by
  obtain ⟨cl, A, q, S, N, H, G⟩ := F
  have hin := inb_of S hj
  obtain ⟨T', h', X', e', W, st⟩ := stI X hx hZ eT A hin hg hs hd
  exact ⟨T', h', X', e', W, Arv.set A q S N H G rfl W i hi hl, st⟩
theorem own_cst (X : Stand p l e R s m args below meth c T locs cells slots) (hx : p.tables.exec = Jvm.exec) (hZ : Z.Warmed39 s.vm) (eT : T.heap = h) (F : Arv Z h a k .char z vs dv) {j : Int32} (hj : ¬ j < 0 ∧ j < z) {x : Int32} {i : Nat} (hi : j.toNatClampNeg = i) (hl : i < vs.length) {g : JFrame} (hg : g.method = m) {rest : List Value} (hs : g.stack = .int x :: .int j :: .ref a :: rest) (hd : decode c.code g.pc = .ok (.castore, 1)) :
    ∃ T' h', Stand p l e R s m args below meth c T' (locs ++ [⟨a, j.toNatClampNeg⟩]) cells slots ∧ T'.heap = h' ∧ Wr h h' a j.toNatClampNeg (.int (nar .char x)) ∧ Arv Z h' a k .char z (vs.set i (.int (nar .char x))) dv ∧ ∀ target, Steps p.tables e below (T'.setTop { g with pc := g.pc + 1, stack := rest }) target → Steps p.tables e below (T.setTop g) target := by
  obtain ⟨cl, A, q, S, N, H, G⟩ := F
  have hin := inb_of S hj
  obtain ⟨T', h', X', e', W, st⟩ := stC X hx hZ eT A hin hg hs hd
  exact ⟨T', h', X', e', W, Arv.set A q S N H G (fits_nar_char _) W i hi hl, st⟩
end OwnArr
theorem own_NS_root {Z : State} {a0 : Array Value} {O K : String} {n : Nat} (w : (Jvm.Cond.noSuperclass O).before a0 Z = true) (wi : (Jvm.Cond.instantiable K n).before a0 Z = true) (hn : O ≠ K) : NS Z O K := by
  obtain ⟨c, k, h1, h2, h3, -, -⟩ := Cond.noSuperclass_spec w
  obtain ⟨t, kt, g1, -⟩ := Cond.instantiable_spec wi
  have ne := ids_ne h1 g1 hn
  refine ⟨c, t, h1, g1, fun fuel => ?_⟩
  cases fuel with
  | zero => rfl
  | succ f => simp [Vm.isSubclassAux, ne, h2, h3]
theorem own_NS_no {Z : State} {a0 : Array Value} {C S K : String} {n : Nat} (w : (Jvm.Cond.superclass C S).before a0 Z = true) (wi : (Jvm.Cond.instantiable K n).before a0 Z = true) (ns : NS Z C K) (hn : C ≠ K) : ∃ c t, Z.vm.findClass C = some c ∧ Z.vm.findClass K = some t ∧ Z.vm.assignable c t = false := by
  obtain ⟨c, t, h0, g0, n3⟩ := ns
  obtain ⟨p, k, kp, h1, h2, h3, h4, h5, -, h7⟩ := Cond.superclass_spec h0 w
  obtain ⟨t', k', g1, g2, g5, g6, -⟩ := Cond.instantiable_spec wi
  cases g0.symm.trans g1
  have g7 : k'.isInterface = false := by simp only [Bool.or_eq_false_iff] at g6; exact g6.1
  have ne := ids_ne h0 g0 hn
  refine ⟨c, t, h0, g0, ?_⟩
  show Z.vm.assignableAux (255 + 1) c t = false
  simp [Vm.assignableAux, ne, h2, g2, h5, g5, g7, Vm.isSubclass, n3]
theorem own_d_method_2_0 : decode method_2_code 0 = .ok (.iload_n 0, 1) := by decide +kernel
theorem own_d_method_2_1 : decode method_2_code 1 = .ok (.sipush 255, 3) := by decide +kernel
theorem own_d_method_2_4 : decode method_2_code 4 = .ok (.iand, 1) := by decide +kernel
theorem own_d_method_2_5 : decode method_2_code 5 = .ok (.istore_n 1, 1) := by decide +kernel
theorem own_d_method_2_6 : decode method_2_code 6 = .ok (.iload_n 1, 1) := by decide +kernel
theorem own_d_method_2_7 : decode method_2_code 7 = .ok (.ifCond .ne 13, 3) := by decide +kernel
theorem own_d_method_2_10 : decode method_2_code 10 = .ok (.iload_n 0, 1) := by decide +kernel
theorem own_d_method_2_11 : decode method_2_code 11 = .ok (.sipush 256, 3) := by decide +kernel
theorem own_d_method_2_14 : decode method_2_code 14 = .ok (.iand, 1) := by decide +kernel
theorem own_d_method_2_15 : decode method_2_code 15 = .ok (.ifCond .eq 5, 3) := by decide +kernel
theorem own_d_method_2_20 : decode method_2_code 20 = .ok (.iload_n 1, 1) := by decide +kernel
theorem own_d_method_2_21 : decode method_2_code 21 = .ok (.ireturn, 1) := by decide +kernel
theorem own_d_method_2_18 : decode method_2_code 18 = .ok (.iconst (-1), 1) := by decide +kernel
theorem own_d_method_2_19 : decode method_2_code 19 = .ok (.ireturn, 1) := by decide +kernel
def own_kCode (p1 : Int32) : Int32 := (if (p1 &&& (255 : Int32)) = (0 : Int32) then (if (p1 &&& (256 : Int32)) = (0 : Int32) then (p1 &&& (255 : Int32)) else (-1 : Int32)) else (p1 &&& (255 : Int32)))
def own_rkc_Q (p1 : Int32) (h0 : Heap) (v : Option Value) (h : Heap) (L : List Loc) : Prop := v = some (.int (own_kCode p1)) ∧ h = h0 ∧ L = []
abbrev own_y0 : MethodName := ⟨"com/example/lean_scorer/leanscorer/Bm25EqualsPinLaw", "kCode", "(I)I"⟩
theorem own_pn_Bm25EqualsPinLaw : plainName "com/example/lean_scorer/leanscorer/Bm25EqualsPinLaw" = true := by first | (simp [plainName, overriddenIn]; done) | decide +kernel
theorem own_rkc_ef (m : MethodId) (p1 : Int32) : entryFrame m #[(.int p1)] 2 = mkF m 0 #[.val (.int p1), .unset] [] := by first | (simp [entryFrame, mkF, argsToLocals, Value.category]; done) | rfl
set_option maxRecDepth 65536 in
set_option maxHeartbeats 40000000 in
theorem own_rkc (l : Launch) (Z : State) (a0 : Array Value) (hw : ∀ d ∈ tables_1, d.before a0 Z = true) (ws : List Jvm.Cond) (p1 : Int32) (h0 : Heap) (n0 : Nat) (Z0 : n0 ≤ h0.size)  :
    MetFree l own_y0 (head1 (Jvm.Cond.code own_y0 method_2_code 2 (some .int) :: ws) ({ frames := 0, cells := 0, slots := 0, locals := 0 } : Room)) (fun a U => a = #[(.int p1)] ∧ Z.Warmed39 U.vm ∧ U.heap = h0) (fun _ _ _ _ _ => True) (fun _ U o U' => ∃ v L, o = .returned v ∧ own_rkc_Q p1 h0 v U'.heap L ∧ FrameEnd U o U' L ({ frames := 0, cells := 0, slots := 0, locals := 0 } : Room).cells ({ frames := 0, cells := 0, slots := 0, locals := 0 } : Room).slots) := by
  refine MetFree.of_bodySF (plainFor_of_name own_pn_Bm25EqualsPinLaw) hisR ?_
  intro p e s m args below meth c s₁ Bd hml0 hP hK
  obtain ⟨rfl, hZ, hh⟩ := hP
  have hx := Bd.exec
  have hby := Bd.bytes
  have hml : c.maxLocals = 2 := hml0
  have hown : s.vm.findClass "com/example/lean_scorer/leanscorer/Bm25EqualsPinLaw" = some m.cls := findClass_of_methodNamed Bd.named
  have hnm := (name_of_methodNamed Bd.named Bd.method).1
  have X0 : Stand p l e ({ frames := 0, cells := 0, slots := 0, locals := 0 } : Room) s m #[(.int p1)] below meth c s₁ [] 0 0 := Stand.of_body Bd
  have e0 : s₁.heap = h0 := by rw [← hh, Bd.state]; rfl
  show own_E p e below (own_K (own_rkc_Q p1 h0) s ({ frames := 0, cells := 0, slots := 0, locals := 0 } : Room).cells ({ frames := 0, cells := 0, slots := 0, locals := 0 } : Room).slots) s₁ (entryFrame m #[(.int p1)] 2)
  refine own_pre (own_rkc_ef m p1) ?_
  show own_E p e below _ s₁ (mkF m 0 #[iv p1, .unset] [])
  refine own_st (fun t k => XS.iloadN X0.here hx rfl (hb hby own_d_method_2_0) rfl k) ?_
  show own_E p e below _ s₁ (mkF m 1 #[iv p1, .unset] [.int p1])
  refine own_st (fun t k => XS.sipush X0.here hx rfl (hb hby own_d_method_2_1) k) ?_
  show own_E p e below _ s₁ (mkF m 4 #[iv p1, .unset] [.int 255, .int p1])
  refine own_st (fun t k => XS.iand X0.here hx rfl (hb hby own_d_method_2_4) rfl k) ?_
  show own_E p e below _ s₁ (mkF m 5 #[iv p1, .unset] [.int (p1 &&& (255 : Int32))])
  refine own_st (fun t k => XS.istoreN X0.here hx rfl (hb hby own_d_method_2_5) rfl (l' := #[iv p1, iv (p1 &&& (255 : Int32))]) rfl k) ?_
  show own_E p e below _ s₁ (mkF m 6 #[iv p1, iv (p1 &&& (255 : Int32))] [])
  refine own_st (fun t k => XS.iloadN X0.here hx rfl (hb hby own_d_method_2_6) rfl k) ?_
  show own_E p e below _ s₁ (mkF m 7 #[iv p1, iv (p1 &&& (255 : Int32))] [.int (p1 &&& (255 : Int32))])
  by_cases hc1 : (p1 &&& (255 : Int32)) = (0 : Int32)
  · refine own_st (fun t k => XS.ifNo X0.here hx rfl (hb hby own_d_method_2_7) rfl ((if0 _ _).trans (teq hc1).2) k) ?_
    show own_E p e below _ s₁ (mkF m 10 #[iv p1, iv (p1 &&& (255 : Int32))] [])
    refine own_st (fun t k => XS.iloadN X0.here hx rfl (hb hby own_d_method_2_10) rfl k) ?_
    show own_E p e below _ s₁ (mkF m 11 #[iv p1, iv (p1 &&& (255 : Int32))] [.int p1])
    refine own_st (fun t k => XS.sipush X0.here hx rfl (hb hby own_d_method_2_11) k) ?_
    show own_E p e below _ s₁ (mkF m 14 #[iv p1, iv (p1 &&& (255 : Int32))] [.int 256, .int p1])
    refine own_st (fun t k => XS.iand X0.here hx rfl (hb hby own_d_method_2_14) rfl k) ?_
    show own_E p e below _ s₁ (mkF m 15 #[iv p1, iv (p1 &&& (255 : Int32))] [.int (p1 &&& (256 : Int32))])
    by_cases hc2 : (p1 &&& (256 : Int32)) = (0 : Int32)
    · refine own_st (fun t k => XS.ifYes X0.here hx rfl (pc0 := 15) (pc' := 20) rfl (hb hby own_d_method_2_15) rfl ((if0 _ _).trans (teq hc2).1) (by decide) (by decide) k) ?_
      show own_E p e below _ s₁ (mkF m 20 #[iv p1, iv (p1 &&& (255 : Int32))] [])
      refine own_st (fun t k => XS.iloadN X0.here hx rfl (hb hby own_d_method_2_20) rfl k) ?_
      show own_E p e below _ s₁ (mkF m 21 #[iv p1, iv (p1 &&& (255 : Int32))] [.int (p1 &&& (255 : Int32))])
      refine own_retI X0 hx Bd.notSynchronized Bd.returns (hb hby own_d_method_2_21) (by decide) (by decide) ?_
      exact ⟨by rw [own_kCode, if_pos hc1, if_pos hc2], e0, rfl⟩
    · refine own_st (fun t k => XS.ifNo X0.here hx rfl (hb hby own_d_method_2_15) rfl ((if0 _ _).trans (feq hc2).1) k) ?_
      show own_E p e below _ s₁ (mkF m 18 #[iv p1, iv (p1 &&& (255 : Int32))] [])
      refine own_st (fun t k => XS.iconst X0.here hx rfl (hb hby own_d_method_2_18) k) ?_
      show own_E p e below _ s₁ (mkF m 19 #[iv p1, iv (p1 &&& (255 : Int32))] [.int (-1)])
      refine own_retI X0 hx Bd.notSynchronized Bd.returns (hb hby own_d_method_2_19) (by decide) (by decide) ?_
      exact ⟨by rw [own_kCode, if_pos hc1, if_neg hc2], e0, rfl⟩
  · refine own_st (fun t k => XS.ifYes X0.here hx rfl (pc0 := 7) (pc' := 20) rfl (hb hby own_d_method_2_7) rfl ((if0 _ _).trans (feq hc1).2) (by decide) (by decide) k) ?_
    show own_E p e below _ s₁ (mkF m 20 #[iv p1, iv (p1 &&& (255 : Int32))] [])
    refine own_st (fun t k => XS.iloadN X0.here hx rfl (hb hby own_d_method_2_20) rfl k) ?_
    show own_E p e below _ s₁ (mkF m 21 #[iv p1, iv (p1 &&& (255 : Int32))] [.int (p1 &&& (255 : Int32))])
    refine own_retI X0 hx Bd.notSynchronized Bd.returns (hb hby own_d_method_2_21) (by decide) (by decide) ?_
    exact ⟨by rw [own_kCode, if_neg hc1], e0, rfl⟩
theorem own_d_method_3_0 : decode method_3_code 0 = .ok (.iload_n 0, 1) := by decide +kernel
theorem own_d_method_3_1 : decode method_3_code 1 = .ok (.ldc 7, 2) := by decide +kernel
theorem own_d_method_3_3 : decode method_3_code 3 = .ok (.iand, 1) := by decide +kernel
theorem own_d_method_3_4 : decode method_3_code 4 = .ok (.bipush 9, 2) := by decide +kernel
theorem own_d_method_3_6 : decode method_3_code 6 = .ok (.irem, 1) := by decide +kernel
theorem own_d_method_3_7 : decode method_3_code 7 = .ok (.istore_n 1, 1) := by decide +kernel
theorem own_d_method_3_8 : decode method_3_code 8 = .ok (.iload_n 1, 1) := by decide +kernel
theorem own_d_method_3_9 : decode method_3_code 9 = .ok (.ifCond .ne 9, 3) := by decide +kernel
theorem own_d_method_3_12 : decode method_3_code 12 = .ok (.iload_n 0, 1) := by decide +kernel
theorem own_d_method_3_13 : decode method_3_code 13 = .ok (.ifCond .ge 5, 3) := by decide +kernel
theorem own_d_method_3_16 : decode method_3_code 16 = .ok (.iconst (-1), 1) := by decide +kernel
theorem own_d_method_3_17 : decode method_3_code 17 = .ok (.ireturn, 1) := by decide +kernel
theorem own_d_method_3_18 : decode method_3_code 18 = .ok (.iload_n 1, 1) := by decide +kernel
theorem own_d_method_3_19 : decode method_3_code 19 = .ok (.ireturn, 1) := by decide +kernel
def own_bCode (p1 : Int32) : Int32 := (if ((p1 &&& (2147483647 : Int32)) % (9 : Int32)) = (0 : Int32) then (if p1 < (0 : Int32) then (-1 : Int32) else ((p1 &&& (2147483647 : Int32)) % (9 : Int32))) else ((p1 &&& (2147483647 : Int32)) % (9 : Int32)))
def own_rbc_Q (p1 : Int32) (h0 : Heap) (v : Option Value) (h : Heap) (L : List Loc) : Prop := v = some (.int (own_bCode p1)) ∧ h = h0 ∧ L = []
abbrev own_y1 : MethodName := ⟨"com/example/lean_scorer/leanscorer/Bm25EqualsPinLaw", "bCode", "(I)I"⟩
theorem own_rbc_ef (m : MethodId) (p1 : Int32) : entryFrame m #[(.int p1)] 2 = mkF m 0 #[.val (.int p1), .unset] [] := by first | (simp [entryFrame, mkF, argsToLocals, Value.category]; done) | rfl
set_option maxRecDepth 65536 in
set_option maxHeartbeats 40000000 in
theorem own_rbc (l : Launch) (Z : State) (a0 : Array Value) (hw : ∀ d ∈ tables_1, d.before a0 Z = true) (ws : List Jvm.Cond) (p1 : Int32) (h0 : Heap) (n0 : Nat) (Z0 : n0 ≤ h0.size)  :
    MetFree l own_y1 (head1 (Jvm.Cond.code own_y1 method_3_code 2 (some .int) :: ws) ({ frames := 0, cells := 0, slots := 0, locals := 0 } : Room)) (fun a U => a = #[(.int p1)] ∧ Z.Warmed39 U.vm ∧ U.heap = h0) (fun _ _ _ _ _ => True) (fun _ U o U' => ∃ v L, o = .returned v ∧ own_rbc_Q p1 h0 v U'.heap L ∧ FrameEnd U o U' L ({ frames := 0, cells := 0, slots := 0, locals := 0 } : Room).cells ({ frames := 0, cells := 0, slots := 0, locals := 0 } : Room).slots) := by
  refine MetFree.of_bodySF (plainFor_of_name own_pn_Bm25EqualsPinLaw) hisR ?_
  intro p e s m args below meth c s₁ Bd hml0 hP hK
  obtain ⟨rfl, hZ, hh⟩ := hP
  have hx := Bd.exec
  have hby := Bd.bytes
  have hml : c.maxLocals = 2 := hml0
  have hown : s.vm.findClass "com/example/lean_scorer/leanscorer/Bm25EqualsPinLaw" = some m.cls := findClass_of_methodNamed Bd.named
  have hnm := (name_of_methodNamed Bd.named Bd.method).1
  have X0 : Stand p l e ({ frames := 0, cells := 0, slots := 0, locals := 0 } : Room) s m #[(.int p1)] below meth c s₁ [] 0 0 := Stand.of_body Bd
  have e0 : s₁.heap = h0 := by rw [← hh, Bd.state]; rfl
  show own_E p e below (own_K (own_rbc_Q p1 h0) s ({ frames := 0, cells := 0, slots := 0, locals := 0 } : Room).cells ({ frames := 0, cells := 0, slots := 0, locals := 0 } : Room).slots) s₁ (entryFrame m #[(.int p1)] 2)
  refine own_pre (own_rbc_ef m p1) ?_
  show own_E p e below _ s₁ (mkF m 0 #[iv p1, .unset] [])
  refine own_st (fun t k => XS.iloadN X0.here hx rfl (hb hby own_d_method_3_0) rfl k) ?_
  show own_E p e below _ s₁ (mkF m 1 #[iv p1, .unset] [.int p1])
  refine own_st (X0.ldcInt hx hown (mvT hZ (own_w hw 7 rfl)) (g := (mkF m 1 #[iv p1, .unset] [.int p1])) rfl (hb hby own_d_method_3_1)) ?_
  show own_E p e below _ s₁ (mkF m 3 #[iv p1, .unset] [.int 2147483647, .int p1])
  refine own_st (fun t k => XS.iand X0.here hx rfl (hb hby own_d_method_3_3) rfl k) ?_
  show own_E p e below _ s₁ (mkF m 4 #[iv p1, .unset] [.int (p1 &&& (2147483647 : Int32))])
  refine own_st (fun t k => XS.bipush X0.here hx rfl (hb hby own_d_method_3_4) k) ?_
  show own_E p e below _ s₁ (mkF m 6 #[iv p1, .unset] [.int 9, .int (p1 &&& (2147483647 : Int32))])
  refine own_st (fun t k => iremM X0 hx rfl (hb hby own_d_method_3_6) rfl (by decide) k) ?_
  show own_E p e below _ s₁ (mkF m 7 #[iv p1, .unset] [.int ((p1 &&& (2147483647 : Int32)) % (9 : Int32))])
  refine own_st (fun t k => XS.istoreN X0.here hx rfl (hb hby own_d_method_3_7) rfl (l' := #[iv p1, iv ((p1 &&& (2147483647 : Int32)) % (9 : Int32))]) rfl k) ?_
  show own_E p e below _ s₁ (mkF m 8 #[iv p1, iv ((p1 &&& (2147483647 : Int32)) % (9 : Int32))] [])
  refine own_st (fun t k => XS.iloadN X0.here hx rfl (hb hby own_d_method_3_8) rfl k) ?_
  show own_E p e below _ s₁ (mkF m 9 #[iv p1, iv ((p1 &&& (2147483647 : Int32)) % (9 : Int32))] [.int ((p1 &&& (2147483647 : Int32)) % (9 : Int32))])
  by_cases hc1 : ((p1 &&& (2147483647 : Int32)) % (9 : Int32)) = (0 : Int32)
  · refine own_st (fun t k => XS.ifNo X0.here hx rfl (hb hby own_d_method_3_9) rfl ((if0 _ _).trans (teq hc1).2) k) ?_
    show own_E p e below _ s₁ (mkF m 12 #[iv p1, iv ((p1 &&& (2147483647 : Int32)) % (9 : Int32))] [])
    refine own_st (fun t k => XS.iloadN X0.here hx rfl (hb hby own_d_method_3_12) rfl k) ?_
    show own_E p e below _ s₁ (mkF m 13 #[iv p1, iv ((p1 &&& (2147483647 : Int32)) % (9 : Int32))] [.int p1])
    by_cases hc2 : p1 < (0 : Int32)
    · refine own_st (fun t k => XS.ifNo X0.here hx rfl (hb hby own_d_method_3_13) rfl ((if0 _ _).trans (tlt hc2).2.1) k) ?_
      show own_E p e below _ s₁ (mkF m 16 #[iv p1, iv ((p1 &&& (2147483647 : Int32)) % (9 : Int32))] [])
      refine own_st (fun t k => XS.iconst X0.here hx rfl (hb hby own_d_method_3_16) k) ?_
      show own_E p e below _ s₁ (mkF m 17 #[iv p1, iv ((p1 &&& (2147483647 : Int32)) % (9 : Int32))] [.int (-1)])
      refine own_retI X0 hx Bd.notSynchronized Bd.returns (hb hby own_d_method_3_17) (by decide) (by decide) ?_
      exact ⟨by rw [own_bCode, if_pos hc1, if_pos hc2], e0, rfl⟩
    · refine own_st (fun t k => XS.ifYes X0.here hx rfl (pc0 := 13) (pc' := 18) rfl (hb hby own_d_method_3_13) rfl ((if0 _ _).trans (flt hc2).2.1) (by decide) (by decide) k) ?_
      show own_E p e below _ s₁ (mkF m 18 #[iv p1, iv ((p1 &&& (2147483647 : Int32)) % (9 : Int32))] [])
      refine own_st (fun t k => XS.iloadN X0.here hx rfl (hb hby own_d_method_3_18) rfl k) ?_
      show own_E p e below _ s₁ (mkF m 19 #[iv p1, iv ((p1 &&& (2147483647 : Int32)) % (9 : Int32))] [.int ((p1 &&& (2147483647 : Int32)) % (9 : Int32))])
      refine own_retI X0 hx Bd.notSynchronized Bd.returns (hb hby own_d_method_3_19) (by decide) (by decide) ?_
      exact ⟨by rw [own_bCode, if_pos hc1, if_neg hc2], e0, rfl⟩
  · refine own_st (fun t k => XS.ifYes X0.here hx rfl (pc0 := 9) (pc' := 18) rfl (hb hby own_d_method_3_9) rfl ((if0 _ _).trans (feq hc1).2) (by decide) (by decide) k) ?_
    show own_E p e below _ s₁ (mkF m 18 #[iv p1, iv ((p1 &&& (2147483647 : Int32)) % (9 : Int32))] [])
    refine own_st (fun t k => XS.iloadN X0.here hx rfl (hb hby own_d_method_3_18) rfl k) ?_
    show own_E p e below _ s₁ (mkF m 19 #[iv p1, iv ((p1 &&& (2147483647 : Int32)) % (9 : Int32))] [.int ((p1 &&& (2147483647 : Int32)) % (9 : Int32))])
    refine own_retI X0 hx Bd.notSynchronized Bd.returns (hb hby own_d_method_3_19) (by decide) (by decide) ?_
    exact ⟨by rw [own_bCode, if_neg hc1], e0, rfl⟩
theorem own_d_method_4_0 : decode method_4_code 0 = .ok (.iload_n 0, 1) := by decide +kernel
theorem own_d_method_4_1 : decode method_4_code 1 = .ok (.ifCond .ge 7, 3) := by decide +kernel
theorem own_d_method_4_4 : decode method_4_code 4 = .ok (.ldc2_w 8, 3) := by decide +kernel
theorem own_d_method_4_7 : decode method_4_code 7 = .ok (.dreturn, 1) := by decide +kernel
theorem own_d_method_4_8 : decode method_4_code 8 = .ok (.iload_n 0, 1) := by decide +kernel
theorem own_d_method_4_9 : decode method_4_code 9 = .ok (.i2d, 1) := by decide +kernel
theorem own_d_method_4_10 : decode method_4_code 10 = .ok (.ldc2_w 10, 3) := by decide +kernel
theorem own_d_method_4_13 : decode method_4_code 13 = .ok (.ddiv, 1) := by decide +kernel
theorem own_d_method_4_14 : decode method_4_code 14 = .ok (.dreturn, 1) := by decide +kernel
def own_val (p1 : Int32) : UInt64 := (if p1 < (0 : Int32) then (9223372036854775808 : UInt64) else (FP.ddiv (FP.i2d p1) (4620693217682128896 : UInt64)))
def own_rval_Q (p1 : Int32) (h0 : Heap) (v : Option Value) (h : Heap) (L : List Loc) : Prop := v = some (.double (own_val p1)) ∧ h = h0 ∧ L = []
abbrev own_y2 : MethodName := ⟨"com/example/lean_scorer/leanscorer/Bm25EqualsPinLaw", "valueOf", "(I)D"⟩
theorem own_rval_ef (m : MethodId) (p1 : Int32) : entryFrame m #[(.int p1)] 1 = mkF m 0 #[.val (.int p1)] [] := by first | (simp [entryFrame, mkF, argsToLocals, Value.category]; done) | rfl
set_option maxRecDepth 65536 in
set_option maxHeartbeats 40000000 in
theorem own_rval (l : Launch) (Z : State) (a0 : Array Value) (hw : ∀ d ∈ tables_1, d.before a0 Z = true) (ws : List Jvm.Cond) (p1 : Int32) (h0 : Heap) (n0 : Nat) (Z0 : n0 ≤ h0.size) (hn1 : Jvm.Free.Fl.NoNaN64 (FP.ddiv (FP.i2d p1) (4620693217682128896 : UInt64))) :
    MetFree l own_y2 (head1 (Jvm.Cond.code own_y2 method_4_code 1 (some .double) :: ws) ({ frames := 0, cells := 0, slots := 0, locals := 0 } : Room)) (fun a U => a = #[(.int p1)] ∧ Z.Warmed39 U.vm ∧ U.heap = h0) (fun _ _ _ _ _ => True) (fun _ U o U' => ∃ v L, o = .returned v ∧ own_rval_Q p1 h0 v U'.heap L ∧ FrameEnd U o U' L ({ frames := 0, cells := 0, slots := 0, locals := 0 } : Room).cells ({ frames := 0, cells := 0, slots := 0, locals := 0 } : Room).slots) := by
  refine MetFree.of_bodySF (plainFor_of_name own_pn_Bm25EqualsPinLaw) hisR ?_
  intro p e s m args below meth c s₁ Bd hml0 hP hK
  obtain ⟨rfl, hZ, hh⟩ := hP
  have hx := Bd.exec
  have hby := Bd.bytes
  have hml : c.maxLocals = 1 := hml0
  have hown : s.vm.findClass "com/example/lean_scorer/leanscorer/Bm25EqualsPinLaw" = some m.cls := findClass_of_methodNamed Bd.named
  have hnm := (name_of_methodNamed Bd.named Bd.method).1
  have X0 : Stand p l e ({ frames := 0, cells := 0, slots := 0, locals := 0 } : Room) s m #[(.int p1)] below meth c s₁ [] 0 0 := Stand.of_body Bd
  have e0 : s₁.heap = h0 := by rw [← hh, Bd.state]; rfl
  show own_E p e below (own_K (own_rval_Q p1 h0) s ({ frames := 0, cells := 0, slots := 0, locals := 0 } : Room).cells ({ frames := 0, cells := 0, slots := 0, locals := 0 } : Room).slots) s₁ (entryFrame m #[(.int p1)] 1)
  refine own_pre (own_rval_ef m p1) ?_
  show own_E p e below _ s₁ (mkF m 0 #[iv p1] [])
  refine own_st (fun t k => XS.iloadN X0.here hx rfl (hb hby own_d_method_4_0) rfl k) ?_
  show own_E p e below _ s₁ (mkF m 1 #[iv p1] [.int p1])
  by_cases hc1 : p1 < (0 : Int32)
  · refine own_st (fun t k => XS.ifNo X0.here hx rfl (hb hby own_d_method_4_1) rfl ((if0 _ _).trans (tlt hc1).2.1) k) ?_
    show own_E p e below _ s₁ (mkF m 4 #[iv p1] [])
    refine own_st (X0.ldc2DoubleC hx hown (mvT hZ (own_w hw 86 rfl)) (g := (mkF m 4 #[iv p1] [])) rfl (hb hby own_d_method_4_4)) ?_
    show own_E p e below _ s₁ (mkF m 7 #[iv p1] [.double 9223372036854775808])
    refine own_retD X0 hx Bd.notSynchronized Bd.returns (hb hby own_d_method_4_7) (by decide) (by decide) ?_
    exact ⟨by rw [own_val, if_pos hc1], e0, rfl⟩
  · refine own_st (fun t k => XS.ifYes X0.here hx rfl (pc0 := 1) (pc' := 8) rfl (hb hby own_d_method_4_1) rfl ((if0 _ _).trans (flt hc1).2.1) (by decide) (by decide) k) ?_
    show own_E p e below _ s₁ (mkF m 8 #[iv p1] [])
    refine own_st (fun t k => XS.iloadN X0.here hx rfl (hb hby own_d_method_4_8) rfl k) ?_
    show own_E p e below _ s₁ (mkF m 9 #[iv p1] [.int p1])
    refine own_st (fun t k => XS.i2dS X0.here hx rfl (hb hby own_d_method_4_9) rfl rfl k) ?_
    show own_E p e below _ s₁ (mkF m 10 #[iv p1] [.double (FP.i2d p1)])
    refine own_st (X0.ldc2DoubleC hx hown (mvT hZ (own_w hw 14 rfl)) (g := (mkF m 10 #[iv p1] [.double (FP.i2d p1)])) rfl (hb hby own_d_method_4_10)) ?_
    show own_E p e below _ s₁ (mkF m 13 #[iv p1] [.double 4620693217682128896, .double (FP.i2d p1)])
    refine own_st (fun t k => XS.ddivS X0.here hx rfl (hb hby own_d_method_4_13) rfl hn1 rfl k) ?_
    show own_E p e below _ s₁ (mkF m 14 #[iv p1] [.double (FP.ddiv (FP.i2d p1) (4620693217682128896 : UInt64))])
    refine own_retD X0 hx Bd.notSynchronized Bd.returns (hb hby own_d_method_4_14) (by decide) (by decide) ?_
    exact ⟨by rw [own_val, if_neg hc1], e0, rfl⟩
def own_maxD (d : UInt64) : UInt64 := Native.java_lang_Math.nans.pick64 true 4607182418800017408 d
theorem own_d_prog_24_method_1_0 : decode prog_24_method_1_code 0 = .ok (.aload_n 0, 1) := by decide +kernel
theorem own_d_prog_24_method_1_1 : decode prog_24_method_1_code 1 = .ok (.invokespecial 1, 3) := by decide +kernel
theorem own_d_prog_24_method_1_4 : decode prog_24_method_1_code 4 = .ok (.return_, 1) := by decide +kernel
def own_scorer_Q (a1 : Addr) (h0 : Heap) (v : Option Value) (h : Heap) (L : List Loc) : Prop := ((v = none)) ∧ h = h0 ∧ L = []
abbrev own_y3 : MethodName := ⟨"com/example/lean_scorer/leanscorer/Scorer", "<init>", "()V"⟩
theorem own_pn_Scorer : plainName "com/example/lean_scorer/leanscorer/Scorer" = true := by first | (simp [plainName, overriddenIn]; done) | decide +kernel
theorem own_scorer_ef (m : MethodId) (a1 : Addr) : entryFrame m #[(.ref a1)] 1 = mkF m 0 #[.val (.ref a1)] [] := by first | (simp [entryFrame, mkF, argsToLocals, Value.category]; done) | rfl
set_option maxRecDepth 65536 in
set_option maxHeartbeats 40000000 in
theorem own_scorer (l : Launch) (Z : State) (a0 : Array Value) (hw : ∀ d ∈ tables_1, d.before a0 Z = true) (ws : List Jvm.Cond) (a1 : Addr) (h0 : Heap) (n0 : Nat) (Z0 : n0 ≤ h0.size)  :
    MetFree l own_y3 (head1 (Jvm.Cond.code own_y3 prog_24_method_1_code 1 none :: ws) ({ frames := 1, cells := 0, slots := 0, locals := 12 } : Room)) (fun a U => a = #[(.ref a1)] ∧ Z.Warmed39 U.vm ∧ U.heap = h0) (fun _ _ _ _ _ => True) (fun _ U o U' => ∃ v L, o = .returned v ∧ own_scorer_Q a1 h0 v U'.heap L ∧ FrameEnd U o U' L ({ frames := 1, cells := 0, slots := 0, locals := 12 } : Room).cells ({ frames := 1, cells := 0, slots := 0, locals := 12 } : Room).slots) := by
  refine MetFree.of_bodySF (plainFor_of_name own_pn_Scorer) hisR ?_
  intro p e s m args below meth c s₁ Bd hml0 hP hK
  obtain ⟨rfl, hZ, hh⟩ := hP
  have hx := Bd.exec
  have hby := Bd.bytes
  have hml : c.maxLocals = 1 := hml0
  have hown : s.vm.findClass "com/example/lean_scorer/leanscorer/Scorer" = some m.cls := findClass_of_methodNamed Bd.named
  have hnm := (name_of_methodNamed Bd.named Bd.method).1
  have X0 : Stand p l e ({ frames := 1, cells := 0, slots := 0, locals := 12 } : Room) s m #[(.ref a1)] below meth c s₁ [] 0 0 := Stand.of_body Bd
  have e0 : s₁.heap = h0 := by rw [← hh, Bd.state]; rfl
  show own_E p e below (own_K (own_scorer_Q a1 h0) s ({ frames := 1, cells := 0, slots := 0, locals := 12 } : Room).cells ({ frames := 1, cells := 0, slots := 0, locals := 12 } : Room).slots) s₁ (entryFrame m #[(.ref a1)] 1)
  refine own_pre (own_scorer_ef m a1) ?_
  show own_E p e below _ s₁ (mkF m 0 #[rv a1] [])
  refine own_st (fun t k => XS.aloadN X0.here hx rfl (hb hby own_d_prog_24_method_1_0) rfl rfl k) ?_
  show own_E p e below _ s₁ (mkF m 1 #[rv a1] [.ref a1])
  obtain ⟨T1, X1, e1, st1⟩ := initO X0 hx hZ hown (own_w hw 23 rfl) (own_w hw 24 rfl) (own_w hw 25 rfl) e0 (g := (mkF m 1 #[rv a1] [.ref a1])) rfl (by rw [hml]; rfl) rfl (hb hby own_d_prog_24_method_1_1) (by decide) (W := 0) (by show 2 * 0 + _ ≤ _; exact Nat.le_of_eq rfl) (by decide)
  refine own_st st1 ?_
  show own_E p e below _ T1 (mkF m 4 #[rv a1] [])
  refine own_retV X1 hx Bd.notSynchronized Bd.returns (hb hby own_d_prog_24_method_1_4) (by decide) (by decide) ?_
  exact ⟨rfl, e1, rfl⟩
theorem own_d_prog_1_method_1_0 : decode prog_1_method_1_code 0 = .ok (.aload_n 0, 1) := by decide +kernel
theorem own_d_prog_1_method_1_1 : decode prog_1_method_1_code 1 = .ok (.invokespecial 1, 3) := by decide +kernel
theorem own_pd_0 : parseMethodDescriptor "()V" = some ⟨[], none⟩ := by decide +kernel
theorem own_d_prog_1_method_1_4 : decode prog_1_method_1_code 4 = .ok (.dload_n 1, 1) := by decide +kernel
theorem own_d_prog_1_method_1_5 : decode prog_1_method_1_code 5 = .ok (.dconst 0, 1) := by decide +kernel
theorem own_d_prog_1_method_1_6 : decode prog_1_method_1_code 6 = .ok (.dcmp .l, 1) := by decide +kernel
theorem own_d_prog_1_method_1_7 : decode prog_1_method_1_code 7 = .ok (.ifCond .lt 11, 3) := by decide +kernel
theorem own_d_prog_1_method_1_10 : decode prog_1_method_1_code 10 = .ok (.dload_n 1, 1) := by decide +kernel
theorem own_d_prog_1_method_1_11 : decode prog_1_method_1_code 11 = .ok (.ldc2_w 9, 3) := by decide +kernel
theorem own_d_prog_1_method_1_14 : decode prog_1_method_1_code 14 = .ok (.dcmp .g, 1) := by decide +kernel
theorem own_d_prog_1_method_1_15 : decode prog_1_method_1_code 15 = .ok (.ifCond .lt 17, 3) := by decide +kernel
theorem own_d_prog_1_method_1_32 : decode prog_1_method_1_code 32 = .ok (.dload_n 3, 1) := by decide +kernel
theorem own_d_prog_1_method_1_33 : decode prog_1_method_1_code 33 = .ok (.dconst 0, 1) := by decide +kernel
theorem own_d_prog_1_method_1_34 : decode prog_1_method_1_code 34 = .ok (.dcmp .l, 1) := by decide +kernel
theorem own_d_prog_1_method_1_35 : decode prog_1_method_1_code 35 = .ok (.ifCond .lt 9, 3) := by decide +kernel
theorem own_d_prog_1_method_1_38 : decode prog_1_method_1_code 38 = .ok (.dload_n 3, 1) := by decide +kernel
theorem own_d_prog_1_method_1_39 : decode prog_1_method_1_code 39 = .ok (.dconst 1, 1) := by decide +kernel
theorem own_d_prog_1_method_1_40 : decode prog_1_method_1_code 40 = .ok (.dcmp .g, 1) := by decide +kernel
theorem own_d_prog_1_method_1_41 : decode prog_1_method_1_code 41 = .ok (.ifCond .le 17, 3) := by decide +kernel
theorem own_d_prog_1_method_1_58 : decode prog_1_method_1_code 58 = .ok (.aload_n 0, 1) := by decide +kernel
theorem own_d_prog_1_method_1_59 : decode prog_1_method_1_code 59 = .ok (.dload_n 1, 1) := by decide +kernel
theorem own_d_prog_1_method_1_60 : decode prog_1_method_1_code 60 = .ok (.putfield 21, 3) := by decide +kernel
theorem own_d_prog_1_method_1_63 : decode prog_1_method_1_code 63 = .ok (.aload_n 0, 1) := by decide +kernel
theorem own_d_prog_1_method_1_64 : decode prog_1_method_1_code 64 = .ok (.dload_n 3, 1) := by decide +kernel
theorem own_d_prog_1_method_1_65 : decode prog_1_method_1_code 65 = .ok (.putfield 27, 3) := by decide +kernel
theorem own_d_prog_1_method_1_68 : decode prog_1_method_1_code 68 = .ok (.dconst 1, 1) := by decide +kernel
theorem own_d_prog_1_method_1_69 : decode prog_1_method_1_code 69 = .ok (.dload_n 1, 1) := by decide +kernel
theorem own_d_prog_1_method_1_70 : decode prog_1_method_1_code 70 = .ok (.invokestatic 30, 3) := by decide +kernel
abbrev own_y4 : MethodName := ⟨"java/lang/Math", "max", "(DD)D"⟩
theorem own_pd_3 : parseMethodDescriptor "(DD)D" = some ⟨[.double, .double], some .double⟩ := by decide +kernel
theorem own_d_prog_1_method_1_73 : decode prog_1_method_1_code 73 = .ok (.dstore 5, 2) := by decide +kernel
theorem own_d_prog_1_method_1_75 : decode prog_1_method_1_code 75 = .ok (.aload_n 0, 1) := by decide +kernel
theorem own_d_prog_1_method_1_76 : decode prog_1_method_1_code 76 = .ok (.dload_n 1, 1) := by decide +kernel
theorem own_d_prog_1_method_1_77 : decode prog_1_method_1_code 77 = .ok (.dconst 1, 1) := by decide +kernel
theorem own_d_prog_1_method_1_78 : decode prog_1_method_1_code 78 = .ok (.dadd, 1) := by decide +kernel
theorem own_d_prog_1_method_1_79 : decode prog_1_method_1_code 79 = .ok (.dload 5, 2) := by decide +kernel
theorem own_d_prog_1_method_1_81 : decode prog_1_method_1_code 81 = .ok (.ddiv, 1) := by decide +kernel
theorem own_d_prog_1_method_1_82 : decode prog_1_method_1_code 82 = .ok (.putfield 36, 3) := by decide +kernel
theorem own_d_prog_1_method_1_85 : decode prog_1_method_1_code 85 = .ok (.aload_n 0, 1) := by decide +kernel
theorem own_d_prog_1_method_1_86 : decode prog_1_method_1_code 86 = .ok (.dconst 1, 1) := by decide +kernel
theorem own_d_prog_1_method_1_87 : decode prog_1_method_1_code 87 = .ok (.dload 5, 2) := by decide +kernel
theorem own_d_prog_1_method_1_89 : decode prog_1_method_1_code 89 = .ok (.ddiv, 1) := by decide +kernel
theorem own_d_prog_1_method_1_90 : decode prog_1_method_1_code 90 = .ok (.putfield 39, 3) := by decide +kernel
theorem own_d_prog_1_method_1_93 : decode prog_1_method_1_code 93 = .ok (.aload_n 0, 1) := by decide +kernel
theorem own_d_prog_1_method_1_94 : decode prog_1_method_1_code 94 = .ok (.dload_n 1, 1) := by decide +kernel
theorem own_d_prog_1_method_1_95 : decode prog_1_method_1_code 95 = .ok (.dload 5, 2) := by decide +kernel
theorem own_d_prog_1_method_1_97 : decode prog_1_method_1_code 97 = .ok (.ddiv, 1) := by decide +kernel
theorem own_d_prog_1_method_1_98 : decode prog_1_method_1_code 98 = .ok (.putfield 42, 3) := by decide +kernel
theorem own_d_prog_1_method_1_101 : decode prog_1_method_1_code 101 = .ok (.return_, 1) := by decide +kernel
def own_init_Q (Z : State) (a1 : Addr) (d1 : UInt64) (d2 : UInt64) (h0 : Heap) (n0 : Nat) (v : Option Value) (h : Heap) (L : List Loc) : Prop := v = none ∧ Fr n0 L ∧ Keep h0 h [a1] ∧ Exa Z h a1 "com/example/lean_scorer/leanscorer/Bm25" ∧ Fld Z h a1 "com/example/lean_scorer/leanscorer/Bm25" "k1" "D" (.double d1) ∧ Fld Z h a1 "com/example/lean_scorer/leanscorer/Bm25" "b" "D" (.double d2)
abbrev own_y5 : MethodName := ⟨"com/example/lean_scorer/leanscorer/Bm25", "<init>", "(DD)V"⟩
theorem own_pn_Bm25 : plainName "com/example/lean_scorer/leanscorer/Bm25" = true := by first | (simp [plainName, overriddenIn]; done) | decide +kernel
theorem own_init_ef (m : MethodId) (a1 : Addr) (d1 : UInt64) (d2 : UInt64) : entryFrame m #[(.ref a1), (.double d1), (.double d2)] 7 = mkF m 0 #[.val (.ref a1), .val (.double d1), .second, .val (.double d2), .second, .unset, .unset] [] := by first | (simp [entryFrame, mkF, argsToLocals, Value.category]; done) | rfl
set_option maxRecDepth 65536 in
set_option maxHeartbeats 40000000 in
theorem own_init (l : Launch) (Z : State) (a0 : Array Value) (hw : ∀ d ∈ tables_1, d.before a0 Z = true) (ws : List Jvm.Cond) (a1 : Addr) (d1 : UInt64) (d2 : UInt64) (h0 : Heap) (n0 : Nat) (Z0 : n0 ≤ h0.size) (hn0 : Jvm.Free.Fl.NoNaN64 d1) (hn1 : Jvm.Free.Fl.NoNaN64 (FP.dadd d1 (4607182418800017408 : UInt64))) (hn2 : Jvm.Free.Fl.NoNaN64 (FP.ddiv (FP.dadd d1 (4607182418800017408 : UInt64)) (own_maxD d1))) (hn3 : Jvm.Free.Fl.NoNaN64 (FP.ddiv (4607182418800017408 : UInt64) (own_maxD d1))) (hn4 : Jvm.Free.Fl.NoNaN64 (FP.ddiv d1 (own_maxD d1))) (E_a1 : Exa Z h0 a1 "com/example/lean_scorer/leanscorer/Bm25") (F_k1_a1 : Fld Z h0 a1 "com/example/lean_scorer/leanscorer/Bm25" "k1" "D" (.double (0 : UInt64))) (F_b_a1 : Fld Z h0 a1 "com/example/lean_scorer/leanscorer/Bm25" "b" "D" (.double (0 : UInt64))) (F_numeratorFactor_a1 : Fld Z h0 a1 "com/example/lean_scorer/leanscorer/Bm25" "numeratorFactor" "D" (.double (0 : UInt64))) (F_frequencyFactor_a1 : Fld Z h0 a1 "com/example/lean_scorer/leanscorer/Bm25" "frequencyFactor" "D" (.double (0 : UInt64))) (F_normFactor_a1 : Fld Z h0 a1 "com/example/lean_scorer/leanscorer/Bm25" "normFactor" "D" (.double (0 : UInt64))) (hd1 : ¬ ((cmpValue (FP.dcmp d1 (0 : UInt64)) .l) < (0 : Int32))) (hd2 : (cmpValue (FP.dcmp d1 (9218868437227405312 : UInt64)) .g) < (0 : Int32)) (hd3 : ¬ ((cmpValue (FP.dcmp d2 (0 : UInt64)) .l) < (0 : Int32))) (hd4 : ¬ ((0 : Int32) < (cmpValue (FP.dcmp d2 (4607182418800017408 : UInt64)) .g))) (g_a1 : n0 ≤ a1) :
    MetFree l own_y5 (head1 (Jvm.Cond.code own_y5 prog_1_method_1_code 7 none :: ws) ({ frames := 2, cells := 0, slots := 0, locals := 24 } : Room)) (fun a U => a = #[(.ref a1), (.double d1), (.double d2)] ∧ Z.Warmed39 U.vm ∧ U.heap = h0) (fun _ _ _ _ _ => True) (fun _ U o U' => ∃ v L, o = .returned v ∧ own_init_Q Z a1 d1 d2 h0 n0 v U'.heap L ∧ FrameEnd U o U' L ({ frames := 2, cells := 0, slots := 0, locals := 24 } : Room).cells ({ frames := 2, cells := 0, slots := 0, locals := 24 } : Room).slots) := by
  refine MetFree.of_bodySF (plainFor_of_name own_pn_Bm25) hisR ?_
  intro p e s m args below meth c s₁ Bd hml0 hP hK
  obtain ⟨rfl, hZ, hh⟩ := hP
  have hx := Bd.exec
  have hby := Bd.bytes
  have hml : c.maxLocals = 7 := hml0
  have hown : s.vm.findClass "com/example/lean_scorer/leanscorer/Bm25" = some m.cls := findClass_of_methodNamed Bd.named
  have hnm := (name_of_methodNamed Bd.named Bd.method).1
  have X0 : Stand p l e ({ frames := 2, cells := 0, slots := 0, locals := 24 } : Room) s m #[(.ref a1), (.double d1), (.double d2)] below meth c s₁ [] 0 0 := Stand.of_body Bd
  have e0 : s₁.heap = h0 := by rw [← hh, Bd.state]; rfl
  show own_E p e below (own_K (own_init_Q Z a1 d1 d2 h0 n0) s ({ frames := 2, cells := 0, slots := 0, locals := 24 } : Room).cells ({ frames := 2, cells := 0, slots := 0, locals := 24 } : Room).slots) s₁ (entryFrame m #[(.ref a1), (.double d1), (.double d2)] 7)
  refine own_pre (own_init_ef m a1 d1 d2) ?_
  show own_E p e below _ s₁ (mkF m 0 #[rv a1, .val (.double d1), .second, .val (.double d2), .second, .unset, .unset] [])
  refine own_st (fun t k => XS.aloadN X0.here hx rfl (hb hby own_d_prog_1_method_1_0) rfl rfl k) ?_
  show own_E p e below _ s₁ (mkF m 1 #[rv a1, .val (.double d1), .second, .val (.double d2), .second, .unset, .unset] [.ref a1])
  obtain ⟨_, _, ⟨T1, L1, k1, n1⟩, -, X1, ⟨Lc1, hQ1, l1, y1, z1⟩, st1⟩ := X0.specialBack hx (y := own_y3) rfl hown (mvT hZ (own_w hw 18 rfl)) (mvT hZ (own_w hw 19 rfl)) (mvT hZ (own_w hw 22 rfl)) (by decide) (backOf (W := 0) (own_scorer l Z a0 hw [] a1 h0 n0 Z0 ) hZ (own_w hw 22 rfl) (own_w hw 21 rfl) (by decide) (by decide)) (g := (mkF m 1 #[rv a1, .val (.double d1), .second, .val (.double d2), .second, .unset, .unset] [.ref a1])) rfl (by rw [hml]; rfl) (Steps.refl _) (a := a1) (argsL := []) (rest := []) (lenOf own_pd_0 rfl) rfl (by show 2 * 0 + _ ≤ _; exact Nat.le_of_eq rfl) (hb hby own_d_prog_1_method_1_1) (fun _ _ => ⟨rfl, e0, (by decide : 0 + 0 ≤ _), (by decide : 0 + 0 ≤ _)⟩)
  dsimp only [Pt.U, Pt.locs, Pt.cells, Pt.slots] at X1 l1 y1 z1 st1 hQ1
  subst l1 y1 z1
  obtain ⟨hR1, e1, rfl⟩ := hQ1
  have N1 := Fr.app (Fr.nil n0) (Fr.nil n0)
  obtain rfl := hR1
  refine own_tr st1 ?_
  show own_E p e below _ T1 (mkF m 4 #[rv a1, .val (.double d1), .second, .val (.double d2), .second, .unset, .unset] [])
  refine own_st (fun t k => XS.dloadN X1.here hx rfl (hb hby own_d_prog_1_method_1_4) rfl k) ?_
  show own_E p e below _ T1 (mkF m 5 #[rv a1, .val (.double d1), .second, .val (.double d2), .second, .unset, .unset] [.double d1])
  refine own_st (fun t k => XS.dconst0 X1.here hx rfl (hb hby own_d_prog_1_method_1_5) rfl k) ?_
  show own_E p e below _ T1 (mkF m 6 #[rv a1, .val (.double d1), .second, .val (.double d2), .second, .unset, .unset] [.double 0, .double d1])
  refine own_st (fun t k => XS.dcmpS X1.here hx rfl (hb hby own_d_prog_1_method_1_6) rfl rfl k) ?_
  show own_E p e below _ T1 (mkF m 7 #[rv a1, .val (.double d1), .second, .val (.double d2), .second, .unset, .unset] [.int (cmpValue (FP.dcmp d1 (0 : UInt64)) .l)])
  refine own_st (fun t k => XS.ifNo X1.here hx rfl (hb hby own_d_prog_1_method_1_7) rfl ((if0 _ _).trans (flt hd1).1) k) ?_
  show own_E p e below _ T1 (mkF m 10 #[rv a1, .val (.double d1), .second, .val (.double d2), .second, .unset, .unset] [])
  refine own_st (fun t k => XS.dloadN X1.here hx rfl (hb hby own_d_prog_1_method_1_10) rfl k) ?_
  show own_E p e below _ T1 (mkF m 11 #[rv a1, .val (.double d1), .second, .val (.double d2), .second, .unset, .unset] [.double d1])
  refine own_st (X1.ldc2DoubleC hx hown (mvT hZ (own_w hw 26 rfl)) (g := (mkF m 11 #[rv a1, .val (.double d1), .second, .val (.double d2), .second, .unset, .unset] [.double d1])) rfl (hb hby own_d_prog_1_method_1_11)) ?_
  show own_E p e below _ T1 (mkF m 14 #[rv a1, .val (.double d1), .second, .val (.double d2), .second, .unset, .unset] [.double 9218868437227405312, .double d1])
  refine own_st (fun t k => XS.dcmpS X1.here hx rfl (hb hby own_d_prog_1_method_1_14) rfl rfl k) ?_
  show own_E p e below _ T1 (mkF m 15 #[rv a1, .val (.double d1), .second, .val (.double d2), .second, .unset, .unset] [.int (cmpValue (FP.dcmp d1 (9218868437227405312 : UInt64)) .g)])
  refine own_st (fun t k => XS.ifYes X1.here hx rfl (pc0 := 15) (pc' := 32) rfl (hb hby own_d_prog_1_method_1_15) rfl ((if0 _ _).trans (tlt hd2).1) (by decide) (by decide) k) ?_
  show own_E p e below _ T1 (mkF m 32 #[rv a1, .val (.double d1), .second, .val (.double d2), .second, .unset, .unset] [])
  refine own_st (fun t k => XS.dloadN X1.here hx rfl (hb hby own_d_prog_1_method_1_32) rfl k) ?_
  show own_E p e below _ T1 (mkF m 33 #[rv a1, .val (.double d1), .second, .val (.double d2), .second, .unset, .unset] [.double d2])
  refine own_st (fun t k => XS.dconst0 X1.here hx rfl (hb hby own_d_prog_1_method_1_33) rfl k) ?_
  show own_E p e below _ T1 (mkF m 34 #[rv a1, .val (.double d1), .second, .val (.double d2), .second, .unset, .unset] [.double 0, .double d2])
  refine own_st (fun t k => XS.dcmpS X1.here hx rfl (hb hby own_d_prog_1_method_1_34) rfl rfl k) ?_
  show own_E p e below _ T1 (mkF m 35 #[rv a1, .val (.double d1), .second, .val (.double d2), .second, .unset, .unset] [.int (cmpValue (FP.dcmp d2 (0 : UInt64)) .l)])
  refine own_st (fun t k => XS.ifNo X1.here hx rfl (hb hby own_d_prog_1_method_1_35) rfl ((if0 _ _).trans (flt hd3).1) k) ?_
  show own_E p e below _ T1 (mkF m 38 #[rv a1, .val (.double d1), .second, .val (.double d2), .second, .unset, .unset] [])
  refine own_st (fun t k => XS.dloadN X1.here hx rfl (hb hby own_d_prog_1_method_1_38) rfl k) ?_
  show own_E p e below _ T1 (mkF m 39 #[rv a1, .val (.double d1), .second, .val (.double d2), .second, .unset, .unset] [.double d2])
  refine own_st (fun t k => XS.dconst1 X1.here hx rfl (hb hby own_d_prog_1_method_1_39) rfl k) ?_
  show own_E p e below _ T1 (mkF m 40 #[rv a1, .val (.double d1), .second, .val (.double d2), .second, .unset, .unset] [.double 4607182418800017408, .double d2])
  refine own_st (fun t k => XS.dcmpS X1.here hx rfl (hb hby own_d_prog_1_method_1_40) rfl rfl k) ?_
  show own_E p e below _ T1 (mkF m 41 #[rv a1, .val (.double d1), .second, .val (.double d2), .second, .unset, .unset] [.int (cmpValue (FP.dcmp d2 (4607182418800017408 : UInt64)) .g)])
  refine own_st (fun t k => XS.ifYes X1.here hx rfl (pc0 := 41) (pc' := 58) rfl (hb hby own_d_prog_1_method_1_41) rfl ((if0 _ _).trans (flt hd4).2.2.2) (by decide) (by decide) k) ?_
  show own_E p e below _ T1 (mkF m 58 #[rv a1, .val (.double d1), .second, .val (.double d2), .second, .unset, .unset] [])
  refine own_st (fun t k => XS.aloadN X1.here hx rfl (hb hby own_d_prog_1_method_1_58) rfl rfl k) ?_
  show own_E p e below _ T1 (mkF m 59 #[rv a1, .val (.double d1), .second, .val (.double d2), .second, .unset, .unset] [.ref a1])
  refine own_st (fun t k => XS.dloadN X1.here hx rfl (hb hby own_d_prog_1_method_1_59) rfl k) ?_
  show own_E p e below _ T1 (mkF m 60 #[rv a1, .val (.double d1), .second, .val (.double d2), .second, .unset, .unset] [.double d1, .ref a1])
  obtain ⟨T2, h2, X2, e2, W2, st2⟩ := putF X1 hx hZ hown (host := "") (Or.inl (own_w hw 27 rfl)) Via.refl e1 F_k1_a1 E_a1 (Or.inr ⟨(own_w hw 28 rfl), rfl, hnm⟩) (own_w hw 9 rfl) (ty := .double) (by decide) rfl rfl (g := (mkF m 60 #[rv a1, .val (.double d1), .second, .val (.double d2), .second, .unset, .unset] [.double d1, .ref a1])) rfl rfl (hb hby own_d_prog_1_method_1_60)
  have N2 := Fr.snoc X2 N1 g_a1
  have Fw2 := F_k1_a1.same W2
  have Z3 := Nat.le_trans Z0 (Keep.of_wr W2).1
  have K4 : Keep h0 _ [a1] := (Keep.refl h0 [a1]).wr W2 (Or.inl (List.mem_of_getElem? (i := 0) rfl))
  refine own_st st2 ?_
  show own_E p e below _ T2 (mkF m 63 #[rv a1, .val (.double d1), .second, .val (.double d2), .second, .unset, .unset] [])
  refine own_st (fun t k => XS.aloadN X2.here hx rfl (hb hby own_d_prog_1_method_1_63) rfl rfl k) ?_
  show own_E p e below _ T2 (mkF m 64 #[rv a1, .val (.double d1), .second, .val (.double d2), .second, .unset, .unset] [.ref a1])
  refine own_st (fun t k => XS.dloadN X2.here hx rfl (hb hby own_d_prog_1_method_1_64) rfl k) ?_
  show own_E p e below _ T2 (mkF m 65 #[rv a1, .val (.double d1), .second, .val (.double d2), .second, .unset, .unset] [.double d2, .ref a1])
  have B6 := (F_b_a1.other W2 (Or.inr (slot_ne (Or.inr (own_w hw 30 rfl)) (Or.inr (own_w hw 28 rfl)) (by decide) (t := .double) (t' := .double) (by decide) (by decide))))
  have B7 := (E_a1.wr W2)
  obtain ⟨T5, h5, X5, e5, W5, st5⟩ := putF X2 hx hZ hown (host := "") (Or.inl (own_w hw 29 rfl)) Via.refl e2 B6 B7 (Or.inr ⟨(own_w hw 30 rfl), rfl, hnm⟩) (own_w hw 9 rfl) (ty := .double) (by decide) rfl rfl (g := (mkF m 65 #[rv a1, .val (.double d1), .second, .val (.double d2), .second, .unset, .unset] [.double d2, .ref a1])) rfl rfl (hb hby own_d_prog_1_method_1_65)
  have N5 := Fr.snoc X5 N2 g_a1
  have Fw5 := B6.same W5
  have Z8 := Nat.le_trans Z3 (Keep.of_wr W5).1
  have K9 : Keep h0 _ [a1] := K4.wr W5 (Or.inl (List.mem_of_getElem? (i := 0) rfl))
  refine own_st st5 ?_
  show own_E p e below _ T5 (mkF m 68 #[rv a1, .val (.double d1), .second, .val (.double d2), .second, .unset, .unset] [])
  refine own_st (fun t k => XS.dconst1 X5.here hx rfl (hb hby own_d_prog_1_method_1_68) rfl k) ?_
  show own_E p e below _ T5 (mkF m 69 #[rv a1, .val (.double d1), .second, .val (.double d2), .second, .unset, .unset] [.double 4607182418800017408])
  refine own_st (fun t k => XS.dloadN X5.here hx rfl (hb hby own_d_prog_1_method_1_69) rfl k) ?_
  show own_E p e below _ T5 (mkF m 70 #[rv a1, .val (.double d1), .second, .val (.double d2), .second, .unset, .unset] [.double d1, .double 4607182418800017408])
  obtain ⟨T10, X10, e10, st10⟩ := natS X5 hx hZ (y := own_y4) hown (own_w hw 31 rfl) (own_w hw 32 rfl) (own_w hw 33 rfl) (by0 := Jvm.Free.Fl.Abs.maxDCode) (own_w hw 34 rfl) (by decide) e5 (W := 0) (F := fun a' => a' = #[.double (4607182418800017408 : UInt64), .double d1] ∧ Jvm.Free.Fl.NoNaN64 (4607182418800017408 : UInt64) ∧ Jvm.Free.Fl.NoNaN64 d1) (val := .double (Native.java_lang_Math.nans.pick64 true 4607182418800017408 d1)) (val' := .double (own_maxD d1)) (fun hc => Jvm.Free.Fl.Abs.maxD_pays _ _ hc (by decide) (by decide)) (g := (mkF m 70 #[rv a1, .val (.double d1), .second, .val (.double d2), .second, .unset, .unset] [.double d1, .double 4607182418800017408])) rfl (by rw [hml]; rfl) (argsL := [.double (4607182418800017408 : UInt64), .double d1]) (rest := []) (lenOf own_pd_3 rfl) rfl (by show 2 * 0 + _ ≤ _; exact Nat.le_of_eq rfl) (hb hby own_d_prog_1_method_1_70) (by decide) (by decide) ⟨rfl, (by decide : (4607182418800017408 : UInt64) &&& 0x7fffffffffffffff ≤ 0x7ff0000000000000), hn0⟩ rfl
  refine own_st st10 ?_
  show own_E p e below _ T10 (mkF m 73 #[rv a1, .val (.double d1), .second, .val (.double d2), .second, .unset, .unset] [.double (own_maxD d1)])
  refine own_st (fun t k => XS.dstore X10.here hx rfl (hb hby own_d_prog_1_method_1_73) rfl (l' := #[rv a1, .val (.double d1), .second, .val (.double d2), .second, .val (.double (own_maxD d1)), .second]) rfl k) ?_
  show own_E p e below _ T10 (mkF m 75 #[rv a1, .val (.double d1), .second, .val (.double d2), .second, .val (.double (own_maxD d1)), .second] [])
  refine own_st (fun t k => XS.aloadN X10.here hx rfl (hb hby own_d_prog_1_method_1_75) rfl rfl k) ?_
  show own_E p e below _ T10 (mkF m 76 #[rv a1, .val (.double d1), .second, .val (.double d2), .second, .val (.double (own_maxD d1)), .second] [.ref a1])
  refine own_st (fun t k => XS.dloadN X10.here hx rfl (hb hby own_d_prog_1_method_1_76) rfl k) ?_
  show own_E p e below _ T10 (mkF m 77 #[rv a1, .val (.double d1), .second, .val (.double d2), .second, .val (.double (own_maxD d1)), .second] [.double d1, .ref a1])
  refine own_st (fun t k => XS.dconst1 X10.here hx rfl (hb hby own_d_prog_1_method_1_77) rfl k) ?_
  show own_E p e below _ T10 (mkF m 78 #[rv a1, .val (.double d1), .second, .val (.double d2), .second, .val (.double (own_maxD d1)), .second] [.double 4607182418800017408, .double d1, .ref a1])
  refine own_st (fun t k => XS.daddS X10.here hx rfl (hb hby own_d_prog_1_method_1_78) rfl hn1 rfl k) ?_
  show own_E p e below _ T10 (mkF m 79 #[rv a1, .val (.double d1), .second, .val (.double d2), .second, .val (.double (own_maxD d1)), .second] [.double (FP.dadd d1 (4607182418800017408 : UInt64)), .ref a1])
  refine own_st (fun t k => XS.dload X10.here hx rfl (hb hby own_d_prog_1_method_1_79) rfl k) ?_
  show own_E p e below _ T10 (mkF m 81 #[rv a1, .val (.double d1), .second, .val (.double d2), .second, .val (.double (own_maxD d1)), .second] [.double (own_maxD d1), .double (FP.dadd d1 (4607182418800017408 : UInt64)), .ref a1])
  refine own_st (fun t k => XS.ddivS X10.here hx rfl (hb hby own_d_prog_1_method_1_81) rfl hn2 rfl k) ?_
  show own_E p e below _ T10 (mkF m 82 #[rv a1, .val (.double d1), .second, .val (.double d2), .second, .val (.double (own_maxD d1)), .second] [.double (FP.ddiv (FP.dadd d1 (4607182418800017408 : UInt64)) (own_maxD d1)), .ref a1])
  have B12 := ((F_numeratorFactor_a1.other W2 (Or.inr (slot_ne (Or.inr (own_w hw 36 rfl)) (Or.inr (own_w hw 28 rfl)) (by decide) (t := .double) (t' := .double) (by decide) (by decide)))).other W5 (Or.inr (slot_ne (Or.inr (own_w hw 36 rfl)) (Or.inr (own_w hw 30 rfl)) (by decide) (t := .double) (t' := .double) (by decide) (by decide))))
  have B13 := (B7.wr W5)
  obtain ⟨T11, h11, X11, e11, W11, st11⟩ := putF X10 hx hZ hown (host := "") (Or.inl (own_w hw 35 rfl)) Via.refl e10 B12 B13 (Or.inr ⟨(own_w hw 36 rfl), rfl, hnm⟩) (own_w hw 9 rfl) (ty := .double) (by decide) rfl rfl (g := (mkF m 82 #[rv a1, .val (.double d1), .second, .val (.double d2), .second, .val (.double (own_maxD d1)), .second] [.double (FP.ddiv (FP.dadd d1 (4607182418800017408 : UInt64)) (own_maxD d1)), .ref a1])) rfl rfl (hb hby own_d_prog_1_method_1_82)
  have N11 := Fr.snoc X11 N5 g_a1
  have Fw11 := B12.same W11
  have Z14 := Nat.le_trans Z8 (Keep.of_wr W11).1
  have K15 : Keep h0 _ [a1] := K9.wr W11 (Or.inl (List.mem_of_getElem? (i := 0) rfl))
  refine own_st st11 ?_
  show own_E p e below _ T11 (mkF m 85 #[rv a1, .val (.double d1), .second, .val (.double d2), .second, .val (.double (own_maxD d1)), .second] [])
  refine own_st (fun t k => XS.aloadN X11.here hx rfl (hb hby own_d_prog_1_method_1_85) rfl rfl k) ?_
  show own_E p e below _ T11 (mkF m 86 #[rv a1, .val (.double d1), .second, .val (.double d2), .second, .val (.double (own_maxD d1)), .second] [.ref a1])
  refine own_st (fun t k => XS.dconst1 X11.here hx rfl (hb hby own_d_prog_1_method_1_86) rfl k) ?_
  show own_E p e below _ T11 (mkF m 87 #[rv a1, .val (.double d1), .second, .val (.double d2), .second, .val (.double (own_maxD d1)), .second] [.double 4607182418800017408, .ref a1])
  refine own_st (fun t k => XS.dload X11.here hx rfl (hb hby own_d_prog_1_method_1_87) rfl k) ?_
  show own_E p e below _ T11 (mkF m 89 #[rv a1, .val (.double d1), .second, .val (.double d2), .second, .val (.double (own_maxD d1)), .second] [.double (own_maxD d1), .double 4607182418800017408, .ref a1])
  refine own_st (fun t k => XS.ddivS X11.here hx rfl (hb hby own_d_prog_1_method_1_89) rfl hn3 rfl k) ?_
  show own_E p e below _ T11 (mkF m 90 #[rv a1, .val (.double d1), .second, .val (.double d2), .second, .val (.double (own_maxD d1)), .second] [.double (FP.ddiv (4607182418800017408 : UInt64) (own_maxD d1)), .ref a1])
  have B17 := (((F_frequencyFactor_a1.other W2 (Or.inr (slot_ne (Or.inr (own_w hw 38 rfl)) (Or.inr (own_w hw 28 rfl)) (by decide) (t := .double) (t' := .double) (by decide) (by decide)))).other W5 (Or.inr (slot_ne (Or.inr (own_w hw 38 rfl)) (Or.inr (own_w hw 30 rfl)) (by decide) (t := .double) (t' := .double) (by decide) (by decide)))).other W11 (Or.inr (slot_ne (Or.inr (own_w hw 38 rfl)) (Or.inr (own_w hw 36 rfl)) (by decide) (t := .double) (t' := .double) (by decide) (by decide))))
  have B18 := (B13.wr W11)
  obtain ⟨T16, h16, X16, e16, W16, st16⟩ := putF X11 hx hZ hown (host := "") (Or.inl (own_w hw 37 rfl)) Via.refl e11 B17 B18 (Or.inr ⟨(own_w hw 38 rfl), rfl, hnm⟩) (own_w hw 9 rfl) (ty := .double) (by decide) rfl rfl (g := (mkF m 90 #[rv a1, .val (.double d1), .second, .val (.double d2), .second, .val (.double (own_maxD d1)), .second] [.double (FP.ddiv (4607182418800017408 : UInt64) (own_maxD d1)), .ref a1])) rfl rfl (hb hby own_d_prog_1_method_1_90)
  have N16 := Fr.snoc X16 N11 g_a1
  have Fw16 := B17.same W16
  have Z19 := Nat.le_trans Z14 (Keep.of_wr W16).1
  have K20 : Keep h0 _ [a1] := K15.wr W16 (Or.inl (List.mem_of_getElem? (i := 0) rfl))
  refine own_st st16 ?_
  show own_E p e below _ T16 (mkF m 93 #[rv a1, .val (.double d1), .second, .val (.double d2), .second, .val (.double (own_maxD d1)), .second] [])
  refine own_st (fun t k => XS.aloadN X16.here hx rfl (hb hby own_d_prog_1_method_1_93) rfl rfl k) ?_
  show own_E p e below _ T16 (mkF m 94 #[rv a1, .val (.double d1), .second, .val (.double d2), .second, .val (.double (own_maxD d1)), .second] [.ref a1])
  refine own_st (fun t k => XS.dloadN X16.here hx rfl (hb hby own_d_prog_1_method_1_94) rfl k) ?_
  show own_E p e below _ T16 (mkF m 95 #[rv a1, .val (.double d1), .second, .val (.double d2), .second, .val (.double (own_maxD d1)), .second] [.double d1, .ref a1])
  refine own_st (fun t k => XS.dload X16.here hx rfl (hb hby own_d_prog_1_method_1_95) rfl k) ?_
  show own_E p e below _ T16 (mkF m 97 #[rv a1, .val (.double d1), .second, .val (.double d2), .second, .val (.double (own_maxD d1)), .second] [.double (own_maxD d1), .double d1, .ref a1])
  refine own_st (fun t k => XS.ddivS X16.here hx rfl (hb hby own_d_prog_1_method_1_97) rfl hn4 rfl k) ?_
  show own_E p e below _ T16 (mkF m 98 #[rv a1, .val (.double d1), .second, .val (.double d2), .second, .val (.double (own_maxD d1)), .second] [.double (FP.ddiv d1 (own_maxD d1)), .ref a1])
  have B22 := ((((F_normFactor_a1.other W2 (Or.inr (slot_ne (Or.inr (own_w hw 40 rfl)) (Or.inr (own_w hw 28 rfl)) (by decide) (t := .double) (t' := .double) (by decide) (by decide)))).other W5 (Or.inr (slot_ne (Or.inr (own_w hw 40 rfl)) (Or.inr (own_w hw 30 rfl)) (by decide) (t := .double) (t' := .double) (by decide) (by decide)))).other W11 (Or.inr (slot_ne (Or.inr (own_w hw 40 rfl)) (Or.inr (own_w hw 36 rfl)) (by decide) (t := .double) (t' := .double) (by decide) (by decide)))).other W16 (Or.inr (slot_ne (Or.inr (own_w hw 40 rfl)) (Or.inr (own_w hw 38 rfl)) (by decide) (t := .double) (t' := .double) (by decide) (by decide))))
  have B23 := (B18.wr W16)
  obtain ⟨T21, h21, X21, e21, W21, st21⟩ := putF X16 hx hZ hown (host := "") (Or.inl (own_w hw 39 rfl)) Via.refl e16 B22 B23 (Or.inr ⟨(own_w hw 40 rfl), rfl, hnm⟩) (own_w hw 9 rfl) (ty := .double) (by decide) rfl rfl (g := (mkF m 98 #[rv a1, .val (.double d1), .second, .val (.double d2), .second, .val (.double (own_maxD d1)), .second] [.double (FP.ddiv d1 (own_maxD d1)), .ref a1])) rfl rfl (hb hby own_d_prog_1_method_1_98)
  have N21 := Fr.snoc X21 N16 g_a1
  have Fw21 := B22.same W21
  have Z24 := Nat.le_trans Z19 (Keep.of_wr W21).1
  have K25 : Keep h0 _ [a1] := K20.wr W21 (Or.inl (List.mem_of_getElem? (i := 0) rfl))
  refine own_st st21 ?_
  show own_E p e below _ T21 (mkF m 101 #[rv a1, .val (.double d1), .second, .val (.double d2), .second, .val (.double (own_maxD d1)), .second] [])
  refine own_retV X21 hx Bd.notSynchronized Bd.returns (hb hby own_d_prog_1_method_1_101) (by decide) (by decide) ?_
  have B26 := (B23.wr W21)
  have B27 := ((((Fw2.other W5 (Or.inr (slot_ne (Or.inr (own_w hw 28 rfl)) (Or.inr (own_w hw 30 rfl)) (by decide) (t := .double) (t' := .double) (by decide) (by decide)))).other W11 (Or.inr (slot_ne (Or.inr (own_w hw 28 rfl)) (Or.inr (own_w hw 36 rfl)) (by decide) (t := .double) (t' := .double) (by decide) (by decide)))).other W16 (Or.inr (slot_ne (Or.inr (own_w hw 28 rfl)) (Or.inr (own_w hw 38 rfl)) (by decide) (t := .double) (t' := .double) (by decide) (by decide)))).other W21 (Or.inr (slot_ne (Or.inr (own_w hw 28 rfl)) (Or.inr (own_w hw 40 rfl)) (by decide) (t := .double) (t' := .double) (by decide) (by decide))))
  have B28 := (((Fw5.other W11 (Or.inr (slot_ne (Or.inr (own_w hw 30 rfl)) (Or.inr (own_w hw 36 rfl)) (by decide) (t := .double) (t' := .double) (by decide) (by decide)))).other W16 (Or.inr (slot_ne (Or.inr (own_w hw 30 rfl)) (Or.inr (own_w hw 38 rfl)) (by decide) (t := .double) (t' := .double) (by decide) (by decide)))).other W21 (Or.inr (slot_ne (Or.inr (own_w hw 30 rfl)) (Or.inr (own_w hw 40 rfl)) (by decide) (t := .double) (t' := .double) (by decide) (by decide))))
  show own_init_Q Z a1 d1 d2 h0 n0 _ T21.heap _
  rw [e21]
  exact ⟨rfl, N21, K25, B26, B27, B28⟩
theorem own_d_jdk_117_method_6_0 : decode jdk_117_method_6_code 0 = .ok (.dload_n 0, 1) := by decide +kernel
theorem own_d_jdk_117_method_6_1 : decode jdk_117_method_6_code 1 = .ok (.dload_n 0, 1) := by decide +kernel
theorem own_d_jdk_117_method_6_2 : decode jdk_117_method_6_code 2 = .ok (.dcmp .l, 1) := by decide +kernel
theorem own_d_jdk_117_method_6_3 : decode jdk_117_method_6_code 3 = .ok (.ifCond .eq 7, 3) := by decide +kernel
theorem own_d_jdk_117_method_6_10 : decode jdk_117_method_6_code 10 = .ok (.iconst 0, 1) := by decide +kernel
theorem own_d_jdk_117_method_6_11 : decode jdk_117_method_6_code 11 = .ok (.ireturn, 1) := by decide +kernel
def own_isnan_Q (d1 : UInt64) (h0 : Heap) (v : Option Value) (h : Heap) (L : List Loc) : Prop := ((v = some (.int (0 : Int32)))) ∧ h = h0 ∧ L = []
abbrev own_y6 : MethodName := ⟨"java/lang/Double", "isNaN", "(D)Z"⟩
theorem own_pn_Double : plainName "java/lang/Double" = true := by first | (simp [plainName, overriddenIn]; done) | decide +kernel
theorem own_isnan_ef (m : MethodId) (d1 : UInt64) : entryFrame m #[(.double d1)] 2 = mkF m 0 #[.val (.double d1), .second] [] := by first | (simp [entryFrame, mkF, argsToLocals, Value.category]; done) | rfl
set_option maxRecDepth 65536 in
set_option maxHeartbeats 40000000 in
theorem own_isnan (l : Launch) (Z : State) (a0 : Array Value) (hw : ∀ d ∈ tables_1, d.before a0 Z = true) (ws : List Jvm.Cond) (d1 : UInt64) (h0 : Heap) (n0 : Nat) (Z0 : n0 ≤ h0.size) (hz1 : (cmpValue (FP.dcmp d1 d1) .l) = (0 : Int32)) :
    MetFree l own_y6 (head1 (Jvm.Cond.code own_y6 jdk_117_method_6_code 2 (some .boolean) :: ws) ({ frames := 0, cells := 0, slots := 0, locals := 0 } : Room)) (fun a U => a = #[(.double d1)] ∧ Z.Warmed39 U.vm ∧ U.heap = h0) (fun _ _ _ _ _ => True) (fun _ U o U' => ∃ v L, o = .returned v ∧ own_isnan_Q d1 h0 v U'.heap L ∧ FrameEnd U o U' L ({ frames := 0, cells := 0, slots := 0, locals := 0 } : Room).cells ({ frames := 0, cells := 0, slots := 0, locals := 0 } : Room).slots) := by
  refine MetFree.of_bodySF (plainFor_of_name own_pn_Double) hisR ?_
  intro p e s m args below meth c s₁ Bd hml0 hP hK
  obtain ⟨rfl, hZ, hh⟩ := hP
  have hx := Bd.exec
  have hby := Bd.bytes
  have hml : c.maxLocals = 2 := hml0
  have hown : s.vm.findClass "java/lang/Double" = some m.cls := findClass_of_methodNamed Bd.named
  have hnm := (name_of_methodNamed Bd.named Bd.method).1
  have X0 : Stand p l e ({ frames := 0, cells := 0, slots := 0, locals := 0 } : Room) s m #[(.double d1)] below meth c s₁ [] 0 0 := Stand.of_body Bd
  have e0 : s₁.heap = h0 := by rw [← hh, Bd.state]; rfl
  show own_E p e below (own_K (own_isnan_Q d1 h0) s ({ frames := 0, cells := 0, slots := 0, locals := 0 } : Room).cells ({ frames := 0, cells := 0, slots := 0, locals := 0 } : Room).slots) s₁ (entryFrame m #[(.double d1)] 2)
  refine own_pre (own_isnan_ef m d1) ?_
  show own_E p e below _ s₁ (mkF m 0 #[.val (.double d1), .second] [])
  refine own_st (fun t k => XS.dloadN X0.here hx rfl (hb hby own_d_jdk_117_method_6_0) rfl k) ?_
  show own_E p e below _ s₁ (mkF m 1 #[.val (.double d1), .second] [.double d1])
  refine own_st (fun t k => XS.dloadN X0.here hx rfl (hb hby own_d_jdk_117_method_6_1) rfl k) ?_
  show own_E p e below _ s₁ (mkF m 2 #[.val (.double d1), .second] [.double d1, .double d1])
  refine own_st (fun t k => XS.dcmpS X0.here hx rfl (hb hby own_d_jdk_117_method_6_2) rfl rfl k) ?_
  show own_E p e below _ s₁ (mkF m 3 #[.val (.double d1), .second] [.int (cmpValue (FP.dcmp d1 d1) .l)])
  refine own_st (fun t k => XS.ifYes X0.here hx rfl (pc0 := 3) (pc' := 10) rfl (hb hby own_d_jdk_117_method_6_3) rfl ((if0 _ _).trans (teq hz1).1) (by decide) (by decide) k) ?_
  show own_E p e below _ s₁ (mkF m 10 #[.val (.double d1), .second] [])
  refine own_st (fun t k => XS.iconst X0.here hx rfl (hb hby own_d_jdk_117_method_6_10) k) ?_
  show own_E p e below _ s₁ (mkF m 11 #[.val (.double d1), .second] [.int 0])
  refine own_retS X0 hx Bd.notSynchronized Bd.returns rfl (by decide) (hb hby own_d_jdk_117_method_6_11) (by decide) (by decide) ?_
  exact ⟨rfl, e0, rfl⟩
theorem own_d_jdk_117_method_23_0 : decode jdk_117_method_23_code 0 = .ok (.dload_n 0, 1) := by decide +kernel
theorem own_d_jdk_117_method_23_1 : decode jdk_117_method_23_code 1 = .ok (.invokestatic 122, 3) := by decide +kernel
theorem own_pd_2 : parseMethodDescriptor "(D)Z" = some ⟨[.double], some .boolean⟩ := by decide +kernel
theorem own_d_jdk_117_method_23_4 : decode jdk_117_method_23_code 4 = .ok (.ifCond .ne 8, 3) := by decide +kernel
theorem own_d_jdk_117_method_23_7 : decode jdk_117_method_23_code 7 = .ok (.dload_n 0, 1) := by decide +kernel
theorem own_d_jdk_117_method_23_8 : decode jdk_117_method_23_code 8 = .ok (.invokestatic 134, 3) := by decide +kernel
theorem own_d_jdk_117_method_23_11 : decode jdk_117_method_23_code 11 = .ok (.lreturn, 1) := by decide +kernel
def own_lbits_Q (d1 : UInt64) (h0 : Heap) (v : Option Value) (h : Heap) (L : List Loc) : Prop := ((v = some (.long d1.toInt64))) ∧ h = h0 ∧ L = []
abbrev own_y7 : MethodName := ⟨"java/lang/Double", "doubleToLongBits", "(D)J"⟩
theorem own_lbits_ef (m : MethodId) (d1 : UInt64) : entryFrame m #[(.double d1)] 2 = mkF m 0 #[.val (.double d1), .second] [] := by first | (simp [entryFrame, mkF, argsToLocals, Value.category]; done) | rfl
set_option maxRecDepth 65536 in
set_option maxHeartbeats 40000000 in
theorem own_lbits (l : Launch) (Z : State) (a0 : Array Value) (hw : ∀ d ∈ tables_1, d.before a0 Z = true) (ws : List Jvm.Cond) (d1 : UInt64) (h0 : Heap) (n0 : Nat) (Z0 : n0 ≤ h0.size) (hz1 : (cmpValue (FP.dcmp d1 d1) .l) = (0 : Int32)) :
    MetFree l own_y7 (head1 (Jvm.Cond.code own_y7 jdk_117_method_23_code 2 (some .long) :: ws) ({ frames := 1, cells := 0, slots := 0, locals := 40 } : Room)) (fun a U => a = #[(.double d1)] ∧ Z.Warmed39 U.vm ∧ U.heap = h0) (fun _ _ _ _ _ => True) (fun _ U o U' => ∃ v L, o = .returned v ∧ own_lbits_Q d1 h0 v U'.heap L ∧ FrameEnd U o U' L ({ frames := 1, cells := 0, slots := 0, locals := 40 } : Room).cells ({ frames := 1, cells := 0, slots := 0, locals := 40 } : Room).slots) := by
  refine MetFree.of_bodySF (plainFor_of_name own_pn_Double) hisR ?_
  intro p e s m args below meth c s₁ Bd hml0 hP hK
  obtain ⟨rfl, hZ, hh⟩ := hP
  have hx := Bd.exec
  have hby := Bd.bytes
  have hml : c.maxLocals = 2 := hml0
  have hown : s.vm.findClass "java/lang/Double" = some m.cls := findClass_of_methodNamed Bd.named
  have hnm := (name_of_methodNamed Bd.named Bd.method).1
  have X0 : Stand p l e ({ frames := 1, cells := 0, slots := 0, locals := 40 } : Room) s m #[(.double d1)] below meth c s₁ [] 0 0 := Stand.of_body Bd
  have e0 : s₁.heap = h0 := by rw [← hh, Bd.state]; rfl
  show own_E p e below (own_K (own_lbits_Q d1 h0) s ({ frames := 1, cells := 0, slots := 0, locals := 40 } : Room).cells ({ frames := 1, cells := 0, slots := 0, locals := 40 } : Room).slots) s₁ (entryFrame m #[(.double d1)] 2)
  refine own_pre (own_lbits_ef m d1) ?_
  show own_E p e below _ s₁ (mkF m 0 #[.val (.double d1), .second] [])
  refine own_st (fun t k => XS.dloadN X0.here hx rfl (hb hby own_d_jdk_117_method_23_0) rfl k) ?_
  show own_E p e below _ s₁ (mkF m 1 #[.val (.double d1), .second] [.double d1])
  obtain ⟨_, _, ⟨T1, L1, k1, n1⟩, -, X1, ⟨Lc1, hQ1, l1, y1, z1⟩, st1⟩ := Jvm.LawKit.callS X0 hx (y := own_y6) hown (mvT hZ (own_w hw 55 rfl)) (mvT hZ (own_w hw 56 rfl)) (mvT hZ (own_w hw 50 rfl)) (mvT hZ (own_w hw 57 rfl)) (by decide) (backOf (W := 0) (own_isnan l Z a0 hw [] d1 h0 n0 Z0 hz1) hZ (own_w hw 57 rfl) (own_w hw 50 rfl) (by decide) (by decide)) (g := (mkF m 1 #[.val (.double d1), .second] [.double d1])) rfl (by rw [hml]; rfl) (argsL := [(.double d1)]) (rest := []) (lenOf own_pd_2 rfl) rfl (by show 2 * 0 + _ ≤ _; exact Nat.le_of_eq rfl) (hb hby own_d_jdk_117_method_23_1) (fun _ _ => ⟨rfl, e0, (by decide : 0 + 0 ≤ _), (by decide : 0 + 0 ≤ _)⟩)
  dsimp only [Pt.U, Pt.locs, Pt.cells, Pt.slots] at X1 l1 y1 z1 st1 hQ1
  subst l1 y1 z1
  obtain ⟨hR1, e1, rfl⟩ := hQ1
  have N1 := Fr.app (Fr.nil n0) (Fr.nil n0)
  obtain rfl := hR1
  refine own_st st1 ?_
  show own_E p e below _ T1 (mkF m 4 #[.val (.double d1), .second] [.int 0])
  refine own_st (fun t k => XS.ifNo X1.here hx rfl (hb hby own_d_jdk_117_method_23_4) rfl (by decide) k) ?_
  show own_E p e below _ T1 (mkF m 7 #[.val (.double d1), .second] [])
  refine own_st (fun t k => XS.dloadN X1.here hx rfl (hb hby own_d_jdk_117_method_23_7) rfl k) ?_
  show own_E p e below _ T1 (mkF m 8 #[.val (.double d1), .second] [.double d1])
  obtain ⟨vm2, X2, st2⟩ := X1.doubleToRawLongBits hx hown (mvT hZ (own_w hw 58 rfl)) (mvT hZ (own_w hw 60 rfl)) (mvT hZ (own_w hw 59 rfl)) (mvT hZ (own_w hw 50 rfl)) (g := (mkF m 8 #[.val (.double d1), .second] [.double d1])) rfl (by rw [hml]; rfl) (rest := []) rfl (hb hby own_d_jdk_117_method_23_8) (by decide) (by show 2 * 0 + _ + _ ≤ _; decide)
  have e2 : (T1.setVm vm2).heap = h0 := e1
  refine own_st st2 ?_
  show own_E p e below _ (T1.setVm vm2) (mkF m 11 #[.val (.double d1), .second] [.long d1.toInt64])
  refine own_retJ X2 hx Bd.notSynchronized Bd.returns (hb hby own_d_jdk_117_method_23_11) (by decide) (by decide) ?_
  exact ⟨rfl, e2, rfl⟩
theorem own_d_jdk_117_method_27_0 : decode jdk_117_method_27_code 0 = .ok (.dload_n 0, 1) := by decide +kernel
theorem own_d_jdk_117_method_27_1 : decode jdk_117_method_27_code 1 = .ok (.dload_n 2, 1) := by decide +kernel
theorem own_d_jdk_117_method_27_2 : decode jdk_117_method_27_code 2 = .ok (.dcmp .g, 1) := by decide +kernel
theorem own_d_jdk_117_method_27_3 : decode jdk_117_method_27_code 3 = .ok (.ifCond .ge 5, 3) := by decide +kernel
theorem own_d_jdk_117_method_27_6 : decode jdk_117_method_27_code 6 = .ok (.iconst (-1), 1) := by decide +kernel
theorem own_d_jdk_117_method_27_7 : decode jdk_117_method_27_code 7 = .ok (.ireturn, 1) := by decide +kernel
theorem own_d_jdk_117_method_27_8 : decode jdk_117_method_27_code 8 = .ok (.dload_n 0, 1) := by decide +kernel
theorem own_d_jdk_117_method_27_9 : decode jdk_117_method_27_code 9 = .ok (.dload_n 2, 1) := by decide +kernel
theorem own_d_jdk_117_method_27_10 : decode jdk_117_method_27_code 10 = .ok (.dcmp .l, 1) := by decide +kernel
theorem own_d_jdk_117_method_27_11 : decode jdk_117_method_27_code 11 = .ok (.ifCond .le 5, 3) := by decide +kernel
theorem own_d_jdk_117_method_27_14 : decode jdk_117_method_27_code 14 = .ok (.iconst 1, 1) := by decide +kernel
theorem own_d_jdk_117_method_27_15 : decode jdk_117_method_27_code 15 = .ok (.ireturn, 1) := by decide +kernel
theorem own_d_jdk_117_method_27_16 : decode jdk_117_method_27_code 16 = .ok (.dload_n 0, 1) := by decide +kernel
theorem own_d_jdk_117_method_27_17 : decode jdk_117_method_27_code 17 = .ok (.invokestatic 46, 3) := by decide +kernel
theorem own_pd_1 : parseMethodDescriptor "(D)J" = some ⟨[.double], some .long⟩ := by decide +kernel
theorem own_d_jdk_117_method_27_20 : decode jdk_117_method_27_code 20 = .ok (.lstore 4, 2) := by decide +kernel
theorem own_d_jdk_117_method_27_22 : decode jdk_117_method_27_code 22 = .ok (.dload_n 2, 1) := by decide +kernel
theorem own_d_jdk_117_method_27_23 : decode jdk_117_method_27_code 23 = .ok (.invokestatic 46, 3) := by decide +kernel
theorem own_d_jdk_117_method_27_26 : decode jdk_117_method_27_code 26 = .ok (.lstore 6, 2) := by decide +kernel
theorem own_d_jdk_117_method_27_28 : decode jdk_117_method_27_code 28 = .ok (.lload 4, 2) := by decide +kernel
theorem own_d_jdk_117_method_27_30 : decode jdk_117_method_27_code 30 = .ok (.lload 6, 2) := by decide +kernel
theorem own_d_jdk_117_method_27_32 : decode jdk_117_method_27_code 32 = .ok (.lcmp, 1) := by decide +kernel
theorem own_d_jdk_117_method_27_33 : decode jdk_117_method_27_code 33 = .ok (.ifCond .ne 7, 3) := by decide +kernel
theorem own_d_jdk_117_method_27_36 : decode jdk_117_method_27_code 36 = .ok (.iconst 0, 1) := by decide +kernel
theorem own_d_jdk_117_method_27_37 : decode jdk_117_method_27_code 37 = .ok (.goto 16, 3) := by decide +kernel
theorem own_d_jdk_117_method_27_53 : decode jdk_117_method_27_code 53 = .ok (.ireturn, 1) := by decide +kernel
theorem own_d_jdk_117_method_27_40 : decode jdk_117_method_27_code 40 = .ok (.lload 4, 2) := by decide +kernel
theorem own_d_jdk_117_method_27_42 : decode jdk_117_method_27_code 42 = .ok (.lload 6, 2) := by decide +kernel
theorem own_d_jdk_117_method_27_44 : decode jdk_117_method_27_code 44 = .ok (.lcmp, 1) := by decide +kernel
theorem own_d_jdk_117_method_27_45 : decode jdk_117_method_27_code 45 = .ok (.ifCond .ge 7, 3) := by decide +kernel
theorem own_d_jdk_117_method_27_48 : decode jdk_117_method_27_code 48 = .ok (.iconst (-1), 1) := by decide +kernel
theorem own_d_jdk_117_method_27_49 : decode jdk_117_method_27_code 49 = .ok (.goto 4, 3) := by decide +kernel
theorem own_d_jdk_117_method_27_52 : decode jdk_117_method_27_code 52 = .ok (.iconst 1, 1) := by decide +kernel
def own_cmpD (d1 : UInt64) (d2 : UInt64) : Int32 := (if (cmpValue (FP.dcmp d1 d2) .g) < (0 : Int32) then (-1 : Int32) else (if (0 : Int32) < (cmpValue (FP.dcmp d1 d2) .l) then (1 : Int32) else (if d1.toInt64 = d2.toInt64 then (0 : Int32) else (if d1.toInt64 < d2.toInt64 then (-1 : Int32) else (1 : Int32)))))
def own_rcmp_Q (d1 : UInt64) (d2 : UInt64) (h0 : Heap) (v : Option Value) (h : Heap) (L : List Loc) : Prop := v = some (.int (own_cmpD d1 d2)) ∧ h = h0 ∧ L = []
abbrev own_y8 : MethodName := ⟨"java/lang/Double", "compare", "(DD)I"⟩
theorem own_rcmp_ef (m : MethodId) (d1 : UInt64) (d2 : UInt64) : entryFrame m #[(.double d1), (.double d2)] 8 = mkF m 0 #[.val (.double d1), .second, .val (.double d2), .second, .unset, .unset, .unset, .unset] [] := by first | (simp [entryFrame, mkF, argsToLocals, Value.category]; done) | rfl
set_option maxRecDepth 65536 in
set_option maxHeartbeats 40000000 in
theorem own_rcmp (l : Launch) (Z : State) (a0 : Array Value) (hw : ∀ d ∈ tables_1, d.before a0 Z = true) (ws : List Jvm.Cond) (d1 : UInt64) (d2 : UInt64) (h0 : Heap) (n0 : Nat) (Z0 : n0 ≤ h0.size) (hz1 : (cmpValue (FP.dcmp d1 d1) .l) = (0 : Int32)) (hz2 : (cmpValue (FP.dcmp d2 d2) .l) = (0 : Int32)) :
    MetFree l own_y8 (head1 (Jvm.Cond.code own_y8 jdk_117_method_27_code 8 (some .int) :: ws) ({ frames := 2, cells := 0, slots := 0, locals := 53 } : Room)) (fun a U => a = #[(.double d1), (.double d2)] ∧ Z.Warmed39 U.vm ∧ U.heap = h0) (fun _ _ _ _ _ => True) (fun _ U o U' => ∃ v L, o = .returned v ∧ own_rcmp_Q d1 d2 h0 v U'.heap L ∧ FrameEnd U o U' L ({ frames := 2, cells := 0, slots := 0, locals := 53 } : Room).cells ({ frames := 2, cells := 0, slots := 0, locals := 53 } : Room).slots) := by
  refine MetFree.of_bodySF (plainFor_of_name own_pn_Double) hisR ?_
  intro p e s m args below meth c s₁ Bd hml0 hP hK
  obtain ⟨rfl, hZ, hh⟩ := hP
  have hx := Bd.exec
  have hby := Bd.bytes
  have hml : c.maxLocals = 8 := hml0
  have hown : s.vm.findClass "java/lang/Double" = some m.cls := findClass_of_methodNamed Bd.named
  have hnm := (name_of_methodNamed Bd.named Bd.method).1
  have X0 : Stand p l e ({ frames := 2, cells := 0, slots := 0, locals := 53 } : Room) s m #[(.double d1), (.double d2)] below meth c s₁ [] 0 0 := Stand.of_body Bd
  have e0 : s₁.heap = h0 := by rw [← hh, Bd.state]; rfl
  show own_E p e below (own_K (own_rcmp_Q d1 d2 h0) s ({ frames := 2, cells := 0, slots := 0, locals := 53 } : Room).cells ({ frames := 2, cells := 0, slots := 0, locals := 53 } : Room).slots) s₁ (entryFrame m #[(.double d1), (.double d2)] 8)
  refine own_pre (own_rcmp_ef m d1 d2) ?_
  show own_E p e below _ s₁ (mkF m 0 #[.val (.double d1), .second, .val (.double d2), .second, .unset, .unset, .unset, .unset] [])
  refine own_st (fun t k => XS.dloadN X0.here hx rfl (hb hby own_d_jdk_117_method_27_0) rfl k) ?_
  show own_E p e below _ s₁ (mkF m 1 #[.val (.double d1), .second, .val (.double d2), .second, .unset, .unset, .unset, .unset] [.double d1])
  refine own_st (fun t k => XS.dloadN X0.here hx rfl (hb hby own_d_jdk_117_method_27_1) rfl k) ?_
  show own_E p e below _ s₁ (mkF m 2 #[.val (.double d1), .second, .val (.double d2), .second, .unset, .unset, .unset, .unset] [.double d2, .double d1])
  refine own_st (fun t k => XS.dcmpS X0.here hx rfl (hb hby own_d_jdk_117_method_27_2) rfl rfl k) ?_
  show own_E p e below _ s₁ (mkF m 3 #[.val (.double d1), .second, .val (.double d2), .second, .unset, .unset, .unset, .unset] [.int (cmpValue (FP.dcmp d1 d2) .g)])
  by_cases hc1 : (cmpValue (FP.dcmp d1 d2) .g) < (0 : Int32)
  · refine own_st (fun t k => XS.ifNo X0.here hx rfl (hb hby own_d_jdk_117_method_27_3) rfl ((if0 _ _).trans (tlt hc1).2.1) k) ?_
    show own_E p e below _ s₁ (mkF m 6 #[.val (.double d1), .second, .val (.double d2), .second, .unset, .unset, .unset, .unset] [])
    refine own_st (fun t k => XS.iconst X0.here hx rfl (hb hby own_d_jdk_117_method_27_6) k) ?_
    show own_E p e below _ s₁ (mkF m 7 #[.val (.double d1), .second, .val (.double d2), .second, .unset, .unset, .unset, .unset] [.int (-1)])
    refine own_retI X0 hx Bd.notSynchronized Bd.returns (hb hby own_d_jdk_117_method_27_7) (by decide) (by decide) ?_
    exact ⟨by rw [own_cmpD, if_pos hc1], e0, rfl⟩
  · refine own_st (fun t k => XS.ifYes X0.here hx rfl (pc0 := 3) (pc' := 8) rfl (hb hby own_d_jdk_117_method_27_3) rfl ((if0 _ _).trans (flt hc1).2.1) (by decide) (by decide) k) ?_
    show own_E p e below _ s₁ (mkF m 8 #[.val (.double d1), .second, .val (.double d2), .second, .unset, .unset, .unset, .unset] [])
    refine own_st (fun t k => XS.dloadN X0.here hx rfl (hb hby own_d_jdk_117_method_27_8) rfl k) ?_
    show own_E p e below _ s₁ (mkF m 9 #[.val (.double d1), .second, .val (.double d2), .second, .unset, .unset, .unset, .unset] [.double d1])
    refine own_st (fun t k => XS.dloadN X0.here hx rfl (hb hby own_d_jdk_117_method_27_9) rfl k) ?_
    show own_E p e below _ s₁ (mkF m 10 #[.val (.double d1), .second, .val (.double d2), .second, .unset, .unset, .unset, .unset] [.double d2, .double d1])
    refine own_st (fun t k => XS.dcmpS X0.here hx rfl (hb hby own_d_jdk_117_method_27_10) rfl rfl k) ?_
    show own_E p e below _ s₁ (mkF m 11 #[.val (.double d1), .second, .val (.double d2), .second, .unset, .unset, .unset, .unset] [.int (cmpValue (FP.dcmp d1 d2) .l)])
    by_cases hc2 : (0 : Int32) < (cmpValue (FP.dcmp d1 d2) .l)
    · refine own_st (fun t k => XS.ifNo X0.here hx rfl (hb hby own_d_jdk_117_method_27_11) rfl ((if0 _ _).trans (tlt hc2).2.2.2) k) ?_
      show own_E p e below _ s₁ (mkF m 14 #[.val (.double d1), .second, .val (.double d2), .second, .unset, .unset, .unset, .unset] [])
      refine own_st (fun t k => XS.iconst X0.here hx rfl (hb hby own_d_jdk_117_method_27_14) k) ?_
      show own_E p e below _ s₁ (mkF m 15 #[.val (.double d1), .second, .val (.double d2), .second, .unset, .unset, .unset, .unset] [.int 1])
      refine own_retI X0 hx Bd.notSynchronized Bd.returns (hb hby own_d_jdk_117_method_27_15) (by decide) (by decide) ?_
      exact ⟨by rw [own_cmpD, if_neg hc1, if_pos hc2], e0, rfl⟩
    · refine own_st (fun t k => XS.ifYes X0.here hx rfl (pc0 := 11) (pc' := 16) rfl (hb hby own_d_jdk_117_method_27_11) rfl ((if0 _ _).trans (flt hc2).2.2.2) (by decide) (by decide) k) ?_
      show own_E p e below _ s₁ (mkF m 16 #[.val (.double d1), .second, .val (.double d2), .second, .unset, .unset, .unset, .unset] [])
      refine own_st (fun t k => XS.dloadN X0.here hx rfl (hb hby own_d_jdk_117_method_27_16) rfl k) ?_
      show own_E p e below _ s₁ (mkF m 17 #[.val (.double d1), .second, .val (.double d2), .second, .unset, .unset, .unset, .unset] [.double d1])
      obtain ⟨_, _, ⟨T3, L3, k3, n3⟩, -, X3, ⟨Lc3, hQ3, l3, y3, z3⟩, st3⟩ := Jvm.LawKit.callS X0 hx (y := own_y7) hown (mvT hZ (own_w hw 52 rfl)) (mvT hZ (own_w hw 53 rfl)) (mvT hZ (own_w hw 50 rfl)) (mvT hZ (own_w hw 54 rfl)) (by decide) (backOf (W := 0) (own_lbits l Z a0 hw [] d1 h0 n0 Z0 hz1) hZ (own_w hw 54 rfl) (own_w hw 50 rfl) (by decide) (by decide)) (g := (mkF m 17 #[.val (.double d1), .second, .val (.double d2), .second, .unset, .unset, .unset, .unset] [.double d1])) rfl (by rw [hml]; rfl) (argsL := [(.double d1)]) (rest := []) (lenOf own_pd_1 rfl) rfl (by show 2 * 0 + _ ≤ _; exact Nat.le_of_eq rfl) (hb hby own_d_jdk_117_method_27_17) (fun _ _ => ⟨rfl, e0, (by decide : 0 + 0 ≤ _), (by decide : 0 + 0 ≤ _)⟩)
      dsimp only [Pt.U, Pt.locs, Pt.cells, Pt.slots] at X3 l3 y3 z3 st3 hQ3
      subst l3 y3 z3
      obtain ⟨hR3, e3, rfl⟩ := hQ3
      have N3 := Fr.app (Fr.nil n0) (Fr.nil n0)
      obtain rfl := hR3
      refine own_st st3 ?_
      show own_E p e below _ T3 (mkF m 20 #[.val (.double d1), .second, .val (.double d2), .second, .unset, .unset, .unset, .unset] [.long d1.toInt64])
      refine own_st (fun t k => XS.lstore X3.here hx rfl (hb hby own_d_jdk_117_method_27_20) rfl (l' := #[.val (.double d1), .second, .val (.double d2), .second, .val (.long d1.toInt64), .second, .unset, .unset]) rfl k) ?_
      show own_E p e below _ T3 (mkF m 22 #[.val (.double d1), .second, .val (.double d2), .second, .val (.long d1.toInt64), .second, .unset, .unset] [])
      refine own_st (fun t k => XS.dloadN X3.here hx rfl (hb hby own_d_jdk_117_method_27_22) rfl k) ?_
      show own_E p e below _ T3 (mkF m 23 #[.val (.double d1), .second, .val (.double d2), .second, .val (.long d1.toInt64), .second, .unset, .unset] [.double d2])
      obtain ⟨_, _, ⟨T4, L4, k4, n4⟩, -, X4, ⟨Lc4, hQ4, l4, y4, z4⟩, st4⟩ := Jvm.LawKit.callS X3 hx (y := own_y7) hown (mvT hZ (own_w hw 52 rfl)) (mvT hZ (own_w hw 53 rfl)) (mvT hZ (own_w hw 50 rfl)) (mvT hZ (own_w hw 54 rfl)) (by decide) (backOf (W := 0) (own_lbits l Z a0 hw [] d2 h0 n0 Z0 hz2) hZ (own_w hw 54 rfl) (own_w hw 50 rfl) (by decide) (by decide)) (g := (mkF m 23 #[.val (.double d1), .second, .val (.double d2), .second, .val (.long d1.toInt64), .second, .unset, .unset] [.double d2])) rfl (by rw [hml]; rfl) (argsL := [(.double d2)]) (rest := []) (lenOf own_pd_1 rfl) rfl (by show 2 * 0 + _ ≤ _; exact Nat.le_of_eq rfl) (hb hby own_d_jdk_117_method_27_23) (fun _ _ => ⟨rfl, e3, (by decide : 0 + 0 ≤ _), (by decide : 0 + 0 ≤ _)⟩)
      dsimp only [Pt.U, Pt.locs, Pt.cells, Pt.slots] at X4 l4 y4 z4 st4 hQ4
      subst l4 y4 z4
      obtain ⟨hR4, e4, rfl⟩ := hQ4
      have N4 := Fr.app N3 (Fr.nil n0)
      obtain rfl := hR4
      refine own_st st4 ?_
      show own_E p e below _ T4 (mkF m 26 #[.val (.double d1), .second, .val (.double d2), .second, .val (.long d1.toInt64), .second, .unset, .unset] [.long d2.toInt64])
      refine own_st (fun t k => XS.lstore X4.here hx rfl (hb hby own_d_jdk_117_method_27_26) rfl (l' := #[.val (.double d1), .second, .val (.double d2), .second, .val (.long d1.toInt64), .second, .val (.long d2.toInt64), .second]) rfl k) ?_
      show own_E p e below _ T4 (mkF m 28 #[.val (.double d1), .second, .val (.double d2), .second, .val (.long d1.toInt64), .second, .val (.long d2.toInt64), .second] [])
      refine own_st (fun t k => XS.lload X4.here hx rfl (hb hby own_d_jdk_117_method_27_28) rfl k) ?_
      show own_E p e below _ T4 (mkF m 30 #[.val (.double d1), .second, .val (.double d2), .second, .val (.long d1.toInt64), .second, .val (.long d2.toInt64), .second] [.long d1.toInt64])
      refine own_st (fun t k => XS.lload X4.here hx rfl (hb hby own_d_jdk_117_method_27_30) rfl k) ?_
      show own_E p e below _ T4 (mkF m 32 #[.val (.double d1), .second, .val (.double d2), .second, .val (.long d1.toInt64), .second, .val (.long d2.toInt64), .second] [.long d2.toInt64, .long d1.toInt64])
      refine own_st (fun t k => XS.lcmp X4.here hx rfl (hb hby own_d_jdk_117_method_27_32) rfl k) ?_
      show own_E p e below _ T4 (mkF m 33 #[.val (.double d1), .second, .val (.double d2), .second, .val (.long d1.toInt64), .second, .val (.long d2.toInt64), .second] [.int (lcmpW d1.toInt64 d2.toInt64)])
      by_cases hc5 : d1.toInt64 = d2.toInt64
      · refine own_st (fun t k => XS.ifNo X4.here hx rfl (hb hby own_d_jdk_117_method_27_33) rfl ((if0 _ _).trans (teq ((lw_eq _ _).mpr hc5)).2) k) ?_
        show own_E p e below _ T4 (mkF m 36 #[.val (.double d1), .second, .val (.double d2), .second, .val (.long d1.toInt64), .second, .val (.long d2.toInt64), .second] [])
        refine own_st (fun t k => XS.iconst X4.here hx rfl (hb hby own_d_jdk_117_method_27_36) k) ?_
        show own_E p e below _ T4 (mkF m 37 #[.val (.double d1), .second, .val (.double d2), .second, .val (.long d1.toInt64), .second, .val (.long d2.toInt64), .second] [.int 0])
        refine own_st (fun t k => XS.goto X4.here hx rfl (pc0 := 37) (pc' := 53) rfl (hb hby own_d_jdk_117_method_27_37) (by decide) (by decide) k) ?_
        show own_E p e below _ T4 (mkF m 53 #[.val (.double d1), .second, .val (.double d2), .second, .val (.long d1.toInt64), .second, .val (.long d2.toInt64), .second] [.int 0])
        refine own_retI X4 hx Bd.notSynchronized Bd.returns (hb hby own_d_jdk_117_method_27_53) (by decide) (by decide) ?_
        exact ⟨by rw [own_cmpD, if_neg hc1, if_neg hc2, if_pos hc5], e4, rfl⟩
      · refine own_st (fun t k => XS.ifYes X4.here hx rfl (pc0 := 33) (pc' := 40) rfl (hb hby own_d_jdk_117_method_27_33) rfl ((if0 _ _).trans (feq (fun q => hc5 ((lw_eq _ _).mp q))).2) (by decide) (by decide) k) ?_
        show own_E p e below _ T4 (mkF m 40 #[.val (.double d1), .second, .val (.double d2), .second, .val (.long d1.toInt64), .second, .val (.long d2.toInt64), .second] [])
        refine own_st (fun t k => XS.lload X4.here hx rfl (hb hby own_d_jdk_117_method_27_40) rfl k) ?_
        show own_E p e below _ T4 (mkF m 42 #[.val (.double d1), .second, .val (.double d2), .second, .val (.long d1.toInt64), .second, .val (.long d2.toInt64), .second] [.long d1.toInt64])
        refine own_st (fun t k => XS.lload X4.here hx rfl (hb hby own_d_jdk_117_method_27_42) rfl k) ?_
        show own_E p e below _ T4 (mkF m 44 #[.val (.double d1), .second, .val (.double d2), .second, .val (.long d1.toInt64), .second, .val (.long d2.toInt64), .second] [.long d2.toInt64, .long d1.toInt64])
        refine own_st (fun t k => XS.lcmp X4.here hx rfl (hb hby own_d_jdk_117_method_27_44) rfl k) ?_
        show own_E p e below _ T4 (mkF m 45 #[.val (.double d1), .second, .val (.double d2), .second, .val (.long d1.toInt64), .second, .val (.long d2.toInt64), .second] [.int (lcmpW d1.toInt64 d2.toInt64)])
        by_cases hc6 : d1.toInt64 < d2.toInt64
        · refine own_st (fun t k => XS.ifNo X4.here hx rfl (hb hby own_d_jdk_117_method_27_45) rfl ((if0 _ _).trans (tlt ((lw_lt _ _).mpr hc6)).2.1) k) ?_
          show own_E p e below _ T4 (mkF m 48 #[.val (.double d1), .second, .val (.double d2), .second, .val (.long d1.toInt64), .second, .val (.long d2.toInt64), .second] [])
          refine own_st (fun t k => XS.iconst X4.here hx rfl (hb hby own_d_jdk_117_method_27_48) k) ?_
          show own_E p e below _ T4 (mkF m 49 #[.val (.double d1), .second, .val (.double d2), .second, .val (.long d1.toInt64), .second, .val (.long d2.toInt64), .second] [.int (-1)])
          refine own_st (fun t k => XS.goto X4.here hx rfl (pc0 := 49) (pc' := 53) rfl (hb hby own_d_jdk_117_method_27_49) (by decide) (by decide) k) ?_
          show own_E p e below _ T4 (mkF m 53 #[.val (.double d1), .second, .val (.double d2), .second, .val (.long d1.toInt64), .second, .val (.long d2.toInt64), .second] [.int (-1)])
          refine own_retI X4 hx Bd.notSynchronized Bd.returns (hb hby own_d_jdk_117_method_27_53) (by decide) (by decide) ?_
          exact ⟨by rw [own_cmpD, if_neg hc1, if_neg hc2, if_neg hc5, if_pos hc6], e4, rfl⟩
        · refine own_st (fun t k => XS.ifYes X4.here hx rfl (pc0 := 45) (pc' := 52) rfl (hb hby own_d_jdk_117_method_27_45) rfl ((if0 _ _).trans (flt (fun q => hc6 ((lw_lt _ _).mp q))).2.1) (by decide) (by decide) k) ?_
          show own_E p e below _ T4 (mkF m 52 #[.val (.double d1), .second, .val (.double d2), .second, .val (.long d1.toInt64), .second, .val (.long d2.toInt64), .second] [])
          refine own_st (fun t k => XS.iconst X4.here hx rfl (hb hby own_d_jdk_117_method_27_52) k) ?_
          show own_E p e below _ T4 (mkF m 53 #[.val (.double d1), .second, .val (.double d2), .second, .val (.long d1.toInt64), .second, .val (.long d2.toInt64), .second] [.int 1])
          refine own_retI X4 hx Bd.notSynchronized Bd.returns (hb hby own_d_jdk_117_method_27_53) (by decide) (by decide) ?_
          exact ⟨by rw [own_cmpD, if_neg hc1, if_neg hc2, if_neg hc5, if_neg hc6], e4, rfl⟩
theorem own_d_prog_1_method_16_0 : decode prog_1_method_16_code 0 = .ok (.aload_n 1, 1) := by decide +kernel
theorem own_d_prog_1_method_16_1 : decode prog_1_method_16_code 1 = .ok (.instanceof 22, 3) := by decide +kernel
theorem own_d_prog_1_method_16_4 : decode prog_1_method_16_code 4 = .ok (.ifCond .eq 41, 3) := by decide +kernel
theorem own_d_prog_1_method_16_7 : decode prog_1_method_16_code 7 = .ok (.aload_n 0, 1) := by decide +kernel
theorem own_d_prog_1_method_16_8 : decode prog_1_method_16_code 8 = .ok (.getfield 21, 3) := by decide +kernel
theorem own_d_prog_1_method_16_11 : decode prog_1_method_16_code 11 = .ok (.aload_n 1, 1) := by decide +kernel
theorem own_d_prog_1_method_16_12 : decode prog_1_method_16_code 12 = .ok (.checkcast 22, 3) := by decide +kernel
theorem own_d_prog_1_method_16_15 : decode prog_1_method_16_code 15 = .ok (.getfield 21, 3) := by decide +kernel
theorem own_d_prog_1_method_16_18 : decode prog_1_method_16_code 18 = .ok (.invokestatic 200, 3) := by decide +kernel
theorem own_pd_4 : parseMethodDescriptor "(DD)I" = some ⟨[.double, .double], some .int⟩ := by decide +kernel
theorem own_d_prog_1_method_16_21 : decode prog_1_method_16_code 21 = .ok (.ifCond .ne 24, 3) := by decide +kernel
theorem own_d_prog_1_method_16_24 : decode prog_1_method_16_code 24 = .ok (.aload_n 0, 1) := by decide +kernel
theorem own_d_prog_1_method_16_25 : decode prog_1_method_16_code 25 = .ok (.getfield 27, 3) := by decide +kernel
theorem own_d_prog_1_method_16_28 : decode prog_1_method_16_code 28 = .ok (.aload_n 1, 1) := by decide +kernel
theorem own_d_prog_1_method_16_29 : decode prog_1_method_16_code 29 = .ok (.checkcast 22, 3) := by decide +kernel
theorem own_d_prog_1_method_16_32 : decode prog_1_method_16_code 32 = .ok (.getfield 27, 3) := by decide +kernel
theorem own_d_prog_1_method_16_35 : decode prog_1_method_16_code 35 = .ok (.invokestatic 200, 3) := by decide +kernel
theorem own_d_prog_1_method_16_38 : decode prog_1_method_16_code 38 = .ok (.ifCond .ne 7, 3) := by decide +kernel
theorem own_d_prog_1_method_16_41 : decode prog_1_method_16_code 41 = .ok (.iconst 1, 1) := by decide +kernel
theorem own_d_prog_1_method_16_42 : decode prog_1_method_16_code 42 = .ok (.goto 4, 3) := by decide +kernel
theorem own_d_prog_1_method_16_46 : decode prog_1_method_16_code 46 = .ok (.ireturn, 1) := by decide +kernel
theorem own_d_prog_1_method_16_45 : decode prog_1_method_16_code 45 = .ok (.iconst 0, 1) := by decide +kernel
def own_eqT_Q (a1 : Addr) (a2 : Addr) (d1 : UInt64) (d2 : UInt64) (d3 : UInt64) (d4 : UInt64) (h0 : Heap) (v : Option Value) (h : Heap) (L : List Loc) : Prop := ((v = some (.int (1 : Int32)) ∧ (own_cmpD d1 d3) = (0 : Int32) ∧ (own_cmpD d2 d4) = (0 : Int32)) ∨ (v = some (.int (0 : Int32)) ∧ (own_cmpD d1 d3) = (0 : Int32) ∧ ¬ ((own_cmpD d2 d4) = (0 : Int32))) ∨ (v = some (.int (0 : Int32)) ∧ ¬ ((own_cmpD d1 d3) = (0 : Int32)))) ∧ h = h0 ∧ L = []
abbrev own_y9 : MethodName := ⟨"com/example/lean_scorer/leanscorer/Bm25", "equals", "(Ljava/lang/Object;)Z"⟩
theorem own_eqT_ef (m : MethodId) (a1 : Addr) (a2 : Addr) (d1 : UInt64) (d2 : UInt64) (d3 : UInt64) (d4 : UInt64) : entryFrame m #[(.ref a1), (.ref a2)] 2 = mkF m 0 #[.val (.ref a1), .val (.ref a2)] [] := by first | (simp [entryFrame, mkF, argsToLocals, Value.category]; done) | rfl
set_option maxRecDepth 65536 in
set_option maxHeartbeats 40000000 in
theorem own_eqT (l : Launch) (Z : State) (a0 : Array Value) (hw : ∀ d ∈ tables_1, d.before a0 Z = true) (ws : List Jvm.Cond) (a1 : Addr) (a2 : Addr) (d1 : UInt64) (d2 : UInt64) (d3 : UInt64) (d4 : UInt64) (h0 : Heap) (n0 : Nat) (Z0 : n0 ≤ h0.size) (E_a2 : Exa Z h0 a2 "com/example/lean_scorer/leanscorer/Bm25") (F_k1_a1 : Fld Z h0 a1 "com/example/lean_scorer/leanscorer/Bm25" "k1" "D" (.double d1)) (F_b_a1 : Fld Z h0 a1 "com/example/lean_scorer/leanscorer/Bm25" "b" "D" (.double d2)) (F_k1_a2 : Fld Z h0 a2 "com/example/lean_scorer/leanscorer/Bm25" "k1" "D" (.double d3)) (F_b_a2 : Fld Z h0 a2 "com/example/lean_scorer/leanscorer/Bm25" "b" "D" (.double d4)) (hz1 : (cmpValue (FP.dcmp d1 d1) .l) = (0 : Int32)) (hz2 : (cmpValue (FP.dcmp d2 d2) .l) = (0 : Int32)) (hz3 : (cmpValue (FP.dcmp d3 d3) .l) = (0 : Int32)) (hz4 : (cmpValue (FP.dcmp d4 d4) .l) = (0 : Int32)) :
    MetFree l own_y9 (head1 (Jvm.Cond.code own_y9 prog_1_method_16_code 2 (some .boolean) :: ws) ({ frames := 3, cells := 0, slots := 0, locals := 72 } : Room)) (fun a U => a = #[(.ref a1), (.ref a2)] ∧ Z.Warmed39 U.vm ∧ U.heap = h0) (fun _ _ _ _ _ => True) (fun _ U o U' => ∃ v L, o = .returned v ∧ own_eqT_Q a1 a2 d1 d2 d3 d4 h0 v U'.heap L ∧ FrameEnd U o U' L ({ frames := 3, cells := 0, slots := 0, locals := 72 } : Room).cells ({ frames := 3, cells := 0, slots := 0, locals := 72 } : Room).slots) := by
  refine MetFree.of_bodySF (plainFor_of_name own_pn_Bm25) hisR ?_
  intro p e s m args below meth c s₁ Bd hml0 hP hK
  obtain ⟨rfl, hZ, hh⟩ := hP
  have hx := Bd.exec
  have hby := Bd.bytes
  have hml : c.maxLocals = 2 := hml0
  have hown : s.vm.findClass "com/example/lean_scorer/leanscorer/Bm25" = some m.cls := findClass_of_methodNamed Bd.named
  have hnm := (name_of_methodNamed Bd.named Bd.method).1
  have X0 : Stand p l e ({ frames := 3, cells := 0, slots := 0, locals := 72 } : Room) s m #[(.ref a1), (.ref a2)] below meth c s₁ [] 0 0 := Stand.of_body Bd
  have e0 : s₁.heap = h0 := by rw [← hh, Bd.state]; rfl
  show own_E p e below (own_K (own_eqT_Q a1 a2 d1 d2 d3 d4 h0) s ({ frames := 3, cells := 0, slots := 0, locals := 72 } : Room).cells ({ frames := 3, cells := 0, slots := 0, locals := 72 } : Room).slots) s₁ (entryFrame m #[(.ref a1), (.ref a2)] 2)
  refine own_pre (own_eqT_ef m a1 a2 d1 d2 d3 d4) ?_
  show own_E p e below _ s₁ (mkF m 0 #[rv a1, rv a2] [])
  refine own_st (fun t k => XS.aloadN X0.here hx rfl (hb hby own_d_prog_1_method_16_0) rfl rfl k) ?_
  show own_E p e below _ s₁ (mkF m 1 #[rv a1, rv a2] [.ref a2])
  obtain ⟨T1, X1, e1, st1⟩ := instY X0 hx hZ hown (own_w hw 46 rfl) e0 (Ins.self E_a2) (g := (mkF m 1 #[rv a1, rv a2] [.ref a2])) rfl rfl (hb hby own_d_prog_1_method_16_1)
  refine own_st st1 ?_
  show own_E p e below _ T1 (mkF m 4 #[rv a1, rv a2] [.int 1])
  refine own_st (fun t k => XS.ifNo X1.here hx rfl (hb hby own_d_prog_1_method_16_4) rfl (by decide) k) ?_
  show own_E p e below _ T1 (mkF m 7 #[rv a1, rv a2] [])
  refine own_st (fun t k => XS.aloadN X1.here hx rfl (hb hby own_d_prog_1_method_16_7) rfl rfl k) ?_
  show own_E p e below _ T1 (mkF m 8 #[rv a1, rv a2] [.ref a1])
  obtain ⟨T2, X2, e2, st2⟩ := getF X1 hx hZ hown (host := "") (Or.inl (own_w hw 27 rfl)) Via.refl e1 F_k1_a1 (g := (mkF m 8 #[rv a1, rv a2] [.ref a1])) rfl rfl (hb hby own_d_prog_1_method_16_8)
  refine own_st st2 ?_
  show own_E p e below _ T2 (mkF m 11 #[rv a1, rv a2] [.double d1])
  refine own_st (fun t k => XS.aloadN X2.here hx rfl (hb hby own_d_prog_1_method_16_11) rfl rfl k) ?_
  show own_E p e below _ T2 (mkF m 12 #[rv a1, rv a2] [.ref a2, .double d1])
  obtain ⟨T3, X3, e3, st3⟩ := castY X2 hx hZ hown (own_w hw 46 rfl) e2 (Ins.self E_a2) (g := (mkF m 12 #[rv a1, rv a2] [.ref a2, .double d1])) rfl rfl (hb hby own_d_prog_1_method_16_12)
  refine own_st st3 ?_
  show own_E p e below _ T3 (mkF m 15 #[rv a1, rv a2] [.ref a2, .double d1])
  obtain ⟨T4, X4, e4, st4⟩ := getF X3 hx hZ hown (host := "") (Or.inl (own_w hw 27 rfl)) Via.refl e3 F_k1_a2 (g := (mkF m 15 #[rv a1, rv a2] [.ref a2, .double d1])) rfl rfl (hb hby own_d_prog_1_method_16_15)
  refine own_st st4 ?_
  show own_E p e below _ T4 (mkF m 18 #[rv a1, rv a2] [.double d3, .double d1])
  obtain ⟨_, _, ⟨T5, L5, k5, n5⟩, -, X5, ⟨Lc5, hQ5, l5, y5, z5⟩, st5⟩ := Jvm.LawKit.callS X4 hx (y := own_y8) hown (mvT hZ (own_w hw 48 rfl)) (mvT hZ (own_w hw 49 rfl)) (mvT hZ (own_w hw 50 rfl)) (mvT hZ (own_w hw 51 rfl)) (by decide) (backOf (W := 0) (own_rcmp l Z a0 hw [] d1 d3 h0 n0 Z0 hz1 hz3) hZ (own_w hw 51 rfl) (own_w hw 50 rfl) (by decide) (by decide)) (g := (mkF m 18 #[rv a1, rv a2] [.double d3, .double d1])) rfl (by rw [hml]; rfl) (argsL := [(.double d1), (.double d3)]) (rest := []) (lenOf own_pd_4 rfl) rfl (by show 2 * 0 + _ ≤ _; exact Nat.le_of_eq rfl) (hb hby own_d_prog_1_method_16_18) (fun _ _ => ⟨rfl, e4, (by decide : 0 + 0 ≤ _), (by decide : 0 + 0 ≤ _)⟩)
  dsimp only [Pt.U, Pt.locs, Pt.cells, Pt.slots] at X5 l5 y5 z5 st5 hQ5
  subst l5 y5 z5
  obtain ⟨rfl, e5, rfl⟩ := hQ5
  have N5 := Fr.app (Fr.nil n0) (Fr.nil n0)
  refine own_st st5 ?_
  show own_E p e below _ T5 (mkF m 21 #[rv a1, rv a2] [.int (own_cmpD d1 d3)])
  by_cases hc6 : (own_cmpD d1 d3) = (0 : Int32)
  · refine own_st (fun t k => XS.ifNo X5.here hx rfl (hb hby own_d_prog_1_method_16_21) rfl ((if0 _ _).trans (teq hc6).2) k) ?_
    show own_E p e below _ T5 (mkF m 24 #[rv a1, rv a2] [])
    refine own_st (fun t k => XS.aloadN X5.here hx rfl (hb hby own_d_prog_1_method_16_24) rfl rfl k) ?_
    show own_E p e below _ T5 (mkF m 25 #[rv a1, rv a2] [.ref a1])
    obtain ⟨T7, X7, e7, st7⟩ := getF X5 hx hZ hown (host := "") (Or.inl (own_w hw 29 rfl)) Via.refl e5 F_b_a1 (g := (mkF m 25 #[rv a1, rv a2] [.ref a1])) rfl rfl (hb hby own_d_prog_1_method_16_25)
    refine own_st st7 ?_
    show own_E p e below _ T7 (mkF m 28 #[rv a1, rv a2] [.double d2])
    refine own_st (fun t k => XS.aloadN X7.here hx rfl (hb hby own_d_prog_1_method_16_28) rfl rfl k) ?_
    show own_E p e below _ T7 (mkF m 29 #[rv a1, rv a2] [.ref a2, .double d2])
    obtain ⟨T8, X8, e8, st8⟩ := castY X7 hx hZ hown (own_w hw 46 rfl) e7 (Ins.self E_a2) (g := (mkF m 29 #[rv a1, rv a2] [.ref a2, .double d2])) rfl rfl (hb hby own_d_prog_1_method_16_29)
    refine own_st st8 ?_
    show own_E p e below _ T8 (mkF m 32 #[rv a1, rv a2] [.ref a2, .double d2])
    obtain ⟨T9, X9, e9, st9⟩ := getF X8 hx hZ hown (host := "") (Or.inl (own_w hw 29 rfl)) Via.refl e8 F_b_a2 (g := (mkF m 32 #[rv a1, rv a2] [.ref a2, .double d2])) rfl rfl (hb hby own_d_prog_1_method_16_32)
    refine own_st st9 ?_
    show own_E p e below _ T9 (mkF m 35 #[rv a1, rv a2] [.double d4, .double d2])
    obtain ⟨_, _, ⟨T10, L10, k10, n10⟩, -, X10, ⟨Lc10, hQ10, l10, y10, z10⟩, st10⟩ := Jvm.LawKit.callS X9 hx (y := own_y8) hown (mvT hZ (own_w hw 48 rfl)) (mvT hZ (own_w hw 49 rfl)) (mvT hZ (own_w hw 50 rfl)) (mvT hZ (own_w hw 51 rfl)) (by decide) (backOf (W := 0) (own_rcmp l Z a0 hw [] d2 d4 h0 n0 Z0 hz2 hz4) hZ (own_w hw 51 rfl) (own_w hw 50 rfl) (by decide) (by decide)) (g := (mkF m 35 #[rv a1, rv a2] [.double d4, .double d2])) rfl (by rw [hml]; rfl) (argsL := [(.double d2), (.double d4)]) (rest := []) (lenOf own_pd_4 rfl) rfl (by show 2 * 0 + _ ≤ _; exact Nat.le_of_eq rfl) (hb hby own_d_prog_1_method_16_35) (fun _ _ => ⟨rfl, e9, (by decide : 0 + 0 ≤ _), (by decide : 0 + 0 ≤ _)⟩)
    dsimp only [Pt.U, Pt.locs, Pt.cells, Pt.slots] at X10 l10 y10 z10 st10 hQ10
    subst l10 y10 z10
    obtain ⟨rfl, e10, rfl⟩ := hQ10
    have N10 := Fr.app N5 (Fr.nil n0)
    refine own_st st10 ?_
    show own_E p e below _ T10 (mkF m 38 #[rv a1, rv a2] [.int (own_cmpD d2 d4)])
    by_cases hc11 : (own_cmpD d2 d4) = (0 : Int32)
    · refine own_st (fun t k => XS.ifNo X10.here hx rfl (hb hby own_d_prog_1_method_16_38) rfl ((if0 _ _).trans (teq hc11).2) k) ?_
      show own_E p e below _ T10 (mkF m 41 #[rv a1, rv a2] [])
      refine own_st (fun t k => XS.iconst X10.here hx rfl (hb hby own_d_prog_1_method_16_41) k) ?_
      show own_E p e below _ T10 (mkF m 42 #[rv a1, rv a2] [.int 1])
      refine own_st (fun t k => XS.goto X10.here hx rfl (pc0 := 42) (pc' := 46) rfl (hb hby own_d_prog_1_method_16_42) (by decide) (by decide) k) ?_
      show own_E p e below _ T10 (mkF m 46 #[rv a1, rv a2] [.int 1])
      refine own_retS X10 hx Bd.notSynchronized Bd.returns rfl (by decide) (hb hby own_d_prog_1_method_16_46) (by decide) (by decide) ?_
      exact ⟨(Or.inl ⟨rfl, hc6, hc11⟩), e10, rfl⟩
    · refine own_st (fun t k => XS.ifYes X10.here hx rfl (pc0 := 38) (pc' := 45) rfl (hb hby own_d_prog_1_method_16_38) rfl ((if0 _ _).trans (feq hc11).2) (by decide) (by decide) k) ?_
      show own_E p e below _ T10 (mkF m 45 #[rv a1, rv a2] [])
      refine own_st (fun t k => XS.iconst X10.here hx rfl (hb hby own_d_prog_1_method_16_45) k) ?_
      show own_E p e below _ T10 (mkF m 46 #[rv a1, rv a2] [.int 0])
      refine own_retS X10 hx Bd.notSynchronized Bd.returns rfl (by decide) (hb hby own_d_prog_1_method_16_46) (by decide) (by decide) ?_
      exact ⟨(Or.inr (Or.inl ⟨rfl, hc6, hc11⟩)), e10, rfl⟩
  · refine own_st (fun t k => XS.ifYes X5.here hx rfl (pc0 := 21) (pc' := 45) rfl (hb hby own_d_prog_1_method_16_21) rfl ((if0 _ _).trans (feq hc6).2) (by decide) (by decide) k) ?_
    show own_E p e below _ T5 (mkF m 45 #[rv a1, rv a2] [])
    refine own_st (fun t k => XS.iconst X5.here hx rfl (hb hby own_d_prog_1_method_16_45) k) ?_
    show own_E p e below _ T5 (mkF m 46 #[rv a1, rv a2] [.int 0])
    refine own_retS X5 hx Bd.notSynchronized Bd.returns rfl (by decide) (hb hby own_d_prog_1_method_16_46) (by decide) (by decide) ?_
    exact ⟨(Or.inr (Or.inr ⟨rfl, hc6⟩)), e5, rfl⟩
def own_eqN_Q (a1 : Addr) (h0 : Heap) (v : Option Value) (h : Heap) (L : List Loc) : Prop := ((v = some (.int (0 : Int32)))) ∧ h = h0 ∧ L = []
theorem own_eqN_ef (m : MethodId) (a1 : Addr) : entryFrame m #[(.ref a1), .null] 2 = mkF m 0 #[.val (.ref a1), .val .null] [] := by first | (simp [entryFrame, mkF, argsToLocals, Value.category]; done) | rfl
set_option maxRecDepth 65536 in
set_option maxHeartbeats 40000000 in
theorem own_eqN (l : Launch) (Z : State) (a0 : Array Value) (hw : ∀ d ∈ tables_1, d.before a0 Z = true) (ws : List Jvm.Cond) (a1 : Addr) (h0 : Heap) (n0 : Nat) (Z0 : n0 ≤ h0.size)  :
    MetFree l own_y9 (head1 (Jvm.Cond.code own_y9 prog_1_method_16_code 2 (some .boolean) :: ws) ({ frames := 0, cells := 0, slots := 0, locals := 0 } : Room)) (fun a U => a = #[(.ref a1), .null] ∧ Z.Warmed39 U.vm ∧ U.heap = h0) (fun _ _ _ _ _ => True) (fun _ U o U' => ∃ v L, o = .returned v ∧ own_eqN_Q a1 h0 v U'.heap L ∧ FrameEnd U o U' L ({ frames := 0, cells := 0, slots := 0, locals := 0 } : Room).cells ({ frames := 0, cells := 0, slots := 0, locals := 0 } : Room).slots) := by
  refine MetFree.of_bodySF (plainFor_of_name own_pn_Bm25) hisR ?_
  intro p e s m args below meth c s₁ Bd hml0 hP hK
  obtain ⟨rfl, hZ, hh⟩ := hP
  have hx := Bd.exec
  have hby := Bd.bytes
  have hml : c.maxLocals = 2 := hml0
  have hown : s.vm.findClass "com/example/lean_scorer/leanscorer/Bm25" = some m.cls := findClass_of_methodNamed Bd.named
  have hnm := (name_of_methodNamed Bd.named Bd.method).1
  have X0 : Stand p l e ({ frames := 0, cells := 0, slots := 0, locals := 0 } : Room) s m #[(.ref a1), .null] below meth c s₁ [] 0 0 := Stand.of_body Bd
  have e0 : s₁.heap = h0 := by rw [← hh, Bd.state]; rfl
  show own_E p e below (own_K (own_eqN_Q a1 h0) s ({ frames := 0, cells := 0, slots := 0, locals := 0 } : Room).cells ({ frames := 0, cells := 0, slots := 0, locals := 0 } : Room).slots) s₁ (entryFrame m #[(.ref a1), .null] 2)
  refine own_pre (own_eqN_ef m a1) ?_
  show own_E p e below _ s₁ (mkF m 0 #[rv a1, .val (.null)] [])
  refine own_st (fun t k => XS.aloadN X0.here hx rfl (hb hby own_d_prog_1_method_16_0) rfl rfl k) ?_
  show own_E p e below _ s₁ (mkF m 1 #[rv a1, .val (.null)] [.null])
  refine own_st (fun t k => X0.instanceofNull hx (g := (mkF m 1 #[rv a1, .val (.null)] [.null])) rfl rfl (hb hby own_d_prog_1_method_16_1) _ k) ?_
  show own_E p e below _ s₁ (mkF m 4 #[rv a1, .val (.null)] [.int 0])
  refine own_st (fun t k => XS.ifYes X0.here hx rfl (pc0 := 4) (pc' := 45) rfl (hb hby own_d_prog_1_method_16_4) rfl (by decide) (by decide) (by decide) k) ?_
  show own_E p e below _ s₁ (mkF m 45 #[rv a1, .val (.null)] [])
  refine own_st (fun t k => XS.iconst X0.here hx rfl (hb hby own_d_prog_1_method_16_45) k) ?_
  show own_E p e below _ s₁ (mkF m 46 #[rv a1, .val (.null)] [.int 0])
  refine own_retS X0 hx Bd.notSynchronized Bd.returns rfl (by decide) (hb hby own_d_prog_1_method_16_46) (by decide) (by decide) ?_
  exact ⟨rfl, e0, rfl⟩
def own_eqI_Q (a1 : Addr) (a2 : Addr) (h0 : Heap) (v : Option Value) (h : Heap) (L : List Loc) : Prop := ((v = some (.int (0 : Int32)))) ∧ h = h0 ∧ L = []
theorem own_eqI_ef (m : MethodId) (a1 : Addr) (a2 : Addr) : entryFrame m #[(.ref a1), (.ref a2)] 2 = mkF m 0 #[.val (.ref a1), .val (.ref a2)] [] := by first | (simp [entryFrame, mkF, argsToLocals, Value.category]; done) | rfl
set_option maxRecDepth 65536 in
set_option maxHeartbeats 40000000 in
theorem own_eqI (l : Launch) (Z : State) (a0 : Array Value) (hw : ∀ d ∈ tables_1, d.before a0 Z = true) (ws : List Jvm.Cond) (a1 : Addr) (a2 : Addr) (h0 : Heap) (n0 : Nat) (Z0 : n0 ≤ h0.size) (E_a2 : Exa Z h0 a2 "java/lang/Integer") :
    MetFree l own_y9 (head1 (Jvm.Cond.code own_y9 prog_1_method_16_code 2 (some .boolean) :: ws) ({ frames := 0, cells := 0, slots := 0, locals := 0 } : Room)) (fun a U => a = #[(.ref a1), (.ref a2)] ∧ Z.Warmed39 U.vm ∧ U.heap = h0) (fun _ _ _ _ _ => True) (fun _ U o U' => ∃ v L, o = .returned v ∧ own_eqI_Q a1 a2 h0 v U'.heap L ∧ FrameEnd U o U' L ({ frames := 0, cells := 0, slots := 0, locals := 0 } : Room).cells ({ frames := 0, cells := 0, slots := 0, locals := 0 } : Room).slots) := by
  refine MetFree.of_bodySF (plainFor_of_name own_pn_Bm25) hisR ?_
  intro p e s m args below meth c s₁ Bd hml0 hP hK
  obtain ⟨rfl, hZ, hh⟩ := hP
  have hx := Bd.exec
  have hby := Bd.bytes
  have hml : c.maxLocals = 2 := hml0
  have hown : s.vm.findClass "com/example/lean_scorer/leanscorer/Bm25" = some m.cls := findClass_of_methodNamed Bd.named
  have hnm := (name_of_methodNamed Bd.named Bd.method).1
  have X0 : Stand p l e ({ frames := 0, cells := 0, slots := 0, locals := 0 } : Room) s m #[(.ref a1), (.ref a2)] below meth c s₁ [] 0 0 := Stand.of_body Bd
  have e0 : s₁.heap = h0 := by rw [← hh, Bd.state]; rfl
  show own_E p e below (own_K (own_eqI_Q a1 a2 h0) s ({ frames := 0, cells := 0, slots := 0, locals := 0 } : Room).cells ({ frames := 0, cells := 0, slots := 0, locals := 0 } : Room).slots) s₁ (entryFrame m #[(.ref a1), (.ref a2)] 2)
  refine own_pre (own_eqI_ef m a1 a2) ?_
  show own_E p e below _ s₁ (mkF m 0 #[rv a1, rv a2] [])
  refine own_st (fun t k => XS.aloadN X0.here hx rfl (hb hby own_d_prog_1_method_16_0) rfl rfl k) ?_
  show own_E p e below _ s₁ (mkF m 1 #[rv a1, rv a2] [.ref a2])
  obtain ⟨T1, X1, e1, st1⟩ := instNo X0 hx hZ hown (own_w hw 46 rfl) e0 E_a2 (own_NS_no (own_w hw 68 rfl) (own_w hw 9 rfl) (NS.step (own_w hw 68 rfl) (NS.step (own_w hw 69 rfl) (own_NS_root (own_w hw 70 rfl) (own_w hw 9 rfl) (by decide)) (by decide)) (by decide)) (by decide)) (g := (mkF m 1 #[rv a1, rv a2] [.ref a2])) rfl rfl (hb hby own_d_prog_1_method_16_1)
  refine own_st st1 ?_
  show own_E p e below _ T1 (mkF m 4 #[rv a1, rv a2] [.int 0])
  refine own_st (fun t k => XS.ifYes X1.here hx rfl (pc0 := 4) (pc' := 45) rfl (hb hby own_d_prog_1_method_16_4) rfl (by decide) (by decide) (by decide) k) ?_
  show own_E p e below _ T1 (mkF m 45 #[rv a1, rv a2] [])
  refine own_st (fun t k => XS.iconst X1.here hx rfl (hb hby own_d_prog_1_method_16_45) k) ?_
  show own_E p e below _ T1 (mkF m 46 #[rv a1, rv a2] [.int 0])
  refine own_retS X1 hx Bd.notSynchronized Bd.returns rfl (by decide) (hb hby own_d_prog_1_method_16_46) (by decide) (by decide) ?_
  exact ⟨rfl, e1, rfl⟩
theorem own_d_jdk_18_method_1_0 : decode jdk_18_method_1_code 0 = .ok (.aload_n 0, 1) := by decide +kernel
theorem own_d_jdk_18_method_1_1 : decode jdk_18_method_1_code 1 = .ok (.invokespecial 1, 3) := by decide +kernel
theorem own_d_jdk_18_method_1_4 : decode jdk_18_method_1_code 4 = .ok (.return_, 1) := by decide +kernel
def own_num_Q (a1 : Addr) (h0 : Heap) (v : Option Value) (h : Heap) (L : List Loc) : Prop := ((v = none)) ∧ h = h0 ∧ L = []
abbrev own_y10 : MethodName := ⟨"java/lang/Number", "<init>", "()V"⟩
theorem own_pn_Number : plainName "java/lang/Number" = true := by first | (simp [plainName, overriddenIn]; done) | decide +kernel
theorem own_num_ef (m : MethodId) (a1 : Addr) : entryFrame m #[(.ref a1)] 1 = mkF m 0 #[.val (.ref a1)] [] := by first | (simp [entryFrame, mkF, argsToLocals, Value.category]; done) | rfl
set_option maxRecDepth 65536 in
set_option maxHeartbeats 40000000 in
theorem own_num (l : Launch) (Z : State) (a0 : Array Value) (hw : ∀ d ∈ tables_1, d.before a0 Z = true) (ws : List Jvm.Cond) (a1 : Addr) (h0 : Heap) (n0 : Nat) (Z0 : n0 ≤ h0.size)  :
    MetFree l own_y10 (head1 (Jvm.Cond.code own_y10 jdk_18_method_1_code 1 none :: ws) ({ frames := 1, cells := 0, slots := 0, locals := 12 } : Room)) (fun a U => a = #[(.ref a1)] ∧ Z.Warmed39 U.vm ∧ U.heap = h0) (fun _ _ _ _ _ => True) (fun _ U o U' => ∃ v L, o = .returned v ∧ own_num_Q a1 h0 v U'.heap L ∧ FrameEnd U o U' L ({ frames := 1, cells := 0, slots := 0, locals := 12 } : Room).cells ({ frames := 1, cells := 0, slots := 0, locals := 12 } : Room).slots) := by
  refine MetFree.of_bodySF (plainFor_of_name own_pn_Number) hisR ?_
  intro p e s m args below meth c s₁ Bd hml0 hP hK
  obtain ⟨rfl, hZ, hh⟩ := hP
  have hx := Bd.exec
  have hby := Bd.bytes
  have hml : c.maxLocals = 1 := hml0
  have hown : s.vm.findClass "java/lang/Number" = some m.cls := findClass_of_methodNamed Bd.named
  have hnm := (name_of_methodNamed Bd.named Bd.method).1
  have X0 : Stand p l e ({ frames := 1, cells := 0, slots := 0, locals := 12 } : Room) s m #[(.ref a1)] below meth c s₁ [] 0 0 := Stand.of_body Bd
  have e0 : s₁.heap = h0 := by rw [← hh, Bd.state]; rfl
  show own_E p e below (own_K (own_num_Q a1 h0) s ({ frames := 1, cells := 0, slots := 0, locals := 12 } : Room).cells ({ frames := 1, cells := 0, slots := 0, locals := 12 } : Room).slots) s₁ (entryFrame m #[(.ref a1)] 1)
  refine own_pre (own_num_ef m a1) ?_
  show own_E p e below _ s₁ (mkF m 0 #[rv a1] [])
  refine own_st (fun t k => XS.aloadN X0.here hx rfl (hb hby own_d_jdk_18_method_1_0) rfl rfl k) ?_
  show own_E p e below _ s₁ (mkF m 1 #[rv a1] [.ref a1])
  obtain ⟨T1, X1, e1, st1⟩ := initO X0 hx hZ hown (own_w hw 83 rfl) (own_w hw 24 rfl) (own_w hw 25 rfl) e0 (g := (mkF m 1 #[rv a1] [.ref a1])) rfl (by rw [hml]; rfl) rfl (hb hby own_d_jdk_18_method_1_1) (by decide) (W := 0) (by show 2 * 0 + _ ≤ _; exact Nat.le_of_eq rfl) (by decide)
  refine own_st st1 ?_
  show own_E p e below _ T1 (mkF m 4 #[rv a1] [])
  refine own_retV X1 hx Bd.notSynchronized Bd.returns (hb hby own_d_jdk_18_method_1_4) (by decide) (by decide) ?_
  exact ⟨rfl, e1, rfl⟩
theorem own_d_jdk_33_method_23_0 : decode jdk_33_method_23_code 0 = .ok (.aload_n 0, 1) := by decide +kernel
theorem own_d_jdk_33_method_23_1 : decode jdk_33_method_23_code 1 = .ok (.invokespecial 202, 3) := by decide +kernel
theorem own_d_jdk_33_method_23_4 : decode jdk_33_method_23_code 4 = .ok (.aload_n 0, 1) := by decide +kernel
theorem own_d_jdk_33_method_23_5 : decode jdk_33_method_23_code 5 = .ok (.iload_n 1, 1) := by decide +kernel
theorem own_d_jdk_33_method_23_6 : decode jdk_33_method_23_code 6 = .ok (.putfield 205, 3) := by decide +kernel
theorem own_d_jdk_33_method_23_9 : decode jdk_33_method_23_code 9 = .ok (.return_, 1) := by decide +kernel
def own_iinit_Q (Z : State) (a1 : Addr) (p1 : Int32) (h0 : Heap) (n0 : Nat) (v : Option Value) (h : Heap) (L : List Loc) : Prop := v = none ∧ Fr n0 L ∧ Keep h0 h [a1] ∧ Exa Z h a1 "java/lang/Integer"
abbrev own_y11 : MethodName := ⟨"java/lang/Integer", "<init>", "(I)V"⟩
theorem own_pn_Integer : plainName "java/lang/Integer" = true := by first | (simp [plainName, overriddenIn]; done) | decide +kernel
theorem own_iinit_ef (m : MethodId) (a1 : Addr) (p1 : Int32) : entryFrame m #[(.ref a1), (.int p1)] 2 = mkF m 0 #[.val (.ref a1), .val (.int p1)] [] := by first | (simp [entryFrame, mkF, argsToLocals, Value.category]; done) | rfl
set_option maxRecDepth 65536 in
set_option maxHeartbeats 40000000 in
theorem own_iinit (l : Launch) (Z : State) (a0 : Array Value) (hw : ∀ d ∈ tables_1, d.before a0 Z = true) (ws : List Jvm.Cond) (a1 : Addr) (p1 : Int32) (h0 : Heap) (n0 : Nat) (Z0 : n0 ≤ h0.size) (E_a1 : Exa Z h0 a1 "java/lang/Integer") (F_value_a1 : Fld Z h0 a1 "java/lang/Integer" "value" "I" (.int (0 : Int32))) (g_a1 : n0 ≤ a1) :
    MetFree l own_y11 (head1 (Jvm.Cond.code own_y11 jdk_33_method_23_code 2 none :: ws) ({ frames := 2, cells := 0, slots := 0, locals := 24 } : Room)) (fun a U => a = #[(.ref a1), (.int p1)] ∧ Z.Warmed39 U.vm ∧ U.heap = h0) (fun _ _ _ _ _ => True) (fun _ U o U' => ∃ v L, o = .returned v ∧ own_iinit_Q Z a1 p1 h0 n0 v U'.heap L ∧ FrameEnd U o U' L ({ frames := 2, cells := 0, slots := 0, locals := 24 } : Room).cells ({ frames := 2, cells := 0, slots := 0, locals := 24 } : Room).slots) := by
  refine MetFree.of_bodySF (plainFor_of_name own_pn_Integer) hisR ?_
  intro p e s m args below meth c s₁ Bd hml0 hP hK
  obtain ⟨rfl, hZ, hh⟩ := hP
  have hx := Bd.exec
  have hby := Bd.bytes
  have hml : c.maxLocals = 2 := hml0
  have hown : s.vm.findClass "java/lang/Integer" = some m.cls := findClass_of_methodNamed Bd.named
  have hnm := (name_of_methodNamed Bd.named Bd.method).1
  have X0 : Stand p l e ({ frames := 2, cells := 0, slots := 0, locals := 24 } : Room) s m #[(.ref a1), (.int p1)] below meth c s₁ [] 0 0 := Stand.of_body Bd
  have e0 : s₁.heap = h0 := by rw [← hh, Bd.state]; rfl
  show own_E p e below (own_K (own_iinit_Q Z a1 p1 h0 n0) s ({ frames := 2, cells := 0, slots := 0, locals := 24 } : Room).cells ({ frames := 2, cells := 0, slots := 0, locals := 24 } : Room).slots) s₁ (entryFrame m #[(.ref a1), (.int p1)] 2)
  refine own_pre (own_iinit_ef m a1 p1) ?_
  show own_E p e below _ s₁ (mkF m 0 #[rv a1, iv p1] [])
  refine own_st (fun t k => XS.aloadN X0.here hx rfl (hb hby own_d_jdk_33_method_23_0) rfl rfl k) ?_
  show own_E p e below _ s₁ (mkF m 1 #[rv a1, iv p1] [.ref a1])
  obtain ⟨_, _, ⟨T1, L1, k1, n1⟩, -, X1, ⟨Lc1, hQ1, l1, y1, z1⟩, st1⟩ := X0.specialBack hx (y := own_y10) rfl hown (mvT hZ (own_w hw 77 rfl)) (mvT hZ (own_w hw 78 rfl)) (mvT hZ (own_w hw 82 rfl)) (by decide) (backOf (W := 0) (own_num l Z a0 hw [] a1 h0 n0 Z0 ) hZ (own_w hw 82 rfl) (own_w hw 81 rfl) (by decide) (by decide)) (g := (mkF m 1 #[rv a1, iv p1] [.ref a1])) rfl (by rw [hml]; rfl) (Steps.refl _) (a := a1) (argsL := []) (rest := []) (lenOf own_pd_0 rfl) rfl (by show 2 * 0 + _ ≤ _; exact Nat.le_of_eq rfl) (hb hby own_d_jdk_33_method_23_1) (fun _ _ => ⟨rfl, e0, (by decide : 0 + 0 ≤ _), (by decide : 0 + 0 ≤ _)⟩)
  dsimp only [Pt.U, Pt.locs, Pt.cells, Pt.slots] at X1 l1 y1 z1 st1 hQ1
  subst l1 y1 z1
  obtain ⟨hR1, e1, rfl⟩ := hQ1
  have N1 := Fr.app (Fr.nil n0) (Fr.nil n0)
  obtain rfl := hR1
  refine own_tr st1 ?_
  show own_E p e below _ T1 (mkF m 4 #[rv a1, iv p1] [])
  refine own_st (fun t k => XS.aloadN X1.here hx rfl (hb hby own_d_jdk_33_method_23_4) rfl rfl k) ?_
  show own_E p e below _ T1 (mkF m 5 #[rv a1, iv p1] [.ref a1])
  refine own_st (fun t k => XS.iloadN X1.here hx rfl (hb hby own_d_jdk_33_method_23_5) rfl k) ?_
  show own_E p e below _ T1 (mkF m 6 #[rv a1, iv p1] [.int p1, .ref a1])
  obtain ⟨T2, h2, X2, e2, W2, st2⟩ := putF X1 hx hZ hown (host := "") (Or.inl (own_w hw 84 rfl)) Via.refl e1 F_value_a1 E_a1 (Or.inr ⟨(own_w hw 85 rfl), rfl, hnm⟩) (own_w hw 72 rfl) (ty := .int) (by decide) rfl rfl (g := (mkF m 6 #[rv a1, iv p1] [.int p1, .ref a1])) rfl rfl (hb hby own_d_jdk_33_method_23_6)
  have N2 := Fr.snoc X2 N1 g_a1
  have Fw2 := F_value_a1.same W2
  have Z3 := Nat.le_trans Z0 (Keep.of_wr W2).1
  have K4 : Keep h0 _ [a1] := (Keep.refl h0 [a1]).wr W2 (Or.inl (List.mem_of_getElem? (i := 0) rfl))
  refine own_st st2 ?_
  show own_E p e below _ T2 (mkF m 9 #[rv a1, iv p1] [])
  refine own_retV X2 hx Bd.notSynchronized Bd.returns (hb hby own_d_jdk_33_method_23_9) (by decide) (by decide) ?_
  have B5 := (E_a1.wr W2)
  show own_iinit_Q Z a1 p1 h0 n0 _ T2.heap _
  rw [e2]
  exact ⟨rfl, N2, K4, B5⟩
def own_cache (Z : State) (h : Heap) : Prop := ∃ (ac : Addr) (cl : Cell), Sta Z h "java/lang/Integer$IntegerCache" "cache" "[Ljava/lang/Integer;" (.ref ac) ∧ Sta Z h "java/lang/Integer$IntegerCache" "high" "I" (.int 127) ∧ Arr Z h ac cl (.object "java/lang/Integer") ∧ cl.slots.size = 256 ∧ ∀ j, j < 256 → ∃ b, cl.slots[j]? = some (.ref b) ∧ Exa Z h b "java/lang/Integer"
theorem own_cache_keep {Z : State} {h h' : Heap} (C : own_cache Z h) (K : Keep h h' []) : own_cache Z h' := by
  obtain ⟨ac, cl, S, S2, A, q, f⟩ := C
  refine ⟨ac, cl, own_StaK S K, own_StaK S2 K, ⟨K.2.1 _ _ A.1 nin0, A.2⟩, q, fun j hj => ?_⟩
  obtain ⟨b, h1, h2⟩ := f j hj
  exact ⟨b, h1, h2.keep K⟩
theorem own_eqs {args : Array Value} {s : State} {t : Term} {k : Int32} (h : (Jvm.Cond.eq t (.int k)).value args s none s [] = some true) : t.eval args s none [] s = some (.int k) := by
  simp only [Jvm.Cond.value] at h
  generalize t.eval args s none [] s = o at h
  rcases o with _ | w
  · simp [Term.eval] at h
  · cases w <;> simp [Term.eval] at h
    rw [h]
theorem own_cache_start {args : Array Value} {s : State} (hs : ∀ w ∈ jdkStatics_1, w.before args s = true) (hi : (Jvm.Cond.initialized "java/lang/Integer$IntegerCache").before args s = true) : own_cache s s.heap := by
  have h1 := hs _ (List.mem_of_getElem? (i := 1) rfl)
  have h2 := hs _ (List.mem_of_getElem? (i := 2) rfl)
  have h3 := hs _ (List.mem_of_getElem? (i := 3) rfl)
  have h4 := hs _ (List.mem_of_getElem? (i := 4) rfl)
  have h5 := hs _ (List.mem_of_getElem? (i := 5) rfl)
  have h6 := hs _ (List.mem_of_getElem? (i := 6) rfl)
  have h7 := hs _ (List.mem_of_getElem? (i := 7) rfl)
  obtain ⟨ac, ev⟩ := exa_v (Cond.before_iff.mp h5)
  have SH := Sta.start (own_eqs (Cond.before_iff.mp h3)) (Or.inl h1)
  have S := Sta.start ev (Or.inr ⟨hi, h2⟩)
  obtain ⟨cl, A⟩ := Arr.start ev (Cond.before_iff.mp h4)
  have hat : s.arrayAt? ac = some cl := Arr.fin (Vm.Alike.refl _) A
  obtain ⟨hz1, hz2⟩ := IntBox.length_fwd h6 ev A.1 A.2.1 A.2.2
  have hsz : cl.slots.size = 256 := by
    have e := len_toInt hz1
    rw [hz2] at e
    have : ((256 : Int32)).toInt = 256 := by decide
    omega
  have hall := Cond.all_elim ev hat (by simpa [Cond.before, Cond.holds] using h7)
  refine ⟨ac, cl, S, SH, A, hsz, fun j hj => ?_⟩
  have hj' := hall j (by rw [hsz]; exact hj)
  obtain ⟨hex, -⟩ := and_e hj'
  obtain ⟨b, c', cell, k, e1, e2, e3, e4, e5, rfl, e7⟩ := Cond.exactly_spec (show (Jvm.Cond.exactly (Jvm.Term.elem (Jvm.Term.static "java/lang/Integer$IntegerCache" "cache" "[Ljava/lang/Integer;") (Jvm.Term.index (0 : Nat))) "java/lang/Integer").holds args s none s [j] = true by simp [Cond.holds, hex])
  refine ⟨b, ?_, cell, k, e3, e2, e4, e5, e7⟩
  obtain ⟨hnn, hback⟩ := IntBox.place_nonneg j hj
  have evj : (Jvm.Term.static "java/lang/Integer$IntegerCache" "cache" "[Ljava/lang/Integer;").eval args s none [j] s = some (.ref ac) := ev
  have q : (Jvm.Term.index 0).eval args s none [j] s = some (.int j.toInt32) := rfl
  rw [elem_f evj q hat hnn, hback] at e1
  exact e1
theorem own_place (w : Int32) (h1 : ¬ w < -128) (h2 : ¬ (127 : Int32) < w) : ¬ ((w + 128) < 0 ∨ 256 ≤ (w + 128).toNatClampNeg) ∧ (w + 128).toNatClampNeg < 256 := by
  have f := c_iadd w 128
  have r := rng32 (w + 128)
  rw [Int32.lt_iff_toInt_lt] at h1 h2
  have k1 : (-128 : Int32).toInt = -128 := rfl
  have k2 : (127 : Int32).toInt = 127 := rfl
  have k3 : (128 : Int32).toInt = 128 := rfl
  have k0 : (0 : Int32).toInt = 0 := rfl
  have q : (w + 128).toNatClampNeg < 256 := by
    simp only [Int32.toNatClampNeg]
    omega
  refine ⟨fun h => ?_, q⟩
  rcases h with h | h
  · rw [Int32.lt_iff_toInt_lt] at h; omega
  · omega
theorem own_d_jdk_33_method_22_0 : decode jdk_33_method_22_code 0 = .ok (.iload_n 0, 1) := by decide +kernel
theorem own_d_jdk_33_method_22_1 : decode jdk_33_method_22_code 1 = .ok (.bipush (-128), 2) := by decide +kernel
theorem own_d_jdk_33_method_22_3 : decode jdk_33_method_22_code 3 = .ok (.if_icmp .lt 20, 3) := by decide +kernel
theorem own_d_jdk_33_method_22_23 : decode jdk_33_method_22_code 23 = .ok (.new 1, 3) := by decide +kernel
theorem own_d_jdk_33_method_22_26 : decode jdk_33_method_22_code 26 = .ok (.dup, 1) := by decide +kernel
theorem own_d_jdk_33_method_22_27 : decode jdk_33_method_22_code 27 = .ok (.iload_n 0, 1) := by decide +kernel
theorem own_d_jdk_33_method_22_28 : decode jdk_33_method_22_code 28 = .ok (.invokespecial 199, 3) := by decide +kernel
theorem own_pd_9 : parseMethodDescriptor "(I)V" = some ⟨[.int], none⟩ := by decide +kernel
theorem own_d_jdk_33_method_22_31 : decode jdk_33_method_22_code 31 = .ok (.areturn, 1) := by decide +kernel
theorem own_d_jdk_33_method_22_6 : decode jdk_33_method_22_code 6 = .ok (.iload_n 0, 1) := by decide +kernel
theorem own_d_jdk_33_method_22_7 : decode jdk_33_method_22_code 7 = .ok (.getstatic 191, 3) := by decide +kernel
theorem own_d_jdk_33_method_22_10 : decode jdk_33_method_22_code 10 = .ok (.if_icmp .gt 13, 3) := by decide +kernel
theorem own_d_jdk_33_method_22_13 : decode jdk_33_method_22_code 13 = .ok (.getstatic 195, 3) := by decide +kernel
theorem own_d_jdk_33_method_22_16 : decode jdk_33_method_22_code 16 = .ok (.iload_n 0, 1) := by decide +kernel
theorem own_d_jdk_33_method_22_17 : decode jdk_33_method_22_code 17 = .ok (.sipush 128, 3) := by decide +kernel
theorem own_d_jdk_33_method_22_20 : decode jdk_33_method_22_code 20 = .ok (.iadd, 1) := by decide +kernel
theorem own_d_jdk_33_method_22_21 : decode jdk_33_method_22_code 21 = .ok (.aaload, 1) := by decide +kernel
theorem own_d_jdk_33_method_22_22 : decode jdk_33_method_22_code 22 = .ok (.areturn, 1) := by decide +kernel
def own_ival_Q (Z : State) (p1 : Int32) (h0 : Heap) (n0 : Nat) (v : Option Value) (h : Heap) (L : List Loc) : Prop := ∃ o0 : Addr, v = some (.ref o0) ∧ Fr n0 L ∧ Keep h0 h [] ∧ Exa Z h o0 "java/lang/Integer"
abbrev own_y12 : MethodName := ⟨"java/lang/Integer", "valueOf", "(I)Ljava/lang/Integer;"⟩
theorem own_ival_ef (m : MethodId) (p1 : Int32) : entryFrame m #[(.int p1)] 1 = mkF m 0 #[.val (.int p1)] [] := by first | (simp [entryFrame, mkF, argsToLocals, Value.category]; done) | rfl
set_option maxRecDepth 65536 in
set_option maxHeartbeats 40000000 in
theorem own_ival (l : Launch) (Z : State) (a0 : Array Value) (hw : ∀ d ∈ tables_1, d.before a0 Z = true) (ws : List Jvm.Cond) (p1 : Int32) (h0 : Heap) (n0 : Nat) (Z0 : n0 ≤ h0.size) (hC : own_cache Z h0) :
    MetFree l own_y12 (head1 (Jvm.Cond.code own_y12 jdk_33_method_22_code 1 (some (.object "java/lang/Integer")) :: ws) ({ frames := 3, cells := 1, slots := 1, locals := 38 } : Room)) (fun a U => a = #[(.int p1)] ∧ Z.Warmed39 U.vm ∧ U.heap = h0) (fun _ _ _ _ _ => True) (fun _ U o U' => ∃ v L, o = .returned v ∧ own_ival_Q Z p1 h0 n0 v U'.heap L ∧ FrameEnd U o U' L ({ frames := 3, cells := 1, slots := 1, locals := 38 } : Room).cells ({ frames := 3, cells := 1, slots := 1, locals := 38 } : Room).slots) := by
  refine MetFree.of_bodySF (plainFor_of_name own_pn_Integer) hisR ?_
  intro p e s m args below meth c s₁ Bd hml0 hP hK
  obtain ⟨rfl, hZ, hh⟩ := hP
  have hx := Bd.exec
  have hby := Bd.bytes
  have hml : c.maxLocals = 1 := hml0
  have hown : s.vm.findClass "java/lang/Integer" = some m.cls := findClass_of_methodNamed Bd.named
  have hnm := (name_of_methodNamed Bd.named Bd.method).1
  have X0 : Stand p l e ({ frames := 3, cells := 1, slots := 1, locals := 38 } : Room) s m #[(.int p1)] below meth c s₁ [] 0 0 := Stand.of_body Bd
  have e0 : s₁.heap = h0 := by rw [← hh, Bd.state]; rfl
  show own_E p e below (own_K (own_ival_Q Z p1 h0 n0) s ({ frames := 3, cells := 1, slots := 1, locals := 38 } : Room).cells ({ frames := 3, cells := 1, slots := 1, locals := 38 } : Room).slots) s₁ (entryFrame m #[(.int p1)] 1)
  refine own_pre (own_ival_ef m p1) ?_
  obtain ⟨ac, cl, hSt, hHi, hAr, hsz, hel⟩ := hC
  show own_E p e below _ s₁ (mkF m 0 #[iv p1] [])
  refine own_st (fun t k => XS.iloadN X0.here hx rfl (hb hby own_d_jdk_33_method_22_0) rfl k) ?_
  show own_E p e below _ s₁ (mkF m 1 #[iv p1] [.int p1])
  refine own_st (fun t k => XS.bipush X0.here hx rfl (hb hby own_d_jdk_33_method_22_1) k) ?_
  show own_E p e below _ s₁ (mkF m 3 #[iv p1] [.int (-128), .int p1])
  by_cases hc1 : p1 < (-128 : Int32)
  · refine own_st (fun t k => XS.icmpYes X0.here hx rfl (pc0 := 3) (pc' := 23) rfl (hb hby own_d_jdk_33_method_22_3) rfl (tlt hc1).1 (by decide) (by decide) k) ?_
    show own_E p e below _ s₁ (mkF m 23 #[iv p1] [])
    obtain ⟨T2, h2, X2, e2, E2, A2, D2, -, st2⟩ := newO X0 hx hZ hown (own_w hw 71 rfl) (own_w hw 72 rfl) (own_w hw 63 rfl) e0 (g := (mkF m 23 #[iv p1] [])) rfl (hb hby own_d_jdk_33_method_22_23) (by decide) (by decide)
    obtain ⟨b2, g2⟩ : ∃ z, z = h0.size := ⟨_, rfl⟩
    rw [← g2] at A2 D2 st2
    have g_b2 : n0 ≤ b2 := Nat.le_trans Z0 (Nat.le_of_eq g2.symm)
    have sz_b2 : h0.size ≤ b2 := Nat.le_trans (Keep.refl h0 []).1 (Nat.le_of_eq g2.symm)
    have Z3 := Nat.le_trans Z0 E2.1
    have K4 : Keep h0 _ [] := (Keep.refl h0 []).ext E2
    have F_value_b2 : Fld Z h2 b2 "java/lang/Integer" "value" "I" (.int (0 : Int32)) := D2 (Or.inr (own_w hw 85 rfl)) (ty := .int) (by decide)
    refine own_st st2 ?_
    show own_E p e below _ T2 (mkF m 26 #[iv p1] [.ref b2])
    refine own_st (fun t k => XS.dup X2.here hx rfl (hb hby own_d_jdk_33_method_22_26) rfl rfl k) ?_
    show own_E p e below _ T2 (mkF m 27 #[iv p1] [.ref b2, .ref b2])
    refine own_st (fun t k => XS.iloadN X2.here hx rfl (hb hby own_d_jdk_33_method_22_27) rfl k) ?_
    show own_E p e below _ T2 (mkF m 28 #[iv p1] [.int p1, .ref b2, .ref b2])
    obtain ⟨_, _, ⟨T5, L5, k5, n5⟩, -, X5, ⟨Lc5, hQ5, l5, y5, z5⟩, st5⟩ := X2.specialBack hx (y := own_y11) rfl hown (mvT hZ (own_w hw 73 rfl)) (mvT hZ (own_w hw 74 rfl)) (mvT hZ (own_w hw 76 rfl)) (by decide) (backOf (W := 1) (own_iinit l Z a0 hw [] b2 p1 h2 n0 Z3 A2 F_value_b2 g_b2) hZ (own_w hw 76 rfl) (own_w hw 63 rfl) (by decide) (by decide)) (g := (mkF m 28 #[iv p1] [.int p1, .ref b2, .ref b2])) rfl (by rw [hml]; rfl) (Steps.refl _) (a := b2) (argsL := [(.int p1)]) (rest := [(.ref b2)]) (lenOf own_pd_9 rfl) rfl (by show 2 * 0 + _ ≤ _; exact Nat.le_of_eq rfl) (hb hby own_d_jdk_33_method_22_28) (fun _ _ => ⟨rfl, e2, (by decide : 1 + 0 ≤ _), (by decide : 1 + 0 ≤ _)⟩)
    dsimp only [Pt.U, Pt.locs, Pt.cells, Pt.slots] at X5 l5 y5 z5 st5 hQ5
    subst l5 y5 z5
    obtain ⟨rfl, Nq5, Kq5, P5_0⟩ := hQ5
    have N5 := Fr.app (Fr.nil n0) Nq5
    have e5 : T5.heap = T5.heap := rfl
    have Z6 := Nat.le_trans Z3 Kq5.1
    have K7 : Keep h0 _ [] := K4.trans Kq5 (allS (P := fun x => x ∈ [] ∨ h0.size ≤ x) (Or.inr sz_b2) all0)
    refine own_tr st5 ?_
    show own_E p e below _ T5 (mkF m 31 #[iv p1] [.ref b2])
    refine own_retA X5 hx Bd.notSynchronized Bd.returns rfl rfl (hb hby own_d_jdk_33_method_22_31) (by decide) (by decide) ?_
    show own_ival_Q Z p1 h0 n0 _ T5.heap _
    rw [e5]
    exact ⟨b2, rfl, N5, K7, P5_0⟩
  · refine own_st (fun t k => XS.icmpNo X0.here hx rfl (hb hby own_d_jdk_33_method_22_3) rfl (flt hc1).1 k) ?_
    show own_E p e below _ s₁ (mkF m 6 #[iv p1] [])
    refine own_st (fun t k => XS.iloadN X0.here hx rfl (hb hby own_d_jdk_33_method_22_6) rfl k) ?_
    show own_E p e below _ s₁ (mkF m 7 #[iv p1] [.int p1])
    obtain ⟨T8, X8, e8, st8⟩ := getS2 X0 hx hZ hown (host := "") (Or.inl (own_w hw 65 rfl)) Via.refl e0 hHi (g := (mkF m 7 #[iv p1] [.int p1])) rfl (hb hby own_d_jdk_33_method_22_7)
    refine own_st st8 ?_
    show own_E p e below _ T8 (mkF m 10 #[iv p1] [.int 127, .int p1])
    by_cases hc9 : (127 : Int32) < p1
    · refine own_st (fun t k => XS.icmpYes X8.here hx rfl (pc0 := 10) (pc' := 23) rfl (hb hby own_d_jdk_33_method_22_10) rfl (tlt hc9).2.2.1 (by decide) (by decide) k) ?_
      show own_E p e below _ T8 (mkF m 23 #[iv p1] [])
      obtain ⟨T10, h10, X10, e10, E10, A10, D10, -, st10⟩ := newO X8 hx hZ hown (own_w hw 71 rfl) (own_w hw 72 rfl) (own_w hw 63 rfl) e8 (g := (mkF m 23 #[iv p1] [])) rfl (hb hby own_d_jdk_33_method_22_23) (by decide) (by decide)
      obtain ⟨b10, g10⟩ : ∃ z, z = h0.size := ⟨_, rfl⟩
      rw [← g10] at A10 D10 st10
      have g_b10 : n0 ≤ b10 := Nat.le_trans Z0 (Nat.le_of_eq g10.symm)
      have sz_b10 : h0.size ≤ b10 := Nat.le_trans (Keep.refl h0 []).1 (Nat.le_of_eq g10.symm)
      have Z11 := Nat.le_trans Z0 E10.1
      have K12 : Keep h0 _ [] := (Keep.refl h0 []).ext E10
      have F_value_b10 : Fld Z h10 b10 "java/lang/Integer" "value" "I" (.int (0 : Int32)) := D10 (Or.inr (own_w hw 85 rfl)) (ty := .int) (by decide)
      refine own_st st10 ?_
      show own_E p e below _ T10 (mkF m 26 #[iv p1] [.ref b10])
      refine own_st (fun t k => XS.dup X10.here hx rfl (hb hby own_d_jdk_33_method_22_26) rfl rfl k) ?_
      show own_E p e below _ T10 (mkF m 27 #[iv p1] [.ref b10, .ref b10])
      refine own_st (fun t k => XS.iloadN X10.here hx rfl (hb hby own_d_jdk_33_method_22_27) rfl k) ?_
      show own_E p e below _ T10 (mkF m 28 #[iv p1] [.int p1, .ref b10, .ref b10])
      obtain ⟨_, _, ⟨T13, L13, k13, n13⟩, -, X13, ⟨Lc13, hQ13, l13, y13, z13⟩, st13⟩ := X10.specialBack hx (y := own_y11) rfl hown (mvT hZ (own_w hw 73 rfl)) (mvT hZ (own_w hw 74 rfl)) (mvT hZ (own_w hw 76 rfl)) (by decide) (backOf (W := 1) (own_iinit l Z a0 hw [] b10 p1 h10 n0 Z11 A10 F_value_b10 g_b10) hZ (own_w hw 76 rfl) (own_w hw 63 rfl) (by decide) (by decide)) (g := (mkF m 28 #[iv p1] [.int p1, .ref b10, .ref b10])) rfl (by rw [hml]; rfl) (Steps.refl _) (a := b10) (argsL := [(.int p1)]) (rest := [(.ref b10)]) (lenOf own_pd_9 rfl) rfl (by show 2 * 0 + _ ≤ _; exact Nat.le_of_eq rfl) (hb hby own_d_jdk_33_method_22_28) (fun _ _ => ⟨rfl, e10, (by decide : 1 + 0 ≤ _), (by decide : 1 + 0 ≤ _)⟩)
      dsimp only [Pt.U, Pt.locs, Pt.cells, Pt.slots] at X13 l13 y13 z13 st13 hQ13
      subst l13 y13 z13
      obtain ⟨rfl, Nq13, Kq13, P13_0⟩ := hQ13
      have N13 := Fr.app (Fr.nil n0) Nq13
      have e13 : T13.heap = T13.heap := rfl
      have Z14 := Nat.le_trans Z11 Kq13.1
      have K15 : Keep h0 _ [] := K12.trans Kq13 (allS (P := fun x => x ∈ [] ∨ h0.size ≤ x) (Or.inr sz_b10) all0)
      refine own_tr st13 ?_
      show own_E p e below _ T13 (mkF m 31 #[iv p1] [.ref b10])
      refine own_retA X13 hx Bd.notSynchronized Bd.returns rfl rfl (hb hby own_d_jdk_33_method_22_31) (by decide) (by decide) ?_
      show own_ival_Q Z p1 h0 n0 _ T13.heap _
      rw [e13]
      exact ⟨b10, rfl, N13, K15, P13_0⟩
    · refine own_st (fun t k => XS.icmpNo X8.here hx rfl (hb hby own_d_jdk_33_method_22_10) rfl (flt hc9).2.2.1 k) ?_
      show own_E p e below _ T8 (mkF m 13 #[iv p1] [])
      obtain ⟨T16, X16, e16, st16⟩ := getS2 X8 hx hZ hown (host := "") (Or.inl (own_w hw 67 rfl)) Via.refl e8 hSt (g := (mkF m 13 #[iv p1] [])) rfl (hb hby own_d_jdk_33_method_22_13)
      refine own_st st16 ?_
      show own_E p e below _ T16 (mkF m 16 #[iv p1] [.ref ac])
      refine own_st (fun t k => XS.iloadN X16.here hx rfl (hb hby own_d_jdk_33_method_22_16) rfl k) ?_
      show own_E p e below _ T16 (mkF m 17 #[iv p1] [.int p1, .ref ac])
      refine own_st (fun t k => XS.sipush X16.here hx rfl (hb hby own_d_jdk_33_method_22_17) k) ?_
      show own_E p e below _ T16 (mkF m 20 #[iv p1] [.int 128, .int p1, .ref ac])
      refine own_st (fun t k => XS.iadd X16.here hx rfl (hb hby own_d_jdk_33_method_22_20) rfl k) ?_
      show own_E p e below _ T16 (mkF m 21 #[iv p1] [.int (p1 + (128 : Int32)), .ref ac])
      have hp17 := own_place p1 hc1 hc9
      obtain ⟨bx, hbx, Ebx⟩ := hel _ hp17.2
      refine own_st (fun t k => X16.aaload hx (j := (p1 + (128 : Int32))) (v := .ref bx) (by rw [e16]; exact hAr.1) (State.isArrayOf_alike hZ.alike hAr.2.1) rfl hAr.2.2 (by rw [hsz]; exact hp17.1) hbx (g := (mkF m 21 #[iv p1] [.int (p1 + (128 : Int32)), .ref ac])) rfl rfl (hb hby own_d_jdk_33_method_22_21) _ k) ?_
      show own_E p e below _ T16 (mkF m 22 #[iv p1] [.ref bx])
      refine own_retA X16 hx Bd.notSynchronized Bd.returns rfl rfl (hb hby own_d_jdk_33_method_22_22) (by decide) (by decide) ?_
      show own_ival_Q Z p1 h0 n0 _ T16.heap _
      rw [e16]
      exact ⟨bx, rfl, (Fr.nil n0), (Keep.refl h0 []), Ebx⟩
def own_inK (a : Int32) : Prop := ∃ n : Fin 257, a = Int32.ofInt ((n.val : Int) - 1)
def own_inB (a : Int32) : Prop := ∃ n : Fin 10, a = Int32.ofInt ((n.val : Int) - 1)
theorem own_bk {a : Int32} (h : own_inB a) : own_inK a := by
  obtain ⟨n, h⟩ := h
  exact ⟨⟨n.val, by omega⟩, h⟩
theorem own_ofInt {z : Int} (h1 : -1 ≤ z) (h2 : z < 1000) : (Int32.ofInt z).toInt = z := by
  have e : Int32.size = 4294967296 := rfl
  rw [Int32.toInt_ofInt, e]
  exact Int.bmod_eq_of_le (by omega) (by omega)
theorem own_krk (x : Int32) : own_inK (own_kCode x) := by
  have h : own_kCode x = -1 ∨ own_kCode x = x &&& 255 := by
    unfold own_kCode
    split
    · split
      · exact Or.inr rfl
      · exact Or.inl rfl
    · exact Or.inr rfl
  rcases h with h | h
  · exact ⟨0, h⟩
  · have m : (x &&& (255 : Int32)).toInt = x.toInt % 256 := c_mask x 255 8 (by decide) (by decide)
    refine ⟨⟨(x.toInt % 256 + 1).toNat, by omega⟩, ?_⟩
    rw [h, ← Int32.toInt_inj, m]
    rw [own_ofInt (by simp only; omega) (by simp only; omega)]
    simp only
    omega
theorem own_brk (x : Int32) : own_inB (own_bCode x) := by
  have h : own_bCode x = -1 ∨ own_bCode x = (x &&& (2147483647 : Int32)) % (9 : Int32) := by
    unfold own_bCode
    split
    · split
      · exact Or.inl rfl
      · exact Or.inr rfl
    · exact Or.inr rfl
  rcases h with h | h
  · exact ⟨0, h⟩
  · have m : (x &&& (2147483647 : Int32)).toInt = x.toInt % 2147483648 := c_mask x 2147483647 31 (by decide) (by decide)
    have r := c_irem (x &&& (2147483647 : Int32)) (9 : Int32) 9 rfl
    have e : ((x &&& (2147483647 : Int32)) % (9 : Int32)).toInt = x.toInt % 2147483648 % 9 := by rw [← m]; exact r.1 (by omega)
    refine ⟨⟨(x.toInt % 2147483648 % 9 + 1).toNat, by omega⟩, ?_⟩
    rw [h, ← Int32.toInt_inj, e]
    rw [own_ofInt (by simp only; omega) (by simp only; omega)]
    simp only
    omega
def own_inv (d : UInt64) : Int32 := if d = 9223372036854775808 then -1 else FP.d2i (FP.dmul d 4620693217682128896)
set_option maxRecDepth 65536 in
theorem own_nn8 (a : Int32) (h : own_inK a) : Jvm.Free.Fl.NoNaN64 (FP.ddiv (FP.i2d a) (4620693217682128896 : UInt64)) := by
  obtain ⟨n, rfl⟩ := h
  have q : ∀ n : Fin 257, FP.ddiv (FP.i2d (Int32.ofInt ((n.val : Int) - 1))) (4620693217682128896 : UInt64) &&& 0x7fffffffffffffff ≤ 0x7ff0000000000000 := by decide +kernel
  exact q n
set_option maxRecDepth 65536 in
theorem own_nnv (a : Int32) (h : own_inK a) : Jvm.Free.Fl.NoNaN64 (own_val a) := by
  obtain ⟨n, rfl⟩ := h
  have q : ∀ n : Fin 257, own_val (Int32.ofInt ((n.val : Int) - 1)) &&& 0x7fffffffffffffff ≤ 0x7ff0000000000000 := by decide +kernel
  exact q n
set_option maxRecDepth 65536 in
theorem own_invk (a : Int32) (h : own_inK a) : own_inv (own_val a) = a := by
  obtain ⟨n, rfl⟩ := h
  have q : ∀ n : Fin 257, own_inv (own_val (Int32.ofInt ((n.val : Int) - 1))) = Int32.ofInt ((n.val : Int) - 1) := by decide +kernel
  exact q n
set_option maxRecDepth 65536 in
theorem own_fin (a : Int32) (h : own_inK a) : ¬ (cmpValue (FP.dcmp (own_val a) (0 : UInt64)) .l < (0 : Int32)) ∧ cmpValue (FP.dcmp (own_val a) (9218868437227405312 : UInt64)) .g < (0 : Int32) ∧ Jvm.Free.Fl.NoNaN64 (FP.dadd (own_val a) (4607182418800017408 : UInt64)) ∧ Jvm.Free.Fl.NoNaN64 (FP.ddiv (FP.dadd (own_val a) (4607182418800017408 : UInt64)) (own_maxD (own_val a))) ∧ Jvm.Free.Fl.NoNaN64 (FP.ddiv (4607182418800017408 : UInt64) (own_maxD (own_val a))) ∧ Jvm.Free.Fl.NoNaN64 (FP.ddiv (own_val a) (own_maxD (own_val a))) := by
  obtain ⟨n, rfl⟩ := h
  have q1 : ∀ n : Fin 257, ¬ (cmpValue (FP.dcmp (own_val (Int32.ofInt ((n.val : Int) - 1))) (0 : UInt64)) .l < (0 : Int32)) := by decide +kernel
  have q2 : ∀ n : Fin 257, cmpValue (FP.dcmp (own_val (Int32.ofInt ((n.val : Int) - 1))) (9218868437227405312 : UInt64)) .g < (0 : Int32) := by decide +kernel
  have q3 : ∀ n : Fin 257, FP.dadd (own_val (Int32.ofInt ((n.val : Int) - 1))) (4607182418800017408 : UInt64) &&& 0x7fffffffffffffff ≤ 0x7ff0000000000000 := by decide +kernel
  have q4 : ∀ n : Fin 257, FP.ddiv (FP.dadd (own_val (Int32.ofInt ((n.val : Int) - 1))) (4607182418800017408 : UInt64)) (own_maxD (own_val (Int32.ofInt ((n.val : Int) - 1)))) &&& 0x7fffffffffffffff ≤ 0x7ff0000000000000 := by decide +kernel
  have q5 : ∀ n : Fin 257, FP.ddiv (4607182418800017408 : UInt64) (own_maxD (own_val (Int32.ofInt ((n.val : Int) - 1)))) &&& 0x7fffffffffffffff ≤ 0x7ff0000000000000 := by decide +kernel
  have q6 : ∀ n : Fin 257, FP.ddiv (own_val (Int32.ofInt ((n.val : Int) - 1))) (own_maxD (own_val (Int32.ofInt ((n.val : Int) - 1)))) &&& 0x7fffffffffffffff ≤ 0x7ff0000000000000 := by decide +kernel
  exact ⟨q1 n, q2 n, q3 n, q4 n, q5 n, q6 n⟩
set_option maxRecDepth 65536 in
theorem own_fib (a : Int32) (h : own_inB a) : ¬ (cmpValue (FP.dcmp (own_val a) (0 : UInt64)) .l < (0 : Int32)) ∧ ¬ ((0 : Int32) < cmpValue (FP.dcmp (own_val a) (4607182418800017408 : UInt64)) .g) := by
  obtain ⟨n, rfl⟩ := h
  have q1 : ∀ n : Fin 10, ¬ (cmpValue (FP.dcmp (own_val (Int32.ofInt ((n.val : Int) - 1))) (0 : UInt64)) .l < (0 : Int32)) := by decide +kernel
  have q2 : ∀ n : Fin 10, ¬ ((0 : Int32) < cmpValue (FP.dcmp (own_val (Int32.ofInt ((n.val : Int) - 1))) (4607182418800017408 : UInt64)) .g) := by decide +kernel
  exact ⟨q1 n, q2 n⟩
theorem own_selfk (a : Int32) (h : own_inK a) : cmpValue (FP.dcmp (own_val a) (own_val a)) .l = (0 : Int32) := dcmpV_self (own_nnv a h) .l
theorem own_selfb (a : Int32) (h : own_inB a) : cmpValue (FP.dcmp (own_val a) (own_val a)) .l = (0 : Int32) := own_selfk a (own_bk h)
theorem own_cmp (a b : Int32) (ha : own_inK a) (hb : own_inK b) : own_cmpD (own_val a) (own_val b) = (0 : Int32) ↔ a = b := by
  constructor
  · intro h
    have q : (own_val a).toInt64 = (own_val b).toInt64 := by
      unfold own_cmpD at h
      split at h
      · exact absurd h (by decide)
      · split at h
        · exact absurd h (by decide)
        · split at h
          · assumption
          · split at h <;> exact absurd h (by decide)
    have q2 : own_val a = own_val b := by have := congrArg Int64.toUInt64 q; simpa using this
    rw [← own_invk a ha, ← own_invk b hb, q2]
  · rintro rfl
    have g1 : cmpValue (FP.dcmp (own_val a) (own_val a)) .g = (0 : Int32) := dcmpV_self (own_nnv a ha) .g
    have g2 := own_selfk a ha
    unfold own_cmpD
    rw [g1, g2]
    simp
theorem own_cmp_k (x y : Int32) : own_cmpD (own_val (own_kCode x)) (own_val (own_kCode y)) = (0 : Int32) ↔ own_kCode x = own_kCode y := own_cmp _ _ (own_krk x) (own_krk y)
theorem own_cmp_b (x y : Int32) : own_cmpD (own_val (own_bCode x)) (own_val (own_bCode y)) = (0 : Int32) ↔ own_bCode x = own_bCode y := own_cmp _ _ (own_bk (own_brk x)) (own_bk (own_brk y))
theorem own_pd_7 : parseMethodDescriptor "(I)I" = some ⟨[.int], some .int⟩ := by decide +kernel
theorem own_pd_6 : parseMethodDescriptor "(I)D" = some ⟨[.int], some .double⟩ := by decide +kernel
theorem own_pd_5 : parseMethodDescriptor "(DD)V" = some ⟨[.double, .double], none⟩ := by decide +kernel
theorem own_pd_11 : parseMethodDescriptor "(Ljava/lang/Object;)Z" = some ⟨[(.object "java/lang/Object")], some .boolean⟩ := by decide +kernel
theorem own_pd_8 : parseMethodDescriptor "(I)Ljava/lang/Integer;" = some ⟨[.int], some (.object "java/lang/Integer")⟩ := by decide +kernel
def own_law_Q (n0 : Nat) (v : Option Value) (h : Heap) (L : List Loc) : Prop := v = some (.int 1) ∧ Fr n0 L
theorem own_law_ef (m : MethodId) (p1 : Int32) (p2 : Int32) (p3 : Int32) (p4 : Int32) : entryFrame m #[(.int p1), (.int p2), (.int p3), (.int p4)] maxLocals = mkF m 0 #[.val (.int p1), .val (.int p2), .val (.int p3), .val (.int p4), .unset, .unset, .unset, .unset, .unset, .unset, .unset, .unset, .unset, .unset, .unset, .unset] [] := by first | (simp [entryFrame, mkF, argsToLocals, Value.category, maxLocals]; done) | rfl
set_option maxRecDepth 65536 in
set_option maxHeartbeats 40000000 in
theorem own_law (l : Launch) (Z : State) (a0 : Array Value) (hw : ∀ d ∈ tables_1, d.before a0 Z = true) (ws : List Jvm.Cond) (p1 : Int32) (p2 : Int32) (p3 : Int32) (p4 : Int32) (h0 : Heap) (n0 : Nat) (Z0 : n0 ≤ h0.size) (hC : own_cache Z h0) :
    MetFree l x (head1 (Jvm.Cond.code x code maxLocals ret :: ws) room_1) (fun a U => a = #[(.int p1), (.int p2), (.int p3), (.int p4)] ∧ Z.Warmed39 U.vm ∧ U.heap = h0) (fun _ _ _ _ _ => True) (fun _ U o U' => ∃ v L, o = .returned v ∧ own_law_Q n0 v U'.heap L ∧ FrameEnd U o U' L room_1.cells room_1.slots) := by
  refine MetFree.of_bodySF (plainFor_of_name own_pn_Bm25EqualsPinLaw) hisR ?_
  intro p e s m args below meth c s₁ Bd hml0 hP hK
  obtain ⟨rfl, hZ, hh⟩ := hP
  have hx := Bd.exec
  have hby := Bd.bytes
  have hml : c.maxLocals = 16 := hml0
  have hown : s.vm.findClass "com/example/lean_scorer/leanscorer/Bm25EqualsPinLaw" = some m.cls := findClass_of_methodNamed Bd.named
  have hnm := (name_of_methodNamed Bd.named Bd.method).1
  have X0 : Stand p l e room_1 s m #[(.int p1), (.int p2), (.int p3), (.int p4)] below meth c s₁ [] 0 0 := Stand.of_body Bd
  have e0 : s₁.heap = h0 := by rw [← hh, Bd.state]; rfl
  show own_E p e below (own_K (own_law_Q n0) s room_1.cells room_1.slots) s₁ (entryFrame m #[(.int p1), (.int p2), (.int p3), (.int p4)] maxLocals)
  refine own_pre (own_law_ef m p1 p2 p3 p4) ?_
  show own_E p e below _ s₁ (mkF m 0 #[iv p1, iv p2, iv p3, iv p4, .unset, .unset, .unset, .unset, .unset, .unset, .unset, .unset, .unset, .unset, .unset, .unset] [])
  refine own_st (fun t k => XS.iloadN X0.here hx rfl (hb hby at_0) rfl k) ?_
  show own_E p e below _ s₁ (mkF m 1 #[iv p1, iv p2, iv p3, iv p4, .unset, .unset, .unset, .unset, .unset, .unset, .unset, .unset, .unset, .unset, .unset, .unset] [.int p1])
  obtain ⟨_, _, ⟨T1, L1, k1, n1⟩, -, X1, ⟨Lc1, hQ1, l1, y1, z1⟩, st1⟩ := Jvm.LawKit.callS X0 hx (y := own_y0) hown (mvT hZ (own_w hw 0 rfl)) (mvT hZ (own_w hw 1 rfl)) (mvT hZ (own_w hw 2 rfl)) (mvT hZ (own_w hw 3 rfl)) (by decide) (backOf (W := 0) (own_rkc l Z a0 hw [] p1 h0 n0 Z0 ) hZ (own_w hw 3 rfl) (own_w hw 2 rfl) (by decide) (by decide)) (g := (mkF m 1 #[iv p1, iv p2, iv p3, iv p4, .unset, .unset, .unset, .unset, .unset, .unset, .unset, .unset, .unset, .unset, .unset, .unset] [.int p1])) rfl (by rw [hml]; rfl) (argsL := [(.int p1)]) (rest := []) (lenOf own_pd_7 rfl) rfl (by show 2 * 0 + _ ≤ _; exact Nat.le_of_eq rfl) (hb hby at_1) (fun _ _ => ⟨rfl, e0, (by decide : 0 + 0 ≤ _), (by decide : 0 + 0 ≤ _)⟩)
  dsimp only [Pt.U, Pt.locs, Pt.cells, Pt.slots] at X1 l1 y1 z1 st1 hQ1
  subst l1 y1 z1
  obtain ⟨rfl, e1, rfl⟩ := hQ1
  have N1 := Fr.app (Fr.nil n0) (Fr.nil n0)
  refine own_st st1 ?_
  show own_E p e below _ T1 (mkF m 4 #[iv p1, iv p2, iv p3, iv p4, .unset, .unset, .unset, .unset, .unset, .unset, .unset, .unset, .unset, .unset, .unset, .unset] [.int (own_kCode p1)])
  refine own_st (fun t k => XS.istore X1.here hx rfl (hb hby at_4) rfl (l' := #[iv p1, iv p2, iv p3, iv p4, iv (own_kCode p1), .unset, .unset, .unset, .unset, .unset, .unset, .unset, .unset, .unset, .unset, .unset]) rfl k) ?_
  show own_E p e below _ T1 (mkF m 6 #[iv p1, iv p2, iv p3, iv p4, iv (own_kCode p1), .unset, .unset, .unset, .unset, .unset, .unset, .unset, .unset, .unset, .unset, .unset] [])
  refine own_st (fun t k => XS.iloadN X1.here hx rfl (hb hby at_6) rfl k) ?_
  show own_E p e below _ T1 (mkF m 7 #[iv p1, iv p2, iv p3, iv p4, iv (own_kCode p1), .unset, .unset, .unset, .unset, .unset, .unset, .unset, .unset, .unset, .unset, .unset] [.int p2])
  obtain ⟨_, _, ⟨T2, L2, k2, n2⟩, -, X2, ⟨Lc2, hQ2, l2, y2, z2⟩, st2⟩ := Jvm.LawKit.callS X1 hx (y := own_y1) hown (mvT hZ (own_w hw 4 rfl)) (mvT hZ (own_w hw 5 rfl)) (mvT hZ (own_w hw 2 rfl)) (mvT hZ (own_w hw 6 rfl)) (by decide) (backOf (W := 0) (own_rbc l Z a0 hw [] p2 h0 n0 Z0 ) hZ (own_w hw 6 rfl) (own_w hw 2 rfl) (by decide) (by decide)) (g := (mkF m 7 #[iv p1, iv p2, iv p3, iv p4, iv (own_kCode p1), .unset, .unset, .unset, .unset, .unset, .unset, .unset, .unset, .unset, .unset, .unset] [.int p2])) rfl (by rw [hml]; rfl) (argsL := [(.int p2)]) (rest := []) (lenOf own_pd_7 rfl) rfl (by show 2 * 0 + _ ≤ _; exact Nat.le_of_eq rfl) (hb hby at_7) (fun _ _ => ⟨rfl, e1, (by decide : 0 + 0 ≤ _), (by decide : 0 + 0 ≤ _)⟩)
  dsimp only [Pt.U, Pt.locs, Pt.cells, Pt.slots] at X2 l2 y2 z2 st2 hQ2
  subst l2 y2 z2
  obtain ⟨rfl, e2, rfl⟩ := hQ2
  have N2 := Fr.app N1 (Fr.nil n0)
  refine own_st st2 ?_
  show own_E p e below _ T2 (mkF m 10 #[iv p1, iv p2, iv p3, iv p4, iv (own_kCode p1), .unset, .unset, .unset, .unset, .unset, .unset, .unset, .unset, .unset, .unset, .unset] [.int (own_bCode p2)])
  refine own_st (fun t k => XS.istore X2.here hx rfl (hb hby at_10) rfl (l' := #[iv p1, iv p2, iv p3, iv p4, iv (own_kCode p1), iv (own_bCode p2), .unset, .unset, .unset, .unset, .unset, .unset, .unset, .unset, .unset, .unset]) rfl k) ?_
  show own_E p e below _ T2 (mkF m 12 #[iv p1, iv p2, iv p3, iv p4, iv (own_kCode p1), iv (own_bCode p2), .unset, .unset, .unset, .unset, .unset, .unset, .unset, .unset, .unset, .unset] [])
  refine own_st (fun t k => XS.iloadN X2.here hx rfl (hb hby at_12) rfl k) ?_
  show own_E p e below _ T2 (mkF m 13 #[iv p1, iv p2, iv p3, iv p4, iv (own_kCode p1), iv (own_bCode p2), .unset, .unset, .unset, .unset, .unset, .unset, .unset, .unset, .unset, .unset] [.int p3])
  obtain ⟨_, _, ⟨T3, L3, k3, n3⟩, -, X3, ⟨Lc3, hQ3, l3, y3, z3⟩, st3⟩ := Jvm.LawKit.callS X2 hx (y := own_y0) hown (mvT hZ (own_w hw 0 rfl)) (mvT hZ (own_w hw 1 rfl)) (mvT hZ (own_w hw 2 rfl)) (mvT hZ (own_w hw 3 rfl)) (by decide) (backOf (W := 0) (own_rkc l Z a0 hw [] p3 h0 n0 Z0 ) hZ (own_w hw 3 rfl) (own_w hw 2 rfl) (by decide) (by decide)) (g := (mkF m 13 #[iv p1, iv p2, iv p3, iv p4, iv (own_kCode p1), iv (own_bCode p2), .unset, .unset, .unset, .unset, .unset, .unset, .unset, .unset, .unset, .unset] [.int p3])) rfl (by rw [hml]; rfl) (argsL := [(.int p3)]) (rest := []) (lenOf own_pd_7 rfl) rfl (by show 2 * 0 + _ ≤ _; exact Nat.le_of_eq rfl) (hb hby at_13) (fun _ _ => ⟨rfl, e2, (by decide : 0 + 0 ≤ _), (by decide : 0 + 0 ≤ _)⟩)
  dsimp only [Pt.U, Pt.locs, Pt.cells, Pt.slots] at X3 l3 y3 z3 st3 hQ3
  subst l3 y3 z3
  obtain ⟨rfl, e3, rfl⟩ := hQ3
  have N3 := Fr.app N2 (Fr.nil n0)
  refine own_st st3 ?_
  show own_E p e below _ T3 (mkF m 16 #[iv p1, iv p2, iv p3, iv p4, iv (own_kCode p1), iv (own_bCode p2), .unset, .unset, .unset, .unset, .unset, .unset, .unset, .unset, .unset, .unset] [.int (own_kCode p3)])
  refine own_st (fun t k => XS.istore X3.here hx rfl (hb hby at_16) rfl (l' := #[iv p1, iv p2, iv p3, iv p4, iv (own_kCode p1), iv (own_bCode p2), iv (own_kCode p3), .unset, .unset, .unset, .unset, .unset, .unset, .unset, .unset, .unset]) rfl k) ?_
  show own_E p e below _ T3 (mkF m 18 #[iv p1, iv p2, iv p3, iv p4, iv (own_kCode p1), iv (own_bCode p2), iv (own_kCode p3), .unset, .unset, .unset, .unset, .unset, .unset, .unset, .unset, .unset] [])
  refine own_st (fun t k => XS.iloadN X3.here hx rfl (hb hby at_18) rfl k) ?_
  show own_E p e below _ T3 (mkF m 19 #[iv p1, iv p2, iv p3, iv p4, iv (own_kCode p1), iv (own_bCode p2), iv (own_kCode p3), .unset, .unset, .unset, .unset, .unset, .unset, .unset, .unset, .unset] [.int p4])
  obtain ⟨_, _, ⟨T4, L4, k4, n4⟩, -, X4, ⟨Lc4, hQ4, l4, y4, z4⟩, st4⟩ := Jvm.LawKit.callS X3 hx (y := own_y1) hown (mvT hZ (own_w hw 4 rfl)) (mvT hZ (own_w hw 5 rfl)) (mvT hZ (own_w hw 2 rfl)) (mvT hZ (own_w hw 6 rfl)) (by decide) (backOf (W := 0) (own_rbc l Z a0 hw [] p4 h0 n0 Z0 ) hZ (own_w hw 6 rfl) (own_w hw 2 rfl) (by decide) (by decide)) (g := (mkF m 19 #[iv p1, iv p2, iv p3, iv p4, iv (own_kCode p1), iv (own_bCode p2), iv (own_kCode p3), .unset, .unset, .unset, .unset, .unset, .unset, .unset, .unset, .unset] [.int p4])) rfl (by rw [hml]; rfl) (argsL := [(.int p4)]) (rest := []) (lenOf own_pd_7 rfl) rfl (by show 2 * 0 + _ ≤ _; exact Nat.le_of_eq rfl) (hb hby at_19) (fun _ _ => ⟨rfl, e3, (by decide : 0 + 0 ≤ _), (by decide : 0 + 0 ≤ _)⟩)
  dsimp only [Pt.U, Pt.locs, Pt.cells, Pt.slots] at X4 l4 y4 z4 st4 hQ4
  subst l4 y4 z4
  obtain ⟨rfl, e4, rfl⟩ := hQ4
  have N4 := Fr.app N3 (Fr.nil n0)
  refine own_st st4 ?_
  show own_E p e below _ T4 (mkF m 22 #[iv p1, iv p2, iv p3, iv p4, iv (own_kCode p1), iv (own_bCode p2), iv (own_kCode p3), .unset, .unset, .unset, .unset, .unset, .unset, .unset, .unset, .unset] [.int (own_bCode p4)])
  refine own_st (fun t k => XS.istore X4.here hx rfl (hb hby at_22) rfl (l' := #[iv p1, iv p2, iv p3, iv p4, iv (own_kCode p1), iv (own_bCode p2), iv (own_kCode p3), iv (own_bCode p4), .unset, .unset, .unset, .unset, .unset, .unset, .unset, .unset]) rfl k) ?_
  show own_E p e below _ T4 (mkF m 24 #[iv p1, iv p2, iv p3, iv p4, iv (own_kCode p1), iv (own_bCode p2), iv (own_kCode p3), iv (own_bCode p4), .unset, .unset, .unset, .unset, .unset, .unset, .unset, .unset] [])
  obtain ⟨T5, h5, X5, e5, E5, A5, D5, -, st5⟩ := newO X4 hx hZ hown (own_w hw 8 rfl) (own_w hw 9 rfl) (own_w hw 10 rfl) e4 (g := (mkF m 24 #[iv p1, iv p2, iv p3, iv p4, iv (own_kCode p1), iv (own_bCode p2), iv (own_kCode p3), iv (own_bCode p4), .unset, .unset, .unset, .unset, .unset, .unset, .unset, .unset] [])) rfl (hb hby at_24) (by decide) (by decide)
  obtain ⟨b5, g5⟩ : ∃ z, z = h0.size := ⟨_, rfl⟩
  rw [← g5] at A5 D5 st5
  have g_b5 : n0 ≤ b5 := Nat.le_trans Z0 (Nat.le_of_eq g5.symm)
  have sz_b5 : h0.size ≤ b5 := Nat.le_trans (Keep.refl h0 []).1 (Nat.le_of_eq g5.symm)
  have Z6 := Nat.le_trans Z0 E5.1
  have K7 : Keep h0 _ [] := (Keep.refl h0 []).ext E5
  have F_k1_b5 : Fld Z h5 b5 "com/example/lean_scorer/leanscorer/Bm25" "k1" "D" (.double (0 : UInt64)) := D5 (Or.inr (own_w hw 28 rfl)) (ty := .double) (by decide)
  have F_b_b5 : Fld Z h5 b5 "com/example/lean_scorer/leanscorer/Bm25" "b" "D" (.double (0 : UInt64)) := D5 (Or.inr (own_w hw 30 rfl)) (ty := .double) (by decide)
  have F_numeratorFactor_b5 : Fld Z h5 b5 "com/example/lean_scorer/leanscorer/Bm25" "numeratorFactor" "D" (.double (0 : UInt64)) := D5 (Or.inr (own_w hw 36 rfl)) (ty := .double) (by decide)
  have F_frequencyFactor_b5 : Fld Z h5 b5 "com/example/lean_scorer/leanscorer/Bm25" "frequencyFactor" "D" (.double (0 : UInt64)) := D5 (Or.inr (own_w hw 38 rfl)) (ty := .double) (by decide)
  have F_normFactor_b5 : Fld Z h5 b5 "com/example/lean_scorer/leanscorer/Bm25" "normFactor" "D" (.double (0 : UInt64)) := D5 (Or.inr (own_w hw 40 rfl)) (ty := .double) (by decide)
  refine own_st st5 ?_
  show own_E p e below _ T5 (mkF m 27 #[iv p1, iv p2, iv p3, iv p4, iv (own_kCode p1), iv (own_bCode p2), iv (own_kCode p3), iv (own_bCode p4), .unset, .unset, .unset, .unset, .unset, .unset, .unset, .unset] [.ref b5])
  refine own_st (fun t k => XS.dup X5.here hx rfl (hb hby at_27) rfl rfl k) ?_
  show own_E p e below _ T5 (mkF m 28 #[iv p1, iv p2, iv p3, iv p4, iv (own_kCode p1), iv (own_bCode p2), iv (own_kCode p3), iv (own_bCode p4), .unset, .unset, .unset, .unset, .unset, .unset, .unset, .unset] [.ref b5, .ref b5])
  refine own_st (fun t k => XS.iload X5.here hx rfl (hb hby at_28) rfl k) ?_
  show own_E p e below _ T5 (mkF m 30 #[iv p1, iv p2, iv p3, iv p4, iv (own_kCode p1), iv (own_bCode p2), iv (own_kCode p3), iv (own_bCode p4), .unset, .unset, .unset, .unset, .unset, .unset, .unset, .unset] [.int (own_kCode p1), .ref b5, .ref b5])
  obtain ⟨_, _, ⟨T8, L8, k8, n8⟩, -, X8, ⟨Lc8, hQ8, l8, y8, z8⟩, st8⟩ := Jvm.LawKit.callS X5 hx (y := own_y2) hown (mvT hZ (own_w hw 11 rfl)) (mvT hZ (own_w hw 12 rfl)) (mvT hZ (own_w hw 2 rfl)) (mvT hZ (own_w hw 13 rfl)) (by decide) (backOf (W := 2) (own_rval l Z a0 hw [] (own_kCode p1) h5 n0 Z6 (own_nn8 _ (own_krk p1))) hZ (own_w hw 13 rfl) (own_w hw 2 rfl) (by decide) (by decide)) (g := (mkF m 30 #[iv p1, iv p2, iv p3, iv p4, iv (own_kCode p1), iv (own_bCode p2), iv (own_kCode p3), iv (own_bCode p4), .unset, .unset, .unset, .unset, .unset, .unset, .unset, .unset] [.int (own_kCode p1), .ref b5, .ref b5])) rfl (by rw [hml]; rfl) (argsL := [(.int (own_kCode p1))]) (rest := [(.ref b5), (.ref b5)]) (lenOf own_pd_6 rfl) rfl (by show 2 * 0 + _ ≤ _; exact Nat.le_of_eq rfl) (hb hby at_30) (fun _ _ => ⟨rfl, e5, (by decide : 1 + 0 ≤ _), (by decide : 5 + 0 ≤ _)⟩)
  dsimp only [Pt.U, Pt.locs, Pt.cells, Pt.slots] at X8 l8 y8 z8 st8 hQ8
  subst l8 y8 z8
  obtain ⟨rfl, e8, rfl⟩ := hQ8
  have N8 := Fr.app N4 (Fr.nil n0)
  refine own_st st8 ?_
  show own_E p e below _ T8 (mkF m 33 #[iv p1, iv p2, iv p3, iv p4, iv (own_kCode p1), iv (own_bCode p2), iv (own_kCode p3), iv (own_bCode p4), .unset, .unset, .unset, .unset, .unset, .unset, .unset, .unset] [.double (own_val (own_kCode p1)), .ref b5, .ref b5])
  refine own_st (fun t k => XS.iload X8.here hx rfl (hb hby at_33) rfl k) ?_
  show own_E p e below _ T8 (mkF m 35 #[iv p1, iv p2, iv p3, iv p4, iv (own_kCode p1), iv (own_bCode p2), iv (own_kCode p3), iv (own_bCode p4), .unset, .unset, .unset, .unset, .unset, .unset, .unset, .unset] [.int (own_bCode p2), .double (own_val (own_kCode p1)), .ref b5, .ref b5])
  obtain ⟨_, _, ⟨T9, L9, k9, n9⟩, -, X9, ⟨Lc9, hQ9, l9, y9, z9⟩, st9⟩ := Jvm.LawKit.callS X8 hx (y := own_y2) hown (mvT hZ (own_w hw 11 rfl)) (mvT hZ (own_w hw 12 rfl)) (mvT hZ (own_w hw 2 rfl)) (mvT hZ (own_w hw 13 rfl)) (by decide) (backOf (W := 4) (own_rval l Z a0 hw [] (own_bCode p2) h5 n0 Z6 (own_nn8 _ (own_bk (own_brk p2)))) hZ (own_w hw 13 rfl) (own_w hw 2 rfl) (by decide) (by decide)) (g := (mkF m 35 #[iv p1, iv p2, iv p3, iv p4, iv (own_kCode p1), iv (own_bCode p2), iv (own_kCode p3), iv (own_bCode p4), .unset, .unset, .unset, .unset, .unset, .unset, .unset, .unset] [.int (own_bCode p2), .double (own_val (own_kCode p1)), .ref b5, .ref b5])) rfl (by rw [hml]; rfl) (argsL := [(.int (own_bCode p2))]) (rest := [(.double (own_val (own_kCode p1))), (.ref b5), (.ref b5)]) (lenOf own_pd_6 rfl) rfl (by show 2 * 0 + _ ≤ _; exact Nat.le_of_eq rfl) (hb hby at_35) (fun _ _ => ⟨rfl, e8, (by decide : 1 + 0 ≤ _), (by decide : 5 + 0 ≤ _)⟩)
  dsimp only [Pt.U, Pt.locs, Pt.cells, Pt.slots] at X9 l9 y9 z9 st9 hQ9
  subst l9 y9 z9
  obtain ⟨rfl, e9, rfl⟩ := hQ9
  have N9 := Fr.app N8 (Fr.nil n0)
  refine own_st st9 ?_
  show own_E p e below _ T9 (mkF m 38 #[iv p1, iv p2, iv p3, iv p4, iv (own_kCode p1), iv (own_bCode p2), iv (own_kCode p3), iv (own_bCode p4), .unset, .unset, .unset, .unset, .unset, .unset, .unset, .unset] [.double (own_val (own_bCode p2)), .double (own_val (own_kCode p1)), .ref b5, .ref b5])
  obtain ⟨_, _, ⟨T10, L10, k10, n10⟩, -, X10, ⟨Lc10, hQ10, l10, y10, z10⟩, st10⟩ := X9.specialBack hx (y := own_y5) rfl hown (mvT hZ (own_w hw 15 rfl)) (mvT hZ (own_w hw 16 rfl)) (mvT hZ (own_w hw 17 rfl)) (by decide) (backOf (W := 1) (own_init l Z a0 hw [] b5 (own_val (own_kCode p1)) (own_val (own_bCode p2)) h5 n0 Z6 (own_nnv _ (own_krk p1)) (own_fin _ (own_krk p1)).2.2.1 (own_fin _ (own_krk p1)).2.2.2.1 (own_fin _ (own_krk p1)).2.2.2.2.1 (own_fin _ (own_krk p1)).2.2.2.2.2 A5 F_k1_b5 F_b_b5 F_numeratorFactor_b5 F_frequencyFactor_b5 F_normFactor_b5 (own_fin _ (own_krk p1)).1 (own_fin _ (own_krk p1)).2.1 (own_fib _ (own_brk p2)).1 (own_fib _ (own_brk p2)).2 g_b5) hZ (own_w hw 17 rfl) (own_w hw 10 rfl) (by decide) (by decide)) (g := (mkF m 38 #[iv p1, iv p2, iv p3, iv p4, iv (own_kCode p1), iv (own_bCode p2), iv (own_kCode p3), iv (own_bCode p4), .unset, .unset, .unset, .unset, .unset, .unset, .unset, .unset] [.double (own_val (own_bCode p2)), .double (own_val (own_kCode p1)), .ref b5, .ref b5])) rfl (by rw [hml]; rfl) (Steps.refl _) (a := b5) (argsL := [(.double (own_val (own_kCode p1))), (.double (own_val (own_bCode p2)))]) (rest := [(.ref b5)]) (lenOf own_pd_5 rfl) rfl (by show 2 * 0 + _ ≤ _; exact Nat.le_of_eq rfl) (hb hby at_38) (fun _ _ => ⟨rfl, e9, (by decide : 1 + 0 ≤ _), (by decide : 5 + 0 ≤ _)⟩)
  dsimp only [Pt.U, Pt.locs, Pt.cells, Pt.slots] at X10 l10 y10 z10 st10 hQ10
  subst l10 y10 z10
  obtain ⟨rfl, Nq10, Kq10, P10_0, P10_1, P10_2⟩ := hQ10
  have N10 := Fr.app N9 Nq10
  have e10 : T10.heap = T10.heap := rfl
  have Z11 := Nat.le_trans Z6 Kq10.1
  have K12 : Keep h0 _ [] := K7.trans Kq10 (allS (P := fun x => x ∈ [] ∨ h0.size ≤ x) (Or.inr sz_b5) all0)
  refine own_tr st10 ?_
  show own_E p e below _ T10 (mkF m 41 #[iv p1, iv p2, iv p3, iv p4, iv (own_kCode p1), iv (own_bCode p2), iv (own_kCode p3), iv (own_bCode p4), .unset, .unset, .unset, .unset, .unset, .unset, .unset, .unset] [.ref b5])
  refine own_st (fun t k => XS.astore X10.here hx rfl (hb hby at_41) rfl rfl (l' := #[iv p1, iv p2, iv p3, iv p4, iv (own_kCode p1), iv (own_bCode p2), iv (own_kCode p3), iv (own_bCode p4), rv b5, .unset, .unset, .unset, .unset, .unset, .unset, .unset]) rfl k) ?_
  show own_E p e below _ T10 (mkF m 43 #[iv p1, iv p2, iv p3, iv p4, iv (own_kCode p1), iv (own_bCode p2), iv (own_kCode p3), iv (own_bCode p4), rv b5, .unset, .unset, .unset, .unset, .unset, .unset, .unset] [])
  obtain ⟨T13, h13, X13, e13, E13, A13, D13, -, st13⟩ := newO X10 hx hZ hown (own_w hw 8 rfl) (own_w hw 9 rfl) (own_w hw 10 rfl) e10 (g := (mkF m 43 #[iv p1, iv p2, iv p3, iv p4, iv (own_kCode p1), iv (own_bCode p2), iv (own_kCode p3), iv (own_bCode p4), rv b5, .unset, .unset, .unset, .unset, .unset, .unset, .unset] [])) rfl (hb hby at_43) (by decide) (by decide)
  obtain ⟨b13, g13⟩ : ∃ z, z = T10.heap.size := ⟨_, rfl⟩
  rw [← g13] at A13 D13 st13
  have ne_b5_b13 : b5 ≠ b13 := Nat.ne_of_lt (Nat.lt_of_lt_of_le P10_0.lt (Nat.le_of_eq g13.symm))
  have g_b13 : n0 ≤ b13 := Nat.le_trans Z11 (Nat.le_of_eq g13.symm)
  have sz_b13 : h0.size ≤ b13 := Nat.le_trans K12.1 (Nat.le_of_eq g13.symm)
  have Z14 := Nat.le_trans Z11 E13.1
  have K15 : Keep h0 _ [] := K12.ext E13
  have F_k1_b13 : Fld Z h13 b13 "com/example/lean_scorer/leanscorer/Bm25" "k1" "D" (.double (0 : UInt64)) := D13 (Or.inr (own_w hw 28 rfl)) (ty := .double) (by decide)
  have F_b_b13 : Fld Z h13 b13 "com/example/lean_scorer/leanscorer/Bm25" "b" "D" (.double (0 : UInt64)) := D13 (Or.inr (own_w hw 30 rfl)) (ty := .double) (by decide)
  have F_numeratorFactor_b13 : Fld Z h13 b13 "com/example/lean_scorer/leanscorer/Bm25" "numeratorFactor" "D" (.double (0 : UInt64)) := D13 (Or.inr (own_w hw 36 rfl)) (ty := .double) (by decide)
  have F_frequencyFactor_b13 : Fld Z h13 b13 "com/example/lean_scorer/leanscorer/Bm25" "frequencyFactor" "D" (.double (0 : UInt64)) := D13 (Or.inr (own_w hw 38 rfl)) (ty := .double) (by decide)
  have F_normFactor_b13 : Fld Z h13 b13 "com/example/lean_scorer/leanscorer/Bm25" "normFactor" "D" (.double (0 : UInt64)) := D13 (Or.inr (own_w hw 40 rfl)) (ty := .double) (by decide)
  refine own_st st13 ?_
  show own_E p e below _ T13 (mkF m 46 #[iv p1, iv p2, iv p3, iv p4, iv (own_kCode p1), iv (own_bCode p2), iv (own_kCode p3), iv (own_bCode p4), rv b5, .unset, .unset, .unset, .unset, .unset, .unset, .unset] [.ref b13])
  refine own_st (fun t k => XS.dup X13.here hx rfl (hb hby at_46) rfl rfl k) ?_
  show own_E p e below _ T13 (mkF m 47 #[iv p1, iv p2, iv p3, iv p4, iv (own_kCode p1), iv (own_bCode p2), iv (own_kCode p3), iv (own_bCode p4), rv b5, .unset, .unset, .unset, .unset, .unset, .unset, .unset] [.ref b13, .ref b13])
  refine own_st (fun t k => XS.iload X13.here hx rfl (hb hby at_47) rfl k) ?_
  show own_E p e below _ T13 (mkF m 49 #[iv p1, iv p2, iv p3, iv p4, iv (own_kCode p1), iv (own_bCode p2), iv (own_kCode p3), iv (own_bCode p4), rv b5, .unset, .unset, .unset, .unset, .unset, .unset, .unset] [.int (own_kCode p3), .ref b13, .ref b13])
  obtain ⟨_, _, ⟨T16, L16, k16, n16⟩, -, X16, ⟨Lc16, hQ16, l16, y16, z16⟩, st16⟩ := Jvm.LawKit.callS X13 hx (y := own_y2) hown (mvT hZ (own_w hw 11 rfl)) (mvT hZ (own_w hw 12 rfl)) (mvT hZ (own_w hw 2 rfl)) (mvT hZ (own_w hw 13 rfl)) (by decide) (backOf (W := 2) (own_rval l Z a0 hw [] (own_kCode p3) h13 n0 Z14 (own_nn8 _ (own_krk p3))) hZ (own_w hw 13 rfl) (own_w hw 2 rfl) (by decide) (by decide)) (g := (mkF m 49 #[iv p1, iv p2, iv p3, iv p4, iv (own_kCode p1), iv (own_bCode p2), iv (own_kCode p3), iv (own_bCode p4), rv b5, .unset, .unset, .unset, .unset, .unset, .unset, .unset] [.int (own_kCode p3), .ref b13, .ref b13])) rfl (by rw [hml]; rfl) (argsL := [(.int (own_kCode p3))]) (rest := [(.ref b13), (.ref b13)]) (lenOf own_pd_6 rfl) rfl (by show 2 * 0 + _ ≤ _; exact Nat.le_of_eq rfl) (hb hby at_49) (fun _ _ => ⟨rfl, e13, (by decide : 2 + 0 ≤ _), (by decide : 10 + 0 ≤ _)⟩)
  dsimp only [Pt.U, Pt.locs, Pt.cells, Pt.slots] at X16 l16 y16 z16 st16 hQ16
  subst l16 y16 z16
  obtain ⟨rfl, e16, rfl⟩ := hQ16
  have N16 := Fr.app N10 (Fr.nil n0)
  refine own_st st16 ?_
  show own_E p e below _ T16 (mkF m 52 #[iv p1, iv p2, iv p3, iv p4, iv (own_kCode p1), iv (own_bCode p2), iv (own_kCode p3), iv (own_bCode p4), rv b5, .unset, .unset, .unset, .unset, .unset, .unset, .unset] [.double (own_val (own_kCode p3)), .ref b13, .ref b13])
  refine own_st (fun t k => XS.iload X16.here hx rfl (hb hby at_52) rfl k) ?_
  show own_E p e below _ T16 (mkF m 54 #[iv p1, iv p2, iv p3, iv p4, iv (own_kCode p1), iv (own_bCode p2), iv (own_kCode p3), iv (own_bCode p4), rv b5, .unset, .unset, .unset, .unset, .unset, .unset, .unset] [.int (own_bCode p4), .double (own_val (own_kCode p3)), .ref b13, .ref b13])
  obtain ⟨_, _, ⟨T17, L17, k17, n17⟩, -, X17, ⟨Lc17, hQ17, l17, y17, z17⟩, st17⟩ := Jvm.LawKit.callS X16 hx (y := own_y2) hown (mvT hZ (own_w hw 11 rfl)) (mvT hZ (own_w hw 12 rfl)) (mvT hZ (own_w hw 2 rfl)) (mvT hZ (own_w hw 13 rfl)) (by decide) (backOf (W := 4) (own_rval l Z a0 hw [] (own_bCode p4) h13 n0 Z14 (own_nn8 _ (own_bk (own_brk p4)))) hZ (own_w hw 13 rfl) (own_w hw 2 rfl) (by decide) (by decide)) (g := (mkF m 54 #[iv p1, iv p2, iv p3, iv p4, iv (own_kCode p1), iv (own_bCode p2), iv (own_kCode p3), iv (own_bCode p4), rv b5, .unset, .unset, .unset, .unset, .unset, .unset, .unset] [.int (own_bCode p4), .double (own_val (own_kCode p3)), .ref b13, .ref b13])) rfl (by rw [hml]; rfl) (argsL := [(.int (own_bCode p4))]) (rest := [(.double (own_val (own_kCode p3))), (.ref b13), (.ref b13)]) (lenOf own_pd_6 rfl) rfl (by show 2 * 0 + _ ≤ _; exact Nat.le_of_eq rfl) (hb hby at_54) (fun _ _ => ⟨rfl, e16, (by decide : 2 + 0 ≤ _), (by decide : 10 + 0 ≤ _)⟩)
  dsimp only [Pt.U, Pt.locs, Pt.cells, Pt.slots] at X17 l17 y17 z17 st17 hQ17
  subst l17 y17 z17
  obtain ⟨rfl, e17, rfl⟩ := hQ17
  have N17 := Fr.app N16 (Fr.nil n0)
  refine own_st st17 ?_
  show own_E p e below _ T17 (mkF m 57 #[iv p1, iv p2, iv p3, iv p4, iv (own_kCode p1), iv (own_bCode p2), iv (own_kCode p3), iv (own_bCode p4), rv b5, .unset, .unset, .unset, .unset, .unset, .unset, .unset] [.double (own_val (own_bCode p4)), .double (own_val (own_kCode p3)), .ref b13, .ref b13])
  obtain ⟨_, _, ⟨T18, L18, k18, n18⟩, -, X18, ⟨Lc18, hQ18, l18, y18, z18⟩, st18⟩ := X17.specialBack hx (y := own_y5) rfl hown (mvT hZ (own_w hw 15 rfl)) (mvT hZ (own_w hw 16 rfl)) (mvT hZ (own_w hw 17 rfl)) (by decide) (backOf (W := 1) (own_init l Z a0 hw [] b13 (own_val (own_kCode p3)) (own_val (own_bCode p4)) h13 n0 Z14 (own_nnv _ (own_krk p3)) (own_fin _ (own_krk p3)).2.2.1 (own_fin _ (own_krk p3)).2.2.2.1 (own_fin _ (own_krk p3)).2.2.2.2.1 (own_fin _ (own_krk p3)).2.2.2.2.2 A13 F_k1_b13 F_b_b13 F_numeratorFactor_b13 F_frequencyFactor_b13 F_normFactor_b13 (own_fin _ (own_krk p3)).1 (own_fin _ (own_krk p3)).2.1 (own_fib _ (own_brk p4)).1 (own_fib _ (own_brk p4)).2 g_b13) hZ (own_w hw 17 rfl) (own_w hw 10 rfl) (by decide) (by decide)) (g := (mkF m 57 #[iv p1, iv p2, iv p3, iv p4, iv (own_kCode p1), iv (own_bCode p2), iv (own_kCode p3), iv (own_bCode p4), rv b5, .unset, .unset, .unset, .unset, .unset, .unset, .unset] [.double (own_val (own_bCode p4)), .double (own_val (own_kCode p3)), .ref b13, .ref b13])) rfl (by rw [hml]; rfl) (Steps.refl _) (a := b13) (argsL := [(.double (own_val (own_kCode p3))), (.double (own_val (own_bCode p4)))]) (rest := [(.ref b13)]) (lenOf own_pd_5 rfl) rfl (by show 2 * 0 + _ ≤ _; exact Nat.le_of_eq rfl) (hb hby at_57) (fun _ _ => ⟨rfl, e17, (by decide : 2 + 0 ≤ _), (by decide : 10 + 0 ≤ _)⟩)
  dsimp only [Pt.U, Pt.locs, Pt.cells, Pt.slots] at X18 l18 y18 z18 st18 hQ18
  subst l18 y18 z18
  obtain ⟨rfl, Nq18, Kq18, P18_0, P18_1, P18_2⟩ := hQ18
  have N18 := Fr.app N17 Nq18
  have e18 : T18.heap = T18.heap := rfl
  have Z19 := Nat.le_trans Z14 Kq18.1
  have K20 : Keep h0 _ [] := K15.trans Kq18 (allS (P := fun x => x ∈ [] ∨ h0.size ≤ x) (Or.inr sz_b13) all0)
  refine own_tr st18 ?_
  show own_E p e below _ T18 (mkF m 60 #[iv p1, iv p2, iv p3, iv p4, iv (own_kCode p1), iv (own_bCode p2), iv (own_kCode p3), iv (own_bCode p4), rv b5, .unset, .unset, .unset, .unset, .unset, .unset, .unset] [.ref b13])
  refine own_st (fun t k => XS.astore X18.here hx rfl (hb hby at_60) rfl rfl (l' := #[iv p1, iv p2, iv p3, iv p4, iv (own_kCode p1), iv (own_bCode p2), iv (own_kCode p3), iv (own_bCode p4), rv b5, rv b13, .unset, .unset, .unset, .unset, .unset, .unset]) rfl k) ?_
  show own_E p e below _ T18 (mkF m 62 #[iv p1, iv p2, iv p3, iv p4, iv (own_kCode p1), iv (own_bCode p2), iv (own_kCode p3), iv (own_bCode p4), rv b5, rv b13, .unset, .unset, .unset, .unset, .unset, .unset] [])
  refine own_st (fun t k => XS.iload X18.here hx rfl (hb hby at_62) rfl k) ?_
  show own_E p e below _ T18 (mkF m 64 #[iv p1, iv p2, iv p3, iv p4, iv (own_kCode p1), iv (own_bCode p2), iv (own_kCode p3), iv (own_bCode p4), rv b5, rv b13, .unset, .unset, .unset, .unset, .unset, .unset] [.int (own_kCode p1)])
  refine own_st (fun t k => XS.iload X18.here hx rfl (hb hby at_64) rfl k) ?_
  show own_E p e below _ T18 (mkF m 66 #[iv p1, iv p2, iv p3, iv p4, iv (own_kCode p1), iv (own_bCode p2), iv (own_kCode p3), iv (own_bCode p4), rv b5, rv b13, .unset, .unset, .unset, .unset, .unset, .unset] [.int (own_kCode p3), .int (own_kCode p1)])
  by_cases hc21 : (own_kCode p1) = (own_kCode p3)
  · refine own_st (fun t k => XS.icmpNo X18.here hx rfl (hb hby at_66) rfl (teq hc21).2 k) ?_
    show own_E p e below _ T18 (mkF m 69 #[iv p1, iv p2, iv p3, iv p4, iv (own_kCode p1), iv (own_bCode p2), iv (own_kCode p3), iv (own_bCode p4), rv b5, rv b13, .unset, .unset, .unset, .unset, .unset, .unset] [])
    refine own_st (fun t k => XS.iload X18.here hx rfl (hb hby at_69) rfl k) ?_
    show own_E p e below _ T18 (mkF m 71 #[iv p1, iv p2, iv p3, iv p4, iv (own_kCode p1), iv (own_bCode p2), iv (own_kCode p3), iv (own_bCode p4), rv b5, rv b13, .unset, .unset, .unset, .unset, .unset, .unset] [.int (own_bCode p2)])
    refine own_st (fun t k => XS.iload X18.here hx rfl (hb hby at_71) rfl k) ?_
    show own_E p e below _ T18 (mkF m 73 #[iv p1, iv p2, iv p3, iv p4, iv (own_kCode p1), iv (own_bCode p2), iv (own_kCode p3), iv (own_bCode p4), rv b5, rv b13, .unset, .unset, .unset, .unset, .unset, .unset] [.int (own_bCode p4), .int (own_bCode p2)])
    by_cases hc22 : (own_bCode p2) = (own_bCode p4)
    · refine own_st (fun t k => XS.icmpNo X18.here hx rfl (hb hby at_73) rfl (teq hc22).2 k) ?_
      show own_E p e below _ T18 (mkF m 76 #[iv p1, iv p2, iv p3, iv p4, iv (own_kCode p1), iv (own_bCode p2), iv (own_kCode p3), iv (own_bCode p4), rv b5, rv b13, .unset, .unset, .unset, .unset, .unset, .unset] [])
      refine own_st (fun t k => XS.iconst X18.here hx rfl (hb hby at_76) k) ?_
      show own_E p e below _ T18 (mkF m 77 #[iv p1, iv p2, iv p3, iv p4, iv (own_kCode p1), iv (own_bCode p2), iv (own_kCode p3), iv (own_bCode p4), rv b5, rv b13, .unset, .unset, .unset, .unset, .unset, .unset] [.int 1])
      refine own_st (fun t k => XS.goto X18.here hx rfl (pc0 := 77) (pc' := 81) rfl (hb hby at_77) (by decide) (by decide) k) ?_
      show own_E p e below _ T18 (mkF m 81 #[iv p1, iv p2, iv p3, iv p4, iv (own_kCode p1), iv (own_bCode p2), iv (own_kCode p3), iv (own_bCode p4), rv b5, rv b13, .unset, .unset, .unset, .unset, .unset, .unset] [.int 1])
      refine own_st (fun t k => XS.istore X18.here hx rfl (hb hby at_81) rfl (l' := #[iv p1, iv p2, iv p3, iv p4, iv (own_kCode p1), iv (own_bCode p2), iv (own_kCode p3), iv (own_bCode p4), rv b5, rv b13, iv 1, .unset, .unset, .unset, .unset, .unset]) rfl k) ?_
      show own_E p e below _ T18 (mkF m 83 #[iv p1, iv p2, iv p3, iv p4, iv (own_kCode p1), iv (own_bCode p2), iv (own_kCode p3), iv (own_bCode p4), rv b5, rv b13, iv 1, .unset, .unset, .unset, .unset, .unset] [])
      refine own_st (fun t k => XS.aload X18.here hx rfl (hb hby at_83) rfl rfl k) ?_
      show own_E p e below _ T18 (mkF m 85 #[iv p1, iv p2, iv p3, iv p4, iv (own_kCode p1), iv (own_bCode p2), iv (own_kCode p3), iv (own_bCode p4), rv b5, rv b13, iv 1, .unset, .unset, .unset, .unset, .unset] [.ref b5])
      refine own_st (fun t k => XS.aload X18.here hx rfl (hb hby at_85) rfl rfl k) ?_
      show own_E p e below _ T18 (mkF m 87 #[iv p1, iv p2, iv p3, iv p4, iv (own_kCode p1), iv (own_bCode p2), iv (own_kCode p3), iv (own_bCode p4), rv b5, rv b13, iv 1, .unset, .unset, .unset, .unset, .unset] [.ref b13, .ref b5])
      have B23 := ((P10_1.ext E13).keep Kq18 (ninS ne_b5_b13 nin0))
      have B24 := ((P10_2.ext E13).keep Kq18 (ninS ne_b5_b13 nin0))
      have B26 := ((P10_0.ext E13).keep Kq18)
      obtain ⟨cq25, kq25, q25a, q25b, q25c⟩ := isOf hZ e18 B26
      obtain ⟨_, _, ⟨T25, L25, k25, n25⟩, -, X25, ⟨Lc25, hQ25, l25, y25, z25⟩, st25⟩ := X18.virtualBack hx (y := own_y9) (z := own_y9) hown (mvT hZ (own_w hw 41 rfl)) (mvT hZ (own_w hw 42 rfl)) (notFace_of_selects (args := #[]) (mvT hZ (own_w hw 44 rfl))) (mvT hZ (own_w hw 44 rfl)) (mvT hZ (own_w hw 43 rfl)) (by decide) (backOf (W := 0) (own_eqT l Z a0 hw [] b5 b13 (own_val (own_kCode p1)) (own_val (own_bCode p2)) (own_val (own_kCode p3)) (own_val (own_bCode p4)) T18.heap n0 Z19 P18_0 B23 B24 P18_1 P18_2 (own_selfk _ (own_krk p1)) (own_selfb _ (own_brk p2)) (own_selfk _ (own_krk p3)) (own_selfb _ (own_brk p4))) hZ (own_w hw 45 rfl) (own_w hw 10 rfl) (by decide) (by decide)) q25a q25c (g := (mkF m 87 #[iv p1, iv p2, iv p3, iv p4, iv (own_kCode p1), iv (own_bCode p2), iv (own_kCode p3), iv (own_bCode p4), rv b5, rv b13, iv 1, .unset, .unset, .unset, .unset, .unset] [.ref b13, .ref b5])) rfl (by rw [hml]; rfl) (Steps.refl _) (argsL := [(.ref b13)]) (rest := []) (lenOf own_pd_11 rfl) rfl (by show 2 * 0 + _ ≤ _; exact Nat.le_of_eq rfl) (hb hby at_87) (fun _ _ => ⟨rfl, e18, (by decide : 2 + 0 ≤ _), (by decide : 10 + 0 ≤ _)⟩)
      dsimp only [Pt.U, Pt.locs, Pt.cells, Pt.slots] at X25 l25 y25 z25 st25 hQ25
      subst l25 y25 z25
      obtain ⟨hR25, e25, rfl⟩ := hQ25
      have N25 := Fr.app N18 (Fr.nil n0)
      rcases hR25 with ⟨rfl, ha25_0, ha25_1⟩ | ⟨rfl, ha25_0, ha25_1⟩ | ⟨rfl, ha25_0⟩
      · refine own_tr st25 ?_
        show own_E p e below _ T25 (mkF m 90 #[iv p1, iv p2, iv p3, iv p4, iv (own_kCode p1), iv (own_bCode p2), iv (own_kCode p3), iv (own_bCode p4), rv b5, rv b13, iv 1, .unset, .unset, .unset, .unset, .unset] [.int 1])
        refine own_st (fun t k => XS.istore X25.here hx rfl (hb hby at_90) rfl (l' := #[iv p1, iv p2, iv p3, iv p4, iv (own_kCode p1), iv (own_bCode p2), iv (own_kCode p3), iv (own_bCode p4), rv b5, rv b13, iv 1, iv 1, .unset, .unset, .unset, .unset]) rfl k) ?_
        show own_E p e below _ T25 (mkF m 92 #[iv p1, iv p2, iv p3, iv p4, iv (own_kCode p1), iv (own_bCode p2), iv (own_kCode p3), iv (own_bCode p4), rv b5, rv b13, iv 1, iv 1, .unset, .unset, .unset, .unset] [])
        refine own_st (fun t k => XS.aload X25.here hx rfl (hb hby at_92) rfl rfl k) ?_
        show own_E p e below _ T25 (mkF m 94 #[iv p1, iv p2, iv p3, iv p4, iv (own_kCode p1), iv (own_bCode p2), iv (own_kCode p3), iv (own_bCode p4), rv b5, rv b13, iv 1, iv 1, .unset, .unset, .unset, .unset] [.ref b13])
        refine own_st (fun t k => XS.aload X25.here hx rfl (hb hby at_94) rfl rfl k) ?_
        show own_E p e below _ T25 (mkF m 96 #[iv p1, iv p2, iv p3, iv p4, iv (own_kCode p1), iv (own_bCode p2), iv (own_kCode p3), iv (own_bCode p4), rv b5, rv b13, iv 1, iv 1, .unset, .unset, .unset, .unset] [.ref b5, .ref b13])
        obtain ⟨cq27, kq27, q27a, q27b, q27c⟩ := isOf hZ e25 P18_0
        obtain ⟨_, _, ⟨T27, L27, k27, n27⟩, -, X27, ⟨Lc27, hQ27, l27, y27, z27⟩, st27⟩ := X25.virtualBack hx (y := own_y9) (z := own_y9) hown (mvT hZ (own_w hw 41 rfl)) (mvT hZ (own_w hw 42 rfl)) (notFace_of_selects (args := #[]) (mvT hZ (own_w hw 44 rfl))) (mvT hZ (own_w hw 44 rfl)) (mvT hZ (own_w hw 43 rfl)) (by decide) (backOf (W := 0) (own_eqT l Z a0 hw [] b13 b5 (own_val (own_kCode p3)) (own_val (own_bCode p4)) (own_val (own_kCode p1)) (own_val (own_bCode p2)) T18.heap n0 Z19 B26 P18_1 P18_2 B23 B24 (own_selfk _ (own_krk p3)) (own_selfb _ (own_brk p4)) (own_selfk _ (own_krk p1)) (own_selfb _ (own_brk p2))) hZ (own_w hw 45 rfl) (own_w hw 10 rfl) (by decide) (by decide)) q27a q27c (g := (mkF m 96 #[iv p1, iv p2, iv p3, iv p4, iv (own_kCode p1), iv (own_bCode p2), iv (own_kCode p3), iv (own_bCode p4), rv b5, rv b13, iv 1, iv 1, .unset, .unset, .unset, .unset] [.ref b5, .ref b13])) rfl (by rw [hml]; rfl) (Steps.refl _) (argsL := [(.ref b5)]) (rest := []) (lenOf own_pd_11 rfl) rfl (by show 2 * 0 + _ ≤ _; exact Nat.le_of_eq rfl) (hb hby at_96) (fun _ _ => ⟨rfl, e25, (by decide : 2 + 0 ≤ _), (by decide : 10 + 0 ≤ _)⟩)
        dsimp only [Pt.U, Pt.locs, Pt.cells, Pt.slots] at X27 l27 y27 z27 st27 hQ27
        subst l27 y27 z27
        obtain ⟨hR27, e27, rfl⟩ := hQ27
        have N27 := Fr.app N25 (Fr.nil n0)
        rcases hR27 with ⟨rfl, ha27_0, ha27_1⟩ | ⟨rfl, ha27_0, ha27_1⟩ | ⟨rfl, ha27_0⟩
        · refine own_tr st27 ?_
          show own_E p e below _ T27 (mkF m 99 #[iv p1, iv p2, iv p3, iv p4, iv (own_kCode p1), iv (own_bCode p2), iv (own_kCode p3), iv (own_bCode p4), rv b5, rv b13, iv 1, iv 1, .unset, .unset, .unset, .unset] [.int 1])
          refine own_st (fun t k => XS.istore X27.here hx rfl (hb hby at_99) rfl (l' := #[iv p1, iv p2, iv p3, iv p4, iv (own_kCode p1), iv (own_bCode p2), iv (own_kCode p3), iv (own_bCode p4), rv b5, rv b13, iv 1, iv 1, iv 1, .unset, .unset, .unset]) rfl k) ?_
          show own_E p e below _ T27 (mkF m 101 #[iv p1, iv p2, iv p3, iv p4, iv (own_kCode p1), iv (own_bCode p2), iv (own_kCode p3), iv (own_bCode p4), rv b5, rv b13, iv 1, iv 1, iv 1, .unset, .unset, .unset] [])
          refine own_st (fun t k => XS.aload X27.here hx rfl (hb hby at_101) rfl rfl k) ?_
          show own_E p e below _ T27 (mkF m 103 #[iv p1, iv p2, iv p3, iv p4, iv (own_kCode p1), iv (own_bCode p2), iv (own_kCode p3), iv (own_bCode p4), rv b5, rv b13, iv 1, iv 1, iv 1, .unset, .unset, .unset] [.ref b5])
          refine own_st (fun t k => XS.aload X27.here hx rfl (hb hby at_103) rfl rfl k) ?_
          show own_E p e below _ T27 (mkF m 105 #[iv p1, iv p2, iv p3, iv p4, iv (own_kCode p1), iv (own_bCode p2), iv (own_kCode p3), iv (own_bCode p4), rv b5, rv b13, iv 1, iv 1, iv 1, .unset, .unset, .unset] [.ref b5, .ref b5])
          obtain ⟨cq28, kq28, q28a, q28b, q28c⟩ := isOf hZ e27 B26
          obtain ⟨_, _, ⟨T28, L28, k28, n28⟩, -, X28, ⟨Lc28, hQ28, l28, y28, z28⟩, st28⟩ := X27.virtualBack hx (y := own_y9) (z := own_y9) hown (mvT hZ (own_w hw 41 rfl)) (mvT hZ (own_w hw 42 rfl)) (notFace_of_selects (args := #[]) (mvT hZ (own_w hw 44 rfl))) (mvT hZ (own_w hw 44 rfl)) (mvT hZ (own_w hw 43 rfl)) (by decide) (backOf (W := 0) (own_eqT l Z a0 hw [] b5 b5 (own_val (own_kCode p1)) (own_val (own_bCode p2)) (own_val (own_kCode p1)) (own_val (own_bCode p2)) T18.heap n0 Z19 B26 B23 B24 B23 B24 (own_selfk _ (own_krk p1)) (own_selfb _ (own_brk p2)) (own_selfk _ (own_krk p1)) (own_selfb _ (own_brk p2))) hZ (own_w hw 45 rfl) (own_w hw 10 rfl) (by decide) (by decide)) q28a q28c (g := (mkF m 105 #[iv p1, iv p2, iv p3, iv p4, iv (own_kCode p1), iv (own_bCode p2), iv (own_kCode p3), iv (own_bCode p4), rv b5, rv b13, iv 1, iv 1, iv 1, .unset, .unset, .unset] [.ref b5, .ref b5])) rfl (by rw [hml]; rfl) (Steps.refl _) (argsL := [(.ref b5)]) (rest := []) (lenOf own_pd_11 rfl) rfl (by show 2 * 0 + _ ≤ _; exact Nat.le_of_eq rfl) (hb hby at_105) (fun _ _ => ⟨rfl, e27, (by decide : 2 + 0 ≤ _), (by decide : 10 + 0 ≤ _)⟩)
          dsimp only [Pt.U, Pt.locs, Pt.cells, Pt.slots] at X28 l28 y28 z28 st28 hQ28
          subst l28 y28 z28
          obtain ⟨hR28, e28, rfl⟩ := hQ28
          have N28 := Fr.app N27 (Fr.nil n0)
          rcases hR28 with ⟨rfl, ha28_0, ha28_1⟩ | ⟨rfl, ha28_0, ha28_1⟩ | ⟨rfl, ha28_0⟩
          · refine own_tr st28 ?_
            show own_E p e below _ T28 (mkF m 108 #[iv p1, iv p2, iv p3, iv p4, iv (own_kCode p1), iv (own_bCode p2), iv (own_kCode p3), iv (own_bCode p4), rv b5, rv b13, iv 1, iv 1, iv 1, .unset, .unset, .unset] [.int 1])
            refine own_st (fun t k => XS.istore X28.here hx rfl (hb hby at_108) rfl (l' := #[iv p1, iv p2, iv p3, iv p4, iv (own_kCode p1), iv (own_bCode p2), iv (own_kCode p3), iv (own_bCode p4), rv b5, rv b13, iv 1, iv 1, iv 1, iv 1, .unset, .unset]) rfl k) ?_
            show own_E p e below _ T28 (mkF m 110 #[iv p1, iv p2, iv p3, iv p4, iv (own_kCode p1), iv (own_bCode p2), iv (own_kCode p3), iv (own_bCode p4), rv b5, rv b13, iv 1, iv 1, iv 1, iv 1, .unset, .unset] [])
            refine own_st (fun t k => XS.aload X28.here hx rfl (hb hby at_110) rfl rfl k) ?_
            show own_E p e below _ T28 (mkF m 112 #[iv p1, iv p2, iv p3, iv p4, iv (own_kCode p1), iv (own_bCode p2), iv (own_kCode p3), iv (own_bCode p4), rv b5, rv b13, iv 1, iv 1, iv 1, iv 1, .unset, .unset] [.ref b5])
            refine own_st (fun t k => XS.aconstNull X28.here hx rfl (hb hby at_112) k) ?_
            show own_E p e below _ T28 (mkF m 113 #[iv p1, iv p2, iv p3, iv p4, iv (own_kCode p1), iv (own_bCode p2), iv (own_kCode p3), iv (own_bCode p4), rv b5, rv b13, iv 1, iv 1, iv 1, iv 1, .unset, .unset] [.null, .ref b5])
            obtain ⟨cq29, kq29, q29a, q29b, q29c⟩ := isOf hZ e28 B26
            obtain ⟨_, _, ⟨T29, L29, k29, n29⟩, -, X29, ⟨Lc29, hQ29, l29, y29, z29⟩, st29⟩ := X28.virtualBack hx (y := own_y9) (z := own_y9) hown (mvT hZ (own_w hw 41 rfl)) (mvT hZ (own_w hw 42 rfl)) (notFace_of_selects (args := #[]) (mvT hZ (own_w hw 44 rfl))) (mvT hZ (own_w hw 44 rfl)) (mvT hZ (own_w hw 43 rfl)) (by decide) (backOf (W := 0) (own_eqN l Z a0 hw [] b5 T18.heap n0 Z19 ) hZ (own_w hw 45 rfl) (own_w hw 10 rfl) (by decide) (by decide)) q29a q29c (g := (mkF m 113 #[iv p1, iv p2, iv p3, iv p4, iv (own_kCode p1), iv (own_bCode p2), iv (own_kCode p3), iv (own_bCode p4), rv b5, rv b13, iv 1, iv 1, iv 1, iv 1, .unset, .unset] [.null, .ref b5])) rfl (by rw [hml]; rfl) (Steps.refl _) (argsL := [.null]) (rest := []) (lenOf own_pd_11 rfl) rfl (by show 2 * 0 + _ ≤ _; exact Nat.le_of_eq rfl) (hb hby at_113) (fun _ _ => ⟨rfl, e28, (by decide : 2 + 0 ≤ _), (by decide : 10 + 0 ≤ _)⟩)
            dsimp only [Pt.U, Pt.locs, Pt.cells, Pt.slots] at X29 l29 y29 z29 st29 hQ29
            subst l29 y29 z29
            obtain ⟨hR29, e29, rfl⟩ := hQ29
            have N29 := Fr.app N28 (Fr.nil n0)
            obtain rfl := hR29
            refine own_tr st29 ?_
            show own_E p e below _ T29 (mkF m 116 #[iv p1, iv p2, iv p3, iv p4, iv (own_kCode p1), iv (own_bCode p2), iv (own_kCode p3), iv (own_bCode p4), rv b5, rv b13, iv 1, iv 1, iv 1, iv 1, .unset, .unset] [.int 0])
            refine own_st (fun t k => XS.istore X29.here hx rfl (hb hby at_116) rfl (l' := #[iv p1, iv p2, iv p3, iv p4, iv (own_kCode p1), iv (own_bCode p2), iv (own_kCode p3), iv (own_bCode p4), rv b5, rv b13, iv 1, iv 1, iv 1, iv 1, iv 0, .unset]) rfl k) ?_
            show own_E p e below _ T29 (mkF m 118 #[iv p1, iv p2, iv p3, iv p4, iv (own_kCode p1), iv (own_bCode p2), iv (own_kCode p3), iv (own_bCode p4), rv b5, rv b13, iv 1, iv 1, iv 1, iv 1, iv 0, .unset] [])
            refine own_st (fun t k => XS.aload X29.here hx rfl (hb hby at_118) rfl rfl k) ?_
            show own_E p e below _ T29 (mkF m 120 #[iv p1, iv p2, iv p3, iv p4, iv (own_kCode p1), iv (own_bCode p2), iv (own_kCode p3), iv (own_bCode p4), rv b5, rv b13, iv 1, iv 1, iv 1, iv 1, iv 0, .unset] [.ref b5])
            refine own_st (fun t k => XS.iloadN X29.here hx rfl (hb hby at_120) rfl k) ?_
            show own_E p e below _ T29 (mkF m 121 #[iv p1, iv p2, iv p3, iv p4, iv (own_kCode p1), iv (own_bCode p2), iv (own_kCode p3), iv (own_bCode p4), rv b5, rv b13, iv 1, iv 1, iv 1, iv 1, iv 0, .unset] [.int p1, .ref b5])
            obtain ⟨_, _, ⟨T30, L30, k30, n30⟩, -, X30, ⟨Lc30, hQ30, l30, y30, z30⟩, st30⟩ := Jvm.LawKit.callS X29 hx (y := own_y12) hown (mvT hZ (own_w hw 61 rfl)) (mvT hZ (own_w hw 62 rfl)) (mvT hZ (own_w hw 63 rfl)) (mvT hZ (own_w hw 64 rfl)) (by decide) (backOf (W := 1) (own_ival l Z a0 hw [] p1 T18.heap n0 Z19 (own_cache_keep hC K20)) hZ (own_w hw 64 rfl) (own_w hw 63 rfl) (by decide) (by decide)) (g := (mkF m 121 #[iv p1, iv p2, iv p3, iv p4, iv (own_kCode p1), iv (own_bCode p2), iv (own_kCode p3), iv (own_bCode p4), rv b5, rv b13, iv 1, iv 1, iv 1, iv 1, iv 0, .unset] [.int p1, .ref b5])) rfl (by rw [hml]; rfl) (argsL := [(.int p1)]) (rest := [(.ref b5)]) (lenOf own_pd_8 rfl) rfl (by show 2 * 0 + _ ≤ _; exact Nat.le_of_eq rfl) (hb hby at_121) (fun _ _ => ⟨rfl, e29, (by decide : 2 + 1 ≤ _), (by decide : 10 + 1 ≤ _)⟩)
            dsimp only [Pt.U, Pt.locs, Pt.cells, Pt.slots] at X30 l30 y30 z30 st30 hQ30
            subst l30 y30 z30
            obtain ⟨b30_o, rfl, Nq30, Kq30, P30⟩ := hQ30
            have N30 := Fr.app N29 Nq30
            have e30 : T30.heap = T30.heap := rfl
            have Z31 := Nat.le_trans Z19 Kq30.1
            have K32 : Keep h0 _ [] := K20.trans Kq30 all0
            refine own_st st30 ?_
            show own_E p e below _ T30 (mkF m 124 #[iv p1, iv p2, iv p3, iv p4, iv (own_kCode p1), iv (own_bCode p2), iv (own_kCode p3), iv (own_bCode p4), rv b5, rv b13, iv 1, iv 1, iv 1, iv 1, iv 0, .unset] [.ref b30_o, .ref b5])
            have B34 := (B26.keep Kq30)
            obtain ⟨cq33, kq33, q33a, q33b, q33c⟩ := isOf hZ e30 B34
            obtain ⟨_, _, ⟨T33, L33, k33, n33⟩, -, X33, ⟨Lc33, hQ33, l33, y33, z33⟩, st33⟩ := X30.virtualBack hx (y := own_y9) (z := own_y9) hown (mvT hZ (own_w hw 41 rfl)) (mvT hZ (own_w hw 42 rfl)) (notFace_of_selects (args := #[]) (mvT hZ (own_w hw 44 rfl))) (mvT hZ (own_w hw 44 rfl)) (mvT hZ (own_w hw 43 rfl)) (by decide) (backOf (W := 0) (own_eqI l Z a0 hw [] b5 b30_o T30.heap n0 Z31 P30) hZ (own_w hw 45 rfl) (own_w hw 10 rfl) (by decide) (by decide)) q33a q33c (g := (mkF m 124 #[iv p1, iv p2, iv p3, iv p4, iv (own_kCode p1), iv (own_bCode p2), iv (own_kCode p3), iv (own_bCode p4), rv b5, rv b13, iv 1, iv 1, iv 1, iv 1, iv 0, .unset] [.ref b30_o, .ref b5])) rfl (by rw [hml]; rfl) (Steps.refl _) (argsL := [(.ref b30_o)]) (rest := []) (lenOf own_pd_11 rfl) rfl (by show 2 * 0 + _ ≤ _; exact Nat.le_of_eq rfl) (hb hby at_124) (fun _ _ => ⟨rfl, e30, (by decide : 3 + 0 ≤ _), (by decide : 11 + 0 ≤ _)⟩)
            dsimp only [Pt.U, Pt.locs, Pt.cells, Pt.slots] at X33 l33 y33 z33 st33 hQ33
            subst l33 y33 z33
            obtain ⟨hR33, e33, rfl⟩ := hQ33
            have N33 := Fr.app N30 (Fr.nil n0)
            obtain rfl := hR33
            refine own_tr st33 ?_
            show own_E p e below _ T33 (mkF m 127 #[iv p1, iv p2, iv p3, iv p4, iv (own_kCode p1), iv (own_bCode p2), iv (own_kCode p3), iv (own_bCode p4), rv b5, rv b13, iv 1, iv 1, iv 1, iv 1, iv 0, .unset] [.int 0])
            refine own_st (fun t k => XS.istore X33.here hx rfl (hb hby at_127) rfl (l' := #[iv p1, iv p2, iv p3, iv p4, iv (own_kCode p1), iv (own_bCode p2), iv (own_kCode p3), iv (own_bCode p4), rv b5, rv b13, iv 1, iv 1, iv 1, iv 1, iv 0, iv 0]) rfl k) ?_
            show own_E p e below _ T33 (mkF m 129 #[iv p1, iv p2, iv p3, iv p4, iv (own_kCode p1), iv (own_bCode p2), iv (own_kCode p3), iv (own_bCode p4), rv b5, rv b13, iv 1, iv 1, iv 1, iv 1, iv 0, iv 0] [])
            refine own_st (fun t k => XS.iload X33.here hx rfl (hb hby at_129) rfl k) ?_
            show own_E p e below _ T33 (mkF m 131 #[iv p1, iv p2, iv p3, iv p4, iv (own_kCode p1), iv (own_bCode p2), iv (own_kCode p3), iv (own_bCode p4), rv b5, rv b13, iv 1, iv 1, iv 1, iv 1, iv 0, iv 0] [.int 1])
            refine own_st (fun t k => XS.iload X33.here hx rfl (hb hby at_131) rfl k) ?_
            show own_E p e below _ T33 (mkF m 133 #[iv p1, iv p2, iv p3, iv p4, iv (own_kCode p1), iv (own_bCode p2), iv (own_kCode p3), iv (own_bCode p4), rv b5, rv b13, iv 1, iv 1, iv 1, iv 1, iv 0, iv 0] [.int 1, .int 1])
            refine own_st (fun t k => XS.icmpNo X33.here hx rfl (hb hby at_133) rfl (by decide) k) ?_
            show own_E p e below _ T33 (mkF m 136 #[iv p1, iv p2, iv p3, iv p4, iv (own_kCode p1), iv (own_bCode p2), iv (own_kCode p3), iv (own_bCode p4), rv b5, rv b13, iv 1, iv 1, iv 1, iv 1, iv 0, iv 0] [])
            refine own_st (fun t k => XS.iload X33.here hx rfl (hb hby at_136) rfl k) ?_
            show own_E p e below _ T33 (mkF m 138 #[iv p1, iv p2, iv p3, iv p4, iv (own_kCode p1), iv (own_bCode p2), iv (own_kCode p3), iv (own_bCode p4), rv b5, rv b13, iv 1, iv 1, iv 1, iv 1, iv 0, iv 0] [.int 1])
            refine own_st (fun t k => XS.iload X33.here hx rfl (hb hby at_138) rfl k) ?_
            show own_E p e below _ T33 (mkF m 140 #[iv p1, iv p2, iv p3, iv p4, iv (own_kCode p1), iv (own_bCode p2), iv (own_kCode p3), iv (own_bCode p4), rv b5, rv b13, iv 1, iv 1, iv 1, iv 1, iv 0, iv 0] [.int 1, .int 1])
            refine own_st (fun t k => XS.icmpNo X33.here hx rfl (hb hby at_140) rfl (by decide) k) ?_
            show own_E p e below _ T33 (mkF m 143 #[iv p1, iv p2, iv p3, iv p4, iv (own_kCode p1), iv (own_bCode p2), iv (own_kCode p3), iv (own_bCode p4), rv b5, rv b13, iv 1, iv 1, iv 1, iv 1, iv 0, iv 0] [])
            refine own_st (fun t k => XS.iload X33.here hx rfl (hb hby at_143) rfl k) ?_
            show own_E p e below _ T33 (mkF m 145 #[iv p1, iv p2, iv p3, iv p4, iv (own_kCode p1), iv (own_bCode p2), iv (own_kCode p3), iv (own_bCode p4), rv b5, rv b13, iv 1, iv 1, iv 1, iv 1, iv 0, iv 0] [.int 1])
            refine own_st (fun t k => XS.ifNo X33.here hx rfl (hb hby at_145) rfl (by decide) k) ?_
            show own_E p e below _ T33 (mkF m 148 #[iv p1, iv p2, iv p3, iv p4, iv (own_kCode p1), iv (own_bCode p2), iv (own_kCode p3), iv (own_bCode p4), rv b5, rv b13, iv 1, iv 1, iv 1, iv 1, iv 0, iv 0] [])
            refine own_st (fun t k => XS.iload X33.here hx rfl (hb hby at_148) rfl k) ?_
            show own_E p e below _ T33 (mkF m 150 #[iv p1, iv p2, iv p3, iv p4, iv (own_kCode p1), iv (own_bCode p2), iv (own_kCode p3), iv (own_bCode p4), rv b5, rv b13, iv 1, iv 1, iv 1, iv 1, iv 0, iv 0] [.int 0])
            refine own_st (fun t k => XS.ifNo X33.here hx rfl (hb hby at_150) rfl (by decide) k) ?_
            show own_E p e below _ T33 (mkF m 153 #[iv p1, iv p2, iv p3, iv p4, iv (own_kCode p1), iv (own_bCode p2), iv (own_kCode p3), iv (own_bCode p4), rv b5, rv b13, iv 1, iv 1, iv 1, iv 1, iv 0, iv 0] [])
            refine own_st (fun t k => XS.iload X33.here hx rfl (hb hby at_153) rfl k) ?_
            show own_E p e below _ T33 (mkF m 155 #[iv p1, iv p2, iv p3, iv p4, iv (own_kCode p1), iv (own_bCode p2), iv (own_kCode p3), iv (own_bCode p4), rv b5, rv b13, iv 1, iv 1, iv 1, iv 1, iv 0, iv 0] [.int 0])
            refine own_st (fun t k => XS.ifNo X33.here hx rfl (hb hby at_155) rfl (by decide) k) ?_
            show own_E p e below _ T33 (mkF m 158 #[iv p1, iv p2, iv p3, iv p4, iv (own_kCode p1), iv (own_bCode p2), iv (own_kCode p3), iv (own_bCode p4), rv b5, rv b13, iv 1, iv 1, iv 1, iv 1, iv 0, iv 0] [])
            refine own_st (fun t k => XS.iconst X33.here hx rfl (hb hby at_158) k) ?_
            show own_E p e below _ T33 (mkF m 159 #[iv p1, iv p2, iv p3, iv p4, iv (own_kCode p1), iv (own_bCode p2), iv (own_kCode p3), iv (own_bCode p4), rv b5, rv b13, iv 1, iv 1, iv 1, iv 1, iv 0, iv 0] [.int 1])
            refine own_st (fun t k => XS.goto X33.here hx rfl (pc0 := 159) (pc' := 163) rfl (hb hby at_159) (by decide) (by decide) k) ?_
            show own_E p e below _ T33 (mkF m 163 #[iv p1, iv p2, iv p3, iv p4, iv (own_kCode p1), iv (own_bCode p2), iv (own_kCode p3), iv (own_bCode p4), rv b5, rv b13, iv 1, iv 1, iv 1, iv 1, iv 0, iv 0] [.int 1])
            refine own_retS X33 hx Bd.notSynchronized Bd.returns rfl (by decide) (hb hby at_163) (by decide) (by decide) ?_
            exact ⟨rfl, N33⟩
          · exact absurd ((own_cmp_b p2 p2).mpr rfl) ha28_1
          · exact absurd ((own_cmp_k p1 p1).mpr rfl) ha28_0
        · exact absurd ((own_cmp_b p4 p2).mpr hc22.symm) ha27_1
        · exact absurd ((own_cmp_k p3 p1).mpr hc21.symm) ha27_0
      · exact absurd ((own_cmp_b p2 p4).mpr hc22) ha25_1
      · exact absurd ((own_cmp_k p1 p3).mpr hc21) ha25_0
    · refine own_st (fun t k => XS.icmpYes X18.here hx rfl (pc0 := 73) (pc' := 80) rfl (hb hby at_73) rfl (feq hc22).2 (by decide) (by decide) k) ?_
      show own_E p e below _ T18 (mkF m 80 #[iv p1, iv p2, iv p3, iv p4, iv (own_kCode p1), iv (own_bCode p2), iv (own_kCode p3), iv (own_bCode p4), rv b5, rv b13, .unset, .unset, .unset, .unset, .unset, .unset] [])
      refine own_st (fun t k => XS.iconst X18.here hx rfl (hb hby at_80) k) ?_
      show own_E p e below _ T18 (mkF m 81 #[iv p1, iv p2, iv p3, iv p4, iv (own_kCode p1), iv (own_bCode p2), iv (own_kCode p3), iv (own_bCode p4), rv b5, rv b13, .unset, .unset, .unset, .unset, .unset, .unset] [.int 0])
      refine own_st (fun t k => XS.istore X18.here hx rfl (hb hby at_81) rfl (l' := #[iv p1, iv p2, iv p3, iv p4, iv (own_kCode p1), iv (own_bCode p2), iv (own_kCode p3), iv (own_bCode p4), rv b5, rv b13, iv 0, .unset, .unset, .unset, .unset, .unset]) rfl k) ?_
      show own_E p e below _ T18 (mkF m 83 #[iv p1, iv p2, iv p3, iv p4, iv (own_kCode p1), iv (own_bCode p2), iv (own_kCode p3), iv (own_bCode p4), rv b5, rv b13, iv 0, .unset, .unset, .unset, .unset, .unset] [])
      refine own_st (fun t k => XS.aload X18.here hx rfl (hb hby at_83) rfl rfl k) ?_
      show own_E p e below _ T18 (mkF m 85 #[iv p1, iv p2, iv p3, iv p4, iv (own_kCode p1), iv (own_bCode p2), iv (own_kCode p3), iv (own_bCode p4), rv b5, rv b13, iv 0, .unset, .unset, .unset, .unset, .unset] [.ref b5])
      refine own_st (fun t k => XS.aload X18.here hx rfl (hb hby at_85) rfl rfl k) ?_
      show own_E p e below _ T18 (mkF m 87 #[iv p1, iv p2, iv p3, iv p4, iv (own_kCode p1), iv (own_bCode p2), iv (own_kCode p3), iv (own_bCode p4), rv b5, rv b13, iv 0, .unset, .unset, .unset, .unset, .unset] [.ref b13, .ref b5])
      have B35 := ((P10_1.ext E13).keep Kq18 (ninS ne_b5_b13 nin0))
      have B36 := ((P10_2.ext E13).keep Kq18 (ninS ne_b5_b13 nin0))
      have B38 := ((P10_0.ext E13).keep Kq18)
      obtain ⟨cq37, kq37, q37a, q37b, q37c⟩ := isOf hZ e18 B38
      obtain ⟨_, _, ⟨T37, L37, k37, n37⟩, -, X37, ⟨Lc37, hQ37, l37, y37, z37⟩, st37⟩ := X18.virtualBack hx (y := own_y9) (z := own_y9) hown (mvT hZ (own_w hw 41 rfl)) (mvT hZ (own_w hw 42 rfl)) (notFace_of_selects (args := #[]) (mvT hZ (own_w hw 44 rfl))) (mvT hZ (own_w hw 44 rfl)) (mvT hZ (own_w hw 43 rfl)) (by decide) (backOf (W := 0) (own_eqT l Z a0 hw [] b5 b13 (own_val (own_kCode p1)) (own_val (own_bCode p2)) (own_val (own_kCode p3)) (own_val (own_bCode p4)) T18.heap n0 Z19 P18_0 B35 B36 P18_1 P18_2 (own_selfk _ (own_krk p1)) (own_selfb _ (own_brk p2)) (own_selfk _ (own_krk p3)) (own_selfb _ (own_brk p4))) hZ (own_w hw 45 rfl) (own_w hw 10 rfl) (by decide) (by decide)) q37a q37c (g := (mkF m 87 #[iv p1, iv p2, iv p3, iv p4, iv (own_kCode p1), iv (own_bCode p2), iv (own_kCode p3), iv (own_bCode p4), rv b5, rv b13, iv 0, .unset, .unset, .unset, .unset, .unset] [.ref b13, .ref b5])) rfl (by rw [hml]; rfl) (Steps.refl _) (argsL := [(.ref b13)]) (rest := []) (lenOf own_pd_11 rfl) rfl (by show 2 * 0 + _ ≤ _; exact Nat.le_of_eq rfl) (hb hby at_87) (fun _ _ => ⟨rfl, e18, (by decide : 2 + 0 ≤ _), (by decide : 10 + 0 ≤ _)⟩)
      dsimp only [Pt.U, Pt.locs, Pt.cells, Pt.slots] at X37 l37 y37 z37 st37 hQ37
      subst l37 y37 z37
      obtain ⟨hR37, e37, rfl⟩ := hQ37
      have N37 := Fr.app N18 (Fr.nil n0)
      rcases hR37 with ⟨rfl, ha37_0, ha37_1⟩ | ⟨rfl, ha37_0, ha37_1⟩ | ⟨rfl, ha37_0⟩
      · exact absurd ((own_cmp_b p2 p4).mp ha37_1) hc22
      · refine own_tr st37 ?_
        show own_E p e below _ T37 (mkF m 90 #[iv p1, iv p2, iv p3, iv p4, iv (own_kCode p1), iv (own_bCode p2), iv (own_kCode p3), iv (own_bCode p4), rv b5, rv b13, iv 0, .unset, .unset, .unset, .unset, .unset] [.int 0])
        refine own_st (fun t k => XS.istore X37.here hx rfl (hb hby at_90) rfl (l' := #[iv p1, iv p2, iv p3, iv p4, iv (own_kCode p1), iv (own_bCode p2), iv (own_kCode p3), iv (own_bCode p4), rv b5, rv b13, iv 0, iv 0, .unset, .unset, .unset, .unset]) rfl k) ?_
        show own_E p e below _ T37 (mkF m 92 #[iv p1, iv p2, iv p3, iv p4, iv (own_kCode p1), iv (own_bCode p2), iv (own_kCode p3), iv (own_bCode p4), rv b5, rv b13, iv 0, iv 0, .unset, .unset, .unset, .unset] [])
        refine own_st (fun t k => XS.aload X37.here hx rfl (hb hby at_92) rfl rfl k) ?_
        show own_E p e below _ T37 (mkF m 94 #[iv p1, iv p2, iv p3, iv p4, iv (own_kCode p1), iv (own_bCode p2), iv (own_kCode p3), iv (own_bCode p4), rv b5, rv b13, iv 0, iv 0, .unset, .unset, .unset, .unset] [.ref b13])
        refine own_st (fun t k => XS.aload X37.here hx rfl (hb hby at_94) rfl rfl k) ?_
        show own_E p e below _ T37 (mkF m 96 #[iv p1, iv p2, iv p3, iv p4, iv (own_kCode p1), iv (own_bCode p2), iv (own_kCode p3), iv (own_bCode p4), rv b5, rv b13, iv 0, iv 0, .unset, .unset, .unset, .unset] [.ref b5, .ref b13])
        obtain ⟨cq39, kq39, q39a, q39b, q39c⟩ := isOf hZ e37 P18_0
        obtain ⟨_, _, ⟨T39, L39, k39, n39⟩, -, X39, ⟨Lc39, hQ39, l39, y39, z39⟩, st39⟩ := X37.virtualBack hx (y := own_y9) (z := own_y9) hown (mvT hZ (own_w hw 41 rfl)) (mvT hZ (own_w hw 42 rfl)) (notFace_of_selects (args := #[]) (mvT hZ (own_w hw 44 rfl))) (mvT hZ (own_w hw 44 rfl)) (mvT hZ (own_w hw 43 rfl)) (by decide) (backOf (W := 0) (own_eqT l Z a0 hw [] b13 b5 (own_val (own_kCode p3)) (own_val (own_bCode p4)) (own_val (own_kCode p1)) (own_val (own_bCode p2)) T18.heap n0 Z19 B38 P18_1 P18_2 B35 B36 (own_selfk _ (own_krk p3)) (own_selfb _ (own_brk p4)) (own_selfk _ (own_krk p1)) (own_selfb _ (own_brk p2))) hZ (own_w hw 45 rfl) (own_w hw 10 rfl) (by decide) (by decide)) q39a q39c (g := (mkF m 96 #[iv p1, iv p2, iv p3, iv p4, iv (own_kCode p1), iv (own_bCode p2), iv (own_kCode p3), iv (own_bCode p4), rv b5, rv b13, iv 0, iv 0, .unset, .unset, .unset, .unset] [.ref b5, .ref b13])) rfl (by rw [hml]; rfl) (Steps.refl _) (argsL := [(.ref b5)]) (rest := []) (lenOf own_pd_11 rfl) rfl (by show 2 * 0 + _ ≤ _; exact Nat.le_of_eq rfl) (hb hby at_96) (fun _ _ => ⟨rfl, e37, (by decide : 2 + 0 ≤ _), (by decide : 10 + 0 ≤ _)⟩)
        dsimp only [Pt.U, Pt.locs, Pt.cells, Pt.slots] at X39 l39 y39 z39 st39 hQ39
        subst l39 y39 z39
        obtain ⟨hR39, e39, rfl⟩ := hQ39
        have N39 := Fr.app N37 (Fr.nil n0)
        rcases hR39 with ⟨rfl, ha39_0, ha39_1⟩ | ⟨rfl, ha39_0, ha39_1⟩ | ⟨rfl, ha39_0⟩
        · exact absurd ((own_cmp_b p4 p2).mp ha39_1) (fun q => hc22 q.symm)
        · refine own_tr st39 ?_
          show own_E p e below _ T39 (mkF m 99 #[iv p1, iv p2, iv p3, iv p4, iv (own_kCode p1), iv (own_bCode p2), iv (own_kCode p3), iv (own_bCode p4), rv b5, rv b13, iv 0, iv 0, .unset, .unset, .unset, .unset] [.int 0])
          refine own_st (fun t k => XS.istore X39.here hx rfl (hb hby at_99) rfl (l' := #[iv p1, iv p2, iv p3, iv p4, iv (own_kCode p1), iv (own_bCode p2), iv (own_kCode p3), iv (own_bCode p4), rv b5, rv b13, iv 0, iv 0, iv 0, .unset, .unset, .unset]) rfl k) ?_
          show own_E p e below _ T39 (mkF m 101 #[iv p1, iv p2, iv p3, iv p4, iv (own_kCode p1), iv (own_bCode p2), iv (own_kCode p3), iv (own_bCode p4), rv b5, rv b13, iv 0, iv 0, iv 0, .unset, .unset, .unset] [])
          refine own_st (fun t k => XS.aload X39.here hx rfl (hb hby at_101) rfl rfl k) ?_
          show own_E p e below _ T39 (mkF m 103 #[iv p1, iv p2, iv p3, iv p4, iv (own_kCode p1), iv (own_bCode p2), iv (own_kCode p3), iv (own_bCode p4), rv b5, rv b13, iv 0, iv 0, iv 0, .unset, .unset, .unset] [.ref b5])
          refine own_st (fun t k => XS.aload X39.here hx rfl (hb hby at_103) rfl rfl k) ?_
          show own_E p e below _ T39 (mkF m 105 #[iv p1, iv p2, iv p3, iv p4, iv (own_kCode p1), iv (own_bCode p2), iv (own_kCode p3), iv (own_bCode p4), rv b5, rv b13, iv 0, iv 0, iv 0, .unset, .unset, .unset] [.ref b5, .ref b5])
          obtain ⟨cq40, kq40, q40a, q40b, q40c⟩ := isOf hZ e39 B38
          obtain ⟨_, _, ⟨T40, L40, k40, n40⟩, -, X40, ⟨Lc40, hQ40, l40, y40, z40⟩, st40⟩ := X39.virtualBack hx (y := own_y9) (z := own_y9) hown (mvT hZ (own_w hw 41 rfl)) (mvT hZ (own_w hw 42 rfl)) (notFace_of_selects (args := #[]) (mvT hZ (own_w hw 44 rfl))) (mvT hZ (own_w hw 44 rfl)) (mvT hZ (own_w hw 43 rfl)) (by decide) (backOf (W := 0) (own_eqT l Z a0 hw [] b5 b5 (own_val (own_kCode p1)) (own_val (own_bCode p2)) (own_val (own_kCode p1)) (own_val (own_bCode p2)) T18.heap n0 Z19 B38 B35 B36 B35 B36 (own_selfk _ (own_krk p1)) (own_selfb _ (own_brk p2)) (own_selfk _ (own_krk p1)) (own_selfb _ (own_brk p2))) hZ (own_w hw 45 rfl) (own_w hw 10 rfl) (by decide) (by decide)) q40a q40c (g := (mkF m 105 #[iv p1, iv p2, iv p3, iv p4, iv (own_kCode p1), iv (own_bCode p2), iv (own_kCode p3), iv (own_bCode p4), rv b5, rv b13, iv 0, iv 0, iv 0, .unset, .unset, .unset] [.ref b5, .ref b5])) rfl (by rw [hml]; rfl) (Steps.refl _) (argsL := [(.ref b5)]) (rest := []) (lenOf own_pd_11 rfl) rfl (by show 2 * 0 + _ ≤ _; exact Nat.le_of_eq rfl) (hb hby at_105) (fun _ _ => ⟨rfl, e39, (by decide : 2 + 0 ≤ _), (by decide : 10 + 0 ≤ _)⟩)
          dsimp only [Pt.U, Pt.locs, Pt.cells, Pt.slots] at X40 l40 y40 z40 st40 hQ40
          subst l40 y40 z40
          obtain ⟨hR40, e40, rfl⟩ := hQ40
          have N40 := Fr.app N39 (Fr.nil n0)
          rcases hR40 with ⟨rfl, ha40_0, ha40_1⟩ | ⟨rfl, ha40_0, ha40_1⟩ | ⟨rfl, ha40_0⟩
          · refine own_tr st40 ?_
            show own_E p e below _ T40 (mkF m 108 #[iv p1, iv p2, iv p3, iv p4, iv (own_kCode p1), iv (own_bCode p2), iv (own_kCode p3), iv (own_bCode p4), rv b5, rv b13, iv 0, iv 0, iv 0, .unset, .unset, .unset] [.int 1])
            refine own_st (fun t k => XS.istore X40.here hx rfl (hb hby at_108) rfl (l' := #[iv p1, iv p2, iv p3, iv p4, iv (own_kCode p1), iv (own_bCode p2), iv (own_kCode p3), iv (own_bCode p4), rv b5, rv b13, iv 0, iv 0, iv 0, iv 1, .unset, .unset]) rfl k) ?_
            show own_E p e below _ T40 (mkF m 110 #[iv p1, iv p2, iv p3, iv p4, iv (own_kCode p1), iv (own_bCode p2), iv (own_kCode p3), iv (own_bCode p4), rv b5, rv b13, iv 0, iv 0, iv 0, iv 1, .unset, .unset] [])
            refine own_st (fun t k => XS.aload X40.here hx rfl (hb hby at_110) rfl rfl k) ?_
            show own_E p e below _ T40 (mkF m 112 #[iv p1, iv p2, iv p3, iv p4, iv (own_kCode p1), iv (own_bCode p2), iv (own_kCode p3), iv (own_bCode p4), rv b5, rv b13, iv 0, iv 0, iv 0, iv 1, .unset, .unset] [.ref b5])
            refine own_st (fun t k => XS.aconstNull X40.here hx rfl (hb hby at_112) k) ?_
            show own_E p e below _ T40 (mkF m 113 #[iv p1, iv p2, iv p3, iv p4, iv (own_kCode p1), iv (own_bCode p2), iv (own_kCode p3), iv (own_bCode p4), rv b5, rv b13, iv 0, iv 0, iv 0, iv 1, .unset, .unset] [.null, .ref b5])
            obtain ⟨cq41, kq41, q41a, q41b, q41c⟩ := isOf hZ e40 B38
            obtain ⟨_, _, ⟨T41, L41, k41, n41⟩, -, X41, ⟨Lc41, hQ41, l41, y41, z41⟩, st41⟩ := X40.virtualBack hx (y := own_y9) (z := own_y9) hown (mvT hZ (own_w hw 41 rfl)) (mvT hZ (own_w hw 42 rfl)) (notFace_of_selects (args := #[]) (mvT hZ (own_w hw 44 rfl))) (mvT hZ (own_w hw 44 rfl)) (mvT hZ (own_w hw 43 rfl)) (by decide) (backOf (W := 0) (own_eqN l Z a0 hw [] b5 T18.heap n0 Z19 ) hZ (own_w hw 45 rfl) (own_w hw 10 rfl) (by decide) (by decide)) q41a q41c (g := (mkF m 113 #[iv p1, iv p2, iv p3, iv p4, iv (own_kCode p1), iv (own_bCode p2), iv (own_kCode p3), iv (own_bCode p4), rv b5, rv b13, iv 0, iv 0, iv 0, iv 1, .unset, .unset] [.null, .ref b5])) rfl (by rw [hml]; rfl) (Steps.refl _) (argsL := [.null]) (rest := []) (lenOf own_pd_11 rfl) rfl (by show 2 * 0 + _ ≤ _; exact Nat.le_of_eq rfl) (hb hby at_113) (fun _ _ => ⟨rfl, e40, (by decide : 2 + 0 ≤ _), (by decide : 10 + 0 ≤ _)⟩)
            dsimp only [Pt.U, Pt.locs, Pt.cells, Pt.slots] at X41 l41 y41 z41 st41 hQ41
            subst l41 y41 z41
            obtain ⟨hR41, e41, rfl⟩ := hQ41
            have N41 := Fr.app N40 (Fr.nil n0)
            obtain rfl := hR41
            refine own_tr st41 ?_
            show own_E p e below _ T41 (mkF m 116 #[iv p1, iv p2, iv p3, iv p4, iv (own_kCode p1), iv (own_bCode p2), iv (own_kCode p3), iv (own_bCode p4), rv b5, rv b13, iv 0, iv 0, iv 0, iv 1, .unset, .unset] [.int 0])
            refine own_st (fun t k => XS.istore X41.here hx rfl (hb hby at_116) rfl (l' := #[iv p1, iv p2, iv p3, iv p4, iv (own_kCode p1), iv (own_bCode p2), iv (own_kCode p3), iv (own_bCode p4), rv b5, rv b13, iv 0, iv 0, iv 0, iv 1, iv 0, .unset]) rfl k) ?_
            show own_E p e below _ T41 (mkF m 118 #[iv p1, iv p2, iv p3, iv p4, iv (own_kCode p1), iv (own_bCode p2), iv (own_kCode p3), iv (own_bCode p4), rv b5, rv b13, iv 0, iv 0, iv 0, iv 1, iv 0, .unset] [])
            refine own_st (fun t k => XS.aload X41.here hx rfl (hb hby at_118) rfl rfl k) ?_
            show own_E p e below _ T41 (mkF m 120 #[iv p1, iv p2, iv p3, iv p4, iv (own_kCode p1), iv (own_bCode p2), iv (own_kCode p3), iv (own_bCode p4), rv b5, rv b13, iv 0, iv 0, iv 0, iv 1, iv 0, .unset] [.ref b5])
            refine own_st (fun t k => XS.iloadN X41.here hx rfl (hb hby at_120) rfl k) ?_
            show own_E p e below _ T41 (mkF m 121 #[iv p1, iv p2, iv p3, iv p4, iv (own_kCode p1), iv (own_bCode p2), iv (own_kCode p3), iv (own_bCode p4), rv b5, rv b13, iv 0, iv 0, iv 0, iv 1, iv 0, .unset] [.int p1, .ref b5])
            obtain ⟨_, _, ⟨T42, L42, k42, n42⟩, -, X42, ⟨Lc42, hQ42, l42, y42, z42⟩, st42⟩ := Jvm.LawKit.callS X41 hx (y := own_y12) hown (mvT hZ (own_w hw 61 rfl)) (mvT hZ (own_w hw 62 rfl)) (mvT hZ (own_w hw 63 rfl)) (mvT hZ (own_w hw 64 rfl)) (by decide) (backOf (W := 1) (own_ival l Z a0 hw [] p1 T18.heap n0 Z19 (own_cache_keep hC K20)) hZ (own_w hw 64 rfl) (own_w hw 63 rfl) (by decide) (by decide)) (g := (mkF m 121 #[iv p1, iv p2, iv p3, iv p4, iv (own_kCode p1), iv (own_bCode p2), iv (own_kCode p3), iv (own_bCode p4), rv b5, rv b13, iv 0, iv 0, iv 0, iv 1, iv 0, .unset] [.int p1, .ref b5])) rfl (by rw [hml]; rfl) (argsL := [(.int p1)]) (rest := [(.ref b5)]) (lenOf own_pd_8 rfl) rfl (by show 2 * 0 + _ ≤ _; exact Nat.le_of_eq rfl) (hb hby at_121) (fun _ _ => ⟨rfl, e41, (by decide : 2 + 1 ≤ _), (by decide : 10 + 1 ≤ _)⟩)
            dsimp only [Pt.U, Pt.locs, Pt.cells, Pt.slots] at X42 l42 y42 z42 st42 hQ42
            subst l42 y42 z42
            obtain ⟨b42_o, rfl, Nq42, Kq42, P42⟩ := hQ42
            have N42 := Fr.app N41 Nq42
            have e42 : T42.heap = T42.heap := rfl
            have Z43 := Nat.le_trans Z19 Kq42.1
            have K44 : Keep h0 _ [] := K20.trans Kq42 all0
            refine own_st st42 ?_
            show own_E p e below _ T42 (mkF m 124 #[iv p1, iv p2, iv p3, iv p4, iv (own_kCode p1), iv (own_bCode p2), iv (own_kCode p3), iv (own_bCode p4), rv b5, rv b13, iv 0, iv 0, iv 0, iv 1, iv 0, .unset] [.ref b42_o, .ref b5])
            have B46 := (B38.keep Kq42)
            obtain ⟨cq45, kq45, q45a, q45b, q45c⟩ := isOf hZ e42 B46
            obtain ⟨_, _, ⟨T45, L45, k45, n45⟩, -, X45, ⟨Lc45, hQ45, l45, y45, z45⟩, st45⟩ := X42.virtualBack hx (y := own_y9) (z := own_y9) hown (mvT hZ (own_w hw 41 rfl)) (mvT hZ (own_w hw 42 rfl)) (notFace_of_selects (args := #[]) (mvT hZ (own_w hw 44 rfl))) (mvT hZ (own_w hw 44 rfl)) (mvT hZ (own_w hw 43 rfl)) (by decide) (backOf (W := 0) (own_eqI l Z a0 hw [] b5 b42_o T42.heap n0 Z43 P42) hZ (own_w hw 45 rfl) (own_w hw 10 rfl) (by decide) (by decide)) q45a q45c (g := (mkF m 124 #[iv p1, iv p2, iv p3, iv p4, iv (own_kCode p1), iv (own_bCode p2), iv (own_kCode p3), iv (own_bCode p4), rv b5, rv b13, iv 0, iv 0, iv 0, iv 1, iv 0, .unset] [.ref b42_o, .ref b5])) rfl (by rw [hml]; rfl) (Steps.refl _) (argsL := [(.ref b42_o)]) (rest := []) (lenOf own_pd_11 rfl) rfl (by show 2 * 0 + _ ≤ _; exact Nat.le_of_eq rfl) (hb hby at_124) (fun _ _ => ⟨rfl, e42, (by decide : 3 + 0 ≤ _), (by decide : 11 + 0 ≤ _)⟩)
            dsimp only [Pt.U, Pt.locs, Pt.cells, Pt.slots] at X45 l45 y45 z45 st45 hQ45
            subst l45 y45 z45
            obtain ⟨hR45, e45, rfl⟩ := hQ45
            have N45 := Fr.app N42 (Fr.nil n0)
            obtain rfl := hR45
            refine own_tr st45 ?_
            show own_E p e below _ T45 (mkF m 127 #[iv p1, iv p2, iv p3, iv p4, iv (own_kCode p1), iv (own_bCode p2), iv (own_kCode p3), iv (own_bCode p4), rv b5, rv b13, iv 0, iv 0, iv 0, iv 1, iv 0, .unset] [.int 0])
            refine own_st (fun t k => XS.istore X45.here hx rfl (hb hby at_127) rfl (l' := #[iv p1, iv p2, iv p3, iv p4, iv (own_kCode p1), iv (own_bCode p2), iv (own_kCode p3), iv (own_bCode p4), rv b5, rv b13, iv 0, iv 0, iv 0, iv 1, iv 0, iv 0]) rfl k) ?_
            show own_E p e below _ T45 (mkF m 129 #[iv p1, iv p2, iv p3, iv p4, iv (own_kCode p1), iv (own_bCode p2), iv (own_kCode p3), iv (own_bCode p4), rv b5, rv b13, iv 0, iv 0, iv 0, iv 1, iv 0, iv 0] [])
            refine own_st (fun t k => XS.iload X45.here hx rfl (hb hby at_129) rfl k) ?_
            show own_E p e below _ T45 (mkF m 131 #[iv p1, iv p2, iv p3, iv p4, iv (own_kCode p1), iv (own_bCode p2), iv (own_kCode p3), iv (own_bCode p4), rv b5, rv b13, iv 0, iv 0, iv 0, iv 1, iv 0, iv 0] [.int 0])
            refine own_st (fun t k => XS.iload X45.here hx rfl (hb hby at_131) rfl k) ?_
            show own_E p e below _ T45 (mkF m 133 #[iv p1, iv p2, iv p3, iv p4, iv (own_kCode p1), iv (own_bCode p2), iv (own_kCode p3), iv (own_bCode p4), rv b5, rv b13, iv 0, iv 0, iv 0, iv 1, iv 0, iv 0] [.int 0, .int 0])
            refine own_st (fun t k => XS.icmpNo X45.here hx rfl (hb hby at_133) rfl (by decide) k) ?_
            show own_E p e below _ T45 (mkF m 136 #[iv p1, iv p2, iv p3, iv p4, iv (own_kCode p1), iv (own_bCode p2), iv (own_kCode p3), iv (own_bCode p4), rv b5, rv b13, iv 0, iv 0, iv 0, iv 1, iv 0, iv 0] [])
            refine own_st (fun t k => XS.iload X45.here hx rfl (hb hby at_136) rfl k) ?_
            show own_E p e below _ T45 (mkF m 138 #[iv p1, iv p2, iv p3, iv p4, iv (own_kCode p1), iv (own_bCode p2), iv (own_kCode p3), iv (own_bCode p4), rv b5, rv b13, iv 0, iv 0, iv 0, iv 1, iv 0, iv 0] [.int 0])
            refine own_st (fun t k => XS.iload X45.here hx rfl (hb hby at_138) rfl k) ?_
            show own_E p e below _ T45 (mkF m 140 #[iv p1, iv p2, iv p3, iv p4, iv (own_kCode p1), iv (own_bCode p2), iv (own_kCode p3), iv (own_bCode p4), rv b5, rv b13, iv 0, iv 0, iv 0, iv 1, iv 0, iv 0] [.int 0, .int 0])
            refine own_st (fun t k => XS.icmpNo X45.here hx rfl (hb hby at_140) rfl (by decide) k) ?_
            show own_E p e below _ T45 (mkF m 143 #[iv p1, iv p2, iv p3, iv p4, iv (own_kCode p1), iv (own_bCode p2), iv (own_kCode p3), iv (own_bCode p4), rv b5, rv b13, iv 0, iv 0, iv 0, iv 1, iv 0, iv 0] [])
            refine own_st (fun t k => XS.iload X45.here hx rfl (hb hby at_143) rfl k) ?_
            show own_E p e below _ T45 (mkF m 145 #[iv p1, iv p2, iv p3, iv p4, iv (own_kCode p1), iv (own_bCode p2), iv (own_kCode p3), iv (own_bCode p4), rv b5, rv b13, iv 0, iv 0, iv 0, iv 1, iv 0, iv 0] [.int 1])
            refine own_st (fun t k => XS.ifNo X45.here hx rfl (hb hby at_145) rfl (by decide) k) ?_
            show own_E p e below _ T45 (mkF m 148 #[iv p1, iv p2, iv p3, iv p4, iv (own_kCode p1), iv (own_bCode p2), iv (own_kCode p3), iv (own_bCode p4), rv b5, rv b13, iv 0, iv 0, iv 0, iv 1, iv 0, iv 0] [])
            refine own_st (fun t k => XS.iload X45.here hx rfl (hb hby at_148) rfl k) ?_
            show own_E p e below _ T45 (mkF m 150 #[iv p1, iv p2, iv p3, iv p4, iv (own_kCode p1), iv (own_bCode p2), iv (own_kCode p3), iv (own_bCode p4), rv b5, rv b13, iv 0, iv 0, iv 0, iv 1, iv 0, iv 0] [.int 0])
            refine own_st (fun t k => XS.ifNo X45.here hx rfl (hb hby at_150) rfl (by decide) k) ?_
            show own_E p e below _ T45 (mkF m 153 #[iv p1, iv p2, iv p3, iv p4, iv (own_kCode p1), iv (own_bCode p2), iv (own_kCode p3), iv (own_bCode p4), rv b5, rv b13, iv 0, iv 0, iv 0, iv 1, iv 0, iv 0] [])
            refine own_st (fun t k => XS.iload X45.here hx rfl (hb hby at_153) rfl k) ?_
            show own_E p e below _ T45 (mkF m 155 #[iv p1, iv p2, iv p3, iv p4, iv (own_kCode p1), iv (own_bCode p2), iv (own_kCode p3), iv (own_bCode p4), rv b5, rv b13, iv 0, iv 0, iv 0, iv 1, iv 0, iv 0] [.int 0])
            refine own_st (fun t k => XS.ifNo X45.here hx rfl (hb hby at_155) rfl (by decide) k) ?_
            show own_E p e below _ T45 (mkF m 158 #[iv p1, iv p2, iv p3, iv p4, iv (own_kCode p1), iv (own_bCode p2), iv (own_kCode p3), iv (own_bCode p4), rv b5, rv b13, iv 0, iv 0, iv 0, iv 1, iv 0, iv 0] [])
            refine own_st (fun t k => XS.iconst X45.here hx rfl (hb hby at_158) k) ?_
            show own_E p e below _ T45 (mkF m 159 #[iv p1, iv p2, iv p3, iv p4, iv (own_kCode p1), iv (own_bCode p2), iv (own_kCode p3), iv (own_bCode p4), rv b5, rv b13, iv 0, iv 0, iv 0, iv 1, iv 0, iv 0] [.int 1])
            refine own_st (fun t k => XS.goto X45.here hx rfl (pc0 := 159) (pc' := 163) rfl (hb hby at_159) (by decide) (by decide) k) ?_
            show own_E p e below _ T45 (mkF m 163 #[iv p1, iv p2, iv p3, iv p4, iv (own_kCode p1), iv (own_bCode p2), iv (own_kCode p3), iv (own_bCode p4), rv b5, rv b13, iv 0, iv 0, iv 0, iv 1, iv 0, iv 0] [.int 1])
            refine own_retS X45 hx Bd.notSynchronized Bd.returns rfl (by decide) (hb hby at_163) (by decide) (by decide) ?_
            exact ⟨rfl, N45⟩
          · exact absurd ((own_cmp_b p2 p2).mpr rfl) ha40_1
          · exact absurd ((own_cmp_k p1 p1).mpr rfl) ha40_0
        · exact absurd ((own_cmp_k p3 p1).mpr hc21.symm) ha39_0
      · exact absurd ((own_cmp_k p1 p3).mpr hc21) ha37_0
  · refine own_st (fun t k => XS.icmpYes X18.here hx rfl (pc0 := 66) (pc' := 80) rfl (hb hby at_66) rfl (feq hc21).2 (by decide) (by decide) k) ?_
    show own_E p e below _ T18 (mkF m 80 #[iv p1, iv p2, iv p3, iv p4, iv (own_kCode p1), iv (own_bCode p2), iv (own_kCode p3), iv (own_bCode p4), rv b5, rv b13, .unset, .unset, .unset, .unset, .unset, .unset] [])
    refine own_st (fun t k => XS.iconst X18.here hx rfl (hb hby at_80) k) ?_
    show own_E p e below _ T18 (mkF m 81 #[iv p1, iv p2, iv p3, iv p4, iv (own_kCode p1), iv (own_bCode p2), iv (own_kCode p3), iv (own_bCode p4), rv b5, rv b13, .unset, .unset, .unset, .unset, .unset, .unset] [.int 0])
    refine own_st (fun t k => XS.istore X18.here hx rfl (hb hby at_81) rfl (l' := #[iv p1, iv p2, iv p3, iv p4, iv (own_kCode p1), iv (own_bCode p2), iv (own_kCode p3), iv (own_bCode p4), rv b5, rv b13, iv 0, .unset, .unset, .unset, .unset, .unset]) rfl k) ?_
    show own_E p e below _ T18 (mkF m 83 #[iv p1, iv p2, iv p3, iv p4, iv (own_kCode p1), iv (own_bCode p2), iv (own_kCode p3), iv (own_bCode p4), rv b5, rv b13, iv 0, .unset, .unset, .unset, .unset, .unset] [])
    refine own_st (fun t k => XS.aload X18.here hx rfl (hb hby at_83) rfl rfl k) ?_
    show own_E p e below _ T18 (mkF m 85 #[iv p1, iv p2, iv p3, iv p4, iv (own_kCode p1), iv (own_bCode p2), iv (own_kCode p3), iv (own_bCode p4), rv b5, rv b13, iv 0, .unset, .unset, .unset, .unset, .unset] [.ref b5])
    refine own_st (fun t k => XS.aload X18.here hx rfl (hb hby at_85) rfl rfl k) ?_
    show own_E p e below _ T18 (mkF m 87 #[iv p1, iv p2, iv p3, iv p4, iv (own_kCode p1), iv (own_bCode p2), iv (own_kCode p3), iv (own_bCode p4), rv b5, rv b13, iv 0, .unset, .unset, .unset, .unset, .unset] [.ref b13, .ref b5])
    have B47 := ((P10_1.ext E13).keep Kq18 (ninS ne_b5_b13 nin0))
    have B48 := ((P10_2.ext E13).keep Kq18 (ninS ne_b5_b13 nin0))
    have B50 := ((P10_0.ext E13).keep Kq18)
    obtain ⟨cq49, kq49, q49a, q49b, q49c⟩ := isOf hZ e18 B50
    obtain ⟨_, _, ⟨T49, L49, k49, n49⟩, -, X49, ⟨Lc49, hQ49, l49, y49, z49⟩, st49⟩ := X18.virtualBack hx (y := own_y9) (z := own_y9) hown (mvT hZ (own_w hw 41 rfl)) (mvT hZ (own_w hw 42 rfl)) (notFace_of_selects (args := #[]) (mvT hZ (own_w hw 44 rfl))) (mvT hZ (own_w hw 44 rfl)) (mvT hZ (own_w hw 43 rfl)) (by decide) (backOf (W := 0) (own_eqT l Z a0 hw [] b5 b13 (own_val (own_kCode p1)) (own_val (own_bCode p2)) (own_val (own_kCode p3)) (own_val (own_bCode p4)) T18.heap n0 Z19 P18_0 B47 B48 P18_1 P18_2 (own_selfk _ (own_krk p1)) (own_selfb _ (own_brk p2)) (own_selfk _ (own_krk p3)) (own_selfb _ (own_brk p4))) hZ (own_w hw 45 rfl) (own_w hw 10 rfl) (by decide) (by decide)) q49a q49c (g := (mkF m 87 #[iv p1, iv p2, iv p3, iv p4, iv (own_kCode p1), iv (own_bCode p2), iv (own_kCode p3), iv (own_bCode p4), rv b5, rv b13, iv 0, .unset, .unset, .unset, .unset, .unset] [.ref b13, .ref b5])) rfl (by rw [hml]; rfl) (Steps.refl _) (argsL := [(.ref b13)]) (rest := []) (lenOf own_pd_11 rfl) rfl (by show 2 * 0 + _ ≤ _; exact Nat.le_of_eq rfl) (hb hby at_87) (fun _ _ => ⟨rfl, e18, (by decide : 2 + 0 ≤ _), (by decide : 10 + 0 ≤ _)⟩)
    dsimp only [Pt.U, Pt.locs, Pt.cells, Pt.slots] at X49 l49 y49 z49 st49 hQ49
    subst l49 y49 z49
    obtain ⟨hR49, e49, rfl⟩ := hQ49
    have N49 := Fr.app N18 (Fr.nil n0)
    rcases hR49 with ⟨rfl, ha49_0, ha49_1⟩ | ⟨rfl, ha49_0, ha49_1⟩ | ⟨rfl, ha49_0⟩
    · exact absurd ((own_cmp_k p1 p3).mp ha49_0) hc21
    · exact absurd ((own_cmp_k p1 p3).mp ha49_0) hc21
    · refine own_tr st49 ?_
      show own_E p e below _ T49 (mkF m 90 #[iv p1, iv p2, iv p3, iv p4, iv (own_kCode p1), iv (own_bCode p2), iv (own_kCode p3), iv (own_bCode p4), rv b5, rv b13, iv 0, .unset, .unset, .unset, .unset, .unset] [.int 0])
      refine own_st (fun t k => XS.istore X49.here hx rfl (hb hby at_90) rfl (l' := #[iv p1, iv p2, iv p3, iv p4, iv (own_kCode p1), iv (own_bCode p2), iv (own_kCode p3), iv (own_bCode p4), rv b5, rv b13, iv 0, iv 0, .unset, .unset, .unset, .unset]) rfl k) ?_
      show own_E p e below _ T49 (mkF m 92 #[iv p1, iv p2, iv p3, iv p4, iv (own_kCode p1), iv (own_bCode p2), iv (own_kCode p3), iv (own_bCode p4), rv b5, rv b13, iv 0, iv 0, .unset, .unset, .unset, .unset] [])
      refine own_st (fun t k => XS.aload X49.here hx rfl (hb hby at_92) rfl rfl k) ?_
      show own_E p e below _ T49 (mkF m 94 #[iv p1, iv p2, iv p3, iv p4, iv (own_kCode p1), iv (own_bCode p2), iv (own_kCode p3), iv (own_bCode p4), rv b5, rv b13, iv 0, iv 0, .unset, .unset, .unset, .unset] [.ref b13])
      refine own_st (fun t k => XS.aload X49.here hx rfl (hb hby at_94) rfl rfl k) ?_
      show own_E p e below _ T49 (mkF m 96 #[iv p1, iv p2, iv p3, iv p4, iv (own_kCode p1), iv (own_bCode p2), iv (own_kCode p3), iv (own_bCode p4), rv b5, rv b13, iv 0, iv 0, .unset, .unset, .unset, .unset] [.ref b5, .ref b13])
      obtain ⟨cq51, kq51, q51a, q51b, q51c⟩ := isOf hZ e49 P18_0
      obtain ⟨_, _, ⟨T51, L51, k51, n51⟩, -, X51, ⟨Lc51, hQ51, l51, y51, z51⟩, st51⟩ := X49.virtualBack hx (y := own_y9) (z := own_y9) hown (mvT hZ (own_w hw 41 rfl)) (mvT hZ (own_w hw 42 rfl)) (notFace_of_selects (args := #[]) (mvT hZ (own_w hw 44 rfl))) (mvT hZ (own_w hw 44 rfl)) (mvT hZ (own_w hw 43 rfl)) (by decide) (backOf (W := 0) (own_eqT l Z a0 hw [] b13 b5 (own_val (own_kCode p3)) (own_val (own_bCode p4)) (own_val (own_kCode p1)) (own_val (own_bCode p2)) T18.heap n0 Z19 B50 P18_1 P18_2 B47 B48 (own_selfk _ (own_krk p3)) (own_selfb _ (own_brk p4)) (own_selfk _ (own_krk p1)) (own_selfb _ (own_brk p2))) hZ (own_w hw 45 rfl) (own_w hw 10 rfl) (by decide) (by decide)) q51a q51c (g := (mkF m 96 #[iv p1, iv p2, iv p3, iv p4, iv (own_kCode p1), iv (own_bCode p2), iv (own_kCode p3), iv (own_bCode p4), rv b5, rv b13, iv 0, iv 0, .unset, .unset, .unset, .unset] [.ref b5, .ref b13])) rfl (by rw [hml]; rfl) (Steps.refl _) (argsL := [(.ref b5)]) (rest := []) (lenOf own_pd_11 rfl) rfl (by show 2 * 0 + _ ≤ _; exact Nat.le_of_eq rfl) (hb hby at_96) (fun _ _ => ⟨rfl, e49, (by decide : 2 + 0 ≤ _), (by decide : 10 + 0 ≤ _)⟩)
      dsimp only [Pt.U, Pt.locs, Pt.cells, Pt.slots] at X51 l51 y51 z51 st51 hQ51
      subst l51 y51 z51
      obtain ⟨hR51, e51, rfl⟩ := hQ51
      have N51 := Fr.app N49 (Fr.nil n0)
      rcases hR51 with ⟨rfl, ha51_0, ha51_1⟩ | ⟨rfl, ha51_0, ha51_1⟩ | ⟨rfl, ha51_0⟩
      · exact absurd ((own_cmp_k p3 p1).mp ha51_0) (fun q => hc21 q.symm)
      · exact absurd ((own_cmp_k p3 p1).mp ha51_0) (fun q => hc21 q.symm)
      · refine own_tr st51 ?_
        show own_E p e below _ T51 (mkF m 99 #[iv p1, iv p2, iv p3, iv p4, iv (own_kCode p1), iv (own_bCode p2), iv (own_kCode p3), iv (own_bCode p4), rv b5, rv b13, iv 0, iv 0, .unset, .unset, .unset, .unset] [.int 0])
        refine own_st (fun t k => XS.istore X51.here hx rfl (hb hby at_99) rfl (l' := #[iv p1, iv p2, iv p3, iv p4, iv (own_kCode p1), iv (own_bCode p2), iv (own_kCode p3), iv (own_bCode p4), rv b5, rv b13, iv 0, iv 0, iv 0, .unset, .unset, .unset]) rfl k) ?_
        show own_E p e below _ T51 (mkF m 101 #[iv p1, iv p2, iv p3, iv p4, iv (own_kCode p1), iv (own_bCode p2), iv (own_kCode p3), iv (own_bCode p4), rv b5, rv b13, iv 0, iv 0, iv 0, .unset, .unset, .unset] [])
        refine own_st (fun t k => XS.aload X51.here hx rfl (hb hby at_101) rfl rfl k) ?_
        show own_E p e below _ T51 (mkF m 103 #[iv p1, iv p2, iv p3, iv p4, iv (own_kCode p1), iv (own_bCode p2), iv (own_kCode p3), iv (own_bCode p4), rv b5, rv b13, iv 0, iv 0, iv 0, .unset, .unset, .unset] [.ref b5])
        refine own_st (fun t k => XS.aload X51.here hx rfl (hb hby at_103) rfl rfl k) ?_
        show own_E p e below _ T51 (mkF m 105 #[iv p1, iv p2, iv p3, iv p4, iv (own_kCode p1), iv (own_bCode p2), iv (own_kCode p3), iv (own_bCode p4), rv b5, rv b13, iv 0, iv 0, iv 0, .unset, .unset, .unset] [.ref b5, .ref b5])
        obtain ⟨cq52, kq52, q52a, q52b, q52c⟩ := isOf hZ e51 B50
        obtain ⟨_, _, ⟨T52, L52, k52, n52⟩, -, X52, ⟨Lc52, hQ52, l52, y52, z52⟩, st52⟩ := X51.virtualBack hx (y := own_y9) (z := own_y9) hown (mvT hZ (own_w hw 41 rfl)) (mvT hZ (own_w hw 42 rfl)) (notFace_of_selects (args := #[]) (mvT hZ (own_w hw 44 rfl))) (mvT hZ (own_w hw 44 rfl)) (mvT hZ (own_w hw 43 rfl)) (by decide) (backOf (W := 0) (own_eqT l Z a0 hw [] b5 b5 (own_val (own_kCode p1)) (own_val (own_bCode p2)) (own_val (own_kCode p1)) (own_val (own_bCode p2)) T18.heap n0 Z19 B50 B47 B48 B47 B48 (own_selfk _ (own_krk p1)) (own_selfb _ (own_brk p2)) (own_selfk _ (own_krk p1)) (own_selfb _ (own_brk p2))) hZ (own_w hw 45 rfl) (own_w hw 10 rfl) (by decide) (by decide)) q52a q52c (g := (mkF m 105 #[iv p1, iv p2, iv p3, iv p4, iv (own_kCode p1), iv (own_bCode p2), iv (own_kCode p3), iv (own_bCode p4), rv b5, rv b13, iv 0, iv 0, iv 0, .unset, .unset, .unset] [.ref b5, .ref b5])) rfl (by rw [hml]; rfl) (Steps.refl _) (argsL := [(.ref b5)]) (rest := []) (lenOf own_pd_11 rfl) rfl (by show 2 * 0 + _ ≤ _; exact Nat.le_of_eq rfl) (hb hby at_105) (fun _ _ => ⟨rfl, e51, (by decide : 2 + 0 ≤ _), (by decide : 10 + 0 ≤ _)⟩)
        dsimp only [Pt.U, Pt.locs, Pt.cells, Pt.slots] at X52 l52 y52 z52 st52 hQ52
        subst l52 y52 z52
        obtain ⟨hR52, e52, rfl⟩ := hQ52
        have N52 := Fr.app N51 (Fr.nil n0)
        rcases hR52 with ⟨rfl, ha52_0, ha52_1⟩ | ⟨rfl, ha52_0, ha52_1⟩ | ⟨rfl, ha52_0⟩
        · refine own_tr st52 ?_
          show own_E p e below _ T52 (mkF m 108 #[iv p1, iv p2, iv p3, iv p4, iv (own_kCode p1), iv (own_bCode p2), iv (own_kCode p3), iv (own_bCode p4), rv b5, rv b13, iv 0, iv 0, iv 0, .unset, .unset, .unset] [.int 1])
          refine own_st (fun t k => XS.istore X52.here hx rfl (hb hby at_108) rfl (l' := #[iv p1, iv p2, iv p3, iv p4, iv (own_kCode p1), iv (own_bCode p2), iv (own_kCode p3), iv (own_bCode p4), rv b5, rv b13, iv 0, iv 0, iv 0, iv 1, .unset, .unset]) rfl k) ?_
          show own_E p e below _ T52 (mkF m 110 #[iv p1, iv p2, iv p3, iv p4, iv (own_kCode p1), iv (own_bCode p2), iv (own_kCode p3), iv (own_bCode p4), rv b5, rv b13, iv 0, iv 0, iv 0, iv 1, .unset, .unset] [])
          refine own_st (fun t k => XS.aload X52.here hx rfl (hb hby at_110) rfl rfl k) ?_
          show own_E p e below _ T52 (mkF m 112 #[iv p1, iv p2, iv p3, iv p4, iv (own_kCode p1), iv (own_bCode p2), iv (own_kCode p3), iv (own_bCode p4), rv b5, rv b13, iv 0, iv 0, iv 0, iv 1, .unset, .unset] [.ref b5])
          refine own_st (fun t k => XS.aconstNull X52.here hx rfl (hb hby at_112) k) ?_
          show own_E p e below _ T52 (mkF m 113 #[iv p1, iv p2, iv p3, iv p4, iv (own_kCode p1), iv (own_bCode p2), iv (own_kCode p3), iv (own_bCode p4), rv b5, rv b13, iv 0, iv 0, iv 0, iv 1, .unset, .unset] [.null, .ref b5])
          obtain ⟨cq53, kq53, q53a, q53b, q53c⟩ := isOf hZ e52 B50
          obtain ⟨_, _, ⟨T53, L53, k53, n53⟩, -, X53, ⟨Lc53, hQ53, l53, y53, z53⟩, st53⟩ := X52.virtualBack hx (y := own_y9) (z := own_y9) hown (mvT hZ (own_w hw 41 rfl)) (mvT hZ (own_w hw 42 rfl)) (notFace_of_selects (args := #[]) (mvT hZ (own_w hw 44 rfl))) (mvT hZ (own_w hw 44 rfl)) (mvT hZ (own_w hw 43 rfl)) (by decide) (backOf (W := 0) (own_eqN l Z a0 hw [] b5 T18.heap n0 Z19 ) hZ (own_w hw 45 rfl) (own_w hw 10 rfl) (by decide) (by decide)) q53a q53c (g := (mkF m 113 #[iv p1, iv p2, iv p3, iv p4, iv (own_kCode p1), iv (own_bCode p2), iv (own_kCode p3), iv (own_bCode p4), rv b5, rv b13, iv 0, iv 0, iv 0, iv 1, .unset, .unset] [.null, .ref b5])) rfl (by rw [hml]; rfl) (Steps.refl _) (argsL := [.null]) (rest := []) (lenOf own_pd_11 rfl) rfl (by show 2 * 0 + _ ≤ _; exact Nat.le_of_eq rfl) (hb hby at_113) (fun _ _ => ⟨rfl, e52, (by decide : 2 + 0 ≤ _), (by decide : 10 + 0 ≤ _)⟩)
          dsimp only [Pt.U, Pt.locs, Pt.cells, Pt.slots] at X53 l53 y53 z53 st53 hQ53
          subst l53 y53 z53
          obtain ⟨hR53, e53, rfl⟩ := hQ53
          have N53 := Fr.app N52 (Fr.nil n0)
          obtain rfl := hR53
          refine own_tr st53 ?_
          show own_E p e below _ T53 (mkF m 116 #[iv p1, iv p2, iv p3, iv p4, iv (own_kCode p1), iv (own_bCode p2), iv (own_kCode p3), iv (own_bCode p4), rv b5, rv b13, iv 0, iv 0, iv 0, iv 1, .unset, .unset] [.int 0])
          refine own_st (fun t k => XS.istore X53.here hx rfl (hb hby at_116) rfl (l' := #[iv p1, iv p2, iv p3, iv p4, iv (own_kCode p1), iv (own_bCode p2), iv (own_kCode p3), iv (own_bCode p4), rv b5, rv b13, iv 0, iv 0, iv 0, iv 1, iv 0, .unset]) rfl k) ?_
          show own_E p e below _ T53 (mkF m 118 #[iv p1, iv p2, iv p3, iv p4, iv (own_kCode p1), iv (own_bCode p2), iv (own_kCode p3), iv (own_bCode p4), rv b5, rv b13, iv 0, iv 0, iv 0, iv 1, iv 0, .unset] [])
          refine own_st (fun t k => XS.aload X53.here hx rfl (hb hby at_118) rfl rfl k) ?_
          show own_E p e below _ T53 (mkF m 120 #[iv p1, iv p2, iv p3, iv p4, iv (own_kCode p1), iv (own_bCode p2), iv (own_kCode p3), iv (own_bCode p4), rv b5, rv b13, iv 0, iv 0, iv 0, iv 1, iv 0, .unset] [.ref b5])
          refine own_st (fun t k => XS.iloadN X53.here hx rfl (hb hby at_120) rfl k) ?_
          show own_E p e below _ T53 (mkF m 121 #[iv p1, iv p2, iv p3, iv p4, iv (own_kCode p1), iv (own_bCode p2), iv (own_kCode p3), iv (own_bCode p4), rv b5, rv b13, iv 0, iv 0, iv 0, iv 1, iv 0, .unset] [.int p1, .ref b5])
          obtain ⟨_, _, ⟨T54, L54, k54, n54⟩, -, X54, ⟨Lc54, hQ54, l54, y54, z54⟩, st54⟩ := Jvm.LawKit.callS X53 hx (y := own_y12) hown (mvT hZ (own_w hw 61 rfl)) (mvT hZ (own_w hw 62 rfl)) (mvT hZ (own_w hw 63 rfl)) (mvT hZ (own_w hw 64 rfl)) (by decide) (backOf (W := 1) (own_ival l Z a0 hw [] p1 T18.heap n0 Z19 (own_cache_keep hC K20)) hZ (own_w hw 64 rfl) (own_w hw 63 rfl) (by decide) (by decide)) (g := (mkF m 121 #[iv p1, iv p2, iv p3, iv p4, iv (own_kCode p1), iv (own_bCode p2), iv (own_kCode p3), iv (own_bCode p4), rv b5, rv b13, iv 0, iv 0, iv 0, iv 1, iv 0, .unset] [.int p1, .ref b5])) rfl (by rw [hml]; rfl) (argsL := [(.int p1)]) (rest := [(.ref b5)]) (lenOf own_pd_8 rfl) rfl (by show 2 * 0 + _ ≤ _; exact Nat.le_of_eq rfl) (hb hby at_121) (fun _ _ => ⟨rfl, e53, (by decide : 2 + 1 ≤ _), (by decide : 10 + 1 ≤ _)⟩)
          dsimp only [Pt.U, Pt.locs, Pt.cells, Pt.slots] at X54 l54 y54 z54 st54 hQ54
          subst l54 y54 z54
          obtain ⟨b54_o, rfl, Nq54, Kq54, P54⟩ := hQ54
          have N54 := Fr.app N53 Nq54
          have e54 : T54.heap = T54.heap := rfl
          have Z55 := Nat.le_trans Z19 Kq54.1
          have K56 : Keep h0 _ [] := K20.trans Kq54 all0
          refine own_st st54 ?_
          show own_E p e below _ T54 (mkF m 124 #[iv p1, iv p2, iv p3, iv p4, iv (own_kCode p1), iv (own_bCode p2), iv (own_kCode p3), iv (own_bCode p4), rv b5, rv b13, iv 0, iv 0, iv 0, iv 1, iv 0, .unset] [.ref b54_o, .ref b5])
          have B58 := (B50.keep Kq54)
          obtain ⟨cq57, kq57, q57a, q57b, q57c⟩ := isOf hZ e54 B58
          obtain ⟨_, _, ⟨T57, L57, k57, n57⟩, -, X57, ⟨Lc57, hQ57, l57, y57, z57⟩, st57⟩ := X54.virtualBack hx (y := own_y9) (z := own_y9) hown (mvT hZ (own_w hw 41 rfl)) (mvT hZ (own_w hw 42 rfl)) (notFace_of_selects (args := #[]) (mvT hZ (own_w hw 44 rfl))) (mvT hZ (own_w hw 44 rfl)) (mvT hZ (own_w hw 43 rfl)) (by decide) (backOf (W := 0) (own_eqI l Z a0 hw [] b5 b54_o T54.heap n0 Z55 P54) hZ (own_w hw 45 rfl) (own_w hw 10 rfl) (by decide) (by decide)) q57a q57c (g := (mkF m 124 #[iv p1, iv p2, iv p3, iv p4, iv (own_kCode p1), iv (own_bCode p2), iv (own_kCode p3), iv (own_bCode p4), rv b5, rv b13, iv 0, iv 0, iv 0, iv 1, iv 0, .unset] [.ref b54_o, .ref b5])) rfl (by rw [hml]; rfl) (Steps.refl _) (argsL := [(.ref b54_o)]) (rest := []) (lenOf own_pd_11 rfl) rfl (by show 2 * 0 + _ ≤ _; exact Nat.le_of_eq rfl) (hb hby at_124) (fun _ _ => ⟨rfl, e54, (by decide : 3 + 0 ≤ _), (by decide : 11 + 0 ≤ _)⟩)
          dsimp only [Pt.U, Pt.locs, Pt.cells, Pt.slots] at X57 l57 y57 z57 st57 hQ57
          subst l57 y57 z57
          obtain ⟨hR57, e57, rfl⟩ := hQ57
          have N57 := Fr.app N54 (Fr.nil n0)
          obtain rfl := hR57
          refine own_tr st57 ?_
          show own_E p e below _ T57 (mkF m 127 #[iv p1, iv p2, iv p3, iv p4, iv (own_kCode p1), iv (own_bCode p2), iv (own_kCode p3), iv (own_bCode p4), rv b5, rv b13, iv 0, iv 0, iv 0, iv 1, iv 0, .unset] [.int 0])
          refine own_st (fun t k => XS.istore X57.here hx rfl (hb hby at_127) rfl (l' := #[iv p1, iv p2, iv p3, iv p4, iv (own_kCode p1), iv (own_bCode p2), iv (own_kCode p3), iv (own_bCode p4), rv b5, rv b13, iv 0, iv 0, iv 0, iv 1, iv 0, iv 0]) rfl k) ?_
          show own_E p e below _ T57 (mkF m 129 #[iv p1, iv p2, iv p3, iv p4, iv (own_kCode p1), iv (own_bCode p2), iv (own_kCode p3), iv (own_bCode p4), rv b5, rv b13, iv 0, iv 0, iv 0, iv 1, iv 0, iv 0] [])
          refine own_st (fun t k => XS.iload X57.here hx rfl (hb hby at_129) rfl k) ?_
          show own_E p e below _ T57 (mkF m 131 #[iv p1, iv p2, iv p3, iv p4, iv (own_kCode p1), iv (own_bCode p2), iv (own_kCode p3), iv (own_bCode p4), rv b5, rv b13, iv 0, iv 0, iv 0, iv 1, iv 0, iv 0] [.int 0])
          refine own_st (fun t k => XS.iload X57.here hx rfl (hb hby at_131) rfl k) ?_
          show own_E p e below _ T57 (mkF m 133 #[iv p1, iv p2, iv p3, iv p4, iv (own_kCode p1), iv (own_bCode p2), iv (own_kCode p3), iv (own_bCode p4), rv b5, rv b13, iv 0, iv 0, iv 0, iv 1, iv 0, iv 0] [.int 0, .int 0])
          refine own_st (fun t k => XS.icmpNo X57.here hx rfl (hb hby at_133) rfl (by decide) k) ?_
          show own_E p e below _ T57 (mkF m 136 #[iv p1, iv p2, iv p3, iv p4, iv (own_kCode p1), iv (own_bCode p2), iv (own_kCode p3), iv (own_bCode p4), rv b5, rv b13, iv 0, iv 0, iv 0, iv 1, iv 0, iv 0] [])
          refine own_st (fun t k => XS.iload X57.here hx rfl (hb hby at_136) rfl k) ?_
          show own_E p e below _ T57 (mkF m 138 #[iv p1, iv p2, iv p3, iv p4, iv (own_kCode p1), iv (own_bCode p2), iv (own_kCode p3), iv (own_bCode p4), rv b5, rv b13, iv 0, iv 0, iv 0, iv 1, iv 0, iv 0] [.int 0])
          refine own_st (fun t k => XS.iload X57.here hx rfl (hb hby at_138) rfl k) ?_
          show own_E p e below _ T57 (mkF m 140 #[iv p1, iv p2, iv p3, iv p4, iv (own_kCode p1), iv (own_bCode p2), iv (own_kCode p3), iv (own_bCode p4), rv b5, rv b13, iv 0, iv 0, iv 0, iv 1, iv 0, iv 0] [.int 0, .int 0])
          refine own_st (fun t k => XS.icmpNo X57.here hx rfl (hb hby at_140) rfl (by decide) k) ?_
          show own_E p e below _ T57 (mkF m 143 #[iv p1, iv p2, iv p3, iv p4, iv (own_kCode p1), iv (own_bCode p2), iv (own_kCode p3), iv (own_bCode p4), rv b5, rv b13, iv 0, iv 0, iv 0, iv 1, iv 0, iv 0] [])
          refine own_st (fun t k => XS.iload X57.here hx rfl (hb hby at_143) rfl k) ?_
          show own_E p e below _ T57 (mkF m 145 #[iv p1, iv p2, iv p3, iv p4, iv (own_kCode p1), iv (own_bCode p2), iv (own_kCode p3), iv (own_bCode p4), rv b5, rv b13, iv 0, iv 0, iv 0, iv 1, iv 0, iv 0] [.int 1])
          refine own_st (fun t k => XS.ifNo X57.here hx rfl (hb hby at_145) rfl (by decide) k) ?_
          show own_E p e below _ T57 (mkF m 148 #[iv p1, iv p2, iv p3, iv p4, iv (own_kCode p1), iv (own_bCode p2), iv (own_kCode p3), iv (own_bCode p4), rv b5, rv b13, iv 0, iv 0, iv 0, iv 1, iv 0, iv 0] [])
          refine own_st (fun t k => XS.iload X57.here hx rfl (hb hby at_148) rfl k) ?_
          show own_E p e below _ T57 (mkF m 150 #[iv p1, iv p2, iv p3, iv p4, iv (own_kCode p1), iv (own_bCode p2), iv (own_kCode p3), iv (own_bCode p4), rv b5, rv b13, iv 0, iv 0, iv 0, iv 1, iv 0, iv 0] [.int 0])
          refine own_st (fun t k => XS.ifNo X57.here hx rfl (hb hby at_150) rfl (by decide) k) ?_
          show own_E p e below _ T57 (mkF m 153 #[iv p1, iv p2, iv p3, iv p4, iv (own_kCode p1), iv (own_bCode p2), iv (own_kCode p3), iv (own_bCode p4), rv b5, rv b13, iv 0, iv 0, iv 0, iv 1, iv 0, iv 0] [])
          refine own_st (fun t k => XS.iload X57.here hx rfl (hb hby at_153) rfl k) ?_
          show own_E p e below _ T57 (mkF m 155 #[iv p1, iv p2, iv p3, iv p4, iv (own_kCode p1), iv (own_bCode p2), iv (own_kCode p3), iv (own_bCode p4), rv b5, rv b13, iv 0, iv 0, iv 0, iv 1, iv 0, iv 0] [.int 0])
          refine own_st (fun t k => XS.ifNo X57.here hx rfl (hb hby at_155) rfl (by decide) k) ?_
          show own_E p e below _ T57 (mkF m 158 #[iv p1, iv p2, iv p3, iv p4, iv (own_kCode p1), iv (own_bCode p2), iv (own_kCode p3), iv (own_bCode p4), rv b5, rv b13, iv 0, iv 0, iv 0, iv 1, iv 0, iv 0] [])
          refine own_st (fun t k => XS.iconst X57.here hx rfl (hb hby at_158) k) ?_
          show own_E p e below _ T57 (mkF m 159 #[iv p1, iv p2, iv p3, iv p4, iv (own_kCode p1), iv (own_bCode p2), iv (own_kCode p3), iv (own_bCode p4), rv b5, rv b13, iv 0, iv 0, iv 0, iv 1, iv 0, iv 0] [.int 1])
          refine own_st (fun t k => XS.goto X57.here hx rfl (pc0 := 159) (pc' := 163) rfl (hb hby at_159) (by decide) (by decide) k) ?_
          show own_E p e below _ T57 (mkF m 163 #[iv p1, iv p2, iv p3, iv p4, iv (own_kCode p1), iv (own_bCode p2), iv (own_kCode p3), iv (own_bCode p4), rv b5, rv b13, iv 0, iv 0, iv 0, iv 1, iv 0, iv 0] [.int 1])
          refine own_retS X57 hx Bd.notSynchronized Bd.returns rfl (by decide) (hb hby at_163) (by decide) (by decide) ?_
          exact ⟨rfl, N57⟩
        · exact absurd ((own_cmp_b p2 p2).mpr rfl) ha52_1
        · exact absurd ((own_cmp_k p1 p1).mpr rfl) ha52_0
set_option maxRecDepth 65536 in
set_option maxHeartbeats 40000000 in
theorem comes_1 {Post : Tables → Env → Array Value → State → Outcome → State → Prop} (hpost : ∀ tb e args s v u, (limb_1_1.after args s (.returned v) u = true ∧ limb_1_2.after args s (.returned v) u = true ∧ True) → FrameEnd s (.returned v) u (Jvm.fieldLocs frame_1_writes args s ++ Jvm.arrayLocs frame_1_arrays args s ++ Jvm.staticLocs frame_1_statics s) 16 128 → Post tb e args s (.returned v) u) :
    ArmFor flags0 classFile x code maxLocals ret World_1 tables_1 room_1 Calls_1 rest_1 Pre_1 Post := by
  intro l hfl _ _ p e ha hc hk s m args below hf hA hF happ hP
  obtain ⟨hcalls, hrest, hpre⟩ := hP
  obtain ⟨-, -, -, hnamed, -, -, -, hat⟩ := (Spec.applies_iff hf).mp happ
  obtain ⟨hg, hn⟩ := and_e (Cond.before_iff.mp (show (Jvm.Cond.and given_1 narrow_1).before args s = true from hpre))
  obtain ⟨hg0, hg1⟩ := and_e hg
  obtain ⟨hv0, hg2⟩ := and_e hg1
  obtain ⟨hv1, hg3⟩ := and_e hg2
  obtain ⟨hv2, hg4⟩ := and_e hg3
  have hv3 := hg4
  obtain ⟨w0, w1, w2, w3, rfl⟩ : ∃ w0 w1 w2 w3 : Value, args = #[w0, w1, w2, w3] := by
    have hs : args.size = 4 := by simpa [Cond.value, given_1] using hg0
    obtain ⟨L⟩ := args
    match L, hs with
    | [w0, w1, w2, w3], _ => exact ⟨w0, w1, w2, w3, rfl⟩
  have hw := fun d (hd : d ∈ tables_1) => atoms_spec (ws := Jvm.Cond.code x code maxLocals ret :: tables_1) hat d (List.mem_cons_of_mem _ hd)
  have hfit : Fit s := fun {y c} hc i hi => by
    obtain ⟨ha, rfl⟩ := Array.getElem?_eq_some_iff.mp hc
    have q := List.all_eq_true.mp ((Array.all_eq_true_iff_forall_mem.mp hF) _ (Array.getElem_mem ha)) i (List.mem_range.mpr hi)
    simpa [Array.getElem?_eq_getElem hi] using q
  obtain ⟨i0, ev0⟩ := is_v hv0
  obtain rfl : w0 = (.int i0) := Option.some.inj ev0
  obtain ⟨i1, ev1⟩ := is_v hv1
  obtain rfl : w1 = (.int i1) := Option.some.inj ev1
  obtain ⟨i2, ev2⟩ := is_v hv2
  obtain rfl : w2 = (.int i2) := Option.some.inj ev2
  obtain ⟨i3, ev3⟩ := is_v hv3
  obtain rfl : w3 = (.int i3) := Option.some.inj ev3
  have hsets := (atoms_of jdkStatics_1 (own := restOwn_1) (by rw [← rest_1_c_eq]; exact hrest)).1
  have hC := own_cache_start hsets (own_w hw 66 rfl)
  obtain ⟨n, o, h1, h2, h3, _, L, rfl, ⟨rfl, N⟩, hq⟩ := own_law l s _ hw tables_1 i0 i1 i2 i3 s.heap s.heap.size (Nat.le_refl _) hC p e ha hc hk s m _ below hf ((Spec.applies_iff_loose hf).mp happ).1 ⟨rfl, State.Warmed39.refl s, rfl⟩ trivial
  refine ⟨n, _, h1, h2, h3, hpost _ _ _ _ _ _ ⟨Cond.after_iff.mpr rfl, Cond.after_iff.mpr (eq_i res_at (Term.int_eval (1)) rfl), trivial⟩ ⟨hq.1, hq.2.1, (hq.2.2.sift fun y hy => Or.inr (N y hy)).mono (by decide) (by decide)⟩⟩
theorem main_1_1 : Claimed_1_1 := comes_1 fun _ _ _ _ _ _ h hF => ⟨h.1, hF⟩
theorem main_1_2 : Claimed_1_2 := comes_1 fun _ _ _ _ _ _ h hF => ⟨h.2.1, hF⟩
end Jvm.Pilot.@@N@@
namespace Jvm.Pilot.@@N@@
open Jvm Jvm.ClassFile Sem Op Lib Jvm.Free Jvm.Stand Jvm.Pilot.@@N@@.Jvm.D
/-! MADE BY PROGRAM (witnessworld.py) out of the Statement's table words and the real class files: 19 classes; the members and pool entries that the words name. The judged class is class 1, her method 4. -/
namespace start1
open Jvm.ClassFile
def u (s : String) : CpInfo := .utf8 (stringToUtf16 s)
/-- a pool by its gaps: so many unusable entries, then the entry; so many at the end -/
def gap : Nat → List CpInfo → List CpInfo
  | 0, r => r
  | n + 1, r => .unusable :: gap n r
def poolList (es : List (Nat × CpInfo)) (last : Nat) : List CpInfo := es.foldr (fun e r => gap e.1 (e.2 :: r)) (gap last [])
def pool (es : List (Nat × CpInfo)) (last : Nat) : Array CpInfo := ⟨poolList es last⟩
def fileOf (pool : Array CpInfo) (this : Nat) (attrs : Array Attribute := #[]) (ms : Array MethodInfo := #[]) (fl : Nat := 33) (sup : Nat := 0) (ifs : Array Nat := #[]) (fds : Array FieldInfo := #[]) : ClassFile where
  minorVersion := 0
  majorVersion := 65
  constantPool := pool
  accessFlags := fl
  thisClass := this
  superClass := sup
  interfaces := ifs
  fields := fds
  methods := ms
  attributes := attrs
def plain (name : String) (sup : Option ClassId) : Class where
  name := name
  kind := .ordinary
  loader := none
  accessFlags := 33
  super := sup
  interfaces := #[]
  cf := none
  fields := #[]
  methods := #[]
  instanceTypes := #[]
  staticTypes := #[]
  resolved := #[]
  callSites := []
  init := .initialized
  statics := none
  mirror := none

def pool0 : Array CpInfo := pool [(5, u "<init>"), (0, u "()V"), (1, .class_ 10), (1, u "java/lang/Object")] 113

def k0c0 : Code := { maxStack := 0, maxLocals := 1, code := object_method_1_code, exceptionTable := #[], attributes := #[] }
def k0m0 : Method := { name := "<init>", desc := "()V", sig := { parameters := [], returnType := none }, accessFlags := 1, code := some k0c0 }
/-- java/lang/Object -/
def k0 : Class := { plain "java/lang/Object" none with
  accessFlags := 33
  interfaces := #[]
  cf := some (fileOf pool0 8 #[] #[{ accessFlags := 1, nameIndex := 5, descriptorIndex := 6, attributes := #[] }] 33 0 #[] #[])
  fields := #[]
  methods := #[k0m0]
  instanceTypes := #[]
  staticTypes := #[]
  resolved := Array.replicate 124 none
  statics := none }

def pool1 : Array CpInfo := pool [(2, .class_ 4), (1, u "java/lang/Object"), (0, u "<init>"), (0, u "()V"), (0, .integer 2147483647), (0, .double 9223372036854775808), (1, .double 4620693217682128896), (1, .methodref 13 14), (0, .class_ 15), (0, .nameAndType 16 17), (0, u "com/example/lean_scorer/leanscorer/Bm25EqualsPinLaw"), (0, u "kCode"), (0, u "(I)I"), (0, .methodref 13 19), (0, .nameAndType 20 17), (0, u "bCode"), (0, .class_ 22), (0, u "com/example/lean_scorer/leanscorer/Bm25"), (0, .methodref 13 24), (0, .nameAndType 25 26), (0, u "valueOf"), (0, u "(I)D"), (0, .methodref 21 28), (0, .nameAndType 5 29), (0, u "(DD)V"), (0, .methodref 21 31), (0, .nameAndType 32 33), (0, u "equals"), (0, u "(Ljava/lang/Object;)Z"), (0, .methodref 35 36), (0, .class_ 37), (0, .nameAndType 25 38), (0, u "java/lang/Integer"), (0, u "(I)Ljava/lang/Integer;"), (3, u "law"), (0, u "(IIII)Z")] 2

def k1m0 : Method := { name := "<init>", desc := "()V", sig := { parameters := [], returnType := none }, accessFlags := 1, code := none }
def k1c1 : Code := { maxStack := 2, maxLocals := 2, code := method_2_code, exceptionTable := #[], attributes := #[] }
def k1m1 : Method := { name := "kCode", desc := "(I)I", sig := { parameters := [.int], returnType := some .int }, accessFlags := 10, code := some k1c1 }
def k1c2 : Code := { maxStack := 2, maxLocals := 2, code := method_3_code, exceptionTable := #[], attributes := #[] }
def k1m2 : Method := { name := "bCode", desc := "(I)I", sig := { parameters := [.int], returnType := some .int }, accessFlags := 10, code := some k1c2 }
def k1c3 : Code := { maxStack := 4, maxLocals := 1, code := method_4_code, exceptionTable := #[], attributes := #[] }
def k1m3 : Method := { name := "valueOf", desc := "(I)D", sig := { parameters := [.int], returnType := some .double }, accessFlags := 10, code := some k1c3 }
def k1c4 : Code := { maxStack := 6, maxLocals := 16, code := code, exceptionTable := #[], attributes := #[] }
def k1m4 : Method := { name := "law", desc := "(IIII)Z", sig := { parameters := [.int, .int, .int, .int], returnType := some .boolean }, accessFlags := 9, code := some k1c4 }
/-- com/example/lean_scorer/leanscorer/Bm25EqualsPinLaw -/
def k1 : Class := { plain "com/example/lean_scorer/leanscorer/Bm25EqualsPinLaw" (some 0) with
  accessFlags := 49
  interfaces := #[]
  cf := some (fileOf pool1 13 #[] #[{ accessFlags := 1, nameIndex := 5, descriptorIndex := 6, attributes := #[] }, { accessFlags := 10, nameIndex := 16, descriptorIndex := 17, attributes := #[] }, { accessFlags := 10, nameIndex := 20, descriptorIndex := 17, attributes := #[] }, { accessFlags := 10, nameIndex := 25, descriptorIndex := 26, attributes := #[] }, { accessFlags := 9, nameIndex := 42, descriptorIndex := 43, attributes := #[] }] 49 2 #[] #[])
  fields := #[]
  methods := #[k1m0, k1m1, k1m2, k1m3, k1m4]
  instanceTypes := #[]
  staticTypes := #[]
  resolved := Array.replicate 46 none
  statics := none }

def pool2 : Array CpInfo := pool [(1, .methodref 2 3), (0, .class_ 4), (0, .nameAndType 5 6), (0, u "java/lang/Object"), (0, u "<init>"), (0, u "()V"), (15, .class_ 24), (1, u "com/example/lean_scorer/leanscorer/Scorer")] 39

def k2c0 : Code := { maxStack := 1, maxLocals := 1, code := prog_24_method_1_code, exceptionTable := #[], attributes := #[] }
def k2m0 : Method := { name := "<init>", desc := "()V", sig := { parameters := [], returnType := none }, accessFlags := 0, code := some k2c0 }
/-- com/example/lean_scorer/leanscorer/Scorer -/
def k2 : Class := { plain "com/example/lean_scorer/leanscorer/Scorer" (some 0) with
  accessFlags := 1057
  interfaces := #[]
  cf := some (fileOf pool2 22 #[] #[{ accessFlags := 0, nameIndex := 5, descriptorIndex := 6, attributes := #[] }] 1057 2 #[] #[])
  fields := #[]
  methods := #[k2m0]
  instanceTypes := #[]
  staticTypes := #[]
  resolved := Array.replicate 64 none
  statics := none }

def pool3 : Array CpInfo := pool [(1, .methodref 2 3), (0, .class_ 4), (0, .nameAndType 5 6), (0, u "com/example/lean_scorer/leanscorer/Scorer"), (0, u "<init>"), (0, u "()V"), (0, .class_ 8), (0, u "java/lang/Double"), (0, .double 9218868437227405312), (11, .fieldref 22 23), (0, .class_ 24), (0, .nameAndType 25 26), (0, u "com/example/lean_scorer/leanscorer/Bm25"), (0, u "k1"), (0, u "D"), (0, .fieldref 22 28), (0, .nameAndType 29 26), (0, u "b"), (0, .methodref 31 32), (0, .class_ 33), (0, .nameAndType 34 35), (0, u "java/lang/Math"), (0, u "max"), (0, u "(DD)D"), (0, .fieldref 22 37), (0, .nameAndType 38 26), (0, u "numeratorFactor"), (0, .fieldref 22 40), (0, .nameAndType 41 26), (0, u "frequencyFactor"), (0, .fieldref 22 43), (0, .nameAndType 44 26), (0, u "normFactor"), (2, u "(DD)V"), (152, .methodref 7 201), (0, .nameAndType 202 203), (0, u "compare"), (0, u "(DD)I"), (23, u "DEFAULTS"), (0, u "Lcom/example/lean_scorer/leanscorer/Bm25;"), (28, u "equals"), (0, u "(Ljava/lang/Object;)Z")] 61

def k3c0 : Code := { maxStack := 5, maxLocals := 7, code := prog_1_method_1_code, exceptionTable := #[], attributes := #[] }
def k3m0 : Method := { name := "<init>", desc := "(DD)V", sig := { parameters := [.double, .double], returnType := none }, accessFlags := 1, code := some k3c0 }
def k3c1 : Code := { maxStack := 4, maxLocals := 2, code := prog_1_method_16_code, exceptionTable := #[], attributes := #[] }
def k3m1 : Method := { name := "equals", desc := "(Ljava/lang/Object;)Z", sig := { parameters := [(.object "java/lang/Object")], returnType := some .boolean }, accessFlags := 1, code := some k3c1 }
/-- com/example/lean_scorer/leanscorer/Bm25 -/
def k3 : Class := { plain "com/example/lean_scorer/leanscorer/Bm25" (some 2) with
  accessFlags := 49
  interfaces := #[]
  cf := some (fileOf pool3 22 #[] #[{ accessFlags := 1, nameIndex := 5, descriptorIndex := 47, attributes := #[] }, { accessFlags := 1, nameIndex := 257, descriptorIndex := 258, attributes := #[] }] 49 2 #[] #[{ accessFlags := 25, nameIndex := 227, descriptorIndex := 228, attributes := #[] }, { accessFlags := 18, nameIndex := 25, descriptorIndex := 26, attributes := #[] }, { accessFlags := 18, nameIndex := 29, descriptorIndex := 26, attributes := #[] }, { accessFlags := 18, nameIndex := 38, descriptorIndex := 26, attributes := #[] }, { accessFlags := 18, nameIndex := 41, descriptorIndex := 26, attributes := #[] }, { accessFlags := 18, nameIndex := 44, descriptorIndex := 26, attributes := #[] }])
  fields := #[{ name := "DEFAULTS", type := (.object "com/example/lean_scorer/leanscorer/Bm25"), accessFlags := 25, slot := 0, constantValue := 0 }, { name := "k1", type := .double, accessFlags := 18, slot := 0, constantValue := 0 }, { name := "b", type := .double, accessFlags := 18, slot := 1, constantValue := 0 }, { name := "numeratorFactor", type := .double, accessFlags := 18, slot := 2, constantValue := 0 }, { name := "frequencyFactor", type := .double, accessFlags := 18, slot := 3, constantValue := 0 }, { name := "normFactor", type := .double, accessFlags := 18, slot := 4, constantValue := 0 }]
  methods := #[k3m0, k3m1]
  instanceTypes := #[.double, .double, .double, .double, .double]
  staticTypes := #[(.object "com/example/lean_scorer/leanscorer/Bm25")]
  resolved := Array.replicate 320 none
  statics := none }

def pool4 : Array CpInfo := pool [(1, .class_ 2), (0, u "java/lang/Math"), (1, .class_ 6), (1, u "java/lang/Object"), (0, u "<init>"), (0, u "()V"), (43, u "(DD)D"), (45, .class_ 100), (1, u "java/lang/Math$RandomNumberGeneratorHolder"), (71, u "negativeZeroFloatBits"), (0, u "J"), (2, u "negativeZeroDoubleBits"), (21, u "max"), (46, u "$assertionsDisabled"), (0, u "Z"), (91, u "twoToTheDoubleScaleDown"), (0, u "D"), (4, u "twoToTheDoubleScaleUp"), (9, u "E"), (3, u "PI"), (2, u "TAU"), (2, u "DEGREES_TO_RADIANS"), (0, u "RADIANS_TO_DEGREES")] 94

def k4m0 : Method := { name := "<init>", desc := "()V", sig := { parameters := [], returnType := none }, accessFlags := 2, code := none }
def k4c1 : Code := { maxStack := 4, maxLocals := 4, code := jdk_29_method_68_code, exceptionTable := #[], attributes := #[] }
def k4m1 : Method := { name := "max", desc := "(DD)D", sig := { parameters := [.double, .double], returnType := some .double }, accessFlags := 9, code := some k4c1 }
/-- java/lang/Math -/
def k4 : Class := { plain "java/lang/Math" (some 0) with
  accessFlags := 49
  interfaces := #[]
  cf := some (fileOf pool4 1 #[.nestMembers #[98]] #[{ accessFlags := 2, nameIndex := 7, descriptorIndex := 8, attributes := #[] }, { accessFlags := 9, nameIndex := 198, descriptorIndex := 52, attributes := #[] }] 49 4 #[] #[{ accessFlags := 25, nameIndex := 354, descriptorIndex := 339, attributes := #[] }, { accessFlags := 25, nameIndex := 358, descriptorIndex := 339, attributes := #[] }, { accessFlags := 25, nameIndex := 361, descriptorIndex := 339, attributes := #[] }, { accessFlags := 26, nameIndex := 364, descriptorIndex := 339, attributes := #[] }, { accessFlags := 26, nameIndex := 365, descriptorIndex := 339, attributes := #[] }, { accessFlags := 26, nameIndex := 172, descriptorIndex := 173, attributes := #[] }, { accessFlags := 26, nameIndex := 176, descriptorIndex := 173, attributes := #[] }, { accessFlags := 8, nameIndex := 344, descriptorIndex := 339, attributes := #[] }, { accessFlags := 8, nameIndex := 338, descriptorIndex := 339, attributes := #[] }, { accessFlags := 4120, nameIndex := 245, descriptorIndex := 246, attributes := #[] }])
  fields := #[{ name := "E", type := .double, accessFlags := 25, slot := 0, constantValue := 0 }, { name := "PI", type := .double, accessFlags := 25, slot := 1, constantValue := 0 }, { name := "TAU", type := .double, accessFlags := 25, slot := 2, constantValue := 0 }, { name := "DEGREES_TO_RADIANS", type := .double, accessFlags := 26, slot := 3, constantValue := 0 }, { name := "RADIANS_TO_DEGREES", type := .double, accessFlags := 26, slot := 4, constantValue := 0 }, { name := "negativeZeroFloatBits", type := .long, accessFlags := 26, slot := 5, constantValue := 0 }, { name := "negativeZeroDoubleBits", type := .long, accessFlags := 26, slot := 6, constantValue := 0 }, { name := "twoToTheDoubleScaleUp", type := .double, accessFlags := 8, slot := 7, constantValue := 0 }, { name := "twoToTheDoubleScaleDown", type := .double, accessFlags := 8, slot := 8, constantValue := 0 }, { name := "$assertionsDisabled", type := .boolean, accessFlags := 4120, slot := 9, constantValue := 0 }]
  methods := #[k4m0, k4m1]
  instanceTypes := #[]
  staticTypes := #[.double, .double, .double, .double, .double, .long, .long, .double, .double, .boolean]
  resolved := Array.replicate 460 none
  statics := none }

def pool5 : Array CpInfo := pool [(1, .class_ 2), (0, u "java/io/Serializable"), (0, .class_ 4), (0, u "java/lang/Object")] 2

/-- java/io/Serializable -/
def k5 : Class := { plain "java/io/Serializable" (some 0) with
  accessFlags := 1537
  interfaces := #[]
  cf := some (fileOf pool5 1 #[] #[] 1537 3 #[] #[])
  fields := #[]
  methods := #[]
  instanceTypes := #[]
  staticTypes := #[]
  resolved := Array.replicate 7 none
  statics := none }

def pool6 : Array CpInfo := pool [(1, .methodref 2 3), (0, .class_ 4), (0, .nameAndType 5 6), (0, u "java/lang/Object"), (0, u "<init>"), (0, u "()V"), (1, .class_ 10), (1, u "java/lang/Number"), (2, .class_ 14), (0, u "java/io/Serializable"), (0, u "serialVersionUID"), (0, u "J")] 20

def k6c0 : Code := { maxStack := 1, maxLocals := 1, code := jdk_18_method_1_code, exceptionTable := #[], attributes := #[] }
def k6m0 : Method := { name := "<init>", desc := "()V", sig := { parameters := [], returnType := none }, accessFlags := 1, code := some k6c0 }
/-- java/lang/Number -/
def k6 : Class := { plain "java/lang/Number" (some 0) with
  accessFlags := 1057
  interfaces := #[5]
  cf := some (fileOf pool6 8 #[] #[{ accessFlags := 1, nameIndex := 5, descriptorIndex := 6, attributes := #[] }] 1057 2 #[13] #[{ accessFlags := 26, nameIndex := 15, descriptorIndex := 16, attributes := #[] }])
  fields := #[{ name := "serialVersionUID", type := .long, accessFlags := 26, slot := 0, constantValue := 0 }]
  methods := #[k6m0]
  instanceTypes := #[]
  staticTypes := #[.long]
  resolved := Array.replicate 37 none
  statics := none }

def pool7 : Array CpInfo := pool [(1, .class_ 2), (0, u "java/lang/Comparable"), (0, .class_ 4), (0, u "java/lang/Object")] 7

/-- java/lang/Comparable -/
def k7 : Class := { plain "java/lang/Comparable" (some 0) with
  accessFlags := 1537
  interfaces := #[]
  cf := some (fileOf pool7 1 #[] #[] 1537 3 #[] #[])
  fields := #[]
  methods := #[]
  instanceTypes := #[]
  staticTypes := #[]
  resolved := Array.replicate 12 none
  statics := none }

def pool8 : Array CpInfo := pool [(1, .class_ 2), (0, u "java/lang/constant/Constable"), (0, .class_ 4), (0, u "java/lang/Object")] 6

/-- java/lang/constant/Constable -/
def k8 : Class := { plain "java/lang/constant/Constable" (some 0) with
  accessFlags := 1537
  interfaces := #[]
  cf := some (fileOf pool8 1 #[] #[] 1537 3 #[] #[])
  fields := #[]
  methods := #[]
  instanceTypes := #[]
  staticTypes := #[]
  resolved := Array.replicate 11 none
  statics := none }

def pool9 : Array CpInfo := pool [(1, .class_ 2), (0, u "java/lang/constant/ConstantDesc"), (0, .class_ 4), (0, u "java/lang/Object")] 32

/-- java/lang/constant/ConstantDesc -/
def k9 : Class := { plain "java/lang/constant/ConstantDesc" (some 0) with
  accessFlags := 1537
  interfaces := #[]
  cf := some (fileOf pool9 1 #[] #[] 1537 3 #[] #[])
  fields := #[]
  methods := #[]
  instanceTypes := #[]
  staticTypes := #[]
  resolved := Array.replicate 37 none
  statics := none }

def pool10 : Array CpInfo := pool [(1, .class_ 2), (0, u "java/lang/Double"), (11, u "(D)Z"), (31, .methodref 1 47), (0, .nameAndType 48 49), (0, u "doubleToLongBits"), (0, u "(D)J"), (64, .class_ 116), (1, u "java/lang/Number"), (3, u "value"), (0, u "D"), (0, .methodref 1 123), (0, .nameAndType 124 14), (0, u "isNaN"), (9, .methodref 1 135), (0, .nameAndType 136 49), (0, u "doubleToRawLongBits"), (4, u "compare"), (0, u "(DD)I"), (30, u "TYPE"), (0, u "Ljava/lang/Class;"), (0, .class_ 176), (0, u "java/lang/Comparable"), (0, .class_ 178), (0, u "java/lang/constant/Constable"), (0, .class_ 180), (0, u "java/lang/constant/ConstantDesc"), (0, u "POSITIVE_INFINITY"), (3, u "NEGATIVE_INFINITY"), (2, u "NaN"), (2, u "MAX_VALUE"), (0, u "MIN_NORMAL"), (0, u "MIN_VALUE"), (2, u "SIZE"), (0, u "I"), (1, u "PRECISION"), (1, u "MAX_EXPONENT"), (1, u "MIN_EXPONENT"), (1, u "BYTES"), (3, u "serialVersionUID"), (0, u "J")] 79

def k10c0 : Code := { maxStack := 4, maxLocals := 2, code := jdk_117_method_6_code, exceptionTable := #[], attributes := #[] }
def k10m0 : Method := { name := "isNaN", desc := "(D)Z", sig := { parameters := [.double], returnType := some .boolean }, accessFlags := 9, code := some k10c0 }
def k10c1 : Code := { maxStack := 2, maxLocals := 2, code := jdk_117_method_23_code, exceptionTable := #[], attributes := #[] }
def k10m1 : Method := { name := "doubleToLongBits", desc := "(D)J", sig := { parameters := [.double], returnType := some .long }, accessFlags := 9, code := some k10c1 }
def k10m2 : Method := { name := "doubleToRawLongBits", desc := "(D)J", sig := { parameters := [.double], returnType := some .long }, accessFlags := 265, code := none }
def k10c3 : Code := { maxStack := 4, maxLocals := 8, code := jdk_117_method_27_code, exceptionTable := #[], attributes := #[] }
def k10m3 : Method := { name := "compare", desc := "(DD)I", sig := { parameters := [.double, .double], returnType := some .int }, accessFlags := 9, code := some k10c3 }
/-- java/lang/Double -/
def k10 : Class := { plain "java/lang/Double" (some 6) with
  accessFlags := 49
  interfaces := #[7, 8, 9]
  cf := some (fileOf pool10 1 #[] #[{ accessFlags := 9, nameIndex := 124, descriptorIndex := 14, attributes := #[] }, { accessFlags := 9, nameIndex := 48, descriptorIndex := 49, attributes := #[] }, { accessFlags := 265, nameIndex := 136, descriptorIndex := 49, attributes := #[] }, { accessFlags := 9, nameIndex := 141, descriptorIndex := 142, attributes := #[] }] 49 114 #[175, 177, 179] #[{ accessFlags := 25, nameIndex := 181, descriptorIndex := 121, attributes := #[] }, { accessFlags := 25, nameIndex := 185, descriptorIndex := 121, attributes := #[] }, { accessFlags := 25, nameIndex := 188, descriptorIndex := 121, attributes := #[] }, { accessFlags := 25, nameIndex := 191, descriptorIndex := 121, attributes := #[] }, { accessFlags := 25, nameIndex := 192, descriptorIndex := 121, attributes := #[] }, { accessFlags := 25, nameIndex := 193, descriptorIndex := 121, attributes := #[] }, { accessFlags := 25, nameIndex := 196, descriptorIndex := 197, attributes := #[] }, { accessFlags := 25, nameIndex := 199, descriptorIndex := 197, attributes := #[] }, { accessFlags := 25, nameIndex := 201, descriptorIndex := 197, attributes := #[] }, { accessFlags := 25, nameIndex := 203, descriptorIndex := 197, attributes := #[] }, { accessFlags := 25, nameIndex := 205, descriptorIndex := 197, attributes := #[] }, { accessFlags := 25, nameIndex := 173, descriptorIndex := 174, attributes := #[] }, { accessFlags := 18, nameIndex := 120, descriptorIndex := 121, attributes := #[] }, { accessFlags := 26, nameIndex := 209, descriptorIndex := 210, attributes := #[] }])
  fields := #[{ name := "POSITIVE_INFINITY", type := .double, accessFlags := 25, slot := 0, constantValue := 0 }, { name := "NEGATIVE_INFINITY", type := .double, accessFlags := 25, slot := 1, constantValue := 0 }, { name := "NaN", type := .double, accessFlags := 25, slot := 2, constantValue := 0 }, { name := "MAX_VALUE", type := .double, accessFlags := 25, slot := 3, constantValue := 0 }, { name := "MIN_NORMAL", type := .double, accessFlags := 25, slot := 4, constantValue := 0 }, { name := "MIN_VALUE", type := .double, accessFlags := 25, slot := 5, constantValue := 0 }, { name := "SIZE", type := .int, accessFlags := 25, slot := 6, constantValue := 0 }, { name := "PRECISION", type := .int, accessFlags := 25, slot := 7, constantValue := 0 }, { name := "MAX_EXPONENT", type := .int, accessFlags := 25, slot := 8, constantValue := 0 }, { name := "MIN_EXPONENT", type := .int, accessFlags := 25, slot := 9, constantValue := 0 }, { name := "BYTES", type := .int, accessFlags := 25, slot := 10, constantValue := 0 }, { name := "TYPE", type := (.object "java/lang/Class"), accessFlags := 25, slot := 11, constantValue := 0 }, { name := "value", type := .double, accessFlags := 18, slot := 0, constantValue := 0 }, { name := "serialVersionUID", type := .long, accessFlags := 26, slot := 12, constantValue := 0 }]
  methods := #[k10m0, k10m1, k10m2, k10m3]
  instanceTypes := #[.double]
  staticTypes := #[.double, .double, .double, .double, .double, .double, .int, .int, .int, .int, .int, (.object "java/lang/Class"), .long]
  resolved := Array.replicate 290 none
  statics := none }

def pool11 : Array CpInfo := pool [(1, .class_ 2), (0, u "java/lang/Integer"), (16, u "digits"), (0, u "[C"), (46, u "<init>"), (17, u "DigitOnes"), (0, u "[B"), (2, u "DigitTens"), (10, .nameAndType 67 101), (0, u "()V"), (85, u "valueOf"), (0, u "(I)Ljava/lang/Integer;"), (0, .class_ 190), (0, u "java/lang/Integer$IntegerCache"), (0, .fieldref 189 192), (0, .nameAndType 193 194), (0, u "high"), (0, u "I"), (0, .fieldref 189 196), (0, .nameAndType 197 198), (0, u "cache"), (0, u "[Ljava/lang/Integer;"), (0, .methodref 1 200), (0, .nameAndType 67 201), (0, u "(I)V"), (0, .methodref 203 100), (0, .class_ 204), (0, u "java/lang/Number"), (0, .fieldref 1 206), (0, .nameAndType 207 194), (0, u "value"), (94, u "TYPE"), (0, u "Ljava/lang/Class;"), (0, .class_ 305), (0, u "java/lang/Comparable"), (0, .class_ 307), (0, u "java/lang/constant/Constable"), (0, .class_ 309), (0, u "java/lang/constant/ConstantDesc"), (0, u "MIN_VALUE"), (1, u "MAX_VALUE"), (3, u "SIZE"), (1, u "BYTES"), (1, u "serialVersionUID"), (0, u "J")] 131

def k11c0 : Code := { maxStack := 3, maxLocals := 1, code := jdk_33_method_22_code, exceptionTable := #[], attributes := #[] }
def k11m0 : Method := { name := "valueOf", desc := "(I)Ljava/lang/Integer;", sig := { parameters := [.int], returnType := some (.object "java/lang/Integer") }, accessFlags := 9, code := some k11c0 }
def k11c1 : Code := { maxStack := 2, maxLocals := 2, code := jdk_33_method_23_code, exceptionTable := #[], attributes := #[] }
def k11m1 : Method := { name := "<init>", desc := "(I)V", sig := { parameters := [.int], returnType := none }, accessFlags := 1, code := some k11c1 }
/-- java/lang/Integer -/
def k11 : Class := { plain "java/lang/Integer" (some 6) with
  accessFlags := 49
  interfaces := #[7, 8, 9]
  cf := some (fileOf pool11 1 #[.nestMembers #[189]] #[{ accessFlags := 9, nameIndex := 187, descriptorIndex := 188, attributes := #[] }, { accessFlags := 1, nameIndex := 67, descriptorIndex := 201, attributes := #[] }] 49 203 #[304, 306, 308] #[{ accessFlags := 25, nameIndex := 310, descriptorIndex := 194, attributes := #[] }, { accessFlags := 25, nameIndex := 312, descriptorIndex := 194, attributes := #[] }, { accessFlags := 25, nameIndex := 302, descriptorIndex := 303, attributes := #[] }, { accessFlags := 24, nameIndex := 19, descriptorIndex := 20, attributes := #[] }, { accessFlags := 24, nameIndex := 89, descriptorIndex := 86, attributes := #[] }, { accessFlags := 24, nameIndex := 85, descriptorIndex := 86, attributes := #[] }, { accessFlags := 18, nameIndex := 207, descriptorIndex := 194, attributes := #[] }, { accessFlags := 25, nameIndex := 316, descriptorIndex := 194, attributes := #[] }, { accessFlags := 25, nameIndex := 318, descriptorIndex := 194, attributes := #[] }, { accessFlags := 26, nameIndex := 320, descriptorIndex := 321, attributes := #[] }])
  fields := #[{ name := "MIN_VALUE", type := .int, accessFlags := 25, slot := 0, constantValue := 0 }, { name := "MAX_VALUE", type := .int, accessFlags := 25, slot := 1, constantValue := 0 }, { name := "TYPE", type := (.object "java/lang/Class"), accessFlags := 25, slot := 2, constantValue := 0 }, { name := "digits", type := (.array .char), accessFlags := 24, slot := 3, constantValue := 0 }, { name := "DigitTens", type := (.array .byte), accessFlags := 24, slot := 4, constantValue := 0 }, { name := "DigitOnes", type := (.array .byte), accessFlags := 24, slot := 5, constantValue := 0 }, { name := "value", type := .int, accessFlags := 18, slot := 0, constantValue := 0 }, { name := "SIZE", type := .int, accessFlags := 25, slot := 6, constantValue := 0 }, { name := "BYTES", type := .int, accessFlags := 25, slot := 7, constantValue := 0 }, { name := "serialVersionUID", type := .long, accessFlags := 26, slot := 8, constantValue := 0 }]
  methods := #[k11m0, k11m1]
  instanceTypes := #[.int]
  staticTypes := #[.int, .int, (.object "java/lang/Class"), (.array .char), (.array .byte), (.array .byte), .int, .int, .long]
  resolved := Array.replicate 453 none
  statics := none }

def pool12 : Array CpInfo := pool [(2, .class_ 4), (1, u "java/lang/Object"), (0, u "<init>"), (0, u "()V"), (0, .class_ 8), (0, u "java/lang/Integer"), (7, .class_ 18), (1, u "java/lang/Integer$IntegerCache"), (0, u "$assertionsDisabled"), (0, u "Z"), (26, u "high"), (0, u "I"), (8, u "archivedCache"), (0, u "[Ljava/lang/Integer;"), (12, u "cache"), (0, u "low")] 27

def k12m0 : Method := { name := "<init>", desc := "()V", sig := { parameters := [], returnType := none }, accessFlags := 2, code := none }
/-- java/lang/Integer$IntegerCache -/
def k12 : Class := { plain "java/lang/Integer$IntegerCache" (some 0) with
  accessFlags := 48
  interfaces := #[]
  cf := some (fileOf pool12 16 #[.nestHost 7] #[{ accessFlags := 2, nameIndex := 5, descriptorIndex := 6, attributes := #[] }] 48 2 #[] #[{ accessFlags := 24, nameIndex := 72, descriptorIndex := 48, attributes := #[] }, { accessFlags := 24, nameIndex := 47, descriptorIndex := 48, attributes := #[] }, { accessFlags := 24, nameIndex := 71, descriptorIndex := 58, attributes := #[] }, { accessFlags := 8, nameIndex := 57, descriptorIndex := 58, attributes := #[] }, { accessFlags := 4120, nameIndex := 19, descriptorIndex := 20, attributes := #[] }])
  fields := #[{ name := "low", type := .int, accessFlags := 24, slot := 0, constantValue := 0 }, { name := "high", type := .int, accessFlags := 24, slot := 1, constantValue := 0 }, { name := "cache", type := (.array (.object "java/lang/Integer")), accessFlags := 24, slot := 2, constantValue := 0 }, { name := "archivedCache", type := (.array (.object "java/lang/Integer")), accessFlags := 8, slot := 3, constantValue := 0 }, { name := "$assertionsDisabled", type := .boolean, accessFlags := 4120, slot := 4, constantValue := 0 }]
  methods := #[k12m0]
  instanceTypes := #[]
  staticTypes := #[.int, .int, (.array (.object "java/lang/Integer")), (.array (.object "java/lang/Integer")), .boolean]
  resolved := Array.replicate 100 none
  statics := some 0 }

def pool13 : Array CpInfo := pool [(1, u "java/lang/Cloneable"), (0, .class_ 1), (0, u "java/lang/Object"), (0, .class_ 3)] 3

/-- java/lang/Cloneable -/
def k13 : Class := { plain "java/lang/Cloneable" (some 0) with
  accessFlags := 1537
  interfaces := #[]
  cf := some (fileOf pool13 2 #[] #[] 1537 4 #[] #[])
  fields := #[]
  methods := #[]
  instanceTypes := #[]
  staticTypes := #[]
  resolved := Array.replicate 8 none
  statics := none }

/-- the primitive byte -/
def k14 : Class := { plain "byte" none with kind := .primitive 'B', accessFlags := 0x411 }
/-- [B -/
def k15 : Class := { plain "[B" (some 0) with kind := .array 14 .byte, interfaces := #[13, 5], accessFlags := 1041 }

/-- the primitive int -/
def k16 : Class := { plain "int" none with kind := .primitive 'I', accessFlags := 0x411 }
/-- [I -/
def k17 : Class := { plain "[I" (some 0) with kind := .array 16 .int, interfaces := #[13, 5], accessFlags := 1041 }

/-- [Ljava/lang/Integer; -/
def k18 : Class := { plain "[Ljava/lang/Integer;" (some 0) with kind := .array 11 (.object "java/lang/Integer"), interfaces := #[13, 5], accessFlags := 1041 }

def heap : Heap := #[{ cls := 12, slots := #[.int 0, .int 127, .ref 1, .null, .int 0], vm := .statics 12 },
  { cls := 18, slots := #[.ref 2, .ref 3, .ref 4, .ref 5, .ref 6, .ref 7, .ref 8, .ref 9, .ref 10, .ref 11, .ref 12, .ref 13, .ref 14, .ref 15, .ref 16, .ref 17, .ref 18, .ref 19, .ref 20, .ref 21, .ref 22, .ref 23, .ref 24, .ref 25, .ref 26, .ref 27, .ref 28, .ref 29, .ref 30, .ref 31, .ref 32, .ref 33, .ref 34, .ref 35, .ref 36, .ref 37, .ref 38, .ref 39, .ref 40, .ref 41, .ref 42, .ref 43, .ref 44, .ref 45, .ref 46, .ref 47, .ref 48, .ref 49, .ref 50, .ref 51, .ref 52, .ref 53, .ref 54, .ref 55, .ref 56, .ref 57, .ref 58, .ref 59, .ref 60, .ref 61, .ref 62, .ref 63, .ref 64, .ref 65, .ref 66, .ref 67, .ref 68, .ref 69, .ref 70, .ref 71, .ref 72, .ref 73, .ref 74, .ref 75, .ref 76, .ref 77, .ref 78, .ref 79, .ref 80, .ref 81, .ref 82, .ref 83, .ref 84, .ref 85, .ref 86, .ref 87, .ref 88, .ref 89, .ref 90, .ref 91, .ref 92, .ref 93, .ref 94, .ref 95, .ref 96, .ref 97, .ref 98, .ref 99, .ref 100, .ref 101, .ref 102, .ref 103, .ref 104, .ref 105, .ref 106, .ref 107, .ref 108, .ref 109, .ref 110, .ref 111, .ref 112, .ref 113, .ref 114, .ref 115, .ref 116, .ref 117, .ref 118, .ref 119, .ref 120, .ref 121, .ref 122, .ref 123, .ref 124, .ref 125, .ref 126, .ref 127, .ref 128, .ref 129, .ref 130, .ref 131, .ref 132, .ref 133, .ref 134, .ref 135, .ref 136, .ref 137, .ref 138, .ref 139, .ref 140, .ref 141, .ref 142, .ref 143, .ref 144, .ref 145, .ref 146, .ref 147, .ref 148, .ref 149, .ref 150, .ref 151, .ref 152, .ref 153, .ref 154, .ref 155, .ref 156, .ref 157, .ref 158, .ref 159, .ref 160, .ref 161, .ref 162, .ref 163, .ref 164, .ref 165, .ref 166, .ref 167, .ref 168, .ref 169, .ref 170, .ref 171, .ref 172, .ref 173, .ref 174, .ref 175, .ref 176, .ref 177, .ref 178, .ref 179, .ref 180, .ref 181, .ref 182, .ref 183, .ref 184, .ref 185, .ref 186, .ref 187, .ref 188, .ref 189, .ref 190, .ref 191, .ref 192, .ref 193, .ref 194, .ref 195, .ref 196, .ref 197, .ref 198, .ref 199, .ref 200, .ref 201, .ref 202, .ref 203, .ref 204, .ref 205, .ref 206, .ref 207, .ref 208, .ref 209, .ref 210, .ref 211, .ref 212, .ref 213, .ref 214, .ref 215, .ref 216, .ref 217, .ref 218, .ref 219, .ref 220, .ref 221, .ref 222, .ref 223, .ref 224, .ref 225, .ref 226, .ref 227, .ref 228, .ref 229, .ref 230, .ref 231, .ref 232, .ref 233, .ref 234, .ref 235, .ref 236, .ref 237, .ref 238, .ref 239, .ref 240, .ref 241, .ref 242, .ref 243, .ref 244, .ref 245, .ref 246, .ref 247, .ref 248, .ref 249, .ref 250, .ref 251, .ref 252, .ref 253, .ref 254, .ref 255, .ref 256, .ref 257], vm := .none },
  { cls := 11, slots := #[.int (-128)], vm := .none },
  { cls := 11, slots := #[.int (-127)], vm := .none },
  { cls := 11, slots := #[.int (-126)], vm := .none },
  { cls := 11, slots := #[.int (-125)], vm := .none },
  { cls := 11, slots := #[.int (-124)], vm := .none },
  { cls := 11, slots := #[.int (-123)], vm := .none },
  { cls := 11, slots := #[.int (-122)], vm := .none },
  { cls := 11, slots := #[.int (-121)], vm := .none },
  { cls := 11, slots := #[.int (-120)], vm := .none },
  { cls := 11, slots := #[.int (-119)], vm := .none },
  { cls := 11, slots := #[.int (-118)], vm := .none },
  { cls := 11, slots := #[.int (-117)], vm := .none },
  { cls := 11, slots := #[.int (-116)], vm := .none },
  { cls := 11, slots := #[.int (-115)], vm := .none },
  { cls := 11, slots := #[.int (-114)], vm := .none },
  { cls := 11, slots := #[.int (-113)], vm := .none },
  { cls := 11, slots := #[.int (-112)], vm := .none },
  { cls := 11, slots := #[.int (-111)], vm := .none },
  { cls := 11, slots := #[.int (-110)], vm := .none },
  { cls := 11, slots := #[.int (-109)], vm := .none },
  { cls := 11, slots := #[.int (-108)], vm := .none },
  { cls := 11, slots := #[.int (-107)], vm := .none },
  { cls := 11, slots := #[.int (-106)], vm := .none },
  { cls := 11, slots := #[.int (-105)], vm := .none },
  { cls := 11, slots := #[.int (-104)], vm := .none },
  { cls := 11, slots := #[.int (-103)], vm := .none },
  { cls := 11, slots := #[.int (-102)], vm := .none },
  { cls := 11, slots := #[.int (-101)], vm := .none },
  { cls := 11, slots := #[.int (-100)], vm := .none },
  { cls := 11, slots := #[.int (-99)], vm := .none },
  { cls := 11, slots := #[.int (-98)], vm := .none },
  { cls := 11, slots := #[.int (-97)], vm := .none },
  { cls := 11, slots := #[.int (-96)], vm := .none },
  { cls := 11, slots := #[.int (-95)], vm := .none },
  { cls := 11, slots := #[.int (-94)], vm := .none },
  { cls := 11, slots := #[.int (-93)], vm := .none },
  { cls := 11, slots := #[.int (-92)], vm := .none },
  { cls := 11, slots := #[.int (-91)], vm := .none },
  { cls := 11, slots := #[.int (-90)], vm := .none },
  { cls := 11, slots := #[.int (-89)], vm := .none },
  { cls := 11, slots := #[.int (-88)], vm := .none },
  { cls := 11, slots := #[.int (-87)], vm := .none },
  { cls := 11, slots := #[.int (-86)], vm := .none },
  { cls := 11, slots := #[.int (-85)], vm := .none },
  { cls := 11, slots := #[.int (-84)], vm := .none },
  { cls := 11, slots := #[.int (-83)], vm := .none },
  { cls := 11, slots := #[.int (-82)], vm := .none },
  { cls := 11, slots := #[.int (-81)], vm := .none },
  { cls := 11, slots := #[.int (-80)], vm := .none },
  { cls := 11, slots := #[.int (-79)], vm := .none },
  { cls := 11, slots := #[.int (-78)], vm := .none },
  { cls := 11, slots := #[.int (-77)], vm := .none },
  { cls := 11, slots := #[.int (-76)], vm := .none },
  { cls := 11, slots := #[.int (-75)], vm := .none },
  { cls := 11, slots := #[.int (-74)], vm := .none },
  { cls := 11, slots := #[.int (-73)], vm := .none },
  { cls := 11, slots := #[.int (-72)], vm := .none },
  { cls := 11, slots := #[.int (-71)], vm := .none },
  { cls := 11, slots := #[.int (-70)], vm := .none },
  { cls := 11, slots := #[.int (-69)], vm := .none },
  { cls := 11, slots := #[.int (-68)], vm := .none },
  { cls := 11, slots := #[.int (-67)], vm := .none },
  { cls := 11, slots := #[.int (-66)], vm := .none },
  { cls := 11, slots := #[.int (-65)], vm := .none },
  { cls := 11, slots := #[.int (-64)], vm := .none },
  { cls := 11, slots := #[.int (-63)], vm := .none },
  { cls := 11, slots := #[.int (-62)], vm := .none },
  { cls := 11, slots := #[.int (-61)], vm := .none },
  { cls := 11, slots := #[.int (-60)], vm := .none },
  { cls := 11, slots := #[.int (-59)], vm := .none },
  { cls := 11, slots := #[.int (-58)], vm := .none },
  { cls := 11, slots := #[.int (-57)], vm := .none },
  { cls := 11, slots := #[.int (-56)], vm := .none },
  { cls := 11, slots := #[.int (-55)], vm := .none },
  { cls := 11, slots := #[.int (-54)], vm := .none },
  { cls := 11, slots := #[.int (-53)], vm := .none },
  { cls := 11, slots := #[.int (-52)], vm := .none },
  { cls := 11, slots := #[.int (-51)], vm := .none },
  { cls := 11, slots := #[.int (-50)], vm := .none },
  { cls := 11, slots := #[.int (-49)], vm := .none },
  { cls := 11, slots := #[.int (-48)], vm := .none },
  { cls := 11, slots := #[.int (-47)], vm := .none },
  { cls := 11, slots := #[.int (-46)], vm := .none },
  { cls := 11, slots := #[.int (-45)], vm := .none },
  { cls := 11, slots := #[.int (-44)], vm := .none },
  { cls := 11, slots := #[.int (-43)], vm := .none },
  { cls := 11, slots := #[.int (-42)], vm := .none },
  { cls := 11, slots := #[.int (-41)], vm := .none },
  { cls := 11, slots := #[.int (-40)], vm := .none },
  { cls := 11, slots := #[.int (-39)], vm := .none },
  { cls := 11, slots := #[.int (-38)], vm := .none },
  { cls := 11, slots := #[.int (-37)], vm := .none },
  { cls := 11, slots := #[.int (-36)], vm := .none },
  { cls := 11, slots := #[.int (-35)], vm := .none },
  { cls := 11, slots := #[.int (-34)], vm := .none },
  { cls := 11, slots := #[.int (-33)], vm := .none },
  { cls := 11, slots := #[.int (-32)], vm := .none },
  { cls := 11, slots := #[.int (-31)], vm := .none },
  { cls := 11, slots := #[.int (-30)], vm := .none },
  { cls := 11, slots := #[.int (-29)], vm := .none },
  { cls := 11, slots := #[.int (-28)], vm := .none },
  { cls := 11, slots := #[.int (-27)], vm := .none },
  { cls := 11, slots := #[.int (-26)], vm := .none },
  { cls := 11, slots := #[.int (-25)], vm := .none },
  { cls := 11, slots := #[.int (-24)], vm := .none },
  { cls := 11, slots := #[.int (-23)], vm := .none },
  { cls := 11, slots := #[.int (-22)], vm := .none },
  { cls := 11, slots := #[.int (-21)], vm := .none },
  { cls := 11, slots := #[.int (-20)], vm := .none },
  { cls := 11, slots := #[.int (-19)], vm := .none },
  { cls := 11, slots := #[.int (-18)], vm := .none },
  { cls := 11, slots := #[.int (-17)], vm := .none },
  { cls := 11, slots := #[.int (-16)], vm := .none },
  { cls := 11, slots := #[.int (-15)], vm := .none },
  { cls := 11, slots := #[.int (-14)], vm := .none },
  { cls := 11, slots := #[.int (-13)], vm := .none },
  { cls := 11, slots := #[.int (-12)], vm := .none },
  { cls := 11, slots := #[.int (-11)], vm := .none },
  { cls := 11, slots := #[.int (-10)], vm := .none },
  { cls := 11, slots := #[.int (-9)], vm := .none },
  { cls := 11, slots := #[.int (-8)], vm := .none },
  { cls := 11, slots := #[.int (-7)], vm := .none },
  { cls := 11, slots := #[.int (-6)], vm := .none },
  { cls := 11, slots := #[.int (-5)], vm := .none },
  { cls := 11, slots := #[.int (-4)], vm := .none },
  { cls := 11, slots := #[.int (-3)], vm := .none },
  { cls := 11, slots := #[.int (-2)], vm := .none },
  { cls := 11, slots := #[.int (-1)], vm := .none },
  { cls := 11, slots := #[.int (0)], vm := .none },
  { cls := 11, slots := #[.int (1)], vm := .none },
  { cls := 11, slots := #[.int (2)], vm := .none },
  { cls := 11, slots := #[.int (3)], vm := .none },
  { cls := 11, slots := #[.int (4)], vm := .none },
  { cls := 11, slots := #[.int (5)], vm := .none },
  { cls := 11, slots := #[.int (6)], vm := .none },
  { cls := 11, slots := #[.int (7)], vm := .none },
  { cls := 11, slots := #[.int (8)], vm := .none },
  { cls := 11, slots := #[.int (9)], vm := .none },
  { cls := 11, slots := #[.int (10)], vm := .none },
  { cls := 11, slots := #[.int (11)], vm := .none },
  { cls := 11, slots := #[.int (12)], vm := .none },
  { cls := 11, slots := #[.int (13)], vm := .none },
  { cls := 11, slots := #[.int (14)], vm := .none },
  { cls := 11, slots := #[.int (15)], vm := .none },
  { cls := 11, slots := #[.int (16)], vm := .none },
  { cls := 11, slots := #[.int (17)], vm := .none },
  { cls := 11, slots := #[.int (18)], vm := .none },
  { cls := 11, slots := #[.int (19)], vm := .none },
  { cls := 11, slots := #[.int (20)], vm := .none },
  { cls := 11, slots := #[.int (21)], vm := .none },
  { cls := 11, slots := #[.int (22)], vm := .none },
  { cls := 11, slots := #[.int (23)], vm := .none },
  { cls := 11, slots := #[.int (24)], vm := .none },
  { cls := 11, slots := #[.int (25)], vm := .none },
  { cls := 11, slots := #[.int (26)], vm := .none },
  { cls := 11, slots := #[.int (27)], vm := .none },
  { cls := 11, slots := #[.int (28)], vm := .none },
  { cls := 11, slots := #[.int (29)], vm := .none },
  { cls := 11, slots := #[.int (30)], vm := .none },
  { cls := 11, slots := #[.int (31)], vm := .none },
  { cls := 11, slots := #[.int (32)], vm := .none },
  { cls := 11, slots := #[.int (33)], vm := .none },
  { cls := 11, slots := #[.int (34)], vm := .none },
  { cls := 11, slots := #[.int (35)], vm := .none },
  { cls := 11, slots := #[.int (36)], vm := .none },
  { cls := 11, slots := #[.int (37)], vm := .none },
  { cls := 11, slots := #[.int (38)], vm := .none },
  { cls := 11, slots := #[.int (39)], vm := .none },
  { cls := 11, slots := #[.int (40)], vm := .none },
  { cls := 11, slots := #[.int (41)], vm := .none },
  { cls := 11, slots := #[.int (42)], vm := .none },
  { cls := 11, slots := #[.int (43)], vm := .none },
  { cls := 11, slots := #[.int (44)], vm := .none },
  { cls := 11, slots := #[.int (45)], vm := .none },
  { cls := 11, slots := #[.int (46)], vm := .none },
  { cls := 11, slots := #[.int (47)], vm := .none },
  { cls := 11, slots := #[.int (48)], vm := .none },
  { cls := 11, slots := #[.int (49)], vm := .none },
  { cls := 11, slots := #[.int (50)], vm := .none },
  { cls := 11, slots := #[.int (51)], vm := .none },
  { cls := 11, slots := #[.int (52)], vm := .none },
  { cls := 11, slots := #[.int (53)], vm := .none },
  { cls := 11, slots := #[.int (54)], vm := .none },
  { cls := 11, slots := #[.int (55)], vm := .none },
  { cls := 11, slots := #[.int (56)], vm := .none },
  { cls := 11, slots := #[.int (57)], vm := .none },
  { cls := 11, slots := #[.int (58)], vm := .none },
  { cls := 11, slots := #[.int (59)], vm := .none },
  { cls := 11, slots := #[.int (60)], vm := .none },
  { cls := 11, slots := #[.int (61)], vm := .none },
  { cls := 11, slots := #[.int (62)], vm := .none },
  { cls := 11, slots := #[.int (63)], vm := .none },
  { cls := 11, slots := #[.int (64)], vm := .none },
  { cls := 11, slots := #[.int (65)], vm := .none },
  { cls := 11, slots := #[.int (66)], vm := .none },
  { cls := 11, slots := #[.int (67)], vm := .none },
  { cls := 11, slots := #[.int (68)], vm := .none },
  { cls := 11, slots := #[.int (69)], vm := .none },
  { cls := 11, slots := #[.int (70)], vm := .none },
  { cls := 11, slots := #[.int (71)], vm := .none },
  { cls := 11, slots := #[.int (72)], vm := .none },
  { cls := 11, slots := #[.int (73)], vm := .none },
  { cls := 11, slots := #[.int (74)], vm := .none },
  { cls := 11, slots := #[.int (75)], vm := .none },
  { cls := 11, slots := #[.int (76)], vm := .none },
  { cls := 11, slots := #[.int (77)], vm := .none },
  { cls := 11, slots := #[.int (78)], vm := .none },
  { cls := 11, slots := #[.int (79)], vm := .none },
  { cls := 11, slots := #[.int (80)], vm := .none },
  { cls := 11, slots := #[.int (81)], vm := .none },
  { cls := 11, slots := #[.int (82)], vm := .none },
  { cls := 11, slots := #[.int (83)], vm := .none },
  { cls := 11, slots := #[.int (84)], vm := .none },
  { cls := 11, slots := #[.int (85)], vm := .none },
  { cls := 11, slots := #[.int (86)], vm := .none },
  { cls := 11, slots := #[.int (87)], vm := .none },
  { cls := 11, slots := #[.int (88)], vm := .none },
  { cls := 11, slots := #[.int (89)], vm := .none },
  { cls := 11, slots := #[.int (90)], vm := .none },
  { cls := 11, slots := #[.int (91)], vm := .none },
  { cls := 11, slots := #[.int (92)], vm := .none },
  { cls := 11, slots := #[.int (93)], vm := .none },
  { cls := 11, slots := #[.int (94)], vm := .none },
  { cls := 11, slots := #[.int (95)], vm := .none },
  { cls := 11, slots := #[.int (96)], vm := .none },
  { cls := 11, slots := #[.int (97)], vm := .none },
  { cls := 11, slots := #[.int (98)], vm := .none },
  { cls := 11, slots := #[.int (99)], vm := .none },
  { cls := 11, slots := #[.int (100)], vm := .none },
  { cls := 11, slots := #[.int (101)], vm := .none },
  { cls := 11, slots := #[.int (102)], vm := .none },
  { cls := 11, slots := #[.int (103)], vm := .none },
  { cls := 11, slots := #[.int (104)], vm := .none },
  { cls := 11, slots := #[.int (105)], vm := .none },
  { cls := 11, slots := #[.int (106)], vm := .none },
  { cls := 11, slots := #[.int (107)], vm := .none },
  { cls := 11, slots := #[.int (108)], vm := .none },
  { cls := 11, slots := #[.int (109)], vm := .none },
  { cls := 11, slots := #[.int (110)], vm := .none },
  { cls := 11, slots := #[.int (111)], vm := .none },
  { cls := 11, slots := #[.int (112)], vm := .none },
  { cls := 11, slots := #[.int (113)], vm := .none },
  { cls := 11, slots := #[.int (114)], vm := .none },
  { cls := 11, slots := #[.int (115)], vm := .none },
  { cls := 11, slots := #[.int (116)], vm := .none },
  { cls := 11, slots := #[.int (117)], vm := .none },
  { cls := 11, slots := #[.int (118)], vm := .none },
  { cls := 11, slots := #[.int (119)], vm := .none },
  { cls := 11, slots := #[.int (120)], vm := .none },
  { cls := 11, slots := #[.int (121)], vm := .none },
  { cls := 11, slots := #[.int (122)], vm := .none },
  { cls := 11, slots := #[.int (123)], vm := .none },
  { cls := 11, slots := #[.int (124)], vm := .none },
  { cls := 11, slots := #[.int (125)], vm := .none },
  { cls := 11, slots := #[.int (126)], vm := .none },
  { cls := 11, slots := #[.int (127)], vm := .none }]
def classes : Array Class := #[k0, k1, k2, k3, k4, k5, k6, k7, k8, k9, k10, k11, k12, k13, k14, k15, k16, k17, k18]
def interned : List (Array UInt16 × Addr) := []
def slotsUsed : Nat := 517
def theMethod : MethodId := ⟨1, 4⟩
def args0 : Array Value := #[.int 1, .int 2, .int 3, .int 4]
def aboutOver (below : List Frame) : State where
  vm := { classes := classes, interned := interned.toArray }
  heap := heap
  slotsUsed := slotsUsed
  threads := #[{ frames := .invoking theMethod args0 :: below }]
def below0 : List Frame := [.native { method := ⟨0, 0⟩, args := #[] }]
def about1 : State := aboutOver below0
def p0 : Program := .bare "" "" ""
def e0 : Env := launch0.env 0 0 0
theorem w_frames : about1.frames = Frame.invoking theMethod args0 :: below0 := rfl
set_option maxRecDepth 65536 in
theorem w_args : argsFit about1.vm theMethod args0 = true := by decide +kernel
set_option maxRecDepth 65536 in
theorem w_heap : heapFits about1 = true := by decide +kernel
set_option maxRecDepth 65536 in
theorem w_runnable : about1.curStatus? = some .runnable := by decide +kernel
set_option maxRecDepth 65536 in
theorem w_alone : about1.alone = true := by decide +kernel
set_option maxRecDepth 65536 in
theorem w_named : about1.methodNamed? x = some theMethod := by decide +kernel
set_option maxRecDepth 65536 in
theorem w_hears : about1.hears theMethod below0 = true := by decide +kernel
set_option maxRecDepth 65536 in
theorem w_ripe : about1.ripe theMethod args0 below0 = true := by decide +kernel
theorem w_running : about1.status = .running := rfl
set_option maxRecDepth 65536 in
theorem w_room : about1.hasRoom e0.platform room_1 = true :=
  launch0.hasRoom_least _ room_1 (by decide +kernel) (by decide +kernel) (by decide +kernel) (by decide +kernel) (by decide +kernel) (by decide +kernel)
theorem allAtoms_all (ts : List Jvm.Cond) (a : Array Jvm.Value) (st : Jvm.State) : (allAtoms ts).before a st = ts.all (fun c => c.before a st) := by
  induction ts with
  | nil => rfl
  | cons c t ih =>
    show (Jvm.Cond.and c (allAtoms t)).before a st = _
    rw [Jvm.Cond.before_and, ih, List.all_cons]
def words1 : List Jvm.Cond := Jvm.Cond.code x code maxLocals ret :: tables_1
/-- a 'code' word, met by the world's own term for the bytes: nothing is compared byte by byte -/
theorem code_word {y : MethodName} {bytes : ByteArray} {mx : Nat} {rt : Option FieldType} {a : Array Value} {s : State} {m : MethodId} {meth : Method} {c : Code} (h1 : s.methodNamed? y = some m) (h2 : s.vm.method? m = some meth) (h3 : meth.code = some c) (h4 : c.code = bytes)
    (h5 : (c.maxLocals == mx && c.exceptionTable.isEmpty && decide (c.maxStack ≤ mostOperands) && decide (meth.sig.returnType = rt) && !meth.locks && decide (parseMethodDescriptor y.desc = some meth.sig)) = true) : (Jvm.Cond.code y bytes mx rt).before a s = true := by
  simp only [Bool.and_eq_true, beq_iff_eq, Bool.not_eq_true', decide_eq_true_eq] at h5
  obtain ⟨⟨⟨⟨⟨g1, g2⟩, g3⟩, g4⟩, g5⟩, g6⟩ := h5
  simp [Cond.before, Cond.holds, Cond.value, h1, h2, h3, h4, g1, g2, g3, g4, g5, g6]
def isCode : Jvm.Cond → Bool
  | .code _ _ _ _ => true
  | _ => false
theorem all_split {L : List Jvm.Cond} {P : Jvm.Cond → Bool} (h1 : L.all (fun c => isCode c || P c) = true) (h2 : ∀ c ∈ L.filter isCode, P c = true) : L.all P = true := by
  refine List.all_eq_true.mpr fun c hc => ?_
  have h := List.all_eq_true.mp h1 c hc
  rcases Bool.eq_false_or_eq_true (isCode c) with hi | hi
  · exact h2 c (List.mem_filter.mpr ⟨hc, hi⟩)
  · simpa [hi] using h
set_option maxRecDepth 65536 in
theorem w_c0 : (Jvm.Cond.code x code maxLocals ret).before args0 about1 = true := code_word (m := ⟨1, 4⟩) (meth := k1m4) (c := k1c4) (by decide +kernel) rfl rfl rfl (by decide +kernel)
set_option maxRecDepth 65536 in
theorem w_c1 : (Jvm.Cond.code ({ cls := "com/example/lean_scorer/leanscorer/Bm25EqualsPinLaw", name := "kCode", desc := "(I)I" } : Jvm.MethodName) method_2_code (2 : Nat) (Option.some Jvm.ClassFile.FieldType.int)).before args0 about1 = true := code_word (m := ⟨1, 1⟩) (meth := k1m1) (c := k1c1) (by decide +kernel) rfl rfl rfl (by decide +kernel)
set_option maxRecDepth 65536 in
theorem w_c2 : (Jvm.Cond.code ({ cls := "com/example/lean_scorer/leanscorer/Bm25EqualsPinLaw", name := "bCode", desc := "(I)I" } : Jvm.MethodName) method_3_code (2 : Nat) (Option.some Jvm.ClassFile.FieldType.int)).before args0 about1 = true := code_word (m := ⟨1, 2⟩) (meth := k1m2) (c := k1c2) (by decide +kernel) rfl rfl rfl (by decide +kernel)
set_option maxRecDepth 65536 in
theorem w_c3 : (Jvm.Cond.code ({ cls := "com/example/lean_scorer/leanscorer/Bm25EqualsPinLaw", name := "valueOf", desc := "(I)D" } : Jvm.MethodName) method_4_code (1 : Nat) (Option.some Jvm.ClassFile.FieldType.double)).before args0 about1 = true := code_word (m := ⟨1, 3⟩) (meth := k1m3) (c := k1c3) (by decide +kernel) rfl rfl rfl (by decide +kernel)
set_option maxRecDepth 65536 in
theorem w_c4 : (Jvm.Cond.code ({ cls := "com/example/lean_scorer/leanscorer/Bm25", name := "<init>", desc := "(DD)V" } : Jvm.MethodName) prog_1_method_1_code (7 : Nat) (Option.none : Option Jvm.ClassFile.FieldType)).before args0 about1 = true := code_word (m := ⟨3, 0⟩) (meth := k3m0) (c := k3c0) (by decide +kernel) rfl rfl rfl (by decide +kernel)
set_option maxRecDepth 65536 in
theorem w_c5 : (Jvm.Cond.code ({ cls := "com/example/lean_scorer/leanscorer/Scorer", name := "<init>", desc := "()V" } : Jvm.MethodName) prog_24_method_1_code (1 : Nat) (Option.none : Option Jvm.ClassFile.FieldType)).before args0 about1 = true := code_word (m := ⟨2, 0⟩) (meth := k2m0) (c := k2c0) (by decide +kernel) rfl rfl rfl (by decide +kernel)
set_option maxRecDepth 65536 in
theorem w_c6 : (Jvm.Cond.code ({ cls := "java/lang/Object", name := "<init>", desc := "()V" } : Jvm.MethodName) object_method_1_code (1 : Nat) (Option.none : Option Jvm.ClassFile.FieldType)).before args0 about1 = true := code_word (m := ⟨0, 0⟩) (meth := k0m0) (c := k0c0) (by decide +kernel) rfl rfl rfl (by decide +kernel)
set_option maxRecDepth 65536 in
theorem w_c7 : (Jvm.Cond.code ({ cls := "java/lang/Math", name := "max", desc := "(DD)D" } : Jvm.MethodName) jdk_29_method_68_code (4 : Nat) (Option.some Jvm.ClassFile.FieldType.double)).before args0 about1 = true := code_word (m := ⟨4, 1⟩) (meth := k4m1) (c := k4c1) (by decide +kernel) rfl rfl rfl (by decide +kernel)
set_option maxRecDepth 65536 in
theorem w_c8 : (Jvm.Cond.code ({ cls := "com/example/lean_scorer/leanscorer/Bm25", name := "equals", desc := "(Ljava/lang/Object;)Z" } : Jvm.MethodName) prog_1_method_16_code (2 : Nat) (Option.some Jvm.ClassFile.FieldType.boolean)).before args0 about1 = true := code_word (m := ⟨3, 1⟩) (meth := k3m1) (c := k3c1) (by decide +kernel) rfl rfl rfl (by decide +kernel)
set_option maxRecDepth 65536 in
theorem w_c9 : (Jvm.Cond.code ({ cls := "java/lang/Double", name := "compare", desc := "(DD)I" } : Jvm.MethodName) jdk_117_method_27_code (8 : Nat) (Option.some Jvm.ClassFile.FieldType.int)).before args0 about1 = true := code_word (m := ⟨10, 3⟩) (meth := k10m3) (c := k10c3) (by decide +kernel) rfl rfl rfl (by decide +kernel)
set_option maxRecDepth 65536 in
theorem w_c10 : (Jvm.Cond.code ({ cls := "java/lang/Double", name := "doubleToLongBits", desc := "(D)J" } : Jvm.MethodName) jdk_117_method_23_code (2 : Nat) (Option.some Jvm.ClassFile.FieldType.long)).before args0 about1 = true := code_word (m := ⟨10, 1⟩) (meth := k10m1) (c := k10c1) (by decide +kernel) rfl rfl rfl (by decide +kernel)
set_option maxRecDepth 65536 in
theorem w_c11 : (Jvm.Cond.code ({ cls := "java/lang/Double", name := "isNaN", desc := "(D)Z" } : Jvm.MethodName) jdk_117_method_6_code (2 : Nat) (Option.some Jvm.ClassFile.FieldType.boolean)).before args0 about1 = true := code_word (m := ⟨10, 0⟩) (meth := k10m0) (c := k10c0) (by decide +kernel) rfl rfl rfl (by decide +kernel)
set_option maxRecDepth 65536 in
theorem w_c12 : (Jvm.Cond.code ({ cls := "java/lang/Integer", name := "valueOf", desc := "(I)Ljava/lang/Integer;" } : Jvm.MethodName) jdk_33_method_22_code (1 : Nat) (Option.some (Jvm.ClassFile.FieldType.object "java/lang/Integer"))).before args0 about1 = true := code_word (m := ⟨11, 0⟩) (meth := k11m0) (c := k11c0) (by decide +kernel) rfl rfl rfl (by decide +kernel)
set_option maxRecDepth 65536 in
theorem w_c13 : (Jvm.Cond.code ({ cls := "java/lang/Integer", name := "<init>", desc := "(I)V" } : Jvm.MethodName) jdk_33_method_23_code (2 : Nat) (Option.none : Option Jvm.ClassFile.FieldType)).before args0 about1 = true := code_word (m := ⟨11, 1⟩) (meth := k11m1) (c := k11c1) (by decide +kernel) rfl rfl rfl (by decide +kernel)
set_option maxRecDepth 65536 in
theorem w_c14 : (Jvm.Cond.code ({ cls := "java/lang/Number", name := "<init>", desc := "()V" } : Jvm.MethodName) jdk_18_method_1_code (1 : Nat) (Option.none : Option Jvm.ClassFile.FieldType)).before args0 about1 = true := code_word (m := ⟨6, 0⟩) (meth := k6m0) (c := k6c0) (by decide +kernel) rfl rfl rfl (by decide +kernel)
def codes1 : List Jvm.Cond := [Jvm.Cond.code x code maxLocals ret, Jvm.Cond.code ({ cls := "com/example/lean_scorer/leanscorer/Bm25EqualsPinLaw", name := "kCode", desc := "(I)I" } : Jvm.MethodName) method_2_code (2 : Nat) (Option.some Jvm.ClassFile.FieldType.int), Jvm.Cond.code ({ cls := "com/example/lean_scorer/leanscorer/Bm25EqualsPinLaw", name := "bCode", desc := "(I)I" } : Jvm.MethodName) method_3_code (2 : Nat) (Option.some Jvm.ClassFile.FieldType.int), Jvm.Cond.code ({ cls := "com/example/lean_scorer/leanscorer/Bm25EqualsPinLaw", name := "valueOf", desc := "(I)D" } : Jvm.MethodName) method_4_code (1 : Nat) (Option.some Jvm.ClassFile.FieldType.double), Jvm.Cond.code ({ cls := "com/example/lean_scorer/leanscorer/Bm25", name := "<init>", desc := "(DD)V" } : Jvm.MethodName) prog_1_method_1_code (7 : Nat) (Option.none : Option Jvm.ClassFile.FieldType), Jvm.Cond.code ({ cls := "com/example/lean_scorer/leanscorer/Scorer", name := "<init>", desc := "()V" } : Jvm.MethodName) prog_24_method_1_code (1 : Nat) (Option.none : Option Jvm.ClassFile.FieldType), Jvm.Cond.code ({ cls := "java/lang/Object", name := "<init>", desc := "()V" } : Jvm.MethodName) object_method_1_code (1 : Nat) (Option.none : Option Jvm.ClassFile.FieldType), Jvm.Cond.code ({ cls := "java/lang/Math", name := "max", desc := "(DD)D" } : Jvm.MethodName) jdk_29_method_68_code (4 : Nat) (Option.some Jvm.ClassFile.FieldType.double), Jvm.Cond.code ({ cls := "com/example/lean_scorer/leanscorer/Bm25", name := "equals", desc := "(Ljava/lang/Object;)Z" } : Jvm.MethodName) prog_1_method_16_code (2 : Nat) (Option.some Jvm.ClassFile.FieldType.boolean), Jvm.Cond.code ({ cls := "java/lang/Double", name := "compare", desc := "(DD)I" } : Jvm.MethodName) jdk_117_method_27_code (8 : Nat) (Option.some Jvm.ClassFile.FieldType.int), Jvm.Cond.code ({ cls := "java/lang/Double", name := "doubleToLongBits", desc := "(D)J" } : Jvm.MethodName) jdk_117_method_23_code (2 : Nat) (Option.some Jvm.ClassFile.FieldType.long), Jvm.Cond.code ({ cls := "java/lang/Double", name := "isNaN", desc := "(D)Z" } : Jvm.MethodName) jdk_117_method_6_code (2 : Nat) (Option.some Jvm.ClassFile.FieldType.boolean), Jvm.Cond.code ({ cls := "java/lang/Integer", name := "valueOf", desc := "(I)Ljava/lang/Integer;" } : Jvm.MethodName) jdk_33_method_22_code (1 : Nat) (Option.some (Jvm.ClassFile.FieldType.object "java/lang/Integer")), Jvm.Cond.code ({ cls := "java/lang/Integer", name := "<init>", desc := "(I)V" } : Jvm.MethodName) jdk_33_method_23_code (2 : Nat) (Option.none : Option Jvm.ClassFile.FieldType), Jvm.Cond.code ({ cls := "java/lang/Number", name := "<init>", desc := "()V" } : Jvm.MethodName) jdk_18_method_1_code (1 : Nat) (Option.none : Option Jvm.ClassFile.FieldType)]
set_option maxRecDepth 65536 in
theorem codes_eq : words1.filter isCode = codes1 := rfl
theorem w_codes : ∀ c ∈ words1.filter isCode, c.before args0 about1 = true := by
  rw [codes_eq]
  intro c hc
  simp only [codes1, List.mem_cons, List.not_mem_nil, or_false] at hc
  rcases hc with rfl | rfl | rfl | rfl | rfl | rfl | rfl | rfl | rfl | rfl | rfl | rfl | rfl | rfl | rfl
  · exact w_c0
  · exact w_c1
  · exact w_c2
  · exact w_c3
  · exact w_c4
  · exact w_c5
  · exact w_c6
  · exact w_c7
  · exact w_c8
  · exact w_c9
  · exact w_c10
  · exact w_c11
  · exact w_c12
  · exact w_c13
  · exact w_c14
set_option maxRecDepth 65536 in
theorem w_t1 : (words1.take 24).all (fun c => isCode c || c.before args0 about1) = true := by decide +kernel
set_option maxRecDepth 65536 in
theorem w_t2 : ((words1.drop 24).take 24).all (fun c => isCode c || c.before args0 about1) = true := by decide +kernel
set_option maxRecDepth 65536 in
theorem w_t3 : (((words1.drop 24).drop 24).take 24).all (fun c => isCode c || c.before args0 about1) = true := by decide +kernel
set_option maxRecDepth 65536 in
theorem w_t4 : (((words1.drop 24).drop 24).drop 24).all (fun c => isCode c || c.before args0 about1) = true := by decide +kernel
theorem w_tables : (allAtoms (Jvm.Cond.code x code maxLocals ret :: tables_1)).before args0 about1 = true := by
  rw [allAtoms_all]
  show words1.all (fun c => c.before args0 about1) = true
  refine all_split ?_ w_codes
  rw [← List.take_append_drop 24 words1, List.all_append, w_t1, ← List.take_append_drop 24 (words1.drop 24), List.all_append, w_t2, ← List.take_append_drop 24 ((words1.drop 24).drop 24), List.all_append, w_t3, w_t4]
  rfl
set_option maxRecDepth 65536 in
theorem w_rest : rest_1_c.before args0 about1 = true := by decide +kernel
set_option maxRecDepth 65536 in
theorem w_case : (Jvm.Cond.and given_1 narrow_1).before args0 about1 = true := by decide +kernel
theorem w_applies : (headSpec (Jvm.Cond.code x code maxLocals ret :: tables_1) room_1).applies x e0.platform about1 = true :=
  (Spec.applies_iff w_frames).mpr ⟨w_running, w_runnable, w_alone, w_named, w_hears, w_ripe, w_room, w_tables⟩
theorem atStart : AtStart classFile x code maxLocals ret World_1 tables_1 room_1 Calls_1 rest_1 Pre_1 launch0 p0 e0 about1 theMethod args0 below0 :=
  ⟨lists_1, trivial, launch0.admits_env _ _ _, launch0.least_env, fairChoices_fair.cas, fairChoices_fair.clock, w_frames, w_args, w_heap, w_applies, trivial, w_rest, w_case⟩
end start1
theorem witness_1 : WitnessClaimed_1 := ⟨start1.p0, start1.e0, start1.about1, start1.theMethod, start1.args0, start1.below0, start1.atStart⟩
end Jvm.Pilot.@@N@@
