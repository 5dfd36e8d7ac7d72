import JvmDerived
import JvmDerived.Pilot.@@N@@Statement
import JvmDerived.Pilot.@@N@@Code
set_option linter.unusedVariables false
set_option linter.unusedSimpArgs false
namespace Jvm.Pilot.@@N@@
open Jvm Jvm.ClassFile Sem Op Lib Jvm.Free Jvm.Stand Jvm.LawKit Jvm.RoadKit Bundle Jvm.Pilot.@@N@@.Jvm.D
theorem own_w {a0 : Array Value} {Z : State} (hw : ∀ d ∈ tables_1, d.before a0 Z = true) (i : Nat) {d : Jvm.Cond} (h : tables_1[i]? = some d) : d.before a0 Z = true := hw d (List.mem_of_getElem? h)
section Own
variable {p : Program} {l : Launch} {e : Env} {R : Room} {s : State} {m : MethodId} {args : Array Value} {below : List Frame} {meth : Method} {c : Code} {T T' : State} {locs : List Loc} {cells slots : Nat} {g g' : JFrame} {K : Outcome → State → Prop} {Q : Option Value → Heap → List Loc → Prop} {kc ks : Nat}
/-- from this state, with this frame on top, the run comes to an end at which K holds -/
def own_E (p : Program) (e : Env) (below : List Frame) (K : Outcome → State → Prop) (T : State) (g : JFrame) : Prop :=
  ∃ s₂ o, Steps p.tables e below (T.setTop g) s₂ ∧ s₂.status = .running ∧ Ended s₂ below o ∧ K o s₂
def own_K (Q : Option Value → Heap → List Loc → Prop) (s : State) (kc ks : Nat) : Outcome → State → Prop :=
  fun o U' => ∃ v L, o = .returned v ∧ Q v U'.heap L ∧ FrameEnd s o U' L kc ks
theorem own_st (st : ∀ t, Steps p.tables e below (T'.setTop g') t → Steps p.tables e below (T.setTop g) t) (k : own_E p e below K T' g') : own_E p e below K T g := by
  obtain ⟨s2, o, h1, h2⟩ := k
  exact ⟨s2, o, st _ h1, h2⟩
theorem own_tr (st : Steps p.tables e below (T.setTop g) (T'.setTop g')) (k : own_E p e below K T' g') : own_E p e below K T g :=
  own_st (fun _ h => st.trans h) k
theorem own_pre (q : g = g') (k : own_E p e below K T g') : own_E p e below K T g := q ▸ k
theorem own_end (X : Stand p l e R s m args below meth c T locs cells slots) (hlk : meth.locks = false) {v : Option Value} (hv : meth.sig.returnType = none → v = none)
    (hr : ∀ fs : List Frame, (∀ (f : JFrame) (acts : List Action), f.method = m → f.locked = none → f.entered = [] → (doReturn e (T.setTop f) acts v).1 = T.setFrames fs) → Steps p.tables e below (T.setTop g) (T.setFrames fs))
    (hc : cells ≤ kc) (hs : slots ≤ ks) (hQ : Q v T.heap locs) : own_E p e below (own_K Q s kc ks) T g := by
  obtain ⟨fs, h1, hrun, hended, hW, hsame⟩ := X.leave (v := v) hv hlk
  exact ⟨_, _, hr fs h1, hrun, hended, _, _, rfl, hQ, ⟨_, rfl⟩, hW, hsame.mono hc hs⟩
theorem own_retV (X : Stand p l e R s m args below meth c T locs cells slots) (hx : p.tables.exec = Jvm.exec) (hlk : meth.locks = false) {pc : Nat} {Ls : Array Slot} (hret : meth.sig.returnType = none)
    (hd : decode c.code pc = .ok (.return_, 1)) (hc : cells ≤ kc) (hs : slots ≤ ks) (hQ : Q none T.heap locs) : own_E p e below (own_K Q s kc ks) T (mkF m pc Ls []) :=
  own_end X hlk (fun _ => rfl) (fun fs h => X.returnOut hx hret hd h) hc hs hQ
theorem own_retG (X : Stand p l e R s m args below meth c T locs cells slots) (hx : p.tables.exec = Jvm.exec) (hlk : meth.locks = false) {pc : Nat} {Ls : Array Slot} {w : Value} {t : FieldType} {i : Instr} {rest : List Value} (hret : meth.sig.returnType = some t) (hn : narrow t w = w)
    (hi : (i = .ireturn ∧ (t = .int ∨ t = .boolean ∨ t = .byte ∨ t = .char ∨ t = .short) ∧ ∃ z, w = .int z) ∨ (i = .lreturn ∧ t = .long ∧ ∃ z, w = .long z) ∨ (i = .dreturn ∧ t = .double ∧ ∃ z, w = .double z) ∨ (i = .freturn ∧ t = .float ∧ ∃ z, w = .float z) ∨ (i = .areturn ∧ t.isReference = true ∧ w.isRef = true))
    (hd : decode c.code pc = .ok (i, 1)) (hc : cells ≤ kc) (hs : slots ≤ ks) (hQ : Q (some w) T.heap locs) : own_E p e below (own_K Q s kc ks) T (mkF m pc Ls (w :: rest)) :=
  own_end X hlk (fun h => by rw [hret] at h; cases h) (fun fs h => retOut X hx hret hn hi hd h) hc hs hQ
theorem own_retI (X : Stand p l e R s m args below meth c T locs cells slots) (hx : p.tables.exec = Jvm.exec) (hlk : meth.locks = false) {pc : Nat} {Ls : Array Slot} {z : Int32} {rest : List Value} (hret : meth.sig.returnType = some .int)
    (hd : decode c.code pc = .ok (.ireturn, 1)) (hc : cells ≤ kc) (hs : slots ≤ ks) (hQ : Q (some (.int z)) T.heap locs) : own_E p e below (own_K Q s kc ks) T (mkF m pc Ls (.int z :: rest)) :=
  own_retG X hx hlk hret rfl (Or.inl ⟨rfl, Or.inl rfl, z, rfl⟩) hd hc hs hQ
theorem own_retS (X : Stand p l e R s m args below meth c T locs cells slots) (hx : p.tables.exec = Jvm.exec) (hlk : meth.locks = false) {pc : Nat} {Ls : Array Slot} {z : Int32} {t : FieldType} {rest : List Value} (hret : meth.sig.returnType = some t) (hn : narrow t (.int z) = .int z)
    (ht : t = .int ∨ t = .boolean ∨ t = .byte ∨ t = .char ∨ t = .short) (hd : decode c.code pc = .ok (.ireturn, 1)) (hc : cells ≤ kc) (hs : slots ≤ ks) (hQ : Q (some (.int z)) T.heap locs) : own_E p e below (own_K Q s kc ks) T (mkF m pc Ls (.int z :: rest)) :=
  own_retG X hx hlk hret hn (Or.inl ⟨rfl, ht, z, rfl⟩) hd hc hs hQ
theorem own_retN (X : Stand p l e R s m args below meth c T locs cells slots) (hx : p.tables.exec = Jvm.exec) (hlk : meth.locks = false) {pc : Nat} {Ls : Array Slot} {z : Int32} {t : FieldType} {rest : List Value} (hret : meth.sig.returnType = some t)
    (ht : t = .boolean ∨ t = .byte ∨ t = .char ∨ t = .short) (hd : decode c.code pc = .ok (.ireturn, 1)) (hc : cells ≤ kc) (hs : slots ≤ ks) (hQ : Q (some (.int (nar t z))) T.heap locs) : own_E p e below (own_K Q s kc ks) T (mkF m pc Ls (.int z :: rest)) :=
  own_end X hlk (fun h => by rw [hret] at h; cases h) (fun fs h => retN X hx hret ht hd h) hc hs hQ
theorem own_retJ (X : Stand p l e R s m args below meth c T locs cells slots) (hx : p.tables.exec = Jvm.exec) (hlk : meth.locks = false) {pc : Nat} {Ls : Array Slot} {z : Int64} {rest : List Value} (hret : meth.sig.returnType = some .long)
    (hd : decode c.code pc = .ok (.lreturn, 1)) (hc : cells ≤ kc) (hs : slots ≤ ks) (hQ : Q (some (.long z)) T.heap locs) : own_E p e below (own_K Q s kc ks) T (mkF m pc Ls (.long z :: rest)) :=
  own_retG X hx hlk hret rfl (Or.inr (Or.inl ⟨rfl, rfl, z, rfl⟩)) hd hc hs hQ
theorem own_retA (X : Stand p l e R s m args below meth c T locs cells slots) (hx : p.tables.exec = Jvm.exec) (hlk : meth.locks = false) {pc : Nat} {Ls : Array Slot} {w : Value} {t : FieldType} {rest : List Value} (hret : meth.sig.returnType = some t) (ht : t.isReference = true) (hw : w.isRef = true)
    (hd : decode c.code pc = .ok (.areturn, 1)) (hc : cells ≤ kc) (hs : slots ≤ ks) (hQ : Q (some w) T.heap locs) : own_E p e below (own_K Q s kc ks) T (mkF m pc Ls (w :: rest)) :=
  own_retG X hx hlk hret (by cases w <;> cases t <;> first | rfl | (simp [Value.isRef] at hw) | (simp [FieldType.isReference] at ht)) (Or.inr (Or.inr (Or.inr (Or.inr ⟨rfl, ht, hw⟩)))) hd hc hs hQ
end Own
theorem own_StaK {Z : State} {h h' : Heap} {C n d : String} {v : Value} (F : Sta Z h C n d v) (K : Keep h h' []) : Sta Z h' C n d v := Sta.ext ⟨K.1, fun a c q => K.2.1 a c q nin0⟩ F
section OwnArr
variable {p : Program} {l : Launch} {e : Env} {R : Room} {s : State} {m : MethodId} {args : Array Value} {below : List Frame} {meth : Method} {c : Code} {T : State} {locs : List Loc} {cells slots : Nat} {Z : State} {h : Heap} {a : Addr} {k : ClassId} {z : Int32} {vs : List Value} {dv : Value}
theorem own_alen (X : Stand p l e R s m args below meth c T locs cells slots) (hx : p.tables.exec = Jvm.exec) (hZ : Z.Warmed39 s.vm) (eT : T.heap = h) {ty : FieldType} (F : Arv Z h a k ty z vs dv) {g : JFrame} (hg : g.method = m) {rest : List Value} (hs : g.stack = .ref a :: rest) (hd : decode c.code g.pc = .ok (.arraylength, 1)) :
    ∀ target, Steps p.tables e below (T.setTop { g with pc := g.pc + 1, stack := .int z :: rest }) target → Steps p.tables e below (T.setTop g) target := by
  obtain ⟨cl, A, q, S, N, H, G⟩ := F
  intro target hr
  refine X.arraylength hx (by rw [eT]; exact A.1) (State.isArrayOf_alike hZ.alike A.2.1) hg hs hd _ ?_
  rw [len_of S N]; exact hr
theorem own_ald (X : Stand p l e R s m args below meth c T locs cells slots) (hx : p.tables.exec = Jvm.exec) (hZ : Z.Warmed39 s.vm) (eT : T.heap = h) (F : Arv Z h a k .int z vs dv) {j : Int32} (hj : ¬ j < 0 ∧ j < z) {v : Value} (hv : vs.getD j.toNatClampNeg dv = v) {g : JFrame} (hg : g.method = m) {rest : List Value} (hs : g.stack = .int j :: .ref a :: rest) (hd : decode c.code g.pc = .ok (.iaload, 1)) :
    ∀ target, Steps p.tables e below (T.setTop { g with pc := g.pc + 1, stack := v :: rest }) target → Steps p.tables e below (T.setTop g) target := by
  obtain ⟨cl, A, q, S, N, H, G⟩ := F
  have hin := inb_of S hj
  exact X.iaload hx (by rw [eT]; exact A.1) (State.isArrayOf_alike hZ.alike A.2.1) A.2.2 hin (H.at hin hv) hg hs hd
theorem own_ast (X : Stand p l e R s m args below meth c T locs cells slots) (hx : p.tables.exec = Jvm.exec) (hZ : Z.Warmed39 s.vm) (eT : T.heap = h) (F : Arv Z h a k .int z vs dv) {j : Int32} (hj : ¬ j < 0 ∧ j < z) {x : Int32} {i : Nat} (hi : j.toNatClampNeg = i) (hl : i < vs.length) {g : JFrame} (hg : g.method = m) {rest : List Value} (hs : g.stack = .int x :: .int j :: .ref a :: rest) (hd : decode c.code g.pc = .ok (.iastore, 1)) :
    ∃ T' h', Stand p l e R s m args below meth c T' (locs ++ [⟨a, j.toNatClampNeg⟩]) cells slots ∧ T'.heap = h' ∧ Wr h h' a j.toNatClampNeg (.int x) ∧ Arv Z h' a k .int z (vs.set i (.int x)) dv ∧ ∀ target, Steps p.tables e below (T'.setTop { g with pc := g.pc + 1, stack := rest }) target → Steps p.tables e below (T.setTop g) target := by
  obtain ⟨cl, A, q, S, N, H, G⟩ := F
  have hin := inb_of S hj
  obtain ⟨T', h', X', e', W, st⟩ := stI X hx hZ eT A hin hg hs hd
  exact ⟨T', h', X', e', W, Arv.set A q S N H G rfl W i hi hl, st⟩
theorem own_cst (X : Stand p l e R s m args below meth c T locs cells slots) (hx : p.tables.exec = Jvm.exec) (hZ : Z.Warmed39 s.vm) (eT : T.heap = h) (F : Arv Z h a k .char z vs dv) {j : Int32} (hj : ¬ j < 0 ∧ j < z) {x : Int32} {i : Nat} (hi : j.toNatClampNeg = i) (hl : i < vs.length) {g : JFrame} (hg : g.method = m) {rest : List Value} (hs : g.stack = .int x :: .int j :: .ref a :: rest) (hd : decode c.code g.pc = .ok (.castore, 1)) :
    ∃ T' h', Stand p l e R s m args below meth c T' (locs ++ [⟨a, j.toNatClampNeg⟩]) cells slots ∧ T'.heap = h' ∧ Wr h h' a j.toNatClampNeg (.int (nar .char x)) ∧ Arv Z h' a k .char z (vs.set i (.int (nar .char x))) dv ∧ ∀ target, Steps p.tables e below (T'.setTop { g with pc := g.pc + 1, stack := rest }) target → Steps p.tables e below (T.setTop g) target := by
  obtain ⟨cl, A, q, S, N, H, G⟩ := F
  have hin := inb_of S hj
  obtain ⟨T', h', X', e', W, st⟩ := stC X hx hZ eT A hin hg hs hd
  exact ⟨T', h', X', e', W, Arv.set A q S N H G (fits_nar_char _) W i hi hl, st⟩
end OwnArr
theorem own_d_prog_82_method_2_0 : decode prog_82_method_2_code 0 = .ok (.lconst 1, 1) := by decide +kernel
theorem own_d_prog_82_method_2_1 : decode prog_82_method_2_code 1 = .ok (.lstore_n 1, 1) := by decide +kernel
theorem own_d_prog_82_method_2_2 : decode prog_82_method_2_code 2 = .ok (.iload_n 0, 1) := by decide +kernel
theorem own_d_prog_82_method_2_3 : decode prog_82_method_2_code 3 = .ok (.istore_n 3, 1) := by decide +kernel
theorem own_d_prog_82_method_2_4 : decode prog_82_method_2_code 4 = .ok (.iload_n 3, 1) := by decide +kernel
theorem own_d_prog_82_method_2_5 : decode prog_82_method_2_code 5 = .ok (.bipush 6, 2) := by decide +kernel
theorem own_d_prog_82_method_2_7 : decode prog_82_method_2_code 7 = .ok (.if_icmp .ge 15, 3) := by decide +kernel
theorem own_d_prog_82_method_2_10 : decode prog_82_method_2_code 10 = .ok (.lload_n 1, 1) := by decide +kernel
theorem own_d_prog_82_method_2_11 : decode prog_82_method_2_code 11 = .ok (.ldc2_w 61, 3) := by decide +kernel
theorem own_d_prog_82_method_2_14 : decode prog_82_method_2_code 14 = .ok (.lmul, 1) := by decide +kernel
theorem own_d_prog_82_method_2_15 : decode prog_82_method_2_code 15 = .ok (.lstore_n 1, 1) := by decide +kernel
theorem own_d_prog_82_method_2_16 : decode prog_82_method_2_code 16 = .ok (.iinc 3 1, 3) := by decide +kernel
theorem own_d_prog_82_method_2_19 : decode prog_82_method_2_code 19 = .ok (.goto (-15), 3) := by decide +kernel
theorem own_d_prog_82_method_2_22 : decode prog_82_method_2_code 22 = .ok (.lload_n 1, 1) := by decide +kernel
theorem own_d_prog_82_method_2_23 : decode prog_82_method_2_code 23 = .ok (.lreturn, 1) := by decide +kernel
def own_res0_Q  (h0 : Heap) (v : Option Value) (h : Heap) (L : List Loc) : Prop := ((v = some (.long (1000000 : Int64)))) ∧ h = h0 ∧ L = []
abbrev own_y0 : MethodName := ⟨"com/example/tight_fence/tightfence/engine/TemporalType", "resolution", "(I)J"⟩
theorem own_pn_TemporalType : plainName "com/example/tight_fence/tightfence/engine/TemporalType" = true := by first | (simp [plainName, overriddenIn]; done) | decide +kernel
theorem own_res0_ef (m : MethodId)  : entryFrame m #[(.int (0 : Int32))] 4 = mkF m 0 #[.val (.int (0 : Int32)), .unset, .unset, .unset] [] := by first | (simp [entryFrame, mkF, argsToLocals, Value.category]; done) | rfl
set_option maxRecDepth 65536 in
set_option maxHeartbeats 40000000 in
theorem own_res0 (l : Launch) (Z : State) (a0 : Array Value) (hw : ∀ d ∈ tables_1, d.before a0 Z = true) (ws : List Jvm.Cond)  (h0 : Heap) (n0 : Nat) (Z0 : n0 ≤ h0.size)  :
    MetFree l own_y0 (head1 (Jvm.Cond.code own_y0 prog_82_method_2_code 4 (some .long) :: ws) ({ frames := 0, cells := 0, slots := 0, locals := 0 } : Room)) (fun a U => a = #[(.int (0 : Int32))] ∧ Z.Warmed39 U.vm ∧ U.heap = h0) (fun _ _ _ _ _ => True) (fun _ U o U' => ∃ v L, o = .returned v ∧ own_res0_Q  h0 v U'.heap L ∧ FrameEnd U o U' L ({ frames := 0, cells := 0, slots := 0, locals := 0 } : Room).cells ({ frames := 0, cells := 0, slots := 0, locals := 0 } : Room).slots) := by
  refine MetFree.of_bodySF (plainFor_of_name own_pn_TemporalType) hisR ?_
  intro p e s m args below meth c s₁ Bd hml0 hP hK
  obtain ⟨rfl, hZ, hh⟩ := hP
  have hx := Bd.exec
  have hby := Bd.bytes
  have hml : c.maxLocals = 4 := hml0
  have hown : s.vm.findClass "com/example/tight_fence/tightfence/engine/TemporalType" = some m.cls := findClass_of_methodNamed Bd.named
  have hnm := (name_of_methodNamed Bd.named Bd.method).1
  have X0 : Stand p l e ({ frames := 0, cells := 0, slots := 0, locals := 0 } : Room) s m #[(.int (0 : Int32))] below meth c s₁ [] 0 0 := Stand.of_body Bd
  have e0 : s₁.heap = h0 := by rw [← hh, Bd.state]; rfl
  show own_E p e below (own_K (own_res0_Q  h0) s ({ frames := 0, cells := 0, slots := 0, locals := 0 } : Room).cells ({ frames := 0, cells := 0, slots := 0, locals := 0 } : Room).slots) s₁ (entryFrame m #[(.int (0 : Int32))] 4)
  refine own_pre (own_res0_ef m ) ?_
  show own_E p e below _ s₁ (mkF m 0 #[iv 0, .unset, .unset, .unset] [])
  refine own_st (fun t k => XS.lconst X0.here hx rfl (hb hby own_d_prog_82_method_2_0) k) ?_
  show own_E p e below _ s₁ (mkF m 1 #[iv 0, .unset, .unset, .unset] [.long 1])
  refine own_st (fun t k => XS.lstoreN X0.here hx rfl (hb hby own_d_prog_82_method_2_1) rfl (l' := #[iv 0, .val (.long 1), .second, .unset]) rfl k) ?_
  show own_E p e below _ s₁ (mkF m 2 #[iv 0, .val (.long 1), .second, .unset] [])
  refine own_st (fun t k => XS.iloadN X0.here hx rfl (hb hby own_d_prog_82_method_2_2) rfl k) ?_
  show own_E p e below _ s₁ (mkF m 3 #[iv 0, .val (.long 1), .second, .unset] [.int 0])
  refine own_st (fun t k => XS.istoreN X0.here hx rfl (hb hby own_d_prog_82_method_2_3) rfl (l' := #[iv 0, .val (.long 1), .second, iv 0]) rfl k) ?_
  show own_E p e below _ s₁ (mkF m 4 #[iv 0, .val (.long 1), .second, iv 0] [])
  refine own_st (fun t k => XS.iloadN X0.here hx rfl (hb hby own_d_prog_82_method_2_4) rfl k) ?_
  show own_E p e below _ s₁ (mkF m 5 #[iv 0, .val (.long 1), .second, iv 0] [.int 0])
  refine own_st (fun t k => XS.bipush X0.here hx rfl (hb hby own_d_prog_82_method_2_5) k) ?_
  show own_E p e below _ s₁ (mkF m 7 #[iv 0, .val (.long 1), .second, iv 0] [.int 6, .int 0])
  refine own_st (fun t k => XS.icmpNo X0.here hx rfl (hb hby own_d_prog_82_method_2_7) rfl (by decide) k) ?_
  show own_E p e below _ s₁ (mkF m 10 #[iv 0, .val (.long 1), .second, iv 0] [])
  refine own_st (fun t k => XS.lloadN X0.here hx rfl (hb hby own_d_prog_82_method_2_10) rfl k) ?_
  show own_E p e below _ s₁ (mkF m 11 #[iv 0, .val (.long 1), .second, iv 0] [.long 1])
  refine own_st (X0.ldc2Long hx hown (mvT hZ (own_w hw 5 rfl)) (g := (mkF m 11 #[iv 0, .val (.long 1), .second, iv 0] [.long 1])) rfl (hb hby own_d_prog_82_method_2_11)) ?_
  show own_E p e below _ s₁ (mkF m 14 #[iv 0, .val (.long 1), .second, iv 0] [.long 10, .long 1])
  refine own_st (fun t k => XS.lmul X0.here hx rfl (hb hby own_d_prog_82_method_2_14) rfl k) ?_
  show own_E p e below _ s₁ (mkF m 15 #[iv 0, .val (.long 1), .second, iv 0] [.long 10])
  refine own_st (fun t k => XS.lstoreN X0.here hx rfl (hb hby own_d_prog_82_method_2_15) rfl (l' := #[iv 0, .val (.long 10), .second, iv 0]) rfl k) ?_
  show own_E p e below _ s₁ (mkF m 16 #[iv 0, .val (.long 10), .second, iv 0] [])
  refine own_st (fun t k => XS.iinc X0.here hx rfl (hb hby own_d_prog_82_method_2_16) rfl (l' := #[iv 0, .val (.long 10), .second, iv 1]) rfl k) ?_
  show own_E p e below _ s₁ (mkF m 19 #[iv 0, .val (.long 10), .second, iv 1] [])
  refine own_st (fun t k => XS.goto X0.here hx rfl (pc0 := 19) (pc' := 4) rfl (hb hby own_d_prog_82_method_2_19) (by decide) (by decide) k) ?_
  show own_E p e below _ s₁ (mkF m 4 #[iv 0, .val (.long 10), .second, iv 1] [])
  refine own_st (fun t k => XS.iloadN X0.here hx rfl (hb hby own_d_prog_82_method_2_4) rfl k) ?_
  show own_E p e below _ s₁ (mkF m 5 #[iv 0, .val (.long 10), .second, iv 1] [.int 1])
  refine own_st (fun t k => XS.bipush X0.here hx rfl (hb hby own_d_prog_82_method_2_5) k) ?_
  show own_E p e below _ s₁ (mkF m 7 #[iv 0, .val (.long 10), .second, iv 1] [.int 6, .int 1])
  refine own_st (fun t k => XS.icmpNo X0.here hx rfl (hb hby own_d_prog_82_method_2_7) rfl (by decide) k) ?_
  show own_E p e below _ s₁ (mkF m 10 #[iv 0, .val (.long 10), .second, iv 1] [])
  refine own_st (fun t k => XS.lloadN X0.here hx rfl (hb hby own_d_prog_82_method_2_10) rfl k) ?_
  show own_E p e below _ s₁ (mkF m 11 #[iv 0, .val (.long 10), .second, iv 1] [.long 10])
  refine own_st (X0.ldc2Long hx hown (mvT hZ (own_w hw 5 rfl)) (g := (mkF m 11 #[iv 0, .val (.long 10), .second, iv 1] [.long 10])) rfl (hb hby own_d_prog_82_method_2_11)) ?_
  show own_E p e below _ s₁ (mkF m 14 #[iv 0, .val (.long 10), .second, iv 1] [.long 10, .long 10])
  refine own_st (fun t k => XS.lmul X0.here hx rfl (hb hby own_d_prog_82_method_2_14) rfl k) ?_
  show own_E p e below _ s₁ (mkF m 15 #[iv 0, .val (.long 10), .second, iv 1] [.long 100])
  refine own_st (fun t k => XS.lstoreN X0.here hx rfl (hb hby own_d_prog_82_method_2_15) rfl (l' := #[iv 0, .val (.long 100), .second, iv 1]) rfl k) ?_
  show own_E p e below _ s₁ (mkF m 16 #[iv 0, .val (.long 100), .second, iv 1] [])
  refine own_st (fun t k => XS.iinc X0.here hx rfl (hb hby own_d_prog_82_method_2_16) rfl (l' := #[iv 0, .val (.long 100), .second, iv 2]) rfl k) ?_
  show own_E p e below _ s₁ (mkF m 19 #[iv 0, .val (.long 100), .second, iv 2] [])
  refine own_st (fun t k => XS.goto X0.here hx rfl (pc0 := 19) (pc' := 4) rfl (hb hby own_d_prog_82_method_2_19) (by decide) (by decide) k) ?_
  show own_E p e below _ s₁ (mkF m 4 #[iv 0, .val (.long 100), .second, iv 2] [])
  refine own_st (fun t k => XS.iloadN X0.here hx rfl (hb hby own_d_prog_82_method_2_4) rfl k) ?_
  show own_E p e below _ s₁ (mkF m 5 #[iv 0, .val (.long 100), .second, iv 2] [.int 2])
  refine own_st (fun t k => XS.bipush X0.here hx rfl (hb hby own_d_prog_82_method_2_5) k) ?_
  show own_E p e below _ s₁ (mkF m 7 #[iv 0, .val (.long 100), .second, iv 2] [.int 6, .int 2])
  refine own_st (fun t k => XS.icmpNo X0.here hx rfl (hb hby own_d_prog_82_method_2_7) rfl (by decide) k) ?_
  show own_E p e below _ s₁ (mkF m 10 #[iv 0, .val (.long 100), .second, iv 2] [])
  refine own_st (fun t k => XS.lloadN X0.here hx rfl (hb hby own_d_prog_82_method_2_10) rfl k) ?_
  show own_E p e below _ s₁ (mkF m 11 #[iv 0, .val (.long 100), .second, iv 2] [.long 100])
  refine own_st (X0.ldc2Long hx hown (mvT hZ (own_w hw 5 rfl)) (g := (mkF m 11 #[iv 0, .val (.long 100), .second, iv 2] [.long 100])) rfl (hb hby own_d_prog_82_method_2_11)) ?_
  show own_E p e below _ s₁ (mkF m 14 #[iv 0, .val (.long 100), .second, iv 2] [.long 10, .long 100])
  refine own_st (fun t k => XS.lmul X0.here hx rfl (hb hby own_d_prog_82_method_2_14) rfl k) ?_
  show own_E p e below _ s₁ (mkF m 15 #[iv 0, .val (.long 100), .second, iv 2] [.long 1000])
  refine own_st (fun t k => XS.lstoreN X0.here hx rfl (hb hby own_d_prog_82_method_2_15) rfl (l' := #[iv 0, .val (.long 1000), .second, iv 2]) rfl k) ?_
  show own_E p e below _ s₁ (mkF m 16 #[iv 0, .val (.long 1000), .second, iv 2] [])
  refine own_st (fun t k => XS.iinc X0.here hx rfl (hb hby own_d_prog_82_method_2_16) rfl (l' := #[iv 0, .val (.long 1000), .second, iv 3]) rfl k) ?_
  show own_E p e below _ s₁ (mkF m 19 #[iv 0, .val (.long 1000), .second, iv 3] [])
  refine own_st (fun t k => XS.goto X0.here hx rfl (pc0 := 19) (pc' := 4) rfl (hb hby own_d_prog_82_method_2_19) (by decide) (by decide) k) ?_
  show own_E p e below _ s₁ (mkF m 4 #[iv 0, .val (.long 1000), .second, iv 3] [])
  refine own_st (fun t k => XS.iloadN X0.here hx rfl (hb hby own_d_prog_82_method_2_4) rfl k) ?_
  show own_E p e below _ s₁ (mkF m 5 #[iv 0, .val (.long 1000), .second, iv 3] [.int 3])
  refine own_st (fun t k => XS.bipush X0.here hx rfl (hb hby own_d_prog_82_method_2_5) k) ?_
  show own_E p e below _ s₁ (mkF m 7 #[iv 0, .val (.long 1000), .second, iv 3] [.int 6, .int 3])
  refine own_st (fun t k => XS.icmpNo X0.here hx rfl (hb hby own_d_prog_82_method_2_7) rfl (by decide) k) ?_
  show own_E p e below _ s₁ (mkF m 10 #[iv 0, .val (.long 1000), .second, iv 3] [])
  refine own_st (fun t k => XS.lloadN X0.here hx rfl (hb hby own_d_prog_82_method_2_10) rfl k) ?_
  show own_E p e below _ s₁ (mkF m 11 #[iv 0, .val (.long 1000), .second, iv 3] [.long 1000])
  refine own_st (X0.ldc2Long hx hown (mvT hZ (own_w hw 5 rfl)) (g := (mkF m 11 #[iv 0, .val (.long 1000), .second, iv 3] [.long 1000])) rfl (hb hby own_d_prog_82_method_2_11)) ?_
  show own_E p e below _ s₁ (mkF m 14 #[iv 0, .val (.long 1000), .second, iv 3] [.long 10, .long 1000])
  refine own_st (fun t k => XS.lmul X0.here hx rfl (hb hby own_d_prog_82_method_2_14) rfl k) ?_
  show own_E p e below _ s₁ (mkF m 15 #[iv 0, .val (.long 1000), .second, iv 3] [.long 10000])
  refine own_st (fun t k => XS.lstoreN X0.here hx rfl (hb hby own_d_prog_82_method_2_15) rfl (l' := #[iv 0, .val (.long 10000), .second, iv 3]) rfl k) ?_
  show own_E p e below _ s₁ (mkF m 16 #[iv 0, .val (.long 10000), .second, iv 3] [])
  refine own_st (fun t k => XS.iinc X0.here hx rfl (hb hby own_d_prog_82_method_2_16) rfl (l' := #[iv 0, .val (.long 10000), .second, iv 4]) rfl k) ?_
  show own_E p e below _ s₁ (mkF m 19 #[iv 0, .val (.long 10000), .second, iv 4] [])
  refine own_st (fun t k => XS.goto X0.here hx rfl (pc0 := 19) (pc' := 4) rfl (hb hby own_d_prog_82_method_2_19) (by decide) (by decide) k) ?_
  show own_E p e below _ s₁ (mkF m 4 #[iv 0, .val (.long 10000), .second, iv 4] [])
  refine own_st (fun t k => XS.iloadN X0.here hx rfl (hb hby own_d_prog_82_method_2_4) rfl k) ?_
  show own_E p e below _ s₁ (mkF m 5 #[iv 0, .val (.long 10000), .second, iv 4] [.int 4])
  refine own_st (fun t k => XS.bipush X0.here hx rfl (hb hby own_d_prog_82_method_2_5) k) ?_
  show own_E p e below _ s₁ (mkF m 7 #[iv 0, .val (.long 10000), .second, iv 4] [.int 6, .int 4])
  refine own_st (fun t k => XS.icmpNo X0.here hx rfl (hb hby own_d_prog_82_method_2_7) rfl (by decide) k) ?_
  show own_E p e below _ s₁ (mkF m 10 #[iv 0, .val (.long 10000), .second, iv 4] [])
  refine own_st (fun t k => XS.lloadN X0.here hx rfl (hb hby own_d_prog_82_method_2_10) rfl k) ?_
  show own_E p e below _ s₁ (mkF m 11 #[iv 0, .val (.long 10000), .second, iv 4] [.long 10000])
  refine own_st (X0.ldc2Long hx hown (mvT hZ (own_w hw 5 rfl)) (g := (mkF m 11 #[iv 0, .val (.long 10000), .second, iv 4] [.long 10000])) rfl (hb hby own_d_prog_82_method_2_11)) ?_
  show own_E p e below _ s₁ (mkF m 14 #[iv 0, .val (.long 10000), .second, iv 4] [.long 10, .long 10000])
  refine own_st (fun t k => XS.lmul X0.here hx rfl (hb hby own_d_prog_82_method_2_14) rfl k) ?_
  show own_E p e below _ s₁ (mkF m 15 #[iv 0, .val (.long 10000), .second, iv 4] [.long 100000])
  refine own_st (fun t k => XS.lstoreN X0.here hx rfl (hb hby own_d_prog_82_method_2_15) rfl (l' := #[iv 0, .val (.long 100000), .second, iv 4]) rfl k) ?_
  show own_E p e below _ s₁ (mkF m 16 #[iv 0, .val (.long 100000), .second, iv 4] [])
  refine own_st (fun t k => XS.iinc X0.here hx rfl (hb hby own_d_prog_82_method_2_16) rfl (l' := #[iv 0, .val (.long 100000), .second, iv 5]) rfl k) ?_
  show own_E p e below _ s₁ (mkF m 19 #[iv 0, .val (.long 100000), .second, iv 5] [])
  refine own_st (fun t k => XS.goto X0.here hx rfl (pc0 := 19) (pc' := 4) rfl (hb hby own_d_prog_82_method_2_19) (by decide) (by decide) k) ?_
  show own_E p e below _ s₁ (mkF m 4 #[iv 0, .val (.long 100000), .second, iv 5] [])
  refine own_st (fun t k => XS.iloadN X0.here hx rfl (hb hby own_d_prog_82_method_2_4) rfl k) ?_
  show own_E p e below _ s₁ (mkF m 5 #[iv 0, .val (.long 100000), .second, iv 5] [.int 5])
  refine own_st (fun t k => XS.bipush X0.here hx rfl (hb hby own_d_prog_82_method_2_5) k) ?_
  show own_E p e below _ s₁ (mkF m 7 #[iv 0, .val (.long 100000), .second, iv 5] [.int 6, .int 5])
  refine own_st (fun t k => XS.icmpNo X0.here hx rfl (hb hby own_d_prog_82_method_2_7) rfl (by decide) k) ?_
  show own_E p e below _ s₁ (mkF m 10 #[iv 0, .val (.long 100000), .second, iv 5] [])
  refine own_st (fun t k => XS.lloadN X0.here hx rfl (hb hby own_d_prog_82_method_2_10) rfl k) ?_
  show own_E p e below _ s₁ (mkF m 11 #[iv 0, .val (.long 100000), .second, iv 5] [.long 100000])
  refine own_st (X0.ldc2Long hx hown (mvT hZ (own_w hw 5 rfl)) (g := (mkF m 11 #[iv 0, .val (.long 100000), .second, iv 5] [.long 100000])) rfl (hb hby own_d_prog_82_method_2_11)) ?_
  show own_E p e below _ s₁ (mkF m 14 #[iv 0, .val (.long 100000), .second, iv 5] [.long 10, .long 100000])
  refine own_st (fun t k => XS.lmul X0.here hx rfl (hb hby own_d_prog_82_method_2_14) rfl k) ?_
  show own_E p e below _ s₁ (mkF m 15 #[iv 0, .val (.long 100000), .second, iv 5] [.long 1000000])
  refine own_st (fun t k => XS.lstoreN X0.here hx rfl (hb hby own_d_prog_82_method_2_15) rfl (l' := #[iv 0, .val (.long 1000000), .second, iv 5]) rfl k) ?_
  show own_E p e below _ s₁ (mkF m 16 #[iv 0, .val (.long 1000000), .second, iv 5] [])
  refine own_st (fun t k => XS.iinc X0.here hx rfl (hb hby own_d_prog_82_method_2_16) rfl (l' := #[iv 0, .val (.long 1000000), .second, iv 6]) rfl k) ?_
  show own_E p e below _ s₁ (mkF m 19 #[iv 0, .val (.long 1000000), .second, iv 6] [])
  refine own_st (fun t k => XS.goto X0.here hx rfl (pc0 := 19) (pc' := 4) rfl (hb hby own_d_prog_82_method_2_19) (by decide) (by decide) k) ?_
  show own_E p e below _ s₁ (mkF m 4 #[iv 0, .val (.long 1000000), .second, iv 6] [])
  refine own_st (fun t k => XS.iloadN X0.here hx rfl (hb hby own_d_prog_82_method_2_4) rfl k) ?_
  show own_E p e below _ s₁ (mkF m 5 #[iv 0, .val (.long 1000000), .second, iv 6] [.int 6])
  refine own_st (fun t k => XS.bipush X0.here hx rfl (hb hby own_d_prog_82_method_2_5) k) ?_
  show own_E p e below _ s₁ (mkF m 7 #[iv 0, .val (.long 1000000), .second, iv 6] [.int 6, .int 6])
  refine own_st (fun t k => XS.icmpYes X0.here hx rfl (pc0 := 7) (pc' := 22) rfl (hb hby own_d_prog_82_method_2_7) rfl (by decide) (by decide) (by decide) k) ?_
  show own_E p e below _ s₁ (mkF m 22 #[iv 0, .val (.long 1000000), .second, iv 6] [])
  refine own_st (fun t k => XS.lloadN X0.here hx rfl (hb hby own_d_prog_82_method_2_22) rfl k) ?_
  show own_E p e below _ s₁ (mkF m 23 #[iv 0, .val (.long 1000000), .second, iv 6] [.long 1000000])
  refine own_retJ X0 hx Bd.notSynchronized Bd.returns (hb hby own_d_prog_82_method_2_23) (by decide) (by decide) ?_
  exact ⟨rfl, e0, rfl⟩
def own_res1_Q  (h0 : Heap) (v : Option Value) (h : Heap) (L : List Loc) : Prop := ((v = some (.long (100000 : Int64)))) ∧ h = h0 ∧ L = []
theorem own_res1_ef (m : MethodId)  : entryFrame m #[(.int (1 : Int32))] 4 = mkF m 0 #[.val (.int (1 : Int32)), .unset, .unset, .unset] [] := by first | (simp [entryFrame, mkF, argsToLocals, Value.category]; done) | rfl
set_option maxRecDepth 65536 in
set_option maxHeartbeats 40000000 in
theorem own_res1 (l : Launch) (Z : State) (a0 : Array Value) (hw : ∀ d ∈ tables_1, d.before a0 Z = true) (ws : List Jvm.Cond)  (h0 : Heap) (n0 : Nat) (Z0 : n0 ≤ h0.size)  :
    MetFree l own_y0 (head1 (Jvm.Cond.code own_y0 prog_82_method_2_code 4 (some .long) :: ws) ({ frames := 0, cells := 0, slots := 0, locals := 0 } : Room)) (fun a U => a = #[(.int (1 : Int32))] ∧ Z.Warmed39 U.vm ∧ U.heap = h0) (fun _ _ _ _ _ => True) (fun _ U o U' => ∃ v L, o = .returned v ∧ own_res1_Q  h0 v U'.heap L ∧ FrameEnd U o U' L ({ frames := 0, cells := 0, slots := 0, locals := 0 } : Room).cells ({ frames := 0, cells := 0, slots := 0, locals := 0 } : Room).slots) := by
  refine MetFree.of_bodySF (plainFor_of_name own_pn_TemporalType) hisR ?_
  intro p e s m args below meth c s₁ Bd hml0 hP hK
  obtain ⟨rfl, hZ, hh⟩ := hP
  have hx := Bd.exec
  have hby := Bd.bytes
  have hml : c.maxLocals = 4 := hml0
  have hown : s.vm.findClass "com/example/tight_fence/tightfence/engine/TemporalType" = some m.cls := findClass_of_methodNamed Bd.named
  have hnm := (name_of_methodNamed Bd.named Bd.method).1
  have X0 : Stand p l e ({ frames := 0, cells := 0, slots := 0, locals := 0 } : Room) s m #[(.int (1 : Int32))] below meth c s₁ [] 0 0 := Stand.of_body Bd
  have e0 : s₁.heap = h0 := by rw [← hh, Bd.state]; rfl
  show own_E p e below (own_K (own_res1_Q  h0) s ({ frames := 0, cells := 0, slots := 0, locals := 0 } : Room).cells ({ frames := 0, cells := 0, slots := 0, locals := 0 } : Room).slots) s₁ (entryFrame m #[(.int (1 : Int32))] 4)
  refine own_pre (own_res1_ef m ) ?_
  show own_E p e below _ s₁ (mkF m 0 #[iv 1, .unset, .unset, .unset] [])
  refine own_st (fun t k => XS.lconst X0.here hx rfl (hb hby own_d_prog_82_method_2_0) k) ?_
  show own_E p e below _ s₁ (mkF m 1 #[iv 1, .unset, .unset, .unset] [.long 1])
  refine own_st (fun t k => XS.lstoreN X0.here hx rfl (hb hby own_d_prog_82_method_2_1) rfl (l' := #[iv 1, .val (.long 1), .second, .unset]) rfl k) ?_
  show own_E p e below _ s₁ (mkF m 2 #[iv 1, .val (.long 1), .second, .unset] [])
  refine own_st (fun t k => XS.iloadN X0.here hx rfl (hb hby own_d_prog_82_method_2_2) rfl k) ?_
  show own_E p e below _ s₁ (mkF m 3 #[iv 1, .val (.long 1), .second, .unset] [.int 1])
  refine own_st (fun t k => XS.istoreN X0.here hx rfl (hb hby own_d_prog_82_method_2_3) rfl (l' := #[iv 1, .val (.long 1), .second, iv 1]) rfl k) ?_
  show own_E p e below _ s₁ (mkF m 4 #[iv 1, .val (.long 1), .second, iv 1] [])
  refine own_st (fun t k => XS.iloadN X0.here hx rfl (hb hby own_d_prog_82_method_2_4) rfl k) ?_
  show own_E p e below _ s₁ (mkF m 5 #[iv 1, .val (.long 1), .second, iv 1] [.int 1])
  refine own_st (fun t k => XS.bipush X0.here hx rfl (hb hby own_d_prog_82_method_2_5) k) ?_
  show own_E p e below _ s₁ (mkF m 7 #[iv 1, .val (.long 1), .second, iv 1] [.int 6, .int 1])
  refine own_st (fun t k => XS.icmpNo X0.here hx rfl (hb hby own_d_prog_82_method_2_7) rfl (by decide) k) ?_
  show own_E p e below _ s₁ (mkF m 10 #[iv 1, .val (.long 1), .second, iv 1] [])
  refine own_st (fun t k => XS.lloadN X0.here hx rfl (hb hby own_d_prog_82_method_2_10) rfl k) ?_
  show own_E p e below _ s₁ (mkF m 11 #[iv 1, .val (.long 1), .second, iv 1] [.long 1])
  refine own_st (X0.ldc2Long hx hown (mvT hZ (own_w hw 5 rfl)) (g := (mkF m 11 #[iv 1, .val (.long 1), .second, iv 1] [.long 1])) rfl (hb hby own_d_prog_82_method_2_11)) ?_
  show own_E p e below _ s₁ (mkF m 14 #[iv 1, .val (.long 1), .second, iv 1] [.long 10, .long 1])
  refine own_st (fun t k => XS.lmul X0.here hx rfl (hb hby own_d_prog_82_method_2_14) rfl k) ?_
  show own_E p e below _ s₁ (mkF m 15 #[iv 1, .val (.long 1), .second, iv 1] [.long 10])
  refine own_st (fun t k => XS.lstoreN X0.here hx rfl (hb hby own_d_prog_82_method_2_15) rfl (l' := #[iv 1, .val (.long 10), .second, iv 1]) rfl k) ?_
  show own_E p e below _ s₁ (mkF m 16 #[iv 1, .val (.long 10), .second, iv 1] [])
  refine own_st (fun t k => XS.iinc X0.here hx rfl (hb hby own_d_prog_82_method_2_16) rfl (l' := #[iv 1, .val (.long 10), .second, iv 2]) rfl k) ?_
  show own_E p e below _ s₁ (mkF m 19 #[iv 1, .val (.long 10), .second, iv 2] [])
  refine own_st (fun t k => XS.goto X0.here hx rfl (pc0 := 19) (pc' := 4) rfl (hb hby own_d_prog_82_method_2_19) (by decide) (by decide) k) ?_
  show own_E p e below _ s₁ (mkF m 4 #[iv 1, .val (.long 10), .second, iv 2] [])
  refine own_st (fun t k => XS.iloadN X0.here hx rfl (hb hby own_d_prog_82_method_2_4) rfl k) ?_
  show own_E p e below _ s₁ (mkF m 5 #[iv 1, .val (.long 10), .second, iv 2] [.int 2])
  refine own_st (fun t k => XS.bipush X0.here hx rfl (hb hby own_d_prog_82_method_2_5) k) ?_
  show own_E p e below _ s₁ (mkF m 7 #[iv 1, .val (.long 10), .second, iv 2] [.int 6, .int 2])
  refine own_st (fun t k => XS.icmpNo X0.here hx rfl (hb hby own_d_prog_82_method_2_7) rfl (by decide) k) ?_
  show own_E p e below _ s₁ (mkF m 10 #[iv 1, .val (.long 10), .second, iv 2] [])
  refine own_st (fun t k => XS.lloadN X0.here hx rfl (hb hby own_d_prog_82_method_2_10) rfl k) ?_
  show own_E p e below _ s₁ (mkF m 11 #[iv 1, .val (.long 10), .second, iv 2] [.long 10])
  refine own_st (X0.ldc2Long hx hown (mvT hZ (own_w hw 5 rfl)) (g := (mkF m 11 #[iv 1, .val (.long 10), .second, iv 2] [.long 10])) rfl (hb hby own_d_prog_82_method_2_11)) ?_
  show own_E p e below _ s₁ (mkF m 14 #[iv 1, .val (.long 10), .second, iv 2] [.long 10, .long 10])
  refine own_st (fun t k => XS.lmul X0.here hx rfl (hb hby own_d_prog_82_method_2_14) rfl k) ?_
  show own_E p e below _ s₁ (mkF m 15 #[iv 1, .val (.long 10), .second, iv 2] [.long 100])
  refine own_st (fun t k => XS.lstoreN X0.here hx rfl (hb hby own_d_prog_82_method_2_15) rfl (l' := #[iv 1, .val (.long 100), .second, iv 2]) rfl k) ?_
  show own_E p e below _ s₁ (mkF m 16 #[iv 1, .val (.long 100), .second, iv 2] [])
  refine own_st (fun t k => XS.iinc X0.here hx rfl (hb hby own_d_prog_82_method_2_16) rfl (l' := #[iv 1, .val (.long 100), .second, iv 3]) rfl k) ?_
  show own_E p e below _ s₁ (mkF m 19 #[iv 1, .val (.long 100), .second, iv 3] [])
  refine own_st (fun t k => XS.goto X0.here hx rfl (pc0 := 19) (pc' := 4) rfl (hb hby own_d_prog_82_method_2_19) (by decide) (by decide) k) ?_
  show own_E p e below _ s₁ (mkF m 4 #[iv 1, .val (.long 100), .second, iv 3] [])
  refine own_st (fun t k => XS.iloadN X0.here hx rfl (hb hby own_d_prog_82_method_2_4) rfl k) ?_
  show own_E p e below _ s₁ (mkF m 5 #[iv 1, .val (.long 100), .second, iv 3] [.int 3])
  refine own_st (fun t k => XS.bipush X0.here hx rfl (hb hby own_d_prog_82_method_2_5) k) ?_
  show own_E p e below _ s₁ (mkF m 7 #[iv 1, .val (.long 100), .second, iv 3] [.int 6, .int 3])
  refine own_st (fun t k => XS.icmpNo X0.here hx rfl (hb hby own_d_prog_82_method_2_7) rfl (by decide) k) ?_
  show own_E p e below _ s₁ (mkF m 10 #[iv 1, .val (.long 100), .second, iv 3] [])
  refine own_st (fun t k => XS.lloadN X0.here hx rfl (hb hby own_d_prog_82_method_2_10) rfl k) ?_
  show own_E p e below _ s₁ (mkF m 11 #[iv 1, .val (.long 100), .second, iv 3] [.long 100])
  refine own_st (X0.ldc2Long hx hown (mvT hZ (own_w hw 5 rfl)) (g := (mkF m 11 #[iv 1, .val (.long 100), .second, iv 3] [.long 100])) rfl (hb hby own_d_prog_82_method_2_11)) ?_
  show own_E p e below _ s₁ (mkF m 14 #[iv 1, .val (.long 100), .second, iv 3] [.long 10, .long 100])
  refine own_st (fun t k => XS.lmul X0.here hx rfl (hb hby own_d_prog_82_method_2_14) rfl k) ?_
  show own_E p e below _ s₁ (mkF m 15 #[iv 1, .val (.long 100), .second, iv 3] [.long 1000])
  refine own_st (fun t k => XS.lstoreN X0.here hx rfl (hb hby own_d_prog_82_method_2_15) rfl (l' := #[iv 1, .val (.long 1000), .second, iv 3]) rfl k) ?_
  show own_E p e below _ s₁ (mkF m 16 #[iv 1, .val (.long 1000), .second, iv 3] [])
  refine own_st (fun t k => XS.iinc X0.here hx rfl (hb hby own_d_prog_82_method_2_16) rfl (l' := #[iv 1, .val (.long 1000), .second, iv 4]) rfl k) ?_
  show own_E p e below _ s₁ (mkF m 19 #[iv 1, .val (.long 1000), .second, iv 4] [])
  refine own_st (fun t k => XS.goto X0.here hx rfl (pc0 := 19) (pc' := 4) rfl (hb hby own_d_prog_82_method_2_19) (by decide) (by decide) k) ?_
  show own_E p e below _ s₁ (mkF m 4 #[iv 1, .val (.long 1000), .second, iv 4] [])
  refine own_st (fun t k => XS.iloadN X0.here hx rfl (hb hby own_d_prog_82_method_2_4) rfl k) ?_
  show own_E p e below _ s₁ (mkF m 5 #[iv 1, .val (.long 1000), .second, iv 4] [.int 4])
  refine own_st (fun t k => XS.bipush X0.here hx rfl (hb hby own_d_prog_82_method_2_5) k) ?_
  show own_E p e below _ s₁ (mkF m 7 #[iv 1, .val (.long 1000), .second, iv 4] [.int 6, .int 4])
  refine own_st (fun t k => XS.icmpNo X0.here hx rfl (hb hby own_d_prog_82_method_2_7) rfl (by decide) k) ?_
  show own_E p e below _ s₁ (mkF m 10 #[iv 1, .val (.long 1000), .second, iv 4] [])
  refine own_st (fun t k => XS.lloadN X0.here hx rfl (hb hby own_d_prog_82_method_2_10) rfl k) ?_
  show own_E p e below _ s₁ (mkF m 11 #[iv 1, .val (.long 1000), .second, iv 4] [.long 1000])
  refine own_st (X0.ldc2Long hx hown (mvT hZ (own_w hw 5 rfl)) (g := (mkF m 11 #[iv 1, .val (.long 1000), .second, iv 4] [.long 1000])) rfl (hb hby own_d_prog_82_method_2_11)) ?_
  show own_E p e below _ s₁ (mkF m 14 #[iv 1, .val (.long 1000), .second, iv 4] [.long 10, .long 1000])
  refine own_st (fun t k => XS.lmul X0.here hx rfl (hb hby own_d_prog_82_method_2_14) rfl k) ?_
  show own_E p e below _ s₁ (mkF m 15 #[iv 1, .val (.long 1000), .second, iv 4] [.long 10000])
  refine own_st (fun t k => XS.lstoreN X0.here hx rfl (hb hby own_d_prog_82_method_2_15) rfl (l' := #[iv 1, .val (.long 10000), .second, iv 4]) rfl k) ?_
  show own_E p e below _ s₁ (mkF m 16 #[iv 1, .val (.long 10000), .second, iv 4] [])
  refine own_st (fun t k => XS.iinc X0.here hx rfl (hb hby own_d_prog_82_method_2_16) rfl (l' := #[iv 1, .val (.long 10000), .second, iv 5]) rfl k) ?_
  show own_E p e below _ s₁ (mkF m 19 #[iv 1, .val (.long 10000), .second, iv 5] [])
  refine own_st (fun t k => XS.goto X0.here hx rfl (pc0 := 19) (pc' := 4) rfl (hb hby own_d_prog_82_method_2_19) (by decide) (by decide) k) ?_
  show own_E p e below _ s₁ (mkF m 4 #[iv 1, .val (.long 10000), .second, iv 5] [])
  refine own_st (fun t k => XS.iloadN X0.here hx rfl (hb hby own_d_prog_82_method_2_4) rfl k) ?_
  show own_E p e below _ s₁ (mkF m 5 #[iv 1, .val (.long 10000), .second, iv 5] [.int 5])
  refine own_st (fun t k => XS.bipush X0.here hx rfl (hb hby own_d_prog_82_method_2_5) k) ?_
  show own_E p e below _ s₁ (mkF m 7 #[iv 1, .val (.long 10000), .second, iv 5] [.int 6, .int 5])
  refine own_st (fun t k => XS.icmpNo X0.here hx rfl (hb hby own_d_prog_82_method_2_7) rfl (by decide) k) ?_
  show own_E p e below _ s₁ (mkF m 10 #[iv 1, .val (.long 10000), .second, iv 5] [])
  refine own_st (fun t k => XS.lloadN X0.here hx rfl (hb hby own_d_prog_82_method_2_10) rfl k) ?_
  show own_E p e below _ s₁ (mkF m 11 #[iv 1, .val (.long 10000), .second, iv 5] [.long 10000])
  refine own_st (X0.ldc2Long hx hown (mvT hZ (own_w hw 5 rfl)) (g := (mkF m 11 #[iv 1, .val (.long 10000), .second, iv 5] [.long 10000])) rfl (hb hby own_d_prog_82_method_2_11)) ?_
  show own_E p e below _ s₁ (mkF m 14 #[iv 1, .val (.long 10000), .second, iv 5] [.long 10, .long 10000])
  refine own_st (fun t k => XS.lmul X0.here hx rfl (hb hby own_d_prog_82_method_2_14) rfl k) ?_
  show own_E p e below _ s₁ (mkF m 15 #[iv 1, .val (.long 10000), .second, iv 5] [.long 100000])
  refine own_st (fun t k => XS.lstoreN X0.here hx rfl (hb hby own_d_prog_82_method_2_15) rfl (l' := #[iv 1, .val (.long 100000), .second, iv 5]) rfl k) ?_
  show own_E p e below _ s₁ (mkF m 16 #[iv 1, .val (.long 100000), .second, iv 5] [])
  refine own_st (fun t k => XS.iinc X0.here hx rfl (hb hby own_d_prog_82_method_2_16) rfl (l' := #[iv 1, .val (.long 100000), .second, iv 6]) rfl k) ?_
  show own_E p e below _ s₁ (mkF m 19 #[iv 1, .val (.long 100000), .second, iv 6] [])
  refine own_st (fun t k => XS.goto X0.here hx rfl (pc0 := 19) (pc' := 4) rfl (hb hby own_d_prog_82_method_2_19) (by decide) (by decide) k) ?_
  show own_E p e below _ s₁ (mkF m 4 #[iv 1, .val (.long 100000), .second, iv 6] [])
  refine own_st (fun t k => XS.iloadN X0.here hx rfl (hb hby own_d_prog_82_method_2_4) rfl k) ?_
  show own_E p e below _ s₁ (mkF m 5 #[iv 1, .val (.long 100000), .second, iv 6] [.int 6])
  refine own_st (fun t k => XS.bipush X0.here hx rfl (hb hby own_d_prog_82_method_2_5) k) ?_
  show own_E p e below _ s₁ (mkF m 7 #[iv 1, .val (.long 100000), .second, iv 6] [.int 6, .int 6])
  refine own_st (fun t k => XS.icmpYes X0.here hx rfl (pc0 := 7) (pc' := 22) rfl (hb hby own_d_prog_82_method_2_7) rfl (by decide) (by decide) (by decide) k) ?_
  show own_E p e below _ s₁ (mkF m 22 #[iv 1, .val (.long 100000), .second, iv 6] [])
  refine own_st (fun t k => XS.lloadN X0.here hx rfl (hb hby own_d_prog_82_method_2_22) rfl k) ?_
  show own_E p e below _ s₁ (mkF m 23 #[iv 1, .val (.long 100000), .second, iv 6] [.long 100000])
  refine own_retJ X0 hx Bd.notSynchronized Bd.returns (hb hby own_d_prog_82_method_2_23) (by decide) (by decide) ?_
  exact ⟨rfl, e0, rfl⟩
def own_res2_Q  (h0 : Heap) (v : Option Value) (h : Heap) (L : List Loc) : Prop := ((v = some (.long (10000 : Int64)))) ∧ h = h0 ∧ L = []
theorem own_res2_ef (m : MethodId)  : entryFrame m #[(.int (2 : Int32))] 4 = mkF m 0 #[.val (.int (2 : Int32)), .unset, .unset, .unset] [] := by first | (simp [entryFrame, mkF, argsToLocals, Value.category]; done) | rfl
set_option maxRecDepth 65536 in
set_option maxHeartbeats 40000000 in
theorem own_res2 (l : Launch) (Z : State) (a0 : Array Value) (hw : ∀ d ∈ tables_1, d.before a0 Z = true) (ws : List Jvm.Cond)  (h0 : Heap) (n0 : Nat) (Z0 : n0 ≤ h0.size)  :
    MetFree l own_y0 (head1 (Jvm.Cond.code own_y0 prog_82_method_2_code 4 (some .long) :: ws) ({ frames := 0, cells := 0, slots := 0, locals := 0 } : Room)) (fun a U => a = #[(.int (2 : Int32))] ∧ Z.Warmed39 U.vm ∧ U.heap = h0) (fun _ _ _ _ _ => True) (fun _ U o U' => ∃ v L, o = .returned v ∧ own_res2_Q  h0 v U'.heap L ∧ FrameEnd U o U' L ({ frames := 0, cells := 0, slots := 0, locals := 0 } : Room).cells ({ frames := 0, cells := 0, slots := 0, locals := 0 } : Room).slots) := by
  refine MetFree.of_bodySF (plainFor_of_name own_pn_TemporalType) hisR ?_
  intro p e s m args below meth c s₁ Bd hml0 hP hK
  obtain ⟨rfl, hZ, hh⟩ := hP
  have hx := Bd.exec
  have hby := Bd.bytes
  have hml : c.maxLocals = 4 := hml0
  have hown : s.vm.findClass "com/example/tight_fence/tightfence/engine/TemporalType" = some m.cls := findClass_of_methodNamed Bd.named
  have hnm := (name_of_methodNamed Bd.named Bd.method).1
  have X0 : Stand p l e ({ frames := 0, cells := 0, slots := 0, locals := 0 } : Room) s m #[(.int (2 : Int32))] below meth c s₁ [] 0 0 := Stand.of_body Bd
  have e0 : s₁.heap = h0 := by rw [← hh, Bd.state]; rfl
  show own_E p e below (own_K (own_res2_Q  h0) s ({ frames := 0, cells := 0, slots := 0, locals := 0 } : Room).cells ({ frames := 0, cells := 0, slots := 0, locals := 0 } : Room).slots) s₁ (entryFrame m #[(.int (2 : Int32))] 4)
  refine own_pre (own_res2_ef m ) ?_
  show own_E p e below _ s₁ (mkF m 0 #[iv 2, .unset, .unset, .unset] [])
  refine own_st (fun t k => XS.lconst X0.here hx rfl (hb hby own_d_prog_82_method_2_0) k) ?_
  show own_E p e below _ s₁ (mkF m 1 #[iv 2, .unset, .unset, .unset] [.long 1])
  refine own_st (fun t k => XS.lstoreN X0.here hx rfl (hb hby own_d_prog_82_method_2_1) rfl (l' := #[iv 2, .val (.long 1), .second, .unset]) rfl k) ?_
  show own_E p e below _ s₁ (mkF m 2 #[iv 2, .val (.long 1), .second, .unset] [])
  refine own_st (fun t k => XS.iloadN X0.here hx rfl (hb hby own_d_prog_82_method_2_2) rfl k) ?_
  show own_E p e below _ s₁ (mkF m 3 #[iv 2, .val (.long 1), .second, .unset] [.int 2])
  refine own_st (fun t k => XS.istoreN X0.here hx rfl (hb hby own_d_prog_82_method_2_3) rfl (l' := #[iv 2, .val (.long 1), .second, iv 2]) rfl k) ?_
  show own_E p e below _ s₁ (mkF m 4 #[iv 2, .val (.long 1), .second, iv 2] [])
  refine own_st (fun t k => XS.iloadN X0.here hx rfl (hb hby own_d_prog_82_method_2_4) rfl k) ?_
  show own_E p e below _ s₁ (mkF m 5 #[iv 2, .val (.long 1), .second, iv 2] [.int 2])
  refine own_st (fun t k => XS.bipush X0.here hx rfl (hb hby own_d_prog_82_method_2_5) k) ?_
  show own_E p e below _ s₁ (mkF m 7 #[iv 2, .val (.long 1), .second, iv 2] [.int 6, .int 2])
  refine own_st (fun t k => XS.icmpNo X0.here hx rfl (hb hby own_d_prog_82_method_2_7) rfl (by decide) k) ?_
  show own_E p e below _ s₁ (mkF m 10 #[iv 2, .val (.long 1), .second, iv 2] [])
  refine own_st (fun t k => XS.lloadN X0.here hx rfl (hb hby own_d_prog_82_method_2_10) rfl k) ?_
  show own_E p e below _ s₁ (mkF m 11 #[iv 2, .val (.long 1), .second, iv 2] [.long 1])
  refine own_st (X0.ldc2Long hx hown (mvT hZ (own_w hw 5 rfl)) (g := (mkF m 11 #[iv 2, .val (.long 1), .second, iv 2] [.long 1])) rfl (hb hby own_d_prog_82_method_2_11)) ?_
  show own_E p e below _ s₁ (mkF m 14 #[iv 2, .val (.long 1), .second, iv 2] [.long 10, .long 1])
  refine own_st (fun t k => XS.lmul X0.here hx rfl (hb hby own_d_prog_82_method_2_14) rfl k) ?_
  show own_E p e below _ s₁ (mkF m 15 #[iv 2, .val (.long 1), .second, iv 2] [.long 10])
  refine own_st (fun t k => XS.lstoreN X0.here hx rfl (hb hby own_d_prog_82_method_2_15) rfl (l' := #[iv 2, .val (.long 10), .second, iv 2]) rfl k) ?_
  show own_E p e below _ s₁ (mkF m 16 #[iv 2, .val (.long 10), .second, iv 2] [])
  refine own_st (fun t k => XS.iinc X0.here hx rfl (hb hby own_d_prog_82_method_2_16) rfl (l' := #[iv 2, .val (.long 10), .second, iv 3]) rfl k) ?_
  show own_E p e below _ s₁ (mkF m 19 #[iv 2, .val (.long 10), .second, iv 3] [])
  refine own_st (fun t k => XS.goto X0.here hx rfl (pc0 := 19) (pc' := 4) rfl (hb hby own_d_prog_82_method_2_19) (by decide) (by decide) k) ?_
  show own_E p e below _ s₁ (mkF m 4 #[iv 2, .val (.long 10), .second, iv 3] [])
  refine own_st (fun t k => XS.iloadN X0.here hx rfl (hb hby own_d_prog_82_method_2_4) rfl k) ?_
  show own_E p e below _ s₁ (mkF m 5 #[iv 2, .val (.long 10), .second, iv 3] [.int 3])
  refine own_st (fun t k => XS.bipush X0.here hx rfl (hb hby own_d_prog_82_method_2_5) k) ?_
  show own_E p e below _ s₁ (mkF m 7 #[iv 2, .val (.long 10), .second, iv 3] [.int 6, .int 3])
  refine own_st (fun t k => XS.icmpNo X0.here hx rfl (hb hby own_d_prog_82_method_2_7) rfl (by decide) k) ?_
  show own_E p e below _ s₁ (mkF m 10 #[iv 2, .val (.long 10), .second, iv 3] [])
  refine own_st (fun t k => XS.lloadN X0.here hx rfl (hb hby own_d_prog_82_method_2_10) rfl k) ?_
  show own_E p e below _ s₁ (mkF m 11 #[iv 2, .val (.long 10), .second, iv 3] [.long 10])
  refine own_st (X0.ldc2Long hx hown (mvT hZ (own_w hw 5 rfl)) (g := (mkF m 11 #[iv 2, .val (.long 10), .second, iv 3] [.long 10])) rfl (hb hby own_d_prog_82_method_2_11)) ?_
  show own_E p e below _ s₁ (mkF m 14 #[iv 2, .val (.long 10), .second, iv 3] [.long 10, .long 10])
  refine own_st (fun t k => XS.lmul X0.here hx rfl (hb hby own_d_prog_82_method_2_14) rfl k) ?_
  show own_E p e below _ s₁ (mkF m 15 #[iv 2, .val (.long 10), .second, iv 3] [.long 100])
  refine own_st (fun t k => XS.lstoreN X0.here hx rfl (hb hby own_d_prog_82_method_2_15) rfl (l' := #[iv 2, .val (.long 100), .second, iv 3]) rfl k) ?_
  show own_E p e below _ s₁ (mkF m 16 #[iv 2, .val (.long 100), .second, iv 3] [])
  refine own_st (fun t k => XS.iinc X0.here hx rfl (hb hby own_d_prog_82_method_2_16) rfl (l' := #[iv 2, .val (.long 100), .second, iv 4]) rfl k) ?_
  show own_E p e below _ s₁ (mkF m 19 #[iv 2, .val (.long 100), .second, iv 4] [])
  refine own_st (fun t k => XS.goto X0.here hx rfl (pc0 := 19) (pc' := 4) rfl (hb hby own_d_prog_82_method_2_19) (by decide) (by decide) k) ?_
  show own_E p e below _ s₁ (mkF m 4 #[iv 2, .val (.long 100), .second, iv 4] [])
  refine own_st (fun t k => XS.iloadN X0.here hx rfl (hb hby own_d_prog_82_method_2_4) rfl k) ?_
  show own_E p e below _ s₁ (mkF m 5 #[iv 2, .val (.long 100), .second, iv 4] [.int 4])
  refine own_st (fun t k => XS.bipush X0.here hx rfl (hb hby own_d_prog_82_method_2_5) k) ?_
  show own_E p e below _ s₁ (mkF m 7 #[iv 2, .val (.long 100), .second, iv 4] [.int 6, .int 4])
  refine own_st (fun t k => XS.icmpNo X0.here hx rfl (hb hby own_d_prog_82_method_2_7) rfl (by decide) k) ?_
  show own_E p e below _ s₁ (mkF m 10 #[iv 2, .val (.long 100), .second, iv 4] [])
  refine own_st (fun t k => XS.lloadN X0.here hx rfl (hb hby own_d_prog_82_method_2_10) rfl k) ?_
  show own_E p e below _ s₁ (mkF m 11 #[iv 2, .val (.long 100), .second, iv 4] [.long 100])
  refine own_st (X0.ldc2Long hx hown (mvT hZ (own_w hw 5 rfl)) (g := (mkF m 11 #[iv 2, .val (.long 100), .second, iv 4] [.long 100])) rfl (hb hby own_d_prog_82_method_2_11)) ?_
  show own_E p e below _ s₁ (mkF m 14 #[iv 2, .val (.long 100), .second, iv 4] [.long 10, .long 100])
  refine own_st (fun t k => XS.lmul X0.here hx rfl (hb hby own_d_prog_82_method_2_14) rfl k) ?_
  show own_E p e below _ s₁ (mkF m 15 #[iv 2, .val (.long 100), .second, iv 4] [.long 1000])
  refine own_st (fun t k => XS.lstoreN X0.here hx rfl (hb hby own_d_prog_82_method_2_15) rfl (l' := #[iv 2, .val (.long 1000), .second, iv 4]) rfl k) ?_
  show own_E p e below _ s₁ (mkF m 16 #[iv 2, .val (.long 1000), .second, iv 4] [])
  refine own_st (fun t k => XS.iinc X0.here hx rfl (hb hby own_d_prog_82_method_2_16) rfl (l' := #[iv 2, .val (.long 1000), .second, iv 5]) rfl k) ?_
  show own_E p e below _ s₁ (mkF m 19 #[iv 2, .val (.long 1000), .second, iv 5] [])
  refine own_st (fun t k => XS.goto X0.here hx rfl (pc0 := 19) (pc' := 4) rfl (hb hby own_d_prog_82_method_2_19) (by decide) (by decide) k) ?_
  show own_E p e below _ s₁ (mkF m 4 #[iv 2, .val (.long 1000), .second, iv 5] [])
  refine own_st (fun t k => XS.iloadN X0.here hx rfl (hb hby own_d_prog_82_method_2_4) rfl k) ?_
  show own_E p e below _ s₁ (mkF m 5 #[iv 2, .val (.long 1000), .second, iv 5] [.int 5])
  refine own_st (fun t k => XS.bipush X0.here hx rfl (hb hby own_d_prog_82_method_2_5) k) ?_
  show own_E p e below _ s₁ (mkF m 7 #[iv 2, .val (.long 1000), .second, iv 5] [.int 6, .int 5])
  refine own_st (fun t k => XS.icmpNo X0.here hx rfl (hb hby own_d_prog_82_method_2_7) rfl (by decide) k) ?_
  show own_E p e below _ s₁ (mkF m 10 #[iv 2, .val (.long 1000), .second, iv 5] [])
  refine own_st (fun t k => XS.lloadN X0.here hx rfl (hb hby own_d_prog_82_method_2_10) rfl k) ?_
  show own_E p e below _ s₁ (mkF m 11 #[iv 2, .val (.long 1000), .second, iv 5] [.long 1000])
  refine own_st (X0.ldc2Long hx hown (mvT hZ (own_w hw 5 rfl)) (g := (mkF m 11 #[iv 2, .val (.long 1000), .second, iv 5] [.long 1000])) rfl (hb hby own_d_prog_82_method_2_11)) ?_
  show own_E p e below _ s₁ (mkF m 14 #[iv 2, .val (.long 1000), .second, iv 5] [.long 10, .long 1000])
  refine own_st (fun t k => XS.lmul X0.here hx rfl (hb hby own_d_prog_82_method_2_14) rfl k) ?_
  show own_E p e below _ s₁ (mkF m 15 #[iv 2, .val (.long 1000), .second, iv 5] [.long 10000])
  refine own_st (fun t k => XS.lstoreN X0.here hx rfl (hb hby own_d_prog_82_method_2_15) rfl (l' := #[iv 2, .val (.long 10000), .second, iv 5]) rfl k) ?_
  show own_E p e below _ s₁ (mkF m 16 #[iv 2, .val (.long 10000), .second, iv 5] [])
  refine own_st (fun t k => XS.iinc X0.here hx rfl (hb hby own_d_prog_82_method_2_16) rfl (l' := #[iv 2, .val (.long 10000), .second, iv 6]) rfl k) ?_
  show own_E p e below _ s₁ (mkF m 19 #[iv 2, .val (.long 10000), .second, iv 6] [])
  refine own_st (fun t k => XS.goto X0.here hx rfl (pc0 := 19) (pc' := 4) rfl (hb hby own_d_prog_82_method_2_19) (by decide) (by decide) k) ?_
  show own_E p e below _ s₁ (mkF m 4 #[iv 2, .val (.long 10000), .second, iv 6] [])
  refine own_st (fun t k => XS.iloadN X0.here hx rfl (hb hby own_d_prog_82_method_2_4) rfl k) ?_
  show own_E p e below _ s₁ (mkF m 5 #[iv 2, .val (.long 10000), .second, iv 6] [.int 6])
  refine own_st (fun t k => XS.bipush X0.here hx rfl (hb hby own_d_prog_82_method_2_5) k) ?_
  show own_E p e below _ s₁ (mkF m 7 #[iv 2, .val (.long 10000), .second, iv 6] [.int 6, .int 6])
  refine own_st (fun t k => XS.icmpYes X0.here hx rfl (pc0 := 7) (pc' := 22) rfl (hb hby own_d_prog_82_method_2_7) rfl (by decide) (by decide) (by decide) k) ?_
  show own_E p e below _ s₁ (mkF m 22 #[iv 2, .val (.long 10000), .second, iv 6] [])
  refine own_st (fun t k => XS.lloadN X0.here hx rfl (hb hby own_d_prog_82_method_2_22) rfl k) ?_
  show own_E p e below _ s₁ (mkF m 23 #[iv 2, .val (.long 10000), .second, iv 6] [.long 10000])
  refine own_retJ X0 hx Bd.notSynchronized Bd.returns (hb hby own_d_prog_82_method_2_23) (by decide) (by decide) ?_
  exact ⟨rfl, e0, rfl⟩
def own_res3_Q  (h0 : Heap) (v : Option Value) (h : Heap) (L : List Loc) : Prop := ((v = some (.long (1000 : Int64)))) ∧ h = h0 ∧ L = []
theorem own_res3_ef (m : MethodId)  : entryFrame m #[(.int (3 : Int32))] 4 = mkF m 0 #[.val (.int (3 : Int32)), .unset, .unset, .unset] [] := by first | (simp [entryFrame, mkF, argsToLocals, Value.category]; done) | rfl
set_option maxRecDepth 65536 in
set_option maxHeartbeats 40000000 in
theorem own_res3 (l : Launch) (Z : State) (a0 : Array Value) (hw : ∀ d ∈ tables_1, d.before a0 Z = true) (ws : List Jvm.Cond)  (h0 : Heap) (n0 : Nat) (Z0 : n0 ≤ h0.size)  :
    MetFree l own_y0 (head1 (Jvm.Cond.code own_y0 prog_82_method_2_code 4 (some .long) :: ws) ({ frames := 0, cells := 0, slots := 0, locals := 0 } : Room)) (fun a U => a = #[(.int (3 : Int32))] ∧ Z.Warmed39 U.vm ∧ U.heap = h0) (fun _ _ _ _ _ => True) (fun _ U o U' => ∃ v L, o = .returned v ∧ own_res3_Q  h0 v U'.heap L ∧ FrameEnd U o U' L ({ frames := 0, cells := 0, slots := 0, locals := 0 } : Room).cells ({ frames := 0, cells := 0, slots := 0, locals := 0 } : Room).slots) := by
  refine MetFree.of_bodySF (plainFor_of_name own_pn_TemporalType) hisR ?_
  intro p e s m args below meth c s₁ Bd hml0 hP hK
  obtain ⟨rfl, hZ, hh⟩ := hP
  have hx := Bd.exec
  have hby := Bd.bytes
  have hml : c.maxLocals = 4 := hml0
  have hown : s.vm.findClass "com/example/tight_fence/tightfence/engine/TemporalType" = some m.cls := findClass_of_methodNamed Bd.named
  have hnm := (name_of_methodNamed Bd.named Bd.method).1
  have X0 : Stand p l e ({ frames := 0, cells := 0, slots := 0, locals := 0 } : Room) s m #[(.int (3 : Int32))] below meth c s₁ [] 0 0 := Stand.of_body Bd
  have e0 : s₁.heap = h0 := by rw [← hh, Bd.state]; rfl
  show own_E p e below (own_K (own_res3_Q  h0) s ({ frames := 0, cells := 0, slots := 0, locals := 0 } : Room).cells ({ frames := 0, cells := 0, slots := 0, locals := 0 } : Room).slots) s₁ (entryFrame m #[(.int (3 : Int32))] 4)
  refine own_pre (own_res3_ef m ) ?_
  show own_E p e below _ s₁ (mkF m 0 #[iv 3, .unset, .unset, .unset] [])
  refine own_st (fun t k => XS.lconst X0.here hx rfl (hb hby own_d_prog_82_method_2_0) k) ?_
  show own_E p e below _ s₁ (mkF m 1 #[iv 3, .unset, .unset, .unset] [.long 1])
  refine own_st (fun t k => XS.lstoreN X0.here hx rfl (hb hby own_d_prog_82_method_2_1) rfl (l' := #[iv 3, .val (.long 1), .second, .unset]) rfl k) ?_
  show own_E p e below _ s₁ (mkF m 2 #[iv 3, .val (.long 1), .second, .unset] [])
  refine own_st (fun t k => XS.iloadN X0.here hx rfl (hb hby own_d_prog_82_method_2_2) rfl k) ?_
  show own_E p e below _ s₁ (mkF m 3 #[iv 3, .val (.long 1), .second, .unset] [.int 3])
  refine own_st (fun t k => XS.istoreN X0.here hx rfl (hb hby own_d_prog_82_method_2_3) rfl (l' := #[iv 3, .val (.long 1), .second, iv 3]) rfl k) ?_
  show own_E p e below _ s₁ (mkF m 4 #[iv 3, .val (.long 1), .second, iv 3] [])
  refine own_st (fun t k => XS.iloadN X0.here hx rfl (hb hby own_d_prog_82_method_2_4) rfl k) ?_
  show own_E p e below _ s₁ (mkF m 5 #[iv 3, .val (.long 1), .second, iv 3] [.int 3])
  refine own_st (fun t k => XS.bipush X0.here hx rfl (hb hby own_d_prog_82_method_2_5) k) ?_
  show own_E p e below _ s₁ (mkF m 7 #[iv 3, .val (.long 1), .second, iv 3] [.int 6, .int 3])
  refine own_st (fun t k => XS.icmpNo X0.here hx rfl (hb hby own_d_prog_82_method_2_7) rfl (by decide) k) ?_
  show own_E p e below _ s₁ (mkF m 10 #[iv 3, .val (.long 1), .second, iv 3] [])
  refine own_st (fun t k => XS.lloadN X0.here hx rfl (hb hby own_d_prog_82_method_2_10) rfl k) ?_
  show own_E p e below _ s₁ (mkF m 11 #[iv 3, .val (.long 1), .second, iv 3] [.long 1])
  refine own_st (X0.ldc2Long hx hown (mvT hZ (own_w hw 5 rfl)) (g := (mkF m 11 #[iv 3, .val (.long 1), .second, iv 3] [.long 1])) rfl (hb hby own_d_prog_82_method_2_11)) ?_
  show own_E p e below _ s₁ (mkF m 14 #[iv 3, .val (.long 1), .second, iv 3] [.long 10, .long 1])
  refine own_st (fun t k => XS.lmul X0.here hx rfl (hb hby own_d_prog_82_method_2_14) rfl k) ?_
  show own_E p e below _ s₁ (mkF m 15 #[iv 3, .val (.long 1), .second, iv 3] [.long 10])
  refine own_st (fun t k => XS.lstoreN X0.here hx rfl (hb hby own_d_prog_82_method_2_15) rfl (l' := #[iv 3, .val (.long 10), .second, iv 3]) rfl k) ?_
  show own_E p e below _ s₁ (mkF m 16 #[iv 3, .val (.long 10), .second, iv 3] [])
  refine own_st (fun t k => XS.iinc X0.here hx rfl (hb hby own_d_prog_82_method_2_16) rfl (l' := #[iv 3, .val (.long 10), .second, iv 4]) rfl k) ?_
  show own_E p e below _ s₁ (mkF m 19 #[iv 3, .val (.long 10), .second, iv 4] [])
  refine own_st (fun t k => XS.goto X0.here hx rfl (pc0 := 19) (pc' := 4) rfl (hb hby own_d_prog_82_method_2_19) (by decide) (by decide) k) ?_
  show own_E p e below _ s₁ (mkF m 4 #[iv 3, .val (.long 10), .second, iv 4] [])
  refine own_st (fun t k => XS.iloadN X0.here hx rfl (hb hby own_d_prog_82_method_2_4) rfl k) ?_
  show own_E p e below _ s₁ (mkF m 5 #[iv 3, .val (.long 10), .second, iv 4] [.int 4])
  refine own_st (fun t k => XS.bipush X0.here hx rfl (hb hby own_d_prog_82_method_2_5) k) ?_
  show own_E p e below _ s₁ (mkF m 7 #[iv 3, .val (.long 10), .second, iv 4] [.int 6, .int 4])
  refine own_st (fun t k => XS.icmpNo X0.here hx rfl (hb hby own_d_prog_82_method_2_7) rfl (by decide) k) ?_
  show own_E p e below _ s₁ (mkF m 10 #[iv 3, .val (.long 10), .second, iv 4] [])
  refine own_st (fun t k => XS.lloadN X0.here hx rfl (hb hby own_d_prog_82_method_2_10) rfl k) ?_
  show own_E p e below _ s₁ (mkF m 11 #[iv 3, .val (.long 10), .second, iv 4] [.long 10])
  refine own_st (X0.ldc2Long hx hown (mvT hZ (own_w hw 5 rfl)) (g := (mkF m 11 #[iv 3, .val (.long 10), .second, iv 4] [.long 10])) rfl (hb hby own_d_prog_82_method_2_11)) ?_
  show own_E p e below _ s₁ (mkF m 14 #[iv 3, .val (.long 10), .second, iv 4] [.long 10, .long 10])
  refine own_st (fun t k => XS.lmul X0.here hx rfl (hb hby own_d_prog_82_method_2_14) rfl k) ?_
  show own_E p e below _ s₁ (mkF m 15 #[iv 3, .val (.long 10), .second, iv 4] [.long 100])
  refine own_st (fun t k => XS.lstoreN X0.here hx rfl (hb hby own_d_prog_82_method_2_15) rfl (l' := #[iv 3, .val (.long 100), .second, iv 4]) rfl k) ?_
  show own_E p e below _ s₁ (mkF m 16 #[iv 3, .val (.long 100), .second, iv 4] [])
  refine own_st (fun t k => XS.iinc X0.here hx rfl (hb hby own_d_prog_82_method_2_16) rfl (l' := #[iv 3, .val (.long 100), .second, iv 5]) rfl k) ?_
  show own_E p e below _ s₁ (mkF m 19 #[iv 3, .val (.long 100), .second, iv 5] [])
  refine own_st (fun t k => XS.goto X0.here hx rfl (pc0 := 19) (pc' := 4) rfl (hb hby own_d_prog_82_method_2_19) (by decide) (by decide) k) ?_
  show own_E p e below _ s₁ (mkF m 4 #[iv 3, .val (.long 100), .second, iv 5] [])
  refine own_st (fun t k => XS.iloadN X0.here hx rfl (hb hby own_d_prog_82_method_2_4) rfl k) ?_
  show own_E p e below _ s₁ (mkF m 5 #[iv 3, .val (.long 100), .second, iv 5] [.int 5])
  refine own_st (fun t k => XS.bipush X0.here hx rfl (hb hby own_d_prog_82_method_2_5) k) ?_
  show own_E p e below _ s₁ (mkF m 7 #[iv 3, .val (.long 100), .second, iv 5] [.int 6, .int 5])
  refine own_st (fun t k => XS.icmpNo X0.here hx rfl (hb hby own_d_prog_82_method_2_7) rfl (by decide) k) ?_
  show own_E p e below _ s₁ (mkF m 10 #[iv 3, .val (.long 100), .second, iv 5] [])
  refine own_st (fun t k => XS.lloadN X0.here hx rfl (hb hby own_d_prog_82_method_2_10) rfl k) ?_
  show own_E p e below _ s₁ (mkF m 11 #[iv 3, .val (.long 100), .second, iv 5] [.long 100])
  refine own_st (X0.ldc2Long hx hown (mvT hZ (own_w hw 5 rfl)) (g := (mkF m 11 #[iv 3, .val (.long 100), .second, iv 5] [.long 100])) rfl (hb hby own_d_prog_82_method_2_11)) ?_
  show own_E p e below _ s₁ (mkF m 14 #[iv 3, .val (.long 100), .second, iv 5] [.long 10, .long 100])
  refine own_st (fun t k => XS.lmul X0.here hx rfl (hb hby own_d_prog_82_method_2_14) rfl k) ?_
  show own_E p e below _ s₁ (mkF m 15 #[iv 3, .val (.long 100), .second, iv 5] [.long 1000])
  refine own_st (fun t k => XS.lstoreN X0.here hx rfl (hb hby own_d_prog_82_method_2_15) rfl (l' := #[iv 3, .val (.long 1000), .second, iv 5]) rfl k) ?_
  show own_E p e below _ s₁ (mkF m 16 #[iv 3, .val (.long 1000), .second, iv 5] [])
  refine own_st (fun t k => XS.iinc X0.here hx rfl (hb hby own_d_prog_82_method_2_16) rfl (l' := #[iv 3, .val (.long 1000), .second, iv 6]) rfl k) ?_
  show own_E p e below _ s₁ (mkF m 19 #[iv 3, .val (.long 1000), .second, iv 6] [])
  refine own_st (fun t k => XS.goto X0.here hx rfl (pc0 := 19) (pc' := 4) rfl (hb hby own_d_prog_82_method_2_19) (by decide) (by decide) k) ?_
  show own_E p e below _ s₁ (mkF m 4 #[iv 3, .val (.long 1000), .second, iv 6] [])
  refine own_st (fun t k => XS.iloadN X0.here hx rfl (hb hby own_d_prog_82_method_2_4) rfl k) ?_
  show own_E p e below _ s₁ (mkF m 5 #[iv 3, .val (.long 1000), .second, iv 6] [.int 6])
  refine own_st (fun t k => XS.bipush X0.here hx rfl (hb hby own_d_prog_82_method_2_5) k) ?_
  show own_E p e below _ s₁ (mkF m 7 #[iv 3, .val (.long 1000), .second, iv 6] [.int 6, .int 6])
  refine own_st (fun t k => XS.icmpYes X0.here hx rfl (pc0 := 7) (pc' := 22) rfl (hb hby own_d_prog_82_method_2_7) rfl (by decide) (by decide) (by decide) k) ?_
  show own_E p e below _ s₁ (mkF m 22 #[iv 3, .val (.long 1000), .second, iv 6] [])
  refine own_st (fun t k => XS.lloadN X0.here hx rfl (hb hby own_d_prog_82_method_2_22) rfl k) ?_
  show own_E p e below _ s₁ (mkF m 23 #[iv 3, .val (.long 1000), .second, iv 6] [.long 1000])
  refine own_retJ X0 hx Bd.notSynchronized Bd.returns (hb hby own_d_prog_82_method_2_23) (by decide) (by decide) ?_
  exact ⟨rfl, e0, rfl⟩
def own_res4_Q  (h0 : Heap) (v : Option Value) (h : Heap) (L : List Loc) : Prop := ((v = some (.long (100 : Int64)))) ∧ h = h0 ∧ L = []
theorem own_res4_ef (m : MethodId)  : entryFrame m #[(.int (4 : Int32))] 4 = mkF m 0 #[.val (.int (4 : Int32)), .unset, .unset, .unset] [] := by first | (simp [entryFrame, mkF, argsToLocals, Value.category]; done) | rfl
set_option maxRecDepth 65536 in
set_option maxHeartbeats 40000000 in
theorem own_res4 (l : Launch) (Z : State) (a0 : Array Value) (hw : ∀ d ∈ tables_1, d.before a0 Z = true) (ws : List Jvm.Cond)  (h0 : Heap) (n0 : Nat) (Z0 : n0 ≤ h0.size)  :
    MetFree l own_y0 (head1 (Jvm.Cond.code own_y0 prog_82_method_2_code 4 (some .long) :: ws) ({ frames := 0, cells := 0, slots := 0, locals := 0 } : Room)) (fun a U => a = #[(.int (4 : Int32))] ∧ Z.Warmed39 U.vm ∧ U.heap = h0) (fun _ _ _ _ _ => True) (fun _ U o U' => ∃ v L, o = .returned v ∧ own_res4_Q  h0 v U'.heap L ∧ FrameEnd U o U' L ({ frames := 0, cells := 0, slots := 0, locals := 0 } : Room).cells ({ frames := 0, cells := 0, slots := 0, locals := 0 } : Room).slots) := by
  refine MetFree.of_bodySF (plainFor_of_name own_pn_TemporalType) hisR ?_
  intro p e s m args below meth c s₁ Bd hml0 hP hK
  obtain ⟨rfl, hZ, hh⟩ := hP
  have hx := Bd.exec
  have hby := Bd.bytes
  have hml : c.maxLocals = 4 := hml0
  have hown : s.vm.findClass "com/example/tight_fence/tightfence/engine/TemporalType" = some m.cls := findClass_of_methodNamed Bd.named
  have hnm := (name_of_methodNamed Bd.named Bd.method).1
  have X0 : Stand p l e ({ frames := 0, cells := 0, slots := 0, locals := 0 } : Room) s m #[(.int (4 : Int32))] below meth c s₁ [] 0 0 := Stand.of_body Bd
  have e0 : s₁.heap = h0 := by rw [← hh, Bd.state]; rfl
  show own_E p e below (own_K (own_res4_Q  h0) s ({ frames := 0, cells := 0, slots := 0, locals := 0 } : Room).cells ({ frames := 0, cells := 0, slots := 0, locals := 0 } : Room).slots) s₁ (entryFrame m #[(.int (4 : Int32))] 4)
  refine own_pre (own_res4_ef m ) ?_
  show own_E p e below _ s₁ (mkF m 0 #[iv 4, .unset, .unset, .unset] [])
  refine own_st (fun t k => XS.lconst X0.here hx rfl (hb hby own_d_prog_82_method_2_0) k) ?_
  show own_E p e below _ s₁ (mkF m 1 #[iv 4, .unset, .unset, .unset] [.long 1])
  refine own_st (fun t k => XS.lstoreN X0.here hx rfl (hb hby own_d_prog_82_method_2_1) rfl (l' := #[iv 4, .val (.long 1), .second, .unset]) rfl k) ?_
  show own_E p e below _ s₁ (mkF m 2 #[iv 4, .val (.long 1), .second, .unset] [])
  refine own_st (fun t k => XS.iloadN X0.here hx rfl (hb hby own_d_prog_82_method_2_2) rfl k) ?_
  show own_E p e below _ s₁ (mkF m 3 #[iv 4, .val (.long 1), .second, .unset] [.int 4])
  refine own_st (fun t k => XS.istoreN X0.here hx rfl (hb hby own_d_prog_82_method_2_3) rfl (l' := #[iv 4, .val (.long 1), .second, iv 4]) rfl k) ?_
  show own_E p e below _ s₁ (mkF m 4 #[iv 4, .val (.long 1), .second, iv 4] [])
  refine own_st (fun t k => XS.iloadN X0.here hx rfl (hb hby own_d_prog_82_method_2_4) rfl k) ?_
  show own_E p e below _ s₁ (mkF m 5 #[iv 4, .val (.long 1), .second, iv 4] [.int 4])
  refine own_st (fun t k => XS.bipush X0.here hx rfl (hb hby own_d_prog_82_method_2_5) k) ?_
  show own_E p e below _ s₁ (mkF m 7 #[iv 4, .val (.long 1), .second, iv 4] [.int 6, .int 4])
  refine own_st (fun t k => XS.icmpNo X0.here hx rfl (hb hby own_d_prog_82_method_2_7) rfl (by decide) k) ?_
  show own_E p e below _ s₁ (mkF m 10 #[iv 4, .val (.long 1), .second, iv 4] [])
  refine own_st (fun t k => XS.lloadN X0.here hx rfl (hb hby own_d_prog_82_method_2_10) rfl k) ?_
  show own_E p e below _ s₁ (mkF m 11 #[iv 4, .val (.long 1), .second, iv 4] [.long 1])
  refine own_st (X0.ldc2Long hx hown (mvT hZ (own_w hw 5 rfl)) (g := (mkF m 11 #[iv 4, .val (.long 1), .second, iv 4] [.long 1])) rfl (hb hby own_d_prog_82_method_2_11)) ?_
  show own_E p e below _ s₁ (mkF m 14 #[iv 4, .val (.long 1), .second, iv 4] [.long 10, .long 1])
  refine own_st (fun t k => XS.lmul X0.here hx rfl (hb hby own_d_prog_82_method_2_14) rfl k) ?_
  show own_E p e below _ s₁ (mkF m 15 #[iv 4, .val (.long 1), .second, iv 4] [.long 10])
  refine own_st (fun t k => XS.lstoreN X0.here hx rfl (hb hby own_d_prog_82_method_2_15) rfl (l' := #[iv 4, .val (.long 10), .second, iv 4]) rfl k) ?_
  show own_E p e below _ s₁ (mkF m 16 #[iv 4, .val (.long 10), .second, iv 4] [])
  refine own_st (fun t k => XS.iinc X0.here hx rfl (hb hby own_d_prog_82_method_2_16) rfl (l' := #[iv 4, .val (.long 10), .second, iv 5]) rfl k) ?_
  show own_E p e below _ s₁ (mkF m 19 #[iv 4, .val (.long 10), .second, iv 5] [])
  refine own_st (fun t k => XS.goto X0.here hx rfl (pc0 := 19) (pc' := 4) rfl (hb hby own_d_prog_82_method_2_19) (by decide) (by decide) k) ?_
  show own_E p e below _ s₁ (mkF m 4 #[iv 4, .val (.long 10), .second, iv 5] [])
  refine own_st (fun t k => XS.iloadN X0.here hx rfl (hb hby own_d_prog_82_method_2_4) rfl k) ?_
  show own_E p e below _ s₁ (mkF m 5 #[iv 4, .val (.long 10), .second, iv 5] [.int 5])
  refine own_st (fun t k => XS.bipush X0.here hx rfl (hb hby own_d_prog_82_method_2_5) k) ?_
  show own_E p e below _ s₁ (mkF m 7 #[iv 4, .val (.long 10), .second, iv 5] [.int 6, .int 5])
  refine own_st (fun t k => XS.icmpNo X0.here hx rfl (hb hby own_d_prog_82_method_2_7) rfl (by decide) k) ?_
  show own_E p e below _ s₁ (mkF m 10 #[iv 4, .val (.long 10), .second, iv 5] [])
  refine own_st (fun t k => XS.lloadN X0.here hx rfl (hb hby own_d_prog_82_method_2_10) rfl k) ?_
  show own_E p e below _ s₁ (mkF m 11 #[iv 4, .val (.long 10), .second, iv 5] [.long 10])
  refine own_st (X0.ldc2Long hx hown (mvT hZ (own_w hw 5 rfl)) (g := (mkF m 11 #[iv 4, .val (.long 10), .second, iv 5] [.long 10])) rfl (hb hby own_d_prog_82_method_2_11)) ?_
  show own_E p e below _ s₁ (mkF m 14 #[iv 4, .val (.long 10), .second, iv 5] [.long 10, .long 10])
  refine own_st (fun t k => XS.lmul X0.here hx rfl (hb hby own_d_prog_82_method_2_14) rfl k) ?_
  show own_E p e below _ s₁ (mkF m 15 #[iv 4, .val (.long 10), .second, iv 5] [.long 100])
  refine own_st (fun t k => XS.lstoreN X0.here hx rfl (hb hby own_d_prog_82_method_2_15) rfl (l' := #[iv 4, .val (.long 100), .second, iv 5]) rfl k) ?_
  show own_E p e below _ s₁ (mkF m 16 #[iv 4, .val (.long 100), .second, iv 5] [])
  refine own_st (fun t k => XS.iinc X0.here hx rfl (hb hby own_d_prog_82_method_2_16) rfl (l' := #[iv 4, .val (.long 100), .second, iv 6]) rfl k) ?_
  show own_E p e below _ s₁ (mkF m 19 #[iv 4, .val (.long 100), .second, iv 6] [])
  refine own_st (fun t k => XS.goto X0.here hx rfl (pc0 := 19) (pc' := 4) rfl (hb hby own_d_prog_82_method_2_19) (by decide) (by decide) k) ?_
  show own_E p e below _ s₁ (mkF m 4 #[iv 4, .val (.long 100), .second, iv 6] [])
  refine own_st (fun t k => XS.iloadN X0.here hx rfl (hb hby own_d_prog_82_method_2_4) rfl k) ?_
  show own_E p e below _ s₁ (mkF m 5 #[iv 4, .val (.long 100), .second, iv 6] [.int 6])
  refine own_st (fun t k => XS.bipush X0.here hx rfl (hb hby own_d_prog_82_method_2_5) k) ?_
  show own_E p e below _ s₁ (mkF m 7 #[iv 4, .val (.long 100), .second, iv 6] [.int 6, .int 6])
  refine own_st (fun t k => XS.icmpYes X0.here hx rfl (pc0 := 7) (pc' := 22) rfl (hb hby own_d_prog_82_method_2_7) rfl (by decide) (by decide) (by decide) k) ?_
  show own_E p e below _ s₁ (mkF m 22 #[iv 4, .val (.long 100), .second, iv 6] [])
  refine own_st (fun t k => XS.lloadN X0.here hx rfl (hb hby own_d_prog_82_method_2_22) rfl k) ?_
  show own_E p e below _ s₁ (mkF m 23 #[iv 4, .val (.long 100), .second, iv 6] [.long 100])
  refine own_retJ X0 hx Bd.notSynchronized Bd.returns (hb hby own_d_prog_82_method_2_23) (by decide) (by decide) ?_
  exact ⟨rfl, e0, rfl⟩
def own_res5_Q  (h0 : Heap) (v : Option Value) (h : Heap) (L : List Loc) : Prop := ((v = some (.long (10 : Int64)))) ∧ h = h0 ∧ L = []
theorem own_res5_ef (m : MethodId)  : entryFrame m #[(.int (5 : Int32))] 4 = mkF m 0 #[.val (.int (5 : Int32)), .unset, .unset, .unset] [] := by first | (simp [entryFrame, mkF, argsToLocals, Value.category]; done) | rfl
set_option maxRecDepth 65536 in
set_option maxHeartbeats 40000000 in
theorem own_res5 (l : Launch) (Z : State) (a0 : Array Value) (hw : ∀ d ∈ tables_1, d.before a0 Z = true) (ws : List Jvm.Cond)  (h0 : Heap) (n0 : Nat) (Z0 : n0 ≤ h0.size)  :
    MetFree l own_y0 (head1 (Jvm.Cond.code own_y0 prog_82_method_2_code 4 (some .long) :: ws) ({ frames := 0, cells := 0, slots := 0, locals := 0 } : Room)) (fun a U => a = #[(.int (5 : Int32))] ∧ Z.Warmed39 U.vm ∧ U.heap = h0) (fun _ _ _ _ _ => True) (fun _ U o U' => ∃ v L, o = .returned v ∧ own_res5_Q  h0 v U'.heap L ∧ FrameEnd U o U' L ({ frames := 0, cells := 0, slots := 0, locals := 0 } : Room).cells ({ frames := 0, cells := 0, slots := 0, locals := 0 } : Room).slots) := by
  refine MetFree.of_bodySF (plainFor_of_name own_pn_TemporalType) hisR ?_
  intro p e s m args below meth c s₁ Bd hml0 hP hK
  obtain ⟨rfl, hZ, hh⟩ := hP
  have hx := Bd.exec
  have hby := Bd.bytes
  have hml : c.maxLocals = 4 := hml0
  have hown : s.vm.findClass "com/example/tight_fence/tightfence/engine/TemporalType" = some m.cls := findClass_of_methodNamed Bd.named
  have hnm := (name_of_methodNamed Bd.named Bd.method).1
  have X0 : Stand p l e ({ frames := 0, cells := 0, slots := 0, locals := 0 } : Room) s m #[(.int (5 : Int32))] below meth c s₁ [] 0 0 := Stand.of_body Bd
  have e0 : s₁.heap = h0 := by rw [← hh, Bd.state]; rfl
  show own_E p e below (own_K (own_res5_Q  h0) s ({ frames := 0, cells := 0, slots := 0, locals := 0 } : Room).cells ({ frames := 0, cells := 0, slots := 0, locals := 0 } : Room).slots) s₁ (entryFrame m #[(.int (5 : Int32))] 4)
  refine own_pre (own_res5_ef m ) ?_
  show own_E p e below _ s₁ (mkF m 0 #[iv 5, .unset, .unset, .unset] [])
  refine own_st (fun t k => XS.lconst X0.here hx rfl (hb hby own_d_prog_82_method_2_0) k) ?_
  show own_E p e below _ s₁ (mkF m 1 #[iv 5, .unset, .unset, .unset] [.long 1])
  refine own_st (fun t k => XS.lstoreN X0.here hx rfl (hb hby own_d_prog_82_method_2_1) rfl (l' := #[iv 5, .val (.long 1), .second, .unset]) rfl k) ?_
  show own_E p e below _ s₁ (mkF m 2 #[iv 5, .val (.long 1), .second, .unset] [])
  refine own_st (fun t k => XS.iloadN X0.here hx rfl (hb hby own_d_prog_82_method_2_2) rfl k) ?_
  show own_E p e below _ s₁ (mkF m 3 #[iv 5, .val (.long 1), .second, .unset] [.int 5])
  refine own_st (fun t k => XS.istoreN X0.here hx rfl (hb hby own_d_prog_82_method_2_3) rfl (l' := #[iv 5, .val (.long 1), .second, iv 5]) rfl k) ?_
  show own_E p e below _ s₁ (mkF m 4 #[iv 5, .val (.long 1), .second, iv 5] [])
  refine own_st (fun t k => XS.iloadN X0.here hx rfl (hb hby own_d_prog_82_method_2_4) rfl k) ?_
  show own_E p e below _ s₁ (mkF m 5 #[iv 5, .val (.long 1), .second, iv 5] [.int 5])
  refine own_st (fun t k => XS.bipush X0.here hx rfl (hb hby own_d_prog_82_method_2_5) k) ?_
  show own_E p e below _ s₁ (mkF m 7 #[iv 5, .val (.long 1), .second, iv 5] [.int 6, .int 5])
  refine own_st (fun t k => XS.icmpNo X0.here hx rfl (hb hby own_d_prog_82_method_2_7) rfl (by decide) k) ?_
  show own_E p e below _ s₁ (mkF m 10 #[iv 5, .val (.long 1), .second, iv 5] [])
  refine own_st (fun t k => XS.lloadN X0.here hx rfl (hb hby own_d_prog_82_method_2_10) rfl k) ?_
  show own_E p e below _ s₁ (mkF m 11 #[iv 5, .val (.long 1), .second, iv 5] [.long 1])
  refine own_st (X0.ldc2Long hx hown (mvT hZ (own_w hw 5 rfl)) (g := (mkF m 11 #[iv 5, .val (.long 1), .second, iv 5] [.long 1])) rfl (hb hby own_d_prog_82_method_2_11)) ?_
  show own_E p e below _ s₁ (mkF m 14 #[iv 5, .val (.long 1), .second, iv 5] [.long 10, .long 1])
  refine own_st (fun t k => XS.lmul X0.here hx rfl (hb hby own_d_prog_82_method_2_14) rfl k) ?_
  show own_E p e below _ s₁ (mkF m 15 #[iv 5, .val (.long 1), .second, iv 5] [.long 10])
  refine own_st (fun t k => XS.lstoreN X0.here hx rfl (hb hby own_d_prog_82_method_2_15) rfl (l' := #[iv 5, .val (.long 10), .second, iv 5]) rfl k) ?_
  show own_E p e below _ s₁ (mkF m 16 #[iv 5, .val (.long 10), .second, iv 5] [])
  refine own_st (fun t k => XS.iinc X0.here hx rfl (hb hby own_d_prog_82_method_2_16) rfl (l' := #[iv 5, .val (.long 10), .second, iv 6]) rfl k) ?_
  show own_E p e below _ s₁ (mkF m 19 #[iv 5, .val (.long 10), .second, iv 6] [])
  refine own_st (fun t k => XS.goto X0.here hx rfl (pc0 := 19) (pc' := 4) rfl (hb hby own_d_prog_82_method_2_19) (by decide) (by decide) k) ?_
  show own_E p e below _ s₁ (mkF m 4 #[iv 5, .val (.long 10), .second, iv 6] [])
  refine own_st (fun t k => XS.iloadN X0.here hx rfl (hb hby own_d_prog_82_method_2_4) rfl k) ?_
  show own_E p e below _ s₁ (mkF m 5 #[iv 5, .val (.long 10), .second, iv 6] [.int 6])
  refine own_st (fun t k => XS.bipush X0.here hx rfl (hb hby own_d_prog_82_method_2_5) k) ?_
  show own_E p e below _ s₁ (mkF m 7 #[iv 5, .val (.long 10), .second, iv 6] [.int 6, .int 6])
  refine own_st (fun t k => XS.icmpYes X0.here hx rfl (pc0 := 7) (pc' := 22) rfl (hb hby own_d_prog_82_method_2_7) rfl (by decide) (by decide) (by decide) k) ?_
  show own_E p e below _ s₁ (mkF m 22 #[iv 5, .val (.long 10), .second, iv 6] [])
  refine own_st (fun t k => XS.lloadN X0.here hx rfl (hb hby own_d_prog_82_method_2_22) rfl k) ?_
  show own_E p e below _ s₁ (mkF m 23 #[iv 5, .val (.long 10), .second, iv 6] [.long 10])
  refine own_retJ X0 hx Bd.notSynchronized Bd.returns (hb hby own_d_prog_82_method_2_23) (by decide) (by decide) ?_
  exact ⟨rfl, e0, rfl⟩
def own_res6_Q  (h0 : Heap) (v : Option Value) (h : Heap) (L : List Loc) : Prop := ((v = some (.long (1 : Int64)))) ∧ h = h0 ∧ L = []
theorem own_res6_ef (m : MethodId)  : entryFrame m #[(.int (6 : Int32))] 4 = mkF m 0 #[.val (.int (6 : Int32)), .unset, .unset, .unset] [] := by first | (simp [entryFrame, mkF, argsToLocals, Value.category]; done) | rfl
set_option maxRecDepth 65536 in
set_option maxHeartbeats 40000000 in
theorem own_res6 (l : Launch) (Z : State) (a0 : Array Value) (hw : ∀ d ∈ tables_1, d.before a0 Z = true) (ws : List Jvm.Cond)  (h0 : Heap) (n0 : Nat) (Z0 : n0 ≤ h0.size)  :
    MetFree l own_y0 (head1 (Jvm.Cond.code own_y0 prog_82_method_2_code 4 (some .long) :: ws) ({ frames := 0, cells := 0, slots := 0, locals := 0 } : Room)) (fun a U => a = #[(.int (6 : Int32))] ∧ Z.Warmed39 U.vm ∧ U.heap = h0) (fun _ _ _ _ _ => True) (fun _ U o U' => ∃ v L, o = .returned v ∧ own_res6_Q  h0 v U'.heap L ∧ FrameEnd U o U' L ({ frames := 0, cells := 0, slots := 0, locals := 0 } : Room).cells ({ frames := 0, cells := 0, slots := 0, locals := 0 } : Room).slots) := by
  refine MetFree.of_bodySF (plainFor_of_name own_pn_TemporalType) hisR ?_
  intro p e s m args below meth c s₁ Bd hml0 hP hK
  obtain ⟨rfl, hZ, hh⟩ := hP
  have hx := Bd.exec
  have hby := Bd.bytes
  have hml : c.maxLocals = 4 := hml0
  have hown : s.vm.findClass "com/example/tight_fence/tightfence/engine/TemporalType" = some m.cls := findClass_of_methodNamed Bd.named
  have hnm := (name_of_methodNamed Bd.named Bd.method).1
  have X0 : Stand p l e ({ frames := 0, cells := 0, slots := 0, locals := 0 } : Room) s m #[(.int (6 : Int32))] below meth c s₁ [] 0 0 := Stand.of_body Bd
  have e0 : s₁.heap = h0 := by rw [← hh, Bd.state]; rfl
  show own_E p e below (own_K (own_res6_Q  h0) s ({ frames := 0, cells := 0, slots := 0, locals := 0 } : Room).cells ({ frames := 0, cells := 0, slots := 0, locals := 0 } : Room).slots) s₁ (entryFrame m #[(.int (6 : Int32))] 4)
  refine own_pre (own_res6_ef m ) ?_
  show own_E p e below _ s₁ (mkF m 0 #[iv 6, .unset, .unset, .unset] [])
  refine own_st (fun t k => XS.lconst X0.here hx rfl (hb hby own_d_prog_82_method_2_0) k) ?_
  show own_E p e below _ s₁ (mkF m 1 #[iv 6, .unset, .unset, .unset] [.long 1])
  refine own_st (fun t k => XS.lstoreN X0.here hx rfl (hb hby own_d_prog_82_method_2_1) rfl (l' := #[iv 6, .val (.long 1), .second, .unset]) rfl k) ?_
  show own_E p e below _ s₁ (mkF m 2 #[iv 6, .val (.long 1), .second, .unset] [])
  refine own_st (fun t k => XS.iloadN X0.here hx rfl (hb hby own_d_prog_82_method_2_2) rfl k) ?_
  show own_E p e below _ s₁ (mkF m 3 #[iv 6, .val (.long 1), .second, .unset] [.int 6])
  refine own_st (fun t k => XS.istoreN X0.here hx rfl (hb hby own_d_prog_82_method_2_3) rfl (l' := #[iv 6, .val (.long 1), .second, iv 6]) rfl k) ?_
  show own_E p e below _ s₁ (mkF m 4 #[iv 6, .val (.long 1), .second, iv 6] [])
  refine own_st (fun t k => XS.iloadN X0.here hx rfl (hb hby own_d_prog_82_method_2_4) rfl k) ?_
  show own_E p e below _ s₁ (mkF m 5 #[iv 6, .val (.long 1), .second, iv 6] [.int 6])
  refine own_st (fun t k => XS.bipush X0.here hx rfl (hb hby own_d_prog_82_method_2_5) k) ?_
  show own_E p e below _ s₁ (mkF m 7 #[iv 6, .val (.long 1), .second, iv 6] [.int 6, .int 6])
  refine own_st (fun t k => XS.icmpYes X0.here hx rfl (pc0 := 7) (pc' := 22) rfl (hb hby own_d_prog_82_method_2_7) rfl (by decide) (by decide) (by decide) k) ?_
  show own_E p e below _ s₁ (mkF m 22 #[iv 6, .val (.long 1), .second, iv 6] [])
  refine own_st (fun t k => XS.lloadN X0.here hx rfl (hb hby own_d_prog_82_method_2_22) rfl k) ?_
  show own_E p e below _ s₁ (mkF m 23 #[iv 6, .val (.long 1), .second, iv 6] [.long 1])
  refine own_retJ X0 hx Bd.notSynchronized Bd.returns (hb hby own_d_prog_82_method_2_23) (by decide) (by decide) ?_
  exact ⟨rfl, e0, rfl⟩
theorem own_d_method_3_0 : decode method_3_code 0 = .ok (.iload_n 0, 1) := by decide +kernel
theorem own_d_method_3_1 : decode method_3_code 1 = .ok (.ifCond .ne 10, 3) := by decide +kernel
theorem own_d_method_3_4 : decode method_3_code 4 = .ok (.ldc2_w 19, 3) := by decide +kernel
theorem own_d_method_3_7 : decode method_3_code 7 = .ok (.lstore_n 1, 1) := by decide +kernel
theorem own_d_method_3_8 : decode method_3_code 8 = .ok (.goto 65, 3) := by decide +kernel
theorem own_d_method_3_73 : decode method_3_code 73 = .ok (.lload_n 1, 1) := by decide +kernel
theorem own_d_method_3_74 : decode method_3_code 74 = .ok (.lreturn, 1) := by decide +kernel
theorem own_d_method_3_11 : decode method_3_code 11 = .ok (.iload_n 0, 1) := by decide +kernel
theorem own_d_method_3_12 : decode method_3_code 12 = .ok (.iconst 1, 1) := by decide +kernel
theorem own_d_method_3_13 : decode method_3_code 13 = .ok (.if_icmp .ne 10, 3) := by decide +kernel
theorem own_d_method_3_16 : decode method_3_code 16 = .ok (.ldc2_w 21, 3) := by decide +kernel
theorem own_d_method_3_19 : decode method_3_code 19 = .ok (.lstore_n 1, 1) := by decide +kernel
theorem own_d_method_3_20 : decode method_3_code 20 = .ok (.goto 53, 3) := by decide +kernel
theorem own_d_method_3_23 : decode method_3_code 23 = .ok (.iload_n 0, 1) := by decide +kernel
theorem own_d_method_3_24 : decode method_3_code 24 = .ok (.iconst 2, 1) := by decide +kernel
theorem own_d_method_3_25 : decode method_3_code 25 = .ok (.if_icmp .ne 10, 3) := by decide +kernel
theorem own_d_method_3_28 : decode method_3_code 28 = .ok (.ldc2_w 23, 3) := by decide +kernel
theorem own_d_method_3_31 : decode method_3_code 31 = .ok (.lstore_n 1, 1) := by decide +kernel
theorem own_d_method_3_32 : decode method_3_code 32 = .ok (.goto 41, 3) := by decide +kernel
theorem own_d_method_3_35 : decode method_3_code 35 = .ok (.iload_n 0, 1) := by decide +kernel
theorem own_d_method_3_36 : decode method_3_code 36 = .ok (.iconst 3, 1) := by decide +kernel
theorem own_d_method_3_37 : decode method_3_code 37 = .ok (.if_icmp .ne 10, 3) := by decide +kernel
theorem own_d_method_3_40 : decode method_3_code 40 = .ok (.ldc2_w 25, 3) := by decide +kernel
theorem own_d_method_3_43 : decode method_3_code 43 = .ok (.lstore_n 1, 1) := by decide +kernel
theorem own_d_method_3_44 : decode method_3_code 44 = .ok (.goto 29, 3) := by decide +kernel
theorem own_d_method_3_47 : decode method_3_code 47 = .ok (.iload_n 0, 1) := by decide +kernel
theorem own_d_method_3_48 : decode method_3_code 48 = .ok (.iconst 4, 1) := by decide +kernel
theorem own_d_method_3_49 : decode method_3_code 49 = .ok (.if_icmp .ne 10, 3) := by decide +kernel
theorem own_d_method_3_52 : decode method_3_code 52 = .ok (.ldc2_w 27, 3) := by decide +kernel
theorem own_d_method_3_55 : decode method_3_code 55 = .ok (.lstore_n 1, 1) := by decide +kernel
theorem own_d_method_3_56 : decode method_3_code 56 = .ok (.goto 17, 3) := by decide +kernel
theorem own_d_method_3_59 : decode method_3_code 59 = .ok (.iload_n 0, 1) := by decide +kernel
theorem own_d_method_3_60 : decode method_3_code 60 = .ok (.iconst 5, 1) := by decide +kernel
theorem own_d_method_3_61 : decode method_3_code 61 = .ok (.if_icmp .ne 10, 3) := by decide +kernel
theorem own_d_method_3_64 : decode method_3_code 64 = .ok (.ldc2_w 29, 3) := by decide +kernel
theorem own_d_method_3_67 : decode method_3_code 67 = .ok (.lstore_n 1, 1) := by decide +kernel
theorem own_d_method_3_68 : decode method_3_code 68 = .ok (.goto 5, 3) := by decide +kernel
theorem own_d_method_3_71 : decode method_3_code 71 = .ok (.lconst 1, 1) := by decide +kernel
theorem own_d_method_3_72 : decode method_3_code 72 = .ok (.lstore_n 1, 1) := by decide +kernel
def own_exp_Q (p1 : Int32) (h0 : Heap) (v : Option Value) (h : Heap) (L : List Loc) : Prop := ((v = some (.long (1000000 : Int64)) ∧ p1 = (0 : Int32)) ∨ (v = some (.long (100000 : Int64)) ∧ ¬ (p1 = (0 : Int32)) ∧ p1 = (1 : Int32)) ∨ (v = some (.long (10000 : Int64)) ∧ ¬ (p1 = (0 : Int32)) ∧ ¬ (p1 = (1 : Int32)) ∧ p1 = (2 : Int32)) ∨ (v = some (.long (1000 : Int64)) ∧ ¬ (p1 = (0 : Int32)) ∧ ¬ (p1 = (1 : Int32)) ∧ ¬ (p1 = (2 : Int32)) ∧ p1 = (3 : Int32)) ∨ (v = some (.long (100 : Int64)) ∧ ¬ (p1 = (0 : Int32)) ∧ ¬ (p1 = (1 : Int32)) ∧ ¬ (p1 = (2 : Int32)) ∧ ¬ (p1 = (3 : Int32)) ∧ p1 = (4 : Int32)) ∨ (v = some (.long (10 : Int64)) ∧ ¬ (p1 = (0 : Int32)) ∧ ¬ (p1 = (1 : Int32)) ∧ ¬ (p1 = (2 : Int32)) ∧ ¬ (p1 = (3 : Int32)) ∧ ¬ (p1 = (4 : Int32)) ∧ p1 = (5 : Int32)) ∨ (v = some (.long (1 : Int64)) ∧ ¬ (p1 = (0 : Int32)) ∧ ¬ (p1 = (1 : Int32)) ∧ ¬ (p1 = (2 : Int32)) ∧ ¬ (p1 = (3 : Int32)) ∧ ¬ (p1 = (4 : Int32)) ∧ ¬ (p1 = (5 : Int32)))) ∧ h = h0 ∧ L = []
abbrev own_y1 : MethodName := ⟨"com/example/tight_fence/tightfence/engine/TemporalTypeResolutionPinLaw", "expected", "(I)J"⟩
theorem own_pn_TemporalTypeResolutionPinLaw : plainName "com/example/tight_fence/tightfence/engine/TemporalTypeResolutionPinLaw" = true := by first | (simp [plainName, overriddenIn]; done) | decide +kernel
theorem own_exp_ef (m : MethodId) (p1 : Int32) : entryFrame m #[(.int p1)] 3 = mkF m 0 #[.val (.int p1), .unset, .unset] [] := by first | (simp [entryFrame, mkF, argsToLocals, Value.category]; done) | rfl
set_option maxRecDepth 65536 in
set_option maxHeartbeats 40000000 in
theorem own_exp (l : Launch) (Z : State) (a0 : Array Value) (hw : ∀ d ∈ tables_1, d.before a0 Z = true) (ws : List Jvm.Cond) (p1 : Int32) (h0 : Heap) (n0 : Nat) (Z0 : n0 ≤ h0.size)  :
    MetFree l own_y1 (head1 (Jvm.Cond.code own_y1 method_3_code 3 (some .long) :: ws) ({ frames := 0, cells := 0, slots := 0, locals := 0 } : Room)) (fun a U => a = #[(.int p1)] ∧ Z.Warmed39 U.vm ∧ U.heap = h0) (fun _ _ _ _ _ => True) (fun _ U o U' => ∃ v L, o = .returned v ∧ own_exp_Q p1 h0 v U'.heap L ∧ FrameEnd U o U' L ({ frames := 0, cells := 0, slots := 0, locals := 0 } : Room).cells ({ frames := 0, cells := 0, slots := 0, locals := 0 } : Room).slots) := by
  refine MetFree.of_bodySF (plainFor_of_name own_pn_TemporalTypeResolutionPinLaw) hisR ?_
  intro p e s m args below meth c s₁ Bd hml0 hP hK
  obtain ⟨rfl, hZ, hh⟩ := hP
  have hx := Bd.exec
  have hby := Bd.bytes
  have hml : c.maxLocals = 3 := hml0
  have hown : s.vm.findClass "com/example/tight_fence/tightfence/engine/TemporalTypeResolutionPinLaw" = some m.cls := findClass_of_methodNamed Bd.named
  have hnm := (name_of_methodNamed Bd.named Bd.method).1
  have X0 : Stand p l e ({ frames := 0, cells := 0, slots := 0, locals := 0 } : Room) s m #[(.int p1)] below meth c s₁ [] 0 0 := Stand.of_body Bd
  have e0 : s₁.heap = h0 := by rw [← hh, Bd.state]; rfl
  show own_E p e below (own_K (own_exp_Q p1 h0) s ({ frames := 0, cells := 0, slots := 0, locals := 0 } : Room).cells ({ frames := 0, cells := 0, slots := 0, locals := 0 } : Room).slots) s₁ (entryFrame m #[(.int p1)] 3)
  refine own_pre (own_exp_ef m p1) ?_
  show own_E p e below _ s₁ (mkF m 0 #[iv p1, .unset, .unset] [])
  refine own_st (fun t k => XS.iloadN X0.here hx rfl (hb hby own_d_method_3_0) rfl k) ?_
  show own_E p e below _ s₁ (mkF m 1 #[iv p1, .unset, .unset] [.int p1])
  by_cases hc1 : p1 = (0 : Int32)
  · refine own_st (fun t k => XS.ifNo X0.here hx rfl (hb hby own_d_method_3_1) rfl ((if0 _ _).trans (teq hc1).2) k) ?_
    show own_E p e below _ s₁ (mkF m 4 #[iv p1, .unset, .unset] [])
    refine own_st (X0.ldc2Long hx hown (mvT hZ (own_w hw 10 rfl)) (g := (mkF m 4 #[iv p1, .unset, .unset] [])) rfl (hb hby own_d_method_3_4)) ?_
    show own_E p e below _ s₁ (mkF m 7 #[iv p1, .unset, .unset] [.long 1000000])
    refine own_st (fun t k => XS.lstoreN X0.here hx rfl (hb hby own_d_method_3_7) rfl (l' := #[iv p1, .val (.long 1000000), .second]) rfl k) ?_
    show own_E p e below _ s₁ (mkF m 8 #[iv p1, .val (.long 1000000), .second] [])
    refine own_st (fun t k => XS.goto X0.here hx rfl (pc0 := 8) (pc' := 73) rfl (hb hby own_d_method_3_8) (by decide) (by decide) k) ?_
    show own_E p e below _ s₁ (mkF m 73 #[iv p1, .val (.long 1000000), .second] [])
    refine own_st (fun t k => XS.lloadN X0.here hx rfl (hb hby own_d_method_3_73) rfl k) ?_
    show own_E p e below _ s₁ (mkF m 74 #[iv p1, .val (.long 1000000), .second] [.long 1000000])
    refine own_retJ X0 hx Bd.notSynchronized Bd.returns (hb hby own_d_method_3_74) (by decide) (by decide) ?_
    exact ⟨(Or.inl ⟨rfl, hc1⟩), e0, rfl⟩
  · refine own_st (fun t k => XS.ifYes X0.here hx rfl (pc0 := 1) (pc' := 11) rfl (hb hby own_d_method_3_1) rfl ((if0 _ _).trans (feq hc1).2) (by decide) (by decide) k) ?_
    show own_E p e below _ s₁ (mkF m 11 #[iv p1, .unset, .unset] [])
    refine own_st (fun t k => XS.iloadN X0.here hx rfl (hb hby own_d_method_3_11) rfl k) ?_
    show own_E p e below _ s₁ (mkF m 12 #[iv p1, .unset, .unset] [.int p1])
    refine own_st (fun t k => XS.iconst X0.here hx rfl (hb hby own_d_method_3_12) k) ?_
    show own_E p e below _ s₁ (mkF m 13 #[iv p1, .unset, .unset] [.int 1, .int p1])
    by_cases hc2 : p1 = (1 : Int32)
    · refine own_st (fun t k => XS.icmpNo X0.here hx rfl (hb hby own_d_method_3_13) rfl (teq hc2).2 k) ?_
      show own_E p e below _ s₁ (mkF m 16 #[iv p1, .unset, .unset] [])
      refine own_st (X0.ldc2Long hx hown (mvT hZ (own_w hw 15 rfl)) (g := (mkF m 16 #[iv p1, .unset, .unset] [])) rfl (hb hby own_d_method_3_16)) ?_
      show own_E p e below _ s₁ (mkF m 19 #[iv p1, .unset, .unset] [.long 100000])
      refine own_st (fun t k => XS.lstoreN X0.here hx rfl (hb hby own_d_method_3_19) rfl (l' := #[iv p1, .val (.long 100000), .second]) rfl k) ?_
      show own_E p e below _ s₁ (mkF m 20 #[iv p1, .val (.long 100000), .second] [])
      refine own_st (fun t k => XS.goto X0.here hx rfl (pc0 := 20) (pc' := 73) rfl (hb hby own_d_method_3_20) (by decide) (by decide) k) ?_
      show own_E p e below _ s₁ (mkF m 73 #[iv p1, .val (.long 100000), .second] [])
      refine own_st (fun t k => XS.lloadN X0.here hx rfl (hb hby own_d_method_3_73) rfl k) ?_
      show own_E p e below _ s₁ (mkF m 74 #[iv p1, .val (.long 100000), .second] [.long 100000])
      refine own_retJ X0 hx Bd.notSynchronized Bd.returns (hb hby own_d_method_3_74) (by decide) (by decide) ?_
      exact ⟨(Or.inr (Or.inl ⟨rfl, hc1, hc2⟩)), e0, rfl⟩
    · refine own_st (fun t k => XS.icmpYes X0.here hx rfl (pc0 := 13) (pc' := 23) rfl (hb hby own_d_method_3_13) rfl (feq hc2).2 (by decide) (by decide) k) ?_
      show own_E p e below _ s₁ (mkF m 23 #[iv p1, .unset, .unset] [])
      refine own_st (fun t k => XS.iloadN X0.here hx rfl (hb hby own_d_method_3_23) rfl k) ?_
      show own_E p e below _ s₁ (mkF m 24 #[iv p1, .unset, .unset] [.int p1])
      refine own_st (fun t k => XS.iconst X0.here hx rfl (hb hby own_d_method_3_24) k) ?_
      show own_E p e below _ s₁ (mkF m 25 #[iv p1, .unset, .unset] [.int 2, .int p1])
      by_cases hc3 : p1 = (2 : Int32)
      · refine own_st (fun t k => XS.icmpNo X0.here hx rfl (hb hby own_d_method_3_25) rfl (teq hc3).2 k) ?_
        show own_E p e below _ s₁ (mkF m 28 #[iv p1, .unset, .unset] [])
        refine own_st (X0.ldc2Long hx hown (mvT hZ (own_w hw 14 rfl)) (g := (mkF m 28 #[iv p1, .unset, .unset] [])) rfl (hb hby own_d_method_3_28)) ?_
        show own_E p e below _ s₁ (mkF m 31 #[iv p1, .unset, .unset] [.long 10000])
        refine own_st (fun t k => XS.lstoreN X0.here hx rfl (hb hby own_d_method_3_31) rfl (l' := #[iv p1, .val (.long 10000), .second]) rfl k) ?_
        show own_E p e below _ s₁ (mkF m 32 #[iv p1, .val (.long 10000), .second] [])
        refine own_st (fun t k => XS.goto X0.here hx rfl (pc0 := 32) (pc' := 73) rfl (hb hby own_d_method_3_32) (by decide) (by decide) k) ?_
        show own_E p e below _ s₁ (mkF m 73 #[iv p1, .val (.long 10000), .second] [])
        refine own_st (fun t k => XS.lloadN X0.here hx rfl (hb hby own_d_method_3_73) rfl k) ?_
        show own_E p e below _ s₁ (mkF m 74 #[iv p1, .val (.long 10000), .second] [.long 10000])
        refine own_retJ X0 hx Bd.notSynchronized Bd.returns (hb hby own_d_method_3_74) (by decide) (by decide) ?_
        exact ⟨(Or.inr (Or.inr (Or.inl ⟨rfl, hc1, hc2, hc3⟩))), e0, rfl⟩
      · refine own_st (fun t k => XS.icmpYes X0.here hx rfl (pc0 := 25) (pc' := 35) rfl (hb hby own_d_method_3_25) rfl (feq hc3).2 (by decide) (by decide) k) ?_
        show own_E p e below _ s₁ (mkF m 35 #[iv p1, .unset, .unset] [])
        refine own_st (fun t k => XS.iloadN X0.here hx rfl (hb hby own_d_method_3_35) rfl k) ?_
        show own_E p e below _ s₁ (mkF m 36 #[iv p1, .unset, .unset] [.int p1])
        refine own_st (fun t k => XS.iconst X0.here hx rfl (hb hby own_d_method_3_36) k) ?_
        show own_E p e below _ s₁ (mkF m 37 #[iv p1, .unset, .unset] [.int 3, .int p1])
        by_cases hc4 : p1 = (3 : Int32)
        · refine own_st (fun t k => XS.icmpNo X0.here hx rfl (hb hby own_d_method_3_37) rfl (teq hc4).2 k) ?_
          show own_E p e below _ s₁ (mkF m 40 #[iv p1, .unset, .unset] [])
          refine own_st (X0.ldc2Long hx hown (mvT hZ (own_w hw 11 rfl)) (g := (mkF m 40 #[iv p1, .unset, .unset] [])) rfl (hb hby own_d_method_3_40)) ?_
          show own_E p e below _ s₁ (mkF m 43 #[iv p1, .unset, .unset] [.long 1000])
          refine own_st (fun t k => XS.lstoreN X0.here hx rfl (hb hby own_d_method_3_43) rfl (l' := #[iv p1, .val (.long 1000), .second]) rfl k) ?_
          show own_E p e below _ s₁ (mkF m 44 #[iv p1, .val (.long 1000), .second] [])
          refine own_st (fun t k => XS.goto X0.here hx rfl (pc0 := 44) (pc' := 73) rfl (hb hby own_d_method_3_44) (by decide) (by decide) k) ?_
          show own_E p e below _ s₁ (mkF m 73 #[iv p1, .val (.long 1000), .second] [])
          refine own_st (fun t k => XS.lloadN X0.here hx rfl (hb hby own_d_method_3_73) rfl k) ?_
          show own_E p e below _ s₁ (mkF m 74 #[iv p1, .val (.long 1000), .second] [.long 1000])
          refine own_retJ X0 hx Bd.notSynchronized Bd.returns (hb hby own_d_method_3_74) (by decide) (by decide) ?_
          exact ⟨(Or.inr (Or.inr (Or.inr (Or.inl ⟨rfl, hc1, hc2, hc3, hc4⟩)))), e0, rfl⟩
        · refine own_st (fun t k => XS.icmpYes X0.here hx rfl (pc0 := 37) (pc' := 47) rfl (hb hby own_d_method_3_37) rfl (feq hc4).2 (by decide) (by decide) k) ?_
          show own_E p e below _ s₁ (mkF m 47 #[iv p1, .unset, .unset] [])
          refine own_st (fun t k => XS.iloadN X0.here hx rfl (hb hby own_d_method_3_47) rfl k) ?_
          show own_E p e below _ s₁ (mkF m 48 #[iv p1, .unset, .unset] [.int p1])
          refine own_st (fun t k => XS.iconst X0.here hx rfl (hb hby own_d_method_3_48) k) ?_
          show own_E p e below _ s₁ (mkF m 49 #[iv p1, .unset, .unset] [.int 4, .int p1])
          by_cases hc5 : p1 = (4 : Int32)
          · refine own_st (fun t k => XS.icmpNo X0.here hx rfl (hb hby own_d_method_3_49) rfl (teq hc5).2 k) ?_
            show own_E p e below _ s₁ (mkF m 52 #[iv p1, .unset, .unset] [])
            refine own_st (X0.ldc2Long hx hown (mvT hZ (own_w hw 13 rfl)) (g := (mkF m 52 #[iv p1, .unset, .unset] [])) rfl (hb hby own_d_method_3_52)) ?_
            show own_E p e below _ s₁ (mkF m 55 #[iv p1, .unset, .unset] [.long 100])
            refine own_st (fun t k => XS.lstoreN X0.here hx rfl (hb hby own_d_method_3_55) rfl (l' := #[iv p1, .val (.long 100), .second]) rfl k) ?_
            show own_E p e below _ s₁ (mkF m 56 #[iv p1, .val (.long 100), .second] [])
            refine own_st (fun t k => XS.goto X0.here hx rfl (pc0 := 56) (pc' := 73) rfl (hb hby own_d_method_3_56) (by decide) (by decide) k) ?_
            show own_E p e below _ s₁ (mkF m 73 #[iv p1, .val (.long 100), .second] [])
            refine own_st (fun t k => XS.lloadN X0.here hx rfl (hb hby own_d_method_3_73) rfl k) ?_
            show own_E p e below _ s₁ (mkF m 74 #[iv p1, .val (.long 100), .second] [.long 100])
            refine own_retJ X0 hx Bd.notSynchronized Bd.returns (hb hby own_d_method_3_74) (by decide) (by decide) ?_
            exact ⟨(Or.inr (Or.inr (Or.inr (Or.inr (Or.inl ⟨rfl, hc1, hc2, hc3, hc4, hc5⟩))))), e0, rfl⟩
          · refine own_st (fun t k => XS.icmpYes X0.here hx rfl (pc0 := 49) (pc' := 59) rfl (hb hby own_d_method_3_49) rfl (feq hc5).2 (by decide) (by decide) k) ?_
            show own_E p e below _ s₁ (mkF m 59 #[iv p1, .unset, .unset] [])
            refine own_st (fun t k => XS.iloadN X0.here hx rfl (hb hby own_d_method_3_59) rfl k) ?_
            show own_E p e below _ s₁ (mkF m 60 #[iv p1, .unset, .unset] [.int p1])
            refine own_st (fun t k => XS.iconst X0.here hx rfl (hb hby own_d_method_3_60) k) ?_
            show own_E p e below _ s₁ (mkF m 61 #[iv p1, .unset, .unset] [.int 5, .int p1])
            by_cases hc6 : p1 = (5 : Int32)
            · refine own_st (fun t k => XS.icmpNo X0.here hx rfl (hb hby own_d_method_3_61) rfl (teq hc6).2 k) ?_
              show own_E p e below _ s₁ (mkF m 64 #[iv p1, .unset, .unset] [])
              refine own_st (X0.ldc2Long hx hown (mvT hZ (own_w hw 12 rfl)) (g := (mkF m 64 #[iv p1, .unset, .unset] [])) rfl (hb hby own_d_method_3_64)) ?_
              show own_E p e below _ s₁ (mkF m 67 #[iv p1, .unset, .unset] [.long 10])
              refine own_st (fun t k => XS.lstoreN X0.here hx rfl (hb hby own_d_method_3_67) rfl (l' := #[iv p1, .val (.long 10), .second]) rfl k) ?_
              show own_E p e below _ s₁ (mkF m 68 #[iv p1, .val (.long 10), .second] [])
              refine own_st (fun t k => XS.goto X0.here hx rfl (pc0 := 68) (pc' := 73) rfl (hb hby own_d_method_3_68) (by decide) (by decide) k) ?_
              show own_E p e below _ s₁ (mkF m 73 #[iv p1, .val (.long 10), .second] [])
              refine own_st (fun t k => XS.lloadN X0.here hx rfl (hb hby own_d_method_3_73) rfl k) ?_
              show own_E p e below _ s₁ (mkF m 74 #[iv p1, .val (.long 10), .second] [.long 10])
              refine own_retJ X0 hx Bd.notSynchronized Bd.returns (hb hby own_d_method_3_74) (by decide) (by decide) ?_
              exact ⟨(Or.inr (Or.inr (Or.inr (Or.inr (Or.inr (Or.inl ⟨rfl, hc1, hc2, hc3, hc4, hc5, hc6⟩)))))), e0, rfl⟩
            · refine own_st (fun t k => XS.icmpYes X0.here hx rfl (pc0 := 61) (pc' := 71) rfl (hb hby own_d_method_3_61) rfl (feq hc6).2 (by decide) (by decide) k) ?_
              show own_E p e below _ s₁ (mkF m 71 #[iv p1, .unset, .unset] [])
              refine own_st (fun t k => XS.lconst X0.here hx rfl (hb hby own_d_method_3_71) k) ?_
              show own_E p e below _ s₁ (mkF m 72 #[iv p1, .unset, .unset] [.long 1])
              refine own_st (fun t k => XS.lstoreN X0.here hx rfl (hb hby own_d_method_3_72) rfl (l' := #[iv p1, .val (.long 1), .second]) rfl k) ?_
              show own_E p e below _ s₁ (mkF m 73 #[iv p1, .val (.long 1), .second] [])
              refine own_st (fun t k => XS.lloadN X0.here hx rfl (hb hby own_d_method_3_73) rfl k) ?_
              show own_E p e below _ s₁ (mkF m 74 #[iv p1, .val (.long 1), .second] [.long 1])
              refine own_retJ X0 hx Bd.notSynchronized Bd.returns (hb hby own_d_method_3_74) (by decide) (by decide) ?_
              exact ⟨(Or.inr (Or.inr (Or.inr (Or.inr (Or.inr (Or.inr ⟨rfl, hc1, hc2, hc3, hc4, hc5, hc6⟩)))))), e0, rfl⟩
theorem own_seven (x : Int32) : (x &&& (2147483647 : Int32)) % (7 : Int32) = 0 ∨ (x &&& (2147483647 : Int32)) % (7 : Int32) = 1 ∨ (x &&& (2147483647 : Int32)) % (7 : Int32) = 2 ∨ (x &&& (2147483647 : Int32)) % (7 : Int32) = 3 ∨ (x &&& (2147483647 : Int32)) % (7 : Int32) = 4 ∨ (x &&& (2147483647 : Int32)) % (7 : Int32) = 5 ∨ (x &&& (2147483647 : Int32)) % (7 : Int32) = 6 := by
  have h1 : (x &&& (2147483647 : Int32)).toInt = x.toInt % 2147483648 := c_mask x 2147483647 31 (by decide) (by decide)
  have h2 := c_irem (x &&& (2147483647 : Int32)) (7 : Int32) 7 rfl
  simp only [← Int32.toInt_inj]
  have k0 : (0 : Int32).toInt = 0 := rfl
  have k1 : (1 : Int32).toInt = 1 := rfl
  have k2 : (2 : Int32).toInt = 2 := rfl
  have k3 : (3 : Int32).toInt = 3 := rfl
  have k4 : (4 : Int32).toInt = 4 := rfl
  have k5 : (5 : Int32).toInt = 5 := rfl
  have k6 : (6 : Int32).toInt = 6 := rfl
  omega
theorem own_pd_0 : parseMethodDescriptor "(I)J" = some ⟨[.int], some .long⟩ := by decide +kernel
def own_law_Q (n0 : Nat) (v : Option Value) (h : Heap) (L : List Loc) : Prop := v = some (.int 1) ∧ Fr n0 L
theorem own_law_ef (m : MethodId) (p1 : Int32) : entryFrame m #[(.int p1)] maxLocals = mkF m 0 #[.val (.int p1), .unset] [] := by first | (simp [entryFrame, mkF, argsToLocals, Value.category, maxLocals]; done) | rfl
set_option maxRecDepth 65536 in
set_option maxHeartbeats 40000000 in
theorem own_law (l : Launch) (Z : State) (a0 : Array Value) (hw : ∀ d ∈ tables_1, d.before a0 Z = true) (ws : List Jvm.Cond) (p1 : Int32) (h0 : Heap) (n0 : Nat) (Z0 : n0 ≤ h0.size)  :
    MetFree l x (head1 (Jvm.Cond.code x code maxLocals ret :: ws) room_1) (fun a U => a = #[(.int p1)] ∧ Z.Warmed39 U.vm ∧ U.heap = h0) (fun _ _ _ _ _ => True) (fun _ U o U' => ∃ v L, o = .returned v ∧ own_law_Q n0 v U'.heap L ∧ FrameEnd U o U' L room_1.cells room_1.slots) := by
  refine MetFree.of_bodySF (plainFor_of_name own_pn_TemporalTypeResolutionPinLaw) hisR ?_
  intro p e s m args below meth c s₁ Bd hml0 hP hK
  obtain ⟨rfl, hZ, hh⟩ := hP
  have hx := Bd.exec
  have hby := Bd.bytes
  have hml : c.maxLocals = 2 := hml0
  have hown : s.vm.findClass "com/example/tight_fence/tightfence/engine/TemporalTypeResolutionPinLaw" = some m.cls := findClass_of_methodNamed Bd.named
  have hnm := (name_of_methodNamed Bd.named Bd.method).1
  have X0 : Stand p l e room_1 s m #[(.int p1)] below meth c s₁ [] 0 0 := Stand.of_body Bd
  have e0 : s₁.heap = h0 := by rw [← hh, Bd.state]; rfl
  show own_E p e below (own_K (own_law_Q n0) s room_1.cells room_1.slots) s₁ (entryFrame m #[(.int p1)] maxLocals)
  refine own_pre (own_law_ef m p1) ?_
  show own_E p e below _ s₁ (mkF m 0 #[iv p1, .unset] [])
  refine own_st (fun t k => XS.iloadN X0.here hx rfl (hb hby at_0) rfl k) ?_
  show own_E p e below _ s₁ (mkF m 1 #[iv p1, .unset] [.int p1])
  refine own_st (X0.ldcInt hx hown (mvT hZ (own_w hw 0 rfl)) (g := (mkF m 1 #[iv p1, .unset] [.int p1])) rfl (hb hby at_1)) ?_
  show own_E p e below _ s₁ (mkF m 3 #[iv p1, .unset] [.int 2147483647, .int p1])
  refine own_st (fun t k => XS.iand X0.here hx rfl (hb hby at_3) rfl k) ?_
  show own_E p e below _ s₁ (mkF m 4 #[iv p1, .unset] [.int (p1 &&& (2147483647 : Int32))])
  refine own_st (fun t k => XS.bipush X0.here hx rfl (hb hby at_4) k) ?_
  show own_E p e below _ s₁ (mkF m 6 #[iv p1, .unset] [.int 7, .int (p1 &&& (2147483647 : Int32))])
  refine own_st (fun t k => iremM X0 hx rfl (hb hby at_6) rfl (by decide) k) ?_
  show own_E p e below _ s₁ (mkF m 7 #[iv p1, .unset] [.int ((p1 &&& (2147483647 : Int32)) % (7 : Int32))])
  refine own_st (fun t k => XS.istoreN X0.here hx rfl (hb hby at_7) rfl (l' := #[iv p1, iv ((p1 &&& (2147483647 : Int32)) % (7 : Int32))]) rfl k) ?_
  show own_E p e below _ s₁ (mkF m 8 #[iv p1, iv ((p1 &&& (2147483647 : Int32)) % (7 : Int32))] [])
  rcases own_seven p1 with hs | hs | hs | hs | hs | hs | hs
  · rw [hs]
    show own_E p e below _ s₁ (mkF m 8 #[iv p1, iv 0] [])
    refine own_st (fun t k => XS.iloadN X0.here hx rfl (hb hby at_8) rfl k) ?_
    show own_E p e below _ s₁ (mkF m 9 #[iv p1, iv 0] [.int 0])
    obtain ⟨_, _, ⟨T1, L1, k1, n1⟩, -, X1, ⟨Lc1, hQ1, l1, y1, z1⟩, st1⟩ := Jvm.LawKit.callS X0 hx (y := own_y0) hown (mvT hZ (own_w hw 1 rfl)) (mvT hZ (own_w hw 2 rfl)) (mvT hZ (own_w hw 3 rfl)) (mvT hZ (own_w hw 4 rfl)) (by decide) (backOf (W := 0) (own_res0 l Z a0 hw []  h0 n0 Z0 ) hZ (own_w hw 4 rfl) (own_w hw 3 rfl) (by decide) (by decide)) (g := (mkF m 9 #[iv p1, iv 0] [.int 0])) rfl (by rw [hml]; rfl) (argsL := [(.int (0 : Int32))]) (rest := []) (lenOf own_pd_0 rfl) rfl (by show 2 * 0 + _ ≤ _; exact Nat.le_of_eq rfl) (hb hby at_9) (fun _ _ => ⟨rfl, e0, (by decide : 0 + 0 ≤ _), (by decide : 0 + 0 ≤ _)⟩)
    dsimp only [Pt.U, Pt.locs, Pt.cells, Pt.slots] at X1 l1 y1 z1 st1 hQ1
    subst l1 y1 z1
    obtain ⟨hR1, e1, rfl⟩ := hQ1
    obtain rfl := hR1
    refine own_st st1 ?_
    show own_E p e below _ T1 (mkF m 12 #[iv p1, iv 0] [.long 1000000])
    refine own_st (fun t k => XS.iloadN X1.here hx rfl (hb hby at_12) rfl k) ?_
    show own_E p e below _ T1 (mkF m 13 #[iv p1, iv 0] [.int 0, .long 1000000])
    obtain ⟨_, _, ⟨T2, L2, k2, n2⟩, -, X2, ⟨Lc2, hQ2, l2, y2, z2⟩, st2⟩ := Jvm.LawKit.callS X1 hx (y := own_y1) hown (mvT hZ (own_w hw 6 rfl)) (mvT hZ (own_w hw 7 rfl)) (mvT hZ (own_w hw 8 rfl)) (mvT hZ (own_w hw 9 rfl)) (by decide) (backOf (W := 2) (own_exp l Z a0 hw [] (0 : Int32) h0 n0 Z0 ) hZ (own_w hw 9 rfl) (own_w hw 8 rfl) (by decide) (by decide)) (g := (mkF m 13 #[iv p1, iv 0] [.int 0, .long 1000000])) rfl (by rw [hml]; rfl) (argsL := [(.int (0 : Int32))]) (rest := [(.long (1000000 : Int64))]) (lenOf own_pd_0 rfl) rfl (by show 2 * 0 + _ ≤ _; exact Nat.le_of_eq rfl) (hb hby at_13) (fun _ _ => ⟨rfl, e1, (by decide : 0 + 0 ≤ _), (by decide : 0 + 0 ≤ _)⟩)
    dsimp only [Pt.U, Pt.locs, Pt.cells, Pt.slots] at X2 l2 y2 z2 st2 hQ2
    subst l2 y2 z2
    obtain ⟨hR2, e2, rfl⟩ := hQ2
    rcases hR2 with ⟨rfl, ha2_0⟩ | ⟨rfl, ha2_0, ha2_1⟩ | ⟨rfl, ha2_0, ha2_1, ha2_2⟩ | ⟨rfl, ha2_0, ha2_1, ha2_2, ha2_3⟩ | ⟨rfl, ha2_0, ha2_1, ha2_2, ha2_3, ha2_4⟩ | ⟨rfl, ha2_0, ha2_1, ha2_2, ha2_3, ha2_4, ha2_5⟩ | ⟨rfl, ha2_0, ha2_1, ha2_2, ha2_3, ha2_4, ha2_5⟩
    · refine own_st st2 ?_
      show own_E p e below _ T2 (mkF m 16 #[iv p1, iv 0] [.long 1000000, .long 1000000])
      refine own_st (fun t k => XS.lcmp X2.here hx rfl (hb hby at_16) rfl k) ?_
      show own_E p e below _ T2 (mkF m 17 #[iv p1, iv 0] [.int (lcmpW (1000000 : Int64) (1000000 : Int64))])
      refine own_st (fun t k => XS.ifNo X2.here hx rfl (hb hby at_17) rfl ((if0 _ _).trans (teq ((lw_eq _ _).mpr (by decide))).2) k) ?_
      show own_E p e below _ T2 (mkF m 20 #[iv p1, iv 0] [])
      refine own_st (fun t k => XS.iconst X2.here hx rfl (hb hby at_20) k) ?_
      show own_E p e below _ T2 (mkF m 21 #[iv p1, iv 0] [.int 1])
      refine own_st (fun t k => XS.goto X2.here hx rfl (pc0 := 21) (pc' := 25) rfl (hb hby at_21) (by decide) (by decide) k) ?_
      show own_E p e below _ T2 (mkF m 25 #[iv p1, iv 0] [.int 1])
      refine own_retS X2 hx Bd.notSynchronized Bd.returns rfl (by decide) (hb hby at_25) (by decide) (by decide) ?_
      exact ⟨rfl, fun y hy => by simp at hy⟩
    · exact absurd ha2_0 (by decide)
    · exact absurd ha2_0 (by decide)
    · exact absurd ha2_0 (by decide)
    · exact absurd ha2_0 (by decide)
    · exact absurd ha2_0 (by decide)
    · exact absurd ha2_0 (by decide)
  · rw [hs]
    show own_E p e below _ s₁ (mkF m 8 #[iv p1, iv 1] [])
    refine own_st (fun t k => XS.iloadN X0.here hx rfl (hb hby at_8) rfl k) ?_
    show own_E p e below _ s₁ (mkF m 9 #[iv p1, iv 1] [.int 1])
    obtain ⟨_, _, ⟨T3, L3, k3, n3⟩, -, X3, ⟨Lc3, hQ3, l3, y3, z3⟩, st3⟩ := Jvm.LawKit.callS X0 hx (y := own_y0) hown (mvT hZ (own_w hw 1 rfl)) (mvT hZ (own_w hw 2 rfl)) (mvT hZ (own_w hw 3 rfl)) (mvT hZ (own_w hw 4 rfl)) (by decide) (backOf (W := 0) (own_res1 l Z a0 hw []  h0 n0 Z0 ) hZ (own_w hw 4 rfl) (own_w hw 3 rfl) (by decide) (by decide)) (g := (mkF m 9 #[iv p1, iv 1] [.int 1])) rfl (by rw [hml]; rfl) (argsL := [(.int (1 : Int32))]) (rest := []) (lenOf own_pd_0 rfl) rfl (by show 2 * 0 + _ ≤ _; exact Nat.le_of_eq rfl) (hb hby at_9) (fun _ _ => ⟨rfl, e0, (by decide : 0 + 0 ≤ _), (by decide : 0 + 0 ≤ _)⟩)
    dsimp only [Pt.U, Pt.locs, Pt.cells, Pt.slots] at X3 l3 y3 z3 st3 hQ3
    subst l3 y3 z3
    obtain ⟨hR3, e3, rfl⟩ := hQ3
    obtain rfl := hR3
    refine own_st st3 ?_
    show own_E p e below _ T3 (mkF m 12 #[iv p1, iv 1] [.long 100000])
    refine own_st (fun t k => XS.iloadN X3.here hx rfl (hb hby at_12) rfl k) ?_
    show own_E p e below _ T3 (mkF m 13 #[iv p1, iv 1] [.int 1, .long 100000])
    obtain ⟨_, _, ⟨T4, L4, k4, n4⟩, -, X4, ⟨Lc4, hQ4, l4, y4, z4⟩, st4⟩ := Jvm.LawKit.callS X3 hx (y := own_y1) hown (mvT hZ (own_w hw 6 rfl)) (mvT hZ (own_w hw 7 rfl)) (mvT hZ (own_w hw 8 rfl)) (mvT hZ (own_w hw 9 rfl)) (by decide) (backOf (W := 2) (own_exp l Z a0 hw [] (1 : Int32) h0 n0 Z0 ) hZ (own_w hw 9 rfl) (own_w hw 8 rfl) (by decide) (by decide)) (g := (mkF m 13 #[iv p1, iv 1] [.int 1, .long 100000])) rfl (by rw [hml]; rfl) (argsL := [(.int (1 : Int32))]) (rest := [(.long (100000 : Int64))]) (lenOf own_pd_0 rfl) rfl (by show 2 * 0 + _ ≤ _; exact Nat.le_of_eq rfl) (hb hby at_13) (fun _ _ => ⟨rfl, e3, (by decide : 0 + 0 ≤ _), (by decide : 0 + 0 ≤ _)⟩)
    dsimp only [Pt.U, Pt.locs, Pt.cells, Pt.slots] at X4 l4 y4 z4 st4 hQ4
    subst l4 y4 z4
    obtain ⟨hR4, e4, rfl⟩ := hQ4
    rcases hR4 with ⟨rfl, ha4_0⟩ | ⟨rfl, ha4_0, ha4_1⟩ | ⟨rfl, ha4_0, ha4_1, ha4_2⟩ | ⟨rfl, ha4_0, ha4_1, ha4_2, ha4_3⟩ | ⟨rfl, ha4_0, ha4_1, ha4_2, ha4_3, ha4_4⟩ | ⟨rfl, ha4_0, ha4_1, ha4_2, ha4_3, ha4_4, ha4_5⟩ | ⟨rfl, ha4_0, ha4_1, ha4_2, ha4_3, ha4_4, ha4_5⟩
    · exact absurd ha4_0 (by decide)
    · refine own_st st4 ?_
      show own_E p e below _ T4 (mkF m 16 #[iv p1, iv 1] [.long 100000, .long 100000])
      refine own_st (fun t k => XS.lcmp X4.here hx rfl (hb hby at_16) rfl k) ?_
      show own_E p e below _ T4 (mkF m 17 #[iv p1, iv 1] [.int (lcmpW (100000 : Int64) (100000 : Int64))])
      refine own_st (fun t k => XS.ifNo X4.here hx rfl (hb hby at_17) rfl ((if0 _ _).trans (teq ((lw_eq _ _).mpr (by decide))).2) k) ?_
      show own_E p e below _ T4 (mkF m 20 #[iv p1, iv 1] [])
      refine own_st (fun t k => XS.iconst X4.here hx rfl (hb hby at_20) k) ?_
      show own_E p e below _ T4 (mkF m 21 #[iv p1, iv 1] [.int 1])
      refine own_st (fun t k => XS.goto X4.here hx rfl (pc0 := 21) (pc' := 25) rfl (hb hby at_21) (by decide) (by decide) k) ?_
      show own_E p e below _ T4 (mkF m 25 #[iv p1, iv 1] [.int 1])
      refine own_retS X4 hx Bd.notSynchronized Bd.returns rfl (by decide) (hb hby at_25) (by decide) (by decide) ?_
      exact ⟨rfl, fun y hy => by simp at hy⟩
    · exact absurd ha4_1 (by decide)
    · exact absurd ha4_1 (by decide)
    · exact absurd ha4_1 (by decide)
    · exact absurd ha4_1 (by decide)
    · exact absurd ha4_1 (by decide)
  · rw [hs]
    show own_E p e below _ s₁ (mkF m 8 #[iv p1, iv 2] [])
    refine own_st (fun t k => XS.iloadN X0.here hx rfl (hb hby at_8) rfl k) ?_
    show own_E p e below _ s₁ (mkF m 9 #[iv p1, iv 2] [.int 2])
    obtain ⟨_, _, ⟨T5, L5, k5, n5⟩, -, X5, ⟨Lc5, hQ5, l5, y5, z5⟩, st5⟩ := Jvm.LawKit.callS X0 hx (y := own_y0) hown (mvT hZ (own_w hw 1 rfl)) (mvT hZ (own_w hw 2 rfl)) (mvT hZ (own_w hw 3 rfl)) (mvT hZ (own_w hw 4 rfl)) (by decide) (backOf (W := 0) (own_res2 l Z a0 hw []  h0 n0 Z0 ) hZ (own_w hw 4 rfl) (own_w hw 3 rfl) (by decide) (by decide)) (g := (mkF m 9 #[iv p1, iv 2] [.int 2])) rfl (by rw [hml]; rfl) (argsL := [(.int (2 : Int32))]) (rest := []) (lenOf own_pd_0 rfl) rfl (by show 2 * 0 + _ ≤ _; exact Nat.le_of_eq rfl) (hb hby at_9) (fun _ _ => ⟨rfl, e0, (by decide : 0 + 0 ≤ _), (by decide : 0 + 0 ≤ _)⟩)
    dsimp only [Pt.U, Pt.locs, Pt.cells, Pt.slots] at X5 l5 y5 z5 st5 hQ5
    subst l5 y5 z5
    obtain ⟨hR5, e5, rfl⟩ := hQ5
    obtain rfl := hR5
    refine own_st st5 ?_
    show own_E p e below _ T5 (mkF m 12 #[iv p1, iv 2] [.long 10000])
    refine own_st (fun t k => XS.iloadN X5.here hx rfl (hb hby at_12) rfl k) ?_
    show own_E p e below _ T5 (mkF m 13 #[iv p1, iv 2] [.int 2, .long 10000])
    obtain ⟨_, _, ⟨T6, L6, k6, n6⟩, -, X6, ⟨Lc6, hQ6, l6, y6, z6⟩, st6⟩ := Jvm.LawKit.callS X5 hx (y := own_y1) hown (mvT hZ (own_w hw 6 rfl)) (mvT hZ (own_w hw 7 rfl)) (mvT hZ (own_w hw 8 rfl)) (mvT hZ (own_w hw 9 rfl)) (by decide) (backOf (W := 2) (own_exp l Z a0 hw [] (2 : Int32) h0 n0 Z0 ) hZ (own_w hw 9 rfl) (own_w hw 8 rfl) (by decide) (by decide)) (g := (mkF m 13 #[iv p1, iv 2] [.int 2, .long 10000])) rfl (by rw [hml]; rfl) (argsL := [(.int (2 : Int32))]) (rest := [(.long (10000 : Int64))]) (lenOf own_pd_0 rfl) rfl (by show 2 * 0 + _ ≤ _; exact Nat.le_of_eq rfl) (hb hby at_13) (fun _ _ => ⟨rfl, e5, (by decide : 0 + 0 ≤ _), (by decide : 0 + 0 ≤ _)⟩)
    dsimp only [Pt.U, Pt.locs, Pt.cells, Pt.slots] at X6 l6 y6 z6 st6 hQ6
    subst l6 y6 z6
    obtain ⟨hR6, e6, rfl⟩ := hQ6
    rcases hR6 with ⟨rfl, ha6_0⟩ | ⟨rfl, ha6_0, ha6_1⟩ | ⟨rfl, ha6_0, ha6_1, ha6_2⟩ | ⟨rfl, ha6_0, ha6_1, ha6_2, ha6_3⟩ | ⟨rfl, ha6_0, ha6_1, ha6_2, ha6_3, ha6_4⟩ | ⟨rfl, ha6_0, ha6_1, ha6_2, ha6_3, ha6_4, ha6_5⟩ | ⟨rfl, ha6_0, ha6_1, ha6_2, ha6_3, ha6_4, ha6_5⟩
    · exact absurd ha6_0 (by decide)
    · exact absurd ha6_1 (by decide)
    · refine own_st st6 ?_
      show own_E p e below _ T6 (mkF m 16 #[iv p1, iv 2] [.long 10000, .long 10000])
      refine own_st (fun t k => XS.lcmp X6.here hx rfl (hb hby at_16) rfl k) ?_
      show own_E p e below _ T6 (mkF m 17 #[iv p1, iv 2] [.int (lcmpW (10000 : Int64) (10000 : Int64))])
      refine own_st (fun t k => XS.ifNo X6.here hx rfl (hb hby at_17) rfl ((if0 _ _).trans (teq ((lw_eq _ _).mpr (by decide))).2) k) ?_
      show own_E p e below _ T6 (mkF m 20 #[iv p1, iv 2] [])
      refine own_st (fun t k => XS.iconst X6.here hx rfl (hb hby at_20) k) ?_
      show own_E p e below _ T6 (mkF m 21 #[iv p1, iv 2] [.int 1])
      refine own_st (fun t k => XS.goto X6.here hx rfl (pc0 := 21) (pc' := 25) rfl (hb hby at_21) (by decide) (by decide) k) ?_
      show own_E p e below _ T6 (mkF m 25 #[iv p1, iv 2] [.int 1])
      refine own_retS X6 hx Bd.notSynchronized Bd.returns rfl (by decide) (hb hby at_25) (by decide) (by decide) ?_
      exact ⟨rfl, fun y hy => by simp at hy⟩
    · exact absurd ha6_2 (by decide)
    · exact absurd ha6_2 (by decide)
    · exact absurd ha6_2 (by decide)
    · exact absurd ha6_2 (by decide)
  · rw [hs]
    show own_E p e below _ s₁ (mkF m 8 #[iv p1, iv 3] [])
    refine own_st (fun t k => XS.iloadN X0.here hx rfl (hb hby at_8) rfl k) ?_
    show own_E p e below _ s₁ (mkF m 9 #[iv p1, iv 3] [.int 3])
    obtain ⟨_, _, ⟨T7, L7, k7, n7⟩, -, X7, ⟨Lc7, hQ7, l7, y7, z7⟩, st7⟩ := Jvm.LawKit.callS X0 hx (y := own_y0) hown (mvT hZ (own_w hw 1 rfl)) (mvT hZ (own_w hw 2 rfl)) (mvT hZ (own_w hw 3 rfl)) (mvT hZ (own_w hw 4 rfl)) (by decide) (backOf (W := 0) (own_res3 l Z a0 hw []  h0 n0 Z0 ) hZ (own_w hw 4 rfl) (own_w hw 3 rfl) (by decide) (by decide)) (g := (mkF m 9 #[iv p1, iv 3] [.int 3])) rfl (by rw [hml]; rfl) (argsL := [(.int (3 : Int32))]) (rest := []) (lenOf own_pd_0 rfl) rfl (by show 2 * 0 + _ ≤ _; exact Nat.le_of_eq rfl) (hb hby at_9) (fun _ _ => ⟨rfl, e0, (by decide : 0 + 0 ≤ _), (by decide : 0 + 0 ≤ _)⟩)
    dsimp only [Pt.U, Pt.locs, Pt.cells, Pt.slots] at X7 l7 y7 z7 st7 hQ7
    subst l7 y7 z7
    obtain ⟨hR7, e7, rfl⟩ := hQ7
    obtain rfl := hR7
    refine own_st st7 ?_
    show own_E p e below _ T7 (mkF m 12 #[iv p1, iv 3] [.long 1000])
    refine own_st (fun t k => XS.iloadN X7.here hx rfl (hb hby at_12) rfl k) ?_
    show own_E p e below _ T7 (mkF m 13 #[iv p1, iv 3] [.int 3, .long 1000])
    obtain ⟨_, _, ⟨T8, L8, k8, n8⟩, -, X8, ⟨Lc8, hQ8, l8, y8, z8⟩, st8⟩ := Jvm.LawKit.callS X7 hx (y := own_y1) hown (mvT hZ (own_w hw 6 rfl)) (mvT hZ (own_w hw 7 rfl)) (mvT hZ (own_w hw 8 rfl)) (mvT hZ (own_w hw 9 rfl)) (by decide) (backOf (W := 2) (own_exp l Z a0 hw [] (3 : Int32) h0 n0 Z0 ) hZ (own_w hw 9 rfl) (own_w hw 8 rfl) (by decide) (by decide)) (g := (mkF m 13 #[iv p1, iv 3] [.int 3, .long 1000])) rfl (by rw [hml]; rfl) (argsL := [(.int (3 : Int32))]) (rest := [(.long (1000 : Int64))]) (lenOf own_pd_0 rfl) rfl (by show 2 * 0 + _ ≤ _; exact Nat.le_of_eq rfl) (hb hby at_13) (fun _ _ => ⟨rfl, e7, (by decide : 0 + 0 ≤ _), (by decide : 0 + 0 ≤ _)⟩)
    dsimp only [Pt.U, Pt.locs, Pt.cells, Pt.slots] at X8 l8 y8 z8 st8 hQ8
    subst l8 y8 z8
    obtain ⟨hR8, e8, rfl⟩ := hQ8
    rcases hR8 with ⟨rfl, ha8_0⟩ | ⟨rfl, ha8_0, ha8_1⟩ | ⟨rfl, ha8_0, ha8_1, ha8_2⟩ | ⟨rfl, ha8_0, ha8_1, ha8_2, ha8_3⟩ | ⟨rfl, ha8_0, ha8_1, ha8_2, ha8_3, ha8_4⟩ | ⟨rfl, ha8_0, ha8_1, ha8_2, ha8_3, ha8_4, ha8_5⟩ | ⟨rfl, ha8_0, ha8_1, ha8_2, ha8_3, ha8_4, ha8_5⟩
    · exact absurd ha8_0 (by decide)
    · exact absurd ha8_1 (by decide)
    · exact absurd ha8_2 (by decide)
    · refine own_st st8 ?_
      show own_E p e below _ T8 (mkF m 16 #[iv p1, iv 3] [.long 1000, .long 1000])
      refine own_st (fun t k => XS.lcmp X8.here hx rfl (hb hby at_16) rfl k) ?_
      show own_E p e below _ T8 (mkF m 17 #[iv p1, iv 3] [.int (lcmpW (1000 : Int64) (1000 : Int64))])
      refine own_st (fun t k => XS.ifNo X8.here hx rfl (hb hby at_17) rfl ((if0 _ _).trans (teq ((lw_eq _ _).mpr (by decide))).2) k) ?_
      show own_E p e below _ T8 (mkF m 20 #[iv p1, iv 3] [])
      refine own_st (fun t k => XS.iconst X8.here hx rfl (hb hby at_20) k) ?_
      show own_E p e below _ T8 (mkF m 21 #[iv p1, iv 3] [.int 1])
      refine own_st (fun t k => XS.goto X8.here hx rfl (pc0 := 21) (pc' := 25) rfl (hb hby at_21) (by decide) (by decide) k) ?_
      show own_E p e below _ T8 (mkF m 25 #[iv p1, iv 3] [.int 1])
      refine own_retS X8 hx Bd.notSynchronized Bd.returns rfl (by decide) (hb hby at_25) (by decide) (by decide) ?_
      exact ⟨rfl, fun y hy => by simp at hy⟩
    · exact absurd ha8_3 (by decide)
    · exact absurd ha8_3 (by decide)
    · exact absurd ha8_3 (by decide)
  · rw [hs]
    show own_E p e below _ s₁ (mkF m 8 #[iv p1, iv 4] [])
    refine own_st (fun t k => XS.iloadN X0.here hx rfl (hb hby at_8) rfl k) ?_
    show own_E p e below _ s₁ (mkF m 9 #[iv p1, iv 4] [.int 4])
    obtain ⟨_, _, ⟨T9, L9, k9, n9⟩, -, X9, ⟨Lc9, hQ9, l9, y9, z9⟩, st9⟩ := Jvm.LawKit.callS X0 hx (y := own_y0) hown (mvT hZ (own_w hw 1 rfl)) (mvT hZ (own_w hw 2 rfl)) (mvT hZ (own_w hw 3 rfl)) (mvT hZ (own_w hw 4 rfl)) (by decide) (backOf (W := 0) (own_res4 l Z a0 hw []  h0 n0 Z0 ) hZ (own_w hw 4 rfl) (own_w hw 3 rfl) (by decide) (by decide)) (g := (mkF m 9 #[iv p1, iv 4] [.int 4])) rfl (by rw [hml]; rfl) (argsL := [(.int (4 : Int32))]) (rest := []) (lenOf own_pd_0 rfl) rfl (by show 2 * 0 + _ ≤ _; exact Nat.le_of_eq rfl) (hb hby at_9) (fun _ _ => ⟨rfl, e0, (by decide : 0 + 0 ≤ _), (by decide : 0 + 0 ≤ _)⟩)
    dsimp only [Pt.U, Pt.locs, Pt.cells, Pt.slots] at X9 l9 y9 z9 st9 hQ9
    subst l9 y9 z9
    obtain ⟨hR9, e9, rfl⟩ := hQ9
    obtain rfl := hR9
    refine own_st st9 ?_
    show own_E p e below _ T9 (mkF m 12 #[iv p1, iv 4] [.long 100])
    refine own_st (fun t k => XS.iloadN X9.here hx rfl (hb hby at_12) rfl k) ?_
    show own_E p e below _ T9 (mkF m 13 #[iv p1, iv 4] [.int 4, .long 100])
    obtain ⟨_, _, ⟨T10, L10, k10, n10⟩, -, X10, ⟨Lc10, hQ10, l10, y10, z10⟩, st10⟩ := Jvm.LawKit.callS X9 hx (y := own_y1) hown (mvT hZ (own_w hw 6 rfl)) (mvT hZ (own_w hw 7 rfl)) (mvT hZ (own_w hw 8 rfl)) (mvT hZ (own_w hw 9 rfl)) (by decide) (backOf (W := 2) (own_exp l Z a0 hw [] (4 : Int32) h0 n0 Z0 ) hZ (own_w hw 9 rfl) (own_w hw 8 rfl) (by decide) (by decide)) (g := (mkF m 13 #[iv p1, iv 4] [.int 4, .long 100])) rfl (by rw [hml]; rfl) (argsL := [(.int (4 : Int32))]) (rest := [(.long (100 : Int64))]) (lenOf own_pd_0 rfl) rfl (by show 2 * 0 + _ ≤ _; exact Nat.le_of_eq rfl) (hb hby at_13) (fun _ _ => ⟨rfl, e9, (by decide : 0 + 0 ≤ _), (by decide : 0 + 0 ≤ _)⟩)
    dsimp only [Pt.U, Pt.locs, Pt.cells, Pt.slots] at X10 l10 y10 z10 st10 hQ10
    subst l10 y10 z10
    obtain ⟨hR10, e10, rfl⟩ := hQ10
    rcases hR10 with ⟨rfl, ha10_0⟩ | ⟨rfl, ha10_0, ha10_1⟩ | ⟨rfl, ha10_0, ha10_1, ha10_2⟩ | ⟨rfl, ha10_0, ha10_1, ha10_2, ha10_3⟩ | ⟨rfl, ha10_0, ha10_1, ha10_2, ha10_3, ha10_4⟩ | ⟨rfl, ha10_0, ha10_1, ha10_2, ha10_3, ha10_4, ha10_5⟩ | ⟨rfl, ha10_0, ha10_1, ha10_2, ha10_3, ha10_4, ha10_5⟩
    · exact absurd ha10_0 (by decide)
    · exact absurd ha10_1 (by decide)
    · exact absurd ha10_2 (by decide)
    · exact absurd ha10_3 (by decide)
    · refine own_st st10 ?_
      show own_E p e below _ T10 (mkF m 16 #[iv p1, iv 4] [.long 100, .long 100])
      refine own_st (fun t k => XS.lcmp X10.here hx rfl (hb hby at_16) rfl k) ?_
      show own_E p e below _ T10 (mkF m 17 #[iv p1, iv 4] [.int (lcmpW (100 : Int64) (100 : Int64))])
      refine own_st (fun t k => XS.ifNo X10.here hx rfl (hb hby at_17) rfl ((if0 _ _).trans (teq ((lw_eq _ _).mpr (by decide))).2) k) ?_
      show own_E p e below _ T10 (mkF m 20 #[iv p1, iv 4] [])
      refine own_st (fun t k => XS.iconst X10.here hx rfl (hb hby at_20) k) ?_
      show own_E p e below _ T10 (mkF m 21 #[iv p1, iv 4] [.int 1])
      refine own_st (fun t k => XS.goto X10.here hx rfl (pc0 := 21) (pc' := 25) rfl (hb hby at_21) (by decide) (by decide) k) ?_
      show own_E p e below _ T10 (mkF m 25 #[iv p1, iv 4] [.int 1])
      refine own_retS X10 hx Bd.notSynchronized Bd.returns rfl (by decide) (hb hby at_25) (by decide) (by decide) ?_
      exact ⟨rfl, fun y hy => by simp at hy⟩
    · exact absurd ha10_4 (by decide)
    · exact absurd ha10_4 (by decide)
  · rw [hs]
    show own_E p e below _ s₁ (mkF m 8 #[iv p1, iv 5] [])
    refine own_st (fun t k => XS.iloadN X0.here hx rfl (hb hby at_8) rfl k) ?_
    show own_E p e below _ s₁ (mkF m 9 #[iv p1, iv 5] [.int 5])
    obtain ⟨_, _, ⟨T11, L11, k11, n11⟩, -, X11, ⟨Lc11, hQ11, l11, y11, z11⟩, st11⟩ := Jvm.LawKit.callS X0 hx (y := own_y0) hown (mvT hZ (own_w hw 1 rfl)) (mvT hZ (own_w hw 2 rfl)) (mvT hZ (own_w hw 3 rfl)) (mvT hZ (own_w hw 4 rfl)) (by decide) (backOf (W := 0) (own_res5 l Z a0 hw []  h0 n0 Z0 ) hZ (own_w hw 4 rfl) (own_w hw 3 rfl) (by decide) (by decide)) (g := (mkF m 9 #[iv p1, iv 5] [.int 5])) rfl (by rw [hml]; rfl) (argsL := [(.int (5 : Int32))]) (rest := []) (lenOf own_pd_0 rfl) rfl (by show 2 * 0 + _ ≤ _; exact Nat.le_of_eq rfl) (hb hby at_9) (fun _ _ => ⟨rfl, e0, (by decide : 0 + 0 ≤ _), (by decide : 0 + 0 ≤ _)⟩)
    dsimp only [Pt.U, Pt.locs, Pt.cells, Pt.slots] at X11 l11 y11 z11 st11 hQ11
    subst l11 y11 z11
    obtain ⟨hR11, e11, rfl⟩ := hQ11
    obtain rfl := hR11
    refine own_st st11 ?_
    show own_E p e below _ T11 (mkF m 12 #[iv p1, iv 5] [.long 10])
    refine own_st (fun t k => XS.iloadN X11.here hx rfl (hb hby at_12) rfl k) ?_
    show own_E p e below _ T11 (mkF m 13 #[iv p1, iv 5] [.int 5, .long 10])
    obtain ⟨_, _, ⟨T12, L12, k12, n12⟩, -, X12, ⟨Lc12, hQ12, l12, y12, z12⟩, st12⟩ := Jvm.LawKit.callS X11 hx (y := own_y1) hown (mvT hZ (own_w hw 6 rfl)) (mvT hZ (own_w hw 7 rfl)) (mvT hZ (own_w hw 8 rfl)) (mvT hZ (own_w hw 9 rfl)) (by decide) (backOf (W := 2) (own_exp l Z a0 hw [] (5 : Int32) h0 n0 Z0 ) hZ (own_w hw 9 rfl) (own_w hw 8 rfl) (by decide) (by decide)) (g := (mkF m 13 #[iv p1, iv 5] [.int 5, .long 10])) rfl (by rw [hml]; rfl) (argsL := [(.int (5 : Int32))]) (rest := [(.long (10 : Int64))]) (lenOf own_pd_0 rfl) rfl (by show 2 * 0 + _ ≤ _; exact Nat.le_of_eq rfl) (hb hby at_13) (fun _ _ => ⟨rfl, e11, (by decide : 0 + 0 ≤ _), (by decide : 0 + 0 ≤ _)⟩)
    dsimp only [Pt.U, Pt.locs, Pt.cells, Pt.slots] at X12 l12 y12 z12 st12 hQ12
    subst l12 y12 z12
    obtain ⟨hR12, e12, rfl⟩ := hQ12
    rcases hR12 with ⟨rfl, ha12_0⟩ | ⟨rfl, ha12_0, ha12_1⟩ | ⟨rfl, ha12_0, ha12_1, ha12_2⟩ | ⟨rfl, ha12_0, ha12_1, ha12_2, ha12_3⟩ | ⟨rfl, ha12_0, ha12_1, ha12_2, ha12_3, ha12_4⟩ | ⟨rfl, ha12_0, ha12_1, ha12_2, ha12_3, ha12_4, ha12_5⟩ | ⟨rfl, ha12_0, ha12_1, ha12_2, ha12_3, ha12_4, ha12_5⟩
    · exact absurd ha12_0 (by decide)
    · exact absurd ha12_1 (by decide)
    · exact absurd ha12_2 (by decide)
    · exact absurd ha12_3 (by decide)
    · exact absurd ha12_4 (by decide)
    · refine own_st st12 ?_
      show own_E p e below _ T12 (mkF m 16 #[iv p1, iv 5] [.long 10, .long 10])
      refine own_st (fun t k => XS.lcmp X12.here hx rfl (hb hby at_16) rfl k) ?_
      show own_E p e below _ T12 (mkF m 17 #[iv p1, iv 5] [.int (lcmpW (10 : Int64) (10 : Int64))])
      refine own_st (fun t k => XS.ifNo X12.here hx rfl (hb hby at_17) rfl ((if0 _ _).trans (teq ((lw_eq _ _).mpr (by decide))).2) k) ?_
      show own_E p e below _ T12 (mkF m 20 #[iv p1, iv 5] [])
      refine own_st (fun t k => XS.iconst X12.here hx rfl (hb hby at_20) k) ?_
      show own_E p e below _ T12 (mkF m 21 #[iv p1, iv 5] [.int 1])
      refine own_st (fun t k => XS.goto X12.here hx rfl (pc0 := 21) (pc' := 25) rfl (hb hby at_21) (by decide) (by decide) k) ?_
      show own_E p e below _ T12 (mkF m 25 #[iv p1, iv 5] [.int 1])
      refine own_retS X12 hx Bd.notSynchronized Bd.returns rfl (by decide) (hb hby at_25) (by decide) (by decide) ?_
      exact ⟨rfl, fun y hy => by simp at hy⟩
    · exact absurd ha12_5 (by decide)
  · rw [hs]
    show own_E p e below _ s₁ (mkF m 8 #[iv p1, iv 6] [])
    refine own_st (fun t k => XS.iloadN X0.here hx rfl (hb hby at_8) rfl k) ?_
    show own_E p e below _ s₁ (mkF m 9 #[iv p1, iv 6] [.int 6])
    obtain ⟨_, _, ⟨T13, L13, k13, n13⟩, -, X13, ⟨Lc13, hQ13, l13, y13, z13⟩, st13⟩ := Jvm.LawKit.callS X0 hx (y := own_y0) hown (mvT hZ (own_w hw 1 rfl)) (mvT hZ (own_w hw 2 rfl)) (mvT hZ (own_w hw 3 rfl)) (mvT hZ (own_w hw 4 rfl)) (by decide) (backOf (W := 0) (own_res6 l Z a0 hw []  h0 n0 Z0 ) hZ (own_w hw 4 rfl) (own_w hw 3 rfl) (by decide) (by decide)) (g := (mkF m 9 #[iv p1, iv 6] [.int 6])) rfl (by rw [hml]; rfl) (argsL := [(.int (6 : Int32))]) (rest := []) (lenOf own_pd_0 rfl) rfl (by show 2 * 0 + _ ≤ _; exact Nat.le_of_eq rfl) (hb hby at_9) (fun _ _ => ⟨rfl, e0, (by decide : 0 + 0 ≤ _), (by decide : 0 + 0 ≤ _)⟩)
    dsimp only [Pt.U, Pt.locs, Pt.cells, Pt.slots] at X13 l13 y13 z13 st13 hQ13
    subst l13 y13 z13
    obtain ⟨hR13, e13, rfl⟩ := hQ13
    obtain rfl := hR13
    refine own_st st13 ?_
    show own_E p e below _ T13 (mkF m 12 #[iv p1, iv 6] [.long 1])
    refine own_st (fun t k => XS.iloadN X13.here hx rfl (hb hby at_12) rfl k) ?_
    show own_E p e below _ T13 (mkF m 13 #[iv p1, iv 6] [.int 6, .long 1])
    obtain ⟨_, _, ⟨T14, L14, k14, n14⟩, -, X14, ⟨Lc14, hQ14, l14, y14, z14⟩, st14⟩ := Jvm.LawKit.callS X13 hx (y := own_y1) hown (mvT hZ (own_w hw 6 rfl)) (mvT hZ (own_w hw 7 rfl)) (mvT hZ (own_w hw 8 rfl)) (mvT hZ (own_w hw 9 rfl)) (by decide) (backOf (W := 2) (own_exp l Z a0 hw [] (6 : Int32) h0 n0 Z0 ) hZ (own_w hw 9 rfl) (own_w hw 8 rfl) (by decide) (by decide)) (g := (mkF m 13 #[iv p1, iv 6] [.int 6, .long 1])) rfl (by rw [hml]; rfl) (argsL := [(.int (6 : Int32))]) (rest := [(.long (1 : Int64))]) (lenOf own_pd_0 rfl) rfl (by show 2 * 0 + _ ≤ _; exact Nat.le_of_eq rfl) (hb hby at_13) (fun _ _ => ⟨rfl, e13, (by decide : 0 + 0 ≤ _), (by decide : 0 + 0 ≤ _)⟩)
    dsimp only [Pt.U, Pt.locs, Pt.cells, Pt.slots] at X14 l14 y14 z14 st14 hQ14
    subst l14 y14 z14
    obtain ⟨hR14, e14, rfl⟩ := hQ14
    rcases hR14 with ⟨rfl, ha14_0⟩ | ⟨rfl, ha14_0, ha14_1⟩ | ⟨rfl, ha14_0, ha14_1, ha14_2⟩ | ⟨rfl, ha14_0, ha14_1, ha14_2, ha14_3⟩ | ⟨rfl, ha14_0, ha14_1, ha14_2, ha14_3, ha14_4⟩ | ⟨rfl, ha14_0, ha14_1, ha14_2, ha14_3, ha14_4, ha14_5⟩ | ⟨rfl, ha14_0, ha14_1, ha14_2, ha14_3, ha14_4, ha14_5⟩
    · exact absurd ha14_0 (by decide)
    · exact absurd ha14_1 (by decide)
    · exact absurd ha14_2 (by decide)
    · exact absurd ha14_3 (by decide)
    · exact absurd ha14_4 (by decide)
    · exact absurd ha14_5 (by decide)
    · refine own_st st14 ?_
      show own_E p e below _ T14 (mkF m 16 #[iv p1, iv 6] [.long 1, .long 1])
      refine own_st (fun t k => XS.lcmp X14.here hx rfl (hb hby at_16) rfl k) ?_
      show own_E p e below _ T14 (mkF m 17 #[iv p1, iv 6] [.int (lcmpW (1 : Int64) (1 : Int64))])
      refine own_st (fun t k => XS.ifNo X14.here hx rfl (hb hby at_17) rfl ((if0 _ _).trans (teq ((lw_eq _ _).mpr (by decide))).2) k) ?_
      show own_E p e below _ T14 (mkF m 20 #[iv p1, iv 6] [])
      refine own_st (fun t k => XS.iconst X14.here hx rfl (hb hby at_20) k) ?_
      show own_E p e below _ T14 (mkF m 21 #[iv p1, iv 6] [.int 1])
      refine own_st (fun t k => XS.goto X14.here hx rfl (pc0 := 21) (pc' := 25) rfl (hb hby at_21) (by decide) (by decide) k) ?_
      show own_E p e below _ T14 (mkF m 25 #[iv p1, iv 6] [.int 1])
      refine own_retS X14 hx Bd.notSynchronized Bd.returns rfl (by decide) (hb hby at_25) (by decide) (by decide) ?_
      exact ⟨rfl, fun y hy => by simp at hy⟩
set_option maxRecDepth 65536 in
set_option maxHeartbeats 40000000 in
theorem comes_1 {Post : Tables → Env → Array Value → State → Outcome → State → Prop} (hpost : ∀ tb e args s v u, (limb_1_1.after args s (.returned v) u = true ∧ limb_1_2.after args s (.returned v) u = true ∧ True) → FrameEnd s (.returned v) u (Jvm.fieldLocs frame_1_writes args s ++ Jvm.arrayLocs frame_1_arrays args s ++ Jvm.staticLocs frame_1_statics s) 0 0 → Post tb e args s (.returned v) u) :
    ArmFor flags0 classFile x code maxLocals ret World_1 tables_1 room_1 Calls_1 rest_1 Pre_1 Post := by
  intro l hfl _ _ p e ha hc hk s m args below hf hA hF happ hP
  obtain ⟨hcalls, hrest, hpre⟩ := hP
  obtain ⟨-, -, -, hnamed, -, -, -, hat⟩ := (Spec.applies_iff hf).mp happ
  obtain ⟨hg, hn⟩ := and_e (Cond.before_iff.mp (show (Jvm.Cond.and given_1 narrow_1).before args s = true from hpre))
  obtain ⟨hg0, hg1⟩ := and_e hg
  have hv0 := hg1
  obtain ⟨w0, rfl⟩ : ∃ w0 : Value, args = #[w0] := by
    have hs : args.size = 1 := by simpa [Cond.value, given_1] using hg0
    obtain ⟨L⟩ := args
    match L, hs with
    | [w0], _ => exact ⟨w0, rfl⟩
  have hw := fun d (hd : d ∈ tables_1) => atoms_spec (ws := Jvm.Cond.code x code maxLocals ret :: tables_1) hat d (List.mem_cons_of_mem _ hd)
  have hfit : Fit s := fun {y c} hc i hi => by
    obtain ⟨ha, rfl⟩ := Array.getElem?_eq_some_iff.mp hc
    have q := List.all_eq_true.mp ((Array.all_eq_true_iff_forall_mem.mp hF) _ (Array.getElem_mem ha)) i (List.mem_range.mpr hi)
    simpa [Array.getElem?_eq_getElem hi] using q
  obtain ⟨i0, ev0⟩ := is_v hv0
  obtain rfl : w0 = (.int i0) := Option.some.inj ev0
  obtain ⟨n, o, h1, h2, h3, _, L, rfl, ⟨rfl, N⟩, hq⟩ := own_law l s _ hw tables_1 i0 s.heap s.heap.size (Nat.le_refl _)  p e ha hc hk s m _ below hf ((Spec.applies_iff_loose hf).mp happ).1 ⟨rfl, State.Warmed39.refl s, rfl⟩ trivial
  refine ⟨n, _, h1, h2, h3, hpost _ _ _ _ _ _ ⟨Cond.after_iff.mpr rfl, Cond.after_iff.mpr (eq_i res_at (Term.int_eval (1)) rfl), trivial⟩ ⟨hq.1, hq.2.1, (hq.2.2.sift fun y hy => Or.inr (N y hy)).mono (by decide) (by decide)⟩⟩
theorem main_1_1 : Claimed_1_1 := comes_1 fun _ _ _ _ _ _ h hF => ⟨h.1, hF⟩
theorem main_1_2 : Claimed_1_2 := comes_1 fun _ _ _ _ _ _ h hF => ⟨h.2.1, hF⟩
end Jvm.Pilot.@@N@@
namespace Jvm.Pilot.@@N@@
open Jvm Jvm.ClassFile Sem Op Lib Jvm.Free Jvm.Stand Jvm.Pilot.@@N@@.Jvm.D
/-! MADE BY PROGRAM (witnessworld.py) out of the Statement's table words and the real class files: 10 classes; the members and pool entries that the words name. The judged class is class 1, her method 1. -/
namespace start1
open Jvm.ClassFile
def u (s : String) : CpInfo := .utf8 (stringToUtf16 s)
/-- a pool by its gaps: so many unusable entries, then the entry; so many at the end -/
def gap : Nat → List CpInfo → List CpInfo
  | 0, r => r
  | n + 1, r => .unusable :: gap n r
def poolList (es : List (Nat × CpInfo)) (last : Nat) : List CpInfo := es.foldr (fun e r => gap e.1 (e.2 :: r)) (gap last [])
def pool (es : List (Nat × CpInfo)) (last : Nat) : Array CpInfo := ⟨poolList es last⟩
def fileOf (pool : Array CpInfo) (this : Nat) (attrs : Array Attribute := #[]) (ms : Array MethodInfo := #[]) (fl : Nat := 33) (sup : Nat := 0) (ifs : Array Nat := #[]) (fds : Array FieldInfo := #[]) : ClassFile where
  minorVersion := 0
  majorVersion := 65
  constantPool := pool
  accessFlags := fl
  thisClass := this
  superClass := sup
  interfaces := ifs
  fields := fds
  methods := ms
  attributes := attrs
def plain (name : String) (sup : Option ClassId) : Class where
  name := name
  kind := .ordinary
  loader := none
  accessFlags := 33
  super := sup
  interfaces := #[]
  cf := none
  fields := #[]
  methods := #[]
  instanceTypes := #[]
  staticTypes := #[]
  resolved := #[]
  callSites := []
  init := .initialized
  statics := none
  mirror := none

def pool0 : Array CpInfo := pool [(5, u "<init>"), (0, u "()V"), (1, .class_ 10), (1, u "java/lang/Object")] 113

def k0m0 : Method := { name := "<init>", desc := "()V", sig := { parameters := [], returnType := none }, accessFlags := 1, code := none }
/-- java/lang/Object -/
def k0 : Class := { plain "java/lang/Object" none with
  accessFlags := 33
  interfaces := #[]
  cf := some (fileOf pool0 8 #[] #[{ accessFlags := 1, nameIndex := 5, descriptorIndex := 6, attributes := #[] }] 33 0 #[] #[])
  fields := #[]
  methods := #[k0m0]
  instanceTypes := #[]
  staticTypes := #[]
  resolved := Array.replicate 124 none
  statics := none }

def pool1 : Array CpInfo := pool [(2, .class_ 4), (1, u "java/lang/Object"), (0, u "<init>"), (0, u "()V"), (0, .integer 2147483647), (0, .methodref 9 10), (0, .class_ 11), (0, .nameAndType 12 13), (0, u "com/example/tight_fence/tightfence/engine/TemporalType"), (0, u "resolution"), (0, u "(I)J"), (0, .methodref 15 16), (0, .class_ 17), (0, .nameAndType 18 13), (0, u "com/example/tight_fence/tightfence/engine/TemporalTypeResolutionPinLaw"), (0, u "expected"), (0, .long 1000000), (1, .long 100000), (1, .long 10000), (1, .long 1000), (1, .long 100), (1, .long 10), (3, u "law"), (0, u "(I)Z")] 3

def k1m0 : Method := { name := "<init>", desc := "()V", sig := { parameters := [], returnType := none }, accessFlags := 1, code := none }
def k1c1 : Code := { maxStack := 4, maxLocals := 2, code := code, exceptionTable := #[], attributes := #[] }
def k1m1 : Method := { name := "law", desc := "(I)Z", sig := { parameters := [.int], returnType := some .boolean }, accessFlags := 9, code := some k1c1 }
def k1c2 : Code := { maxStack := 2, maxLocals := 3, code := method_3_code, exceptionTable := #[], attributes := #[] }
def k1m2 : Method := { name := "expected", desc := "(I)J", sig := { parameters := [.int], returnType := some .long }, accessFlags := 10, code := some k1c2 }
/-- com/example/tight_fence/tightfence/engine/TemporalTypeResolutionPinLaw -/
def k1 : Class := { plain "com/example/tight_fence/tightfence/engine/TemporalTypeResolutionPinLaw" (some 0) with
  accessFlags := 49
  interfaces := #[]
  cf := some (fileOf pool1 15 #[] #[{ accessFlags := 1, nameIndex := 5, descriptorIndex := 6, attributes := #[] }, { accessFlags := 9, nameIndex := 33, descriptorIndex := 34, attributes := #[] }, { accessFlags := 10, nameIndex := 18, descriptorIndex := 13, attributes := #[] }] 49 2 #[] #[])
  fields := #[]
  methods := #[k1m0, k1m1, k1m2]
  instanceTypes := #[]
  staticTypes := #[]
  resolved := Array.replicate 38 none
  statics := none }

def pool2 : Array CpInfo := pool [(2, .class_ 4), (1, u "java/lang/Object"), (3, .class_ 10), (1, u "com/example/tight_fence/tightfence/engine/ColumnType"), (0, u "name"), (0, u "Ljava/lang/String;"), (33, u "INTEGER_BITS"), (0, u "Ljava/util/Map;"), (10, u "TEXT_BYTES"), (4, u "BLOB_BYTES"), (2, u "TEMPORAL_KINDS"), (254, u "DISPLAY_WIDTH_OUT_OF_RANGE"), (0, u "I")] 84

/-- com/example/tight_fence/tightfence/engine/ColumnType -/
def k2 : Class := { plain "com/example/tight_fence/tightfence/engine/ColumnType" (some 0) with
  accessFlags := 1057
  interfaces := #[]
  cf := some (fileOf pool2 8 #[] #[] 1057 2 #[] #[{ accessFlags := 26, nameIndex := 46, descriptorIndex := 47, attributes := #[] }, { accessFlags := 26, nameIndex := 58, descriptorIndex := 47, attributes := #[] }, { accessFlags := 26, nameIndex := 63, descriptorIndex := 47, attributes := #[] }, { accessFlags := 26, nameIndex := 66, descriptorIndex := 47, attributes := #[] }, { accessFlags := 24, nameIndex := 321, descriptorIndex := 322, attributes := #[] }, { accessFlags := 18, nameIndex := 11, descriptorIndex := 12, attributes := #[] }])
  fields := #[{ name := "INTEGER_BITS", type := (.object "java/util/Map"), accessFlags := 26, slot := 0, constantValue := 0 }, { name := "TEXT_BYTES", type := (.object "java/util/Map"), accessFlags := 26, slot := 1, constantValue := 0 }, { name := "BLOB_BYTES", type := (.object "java/util/Map"), accessFlags := 26, slot := 2, constantValue := 0 }, { name := "TEMPORAL_KINDS", type := (.object "java/util/Map"), accessFlags := 26, slot := 3, constantValue := 0 }, { name := "DISPLAY_WIDTH_OUT_OF_RANGE", type := .int, accessFlags := 24, slot := 4, constantValue := 0 }, { name := "name", type := (.object "java/lang/String"), accessFlags := 18, slot := 0, constantValue := 0 }]
  methods := #[]
  instanceTypes := #[(.object "java/lang/String")]
  staticTypes := #[(.object "java/util/Map"), (.object "java/util/Map"), (.object "java/util/Map"), (.object "java/util/Map"), .int]
  resolved := Array.replicate 407 none
  statics := none }

def pool3 : Array CpInfo := pool [(1, .class_ 2), (0, u "com/example/tight_fence/tightfence/engine/TemporalType"), (1, .class_ 6), (1, u "com/example/tight_fence/tightfence/engine/TemporalType$Kind"), (1, u "Ljava/lang/String;"), (35, .class_ 46), (1, u "com/example/tight_fence/tightfence/engine/ColumnType"), (4, u "kind"), (0, u "Lcom/example/tight_fence/tightfence/engine/TemporalType$Kind;"), (6, u "precision"), (0, u "I"), (0, .long 10), (12, u "resolution"), (0, u "(I)J"), (118, u "J"), (125, u "MICROSECONDS_PER_SECOND"), (1, u "MICROSECONDS_PER_DAY"), (0, u "MOST_DIGITS"), (1, u "MOST_HOURS"), (1, u "DATE_FORM"), (2, u "TIME_FORM"), (2, u "DATE_AND_TIME_FORMS")] 52

def k3c0 : Code := { maxStack := 4, maxLocals := 4, code := prog_82_method_2_code, exceptionTable := #[], attributes := #[] }
def k3m0 : Method := { name := "resolution", desc := "(I)J", sig := { parameters := [.int], returnType := some .long }, accessFlags := 8, code := some k3c0 }
/-- com/example/tight_fence/tightfence/engine/TemporalType -/
def k3 : Class := { plain "com/example/tight_fence/tightfence/engine/TemporalType" (some 2) with
  accessFlags := 48
  interfaces := #[]
  cf := some (fileOf pool3 1 #[.nestMembers #[4]] #[{ accessFlags := 8, nameIndex := 74, descriptorIndex := 75, attributes := #[] }] 48 44 #[] #[{ accessFlags := 26, nameIndex := 320, descriptorIndex := 194, attributes := #[] }, { accessFlags := 26, nameIndex := 322, descriptorIndex := 194, attributes := #[] }, { accessFlags := 26, nameIndex := 323, descriptorIndex := 60, attributes := #[] }, { accessFlags := 26, nameIndex := 325, descriptorIndex := 60, attributes := #[] }, { accessFlags := 26, nameIndex := 327, descriptorIndex := 8, attributes := #[] }, { accessFlags := 26, nameIndex := 330, descriptorIndex := 8, attributes := #[] }, { accessFlags := 26, nameIndex := 333, descriptorIndex := 8, attributes := #[] }, { accessFlags := 18, nameIndex := 51, descriptorIndex := 52, attributes := #[] }, { accessFlags := 18, nameIndex := 59, descriptorIndex := 60, attributes := #[] }])
  fields := #[{ name := "MICROSECONDS_PER_SECOND", type := .long, accessFlags := 26, slot := 0, constantValue := 0 }, { name := "MICROSECONDS_PER_DAY", type := .long, accessFlags := 26, slot := 1, constantValue := 0 }, { name := "MOST_DIGITS", type := .int, accessFlags := 26, slot := 2, constantValue := 0 }, { name := "MOST_HOURS", type := .int, accessFlags := 26, slot := 3, constantValue := 0 }, { name := "DATE_FORM", type := (.object "java/lang/String"), accessFlags := 26, slot := 4, constantValue := 0 }, { name := "TIME_FORM", type := (.object "java/lang/String"), accessFlags := 26, slot := 5, constantValue := 0 }, { name := "DATE_AND_TIME_FORMS", type := (.object "java/lang/String"), accessFlags := 26, slot := 6, constantValue := 0 }, { name := "kind", type := (.object "com/example/tight_fence/tightfence/engine/TemporalType$Kind"), accessFlags := 18, slot := 1, constantValue := 0 }, { name := "precision", type := .int, accessFlags := 18, slot := 2, constantValue := 0 }]
  methods := #[k3m0]
  instanceTypes := #[(.object "java/lang/String"), (.object "com/example/tight_fence/tightfence/engine/TemporalType$Kind"), .int]
  staticTypes := #[.long, .long, .int, .int, (.object "java/lang/String"), (.object "java/lang/String"), (.object "java/lang/String")]
  resolved := Array.replicate 386 none
  statics := none }

def pool4 : Array CpInfo := pool [(1, u "java/lang/Cloneable"), (0, .class_ 1), (0, u "java/lang/Object"), (0, .class_ 3)] 3

/-- java/lang/Cloneable -/
def k4 : Class := { plain "java/lang/Cloneable" (some 0) with
  accessFlags := 1537
  interfaces := #[]
  cf := some (fileOf pool4 2 #[] #[] 1537 4 #[] #[])
  fields := #[]
  methods := #[]
  instanceTypes := #[]
  staticTypes := #[]
  resolved := Array.replicate 8 none
  statics := none }

def pool5 : Array CpInfo := pool [(1, u "java/io/Serializable"), (0, .class_ 1), (0, u "java/lang/Object"), (0, .class_ 3)] 3

/-- java/io/Serializable -/
def k5 : Class := { plain "java/io/Serializable" (some 0) with
  accessFlags := 1537
  interfaces := #[]
  cf := some (fileOf pool5 2 #[] #[] 1537 4 #[] #[])
  fields := #[]
  methods := #[]
  instanceTypes := #[]
  staticTypes := #[]
  resolved := Array.replicate 8 none
  statics := none }

/-- the primitive byte -/
def k6 : Class := { plain "byte" none with kind := .primitive 'B', accessFlags := 0x411 }
/-- [B -/
def k7 : Class := { plain "[B" (some 0) with kind := .array 6 .byte, interfaces := #[4, 5], accessFlags := 1041 }

/-- the primitive int -/
def k8 : Class := { plain "int" none with kind := .primitive 'I', accessFlags := 0x411 }
/-- [I -/
def k9 : Class := { plain "[I" (some 0) with kind := .array 8 .int, interfaces := #[4, 5], accessFlags := 1041 }

def heap : Heap := #[]
def classes : Array Class := #[k0, k1, k2, k3, k4, k5, k6, k7, k8, k9]
def interned : List (Array UInt16 × Addr) := []
def slotsUsed : Nat := 0
def theMethod : MethodId := ⟨1, 1⟩
def args0 : Array Value := #[.int 5]
def aboutOver (below : List Frame) : State where
  vm := { classes := classes, interned := interned.toArray }
  heap := heap
  slotsUsed := slotsUsed
  threads := #[{ frames := .invoking theMethod args0 :: below }]
def below0 : List Frame := [.native { method := ⟨0, 0⟩, args := #[] }]
def about1 : State := aboutOver below0
def p0 : Program := .bare "" "" ""
def e0 : Env := launch0.env 0 0 0
theorem w_frames : about1.frames = Frame.invoking theMethod args0 :: below0 := rfl
set_option maxRecDepth 65536 in
theorem w_args : argsFit about1.vm theMethod args0 = true := by decide +kernel
set_option maxRecDepth 65536 in
theorem w_heap : heapFits about1 = true := by decide +kernel
set_option maxRecDepth 65536 in
theorem w_runnable : about1.curStatus? = some .runnable := by decide +kernel
set_option maxRecDepth 65536 in
theorem w_alone : about1.alone = true := by decide +kernel
set_option maxRecDepth 65536 in
theorem w_named : about1.methodNamed? x = some theMethod := by decide +kernel
set_option maxRecDepth 65536 in
theorem w_hears : about1.hears theMethod below0 = true := by decide +kernel
set_option maxRecDepth 65536 in
theorem w_ripe : about1.ripe theMethod args0 below0 = true := by decide +kernel
theorem w_running : about1.status = .running := rfl
set_option maxRecDepth 65536 in
theorem w_room : about1.hasRoom e0.platform room_1 = true :=
  launch0.hasRoom_least _ room_1 (by decide +kernel) (by decide +kernel) (by decide +kernel) (by decide +kernel) (by decide +kernel) (by decide +kernel)
theorem allAtoms_all (ts : List Jvm.Cond) (a : Array Jvm.Value) (st : Jvm.State) : (allAtoms ts).before a st = ts.all (fun c => c.before a st) := by
  induction ts with
  | nil => rfl
  | cons c t ih =>
    show (Jvm.Cond.and c (allAtoms t)).before a st = _
    rw [Jvm.Cond.before_and, ih, List.all_cons]
def words1 : List Jvm.Cond := Jvm.Cond.code x code maxLocals ret :: tables_1
/-- a 'code' word, met by the world's own term for the bytes: nothing is compared byte by byte -/
theorem code_word {y : MethodName} {bytes : ByteArray} {mx : Nat} {rt : Option FieldType} {a : Array Value} {s : State} {m : MethodId} {meth : Method} {c : Code} (h1 : s.methodNamed? y = some m) (h2 : s.vm.method? m = some meth) (h3 : meth.code = some c) (h4 : c.code = bytes)
    (h5 : (c.maxLocals == mx && c.exceptionTable.isEmpty && decide (c.maxStack ≤ mostOperands) && decide (meth.sig.returnType = rt) && !meth.locks && decide (parseMethodDescriptor y.desc = some meth.sig)) = true) : (Jvm.Cond.code y bytes mx rt).before a s = true := by
  simp only [Bool.and_eq_true, beq_iff_eq, Bool.not_eq_true', decide_eq_true_eq] at h5
  obtain ⟨⟨⟨⟨⟨g1, g2⟩, g3⟩, g4⟩, g5⟩, g6⟩ := h5
  simp [Cond.before, Cond.holds, Cond.value, h1, h2, h3, h4, g1, g2, g3, g4, g5, g6]
def isCode : Jvm.Cond → Bool
  | .code _ _ _ _ => true
  | _ => false
theorem all_split {L : List Jvm.Cond} {P : Jvm.Cond → Bool} (h1 : L.all (fun c => isCode c || P c) = true) (h2 : ∀ c ∈ L.filter isCode, P c = true) : L.all P = true := by
  refine List.all_eq_true.mpr fun c hc => ?_
  have h := List.all_eq_true.mp h1 c hc
  rcases Bool.eq_false_or_eq_true (isCode c) with hi | hi
  · exact h2 c (List.mem_filter.mpr ⟨hc, hi⟩)
  · simpa [hi] using h
set_option maxRecDepth 65536 in
theorem w_c0 : (Jvm.Cond.code x code maxLocals ret).before args0 about1 = true := code_word (m := ⟨1, 1⟩) (meth := k1m1) (c := k1c1) (by decide +kernel) rfl rfl rfl (by decide +kernel)
set_option maxRecDepth 65536 in
theorem w_c1 : (Jvm.Cond.code ({ cls := "com/example/tight_fence/tightfence/engine/TemporalType", name := "resolution", desc := "(I)J" } : Jvm.MethodName) prog_82_method_2_code (4 : Nat) (Option.some Jvm.ClassFile.FieldType.long)).before args0 about1 = true := code_word (m := ⟨3, 0⟩) (meth := k3m0) (c := k3c0) (by decide +kernel) rfl rfl rfl (by decide +kernel)
set_option maxRecDepth 65536 in
theorem w_c2 : (Jvm.Cond.code ({ cls := "com/example/tight_fence/tightfence/engine/TemporalTypeResolutionPinLaw", name := "expected", desc := "(I)J" } : Jvm.MethodName) method_3_code (3 : Nat) (Option.some Jvm.ClassFile.FieldType.long)).before args0 about1 = true := code_word (m := ⟨1, 2⟩) (meth := k1m2) (c := k1c2) (by decide +kernel) rfl rfl rfl (by decide +kernel)
def codes1 : List Jvm.Cond := [Jvm.Cond.code x code maxLocals ret, Jvm.Cond.code ({ cls := "com/example/tight_fence/tightfence/engine/TemporalType", name := "resolution", desc := "(I)J" } : Jvm.MethodName) prog_82_method_2_code (4 : Nat) (Option.some Jvm.ClassFile.FieldType.long), Jvm.Cond.code ({ cls := "com/example/tight_fence/tightfence/engine/TemporalTypeResolutionPinLaw", name := "expected", desc := "(I)J" } : Jvm.MethodName) method_3_code (3 : Nat) (Option.some Jvm.ClassFile.FieldType.long)]
set_option maxRecDepth 65536 in
theorem codes_eq : words1.filter isCode = codes1 := rfl
theorem w_codes : ∀ c ∈ words1.filter isCode, c.before args0 about1 = true := by
  rw [codes_eq]
  intro c hc
  simp only [codes1, List.mem_cons, List.not_mem_nil, or_false] at hc
  rcases hc with rfl | rfl | rfl
  · exact w_c0
  · exact w_c1
  · exact w_c2
set_option maxRecDepth 65536 in
theorem w_t1 : words1.all (fun c => isCode c || c.before args0 about1) = true := by decide +kernel
theorem w_tables : (allAtoms (Jvm.Cond.code x code maxLocals ret :: tables_1)).before args0 about1 = true := by
  rw [allAtoms_all]
  show words1.all (fun c => c.before args0 about1) = true
  refine all_split ?_ w_codes
  rw [w_t1]
set_option maxRecDepth 65536 in
theorem w_case : (Jvm.Cond.and given_1 narrow_1).before args0 about1 = true := by decide +kernel
theorem w_applies : (headSpec (Jvm.Cond.code x code maxLocals ret :: tables_1) room_1).applies x e0.platform about1 = true :=
  (Spec.applies_iff w_frames).mpr ⟨w_running, w_runnable, w_alone, w_named, w_hears, w_ripe, w_room, w_tables⟩
theorem atStart : AtStart classFile x code maxLocals ret World_1 tables_1 room_1 Calls_1 rest_1 Pre_1 launch0 p0 e0 about1 theMethod args0 below0 :=
  ⟨lists_1, trivial, launch0.admits_env _ _ _, launch0.least_env, fairChoices_fair.cas, fairChoices_fair.clock, w_frames, w_args, w_heap, w_applies, trivial, trivial, w_case⟩
end start1
theorem witness_1 : WitnessClaimed_1 := ⟨start1.p0, start1.e0, start1.about1, start1.theMethod, start1.args0, start1.below0, start1.atStart⟩
end Jvm.Pilot.@@N@@
