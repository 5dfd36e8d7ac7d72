import JvmDerived
import JvmDerived.Pilot.@@N@@Statement
import JvmDerived.Pilot.@@N@@Code
set_option linter.unusedVariables false
set_option linter.unusedSimpArgs false
namespace Jvm.Pilot.@@N@@
open Jvm Jvm.ClassFile Sem Op Lib Jvm.Free Jvm.Stand Jvm.LawKit Jvm.RoadKit Bundle Jvm.Pilot.@@N@@.Jvm.D
theorem own_w {a0 : Array Value} {Z : State} (hw : ∀ d ∈ tables_1, d.before a0 Z = true) (i : Nat) {d : Jvm.Cond} (h : tables_1[i]? = some d) : d.before a0 Z = true := hw d (List.mem_of_getElem? h)
section Own
variable {p : Program} {l : Launch} {e : Env} {R : Room} {s : State} {m : MethodId} {args : Array Value} {below : List Frame} {meth : Method} {c : Code} {T T' : State} {locs : List Loc} {cells slots : Nat} {g g' : JFrame} {K : Outcome → State → Prop} {Q : Option Value → Heap → List Loc → Prop} {kc ks : Nat}
/-- from this state, with this frame on top, the run comes to an end at which K holds -/
def own_E (p : Program) (e : Env) (below : List Frame) (K : Outcome → State → Prop) (T : State) (g : JFrame) : Prop :=
  ∃ s₂ o, Steps p.tables e below (T.setTop g) s₂ ∧ s₂.status = .running ∧ Ended s₂ below o ∧ K o s₂
def own_K (Q : Option Value → Heap → List Loc → Prop) (s : State) (kc ks : Nat) : Outcome → State → Prop :=
  fun o U' => ∃ v L, o = .returned v ∧ Q v U'.heap L ∧ FrameEnd s o U' L kc ks
theorem own_st (st : ∀ t, Steps p.tables e below (T'.setTop g') t → Steps p.tables e below (T.setTop g) t) (k : own_E p e below K T' g') : own_E p e below K T g := by
  obtain ⟨s2, o, h1, h2⟩ := k
  exact ⟨s2, o, st _ h1, h2⟩
theorem own_tr (st : Steps p.tables e below (T.setTop g) (T'.setTop g')) (k : own_E p e below K T' g') : own_E p e below K T g :=
  own_st (fun _ h => st.trans h) k
theorem own_pre (q : g = g') (k : own_E p e below K T g') : own_E p e below K T g := q ▸ k
theorem own_end (X : Stand p l e R s m args below meth c T locs cells slots) (hlk : meth.locks = false) {v : Option Value} (hv : meth.sig.returnType = none → v = none)
    (hr : ∀ fs : List Frame, (∀ (f : JFrame) (acts : List Action), f.method = m → f.locked = none → f.entered = [] → (doReturn e (T.setTop f) acts v).1 = T.setFrames fs) → Steps p.tables e below (T.setTop g) (T.setFrames fs))
    (hc : cells ≤ kc) (hs : slots ≤ ks) (hQ : Q v T.heap locs) : own_E p e below (own_K Q s kc ks) T g := by
  obtain ⟨fs, h1, hrun, hended, hW, hsame⟩ := X.leave (v := v) hv hlk
  exact ⟨_, _, hr fs h1, hrun, hended, _, _, rfl, hQ, ⟨_, rfl⟩, hW, hsame.mono hc hs⟩
theorem own_retV (X : Stand p l e R s m args below meth c T locs cells slots) (hx : p.tables.exec = Jvm.exec) (hlk : meth.locks = false) {pc : Nat} {Ls : Array Slot} (hret : meth.sig.returnType = none)
    (hd : decode c.code pc = .ok (.return_, 1)) (hc : cells ≤ kc) (hs : slots ≤ ks) (hQ : Q none T.heap locs) : own_E p e below (own_K Q s kc ks) T (mkF m pc Ls []) :=
  own_end X hlk (fun _ => rfl) (fun fs h => X.returnOut hx hret hd h) hc hs hQ
theorem own_retG (X : Stand p l e R s m args below meth c T locs cells slots) (hx : p.tables.exec = Jvm.exec) (hlk : meth.locks = false) {pc : Nat} {Ls : Array Slot} {w : Value} {t : FieldType} {i : Instr} {rest : List Value} (hret : meth.sig.returnType = some t) (hn : narrow t w = w)
    (hi : (i = .ireturn ∧ (t = .int ∨ t = .boolean ∨ t = .byte ∨ t = .char ∨ t = .short) ∧ ∃ z, w = .int z) ∨ (i = .lreturn ∧ t = .long ∧ ∃ z, w = .long z) ∨ (i = .dreturn ∧ t = .double ∧ ∃ z, w = .double z) ∨ (i = .freturn ∧ t = .float ∧ ∃ z, w = .float z) ∨ (i = .areturn ∧ t.isReference = true ∧ w.isRef = true))
    (hd : decode c.code pc = .ok (i, 1)) (hc : cells ≤ kc) (hs : slots ≤ ks) (hQ : Q (some w) T.heap locs) : own_E p e below (own_K Q s kc ks) T (mkF m pc Ls (w :: rest)) :=
  own_end X hlk (fun h => by rw [hret] at h; cases h) (fun fs h => retOut X hx hret hn hi hd h) hc hs hQ
theorem own_retI (X : Stand p l e R s m args below meth c T locs cells slots) (hx : p.tables.exec = Jvm.exec) (hlk : meth.locks = false) {pc : Nat} {Ls : Array Slot} {z : Int32} {rest : List Value} (hret : meth.sig.returnType = some .int)
    (hd : decode c.code pc = .ok (.ireturn, 1)) (hc : cells ≤ kc) (hs : slots ≤ ks) (hQ : Q (some (.int z)) T.heap locs) : own_E p e below (own_K Q s kc ks) T (mkF m pc Ls (.int z :: rest)) :=
  own_retG X hx hlk hret rfl (Or.inl ⟨rfl, Or.inl rfl, z, rfl⟩) hd hc hs hQ
theorem own_retS (X : Stand p l e R s m args below meth c T locs cells slots) (hx : p.tables.exec = Jvm.exec) (hlk : meth.locks = false) {pc : Nat} {Ls : Array Slot} {z : Int32} {t : FieldType} {rest : List Value} (hret : meth.sig.returnType = some t) (hn : narrow t (.int z) = .int z)
    (ht : t = .int ∨ t = .boolean ∨ t = .byte ∨ t = .char ∨ t = .short) (hd : decode c.code pc = .ok (.ireturn, 1)) (hc : cells ≤ kc) (hs : slots ≤ ks) (hQ : Q (some (.int z)) T.heap locs) : own_E p e below (own_K Q s kc ks) T (mkF m pc Ls (.int z :: rest)) :=
  own_retG X hx hlk hret hn (Or.inl ⟨rfl, ht, z, rfl⟩) hd hc hs hQ
theorem own_retN (X : Stand p l e R s m args below meth c T locs cells slots) (hx : p.tables.exec = Jvm.exec) (hlk : meth.locks = false) {pc : Nat} {Ls : Array Slot} {z : Int32} {t : FieldType} {rest : List Value} (hret : meth.sig.returnType = some t)
    (ht : t = .boolean ∨ t = .byte ∨ t = .char ∨ t = .short) (hd : decode c.code pc = .ok (.ireturn, 1)) (hc : cells ≤ kc) (hs : slots ≤ ks) (hQ : Q (some (.int (nar t z))) T.heap locs) : own_E p e below (own_K Q s kc ks) T (mkF m pc Ls (.int z :: rest)) :=
  own_end X hlk (fun h => by rw [hret] at h; cases h) (fun fs h => retN X hx hret ht hd h) hc hs hQ
theorem own_retJ (X : Stand p l e R s m args below meth c T locs cells slots) (hx : p.tables.exec = Jvm.exec) (hlk : meth.locks = false) {pc : Nat} {Ls : Array Slot} {z : Int64} {rest : List Value} (hret : meth.sig.returnType = some .long)
    (hd : decode c.code pc = .ok (.lreturn, 1)) (hc : cells ≤ kc) (hs : slots ≤ ks) (hQ : Q (some (.long z)) T.heap locs) : own_E p e below (own_K Q s kc ks) T (mkF m pc Ls (.long z :: rest)) :=
  own_retG X hx hlk hret rfl (Or.inr (Or.inl ⟨rfl, rfl, z, rfl⟩)) hd hc hs hQ
theorem own_retA (X : Stand p l e R s m args below meth c T locs cells slots) (hx : p.tables.exec = Jvm.exec) (hlk : meth.locks = false) {pc : Nat} {Ls : Array Slot} {w : Value} {t : FieldType} {rest : List Value} (hret : meth.sig.returnType = some t) (ht : t.isReference = true) (hw : w.isRef = true)
    (hd : decode c.code pc = .ok (.areturn, 1)) (hc : cells ≤ kc) (hs : slots ≤ ks) (hQ : Q (some w) T.heap locs) : own_E p e below (own_K Q s kc ks) T (mkF m pc Ls (w :: rest)) :=
  own_retG X hx hlk hret (by cases w <;> cases t <;> first | rfl | (simp [Value.isRef] at hw) | (simp [FieldType.isReference] at ht)) (Or.inr (Or.inr (Or.inr (Or.inr ⟨rfl, ht, hw⟩)))) hd hc hs hQ
end Own
theorem own_StaK {Z : State} {h h' : Heap} {C n d : String} {v : Value} (F : Sta Z h C n d v) (K : Keep h h' []) : Sta Z h' C n d v := Sta.ext ⟨K.1, fun a c q => K.2.1 a c q nin0⟩ F
section OwnArr
variable {p : Program} {l : Launch} {e : Env} {R : Room} {s : State} {m : MethodId} {args : Array Value} {below : List Frame} {meth : Method} {c : Code} {T : State} {locs : List Loc} {cells slots : Nat} {Z : State} {h : Heap} {a : Addr} {k : ClassId} {z : Int32} {vs : List Value} {dv : Value}
theorem own_alen (X : Stand p l e R s m args below meth c T locs cells slots) (hx : p.tables.exec = Jvm.exec) (hZ : Z.Warmed39 s.vm) (eT : T.heap = h) {ty : FieldType} (F : Arv Z h a k ty z vs dv) {g : JFrame} (hg : g.method = m) {rest : List Value} (hs : g.stack = .ref a :: rest) (hd : decode c.code g.pc = .ok (.arraylength, 1)) :
    ∀ target, Steps p.tables e below (T.setTop { g with pc := g.pc + 1, stack := .int z :: rest }) target → Steps p.tables e below (T.setTop g) target := by
  obtain ⟨cl, A, q, S, N, H, G⟩ := F
  intro target hr
  refine X.arraylength hx (by rw [eT]; exact A.1) (State.isArrayOf_alike hZ.alike A.2.1) hg hs hd _ ?_
  rw [len_of S N]; exact hr
theorem own_ald (X : Stand p l e R s m args below meth c T locs cells slots) (hx : p.tables.exec = Jvm.exec) (hZ : Z.Warmed39 s.vm) (eT : T.heap = h) (F : Arv Z h a k .int z vs dv) {j : Int32} (hj : ¬ j < 0 ∧ j < z) {v : Value} (hv : vs.getD j.toNatClampNeg dv = v) {g : JFrame} (hg : g.method = m) {rest : List Value} (hs : g.stack = .int j :: .ref a :: rest) (hd : decode c.code g.pc = .ok (.iaload, 1)) :
    ∀ target, Steps p.tables e below (T.setTop { g with pc := g.pc + 1, stack := v :: rest }) target → Steps p.tables e below (T.setTop g) target := by
  obtain ⟨cl, A, q, S, N, H, G⟩ := F
  have hin := inb_of S hj
  exact X.iaload hx (by rw [eT]; exact A.1) (State.isArrayOf_alike hZ.alike A.2.1) A.2.2 hin (H.at hin hv) hg hs hd
theorem own_ast (X : Stand p l e R s m args below meth c T locs cells slots) (hx : p.tables.exec = Jvm.exec) (hZ : Z.Warmed39 s.vm) (eT : T.heap = h) (F : Arv Z h a k .int z vs dv) {j : Int32} (hj : ¬ j < 0 ∧ j < z) {x : Int32} {i : Nat} (hi : j.toNatClampNeg = i) (hl : i < vs.length) {g : JFrame} (hg : g.method = m) {rest : List Value} (hs : g.stack = .int x :: .int j :: .ref a :: rest) (hd : decode c.code g.pc = .ok (.iastore, 1)) :
    ∃ T' h', Stand p l e R s m args below meth c T' (locs ++ [⟨a, j.toNatClampNeg⟩]) cells slots ∧ T'.heap = h' ∧ Wr h h' a j.toNatClampNeg (.int x) ∧ Arv Z h' a k .int z (vs.set i (.int x)) dv ∧ ∀ target, Steps p.tables e below (T'.setTop { g with pc := g.pc + 1, stack := rest }) target → Steps p.tables e below (T.setTop g) target := by
  obtain ⟨cl, A, q, S, N, H, G⟩ := F
  have hin := inb_of S hj
  obtain ⟨T', h', X', e', W, st⟩ := stI X hx hZ eT A hin hg hs hd
  exact ⟨T', h', X', e', W, Arv.set A q S N H G rfl W i hi hl, st⟩
theorem own_cst (X : Stand p l e R s m args below meth c T locs cells slots) (hx : p.tables.exec = Jvm.exec) (hZ : Z.Warmed39 s.vm) (eT : T.heap = h) (F : Arv Z h a k .char z vs dv) {j : Int32} (hj : ¬ j < 0 ∧ j < z) {x : Int32} {i : Nat} (hi : j.toNatClampNeg = i) (hl : i < vs.length) {g : JFrame} (hg : g.method = m) {rest : List Value} (hs : g.stack = .int x :: .int j :: .ref a :: rest) (hd : decode c.code g.pc = .ok (.castore, 1)) :
    ∃ T' h', Stand p l e R s m args below meth c T' (locs ++ [⟨a, j.toNatClampNeg⟩]) cells slots ∧ T'.heap = h' ∧ Wr h h' a j.toNatClampNeg (.int (nar .char x)) ∧ Arv Z h' a k .char z (vs.set i (.int (nar .char x))) dv ∧ ∀ target, Steps p.tables e below (T'.setTop { g with pc := g.pc + 1, stack := rest }) target → Steps p.tables e below (T.setTop g) target := by
  obtain ⟨cl, A, q, S, N, H, G⟩ := F
  have hin := inb_of S hj
  obtain ⟨T', h', X', e', W, st⟩ := stC X hx hZ eT A hin hg hs hd
  exact ⟨T', h', X', e', W, Arv.set A q S N H G (fits_nar_char _) W i hi hl, st⟩
end OwnArr
theorem own_NS_root {Z : State} {a0 : Array Value} {O K : String} {n : Nat} (w : (Jvm.Cond.noSuperclass O).before a0 Z = true) (wi : (Jvm.Cond.instantiable K n).before a0 Z = true) (hn : O ≠ K) : NS Z O K := by
  obtain ⟨c, k, h1, h2, h3, -, -⟩ := Cond.noSuperclass_spec w
  obtain ⟨t, kt, g1, -⟩ := Cond.instantiable_spec wi
  have ne := ids_ne h1 g1 hn
  refine ⟨c, t, h1, g1, fun fuel => ?_⟩
  cases fuel with
  | zero => rfl
  | succ f => simp [Vm.isSubclassAux, ne, h2, h3]
theorem own_NS_no {Z : State} {a0 : Array Value} {C S K : String} {n : Nat} (w : (Jvm.Cond.superclass C S).before a0 Z = true) (wi : (Jvm.Cond.instantiable K n).before a0 Z = true) (ns : NS Z C K) (hn : C ≠ K) : ∃ c t, Z.vm.findClass C = some c ∧ Z.vm.findClass K = some t ∧ Z.vm.assignable c t = false := by
  obtain ⟨c, t, h0, g0, n3⟩ := ns
  obtain ⟨p, k, kp, h1, h2, h3, h4, h5, -, h7⟩ := Cond.superclass_spec h0 w
  obtain ⟨t', k', g1, g2, g5, g6, -⟩ := Cond.instantiable_spec wi
  cases g0.symm.trans g1
  have g7 : k'.isInterface = false := by simp only [Bool.or_eq_false_iff] at g6; exact g6.1
  have ne := ids_ne h0 g0 hn
  refine ⟨c, t, h0, g0, ?_⟩
  show Z.vm.assignableAux (255 + 1) c t = false
  simp [Vm.assignableAux, ne, h2, g2, h5, g5, g7, Vm.isSubclass, n3]
def own_cache (Z : State) (h : Heap) : Prop := ∃ (ac : Addr) (cl : Cell), Sta Z h "java/lang/Long$LongCache" "cache" "[Ljava/lang/Long;" (.ref ac) ∧ Arr Z h ac cl (.object "java/lang/Long") ∧ cl.slots.size = 256 ∧ ∀ j, j < 256 → ∃ b, cl.slots[j]? = some (.ref b) ∧ Exa Z h b "java/lang/Long"
theorem own_cache_keep {Z : State} {h h' : Heap} (C : own_cache Z h) (K : Keep h h' []) : own_cache Z h' := by
  obtain ⟨ac, cl, S, A, q, f⟩ := C
  refine ⟨ac, cl, own_StaK S K, ⟨K.2.1 _ _ A.1 nin0, A.2⟩, q, fun j hj => ?_⟩
  obtain ⟨b, h1, h2⟩ := f j hj
  exact ⟨b, h1, h2.keep K⟩
theorem own_cache_start {args : Array Value} {s : State} (hs : ∀ w ∈ jdkStatics_1, w.before args s = true) : own_cache s s.heap := by
  have h1 := hs _ (List.mem_of_getElem? (i := 1) rfl)
  have h2 := hs _ (List.mem_of_getElem? (i := 2) rfl)
  have h3 := hs _ (List.mem_of_getElem? (i := 3) rfl)
  have h4 := hs _ (List.mem_of_getElem? (i := 4) rfl)
  have h5 := hs _ (List.mem_of_getElem? (i := 5) rfl)
  obtain ⟨ac, ev⟩ := exa_v (Cond.before_iff.mp h3)
  have S := Sta.start ev (Or.inl h1)
  obtain ⟨cl, A⟩ := Arr.start ev (Cond.before_iff.mp h2)
  have hat : s.arrayAt? ac = some cl := Arr.fin (Vm.Alike.refl _) A
  obtain ⟨hz1, hz2⟩ := IntBox.length_fwd h4 ev A.1 A.2.1 A.2.2
  have hsz : cl.slots.size = 256 := by
    have e := len_toInt hz1
    rw [hz2] at e
    have : ((256 : Int32)).toInt = 256 := by decide
    omega
  have hall := Cond.all_elim ev hat (by simpa [Cond.before, Cond.holds] using h5)
  refine ⟨ac, cl, S, A, hsz, fun j hj => ?_⟩
  have hj' := hall j (by rw [hsz]; exact hj)
  obtain ⟨hex, -⟩ := and_e hj'
  obtain ⟨b, c', cell, k, e1, e2, e3, e4, e5, rfl, e7⟩ := Cond.exactly_spec (show (Jvm.Cond.exactly (Jvm.Term.elem (Jvm.Term.static "java/lang/Long$LongCache" "cache" "[Ljava/lang/Long;") (Jvm.Term.index (0 : Nat))) "java/lang/Long").holds args s none s [j] = true by simp [Cond.holds, hex])
  refine ⟨b, ?_, cell, k, e3, e2, e4, e5, e7⟩
  obtain ⟨hnn, hback⟩ := IntBox.place_nonneg j hj
  have evj : (Jvm.Term.static "java/lang/Long$LongCache" "cache" "[Ljava/lang/Long;").eval args s none [j] s = some (.ref ac) := ev
  have q : (Jvm.Term.index 0).eval args s none [j] s = some (.int j.toInt32) := rfl
  rw [elem_f evj q hat hnn, hback] at e1
  exact e1
theorem own_d_jdk_18_method_1_0 : decode jdk_18_method_1_code 0 = .ok (.aload_n 0, 1) := by decide +kernel
theorem own_d_jdk_18_method_1_1 : decode jdk_18_method_1_code 1 = .ok (.invokespecial 1, 3) := by decide +kernel
theorem own_d_jdk_18_method_1_4 : decode jdk_18_method_1_code 4 = .ok (.return_, 1) := by decide +kernel
def own_num_Q (a1 : Addr) (h0 : Heap) (v : Option Value) (h : Heap) (L : List Loc) : Prop := ((v = none)) ∧ h = h0 ∧ L = []
abbrev own_y0 : MethodName := ⟨"java/lang/Number", "<init>", "()V"⟩
theorem own_pn_Number : plainName "java/lang/Number" = true := by first | (simp [plainName, overriddenIn]; done) | decide +kernel
theorem own_num_ef (m : MethodId) (a1 : Addr) : entryFrame m #[(.ref a1)] 1 = mkF m 0 #[.val (.ref a1)] [] := by first | (simp [entryFrame, mkF, argsToLocals, Value.category]; done) | rfl
set_option maxRecDepth 65536 in
set_option maxHeartbeats 40000000 in
theorem own_num (l : Launch) (Z : State) (a0 : Array Value) (hw : ∀ d ∈ tables_1, d.before a0 Z = true) (ws : List Jvm.Cond) (a1 : Addr) (h0 : Heap) (n0 : Nat) (Z0 : n0 ≤ h0.size)  :
    MetFree l own_y0 (head1 (Jvm.Cond.code own_y0 jdk_18_method_1_code 1 none :: ws) ({ frames := 1, cells := 0, slots := 0, locals := 12 } : Room)) (fun a U => a = #[(.ref a1)] ∧ Z.Warmed39 U.vm ∧ U.heap = h0) (fun _ _ _ _ _ => True) (fun _ U o U' => ∃ v L, o = .returned v ∧ own_num_Q a1 h0 v U'.heap L ∧ FrameEnd U o U' L ({ frames := 1, cells := 0, slots := 0, locals := 12 } : Room).cells ({ frames := 1, cells := 0, slots := 0, locals := 12 } : Room).slots) := by
  refine MetFree.of_bodySF (plainFor_of_name own_pn_Number) hisR ?_
  intro p e s m args below meth c s₁ Bd hml0 hP hK
  obtain ⟨rfl, hZ, hh⟩ := hP
  have hx := Bd.exec
  have hby := Bd.bytes
  have hml : c.maxLocals = 1 := hml0
  have hown : s.vm.findClass "java/lang/Number" = some m.cls := findClass_of_methodNamed Bd.named
  have hnm := (name_of_methodNamed Bd.named Bd.method).1
  have X0 : Stand p l e ({ frames := 1, cells := 0, slots := 0, locals := 12 } : Room) s m #[(.ref a1)] below meth c s₁ [] 0 0 := Stand.of_body Bd
  have e0 : s₁.heap = h0 := by rw [← hh, Bd.state]; rfl
  show own_E p e below (own_K (own_num_Q a1 h0) s ({ frames := 1, cells := 0, slots := 0, locals := 12 } : Room).cells ({ frames := 1, cells := 0, slots := 0, locals := 12 } : Room).slots) s₁ (entryFrame m #[(.ref a1)] 1)
  refine own_pre (own_num_ef m a1) ?_
  show own_E p e below _ s₁ (mkF m 0 #[rv a1] [])
  refine own_st (fun t k => XS.aloadN X0.here hx rfl (hb hby own_d_jdk_18_method_1_0) rfl rfl k) ?_
  show own_E p e below _ s₁ (mkF m 1 #[rv a1] [.ref a1])
  obtain ⟨T1, X1, e1, st1⟩ := initO X0 hx hZ hown (own_w hw 43 rfl) (own_w hw 7 rfl) (own_w hw 8 rfl) e0 (g := (mkF m 1 #[rv a1] [.ref a1])) rfl (by rw [hml]; rfl) rfl (hb hby own_d_jdk_18_method_1_1) (by decide) (W := 0) (by show 2 * 0 + _ ≤ _; exact Nat.le_of_eq rfl) (by decide)
  refine own_st st1 ?_
  show own_E p e below _ T1 (mkF m 4 #[rv a1] [])
  refine own_retV X1 hx Bd.notSynchronized Bd.returns (hb hby own_d_jdk_18_method_1_4) (by decide) (by decide) ?_
  exact ⟨rfl, e1, rfl⟩
theorem own_d_jdk_35_method_26_0 : decode jdk_35_method_26_code 0 = .ok (.aload_n 0, 1) := by decide +kernel
theorem own_d_jdk_35_method_26_1 : decode jdk_35_method_26_code 1 = .ok (.invokespecial 270, 3) := by decide +kernel
theorem own_pd_0 : parseMethodDescriptor "()V" = some ⟨[], none⟩ := by decide +kernel
theorem own_d_jdk_35_method_26_4 : decode jdk_35_method_26_code 4 = .ok (.aload_n 0, 1) := by decide +kernel
theorem own_d_jdk_35_method_26_5 : decode jdk_35_method_26_code 5 = .ok (.lload_n 1, 1) := by decide +kernel
theorem own_d_jdk_35_method_26_6 : decode jdk_35_method_26_code 6 = .ok (.putfield 273, 3) := by decide +kernel
theorem own_d_jdk_35_method_26_9 : decode jdk_35_method_26_code 9 = .ok (.return_, 1) := by decide +kernel
def own_linit_Q (Z : State) (a1 : Addr) (q1 : Int64) (h0 : Heap) (n0 : Nat) (v : Option Value) (h : Heap) (L : List Loc) : Prop := v = none ∧ Fr n0 L ∧ Keep h0 h [a1] ∧ Exa Z h a1 "java/lang/Long"
abbrev own_y1 : MethodName := ⟨"java/lang/Long", "<init>", "(J)V"⟩
theorem own_pn_Long : plainName "java/lang/Long" = true := by first | (simp [plainName, overriddenIn]; done) | decide +kernel
theorem own_linit_ef (m : MethodId) (a1 : Addr) (q1 : Int64) : entryFrame m #[(.ref a1), (.long q1)] 3 = mkF m 0 #[.val (.ref a1), .val (.long q1), .second] [] := by first | (simp [entryFrame, mkF, argsToLocals, Value.category]; done) | rfl
set_option maxRecDepth 65536 in
set_option maxHeartbeats 40000000 in
theorem own_linit (l : Launch) (Z : State) (a0 : Array Value) (hw : ∀ d ∈ tables_1, d.before a0 Z = true) (ws : List Jvm.Cond) (a1 : Addr) (q1 : Int64) (h0 : Heap) (n0 : Nat) (Z0 : n0 ≤ h0.size) (E_a1 : Exa Z h0 a1 "java/lang/Long") (F_value_a1 : Fld Z h0 a1 "java/lang/Long" "value" "J" (.long (0 : Int64))) (g_a1 : n0 ≤ a1) :
    MetFree l own_y1 (head1 (Jvm.Cond.code own_y1 jdk_35_method_26_code 3 none :: ws) ({ frames := 2, cells := 0, slots := 0, locals := 24 } : Room)) (fun a U => a = #[(.ref a1), (.long q1)] ∧ Z.Warmed39 U.vm ∧ U.heap = h0) (fun _ _ _ _ _ => True) (fun _ U o U' => ∃ v L, o = .returned v ∧ own_linit_Q Z a1 q1 h0 n0 v U'.heap L ∧ FrameEnd U o U' L ({ frames := 2, cells := 0, slots := 0, locals := 24 } : Room).cells ({ frames := 2, cells := 0, slots := 0, locals := 24 } : Room).slots) := by
  refine MetFree.of_bodySF (plainFor_of_name own_pn_Long) hisR ?_
  intro p e s m args below meth c s₁ Bd hml0 hP hK
  obtain ⟨rfl, hZ, hh⟩ := hP
  have hx := Bd.exec
  have hby := Bd.bytes
  have hml : c.maxLocals = 3 := hml0
  have hown : s.vm.findClass "java/lang/Long" = some m.cls := findClass_of_methodNamed Bd.named
  have hnm := (name_of_methodNamed Bd.named Bd.method).1
  have X0 : Stand p l e ({ frames := 2, cells := 0, slots := 0, locals := 24 } : Room) s m #[(.ref a1), (.long q1)] below meth c s₁ [] 0 0 := Stand.of_body Bd
  have e0 : s₁.heap = h0 := by rw [← hh, Bd.state]; rfl
  show own_E p e below (own_K (own_linit_Q Z a1 q1 h0 n0) s ({ frames := 2, cells := 0, slots := 0, locals := 24 } : Room).cells ({ frames := 2, cells := 0, slots := 0, locals := 24 } : Room).slots) s₁ (entryFrame m #[(.ref a1), (.long q1)] 3)
  refine own_pre (own_linit_ef m a1 q1) ?_
  show own_E p e below _ s₁ (mkF m 0 #[rv a1, .val (.long q1), .second] [])
  refine own_st (fun t k => XS.aloadN X0.here hx rfl (hb hby own_d_jdk_35_method_26_0) rfl rfl k) ?_
  show own_E p e below _ s₁ (mkF m 1 #[rv a1, .val (.long q1), .second] [.ref a1])
  obtain ⟨_, _, ⟨T1, L1, k1, n1⟩, -, X1, ⟨Lc1, hQ1, l1, y1, z1⟩, st1⟩ := X0.specialBack hx (y := own_y0) rfl hown (mvT hZ (own_w hw 37 rfl)) (mvT hZ (own_w hw 38 rfl)) (mvT hZ (own_w hw 42 rfl)) (by decide) (backOf (W := 0) (own_num l Z a0 hw [] a1 h0 n0 Z0 ) hZ (own_w hw 42 rfl) (own_w hw 41 rfl) (by decide) (by decide)) (g := (mkF m 1 #[rv a1, .val (.long q1), .second] [.ref a1])) rfl (by rw [hml]; rfl) (Steps.refl _) (a := a1) (argsL := []) (rest := []) (lenOf own_pd_0 rfl) rfl (by show 2 * 0 + _ ≤ _; exact Nat.le_of_eq rfl) (hb hby own_d_jdk_35_method_26_1) (fun _ _ => ⟨rfl, e0, (by decide : 0 + 0 ≤ _), (by decide : 0 + 0 ≤ _)⟩)
  dsimp only [Pt.U, Pt.locs, Pt.cells, Pt.slots] at X1 l1 y1 z1 st1 hQ1
  subst l1 y1 z1
  obtain ⟨hR1, e1, rfl⟩ := hQ1
  have N1 := Fr.app (Fr.nil n0) (Fr.nil n0)
  obtain rfl := hR1
  refine own_tr st1 ?_
  show own_E p e below _ T1 (mkF m 4 #[rv a1, .val (.long q1), .second] [])
  refine own_st (fun t k => XS.aloadN X1.here hx rfl (hb hby own_d_jdk_35_method_26_4) rfl rfl k) ?_
  show own_E p e below _ T1 (mkF m 5 #[rv a1, .val (.long q1), .second] [.ref a1])
  refine own_st (fun t k => XS.lloadN X1.here hx rfl (hb hby own_d_jdk_35_method_26_5) rfl k) ?_
  show own_E p e below _ T1 (mkF m 6 #[rv a1, .val (.long q1), .second] [.long q1, .ref a1])
  obtain ⟨T2, h2, X2, e2, W2, st2⟩ := putF X1 hx hZ hown (host := "") (Or.inl (own_w hw 44 rfl)) Via.refl e1 F_value_a1 E_a1 (Or.inr ⟨(own_w hw 45 rfl), rfl, hnm⟩) (own_w hw 32 rfl) (ty := .long) (by decide) rfl rfl (g := (mkF m 6 #[rv a1, .val (.long q1), .second] [.long q1, .ref a1])) rfl rfl (hb hby own_d_jdk_35_method_26_6)
  have N2 := Fr.snoc X2 N1 g_a1
  have Fw2 := F_value_a1.same W2
  have Z3 := Nat.le_trans Z0 (Keep.of_wr W2).1
  have K4 : Keep h0 _ [a1] := (Keep.refl h0 [a1]).wr W2 (Or.inl (List.mem_of_getElem? (i := 0) rfl))
  refine own_st st2 ?_
  show own_E p e below _ T2 (mkF m 9 #[rv a1, .val (.long q1), .second] [])
  refine own_retV X2 hx Bd.notSynchronized Bd.returns (hb hby own_d_jdk_35_method_26_9) (by decide) (by decide) ?_
  have B5 := (E_a1.wr W2)
  show own_linit_Q Z a1 q1 h0 n0 _ T2.heap _
  rw [e2]
  exact ⟨rfl, N2, K4, B5⟩
theorem own_d_jdk_35_method_24_0 : decode jdk_35_method_24_code 0 = .ok (.sipush 128, 3) := by decide +kernel
theorem own_d_jdk_35_method_24_3 : decode jdk_35_method_24_code 3 = .ok (.istore_n 2, 1) := by decide +kernel
theorem own_d_jdk_35_method_24_4 : decode jdk_35_method_24_code 4 = .ok (.lload_n 0, 1) := by decide +kernel
theorem own_d_jdk_35_method_24_5 : decode jdk_35_method_24_code 5 = .ok (.ldc2_w 230, 3) := by decide +kernel
theorem own_d_jdk_35_method_24_8 : decode jdk_35_method_24_code 8 = .ok (.lcmp, 1) := by decide +kernel
theorem own_d_jdk_35_method_24_9 : decode jdk_35_method_24_code 9 = .ok (.ifCond .lt 22, 3) := by decide +kernel
theorem own_d_jdk_35_method_24_31 : decode jdk_35_method_24_code 31 = .ok (.new 1, 3) := by decide +kernel
theorem own_d_jdk_35_method_24_34 : decode jdk_35_method_24_code 34 = .ok (.dup, 1) := by decide +kernel
theorem own_d_jdk_35_method_24_35 : decode jdk_35_method_24_code 35 = .ok (.lload_n 0, 1) := by decide +kernel
theorem own_d_jdk_35_method_24_36 : decode jdk_35_method_24_code 36 = .ok (.invokespecial 240, 3) := by decide +kernel
theorem own_pd_2 : parseMethodDescriptor "(J)V" = some ⟨[.long], none⟩ := by decide +kernel
theorem own_d_jdk_35_method_24_39 : decode jdk_35_method_24_code 39 = .ok (.areturn, 1) := by decide +kernel
theorem own_d_jdk_35_method_24_12 : decode jdk_35_method_24_code 12 = .ok (.lload_n 0, 1) := by decide +kernel
theorem own_d_jdk_35_method_24_13 : decode jdk_35_method_24_code 13 = .ok (.ldc2_w 232, 3) := by decide +kernel
theorem own_d_jdk_35_method_24_16 : decode jdk_35_method_24_code 16 = .ok (.lcmp, 1) := by decide +kernel
theorem own_d_jdk_35_method_24_17 : decode jdk_35_method_24_code 17 = .ok (.ifCond .gt 14, 3) := by decide +kernel
theorem own_d_jdk_35_method_24_20 : decode jdk_35_method_24_code 20 = .ok (.getstatic 234, 3) := by decide +kernel
theorem own_d_jdk_35_method_24_23 : decode jdk_35_method_24_code 23 = .ok (.lload_n 0, 1) := by decide +kernel
theorem own_d_jdk_35_method_24_24 : decode jdk_35_method_24_code 24 = .ok (.l2i, 1) := by decide +kernel
theorem own_d_jdk_35_method_24_25 : decode jdk_35_method_24_code 25 = .ok (.sipush 128, 3) := by decide +kernel
theorem own_d_jdk_35_method_24_28 : decode jdk_35_method_24_code 28 = .ok (.iadd, 1) := by decide +kernel
theorem own_d_jdk_35_method_24_29 : decode jdk_35_method_24_code 29 = .ok (.aaload, 1) := by decide +kernel
theorem own_d_jdk_35_method_24_30 : decode jdk_35_method_24_code 30 = .ok (.areturn, 1) := by decide +kernel
def own_lval_Q (Z : State) (q1 : Int64) (h0 : Heap) (n0 : Nat) (v : Option Value) (h : Heap) (L : List Loc) : Prop := ∃ o0 : Addr, v = some (.ref o0) ∧ Fr n0 L ∧ Keep h0 h [] ∧ Exa Z h o0 "java/lang/Long"
abbrev own_y2 : MethodName := ⟨"java/lang/Long", "valueOf", "(J)Ljava/lang/Long;"⟩
theorem own_lval_ef (m : MethodId) (q1 : Int64) : entryFrame m #[(.long q1)] 3 = mkF m 0 #[.val (.long q1), .second, .unset] [] := by first | (simp [entryFrame, mkF, argsToLocals, Value.category]; done) | rfl
set_option maxRecDepth 65536 in
set_option maxHeartbeats 40000000 in
theorem own_lval (l : Launch) (Z : State) (a0 : Array Value) (hw : ∀ d ∈ tables_1, d.before a0 Z = true) (ws : List Jvm.Cond) (q1 : Int64) (h0 : Heap) (n0 : Nat) (Z0 : n0 ≤ h0.size) (hC : own_cache Z h0) :
    MetFree l own_y2 (head1 (Jvm.Cond.code own_y2 jdk_35_method_24_code 3 (some (.object "java/lang/Long")) :: ws) ({ frames := 3, cells := 1, slots := 1, locals := 39 } : Room)) (fun a U => a = #[(.long q1)] ∧ Z.Warmed39 U.vm ∧ U.heap = h0) (fun _ _ _ _ _ => True) (fun _ U o U' => ∃ v L, o = .returned v ∧ own_lval_Q Z q1 h0 n0 v U'.heap L ∧ FrameEnd U o U' L ({ frames := 3, cells := 1, slots := 1, locals := 39 } : Room).cells ({ frames := 3, cells := 1, slots := 1, locals := 39 } : Room).slots) := by
  refine MetFree.of_bodySF (plainFor_of_name own_pn_Long) hisR ?_
  intro p e s m args below meth c s₁ Bd hml0 hP hK
  obtain ⟨rfl, hZ, hh⟩ := hP
  have hx := Bd.exec
  have hby := Bd.bytes
  have hml : c.maxLocals = 3 := hml0
  have hown : s.vm.findClass "java/lang/Long" = some m.cls := findClass_of_methodNamed Bd.named
  have hnm := (name_of_methodNamed Bd.named Bd.method).1
  have X0 : Stand p l e ({ frames := 3, cells := 1, slots := 1, locals := 39 } : Room) s m #[(.long q1)] below meth c s₁ [] 0 0 := Stand.of_body Bd
  have e0 : s₁.heap = h0 := by rw [← hh, Bd.state]; rfl
  show own_E p e below (own_K (own_lval_Q Z q1 h0 n0) s ({ frames := 3, cells := 1, slots := 1, locals := 39 } : Room).cells ({ frames := 3, cells := 1, slots := 1, locals := 39 } : Room).slots) s₁ (entryFrame m #[(.long q1)] 3)
  refine own_pre (own_lval_ef m q1) ?_
  obtain ⟨ac, cl, hSt, hAr, hsz, hel⟩ := hC
  show own_E p e below _ s₁ (mkF m 0 #[.val (.long q1), .second, .unset] [])
  refine own_st (fun t k => XS.sipush X0.here hx rfl (hb hby own_d_jdk_35_method_24_0) k) ?_
  show own_E p e below _ s₁ (mkF m 3 #[.val (.long q1), .second, .unset] [.int 128])
  refine own_st (fun t k => XS.istoreN X0.here hx rfl (hb hby own_d_jdk_35_method_24_3) rfl (l' := #[.val (.long q1), .second, iv 128]) rfl k) ?_
  show own_E p e below _ s₁ (mkF m 4 #[.val (.long q1), .second, iv 128] [])
  refine own_st (fun t k => XS.lloadN X0.here hx rfl (hb hby own_d_jdk_35_method_24_4) rfl k) ?_
  show own_E p e below _ s₁ (mkF m 5 #[.val (.long q1), .second, iv 128] [.long q1])
  refine own_st (X0.ldc2Long hx hown (mvT hZ (own_w hw 24 rfl)) (g := (mkF m 5 #[.val (.long q1), .second, iv 128] [.long q1])) rfl (hb hby own_d_jdk_35_method_24_5)) ?_
  show own_E p e below _ s₁ (mkF m 8 #[.val (.long q1), .second, iv 128] [.long (-128), .long q1])
  refine own_st (fun t k => XS.lcmp X0.here hx rfl (hb hby own_d_jdk_35_method_24_8) rfl k) ?_
  show own_E p e below _ s₁ (mkF m 9 #[.val (.long q1), .second, iv 128] [.int (lcmpW q1 (-128 : Int64))])
  by_cases hc1 : q1 < (-128 : Int64)
  · refine own_st (fun t k => XS.ifYes X0.here hx rfl (pc0 := 9) (pc' := 31) rfl (hb hby own_d_jdk_35_method_24_9) rfl ((if0 _ _).trans (tlt ((lw_lt _ _).mpr hc1)).1) (by decide) (by decide) k) ?_
    show own_E p e below _ s₁ (mkF m 31 #[.val (.long q1), .second, iv 128] [])
    obtain ⟨T2, h2, X2, e2, E2, A2, D2, -, st2⟩ := newO X0 hx hZ hown (own_w hw 31 rfl) (own_w hw 32 rfl) (own_w hw 22 rfl) e0 (g := (mkF m 31 #[.val (.long q1), .second, iv 128] [])) rfl (hb hby own_d_jdk_35_method_24_31) (by decide) (by decide)
    obtain ⟨b2, g2⟩ : ∃ z, z = h0.size := ⟨_, rfl⟩
    rw [← g2] at A2 D2 st2
    have g_b2 : n0 ≤ b2 := Nat.le_trans Z0 (Nat.le_of_eq g2.symm)
    have sz_b2 : h0.size ≤ b2 := Nat.le_trans (Keep.refl h0 []).1 (Nat.le_of_eq g2.symm)
    have Z3 := Nat.le_trans Z0 E2.1
    have K4 : Keep h0 _ [] := (Keep.refl h0 []).ext E2
    have F_value_b2 : Fld Z h2 b2 "java/lang/Long" "value" "J" (.long (0 : Int64)) := D2 (Or.inr (own_w hw 45 rfl)) (ty := .long) (by decide)
    refine own_st st2 ?_
    show own_E p e below _ T2 (mkF m 34 #[.val (.long q1), .second, iv 128] [.ref b2])
    refine own_st (fun t k => XS.dup X2.here hx rfl (hb hby own_d_jdk_35_method_24_34) rfl rfl k) ?_
    show own_E p e below _ T2 (mkF m 35 #[.val (.long q1), .second, iv 128] [.ref b2, .ref b2])
    refine own_st (fun t k => XS.lloadN X2.here hx rfl (hb hby own_d_jdk_35_method_24_35) rfl k) ?_
    show own_E p e below _ T2 (mkF m 36 #[.val (.long q1), .second, iv 128] [.long q1, .ref b2, .ref b2])
    obtain ⟨_, _, ⟨T5, L5, k5, n5⟩, -, X5, ⟨Lc5, hQ5, l5, y5, z5⟩, st5⟩ := X2.specialBack hx (y := own_y1) rfl hown (mvT hZ (own_w hw 33 rfl)) (mvT hZ (own_w hw 34 rfl)) (mvT hZ (own_w hw 36 rfl)) (by decide) (backOf (W := 1) (own_linit l Z a0 hw [] b2 q1 h2 n0 Z3 A2 F_value_b2 g_b2) hZ (own_w hw 36 rfl) (own_w hw 22 rfl) (by decide) (by decide)) (g := (mkF m 36 #[.val (.long q1), .second, iv 128] [.long q1, .ref b2, .ref b2])) rfl (by rw [hml]; rfl) (Steps.refl _) (a := b2) (argsL := [(.long q1)]) (rest := [(.ref b2)]) (lenOf own_pd_2 rfl) rfl (by show 2 * 0 + _ ≤ _; exact Nat.le_of_eq rfl) (hb hby own_d_jdk_35_method_24_36) (fun _ _ => ⟨rfl, e2, (by decide : 1 + 0 ≤ _), (by decide : 1 + 0 ≤ _)⟩)
    dsimp only [Pt.U, Pt.locs, Pt.cells, Pt.slots] at X5 l5 y5 z5 st5 hQ5
    subst l5 y5 z5
    obtain ⟨rfl, Nq5, Kq5, P5_0⟩ := hQ5
    have N5 := Fr.app (Fr.nil n0) Nq5
    have e5 : T5.heap = T5.heap := rfl
    have Z6 := Nat.le_trans Z3 Kq5.1
    have K7 : Keep h0 _ [] := K4.trans Kq5 (allS (P := fun x => x ∈ [] ∨ h0.size ≤ x) (Or.inr sz_b2) all0)
    refine own_tr st5 ?_
    show own_E p e below _ T5 (mkF m 39 #[.val (.long q1), .second, iv 128] [.ref b2])
    refine own_retA X5 hx Bd.notSynchronized Bd.returns rfl rfl (hb hby own_d_jdk_35_method_24_39) (by decide) (by decide) ?_
    show own_lval_Q Z q1 h0 n0 _ T5.heap _
    rw [e5]
    exact ⟨b2, rfl, N5, K7, P5_0⟩
  · refine own_st (fun t k => XS.ifNo X0.here hx rfl (hb hby own_d_jdk_35_method_24_9) rfl ((if0 _ _).trans (flt (fun q => hc1 ((lw_lt _ _).mp q))).1) k) ?_
    show own_E p e below _ s₁ (mkF m 12 #[.val (.long q1), .second, iv 128] [])
    refine own_st (fun t k => XS.lloadN X0.here hx rfl (hb hby own_d_jdk_35_method_24_12) rfl k) ?_
    show own_E p e below _ s₁ (mkF m 13 #[.val (.long q1), .second, iv 128] [.long q1])
    refine own_st (X0.ldc2Long hx hown (mvT hZ (own_w hw 25 rfl)) (g := (mkF m 13 #[.val (.long q1), .second, iv 128] [.long q1])) rfl (hb hby own_d_jdk_35_method_24_13)) ?_
    show own_E p e below _ s₁ (mkF m 16 #[.val (.long q1), .second, iv 128] [.long 127, .long q1])
    refine own_st (fun t k => XS.lcmp X0.here hx rfl (hb hby own_d_jdk_35_method_24_16) rfl k) ?_
    show own_E p e below _ s₁ (mkF m 17 #[.val (.long q1), .second, iv 128] [.int (lcmpW q1 (127 : Int64))])
    by_cases hc8 : (127 : Int64) < q1
    · refine own_st (fun t k => XS.ifYes X0.here hx rfl (pc0 := 17) (pc' := 31) rfl (hb hby own_d_jdk_35_method_24_17) rfl ((if0 _ _).trans (tlt ((lw_gt _ _).mpr hc8)).2.2.1) (by decide) (by decide) k) ?_
      show own_E p e below _ s₁ (mkF m 31 #[.val (.long q1), .second, iv 128] [])
      obtain ⟨T9, h9, X9, e9, E9, A9, D9, -, st9⟩ := newO X0 hx hZ hown (own_w hw 31 rfl) (own_w hw 32 rfl) (own_w hw 22 rfl) e0 (g := (mkF m 31 #[.val (.long q1), .second, iv 128] [])) rfl (hb hby own_d_jdk_35_method_24_31) (by decide) (by decide)
      obtain ⟨b9, g9⟩ : ∃ z, z = h0.size := ⟨_, rfl⟩
      rw [← g9] at A9 D9 st9
      have g_b9 : n0 ≤ b9 := Nat.le_trans Z0 (Nat.le_of_eq g9.symm)
      have sz_b9 : h0.size ≤ b9 := Nat.le_trans (Keep.refl h0 []).1 (Nat.le_of_eq g9.symm)
      have Z10 := Nat.le_trans Z0 E9.1
      have K11 : Keep h0 _ [] := (Keep.refl h0 []).ext E9
      have F_value_b9 : Fld Z h9 b9 "java/lang/Long" "value" "J" (.long (0 : Int64)) := D9 (Or.inr (own_w hw 45 rfl)) (ty := .long) (by decide)
      refine own_st st9 ?_
      show own_E p e below _ T9 (mkF m 34 #[.val (.long q1), .second, iv 128] [.ref b9])
      refine own_st (fun t k => XS.dup X9.here hx rfl (hb hby own_d_jdk_35_method_24_34) rfl rfl k) ?_
      show own_E p e below _ T9 (mkF m 35 #[.val (.long q1), .second, iv 128] [.ref b9, .ref b9])
      refine own_st (fun t k => XS.lloadN X9.here hx rfl (hb hby own_d_jdk_35_method_24_35) rfl k) ?_
      show own_E p e below _ T9 (mkF m 36 #[.val (.long q1), .second, iv 128] [.long q1, .ref b9, .ref b9])
      obtain ⟨_, _, ⟨T12, L12, k12, n12⟩, -, X12, ⟨Lc12, hQ12, l12, y12, z12⟩, st12⟩ := X9.specialBack hx (y := own_y1) rfl hown (mvT hZ (own_w hw 33 rfl)) (mvT hZ (own_w hw 34 rfl)) (mvT hZ (own_w hw 36 rfl)) (by decide) (backOf (W := 1) (own_linit l Z a0 hw [] b9 q1 h9 n0 Z10 A9 F_value_b9 g_b9) hZ (own_w hw 36 rfl) (own_w hw 22 rfl) (by decide) (by decide)) (g := (mkF m 36 #[.val (.long q1), .second, iv 128] [.long q1, .ref b9, .ref b9])) rfl (by rw [hml]; rfl) (Steps.refl _) (a := b9) (argsL := [(.long q1)]) (rest := [(.ref b9)]) (lenOf own_pd_2 rfl) rfl (by show 2 * 0 + _ ≤ _; exact Nat.le_of_eq rfl) (hb hby own_d_jdk_35_method_24_36) (fun _ _ => ⟨rfl, e9, (by decide : 1 + 0 ≤ _), (by decide : 1 + 0 ≤ _)⟩)
      dsimp only [Pt.U, Pt.locs, Pt.cells, Pt.slots] at X12 l12 y12 z12 st12 hQ12
      subst l12 y12 z12
      obtain ⟨rfl, Nq12, Kq12, P12_0⟩ := hQ12
      have N12 := Fr.app (Fr.nil n0) Nq12
      have e12 : T12.heap = T12.heap := rfl
      have Z13 := Nat.le_trans Z10 Kq12.1
      have K14 : Keep h0 _ [] := K11.trans Kq12 (allS (P := fun x => x ∈ [] ∨ h0.size ≤ x) (Or.inr sz_b9) all0)
      refine own_tr st12 ?_
      show own_E p e below _ T12 (mkF m 39 #[.val (.long q1), .second, iv 128] [.ref b9])
      refine own_retA X12 hx Bd.notSynchronized Bd.returns rfl rfl (hb hby own_d_jdk_35_method_24_39) (by decide) (by decide) ?_
      show own_lval_Q Z q1 h0 n0 _ T12.heap _
      rw [e12]
      exact ⟨b9, rfl, N12, K14, P12_0⟩
    · refine own_st (fun t k => XS.ifNo X0.here hx rfl (hb hby own_d_jdk_35_method_24_17) rfl ((if0 _ _).trans (flt (fun q => hc8 ((lw_gt _ _).mp q))).2.2.1) k) ?_
      show own_E p e below _ s₁ (mkF m 20 #[.val (.long q1), .second, iv 128] [])
      obtain ⟨T15, X15, e15, st15⟩ := getS2 X0 hx hZ hown (host := "") (Or.inl (own_w hw 26 rfl)) Via.refl e0 hSt (g := (mkF m 20 #[.val (.long q1), .second, iv 128] [])) rfl (hb hby own_d_jdk_35_method_24_20)
      refine own_st st15 ?_
      show own_E p e below _ T15 (mkF m 23 #[.val (.long q1), .second, iv 128] [.ref ac])
      refine own_st (fun t k => XS.lloadN X15.here hx rfl (hb hby own_d_jdk_35_method_24_23) rfl k) ?_
      show own_E p e below _ T15 (mkF m 24 #[.val (.long q1), .second, iv 128] [.long q1, .ref ac])
      refine own_st (fun t k => XS.l2i X15.here hx rfl (hb hby own_d_jdk_35_method_24_24) rfl k) ?_
      show own_E p e below _ T15 (mkF m 25 #[.val (.long q1), .second, iv 128] [.int (q1.toInt32), .ref ac])
      refine own_st (fun t k => XS.sipush X15.here hx rfl (hb hby own_d_jdk_35_method_24_25) k) ?_
      show own_E p e below _ T15 (mkF m 28 #[.val (.long q1), .second, iv 128] [.int 128, .int (q1.toInt32), .ref ac])
      refine own_st (fun t k => XS.iadd X15.here hx rfl (hb hby own_d_jdk_35_method_24_28) rfl k) ?_
      show own_E p e below _ T15 (mkF m 29 #[.val (.long q1), .second, iv 128] [.int ((q1.toInt32) + (128 : Int32)), .ref ac])
      have hp16 := Jvm.Free.LongBox.place_okL q1 hc1 hc8
      obtain ⟨bx, hbx, Ebx⟩ := hel _ hp16.2
      refine own_st (fun t k => X15.aaload hx (j := ((q1.toInt32) + (128 : Int32))) (v := .ref bx) (by rw [e15]; exact hAr.1) (State.isArrayOf_alike hZ.alike hAr.2.1) rfl hAr.2.2 (by rw [hsz]; exact hp16.1) hbx (g := (mkF m 29 #[.val (.long q1), .second, iv 128] [.int ((q1.toInt32) + (128 : Int32)), .ref ac])) rfl rfl (hb hby own_d_jdk_35_method_24_29) _ k) ?_
      show own_E p e below _ T15 (mkF m 30 #[.val (.long q1), .second, iv 128] [.ref bx])
      refine own_retA X15 hx Bd.notSynchronized Bd.returns rfl rfl (hb hby own_d_jdk_35_method_24_30) (by decide) (by decide) ?_
      show own_lval_Q Z q1 h0 n0 _ T15.heap _
      rw [e15]
      exact ⟨bx, rfl, (Fr.nil n0), (Keep.refl h0 []), Ebx⟩
theorem own_d_prog_84_method_1_0 : decode prog_84_method_1_code 0 = .ok (.aload_n 0, 1) := by decide +kernel
theorem own_d_prog_84_method_1_1 : decode prog_84_method_1_code 1 = .ok (.invokespecial 1, 3) := by decide +kernel
theorem own_d_prog_84_method_1_4 : decode prog_84_method_1_code 4 = .ok (.aload_n 0, 1) := by decide +kernel
theorem own_d_prog_84_method_1_5 : decode prog_84_method_1_code 5 = .ok (.lload_n 1, 1) := by decide +kernel
theorem own_d_prog_84_method_1_6 : decode prog_84_method_1_code 6 = .ok (.putfield 7, 3) := by decide +kernel
theorem own_d_prog_84_method_1_9 : decode prog_84_method_1_code 9 = .ok (.aload_n 0, 1) := by decide +kernel
theorem own_d_prog_84_method_1_10 : decode prog_84_method_1_code 10 = .ok (.iload_n 3, 1) := by decide +kernel
theorem own_d_prog_84_method_1_11 : decode prog_84_method_1_code 11 = .ok (.putfield 13, 3) := by decide +kernel
theorem own_d_prog_84_method_1_14 : decode prog_84_method_1_code 14 = .ok (.return_, 1) := by decide +kernel
def own_init0_Q (Z : State) (a1 : Addr) (q1 : Int64) (h0 : Heap) (n0 : Nat) (v : Option Value) (h : Heap) (L : List Loc) : Prop := v = none ∧ Fr n0 L ∧ Keep h0 h [a1] ∧ Exa Z h a1 "com/example/tight_fence/tightfence/engine/TemporalValue" ∧ Fld Z h a1 "com/example/tight_fence/tightfence/engine/TemporalValue" "count" "J" (.long q1)
abbrev own_y3 : MethodName := ⟨"com/example/tight_fence/tightfence/engine/TemporalValue", "<init>", "(JZ)V"⟩
theorem own_pn_TemporalValue : plainName "com/example/tight_fence/tightfence/engine/TemporalValue" = true := by first | (simp [plainName, overriddenIn]; done) | decide +kernel
theorem own_init0_ef (m : MethodId) (a1 : Addr) (q1 : Int64) : entryFrame m #[(.ref a1), (.long q1), (.int (0 : Int32))] 4 = mkF m 0 #[.val (.ref a1), .val (.long q1), .second, .val (.int (0 : Int32))] [] := by first | (simp [entryFrame, mkF, argsToLocals, Value.category]; done) | rfl
set_option maxRecDepth 65536 in
set_option maxHeartbeats 40000000 in
theorem own_init0 (l : Launch) (Z : State) (a0 : Array Value) (hw : ∀ d ∈ tables_1, d.before a0 Z = true) (ws : List Jvm.Cond) (a1 : Addr) (q1 : Int64) (h0 : Heap) (n0 : Nat) (Z0 : n0 ≤ h0.size) (E_a1 : Exa Z h0 a1 "com/example/tight_fence/tightfence/engine/TemporalValue") (F_count_a1 : Fld Z h0 a1 "com/example/tight_fence/tightfence/engine/TemporalValue" "count" "J" (.long (0 : Int64))) (F_fromClock_a1 : Fld Z h0 a1 "com/example/tight_fence/tightfence/engine/TemporalValue" "fromClock" "Z" (.int (0 : Int32))) (g_a1 : n0 ≤ a1) :
    MetFree l own_y3 (head1 (Jvm.Cond.code own_y3 prog_84_method_1_code 4 none :: ws) ({ frames := 1, cells := 0, slots := 0, locals := 12 } : Room)) (fun a U => a = #[(.ref a1), (.long q1), (.int (0 : Int32))] ∧ Z.Warmed39 U.vm ∧ U.heap = h0) (fun _ _ _ _ _ => True) (fun _ U o U' => ∃ v L, o = .returned v ∧ own_init0_Q Z a1 q1 h0 n0 v U'.heap L ∧ FrameEnd U o U' L ({ frames := 1, cells := 0, slots := 0, locals := 12 } : Room).cells ({ frames := 1, cells := 0, slots := 0, locals := 12 } : Room).slots) := by
  refine MetFree.of_bodySF (plainFor_of_name own_pn_TemporalValue) hisR ?_
  intro p e s m args below meth c s₁ Bd hml0 hP hK
  obtain ⟨rfl, hZ, hh⟩ := hP
  have hx := Bd.exec
  have hby := Bd.bytes
  have hml : c.maxLocals = 4 := hml0
  have hown : s.vm.findClass "com/example/tight_fence/tightfence/engine/TemporalValue" = some m.cls := findClass_of_methodNamed Bd.named
  have hnm := (name_of_methodNamed Bd.named Bd.method).1
  have X0 : Stand p l e ({ frames := 1, cells := 0, slots := 0, locals := 12 } : Room) s m #[(.ref a1), (.long q1), (.int (0 : Int32))] below meth c s₁ [] 0 0 := Stand.of_body Bd
  have e0 : s₁.heap = h0 := by rw [← hh, Bd.state]; rfl
  show own_E p e below (own_K (own_init0_Q Z a1 q1 h0 n0) s ({ frames := 1, cells := 0, slots := 0, locals := 12 } : Room).cells ({ frames := 1, cells := 0, slots := 0, locals := 12 } : Room).slots) s₁ (entryFrame m #[(.ref a1), (.long q1), (.int (0 : Int32))] 4)
  refine own_pre (own_init0_ef m a1 q1) ?_
  show own_E p e below _ s₁ (mkF m 0 #[rv a1, .val (.long q1), .second, iv 0] [])
  refine own_st (fun t k => XS.aloadN X0.here hx rfl (hb hby own_d_prog_84_method_1_0) rfl rfl k) ?_
  show own_E p e below _ s₁ (mkF m 1 #[rv a1, .val (.long q1), .second, iv 0] [.ref a1])
  obtain ⟨T1, X1, e1, st1⟩ := initO X0 hx hZ hown (own_w hw 6 rfl) (own_w hw 7 rfl) (own_w hw 8 rfl) e0 (g := (mkF m 1 #[rv a1, .val (.long q1), .second, iv 0] [.ref a1])) rfl (by rw [hml]; rfl) rfl (hb hby own_d_prog_84_method_1_1) (by decide) (W := 0) (by show 2 * 0 + _ ≤ _; exact Nat.le_of_eq rfl) (by decide)
  refine own_st st1 ?_
  show own_E p e below _ T1 (mkF m 4 #[rv a1, .val (.long q1), .second, iv 0] [])
  refine own_st (fun t k => XS.aloadN X1.here hx rfl (hb hby own_d_prog_84_method_1_4) rfl rfl k) ?_
  show own_E p e below _ T1 (mkF m 5 #[rv a1, .val (.long q1), .second, iv 0] [.ref a1])
  refine own_st (fun t k => XS.lloadN X1.here hx rfl (hb hby own_d_prog_84_method_1_5) rfl k) ?_
  show own_E p e below _ T1 (mkF m 6 #[rv a1, .val (.long q1), .second, iv 0] [.long q1, .ref a1])
  obtain ⟨T2, h2, X2, e2, W2, st2⟩ := putF X1 hx hZ hown (host := "") (Or.inl (own_w hw 9 rfl)) Via.refl e1 F_count_a1 E_a1 (Or.inr ⟨(own_w hw 10 rfl), rfl, hnm⟩) (own_w hw 1 rfl) (ty := .long) (by decide) rfl rfl (g := (mkF m 6 #[rv a1, .val (.long q1), .second, iv 0] [.long q1, .ref a1])) rfl rfl (hb hby own_d_prog_84_method_1_6)
  have N2 := Fr.snoc X2 (Fr.nil n0) g_a1
  have Fw2 := F_count_a1.same W2
  have Z3 := Nat.le_trans Z0 (Keep.of_wr W2).1
  have K4 : Keep h0 _ [a1] := (Keep.refl h0 [a1]).wr W2 (Or.inl (List.mem_of_getElem? (i := 0) rfl))
  refine own_st st2 ?_
  show own_E p e below _ T2 (mkF m 9 #[rv a1, .val (.long q1), .second, iv 0] [])
  refine own_st (fun t k => XS.aloadN X2.here hx rfl (hb hby own_d_prog_84_method_1_9) rfl rfl k) ?_
  show own_E p e below _ T2 (mkF m 10 #[rv a1, .val (.long q1), .second, iv 0] [.ref a1])
  refine own_st (fun t k => XS.iloadN X2.here hx rfl (hb hby own_d_prog_84_method_1_10) rfl k) ?_
  show own_E p e below _ T2 (mkF m 11 #[rv a1, .val (.long q1), .second, iv 0] [.int 0, .ref a1])
  have B6 := (F_fromClock_a1.other W2 (Or.inr (slot_ne (Or.inr (own_w hw 12 rfl)) (Or.inr (own_w hw 10 rfl)) (by decide) (t := .boolean) (t' := .long) (by decide) (by decide))))
  have B7 := (E_a1.wr W2)
  obtain ⟨T5, h5, X5, e5, W5, st5⟩ := putF X2 hx hZ hown (host := "") (Or.inl (own_w hw 11 rfl)) Via.refl e2 B6 B7 (Or.inr ⟨(own_w hw 12 rfl), rfl, hnm⟩) (own_w hw 1 rfl) (ty := .boolean) (by decide) rfl rfl (g := (mkF m 11 #[rv a1, .val (.long q1), .second, iv 0] [.int 0, .ref a1])) rfl rfl (hb hby own_d_prog_84_method_1_11)
  have N5 := Fr.snoc X5 N2 g_a1
  have Fw5 := B6.same W5
  have Z8 := Nat.le_trans Z3 (Keep.of_wr W5).1
  have K9 : Keep h0 _ [a1] := K4.wr W5 (Or.inl (List.mem_of_getElem? (i := 0) rfl))
  refine own_st st5 ?_
  show own_E p e below _ T5 (mkF m 14 #[rv a1, .val (.long q1), .second, iv 0] [])
  refine own_retV X5 hx Bd.notSynchronized Bd.returns (hb hby own_d_prog_84_method_1_14) (by decide) (by decide) ?_
  have B10 := (B7.wr W5)
  have B11 := (Fw2.other W5 (Or.inr (slot_ne (Or.inr (own_w hw 10 rfl)) (Or.inr (own_w hw 12 rfl)) (by decide) (t := .long) (t' := .boolean) (by decide) (by decide))))
  show own_init0_Q Z a1 q1 h0 n0 _ T5.heap _
  rw [e5]
  exact ⟨rfl, N5, K9, B10, B11⟩
def own_init1_Q (Z : State) (a1 : Addr) (q1 : Int64) (h0 : Heap) (n0 : Nat) (v : Option Value) (h : Heap) (L : List Loc) : Prop := v = none ∧ Fr n0 L ∧ Keep h0 h [a1] ∧ Exa Z h a1 "com/example/tight_fence/tightfence/engine/TemporalValue" ∧ Fld Z h a1 "com/example/tight_fence/tightfence/engine/TemporalValue" "count" "J" (.long q1)
theorem own_init1_ef (m : MethodId) (a1 : Addr) (q1 : Int64) : entryFrame m #[(.ref a1), (.long q1), (.int (1 : Int32))] 4 = mkF m 0 #[.val (.ref a1), .val (.long q1), .second, .val (.int (1 : Int32))] [] := by first | (simp [entryFrame, mkF, argsToLocals, Value.category]; done) | rfl
set_option maxRecDepth 65536 in
set_option maxHeartbeats 40000000 in
theorem own_init1 (l : Launch) (Z : State) (a0 : Array Value) (hw : ∀ d ∈ tables_1, d.before a0 Z = true) (ws : List Jvm.Cond) (a1 : Addr) (q1 : Int64) (h0 : Heap) (n0 : Nat) (Z0 : n0 ≤ h0.size) (E_a1 : Exa Z h0 a1 "com/example/tight_fence/tightfence/engine/TemporalValue") (F_count_a1 : Fld Z h0 a1 "com/example/tight_fence/tightfence/engine/TemporalValue" "count" "J" (.long (0 : Int64))) (F_fromClock_a1 : Fld Z h0 a1 "com/example/tight_fence/tightfence/engine/TemporalValue" "fromClock" "Z" (.int (0 : Int32))) (g_a1 : n0 ≤ a1) :
    MetFree l own_y3 (head1 (Jvm.Cond.code own_y3 prog_84_method_1_code 4 none :: ws) ({ frames := 1, cells := 0, slots := 0, locals := 12 } : Room)) (fun a U => a = #[(.ref a1), (.long q1), (.int (1 : Int32))] ∧ Z.Warmed39 U.vm ∧ U.heap = h0) (fun _ _ _ _ _ => True) (fun _ U o U' => ∃ v L, o = .returned v ∧ own_init1_Q Z a1 q1 h0 n0 v U'.heap L ∧ FrameEnd U o U' L ({ frames := 1, cells := 0, slots := 0, locals := 12 } : Room).cells ({ frames := 1, cells := 0, slots := 0, locals := 12 } : Room).slots) := by
  refine MetFree.of_bodySF (plainFor_of_name own_pn_TemporalValue) hisR ?_
  intro p e s m args below meth c s₁ Bd hml0 hP hK
  obtain ⟨rfl, hZ, hh⟩ := hP
  have hx := Bd.exec
  have hby := Bd.bytes
  have hml : c.maxLocals = 4 := hml0
  have hown : s.vm.findClass "com/example/tight_fence/tightfence/engine/TemporalValue" = some m.cls := findClass_of_methodNamed Bd.named
  have hnm := (name_of_methodNamed Bd.named Bd.method).1
  have X0 : Stand p l e ({ frames := 1, cells := 0, slots := 0, locals := 12 } : Room) s m #[(.ref a1), (.long q1), (.int (1 : Int32))] below meth c s₁ [] 0 0 := Stand.of_body Bd
  have e0 : s₁.heap = h0 := by rw [← hh, Bd.state]; rfl
  show own_E p e below (own_K (own_init1_Q Z a1 q1 h0 n0) s ({ frames := 1, cells := 0, slots := 0, locals := 12 } : Room).cells ({ frames := 1, cells := 0, slots := 0, locals := 12 } : Room).slots) s₁ (entryFrame m #[(.ref a1), (.long q1), (.int (1 : Int32))] 4)
  refine own_pre (own_init1_ef m a1 q1) ?_
  show own_E p e below _ s₁ (mkF m 0 #[rv a1, .val (.long q1), .second, iv 1] [])
  refine own_st (fun t k => XS.aloadN X0.here hx rfl (hb hby own_d_prog_84_method_1_0) rfl rfl k) ?_
  show own_E p e below _ s₁ (mkF m 1 #[rv a1, .val (.long q1), .second, iv 1] [.ref a1])
  obtain ⟨T1, X1, e1, st1⟩ := initO X0 hx hZ hown (own_w hw 6 rfl) (own_w hw 7 rfl) (own_w hw 8 rfl) e0 (g := (mkF m 1 #[rv a1, .val (.long q1), .second, iv 1] [.ref a1])) rfl (by rw [hml]; rfl) rfl (hb hby own_d_prog_84_method_1_1) (by decide) (W := 0) (by show 2 * 0 + _ ≤ _; exact Nat.le_of_eq rfl) (by decide)
  refine own_st st1 ?_
  show own_E p e below _ T1 (mkF m 4 #[rv a1, .val (.long q1), .second, iv 1] [])
  refine own_st (fun t k => XS.aloadN X1.here hx rfl (hb hby own_d_prog_84_method_1_4) rfl rfl k) ?_
  show own_E p e below _ T1 (mkF m 5 #[rv a1, .val (.long q1), .second, iv 1] [.ref a1])
  refine own_st (fun t k => XS.lloadN X1.here hx rfl (hb hby own_d_prog_84_method_1_5) rfl k) ?_
  show own_E p e below _ T1 (mkF m 6 #[rv a1, .val (.long q1), .second, iv 1] [.long q1, .ref a1])
  obtain ⟨T2, h2, X2, e2, W2, st2⟩ := putF X1 hx hZ hown (host := "") (Or.inl (own_w hw 9 rfl)) Via.refl e1 F_count_a1 E_a1 (Or.inr ⟨(own_w hw 10 rfl), rfl, hnm⟩) (own_w hw 1 rfl) (ty := .long) (by decide) rfl rfl (g := (mkF m 6 #[rv a1, .val (.long q1), .second, iv 1] [.long q1, .ref a1])) rfl rfl (hb hby own_d_prog_84_method_1_6)
  have N2 := Fr.snoc X2 (Fr.nil n0) g_a1
  have Fw2 := F_count_a1.same W2
  have Z3 := Nat.le_trans Z0 (Keep.of_wr W2).1
  have K4 : Keep h0 _ [a1] := (Keep.refl h0 [a1]).wr W2 (Or.inl (List.mem_of_getElem? (i := 0) rfl))
  refine own_st st2 ?_
  show own_E p e below _ T2 (mkF m 9 #[rv a1, .val (.long q1), .second, iv 1] [])
  refine own_st (fun t k => XS.aloadN X2.here hx rfl (hb hby own_d_prog_84_method_1_9) rfl rfl k) ?_
  show own_E p e below _ T2 (mkF m 10 #[rv a1, .val (.long q1), .second, iv 1] [.ref a1])
  refine own_st (fun t k => XS.iloadN X2.here hx rfl (hb hby own_d_prog_84_method_1_10) rfl k) ?_
  show own_E p e below _ T2 (mkF m 11 #[rv a1, .val (.long q1), .second, iv 1] [.int 1, .ref a1])
  have B6 := (F_fromClock_a1.other W2 (Or.inr (slot_ne (Or.inr (own_w hw 12 rfl)) (Or.inr (own_w hw 10 rfl)) (by decide) (t := .boolean) (t' := .long) (by decide) (by decide))))
  have B7 := (E_a1.wr W2)
  obtain ⟨T5, h5, X5, e5, W5, st5⟩ := putF X2 hx hZ hown (host := "") (Or.inl (own_w hw 11 rfl)) Via.refl e2 B6 B7 (Or.inr ⟨(own_w hw 12 rfl), rfl, hnm⟩) (own_w hw 1 rfl) (ty := .boolean) (by decide) rfl rfl (g := (mkF m 11 #[rv a1, .val (.long q1), .second, iv 1] [.int 1, .ref a1])) rfl rfl (hb hby own_d_prog_84_method_1_11)
  have N5 := Fr.snoc X5 N2 g_a1
  have Fw5 := B6.same W5
  have Z8 := Nat.le_trans Z3 (Keep.of_wr W5).1
  have K9 : Keep h0 _ [a1] := K4.wr W5 (Or.inl (List.mem_of_getElem? (i := 0) rfl))
  refine own_st st5 ?_
  show own_E p e below _ T5 (mkF m 14 #[rv a1, .val (.long q1), .second, iv 1] [])
  refine own_retV X5 hx Bd.notSynchronized Bd.returns (hb hby own_d_prog_84_method_1_14) (by decide) (by decide) ?_
  have B10 := (B7.wr W5)
  have B11 := (Fw2.other W5 (Or.inr (slot_ne (Or.inr (own_w hw 10 rfl)) (Or.inr (own_w hw 12 rfl)) (by decide) (t := .long) (t' := .boolean) (by decide) (by decide))))
  show own_init1_Q Z a1 q1 h0 n0 _ T5.heap _
  rw [e5]
  exact ⟨rfl, N5, K9, B10, B11⟩
theorem own_d_prog_84_method_5_0 : decode prog_84_method_5_code 0 = .ok (.aload_n 1, 1) := by decide +kernel
theorem own_d_prog_84_method_5_1 : decode prog_84_method_5_code 1 = .ok (.instanceof 8, 3) := by decide +kernel
theorem own_d_prog_84_method_5_4 : decode prog_84_method_5_code 4 = .ok (.ifCond .eq 22, 3) := by decide +kernel
theorem own_d_prog_84_method_5_7 : decode prog_84_method_5_code 7 = .ok (.aload_n 1, 1) := by decide +kernel
theorem own_d_prog_84_method_5_8 : decode prog_84_method_5_code 8 = .ok (.checkcast 8, 3) := by decide +kernel
theorem own_d_prog_84_method_5_11 : decode prog_84_method_5_code 11 = .ok (.getfield 7, 3) := by decide +kernel
theorem own_d_prog_84_method_5_14 : decode prog_84_method_5_code 14 = .ok (.aload_n 0, 1) := by decide +kernel
theorem own_d_prog_84_method_5_15 : decode prog_84_method_5_code 15 = .ok (.getfield 7, 3) := by decide +kernel
theorem own_d_prog_84_method_5_18 : decode prog_84_method_5_code 18 = .ok (.lcmp, 1) := by decide +kernel
theorem own_d_prog_84_method_5_19 : decode prog_84_method_5_code 19 = .ok (.ifCond .ne 7, 3) := by decide +kernel
theorem own_d_prog_84_method_5_22 : decode prog_84_method_5_code 22 = .ok (.iconst 1, 1) := by decide +kernel
theorem own_d_prog_84_method_5_23 : decode prog_84_method_5_code 23 = .ok (.goto 4, 3) := by decide +kernel
theorem own_d_prog_84_method_5_27 : decode prog_84_method_5_code 27 = .ok (.ireturn, 1) := by decide +kernel
theorem own_d_prog_84_method_5_26 : decode prog_84_method_5_code 26 = .ok (.iconst 0, 1) := by decide +kernel
def own_eqT_Q (a1 : Addr) (a2 : Addr) (q1 : Int64) (q2 : Int64) (h0 : Heap) (v : Option Value) (h : Heap) (L : List Loc) : Prop := ((v = some (.int (1 : Int32)) ∧ q2 = q1) ∨ (v = some (.int (0 : Int32)) ∧ ¬ (q2 = q1))) ∧ h = h0 ∧ L = []
abbrev own_y4 : MethodName := ⟨"com/example/tight_fence/tightfence/engine/TemporalValue", "equals", "(Ljava/lang/Object;)Z"⟩
theorem own_eqT_ef (m : MethodId) (a1 : Addr) (a2 : Addr) (q1 : Int64) (q2 : Int64) : entryFrame m #[(.ref a1), (.ref a2)] 2 = mkF m 0 #[.val (.ref a1), .val (.ref a2)] [] := by first | (simp [entryFrame, mkF, argsToLocals, Value.category]; done) | rfl
set_option maxRecDepth 65536 in
set_option maxHeartbeats 40000000 in
theorem own_eqT (l : Launch) (Z : State) (a0 : Array Value) (hw : ∀ d ∈ tables_1, d.before a0 Z = true) (ws : List Jvm.Cond) (a1 : Addr) (a2 : Addr) (q1 : Int64) (q2 : Int64) (h0 : Heap) (n0 : Nat) (Z0 : n0 ≤ h0.size) (E_a2 : Exa Z h0 a2 "com/example/tight_fence/tightfence/engine/TemporalValue") (F_count_a1 : Fld Z h0 a1 "com/example/tight_fence/tightfence/engine/TemporalValue" "count" "J" (.long q1)) (F_count_a2 : Fld Z h0 a2 "com/example/tight_fence/tightfence/engine/TemporalValue" "count" "J" (.long q2)) :
    MetFree l own_y4 (head1 (Jvm.Cond.code own_y4 prog_84_method_5_code 2 (some .boolean) :: ws) ({ frames := 0, cells := 0, slots := 0, locals := 0 } : Room)) (fun a U => a = #[(.ref a1), (.ref a2)] ∧ Z.Warmed39 U.vm ∧ U.heap = h0) (fun _ _ _ _ _ => True) (fun _ U o U' => ∃ v L, o = .returned v ∧ own_eqT_Q a1 a2 q1 q2 h0 v U'.heap L ∧ FrameEnd U o U' L ({ frames := 0, cells := 0, slots := 0, locals := 0 } : Room).cells ({ frames := 0, cells := 0, slots := 0, locals := 0 } : Room).slots) := by
  refine MetFree.of_bodySF (plainFor_of_name own_pn_TemporalValue) hisR ?_
  intro p e s m args below meth c s₁ Bd hml0 hP hK
  obtain ⟨rfl, hZ, hh⟩ := hP
  have hx := Bd.exec
  have hby := Bd.bytes
  have hml : c.maxLocals = 2 := hml0
  have hown : s.vm.findClass "com/example/tight_fence/tightfence/engine/TemporalValue" = some m.cls := findClass_of_methodNamed Bd.named
  have hnm := (name_of_methodNamed Bd.named Bd.method).1
  have X0 : Stand p l e ({ frames := 0, cells := 0, slots := 0, locals := 0 } : Room) s m #[(.ref a1), (.ref a2)] below meth c s₁ [] 0 0 := Stand.of_body Bd
  have e0 : s₁.heap = h0 := by rw [← hh, Bd.state]; rfl
  show own_E p e below (own_K (own_eqT_Q a1 a2 q1 q2 h0) s ({ frames := 0, cells := 0, slots := 0, locals := 0 } : Room).cells ({ frames := 0, cells := 0, slots := 0, locals := 0 } : Room).slots) s₁ (entryFrame m #[(.ref a1), (.ref a2)] 2)
  refine own_pre (own_eqT_ef m a1 a2 q1 q2) ?_
  show own_E p e below _ s₁ (mkF m 0 #[rv a1, rv a2] [])
  refine own_st (fun t k => XS.aloadN X0.here hx rfl (hb hby own_d_prog_84_method_5_0) rfl rfl k) ?_
  show own_E p e below _ s₁ (mkF m 1 #[rv a1, rv a2] [.ref a2])
  obtain ⟨T1, X1, e1, st1⟩ := instY X0 hx hZ hown (own_w hw 18 rfl) e0 (Ins.self E_a2) (g := (mkF m 1 #[rv a1, rv a2] [.ref a2])) rfl rfl (hb hby own_d_prog_84_method_5_1)
  refine own_st st1 ?_
  show own_E p e below _ T1 (mkF m 4 #[rv a1, rv a2] [.int 1])
  refine own_st (fun t k => XS.ifNo X1.here hx rfl (hb hby own_d_prog_84_method_5_4) rfl (by decide) k) ?_
  show own_E p e below _ T1 (mkF m 7 #[rv a1, rv a2] [])
  refine own_st (fun t k => XS.aloadN X1.here hx rfl (hb hby own_d_prog_84_method_5_7) rfl rfl k) ?_
  show own_E p e below _ T1 (mkF m 8 #[rv a1, rv a2] [.ref a2])
  obtain ⟨T2, X2, e2, st2⟩ := castY X1 hx hZ hown (own_w hw 18 rfl) e1 (Ins.self E_a2) (g := (mkF m 8 #[rv a1, rv a2] [.ref a2])) rfl rfl (hb hby own_d_prog_84_method_5_8)
  refine own_st st2 ?_
  show own_E p e below _ T2 (mkF m 11 #[rv a1, rv a2] [.ref a2])
  obtain ⟨T3, X3, e3, st3⟩ := getF X2 hx hZ hown (host := "") (Or.inl (own_w hw 9 rfl)) Via.refl e2 F_count_a2 (g := (mkF m 11 #[rv a1, rv a2] [.ref a2])) rfl rfl (hb hby own_d_prog_84_method_5_11)
  refine own_st st3 ?_
  show own_E p e below _ T3 (mkF m 14 #[rv a1, rv a2] [.long q2])
  refine own_st (fun t k => XS.aloadN X3.here hx rfl (hb hby own_d_prog_84_method_5_14) rfl rfl k) ?_
  show own_E p e below _ T3 (mkF m 15 #[rv a1, rv a2] [.ref a1, .long q2])
  obtain ⟨T4, X4, e4, st4⟩ := getF X3 hx hZ hown (host := "") (Or.inl (own_w hw 9 rfl)) Via.refl e3 F_count_a1 (g := (mkF m 15 #[rv a1, rv a2] [.ref a1, .long q2])) rfl rfl (hb hby own_d_prog_84_method_5_15)
  refine own_st st4 ?_
  show own_E p e below _ T4 (mkF m 18 #[rv a1, rv a2] [.long q1, .long q2])
  refine own_st (fun t k => XS.lcmp X4.here hx rfl (hb hby own_d_prog_84_method_5_18) rfl k) ?_
  show own_E p e below _ T4 (mkF m 19 #[rv a1, rv a2] [.int (lcmpW q2 q1)])
  by_cases hc5 : q2 = q1
  · refine own_st (fun t k => XS.ifNo X4.here hx rfl (hb hby own_d_prog_84_method_5_19) rfl ((if0 _ _).trans (teq ((lw_eq _ _).mpr hc5)).2) k) ?_
    show own_E p e below _ T4 (mkF m 22 #[rv a1, rv a2] [])
    refine own_st (fun t k => XS.iconst X4.here hx rfl (hb hby own_d_prog_84_method_5_22) k) ?_
    show own_E p e below _ T4 (mkF m 23 #[rv a1, rv a2] [.int 1])
    refine own_st (fun t k => XS.goto X4.here hx rfl (pc0 := 23) (pc' := 27) rfl (hb hby own_d_prog_84_method_5_23) (by decide) (by decide) k) ?_
    show own_E p e below _ T4 (mkF m 27 #[rv a1, rv a2] [.int 1])
    refine own_retS X4 hx Bd.notSynchronized Bd.returns rfl (by decide) (hb hby own_d_prog_84_method_5_27) (by decide) (by decide) ?_
    exact ⟨(Or.inl ⟨rfl, hc5⟩), e4, rfl⟩
  · refine own_st (fun t k => XS.ifYes X4.here hx rfl (pc0 := 19) (pc' := 26) rfl (hb hby own_d_prog_84_method_5_19) rfl ((if0 _ _).trans (feq (fun q => hc5 ((lw_eq _ _).mp q))).2) (by decide) (by decide) k) ?_
    show own_E p e below _ T4 (mkF m 26 #[rv a1, rv a2] [])
    refine own_st (fun t k => XS.iconst X4.here hx rfl (hb hby own_d_prog_84_method_5_26) k) ?_
    show own_E p e below _ T4 (mkF m 27 #[rv a1, rv a2] [.int 0])
    refine own_retS X4 hx Bd.notSynchronized Bd.returns rfl (by decide) (hb hby own_d_prog_84_method_5_27) (by decide) (by decide) ?_
    exact ⟨(Or.inr ⟨rfl, hc5⟩), e4, rfl⟩
def own_eqN_Q (a1 : Addr) (h0 : Heap) (v : Option Value) (h : Heap) (L : List Loc) : Prop := ((v = some (.int (0 : Int32)))) ∧ h = h0 ∧ L = []
theorem own_eqN_ef (m : MethodId) (a1 : Addr) : entryFrame m #[(.ref a1), .null] 2 = mkF m 0 #[.val (.ref a1), .val .null] [] := by first | (simp [entryFrame, mkF, argsToLocals, Value.category]; done) | rfl
set_option maxRecDepth 65536 in
set_option maxHeartbeats 40000000 in
theorem own_eqN (l : Launch) (Z : State) (a0 : Array Value) (hw : ∀ d ∈ tables_1, d.before a0 Z = true) (ws : List Jvm.Cond) (a1 : Addr) (h0 : Heap) (n0 : Nat) (Z0 : n0 ≤ h0.size)  :
    MetFree l own_y4 (head1 (Jvm.Cond.code own_y4 prog_84_method_5_code 2 (some .boolean) :: ws) ({ frames := 0, cells := 0, slots := 0, locals := 0 } : Room)) (fun a U => a = #[(.ref a1), .null] ∧ Z.Warmed39 U.vm ∧ U.heap = h0) (fun _ _ _ _ _ => True) (fun _ U o U' => ∃ v L, o = .returned v ∧ own_eqN_Q a1 h0 v U'.heap L ∧ FrameEnd U o U' L ({ frames := 0, cells := 0, slots := 0, locals := 0 } : Room).cells ({ frames := 0, cells := 0, slots := 0, locals := 0 } : Room).slots) := by
  refine MetFree.of_bodySF (plainFor_of_name own_pn_TemporalValue) hisR ?_
  intro p e s m args below meth c s₁ Bd hml0 hP hK
  obtain ⟨rfl, hZ, hh⟩ := hP
  have hx := Bd.exec
  have hby := Bd.bytes
  have hml : c.maxLocals = 2 := hml0
  have hown : s.vm.findClass "com/example/tight_fence/tightfence/engine/TemporalValue" = some m.cls := findClass_of_methodNamed Bd.named
  have hnm := (name_of_methodNamed Bd.named Bd.method).1
  have X0 : Stand p l e ({ frames := 0, cells := 0, slots := 0, locals := 0 } : Room) s m #[(.ref a1), .null] below meth c s₁ [] 0 0 := Stand.of_body Bd
  have e0 : s₁.heap = h0 := by rw [← hh, Bd.state]; rfl
  show own_E p e below (own_K (own_eqN_Q a1 h0) s ({ frames := 0, cells := 0, slots := 0, locals := 0 } : Room).cells ({ frames := 0, cells := 0, slots := 0, locals := 0 } : Room).slots) s₁ (entryFrame m #[(.ref a1), .null] 2)
  refine own_pre (own_eqN_ef m a1) ?_
  show own_E p e below _ s₁ (mkF m 0 #[rv a1, .val (.null)] [])
  refine own_st (fun t k => XS.aloadN X0.here hx rfl (hb hby own_d_prog_84_method_5_0) rfl rfl k) ?_
  show own_E p e below _ s₁ (mkF m 1 #[rv a1, .val (.null)] [.null])
  refine own_st (fun t k => X0.instanceofNull hx (g := (mkF m 1 #[rv a1, .val (.null)] [.null])) rfl rfl (hb hby own_d_prog_84_method_5_1) _ k) ?_
  show own_E p e below _ s₁ (mkF m 4 #[rv a1, .val (.null)] [.int 0])
  refine own_st (fun t k => XS.ifYes X0.here hx rfl (pc0 := 4) (pc' := 26) rfl (hb hby own_d_prog_84_method_5_4) rfl (by decide) (by decide) (by decide) k) ?_
  show own_E p e below _ s₁ (mkF m 26 #[rv a1, .val (.null)] [])
  refine own_st (fun t k => XS.iconst X0.here hx rfl (hb hby own_d_prog_84_method_5_26) k) ?_
  show own_E p e below _ s₁ (mkF m 27 #[rv a1, .val (.null)] [.int 0])
  refine own_retS X0 hx Bd.notSynchronized Bd.returns rfl (by decide) (hb hby own_d_prog_84_method_5_27) (by decide) (by decide) ?_
  exact ⟨rfl, e0, rfl⟩
def own_eqL_Q (a1 : Addr) (a2 : Addr) (h0 : Heap) (v : Option Value) (h : Heap) (L : List Loc) : Prop := ((v = some (.int (0 : Int32)))) ∧ h = h0 ∧ L = []
theorem own_eqL_ef (m : MethodId) (a1 : Addr) (a2 : Addr) : entryFrame m #[(.ref a1), (.ref a2)] 2 = mkF m 0 #[.val (.ref a1), .val (.ref a2)] [] := by first | (simp [entryFrame, mkF, argsToLocals, Value.category]; done) | rfl
set_option maxRecDepth 65536 in
set_option maxHeartbeats 40000000 in
theorem own_eqL (l : Launch) (Z : State) (a0 : Array Value) (hw : ∀ d ∈ tables_1, d.before a0 Z = true) (ws : List Jvm.Cond) (a1 : Addr) (a2 : Addr) (h0 : Heap) (n0 : Nat) (Z0 : n0 ≤ h0.size) (E_a2 : Exa Z h0 a2 "java/lang/Long") :
    MetFree l own_y4 (head1 (Jvm.Cond.code own_y4 prog_84_method_5_code 2 (some .boolean) :: ws) ({ frames := 0, cells := 0, slots := 0, locals := 0 } : Room)) (fun a U => a = #[(.ref a1), (.ref a2)] ∧ Z.Warmed39 U.vm ∧ U.heap = h0) (fun _ _ _ _ _ => True) (fun _ U o U' => ∃ v L, o = .returned v ∧ own_eqL_Q a1 a2 h0 v U'.heap L ∧ FrameEnd U o U' L ({ frames := 0, cells := 0, slots := 0, locals := 0 } : Room).cells ({ frames := 0, cells := 0, slots := 0, locals := 0 } : Room).slots) := by
  refine MetFree.of_bodySF (plainFor_of_name own_pn_TemporalValue) hisR ?_
  intro p e s m args below meth c s₁ Bd hml0 hP hK
  obtain ⟨rfl, hZ, hh⟩ := hP
  have hx := Bd.exec
  have hby := Bd.bytes
  have hml : c.maxLocals = 2 := hml0
  have hown : s.vm.findClass "com/example/tight_fence/tightfence/engine/TemporalValue" = some m.cls := findClass_of_methodNamed Bd.named
  have hnm := (name_of_methodNamed Bd.named Bd.method).1
  have X0 : Stand p l e ({ frames := 0, cells := 0, slots := 0, locals := 0 } : Room) s m #[(.ref a1), (.ref a2)] below meth c s₁ [] 0 0 := Stand.of_body Bd
  have e0 : s₁.heap = h0 := by rw [← hh, Bd.state]; rfl
  show own_E p e below (own_K (own_eqL_Q a1 a2 h0) s ({ frames := 0, cells := 0, slots := 0, locals := 0 } : Room).cells ({ frames := 0, cells := 0, slots := 0, locals := 0 } : Room).slots) s₁ (entryFrame m #[(.ref a1), (.ref a2)] 2)
  refine own_pre (own_eqL_ef m a1 a2) ?_
  show own_E p e below _ s₁ (mkF m 0 #[rv a1, rv a2] [])
  refine own_st (fun t k => XS.aloadN X0.here hx rfl (hb hby own_d_prog_84_method_5_0) rfl rfl k) ?_
  show own_E p e below _ s₁ (mkF m 1 #[rv a1, rv a2] [.ref a2])
  obtain ⟨T1, X1, e1, st1⟩ := instNo X0 hx hZ hown (own_w hw 18 rfl) e0 E_a2 (own_NS_no (own_w hw 28 rfl) (own_w hw 1 rfl) (NS.step (own_w hw 28 rfl) (NS.step (own_w hw 29 rfl) (own_NS_root (own_w hw 30 rfl) (own_w hw 1 rfl) (by decide)) (by decide)) (by decide)) (by decide)) (g := (mkF m 1 #[rv a1, rv a2] [.ref a2])) rfl rfl (hb hby own_d_prog_84_method_5_1)
  refine own_st st1 ?_
  show own_E p e below _ T1 (mkF m 4 #[rv a1, rv a2] [.int 0])
  refine own_st (fun t k => XS.ifYes X1.here hx rfl (pc0 := 4) (pc' := 26) rfl (hb hby own_d_prog_84_method_5_4) rfl (by decide) (by decide) (by decide) k) ?_
  show own_E p e below _ T1 (mkF m 26 #[rv a1, rv a2] [])
  refine own_st (fun t k => XS.iconst X1.here hx rfl (hb hby own_d_prog_84_method_5_26) k) ?_
  show own_E p e below _ T1 (mkF m 27 #[rv a1, rv a2] [.int 0])
  refine own_retS X1 hx Bd.notSynchronized Bd.returns rfl (by decide) (hb hby own_d_prog_84_method_5_27) (by decide) (by decide) ?_
  exact ⟨rfl, e1, rfl⟩
theorem own_pd_4 : parseMethodDescriptor "(JZ)V" = some ⟨[.long, .boolean], none⟩ := by decide +kernel
theorem own_pd_5 : parseMethodDescriptor "(Ljava/lang/Object;)Z" = some ⟨[(.object "java/lang/Object")], some .boolean⟩ := by decide +kernel
theorem own_pd_1 : parseMethodDescriptor "(J)Ljava/lang/Long;" = some ⟨[.long], some (.object "java/lang/Long")⟩ := by decide +kernel
def own_law_Q (n0 : Nat) (v : Option Value) (h : Heap) (L : List Loc) : Prop := v = some (.int 1) ∧ Fr n0 L
theorem own_pn_TemporalValueEqualsPinLaw : plainName "com/example/tight_fence/tightfence/engine/TemporalValueEqualsPinLaw" = true := by first | (simp [plainName, overriddenIn]; done) | decide +kernel
theorem own_law_ef (m : MethodId) (q1 : Int64) (q2 : Int64) (p3 : Int32) : entryFrame m #[(.long q1), (.long q2), (.int p3)] maxLocals = mkF m 0 #[.val (.long q1), .second, .val (.long q2), .second, .val (.int p3), .unset, .unset, .unset, .unset, .unset, .unset, .unset, .unset] [] := by first | (simp [entryFrame, mkF, argsToLocals, Value.category, maxLocals]; done) | rfl
set_option maxRecDepth 65536 in
set_option maxHeartbeats 40000000 in
theorem own_law (l : Launch) (Z : State) (a0 : Array Value) (hw : ∀ d ∈ tables_1, d.before a0 Z = true) (ws : List Jvm.Cond) (q1 : Int64) (q2 : Int64) (p3 : Int32) (h0 : Heap) (n0 : Nat) (Z0 : n0 ≤ h0.size) (hC : own_cache Z h0) :
    MetFree l x (head1 (Jvm.Cond.code x code maxLocals ret :: ws) room_1) (fun a U => a = #[(.long q1), (.long q2), (.int p3)] ∧ Z.Warmed39 U.vm ∧ U.heap = h0) (fun _ _ _ _ _ => True) (fun _ U o U' => ∃ v L, o = .returned v ∧ own_law_Q n0 v U'.heap L ∧ FrameEnd U o U' L room_1.cells room_1.slots) := by
  refine MetFree.of_bodySF (plainFor_of_name own_pn_TemporalValueEqualsPinLaw) hisR ?_
  intro p e s m args below meth c s₁ Bd hml0 hP hK
  obtain ⟨rfl, hZ, hh⟩ := hP
  have hx := Bd.exec
  have hby := Bd.bytes
  have hml : c.maxLocals = 13 := hml0
  have hown : s.vm.findClass "com/example/tight_fence/tightfence/engine/TemporalValueEqualsPinLaw" = some m.cls := findClass_of_methodNamed Bd.named
  have hnm := (name_of_methodNamed Bd.named Bd.method).1
  have X0 : Stand p l e room_1 s m #[(.long q1), (.long q2), (.int p3)] below meth c s₁ [] 0 0 := Stand.of_body Bd
  have e0 : s₁.heap = h0 := by rw [← hh, Bd.state]; rfl
  show own_E p e below (own_K (own_law_Q n0) s room_1.cells room_1.slots) s₁ (entryFrame m #[(.long q1), (.long q2), (.int p3)] maxLocals)
  refine own_pre (own_law_ef m q1 q2 p3) ?_
  show own_E p e below _ s₁ (mkF m 0 #[.val (.long q1), .second, .val (.long q2), .second, iv p3, .unset, .unset, .unset, .unset, .unset, .unset, .unset, .unset] [])
  refine own_st (fun t k => XS.iload X0.here hx rfl (hb hby at_0) rfl k) ?_
  show own_E p e below _ s₁ (mkF m 2 #[.val (.long q1), .second, .val (.long q2), .second, iv p3, .unset, .unset, .unset, .unset, .unset, .unset, .unset, .unset] [.int p3])
  refine own_st (fun t k => XS.iconst X0.here hx rfl (hb hby at_2) k) ?_
  show own_E p e below _ s₁ (mkF m 3 #[.val (.long q1), .second, .val (.long q2), .second, iv p3, .unset, .unset, .unset, .unset, .unset, .unset, .unset, .unset] [.int 1, .int p3])
  refine own_st (fun t k => XS.iand X0.here hx rfl (hb hby at_3) rfl k) ?_
  show own_E p e below _ s₁ (mkF m 4 #[.val (.long q1), .second, .val (.long q2), .second, iv p3, .unset, .unset, .unset, .unset, .unset, .unset, .unset, .unset] [.int (p3 &&& (1 : Int32))])
  by_cases hc1 : (p3 &&& (1 : Int32)) = (0 : Int32)
  · refine own_st (fun t k => XS.ifYes X0.here hx rfl (pc0 := 4) (pc' := 11) rfl (hb hby at_4) rfl ((if0 _ _).trans (teq hc1).1) (by decide) (by decide) k) ?_
    show own_E p e below _ s₁ (mkF m 11 #[.val (.long q1), .second, .val (.long q2), .second, iv p3, .unset, .unset, .unset, .unset, .unset, .unset, .unset, .unset] [])
    refine own_st (fun t k => XS.iconst X0.here hx rfl (hb hby at_11) k) ?_
    show own_E p e below _ s₁ (mkF m 12 #[.val (.long q1), .second, .val (.long q2), .second, iv p3, .unset, .unset, .unset, .unset, .unset, .unset, .unset, .unset] [.int 0])
    refine own_st (fun t k => XS.istore X0.here hx rfl (hb hby at_12) rfl (l' := #[.val (.long q1), .second, .val (.long q2), .second, iv p3, iv 0, .unset, .unset, .unset, .unset, .unset, .unset, .unset]) rfl k) ?_
    show own_E p e below _ s₁ (mkF m 14 #[.val (.long q1), .second, .val (.long q2), .second, iv p3, iv 0, .unset, .unset, .unset, .unset, .unset, .unset, .unset] [])
    refine own_st (fun t k => XS.iload X0.here hx rfl (hb hby at_14) rfl k) ?_
    show own_E p e below _ s₁ (mkF m 16 #[.val (.long q1), .second, .val (.long q2), .second, iv p3, iv 0, .unset, .unset, .unset, .unset, .unset, .unset, .unset] [.int p3])
    refine own_st (fun t k => XS.iconst X0.here hx rfl (hb hby at_16) k) ?_
    show own_E p e below _ s₁ (mkF m 17 #[.val (.long q1), .second, .val (.long q2), .second, iv p3, iv 0, .unset, .unset, .unset, .unset, .unset, .unset, .unset] [.int 2, .int p3])
    refine own_st (fun t k => XS.iand X0.here hx rfl (hb hby at_17) rfl k) ?_
    show own_E p e below _ s₁ (mkF m 18 #[.val (.long q1), .second, .val (.long q2), .second, iv p3, iv 0, .unset, .unset, .unset, .unset, .unset, .unset, .unset] [.int (p3 &&& (2 : Int32))])
    by_cases hc2 : (p3 &&& (2 : Int32)) = (0 : Int32)
    · refine own_st (fun t k => XS.ifYes X0.here hx rfl (pc0 := 18) (pc' := 25) rfl (hb hby at_18) rfl ((if0 _ _).trans (teq hc2).1) (by decide) (by decide) k) ?_
      show own_E p e below _ s₁ (mkF m 25 #[.val (.long q1), .second, .val (.long q2), .second, iv p3, iv 0, .unset, .unset, .unset, .unset, .unset, .unset, .unset] [])
      refine own_st (fun t k => XS.iconst X0.here hx rfl (hb hby at_25) k) ?_
      show own_E p e below _ s₁ (mkF m 26 #[.val (.long q1), .second, .val (.long q2), .second, iv p3, iv 0, .unset, .unset, .unset, .unset, .unset, .unset, .unset] [.int 0])
      refine own_st (fun t k => XS.istore X0.here hx rfl (hb hby at_26) rfl (l' := #[.val (.long q1), .second, .val (.long q2), .second, iv p3, iv 0, iv 0, .unset, .unset, .unset, .unset, .unset, .unset]) rfl k) ?_
      show own_E p e below _ s₁ (mkF m 28 #[.val (.long q1), .second, .val (.long q2), .second, iv p3, iv 0, iv 0, .unset, .unset, .unset, .unset, .unset, .unset] [])
      refine own_st (fun t k => XS.iload X0.here hx rfl (hb hby at_28) rfl k) ?_
      show own_E p e below _ s₁ (mkF m 30 #[.val (.long q1), .second, .val (.long q2), .second, iv p3, iv 0, iv 0, .unset, .unset, .unset, .unset, .unset, .unset] [.int p3])
      refine own_st (fun t k => XS.iconst X0.here hx rfl (hb hby at_30) k) ?_
      show own_E p e below _ s₁ (mkF m 31 #[.val (.long q1), .second, .val (.long q2), .second, iv p3, iv 0, iv 0, .unset, .unset, .unset, .unset, .unset, .unset] [.int 4, .int p3])
      refine own_st (fun t k => XS.iand X0.here hx rfl (hb hby at_31) rfl k) ?_
      show own_E p e below _ s₁ (mkF m 32 #[.val (.long q1), .second, .val (.long q2), .second, iv p3, iv 0, iv 0, .unset, .unset, .unset, .unset, .unset, .unset] [.int (p3 &&& (4 : Int32))])
      by_cases hc3 : (p3 &&& (4 : Int32)) = (0 : Int32)
      · refine own_st (fun t k => XS.ifYes X0.here hx rfl (pc0 := 32) (pc' := 39) rfl (hb hby at_32) rfl ((if0 _ _).trans (teq hc3).1) (by decide) (by decide) k) ?_
        show own_E p e below _ s₁ (mkF m 39 #[.val (.long q1), .second, .val (.long q2), .second, iv p3, iv 0, iv 0, .unset, .unset, .unset, .unset, .unset, .unset] [])
        refine own_st (fun t k => XS.lloadN X0.here hx rfl (hb hby at_39) rfl k) ?_
        show own_E p e below _ s₁ (mkF m 40 #[.val (.long q1), .second, .val (.long q2), .second, iv p3, iv 0, iv 0, .unset, .unset, .unset, .unset, .unset, .unset] [.long q2])
        refine own_st (fun t k => XS.lstore X0.here hx rfl (hb hby at_40) rfl (l' := #[.val (.long q1), .second, .val (.long q2), .second, iv p3, iv 0, iv 0, .val (.long q2), .second, .unset, .unset, .unset, .unset]) rfl k) ?_
        show own_E p e below _ s₁ (mkF m 42 #[.val (.long q1), .second, .val (.long q2), .second, iv p3, iv 0, iv 0, .val (.long q2), .second, .unset, .unset, .unset, .unset] [])
        refine own_st (fun t k => XS.iload X0.here hx rfl (hb hby at_42) rfl k) ?_
        show own_E p e below _ s₁ (mkF m 44 #[.val (.long q1), .second, .val (.long q2), .second, iv p3, iv 0, iv 0, .val (.long q2), .second, .unset, .unset, .unset, .unset] [.int p3])
        refine own_st (fun t k => XS.iconst X0.here hx rfl (hb hby at_44) k) ?_
        show own_E p e below _ s₁ (mkF m 45 #[.val (.long q1), .second, .val (.long q2), .second, iv p3, iv 0, iv 0, .val (.long q2), .second, .unset, .unset, .unset, .unset] [.int 3, .int p3])
        refine own_st (fun t k => XS.iushr X0.here hx rfl (hb hby at_45) rfl k) ?_
        show own_E p e below _ s₁ (mkF m 46 #[.val (.long q1), .second, .val (.long q2), .second, iv p3, iv 0, iv 0, .val (.long q2), .second, .unset, .unset, .unset, .unset] [.int ((p3.toUInt32 >>> ((3 : Int32) &&& 31).toUInt32).toInt32)])
        refine own_st (fun t k => XS.iconst X0.here hx rfl (hb hby at_46) k) ?_
        show own_E p e below _ s₁ (mkF m 47 #[.val (.long q1), .second, .val (.long q2), .second, iv p3, iv 0, iv 0, .val (.long q2), .second, .unset, .unset, .unset, .unset] [.int 3, .int ((p3.toUInt32 >>> ((3 : Int32) &&& 31).toUInt32).toInt32)])
        refine own_st (fun t k => XS.iand X0.here hx rfl (hb hby at_47) rfl k) ?_
        show own_E p e below _ s₁ (mkF m 48 #[.val (.long q1), .second, .val (.long q2), .second, iv p3, iv 0, iv 0, .val (.long q2), .second, .unset, .unset, .unset, .unset] [.int (((p3.toUInt32 >>> ((3 : Int32) &&& 31).toUInt32).toInt32) &&& (3 : Int32))])
        refine own_st (fun t k => XS.istore X0.here hx rfl (hb hby at_48) rfl (l' := #[.val (.long q1), .second, .val (.long q2), .second, iv p3, iv 0, iv 0, .val (.long q2), .second, iv (((p3.toUInt32 >>> ((3 : Int32) &&& 31).toUInt32).toInt32) &&& (3 : Int32)), .unset, .unset, .unset]) rfl k) ?_
        show own_E p e below _ s₁ (mkF m 50 #[.val (.long q1), .second, .val (.long q2), .second, iv p3, iv 0, iv 0, .val (.long q2), .second, iv (((p3.toUInt32 >>> ((3 : Int32) &&& 31).toUInt32).toInt32) &&& (3 : Int32)), .unset, .unset, .unset] [])
        obtain ⟨T4, h4, X4, e4, E4, A4, D4, -, st4⟩ := newO X0 hx hZ hown (own_w hw 0 rfl) (own_w hw 1 rfl) (own_w hw 2 rfl) e0 (g := (mkF m 50 #[.val (.long q1), .second, .val (.long q2), .second, iv p3, iv 0, iv 0, .val (.long q2), .second, iv (((p3.toUInt32 >>> ((3 : Int32) &&& 31).toUInt32).toInt32) &&& (3 : Int32)), .unset, .unset, .unset] [])) rfl (hb hby at_50) (by decide) (by decide)
        obtain ⟨b4, g4⟩ : ∃ z, z = h0.size := ⟨_, rfl⟩
        rw [← g4] at A4 D4 st4
        have g_b4 : n0 ≤ b4 := Nat.le_trans Z0 (Nat.le_of_eq g4.symm)
        have sz_b4 : h0.size ≤ b4 := Nat.le_trans (Keep.refl h0 []).1 (Nat.le_of_eq g4.symm)
        have Z5 := Nat.le_trans Z0 E4.1
        have K6 : Keep h0 _ [] := (Keep.refl h0 []).ext E4
        have F_count_b4 : Fld Z h4 b4 "com/example/tight_fence/tightfence/engine/TemporalValue" "count" "J" (.long (0 : Int64)) := D4 (Or.inr (own_w hw 10 rfl)) (ty := .long) (by decide)
        have F_fromClock_b4 : Fld Z h4 b4 "com/example/tight_fence/tightfence/engine/TemporalValue" "fromClock" "Z" (.int (0 : Int32)) := D4 (Or.inr (own_w hw 12 rfl)) (ty := .boolean) (by decide)
        refine own_st st4 ?_
        show own_E p e below _ T4 (mkF m 53 #[.val (.long q1), .second, .val (.long q2), .second, iv p3, iv 0, iv 0, .val (.long q2), .second, iv (((p3.toUInt32 >>> ((3 : Int32) &&& 31).toUInt32).toInt32) &&& (3 : Int32)), .unset, .unset, .unset] [.ref b4])
        refine own_st (fun t k => XS.dup X4.here hx rfl (hb hby at_53) rfl rfl k) ?_
        show own_E p e below _ T4 (mkF m 54 #[.val (.long q1), .second, .val (.long q2), .second, iv p3, iv 0, iv 0, .val (.long q2), .second, iv (((p3.toUInt32 >>> ((3 : Int32) &&& 31).toUInt32).toInt32) &&& (3 : Int32)), .unset, .unset, .unset] [.ref b4, .ref b4])
        refine own_st (fun t k => XS.lloadN X4.here hx rfl (hb hby at_54) rfl k) ?_
        show own_E p e below _ T4 (mkF m 55 #[.val (.long q1), .second, .val (.long q2), .second, iv p3, iv 0, iv 0, .val (.long q2), .second, iv (((p3.toUInt32 >>> ((3 : Int32) &&& 31).toUInt32).toInt32) &&& (3 : Int32)), .unset, .unset, .unset] [.long q1, .ref b4, .ref b4])
        refine own_st (fun t k => XS.iload X4.here hx rfl (hb hby at_55) rfl k) ?_
        show own_E p e below _ T4 (mkF m 57 #[.val (.long q1), .second, .val (.long q2), .second, iv p3, iv 0, iv 0, .val (.long q2), .second, iv (((p3.toUInt32 >>> ((3 : Int32) &&& 31).toUInt32).toInt32) &&& (3 : Int32)), .unset, .unset, .unset] [.int 0, .long q1, .ref b4, .ref b4])
        obtain ⟨_, _, ⟨T7, L7, k7, n7⟩, -, X7, ⟨Lc7, hQ7, l7, y7, z7⟩, st7⟩ := X4.specialBack hx (y := own_y3) rfl hown (mvT hZ (own_w hw 3 rfl)) (mvT hZ (own_w hw 4 rfl)) (mvT hZ (own_w hw 5 rfl)) (by decide) (backOf (W := 1) (own_init0 l Z a0 hw [] b4 q1 h4 n0 Z5 A4 F_count_b4 F_fromClock_b4 g_b4) hZ (own_w hw 5 rfl) (own_w hw 2 rfl) (by decide) (by decide)) (g := (mkF m 57 #[.val (.long q1), .second, .val (.long q2), .second, iv p3, iv 0, iv 0, .val (.long q2), .second, iv (((p3.toUInt32 >>> ((3 : Int32) &&& 31).toUInt32).toInt32) &&& (3 : Int32)), .unset, .unset, .unset] [.int 0, .long q1, .ref b4, .ref b4])) rfl (by rw [hml]; rfl) (Steps.refl _) (a := b4) (argsL := [(.long q1), (.int (0 : Int32))]) (rest := [(.ref b4)]) (lenOf own_pd_4 rfl) rfl (by show 2 * 0 + _ ≤ _; exact Nat.le_of_eq rfl) (hb hby at_57) (fun _ _ => ⟨rfl, e4, (by decide : 1 + 0 ≤ _), (by decide : 2 + 0 ≤ _)⟩)
        dsimp only [Pt.U, Pt.locs, Pt.cells, Pt.slots] at X7 l7 y7 z7 st7 hQ7
        subst l7 y7 z7
        obtain ⟨rfl, Nq7, Kq7, P7_0, P7_1⟩ := hQ7
        have N7 := Fr.app (Fr.nil n0) Nq7
        have e7 : T7.heap = T7.heap := rfl
        have Z8 := Nat.le_trans Z5 Kq7.1
        have K9 : Keep h0 _ [] := K6.trans Kq7 (allS (P := fun x => x ∈ [] ∨ h0.size ≤ x) (Or.inr sz_b4) all0)
        refine own_tr st7 ?_
        show own_E p e below _ T7 (mkF m 60 #[.val (.long q1), .second, .val (.long q2), .second, iv p3, iv 0, iv 0, .val (.long q2), .second, iv (((p3.toUInt32 >>> ((3 : Int32) &&& 31).toUInt32).toInt32) &&& (3 : Int32)), .unset, .unset, .unset] [.ref b4])
        refine own_st (fun t k => XS.astore X7.here hx rfl (hb hby at_60) rfl rfl (l' := #[.val (.long q1), .second, .val (.long q2), .second, iv p3, iv 0, iv 0, .val (.long q2), .second, iv (((p3.toUInt32 >>> ((3 : Int32) &&& 31).toUInt32).toInt32) &&& (3 : Int32)), rv b4, .unset, .unset]) rfl k) ?_
        show own_E p e below _ T7 (mkF m 62 #[.val (.long q1), .second, .val (.long q2), .second, iv p3, iv 0, iv 0, .val (.long q2), .second, iv (((p3.toUInt32 >>> ((3 : Int32) &&& 31).toUInt32).toInt32) &&& (3 : Int32)), rv b4, .unset, .unset] [])
        refine own_st (fun t k => XS.aload X7.here hx rfl (hb hby at_62) rfl rfl k) ?_
        show own_E p e below _ T7 (mkF m 64 #[.val (.long q1), .second, .val (.long q2), .second, iv p3, iv 0, iv 0, .val (.long q2), .second, iv (((p3.toUInt32 >>> ((3 : Int32) &&& 31).toUInt32).toInt32) &&& (3 : Int32)), rv b4, .unset, .unset] [.ref b4])
        refine own_st (fun t k => XS.aload X7.here hx rfl (hb hby at_64) rfl rfl k) ?_
        show own_E p e below _ T7 (mkF m 66 #[.val (.long q1), .second, .val (.long q2), .second, iv p3, iv 0, iv 0, .val (.long q2), .second, iv (((p3.toUInt32 >>> ((3 : Int32) &&& 31).toUInt32).toInt32) &&& (3 : Int32)), rv b4, .unset, .unset] [.ref b4, .ref b4])
        obtain ⟨cq10, kq10, q10a, q10b, q10c⟩ := isOf hZ e7 P7_0
        obtain ⟨_, _, ⟨T10, L10, k10, n10⟩, -, X10, ⟨Lc10, hQ10, l10, y10, z10⟩, st10⟩ := X7.virtualBack hx (y := own_y4) (z := own_y4) hown (mvT hZ (own_w hw 13 rfl)) (mvT hZ (own_w hw 14 rfl)) (notFace_of_selects (args := #[]) (mvT hZ (own_w hw 16 rfl))) (mvT hZ (own_w hw 16 rfl)) (mvT hZ (own_w hw 15 rfl)) (by decide) (backOf (W := 0) (own_eqT l Z a0 hw [] b4 b4 q1 q1 T7.heap n0 Z8 P7_0 P7_1 P7_1) hZ (own_w hw 17 rfl) (own_w hw 2 rfl) (by decide) (by decide)) q10a q10c (g := (mkF m 66 #[.val (.long q1), .second, .val (.long q2), .second, iv p3, iv 0, iv 0, .val (.long q2), .second, iv (((p3.toUInt32 >>> ((3 : Int32) &&& 31).toUInt32).toInt32) &&& (3 : Int32)), rv b4, .unset, .unset] [.ref b4, .ref b4])) rfl (by rw [hml]; rfl) (Steps.refl _) (argsL := [(.ref b4)]) (rest := []) (lenOf own_pd_5 rfl) rfl (by show 2 * 0 + _ ≤ _; exact Nat.le_of_eq rfl) (hb hby at_66) (fun _ _ => ⟨rfl, e7, (by decide : 1 + 0 ≤ _), (by decide : 2 + 0 ≤ _)⟩)
        dsimp only [Pt.U, Pt.locs, Pt.cells, Pt.slots] at X10 l10 y10 z10 st10 hQ10
        subst l10 y10 z10
        obtain ⟨hR10, e10, rfl⟩ := hQ10
        have N10 := Fr.app N7 (Fr.nil n0)
        rcases hR10 with ⟨rfl, ha10_0⟩ | ⟨rfl, ha10_0⟩
        · refine own_tr st10 ?_
          show own_E p e below _ T10 (mkF m 69 #[.val (.long q1), .second, .val (.long q2), .second, iv p3, iv 0, iv 0, .val (.long q2), .second, iv (((p3.toUInt32 >>> ((3 : Int32) &&& 31).toUInt32).toInt32) &&& (3 : Int32)), rv b4, .unset, .unset] [.int 1])
          refine own_st (fun t k => XS.ifYes X10.here hx rfl (pc0 := 69) (pc' := 74) rfl (hb hby at_69) rfl (by decide) (by decide) (by decide) k) ?_
          show own_E p e below _ T10 (mkF m 74 #[.val (.long q1), .second, .val (.long q2), .second, iv p3, iv 0, iv 0, .val (.long q2), .second, iv (((p3.toUInt32 >>> ((3 : Int32) &&& 31).toUInt32).toInt32) &&& (3 : Int32)), rv b4, .unset, .unset] [])
          refine own_st (fun t k => XS.iload X10.here hx rfl (hb hby at_74) rfl k) ?_
          show own_E p e below _ T10 (mkF m 76 #[.val (.long q1), .second, .val (.long q2), .second, iv p3, iv 0, iv 0, .val (.long q2), .second, iv (((p3.toUInt32 >>> ((3 : Int32) &&& 31).toUInt32).toInt32) &&& (3 : Int32)), rv b4, .unset, .unset] [.int (((p3.toUInt32 >>> ((3 : Int32) &&& 31).toUInt32).toInt32) &&& (3 : Int32))])
          refine own_st (fun t k => XS.iconst X10.here hx rfl (hb hby at_76) k) ?_
          show own_E p e below _ T10 (mkF m 77 #[.val (.long q1), .second, .val (.long q2), .second, iv p3, iv 0, iv 0, .val (.long q2), .second, iv (((p3.toUInt32 >>> ((3 : Int32) &&& 31).toUInt32).toInt32) &&& (3 : Int32)), rv b4, .unset, .unset] [.int 1, .int (((p3.toUInt32 >>> ((3 : Int32) &&& 31).toUInt32).toInt32) &&& (3 : Int32))])
          by_cases hc11 : (((p3.toUInt32 >>> ((3 : Int32) &&& 31).toUInt32).toInt32) &&& (3 : Int32)) = (1 : Int32)
          · refine own_st (fun t k => XS.icmpNo X10.here hx rfl (hb hby at_77) rfl (teq hc11).2 k) ?_
            show own_E p e below _ T10 (mkF m 80 #[.val (.long q1), .second, .val (.long q2), .second, iv p3, iv 0, iv 0, .val (.long q2), .second, iv (((p3.toUInt32 >>> ((3 : Int32) &&& 31).toUInt32).toInt32) &&& (3 : Int32)), rv b4, .unset, .unset] [])
            refine own_st (fun t k => XS.aload X10.here hx rfl (hb hby at_80) rfl rfl k) ?_
            show own_E p e below _ T10 (mkF m 82 #[.val (.long q1), .second, .val (.long q2), .second, iv p3, iv 0, iv 0, .val (.long q2), .second, iv (((p3.toUInt32 >>> ((3 : Int32) &&& 31).toUInt32).toInt32) &&& (3 : Int32)), rv b4, .unset, .unset] [.ref b4])
            refine own_st (fun t k => XS.aconstNull X10.here hx rfl (hb hby at_82) k) ?_
            show own_E p e below _ T10 (mkF m 83 #[.val (.long q1), .second, .val (.long q2), .second, iv p3, iv 0, iv 0, .val (.long q2), .second, iv (((p3.toUInt32 >>> ((3 : Int32) &&& 31).toUInt32).toInt32) &&& (3 : Int32)), rv b4, .unset, .unset] [.null, .ref b4])
            obtain ⟨cq12, kq12, q12a, q12b, q12c⟩ := isOf hZ e10 P7_0
            obtain ⟨_, _, ⟨T12, L12, k12, n12⟩, -, X12, ⟨Lc12, hQ12, l12, y12, z12⟩, st12⟩ := X10.virtualBack hx (y := own_y4) (z := own_y4) hown (mvT hZ (own_w hw 13 rfl)) (mvT hZ (own_w hw 14 rfl)) (notFace_of_selects (args := #[]) (mvT hZ (own_w hw 16 rfl))) (mvT hZ (own_w hw 16 rfl)) (mvT hZ (own_w hw 15 rfl)) (by decide) (backOf (W := 0) (own_eqN l Z a0 hw [] b4 T7.heap n0 Z8 ) hZ (own_w hw 17 rfl) (own_w hw 2 rfl) (by decide) (by decide)) q12a q12c (g := (mkF m 83 #[.val (.long q1), .second, .val (.long q2), .second, iv p3, iv 0, iv 0, .val (.long q2), .second, iv (((p3.toUInt32 >>> ((3 : Int32) &&& 31).toUInt32).toInt32) &&& (3 : Int32)), rv b4, .unset, .unset] [.null, .ref b4])) rfl (by rw [hml]; rfl) (Steps.refl _) (argsL := [.null]) (rest := []) (lenOf own_pd_5 rfl) rfl (by show 2 * 0 + _ ≤ _; exact Nat.le_of_eq rfl) (hb hby at_83) (fun _ _ => ⟨rfl, e10, (by decide : 1 + 0 ≤ _), (by decide : 2 + 0 ≤ _)⟩)
            dsimp only [Pt.U, Pt.locs, Pt.cells, Pt.slots] at X12 l12 y12 z12 st12 hQ12
            subst l12 y12 z12
            obtain ⟨hR12, e12, rfl⟩ := hQ12
            have N12 := Fr.app N10 (Fr.nil n0)
            obtain rfl := hR12
            refine own_tr st12 ?_
            show own_E p e below _ T12 (mkF m 86 #[.val (.long q1), .second, .val (.long q2), .second, iv p3, iv 0, iv 0, .val (.long q2), .second, iv (((p3.toUInt32 >>> ((3 : Int32) &&& 31).toUInt32).toInt32) &&& (3 : Int32)), rv b4, .unset, .unset] [.int 0])
            refine own_st (fun t k => XS.ifNo X12.here hx rfl (hb hby at_86) rfl (by decide) k) ?_
            show own_E p e below _ T12 (mkF m 89 #[.val (.long q1), .second, .val (.long q2), .second, iv p3, iv 0, iv 0, .val (.long q2), .second, iv (((p3.toUInt32 >>> ((3 : Int32) &&& 31).toUInt32).toInt32) &&& (3 : Int32)), rv b4, .unset, .unset] [])
            refine own_st (fun t k => XS.iconst X12.here hx rfl (hb hby at_89) k) ?_
            show own_E p e below _ T12 (mkF m 90 #[.val (.long q1), .second, .val (.long q2), .second, iv p3, iv 0, iv 0, .val (.long q2), .second, iv (((p3.toUInt32 >>> ((3 : Int32) &&& 31).toUInt32).toInt32) &&& (3 : Int32)), rv b4, .unset, .unset] [.int 1])
            refine own_st (fun t k => XS.goto X12.here hx rfl (pc0 := 90) (pc' := 94) rfl (hb hby at_90) (by decide) (by decide) k) ?_
            show own_E p e below _ T12 (mkF m 94 #[.val (.long q1), .second, .val (.long q2), .second, iv p3, iv 0, iv 0, .val (.long q2), .second, iv (((p3.toUInt32 >>> ((3 : Int32) &&& 31).toUInt32).toInt32) &&& (3 : Int32)), rv b4, .unset, .unset] [.int 1])
            refine own_retS X12 hx Bd.notSynchronized Bd.returns rfl (by decide) (hb hby at_94) (by decide) (by decide) ?_
            exact ⟨rfl, N12⟩
          · refine own_st (fun t k => XS.icmpYes X10.here hx rfl (pc0 := 77) (pc' := 95) rfl (hb hby at_77) rfl (feq hc11).2 (by decide) (by decide) k) ?_
            show own_E p e below _ T10 (mkF m 95 #[.val (.long q1), .second, .val (.long q2), .second, iv p3, iv 0, iv 0, .val (.long q2), .second, iv (((p3.toUInt32 >>> ((3 : Int32) &&& 31).toUInt32).toInt32) &&& (3 : Int32)), rv b4, .unset, .unset] [])
            refine own_st (fun t k => XS.iload X10.here hx rfl (hb hby at_95) rfl k) ?_
            show own_E p e below _ T10 (mkF m 97 #[.val (.long q1), .second, .val (.long q2), .second, iv p3, iv 0, iv 0, .val (.long q2), .second, iv (((p3.toUInt32 >>> ((3 : Int32) &&& 31).toUInt32).toInt32) &&& (3 : Int32)), rv b4, .unset, .unset] [.int (((p3.toUInt32 >>> ((3 : Int32) &&& 31).toUInt32).toInt32) &&& (3 : Int32))])
            refine own_st (fun t k => XS.iconst X10.here hx rfl (hb hby at_97) k) ?_
            show own_E p e below _ T10 (mkF m 98 #[.val (.long q1), .second, .val (.long q2), .second, iv p3, iv 0, iv 0, .val (.long q2), .second, iv (((p3.toUInt32 >>> ((3 : Int32) &&& 31).toUInt32).toInt32) &&& (3 : Int32)), rv b4, .unset, .unset] [.int 2, .int (((p3.toUInt32 >>> ((3 : Int32) &&& 31).toUInt32).toInt32) &&& (3 : Int32))])
            by_cases hc13 : (((p3.toUInt32 >>> ((3 : Int32) &&& 31).toUInt32).toInt32) &&& (3 : Int32)) = (2 : Int32)
            · refine own_st (fun t k => XS.icmpNo X10.here hx rfl (hb hby at_98) rfl (teq hc13).2 k) ?_
              show own_E p e below _ T10 (mkF m 101 #[.val (.long q1), .second, .val (.long q2), .second, iv p3, iv 0, iv 0, .val (.long q2), .second, iv (((p3.toUInt32 >>> ((3 : Int32) &&& 31).toUInt32).toInt32) &&& (3 : Int32)), rv b4, .unset, .unset] [])
              refine own_st (fun t k => XS.lloadN X10.here hx rfl (hb hby at_101) rfl k) ?_
              show own_E p e below _ T10 (mkF m 102 #[.val (.long q1), .second, .val (.long q2), .second, iv p3, iv 0, iv 0, .val (.long q2), .second, iv (((p3.toUInt32 >>> ((3 : Int32) &&& 31).toUInt32).toInt32) &&& (3 : Int32)), rv b4, .unset, .unset] [.long q1])
              obtain ⟨_, _, ⟨T14, L14, k14, n14⟩, -, X14, ⟨Lc14, hQ14, l14, y14, z14⟩, st14⟩ := Jvm.LawKit.callS X10 hx (y := own_y2) hown (mvT hZ (own_w hw 20 rfl)) (mvT hZ (own_w hw 21 rfl)) (mvT hZ (own_w hw 22 rfl)) (mvT hZ (own_w hw 23 rfl)) (by decide) (backOf (W := 0) (own_lval l Z a0 hw [] q1 T7.heap n0 Z8 (own_cache_keep hC K9)) hZ (own_w hw 23 rfl) (own_w hw 22 rfl) (by decide) (by decide)) (g := (mkF m 102 #[.val (.long q1), .second, .val (.long q2), .second, iv p3, iv 0, iv 0, .val (.long q2), .second, iv (((p3.toUInt32 >>> ((3 : Int32) &&& 31).toUInt32).toInt32) &&& (3 : Int32)), rv b4, .unset, .unset] [.long q1])) rfl (by rw [hml]; rfl) (argsL := [(.long q1)]) (rest := []) (lenOf own_pd_1 rfl) rfl (by show 2 * 0 + _ ≤ _; exact Nat.le_of_eq rfl) (hb hby at_102) (fun _ _ => ⟨rfl, e10, (by decide : 1 + 1 ≤ _), (by decide : 2 + 1 ≤ _)⟩)
              dsimp only [Pt.U, Pt.locs, Pt.cells, Pt.slots] at X14 l14 y14 z14 st14 hQ14
              subst l14 y14 z14
              obtain ⟨b14_o, rfl, Nq14, Kq14, P14⟩ := hQ14
              have N14 := Fr.app N10 Nq14
              have e14 : T14.heap = T14.heap := rfl
              have Z15 := Nat.le_trans Z8 Kq14.1
              have K16 : Keep h0 _ [] := K9.trans Kq14 all0
              refine own_st st14 ?_
              show own_E p e below _ T14 (mkF m 105 #[.val (.long q1), .second, .val (.long q2), .second, iv p3, iv 0, iv 0, .val (.long q2), .second, iv (((p3.toUInt32 >>> ((3 : Int32) &&& 31).toUInt32).toInt32) &&& (3 : Int32)), rv b4, .unset, .unset] [.ref b14_o])
              refine own_st (fun t k => XS.astore X14.here hx rfl (hb hby at_105) rfl rfl (l' := #[.val (.long q1), .second, .val (.long q2), .second, iv p3, iv 0, iv 0, .val (.long q2), .second, iv (((p3.toUInt32 >>> ((3 : Int32) &&& 31).toUInt32).toInt32) &&& (3 : Int32)), rv b4, rv b14_o, .unset]) rfl k) ?_
              show own_E p e below _ T14 (mkF m 107 #[.val (.long q1), .second, .val (.long q2), .second, iv p3, iv 0, iv 0, .val (.long q2), .second, iv (((p3.toUInt32 >>> ((3 : Int32) &&& 31).toUInt32).toInt32) &&& (3 : Int32)), rv b4, rv b14_o, .unset] [])
              refine own_st (fun t k => XS.aload X14.here hx rfl (hb hby at_107) rfl rfl k) ?_
              show own_E p e below _ T14 (mkF m 109 #[.val (.long q1), .second, .val (.long q2), .second, iv p3, iv 0, iv 0, .val (.long q2), .second, iv (((p3.toUInt32 >>> ((3 : Int32) &&& 31).toUInt32).toInt32) &&& (3 : Int32)), rv b4, rv b14_o, .unset] [.ref b4])
              refine own_st (fun t k => XS.aload X14.here hx rfl (hb hby at_109) rfl rfl k) ?_
              show own_E p e below _ T14 (mkF m 111 #[.val (.long q1), .second, .val (.long q2), .second, iv p3, iv 0, iv 0, .val (.long q2), .second, iv (((p3.toUInt32 >>> ((3 : Int32) &&& 31).toUInt32).toInt32) &&& (3 : Int32)), rv b4, rv b14_o, .unset] [.ref b14_o, .ref b4])
              have B18 := (P7_0.keep Kq14)
              obtain ⟨cq17, kq17, q17a, q17b, q17c⟩ := isOf hZ e14 B18
              obtain ⟨_, _, ⟨T17, L17, k17, n17⟩, -, X17, ⟨Lc17, hQ17, l17, y17, z17⟩, st17⟩ := X14.virtualBack hx (y := own_y4) (z := own_y4) hown (mvT hZ (own_w hw 13 rfl)) (mvT hZ (own_w hw 14 rfl)) (notFace_of_selects (args := #[]) (mvT hZ (own_w hw 16 rfl))) (mvT hZ (own_w hw 16 rfl)) (mvT hZ (own_w hw 15 rfl)) (by decide) (backOf (W := 0) (own_eqL l Z a0 hw [] b4 b14_o T14.heap n0 Z15 P14) hZ (own_w hw 17 rfl) (own_w hw 2 rfl) (by decide) (by decide)) q17a q17c (g := (mkF m 111 #[.val (.long q1), .second, .val (.long q2), .second, iv p3, iv 0, iv 0, .val (.long q2), .second, iv (((p3.toUInt32 >>> ((3 : Int32) &&& 31).toUInt32).toInt32) &&& (3 : Int32)), rv b4, rv b14_o, .unset] [.ref b14_o, .ref b4])) rfl (by rw [hml]; rfl) (Steps.refl _) (argsL := [(.ref b14_o)]) (rest := []) (lenOf own_pd_5 rfl) rfl (by show 2 * 0 + _ ≤ _; exact Nat.le_of_eq rfl) (hb hby at_111) (fun _ _ => ⟨rfl, e14, (by decide : 2 + 0 ≤ _), (by decide : 3 + 0 ≤ _)⟩)
              dsimp only [Pt.U, Pt.locs, Pt.cells, Pt.slots] at X17 l17 y17 z17 st17 hQ17
              subst l17 y17 z17
              obtain ⟨hR17, e17, rfl⟩ := hQ17
              have N17 := Fr.app N14 (Fr.nil n0)
              obtain rfl := hR17
              refine own_tr st17 ?_
              show own_E p e below _ T17 (mkF m 114 #[.val (.long q1), .second, .val (.long q2), .second, iv p3, iv 0, iv 0, .val (.long q2), .second, iv (((p3.toUInt32 >>> ((3 : Int32) &&& 31).toUInt32).toInt32) &&& (3 : Int32)), rv b4, rv b14_o, .unset] [.int 0])
              refine own_st (fun t k => XS.ifNo X17.here hx rfl (hb hby at_114) rfl (by decide) k) ?_
              show own_E p e below _ T17 (mkF m 117 #[.val (.long q1), .second, .val (.long q2), .second, iv p3, iv 0, iv 0, .val (.long q2), .second, iv (((p3.toUInt32 >>> ((3 : Int32) &&& 31).toUInt32).toInt32) &&& (3 : Int32)), rv b4, rv b14_o, .unset] [])
              refine own_st (fun t k => XS.iconst X17.here hx rfl (hb hby at_117) k) ?_
              show own_E p e below _ T17 (mkF m 118 #[.val (.long q1), .second, .val (.long q2), .second, iv p3, iv 0, iv 0, .val (.long q2), .second, iv (((p3.toUInt32 >>> ((3 : Int32) &&& 31).toUInt32).toInt32) &&& (3 : Int32)), rv b4, rv b14_o, .unset] [.int 1])
              refine own_st (fun t k => XS.goto X17.here hx rfl (pc0 := 118) (pc' := 122) rfl (hb hby at_118) (by decide) (by decide) k) ?_
              show own_E p e below _ T17 (mkF m 122 #[.val (.long q1), .second, .val (.long q2), .second, iv p3, iv 0, iv 0, .val (.long q2), .second, iv (((p3.toUInt32 >>> ((3 : Int32) &&& 31).toUInt32).toInt32) &&& (3 : Int32)), rv b4, rv b14_o, .unset] [.int 1])
              refine own_retS X17 hx Bd.notSynchronized Bd.returns rfl (by decide) (hb hby at_122) (by decide) (by decide) ?_
              exact ⟨rfl, N17⟩
            · refine own_st (fun t k => XS.icmpYes X10.here hx rfl (pc0 := 98) (pc' := 123) rfl (hb hby at_98) rfl (feq hc13).2 (by decide) (by decide) k) ?_
              show own_E p e below _ T10 (mkF m 123 #[.val (.long q1), .second, .val (.long q2), .second, iv p3, iv 0, iv 0, .val (.long q2), .second, iv (((p3.toUInt32 >>> ((3 : Int32) &&& 31).toUInt32).toInt32) &&& (3 : Int32)), rv b4, .unset, .unset] [])
              obtain ⟨T19, h19, X19, e19, E19, A19, D19, -, st19⟩ := newO X10 hx hZ hown (own_w hw 0 rfl) (own_w hw 1 rfl) (own_w hw 2 rfl) e10 (g := (mkF m 123 #[.val (.long q1), .second, .val (.long q2), .second, iv p3, iv 0, iv 0, .val (.long q2), .second, iv (((p3.toUInt32 >>> ((3 : Int32) &&& 31).toUInt32).toInt32) &&& (3 : Int32)), rv b4, .unset, .unset] [])) rfl (hb hby at_123) (by decide) (by decide)
              obtain ⟨b19, g19⟩ : ∃ z, z = T7.heap.size := ⟨_, rfl⟩
              rw [← g19] at A19 D19 st19
              have ne_b4_b19 : b4 ≠ b19 := Nat.ne_of_lt (Nat.lt_of_lt_of_le P7_0.lt (Nat.le_of_eq g19.symm))
              have g_b19 : n0 ≤ b19 := Nat.le_trans Z8 (Nat.le_of_eq g19.symm)
              have sz_b19 : h0.size ≤ b19 := Nat.le_trans K9.1 (Nat.le_of_eq g19.symm)
              have Z20 := Nat.le_trans Z8 E19.1
              have K21 : Keep h0 _ [] := K9.ext E19
              have F_count_b19 : Fld Z h19 b19 "com/example/tight_fence/tightfence/engine/TemporalValue" "count" "J" (.long (0 : Int64)) := D19 (Or.inr (own_w hw 10 rfl)) (ty := .long) (by decide)
              have F_fromClock_b19 : Fld Z h19 b19 "com/example/tight_fence/tightfence/engine/TemporalValue" "fromClock" "Z" (.int (0 : Int32)) := D19 (Or.inr (own_w hw 12 rfl)) (ty := .boolean) (by decide)
              refine own_st st19 ?_
              show own_E p e below _ T19 (mkF m 126 #[.val (.long q1), .second, .val (.long q2), .second, iv p3, iv 0, iv 0, .val (.long q2), .second, iv (((p3.toUInt32 >>> ((3 : Int32) &&& 31).toUInt32).toInt32) &&& (3 : Int32)), rv b4, .unset, .unset] [.ref b19])
              refine own_st (fun t k => XS.dup X19.here hx rfl (hb hby at_126) rfl rfl k) ?_
              show own_E p e below _ T19 (mkF m 127 #[.val (.long q1), .second, .val (.long q2), .second, iv p3, iv 0, iv 0, .val (.long q2), .second, iv (((p3.toUInt32 >>> ((3 : Int32) &&& 31).toUInt32).toInt32) &&& (3 : Int32)), rv b4, .unset, .unset] [.ref b19, .ref b19])
              refine own_st (fun t k => XS.lload X19.here hx rfl (hb hby at_127) rfl k) ?_
              show own_E p e below _ T19 (mkF m 129 #[.val (.long q1), .second, .val (.long q2), .second, iv p3, iv 0, iv 0, .val (.long q2), .second, iv (((p3.toUInt32 >>> ((3 : Int32) &&& 31).toUInt32).toInt32) &&& (3 : Int32)), rv b4, .unset, .unset] [.long q2, .ref b19, .ref b19])
              refine own_st (fun t k => XS.iload X19.here hx rfl (hb hby at_129) rfl k) ?_
              show own_E p e below _ T19 (mkF m 131 #[.val (.long q1), .second, .val (.long q2), .second, iv p3, iv 0, iv 0, .val (.long q2), .second, iv (((p3.toUInt32 >>> ((3 : Int32) &&& 31).toUInt32).toInt32) &&& (3 : Int32)), rv b4, .unset, .unset] [.int 0, .long q2, .ref b19, .ref b19])
              obtain ⟨_, _, ⟨T22, L22, k22, n22⟩, -, X22, ⟨Lc22, hQ22, l22, y22, z22⟩, st22⟩ := X19.specialBack hx (y := own_y3) rfl hown (mvT hZ (own_w hw 3 rfl)) (mvT hZ (own_w hw 4 rfl)) (mvT hZ (own_w hw 5 rfl)) (by decide) (backOf (W := 1) (own_init0 l Z a0 hw [] b19 q2 h19 n0 Z20 A19 F_count_b19 F_fromClock_b19 g_b19) hZ (own_w hw 5 rfl) (own_w hw 2 rfl) (by decide) (by decide)) (g := (mkF m 131 #[.val (.long q1), .second, .val (.long q2), .second, iv p3, iv 0, iv 0, .val (.long q2), .second, iv (((p3.toUInt32 >>> ((3 : Int32) &&& 31).toUInt32).toInt32) &&& (3 : Int32)), rv b4, .unset, .unset] [.int 0, .long q2, .ref b19, .ref b19])) rfl (by rw [hml]; rfl) (Steps.refl _) (a := b19) (argsL := [(.long q2), (.int (0 : Int32))]) (rest := [(.ref b19)]) (lenOf own_pd_4 rfl) rfl (by show 2 * 0 + _ ≤ _; exact Nat.le_of_eq rfl) (hb hby at_131) (fun _ _ => ⟨rfl, e19, (by decide : 2 + 0 ≤ _), (by decide : 4 + 0 ≤ _)⟩)
              dsimp only [Pt.U, Pt.locs, Pt.cells, Pt.slots] at X22 l22 y22 z22 st22 hQ22
              subst l22 y22 z22
              obtain ⟨rfl, Nq22, Kq22, P22_0, P22_1⟩ := hQ22
              have N22 := Fr.app N10 Nq22
              have e22 : T22.heap = T22.heap := rfl
              have Z23 := Nat.le_trans Z20 Kq22.1
              have K24 : Keep h0 _ [] := K21.trans Kq22 (allS (P := fun x => x ∈ [] ∨ h0.size ≤ x) (Or.inr sz_b19) all0)
              refine own_tr st22 ?_
              show own_E p e below _ T22 (mkF m 134 #[.val (.long q1), .second, .val (.long q2), .second, iv p3, iv 0, iv 0, .val (.long q2), .second, iv (((p3.toUInt32 >>> ((3 : Int32) &&& 31).toUInt32).toInt32) &&& (3 : Int32)), rv b4, .unset, .unset] [.ref b19])
              refine own_st (fun t k => XS.astore X22.here hx rfl (hb hby at_134) rfl rfl (l' := #[.val (.long q1), .second, .val (.long q2), .second, iv p3, iv 0, iv 0, .val (.long q2), .second, iv (((p3.toUInt32 >>> ((3 : Int32) &&& 31).toUInt32).toInt32) &&& (3 : Int32)), rv b4, rv b19, .unset]) rfl k) ?_
              show own_E p e below _ T22 (mkF m 136 #[.val (.long q1), .second, .val (.long q2), .second, iv p3, iv 0, iv 0, .val (.long q2), .second, iv (((p3.toUInt32 >>> ((3 : Int32) &&& 31).toUInt32).toInt32) &&& (3 : Int32)), rv b4, rv b19, .unset] [])
              refine own_st (fun t k => XS.lloadN X22.here hx rfl (hb hby at_136) rfl k) ?_
              show own_E p e below _ T22 (mkF m 137 #[.val (.long q1), .second, .val (.long q2), .second, iv p3, iv 0, iv 0, .val (.long q2), .second, iv (((p3.toUInt32 >>> ((3 : Int32) &&& 31).toUInt32).toInt32) &&& (3 : Int32)), rv b4, rv b19, .unset] [.long q1])
              refine own_st (fun t k => XS.lload X22.here hx rfl (hb hby at_137) rfl k) ?_
              show own_E p e below _ T22 (mkF m 139 #[.val (.long q1), .second, .val (.long q2), .second, iv p3, iv 0, iv 0, .val (.long q2), .second, iv (((p3.toUInt32 >>> ((3 : Int32) &&& 31).toUInt32).toInt32) &&& (3 : Int32)), rv b4, rv b19, .unset] [.long q2, .long q1])
              refine own_st (fun t k => XS.lcmp X22.here hx rfl (hb hby at_139) rfl k) ?_
              show own_E p e below _ T22 (mkF m 140 #[.val (.long q1), .second, .val (.long q2), .second, iv p3, iv 0, iv 0, .val (.long q2), .second, iv (((p3.toUInt32 >>> ((3 : Int32) &&& 31).toUInt32).toInt32) &&& (3 : Int32)), rv b4, rv b19, .unset] [.int (lcmpW q1 q2)])
              by_cases hc25 : q1 = q2
              · refine own_st (fun t k => XS.ifNo X22.here hx rfl (hb hby at_140) rfl ((if0 _ _).trans (teq ((lw_eq _ _).mpr hc25)).2) k) ?_
                show own_E p e below _ T22 (mkF m 143 #[.val (.long q1), .second, .val (.long q2), .second, iv p3, iv 0, iv 0, .val (.long q2), .second, iv (((p3.toUInt32 >>> ((3 : Int32) &&& 31).toUInt32).toInt32) &&& (3 : Int32)), rv b4, rv b19, .unset] [])
                refine own_st (fun t k => XS.iconst X22.here hx rfl (hb hby at_143) k) ?_
                show own_E p e below _ T22 (mkF m 144 #[.val (.long q1), .second, .val (.long q2), .second, iv p3, iv 0, iv 0, .val (.long q2), .second, iv (((p3.toUInt32 >>> ((3 : Int32) &&& 31).toUInt32).toInt32) &&& (3 : Int32)), rv b4, rv b19, .unset] [.int 1])
                refine own_st (fun t k => XS.goto X22.here hx rfl (pc0 := 144) (pc' := 148) rfl (hb hby at_144) (by decide) (by decide) k) ?_
                show own_E p e below _ T22 (mkF m 148 #[.val (.long q1), .second, .val (.long q2), .second, iv p3, iv 0, iv 0, .val (.long q2), .second, iv (((p3.toUInt32 >>> ((3 : Int32) &&& 31).toUInt32).toInt32) &&& (3 : Int32)), rv b4, rv b19, .unset] [.int 1])
                refine own_st (fun t k => XS.istore X22.here hx rfl (hb hby at_148) rfl (l' := #[.val (.long q1), .second, .val (.long q2), .second, iv p3, iv 0, iv 0, .val (.long q2), .second, iv (((p3.toUInt32 >>> ((3 : Int32) &&& 31).toUInt32).toInt32) &&& (3 : Int32)), rv b4, rv b19, iv 1]) rfl k) ?_
                show own_E p e below _ T22 (mkF m 150 #[.val (.long q1), .second, .val (.long q2), .second, iv p3, iv 0, iv 0, .val (.long q2), .second, iv (((p3.toUInt32 >>> ((3 : Int32) &&& 31).toUInt32).toInt32) &&& (3 : Int32)), rv b4, rv b19, iv 1] [])
                refine own_st (fun t k => XS.aload X22.here hx rfl (hb hby at_150) rfl rfl k) ?_
                show own_E p e below _ T22 (mkF m 152 #[.val (.long q1), .second, .val (.long q2), .second, iv p3, iv 0, iv 0, .val (.long q2), .second, iv (((p3.toUInt32 >>> ((3 : Int32) &&& 31).toUInt32).toInt32) &&& (3 : Int32)), rv b4, rv b19, iv 1] [.ref b4])
                refine own_st (fun t k => XS.aload X22.here hx rfl (hb hby at_152) rfl rfl k) ?_
                show own_E p e below _ T22 (mkF m 154 #[.val (.long q1), .second, .val (.long q2), .second, iv p3, iv 0, iv 0, .val (.long q2), .second, iv (((p3.toUInt32 >>> ((3 : Int32) &&& 31).toUInt32).toInt32) &&& (3 : Int32)), rv b4, rv b19, iv 1] [.ref b19, .ref b4])
                have B26 := ((P7_1.ext E19).keep Kq22 (ninS ne_b4_b19 nin0))
                have B28 := ((P7_0.ext E19).keep Kq22)
                obtain ⟨cq27, kq27, q27a, q27b, q27c⟩ := isOf hZ e22 B28
                obtain ⟨_, _, ⟨T27, L27, k27, n27⟩, -, X27, ⟨Lc27, hQ27, l27, y27, z27⟩, st27⟩ := X22.virtualBack hx (y := own_y4) (z := own_y4) hown (mvT hZ (own_w hw 13 rfl)) (mvT hZ (own_w hw 14 rfl)) (notFace_of_selects (args := #[]) (mvT hZ (own_w hw 16 rfl))) (mvT hZ (own_w hw 16 rfl)) (mvT hZ (own_w hw 15 rfl)) (by decide) (backOf (W := 0) (own_eqT l Z a0 hw [] b4 b19 q1 q2 T22.heap n0 Z23 P22_0 B26 P22_1) hZ (own_w hw 17 rfl) (own_w hw 2 rfl) (by decide) (by decide)) q27a q27c (g := (mkF m 154 #[.val (.long q1), .second, .val (.long q2), .second, iv p3, iv 0, iv 0, .val (.long q2), .second, iv (((p3.toUInt32 >>> ((3 : Int32) &&& 31).toUInt32).toInt32) &&& (3 : Int32)), rv b4, rv b19, iv 1] [.ref b19, .ref b4])) rfl (by rw [hml]; rfl) (Steps.refl _) (argsL := [(.ref b19)]) (rest := []) (lenOf own_pd_5 rfl) rfl (by show 2 * 0 + _ ≤ _; exact Nat.le_of_eq rfl) (hb hby at_154) (fun _ _ => ⟨rfl, e22, (by decide : 2 + 0 ≤ _), (by decide : 4 + 0 ≤ _)⟩)
                dsimp only [Pt.U, Pt.locs, Pt.cells, Pt.slots] at X27 l27 y27 z27 st27 hQ27
                subst l27 y27 z27
                obtain ⟨hR27, e27, rfl⟩ := hQ27
                have N27 := Fr.app N22 (Fr.nil n0)
                rcases hR27 with ⟨rfl, ha27_0⟩ | ⟨rfl, ha27_0⟩
                · refine own_tr st27 ?_
                  show own_E p e below _ T27 (mkF m 157 #[.val (.long q1), .second, .val (.long q2), .second, iv p3, iv 0, iv 0, .val (.long q2), .second, iv (((p3.toUInt32 >>> ((3 : Int32) &&& 31).toUInt32).toInt32) &&& (3 : Int32)), rv b4, rv b19, iv 1] [.int 1])
                  refine own_st (fun t k => XS.iload X27.here hx rfl (hb hby at_157) rfl k) ?_
                  show own_E p e below _ T27 (mkF m 159 #[.val (.long q1), .second, .val (.long q2), .second, iv p3, iv 0, iv 0, .val (.long q2), .second, iv (((p3.toUInt32 >>> ((3 : Int32) &&& 31).toUInt32).toInt32) &&& (3 : Int32)), rv b4, rv b19, iv 1] [.int 1, .int 1])
                  refine own_st (fun t k => XS.icmpYes X27.here hx rfl (pc0 := 159) (pc' := 164) rfl (hb hby at_159) rfl (by decide) (by decide) (by decide) k) ?_
                  show own_E p e below _ T27 (mkF m 164 #[.val (.long q1), .second, .val (.long q2), .second, iv p3, iv 0, iv 0, .val (.long q2), .second, iv (((p3.toUInt32 >>> ((3 : Int32) &&& 31).toUInt32).toInt32) &&& (3 : Int32)), rv b4, rv b19, iv 1] [])
                  refine own_st (fun t k => XS.aload X27.here hx rfl (hb hby at_164) rfl rfl k) ?_
                  show own_E p e below _ T27 (mkF m 166 #[.val (.long q1), .second, .val (.long q2), .second, iv p3, iv 0, iv 0, .val (.long q2), .second, iv (((p3.toUInt32 >>> ((3 : Int32) &&& 31).toUInt32).toInt32) &&& (3 : Int32)), rv b4, rv b19, iv 1] [.ref b19])
                  refine own_st (fun t k => XS.aload X27.here hx rfl (hb hby at_166) rfl rfl k) ?_
                  show own_E p e below _ T27 (mkF m 168 #[.val (.long q1), .second, .val (.long q2), .second, iv p3, iv 0, iv 0, .val (.long q2), .second, iv (((p3.toUInt32 >>> ((3 : Int32) &&& 31).toUInt32).toInt32) &&& (3 : Int32)), rv b4, rv b19, iv 1] [.ref b4, .ref b19])
                  obtain ⟨cq29, kq29, q29a, q29b, q29c⟩ := isOf hZ e27 P22_0
                  obtain ⟨_, _, ⟨T29, L29, k29, n29⟩, -, X29, ⟨Lc29, hQ29, l29, y29, z29⟩, st29⟩ := X27.virtualBack hx (y := own_y4) (z := own_y4) hown (mvT hZ (own_w hw 13 rfl)) (mvT hZ (own_w hw 14 rfl)) (notFace_of_selects (args := #[]) (mvT hZ (own_w hw 16 rfl))) (mvT hZ (own_w hw 16 rfl)) (mvT hZ (own_w hw 15 rfl)) (by decide) (backOf (W := 0) (own_eqT l Z a0 hw [] b19 b4 q2 q1 T22.heap n0 Z23 B28 P22_1 B26) hZ (own_w hw 17 rfl) (own_w hw 2 rfl) (by decide) (by decide)) q29a q29c (g := (mkF m 168 #[.val (.long q1), .second, .val (.long q2), .second, iv p3, iv 0, iv 0, .val (.long q2), .second, iv (((p3.toUInt32 >>> ((3 : Int32) &&& 31).toUInt32).toInt32) &&& (3 : Int32)), rv b4, rv b19, iv 1] [.ref b4, .ref b19])) rfl (by rw [hml]; rfl) (Steps.refl _) (argsL := [(.ref b4)]) (rest := []) (lenOf own_pd_5 rfl) rfl (by show 2 * 0 + _ ≤ _; exact Nat.le_of_eq rfl) (hb hby at_168) (fun _ _ => ⟨rfl, e27, (by decide : 2 + 0 ≤ _), (by decide : 4 + 0 ≤ _)⟩)
                  dsimp only [Pt.U, Pt.locs, Pt.cells, Pt.slots] at X29 l29 y29 z29 st29 hQ29
                  subst l29 y29 z29
                  obtain ⟨hR29, e29, rfl⟩ := hQ29
                  have N29 := Fr.app N27 (Fr.nil n0)
                  rcases hR29 with ⟨rfl, ha29_0⟩ | ⟨rfl, ha29_0⟩
                  · refine own_tr st29 ?_
                    show own_E p e below _ T29 (mkF m 171 #[.val (.long q1), .second, .val (.long q2), .second, iv p3, iv 0, iv 0, .val (.long q2), .second, iv (((p3.toUInt32 >>> ((3 : Int32) &&& 31).toUInt32).toInt32) &&& (3 : Int32)), rv b4, rv b19, iv 1] [.int 1])
                    refine own_st (fun t k => XS.iload X29.here hx rfl (hb hby at_171) rfl k) ?_
                    show own_E p e below _ T29 (mkF m 173 #[.val (.long q1), .second, .val (.long q2), .second, iv p3, iv 0, iv 0, .val (.long q2), .second, iv (((p3.toUInt32 >>> ((3 : Int32) &&& 31).toUInt32).toInt32) &&& (3 : Int32)), rv b4, rv b19, iv 1] [.int 1, .int 1])
                    refine own_st (fun t k => XS.icmpNo X29.here hx rfl (hb hby at_173) rfl (by decide) k) ?_
                    show own_E p e below _ T29 (mkF m 176 #[.val (.long q1), .second, .val (.long q2), .second, iv p3, iv 0, iv 0, .val (.long q2), .second, iv (((p3.toUInt32 >>> ((3 : Int32) &&& 31).toUInt32).toInt32) &&& (3 : Int32)), rv b4, rv b19, iv 1] [])
                    refine own_st (fun t k => XS.iconst X29.here hx rfl (hb hby at_176) k) ?_
                    show own_E p e below _ T29 (mkF m 177 #[.val (.long q1), .second, .val (.long q2), .second, iv p3, iv 0, iv 0, .val (.long q2), .second, iv (((p3.toUInt32 >>> ((3 : Int32) &&& 31).toUInt32).toInt32) &&& (3 : Int32)), rv b4, rv b19, iv 1] [.int 1])
                    refine own_st (fun t k => XS.goto X29.here hx rfl (pc0 := 177) (pc' := 181) rfl (hb hby at_177) (by decide) (by decide) k) ?_
                    show own_E p e below _ T29 (mkF m 181 #[.val (.long q1), .second, .val (.long q2), .second, iv p3, iv 0, iv 0, .val (.long q2), .second, iv (((p3.toUInt32 >>> ((3 : Int32) &&& 31).toUInt32).toInt32) &&& (3 : Int32)), rv b4, rv b19, iv 1] [.int 1])
                    refine own_retS X29 hx Bd.notSynchronized Bd.returns rfl (by decide) (hb hby at_181) (by decide) (by decide) ?_
                    exact ⟨rfl, N29⟩
                  · exact absurd hc25 ha29_0
                · exfalso
                  have f30 := rng32 p3
                  have f31 : (1 : Int32).toInt = 1 := rfl
                  have f32 := rng32 (p3 &&& (1 : Int32))
                  have f33 : (p3 &&& (1 : Int32)).toInt = p3.toInt % 2 := c_mask p3 (1 : Int32) 1 (by decide) (by decide)
                  have f34 : (0 : Int32).toInt = 0 := rfl
                  have f35 : (2 : Int32).toInt = 2 := rfl
                  have f36 := rng32 (p3 &&& (2 : Int32))
                  have f37 := c_and p3 (2 : Int32) (by decide)
                  have f38 : (4 : Int32).toInt = 4 := rfl
                  have f39 := rng32 (p3 &&& (4 : Int32))
                  have f40 := c_and p3 (4 : Int32) (by decide)
                  have f41 := rng64 q1
                  have f42 : (3 : Int32).toInt = 3 := rfl
                  have f43 := rng32 ((p3.toUInt32 >>> ((3 : Int32) &&& 31).toUInt32).toInt32)
                  have f44 : ((p3.toUInt32 >>> ((3 : Int32) &&& 31).toUInt32).toInt32).toInt = (p3.toInt % 4294967296) / 8 := c_iushr p3 (3 : Int32) 3 (by decide) (by decide)
                  have f45 := rng32 (((p3.toUInt32 >>> ((3 : Int32) &&& 31).toUInt32).toInt32) &&& (3 : Int32))
                  have f46 : (((p3.toUInt32 >>> ((3 : Int32) &&& 31).toUInt32).toInt32) &&& (3 : Int32)).toInt = ((p3.toUInt32 >>> ((3 : Int32) &&& 31).toUInt32).toInt32).toInt % 4 := c_mask ((p3.toUInt32 >>> ((3 : Int32) &&& 31).toUInt32).toInt32) (3 : Int32) 2 (by decide) (by decide)
                  have f47 := rng64 q2
                  have g48 := hc1
                  rw [← Int32.toInt_inj] at g48
                  have g49 := hc2
                  rw [← Int32.toInt_inj] at g49
                  have g50 := hc3
                  rw [← Int32.toInt_inj] at g50
                  have g51 := ha10_0
                  rw [← Int64.toInt_inj] at g51
                  have g52 := hc11
                  rw [← Int32.toInt_inj] at g52
                  have g53 := hc13
                  rw [← Int32.toInt_inj] at g53
                  have g54 := hc25
                  rw [← Int64.toInt_inj] at g54
                  have g55 := ha27_0
                  rw [← Int64.toInt_inj] at g55
                  omega
              · refine own_st (fun t k => XS.ifYes X22.here hx rfl (pc0 := 140) (pc' := 147) rfl (hb hby at_140) rfl ((if0 _ _).trans (feq (fun q => hc25 ((lw_eq _ _).mp q))).2) (by decide) (by decide) k) ?_
                show own_E p e below _ T22 (mkF m 147 #[.val (.long q1), .second, .val (.long q2), .second, iv p3, iv 0, iv 0, .val (.long q2), .second, iv (((p3.toUInt32 >>> ((3 : Int32) &&& 31).toUInt32).toInt32) &&& (3 : Int32)), rv b4, rv b19, .unset] [])
                refine own_st (fun t k => XS.iconst X22.here hx rfl (hb hby at_147) k) ?_
                show own_E p e below _ T22 (mkF m 148 #[.val (.long q1), .second, .val (.long q2), .second, iv p3, iv 0, iv 0, .val (.long q2), .second, iv (((p3.toUInt32 >>> ((3 : Int32) &&& 31).toUInt32).toInt32) &&& (3 : Int32)), rv b4, rv b19, .unset] [.int 0])
                refine own_st (fun t k => XS.istore X22.here hx rfl (hb hby at_148) rfl (l' := #[.val (.long q1), .second, .val (.long q2), .second, iv p3, iv 0, iv 0, .val (.long q2), .second, iv (((p3.toUInt32 >>> ((3 : Int32) &&& 31).toUInt32).toInt32) &&& (3 : Int32)), rv b4, rv b19, iv 0]) rfl k) ?_
                show own_E p e below _ T22 (mkF m 150 #[.val (.long q1), .second, .val (.long q2), .second, iv p3, iv 0, iv 0, .val (.long q2), .second, iv (((p3.toUInt32 >>> ((3 : Int32) &&& 31).toUInt32).toInt32) &&& (3 : Int32)), rv b4, rv b19, iv 0] [])
                refine own_st (fun t k => XS.aload X22.here hx rfl (hb hby at_150) rfl rfl k) ?_
                show own_E p e below _ T22 (mkF m 152 #[.val (.long q1), .second, .val (.long q2), .second, iv p3, iv 0, iv 0, .val (.long q2), .second, iv (((p3.toUInt32 >>> ((3 : Int32) &&& 31).toUInt32).toInt32) &&& (3 : Int32)), rv b4, rv b19, iv 0] [.ref b4])
                refine own_st (fun t k => XS.aload X22.here hx rfl (hb hby at_152) rfl rfl k) ?_
                show own_E p e below _ T22 (mkF m 154 #[.val (.long q1), .second, .val (.long q2), .second, iv p3, iv 0, iv 0, .val (.long q2), .second, iv (((p3.toUInt32 >>> ((3 : Int32) &&& 31).toUInt32).toInt32) &&& (3 : Int32)), rv b4, rv b19, iv 0] [.ref b19, .ref b4])
                have B56 := ((P7_1.ext E19).keep Kq22 (ninS ne_b4_b19 nin0))
                have B58 := ((P7_0.ext E19).keep Kq22)
                obtain ⟨cq57, kq57, q57a, q57b, q57c⟩ := isOf hZ e22 B58
                obtain ⟨_, _, ⟨T57, L57, k57, n57⟩, -, X57, ⟨Lc57, hQ57, l57, y57, z57⟩, st57⟩ := X22.virtualBack hx (y := own_y4) (z := own_y4) hown (mvT hZ (own_w hw 13 rfl)) (mvT hZ (own_w hw 14 rfl)) (notFace_of_selects (args := #[]) (mvT hZ (own_w hw 16 rfl))) (mvT hZ (own_w hw 16 rfl)) (mvT hZ (own_w hw 15 rfl)) (by decide) (backOf (W := 0) (own_eqT l Z a0 hw [] b4 b19 q1 q2 T22.heap n0 Z23 P22_0 B56 P22_1) hZ (own_w hw 17 rfl) (own_w hw 2 rfl) (by decide) (by decide)) q57a q57c (g := (mkF m 154 #[.val (.long q1), .second, .val (.long q2), .second, iv p3, iv 0, iv 0, .val (.long q2), .second, iv (((p3.toUInt32 >>> ((3 : Int32) &&& 31).toUInt32).toInt32) &&& (3 : Int32)), rv b4, rv b19, iv 0] [.ref b19, .ref b4])) rfl (by rw [hml]; rfl) (Steps.refl _) (argsL := [(.ref b19)]) (rest := []) (lenOf own_pd_5 rfl) rfl (by show 2 * 0 + _ ≤ _; exact Nat.le_of_eq rfl) (hb hby at_154) (fun _ _ => ⟨rfl, e22, (by decide : 2 + 0 ≤ _), (by decide : 4 + 0 ≤ _)⟩)
                dsimp only [Pt.U, Pt.locs, Pt.cells, Pt.slots] at X57 l57 y57 z57 st57 hQ57
                subst l57 y57 z57
                obtain ⟨hR57, e57, rfl⟩ := hQ57
                have N57 := Fr.app N22 (Fr.nil n0)
                rcases hR57 with ⟨rfl, ha57_0⟩ | ⟨rfl, ha57_0⟩
                · exfalso
                  have f59 := rng32 p3
                  have f60 : (1 : Int32).toInt = 1 := rfl
                  have f61 := rng32 (p3 &&& (1 : Int32))
                  have f62 : (p3 &&& (1 : Int32)).toInt = p3.toInt % 2 := c_mask p3 (1 : Int32) 1 (by decide) (by decide)
                  have f63 : (0 : Int32).toInt = 0 := rfl
                  have f64 : (2 : Int32).toInt = 2 := rfl
                  have f65 := rng32 (p3 &&& (2 : Int32))
                  have f66 := c_and p3 (2 : Int32) (by decide)
                  have f67 : (4 : Int32).toInt = 4 := rfl
                  have f68 := rng32 (p3 &&& (4 : Int32))
                  have f69 := c_and p3 (4 : Int32) (by decide)
                  have f70 := rng64 q1
                  have f71 : (3 : Int32).toInt = 3 := rfl
                  have f72 := rng32 ((p3.toUInt32 >>> ((3 : Int32) &&& 31).toUInt32).toInt32)
                  have f73 : ((p3.toUInt32 >>> ((3 : Int32) &&& 31).toUInt32).toInt32).toInt = (p3.toInt % 4294967296) / 8 := c_iushr p3 (3 : Int32) 3 (by decide) (by decide)
                  have f74 := rng32 (((p3.toUInt32 >>> ((3 : Int32) &&& 31).toUInt32).toInt32) &&& (3 : Int32))
                  have f75 : (((p3.toUInt32 >>> ((3 : Int32) &&& 31).toUInt32).toInt32) &&& (3 : Int32)).toInt = ((p3.toUInt32 >>> ((3 : Int32) &&& 31).toUInt32).toInt32).toInt % 4 := c_mask ((p3.toUInt32 >>> ((3 : Int32) &&& 31).toUInt32).toInt32) (3 : Int32) 2 (by decide) (by decide)
                  have f76 := rng64 q2
                  have g77 := hc1
                  rw [← Int32.toInt_inj] at g77
                  have g78 := hc2
                  rw [← Int32.toInt_inj] at g78
                  have g79 := hc3
                  rw [← Int32.toInt_inj] at g79
                  have g80 := ha10_0
                  rw [← Int64.toInt_inj] at g80
                  have g81 := hc11
                  rw [← Int32.toInt_inj] at g81
                  have g82 := hc13
                  rw [← Int32.toInt_inj] at g82
                  have g83 := hc25
                  rw [← Int64.toInt_inj] at g83
                  have g84 := ha57_0
                  rw [← Int64.toInt_inj] at g84
                  omega
                · refine own_tr st57 ?_
                  show own_E p e below _ T57 (mkF m 157 #[.val (.long q1), .second, .val (.long q2), .second, iv p3, iv 0, iv 0, .val (.long q2), .second, iv (((p3.toUInt32 >>> ((3 : Int32) &&& 31).toUInt32).toInt32) &&& (3 : Int32)), rv b4, rv b19, iv 0] [.int 0])
                  refine own_st (fun t k => XS.iload X57.here hx rfl (hb hby at_157) rfl k) ?_
                  show own_E p e below _ T57 (mkF m 159 #[.val (.long q1), .second, .val (.long q2), .second, iv p3, iv 0, iv 0, .val (.long q2), .second, iv (((p3.toUInt32 >>> ((3 : Int32) &&& 31).toUInt32).toInt32) &&& (3 : Int32)), rv b4, rv b19, iv 0] [.int 0, .int 0])
                  refine own_st (fun t k => XS.icmpYes X57.here hx rfl (pc0 := 159) (pc' := 164) rfl (hb hby at_159) rfl (by decide) (by decide) (by decide) k) ?_
                  show own_E p e below _ T57 (mkF m 164 #[.val (.long q1), .second, .val (.long q2), .second, iv p3, iv 0, iv 0, .val (.long q2), .second, iv (((p3.toUInt32 >>> ((3 : Int32) &&& 31).toUInt32).toInt32) &&& (3 : Int32)), rv b4, rv b19, iv 0] [])
                  refine own_st (fun t k => XS.aload X57.here hx rfl (hb hby at_164) rfl rfl k) ?_
                  show own_E p e below _ T57 (mkF m 166 #[.val (.long q1), .second, .val (.long q2), .second, iv p3, iv 0, iv 0, .val (.long q2), .second, iv (((p3.toUInt32 >>> ((3 : Int32) &&& 31).toUInt32).toInt32) &&& (3 : Int32)), rv b4, rv b19, iv 0] [.ref b19])
                  refine own_st (fun t k => XS.aload X57.here hx rfl (hb hby at_166) rfl rfl k) ?_
                  show own_E p e below _ T57 (mkF m 168 #[.val (.long q1), .second, .val (.long q2), .second, iv p3, iv 0, iv 0, .val (.long q2), .second, iv (((p3.toUInt32 >>> ((3 : Int32) &&& 31).toUInt32).toInt32) &&& (3 : Int32)), rv b4, rv b19, iv 0] [.ref b4, .ref b19])
                  obtain ⟨cq85, kq85, q85a, q85b, q85c⟩ := isOf hZ e57 P22_0
                  obtain ⟨_, _, ⟨T85, L85, k85, n85⟩, -, X85, ⟨Lc85, hQ85, l85, y85, z85⟩, st85⟩ := X57.virtualBack hx (y := own_y4) (z := own_y4) hown (mvT hZ (own_w hw 13 rfl)) (mvT hZ (own_w hw 14 rfl)) (notFace_of_selects (args := #[]) (mvT hZ (own_w hw 16 rfl))) (mvT hZ (own_w hw 16 rfl)) (mvT hZ (own_w hw 15 rfl)) (by decide) (backOf (W := 0) (own_eqT l Z a0 hw [] b19 b4 q2 q1 T22.heap n0 Z23 B58 P22_1 B56) hZ (own_w hw 17 rfl) (own_w hw 2 rfl) (by decide) (by decide)) q85a q85c (g := (mkF m 168 #[.val (.long q1), .second, .val (.long q2), .second, iv p3, iv 0, iv 0, .val (.long q2), .second, iv (((p3.toUInt32 >>> ((3 : Int32) &&& 31).toUInt32).toInt32) &&& (3 : Int32)), rv b4, rv b19, iv 0] [.ref b4, .ref b19])) rfl (by rw [hml]; rfl) (Steps.refl _) (argsL := [(.ref b4)]) (rest := []) (lenOf own_pd_5 rfl) rfl (by show 2 * 0 + _ ≤ _; exact Nat.le_of_eq rfl) (hb hby at_168) (fun _ _ => ⟨rfl, e57, (by decide : 2 + 0 ≤ _), (by decide : 4 + 0 ≤ _)⟩)
                  dsimp only [Pt.U, Pt.locs, Pt.cells, Pt.slots] at X85 l85 y85 z85 st85 hQ85
                  subst l85 y85 z85
                  obtain ⟨hR85, e85, rfl⟩ := hQ85
                  have N85 := Fr.app N57 (Fr.nil n0)
                  rcases hR85 with ⟨rfl, ha85_0⟩ | ⟨rfl, ha85_0⟩
                  · exact absurd ha85_0 hc25
                  · refine own_tr st85 ?_
                    show own_E p e below _ T85 (mkF m 171 #[.val (.long q1), .second, .val (.long q2), .second, iv p3, iv 0, iv 0, .val (.long q2), .second, iv (((p3.toUInt32 >>> ((3 : Int32) &&& 31).toUInt32).toInt32) &&& (3 : Int32)), rv b4, rv b19, iv 0] [.int 0])
                    refine own_st (fun t k => XS.iload X85.here hx rfl (hb hby at_171) rfl k) ?_
                    show own_E p e below _ T85 (mkF m 173 #[.val (.long q1), .second, .val (.long q2), .second, iv p3, iv 0, iv 0, .val (.long q2), .second, iv (((p3.toUInt32 >>> ((3 : Int32) &&& 31).toUInt32).toInt32) &&& (3 : Int32)), rv b4, rv b19, iv 0] [.int 0, .int 0])
                    refine own_st (fun t k => XS.icmpNo X85.here hx rfl (hb hby at_173) rfl (by decide) k) ?_
                    show own_E p e below _ T85 (mkF m 176 #[.val (.long q1), .second, .val (.long q2), .second, iv p3, iv 0, iv 0, .val (.long q2), .second, iv (((p3.toUInt32 >>> ((3 : Int32) &&& 31).toUInt32).toInt32) &&& (3 : Int32)), rv b4, rv b19, iv 0] [])
                    refine own_st (fun t k => XS.iconst X85.here hx rfl (hb hby at_176) k) ?_
                    show own_E p e below _ T85 (mkF m 177 #[.val (.long q1), .second, .val (.long q2), .second, iv p3, iv 0, iv 0, .val (.long q2), .second, iv (((p3.toUInt32 >>> ((3 : Int32) &&& 31).toUInt32).toInt32) &&& (3 : Int32)), rv b4, rv b19, iv 0] [.int 1])
                    refine own_st (fun t k => XS.goto X85.here hx rfl (pc0 := 177) (pc' := 181) rfl (hb hby at_177) (by decide) (by decide) k) ?_
                    show own_E p e below _ T85 (mkF m 181 #[.val (.long q1), .second, .val (.long q2), .second, iv p3, iv 0, iv 0, .val (.long q2), .second, iv (((p3.toUInt32 >>> ((3 : Int32) &&& 31).toUInt32).toInt32) &&& (3 : Int32)), rv b4, rv b19, iv 0] [.int 1])
                    refine own_retS X85 hx Bd.notSynchronized Bd.returns rfl (by decide) (hb hby at_181) (by decide) (by decide) ?_
                    exact ⟨rfl, N85⟩
        · exfalso
          have f86 := rng32 p3
          have f87 : (1 : Int32).toInt = 1 := rfl
          have f88 := rng32 (p3 &&& (1 : Int32))
          have f89 : (p3 &&& (1 : Int32)).toInt = p3.toInt % 2 := c_mask p3 (1 : Int32) 1 (by decide) (by decide)
          have f90 : (0 : Int32).toInt = 0 := rfl
          have f91 : (2 : Int32).toInt = 2 := rfl
          have f92 := rng32 (p3 &&& (2 : Int32))
          have f93 := c_and p3 (2 : Int32) (by decide)
          have f94 : (4 : Int32).toInt = 4 := rfl
          have f95 := rng32 (p3 &&& (4 : Int32))
          have f96 := c_and p3 (4 : Int32) (by decide)
          have f97 := rng64 q1
          have g98 := hc1
          rw [← Int32.toInt_inj] at g98
          have g99 := hc2
          rw [← Int32.toInt_inj] at g99
          have g100 := hc3
          rw [← Int32.toInt_inj] at g100
          have g101 := ha10_0
          rw [← Int64.toInt_inj] at g101
          omega
      · refine own_st (fun t k => XS.ifNo X0.here hx rfl (hb hby at_32) rfl ((if0 _ _).trans (feq hc3).1) k) ?_
        show own_E p e below _ s₁ (mkF m 35 #[.val (.long q1), .second, .val (.long q2), .second, iv p3, iv 0, iv 0, .unset, .unset, .unset, .unset, .unset, .unset] [])
        refine own_st (fun t k => XS.lloadN X0.here hx rfl (hb hby at_35) rfl k) ?_
        show own_E p e below _ s₁ (mkF m 36 #[.val (.long q1), .second, .val (.long q2), .second, iv p3, iv 0, iv 0, .unset, .unset, .unset, .unset, .unset, .unset] [.long q1])
        refine own_st (fun t k => XS.goto X0.here hx rfl (pc0 := 36) (pc' := 40) rfl (hb hby at_36) (by decide) (by decide) k) ?_
        show own_E p e below _ s₁ (mkF m 40 #[.val (.long q1), .second, .val (.long q2), .second, iv p3, iv 0, iv 0, .unset, .unset, .unset, .unset, .unset, .unset] [.long q1])
        refine own_st (fun t k => XS.lstore X0.here hx rfl (hb hby at_40) rfl (l' := #[.val (.long q1), .second, .val (.long q2), .second, iv p3, iv 0, iv 0, .val (.long q1), .second, .unset, .unset, .unset, .unset]) rfl k) ?_
        show own_E p e below _ s₁ (mkF m 42 #[.val (.long q1), .second, .val (.long q2), .second, iv p3, iv 0, iv 0, .val (.long q1), .second, .unset, .unset, .unset, .unset] [])
        refine own_st (fun t k => XS.iload X0.here hx rfl (hb hby at_42) rfl k) ?_
        show own_E p e below _ s₁ (mkF m 44 #[.val (.long q1), .second, .val (.long q2), .second, iv p3, iv 0, iv 0, .val (.long q1), .second, .unset, .unset, .unset, .unset] [.int p3])
        refine own_st (fun t k => XS.iconst X0.here hx rfl (hb hby at_44) k) ?_
        show own_E p e below _ s₁ (mkF m 45 #[.val (.long q1), .second, .val (.long q2), .second, iv p3, iv 0, iv 0, .val (.long q1), .second, .unset, .unset, .unset, .unset] [.int 3, .int p3])
        refine own_st (fun t k => XS.iushr X0.here hx rfl (hb hby at_45) rfl k) ?_
        show own_E p e below _ s₁ (mkF m 46 #[.val (.long q1), .second, .val (.long q2), .second, iv p3, iv 0, iv 0, .val (.long q1), .second, .unset, .unset, .unset, .unset] [.int ((p3.toUInt32 >>> ((3 : Int32) &&& 31).toUInt32).toInt32)])
        refine own_st (fun t k => XS.iconst X0.here hx rfl (hb hby at_46) k) ?_
        show own_E p e below _ s₁ (mkF m 47 #[.val (.long q1), .second, .val (.long q2), .second, iv p3, iv 0, iv 0, .val (.long q1), .second, .unset, .unset, .unset, .unset] [.int 3, .int ((p3.toUInt32 >>> ((3 : Int32) &&& 31).toUInt32).toInt32)])
        refine own_st (fun t k => XS.iand X0.here hx rfl (hb hby at_47) rfl k) ?_
        show own_E p e below _ s₁ (mkF m 48 #[.val (.long q1), .second, .val (.long q2), .second, iv p3, iv 0, iv 0, .val (.long q1), .second, .unset, .unset, .unset, .unset] [.int (((p3.toUInt32 >>> ((3 : Int32) &&& 31).toUInt32).toInt32) &&& (3 : Int32))])
        refine own_st (fun t k => XS.istore X0.here hx rfl (hb hby at_48) rfl (l' := #[.val (.long q1), .second, .val (.long q2), .second, iv p3, iv 0, iv 0, .val (.long q1), .second, iv (((p3.toUInt32 >>> ((3 : Int32) &&& 31).toUInt32).toInt32) &&& (3 : Int32)), .unset, .unset, .unset]) rfl k) ?_
        show own_E p e below _ s₁ (mkF m 50 #[.val (.long q1), .second, .val (.long q2), .second, iv p3, iv 0, iv 0, .val (.long q1), .second, iv (((p3.toUInt32 >>> ((3 : Int32) &&& 31).toUInt32).toInt32) &&& (3 : Int32)), .unset, .unset, .unset] [])
        obtain ⟨T102, h102, X102, e102, E102, A102, D102, -, st102⟩ := newO X0 hx hZ hown (own_w hw 0 rfl) (own_w hw 1 rfl) (own_w hw 2 rfl) e0 (g := (mkF m 50 #[.val (.long q1), .second, .val (.long q2), .second, iv p3, iv 0, iv 0, .val (.long q1), .second, iv (((p3.toUInt32 >>> ((3 : Int32) &&& 31).toUInt32).toInt32) &&& (3 : Int32)), .unset, .unset, .unset] [])) rfl (hb hby at_50) (by decide) (by decide)
        obtain ⟨b102, g102⟩ : ∃ z, z = h0.size := ⟨_, rfl⟩
        rw [← g102] at A102 D102 st102
        have g_b102 : n0 ≤ b102 := Nat.le_trans Z0 (Nat.le_of_eq g102.symm)
        have sz_b102 : h0.size ≤ b102 := Nat.le_trans (Keep.refl h0 []).1 (Nat.le_of_eq g102.symm)
        have Z103 := Nat.le_trans Z0 E102.1
        have K104 : Keep h0 _ [] := (Keep.refl h0 []).ext E102
        have F_count_b102 : Fld Z h102 b102 "com/example/tight_fence/tightfence/engine/TemporalValue" "count" "J" (.long (0 : Int64)) := D102 (Or.inr (own_w hw 10 rfl)) (ty := .long) (by decide)
        have F_fromClock_b102 : Fld Z h102 b102 "com/example/tight_fence/tightfence/engine/TemporalValue" "fromClock" "Z" (.int (0 : Int32)) := D102 (Or.inr (own_w hw 12 rfl)) (ty := .boolean) (by decide)
        refine own_st st102 ?_
        show own_E p e below _ T102 (mkF m 53 #[.val (.long q1), .second, .val (.long q2), .second, iv p3, iv 0, iv 0, .val (.long q1), .second, iv (((p3.toUInt32 >>> ((3 : Int32) &&& 31).toUInt32).toInt32) &&& (3 : Int32)), .unset, .unset, .unset] [.ref b102])
        refine own_st (fun t k => XS.dup X102.here hx rfl (hb hby at_53) rfl rfl k) ?_
        show own_E p e below _ T102 (mkF m 54 #[.val (.long q1), .second, .val (.long q2), .second, iv p3, iv 0, iv 0, .val (.long q1), .second, iv (((p3.toUInt32 >>> ((3 : Int32) &&& 31).toUInt32).toInt32) &&& (3 : Int32)), .unset, .unset, .unset] [.ref b102, .ref b102])
        refine own_st (fun t k => XS.lloadN X102.here hx rfl (hb hby at_54) rfl k) ?_
        show own_E p e below _ T102 (mkF m 55 #[.val (.long q1), .second, .val (.long q2), .second, iv p3, iv 0, iv 0, .val (.long q1), .second, iv (((p3.toUInt32 >>> ((3 : Int32) &&& 31).toUInt32).toInt32) &&& (3 : Int32)), .unset, .unset, .unset] [.long q1, .ref b102, .ref b102])
        refine own_st (fun t k => XS.iload X102.here hx rfl (hb hby at_55) rfl k) ?_
        show own_E p e below _ T102 (mkF m 57 #[.val (.long q1), .second, .val (.long q2), .second, iv p3, iv 0, iv 0, .val (.long q1), .second, iv (((p3.toUInt32 >>> ((3 : Int32) &&& 31).toUInt32).toInt32) &&& (3 : Int32)), .unset, .unset, .unset] [.int 0, .long q1, .ref b102, .ref b102])
        obtain ⟨_, _, ⟨T105, L105, k105, n105⟩, -, X105, ⟨Lc105, hQ105, l105, y105, z105⟩, st105⟩ := X102.specialBack hx (y := own_y3) rfl hown (mvT hZ (own_w hw 3 rfl)) (mvT hZ (own_w hw 4 rfl)) (mvT hZ (own_w hw 5 rfl)) (by decide) (backOf (W := 1) (own_init0 l Z a0 hw [] b102 q1 h102 n0 Z103 A102 F_count_b102 F_fromClock_b102 g_b102) hZ (own_w hw 5 rfl) (own_w hw 2 rfl) (by decide) (by decide)) (g := (mkF m 57 #[.val (.long q1), .second, .val (.long q2), .second, iv p3, iv 0, iv 0, .val (.long q1), .second, iv (((p3.toUInt32 >>> ((3 : Int32) &&& 31).toUInt32).toInt32) &&& (3 : Int32)), .unset, .unset, .unset] [.int 0, .long q1, .ref b102, .ref b102])) rfl (by rw [hml]; rfl) (Steps.refl _) (a := b102) (argsL := [(.long q1), (.int (0 : Int32))]) (rest := [(.ref b102)]) (lenOf own_pd_4 rfl) rfl (by show 2 * 0 + _ ≤ _; exact Nat.le_of_eq rfl) (hb hby at_57) (fun _ _ => ⟨rfl, e102, (by decide : 1 + 0 ≤ _), (by decide : 2 + 0 ≤ _)⟩)
        dsimp only [Pt.U, Pt.locs, Pt.cells, Pt.slots] at X105 l105 y105 z105 st105 hQ105
        subst l105 y105 z105
        obtain ⟨rfl, Nq105, Kq105, P105_0, P105_1⟩ := hQ105
        have N105 := Fr.app (Fr.nil n0) Nq105
        have e105 : T105.heap = T105.heap := rfl
        have Z106 := Nat.le_trans Z103 Kq105.1
        have K107 : Keep h0 _ [] := K104.trans Kq105 (allS (P := fun x => x ∈ [] ∨ h0.size ≤ x) (Or.inr sz_b102) all0)
        refine own_tr st105 ?_
        show own_E p e below _ T105 (mkF m 60 #[.val (.long q1), .second, .val (.long q2), .second, iv p3, iv 0, iv 0, .val (.long q1), .second, iv (((p3.toUInt32 >>> ((3 : Int32) &&& 31).toUInt32).toInt32) &&& (3 : Int32)), .unset, .unset, .unset] [.ref b102])
        refine own_st (fun t k => XS.astore X105.here hx rfl (hb hby at_60) rfl rfl (l' := #[.val (.long q1), .second, .val (.long q2), .second, iv p3, iv 0, iv 0, .val (.long q1), .second, iv (((p3.toUInt32 >>> ((3 : Int32) &&& 31).toUInt32).toInt32) &&& (3 : Int32)), rv b102, .unset, .unset]) rfl k) ?_
        show own_E p e below _ T105 (mkF m 62 #[.val (.long q1), .second, .val (.long q2), .second, iv p3, iv 0, iv 0, .val (.long q1), .second, iv (((p3.toUInt32 >>> ((3 : Int32) &&& 31).toUInt32).toInt32) &&& (3 : Int32)), rv b102, .unset, .unset] [])
        refine own_st (fun t k => XS.aload X105.here hx rfl (hb hby at_62) rfl rfl k) ?_
        show own_E p e below _ T105 (mkF m 64 #[.val (.long q1), .second, .val (.long q2), .second, iv p3, iv 0, iv 0, .val (.long q1), .second, iv (((p3.toUInt32 >>> ((3 : Int32) &&& 31).toUInt32).toInt32) &&& (3 : Int32)), rv b102, .unset, .unset] [.ref b102])
        refine own_st (fun t k => XS.aload X105.here hx rfl (hb hby at_64) rfl rfl k) ?_
        show own_E p e below _ T105 (mkF m 66 #[.val (.long q1), .second, .val (.long q2), .second, iv p3, iv 0, iv 0, .val (.long q1), .second, iv (((p3.toUInt32 >>> ((3 : Int32) &&& 31).toUInt32).toInt32) &&& (3 : Int32)), rv b102, .unset, .unset] [.ref b102, .ref b102])
        obtain ⟨cq108, kq108, q108a, q108b, q108c⟩ := isOf hZ e105 P105_0
        obtain ⟨_, _, ⟨T108, L108, k108, n108⟩, -, X108, ⟨Lc108, hQ108, l108, y108, z108⟩, st108⟩ := X105.virtualBack hx (y := own_y4) (z := own_y4) hown (mvT hZ (own_w hw 13 rfl)) (mvT hZ (own_w hw 14 rfl)) (notFace_of_selects (args := #[]) (mvT hZ (own_w hw 16 rfl))) (mvT hZ (own_w hw 16 rfl)) (mvT hZ (own_w hw 15 rfl)) (by decide) (backOf (W := 0) (own_eqT l Z a0 hw [] b102 b102 q1 q1 T105.heap n0 Z106 P105_0 P105_1 P105_1) hZ (own_w hw 17 rfl) (own_w hw 2 rfl) (by decide) (by decide)) q108a q108c (g := (mkF m 66 #[.val (.long q1), .second, .val (.long q2), .second, iv p3, iv 0, iv 0, .val (.long q1), .second, iv (((p3.toUInt32 >>> ((3 : Int32) &&& 31).toUInt32).toInt32) &&& (3 : Int32)), rv b102, .unset, .unset] [.ref b102, .ref b102])) rfl (by rw [hml]; rfl) (Steps.refl _) (argsL := [(.ref b102)]) (rest := []) (lenOf own_pd_5 rfl) rfl (by show 2 * 0 + _ ≤ _; exact Nat.le_of_eq rfl) (hb hby at_66) (fun _ _ => ⟨rfl, e105, (by decide : 1 + 0 ≤ _), (by decide : 2 + 0 ≤ _)⟩)
        dsimp only [Pt.U, Pt.locs, Pt.cells, Pt.slots] at X108 l108 y108 z108 st108 hQ108
        subst l108 y108 z108
        obtain ⟨hR108, e108, rfl⟩ := hQ108
        have N108 := Fr.app N105 (Fr.nil n0)
        rcases hR108 with ⟨rfl, ha108_0⟩ | ⟨rfl, ha108_0⟩
        · refine own_tr st108 ?_
          show own_E p e below _ T108 (mkF m 69 #[.val (.long q1), .second, .val (.long q2), .second, iv p3, iv 0, iv 0, .val (.long q1), .second, iv (((p3.toUInt32 >>> ((3 : Int32) &&& 31).toUInt32).toInt32) &&& (3 : Int32)), rv b102, .unset, .unset] [.int 1])
          refine own_st (fun t k => XS.ifYes X108.here hx rfl (pc0 := 69) (pc' := 74) rfl (hb hby at_69) rfl (by decide) (by decide) (by decide) k) ?_
          show own_E p e below _ T108 (mkF m 74 #[.val (.long q1), .second, .val (.long q2), .second, iv p3, iv 0, iv 0, .val (.long q1), .second, iv (((p3.toUInt32 >>> ((3 : Int32) &&& 31).toUInt32).toInt32) &&& (3 : Int32)), rv b102, .unset, .unset] [])
          refine own_st (fun t k => XS.iload X108.here hx rfl (hb hby at_74) rfl k) ?_
          show own_E p e below _ T108 (mkF m 76 #[.val (.long q1), .second, .val (.long q2), .second, iv p3, iv 0, iv 0, .val (.long q1), .second, iv (((p3.toUInt32 >>> ((3 : Int32) &&& 31).toUInt32).toInt32) &&& (3 : Int32)), rv b102, .unset, .unset] [.int (((p3.toUInt32 >>> ((3 : Int32) &&& 31).toUInt32).toInt32) &&& (3 : Int32))])
          refine own_st (fun t k => XS.iconst X108.here hx rfl (hb hby at_76) k) ?_
          show own_E p e below _ T108 (mkF m 77 #[.val (.long q1), .second, .val (.long q2), .second, iv p3, iv 0, iv 0, .val (.long q1), .second, iv (((p3.toUInt32 >>> ((3 : Int32) &&& 31).toUInt32).toInt32) &&& (3 : Int32)), rv b102, .unset, .unset] [.int 1, .int (((p3.toUInt32 >>> ((3 : Int32) &&& 31).toUInt32).toInt32) &&& (3 : Int32))])
          by_cases hc109 : (((p3.toUInt32 >>> ((3 : Int32) &&& 31).toUInt32).toInt32) &&& (3 : Int32)) = (1 : Int32)
          · refine own_st (fun t k => XS.icmpNo X108.here hx rfl (hb hby at_77) rfl (teq hc109).2 k) ?_
            show own_E p e below _ T108 (mkF m 80 #[.val (.long q1), .second, .val (.long q2), .second, iv p3, iv 0, iv 0, .val (.long q1), .second, iv (((p3.toUInt32 >>> ((3 : Int32) &&& 31).toUInt32).toInt32) &&& (3 : Int32)), rv b102, .unset, .unset] [])
            refine own_st (fun t k => XS.aload X108.here hx rfl (hb hby at_80) rfl rfl k) ?_
            show own_E p e below _ T108 (mkF m 82 #[.val (.long q1), .second, .val (.long q2), .second, iv p3, iv 0, iv 0, .val (.long q1), .second, iv (((p3.toUInt32 >>> ((3 : Int32) &&& 31).toUInt32).toInt32) &&& (3 : Int32)), rv b102, .unset, .unset] [.ref b102])
            refine own_st (fun t k => XS.aconstNull X108.here hx rfl (hb hby at_82) k) ?_
            show own_E p e below _ T108 (mkF m 83 #[.val (.long q1), .second, .val (.long q2), .second, iv p3, iv 0, iv 0, .val (.long q1), .second, iv (((p3.toUInt32 >>> ((3 : Int32) &&& 31).toUInt32).toInt32) &&& (3 : Int32)), rv b102, .unset, .unset] [.null, .ref b102])
            obtain ⟨cq110, kq110, q110a, q110b, q110c⟩ := isOf hZ e108 P105_0
            obtain ⟨_, _, ⟨T110, L110, k110, n110⟩, -, X110, ⟨Lc110, hQ110, l110, y110, z110⟩, st110⟩ := X108.virtualBack hx (y := own_y4) (z := own_y4) hown (mvT hZ (own_w hw 13 rfl)) (mvT hZ (own_w hw 14 rfl)) (notFace_of_selects (args := #[]) (mvT hZ (own_w hw 16 rfl))) (mvT hZ (own_w hw 16 rfl)) (mvT hZ (own_w hw 15 rfl)) (by decide) (backOf (W := 0) (own_eqN l Z a0 hw [] b102 T105.heap n0 Z106 ) hZ (own_w hw 17 rfl) (own_w hw 2 rfl) (by decide) (by decide)) q110a q110c (g := (mkF m 83 #[.val (.long q1), .second, .val (.long q2), .second, iv p3, iv 0, iv 0, .val (.long q1), .second, iv (((p3.toUInt32 >>> ((3 : Int32) &&& 31).toUInt32).toInt32) &&& (3 : Int32)), rv b102, .unset, .unset] [.null, .ref b102])) rfl (by rw [hml]; rfl) (Steps.refl _) (argsL := [.null]) (rest := []) (lenOf own_pd_5 rfl) rfl (by show 2 * 0 + _ ≤ _; exact Nat.le_of_eq rfl) (hb hby at_83) (fun _ _ => ⟨rfl, e108, (by decide : 1 + 0 ≤ _), (by decide : 2 + 0 ≤ _)⟩)
            dsimp only [Pt.U, Pt.locs, Pt.cells, Pt.slots] at X110 l110 y110 z110 st110 hQ110
            subst l110 y110 z110
            obtain ⟨hR110, e110, rfl⟩ := hQ110
            have N110 := Fr.app N108 (Fr.nil n0)
            obtain rfl := hR110
            refine own_tr st110 ?_
            show own_E p e below _ T110 (mkF m 86 #[.val (.long q1), .second, .val (.long q2), .second, iv p3, iv 0, iv 0, .val (.long q1), .second, iv (((p3.toUInt32 >>> ((3 : Int32) &&& 31).toUInt32).toInt32) &&& (3 : Int32)), rv b102, .unset, .unset] [.int 0])
            refine own_st (fun t k => XS.ifNo X110.here hx rfl (hb hby at_86) rfl (by decide) k) ?_
            show own_E p e below _ T110 (mkF m 89 #[.val (.long q1), .second, .val (.long q2), .second, iv p3, iv 0, iv 0, .val (.long q1), .second, iv (((p3.toUInt32 >>> ((3 : Int32) &&& 31).toUInt32).toInt32) &&& (3 : Int32)), rv b102, .unset, .unset] [])
            refine own_st (fun t k => XS.iconst X110.here hx rfl (hb hby at_89) k) ?_
            show own_E p e below _ T110 (mkF m 90 #[.val (.long q1), .second, .val (.long q2), .second, iv p3, iv 0, iv 0, .val (.long q1), .second, iv (((p3.toUInt32 >>> ((3 : Int32) &&& 31).toUInt32).toInt32) &&& (3 : Int32)), rv b102, .unset, .unset] [.int 1])
            refine own_st (fun t k => XS.goto X110.here hx rfl (pc0 := 90) (pc' := 94) rfl (hb hby at_90) (by decide) (by decide) k) ?_
            show own_E p e below _ T110 (mkF m 94 #[.val (.long q1), .second, .val (.long q2), .second, iv p3, iv 0, iv 0, .val (.long q1), .second, iv (((p3.toUInt32 >>> ((3 : Int32) &&& 31).toUInt32).toInt32) &&& (3 : Int32)), rv b102, .unset, .unset] [.int 1])
            refine own_retS X110 hx Bd.notSynchronized Bd.returns rfl (by decide) (hb hby at_94) (by decide) (by decide) ?_
            exact ⟨rfl, N110⟩
          · refine own_st (fun t k => XS.icmpYes X108.here hx rfl (pc0 := 77) (pc' := 95) rfl (hb hby at_77) rfl (feq hc109).2 (by decide) (by decide) k) ?_
            show own_E p e below _ T108 (mkF m 95 #[.val (.long q1), .second, .val (.long q2), .second, iv p3, iv 0, iv 0, .val (.long q1), .second, iv (((p3.toUInt32 >>> ((3 : Int32) &&& 31).toUInt32).toInt32) &&& (3 : Int32)), rv b102, .unset, .unset] [])
            refine own_st (fun t k => XS.iload X108.here hx rfl (hb hby at_95) rfl k) ?_
            show own_E p e below _ T108 (mkF m 97 #[.val (.long q1), .second, .val (.long q2), .second, iv p3, iv 0, iv 0, .val (.long q1), .second, iv (((p3.toUInt32 >>> ((3 : Int32) &&& 31).toUInt32).toInt32) &&& (3 : Int32)), rv b102, .unset, .unset] [.int (((p3.toUInt32 >>> ((3 : Int32) &&& 31).toUInt32).toInt32) &&& (3 : Int32))])
            refine own_st (fun t k => XS.iconst X108.here hx rfl (hb hby at_97) k) ?_
            show own_E p e below _ T108 (mkF m 98 #[.val (.long q1), .second, .val (.long q2), .second, iv p3, iv 0, iv 0, .val (.long q1), .second, iv (((p3.toUInt32 >>> ((3 : Int32) &&& 31).toUInt32).toInt32) &&& (3 : Int32)), rv b102, .unset, .unset] [.int 2, .int (((p3.toUInt32 >>> ((3 : Int32) &&& 31).toUInt32).toInt32) &&& (3 : Int32))])
            by_cases hc111 : (((p3.toUInt32 >>> ((3 : Int32) &&& 31).toUInt32).toInt32) &&& (3 : Int32)) = (2 : Int32)
            · refine own_st (fun t k => XS.icmpNo X108.here hx rfl (hb hby at_98) rfl (teq hc111).2 k) ?_
              show own_E p e below _ T108 (mkF m 101 #[.val (.long q1), .second, .val (.long q2), .second, iv p3, iv 0, iv 0, .val (.long q1), .second, iv (((p3.toUInt32 >>> ((3 : Int32) &&& 31).toUInt32).toInt32) &&& (3 : Int32)), rv b102, .unset, .unset] [])
              refine own_st (fun t k => XS.lloadN X108.here hx rfl (hb hby at_101) rfl k) ?_
              show own_E p e below _ T108 (mkF m 102 #[.val (.long q1), .second, .val (.long q2), .second, iv p3, iv 0, iv 0, .val (.long q1), .second, iv (((p3.toUInt32 >>> ((3 : Int32) &&& 31).toUInt32).toInt32) &&& (3 : Int32)), rv b102, .unset, .unset] [.long q1])
              obtain ⟨_, _, ⟨T112, L112, k112, n112⟩, -, X112, ⟨Lc112, hQ112, l112, y112, z112⟩, st112⟩ := Jvm.LawKit.callS X108 hx (y := own_y2) hown (mvT hZ (own_w hw 20 rfl)) (mvT hZ (own_w hw 21 rfl)) (mvT hZ (own_w hw 22 rfl)) (mvT hZ (own_w hw 23 rfl)) (by decide) (backOf (W := 0) (own_lval l Z a0 hw [] q1 T105.heap n0 Z106 (own_cache_keep hC K107)) hZ (own_w hw 23 rfl) (own_w hw 22 rfl) (by decide) (by decide)) (g := (mkF m 102 #[.val (.long q1), .second, .val (.long q2), .second, iv p3, iv 0, iv 0, .val (.long q1), .second, iv (((p3.toUInt32 >>> ((3 : Int32) &&& 31).toUInt32).toInt32) &&& (3 : Int32)), rv b102, .unset, .unset] [.long q1])) rfl (by rw [hml]; rfl) (argsL := [(.long q1)]) (rest := []) (lenOf own_pd_1 rfl) rfl (by show 2 * 0 + _ ≤ _; exact Nat.le_of_eq rfl) (hb hby at_102) (fun _ _ => ⟨rfl, e108, (by decide : 1 + 1 ≤ _), (by decide : 2 + 1 ≤ _)⟩)
              dsimp only [Pt.U, Pt.locs, Pt.cells, Pt.slots] at X112 l112 y112 z112 st112 hQ112
              subst l112 y112 z112
              obtain ⟨b112_o, rfl, Nq112, Kq112, P112⟩ := hQ112
              have N112 := Fr.app N108 Nq112
              have e112 : T112.heap = T112.heap := rfl
              have Z113 := Nat.le_trans Z106 Kq112.1
              have K114 : Keep h0 _ [] := K107.trans Kq112 all0
              refine own_st st112 ?_
              show own_E p e below _ T112 (mkF m 105 #[.val (.long q1), .second, .val (.long q2), .second, iv p3, iv 0, iv 0, .val (.long q1), .second, iv (((p3.toUInt32 >>> ((3 : Int32) &&& 31).toUInt32).toInt32) &&& (3 : Int32)), rv b102, .unset, .unset] [.ref b112_o])
              refine own_st (fun t k => XS.astore X112.here hx rfl (hb hby at_105) rfl rfl (l' := #[.val (.long q1), .second, .val (.long q2), .second, iv p3, iv 0, iv 0, .val (.long q1), .second, iv (((p3.toUInt32 >>> ((3 : Int32) &&& 31).toUInt32).toInt32) &&& (3 : Int32)), rv b102, rv b112_o, .unset]) rfl k) ?_
              show own_E p e below _ T112 (mkF m 107 #[.val (.long q1), .second, .val (.long q2), .second, iv p3, iv 0, iv 0, .val (.long q1), .second, iv (((p3.toUInt32 >>> ((3 : Int32) &&& 31).toUInt32).toInt32) &&& (3 : Int32)), rv b102, rv b112_o, .unset] [])
              refine own_st (fun t k => XS.aload X112.here hx rfl (hb hby at_107) rfl rfl k) ?_
              show own_E p e below _ T112 (mkF m 109 #[.val (.long q1), .second, .val (.long q2), .second, iv p3, iv 0, iv 0, .val (.long q1), .second, iv (((p3.toUInt32 >>> ((3 : Int32) &&& 31).toUInt32).toInt32) &&& (3 : Int32)), rv b102, rv b112_o, .unset] [.ref b102])
              refine own_st (fun t k => XS.aload X112.here hx rfl (hb hby at_109) rfl rfl k) ?_
              show own_E p e below _ T112 (mkF m 111 #[.val (.long q1), .second, .val (.long q2), .second, iv p3, iv 0, iv 0, .val (.long q1), .second, iv (((p3.toUInt32 >>> ((3 : Int32) &&& 31).toUInt32).toInt32) &&& (3 : Int32)), rv b102, rv b112_o, .unset] [.ref b112_o, .ref b102])
              have B116 := (P105_0.keep Kq112)
              obtain ⟨cq115, kq115, q115a, q115b, q115c⟩ := isOf hZ e112 B116
              obtain ⟨_, _, ⟨T115, L115, k115, n115⟩, -, X115, ⟨Lc115, hQ115, l115, y115, z115⟩, st115⟩ := X112.virtualBack hx (y := own_y4) (z := own_y4) hown (mvT hZ (own_w hw 13 rfl)) (mvT hZ (own_w hw 14 rfl)) (notFace_of_selects (args := #[]) (mvT hZ (own_w hw 16 rfl))) (mvT hZ (own_w hw 16 rfl)) (mvT hZ (own_w hw 15 rfl)) (by decide) (backOf (W := 0) (own_eqL l Z a0 hw [] b102 b112_o T112.heap n0 Z113 P112) hZ (own_w hw 17 rfl) (own_w hw 2 rfl) (by decide) (by decide)) q115a q115c (g := (mkF m 111 #[.val (.long q1), .second, .val (.long q2), .second, iv p3, iv 0, iv 0, .val (.long q1), .second, iv (((p3.toUInt32 >>> ((3 : Int32) &&& 31).toUInt32).toInt32) &&& (3 : Int32)), rv b102, rv b112_o, .unset] [.ref b112_o, .ref b102])) rfl (by rw [hml]; rfl) (Steps.refl _) (argsL := [(.ref b112_o)]) (rest := []) (lenOf own_pd_5 rfl) rfl (by show 2 * 0 + _ ≤ _; exact Nat.le_of_eq rfl) (hb hby at_111) (fun _ _ => ⟨rfl, e112, (by decide : 2 + 0 ≤ _), (by decide : 3 + 0 ≤ _)⟩)
              dsimp only [Pt.U, Pt.locs, Pt.cells, Pt.slots] at X115 l115 y115 z115 st115 hQ115
              subst l115 y115 z115
              obtain ⟨hR115, e115, rfl⟩ := hQ115
              have N115 := Fr.app N112 (Fr.nil n0)
              obtain rfl := hR115
              refine own_tr st115 ?_
              show own_E p e below _ T115 (mkF m 114 #[.val (.long q1), .second, .val (.long q2), .second, iv p3, iv 0, iv 0, .val (.long q1), .second, iv (((p3.toUInt32 >>> ((3 : Int32) &&& 31).toUInt32).toInt32) &&& (3 : Int32)), rv b102, rv b112_o, .unset] [.int 0])
              refine own_st (fun t k => XS.ifNo X115.here hx rfl (hb hby at_114) rfl (by decide) k) ?_
              show own_E p e below _ T115 (mkF m 117 #[.val (.long q1), .second, .val (.long q2), .second, iv p3, iv 0, iv 0, .val (.long q1), .second, iv (((p3.toUInt32 >>> ((3 : Int32) &&& 31).toUInt32).toInt32) &&& (3 : Int32)), rv b102, rv b112_o, .unset] [])
              refine own_st (fun t k => XS.iconst X115.here hx rfl (hb hby at_117) k) ?_
              show own_E p e below _ T115 (mkF m 118 #[.val (.long q1), .second, .val (.long q2), .second, iv p3, iv 0, iv 0, .val (.long q1), .second, iv (((p3.toUInt32 >>> ((3 : Int32) &&& 31).toUInt32).toInt32) &&& (3 : Int32)), rv b102, rv b112_o, .unset] [.int 1])
              refine own_st (fun t k => XS.goto X115.here hx rfl (pc0 := 118) (pc' := 122) rfl (hb hby at_118) (by decide) (by decide) k) ?_
              show own_E p e below _ T115 (mkF m 122 #[.val (.long q1), .second, .val (.long q2), .second, iv p3, iv 0, iv 0, .val (.long q1), .second, iv (((p3.toUInt32 >>> ((3 : Int32) &&& 31).toUInt32).toInt32) &&& (3 : Int32)), rv b102, rv b112_o, .unset] [.int 1])
              refine own_retS X115 hx Bd.notSynchronized Bd.returns rfl (by decide) (hb hby at_122) (by decide) (by decide) ?_
              exact ⟨rfl, N115⟩
            · refine own_st (fun t k => XS.icmpYes X108.here hx rfl (pc0 := 98) (pc' := 123) rfl (hb hby at_98) rfl (feq hc111).2 (by decide) (by decide) k) ?_
              show own_E p e below _ T108 (mkF m 123 #[.val (.long q1), .second, .val (.long q2), .second, iv p3, iv 0, iv 0, .val (.long q1), .second, iv (((p3.toUInt32 >>> ((3 : Int32) &&& 31).toUInt32).toInt32) &&& (3 : Int32)), rv b102, .unset, .unset] [])
              obtain ⟨T117, h117, X117, e117, E117, A117, D117, -, st117⟩ := newO X108 hx hZ hown (own_w hw 0 rfl) (own_w hw 1 rfl) (own_w hw 2 rfl) e108 (g := (mkF m 123 #[.val (.long q1), .second, .val (.long q2), .second, iv p3, iv 0, iv 0, .val (.long q1), .second, iv (((p3.toUInt32 >>> ((3 : Int32) &&& 31).toUInt32).toInt32) &&& (3 : Int32)), rv b102, .unset, .unset] [])) rfl (hb hby at_123) (by decide) (by decide)
              obtain ⟨b117, g117⟩ : ∃ z, z = T105.heap.size := ⟨_, rfl⟩
              rw [← g117] at A117 D117 st117
              have ne_b102_b117 : b102 ≠ b117 := Nat.ne_of_lt (Nat.lt_of_lt_of_le P105_0.lt (Nat.le_of_eq g117.symm))
              have g_b117 : n0 ≤ b117 := Nat.le_trans Z106 (Nat.le_of_eq g117.symm)
              have sz_b117 : h0.size ≤ b117 := Nat.le_trans K107.1 (Nat.le_of_eq g117.symm)
              have Z118 := Nat.le_trans Z106 E117.1
              have K119 : Keep h0 _ [] := K107.ext E117
              have F_count_b117 : Fld Z h117 b117 "com/example/tight_fence/tightfence/engine/TemporalValue" "count" "J" (.long (0 : Int64)) := D117 (Or.inr (own_w hw 10 rfl)) (ty := .long) (by decide)
              have F_fromClock_b117 : Fld Z h117 b117 "com/example/tight_fence/tightfence/engine/TemporalValue" "fromClock" "Z" (.int (0 : Int32)) := D117 (Or.inr (own_w hw 12 rfl)) (ty := .boolean) (by decide)
              refine own_st st117 ?_
              show own_E p e below _ T117 (mkF m 126 #[.val (.long q1), .second, .val (.long q2), .second, iv p3, iv 0, iv 0, .val (.long q1), .second, iv (((p3.toUInt32 >>> ((3 : Int32) &&& 31).toUInt32).toInt32) &&& (3 : Int32)), rv b102, .unset, .unset] [.ref b117])
              refine own_st (fun t k => XS.dup X117.here hx rfl (hb hby at_126) rfl rfl k) ?_
              show own_E p e below _ T117 (mkF m 127 #[.val (.long q1), .second, .val (.long q2), .second, iv p3, iv 0, iv 0, .val (.long q1), .second, iv (((p3.toUInt32 >>> ((3 : Int32) &&& 31).toUInt32).toInt32) &&& (3 : Int32)), rv b102, .unset, .unset] [.ref b117, .ref b117])
              refine own_st (fun t k => XS.lload X117.here hx rfl (hb hby at_127) rfl k) ?_
              show own_E p e below _ T117 (mkF m 129 #[.val (.long q1), .second, .val (.long q2), .second, iv p3, iv 0, iv 0, .val (.long q1), .second, iv (((p3.toUInt32 >>> ((3 : Int32) &&& 31).toUInt32).toInt32) &&& (3 : Int32)), rv b102, .unset, .unset] [.long q1, .ref b117, .ref b117])
              refine own_st (fun t k => XS.iload X117.here hx rfl (hb hby at_129) rfl k) ?_
              show own_E p e below _ T117 (mkF m 131 #[.val (.long q1), .second, .val (.long q2), .second, iv p3, iv 0, iv 0, .val (.long q1), .second, iv (((p3.toUInt32 >>> ((3 : Int32) &&& 31).toUInt32).toInt32) &&& (3 : Int32)), rv b102, .unset, .unset] [.int 0, .long q1, .ref b117, .ref b117])
              obtain ⟨_, _, ⟨T120, L120, k120, n120⟩, -, X120, ⟨Lc120, hQ120, l120, y120, z120⟩, st120⟩ := X117.specialBack hx (y := own_y3) rfl hown (mvT hZ (own_w hw 3 rfl)) (mvT hZ (own_w hw 4 rfl)) (mvT hZ (own_w hw 5 rfl)) (by decide) (backOf (W := 1) (own_init0 l Z a0 hw [] b117 q1 h117 n0 Z118 A117 F_count_b117 F_fromClock_b117 g_b117) hZ (own_w hw 5 rfl) (own_w hw 2 rfl) (by decide) (by decide)) (g := (mkF m 131 #[.val (.long q1), .second, .val (.long q2), .second, iv p3, iv 0, iv 0, .val (.long q1), .second, iv (((p3.toUInt32 >>> ((3 : Int32) &&& 31).toUInt32).toInt32) &&& (3 : Int32)), rv b102, .unset, .unset] [.int 0, .long q1, .ref b117, .ref b117])) rfl (by rw [hml]; rfl) (Steps.refl _) (a := b117) (argsL := [(.long q1), (.int (0 : Int32))]) (rest := [(.ref b117)]) (lenOf own_pd_4 rfl) rfl (by show 2 * 0 + _ ≤ _; exact Nat.le_of_eq rfl) (hb hby at_131) (fun _ _ => ⟨rfl, e117, (by decide : 2 + 0 ≤ _), (by decide : 4 + 0 ≤ _)⟩)
              dsimp only [Pt.U, Pt.locs, Pt.cells, Pt.slots] at X120 l120 y120 z120 st120 hQ120
              subst l120 y120 z120
              obtain ⟨rfl, Nq120, Kq120, P120_0, P120_1⟩ := hQ120
              have N120 := Fr.app N108 Nq120
              have e120 : T120.heap = T120.heap := rfl
              have Z121 := Nat.le_trans Z118 Kq120.1
              have K122 : Keep h0 _ [] := K119.trans Kq120 (allS (P := fun x => x ∈ [] ∨ h0.size ≤ x) (Or.inr sz_b117) all0)
              refine own_tr st120 ?_
              show own_E p e below _ T120 (mkF m 134 #[.val (.long q1), .second, .val (.long q2), .second, iv p3, iv 0, iv 0, .val (.long q1), .second, iv (((p3.toUInt32 >>> ((3 : Int32) &&& 31).toUInt32).toInt32) &&& (3 : Int32)), rv b102, .unset, .unset] [.ref b117])
              refine own_st (fun t k => XS.astore X120.here hx rfl (hb hby at_134) rfl rfl (l' := #[.val (.long q1), .second, .val (.long q2), .second, iv p3, iv 0, iv 0, .val (.long q1), .second, iv (((p3.toUInt32 >>> ((3 : Int32) &&& 31).toUInt32).toInt32) &&& (3 : Int32)), rv b102, rv b117, .unset]) rfl k) ?_
              show own_E p e below _ T120 (mkF m 136 #[.val (.long q1), .second, .val (.long q2), .second, iv p3, iv 0, iv 0, .val (.long q1), .second, iv (((p3.toUInt32 >>> ((3 : Int32) &&& 31).toUInt32).toInt32) &&& (3 : Int32)), rv b102, rv b117, .unset] [])
              refine own_st (fun t k => XS.lloadN X120.here hx rfl (hb hby at_136) rfl k) ?_
              show own_E p e below _ T120 (mkF m 137 #[.val (.long q1), .second, .val (.long q2), .second, iv p3, iv 0, iv 0, .val (.long q1), .second, iv (((p3.toUInt32 >>> ((3 : Int32) &&& 31).toUInt32).toInt32) &&& (3 : Int32)), rv b102, rv b117, .unset] [.long q1])
              refine own_st (fun t k => XS.lload X120.here hx rfl (hb hby at_137) rfl k) ?_
              show own_E p e below _ T120 (mkF m 139 #[.val (.long q1), .second, .val (.long q2), .second, iv p3, iv 0, iv 0, .val (.long q1), .second, iv (((p3.toUInt32 >>> ((3 : Int32) &&& 31).toUInt32).toInt32) &&& (3 : Int32)), rv b102, rv b117, .unset] [.long q1, .long q1])
              refine own_st (fun t k => XS.lcmp X120.here hx rfl (hb hby at_139) rfl k) ?_
              show own_E p e below _ T120 (mkF m 140 #[.val (.long q1), .second, .val (.long q2), .second, iv p3, iv 0, iv 0, .val (.long q1), .second, iv (((p3.toUInt32 >>> ((3 : Int32) &&& 31).toUInt32).toInt32) &&& (3 : Int32)), rv b102, rv b117, .unset] [.int (lcmpW q1 q1)])
              refine own_st (fun t k => XS.ifNo X120.here hx rfl (hb hby at_140) rfl ((if0 _ _).trans (teq ((lw_eq _ _).mpr ha108_0)).2) k) ?_
              show own_E p e below _ T120 (mkF m 143 #[.val (.long q1), .second, .val (.long q2), .second, iv p3, iv 0, iv 0, .val (.long q1), .second, iv (((p3.toUInt32 >>> ((3 : Int32) &&& 31).toUInt32).toInt32) &&& (3 : Int32)), rv b102, rv b117, .unset] [])
              refine own_st (fun t k => XS.iconst X120.here hx rfl (hb hby at_143) k) ?_
              show own_E p e below _ T120 (mkF m 144 #[.val (.long q1), .second, .val (.long q2), .second, iv p3, iv 0, iv 0, .val (.long q1), .second, iv (((p3.toUInt32 >>> ((3 : Int32) &&& 31).toUInt32).toInt32) &&& (3 : Int32)), rv b102, rv b117, .unset] [.int 1])
              refine own_st (fun t k => XS.goto X120.here hx rfl (pc0 := 144) (pc' := 148) rfl (hb hby at_144) (by decide) (by decide) k) ?_
              show own_E p e below _ T120 (mkF m 148 #[.val (.long q1), .second, .val (.long q2), .second, iv p3, iv 0, iv 0, .val (.long q1), .second, iv (((p3.toUInt32 >>> ((3 : Int32) &&& 31).toUInt32).toInt32) &&& (3 : Int32)), rv b102, rv b117, .unset] [.int 1])
              refine own_st (fun t k => XS.istore X120.here hx rfl (hb hby at_148) rfl (l' := #[.val (.long q1), .second, .val (.long q2), .second, iv p3, iv 0, iv 0, .val (.long q1), .second, iv (((p3.toUInt32 >>> ((3 : Int32) &&& 31).toUInt32).toInt32) &&& (3 : Int32)), rv b102, rv b117, iv 1]) rfl k) ?_
              show own_E p e below _ T120 (mkF m 150 #[.val (.long q1), .second, .val (.long q2), .second, iv p3, iv 0, iv 0, .val (.long q1), .second, iv (((p3.toUInt32 >>> ((3 : Int32) &&& 31).toUInt32).toInt32) &&& (3 : Int32)), rv b102, rv b117, iv 1] [])
              refine own_st (fun t k => XS.aload X120.here hx rfl (hb hby at_150) rfl rfl k) ?_
              show own_E p e below _ T120 (mkF m 152 #[.val (.long q1), .second, .val (.long q2), .second, iv p3, iv 0, iv 0, .val (.long q1), .second, iv (((p3.toUInt32 >>> ((3 : Int32) &&& 31).toUInt32).toInt32) &&& (3 : Int32)), rv b102, rv b117, iv 1] [.ref b102])
              refine own_st (fun t k => XS.aload X120.here hx rfl (hb hby at_152) rfl rfl k) ?_
              show own_E p e below _ T120 (mkF m 154 #[.val (.long q1), .second, .val (.long q2), .second, iv p3, iv 0, iv 0, .val (.long q1), .second, iv (((p3.toUInt32 >>> ((3 : Int32) &&& 31).toUInt32).toInt32) &&& (3 : Int32)), rv b102, rv b117, iv 1] [.ref b117, .ref b102])
              have B123 := ((P105_1.ext E117).keep Kq120 (ninS ne_b102_b117 nin0))
              have B125 := ((P105_0.ext E117).keep Kq120)
              obtain ⟨cq124, kq124, q124a, q124b, q124c⟩ := isOf hZ e120 B125
              obtain ⟨_, _, ⟨T124, L124, k124, n124⟩, -, X124, ⟨Lc124, hQ124, l124, y124, z124⟩, st124⟩ := X120.virtualBack hx (y := own_y4) (z := own_y4) hown (mvT hZ (own_w hw 13 rfl)) (mvT hZ (own_w hw 14 rfl)) (notFace_of_selects (args := #[]) (mvT hZ (own_w hw 16 rfl))) (mvT hZ (own_w hw 16 rfl)) (mvT hZ (own_w hw 15 rfl)) (by decide) (backOf (W := 0) (own_eqT l Z a0 hw [] b102 b117 q1 q1 T120.heap n0 Z121 P120_0 B123 P120_1) hZ (own_w hw 17 rfl) (own_w hw 2 rfl) (by decide) (by decide)) q124a q124c (g := (mkF m 154 #[.val (.long q1), .second, .val (.long q2), .second, iv p3, iv 0, iv 0, .val (.long q1), .second, iv (((p3.toUInt32 >>> ((3 : Int32) &&& 31).toUInt32).toInt32) &&& (3 : Int32)), rv b102, rv b117, iv 1] [.ref b117, .ref b102])) rfl (by rw [hml]; rfl) (Steps.refl _) (argsL := [(.ref b117)]) (rest := []) (lenOf own_pd_5 rfl) rfl (by show 2 * 0 + _ ≤ _; exact Nat.le_of_eq rfl) (hb hby at_154) (fun _ _ => ⟨rfl, e120, (by decide : 2 + 0 ≤ _), (by decide : 4 + 0 ≤ _)⟩)
              dsimp only [Pt.U, Pt.locs, Pt.cells, Pt.slots] at X124 l124 y124 z124 st124 hQ124
              subst l124 y124 z124
              obtain ⟨hR124, e124, rfl⟩ := hQ124
              have N124 := Fr.app N120 (Fr.nil n0)
              rcases hR124 with ⟨rfl, ha124_0⟩ | ⟨rfl, ha124_0⟩
              · refine own_tr st124 ?_
                show own_E p e below _ T124 (mkF m 157 #[.val (.long q1), .second, .val (.long q2), .second, iv p3, iv 0, iv 0, .val (.long q1), .second, iv (((p3.toUInt32 >>> ((3 : Int32) &&& 31).toUInt32).toInt32) &&& (3 : Int32)), rv b102, rv b117, iv 1] [.int 1])
                refine own_st (fun t k => XS.iload X124.here hx rfl (hb hby at_157) rfl k) ?_
                show own_E p e below _ T124 (mkF m 159 #[.val (.long q1), .second, .val (.long q2), .second, iv p3, iv 0, iv 0, .val (.long q1), .second, iv (((p3.toUInt32 >>> ((3 : Int32) &&& 31).toUInt32).toInt32) &&& (3 : Int32)), rv b102, rv b117, iv 1] [.int 1, .int 1])
                refine own_st (fun t k => XS.icmpYes X124.here hx rfl (pc0 := 159) (pc' := 164) rfl (hb hby at_159) rfl (by decide) (by decide) (by decide) k) ?_
                show own_E p e below _ T124 (mkF m 164 #[.val (.long q1), .second, .val (.long q2), .second, iv p3, iv 0, iv 0, .val (.long q1), .second, iv (((p3.toUInt32 >>> ((3 : Int32) &&& 31).toUInt32).toInt32) &&& (3 : Int32)), rv b102, rv b117, iv 1] [])
                refine own_st (fun t k => XS.aload X124.here hx rfl (hb hby at_164) rfl rfl k) ?_
                show own_E p e below _ T124 (mkF m 166 #[.val (.long q1), .second, .val (.long q2), .second, iv p3, iv 0, iv 0, .val (.long q1), .second, iv (((p3.toUInt32 >>> ((3 : Int32) &&& 31).toUInt32).toInt32) &&& (3 : Int32)), rv b102, rv b117, iv 1] [.ref b117])
                refine own_st (fun t k => XS.aload X124.here hx rfl (hb hby at_166) rfl rfl k) ?_
                show own_E p e below _ T124 (mkF m 168 #[.val (.long q1), .second, .val (.long q2), .second, iv p3, iv 0, iv 0, .val (.long q1), .second, iv (((p3.toUInt32 >>> ((3 : Int32) &&& 31).toUInt32).toInt32) &&& (3 : Int32)), rv b102, rv b117, iv 1] [.ref b102, .ref b117])
                obtain ⟨cq126, kq126, q126a, q126b, q126c⟩ := isOf hZ e124 P120_0
                obtain ⟨_, _, ⟨T126, L126, k126, n126⟩, -, X126, ⟨Lc126, hQ126, l126, y126, z126⟩, st126⟩ := X124.virtualBack hx (y := own_y4) (z := own_y4) hown (mvT hZ (own_w hw 13 rfl)) (mvT hZ (own_w hw 14 rfl)) (notFace_of_selects (args := #[]) (mvT hZ (own_w hw 16 rfl))) (mvT hZ (own_w hw 16 rfl)) (mvT hZ (own_w hw 15 rfl)) (by decide) (backOf (W := 0) (own_eqT l Z a0 hw [] b117 b102 q1 q1 T120.heap n0 Z121 B125 P120_1 B123) hZ (own_w hw 17 rfl) (own_w hw 2 rfl) (by decide) (by decide)) q126a q126c (g := (mkF m 168 #[.val (.long q1), .second, .val (.long q2), .second, iv p3, iv 0, iv 0, .val (.long q1), .second, iv (((p3.toUInt32 >>> ((3 : Int32) &&& 31).toUInt32).toInt32) &&& (3 : Int32)), rv b102, rv b117, iv 1] [.ref b102, .ref b117])) rfl (by rw [hml]; rfl) (Steps.refl _) (argsL := [(.ref b102)]) (rest := []) (lenOf own_pd_5 rfl) rfl (by show 2 * 0 + _ ≤ _; exact Nat.le_of_eq rfl) (hb hby at_168) (fun _ _ => ⟨rfl, e124, (by decide : 2 + 0 ≤ _), (by decide : 4 + 0 ≤ _)⟩)
                dsimp only [Pt.U, Pt.locs, Pt.cells, Pt.slots] at X126 l126 y126 z126 st126 hQ126
                subst l126 y126 z126
                obtain ⟨hR126, e126, rfl⟩ := hQ126
                have N126 := Fr.app N124 (Fr.nil n0)
                rcases hR126 with ⟨rfl, ha126_0⟩ | ⟨rfl, ha126_0⟩
                · refine own_tr st126 ?_
                  show own_E p e below _ T126 (mkF m 171 #[.val (.long q1), .second, .val (.long q2), .second, iv p3, iv 0, iv 0, .val (.long q1), .second, iv (((p3.toUInt32 >>> ((3 : Int32) &&& 31).toUInt32).toInt32) &&& (3 : Int32)), rv b102, rv b117, iv 1] [.int 1])
                  refine own_st (fun t k => XS.iload X126.here hx rfl (hb hby at_171) rfl k) ?_
                  show own_E p e below _ T126 (mkF m 173 #[.val (.long q1), .second, .val (.long q2), .second, iv p3, iv 0, iv 0, .val (.long q1), .second, iv (((p3.toUInt32 >>> ((3 : Int32) &&& 31).toUInt32).toInt32) &&& (3 : Int32)), rv b102, rv b117, iv 1] [.int 1, .int 1])
                  refine own_st (fun t k => XS.icmpNo X126.here hx rfl (hb hby at_173) rfl (by decide) k) ?_
                  show own_E p e below _ T126 (mkF m 176 #[.val (.long q1), .second, .val (.long q2), .second, iv p3, iv 0, iv 0, .val (.long q1), .second, iv (((p3.toUInt32 >>> ((3 : Int32) &&& 31).toUInt32).toInt32) &&& (3 : Int32)), rv b102, rv b117, iv 1] [])
                  refine own_st (fun t k => XS.iconst X126.here hx rfl (hb hby at_176) k) ?_
                  show own_E p e below _ T126 (mkF m 177 #[.val (.long q1), .second, .val (.long q2), .second, iv p3, iv 0, iv 0, .val (.long q1), .second, iv (((p3.toUInt32 >>> ((3 : Int32) &&& 31).toUInt32).toInt32) &&& (3 : Int32)), rv b102, rv b117, iv 1] [.int 1])
                  refine own_st (fun t k => XS.goto X126.here hx rfl (pc0 := 177) (pc' := 181) rfl (hb hby at_177) (by decide) (by decide) k) ?_
                  show own_E p e below _ T126 (mkF m 181 #[.val (.long q1), .second, .val (.long q2), .second, iv p3, iv 0, iv 0, .val (.long q1), .second, iv (((p3.toUInt32 >>> ((3 : Int32) &&& 31).toUInt32).toInt32) &&& (3 : Int32)), rv b102, rv b117, iv 1] [.int 1])
                  refine own_retS X126 hx Bd.notSynchronized Bd.returns rfl (by decide) (hb hby at_181) (by decide) (by decide) ?_
                  exact ⟨rfl, N126⟩
                · exact absurd ha108_0 ha126_0
              · exact absurd ha108_0 ha124_0
        · exfalso
          have f127 := rng32 p3
          have f128 : (1 : Int32).toInt = 1 := rfl
          have f129 := rng32 (p3 &&& (1 : Int32))
          have f130 : (p3 &&& (1 : Int32)).toInt = p3.toInt % 2 := c_mask p3 (1 : Int32) 1 (by decide) (by decide)
          have f131 : (0 : Int32).toInt = 0 := rfl
          have f132 : (2 : Int32).toInt = 2 := rfl
          have f133 := rng32 (p3 &&& (2 : Int32))
          have f134 := c_and p3 (2 : Int32) (by decide)
          have f135 : (4 : Int32).toInt = 4 := rfl
          have f136 := rng32 (p3 &&& (4 : Int32))
          have f137 := c_and p3 (4 : Int32) (by decide)
          have f138 := rng64 q1
          have g139 := hc1
          rw [← Int32.toInt_inj] at g139
          have g140 := hc2
          rw [← Int32.toInt_inj] at g140
          have g141 := hc3
          rw [← Int32.toInt_inj] at g141
          have g142 := ha108_0
          rw [← Int64.toInt_inj] at g142
          omega
    · refine own_st (fun t k => XS.ifNo X0.here hx rfl (hb hby at_18) rfl ((if0 _ _).trans (feq hc2).1) k) ?_
      show own_E p e below _ s₁ (mkF m 21 #[.val (.long q1), .second, .val (.long q2), .second, iv p3, iv 0, .unset, .unset, .unset, .unset, .unset, .unset, .unset] [])
      refine own_st (fun t k => XS.iconst X0.here hx rfl (hb hby at_21) k) ?_
      show own_E p e below _ s₁ (mkF m 22 #[.val (.long q1), .second, .val (.long q2), .second, iv p3, iv 0, .unset, .unset, .unset, .unset, .unset, .unset, .unset] [.int 1])
      refine own_st (fun t k => XS.goto X0.here hx rfl (pc0 := 22) (pc' := 26) rfl (hb hby at_22) (by decide) (by decide) k) ?_
      show own_E p e below _ s₁ (mkF m 26 #[.val (.long q1), .second, .val (.long q2), .second, iv p3, iv 0, .unset, .unset, .unset, .unset, .unset, .unset, .unset] [.int 1])
      refine own_st (fun t k => XS.istore X0.here hx rfl (hb hby at_26) rfl (l' := #[.val (.long q1), .second, .val (.long q2), .second, iv p3, iv 0, iv 1, .unset, .unset, .unset, .unset, .unset, .unset]) rfl k) ?_
      show own_E p e below _ s₁ (mkF m 28 #[.val (.long q1), .second, .val (.long q2), .second, iv p3, iv 0, iv 1, .unset, .unset, .unset, .unset, .unset, .unset] [])
      refine own_st (fun t k => XS.iload X0.here hx rfl (hb hby at_28) rfl k) ?_
      show own_E p e below _ s₁ (mkF m 30 #[.val (.long q1), .second, .val (.long q2), .second, iv p3, iv 0, iv 1, .unset, .unset, .unset, .unset, .unset, .unset] [.int p3])
      refine own_st (fun t k => XS.iconst X0.here hx rfl (hb hby at_30) k) ?_
      show own_E p e below _ s₁ (mkF m 31 #[.val (.long q1), .second, .val (.long q2), .second, iv p3, iv 0, iv 1, .unset, .unset, .unset, .unset, .unset, .unset] [.int 4, .int p3])
      refine own_st (fun t k => XS.iand X0.here hx rfl (hb hby at_31) rfl k) ?_
      show own_E p e below _ s₁ (mkF m 32 #[.val (.long q1), .second, .val (.long q2), .second, iv p3, iv 0, iv 1, .unset, .unset, .unset, .unset, .unset, .unset] [.int (p3 &&& (4 : Int32))])
      by_cases hc143 : (p3 &&& (4 : Int32)) = (0 : Int32)
      · refine own_st (fun t k => XS.ifYes X0.here hx rfl (pc0 := 32) (pc' := 39) rfl (hb hby at_32) rfl ((if0 _ _).trans (teq hc143).1) (by decide) (by decide) k) ?_
        show own_E p e below _ s₁ (mkF m 39 #[.val (.long q1), .second, .val (.long q2), .second, iv p3, iv 0, iv 1, .unset, .unset, .unset, .unset, .unset, .unset] [])
        refine own_st (fun t k => XS.lloadN X0.here hx rfl (hb hby at_39) rfl k) ?_
        show own_E p e below _ s₁ (mkF m 40 #[.val (.long q1), .second, .val (.long q2), .second, iv p3, iv 0, iv 1, .unset, .unset, .unset, .unset, .unset, .unset] [.long q2])
        refine own_st (fun t k => XS.lstore X0.here hx rfl (hb hby at_40) rfl (l' := #[.val (.long q1), .second, .val (.long q2), .second, iv p3, iv 0, iv 1, .val (.long q2), .second, .unset, .unset, .unset, .unset]) rfl k) ?_
        show own_E p e below _ s₁ (mkF m 42 #[.val (.long q1), .second, .val (.long q2), .second, iv p3, iv 0, iv 1, .val (.long q2), .second, .unset, .unset, .unset, .unset] [])
        refine own_st (fun t k => XS.iload X0.here hx rfl (hb hby at_42) rfl k) ?_
        show own_E p e below _ s₁ (mkF m 44 #[.val (.long q1), .second, .val (.long q2), .second, iv p3, iv 0, iv 1, .val (.long q2), .second, .unset, .unset, .unset, .unset] [.int p3])
        refine own_st (fun t k => XS.iconst X0.here hx rfl (hb hby at_44) k) ?_
        show own_E p e below _ s₁ (mkF m 45 #[.val (.long q1), .second, .val (.long q2), .second, iv p3, iv 0, iv 1, .val (.long q2), .second, .unset, .unset, .unset, .unset] [.int 3, .int p3])
        refine own_st (fun t k => XS.iushr X0.here hx rfl (hb hby at_45) rfl k) ?_
        show own_E p e below _ s₁ (mkF m 46 #[.val (.long q1), .second, .val (.long q2), .second, iv p3, iv 0, iv 1, .val (.long q2), .second, .unset, .unset, .unset, .unset] [.int ((p3.toUInt32 >>> ((3 : Int32) &&& 31).toUInt32).toInt32)])
        refine own_st (fun t k => XS.iconst X0.here hx rfl (hb hby at_46) k) ?_
        show own_E p e below _ s₁ (mkF m 47 #[.val (.long q1), .second, .val (.long q2), .second, iv p3, iv 0, iv 1, .val (.long q2), .second, .unset, .unset, .unset, .unset] [.int 3, .int ((p3.toUInt32 >>> ((3 : Int32) &&& 31).toUInt32).toInt32)])
        refine own_st (fun t k => XS.iand X0.here hx rfl (hb hby at_47) rfl k) ?_
        show own_E p e below _ s₁ (mkF m 48 #[.val (.long q1), .second, .val (.long q2), .second, iv p3, iv 0, iv 1, .val (.long q2), .second, .unset, .unset, .unset, .unset] [.int (((p3.toUInt32 >>> ((3 : Int32) &&& 31).toUInt32).toInt32) &&& (3 : Int32))])
        refine own_st (fun t k => XS.istore X0.here hx rfl (hb hby at_48) rfl (l' := #[.val (.long q1), .second, .val (.long q2), .second, iv p3, iv 0, iv 1, .val (.long q2), .second, iv (((p3.toUInt32 >>> ((3 : Int32) &&& 31).toUInt32).toInt32) &&& (3 : Int32)), .unset, .unset, .unset]) rfl k) ?_
        show own_E p e below _ s₁ (mkF m 50 #[.val (.long q1), .second, .val (.long q2), .second, iv p3, iv 0, iv 1, .val (.long q2), .second, iv (((p3.toUInt32 >>> ((3 : Int32) &&& 31).toUInt32).toInt32) &&& (3 : Int32)), .unset, .unset, .unset] [])
        obtain ⟨T144, h144, X144, e144, E144, A144, D144, -, st144⟩ := newO X0 hx hZ hown (own_w hw 0 rfl) (own_w hw 1 rfl) (own_w hw 2 rfl) e0 (g := (mkF m 50 #[.val (.long q1), .second, .val (.long q2), .second, iv p3, iv 0, iv 1, .val (.long q2), .second, iv (((p3.toUInt32 >>> ((3 : Int32) &&& 31).toUInt32).toInt32) &&& (3 : Int32)), .unset, .unset, .unset] [])) rfl (hb hby at_50) (by decide) (by decide)
        obtain ⟨b144, g144⟩ : ∃ z, z = h0.size := ⟨_, rfl⟩
        rw [← g144] at A144 D144 st144
        have g_b144 : n0 ≤ b144 := Nat.le_trans Z0 (Nat.le_of_eq g144.symm)
        have sz_b144 : h0.size ≤ b144 := Nat.le_trans (Keep.refl h0 []).1 (Nat.le_of_eq g144.symm)
        have Z145 := Nat.le_trans Z0 E144.1
        have K146 : Keep h0 _ [] := (Keep.refl h0 []).ext E144
        have F_count_b144 : Fld Z h144 b144 "com/example/tight_fence/tightfence/engine/TemporalValue" "count" "J" (.long (0 : Int64)) := D144 (Or.inr (own_w hw 10 rfl)) (ty := .long) (by decide)
        have F_fromClock_b144 : Fld Z h144 b144 "com/example/tight_fence/tightfence/engine/TemporalValue" "fromClock" "Z" (.int (0 : Int32)) := D144 (Or.inr (own_w hw 12 rfl)) (ty := .boolean) (by decide)
        refine own_st st144 ?_
        show own_E p e below _ T144 (mkF m 53 #[.val (.long q1), .second, .val (.long q2), .second, iv p3, iv 0, iv 1, .val (.long q2), .second, iv (((p3.toUInt32 >>> ((3 : Int32) &&& 31).toUInt32).toInt32) &&& (3 : Int32)), .unset, .unset, .unset] [.ref b144])
        refine own_st (fun t k => XS.dup X144.here hx rfl (hb hby at_53) rfl rfl k) ?_
        show own_E p e below _ T144 (mkF m 54 #[.val (.long q1), .second, .val (.long q2), .second, iv p3, iv 0, iv 1, .val (.long q2), .second, iv (((p3.toUInt32 >>> ((3 : Int32) &&& 31).toUInt32).toInt32) &&& (3 : Int32)), .unset, .unset, .unset] [.ref b144, .ref b144])
        refine own_st (fun t k => XS.lloadN X144.here hx rfl (hb hby at_54) rfl k) ?_
        show own_E p e below _ T144 (mkF m 55 #[.val (.long q1), .second, .val (.long q2), .second, iv p3, iv 0, iv 1, .val (.long q2), .second, iv (((p3.toUInt32 >>> ((3 : Int32) &&& 31).toUInt32).toInt32) &&& (3 : Int32)), .unset, .unset, .unset] [.long q1, .ref b144, .ref b144])
        refine own_st (fun t k => XS.iload X144.here hx rfl (hb hby at_55) rfl k) ?_
        show own_E p e below _ T144 (mkF m 57 #[.val (.long q1), .second, .val (.long q2), .second, iv p3, iv 0, iv 1, .val (.long q2), .second, iv (((p3.toUInt32 >>> ((3 : Int32) &&& 31).toUInt32).toInt32) &&& (3 : Int32)), .unset, .unset, .unset] [.int 0, .long q1, .ref b144, .ref b144])
        obtain ⟨_, _, ⟨T147, L147, k147, n147⟩, -, X147, ⟨Lc147, hQ147, l147, y147, z147⟩, st147⟩ := X144.specialBack hx (y := own_y3) rfl hown (mvT hZ (own_w hw 3 rfl)) (mvT hZ (own_w hw 4 rfl)) (mvT hZ (own_w hw 5 rfl)) (by decide) (backOf (W := 1) (own_init0 l Z a0 hw [] b144 q1 h144 n0 Z145 A144 F_count_b144 F_fromClock_b144 g_b144) hZ (own_w hw 5 rfl) (own_w hw 2 rfl) (by decide) (by decide)) (g := (mkF m 57 #[.val (.long q1), .second, .val (.long q2), .second, iv p3, iv 0, iv 1, .val (.long q2), .second, iv (((p3.toUInt32 >>> ((3 : Int32) &&& 31).toUInt32).toInt32) &&& (3 : Int32)), .unset, .unset, .unset] [.int 0, .long q1, .ref b144, .ref b144])) rfl (by rw [hml]; rfl) (Steps.refl _) (a := b144) (argsL := [(.long q1), (.int (0 : Int32))]) (rest := [(.ref b144)]) (lenOf own_pd_4 rfl) rfl (by show 2 * 0 + _ ≤ _; exact Nat.le_of_eq rfl) (hb hby at_57) (fun _ _ => ⟨rfl, e144, (by decide : 1 + 0 ≤ _), (by decide : 2 + 0 ≤ _)⟩)
        dsimp only [Pt.U, Pt.locs, Pt.cells, Pt.slots] at X147 l147 y147 z147 st147 hQ147
        subst l147 y147 z147
        obtain ⟨rfl, Nq147, Kq147, P147_0, P147_1⟩ := hQ147
        have N147 := Fr.app (Fr.nil n0) Nq147
        have e147 : T147.heap = T147.heap := rfl
        have Z148 := Nat.le_trans Z145 Kq147.1
        have K149 : Keep h0 _ [] := K146.trans Kq147 (allS (P := fun x => x ∈ [] ∨ h0.size ≤ x) (Or.inr sz_b144) all0)
        refine own_tr st147 ?_
        show own_E p e below _ T147 (mkF m 60 #[.val (.long q1), .second, .val (.long q2), .second, iv p3, iv 0, iv 1, .val (.long q2), .second, iv (((p3.toUInt32 >>> ((3 : Int32) &&& 31).toUInt32).toInt32) &&& (3 : Int32)), .unset, .unset, .unset] [.ref b144])
        refine own_st (fun t k => XS.astore X147.here hx rfl (hb hby at_60) rfl rfl (l' := #[.val (.long q1), .second, .val (.long q2), .second, iv p3, iv 0, iv 1, .val (.long q2), .second, iv (((p3.toUInt32 >>> ((3 : Int32) &&& 31).toUInt32).toInt32) &&& (3 : Int32)), rv b144, .unset, .unset]) rfl k) ?_
        show own_E p e below _ T147 (mkF m 62 #[.val (.long q1), .second, .val (.long q2), .second, iv p3, iv 0, iv 1, .val (.long q2), .second, iv (((p3.toUInt32 >>> ((3 : Int32) &&& 31).toUInt32).toInt32) &&& (3 : Int32)), rv b144, .unset, .unset] [])
        refine own_st (fun t k => XS.aload X147.here hx rfl (hb hby at_62) rfl rfl k) ?_
        show own_E p e below _ T147 (mkF m 64 #[.val (.long q1), .second, .val (.long q2), .second, iv p3, iv 0, iv 1, .val (.long q2), .second, iv (((p3.toUInt32 >>> ((3 : Int32) &&& 31).toUInt32).toInt32) &&& (3 : Int32)), rv b144, .unset, .unset] [.ref b144])
        refine own_st (fun t k => XS.aload X147.here hx rfl (hb hby at_64) rfl rfl k) ?_
        show own_E p e below _ T147 (mkF m 66 #[.val (.long q1), .second, .val (.long q2), .second, iv p3, iv 0, iv 1, .val (.long q2), .second, iv (((p3.toUInt32 >>> ((3 : Int32) &&& 31).toUInt32).toInt32) &&& (3 : Int32)), rv b144, .unset, .unset] [.ref b144, .ref b144])
        obtain ⟨cq150, kq150, q150a, q150b, q150c⟩ := isOf hZ e147 P147_0
        obtain ⟨_, _, ⟨T150, L150, k150, n150⟩, -, X150, ⟨Lc150, hQ150, l150, y150, z150⟩, st150⟩ := X147.virtualBack hx (y := own_y4) (z := own_y4) hown (mvT hZ (own_w hw 13 rfl)) (mvT hZ (own_w hw 14 rfl)) (notFace_of_selects (args := #[]) (mvT hZ (own_w hw 16 rfl))) (mvT hZ (own_w hw 16 rfl)) (mvT hZ (own_w hw 15 rfl)) (by decide) (backOf (W := 0) (own_eqT l Z a0 hw [] b144 b144 q1 q1 T147.heap n0 Z148 P147_0 P147_1 P147_1) hZ (own_w hw 17 rfl) (own_w hw 2 rfl) (by decide) (by decide)) q150a q150c (g := (mkF m 66 #[.val (.long q1), .second, .val (.long q2), .second, iv p3, iv 0, iv 1, .val (.long q2), .second, iv (((p3.toUInt32 >>> ((3 : Int32) &&& 31).toUInt32).toInt32) &&& (3 : Int32)), rv b144, .unset, .unset] [.ref b144, .ref b144])) rfl (by rw [hml]; rfl) (Steps.refl _) (argsL := [(.ref b144)]) (rest := []) (lenOf own_pd_5 rfl) rfl (by show 2 * 0 + _ ≤ _; exact Nat.le_of_eq rfl) (hb hby at_66) (fun _ _ => ⟨rfl, e147, (by decide : 1 + 0 ≤ _), (by decide : 2 + 0 ≤ _)⟩)
        dsimp only [Pt.U, Pt.locs, Pt.cells, Pt.slots] at X150 l150 y150 z150 st150 hQ150
        subst l150 y150 z150
        obtain ⟨hR150, e150, rfl⟩ := hQ150
        have N150 := Fr.app N147 (Fr.nil n0)
        rcases hR150 with ⟨rfl, ha150_0⟩ | ⟨rfl, ha150_0⟩
        · refine own_tr st150 ?_
          show own_E p e below _ T150 (mkF m 69 #[.val (.long q1), .second, .val (.long q2), .second, iv p3, iv 0, iv 1, .val (.long q2), .second, iv (((p3.toUInt32 >>> ((3 : Int32) &&& 31).toUInt32).toInt32) &&& (3 : Int32)), rv b144, .unset, .unset] [.int 1])
          refine own_st (fun t k => XS.ifYes X150.here hx rfl (pc0 := 69) (pc' := 74) rfl (hb hby at_69) rfl (by decide) (by decide) (by decide) k) ?_
          show own_E p e below _ T150 (mkF m 74 #[.val (.long q1), .second, .val (.long q2), .second, iv p3, iv 0, iv 1, .val (.long q2), .second, iv (((p3.toUInt32 >>> ((3 : Int32) &&& 31).toUInt32).toInt32) &&& (3 : Int32)), rv b144, .unset, .unset] [])
          refine own_st (fun t k => XS.iload X150.here hx rfl (hb hby at_74) rfl k) ?_
          show own_E p e below _ T150 (mkF m 76 #[.val (.long q1), .second, .val (.long q2), .second, iv p3, iv 0, iv 1, .val (.long q2), .second, iv (((p3.toUInt32 >>> ((3 : Int32) &&& 31).toUInt32).toInt32) &&& (3 : Int32)), rv b144, .unset, .unset] [.int (((p3.toUInt32 >>> ((3 : Int32) &&& 31).toUInt32).toInt32) &&& (3 : Int32))])
          refine own_st (fun t k => XS.iconst X150.here hx rfl (hb hby at_76) k) ?_
          show own_E p e below _ T150 (mkF m 77 #[.val (.long q1), .second, .val (.long q2), .second, iv p3, iv 0, iv 1, .val (.long q2), .second, iv (((p3.toUInt32 >>> ((3 : Int32) &&& 31).toUInt32).toInt32) &&& (3 : Int32)), rv b144, .unset, .unset] [.int 1, .int (((p3.toUInt32 >>> ((3 : Int32) &&& 31).toUInt32).toInt32) &&& (3 : Int32))])
          by_cases hc151 : (((p3.toUInt32 >>> ((3 : Int32) &&& 31).toUInt32).toInt32) &&& (3 : Int32)) = (1 : Int32)
          · refine own_st (fun t k => XS.icmpNo X150.here hx rfl (hb hby at_77) rfl (teq hc151).2 k) ?_
            show own_E p e below _ T150 (mkF m 80 #[.val (.long q1), .second, .val (.long q2), .second, iv p3, iv 0, iv 1, .val (.long q2), .second, iv (((p3.toUInt32 >>> ((3 : Int32) &&& 31).toUInt32).toInt32) &&& (3 : Int32)), rv b144, .unset, .unset] [])
            refine own_st (fun t k => XS.aload X150.here hx rfl (hb hby at_80) rfl rfl k) ?_
            show own_E p e below _ T150 (mkF m 82 #[.val (.long q1), .second, .val (.long q2), .second, iv p3, iv 0, iv 1, .val (.long q2), .second, iv (((p3.toUInt32 >>> ((3 : Int32) &&& 31).toUInt32).toInt32) &&& (3 : Int32)), rv b144, .unset, .unset] [.ref b144])
            refine own_st (fun t k => XS.aconstNull X150.here hx rfl (hb hby at_82) k) ?_
            show own_E p e below _ T150 (mkF m 83 #[.val (.long q1), .second, .val (.long q2), .second, iv p3, iv 0, iv 1, .val (.long q2), .second, iv (((p3.toUInt32 >>> ((3 : Int32) &&& 31).toUInt32).toInt32) &&& (3 : Int32)), rv b144, .unset, .unset] [.null, .ref b144])
            obtain ⟨cq152, kq152, q152a, q152b, q152c⟩ := isOf hZ e150 P147_0
            obtain ⟨_, _, ⟨T152, L152, k152, n152⟩, -, X152, ⟨Lc152, hQ152, l152, y152, z152⟩, st152⟩ := X150.virtualBack hx (y := own_y4) (z := own_y4) hown (mvT hZ (own_w hw 13 rfl)) (mvT hZ (own_w hw 14 rfl)) (notFace_of_selects (args := #[]) (mvT hZ (own_w hw 16 rfl))) (mvT hZ (own_w hw 16 rfl)) (mvT hZ (own_w hw 15 rfl)) (by decide) (backOf (W := 0) (own_eqN l Z a0 hw [] b144 T147.heap n0 Z148 ) hZ (own_w hw 17 rfl) (own_w hw 2 rfl) (by decide) (by decide)) q152a q152c (g := (mkF m 83 #[.val (.long q1), .second, .val (.long q2), .second, iv p3, iv 0, iv 1, .val (.long q2), .second, iv (((p3.toUInt32 >>> ((3 : Int32) &&& 31).toUInt32).toInt32) &&& (3 : Int32)), rv b144, .unset, .unset] [.null, .ref b144])) rfl (by rw [hml]; rfl) (Steps.refl _) (argsL := [.null]) (rest := []) (lenOf own_pd_5 rfl) rfl (by show 2 * 0 + _ ≤ _; exact Nat.le_of_eq rfl) (hb hby at_83) (fun _ _ => ⟨rfl, e150, (by decide : 1 + 0 ≤ _), (by decide : 2 + 0 ≤ _)⟩)
            dsimp only [Pt.U, Pt.locs, Pt.cells, Pt.slots] at X152 l152 y152 z152 st152 hQ152
            subst l152 y152 z152
            obtain ⟨hR152, e152, rfl⟩ := hQ152
            have N152 := Fr.app N150 (Fr.nil n0)
            obtain rfl := hR152
            refine own_tr st152 ?_
            show own_E p e below _ T152 (mkF m 86 #[.val (.long q1), .second, .val (.long q2), .second, iv p3, iv 0, iv 1, .val (.long q2), .second, iv (((p3.toUInt32 >>> ((3 : Int32) &&& 31).toUInt32).toInt32) &&& (3 : Int32)), rv b144, .unset, .unset] [.int 0])
            refine own_st (fun t k => XS.ifNo X152.here hx rfl (hb hby at_86) rfl (by decide) k) ?_
            show own_E p e below _ T152 (mkF m 89 #[.val (.long q1), .second, .val (.long q2), .second, iv p3, iv 0, iv 1, .val (.long q2), .second, iv (((p3.toUInt32 >>> ((3 : Int32) &&& 31).toUInt32).toInt32) &&& (3 : Int32)), rv b144, .unset, .unset] [])
            refine own_st (fun t k => XS.iconst X152.here hx rfl (hb hby at_89) k) ?_
            show own_E p e below _ T152 (mkF m 90 #[.val (.long q1), .second, .val (.long q2), .second, iv p3, iv 0, iv 1, .val (.long q2), .second, iv (((p3.toUInt32 >>> ((3 : Int32) &&& 31).toUInt32).toInt32) &&& (3 : Int32)), rv b144, .unset, .unset] [.int 1])
            refine own_st (fun t k => XS.goto X152.here hx rfl (pc0 := 90) (pc' := 94) rfl (hb hby at_90) (by decide) (by decide) k) ?_
            show own_E p e below _ T152 (mkF m 94 #[.val (.long q1), .second, .val (.long q2), .second, iv p3, iv 0, iv 1, .val (.long q2), .second, iv (((p3.toUInt32 >>> ((3 : Int32) &&& 31).toUInt32).toInt32) &&& (3 : Int32)), rv b144, .unset, .unset] [.int 1])
            refine own_retS X152 hx Bd.notSynchronized Bd.returns rfl (by decide) (hb hby at_94) (by decide) (by decide) ?_
            exact ⟨rfl, N152⟩
          · refine own_st (fun t k => XS.icmpYes X150.here hx rfl (pc0 := 77) (pc' := 95) rfl (hb hby at_77) rfl (feq hc151).2 (by decide) (by decide) k) ?_
            show own_E p e below _ T150 (mkF m 95 #[.val (.long q1), .second, .val (.long q2), .second, iv p3, iv 0, iv 1, .val (.long q2), .second, iv (((p3.toUInt32 >>> ((3 : Int32) &&& 31).toUInt32).toInt32) &&& (3 : Int32)), rv b144, .unset, .unset] [])
            refine own_st (fun t k => XS.iload X150.here hx rfl (hb hby at_95) rfl k) ?_
            show own_E p e below _ T150 (mkF m 97 #[.val (.long q1), .second, .val (.long q2), .second, iv p3, iv 0, iv 1, .val (.long q2), .second, iv (((p3.toUInt32 >>> ((3 : Int32) &&& 31).toUInt32).toInt32) &&& (3 : Int32)), rv b144, .unset, .unset] [.int (((p3.toUInt32 >>> ((3 : Int32) &&& 31).toUInt32).toInt32) &&& (3 : Int32))])
            refine own_st (fun t k => XS.iconst X150.here hx rfl (hb hby at_97) k) ?_
            show own_E p e below _ T150 (mkF m 98 #[.val (.long q1), .second, .val (.long q2), .second, iv p3, iv 0, iv 1, .val (.long q2), .second, iv (((p3.toUInt32 >>> ((3 : Int32) &&& 31).toUInt32).toInt32) &&& (3 : Int32)), rv b144, .unset, .unset] [.int 2, .int (((p3.toUInt32 >>> ((3 : Int32) &&& 31).toUInt32).toInt32) &&& (3 : Int32))])
            by_cases hc153 : (((p3.toUInt32 >>> ((3 : Int32) &&& 31).toUInt32).toInt32) &&& (3 : Int32)) = (2 : Int32)
            · refine own_st (fun t k => XS.icmpNo X150.here hx rfl (hb hby at_98) rfl (teq hc153).2 k) ?_
              show own_E p e below _ T150 (mkF m 101 #[.val (.long q1), .second, .val (.long q2), .second, iv p3, iv 0, iv 1, .val (.long q2), .second, iv (((p3.toUInt32 >>> ((3 : Int32) &&& 31).toUInt32).toInt32) &&& (3 : Int32)), rv b144, .unset, .unset] [])
              refine own_st (fun t k => XS.lloadN X150.here hx rfl (hb hby at_101) rfl k) ?_
              show own_E p e below _ T150 (mkF m 102 #[.val (.long q1), .second, .val (.long q2), .second, iv p3, iv 0, iv 1, .val (.long q2), .second, iv (((p3.toUInt32 >>> ((3 : Int32) &&& 31).toUInt32).toInt32) &&& (3 : Int32)), rv b144, .unset, .unset] [.long q1])
              obtain ⟨_, _, ⟨T154, L154, k154, n154⟩, -, X154, ⟨Lc154, hQ154, l154, y154, z154⟩, st154⟩ := Jvm.LawKit.callS X150 hx (y := own_y2) hown (mvT hZ (own_w hw 20 rfl)) (mvT hZ (own_w hw 21 rfl)) (mvT hZ (own_w hw 22 rfl)) (mvT hZ (own_w hw 23 rfl)) (by decide) (backOf (W := 0) (own_lval l Z a0 hw [] q1 T147.heap n0 Z148 (own_cache_keep hC K149)) hZ (own_w hw 23 rfl) (own_w hw 22 rfl) (by decide) (by decide)) (g := (mkF m 102 #[.val (.long q1), .second, .val (.long q2), .second, iv p3, iv 0, iv 1, .val (.long q2), .second, iv (((p3.toUInt32 >>> ((3 : Int32) &&& 31).toUInt32).toInt32) &&& (3 : Int32)), rv b144, .unset, .unset] [.long q1])) rfl (by rw [hml]; rfl) (argsL := [(.long q1)]) (rest := []) (lenOf own_pd_1 rfl) rfl (by show 2 * 0 + _ ≤ _; exact Nat.le_of_eq rfl) (hb hby at_102) (fun _ _ => ⟨rfl, e150, (by decide : 1 + 1 ≤ _), (by decide : 2 + 1 ≤ _)⟩)
              dsimp only [Pt.U, Pt.locs, Pt.cells, Pt.slots] at X154 l154 y154 z154 st154 hQ154
              subst l154 y154 z154
              obtain ⟨b154_o, rfl, Nq154, Kq154, P154⟩ := hQ154
              have N154 := Fr.app N150 Nq154
              have e154 : T154.heap = T154.heap := rfl
              have Z155 := Nat.le_trans Z148 Kq154.1
              have K156 : Keep h0 _ [] := K149.trans Kq154 all0
              refine own_st st154 ?_
              show own_E p e below _ T154 (mkF m 105 #[.val (.long q1), .second, .val (.long q2), .second, iv p3, iv 0, iv 1, .val (.long q2), .second, iv (((p3.toUInt32 >>> ((3 : Int32) &&& 31).toUInt32).toInt32) &&& (3 : Int32)), rv b144, .unset, .unset] [.ref b154_o])
              refine own_st (fun t k => XS.astore X154.here hx rfl (hb hby at_105) rfl rfl (l' := #[.val (.long q1), .second, .val (.long q2), .second, iv p3, iv 0, iv 1, .val (.long q2), .second, iv (((p3.toUInt32 >>> ((3 : Int32) &&& 31).toUInt32).toInt32) &&& (3 : Int32)), rv b144, rv b154_o, .unset]) rfl k) ?_
              show own_E p e below _ T154 (mkF m 107 #[.val (.long q1), .second, .val (.long q2), .second, iv p3, iv 0, iv 1, .val (.long q2), .second, iv (((p3.toUInt32 >>> ((3 : Int32) &&& 31).toUInt32).toInt32) &&& (3 : Int32)), rv b144, rv b154_o, .unset] [])
              refine own_st (fun t k => XS.aload X154.here hx rfl (hb hby at_107) rfl rfl k) ?_
              show own_E p e below _ T154 (mkF m 109 #[.val (.long q1), .second, .val (.long q2), .second, iv p3, iv 0, iv 1, .val (.long q2), .second, iv (((p3.toUInt32 >>> ((3 : Int32) &&& 31).toUInt32).toInt32) &&& (3 : Int32)), rv b144, rv b154_o, .unset] [.ref b144])
              refine own_st (fun t k => XS.aload X154.here hx rfl (hb hby at_109) rfl rfl k) ?_
              show own_E p e below _ T154 (mkF m 111 #[.val (.long q1), .second, .val (.long q2), .second, iv p3, iv 0, iv 1, .val (.long q2), .second, iv (((p3.toUInt32 >>> ((3 : Int32) &&& 31).toUInt32).toInt32) &&& (3 : Int32)), rv b144, rv b154_o, .unset] [.ref b154_o, .ref b144])
              have B158 := (P147_0.keep Kq154)
              obtain ⟨cq157, kq157, q157a, q157b, q157c⟩ := isOf hZ e154 B158
              obtain ⟨_, _, ⟨T157, L157, k157, n157⟩, -, X157, ⟨Lc157, hQ157, l157, y157, z157⟩, st157⟩ := X154.virtualBack hx (y := own_y4) (z := own_y4) hown (mvT hZ (own_w hw 13 rfl)) (mvT hZ (own_w hw 14 rfl)) (notFace_of_selects (args := #[]) (mvT hZ (own_w hw 16 rfl))) (mvT hZ (own_w hw 16 rfl)) (mvT hZ (own_w hw 15 rfl)) (by decide) (backOf (W := 0) (own_eqL l Z a0 hw [] b144 b154_o T154.heap n0 Z155 P154) hZ (own_w hw 17 rfl) (own_w hw 2 rfl) (by decide) (by decide)) q157a q157c (g := (mkF m 111 #[.val (.long q1), .second, .val (.long q2), .second, iv p3, iv 0, iv 1, .val (.long q2), .second, iv (((p3.toUInt32 >>> ((3 : Int32) &&& 31).toUInt32).toInt32) &&& (3 : Int32)), rv b144, rv b154_o, .unset] [.ref b154_o, .ref b144])) rfl (by rw [hml]; rfl) (Steps.refl _) (argsL := [(.ref b154_o)]) (rest := []) (lenOf own_pd_5 rfl) rfl (by show 2 * 0 + _ ≤ _; exact Nat.le_of_eq rfl) (hb hby at_111) (fun _ _ => ⟨rfl, e154, (by decide : 2 + 0 ≤ _), (by decide : 3 + 0 ≤ _)⟩)
              dsimp only [Pt.U, Pt.locs, Pt.cells, Pt.slots] at X157 l157 y157 z157 st157 hQ157
              subst l157 y157 z157
              obtain ⟨hR157, e157, rfl⟩ := hQ157
              have N157 := Fr.app N154 (Fr.nil n0)
              obtain rfl := hR157
              refine own_tr st157 ?_
              show own_E p e below _ T157 (mkF m 114 #[.val (.long q1), .second, .val (.long q2), .second, iv p3, iv 0, iv 1, .val (.long q2), .second, iv (((p3.toUInt32 >>> ((3 : Int32) &&& 31).toUInt32).toInt32) &&& (3 : Int32)), rv b144, rv b154_o, .unset] [.int 0])
              refine own_st (fun t k => XS.ifNo X157.here hx rfl (hb hby at_114) rfl (by decide) k) ?_
              show own_E p e below _ T157 (mkF m 117 #[.val (.long q1), .second, .val (.long q2), .second, iv p3, iv 0, iv 1, .val (.long q2), .second, iv (((p3.toUInt32 >>> ((3 : Int32) &&& 31).toUInt32).toInt32) &&& (3 : Int32)), rv b144, rv b154_o, .unset] [])
              refine own_st (fun t k => XS.iconst X157.here hx rfl (hb hby at_117) k) ?_
              show own_E p e below _ T157 (mkF m 118 #[.val (.long q1), .second, .val (.long q2), .second, iv p3, iv 0, iv 1, .val (.long q2), .second, iv (((p3.toUInt32 >>> ((3 : Int32) &&& 31).toUInt32).toInt32) &&& (3 : Int32)), rv b144, rv b154_o, .unset] [.int 1])
              refine own_st (fun t k => XS.goto X157.here hx rfl (pc0 := 118) (pc' := 122) rfl (hb hby at_118) (by decide) (by decide) k) ?_
              show own_E p e below _ T157 (mkF m 122 #[.val (.long q1), .second, .val (.long q2), .second, iv p3, iv 0, iv 1, .val (.long q2), .second, iv (((p3.toUInt32 >>> ((3 : Int32) &&& 31).toUInt32).toInt32) &&& (3 : Int32)), rv b144, rv b154_o, .unset] [.int 1])
              refine own_retS X157 hx Bd.notSynchronized Bd.returns rfl (by decide) (hb hby at_122) (by decide) (by decide) ?_
              exact ⟨rfl, N157⟩
            · refine own_st (fun t k => XS.icmpYes X150.here hx rfl (pc0 := 98) (pc' := 123) rfl (hb hby at_98) rfl (feq hc153).2 (by decide) (by decide) k) ?_
              show own_E p e below _ T150 (mkF m 123 #[.val (.long q1), .second, .val (.long q2), .second, iv p3, iv 0, iv 1, .val (.long q2), .second, iv (((p3.toUInt32 >>> ((3 : Int32) &&& 31).toUInt32).toInt32) &&& (3 : Int32)), rv b144, .unset, .unset] [])
              obtain ⟨T159, h159, X159, e159, E159, A159, D159, -, st159⟩ := newO X150 hx hZ hown (own_w hw 0 rfl) (own_w hw 1 rfl) (own_w hw 2 rfl) e150 (g := (mkF m 123 #[.val (.long q1), .second, .val (.long q2), .second, iv p3, iv 0, iv 1, .val (.long q2), .second, iv (((p3.toUInt32 >>> ((3 : Int32) &&& 31).toUInt32).toInt32) &&& (3 : Int32)), rv b144, .unset, .unset] [])) rfl (hb hby at_123) (by decide) (by decide)
              obtain ⟨b159, g159⟩ : ∃ z, z = T147.heap.size := ⟨_, rfl⟩
              rw [← g159] at A159 D159 st159
              have ne_b144_b159 : b144 ≠ b159 := Nat.ne_of_lt (Nat.lt_of_lt_of_le P147_0.lt (Nat.le_of_eq g159.symm))
              have g_b159 : n0 ≤ b159 := Nat.le_trans Z148 (Nat.le_of_eq g159.symm)
              have sz_b159 : h0.size ≤ b159 := Nat.le_trans K149.1 (Nat.le_of_eq g159.symm)
              have Z160 := Nat.le_trans Z148 E159.1
              have K161 : Keep h0 _ [] := K149.ext E159
              have F_count_b159 : Fld Z h159 b159 "com/example/tight_fence/tightfence/engine/TemporalValue" "count" "J" (.long (0 : Int64)) := D159 (Or.inr (own_w hw 10 rfl)) (ty := .long) (by decide)
              have F_fromClock_b159 : Fld Z h159 b159 "com/example/tight_fence/tightfence/engine/TemporalValue" "fromClock" "Z" (.int (0 : Int32)) := D159 (Or.inr (own_w hw 12 rfl)) (ty := .boolean) (by decide)
              refine own_st st159 ?_
              show own_E p e below _ T159 (mkF m 126 #[.val (.long q1), .second, .val (.long q2), .second, iv p3, iv 0, iv 1, .val (.long q2), .second, iv (((p3.toUInt32 >>> ((3 : Int32) &&& 31).toUInt32).toInt32) &&& (3 : Int32)), rv b144, .unset, .unset] [.ref b159])
              refine own_st (fun t k => XS.dup X159.here hx rfl (hb hby at_126) rfl rfl k) ?_
              show own_E p e below _ T159 (mkF m 127 #[.val (.long q1), .second, .val (.long q2), .second, iv p3, iv 0, iv 1, .val (.long q2), .second, iv (((p3.toUInt32 >>> ((3 : Int32) &&& 31).toUInt32).toInt32) &&& (3 : Int32)), rv b144, .unset, .unset] [.ref b159, .ref b159])
              refine own_st (fun t k => XS.lload X159.here hx rfl (hb hby at_127) rfl k) ?_
              show own_E p e below _ T159 (mkF m 129 #[.val (.long q1), .second, .val (.long q2), .second, iv p3, iv 0, iv 1, .val (.long q2), .second, iv (((p3.toUInt32 >>> ((3 : Int32) &&& 31).toUInt32).toInt32) &&& (3 : Int32)), rv b144, .unset, .unset] [.long q2, .ref b159, .ref b159])
              refine own_st (fun t k => XS.iload X159.here hx rfl (hb hby at_129) rfl k) ?_
              show own_E p e below _ T159 (mkF m 131 #[.val (.long q1), .second, .val (.long q2), .second, iv p3, iv 0, iv 1, .val (.long q2), .second, iv (((p3.toUInt32 >>> ((3 : Int32) &&& 31).toUInt32).toInt32) &&& (3 : Int32)), rv b144, .unset, .unset] [.int 1, .long q2, .ref b159, .ref b159])
              obtain ⟨_, _, ⟨T162, L162, k162, n162⟩, -, X162, ⟨Lc162, hQ162, l162, y162, z162⟩, st162⟩ := X159.specialBack hx (y := own_y3) rfl hown (mvT hZ (own_w hw 3 rfl)) (mvT hZ (own_w hw 4 rfl)) (mvT hZ (own_w hw 5 rfl)) (by decide) (backOf (W := 1) (own_init1 l Z a0 hw [] b159 q2 h159 n0 Z160 A159 F_count_b159 F_fromClock_b159 g_b159) hZ (own_w hw 5 rfl) (own_w hw 2 rfl) (by decide) (by decide)) (g := (mkF m 131 #[.val (.long q1), .second, .val (.long q2), .second, iv p3, iv 0, iv 1, .val (.long q2), .second, iv (((p3.toUInt32 >>> ((3 : Int32) &&& 31).toUInt32).toInt32) &&& (3 : Int32)), rv b144, .unset, .unset] [.int 1, .long q2, .ref b159, .ref b159])) rfl (by rw [hml]; rfl) (Steps.refl _) (a := b159) (argsL := [(.long q2), (.int (1 : Int32))]) (rest := [(.ref b159)]) (lenOf own_pd_4 rfl) rfl (by show 2 * 0 + _ ≤ _; exact Nat.le_of_eq rfl) (hb hby at_131) (fun _ _ => ⟨rfl, e159, (by decide : 2 + 0 ≤ _), (by decide : 4 + 0 ≤ _)⟩)
              dsimp only [Pt.U, Pt.locs, Pt.cells, Pt.slots] at X162 l162 y162 z162 st162 hQ162
              subst l162 y162 z162
              obtain ⟨rfl, Nq162, Kq162, P162_0, P162_1⟩ := hQ162
              have N162 := Fr.app N150 Nq162
              have e162 : T162.heap = T162.heap := rfl
              have Z163 := Nat.le_trans Z160 Kq162.1
              have K164 : Keep h0 _ [] := K161.trans Kq162 (allS (P := fun x => x ∈ [] ∨ h0.size ≤ x) (Or.inr sz_b159) all0)
              refine own_tr st162 ?_
              show own_E p e below _ T162 (mkF m 134 #[.val (.long q1), .second, .val (.long q2), .second, iv p3, iv 0, iv 1, .val (.long q2), .second, iv (((p3.toUInt32 >>> ((3 : Int32) &&& 31).toUInt32).toInt32) &&& (3 : Int32)), rv b144, .unset, .unset] [.ref b159])
              refine own_st (fun t k => XS.astore X162.here hx rfl (hb hby at_134) rfl rfl (l' := #[.val (.long q1), .second, .val (.long q2), .second, iv p3, iv 0, iv 1, .val (.long q2), .second, iv (((p3.toUInt32 >>> ((3 : Int32) &&& 31).toUInt32).toInt32) &&& (3 : Int32)), rv b144, rv b159, .unset]) rfl k) ?_
              show own_E p e below _ T162 (mkF m 136 #[.val (.long q1), .second, .val (.long q2), .second, iv p3, iv 0, iv 1, .val (.long q2), .second, iv (((p3.toUInt32 >>> ((3 : Int32) &&& 31).toUInt32).toInt32) &&& (3 : Int32)), rv b144, rv b159, .unset] [])
              refine own_st (fun t k => XS.lloadN X162.here hx rfl (hb hby at_136) rfl k) ?_
              show own_E p e below _ T162 (mkF m 137 #[.val (.long q1), .second, .val (.long q2), .second, iv p3, iv 0, iv 1, .val (.long q2), .second, iv (((p3.toUInt32 >>> ((3 : Int32) &&& 31).toUInt32).toInt32) &&& (3 : Int32)), rv b144, rv b159, .unset] [.long q1])
              refine own_st (fun t k => XS.lload X162.here hx rfl (hb hby at_137) rfl k) ?_
              show own_E p e below _ T162 (mkF m 139 #[.val (.long q1), .second, .val (.long q2), .second, iv p3, iv 0, iv 1, .val (.long q2), .second, iv (((p3.toUInt32 >>> ((3 : Int32) &&& 31).toUInt32).toInt32) &&& (3 : Int32)), rv b144, rv b159, .unset] [.long q2, .long q1])
              refine own_st (fun t k => XS.lcmp X162.here hx rfl (hb hby at_139) rfl k) ?_
              show own_E p e below _ T162 (mkF m 140 #[.val (.long q1), .second, .val (.long q2), .second, iv p3, iv 0, iv 1, .val (.long q2), .second, iv (((p3.toUInt32 >>> ((3 : Int32) &&& 31).toUInt32).toInt32) &&& (3 : Int32)), rv b144, rv b159, .unset] [.int (lcmpW q1 q2)])
              by_cases hc165 : q1 = q2
              · refine own_st (fun t k => XS.ifNo X162.here hx rfl (hb hby at_140) rfl ((if0 _ _).trans (teq ((lw_eq _ _).mpr hc165)).2) k) ?_
                show own_E p e below _ T162 (mkF m 143 #[.val (.long q1), .second, .val (.long q2), .second, iv p3, iv 0, iv 1, .val (.long q2), .second, iv (((p3.toUInt32 >>> ((3 : Int32) &&& 31).toUInt32).toInt32) &&& (3 : Int32)), rv b144, rv b159, .unset] [])
                refine own_st (fun t k => XS.iconst X162.here hx rfl (hb hby at_143) k) ?_
                show own_E p e below _ T162 (mkF m 144 #[.val (.long q1), .second, .val (.long q2), .second, iv p3, iv 0, iv 1, .val (.long q2), .second, iv (((p3.toUInt32 >>> ((3 : Int32) &&& 31).toUInt32).toInt32) &&& (3 : Int32)), rv b144, rv b159, .unset] [.int 1])
                refine own_st (fun t k => XS.goto X162.here hx rfl (pc0 := 144) (pc' := 148) rfl (hb hby at_144) (by decide) (by decide) k) ?_
                show own_E p e below _ T162 (mkF m 148 #[.val (.long q1), .second, .val (.long q2), .second, iv p3, iv 0, iv 1, .val (.long q2), .second, iv (((p3.toUInt32 >>> ((3 : Int32) &&& 31).toUInt32).toInt32) &&& (3 : Int32)), rv b144, rv b159, .unset] [.int 1])
                refine own_st (fun t k => XS.istore X162.here hx rfl (hb hby at_148) rfl (l' := #[.val (.long q1), .second, .val (.long q2), .second, iv p3, iv 0, iv 1, .val (.long q2), .second, iv (((p3.toUInt32 >>> ((3 : Int32) &&& 31).toUInt32).toInt32) &&& (3 : Int32)), rv b144, rv b159, iv 1]) rfl k) ?_
                show own_E p e below _ T162 (mkF m 150 #[.val (.long q1), .second, .val (.long q2), .second, iv p3, iv 0, iv 1, .val (.long q2), .second, iv (((p3.toUInt32 >>> ((3 : Int32) &&& 31).toUInt32).toInt32) &&& (3 : Int32)), rv b144, rv b159, iv 1] [])
                refine own_st (fun t k => XS.aload X162.here hx rfl (hb hby at_150) rfl rfl k) ?_
                show own_E p e below _ T162 (mkF m 152 #[.val (.long q1), .second, .val (.long q2), .second, iv p3, iv 0, iv 1, .val (.long q2), .second, iv (((p3.toUInt32 >>> ((3 : Int32) &&& 31).toUInt32).toInt32) &&& (3 : Int32)), rv b144, rv b159, iv 1] [.ref b144])
                refine own_st (fun t k => XS.aload X162.here hx rfl (hb hby at_152) rfl rfl k) ?_
                show own_E p e below _ T162 (mkF m 154 #[.val (.long q1), .second, .val (.long q2), .second, iv p3, iv 0, iv 1, .val (.long q2), .second, iv (((p3.toUInt32 >>> ((3 : Int32) &&& 31).toUInt32).toInt32) &&& (3 : Int32)), rv b144, rv b159, iv 1] [.ref b159, .ref b144])
                have B166 := ((P147_1.ext E159).keep Kq162 (ninS ne_b144_b159 nin0))
                have B168 := ((P147_0.ext E159).keep Kq162)
                obtain ⟨cq167, kq167, q167a, q167b, q167c⟩ := isOf hZ e162 B168
                obtain ⟨_, _, ⟨T167, L167, k167, n167⟩, -, X167, ⟨Lc167, hQ167, l167, y167, z167⟩, st167⟩ := X162.virtualBack hx (y := own_y4) (z := own_y4) hown (mvT hZ (own_w hw 13 rfl)) (mvT hZ (own_w hw 14 rfl)) (notFace_of_selects (args := #[]) (mvT hZ (own_w hw 16 rfl))) (mvT hZ (own_w hw 16 rfl)) (mvT hZ (own_w hw 15 rfl)) (by decide) (backOf (W := 0) (own_eqT l Z a0 hw [] b144 b159 q1 q2 T162.heap n0 Z163 P162_0 B166 P162_1) hZ (own_w hw 17 rfl) (own_w hw 2 rfl) (by decide) (by decide)) q167a q167c (g := (mkF m 154 #[.val (.long q1), .second, .val (.long q2), .second, iv p3, iv 0, iv 1, .val (.long q2), .second, iv (((p3.toUInt32 >>> ((3 : Int32) &&& 31).toUInt32).toInt32) &&& (3 : Int32)), rv b144, rv b159, iv 1] [.ref b159, .ref b144])) rfl (by rw [hml]; rfl) (Steps.refl _) (argsL := [(.ref b159)]) (rest := []) (lenOf own_pd_5 rfl) rfl (by show 2 * 0 + _ ≤ _; exact Nat.le_of_eq rfl) (hb hby at_154) (fun _ _ => ⟨rfl, e162, (by decide : 2 + 0 ≤ _), (by decide : 4 + 0 ≤ _)⟩)
                dsimp only [Pt.U, Pt.locs, Pt.cells, Pt.slots] at X167 l167 y167 z167 st167 hQ167
                subst l167 y167 z167
                obtain ⟨hR167, e167, rfl⟩ := hQ167
                have N167 := Fr.app N162 (Fr.nil n0)
                rcases hR167 with ⟨rfl, ha167_0⟩ | ⟨rfl, ha167_0⟩
                · refine own_tr st167 ?_
                  show own_E p e below _ T167 (mkF m 157 #[.val (.long q1), .second, .val (.long q2), .second, iv p3, iv 0, iv 1, .val (.long q2), .second, iv (((p3.toUInt32 >>> ((3 : Int32) &&& 31).toUInt32).toInt32) &&& (3 : Int32)), rv b144, rv b159, iv 1] [.int 1])
                  refine own_st (fun t k => XS.iload X167.here hx rfl (hb hby at_157) rfl k) ?_
                  show own_E p e below _ T167 (mkF m 159 #[.val (.long q1), .second, .val (.long q2), .second, iv p3, iv 0, iv 1, .val (.long q2), .second, iv (((p3.toUInt32 >>> ((3 : Int32) &&& 31).toUInt32).toInt32) &&& (3 : Int32)), rv b144, rv b159, iv 1] [.int 1, .int 1])
                  refine own_st (fun t k => XS.icmpYes X167.here hx rfl (pc0 := 159) (pc' := 164) rfl (hb hby at_159) rfl (by decide) (by decide) (by decide) k) ?_
                  show own_E p e below _ T167 (mkF m 164 #[.val (.long q1), .second, .val (.long q2), .second, iv p3, iv 0, iv 1, .val (.long q2), .second, iv (((p3.toUInt32 >>> ((3 : Int32) &&& 31).toUInt32).toInt32) &&& (3 : Int32)), rv b144, rv b159, iv 1] [])
                  refine own_st (fun t k => XS.aload X167.here hx rfl (hb hby at_164) rfl rfl k) ?_
                  show own_E p e below _ T167 (mkF m 166 #[.val (.long q1), .second, .val (.long q2), .second, iv p3, iv 0, iv 1, .val (.long q2), .second, iv (((p3.toUInt32 >>> ((3 : Int32) &&& 31).toUInt32).toInt32) &&& (3 : Int32)), rv b144, rv b159, iv 1] [.ref b159])
                  refine own_st (fun t k => XS.aload X167.here hx rfl (hb hby at_166) rfl rfl k) ?_
                  show own_E p e below _ T167 (mkF m 168 #[.val (.long q1), .second, .val (.long q2), .second, iv p3, iv 0, iv 1, .val (.long q2), .second, iv (((p3.toUInt32 >>> ((3 : Int32) &&& 31).toUInt32).toInt32) &&& (3 : Int32)), rv b144, rv b159, iv 1] [.ref b144, .ref b159])
                  obtain ⟨cq169, kq169, q169a, q169b, q169c⟩ := isOf hZ e167 P162_0
                  obtain ⟨_, _, ⟨T169, L169, k169, n169⟩, -, X169, ⟨Lc169, hQ169, l169, y169, z169⟩, st169⟩ := X167.virtualBack hx (y := own_y4) (z := own_y4) hown (mvT hZ (own_w hw 13 rfl)) (mvT hZ (own_w hw 14 rfl)) (notFace_of_selects (args := #[]) (mvT hZ (own_w hw 16 rfl))) (mvT hZ (own_w hw 16 rfl)) (mvT hZ (own_w hw 15 rfl)) (by decide) (backOf (W := 0) (own_eqT l Z a0 hw [] b159 b144 q2 q1 T162.heap n0 Z163 B168 P162_1 B166) hZ (own_w hw 17 rfl) (own_w hw 2 rfl) (by decide) (by decide)) q169a q169c (g := (mkF m 168 #[.val (.long q1), .second, .val (.long q2), .second, iv p3, iv 0, iv 1, .val (.long q2), .second, iv (((p3.toUInt32 >>> ((3 : Int32) &&& 31).toUInt32).toInt32) &&& (3 : Int32)), rv b144, rv b159, iv 1] [.ref b144, .ref b159])) rfl (by rw [hml]; rfl) (Steps.refl _) (argsL := [(.ref b144)]) (rest := []) (lenOf own_pd_5 rfl) rfl (by show 2 * 0 + _ ≤ _; exact Nat.le_of_eq rfl) (hb hby at_168) (fun _ _ => ⟨rfl, e167, (by decide : 2 + 0 ≤ _), (by decide : 4 + 0 ≤ _)⟩)
                  dsimp only [Pt.U, Pt.locs, Pt.cells, Pt.slots] at X169 l169 y169 z169 st169 hQ169
                  subst l169 y169 z169
                  obtain ⟨hR169, e169, rfl⟩ := hQ169
                  have N169 := Fr.app N167 (Fr.nil n0)
                  rcases hR169 with ⟨rfl, ha169_0⟩ | ⟨rfl, ha169_0⟩
                  · refine own_tr st169 ?_
                    show own_E p e below _ T169 (mkF m 171 #[.val (.long q1), .second, .val (.long q2), .second, iv p3, iv 0, iv 1, .val (.long q2), .second, iv (((p3.toUInt32 >>> ((3 : Int32) &&& 31).toUInt32).toInt32) &&& (3 : Int32)), rv b144, rv b159, iv 1] [.int 1])
                    refine own_st (fun t k => XS.iload X169.here hx rfl (hb hby at_171) rfl k) ?_
                    show own_E p e below _ T169 (mkF m 173 #[.val (.long q1), .second, .val (.long q2), .second, iv p3, iv 0, iv 1, .val (.long q2), .second, iv (((p3.toUInt32 >>> ((3 : Int32) &&& 31).toUInt32).toInt32) &&& (3 : Int32)), rv b144, rv b159, iv 1] [.int 1, .int 1])
                    refine own_st (fun t k => XS.icmpNo X169.here hx rfl (hb hby at_173) rfl (by decide) k) ?_
                    show own_E p e below _ T169 (mkF m 176 #[.val (.long q1), .second, .val (.long q2), .second, iv p3, iv 0, iv 1, .val (.long q2), .second, iv (((p3.toUInt32 >>> ((3 : Int32) &&& 31).toUInt32).toInt32) &&& (3 : Int32)), rv b144, rv b159, iv 1] [])
                    refine own_st (fun t k => XS.iconst X169.here hx rfl (hb hby at_176) k) ?_
                    show own_E p e below _ T169 (mkF m 177 #[.val (.long q1), .second, .val (.long q2), .second, iv p3, iv 0, iv 1, .val (.long q2), .second, iv (((p3.toUInt32 >>> ((3 : Int32) &&& 31).toUInt32).toInt32) &&& (3 : Int32)), rv b144, rv b159, iv 1] [.int 1])
                    refine own_st (fun t k => XS.goto X169.here hx rfl (pc0 := 177) (pc' := 181) rfl (hb hby at_177) (by decide) (by decide) k) ?_
                    show own_E p e below _ T169 (mkF m 181 #[.val (.long q1), .second, .val (.long q2), .second, iv p3, iv 0, iv 1, .val (.long q2), .second, iv (((p3.toUInt32 >>> ((3 : Int32) &&& 31).toUInt32).toInt32) &&& (3 : Int32)), rv b144, rv b159, iv 1] [.int 1])
                    refine own_retS X169 hx Bd.notSynchronized Bd.returns rfl (by decide) (hb hby at_181) (by decide) (by decide) ?_
                    exact ⟨rfl, N169⟩
                  · exact absurd hc165 ha169_0
                · exfalso
                  have f170 := rng32 p3
                  have f171 : (1 : Int32).toInt = 1 := rfl
                  have f172 := rng32 (p3 &&& (1 : Int32))
                  have f173 : (p3 &&& (1 : Int32)).toInt = p3.toInt % 2 := c_mask p3 (1 : Int32) 1 (by decide) (by decide)
                  have f174 : (0 : Int32).toInt = 0 := rfl
                  have f175 : (2 : Int32).toInt = 2 := rfl
                  have f176 := rng32 (p3 &&& (2 : Int32))
                  have f177 := c_and p3 (2 : Int32) (by decide)
                  have f178 : (4 : Int32).toInt = 4 := rfl
                  have f179 := rng32 (p3 &&& (4 : Int32))
                  have f180 := c_and p3 (4 : Int32) (by decide)
                  have f181 := rng64 q1
                  have f182 : (3 : Int32).toInt = 3 := rfl
                  have f183 := rng32 ((p3.toUInt32 >>> ((3 : Int32) &&& 31).toUInt32).toInt32)
                  have f184 : ((p3.toUInt32 >>> ((3 : Int32) &&& 31).toUInt32).toInt32).toInt = (p3.toInt % 4294967296) / 8 := c_iushr p3 (3 : Int32) 3 (by decide) (by decide)
                  have f185 := rng32 (((p3.toUInt32 >>> ((3 : Int32) &&& 31).toUInt32).toInt32) &&& (3 : Int32))
                  have f186 : (((p3.toUInt32 >>> ((3 : Int32) &&& 31).toUInt32).toInt32) &&& (3 : Int32)).toInt = ((p3.toUInt32 >>> ((3 : Int32) &&& 31).toUInt32).toInt32).toInt % 4 := c_mask ((p3.toUInt32 >>> ((3 : Int32) &&& 31).toUInt32).toInt32) (3 : Int32) 2 (by decide) (by decide)
                  have f187 := rng64 q2
                  have g188 := hc1
                  rw [← Int32.toInt_inj] at g188
                  have g189 := hc2
                  rw [← Int32.toInt_inj] at g189
                  have g190 := hc143
                  rw [← Int32.toInt_inj] at g190
                  have g191 := ha150_0
                  rw [← Int64.toInt_inj] at g191
                  have g192 := hc151
                  rw [← Int32.toInt_inj] at g192
                  have g193 := hc153
                  rw [← Int32.toInt_inj] at g193
                  have g194 := hc165
                  rw [← Int64.toInt_inj] at g194
                  have g195 := ha167_0
                  rw [← Int64.toInt_inj] at g195
                  omega
              · refine own_st (fun t k => XS.ifYes X162.here hx rfl (pc0 := 140) (pc' := 147) rfl (hb hby at_140) rfl ((if0 _ _).trans (feq (fun q => hc165 ((lw_eq _ _).mp q))).2) (by decide) (by decide) k) ?_
                show own_E p e below _ T162 (mkF m 147 #[.val (.long q1), .second, .val (.long q2), .second, iv p3, iv 0, iv 1, .val (.long q2), .second, iv (((p3.toUInt32 >>> ((3 : Int32) &&& 31).toUInt32).toInt32) &&& (3 : Int32)), rv b144, rv b159, .unset] [])
                refine own_st (fun t k => XS.iconst X162.here hx rfl (hb hby at_147) k) ?_
                show own_E p e below _ T162 (mkF m 148 #[.val (.long q1), .second, .val (.long q2), .second, iv p3, iv 0, iv 1, .val (.long q2), .second, iv (((p3.toUInt32 >>> ((3 : Int32) &&& 31).toUInt32).toInt32) &&& (3 : Int32)), rv b144, rv b159, .unset] [.int 0])
                refine own_st (fun t k => XS.istore X162.here hx rfl (hb hby at_148) rfl (l' := #[.val (.long q1), .second, .val (.long q2), .second, iv p3, iv 0, iv 1, .val (.long q2), .second, iv (((p3.toUInt32 >>> ((3 : Int32) &&& 31).toUInt32).toInt32) &&& (3 : Int32)), rv b144, rv b159, iv 0]) rfl k) ?_
                show own_E p e below _ T162 (mkF m 150 #[.val (.long q1), .second, .val (.long q2), .second, iv p3, iv 0, iv 1, .val (.long q2), .second, iv (((p3.toUInt32 >>> ((3 : Int32) &&& 31).toUInt32).toInt32) &&& (3 : Int32)), rv b144, rv b159, iv 0] [])
                refine own_st (fun t k => XS.aload X162.here hx rfl (hb hby at_150) rfl rfl k) ?_
                show own_E p e below _ T162 (mkF m 152 #[.val (.long q1), .second, .val (.long q2), .second, iv p3, iv 0, iv 1, .val (.long q2), .second, iv (((p3.toUInt32 >>> ((3 : Int32) &&& 31).toUInt32).toInt32) &&& (3 : Int32)), rv b144, rv b159, iv 0] [.ref b144])
                refine own_st (fun t k => XS.aload X162.here hx rfl (hb hby at_152) rfl rfl k) ?_
                show own_E p e below _ T162 (mkF m 154 #[.val (.long q1), .second, .val (.long q2), .second, iv p3, iv 0, iv 1, .val (.long q2), .second, iv (((p3.toUInt32 >>> ((3 : Int32) &&& 31).toUInt32).toInt32) &&& (3 : Int32)), rv b144, rv b159, iv 0] [.ref b159, .ref b144])
                have B196 := ((P147_1.ext E159).keep Kq162 (ninS ne_b144_b159 nin0))
                have B198 := ((P147_0.ext E159).keep Kq162)
                obtain ⟨cq197, kq197, q197a, q197b, q197c⟩ := isOf hZ e162 B198
                obtain ⟨_, _, ⟨T197, L197, k197, n197⟩, -, X197, ⟨Lc197, hQ197, l197, y197, z197⟩, st197⟩ := X162.virtualBack hx (y := own_y4) (z := own_y4) hown (mvT hZ (own_w hw 13 rfl)) (mvT hZ (own_w hw 14 rfl)) (notFace_of_selects (args := #[]) (mvT hZ (own_w hw 16 rfl))) (mvT hZ (own_w hw 16 rfl)) (mvT hZ (own_w hw 15 rfl)) (by decide) (backOf (W := 0) (own_eqT l Z a0 hw [] b144 b159 q1 q2 T162.heap n0 Z163 P162_0 B196 P162_1) hZ (own_w hw 17 rfl) (own_w hw 2 rfl) (by decide) (by decide)) q197a q197c (g := (mkF m 154 #[.val (.long q1), .second, .val (.long q2), .second, iv p3, iv 0, iv 1, .val (.long q2), .second, iv (((p3.toUInt32 >>> ((3 : Int32) &&& 31).toUInt32).toInt32) &&& (3 : Int32)), rv b144, rv b159, iv 0] [.ref b159, .ref b144])) rfl (by rw [hml]; rfl) (Steps.refl _) (argsL := [(.ref b159)]) (rest := []) (lenOf own_pd_5 rfl) rfl (by show 2 * 0 + _ ≤ _; exact Nat.le_of_eq rfl) (hb hby at_154) (fun _ _ => ⟨rfl, e162, (by decide : 2 + 0 ≤ _), (by decide : 4 + 0 ≤ _)⟩)
                dsimp only [Pt.U, Pt.locs, Pt.cells, Pt.slots] at X197 l197 y197 z197 st197 hQ197
                subst l197 y197 z197
                obtain ⟨hR197, e197, rfl⟩ := hQ197
                have N197 := Fr.app N162 (Fr.nil n0)
                rcases hR197 with ⟨rfl, ha197_0⟩ | ⟨rfl, ha197_0⟩
                · exfalso
                  have f199 := rng32 p3
                  have f200 : (1 : Int32).toInt = 1 := rfl
                  have f201 := rng32 (p3 &&& (1 : Int32))
                  have f202 : (p3 &&& (1 : Int32)).toInt = p3.toInt % 2 := c_mask p3 (1 : Int32) 1 (by decide) (by decide)
                  have f203 : (0 : Int32).toInt = 0 := rfl
                  have f204 : (2 : Int32).toInt = 2 := rfl
                  have f205 := rng32 (p3 &&& (2 : Int32))
                  have f206 := c_and p3 (2 : Int32) (by decide)
                  have f207 : (4 : Int32).toInt = 4 := rfl
                  have f208 := rng32 (p3 &&& (4 : Int32))
                  have f209 := c_and p3 (4 : Int32) (by decide)
                  have f210 := rng64 q1
                  have f211 : (3 : Int32).toInt = 3 := rfl
                  have f212 := rng32 ((p3.toUInt32 >>> ((3 : Int32) &&& 31).toUInt32).toInt32)
                  have f213 : ((p3.toUInt32 >>> ((3 : Int32) &&& 31).toUInt32).toInt32).toInt = (p3.toInt % 4294967296) / 8 := c_iushr p3 (3 : Int32) 3 (by decide) (by decide)
                  have f214 := rng32 (((p3.toUInt32 >>> ((3 : Int32) &&& 31).toUInt32).toInt32) &&& (3 : Int32))
                  have f215 : (((p3.toUInt32 >>> ((3 : Int32) &&& 31).toUInt32).toInt32) &&& (3 : Int32)).toInt = ((p3.toUInt32 >>> ((3 : Int32) &&& 31).toUInt32).toInt32).toInt % 4 := c_mask ((p3.toUInt32 >>> ((3 : Int32) &&& 31).toUInt32).toInt32) (3 : Int32) 2 (by decide) (by decide)
                  have f216 := rng64 q2
                  have g217 := hc1
                  rw [← Int32.toInt_inj] at g217
                  have g218 := hc2
                  rw [← Int32.toInt_inj] at g218
                  have g219 := hc143
                  rw [← Int32.toInt_inj] at g219
                  have g220 := ha150_0
                  rw [← Int64.toInt_inj] at g220
                  have g221 := hc151
                  rw [← Int32.toInt_inj] at g221
                  have g222 := hc153
                  rw [← Int32.toInt_inj] at g222
                  have g223 := hc165
                  rw [← Int64.toInt_inj] at g223
                  have g224 := ha197_0
                  rw [← Int64.toInt_inj] at g224
                  omega
                · refine own_tr st197 ?_
                  show own_E p e below _ T197 (mkF m 157 #[.val (.long q1), .second, .val (.long q2), .second, iv p3, iv 0, iv 1, .val (.long q2), .second, iv (((p3.toUInt32 >>> ((3 : Int32) &&& 31).toUInt32).toInt32) &&& (3 : Int32)), rv b144, rv b159, iv 0] [.int 0])
                  refine own_st (fun t k => XS.iload X197.here hx rfl (hb hby at_157) rfl k) ?_
                  show own_E p e below _ T197 (mkF m 159 #[.val (.long q1), .second, .val (.long q2), .second, iv p3, iv 0, iv 1, .val (.long q2), .second, iv (((p3.toUInt32 >>> ((3 : Int32) &&& 31).toUInt32).toInt32) &&& (3 : Int32)), rv b144, rv b159, iv 0] [.int 0, .int 0])
                  refine own_st (fun t k => XS.icmpYes X197.here hx rfl (pc0 := 159) (pc' := 164) rfl (hb hby at_159) rfl (by decide) (by decide) (by decide) k) ?_
                  show own_E p e below _ T197 (mkF m 164 #[.val (.long q1), .second, .val (.long q2), .second, iv p3, iv 0, iv 1, .val (.long q2), .second, iv (((p3.toUInt32 >>> ((3 : Int32) &&& 31).toUInt32).toInt32) &&& (3 : Int32)), rv b144, rv b159, iv 0] [])
                  refine own_st (fun t k => XS.aload X197.here hx rfl (hb hby at_164) rfl rfl k) ?_
                  show own_E p e below _ T197 (mkF m 166 #[.val (.long q1), .second, .val (.long q2), .second, iv p3, iv 0, iv 1, .val (.long q2), .second, iv (((p3.toUInt32 >>> ((3 : Int32) &&& 31).toUInt32).toInt32) &&& (3 : Int32)), rv b144, rv b159, iv 0] [.ref b159])
                  refine own_st (fun t k => XS.aload X197.here hx rfl (hb hby at_166) rfl rfl k) ?_
                  show own_E p e below _ T197 (mkF m 168 #[.val (.long q1), .second, .val (.long q2), .second, iv p3, iv 0, iv 1, .val (.long q2), .second, iv (((p3.toUInt32 >>> ((3 : Int32) &&& 31).toUInt32).toInt32) &&& (3 : Int32)), rv b144, rv b159, iv 0] [.ref b144, .ref b159])
                  obtain ⟨cq225, kq225, q225a, q225b, q225c⟩ := isOf hZ e197 P162_0
                  obtain ⟨_, _, ⟨T225, L225, k225, n225⟩, -, X225, ⟨Lc225, hQ225, l225, y225, z225⟩, st225⟩ := X197.virtualBack hx (y := own_y4) (z := own_y4) hown (mvT hZ (own_w hw 13 rfl)) (mvT hZ (own_w hw 14 rfl)) (notFace_of_selects (args := #[]) (mvT hZ (own_w hw 16 rfl))) (mvT hZ (own_w hw 16 rfl)) (mvT hZ (own_w hw 15 rfl)) (by decide) (backOf (W := 0) (own_eqT l Z a0 hw [] b159 b144 q2 q1 T162.heap n0 Z163 B198 P162_1 B196) hZ (own_w hw 17 rfl) (own_w hw 2 rfl) (by decide) (by decide)) q225a q225c (g := (mkF m 168 #[.val (.long q1), .second, .val (.long q2), .second, iv p3, iv 0, iv 1, .val (.long q2), .second, iv (((p3.toUInt32 >>> ((3 : Int32) &&& 31).toUInt32).toInt32) &&& (3 : Int32)), rv b144, rv b159, iv 0] [.ref b144, .ref b159])) rfl (by rw [hml]; rfl) (Steps.refl _) (argsL := [(.ref b144)]) (rest := []) (lenOf own_pd_5 rfl) rfl (by show 2 * 0 + _ ≤ _; exact Nat.le_of_eq rfl) (hb hby at_168) (fun _ _ => ⟨rfl, e197, (by decide : 2 + 0 ≤ _), (by decide : 4 + 0 ≤ _)⟩)
                  dsimp only [Pt.U, Pt.locs, Pt.cells, Pt.slots] at X225 l225 y225 z225 st225 hQ225
                  subst l225 y225 z225
                  obtain ⟨hR225, e225, rfl⟩ := hQ225
                  have N225 := Fr.app N197 (Fr.nil n0)
                  rcases hR225 with ⟨rfl, ha225_0⟩ | ⟨rfl, ha225_0⟩
                  · exact absurd ha225_0 hc165
                  · refine own_tr st225 ?_
                    show own_E p e below _ T225 (mkF m 171 #[.val (.long q1), .second, .val (.long q2), .second, iv p3, iv 0, iv 1, .val (.long q2), .second, iv (((p3.toUInt32 >>> ((3 : Int32) &&& 31).toUInt32).toInt32) &&& (3 : Int32)), rv b144, rv b159, iv 0] [.int 0])
                    refine own_st (fun t k => XS.iload X225.here hx rfl (hb hby at_171) rfl k) ?_
                    show own_E p e below _ T225 (mkF m 173 #[.val (.long q1), .second, .val (.long q2), .second, iv p3, iv 0, iv 1, .val (.long q2), .second, iv (((p3.toUInt32 >>> ((3 : Int32) &&& 31).toUInt32).toInt32) &&& (3 : Int32)), rv b144, rv b159, iv 0] [.int 0, .int 0])
                    refine own_st (fun t k => XS.icmpNo X225.here hx rfl (hb hby at_173) rfl (by decide) k) ?_
                    show own_E p e below _ T225 (mkF m 176 #[.val (.long q1), .second, .val (.long q2), .second, iv p3, iv 0, iv 1, .val (.long q2), .second, iv (((p3.toUInt32 >>> ((3 : Int32) &&& 31).toUInt32).toInt32) &&& (3 : Int32)), rv b144, rv b159, iv 0] [])
                    refine own_st (fun t k => XS.iconst X225.here hx rfl (hb hby at_176) k) ?_
                    show own_E p e below _ T225 (mkF m 177 #[.val (.long q1), .second, .val (.long q2), .second, iv p3, iv 0, iv 1, .val (.long q2), .second, iv (((p3.toUInt32 >>> ((3 : Int32) &&& 31).toUInt32).toInt32) &&& (3 : Int32)), rv b144, rv b159, iv 0] [.int 1])
                    refine own_st (fun t k => XS.goto X225.here hx rfl (pc0 := 177) (pc' := 181) rfl (hb hby at_177) (by decide) (by decide) k) ?_
                    show own_E p e below _ T225 (mkF m 181 #[.val (.long q1), .second, .val (.long q2), .second, iv p3, iv 0, iv 1, .val (.long q2), .second, iv (((p3.toUInt32 >>> ((3 : Int32) &&& 31).toUInt32).toInt32) &&& (3 : Int32)), rv b144, rv b159, iv 0] [.int 1])
                    refine own_retS X225 hx Bd.notSynchronized Bd.returns rfl (by decide) (hb hby at_181) (by decide) (by decide) ?_
                    exact ⟨rfl, N225⟩
        · exfalso
          have f226 := rng32 p3
          have f227 : (1 : Int32).toInt = 1 := rfl
          have f228 := rng32 (p3 &&& (1 : Int32))
          have f229 : (p3 &&& (1 : Int32)).toInt = p3.toInt % 2 := c_mask p3 (1 : Int32) 1 (by decide) (by decide)
          have f230 : (0 : Int32).toInt = 0 := rfl
          have f231 : (2 : Int32).toInt = 2 := rfl
          have f232 := rng32 (p3 &&& (2 : Int32))
          have f233 := c_and p3 (2 : Int32) (by decide)
          have f234 : (4 : Int32).toInt = 4 := rfl
          have f235 := rng32 (p3 &&& (4 : Int32))
          have f236 := c_and p3 (4 : Int32) (by decide)
          have f237 := rng64 q1
          have g238 := hc1
          rw [← Int32.toInt_inj] at g238
          have g239 := hc2
          rw [← Int32.toInt_inj] at g239
          have g240 := hc143
          rw [← Int32.toInt_inj] at g240
          have g241 := ha150_0
          rw [← Int64.toInt_inj] at g241
          omega
      · refine own_st (fun t k => XS.ifNo X0.here hx rfl (hb hby at_32) rfl ((if0 _ _).trans (feq hc143).1) k) ?_
        show own_E p e below _ s₁ (mkF m 35 #[.val (.long q1), .second, .val (.long q2), .second, iv p3, iv 0, iv 1, .unset, .unset, .unset, .unset, .unset, .unset] [])
        refine own_st (fun t k => XS.lloadN X0.here hx rfl (hb hby at_35) rfl k) ?_
        show own_E p e below _ s₁ (mkF m 36 #[.val (.long q1), .second, .val (.long q2), .second, iv p3, iv 0, iv 1, .unset, .unset, .unset, .unset, .unset, .unset] [.long q1])
        refine own_st (fun t k => XS.goto X0.here hx rfl (pc0 := 36) (pc' := 40) rfl (hb hby at_36) (by decide) (by decide) k) ?_
        show own_E p e below _ s₁ (mkF m 40 #[.val (.long q1), .second, .val (.long q2), .second, iv p3, iv 0, iv 1, .unset, .unset, .unset, .unset, .unset, .unset] [.long q1])
        refine own_st (fun t k => XS.lstore X0.here hx rfl (hb hby at_40) rfl (l' := #[.val (.long q1), .second, .val (.long q2), .second, iv p3, iv 0, iv 1, .val (.long q1), .second, .unset, .unset, .unset, .unset]) rfl k) ?_
        show own_E p e below _ s₁ (mkF m 42 #[.val (.long q1), .second, .val (.long q2), .second, iv p3, iv 0, iv 1, .val (.long q1), .second, .unset, .unset, .unset, .unset] [])
        refine own_st (fun t k => XS.iload X0.here hx rfl (hb hby at_42) rfl k) ?_
        show own_E p e below _ s₁ (mkF m 44 #[.val (.long q1), .second, .val (.long q2), .second, iv p3, iv 0, iv 1, .val (.long q1), .second, .unset, .unset, .unset, .unset] [.int p3])
        refine own_st (fun t k => XS.iconst X0.here hx rfl (hb hby at_44) k) ?_
        show own_E p e below _ s₁ (mkF m 45 #[.val (.long q1), .second, .val (.long q2), .second, iv p3, iv 0, iv 1, .val (.long q1), .second, .unset, .unset, .unset, .unset] [.int 3, .int p3])
        refine own_st (fun t k => XS.iushr X0.here hx rfl (hb hby at_45) rfl k) ?_
        show own_E p e below _ s₁ (mkF m 46 #[.val (.long q1), .second, .val (.long q2), .second, iv p3, iv 0, iv 1, .val (.long q1), .second, .unset, .unset, .unset, .unset] [.int ((p3.toUInt32 >>> ((3 : Int32) &&& 31).toUInt32).toInt32)])
        refine own_st (fun t k => XS.iconst X0.here hx rfl (hb hby at_46) k) ?_
        show own_E p e below _ s₁ (mkF m 47 #[.val (.long q1), .second, .val (.long q2), .second, iv p3, iv 0, iv 1, .val (.long q1), .second, .unset, .unset, .unset, .unset] [.int 3, .int ((p3.toUInt32 >>> ((3 : Int32) &&& 31).toUInt32).toInt32)])
        refine own_st (fun t k => XS.iand X0.here hx rfl (hb hby at_47) rfl k) ?_
        show own_E p e below _ s₁ (mkF m 48 #[.val (.long q1), .second, .val (.long q2), .second, iv p3, iv 0, iv 1, .val (.long q1), .second, .unset, .unset, .unset, .unset] [.int (((p3.toUInt32 >>> ((3 : Int32) &&& 31).toUInt32).toInt32) &&& (3 : Int32))])
        refine own_st (fun t k => XS.istore X0.here hx rfl (hb hby at_48) rfl (l' := #[.val (.long q1), .second, .val (.long q2), .second, iv p3, iv 0, iv 1, .val (.long q1), .second, iv (((p3.toUInt32 >>> ((3 : Int32) &&& 31).toUInt32).toInt32) &&& (3 : Int32)), .unset, .unset, .unset]) rfl k) ?_
        show own_E p e below _ s₁ (mkF m 50 #[.val (.long q1), .second, .val (.long q2), .second, iv p3, iv 0, iv 1, .val (.long q1), .second, iv (((p3.toUInt32 >>> ((3 : Int32) &&& 31).toUInt32).toInt32) &&& (3 : Int32)), .unset, .unset, .unset] [])
        obtain ⟨T242, h242, X242, e242, E242, A242, D242, -, st242⟩ := newO X0 hx hZ hown (own_w hw 0 rfl) (own_w hw 1 rfl) (own_w hw 2 rfl) e0 (g := (mkF m 50 #[.val (.long q1), .second, .val (.long q2), .second, iv p3, iv 0, iv 1, .val (.long q1), .second, iv (((p3.toUInt32 >>> ((3 : Int32) &&& 31).toUInt32).toInt32) &&& (3 : Int32)), .unset, .unset, .unset] [])) rfl (hb hby at_50) (by decide) (by decide)
        obtain ⟨b242, g242⟩ : ∃ z, z = h0.size := ⟨_, rfl⟩
        rw [← g242] at A242 D242 st242
        have g_b242 : n0 ≤ b242 := Nat.le_trans Z0 (Nat.le_of_eq g242.symm)
        have sz_b242 : h0.size ≤ b242 := Nat.le_trans (Keep.refl h0 []).1 (Nat.le_of_eq g242.symm)
        have Z243 := Nat.le_trans Z0 E242.1
        have K244 : Keep h0 _ [] := (Keep.refl h0 []).ext E242
        have F_count_b242 : Fld Z h242 b242 "com/example/tight_fence/tightfence/engine/TemporalValue" "count" "J" (.long (0 : Int64)) := D242 (Or.inr (own_w hw 10 rfl)) (ty := .long) (by decide)
        have F_fromClock_b242 : Fld Z h242 b242 "com/example/tight_fence/tightfence/engine/TemporalValue" "fromClock" "Z" (.int (0 : Int32)) := D242 (Or.inr (own_w hw 12 rfl)) (ty := .boolean) (by decide)
        refine own_st st242 ?_
        show own_E p e below _ T242 (mkF m 53 #[.val (.long q1), .second, .val (.long q2), .second, iv p3, iv 0, iv 1, .val (.long q1), .second, iv (((p3.toUInt32 >>> ((3 : Int32) &&& 31).toUInt32).toInt32) &&& (3 : Int32)), .unset, .unset, .unset] [.ref b242])
        refine own_st (fun t k => XS.dup X242.here hx rfl (hb hby at_53) rfl rfl k) ?_
        show own_E p e below _ T242 (mkF m 54 #[.val (.long q1), .second, .val (.long q2), .second, iv p3, iv 0, iv 1, .val (.long q1), .second, iv (((p3.toUInt32 >>> ((3 : Int32) &&& 31).toUInt32).toInt32) &&& (3 : Int32)), .unset, .unset, .unset] [.ref b242, .ref b242])
        refine own_st (fun t k => XS.lloadN X242.here hx rfl (hb hby at_54) rfl k) ?_
        show own_E p e below _ T242 (mkF m 55 #[.val (.long q1), .second, .val (.long q2), .second, iv p3, iv 0, iv 1, .val (.long q1), .second, iv (((p3.toUInt32 >>> ((3 : Int32) &&& 31).toUInt32).toInt32) &&& (3 : Int32)), .unset, .unset, .unset] [.long q1, .ref b242, .ref b242])
        refine own_st (fun t k => XS.iload X242.here hx rfl (hb hby at_55) rfl k) ?_
        show own_E p e below _ T242 (mkF m 57 #[.val (.long q1), .second, .val (.long q2), .second, iv p3, iv 0, iv 1, .val (.long q1), .second, iv (((p3.toUInt32 >>> ((3 : Int32) &&& 31).toUInt32).toInt32) &&& (3 : Int32)), .unset, .unset, .unset] [.int 0, .long q1, .ref b242, .ref b242])
        obtain ⟨_, _, ⟨T245, L245, k245, n245⟩, -, X245, ⟨Lc245, hQ245, l245, y245, z245⟩, st245⟩ := X242.specialBack hx (y := own_y3) rfl hown (mvT hZ (own_w hw 3 rfl)) (mvT hZ (own_w hw 4 rfl)) (mvT hZ (own_w hw 5 rfl)) (by decide) (backOf (W := 1) (own_init0 l Z a0 hw [] b242 q1 h242 n0 Z243 A242 F_count_b242 F_fromClock_b242 g_b242) hZ (own_w hw 5 rfl) (own_w hw 2 rfl) (by decide) (by decide)) (g := (mkF m 57 #[.val (.long q1), .second, .val (.long q2), .second, iv p3, iv 0, iv 1, .val (.long q1), .second, iv (((p3.toUInt32 >>> ((3 : Int32) &&& 31).toUInt32).toInt32) &&& (3 : Int32)), .unset, .unset, .unset] [.int 0, .long q1, .ref b242, .ref b242])) rfl (by rw [hml]; rfl) (Steps.refl _) (a := b242) (argsL := [(.long q1), (.int (0 : Int32))]) (rest := [(.ref b242)]) (lenOf own_pd_4 rfl) rfl (by show 2 * 0 + _ ≤ _; exact Nat.le_of_eq rfl) (hb hby at_57) (fun _ _ => ⟨rfl, e242, (by decide : 1 + 0 ≤ _), (by decide : 2 + 0 ≤ _)⟩)
        dsimp only [Pt.U, Pt.locs, Pt.cells, Pt.slots] at X245 l245 y245 z245 st245 hQ245
        subst l245 y245 z245
        obtain ⟨rfl, Nq245, Kq245, P245_0, P245_1⟩ := hQ245
        have N245 := Fr.app (Fr.nil n0) Nq245
        have e245 : T245.heap = T245.heap := rfl
        have Z246 := Nat.le_trans Z243 Kq245.1
        have K247 : Keep h0 _ [] := K244.trans Kq245 (allS (P := fun x => x ∈ [] ∨ h0.size ≤ x) (Or.inr sz_b242) all0)
        refine own_tr st245 ?_
        show own_E p e below _ T245 (mkF m 60 #[.val (.long q1), .second, .val (.long q2), .second, iv p3, iv 0, iv 1, .val (.long q1), .second, iv (((p3.toUInt32 >>> ((3 : Int32) &&& 31).toUInt32).toInt32) &&& (3 : Int32)), .unset, .unset, .unset] [.ref b242])
        refine own_st (fun t k => XS.astore X245.here hx rfl (hb hby at_60) rfl rfl (l' := #[.val (.long q1), .second, .val (.long q2), .second, iv p3, iv 0, iv 1, .val (.long q1), .second, iv (((p3.toUInt32 >>> ((3 : Int32) &&& 31).toUInt32).toInt32) &&& (3 : Int32)), rv b242, .unset, .unset]) rfl k) ?_
        show own_E p e below _ T245 (mkF m 62 #[.val (.long q1), .second, .val (.long q2), .second, iv p3, iv 0, iv 1, .val (.long q1), .second, iv (((p3.toUInt32 >>> ((3 : Int32) &&& 31).toUInt32).toInt32) &&& (3 : Int32)), rv b242, .unset, .unset] [])
        refine own_st (fun t k => XS.aload X245.here hx rfl (hb hby at_62) rfl rfl k) ?_
        show own_E p e below _ T245 (mkF m 64 #[.val (.long q1), .second, .val (.long q2), .second, iv p3, iv 0, iv 1, .val (.long q1), .second, iv (((p3.toUInt32 >>> ((3 : Int32) &&& 31).toUInt32).toInt32) &&& (3 : Int32)), rv b242, .unset, .unset] [.ref b242])
        refine own_st (fun t k => XS.aload X245.here hx rfl (hb hby at_64) rfl rfl k) ?_
        show own_E p e below _ T245 (mkF m 66 #[.val (.long q1), .second, .val (.long q2), .second, iv p3, iv 0, iv 1, .val (.long q1), .second, iv (((p3.toUInt32 >>> ((3 : Int32) &&& 31).toUInt32).toInt32) &&& (3 : Int32)), rv b242, .unset, .unset] [.ref b242, .ref b242])
        obtain ⟨cq248, kq248, q248a, q248b, q248c⟩ := isOf hZ e245 P245_0
        obtain ⟨_, _, ⟨T248, L248, k248, n248⟩, -, X248, ⟨Lc248, hQ248, l248, y248, z248⟩, st248⟩ := X245.virtualBack hx (y := own_y4) (z := own_y4) hown (mvT hZ (own_w hw 13 rfl)) (mvT hZ (own_w hw 14 rfl)) (notFace_of_selects (args := #[]) (mvT hZ (own_w hw 16 rfl))) (mvT hZ (own_w hw 16 rfl)) (mvT hZ (own_w hw 15 rfl)) (by decide) (backOf (W := 0) (own_eqT l Z a0 hw [] b242 b242 q1 q1 T245.heap n0 Z246 P245_0 P245_1 P245_1) hZ (own_w hw 17 rfl) (own_w hw 2 rfl) (by decide) (by decide)) q248a q248c (g := (mkF m 66 #[.val (.long q1), .second, .val (.long q2), .second, iv p3, iv 0, iv 1, .val (.long q1), .second, iv (((p3.toUInt32 >>> ((3 : Int32) &&& 31).toUInt32).toInt32) &&& (3 : Int32)), rv b242, .unset, .unset] [.ref b242, .ref b242])) rfl (by rw [hml]; rfl) (Steps.refl _) (argsL := [(.ref b242)]) (rest := []) (lenOf own_pd_5 rfl) rfl (by show 2 * 0 + _ ≤ _; exact Nat.le_of_eq rfl) (hb hby at_66) (fun _ _ => ⟨rfl, e245, (by decide : 1 + 0 ≤ _), (by decide : 2 + 0 ≤ _)⟩)
        dsimp only [Pt.U, Pt.locs, Pt.cells, Pt.slots] at X248 l248 y248 z248 st248 hQ248
        subst l248 y248 z248
        obtain ⟨hR248, e248, rfl⟩ := hQ248
        have N248 := Fr.app N245 (Fr.nil n0)
        rcases hR248 with ⟨rfl, ha248_0⟩ | ⟨rfl, ha248_0⟩
        · refine own_tr st248 ?_
          show own_E p e below _ T248 (mkF m 69 #[.val (.long q1), .second, .val (.long q2), .second, iv p3, iv 0, iv 1, .val (.long q1), .second, iv (((p3.toUInt32 >>> ((3 : Int32) &&& 31).toUInt32).toInt32) &&& (3 : Int32)), rv b242, .unset, .unset] [.int 1])
          refine own_st (fun t k => XS.ifYes X248.here hx rfl (pc0 := 69) (pc' := 74) rfl (hb hby at_69) rfl (by decide) (by decide) (by decide) k) ?_
          show own_E p e below _ T248 (mkF m 74 #[.val (.long q1), .second, .val (.long q2), .second, iv p3, iv 0, iv 1, .val (.long q1), .second, iv (((p3.toUInt32 >>> ((3 : Int32) &&& 31).toUInt32).toInt32) &&& (3 : Int32)), rv b242, .unset, .unset] [])
          refine own_st (fun t k => XS.iload X248.here hx rfl (hb hby at_74) rfl k) ?_
          show own_E p e below _ T248 (mkF m 76 #[.val (.long q1), .second, .val (.long q2), .second, iv p3, iv 0, iv 1, .val (.long q1), .second, iv (((p3.toUInt32 >>> ((3 : Int32) &&& 31).toUInt32).toInt32) &&& (3 : Int32)), rv b242, .unset, .unset] [.int (((p3.toUInt32 >>> ((3 : Int32) &&& 31).toUInt32).toInt32) &&& (3 : Int32))])
          refine own_st (fun t k => XS.iconst X248.here hx rfl (hb hby at_76) k) ?_
          show own_E p e below _ T248 (mkF m 77 #[.val (.long q1), .second, .val (.long q2), .second, iv p3, iv 0, iv 1, .val (.long q1), .second, iv (((p3.toUInt32 >>> ((3 : Int32) &&& 31).toUInt32).toInt32) &&& (3 : Int32)), rv b242, .unset, .unset] [.int 1, .int (((p3.toUInt32 >>> ((3 : Int32) &&& 31).toUInt32).toInt32) &&& (3 : Int32))])
          by_cases hc249 : (((p3.toUInt32 >>> ((3 : Int32) &&& 31).toUInt32).toInt32) &&& (3 : Int32)) = (1 : Int32)
          · refine own_st (fun t k => XS.icmpNo X248.here hx rfl (hb hby at_77) rfl (teq hc249).2 k) ?_
            show own_E p e below _ T248 (mkF m 80 #[.val (.long q1), .second, .val (.long q2), .second, iv p3, iv 0, iv 1, .val (.long q1), .second, iv (((p3.toUInt32 >>> ((3 : Int32) &&& 31).toUInt32).toInt32) &&& (3 : Int32)), rv b242, .unset, .unset] [])
            refine own_st (fun t k => XS.aload X248.here hx rfl (hb hby at_80) rfl rfl k) ?_
            show own_E p e below _ T248 (mkF m 82 #[.val (.long q1), .second, .val (.long q2), .second, iv p3, iv 0, iv 1, .val (.long q1), .second, iv (((p3.toUInt32 >>> ((3 : Int32) &&& 31).toUInt32).toInt32) &&& (3 : Int32)), rv b242, .unset, .unset] [.ref b242])
            refine own_st (fun t k => XS.aconstNull X248.here hx rfl (hb hby at_82) k) ?_
            show own_E p e below _ T248 (mkF m 83 #[.val (.long q1), .second, .val (.long q2), .second, iv p3, iv 0, iv 1, .val (.long q1), .second, iv (((p3.toUInt32 >>> ((3 : Int32) &&& 31).toUInt32).toInt32) &&& (3 : Int32)), rv b242, .unset, .unset] [.null, .ref b242])
            obtain ⟨cq250, kq250, q250a, q250b, q250c⟩ := isOf hZ e248 P245_0
            obtain ⟨_, _, ⟨T250, L250, k250, n250⟩, -, X250, ⟨Lc250, hQ250, l250, y250, z250⟩, st250⟩ := X248.virtualBack hx (y := own_y4) (z := own_y4) hown (mvT hZ (own_w hw 13 rfl)) (mvT hZ (own_w hw 14 rfl)) (notFace_of_selects (args := #[]) (mvT hZ (own_w hw 16 rfl))) (mvT hZ (own_w hw 16 rfl)) (mvT hZ (own_w hw 15 rfl)) (by decide) (backOf (W := 0) (own_eqN l Z a0 hw [] b242 T245.heap n0 Z246 ) hZ (own_w hw 17 rfl) (own_w hw 2 rfl) (by decide) (by decide)) q250a q250c (g := (mkF m 83 #[.val (.long q1), .second, .val (.long q2), .second, iv p3, iv 0, iv 1, .val (.long q1), .second, iv (((p3.toUInt32 >>> ((3 : Int32) &&& 31).toUInt32).toInt32) &&& (3 : Int32)), rv b242, .unset, .unset] [.null, .ref b242])) rfl (by rw [hml]; rfl) (Steps.refl _) (argsL := [.null]) (rest := []) (lenOf own_pd_5 rfl) rfl (by show 2 * 0 + _ ≤ _; exact Nat.le_of_eq rfl) (hb hby at_83) (fun _ _ => ⟨rfl, e248, (by decide : 1 + 0 ≤ _), (by decide : 2 + 0 ≤ _)⟩)
            dsimp only [Pt.U, Pt.locs, Pt.cells, Pt.slots] at X250 l250 y250 z250 st250 hQ250
            subst l250 y250 z250
            obtain ⟨hR250, e250, rfl⟩ := hQ250
            have N250 := Fr.app N248 (Fr.nil n0)
            obtain rfl := hR250
            refine own_tr st250 ?_
            show own_E p e below _ T250 (mkF m 86 #[.val (.long q1), .second, .val (.long q2), .second, iv p3, iv 0, iv 1, .val (.long q1), .second, iv (((p3.toUInt32 >>> ((3 : Int32) &&& 31).toUInt32).toInt32) &&& (3 : Int32)), rv b242, .unset, .unset] [.int 0])
            refine own_st (fun t k => XS.ifNo X250.here hx rfl (hb hby at_86) rfl (by decide) k) ?_
            show own_E p e below _ T250 (mkF m 89 #[.val (.long q1), .second, .val (.long q2), .second, iv p3, iv 0, iv 1, .val (.long q1), .second, iv (((p3.toUInt32 >>> ((3 : Int32) &&& 31).toUInt32).toInt32) &&& (3 : Int32)), rv b242, .unset, .unset] [])
            refine own_st (fun t k => XS.iconst X250.here hx rfl (hb hby at_89) k) ?_
            show own_E p e below _ T250 (mkF m 90 #[.val (.long q1), .second, .val (.long q2), .second, iv p3, iv 0, iv 1, .val (.long q1), .second, iv (((p3.toUInt32 >>> ((3 : Int32) &&& 31).toUInt32).toInt32) &&& (3 : Int32)), rv b242, .unset, .unset] [.int 1])
            refine own_st (fun t k => XS.goto X250.here hx rfl (pc0 := 90) (pc' := 94) rfl (hb hby at_90) (by decide) (by decide) k) ?_
            show own_E p e below _ T250 (mkF m 94 #[.val (.long q1), .second, .val (.long q2), .second, iv p3, iv 0, iv 1, .val (.long q1), .second, iv (((p3.toUInt32 >>> ((3 : Int32) &&& 31).toUInt32).toInt32) &&& (3 : Int32)), rv b242, .unset, .unset] [.int 1])
            refine own_retS X250 hx Bd.notSynchronized Bd.returns rfl (by decide) (hb hby at_94) (by decide) (by decide) ?_
            exact ⟨rfl, N250⟩
          · refine own_st (fun t k => XS.icmpYes X248.here hx rfl (pc0 := 77) (pc' := 95) rfl (hb hby at_77) rfl (feq hc249).2 (by decide) (by decide) k) ?_
            show own_E p e below _ T248 (mkF m 95 #[.val (.long q1), .second, .val (.long q2), .second, iv p3, iv 0, iv 1, .val (.long q1), .second, iv (((p3.toUInt32 >>> ((3 : Int32) &&& 31).toUInt32).toInt32) &&& (3 : Int32)), rv b242, .unset, .unset] [])
            refine own_st (fun t k => XS.iload X248.here hx rfl (hb hby at_95) rfl k) ?_
            show own_E p e below _ T248 (mkF m 97 #[.val (.long q1), .second, .val (.long q2), .second, iv p3, iv 0, iv 1, .val (.long q1), .second, iv (((p3.toUInt32 >>> ((3 : Int32) &&& 31).toUInt32).toInt32) &&& (3 : Int32)), rv b242, .unset, .unset] [.int (((p3.toUInt32 >>> ((3 : Int32) &&& 31).toUInt32).toInt32) &&& (3 : Int32))])
            refine own_st (fun t k => XS.iconst X248.here hx rfl (hb hby at_97) k) ?_
            show own_E p e below _ T248 (mkF m 98 #[.val (.long q1), .second, .val (.long q2), .second, iv p3, iv 0, iv 1, .val (.long q1), .second, iv (((p3.toUInt32 >>> ((3 : Int32) &&& 31).toUInt32).toInt32) &&& (3 : Int32)), rv b242, .unset, .unset] [.int 2, .int (((p3.toUInt32 >>> ((3 : Int32) &&& 31).toUInt32).toInt32) &&& (3 : Int32))])
            by_cases hc251 : (((p3.toUInt32 >>> ((3 : Int32) &&& 31).toUInt32).toInt32) &&& (3 : Int32)) = (2 : Int32)
            · refine own_st (fun t k => XS.icmpNo X248.here hx rfl (hb hby at_98) rfl (teq hc251).2 k) ?_
              show own_E p e below _ T248 (mkF m 101 #[.val (.long q1), .second, .val (.long q2), .second, iv p3, iv 0, iv 1, .val (.long q1), .second, iv (((p3.toUInt32 >>> ((3 : Int32) &&& 31).toUInt32).toInt32) &&& (3 : Int32)), rv b242, .unset, .unset] [])
              refine own_st (fun t k => XS.lloadN X248.here hx rfl (hb hby at_101) rfl k) ?_
              show own_E p e below _ T248 (mkF m 102 #[.val (.long q1), .second, .val (.long q2), .second, iv p3, iv 0, iv 1, .val (.long q1), .second, iv (((p3.toUInt32 >>> ((3 : Int32) &&& 31).toUInt32).toInt32) &&& (3 : Int32)), rv b242, .unset, .unset] [.long q1])
              obtain ⟨_, _, ⟨T252, L252, k252, n252⟩, -, X252, ⟨Lc252, hQ252, l252, y252, z252⟩, st252⟩ := Jvm.LawKit.callS X248 hx (y := own_y2) hown (mvT hZ (own_w hw 20 rfl)) (mvT hZ (own_w hw 21 rfl)) (mvT hZ (own_w hw 22 rfl)) (mvT hZ (own_w hw 23 rfl)) (by decide) (backOf (W := 0) (own_lval l Z a0 hw [] q1 T245.heap n0 Z246 (own_cache_keep hC K247)) hZ (own_w hw 23 rfl) (own_w hw 22 rfl) (by decide) (by decide)) (g := (mkF m 102 #[.val (.long q1), .second, .val (.long q2), .second, iv p3, iv 0, iv 1, .val (.long q1), .second, iv (((p3.toUInt32 >>> ((3 : Int32) &&& 31).toUInt32).toInt32) &&& (3 : Int32)), rv b242, .unset, .unset] [.long q1])) rfl (by rw [hml]; rfl) (argsL := [(.long q1)]) (rest := []) (lenOf own_pd_1 rfl) rfl (by show 2 * 0 + _ ≤ _; exact Nat.le_of_eq rfl) (hb hby at_102) (fun _ _ => ⟨rfl, e248, (by decide : 1 + 1 ≤ _), (by decide : 2 + 1 ≤ _)⟩)
              dsimp only [Pt.U, Pt.locs, Pt.cells, Pt.slots] at X252 l252 y252 z252 st252 hQ252
              subst l252 y252 z252
              obtain ⟨b252_o, rfl, Nq252, Kq252, P252⟩ := hQ252
              have N252 := Fr.app N248 Nq252
              have e252 : T252.heap = T252.heap := rfl
              have Z253 := Nat.le_trans Z246 Kq252.1
              have K254 : Keep h0 _ [] := K247.trans Kq252 all0
              refine own_st st252 ?_
              show own_E p e below _ T252 (mkF m 105 #[.val (.long q1), .second, .val (.long q2), .second, iv p3, iv 0, iv 1, .val (.long q1), .second, iv (((p3.toUInt32 >>> ((3 : Int32) &&& 31).toUInt32).toInt32) &&& (3 : Int32)), rv b242, .unset, .unset] [.ref b252_o])
              refine own_st (fun t k => XS.astore X252.here hx rfl (hb hby at_105) rfl rfl (l' := #[.val (.long q1), .second, .val (.long q2), .second, iv p3, iv 0, iv 1, .val (.long q1), .second, iv (((p3.toUInt32 >>> ((3 : Int32) &&& 31).toUInt32).toInt32) &&& (3 : Int32)), rv b242, rv b252_o, .unset]) rfl k) ?_
              show own_E p e below _ T252 (mkF m 107 #[.val (.long q1), .second, .val (.long q2), .second, iv p3, iv 0, iv 1, .val (.long q1), .second, iv (((p3.toUInt32 >>> ((3 : Int32) &&& 31).toUInt32).toInt32) &&& (3 : Int32)), rv b242, rv b252_o, .unset] [])
              refine own_st (fun t k => XS.aload X252.here hx rfl (hb hby at_107) rfl rfl k) ?_
              show own_E p e below _ T252 (mkF m 109 #[.val (.long q1), .second, .val (.long q2), .second, iv p3, iv 0, iv 1, .val (.long q1), .second, iv (((p3.toUInt32 >>> ((3 : Int32) &&& 31).toUInt32).toInt32) &&& (3 : Int32)), rv b242, rv b252_o, .unset] [.ref b242])
              refine own_st (fun t k => XS.aload X252.here hx rfl (hb hby at_109) rfl rfl k) ?_
              show own_E p e below _ T252 (mkF m 111 #[.val (.long q1), .second, .val (.long q2), .second, iv p3, iv 0, iv 1, .val (.long q1), .second, iv (((p3.toUInt32 >>> ((3 : Int32) &&& 31).toUInt32).toInt32) &&& (3 : Int32)), rv b242, rv b252_o, .unset] [.ref b252_o, .ref b242])
              have B256 := (P245_0.keep Kq252)
              obtain ⟨cq255, kq255, q255a, q255b, q255c⟩ := isOf hZ e252 B256
              obtain ⟨_, _, ⟨T255, L255, k255, n255⟩, -, X255, ⟨Lc255, hQ255, l255, y255, z255⟩, st255⟩ := X252.virtualBack hx (y := own_y4) (z := own_y4) hown (mvT hZ (own_w hw 13 rfl)) (mvT hZ (own_w hw 14 rfl)) (notFace_of_selects (args := #[]) (mvT hZ (own_w hw 16 rfl))) (mvT hZ (own_w hw 16 rfl)) (mvT hZ (own_w hw 15 rfl)) (by decide) (backOf (W := 0) (own_eqL l Z a0 hw [] b242 b252_o T252.heap n0 Z253 P252) hZ (own_w hw 17 rfl) (own_w hw 2 rfl) (by decide) (by decide)) q255a q255c (g := (mkF m 111 #[.val (.long q1), .second, .val (.long q2), .second, iv p3, iv 0, iv 1, .val (.long q1), .second, iv (((p3.toUInt32 >>> ((3 : Int32) &&& 31).toUInt32).toInt32) &&& (3 : Int32)), rv b242, rv b252_o, .unset] [.ref b252_o, .ref b242])) rfl (by rw [hml]; rfl) (Steps.refl _) (argsL := [(.ref b252_o)]) (rest := []) (lenOf own_pd_5 rfl) rfl (by show 2 * 0 + _ ≤ _; exact Nat.le_of_eq rfl) (hb hby at_111) (fun _ _ => ⟨rfl, e252, (by decide : 2 + 0 ≤ _), (by decide : 3 + 0 ≤ _)⟩)
              dsimp only [Pt.U, Pt.locs, Pt.cells, Pt.slots] at X255 l255 y255 z255 st255 hQ255
              subst l255 y255 z255
              obtain ⟨hR255, e255, rfl⟩ := hQ255
              have N255 := Fr.app N252 (Fr.nil n0)
              obtain rfl := hR255
              refine own_tr st255 ?_
              show own_E p e below _ T255 (mkF m 114 #[.val (.long q1), .second, .val (.long q2), .second, iv p3, iv 0, iv 1, .val (.long q1), .second, iv (((p3.toUInt32 >>> ((3 : Int32) &&& 31).toUInt32).toInt32) &&& (3 : Int32)), rv b242, rv b252_o, .unset] [.int 0])
              refine own_st (fun t k => XS.ifNo X255.here hx rfl (hb hby at_114) rfl (by decide) k) ?_
              show own_E p e below _ T255 (mkF m 117 #[.val (.long q1), .second, .val (.long q2), .second, iv p3, iv 0, iv 1, .val (.long q1), .second, iv (((p3.toUInt32 >>> ((3 : Int32) &&& 31).toUInt32).toInt32) &&& (3 : Int32)), rv b242, rv b252_o, .unset] [])
              refine own_st (fun t k => XS.iconst X255.here hx rfl (hb hby at_117) k) ?_
              show own_E p e below _ T255 (mkF m 118 #[.val (.long q1), .second, .val (.long q2), .second, iv p3, iv 0, iv 1, .val (.long q1), .second, iv (((p3.toUInt32 >>> ((3 : Int32) &&& 31).toUInt32).toInt32) &&& (3 : Int32)), rv b242, rv b252_o, .unset] [.int 1])
              refine own_st (fun t k => XS.goto X255.here hx rfl (pc0 := 118) (pc' := 122) rfl (hb hby at_118) (by decide) (by decide) k) ?_
              show own_E p e below _ T255 (mkF m 122 #[.val (.long q1), .second, .val (.long q2), .second, iv p3, iv 0, iv 1, .val (.long q1), .second, iv (((p3.toUInt32 >>> ((3 : Int32) &&& 31).toUInt32).toInt32) &&& (3 : Int32)), rv b242, rv b252_o, .unset] [.int 1])
              refine own_retS X255 hx Bd.notSynchronized Bd.returns rfl (by decide) (hb hby at_122) (by decide) (by decide) ?_
              exact ⟨rfl, N255⟩
            · refine own_st (fun t k => XS.icmpYes X248.here hx rfl (pc0 := 98) (pc' := 123) rfl (hb hby at_98) rfl (feq hc251).2 (by decide) (by decide) k) ?_
              show own_E p e below _ T248 (mkF m 123 #[.val (.long q1), .second, .val (.long q2), .second, iv p3, iv 0, iv 1, .val (.long q1), .second, iv (((p3.toUInt32 >>> ((3 : Int32) &&& 31).toUInt32).toInt32) &&& (3 : Int32)), rv b242, .unset, .unset] [])
              obtain ⟨T257, h257, X257, e257, E257, A257, D257, -, st257⟩ := newO X248 hx hZ hown (own_w hw 0 rfl) (own_w hw 1 rfl) (own_w hw 2 rfl) e248 (g := (mkF m 123 #[.val (.long q1), .second, .val (.long q2), .second, iv p3, iv 0, iv 1, .val (.long q1), .second, iv (((p3.toUInt32 >>> ((3 : Int32) &&& 31).toUInt32).toInt32) &&& (3 : Int32)), rv b242, .unset, .unset] [])) rfl (hb hby at_123) (by decide) (by decide)
              obtain ⟨b257, g257⟩ : ∃ z, z = T245.heap.size := ⟨_, rfl⟩
              rw [← g257] at A257 D257 st257
              have ne_b242_b257 : b242 ≠ b257 := Nat.ne_of_lt (Nat.lt_of_lt_of_le P245_0.lt (Nat.le_of_eq g257.symm))
              have g_b257 : n0 ≤ b257 := Nat.le_trans Z246 (Nat.le_of_eq g257.symm)
              have sz_b257 : h0.size ≤ b257 := Nat.le_trans K247.1 (Nat.le_of_eq g257.symm)
              have Z258 := Nat.le_trans Z246 E257.1
              have K259 : Keep h0 _ [] := K247.ext E257
              have F_count_b257 : Fld Z h257 b257 "com/example/tight_fence/tightfence/engine/TemporalValue" "count" "J" (.long (0 : Int64)) := D257 (Or.inr (own_w hw 10 rfl)) (ty := .long) (by decide)
              have F_fromClock_b257 : Fld Z h257 b257 "com/example/tight_fence/tightfence/engine/TemporalValue" "fromClock" "Z" (.int (0 : Int32)) := D257 (Or.inr (own_w hw 12 rfl)) (ty := .boolean) (by decide)
              refine own_st st257 ?_
              show own_E p e below _ T257 (mkF m 126 #[.val (.long q1), .second, .val (.long q2), .second, iv p3, iv 0, iv 1, .val (.long q1), .second, iv (((p3.toUInt32 >>> ((3 : Int32) &&& 31).toUInt32).toInt32) &&& (3 : Int32)), rv b242, .unset, .unset] [.ref b257])
              refine own_st (fun t k => XS.dup X257.here hx rfl (hb hby at_126) rfl rfl k) ?_
              show own_E p e below _ T257 (mkF m 127 #[.val (.long q1), .second, .val (.long q2), .second, iv p3, iv 0, iv 1, .val (.long q1), .second, iv (((p3.toUInt32 >>> ((3 : Int32) &&& 31).toUInt32).toInt32) &&& (3 : Int32)), rv b242, .unset, .unset] [.ref b257, .ref b257])
              refine own_st (fun t k => XS.lload X257.here hx rfl (hb hby at_127) rfl k) ?_
              show own_E p e below _ T257 (mkF m 129 #[.val (.long q1), .second, .val (.long q2), .second, iv p3, iv 0, iv 1, .val (.long q1), .second, iv (((p3.toUInt32 >>> ((3 : Int32) &&& 31).toUInt32).toInt32) &&& (3 : Int32)), rv b242, .unset, .unset] [.long q1, .ref b257, .ref b257])
              refine own_st (fun t k => XS.iload X257.here hx rfl (hb hby at_129) rfl k) ?_
              show own_E p e below _ T257 (mkF m 131 #[.val (.long q1), .second, .val (.long q2), .second, iv p3, iv 0, iv 1, .val (.long q1), .second, iv (((p3.toUInt32 >>> ((3 : Int32) &&& 31).toUInt32).toInt32) &&& (3 : Int32)), rv b242, .unset, .unset] [.int 1, .long q1, .ref b257, .ref b257])
              obtain ⟨_, _, ⟨T260, L260, k260, n260⟩, -, X260, ⟨Lc260, hQ260, l260, y260, z260⟩, st260⟩ := X257.specialBack hx (y := own_y3) rfl hown (mvT hZ (own_w hw 3 rfl)) (mvT hZ (own_w hw 4 rfl)) (mvT hZ (own_w hw 5 rfl)) (by decide) (backOf (W := 1) (own_init1 l Z a0 hw [] b257 q1 h257 n0 Z258 A257 F_count_b257 F_fromClock_b257 g_b257) hZ (own_w hw 5 rfl) (own_w hw 2 rfl) (by decide) (by decide)) (g := (mkF m 131 #[.val (.long q1), .second, .val (.long q2), .second, iv p3, iv 0, iv 1, .val (.long q1), .second, iv (((p3.toUInt32 >>> ((3 : Int32) &&& 31).toUInt32).toInt32) &&& (3 : Int32)), rv b242, .unset, .unset] [.int 1, .long q1, .ref b257, .ref b257])) rfl (by rw [hml]; rfl) (Steps.refl _) (a := b257) (argsL := [(.long q1), (.int (1 : Int32))]) (rest := [(.ref b257)]) (lenOf own_pd_4 rfl) rfl (by show 2 * 0 + _ ≤ _; exact Nat.le_of_eq rfl) (hb hby at_131) (fun _ _ => ⟨rfl, e257, (by decide : 2 + 0 ≤ _), (by decide : 4 + 0 ≤ _)⟩)
              dsimp only [Pt.U, Pt.locs, Pt.cells, Pt.slots] at X260 l260 y260 z260 st260 hQ260
              subst l260 y260 z260
              obtain ⟨rfl, Nq260, Kq260, P260_0, P260_1⟩ := hQ260
              have N260 := Fr.app N248 Nq260
              have e260 : T260.heap = T260.heap := rfl
              have Z261 := Nat.le_trans Z258 Kq260.1
              have K262 : Keep h0 _ [] := K259.trans Kq260 (allS (P := fun x => x ∈ [] ∨ h0.size ≤ x) (Or.inr sz_b257) all0)
              refine own_tr st260 ?_
              show own_E p e below _ T260 (mkF m 134 #[.val (.long q1), .second, .val (.long q2), .second, iv p3, iv 0, iv 1, .val (.long q1), .second, iv (((p3.toUInt32 >>> ((3 : Int32) &&& 31).toUInt32).toInt32) &&& (3 : Int32)), rv b242, .unset, .unset] [.ref b257])
              refine own_st (fun t k => XS.astore X260.here hx rfl (hb hby at_134) rfl rfl (l' := #[.val (.long q1), .second, .val (.long q2), .second, iv p3, iv 0, iv 1, .val (.long q1), .second, iv (((p3.toUInt32 >>> ((3 : Int32) &&& 31).toUInt32).toInt32) &&& (3 : Int32)), rv b242, rv b257, .unset]) rfl k) ?_
              show own_E p e below _ T260 (mkF m 136 #[.val (.long q1), .second, .val (.long q2), .second, iv p3, iv 0, iv 1, .val (.long q1), .second, iv (((p3.toUInt32 >>> ((3 : Int32) &&& 31).toUInt32).toInt32) &&& (3 : Int32)), rv b242, rv b257, .unset] [])
              refine own_st (fun t k => XS.lloadN X260.here hx rfl (hb hby at_136) rfl k) ?_
              show own_E p e below _ T260 (mkF m 137 #[.val (.long q1), .second, .val (.long q2), .second, iv p3, iv 0, iv 1, .val (.long q1), .second, iv (((p3.toUInt32 >>> ((3 : Int32) &&& 31).toUInt32).toInt32) &&& (3 : Int32)), rv b242, rv b257, .unset] [.long q1])
              refine own_st (fun t k => XS.lload X260.here hx rfl (hb hby at_137) rfl k) ?_
              show own_E p e below _ T260 (mkF m 139 #[.val (.long q1), .second, .val (.long q2), .second, iv p3, iv 0, iv 1, .val (.long q1), .second, iv (((p3.toUInt32 >>> ((3 : Int32) &&& 31).toUInt32).toInt32) &&& (3 : Int32)), rv b242, rv b257, .unset] [.long q1, .long q1])
              refine own_st (fun t k => XS.lcmp X260.here hx rfl (hb hby at_139) rfl k) ?_
              show own_E p e below _ T260 (mkF m 140 #[.val (.long q1), .second, .val (.long q2), .second, iv p3, iv 0, iv 1, .val (.long q1), .second, iv (((p3.toUInt32 >>> ((3 : Int32) &&& 31).toUInt32).toInt32) &&& (3 : Int32)), rv b242, rv b257, .unset] [.int (lcmpW q1 q1)])
              refine own_st (fun t k => XS.ifNo X260.here hx rfl (hb hby at_140) rfl ((if0 _ _).trans (teq ((lw_eq _ _).mpr ha248_0)).2) k) ?_
              show own_E p e below _ T260 (mkF m 143 #[.val (.long q1), .second, .val (.long q2), .second, iv p3, iv 0, iv 1, .val (.long q1), .second, iv (((p3.toUInt32 >>> ((3 : Int32) &&& 31).toUInt32).toInt32) &&& (3 : Int32)), rv b242, rv b257, .unset] [])
              refine own_st (fun t k => XS.iconst X260.here hx rfl (hb hby at_143) k) ?_
              show own_E p e below _ T260 (mkF m 144 #[.val (.long q1), .second, .val (.long q2), .second, iv p3, iv 0, iv 1, .val (.long q1), .second, iv (((p3.toUInt32 >>> ((3 : Int32) &&& 31).toUInt32).toInt32) &&& (3 : Int32)), rv b242, rv b257, .unset] [.int 1])
              refine own_st (fun t k => XS.goto X260.here hx rfl (pc0 := 144) (pc' := 148) rfl (hb hby at_144) (by decide) (by decide) k) ?_
              show own_E p e below _ T260 (mkF m 148 #[.val (.long q1), .second, .val (.long q2), .second, iv p3, iv 0, iv 1, .val (.long q1), .second, iv (((p3.toUInt32 >>> ((3 : Int32) &&& 31).toUInt32).toInt32) &&& (3 : Int32)), rv b242, rv b257, .unset] [.int 1])
              refine own_st (fun t k => XS.istore X260.here hx rfl (hb hby at_148) rfl (l' := #[.val (.long q1), .second, .val (.long q2), .second, iv p3, iv 0, iv 1, .val (.long q1), .second, iv (((p3.toUInt32 >>> ((3 : Int32) &&& 31).toUInt32).toInt32) &&& (3 : Int32)), rv b242, rv b257, iv 1]) rfl k) ?_
              show own_E p e below _ T260 (mkF m 150 #[.val (.long q1), .second, .val (.long q2), .second, iv p3, iv 0, iv 1, .val (.long q1), .second, iv (((p3.toUInt32 >>> ((3 : Int32) &&& 31).toUInt32).toInt32) &&& (3 : Int32)), rv b242, rv b257, iv 1] [])
              refine own_st (fun t k => XS.aload X260.here hx rfl (hb hby at_150) rfl rfl k) ?_
              show own_E p e below _ T260 (mkF m 152 #[.val (.long q1), .second, .val (.long q2), .second, iv p3, iv 0, iv 1, .val (.long q1), .second, iv (((p3.toUInt32 >>> ((3 : Int32) &&& 31).toUInt32).toInt32) &&& (3 : Int32)), rv b242, rv b257, iv 1] [.ref b242])
              refine own_st (fun t k => XS.aload X260.here hx rfl (hb hby at_152) rfl rfl k) ?_
              show own_E p e below _ T260 (mkF m 154 #[.val (.long q1), .second, .val (.long q2), .second, iv p3, iv 0, iv 1, .val (.long q1), .second, iv (((p3.toUInt32 >>> ((3 : Int32) &&& 31).toUInt32).toInt32) &&& (3 : Int32)), rv b242, rv b257, iv 1] [.ref b257, .ref b242])
              have B263 := ((P245_1.ext E257).keep Kq260 (ninS ne_b242_b257 nin0))
              have B265 := ((P245_0.ext E257).keep Kq260)
              obtain ⟨cq264, kq264, q264a, q264b, q264c⟩ := isOf hZ e260 B265
              obtain ⟨_, _, ⟨T264, L264, k264, n264⟩, -, X264, ⟨Lc264, hQ264, l264, y264, z264⟩, st264⟩ := X260.virtualBack hx (y := own_y4) (z := own_y4) hown (mvT hZ (own_w hw 13 rfl)) (mvT hZ (own_w hw 14 rfl)) (notFace_of_selects (args := #[]) (mvT hZ (own_w hw 16 rfl))) (mvT hZ (own_w hw 16 rfl)) (mvT hZ (own_w hw 15 rfl)) (by decide) (backOf (W := 0) (own_eqT l Z a0 hw [] b242 b257 q1 q1 T260.heap n0 Z261 P260_0 B263 P260_1) hZ (own_w hw 17 rfl) (own_w hw 2 rfl) (by decide) (by decide)) q264a q264c (g := (mkF m 154 #[.val (.long q1), .second, .val (.long q2), .second, iv p3, iv 0, iv 1, .val (.long q1), .second, iv (((p3.toUInt32 >>> ((3 : Int32) &&& 31).toUInt32).toInt32) &&& (3 : Int32)), rv b242, rv b257, iv 1] [.ref b257, .ref b242])) rfl (by rw [hml]; rfl) (Steps.refl _) (argsL := [(.ref b257)]) (rest := []) (lenOf own_pd_5 rfl) rfl (by show 2 * 0 + _ ≤ _; exact Nat.le_of_eq rfl) (hb hby at_154) (fun _ _ => ⟨rfl, e260, (by decide : 2 + 0 ≤ _), (by decide : 4 + 0 ≤ _)⟩)
              dsimp only [Pt.U, Pt.locs, Pt.cells, Pt.slots] at X264 l264 y264 z264 st264 hQ264
              subst l264 y264 z264
              obtain ⟨hR264, e264, rfl⟩ := hQ264
              have N264 := Fr.app N260 (Fr.nil n0)
              rcases hR264 with ⟨rfl, ha264_0⟩ | ⟨rfl, ha264_0⟩
              · refine own_tr st264 ?_
                show own_E p e below _ T264 (mkF m 157 #[.val (.long q1), .second, .val (.long q2), .second, iv p3, iv 0, iv 1, .val (.long q1), .second, iv (((p3.toUInt32 >>> ((3 : Int32) &&& 31).toUInt32).toInt32) &&& (3 : Int32)), rv b242, rv b257, iv 1] [.int 1])
                refine own_st (fun t k => XS.iload X264.here hx rfl (hb hby at_157) rfl k) ?_
                show own_E p e below _ T264 (mkF m 159 #[.val (.long q1), .second, .val (.long q2), .second, iv p3, iv 0, iv 1, .val (.long q1), .second, iv (((p3.toUInt32 >>> ((3 : Int32) &&& 31).toUInt32).toInt32) &&& (3 : Int32)), rv b242, rv b257, iv 1] [.int 1, .int 1])
                refine own_st (fun t k => XS.icmpYes X264.here hx rfl (pc0 := 159) (pc' := 164) rfl (hb hby at_159) rfl (by decide) (by decide) (by decide) k) ?_
                show own_E p e below _ T264 (mkF m 164 #[.val (.long q1), .second, .val (.long q2), .second, iv p3, iv 0, iv 1, .val (.long q1), .second, iv (((p3.toUInt32 >>> ((3 : Int32) &&& 31).toUInt32).toInt32) &&& (3 : Int32)), rv b242, rv b257, iv 1] [])
                refine own_st (fun t k => XS.aload X264.here hx rfl (hb hby at_164) rfl rfl k) ?_
                show own_E p e below _ T264 (mkF m 166 #[.val (.long q1), .second, .val (.long q2), .second, iv p3, iv 0, iv 1, .val (.long q1), .second, iv (((p3.toUInt32 >>> ((3 : Int32) &&& 31).toUInt32).toInt32) &&& (3 : Int32)), rv b242, rv b257, iv 1] [.ref b257])
                refine own_st (fun t k => XS.aload X264.here hx rfl (hb hby at_166) rfl rfl k) ?_
                show own_E p e below _ T264 (mkF m 168 #[.val (.long q1), .second, .val (.long q2), .second, iv p3, iv 0, iv 1, .val (.long q1), .second, iv (((p3.toUInt32 >>> ((3 : Int32) &&& 31).toUInt32).toInt32) &&& (3 : Int32)), rv b242, rv b257, iv 1] [.ref b242, .ref b257])
                obtain ⟨cq266, kq266, q266a, q266b, q266c⟩ := isOf hZ e264 P260_0
                obtain ⟨_, _, ⟨T266, L266, k266, n266⟩, -, X266, ⟨Lc266, hQ266, l266, y266, z266⟩, st266⟩ := X264.virtualBack hx (y := own_y4) (z := own_y4) hown (mvT hZ (own_w hw 13 rfl)) (mvT hZ (own_w hw 14 rfl)) (notFace_of_selects (args := #[]) (mvT hZ (own_w hw 16 rfl))) (mvT hZ (own_w hw 16 rfl)) (mvT hZ (own_w hw 15 rfl)) (by decide) (backOf (W := 0) (own_eqT l Z a0 hw [] b257 b242 q1 q1 T260.heap n0 Z261 B265 P260_1 B263) hZ (own_w hw 17 rfl) (own_w hw 2 rfl) (by decide) (by decide)) q266a q266c (g := (mkF m 168 #[.val (.long q1), .second, .val (.long q2), .second, iv p3, iv 0, iv 1, .val (.long q1), .second, iv (((p3.toUInt32 >>> ((3 : Int32) &&& 31).toUInt32).toInt32) &&& (3 : Int32)), rv b242, rv b257, iv 1] [.ref b242, .ref b257])) rfl (by rw [hml]; rfl) (Steps.refl _) (argsL := [(.ref b242)]) (rest := []) (lenOf own_pd_5 rfl) rfl (by show 2 * 0 + _ ≤ _; exact Nat.le_of_eq rfl) (hb hby at_168) (fun _ _ => ⟨rfl, e264, (by decide : 2 + 0 ≤ _), (by decide : 4 + 0 ≤ _)⟩)
                dsimp only [Pt.U, Pt.locs, Pt.cells, Pt.slots] at X266 l266 y266 z266 st266 hQ266
                subst l266 y266 z266
                obtain ⟨hR266, e266, rfl⟩ := hQ266
                have N266 := Fr.app N264 (Fr.nil n0)
                rcases hR266 with ⟨rfl, ha266_0⟩ | ⟨rfl, ha266_0⟩
                · refine own_tr st266 ?_
                  show own_E p e below _ T266 (mkF m 171 #[.val (.long q1), .second, .val (.long q2), .second, iv p3, iv 0, iv 1, .val (.long q1), .second, iv (((p3.toUInt32 >>> ((3 : Int32) &&& 31).toUInt32).toInt32) &&& (3 : Int32)), rv b242, rv b257, iv 1] [.int 1])
                  refine own_st (fun t k => XS.iload X266.here hx rfl (hb hby at_171) rfl k) ?_
                  show own_E p e below _ T266 (mkF m 173 #[.val (.long q1), .second, .val (.long q2), .second, iv p3, iv 0, iv 1, .val (.long q1), .second, iv (((p3.toUInt32 >>> ((3 : Int32) &&& 31).toUInt32).toInt32) &&& (3 : Int32)), rv b242, rv b257, iv 1] [.int 1, .int 1])
                  refine own_st (fun t k => XS.icmpNo X266.here hx rfl (hb hby at_173) rfl (by decide) k) ?_
                  show own_E p e below _ T266 (mkF m 176 #[.val (.long q1), .second, .val (.long q2), .second, iv p3, iv 0, iv 1, .val (.long q1), .second, iv (((p3.toUInt32 >>> ((3 : Int32) &&& 31).toUInt32).toInt32) &&& (3 : Int32)), rv b242, rv b257, iv 1] [])
                  refine own_st (fun t k => XS.iconst X266.here hx rfl (hb hby at_176) k) ?_
                  show own_E p e below _ T266 (mkF m 177 #[.val (.long q1), .second, .val (.long q2), .second, iv p3, iv 0, iv 1, .val (.long q1), .second, iv (((p3.toUInt32 >>> ((3 : Int32) &&& 31).toUInt32).toInt32) &&& (3 : Int32)), rv b242, rv b257, iv 1] [.int 1])
                  refine own_st (fun t k => XS.goto X266.here hx rfl (pc0 := 177) (pc' := 181) rfl (hb hby at_177) (by decide) (by decide) k) ?_
                  show own_E p e below _ T266 (mkF m 181 #[.val (.long q1), .second, .val (.long q2), .second, iv p3, iv 0, iv 1, .val (.long q1), .second, iv (((p3.toUInt32 >>> ((3 : Int32) &&& 31).toUInt32).toInt32) &&& (3 : Int32)), rv b242, rv b257, iv 1] [.int 1])
                  refine own_retS X266 hx Bd.notSynchronized Bd.returns rfl (by decide) (hb hby at_181) (by decide) (by decide) ?_
                  exact ⟨rfl, N266⟩
                · exact absurd ha248_0 ha266_0
              · exact absurd ha248_0 ha264_0
        · exfalso
          have f267 := rng32 p3
          have f268 : (1 : Int32).toInt = 1 := rfl
          have f269 := rng32 (p3 &&& (1 : Int32))
          have f270 : (p3 &&& (1 : Int32)).toInt = p3.toInt % 2 := c_mask p3 (1 : Int32) 1 (by decide) (by decide)
          have f271 : (0 : Int32).toInt = 0 := rfl
          have f272 : (2 : Int32).toInt = 2 := rfl
          have f273 := rng32 (p3 &&& (2 : Int32))
          have f274 := c_and p3 (2 : Int32) (by decide)
          have f275 : (4 : Int32).toInt = 4 := rfl
          have f276 := rng32 (p3 &&& (4 : Int32))
          have f277 := c_and p3 (4 : Int32) (by decide)
          have f278 := rng64 q1
          have g279 := hc1
          rw [← Int32.toInt_inj] at g279
          have g280 := hc2
          rw [← Int32.toInt_inj] at g280
          have g281 := hc143
          rw [← Int32.toInt_inj] at g281
          have g282 := ha248_0
          rw [← Int64.toInt_inj] at g282
          omega
  · refine own_st (fun t k => XS.ifNo X0.here hx rfl (hb hby at_4) rfl ((if0 _ _).trans (feq hc1).1) k) ?_
    show own_E p e below _ s₁ (mkF m 7 #[.val (.long q1), .second, .val (.long q2), .second, iv p3, .unset, .unset, .unset, .unset, .unset, .unset, .unset, .unset] [])
    refine own_st (fun t k => XS.iconst X0.here hx rfl (hb hby at_7) k) ?_
    show own_E p e below _ s₁ (mkF m 8 #[.val (.long q1), .second, .val (.long q2), .second, iv p3, .unset, .unset, .unset, .unset, .unset, .unset, .unset, .unset] [.int 1])
    refine own_st (fun t k => XS.goto X0.here hx rfl (pc0 := 8) (pc' := 12) rfl (hb hby at_8) (by decide) (by decide) k) ?_
    show own_E p e below _ s₁ (mkF m 12 #[.val (.long q1), .second, .val (.long q2), .second, iv p3, .unset, .unset, .unset, .unset, .unset, .unset, .unset, .unset] [.int 1])
    refine own_st (fun t k => XS.istore X0.here hx rfl (hb hby at_12) rfl (l' := #[.val (.long q1), .second, .val (.long q2), .second, iv p3, iv 1, .unset, .unset, .unset, .unset, .unset, .unset, .unset]) rfl k) ?_
    show own_E p e below _ s₁ (mkF m 14 #[.val (.long q1), .second, .val (.long q2), .second, iv p3, iv 1, .unset, .unset, .unset, .unset, .unset, .unset, .unset] [])
    refine own_st (fun t k => XS.iload X0.here hx rfl (hb hby at_14) rfl k) ?_
    show own_E p e below _ s₁ (mkF m 16 #[.val (.long q1), .second, .val (.long q2), .second, iv p3, iv 1, .unset, .unset, .unset, .unset, .unset, .unset, .unset] [.int p3])
    refine own_st (fun t k => XS.iconst X0.here hx rfl (hb hby at_16) k) ?_
    show own_E p e below _ s₁ (mkF m 17 #[.val (.long q1), .second, .val (.long q2), .second, iv p3, iv 1, .unset, .unset, .unset, .unset, .unset, .unset, .unset] [.int 2, .int p3])
    refine own_st (fun t k => XS.iand X0.here hx rfl (hb hby at_17) rfl k) ?_
    show own_E p e below _ s₁ (mkF m 18 #[.val (.long q1), .second, .val (.long q2), .second, iv p3, iv 1, .unset, .unset, .unset, .unset, .unset, .unset, .unset] [.int (p3 &&& (2 : Int32))])
    by_cases hc283 : (p3 &&& (2 : Int32)) = (0 : Int32)
    · refine own_st (fun t k => XS.ifYes X0.here hx rfl (pc0 := 18) (pc' := 25) rfl (hb hby at_18) rfl ((if0 _ _).trans (teq hc283).1) (by decide) (by decide) k) ?_
      show own_E p e below _ s₁ (mkF m 25 #[.val (.long q1), .second, .val (.long q2), .second, iv p3, iv 1, .unset, .unset, .unset, .unset, .unset, .unset, .unset] [])
      refine own_st (fun t k => XS.iconst X0.here hx rfl (hb hby at_25) k) ?_
      show own_E p e below _ s₁ (mkF m 26 #[.val (.long q1), .second, .val (.long q2), .second, iv p3, iv 1, .unset, .unset, .unset, .unset, .unset, .unset, .unset] [.int 0])
      refine own_st (fun t k => XS.istore X0.here hx rfl (hb hby at_26) rfl (l' := #[.val (.long q1), .second, .val (.long q2), .second, iv p3, iv 1, iv 0, .unset, .unset, .unset, .unset, .unset, .unset]) rfl k) ?_
      show own_E p e below _ s₁ (mkF m 28 #[.val (.long q1), .second, .val (.long q2), .second, iv p3, iv 1, iv 0, .unset, .unset, .unset, .unset, .unset, .unset] [])
      refine own_st (fun t k => XS.iload X0.here hx rfl (hb hby at_28) rfl k) ?_
      show own_E p e below _ s₁ (mkF m 30 #[.val (.long q1), .second, .val (.long q2), .second, iv p3, iv 1, iv 0, .unset, .unset, .unset, .unset, .unset, .unset] [.int p3])
      refine own_st (fun t k => XS.iconst X0.here hx rfl (hb hby at_30) k) ?_
      show own_E p e below _ s₁ (mkF m 31 #[.val (.long q1), .second, .val (.long q2), .second, iv p3, iv 1, iv 0, .unset, .unset, .unset, .unset, .unset, .unset] [.int 4, .int p3])
      refine own_st (fun t k => XS.iand X0.here hx rfl (hb hby at_31) rfl k) ?_
      show own_E p e below _ s₁ (mkF m 32 #[.val (.long q1), .second, .val (.long q2), .second, iv p3, iv 1, iv 0, .unset, .unset, .unset, .unset, .unset, .unset] [.int (p3 &&& (4 : Int32))])
      by_cases hc284 : (p3 &&& (4 : Int32)) = (0 : Int32)
      · refine own_st (fun t k => XS.ifYes X0.here hx rfl (pc0 := 32) (pc' := 39) rfl (hb hby at_32) rfl ((if0 _ _).trans (teq hc284).1) (by decide) (by decide) k) ?_
        show own_E p e below _ s₁ (mkF m 39 #[.val (.long q1), .second, .val (.long q2), .second, iv p3, iv 1, iv 0, .unset, .unset, .unset, .unset, .unset, .unset] [])
        refine own_st (fun t k => XS.lloadN X0.here hx rfl (hb hby at_39) rfl k) ?_
        show own_E p e below _ s₁ (mkF m 40 #[.val (.long q1), .second, .val (.long q2), .second, iv p3, iv 1, iv 0, .unset, .unset, .unset, .unset, .unset, .unset] [.long q2])
        refine own_st (fun t k => XS.lstore X0.here hx rfl (hb hby at_40) rfl (l' := #[.val (.long q1), .second, .val (.long q2), .second, iv p3, iv 1, iv 0, .val (.long q2), .second, .unset, .unset, .unset, .unset]) rfl k) ?_
        show own_E p e below _ s₁ (mkF m 42 #[.val (.long q1), .second, .val (.long q2), .second, iv p3, iv 1, iv 0, .val (.long q2), .second, .unset, .unset, .unset, .unset] [])
        refine own_st (fun t k => XS.iload X0.here hx rfl (hb hby at_42) rfl k) ?_
        show own_E p e below _ s₁ (mkF m 44 #[.val (.long q1), .second, .val (.long q2), .second, iv p3, iv 1, iv 0, .val (.long q2), .second, .unset, .unset, .unset, .unset] [.int p3])
        refine own_st (fun t k => XS.iconst X0.here hx rfl (hb hby at_44) k) ?_
        show own_E p e below _ s₁ (mkF m 45 #[.val (.long q1), .second, .val (.long q2), .second, iv p3, iv 1, iv 0, .val (.long q2), .second, .unset, .unset, .unset, .unset] [.int 3, .int p3])
        refine own_st (fun t k => XS.iushr X0.here hx rfl (hb hby at_45) rfl k) ?_
        show own_E p e below _ s₁ (mkF m 46 #[.val (.long q1), .second, .val (.long q2), .second, iv p3, iv 1, iv 0, .val (.long q2), .second, .unset, .unset, .unset, .unset] [.int ((p3.toUInt32 >>> ((3 : Int32) &&& 31).toUInt32).toInt32)])
        refine own_st (fun t k => XS.iconst X0.here hx rfl (hb hby at_46) k) ?_
        show own_E p e below _ s₁ (mkF m 47 #[.val (.long q1), .second, .val (.long q2), .second, iv p3, iv 1, iv 0, .val (.long q2), .second, .unset, .unset, .unset, .unset] [.int 3, .int ((p3.toUInt32 >>> ((3 : Int32) &&& 31).toUInt32).toInt32)])
        refine own_st (fun t k => XS.iand X0.here hx rfl (hb hby at_47) rfl k) ?_
        show own_E p e below _ s₁ (mkF m 48 #[.val (.long q1), .second, .val (.long q2), .second, iv p3, iv 1, iv 0, .val (.long q2), .second, .unset, .unset, .unset, .unset] [.int (((p3.toUInt32 >>> ((3 : Int32) &&& 31).toUInt32).toInt32) &&& (3 : Int32))])
        refine own_st (fun t k => XS.istore X0.here hx rfl (hb hby at_48) rfl (l' := #[.val (.long q1), .second, .val (.long q2), .second, iv p3, iv 1, iv 0, .val (.long q2), .second, iv (((p3.toUInt32 >>> ((3 : Int32) &&& 31).toUInt32).toInt32) &&& (3 : Int32)), .unset, .unset, .unset]) rfl k) ?_
        show own_E p e below _ s₁ (mkF m 50 #[.val (.long q1), .second, .val (.long q2), .second, iv p3, iv 1, iv 0, .val (.long q2), .second, iv (((p3.toUInt32 >>> ((3 : Int32) &&& 31).toUInt32).toInt32) &&& (3 : Int32)), .unset, .unset, .unset] [])
        obtain ⟨T285, h285, X285, e285, E285, A285, D285, -, st285⟩ := newO X0 hx hZ hown (own_w hw 0 rfl) (own_w hw 1 rfl) (own_w hw 2 rfl) e0 (g := (mkF m 50 #[.val (.long q1), .second, .val (.long q2), .second, iv p3, iv 1, iv 0, .val (.long q2), .second, iv (((p3.toUInt32 >>> ((3 : Int32) &&& 31).toUInt32).toInt32) &&& (3 : Int32)), .unset, .unset, .unset] [])) rfl (hb hby at_50) (by decide) (by decide)
        obtain ⟨b285, g285⟩ : ∃ z, z = h0.size := ⟨_, rfl⟩
        rw [← g285] at A285 D285 st285
        have g_b285 : n0 ≤ b285 := Nat.le_trans Z0 (Nat.le_of_eq g285.symm)
        have sz_b285 : h0.size ≤ b285 := Nat.le_trans (Keep.refl h0 []).1 (Nat.le_of_eq g285.symm)
        have Z286 := Nat.le_trans Z0 E285.1
        have K287 : Keep h0 _ [] := (Keep.refl h0 []).ext E285
        have F_count_b285 : Fld Z h285 b285 "com/example/tight_fence/tightfence/engine/TemporalValue" "count" "J" (.long (0 : Int64)) := D285 (Or.inr (own_w hw 10 rfl)) (ty := .long) (by decide)
        have F_fromClock_b285 : Fld Z h285 b285 "com/example/tight_fence/tightfence/engine/TemporalValue" "fromClock" "Z" (.int (0 : Int32)) := D285 (Or.inr (own_w hw 12 rfl)) (ty := .boolean) (by decide)
        refine own_st st285 ?_
        show own_E p e below _ T285 (mkF m 53 #[.val (.long q1), .second, .val (.long q2), .second, iv p3, iv 1, iv 0, .val (.long q2), .second, iv (((p3.toUInt32 >>> ((3 : Int32) &&& 31).toUInt32).toInt32) &&& (3 : Int32)), .unset, .unset, .unset] [.ref b285])
        refine own_st (fun t k => XS.dup X285.here hx rfl (hb hby at_53) rfl rfl k) ?_
        show own_E p e below _ T285 (mkF m 54 #[.val (.long q1), .second, .val (.long q2), .second, iv p3, iv 1, iv 0, .val (.long q2), .second, iv (((p3.toUInt32 >>> ((3 : Int32) &&& 31).toUInt32).toInt32) &&& (3 : Int32)), .unset, .unset, .unset] [.ref b285, .ref b285])
        refine own_st (fun t k => XS.lloadN X285.here hx rfl (hb hby at_54) rfl k) ?_
        show own_E p e below _ T285 (mkF m 55 #[.val (.long q1), .second, .val (.long q2), .second, iv p3, iv 1, iv 0, .val (.long q2), .second, iv (((p3.toUInt32 >>> ((3 : Int32) &&& 31).toUInt32).toInt32) &&& (3 : Int32)), .unset, .unset, .unset] [.long q1, .ref b285, .ref b285])
        refine own_st (fun t k => XS.iload X285.here hx rfl (hb hby at_55) rfl k) ?_
        show own_E p e below _ T285 (mkF m 57 #[.val (.long q1), .second, .val (.long q2), .second, iv p3, iv 1, iv 0, .val (.long q2), .second, iv (((p3.toUInt32 >>> ((3 : Int32) &&& 31).toUInt32).toInt32) &&& (3 : Int32)), .unset, .unset, .unset] [.int 1, .long q1, .ref b285, .ref b285])
        obtain ⟨_, _, ⟨T288, L288, k288, n288⟩, -, X288, ⟨Lc288, hQ288, l288, y288, z288⟩, st288⟩ := X285.specialBack hx (y := own_y3) rfl hown (mvT hZ (own_w hw 3 rfl)) (mvT hZ (own_w hw 4 rfl)) (mvT hZ (own_w hw 5 rfl)) (by decide) (backOf (W := 1) (own_init1 l Z a0 hw [] b285 q1 h285 n0 Z286 A285 F_count_b285 F_fromClock_b285 g_b285) hZ (own_w hw 5 rfl) (own_w hw 2 rfl) (by decide) (by decide)) (g := (mkF m 57 #[.val (.long q1), .second, .val (.long q2), .second, iv p3, iv 1, iv 0, .val (.long q2), .second, iv (((p3.toUInt32 >>> ((3 : Int32) &&& 31).toUInt32).toInt32) &&& (3 : Int32)), .unset, .unset, .unset] [.int 1, .long q1, .ref b285, .ref b285])) rfl (by rw [hml]; rfl) (Steps.refl _) (a := b285) (argsL := [(.long q1), (.int (1 : Int32))]) (rest := [(.ref b285)]) (lenOf own_pd_4 rfl) rfl (by show 2 * 0 + _ ≤ _; exact Nat.le_of_eq rfl) (hb hby at_57) (fun _ _ => ⟨rfl, e285, (by decide : 1 + 0 ≤ _), (by decide : 2 + 0 ≤ _)⟩)
        dsimp only [Pt.U, Pt.locs, Pt.cells, Pt.slots] at X288 l288 y288 z288 st288 hQ288
        subst l288 y288 z288
        obtain ⟨rfl, Nq288, Kq288, P288_0, P288_1⟩ := hQ288
        have N288 := Fr.app (Fr.nil n0) Nq288
        have e288 : T288.heap = T288.heap := rfl
        have Z289 := Nat.le_trans Z286 Kq288.1
        have K290 : Keep h0 _ [] := K287.trans Kq288 (allS (P := fun x => x ∈ [] ∨ h0.size ≤ x) (Or.inr sz_b285) all0)
        refine own_tr st288 ?_
        show own_E p e below _ T288 (mkF m 60 #[.val (.long q1), .second, .val (.long q2), .second, iv p3, iv 1, iv 0, .val (.long q2), .second, iv (((p3.toUInt32 >>> ((3 : Int32) &&& 31).toUInt32).toInt32) &&& (3 : Int32)), .unset, .unset, .unset] [.ref b285])
        refine own_st (fun t k => XS.astore X288.here hx rfl (hb hby at_60) rfl rfl (l' := #[.val (.long q1), .second, .val (.long q2), .second, iv p3, iv 1, iv 0, .val (.long q2), .second, iv (((p3.toUInt32 >>> ((3 : Int32) &&& 31).toUInt32).toInt32) &&& (3 : Int32)), rv b285, .unset, .unset]) rfl k) ?_
        show own_E p e below _ T288 (mkF m 62 #[.val (.long q1), .second, .val (.long q2), .second, iv p3, iv 1, iv 0, .val (.long q2), .second, iv (((p3.toUInt32 >>> ((3 : Int32) &&& 31).toUInt32).toInt32) &&& (3 : Int32)), rv b285, .unset, .unset] [])
        refine own_st (fun t k => XS.aload X288.here hx rfl (hb hby at_62) rfl rfl k) ?_
        show own_E p e below _ T288 (mkF m 64 #[.val (.long q1), .second, .val (.long q2), .second, iv p3, iv 1, iv 0, .val (.long q2), .second, iv (((p3.toUInt32 >>> ((3 : Int32) &&& 31).toUInt32).toInt32) &&& (3 : Int32)), rv b285, .unset, .unset] [.ref b285])
        refine own_st (fun t k => XS.aload X288.here hx rfl (hb hby at_64) rfl rfl k) ?_
        show own_E p e below _ T288 (mkF m 66 #[.val (.long q1), .second, .val (.long q2), .second, iv p3, iv 1, iv 0, .val (.long q2), .second, iv (((p3.toUInt32 >>> ((3 : Int32) &&& 31).toUInt32).toInt32) &&& (3 : Int32)), rv b285, .unset, .unset] [.ref b285, .ref b285])
        obtain ⟨cq291, kq291, q291a, q291b, q291c⟩ := isOf hZ e288 P288_0
        obtain ⟨_, _, ⟨T291, L291, k291, n291⟩, -, X291, ⟨Lc291, hQ291, l291, y291, z291⟩, st291⟩ := X288.virtualBack hx (y := own_y4) (z := own_y4) hown (mvT hZ (own_w hw 13 rfl)) (mvT hZ (own_w hw 14 rfl)) (notFace_of_selects (args := #[]) (mvT hZ (own_w hw 16 rfl))) (mvT hZ (own_w hw 16 rfl)) (mvT hZ (own_w hw 15 rfl)) (by decide) (backOf (W := 0) (own_eqT l Z a0 hw [] b285 b285 q1 q1 T288.heap n0 Z289 P288_0 P288_1 P288_1) hZ (own_w hw 17 rfl) (own_w hw 2 rfl) (by decide) (by decide)) q291a q291c (g := (mkF m 66 #[.val (.long q1), .second, .val (.long q2), .second, iv p3, iv 1, iv 0, .val (.long q2), .second, iv (((p3.toUInt32 >>> ((3 : Int32) &&& 31).toUInt32).toInt32) &&& (3 : Int32)), rv b285, .unset, .unset] [.ref b285, .ref b285])) rfl (by rw [hml]; rfl) (Steps.refl _) (argsL := [(.ref b285)]) (rest := []) (lenOf own_pd_5 rfl) rfl (by show 2 * 0 + _ ≤ _; exact Nat.le_of_eq rfl) (hb hby at_66) (fun _ _ => ⟨rfl, e288, (by decide : 1 + 0 ≤ _), (by decide : 2 + 0 ≤ _)⟩)
        dsimp only [Pt.U, Pt.locs, Pt.cells, Pt.slots] at X291 l291 y291 z291 st291 hQ291
        subst l291 y291 z291
        obtain ⟨hR291, e291, rfl⟩ := hQ291
        have N291 := Fr.app N288 (Fr.nil n0)
        rcases hR291 with ⟨rfl, ha291_0⟩ | ⟨rfl, ha291_0⟩
        · refine own_tr st291 ?_
          show own_E p e below _ T291 (mkF m 69 #[.val (.long q1), .second, .val (.long q2), .second, iv p3, iv 1, iv 0, .val (.long q2), .second, iv (((p3.toUInt32 >>> ((3 : Int32) &&& 31).toUInt32).toInt32) &&& (3 : Int32)), rv b285, .unset, .unset] [.int 1])
          refine own_st (fun t k => XS.ifYes X291.here hx rfl (pc0 := 69) (pc' := 74) rfl (hb hby at_69) rfl (by decide) (by decide) (by decide) k) ?_
          show own_E p e below _ T291 (mkF m 74 #[.val (.long q1), .second, .val (.long q2), .second, iv p3, iv 1, iv 0, .val (.long q2), .second, iv (((p3.toUInt32 >>> ((3 : Int32) &&& 31).toUInt32).toInt32) &&& (3 : Int32)), rv b285, .unset, .unset] [])
          refine own_st (fun t k => XS.iload X291.here hx rfl (hb hby at_74) rfl k) ?_
          show own_E p e below _ T291 (mkF m 76 #[.val (.long q1), .second, .val (.long q2), .second, iv p3, iv 1, iv 0, .val (.long q2), .second, iv (((p3.toUInt32 >>> ((3 : Int32) &&& 31).toUInt32).toInt32) &&& (3 : Int32)), rv b285, .unset, .unset] [.int (((p3.toUInt32 >>> ((3 : Int32) &&& 31).toUInt32).toInt32) &&& (3 : Int32))])
          refine own_st (fun t k => XS.iconst X291.here hx rfl (hb hby at_76) k) ?_
          show own_E p e below _ T291 (mkF m 77 #[.val (.long q1), .second, .val (.long q2), .second, iv p3, iv 1, iv 0, .val (.long q2), .second, iv (((p3.toUInt32 >>> ((3 : Int32) &&& 31).toUInt32).toInt32) &&& (3 : Int32)), rv b285, .unset, .unset] [.int 1, .int (((p3.toUInt32 >>> ((3 : Int32) &&& 31).toUInt32).toInt32) &&& (3 : Int32))])
          by_cases hc292 : (((p3.toUInt32 >>> ((3 : Int32) &&& 31).toUInt32).toInt32) &&& (3 : Int32)) = (1 : Int32)
          · refine own_st (fun t k => XS.icmpNo X291.here hx rfl (hb hby at_77) rfl (teq hc292).2 k) ?_
            show own_E p e below _ T291 (mkF m 80 #[.val (.long q1), .second, .val (.long q2), .second, iv p3, iv 1, iv 0, .val (.long q2), .second, iv (((p3.toUInt32 >>> ((3 : Int32) &&& 31).toUInt32).toInt32) &&& (3 : Int32)), rv b285, .unset, .unset] [])
            refine own_st (fun t k => XS.aload X291.here hx rfl (hb hby at_80) rfl rfl k) ?_
            show own_E p e below _ T291 (mkF m 82 #[.val (.long q1), .second, .val (.long q2), .second, iv p3, iv 1, iv 0, .val (.long q2), .second, iv (((p3.toUInt32 >>> ((3 : Int32) &&& 31).toUInt32).toInt32) &&& (3 : Int32)), rv b285, .unset, .unset] [.ref b285])
            refine own_st (fun t k => XS.aconstNull X291.here hx rfl (hb hby at_82) k) ?_
            show own_E p e below _ T291 (mkF m 83 #[.val (.long q1), .second, .val (.long q2), .second, iv p3, iv 1, iv 0, .val (.long q2), .second, iv (((p3.toUInt32 >>> ((3 : Int32) &&& 31).toUInt32).toInt32) &&& (3 : Int32)), rv b285, .unset, .unset] [.null, .ref b285])
            obtain ⟨cq293, kq293, q293a, q293b, q293c⟩ := isOf hZ e291 P288_0
            obtain ⟨_, _, ⟨T293, L293, k293, n293⟩, -, X293, ⟨Lc293, hQ293, l293, y293, z293⟩, st293⟩ := X291.virtualBack hx (y := own_y4) (z := own_y4) hown (mvT hZ (own_w hw 13 rfl)) (mvT hZ (own_w hw 14 rfl)) (notFace_of_selects (args := #[]) (mvT hZ (own_w hw 16 rfl))) (mvT hZ (own_w hw 16 rfl)) (mvT hZ (own_w hw 15 rfl)) (by decide) (backOf (W := 0) (own_eqN l Z a0 hw [] b285 T288.heap n0 Z289 ) hZ (own_w hw 17 rfl) (own_w hw 2 rfl) (by decide) (by decide)) q293a q293c (g := (mkF m 83 #[.val (.long q1), .second, .val (.long q2), .second, iv p3, iv 1, iv 0, .val (.long q2), .second, iv (((p3.toUInt32 >>> ((3 : Int32) &&& 31).toUInt32).toInt32) &&& (3 : Int32)), rv b285, .unset, .unset] [.null, .ref b285])) rfl (by rw [hml]; rfl) (Steps.refl _) (argsL := [.null]) (rest := []) (lenOf own_pd_5 rfl) rfl (by show 2 * 0 + _ ≤ _; exact Nat.le_of_eq rfl) (hb hby at_83) (fun _ _ => ⟨rfl, e291, (by decide : 1 + 0 ≤ _), (by decide : 2 + 0 ≤ _)⟩)
            dsimp only [Pt.U, Pt.locs, Pt.cells, Pt.slots] at X293 l293 y293 z293 st293 hQ293
            subst l293 y293 z293
            obtain ⟨hR293, e293, rfl⟩ := hQ293
            have N293 := Fr.app N291 (Fr.nil n0)
            obtain rfl := hR293
            refine own_tr st293 ?_
            show own_E p e below _ T293 (mkF m 86 #[.val (.long q1), .second, .val (.long q2), .second, iv p3, iv 1, iv 0, .val (.long q2), .second, iv (((p3.toUInt32 >>> ((3 : Int32) &&& 31).toUInt32).toInt32) &&& (3 : Int32)), rv b285, .unset, .unset] [.int 0])
            refine own_st (fun t k => XS.ifNo X293.here hx rfl (hb hby at_86) rfl (by decide) k) ?_
            show own_E p e below _ T293 (mkF m 89 #[.val (.long q1), .second, .val (.long q2), .second, iv p3, iv 1, iv 0, .val (.long q2), .second, iv (((p3.toUInt32 >>> ((3 : Int32) &&& 31).toUInt32).toInt32) &&& (3 : Int32)), rv b285, .unset, .unset] [])
            refine own_st (fun t k => XS.iconst X293.here hx rfl (hb hby at_89) k) ?_
            show own_E p e below _ T293 (mkF m 90 #[.val (.long q1), .second, .val (.long q2), .second, iv p3, iv 1, iv 0, .val (.long q2), .second, iv (((p3.toUInt32 >>> ((3 : Int32) &&& 31).toUInt32).toInt32) &&& (3 : Int32)), rv b285, .unset, .unset] [.int 1])
            refine own_st (fun t k => XS.goto X293.here hx rfl (pc0 := 90) (pc' := 94) rfl (hb hby at_90) (by decide) (by decide) k) ?_
            show own_E p e below _ T293 (mkF m 94 #[.val (.long q1), .second, .val (.long q2), .second, iv p3, iv 1, iv 0, .val (.long q2), .second, iv (((p3.toUInt32 >>> ((3 : Int32) &&& 31).toUInt32).toInt32) &&& (3 : Int32)), rv b285, .unset, .unset] [.int 1])
            refine own_retS X293 hx Bd.notSynchronized Bd.returns rfl (by decide) (hb hby at_94) (by decide) (by decide) ?_
            exact ⟨rfl, N293⟩
          · refine own_st (fun t k => XS.icmpYes X291.here hx rfl (pc0 := 77) (pc' := 95) rfl (hb hby at_77) rfl (feq hc292).2 (by decide) (by decide) k) ?_
            show own_E p e below _ T291 (mkF m 95 #[.val (.long q1), .second, .val (.long q2), .second, iv p3, iv 1, iv 0, .val (.long q2), .second, iv (((p3.toUInt32 >>> ((3 : Int32) &&& 31).toUInt32).toInt32) &&& (3 : Int32)), rv b285, .unset, .unset] [])
            refine own_st (fun t k => XS.iload X291.here hx rfl (hb hby at_95) rfl k) ?_
            show own_E p e below _ T291 (mkF m 97 #[.val (.long q1), .second, .val (.long q2), .second, iv p3, iv 1, iv 0, .val (.long q2), .second, iv (((p3.toUInt32 >>> ((3 : Int32) &&& 31).toUInt32).toInt32) &&& (3 : Int32)), rv b285, .unset, .unset] [.int (((p3.toUInt32 >>> ((3 : Int32) &&& 31).toUInt32).toInt32) &&& (3 : Int32))])
            refine own_st (fun t k => XS.iconst X291.here hx rfl (hb hby at_97) k) ?_
            show own_E p e below _ T291 (mkF m 98 #[.val (.long q1), .second, .val (.long q2), .second, iv p3, iv 1, iv 0, .val (.long q2), .second, iv (((p3.toUInt32 >>> ((3 : Int32) &&& 31).toUInt32).toInt32) &&& (3 : Int32)), rv b285, .unset, .unset] [.int 2, .int (((p3.toUInt32 >>> ((3 : Int32) &&& 31).toUInt32).toInt32) &&& (3 : Int32))])
            by_cases hc294 : (((p3.toUInt32 >>> ((3 : Int32) &&& 31).toUInt32).toInt32) &&& (3 : Int32)) = (2 : Int32)
            · refine own_st (fun t k => XS.icmpNo X291.here hx rfl (hb hby at_98) rfl (teq hc294).2 k) ?_
              show own_E p e below _ T291 (mkF m 101 #[.val (.long q1), .second, .val (.long q2), .second, iv p3, iv 1, iv 0, .val (.long q2), .second, iv (((p3.toUInt32 >>> ((3 : Int32) &&& 31).toUInt32).toInt32) &&& (3 : Int32)), rv b285, .unset, .unset] [])
              refine own_st (fun t k => XS.lloadN X291.here hx rfl (hb hby at_101) rfl k) ?_
              show own_E p e below _ T291 (mkF m 102 #[.val (.long q1), .second, .val (.long q2), .second, iv p3, iv 1, iv 0, .val (.long q2), .second, iv (((p3.toUInt32 >>> ((3 : Int32) &&& 31).toUInt32).toInt32) &&& (3 : Int32)), rv b285, .unset, .unset] [.long q1])
              obtain ⟨_, _, ⟨T295, L295, k295, n295⟩, -, X295, ⟨Lc295, hQ295, l295, y295, z295⟩, st295⟩ := Jvm.LawKit.callS X291 hx (y := own_y2) hown (mvT hZ (own_w hw 20 rfl)) (mvT hZ (own_w hw 21 rfl)) (mvT hZ (own_w hw 22 rfl)) (mvT hZ (own_w hw 23 rfl)) (by decide) (backOf (W := 0) (own_lval l Z a0 hw [] q1 T288.heap n0 Z289 (own_cache_keep hC K290)) hZ (own_w hw 23 rfl) (own_w hw 22 rfl) (by decide) (by decide)) (g := (mkF m 102 #[.val (.long q1), .second, .val (.long q2), .second, iv p3, iv 1, iv 0, .val (.long q2), .second, iv (((p3.toUInt32 >>> ((3 : Int32) &&& 31).toUInt32).toInt32) &&& (3 : Int32)), rv b285, .unset, .unset] [.long q1])) rfl (by rw [hml]; rfl) (argsL := [(.long q1)]) (rest := []) (lenOf own_pd_1 rfl) rfl (by show 2 * 0 + _ ≤ _; exact Nat.le_of_eq rfl) (hb hby at_102) (fun _ _ => ⟨rfl, e291, (by decide : 1 + 1 ≤ _), (by decide : 2 + 1 ≤ _)⟩)
              dsimp only [Pt.U, Pt.locs, Pt.cells, Pt.slots] at X295 l295 y295 z295 st295 hQ295
              subst l295 y295 z295
              obtain ⟨b295_o, rfl, Nq295, Kq295, P295⟩ := hQ295
              have N295 := Fr.app N291 Nq295
              have e295 : T295.heap = T295.heap := rfl
              have Z296 := Nat.le_trans Z289 Kq295.1
              have K297 : Keep h0 _ [] := K290.trans Kq295 all0
              refine own_st st295 ?_
              show own_E p e below _ T295 (mkF m 105 #[.val (.long q1), .second, .val (.long q2), .second, iv p3, iv 1, iv 0, .val (.long q2), .second, iv (((p3.toUInt32 >>> ((3 : Int32) &&& 31).toUInt32).toInt32) &&& (3 : Int32)), rv b285, .unset, .unset] [.ref b295_o])
              refine own_st (fun t k => XS.astore X295.here hx rfl (hb hby at_105) rfl rfl (l' := #[.val (.long q1), .second, .val (.long q2), .second, iv p3, iv 1, iv 0, .val (.long q2), .second, iv (((p3.toUInt32 >>> ((3 : Int32) &&& 31).toUInt32).toInt32) &&& (3 : Int32)), rv b285, rv b295_o, .unset]) rfl k) ?_
              show own_E p e below _ T295 (mkF m 107 #[.val (.long q1), .second, .val (.long q2), .second, iv p3, iv 1, iv 0, .val (.long q2), .second, iv (((p3.toUInt32 >>> ((3 : Int32) &&& 31).toUInt32).toInt32) &&& (3 : Int32)), rv b285, rv b295_o, .unset] [])
              refine own_st (fun t k => XS.aload X295.here hx rfl (hb hby at_107) rfl rfl k) ?_
              show own_E p e below _ T295 (mkF m 109 #[.val (.long q1), .second, .val (.long q2), .second, iv p3, iv 1, iv 0, .val (.long q2), .second, iv (((p3.toUInt32 >>> ((3 : Int32) &&& 31).toUInt32).toInt32) &&& (3 : Int32)), rv b285, rv b295_o, .unset] [.ref b285])
              refine own_st (fun t k => XS.aload X295.here hx rfl (hb hby at_109) rfl rfl k) ?_
              show own_E p e below _ T295 (mkF m 111 #[.val (.long q1), .second, .val (.long q2), .second, iv p3, iv 1, iv 0, .val (.long q2), .second, iv (((p3.toUInt32 >>> ((3 : Int32) &&& 31).toUInt32).toInt32) &&& (3 : Int32)), rv b285, rv b295_o, .unset] [.ref b295_o, .ref b285])
              have B299 := (P288_0.keep Kq295)
              obtain ⟨cq298, kq298, q298a, q298b, q298c⟩ := isOf hZ e295 B299
              obtain ⟨_, _, ⟨T298, L298, k298, n298⟩, -, X298, ⟨Lc298, hQ298, l298, y298, z298⟩, st298⟩ := X295.virtualBack hx (y := own_y4) (z := own_y4) hown (mvT hZ (own_w hw 13 rfl)) (mvT hZ (own_w hw 14 rfl)) (notFace_of_selects (args := #[]) (mvT hZ (own_w hw 16 rfl))) (mvT hZ (own_w hw 16 rfl)) (mvT hZ (own_w hw 15 rfl)) (by decide) (backOf (W := 0) (own_eqL l Z a0 hw [] b285 b295_o T295.heap n0 Z296 P295) hZ (own_w hw 17 rfl) (own_w hw 2 rfl) (by decide) (by decide)) q298a q298c (g := (mkF m 111 #[.val (.long q1), .second, .val (.long q2), .second, iv p3, iv 1, iv 0, .val (.long q2), .second, iv (((p3.toUInt32 >>> ((3 : Int32) &&& 31).toUInt32).toInt32) &&& (3 : Int32)), rv b285, rv b295_o, .unset] [.ref b295_o, .ref b285])) rfl (by rw [hml]; rfl) (Steps.refl _) (argsL := [(.ref b295_o)]) (rest := []) (lenOf own_pd_5 rfl) rfl (by show 2 * 0 + _ ≤ _; exact Nat.le_of_eq rfl) (hb hby at_111) (fun _ _ => ⟨rfl, e295, (by decide : 2 + 0 ≤ _), (by decide : 3 + 0 ≤ _)⟩)
              dsimp only [Pt.U, Pt.locs, Pt.cells, Pt.slots] at X298 l298 y298 z298 st298 hQ298
              subst l298 y298 z298
              obtain ⟨hR298, e298, rfl⟩ := hQ298
              have N298 := Fr.app N295 (Fr.nil n0)
              obtain rfl := hR298
              refine own_tr st298 ?_
              show own_E p e below _ T298 (mkF m 114 #[.val (.long q1), .second, .val (.long q2), .second, iv p3, iv 1, iv 0, .val (.long q2), .second, iv (((p3.toUInt32 >>> ((3 : Int32) &&& 31).toUInt32).toInt32) &&& (3 : Int32)), rv b285, rv b295_o, .unset] [.int 0])
              refine own_st (fun t k => XS.ifNo X298.here hx rfl (hb hby at_114) rfl (by decide) k) ?_
              show own_E p e below _ T298 (mkF m 117 #[.val (.long q1), .second, .val (.long q2), .second, iv p3, iv 1, iv 0, .val (.long q2), .second, iv (((p3.toUInt32 >>> ((3 : Int32) &&& 31).toUInt32).toInt32) &&& (3 : Int32)), rv b285, rv b295_o, .unset] [])
              refine own_st (fun t k => XS.iconst X298.here hx rfl (hb hby at_117) k) ?_
              show own_E p e below _ T298 (mkF m 118 #[.val (.long q1), .second, .val (.long q2), .second, iv p3, iv 1, iv 0, .val (.long q2), .second, iv (((p3.toUInt32 >>> ((3 : Int32) &&& 31).toUInt32).toInt32) &&& (3 : Int32)), rv b285, rv b295_o, .unset] [.int 1])
              refine own_st (fun t k => XS.goto X298.here hx rfl (pc0 := 118) (pc' := 122) rfl (hb hby at_118) (by decide) (by decide) k) ?_
              show own_E p e below _ T298 (mkF m 122 #[.val (.long q1), .second, .val (.long q2), .second, iv p3, iv 1, iv 0, .val (.long q2), .second, iv (((p3.toUInt32 >>> ((3 : Int32) &&& 31).toUInt32).toInt32) &&& (3 : Int32)), rv b285, rv b295_o, .unset] [.int 1])
              refine own_retS X298 hx Bd.notSynchronized Bd.returns rfl (by decide) (hb hby at_122) (by decide) (by decide) ?_
              exact ⟨rfl, N298⟩
            · refine own_st (fun t k => XS.icmpYes X291.here hx rfl (pc0 := 98) (pc' := 123) rfl (hb hby at_98) rfl (feq hc294).2 (by decide) (by decide) k) ?_
              show own_E p e below _ T291 (mkF m 123 #[.val (.long q1), .second, .val (.long q2), .second, iv p3, iv 1, iv 0, .val (.long q2), .second, iv (((p3.toUInt32 >>> ((3 : Int32) &&& 31).toUInt32).toInt32) &&& (3 : Int32)), rv b285, .unset, .unset] [])
              obtain ⟨T300, h300, X300, e300, E300, A300, D300, -, st300⟩ := newO X291 hx hZ hown (own_w hw 0 rfl) (own_w hw 1 rfl) (own_w hw 2 rfl) e291 (g := (mkF m 123 #[.val (.long q1), .second, .val (.long q2), .second, iv p3, iv 1, iv 0, .val (.long q2), .second, iv (((p3.toUInt32 >>> ((3 : Int32) &&& 31).toUInt32).toInt32) &&& (3 : Int32)), rv b285, .unset, .unset] [])) rfl (hb hby at_123) (by decide) (by decide)
              obtain ⟨b300, g300⟩ : ∃ z, z = T288.heap.size := ⟨_, rfl⟩
              rw [← g300] at A300 D300 st300
              have ne_b285_b300 : b285 ≠ b300 := Nat.ne_of_lt (Nat.lt_of_lt_of_le P288_0.lt (Nat.le_of_eq g300.symm))
              have g_b300 : n0 ≤ b300 := Nat.le_trans Z289 (Nat.le_of_eq g300.symm)
              have sz_b300 : h0.size ≤ b300 := Nat.le_trans K290.1 (Nat.le_of_eq g300.symm)
              have Z301 := Nat.le_trans Z289 E300.1
              have K302 : Keep h0 _ [] := K290.ext E300
              have F_count_b300 : Fld Z h300 b300 "com/example/tight_fence/tightfence/engine/TemporalValue" "count" "J" (.long (0 : Int64)) := D300 (Or.inr (own_w hw 10 rfl)) (ty := .long) (by decide)
              have F_fromClock_b300 : Fld Z h300 b300 "com/example/tight_fence/tightfence/engine/TemporalValue" "fromClock" "Z" (.int (0 : Int32)) := D300 (Or.inr (own_w hw 12 rfl)) (ty := .boolean) (by decide)
              refine own_st st300 ?_
              show own_E p e below _ T300 (mkF m 126 #[.val (.long q1), .second, .val (.long q2), .second, iv p3, iv 1, iv 0, .val (.long q2), .second, iv (((p3.toUInt32 >>> ((3 : Int32) &&& 31).toUInt32).toInt32) &&& (3 : Int32)), rv b285, .unset, .unset] [.ref b300])
              refine own_st (fun t k => XS.dup X300.here hx rfl (hb hby at_126) rfl rfl k) ?_
              show own_E p e below _ T300 (mkF m 127 #[.val (.long q1), .second, .val (.long q2), .second, iv p3, iv 1, iv 0, .val (.long q2), .second, iv (((p3.toUInt32 >>> ((3 : Int32) &&& 31).toUInt32).toInt32) &&& (3 : Int32)), rv b285, .unset, .unset] [.ref b300, .ref b300])
              refine own_st (fun t k => XS.lload X300.here hx rfl (hb hby at_127) rfl k) ?_
              show own_E p e below _ T300 (mkF m 129 #[.val (.long q1), .second, .val (.long q2), .second, iv p3, iv 1, iv 0, .val (.long q2), .second, iv (((p3.toUInt32 >>> ((3 : Int32) &&& 31).toUInt32).toInt32) &&& (3 : Int32)), rv b285, .unset, .unset] [.long q2, .ref b300, .ref b300])
              refine own_st (fun t k => XS.iload X300.here hx rfl (hb hby at_129) rfl k) ?_
              show own_E p e below _ T300 (mkF m 131 #[.val (.long q1), .second, .val (.long q2), .second, iv p3, iv 1, iv 0, .val (.long q2), .second, iv (((p3.toUInt32 >>> ((3 : Int32) &&& 31).toUInt32).toInt32) &&& (3 : Int32)), rv b285, .unset, .unset] [.int 0, .long q2, .ref b300, .ref b300])
              obtain ⟨_, _, ⟨T303, L303, k303, n303⟩, -, X303, ⟨Lc303, hQ303, l303, y303, z303⟩, st303⟩ := X300.specialBack hx (y := own_y3) rfl hown (mvT hZ (own_w hw 3 rfl)) (mvT hZ (own_w hw 4 rfl)) (mvT hZ (own_w hw 5 rfl)) (by decide) (backOf (W := 1) (own_init0 l Z a0 hw [] b300 q2 h300 n0 Z301 A300 F_count_b300 F_fromClock_b300 g_b300) hZ (own_w hw 5 rfl) (own_w hw 2 rfl) (by decide) (by decide)) (g := (mkF m 131 #[.val (.long q1), .second, .val (.long q2), .second, iv p3, iv 1, iv 0, .val (.long q2), .second, iv (((p3.toUInt32 >>> ((3 : Int32) &&& 31).toUInt32).toInt32) &&& (3 : Int32)), rv b285, .unset, .unset] [.int 0, .long q2, .ref b300, .ref b300])) rfl (by rw [hml]; rfl) (Steps.refl _) (a := b300) (argsL := [(.long q2), (.int (0 : Int32))]) (rest := [(.ref b300)]) (lenOf own_pd_4 rfl) rfl (by show 2 * 0 + _ ≤ _; exact Nat.le_of_eq rfl) (hb hby at_131) (fun _ _ => ⟨rfl, e300, (by decide : 2 + 0 ≤ _), (by decide : 4 + 0 ≤ _)⟩)
              dsimp only [Pt.U, Pt.locs, Pt.cells, Pt.slots] at X303 l303 y303 z303 st303 hQ303
              subst l303 y303 z303
              obtain ⟨rfl, Nq303, Kq303, P303_0, P303_1⟩ := hQ303
              have N303 := Fr.app N291 Nq303
              have e303 : T303.heap = T303.heap := rfl
              have Z304 := Nat.le_trans Z301 Kq303.1
              have K305 : Keep h0 _ [] := K302.trans Kq303 (allS (P := fun x => x ∈ [] ∨ h0.size ≤ x) (Or.inr sz_b300) all0)
              refine own_tr st303 ?_
              show own_E p e below _ T303 (mkF m 134 #[.val (.long q1), .second, .val (.long q2), .second, iv p3, iv 1, iv 0, .val (.long q2), .second, iv (((p3.toUInt32 >>> ((3 : Int32) &&& 31).toUInt32).toInt32) &&& (3 : Int32)), rv b285, .unset, .unset] [.ref b300])
              refine own_st (fun t k => XS.astore X303.here hx rfl (hb hby at_134) rfl rfl (l' := #[.val (.long q1), .second, .val (.long q2), .second, iv p3, iv 1, iv 0, .val (.long q2), .second, iv (((p3.toUInt32 >>> ((3 : Int32) &&& 31).toUInt32).toInt32) &&& (3 : Int32)), rv b285, rv b300, .unset]) rfl k) ?_
              show own_E p e below _ T303 (mkF m 136 #[.val (.long q1), .second, .val (.long q2), .second, iv p3, iv 1, iv 0, .val (.long q2), .second, iv (((p3.toUInt32 >>> ((3 : Int32) &&& 31).toUInt32).toInt32) &&& (3 : Int32)), rv b285, rv b300, .unset] [])
              refine own_st (fun t k => XS.lloadN X303.here hx rfl (hb hby at_136) rfl k) ?_
              show own_E p e below _ T303 (mkF m 137 #[.val (.long q1), .second, .val (.long q2), .second, iv p3, iv 1, iv 0, .val (.long q2), .second, iv (((p3.toUInt32 >>> ((3 : Int32) &&& 31).toUInt32).toInt32) &&& (3 : Int32)), rv b285, rv b300, .unset] [.long q1])
              refine own_st (fun t k => XS.lload X303.here hx rfl (hb hby at_137) rfl k) ?_
              show own_E p e below _ T303 (mkF m 139 #[.val (.long q1), .second, .val (.long q2), .second, iv p3, iv 1, iv 0, .val (.long q2), .second, iv (((p3.toUInt32 >>> ((3 : Int32) &&& 31).toUInt32).toInt32) &&& (3 : Int32)), rv b285, rv b300, .unset] [.long q2, .long q1])
              refine own_st (fun t k => XS.lcmp X303.here hx rfl (hb hby at_139) rfl k) ?_
              show own_E p e below _ T303 (mkF m 140 #[.val (.long q1), .second, .val (.long q2), .second, iv p3, iv 1, iv 0, .val (.long q2), .second, iv (((p3.toUInt32 >>> ((3 : Int32) &&& 31).toUInt32).toInt32) &&& (3 : Int32)), rv b285, rv b300, .unset] [.int (lcmpW q1 q2)])
              by_cases hc306 : q1 = q2
              · refine own_st (fun t k => XS.ifNo X303.here hx rfl (hb hby at_140) rfl ((if0 _ _).trans (teq ((lw_eq _ _).mpr hc306)).2) k) ?_
                show own_E p e below _ T303 (mkF m 143 #[.val (.long q1), .second, .val (.long q2), .second, iv p3, iv 1, iv 0, .val (.long q2), .second, iv (((p3.toUInt32 >>> ((3 : Int32) &&& 31).toUInt32).toInt32) &&& (3 : Int32)), rv b285, rv b300, .unset] [])
                refine own_st (fun t k => XS.iconst X303.here hx rfl (hb hby at_143) k) ?_
                show own_E p e below _ T303 (mkF m 144 #[.val (.long q1), .second, .val (.long q2), .second, iv p3, iv 1, iv 0, .val (.long q2), .second, iv (((p3.toUInt32 >>> ((3 : Int32) &&& 31).toUInt32).toInt32) &&& (3 : Int32)), rv b285, rv b300, .unset] [.int 1])
                refine own_st (fun t k => XS.goto X303.here hx rfl (pc0 := 144) (pc' := 148) rfl (hb hby at_144) (by decide) (by decide) k) ?_
                show own_E p e below _ T303 (mkF m 148 #[.val (.long q1), .second, .val (.long q2), .second, iv p3, iv 1, iv 0, .val (.long q2), .second, iv (((p3.toUInt32 >>> ((3 : Int32) &&& 31).toUInt32).toInt32) &&& (3 : Int32)), rv b285, rv b300, .unset] [.int 1])
                refine own_st (fun t k => XS.istore X303.here hx rfl (hb hby at_148) rfl (l' := #[.val (.long q1), .second, .val (.long q2), .second, iv p3, iv 1, iv 0, .val (.long q2), .second, iv (((p3.toUInt32 >>> ((3 : Int32) &&& 31).toUInt32).toInt32) &&& (3 : Int32)), rv b285, rv b300, iv 1]) rfl k) ?_
                show own_E p e below _ T303 (mkF m 150 #[.val (.long q1), .second, .val (.long q2), .second, iv p3, iv 1, iv 0, .val (.long q2), .second, iv (((p3.toUInt32 >>> ((3 : Int32) &&& 31).toUInt32).toInt32) &&& (3 : Int32)), rv b285, rv b300, iv 1] [])
                refine own_st (fun t k => XS.aload X303.here hx rfl (hb hby at_150) rfl rfl k) ?_
                show own_E p e below _ T303 (mkF m 152 #[.val (.long q1), .second, .val (.long q2), .second, iv p3, iv 1, iv 0, .val (.long q2), .second, iv (((p3.toUInt32 >>> ((3 : Int32) &&& 31).toUInt32).toInt32) &&& (3 : Int32)), rv b285, rv b300, iv 1] [.ref b285])
                refine own_st (fun t k => XS.aload X303.here hx rfl (hb hby at_152) rfl rfl k) ?_
                show own_E p e below _ T303 (mkF m 154 #[.val (.long q1), .second, .val (.long q2), .second, iv p3, iv 1, iv 0, .val (.long q2), .second, iv (((p3.toUInt32 >>> ((3 : Int32) &&& 31).toUInt32).toInt32) &&& (3 : Int32)), rv b285, rv b300, iv 1] [.ref b300, .ref b285])
                have B307 := ((P288_1.ext E300).keep Kq303 (ninS ne_b285_b300 nin0))
                have B309 := ((P288_0.ext E300).keep Kq303)
                obtain ⟨cq308, kq308, q308a, q308b, q308c⟩ := isOf hZ e303 B309
                obtain ⟨_, _, ⟨T308, L308, k308, n308⟩, -, X308, ⟨Lc308, hQ308, l308, y308, z308⟩, st308⟩ := X303.virtualBack hx (y := own_y4) (z := own_y4) hown (mvT hZ (own_w hw 13 rfl)) (mvT hZ (own_w hw 14 rfl)) (notFace_of_selects (args := #[]) (mvT hZ (own_w hw 16 rfl))) (mvT hZ (own_w hw 16 rfl)) (mvT hZ (own_w hw 15 rfl)) (by decide) (backOf (W := 0) (own_eqT l Z a0 hw [] b285 b300 q1 q2 T303.heap n0 Z304 P303_0 B307 P303_1) hZ (own_w hw 17 rfl) (own_w hw 2 rfl) (by decide) (by decide)) q308a q308c (g := (mkF m 154 #[.val (.long q1), .second, .val (.long q2), .second, iv p3, iv 1, iv 0, .val (.long q2), .second, iv (((p3.toUInt32 >>> ((3 : Int32) &&& 31).toUInt32).toInt32) &&& (3 : Int32)), rv b285, rv b300, iv 1] [.ref b300, .ref b285])) rfl (by rw [hml]; rfl) (Steps.refl _) (argsL := [(.ref b300)]) (rest := []) (lenOf own_pd_5 rfl) rfl (by show 2 * 0 + _ ≤ _; exact Nat.le_of_eq rfl) (hb hby at_154) (fun _ _ => ⟨rfl, e303, (by decide : 2 + 0 ≤ _), (by decide : 4 + 0 ≤ _)⟩)
                dsimp only [Pt.U, Pt.locs, Pt.cells, Pt.slots] at X308 l308 y308 z308 st308 hQ308
                subst l308 y308 z308
                obtain ⟨hR308, e308, rfl⟩ := hQ308
                have N308 := Fr.app N303 (Fr.nil n0)
                rcases hR308 with ⟨rfl, ha308_0⟩ | ⟨rfl, ha308_0⟩
                · refine own_tr st308 ?_
                  show own_E p e below _ T308 (mkF m 157 #[.val (.long q1), .second, .val (.long q2), .second, iv p3, iv 1, iv 0, .val (.long q2), .second, iv (((p3.toUInt32 >>> ((3 : Int32) &&& 31).toUInt32).toInt32) &&& (3 : Int32)), rv b285, rv b300, iv 1] [.int 1])
                  refine own_st (fun t k => XS.iload X308.here hx rfl (hb hby at_157) rfl k) ?_
                  show own_E p e below _ T308 (mkF m 159 #[.val (.long q1), .second, .val (.long q2), .second, iv p3, iv 1, iv 0, .val (.long q2), .second, iv (((p3.toUInt32 >>> ((3 : Int32) &&& 31).toUInt32).toInt32) &&& (3 : Int32)), rv b285, rv b300, iv 1] [.int 1, .int 1])
                  refine own_st (fun t k => XS.icmpYes X308.here hx rfl (pc0 := 159) (pc' := 164) rfl (hb hby at_159) rfl (by decide) (by decide) (by decide) k) ?_
                  show own_E p e below _ T308 (mkF m 164 #[.val (.long q1), .second, .val (.long q2), .second, iv p3, iv 1, iv 0, .val (.long q2), .second, iv (((p3.toUInt32 >>> ((3 : Int32) &&& 31).toUInt32).toInt32) &&& (3 : Int32)), rv b285, rv b300, iv 1] [])
                  refine own_st (fun t k => XS.aload X308.here hx rfl (hb hby at_164) rfl rfl k) ?_
                  show own_E p e below _ T308 (mkF m 166 #[.val (.long q1), .second, .val (.long q2), .second, iv p3, iv 1, iv 0, .val (.long q2), .second, iv (((p3.toUInt32 >>> ((3 : Int32) &&& 31).toUInt32).toInt32) &&& (3 : Int32)), rv b285, rv b300, iv 1] [.ref b300])
                  refine own_st (fun t k => XS.aload X308.here hx rfl (hb hby at_166) rfl rfl k) ?_
                  show own_E p e below _ T308 (mkF m 168 #[.val (.long q1), .second, .val (.long q2), .second, iv p3, iv 1, iv 0, .val (.long q2), .second, iv (((p3.toUInt32 >>> ((3 : Int32) &&& 31).toUInt32).toInt32) &&& (3 : Int32)), rv b285, rv b300, iv 1] [.ref b285, .ref b300])
                  obtain ⟨cq310, kq310, q310a, q310b, q310c⟩ := isOf hZ e308 P303_0
                  obtain ⟨_, _, ⟨T310, L310, k310, n310⟩, -, X310, ⟨Lc310, hQ310, l310, y310, z310⟩, st310⟩ := X308.virtualBack hx (y := own_y4) (z := own_y4) hown (mvT hZ (own_w hw 13 rfl)) (mvT hZ (own_w hw 14 rfl)) (notFace_of_selects (args := #[]) (mvT hZ (own_w hw 16 rfl))) (mvT hZ (own_w hw 16 rfl)) (mvT hZ (own_w hw 15 rfl)) (by decide) (backOf (W := 0) (own_eqT l Z a0 hw [] b300 b285 q2 q1 T303.heap n0 Z304 B309 P303_1 B307) hZ (own_w hw 17 rfl) (own_w hw 2 rfl) (by decide) (by decide)) q310a q310c (g := (mkF m 168 #[.val (.long q1), .second, .val (.long q2), .second, iv p3, iv 1, iv 0, .val (.long q2), .second, iv (((p3.toUInt32 >>> ((3 : Int32) &&& 31).toUInt32).toInt32) &&& (3 : Int32)), rv b285, rv b300, iv 1] [.ref b285, .ref b300])) rfl (by rw [hml]; rfl) (Steps.refl _) (argsL := [(.ref b285)]) (rest := []) (lenOf own_pd_5 rfl) rfl (by show 2 * 0 + _ ≤ _; exact Nat.le_of_eq rfl) (hb hby at_168) (fun _ _ => ⟨rfl, e308, (by decide : 2 + 0 ≤ _), (by decide : 4 + 0 ≤ _)⟩)
                  dsimp only [Pt.U, Pt.locs, Pt.cells, Pt.slots] at X310 l310 y310 z310 st310 hQ310
                  subst l310 y310 z310
                  obtain ⟨hR310, e310, rfl⟩ := hQ310
                  have N310 := Fr.app N308 (Fr.nil n0)
                  rcases hR310 with ⟨rfl, ha310_0⟩ | ⟨rfl, ha310_0⟩
                  · refine own_tr st310 ?_
                    show own_E p e below _ T310 (mkF m 171 #[.val (.long q1), .second, .val (.long q2), .second, iv p3, iv 1, iv 0, .val (.long q2), .second, iv (((p3.toUInt32 >>> ((3 : Int32) &&& 31).toUInt32).toInt32) &&& (3 : Int32)), rv b285, rv b300, iv 1] [.int 1])
                    refine own_st (fun t k => XS.iload X310.here hx rfl (hb hby at_171) rfl k) ?_
                    show own_E p e below _ T310 (mkF m 173 #[.val (.long q1), .second, .val (.long q2), .second, iv p3, iv 1, iv 0, .val (.long q2), .second, iv (((p3.toUInt32 >>> ((3 : Int32) &&& 31).toUInt32).toInt32) &&& (3 : Int32)), rv b285, rv b300, iv 1] [.int 1, .int 1])
                    refine own_st (fun t k => XS.icmpNo X310.here hx rfl (hb hby at_173) rfl (by decide) k) ?_
                    show own_E p e below _ T310 (mkF m 176 #[.val (.long q1), .second, .val (.long q2), .second, iv p3, iv 1, iv 0, .val (.long q2), .second, iv (((p3.toUInt32 >>> ((3 : Int32) &&& 31).toUInt32).toInt32) &&& (3 : Int32)), rv b285, rv b300, iv 1] [])
                    refine own_st (fun t k => XS.iconst X310.here hx rfl (hb hby at_176) k) ?_
                    show own_E p e below _ T310 (mkF m 177 #[.val (.long q1), .second, .val (.long q2), .second, iv p3, iv 1, iv 0, .val (.long q2), .second, iv (((p3.toUInt32 >>> ((3 : Int32) &&& 31).toUInt32).toInt32) &&& (3 : Int32)), rv b285, rv b300, iv 1] [.int 1])
                    refine own_st (fun t k => XS.goto X310.here hx rfl (pc0 := 177) (pc' := 181) rfl (hb hby at_177) (by decide) (by decide) k) ?_
                    show own_E p e below _ T310 (mkF m 181 #[.val (.long q1), .second, .val (.long q2), .second, iv p3, iv 1, iv 0, .val (.long q2), .second, iv (((p3.toUInt32 >>> ((3 : Int32) &&& 31).toUInt32).toInt32) &&& (3 : Int32)), rv b285, rv b300, iv 1] [.int 1])
                    refine own_retS X310 hx Bd.notSynchronized Bd.returns rfl (by decide) (hb hby at_181) (by decide) (by decide) ?_
                    exact ⟨rfl, N310⟩
                  · exact absurd hc306 ha310_0
                · exfalso
                  have f311 := rng32 p3
                  have f312 : (1 : Int32).toInt = 1 := rfl
                  have f313 := rng32 (p3 &&& (1 : Int32))
                  have f314 : (p3 &&& (1 : Int32)).toInt = p3.toInt % 2 := c_mask p3 (1 : Int32) 1 (by decide) (by decide)
                  have f315 : (0 : Int32).toInt = 0 := rfl
                  have f316 : (2 : Int32).toInt = 2 := rfl
                  have f317 := rng32 (p3 &&& (2 : Int32))
                  have f318 := c_and p3 (2 : Int32) (by decide)
                  have f319 : (4 : Int32).toInt = 4 := rfl
                  have f320 := rng32 (p3 &&& (4 : Int32))
                  have f321 := c_and p3 (4 : Int32) (by decide)
                  have f322 := rng64 q1
                  have f323 : (3 : Int32).toInt = 3 := rfl
                  have f324 := rng32 ((p3.toUInt32 >>> ((3 : Int32) &&& 31).toUInt32).toInt32)
                  have f325 : ((p3.toUInt32 >>> ((3 : Int32) &&& 31).toUInt32).toInt32).toInt = (p3.toInt % 4294967296) / 8 := c_iushr p3 (3 : Int32) 3 (by decide) (by decide)
                  have f326 := rng32 (((p3.toUInt32 >>> ((3 : Int32) &&& 31).toUInt32).toInt32) &&& (3 : Int32))
                  have f327 : (((p3.toUInt32 >>> ((3 : Int32) &&& 31).toUInt32).toInt32) &&& (3 : Int32)).toInt = ((p3.toUInt32 >>> ((3 : Int32) &&& 31).toUInt32).toInt32).toInt % 4 := c_mask ((p3.toUInt32 >>> ((3 : Int32) &&& 31).toUInt32).toInt32) (3 : Int32) 2 (by decide) (by decide)
                  have f328 := rng64 q2
                  have g329 := hc1
                  rw [← Int32.toInt_inj] at g329
                  have g330 := hc283
                  rw [← Int32.toInt_inj] at g330
                  have g331 := hc284
                  rw [← Int32.toInt_inj] at g331
                  have g332 := ha291_0
                  rw [← Int64.toInt_inj] at g332
                  have g333 := hc292
                  rw [← Int32.toInt_inj] at g333
                  have g334 := hc294
                  rw [← Int32.toInt_inj] at g334
                  have g335 := hc306
                  rw [← Int64.toInt_inj] at g335
                  have g336 := ha308_0
                  rw [← Int64.toInt_inj] at g336
                  omega
              · refine own_st (fun t k => XS.ifYes X303.here hx rfl (pc0 := 140) (pc' := 147) rfl (hb hby at_140) rfl ((if0 _ _).trans (feq (fun q => hc306 ((lw_eq _ _).mp q))).2) (by decide) (by decide) k) ?_
                show own_E p e below _ T303 (mkF m 147 #[.val (.long q1), .second, .val (.long q2), .second, iv p3, iv 1, iv 0, .val (.long q2), .second, iv (((p3.toUInt32 >>> ((3 : Int32) &&& 31).toUInt32).toInt32) &&& (3 : Int32)), rv b285, rv b300, .unset] [])
                refine own_st (fun t k => XS.iconst X303.here hx rfl (hb hby at_147) k) ?_
                show own_E p e below _ T303 (mkF m 148 #[.val (.long q1), .second, .val (.long q2), .second, iv p3, iv 1, iv 0, .val (.long q2), .second, iv (((p3.toUInt32 >>> ((3 : Int32) &&& 31).toUInt32).toInt32) &&& (3 : Int32)), rv b285, rv b300, .unset] [.int 0])
                refine own_st (fun t k => XS.istore X303.here hx rfl (hb hby at_148) rfl (l' := #[.val (.long q1), .second, .val (.long q2), .second, iv p3, iv 1, iv 0, .val (.long q2), .second, iv (((p3.toUInt32 >>> ((3 : Int32) &&& 31).toUInt32).toInt32) &&& (3 : Int32)), rv b285, rv b300, iv 0]) rfl k) ?_
                show own_E p e below _ T303 (mkF m 150 #[.val (.long q1), .second, .val (.long q2), .second, iv p3, iv 1, iv 0, .val (.long q2), .second, iv (((p3.toUInt32 >>> ((3 : Int32) &&& 31).toUInt32).toInt32) &&& (3 : Int32)), rv b285, rv b300, iv 0] [])
                refine own_st (fun t k => XS.aload X303.here hx rfl (hb hby at_150) rfl rfl k) ?_
                show own_E p e below _ T303 (mkF m 152 #[.val (.long q1), .second, .val (.long q2), .second, iv p3, iv 1, iv 0, .val (.long q2), .second, iv (((p3.toUInt32 >>> ((3 : Int32) &&& 31).toUInt32).toInt32) &&& (3 : Int32)), rv b285, rv b300, iv 0] [.ref b285])
                refine own_st (fun t k => XS.aload X303.here hx rfl (hb hby at_152) rfl rfl k) ?_
                show own_E p e below _ T303 (mkF m 154 #[.val (.long q1), .second, .val (.long q2), .second, iv p3, iv 1, iv 0, .val (.long q2), .second, iv (((p3.toUInt32 >>> ((3 : Int32) &&& 31).toUInt32).toInt32) &&& (3 : Int32)), rv b285, rv b300, iv 0] [.ref b300, .ref b285])
                have B337 := ((P288_1.ext E300).keep Kq303 (ninS ne_b285_b300 nin0))
                have B339 := ((P288_0.ext E300).keep Kq303)
                obtain ⟨cq338, kq338, q338a, q338b, q338c⟩ := isOf hZ e303 B339
                obtain ⟨_, _, ⟨T338, L338, k338, n338⟩, -, X338, ⟨Lc338, hQ338, l338, y338, z338⟩, st338⟩ := X303.virtualBack hx (y := own_y4) (z := own_y4) hown (mvT hZ (own_w hw 13 rfl)) (mvT hZ (own_w hw 14 rfl)) (notFace_of_selects (args := #[]) (mvT hZ (own_w hw 16 rfl))) (mvT hZ (own_w hw 16 rfl)) (mvT hZ (own_w hw 15 rfl)) (by decide) (backOf (W := 0) (own_eqT l Z a0 hw [] b285 b300 q1 q2 T303.heap n0 Z304 P303_0 B337 P303_1) hZ (own_w hw 17 rfl) (own_w hw 2 rfl) (by decide) (by decide)) q338a q338c (g := (mkF m 154 #[.val (.long q1), .second, .val (.long q2), .second, iv p3, iv 1, iv 0, .val (.long q2), .second, iv (((p3.toUInt32 >>> ((3 : Int32) &&& 31).toUInt32).toInt32) &&& (3 : Int32)), rv b285, rv b300, iv 0] [.ref b300, .ref b285])) rfl (by rw [hml]; rfl) (Steps.refl _) (argsL := [(.ref b300)]) (rest := []) (lenOf own_pd_5 rfl) rfl (by show 2 * 0 + _ ≤ _; exact Nat.le_of_eq rfl) (hb hby at_154) (fun _ _ => ⟨rfl, e303, (by decide : 2 + 0 ≤ _), (by decide : 4 + 0 ≤ _)⟩)
                dsimp only [Pt.U, Pt.locs, Pt.cells, Pt.slots] at X338 l338 y338 z338 st338 hQ338
                subst l338 y338 z338
                obtain ⟨hR338, e338, rfl⟩ := hQ338
                have N338 := Fr.app N303 (Fr.nil n0)
                rcases hR338 with ⟨rfl, ha338_0⟩ | ⟨rfl, ha338_0⟩
                · exfalso
                  have f340 := rng32 p3
                  have f341 : (1 : Int32).toInt = 1 := rfl
                  have f342 := rng32 (p3 &&& (1 : Int32))
                  have f343 : (p3 &&& (1 : Int32)).toInt = p3.toInt % 2 := c_mask p3 (1 : Int32) 1 (by decide) (by decide)
                  have f344 : (0 : Int32).toInt = 0 := rfl
                  have f345 : (2 : Int32).toInt = 2 := rfl
                  have f346 := rng32 (p3 &&& (2 : Int32))
                  have f347 := c_and p3 (2 : Int32) (by decide)
                  have f348 : (4 : Int32).toInt = 4 := rfl
                  have f349 := rng32 (p3 &&& (4 : Int32))
                  have f350 := c_and p3 (4 : Int32) (by decide)
                  have f351 := rng64 q1
                  have f352 : (3 : Int32).toInt = 3 := rfl
                  have f353 := rng32 ((p3.toUInt32 >>> ((3 : Int32) &&& 31).toUInt32).toInt32)
                  have f354 : ((p3.toUInt32 >>> ((3 : Int32) &&& 31).toUInt32).toInt32).toInt = (p3.toInt % 4294967296) / 8 := c_iushr p3 (3 : Int32) 3 (by decide) (by decide)
                  have f355 := rng32 (((p3.toUInt32 >>> ((3 : Int32) &&& 31).toUInt32).toInt32) &&& (3 : Int32))
                  have f356 : (((p3.toUInt32 >>> ((3 : Int32) &&& 31).toUInt32).toInt32) &&& (3 : Int32)).toInt = ((p3.toUInt32 >>> ((3 : Int32) &&& 31).toUInt32).toInt32).toInt % 4 := c_mask ((p3.toUInt32 >>> ((3 : Int32) &&& 31).toUInt32).toInt32) (3 : Int32) 2 (by decide) (by decide)
                  have f357 := rng64 q2
                  have g358 := hc1
                  rw [← Int32.toInt_inj] at g358
                  have g359 := hc283
                  rw [← Int32.toInt_inj] at g359
                  have g360 := hc284
                  rw [← Int32.toInt_inj] at g360
                  have g361 := ha291_0
                  rw [← Int64.toInt_inj] at g361
                  have g362 := hc292
                  rw [← Int32.toInt_inj] at g362
                  have g363 := hc294
                  rw [← Int32.toInt_inj] at g363
                  have g364 := hc306
                  rw [← Int64.toInt_inj] at g364
                  have g365 := ha338_0
                  rw [← Int64.toInt_inj] at g365
                  omega
                · refine own_tr st338 ?_
                  show own_E p e below _ T338 (mkF m 157 #[.val (.long q1), .second, .val (.long q2), .second, iv p3, iv 1, iv 0, .val (.long q2), .second, iv (((p3.toUInt32 >>> ((3 : Int32) &&& 31).toUInt32).toInt32) &&& (3 : Int32)), rv b285, rv b300, iv 0] [.int 0])
                  refine own_st (fun t k => XS.iload X338.here hx rfl (hb hby at_157) rfl k) ?_
                  show own_E p e below _ T338 (mkF m 159 #[.val (.long q1), .second, .val (.long q2), .second, iv p3, iv 1, iv 0, .val (.long q2), .second, iv (((p3.toUInt32 >>> ((3 : Int32) &&& 31).toUInt32).toInt32) &&& (3 : Int32)), rv b285, rv b300, iv 0] [.int 0, .int 0])
                  refine own_st (fun t k => XS.icmpYes X338.here hx rfl (pc0 := 159) (pc' := 164) rfl (hb hby at_159) rfl (by decide) (by decide) (by decide) k) ?_
                  show own_E p e below _ T338 (mkF m 164 #[.val (.long q1), .second, .val (.long q2), .second, iv p3, iv 1, iv 0, .val (.long q2), .second, iv (((p3.toUInt32 >>> ((3 : Int32) &&& 31).toUInt32).toInt32) &&& (3 : Int32)), rv b285, rv b300, iv 0] [])
                  refine own_st (fun t k => XS.aload X338.here hx rfl (hb hby at_164) rfl rfl k) ?_
                  show own_E p e below _ T338 (mkF m 166 #[.val (.long q1), .second, .val (.long q2), .second, iv p3, iv 1, iv 0, .val (.long q2), .second, iv (((p3.toUInt32 >>> ((3 : Int32) &&& 31).toUInt32).toInt32) &&& (3 : Int32)), rv b285, rv b300, iv 0] [.ref b300])
                  refine own_st (fun t k => XS.aload X338.here hx rfl (hb hby at_166) rfl rfl k) ?_
                  show own_E p e below _ T338 (mkF m 168 #[.val (.long q1), .second, .val (.long q2), .second, iv p3, iv 1, iv 0, .val (.long q2), .second, iv (((p3.toUInt32 >>> ((3 : Int32) &&& 31).toUInt32).toInt32) &&& (3 : Int32)), rv b285, rv b300, iv 0] [.ref b285, .ref b300])
                  obtain ⟨cq366, kq366, q366a, q366b, q366c⟩ := isOf hZ e338 P303_0
                  obtain ⟨_, _, ⟨T366, L366, k366, n366⟩, -, X366, ⟨Lc366, hQ366, l366, y366, z366⟩, st366⟩ := X338.virtualBack hx (y := own_y4) (z := own_y4) hown (mvT hZ (own_w hw 13 rfl)) (mvT hZ (own_w hw 14 rfl)) (notFace_of_selects (args := #[]) (mvT hZ (own_w hw 16 rfl))) (mvT hZ (own_w hw 16 rfl)) (mvT hZ (own_w hw 15 rfl)) (by decide) (backOf (W := 0) (own_eqT l Z a0 hw [] b300 b285 q2 q1 T303.heap n0 Z304 B339 P303_1 B337) hZ (own_w hw 17 rfl) (own_w hw 2 rfl) (by decide) (by decide)) q366a q366c (g := (mkF m 168 #[.val (.long q1), .second, .val (.long q2), .second, iv p3, iv 1, iv 0, .val (.long q2), .second, iv (((p3.toUInt32 >>> ((3 : Int32) &&& 31).toUInt32).toInt32) &&& (3 : Int32)), rv b285, rv b300, iv 0] [.ref b285, .ref b300])) rfl (by rw [hml]; rfl) (Steps.refl _) (argsL := [(.ref b285)]) (rest := []) (lenOf own_pd_5 rfl) rfl (by show 2 * 0 + _ ≤ _; exact Nat.le_of_eq rfl) (hb hby at_168) (fun _ _ => ⟨rfl, e338, (by decide : 2 + 0 ≤ _), (by decide : 4 + 0 ≤ _)⟩)
                  dsimp only [Pt.U, Pt.locs, Pt.cells, Pt.slots] at X366 l366 y366 z366 st366 hQ366
                  subst l366 y366 z366
                  obtain ⟨hR366, e366, rfl⟩ := hQ366
                  have N366 := Fr.app N338 (Fr.nil n0)
                  rcases hR366 with ⟨rfl, ha366_0⟩ | ⟨rfl, ha366_0⟩
                  · exact absurd ha366_0 hc306
                  · refine own_tr st366 ?_
                    show own_E p e below _ T366 (mkF m 171 #[.val (.long q1), .second, .val (.long q2), .second, iv p3, iv 1, iv 0, .val (.long q2), .second, iv (((p3.toUInt32 >>> ((3 : Int32) &&& 31).toUInt32).toInt32) &&& (3 : Int32)), rv b285, rv b300, iv 0] [.int 0])
                    refine own_st (fun t k => XS.iload X366.here hx rfl (hb hby at_171) rfl k) ?_
                    show own_E p e below _ T366 (mkF m 173 #[.val (.long q1), .second, .val (.long q2), .second, iv p3, iv 1, iv 0, .val (.long q2), .second, iv (((p3.toUInt32 >>> ((3 : Int32) &&& 31).toUInt32).toInt32) &&& (3 : Int32)), rv b285, rv b300, iv 0] [.int 0, .int 0])
                    refine own_st (fun t k => XS.icmpNo X366.here hx rfl (hb hby at_173) rfl (by decide) k) ?_
                    show own_E p e below _ T366 (mkF m 176 #[.val (.long q1), .second, .val (.long q2), .second, iv p3, iv 1, iv 0, .val (.long q2), .second, iv (((p3.toUInt32 >>> ((3 : Int32) &&& 31).toUInt32).toInt32) &&& (3 : Int32)), rv b285, rv b300, iv 0] [])
                    refine own_st (fun t k => XS.iconst X366.here hx rfl (hb hby at_176) k) ?_
                    show own_E p e below _ T366 (mkF m 177 #[.val (.long q1), .second, .val (.long q2), .second, iv p3, iv 1, iv 0, .val (.long q2), .second, iv (((p3.toUInt32 >>> ((3 : Int32) &&& 31).toUInt32).toInt32) &&& (3 : Int32)), rv b285, rv b300, iv 0] [.int 1])
                    refine own_st (fun t k => XS.goto X366.here hx rfl (pc0 := 177) (pc' := 181) rfl (hb hby at_177) (by decide) (by decide) k) ?_
                    show own_E p e below _ T366 (mkF m 181 #[.val (.long q1), .second, .val (.long q2), .second, iv p3, iv 1, iv 0, .val (.long q2), .second, iv (((p3.toUInt32 >>> ((3 : Int32) &&& 31).toUInt32).toInt32) &&& (3 : Int32)), rv b285, rv b300, iv 0] [.int 1])
                    refine own_retS X366 hx Bd.notSynchronized Bd.returns rfl (by decide) (hb hby at_181) (by decide) (by decide) ?_
                    exact ⟨rfl, N366⟩
        · exfalso
          have f367 := rng32 p3
          have f368 : (1 : Int32).toInt = 1 := rfl
          have f369 := rng32 (p3 &&& (1 : Int32))
          have f370 : (p3 &&& (1 : Int32)).toInt = p3.toInt % 2 := c_mask p3 (1 : Int32) 1 (by decide) (by decide)
          have f371 : (0 : Int32).toInt = 0 := rfl
          have f372 : (2 : Int32).toInt = 2 := rfl
          have f373 := rng32 (p3 &&& (2 : Int32))
          have f374 := c_and p3 (2 : Int32) (by decide)
          have f375 : (4 : Int32).toInt = 4 := rfl
          have f376 := rng32 (p3 &&& (4 : Int32))
          have f377 := c_and p3 (4 : Int32) (by decide)
          have f378 := rng64 q1
          have g379 := hc1
          rw [← Int32.toInt_inj] at g379
          have g380 := hc283
          rw [← Int32.toInt_inj] at g380
          have g381 := hc284
          rw [← Int32.toInt_inj] at g381
          have g382 := ha291_0
          rw [← Int64.toInt_inj] at g382
          omega
      · refine own_st (fun t k => XS.ifNo X0.here hx rfl (hb hby at_32) rfl ((if0 _ _).trans (feq hc284).1) k) ?_
        show own_E p e below _ s₁ (mkF m 35 #[.val (.long q1), .second, .val (.long q2), .second, iv p3, iv 1, iv 0, .unset, .unset, .unset, .unset, .unset, .unset] [])
        refine own_st (fun t k => XS.lloadN X0.here hx rfl (hb hby at_35) rfl k) ?_
        show own_E p e below _ s₁ (mkF m 36 #[.val (.long q1), .second, .val (.long q2), .second, iv p3, iv 1, iv 0, .unset, .unset, .unset, .unset, .unset, .unset] [.long q1])
        refine own_st (fun t k => XS.goto X0.here hx rfl (pc0 := 36) (pc' := 40) rfl (hb hby at_36) (by decide) (by decide) k) ?_
        show own_E p e below _ s₁ (mkF m 40 #[.val (.long q1), .second, .val (.long q2), .second, iv p3, iv 1, iv 0, .unset, .unset, .unset, .unset, .unset, .unset] [.long q1])
        refine own_st (fun t k => XS.lstore X0.here hx rfl (hb hby at_40) rfl (l' := #[.val (.long q1), .second, .val (.long q2), .second, iv p3, iv 1, iv 0, .val (.long q1), .second, .unset, .unset, .unset, .unset]) rfl k) ?_
        show own_E p e below _ s₁ (mkF m 42 #[.val (.long q1), .second, .val (.long q2), .second, iv p3, iv 1, iv 0, .val (.long q1), .second, .unset, .unset, .unset, .unset] [])
        refine own_st (fun t k => XS.iload X0.here hx rfl (hb hby at_42) rfl k) ?_
        show own_E p e below _ s₁ (mkF m 44 #[.val (.long q1), .second, .val (.long q2), .second, iv p3, iv 1, iv 0, .val (.long q1), .second, .unset, .unset, .unset, .unset] [.int p3])
        refine own_st (fun t k => XS.iconst X0.here hx rfl (hb hby at_44) k) ?_
        show own_E p e below _ s₁ (mkF m 45 #[.val (.long q1), .second, .val (.long q2), .second, iv p3, iv 1, iv 0, .val (.long q1), .second, .unset, .unset, .unset, .unset] [.int 3, .int p3])
        refine own_st (fun t k => XS.iushr X0.here hx rfl (hb hby at_45) rfl k) ?_
        show own_E p e below _ s₁ (mkF m 46 #[.val (.long q1), .second, .val (.long q2), .second, iv p3, iv 1, iv 0, .val (.long q1), .second, .unset, .unset, .unset, .unset] [.int ((p3.toUInt32 >>> ((3 : Int32) &&& 31).toUInt32).toInt32)])
        refine own_st (fun t k => XS.iconst X0.here hx rfl (hb hby at_46) k) ?_
        show own_E p e below _ s₁ (mkF m 47 #[.val (.long q1), .second, .val (.long q2), .second, iv p3, iv 1, iv 0, .val (.long q1), .second, .unset, .unset, .unset, .unset] [.int 3, .int ((p3.toUInt32 >>> ((3 : Int32) &&& 31).toUInt32).toInt32)])
        refine own_st (fun t k => XS.iand X0.here hx rfl (hb hby at_47) rfl k) ?_
        show own_E p e below _ s₁ (mkF m 48 #[.val (.long q1), .second, .val (.long q2), .second, iv p3, iv 1, iv 0, .val (.long q1), .second, .unset, .unset, .unset, .unset] [.int (((p3.toUInt32 >>> ((3 : Int32) &&& 31).toUInt32).toInt32) &&& (3 : Int32))])
        refine own_st (fun t k => XS.istore X0.here hx rfl (hb hby at_48) rfl (l' := #[.val (.long q1), .second, .val (.long q2), .second, iv p3, iv 1, iv 0, .val (.long q1), .second, iv (((p3.toUInt32 >>> ((3 : Int32) &&& 31).toUInt32).toInt32) &&& (3 : Int32)), .unset, .unset, .unset]) rfl k) ?_
        show own_E p e below _ s₁ (mkF m 50 #[.val (.long q1), .second, .val (.long q2), .second, iv p3, iv 1, iv 0, .val (.long q1), .second, iv (((p3.toUInt32 >>> ((3 : Int32) &&& 31).toUInt32).toInt32) &&& (3 : Int32)), .unset, .unset, .unset] [])
        obtain ⟨T383, h383, X383, e383, E383, A383, D383, -, st383⟩ := newO X0 hx hZ hown (own_w hw 0 rfl) (own_w hw 1 rfl) (own_w hw 2 rfl) e0 (g := (mkF m 50 #[.val (.long q1), .second, .val (.long q2), .second, iv p3, iv 1, iv 0, .val (.long q1), .second, iv (((p3.toUInt32 >>> ((3 : Int32) &&& 31).toUInt32).toInt32) &&& (3 : Int32)), .unset, .unset, .unset] [])) rfl (hb hby at_50) (by decide) (by decide)
        obtain ⟨b383, g383⟩ : ∃ z, z = h0.size := ⟨_, rfl⟩
        rw [← g383] at A383 D383 st383
        have g_b383 : n0 ≤ b383 := Nat.le_trans Z0 (Nat.le_of_eq g383.symm)
        have sz_b383 : h0.size ≤ b383 := Nat.le_trans (Keep.refl h0 []).1 (Nat.le_of_eq g383.symm)
        have Z384 := Nat.le_trans Z0 E383.1
        have K385 : Keep h0 _ [] := (Keep.refl h0 []).ext E383
        have F_count_b383 : Fld Z h383 b383 "com/example/tight_fence/tightfence/engine/TemporalValue" "count" "J" (.long (0 : Int64)) := D383 (Or.inr (own_w hw 10 rfl)) (ty := .long) (by decide)
        have F_fromClock_b383 : Fld Z h383 b383 "com/example/tight_fence/tightfence/engine/TemporalValue" "fromClock" "Z" (.int (0 : Int32)) := D383 (Or.inr (own_w hw 12 rfl)) (ty := .boolean) (by decide)
        refine own_st st383 ?_
        show own_E p e below _ T383 (mkF m 53 #[.val (.long q1), .second, .val (.long q2), .second, iv p3, iv 1, iv 0, .val (.long q1), .second, iv (((p3.toUInt32 >>> ((3 : Int32) &&& 31).toUInt32).toInt32) &&& (3 : Int32)), .unset, .unset, .unset] [.ref b383])
        refine own_st (fun t k => XS.dup X383.here hx rfl (hb hby at_53) rfl rfl k) ?_
        show own_E p e below _ T383 (mkF m 54 #[.val (.long q1), .second, .val (.long q2), .second, iv p3, iv 1, iv 0, .val (.long q1), .second, iv (((p3.toUInt32 >>> ((3 : Int32) &&& 31).toUInt32).toInt32) &&& (3 : Int32)), .unset, .unset, .unset] [.ref b383, .ref b383])
        refine own_st (fun t k => XS.lloadN X383.here hx rfl (hb hby at_54) rfl k) ?_
        show own_E p e below _ T383 (mkF m 55 #[.val (.long q1), .second, .val (.long q2), .second, iv p3, iv 1, iv 0, .val (.long q1), .second, iv (((p3.toUInt32 >>> ((3 : Int32) &&& 31).toUInt32).toInt32) &&& (3 : Int32)), .unset, .unset, .unset] [.long q1, .ref b383, .ref b383])
        refine own_st (fun t k => XS.iload X383.here hx rfl (hb hby at_55) rfl k) ?_
        show own_E p e below _ T383 (mkF m 57 #[.val (.long q1), .second, .val (.long q2), .second, iv p3, iv 1, iv 0, .val (.long q1), .second, iv (((p3.toUInt32 >>> ((3 : Int32) &&& 31).toUInt32).toInt32) &&& (3 : Int32)), .unset, .unset, .unset] [.int 1, .long q1, .ref b383, .ref b383])
        obtain ⟨_, _, ⟨T386, L386, k386, n386⟩, -, X386, ⟨Lc386, hQ386, l386, y386, z386⟩, st386⟩ := X383.specialBack hx (y := own_y3) rfl hown (mvT hZ (own_w hw 3 rfl)) (mvT hZ (own_w hw 4 rfl)) (mvT hZ (own_w hw 5 rfl)) (by decide) (backOf (W := 1) (own_init1 l Z a0 hw [] b383 q1 h383 n0 Z384 A383 F_count_b383 F_fromClock_b383 g_b383) hZ (own_w hw 5 rfl) (own_w hw 2 rfl) (by decide) (by decide)) (g := (mkF m 57 #[.val (.long q1), .second, .val (.long q2), .second, iv p3, iv 1, iv 0, .val (.long q1), .second, iv (((p3.toUInt32 >>> ((3 : Int32) &&& 31).toUInt32).toInt32) &&& (3 : Int32)), .unset, .unset, .unset] [.int 1, .long q1, .ref b383, .ref b383])) rfl (by rw [hml]; rfl) (Steps.refl _) (a := b383) (argsL := [(.long q1), (.int (1 : Int32))]) (rest := [(.ref b383)]) (lenOf own_pd_4 rfl) rfl (by show 2 * 0 + _ ≤ _; exact Nat.le_of_eq rfl) (hb hby at_57) (fun _ _ => ⟨rfl, e383, (by decide : 1 + 0 ≤ _), (by decide : 2 + 0 ≤ _)⟩)
        dsimp only [Pt.U, Pt.locs, Pt.cells, Pt.slots] at X386 l386 y386 z386 st386 hQ386
        subst l386 y386 z386
        obtain ⟨rfl, Nq386, Kq386, P386_0, P386_1⟩ := hQ386
        have N386 := Fr.app (Fr.nil n0) Nq386
        have e386 : T386.heap = T386.heap := rfl
        have Z387 := Nat.le_trans Z384 Kq386.1
        have K388 : Keep h0 _ [] := K385.trans Kq386 (allS (P := fun x => x ∈ [] ∨ h0.size ≤ x) (Or.inr sz_b383) all0)
        refine own_tr st386 ?_
        show own_E p e below _ T386 (mkF m 60 #[.val (.long q1), .second, .val (.long q2), .second, iv p3, iv 1, iv 0, .val (.long q1), .second, iv (((p3.toUInt32 >>> ((3 : Int32) &&& 31).toUInt32).toInt32) &&& (3 : Int32)), .unset, .unset, .unset] [.ref b383])
        refine own_st (fun t k => XS.astore X386.here hx rfl (hb hby at_60) rfl rfl (l' := #[.val (.long q1), .second, .val (.long q2), .second, iv p3, iv 1, iv 0, .val (.long q1), .second, iv (((p3.toUInt32 >>> ((3 : Int32) &&& 31).toUInt32).toInt32) &&& (3 : Int32)), rv b383, .unset, .unset]) rfl k) ?_
        show own_E p e below _ T386 (mkF m 62 #[.val (.long q1), .second, .val (.long q2), .second, iv p3, iv 1, iv 0, .val (.long q1), .second, iv (((p3.toUInt32 >>> ((3 : Int32) &&& 31).toUInt32).toInt32) &&& (3 : Int32)), rv b383, .unset, .unset] [])
        refine own_st (fun t k => XS.aload X386.here hx rfl (hb hby at_62) rfl rfl k) ?_
        show own_E p e below _ T386 (mkF m 64 #[.val (.long q1), .second, .val (.long q2), .second, iv p3, iv 1, iv 0, .val (.long q1), .second, iv (((p3.toUInt32 >>> ((3 : Int32) &&& 31).toUInt32).toInt32) &&& (3 : Int32)), rv b383, .unset, .unset] [.ref b383])
        refine own_st (fun t k => XS.aload X386.here hx rfl (hb hby at_64) rfl rfl k) ?_
        show own_E p e below _ T386 (mkF m 66 #[.val (.long q1), .second, .val (.long q2), .second, iv p3, iv 1, iv 0, .val (.long q1), .second, iv (((p3.toUInt32 >>> ((3 : Int32) &&& 31).toUInt32).toInt32) &&& (3 : Int32)), rv b383, .unset, .unset] [.ref b383, .ref b383])
        obtain ⟨cq389, kq389, q389a, q389b, q389c⟩ := isOf hZ e386 P386_0
        obtain ⟨_, _, ⟨T389, L389, k389, n389⟩, -, X389, ⟨Lc389, hQ389, l389, y389, z389⟩, st389⟩ := X386.virtualBack hx (y := own_y4) (z := own_y4) hown (mvT hZ (own_w hw 13 rfl)) (mvT hZ (own_w hw 14 rfl)) (notFace_of_selects (args := #[]) (mvT hZ (own_w hw 16 rfl))) (mvT hZ (own_w hw 16 rfl)) (mvT hZ (own_w hw 15 rfl)) (by decide) (backOf (W := 0) (own_eqT l Z a0 hw [] b383 b383 q1 q1 T386.heap n0 Z387 P386_0 P386_1 P386_1) hZ (own_w hw 17 rfl) (own_w hw 2 rfl) (by decide) (by decide)) q389a q389c (g := (mkF m 66 #[.val (.long q1), .second, .val (.long q2), .second, iv p3, iv 1, iv 0, .val (.long q1), .second, iv (((p3.toUInt32 >>> ((3 : Int32) &&& 31).toUInt32).toInt32) &&& (3 : Int32)), rv b383, .unset, .unset] [.ref b383, .ref b383])) rfl (by rw [hml]; rfl) (Steps.refl _) (argsL := [(.ref b383)]) (rest := []) (lenOf own_pd_5 rfl) rfl (by show 2 * 0 + _ ≤ _; exact Nat.le_of_eq rfl) (hb hby at_66) (fun _ _ => ⟨rfl, e386, (by decide : 1 + 0 ≤ _), (by decide : 2 + 0 ≤ _)⟩)
        dsimp only [Pt.U, Pt.locs, Pt.cells, Pt.slots] at X389 l389 y389 z389 st389 hQ389
        subst l389 y389 z389
        obtain ⟨hR389, e389, rfl⟩ := hQ389
        have N389 := Fr.app N386 (Fr.nil n0)
        rcases hR389 with ⟨rfl, ha389_0⟩ | ⟨rfl, ha389_0⟩
        · refine own_tr st389 ?_
          show own_E p e below _ T389 (mkF m 69 #[.val (.long q1), .second, .val (.long q2), .second, iv p3, iv 1, iv 0, .val (.long q1), .second, iv (((p3.toUInt32 >>> ((3 : Int32) &&& 31).toUInt32).toInt32) &&& (3 : Int32)), rv b383, .unset, .unset] [.int 1])
          refine own_st (fun t k => XS.ifYes X389.here hx rfl (pc0 := 69) (pc' := 74) rfl (hb hby at_69) rfl (by decide) (by decide) (by decide) k) ?_
          show own_E p e below _ T389 (mkF m 74 #[.val (.long q1), .second, .val (.long q2), .second, iv p3, iv 1, iv 0, .val (.long q1), .second, iv (((p3.toUInt32 >>> ((3 : Int32) &&& 31).toUInt32).toInt32) &&& (3 : Int32)), rv b383, .unset, .unset] [])
          refine own_st (fun t k => XS.iload X389.here hx rfl (hb hby at_74) rfl k) ?_
          show own_E p e below _ T389 (mkF m 76 #[.val (.long q1), .second, .val (.long q2), .second, iv p3, iv 1, iv 0, .val (.long q1), .second, iv (((p3.toUInt32 >>> ((3 : Int32) &&& 31).toUInt32).toInt32) &&& (3 : Int32)), rv b383, .unset, .unset] [.int (((p3.toUInt32 >>> ((3 : Int32) &&& 31).toUInt32).toInt32) &&& (3 : Int32))])
          refine own_st (fun t k => XS.iconst X389.here hx rfl (hb hby at_76) k) ?_
          show own_E p e below _ T389 (mkF m 77 #[.val (.long q1), .second, .val (.long q2), .second, iv p3, iv 1, iv 0, .val (.long q1), .second, iv (((p3.toUInt32 >>> ((3 : Int32) &&& 31).toUInt32).toInt32) &&& (3 : Int32)), rv b383, .unset, .unset] [.int 1, .int (((p3.toUInt32 >>> ((3 : Int32) &&& 31).toUInt32).toInt32) &&& (3 : Int32))])
          by_cases hc390 : (((p3.toUInt32 >>> ((3 : Int32) &&& 31).toUInt32).toInt32) &&& (3 : Int32)) = (1 : Int32)
          · refine own_st (fun t k => XS.icmpNo X389.here hx rfl (hb hby at_77) rfl (teq hc390).2 k) ?_
            show own_E p e below _ T389 (mkF m 80 #[.val (.long q1), .second, .val (.long q2), .second, iv p3, iv 1, iv 0, .val (.long q1), .second, iv (((p3.toUInt32 >>> ((3 : Int32) &&& 31).toUInt32).toInt32) &&& (3 : Int32)), rv b383, .unset, .unset] [])
            refine own_st (fun t k => XS.aload X389.here hx rfl (hb hby at_80) rfl rfl k) ?_
            show own_E p e below _ T389 (mkF m 82 #[.val (.long q1), .second, .val (.long q2), .second, iv p3, iv 1, iv 0, .val (.long q1), .second, iv (((p3.toUInt32 >>> ((3 : Int32) &&& 31).toUInt32).toInt32) &&& (3 : Int32)), rv b383, .unset, .unset] [.ref b383])
            refine own_st (fun t k => XS.aconstNull X389.here hx rfl (hb hby at_82) k) ?_
            show own_E p e below _ T389 (mkF m 83 #[.val (.long q1), .second, .val (.long q2), .second, iv p3, iv 1, iv 0, .val (.long q1), .second, iv (((p3.toUInt32 >>> ((3 : Int32) &&& 31).toUInt32).toInt32) &&& (3 : Int32)), rv b383, .unset, .unset] [.null, .ref b383])
            obtain ⟨cq391, kq391, q391a, q391b, q391c⟩ := isOf hZ e389 P386_0
            obtain ⟨_, _, ⟨T391, L391, k391, n391⟩, -, X391, ⟨Lc391, hQ391, l391, y391, z391⟩, st391⟩ := X389.virtualBack hx (y := own_y4) (z := own_y4) hown (mvT hZ (own_w hw 13 rfl)) (mvT hZ (own_w hw 14 rfl)) (notFace_of_selects (args := #[]) (mvT hZ (own_w hw 16 rfl))) (mvT hZ (own_w hw 16 rfl)) (mvT hZ (own_w hw 15 rfl)) (by decide) (backOf (W := 0) (own_eqN l Z a0 hw [] b383 T386.heap n0 Z387 ) hZ (own_w hw 17 rfl) (own_w hw 2 rfl) (by decide) (by decide)) q391a q391c (g := (mkF m 83 #[.val (.long q1), .second, .val (.long q2), .second, iv p3, iv 1, iv 0, .val (.long q1), .second, iv (((p3.toUInt32 >>> ((3 : Int32) &&& 31).toUInt32).toInt32) &&& (3 : Int32)), rv b383, .unset, .unset] [.null, .ref b383])) rfl (by rw [hml]; rfl) (Steps.refl _) (argsL := [.null]) (rest := []) (lenOf own_pd_5 rfl) rfl (by show 2 * 0 + _ ≤ _; exact Nat.le_of_eq rfl) (hb hby at_83) (fun _ _ => ⟨rfl, e389, (by decide : 1 + 0 ≤ _), (by decide : 2 + 0 ≤ _)⟩)
            dsimp only [Pt.U, Pt.locs, Pt.cells, Pt.slots] at X391 l391 y391 z391 st391 hQ391
            subst l391 y391 z391
            obtain ⟨hR391, e391, rfl⟩ := hQ391
            have N391 := Fr.app N389 (Fr.nil n0)
            obtain rfl := hR391
            refine own_tr st391 ?_
            show own_E p e below _ T391 (mkF m 86 #[.val (.long q1), .second, .val (.long q2), .second, iv p3, iv 1, iv 0, .val (.long q1), .second, iv (((p3.toUInt32 >>> ((3 : Int32) &&& 31).toUInt32).toInt32) &&& (3 : Int32)), rv b383, .unset, .unset] [.int 0])
            refine own_st (fun t k => XS.ifNo X391.here hx rfl (hb hby at_86) rfl (by decide) k) ?_
            show own_E p e below _ T391 (mkF m 89 #[.val (.long q1), .second, .val (.long q2), .second, iv p3, iv 1, iv 0, .val (.long q1), .second, iv (((p3.toUInt32 >>> ((3 : Int32) &&& 31).toUInt32).toInt32) &&& (3 : Int32)), rv b383, .unset, .unset] [])
            refine own_st (fun t k => XS.iconst X391.here hx rfl (hb hby at_89) k) ?_
            show own_E p e below _ T391 (mkF m 90 #[.val (.long q1), .second, .val (.long q2), .second, iv p3, iv 1, iv 0, .val (.long q1), .second, iv (((p3.toUInt32 >>> ((3 : Int32) &&& 31).toUInt32).toInt32) &&& (3 : Int32)), rv b383, .unset, .unset] [.int 1])
            refine own_st (fun t k => XS.goto X391.here hx rfl (pc0 := 90) (pc' := 94) rfl (hb hby at_90) (by decide) (by decide) k) ?_
            show own_E p e below _ T391 (mkF m 94 #[.val (.long q1), .second, .val (.long q2), .second, iv p3, iv 1, iv 0, .val (.long q1), .second, iv (((p3.toUInt32 >>> ((3 : Int32) &&& 31).toUInt32).toInt32) &&& (3 : Int32)), rv b383, .unset, .unset] [.int 1])
            refine own_retS X391 hx Bd.notSynchronized Bd.returns rfl (by decide) (hb hby at_94) (by decide) (by decide) ?_
            exact ⟨rfl, N391⟩
          · refine own_st (fun t k => XS.icmpYes X389.here hx rfl (pc0 := 77) (pc' := 95) rfl (hb hby at_77) rfl (feq hc390).2 (by decide) (by decide) k) ?_
            show own_E p e below _ T389 (mkF m 95 #[.val (.long q1), .second, .val (.long q2), .second, iv p3, iv 1, iv 0, .val (.long q1), .second, iv (((p3.toUInt32 >>> ((3 : Int32) &&& 31).toUInt32).toInt32) &&& (3 : Int32)), rv b383, .unset, .unset] [])
            refine own_st (fun t k => XS.iload X389.here hx rfl (hb hby at_95) rfl k) ?_
            show own_E p e below _ T389 (mkF m 97 #[.val (.long q1), .second, .val (.long q2), .second, iv p3, iv 1, iv 0, .val (.long q1), .second, iv (((p3.toUInt32 >>> ((3 : Int32) &&& 31).toUInt32).toInt32) &&& (3 : Int32)), rv b383, .unset, .unset] [.int (((p3.toUInt32 >>> ((3 : Int32) &&& 31).toUInt32).toInt32) &&& (3 : Int32))])
            refine own_st (fun t k => XS.iconst X389.here hx rfl (hb hby at_97) k) ?_
            show own_E p e below _ T389 (mkF m 98 #[.val (.long q1), .second, .val (.long q2), .second, iv p3, iv 1, iv 0, .val (.long q1), .second, iv (((p3.toUInt32 >>> ((3 : Int32) &&& 31).toUInt32).toInt32) &&& (3 : Int32)), rv b383, .unset, .unset] [.int 2, .int (((p3.toUInt32 >>> ((3 : Int32) &&& 31).toUInt32).toInt32) &&& (3 : Int32))])
            by_cases hc392 : (((p3.toUInt32 >>> ((3 : Int32) &&& 31).toUInt32).toInt32) &&& (3 : Int32)) = (2 : Int32)
            · refine own_st (fun t k => XS.icmpNo X389.here hx rfl (hb hby at_98) rfl (teq hc392).2 k) ?_
              show own_E p e below _ T389 (mkF m 101 #[.val (.long q1), .second, .val (.long q2), .second, iv p3, iv 1, iv 0, .val (.long q1), .second, iv (((p3.toUInt32 >>> ((3 : Int32) &&& 31).toUInt32).toInt32) &&& (3 : Int32)), rv b383, .unset, .unset] [])
              refine own_st (fun t k => XS.lloadN X389.here hx rfl (hb hby at_101) rfl k) ?_
              show own_E p e below _ T389 (mkF m 102 #[.val (.long q1), .second, .val (.long q2), .second, iv p3, iv 1, iv 0, .val (.long q1), .second, iv (((p3.toUInt32 >>> ((3 : Int32) &&& 31).toUInt32).toInt32) &&& (3 : Int32)), rv b383, .unset, .unset] [.long q1])
              obtain ⟨_, _, ⟨T393, L393, k393, n393⟩, -, X393, ⟨Lc393, hQ393, l393, y393, z393⟩, st393⟩ := Jvm.LawKit.callS X389 hx (y := own_y2) hown (mvT hZ (own_w hw 20 rfl)) (mvT hZ (own_w hw 21 rfl)) (mvT hZ (own_w hw 22 rfl)) (mvT hZ (own_w hw 23 rfl)) (by decide) (backOf (W := 0) (own_lval l Z a0 hw [] q1 T386.heap n0 Z387 (own_cache_keep hC K388)) hZ (own_w hw 23 rfl) (own_w hw 22 rfl) (by decide) (by decide)) (g := (mkF m 102 #[.val (.long q1), .second, .val (.long q2), .second, iv p3, iv 1, iv 0, .val (.long q1), .second, iv (((p3.toUInt32 >>> ((3 : Int32) &&& 31).toUInt32).toInt32) &&& (3 : Int32)), rv b383, .unset, .unset] [.long q1])) rfl (by rw [hml]; rfl) (argsL := [(.long q1)]) (rest := []) (lenOf own_pd_1 rfl) rfl (by show 2 * 0 + _ ≤ _; exact Nat.le_of_eq rfl) (hb hby at_102) (fun _ _ => ⟨rfl, e389, (by decide : 1 + 1 ≤ _), (by decide : 2 + 1 ≤ _)⟩)
              dsimp only [Pt.U, Pt.locs, Pt.cells, Pt.slots] at X393 l393 y393 z393 st393 hQ393
              subst l393 y393 z393
              obtain ⟨b393_o, rfl, Nq393, Kq393, P393⟩ := hQ393
              have N393 := Fr.app N389 Nq393
              have e393 : T393.heap = T393.heap := rfl
              have Z394 := Nat.le_trans Z387 Kq393.1
              have K395 : Keep h0 _ [] := K388.trans Kq393 all0
              refine own_st st393 ?_
              show own_E p e below _ T393 (mkF m 105 #[.val (.long q1), .second, .val (.long q2), .second, iv p3, iv 1, iv 0, .val (.long q1), .second, iv (((p3.toUInt32 >>> ((3 : Int32) &&& 31).toUInt32).toInt32) &&& (3 : Int32)), rv b383, .unset, .unset] [.ref b393_o])
              refine own_st (fun t k => XS.astore X393.here hx rfl (hb hby at_105) rfl rfl (l' := #[.val (.long q1), .second, .val (.long q2), .second, iv p3, iv 1, iv 0, .val (.long q1), .second, iv (((p3.toUInt32 >>> ((3 : Int32) &&& 31).toUInt32).toInt32) &&& (3 : Int32)), rv b383, rv b393_o, .unset]) rfl k) ?_
              show own_E p e below _ T393 (mkF m 107 #[.val (.long q1), .second, .val (.long q2), .second, iv p3, iv 1, iv 0, .val (.long q1), .second, iv (((p3.toUInt32 >>> ((3 : Int32) &&& 31).toUInt32).toInt32) &&& (3 : Int32)), rv b383, rv b393_o, .unset] [])
              refine own_st (fun t k => XS.aload X393.here hx rfl (hb hby at_107) rfl rfl k) ?_
              show own_E p e below _ T393 (mkF m 109 #[.val (.long q1), .second, .val (.long q2), .second, iv p3, iv 1, iv 0, .val (.long q1), .second, iv (((p3.toUInt32 >>> ((3 : Int32) &&& 31).toUInt32).toInt32) &&& (3 : Int32)), rv b383, rv b393_o, .unset] [.ref b383])
              refine own_st (fun t k => XS.aload X393.here hx rfl (hb hby at_109) rfl rfl k) ?_
              show own_E p e below _ T393 (mkF m 111 #[.val (.long q1), .second, .val (.long q2), .second, iv p3, iv 1, iv 0, .val (.long q1), .second, iv (((p3.toUInt32 >>> ((3 : Int32) &&& 31).toUInt32).toInt32) &&& (3 : Int32)), rv b383, rv b393_o, .unset] [.ref b393_o, .ref b383])
              have B397 := (P386_0.keep Kq393)
              obtain ⟨cq396, kq396, q396a, q396b, q396c⟩ := isOf hZ e393 B397
              obtain ⟨_, _, ⟨T396, L396, k396, n396⟩, -, X396, ⟨Lc396, hQ396, l396, y396, z396⟩, st396⟩ := X393.virtualBack hx (y := own_y4) (z := own_y4) hown (mvT hZ (own_w hw 13 rfl)) (mvT hZ (own_w hw 14 rfl)) (notFace_of_selects (args := #[]) (mvT hZ (own_w hw 16 rfl))) (mvT hZ (own_w hw 16 rfl)) (mvT hZ (own_w hw 15 rfl)) (by decide) (backOf (W := 0) (own_eqL l Z a0 hw [] b383 b393_o T393.heap n0 Z394 P393) hZ (own_w hw 17 rfl) (own_w hw 2 rfl) (by decide) (by decide)) q396a q396c (g := (mkF m 111 #[.val (.long q1), .second, .val (.long q2), .second, iv p3, iv 1, iv 0, .val (.long q1), .second, iv (((p3.toUInt32 >>> ((3 : Int32) &&& 31).toUInt32).toInt32) &&& (3 : Int32)), rv b383, rv b393_o, .unset] [.ref b393_o, .ref b383])) rfl (by rw [hml]; rfl) (Steps.refl _) (argsL := [(.ref b393_o)]) (rest := []) (lenOf own_pd_5 rfl) rfl (by show 2 * 0 + _ ≤ _; exact Nat.le_of_eq rfl) (hb hby at_111) (fun _ _ => ⟨rfl, e393, (by decide : 2 + 0 ≤ _), (by decide : 3 + 0 ≤ _)⟩)
              dsimp only [Pt.U, Pt.locs, Pt.cells, Pt.slots] at X396 l396 y396 z396 st396 hQ396
              subst l396 y396 z396
              obtain ⟨hR396, e396, rfl⟩ := hQ396
              have N396 := Fr.app N393 (Fr.nil n0)
              obtain rfl := hR396
              refine own_tr st396 ?_
              show own_E p e below _ T396 (mkF m 114 #[.val (.long q1), .second, .val (.long q2), .second, iv p3, iv 1, iv 0, .val (.long q1), .second, iv (((p3.toUInt32 >>> ((3 : Int32) &&& 31).toUInt32).toInt32) &&& (3 : Int32)), rv b383, rv b393_o, .unset] [.int 0])
              refine own_st (fun t k => XS.ifNo X396.here hx rfl (hb hby at_114) rfl (by decide) k) ?_
              show own_E p e below _ T396 (mkF m 117 #[.val (.long q1), .second, .val (.long q2), .second, iv p3, iv 1, iv 0, .val (.long q1), .second, iv (((p3.toUInt32 >>> ((3 : Int32) &&& 31).toUInt32).toInt32) &&& (3 : Int32)), rv b383, rv b393_o, .unset] [])
              refine own_st (fun t k => XS.iconst X396.here hx rfl (hb hby at_117) k) ?_
              show own_E p e below _ T396 (mkF m 118 #[.val (.long q1), .second, .val (.long q2), .second, iv p3, iv 1, iv 0, .val (.long q1), .second, iv (((p3.toUInt32 >>> ((3 : Int32) &&& 31).toUInt32).toInt32) &&& (3 : Int32)), rv b383, rv b393_o, .unset] [.int 1])
              refine own_st (fun t k => XS.goto X396.here hx rfl (pc0 := 118) (pc' := 122) rfl (hb hby at_118) (by decide) (by decide) k) ?_
              show own_E p e below _ T396 (mkF m 122 #[.val (.long q1), .second, .val (.long q2), .second, iv p3, iv 1, iv 0, .val (.long q1), .second, iv (((p3.toUInt32 >>> ((3 : Int32) &&& 31).toUInt32).toInt32) &&& (3 : Int32)), rv b383, rv b393_o, .unset] [.int 1])
              refine own_retS X396 hx Bd.notSynchronized Bd.returns rfl (by decide) (hb hby at_122) (by decide) (by decide) ?_
              exact ⟨rfl, N396⟩
            · refine own_st (fun t k => XS.icmpYes X389.here hx rfl (pc0 := 98) (pc' := 123) rfl (hb hby at_98) rfl (feq hc392).2 (by decide) (by decide) k) ?_
              show own_E p e below _ T389 (mkF m 123 #[.val (.long q1), .second, .val (.long q2), .second, iv p3, iv 1, iv 0, .val (.long q1), .second, iv (((p3.toUInt32 >>> ((3 : Int32) &&& 31).toUInt32).toInt32) &&& (3 : Int32)), rv b383, .unset, .unset] [])
              obtain ⟨T398, h398, X398, e398, E398, A398, D398, -, st398⟩ := newO X389 hx hZ hown (own_w hw 0 rfl) (own_w hw 1 rfl) (own_w hw 2 rfl) e389 (g := (mkF m 123 #[.val (.long q1), .second, .val (.long q2), .second, iv p3, iv 1, iv 0, .val (.long q1), .second, iv (((p3.toUInt32 >>> ((3 : Int32) &&& 31).toUInt32).toInt32) &&& (3 : Int32)), rv b383, .unset, .unset] [])) rfl (hb hby at_123) (by decide) (by decide)
              obtain ⟨b398, g398⟩ : ∃ z, z = T386.heap.size := ⟨_, rfl⟩
              rw [← g398] at A398 D398 st398
              have ne_b383_b398 : b383 ≠ b398 := Nat.ne_of_lt (Nat.lt_of_lt_of_le P386_0.lt (Nat.le_of_eq g398.symm))
              have g_b398 : n0 ≤ b398 := Nat.le_trans Z387 (Nat.le_of_eq g398.symm)
              have sz_b398 : h0.size ≤ b398 := Nat.le_trans K388.1 (Nat.le_of_eq g398.symm)
              have Z399 := Nat.le_trans Z387 E398.1
              have K400 : Keep h0 _ [] := K388.ext E398
              have F_count_b398 : Fld Z h398 b398 "com/example/tight_fence/tightfence/engine/TemporalValue" "count" "J" (.long (0 : Int64)) := D398 (Or.inr (own_w hw 10 rfl)) (ty := .long) (by decide)
              have F_fromClock_b398 : Fld Z h398 b398 "com/example/tight_fence/tightfence/engine/TemporalValue" "fromClock" "Z" (.int (0 : Int32)) := D398 (Or.inr (own_w hw 12 rfl)) (ty := .boolean) (by decide)
              refine own_st st398 ?_
              show own_E p e below _ T398 (mkF m 126 #[.val (.long q1), .second, .val (.long q2), .second, iv p3, iv 1, iv 0, .val (.long q1), .second, iv (((p3.toUInt32 >>> ((3 : Int32) &&& 31).toUInt32).toInt32) &&& (3 : Int32)), rv b383, .unset, .unset] [.ref b398])
              refine own_st (fun t k => XS.dup X398.here hx rfl (hb hby at_126) rfl rfl k) ?_
              show own_E p e below _ T398 (mkF m 127 #[.val (.long q1), .second, .val (.long q2), .second, iv p3, iv 1, iv 0, .val (.long q1), .second, iv (((p3.toUInt32 >>> ((3 : Int32) &&& 31).toUInt32).toInt32) &&& (3 : Int32)), rv b383, .unset, .unset] [.ref b398, .ref b398])
              refine own_st (fun t k => XS.lload X398.here hx rfl (hb hby at_127) rfl k) ?_
              show own_E p e below _ T398 (mkF m 129 #[.val (.long q1), .second, .val (.long q2), .second, iv p3, iv 1, iv 0, .val (.long q1), .second, iv (((p3.toUInt32 >>> ((3 : Int32) &&& 31).toUInt32).toInt32) &&& (3 : Int32)), rv b383, .unset, .unset] [.long q1, .ref b398, .ref b398])
              refine own_st (fun t k => XS.iload X398.here hx rfl (hb hby at_129) rfl k) ?_
              show own_E p e below _ T398 (mkF m 131 #[.val (.long q1), .second, .val (.long q2), .second, iv p3, iv 1, iv 0, .val (.long q1), .second, iv (((p3.toUInt32 >>> ((3 : Int32) &&& 31).toUInt32).toInt32) &&& (3 : Int32)), rv b383, .unset, .unset] [.int 0, .long q1, .ref b398, .ref b398])
              obtain ⟨_, _, ⟨T401, L401, k401, n401⟩, -, X401, ⟨Lc401, hQ401, l401, y401, z401⟩, st401⟩ := X398.specialBack hx (y := own_y3) rfl hown (mvT hZ (own_w hw 3 rfl)) (mvT hZ (own_w hw 4 rfl)) (mvT hZ (own_w hw 5 rfl)) (by decide) (backOf (W := 1) (own_init0 l Z a0 hw [] b398 q1 h398 n0 Z399 A398 F_count_b398 F_fromClock_b398 g_b398) hZ (own_w hw 5 rfl) (own_w hw 2 rfl) (by decide) (by decide)) (g := (mkF m 131 #[.val (.long q1), .second, .val (.long q2), .second, iv p3, iv 1, iv 0, .val (.long q1), .second, iv (((p3.toUInt32 >>> ((3 : Int32) &&& 31).toUInt32).toInt32) &&& (3 : Int32)), rv b383, .unset, .unset] [.int 0, .long q1, .ref b398, .ref b398])) rfl (by rw [hml]; rfl) (Steps.refl _) (a := b398) (argsL := [(.long q1), (.int (0 : Int32))]) (rest := [(.ref b398)]) (lenOf own_pd_4 rfl) rfl (by show 2 * 0 + _ ≤ _; exact Nat.le_of_eq rfl) (hb hby at_131) (fun _ _ => ⟨rfl, e398, (by decide : 2 + 0 ≤ _), (by decide : 4 + 0 ≤ _)⟩)
              dsimp only [Pt.U, Pt.locs, Pt.cells, Pt.slots] at X401 l401 y401 z401 st401 hQ401
              subst l401 y401 z401
              obtain ⟨rfl, Nq401, Kq401, P401_0, P401_1⟩ := hQ401
              have N401 := Fr.app N389 Nq401
              have e401 : T401.heap = T401.heap := rfl
              have Z402 := Nat.le_trans Z399 Kq401.1
              have K403 : Keep h0 _ [] := K400.trans Kq401 (allS (P := fun x => x ∈ [] ∨ h0.size ≤ x) (Or.inr sz_b398) all0)
              refine own_tr st401 ?_
              show own_E p e below _ T401 (mkF m 134 #[.val (.long q1), .second, .val (.long q2), .second, iv p3, iv 1, iv 0, .val (.long q1), .second, iv (((p3.toUInt32 >>> ((3 : Int32) &&& 31).toUInt32).toInt32) &&& (3 : Int32)), rv b383, .unset, .unset] [.ref b398])
              refine own_st (fun t k => XS.astore X401.here hx rfl (hb hby at_134) rfl rfl (l' := #[.val (.long q1), .second, .val (.long q2), .second, iv p3, iv 1, iv 0, .val (.long q1), .second, iv (((p3.toUInt32 >>> ((3 : Int32) &&& 31).toUInt32).toInt32) &&& (3 : Int32)), rv b383, rv b398, .unset]) rfl k) ?_
              show own_E p e below _ T401 (mkF m 136 #[.val (.long q1), .second, .val (.long q2), .second, iv p3, iv 1, iv 0, .val (.long q1), .second, iv (((p3.toUInt32 >>> ((3 : Int32) &&& 31).toUInt32).toInt32) &&& (3 : Int32)), rv b383, rv b398, .unset] [])
              refine own_st (fun t k => XS.lloadN X401.here hx rfl (hb hby at_136) rfl k) ?_
              show own_E p e below _ T401 (mkF m 137 #[.val (.long q1), .second, .val (.long q2), .second, iv p3, iv 1, iv 0, .val (.long q1), .second, iv (((p3.toUInt32 >>> ((3 : Int32) &&& 31).toUInt32).toInt32) &&& (3 : Int32)), rv b383, rv b398, .unset] [.long q1])
              refine own_st (fun t k => XS.lload X401.here hx rfl (hb hby at_137) rfl k) ?_
              show own_E p e below _ T401 (mkF m 139 #[.val (.long q1), .second, .val (.long q2), .second, iv p3, iv 1, iv 0, .val (.long q1), .second, iv (((p3.toUInt32 >>> ((3 : Int32) &&& 31).toUInt32).toInt32) &&& (3 : Int32)), rv b383, rv b398, .unset] [.long q1, .long q1])
              refine own_st (fun t k => XS.lcmp X401.here hx rfl (hb hby at_139) rfl k) ?_
              show own_E p e below _ T401 (mkF m 140 #[.val (.long q1), .second, .val (.long q2), .second, iv p3, iv 1, iv 0, .val (.long q1), .second, iv (((p3.toUInt32 >>> ((3 : Int32) &&& 31).toUInt32).toInt32) &&& (3 : Int32)), rv b383, rv b398, .unset] [.int (lcmpW q1 q1)])
              refine own_st (fun t k => XS.ifNo X401.here hx rfl (hb hby at_140) rfl ((if0 _ _).trans (teq ((lw_eq _ _).mpr ha389_0)).2) k) ?_
              show own_E p e below _ T401 (mkF m 143 #[.val (.long q1), .second, .val (.long q2), .second, iv p3, iv 1, iv 0, .val (.long q1), .second, iv (((p3.toUInt32 >>> ((3 : Int32) &&& 31).toUInt32).toInt32) &&& (3 : Int32)), rv b383, rv b398, .unset] [])
              refine own_st (fun t k => XS.iconst X401.here hx rfl (hb hby at_143) k) ?_
              show own_E p e below _ T401 (mkF m 144 #[.val (.long q1), .second, .val (.long q2), .second, iv p3, iv 1, iv 0, .val (.long q1), .second, iv (((p3.toUInt32 >>> ((3 : Int32) &&& 31).toUInt32).toInt32) &&& (3 : Int32)), rv b383, rv b398, .unset] [.int 1])
              refine own_st (fun t k => XS.goto X401.here hx rfl (pc0 := 144) (pc' := 148) rfl (hb hby at_144) (by decide) (by decide) k) ?_
              show own_E p e below _ T401 (mkF m 148 #[.val (.long q1), .second, .val (.long q2), .second, iv p3, iv 1, iv 0, .val (.long q1), .second, iv (((p3.toUInt32 >>> ((3 : Int32) &&& 31).toUInt32).toInt32) &&& (3 : Int32)), rv b383, rv b398, .unset] [.int 1])
              refine own_st (fun t k => XS.istore X401.here hx rfl (hb hby at_148) rfl (l' := #[.val (.long q1), .second, .val (.long q2), .second, iv p3, iv 1, iv 0, .val (.long q1), .second, iv (((p3.toUInt32 >>> ((3 : Int32) &&& 31).toUInt32).toInt32) &&& (3 : Int32)), rv b383, rv b398, iv 1]) rfl k) ?_
              show own_E p e below _ T401 (mkF m 150 #[.val (.long q1), .second, .val (.long q2), .second, iv p3, iv 1, iv 0, .val (.long q1), .second, iv (((p3.toUInt32 >>> ((3 : Int32) &&& 31).toUInt32).toInt32) &&& (3 : Int32)), rv b383, rv b398, iv 1] [])
              refine own_st (fun t k => XS.aload X401.here hx rfl (hb hby at_150) rfl rfl k) ?_
              show own_E p e below _ T401 (mkF m 152 #[.val (.long q1), .second, .val (.long q2), .second, iv p3, iv 1, iv 0, .val (.long q1), .second, iv (((p3.toUInt32 >>> ((3 : Int32) &&& 31).toUInt32).toInt32) &&& (3 : Int32)), rv b383, rv b398, iv 1] [.ref b383])
              refine own_st (fun t k => XS.aload X401.here hx rfl (hb hby at_152) rfl rfl k) ?_
              show own_E p e below _ T401 (mkF m 154 #[.val (.long q1), .second, .val (.long q2), .second, iv p3, iv 1, iv 0, .val (.long q1), .second, iv (((p3.toUInt32 >>> ((3 : Int32) &&& 31).toUInt32).toInt32) &&& (3 : Int32)), rv b383, rv b398, iv 1] [.ref b398, .ref b383])
              have B404 := ((P386_1.ext E398).keep Kq401 (ninS ne_b383_b398 nin0))
              have B406 := ((P386_0.ext E398).keep Kq401)
              obtain ⟨cq405, kq405, q405a, q405b, q405c⟩ := isOf hZ e401 B406
              obtain ⟨_, _, ⟨T405, L405, k405, n405⟩, -, X405, ⟨Lc405, hQ405, l405, y405, z405⟩, st405⟩ := X401.virtualBack hx (y := own_y4) (z := own_y4) hown (mvT hZ (own_w hw 13 rfl)) (mvT hZ (own_w hw 14 rfl)) (notFace_of_selects (args := #[]) (mvT hZ (own_w hw 16 rfl))) (mvT hZ (own_w hw 16 rfl)) (mvT hZ (own_w hw 15 rfl)) (by decide) (backOf (W := 0) (own_eqT l Z a0 hw [] b383 b398 q1 q1 T401.heap n0 Z402 P401_0 B404 P401_1) hZ (own_w hw 17 rfl) (own_w hw 2 rfl) (by decide) (by decide)) q405a q405c (g := (mkF m 154 #[.val (.long q1), .second, .val (.long q2), .second, iv p3, iv 1, iv 0, .val (.long q1), .second, iv (((p3.toUInt32 >>> ((3 : Int32) &&& 31).toUInt32).toInt32) &&& (3 : Int32)), rv b383, rv b398, iv 1] [.ref b398, .ref b383])) rfl (by rw [hml]; rfl) (Steps.refl _) (argsL := [(.ref b398)]) (rest := []) (lenOf own_pd_5 rfl) rfl (by show 2 * 0 + _ ≤ _; exact Nat.le_of_eq rfl) (hb hby at_154) (fun _ _ => ⟨rfl, e401, (by decide : 2 + 0 ≤ _), (by decide : 4 + 0 ≤ _)⟩)
              dsimp only [Pt.U, Pt.locs, Pt.cells, Pt.slots] at X405 l405 y405 z405 st405 hQ405
              subst l405 y405 z405
              obtain ⟨hR405, e405, rfl⟩ := hQ405
              have N405 := Fr.app N401 (Fr.nil n0)
              rcases hR405 with ⟨rfl, ha405_0⟩ | ⟨rfl, ha405_0⟩
              · refine own_tr st405 ?_
                show own_E p e below _ T405 (mkF m 157 #[.val (.long q1), .second, .val (.long q2), .second, iv p3, iv 1, iv 0, .val (.long q1), .second, iv (((p3.toUInt32 >>> ((3 : Int32) &&& 31).toUInt32).toInt32) &&& (3 : Int32)), rv b383, rv b398, iv 1] [.int 1])
                refine own_st (fun t k => XS.iload X405.here hx rfl (hb hby at_157) rfl k) ?_
                show own_E p e below _ T405 (mkF m 159 #[.val (.long q1), .second, .val (.long q2), .second, iv p3, iv 1, iv 0, .val (.long q1), .second, iv (((p3.toUInt32 >>> ((3 : Int32) &&& 31).toUInt32).toInt32) &&& (3 : Int32)), rv b383, rv b398, iv 1] [.int 1, .int 1])
                refine own_st (fun t k => XS.icmpYes X405.here hx rfl (pc0 := 159) (pc' := 164) rfl (hb hby at_159) rfl (by decide) (by decide) (by decide) k) ?_
                show own_E p e below _ T405 (mkF m 164 #[.val (.long q1), .second, .val (.long q2), .second, iv p3, iv 1, iv 0, .val (.long q1), .second, iv (((p3.toUInt32 >>> ((3 : Int32) &&& 31).toUInt32).toInt32) &&& (3 : Int32)), rv b383, rv b398, iv 1] [])
                refine own_st (fun t k => XS.aload X405.here hx rfl (hb hby at_164) rfl rfl k) ?_
                show own_E p e below _ T405 (mkF m 166 #[.val (.long q1), .second, .val (.long q2), .second, iv p3, iv 1, iv 0, .val (.long q1), .second, iv (((p3.toUInt32 >>> ((3 : Int32) &&& 31).toUInt32).toInt32) &&& (3 : Int32)), rv b383, rv b398, iv 1] [.ref b398])
                refine own_st (fun t k => XS.aload X405.here hx rfl (hb hby at_166) rfl rfl k) ?_
                show own_E p e below _ T405 (mkF m 168 #[.val (.long q1), .second, .val (.long q2), .second, iv p3, iv 1, iv 0, .val (.long q1), .second, iv (((p3.toUInt32 >>> ((3 : Int32) &&& 31).toUInt32).toInt32) &&& (3 : Int32)), rv b383, rv b398, iv 1] [.ref b383, .ref b398])
                obtain ⟨cq407, kq407, q407a, q407b, q407c⟩ := isOf hZ e405 P401_0
                obtain ⟨_, _, ⟨T407, L407, k407, n407⟩, -, X407, ⟨Lc407, hQ407, l407, y407, z407⟩, st407⟩ := X405.virtualBack hx (y := own_y4) (z := own_y4) hown (mvT hZ (own_w hw 13 rfl)) (mvT hZ (own_w hw 14 rfl)) (notFace_of_selects (args := #[]) (mvT hZ (own_w hw 16 rfl))) (mvT hZ (own_w hw 16 rfl)) (mvT hZ (own_w hw 15 rfl)) (by decide) (backOf (W := 0) (own_eqT l Z a0 hw [] b398 b383 q1 q1 T401.heap n0 Z402 B406 P401_1 B404) hZ (own_w hw 17 rfl) (own_w hw 2 rfl) (by decide) (by decide)) q407a q407c (g := (mkF m 168 #[.val (.long q1), .second, .val (.long q2), .second, iv p3, iv 1, iv 0, .val (.long q1), .second, iv (((p3.toUInt32 >>> ((3 : Int32) &&& 31).toUInt32).toInt32) &&& (3 : Int32)), rv b383, rv b398, iv 1] [.ref b383, .ref b398])) rfl (by rw [hml]; rfl) (Steps.refl _) (argsL := [(.ref b383)]) (rest := []) (lenOf own_pd_5 rfl) rfl (by show 2 * 0 + _ ≤ _; exact Nat.le_of_eq rfl) (hb hby at_168) (fun _ _ => ⟨rfl, e405, (by decide : 2 + 0 ≤ _), (by decide : 4 + 0 ≤ _)⟩)
                dsimp only [Pt.U, Pt.locs, Pt.cells, Pt.slots] at X407 l407 y407 z407 st407 hQ407
                subst l407 y407 z407
                obtain ⟨hR407, e407, rfl⟩ := hQ407
                have N407 := Fr.app N405 (Fr.nil n0)
                rcases hR407 with ⟨rfl, ha407_0⟩ | ⟨rfl, ha407_0⟩
                · refine own_tr st407 ?_
                  show own_E p e below _ T407 (mkF m 171 #[.val (.long q1), .second, .val (.long q2), .second, iv p3, iv 1, iv 0, .val (.long q1), .second, iv (((p3.toUInt32 >>> ((3 : Int32) &&& 31).toUInt32).toInt32) &&& (3 : Int32)), rv b383, rv b398, iv 1] [.int 1])
                  refine own_st (fun t k => XS.iload X407.here hx rfl (hb hby at_171) rfl k) ?_
                  show own_E p e below _ T407 (mkF m 173 #[.val (.long q1), .second, .val (.long q2), .second, iv p3, iv 1, iv 0, .val (.long q1), .second, iv (((p3.toUInt32 >>> ((3 : Int32) &&& 31).toUInt32).toInt32) &&& (3 : Int32)), rv b383, rv b398, iv 1] [.int 1, .int 1])
                  refine own_st (fun t k => XS.icmpNo X407.here hx rfl (hb hby at_173) rfl (by decide) k) ?_
                  show own_E p e below _ T407 (mkF m 176 #[.val (.long q1), .second, .val (.long q2), .second, iv p3, iv 1, iv 0, .val (.long q1), .second, iv (((p3.toUInt32 >>> ((3 : Int32) &&& 31).toUInt32).toInt32) &&& (3 : Int32)), rv b383, rv b398, iv 1] [])
                  refine own_st (fun t k => XS.iconst X407.here hx rfl (hb hby at_176) k) ?_
                  show own_E p e below _ T407 (mkF m 177 #[.val (.long q1), .second, .val (.long q2), .second, iv p3, iv 1, iv 0, .val (.long q1), .second, iv (((p3.toUInt32 >>> ((3 : Int32) &&& 31).toUInt32).toInt32) &&& (3 : Int32)), rv b383, rv b398, iv 1] [.int 1])
                  refine own_st (fun t k => XS.goto X407.here hx rfl (pc0 := 177) (pc' := 181) rfl (hb hby at_177) (by decide) (by decide) k) ?_
                  show own_E p e below _ T407 (mkF m 181 #[.val (.long q1), .second, .val (.long q2), .second, iv p3, iv 1, iv 0, .val (.long q1), .second, iv (((p3.toUInt32 >>> ((3 : Int32) &&& 31).toUInt32).toInt32) &&& (3 : Int32)), rv b383, rv b398, iv 1] [.int 1])
                  refine own_retS X407 hx Bd.notSynchronized Bd.returns rfl (by decide) (hb hby at_181) (by decide) (by decide) ?_
                  exact ⟨rfl, N407⟩
                · exact absurd ha389_0 ha407_0
              · exact absurd ha389_0 ha405_0
        · exfalso
          have f408 := rng32 p3
          have f409 : (1 : Int32).toInt = 1 := rfl
          have f410 := rng32 (p3 &&& (1 : Int32))
          have f411 : (p3 &&& (1 : Int32)).toInt = p3.toInt % 2 := c_mask p3 (1 : Int32) 1 (by decide) (by decide)
          have f412 : (0 : Int32).toInt = 0 := rfl
          have f413 : (2 : Int32).toInt = 2 := rfl
          have f414 := rng32 (p3 &&& (2 : Int32))
          have f415 := c_and p3 (2 : Int32) (by decide)
          have f416 : (4 : Int32).toInt = 4 := rfl
          have f417 := rng32 (p3 &&& (4 : Int32))
          have f418 := c_and p3 (4 : Int32) (by decide)
          have f419 := rng64 q1
          have g420 := hc1
          rw [← Int32.toInt_inj] at g420
          have g421 := hc283
          rw [← Int32.toInt_inj] at g421
          have g422 := hc284
          rw [← Int32.toInt_inj] at g422
          have g423 := ha389_0
          rw [← Int64.toInt_inj] at g423
          omega
    · refine own_st (fun t k => XS.ifNo X0.here hx rfl (hb hby at_18) rfl ((if0 _ _).trans (feq hc283).1) k) ?_
      show own_E p e below _ s₁ (mkF m 21 #[.val (.long q1), .second, .val (.long q2), .second, iv p3, iv 1, .unset, .unset, .unset, .unset, .unset, .unset, .unset] [])
      refine own_st (fun t k => XS.iconst X0.here hx rfl (hb hby at_21) k) ?_
      show own_E p e below _ s₁ (mkF m 22 #[.val (.long q1), .second, .val (.long q2), .second, iv p3, iv 1, .unset, .unset, .unset, .unset, .unset, .unset, .unset] [.int 1])
      refine own_st (fun t k => XS.goto X0.here hx rfl (pc0 := 22) (pc' := 26) rfl (hb hby at_22) (by decide) (by decide) k) ?_
      show own_E p e below _ s₁ (mkF m 26 #[.val (.long q1), .second, .val (.long q2), .second, iv p3, iv 1, .unset, .unset, .unset, .unset, .unset, .unset, .unset] [.int 1])
      refine own_st (fun t k => XS.istore X0.here hx rfl (hb hby at_26) rfl (l' := #[.val (.long q1), .second, .val (.long q2), .second, iv p3, iv 1, iv 1, .unset, .unset, .unset, .unset, .unset, .unset]) rfl k) ?_
      show own_E p e below _ s₁ (mkF m 28 #[.val (.long q1), .second, .val (.long q2), .second, iv p3, iv 1, iv 1, .unset, .unset, .unset, .unset, .unset, .unset] [])
      refine own_st (fun t k => XS.iload X0.here hx rfl (hb hby at_28) rfl k) ?_
      show own_E p e below _ s₁ (mkF m 30 #[.val (.long q1), .second, .val (.long q2), .second, iv p3, iv 1, iv 1, .unset, .unset, .unset, .unset, .unset, .unset] [.int p3])
      refine own_st (fun t k => XS.iconst X0.here hx rfl (hb hby at_30) k) ?_
      show own_E p e below _ s₁ (mkF m 31 #[.val (.long q1), .second, .val (.long q2), .second, iv p3, iv 1, iv 1, .unset, .unset, .unset, .unset, .unset, .unset] [.int 4, .int p3])
      refine own_st (fun t k => XS.iand X0.here hx rfl (hb hby at_31) rfl k) ?_
      show own_E p e below _ s₁ (mkF m 32 #[.val (.long q1), .second, .val (.long q2), .second, iv p3, iv 1, iv 1, .unset, .unset, .unset, .unset, .unset, .unset] [.int (p3 &&& (4 : Int32))])
      by_cases hc424 : (p3 &&& (4 : Int32)) = (0 : Int32)
      · refine own_st (fun t k => XS.ifYes X0.here hx rfl (pc0 := 32) (pc' := 39) rfl (hb hby at_32) rfl ((if0 _ _).trans (teq hc424).1) (by decide) (by decide) k) ?_
        show own_E p e below _ s₁ (mkF m 39 #[.val (.long q1), .second, .val (.long q2), .second, iv p3, iv 1, iv 1, .unset, .unset, .unset, .unset, .unset, .unset] [])
        refine own_st (fun t k => XS.lloadN X0.here hx rfl (hb hby at_39) rfl k) ?_
        show own_E p e below _ s₁ (mkF m 40 #[.val (.long q1), .second, .val (.long q2), .second, iv p3, iv 1, iv 1, .unset, .unset, .unset, .unset, .unset, .unset] [.long q2])
        refine own_st (fun t k => XS.lstore X0.here hx rfl (hb hby at_40) rfl (l' := #[.val (.long q1), .second, .val (.long q2), .second, iv p3, iv 1, iv 1, .val (.long q2), .second, .unset, .unset, .unset, .unset]) rfl k) ?_
        show own_E p e below _ s₁ (mkF m 42 #[.val (.long q1), .second, .val (.long q2), .second, iv p3, iv 1, iv 1, .val (.long q2), .second, .unset, .unset, .unset, .unset] [])
        refine own_st (fun t k => XS.iload X0.here hx rfl (hb hby at_42) rfl k) ?_
        show own_E p e below _ s₁ (mkF m 44 #[.val (.long q1), .second, .val (.long q2), .second, iv p3, iv 1, iv 1, .val (.long q2), .second, .unset, .unset, .unset, .unset] [.int p3])
        refine own_st (fun t k => XS.iconst X0.here hx rfl (hb hby at_44) k) ?_
        show own_E p e below _ s₁ (mkF m 45 #[.val (.long q1), .second, .val (.long q2), .second, iv p3, iv 1, iv 1, .val (.long q2), .second, .unset, .unset, .unset, .unset] [.int 3, .int p3])
        refine own_st (fun t k => XS.iushr X0.here hx rfl (hb hby at_45) rfl k) ?_
        show own_E p e below _ s₁ (mkF m 46 #[.val (.long q1), .second, .val (.long q2), .second, iv p3, iv 1, iv 1, .val (.long q2), .second, .unset, .unset, .unset, .unset] [.int ((p3.toUInt32 >>> ((3 : Int32) &&& 31).toUInt32).toInt32)])
        refine own_st (fun t k => XS.iconst X0.here hx rfl (hb hby at_46) k) ?_
        show own_E p e below _ s₁ (mkF m 47 #[.val (.long q1), .second, .val (.long q2), .second, iv p3, iv 1, iv 1, .val (.long q2), .second, .unset, .unset, .unset, .unset] [.int 3, .int ((p3.toUInt32 >>> ((3 : Int32) &&& 31).toUInt32).toInt32)])
        refine own_st (fun t k => XS.iand X0.here hx rfl (hb hby at_47) rfl k) ?_
        show own_E p e below _ s₁ (mkF m 48 #[.val (.long q1), .second, .val (.long q2), .second, iv p3, iv 1, iv 1, .val (.long q2), .second, .unset, .unset, .unset, .unset] [.int (((p3.toUInt32 >>> ((3 : Int32) &&& 31).toUInt32).toInt32) &&& (3 : Int32))])
        refine own_st (fun t k => XS.istore X0.here hx rfl (hb hby at_48) rfl (l' := #[.val (.long q1), .second, .val (.long q2), .second, iv p3, iv 1, iv 1, .val (.long q2), .second, iv (((p3.toUInt32 >>> ((3 : Int32) &&& 31).toUInt32).toInt32) &&& (3 : Int32)), .unset, .unset, .unset]) rfl k) ?_
        show own_E p e below _ s₁ (mkF m 50 #[.val (.long q1), .second, .val (.long q2), .second, iv p3, iv 1, iv 1, .val (.long q2), .second, iv (((p3.toUInt32 >>> ((3 : Int32) &&& 31).toUInt32).toInt32) &&& (3 : Int32)), .unset, .unset, .unset] [])
        obtain ⟨T425, h425, X425, e425, E425, A425, D425, -, st425⟩ := newO X0 hx hZ hown (own_w hw 0 rfl) (own_w hw 1 rfl) (own_w hw 2 rfl) e0 (g := (mkF m 50 #[.val (.long q1), .second, .val (.long q2), .second, iv p3, iv 1, iv 1, .val (.long q2), .second, iv (((p3.toUInt32 >>> ((3 : Int32) &&& 31).toUInt32).toInt32) &&& (3 : Int32)), .unset, .unset, .unset] [])) rfl (hb hby at_50) (by decide) (by decide)
        obtain ⟨b425, g425⟩ : ∃ z, z = h0.size := ⟨_, rfl⟩
        rw [← g425] at A425 D425 st425
        have g_b425 : n0 ≤ b425 := Nat.le_trans Z0 (Nat.le_of_eq g425.symm)
        have sz_b425 : h0.size ≤ b425 := Nat.le_trans (Keep.refl h0 []).1 (Nat.le_of_eq g425.symm)
        have Z426 := Nat.le_trans Z0 E425.1
        have K427 : Keep h0 _ [] := (Keep.refl h0 []).ext E425
        have F_count_b425 : Fld Z h425 b425 "com/example/tight_fence/tightfence/engine/TemporalValue" "count" "J" (.long (0 : Int64)) := D425 (Or.inr (own_w hw 10 rfl)) (ty := .long) (by decide)
        have F_fromClock_b425 : Fld Z h425 b425 "com/example/tight_fence/tightfence/engine/TemporalValue" "fromClock" "Z" (.int (0 : Int32)) := D425 (Or.inr (own_w hw 12 rfl)) (ty := .boolean) (by decide)
        refine own_st st425 ?_
        show own_E p e below _ T425 (mkF m 53 #[.val (.long q1), .second, .val (.long q2), .second, iv p3, iv 1, iv 1, .val (.long q2), .second, iv (((p3.toUInt32 >>> ((3 : Int32) &&& 31).toUInt32).toInt32) &&& (3 : Int32)), .unset, .unset, .unset] [.ref b425])
        refine own_st (fun t k => XS.dup X425.here hx rfl (hb hby at_53) rfl rfl k) ?_
        show own_E p e below _ T425 (mkF m 54 #[.val (.long q1), .second, .val (.long q2), .second, iv p3, iv 1, iv 1, .val (.long q2), .second, iv (((p3.toUInt32 >>> ((3 : Int32) &&& 31).toUInt32).toInt32) &&& (3 : Int32)), .unset, .unset, .unset] [.ref b425, .ref b425])
        refine own_st (fun t k => XS.lloadN X425.here hx rfl (hb hby at_54) rfl k) ?_
        show own_E p e below _ T425 (mkF m 55 #[.val (.long q1), .second, .val (.long q2), .second, iv p3, iv 1, iv 1, .val (.long q2), .second, iv (((p3.toUInt32 >>> ((3 : Int32) &&& 31).toUInt32).toInt32) &&& (3 : Int32)), .unset, .unset, .unset] [.long q1, .ref b425, .ref b425])
        refine own_st (fun t k => XS.iload X425.here hx rfl (hb hby at_55) rfl k) ?_
        show own_E p e below _ T425 (mkF m 57 #[.val (.long q1), .second, .val (.long q2), .second, iv p3, iv 1, iv 1, .val (.long q2), .second, iv (((p3.toUInt32 >>> ((3 : Int32) &&& 31).toUInt32).toInt32) &&& (3 : Int32)), .unset, .unset, .unset] [.int 1, .long q1, .ref b425, .ref b425])
        obtain ⟨_, _, ⟨T428, L428, k428, n428⟩, -, X428, ⟨Lc428, hQ428, l428, y428, z428⟩, st428⟩ := X425.specialBack hx (y := own_y3) rfl hown (mvT hZ (own_w hw 3 rfl)) (mvT hZ (own_w hw 4 rfl)) (mvT hZ (own_w hw 5 rfl)) (by decide) (backOf (W := 1) (own_init1 l Z a0 hw [] b425 q1 h425 n0 Z426 A425 F_count_b425 F_fromClock_b425 g_b425) hZ (own_w hw 5 rfl) (own_w hw 2 rfl) (by decide) (by decide)) (g := (mkF m 57 #[.val (.long q1), .second, .val (.long q2), .second, iv p3, iv 1, iv 1, .val (.long q2), .second, iv (((p3.toUInt32 >>> ((3 : Int32) &&& 31).toUInt32).toInt32) &&& (3 : Int32)), .unset, .unset, .unset] [.int 1, .long q1, .ref b425, .ref b425])) rfl (by rw [hml]; rfl) (Steps.refl _) (a := b425) (argsL := [(.long q1), (.int (1 : Int32))]) (rest := [(.ref b425)]) (lenOf own_pd_4 rfl) rfl (by show 2 * 0 + _ ≤ _; exact Nat.le_of_eq rfl) (hb hby at_57) (fun _ _ => ⟨rfl, e425, (by decide : 1 + 0 ≤ _), (by decide : 2 + 0 ≤ _)⟩)
        dsimp only [Pt.U, Pt.locs, Pt.cells, Pt.slots] at X428 l428 y428 z428 st428 hQ428
        subst l428 y428 z428
        obtain ⟨rfl, Nq428, Kq428, P428_0, P428_1⟩ := hQ428
        have N428 := Fr.app (Fr.nil n0) Nq428
        have e428 : T428.heap = T428.heap := rfl
        have Z429 := Nat.le_trans Z426 Kq428.1
        have K430 : Keep h0 _ [] := K427.trans Kq428 (allS (P := fun x => x ∈ [] ∨ h0.size ≤ x) (Or.inr sz_b425) all0)
        refine own_tr st428 ?_
        show own_E p e below _ T428 (mkF m 60 #[.val (.long q1), .second, .val (.long q2), .second, iv p3, iv 1, iv 1, .val (.long q2), .second, iv (((p3.toUInt32 >>> ((3 : Int32) &&& 31).toUInt32).toInt32) &&& (3 : Int32)), .unset, .unset, .unset] [.ref b425])
        refine own_st (fun t k => XS.astore X428.here hx rfl (hb hby at_60) rfl rfl (l' := #[.val (.long q1), .second, .val (.long q2), .second, iv p3, iv 1, iv 1, .val (.long q2), .second, iv (((p3.toUInt32 >>> ((3 : Int32) &&& 31).toUInt32).toInt32) &&& (3 : Int32)), rv b425, .unset, .unset]) rfl k) ?_
        show own_E p e below _ T428 (mkF m 62 #[.val (.long q1), .second, .val (.long q2), .second, iv p3, iv 1, iv 1, .val (.long q2), .second, iv (((p3.toUInt32 >>> ((3 : Int32) &&& 31).toUInt32).toInt32) &&& (3 : Int32)), rv b425, .unset, .unset] [])
        refine own_st (fun t k => XS.aload X428.here hx rfl (hb hby at_62) rfl rfl k) ?_
        show own_E p e below _ T428 (mkF m 64 #[.val (.long q1), .second, .val (.long q2), .second, iv p3, iv 1, iv 1, .val (.long q2), .second, iv (((p3.toUInt32 >>> ((3 : Int32) &&& 31).toUInt32).toInt32) &&& (3 : Int32)), rv b425, .unset, .unset] [.ref b425])
        refine own_st (fun t k => XS.aload X428.here hx rfl (hb hby at_64) rfl rfl k) ?_
        show own_E p e below _ T428 (mkF m 66 #[.val (.long q1), .second, .val (.long q2), .second, iv p3, iv 1, iv 1, .val (.long q2), .second, iv (((p3.toUInt32 >>> ((3 : Int32) &&& 31).toUInt32).toInt32) &&& (3 : Int32)), rv b425, .unset, .unset] [.ref b425, .ref b425])
        obtain ⟨cq431, kq431, q431a, q431b, q431c⟩ := isOf hZ e428 P428_0
        obtain ⟨_, _, ⟨T431, L431, k431, n431⟩, -, X431, ⟨Lc431, hQ431, l431, y431, z431⟩, st431⟩ := X428.virtualBack hx (y := own_y4) (z := own_y4) hown (mvT hZ (own_w hw 13 rfl)) (mvT hZ (own_w hw 14 rfl)) (notFace_of_selects (args := #[]) (mvT hZ (own_w hw 16 rfl))) (mvT hZ (own_w hw 16 rfl)) (mvT hZ (own_w hw 15 rfl)) (by decide) (backOf (W := 0) (own_eqT l Z a0 hw [] b425 b425 q1 q1 T428.heap n0 Z429 P428_0 P428_1 P428_1) hZ (own_w hw 17 rfl) (own_w hw 2 rfl) (by decide) (by decide)) q431a q431c (g := (mkF m 66 #[.val (.long q1), .second, .val (.long q2), .second, iv p3, iv 1, iv 1, .val (.long q2), .second, iv (((p3.toUInt32 >>> ((3 : Int32) &&& 31).toUInt32).toInt32) &&& (3 : Int32)), rv b425, .unset, .unset] [.ref b425, .ref b425])) rfl (by rw [hml]; rfl) (Steps.refl _) (argsL := [(.ref b425)]) (rest := []) (lenOf own_pd_5 rfl) rfl (by show 2 * 0 + _ ≤ _; exact Nat.le_of_eq rfl) (hb hby at_66) (fun _ _ => ⟨rfl, e428, (by decide : 1 + 0 ≤ _), (by decide : 2 + 0 ≤ _)⟩)
        dsimp only [Pt.U, Pt.locs, Pt.cells, Pt.slots] at X431 l431 y431 z431 st431 hQ431
        subst l431 y431 z431
        obtain ⟨hR431, e431, rfl⟩ := hQ431
        have N431 := Fr.app N428 (Fr.nil n0)
        rcases hR431 with ⟨rfl, ha431_0⟩ | ⟨rfl, ha431_0⟩
        · refine own_tr st431 ?_
          show own_E p e below _ T431 (mkF m 69 #[.val (.long q1), .second, .val (.long q2), .second, iv p3, iv 1, iv 1, .val (.long q2), .second, iv (((p3.toUInt32 >>> ((3 : Int32) &&& 31).toUInt32).toInt32) &&& (3 : Int32)), rv b425, .unset, .unset] [.int 1])
          refine own_st (fun t k => XS.ifYes X431.here hx rfl (pc0 := 69) (pc' := 74) rfl (hb hby at_69) rfl (by decide) (by decide) (by decide) k) ?_
          show own_E p e below _ T431 (mkF m 74 #[.val (.long q1), .second, .val (.long q2), .second, iv p3, iv 1, iv 1, .val (.long q2), .second, iv (((p3.toUInt32 >>> ((3 : Int32) &&& 31).toUInt32).toInt32) &&& (3 : Int32)), rv b425, .unset, .unset] [])
          refine own_st (fun t k => XS.iload X431.here hx rfl (hb hby at_74) rfl k) ?_
          show own_E p e below _ T431 (mkF m 76 #[.val (.long q1), .second, .val (.long q2), .second, iv p3, iv 1, iv 1, .val (.long q2), .second, iv (((p3.toUInt32 >>> ((3 : Int32) &&& 31).toUInt32).toInt32) &&& (3 : Int32)), rv b425, .unset, .unset] [.int (((p3.toUInt32 >>> ((3 : Int32) &&& 31).toUInt32).toInt32) &&& (3 : Int32))])
          refine own_st (fun t k => XS.iconst X431.here hx rfl (hb hby at_76) k) ?_
          show own_E p e below _ T431 (mkF m 77 #[.val (.long q1), .second, .val (.long q2), .second, iv p3, iv 1, iv 1, .val (.long q2), .second, iv (((p3.toUInt32 >>> ((3 : Int32) &&& 31).toUInt32).toInt32) &&& (3 : Int32)), rv b425, .unset, .unset] [.int 1, .int (((p3.toUInt32 >>> ((3 : Int32) &&& 31).toUInt32).toInt32) &&& (3 : Int32))])
          by_cases hc432 : (((p3.toUInt32 >>> ((3 : Int32) &&& 31).toUInt32).toInt32) &&& (3 : Int32)) = (1 : Int32)
          · refine own_st (fun t k => XS.icmpNo X431.here hx rfl (hb hby at_77) rfl (teq hc432).2 k) ?_
            show own_E p e below _ T431 (mkF m 80 #[.val (.long q1), .second, .val (.long q2), .second, iv p3, iv 1, iv 1, .val (.long q2), .second, iv (((p3.toUInt32 >>> ((3 : Int32) &&& 31).toUInt32).toInt32) &&& (3 : Int32)), rv b425, .unset, .unset] [])
            refine own_st (fun t k => XS.aload X431.here hx rfl (hb hby at_80) rfl rfl k) ?_
            show own_E p e below _ T431 (mkF m 82 #[.val (.long q1), .second, .val (.long q2), .second, iv p3, iv 1, iv 1, .val (.long q2), .second, iv (((p3.toUInt32 >>> ((3 : Int32) &&& 31).toUInt32).toInt32) &&& (3 : Int32)), rv b425, .unset, .unset] [.ref b425])
            refine own_st (fun t k => XS.aconstNull X431.here hx rfl (hb hby at_82) k) ?_
            show own_E p e below _ T431 (mkF m 83 #[.val (.long q1), .second, .val (.long q2), .second, iv p3, iv 1, iv 1, .val (.long q2), .second, iv (((p3.toUInt32 >>> ((3 : Int32) &&& 31).toUInt32).toInt32) &&& (3 : Int32)), rv b425, .unset, .unset] [.null, .ref b425])
            obtain ⟨cq433, kq433, q433a, q433b, q433c⟩ := isOf hZ e431 P428_0
            obtain ⟨_, _, ⟨T433, L433, k433, n433⟩, -, X433, ⟨Lc433, hQ433, l433, y433, z433⟩, st433⟩ := X431.virtualBack hx (y := own_y4) (z := own_y4) hown (mvT hZ (own_w hw 13 rfl)) (mvT hZ (own_w hw 14 rfl)) (notFace_of_selects (args := #[]) (mvT hZ (own_w hw 16 rfl))) (mvT hZ (own_w hw 16 rfl)) (mvT hZ (own_w hw 15 rfl)) (by decide) (backOf (W := 0) (own_eqN l Z a0 hw [] b425 T428.heap n0 Z429 ) hZ (own_w hw 17 rfl) (own_w hw 2 rfl) (by decide) (by decide)) q433a q433c (g := (mkF m 83 #[.val (.long q1), .second, .val (.long q2), .second, iv p3, iv 1, iv 1, .val (.long q2), .second, iv (((p3.toUInt32 >>> ((3 : Int32) &&& 31).toUInt32).toInt32) &&& (3 : Int32)), rv b425, .unset, .unset] [.null, .ref b425])) rfl (by rw [hml]; rfl) (Steps.refl _) (argsL := [.null]) (rest := []) (lenOf own_pd_5 rfl) rfl (by show 2 * 0 + _ ≤ _; exact Nat.le_of_eq rfl) (hb hby at_83) (fun _ _ => ⟨rfl, e431, (by decide : 1 + 0 ≤ _), (by decide : 2 + 0 ≤ _)⟩)
            dsimp only [Pt.U, Pt.locs, Pt.cells, Pt.slots] at X433 l433 y433 z433 st433 hQ433
            subst l433 y433 z433
            obtain ⟨hR433, e433, rfl⟩ := hQ433
            have N433 := Fr.app N431 (Fr.nil n0)
            obtain rfl := hR433
            refine own_tr st433 ?_
            show own_E p e below _ T433 (mkF m 86 #[.val (.long q1), .second, .val (.long q2), .second, iv p3, iv 1, iv 1, .val (.long q2), .second, iv (((p3.toUInt32 >>> ((3 : Int32) &&& 31).toUInt32).toInt32) &&& (3 : Int32)), rv b425, .unset, .unset] [.int 0])
            refine own_st (fun t k => XS.ifNo X433.here hx rfl (hb hby at_86) rfl (by decide) k) ?_
            show own_E p e below _ T433 (mkF m 89 #[.val (.long q1), .second, .val (.long q2), .second, iv p3, iv 1, iv 1, .val (.long q2), .second, iv (((p3.toUInt32 >>> ((3 : Int32) &&& 31).toUInt32).toInt32) &&& (3 : Int32)), rv b425, .unset, .unset] [])
            refine own_st (fun t k => XS.iconst X433.here hx rfl (hb hby at_89) k) ?_
            show own_E p e below _ T433 (mkF m 90 #[.val (.long q1), .second, .val (.long q2), .second, iv p3, iv 1, iv 1, .val (.long q2), .second, iv (((p3.toUInt32 >>> ((3 : Int32) &&& 31).toUInt32).toInt32) &&& (3 : Int32)), rv b425, .unset, .unset] [.int 1])
            refine own_st (fun t k => XS.goto X433.here hx rfl (pc0 := 90) (pc' := 94) rfl (hb hby at_90) (by decide) (by decide) k) ?_
            show own_E p e below _ T433 (mkF m 94 #[.val (.long q1), .second, .val (.long q2), .second, iv p3, iv 1, iv 1, .val (.long q2), .second, iv (((p3.toUInt32 >>> ((3 : Int32) &&& 31).toUInt32).toInt32) &&& (3 : Int32)), rv b425, .unset, .unset] [.int 1])
            refine own_retS X433 hx Bd.notSynchronized Bd.returns rfl (by decide) (hb hby at_94) (by decide) (by decide) ?_
            exact ⟨rfl, N433⟩
          · refine own_st (fun t k => XS.icmpYes X431.here hx rfl (pc0 := 77) (pc' := 95) rfl (hb hby at_77) rfl (feq hc432).2 (by decide) (by decide) k) ?_
            show own_E p e below _ T431 (mkF m 95 #[.val (.long q1), .second, .val (.long q2), .second, iv p3, iv 1, iv 1, .val (.long q2), .second, iv (((p3.toUInt32 >>> ((3 : Int32) &&& 31).toUInt32).toInt32) &&& (3 : Int32)), rv b425, .unset, .unset] [])
            refine own_st (fun t k => XS.iload X431.here hx rfl (hb hby at_95) rfl k) ?_
            show own_E p e below _ T431 (mkF m 97 #[.val (.long q1), .second, .val (.long q2), .second, iv p3, iv 1, iv 1, .val (.long q2), .second, iv (((p3.toUInt32 >>> ((3 : Int32) &&& 31).toUInt32).toInt32) &&& (3 : Int32)), rv b425, .unset, .unset] [.int (((p3.toUInt32 >>> ((3 : Int32) &&& 31).toUInt32).toInt32) &&& (3 : Int32))])
            refine own_st (fun t k => XS.iconst X431.here hx rfl (hb hby at_97) k) ?_
            show own_E p e below _ T431 (mkF m 98 #[.val (.long q1), .second, .val (.long q2), .second, iv p3, iv 1, iv 1, .val (.long q2), .second, iv (((p3.toUInt32 >>> ((3 : Int32) &&& 31).toUInt32).toInt32) &&& (3 : Int32)), rv b425, .unset, .unset] [.int 2, .int (((p3.toUInt32 >>> ((3 : Int32) &&& 31).toUInt32).toInt32) &&& (3 : Int32))])
            by_cases hc434 : (((p3.toUInt32 >>> ((3 : Int32) &&& 31).toUInt32).toInt32) &&& (3 : Int32)) = (2 : Int32)
            · refine own_st (fun t k => XS.icmpNo X431.here hx rfl (hb hby at_98) rfl (teq hc434).2 k) ?_
              show own_E p e below _ T431 (mkF m 101 #[.val (.long q1), .second, .val (.long q2), .second, iv p3, iv 1, iv 1, .val (.long q2), .second, iv (((p3.toUInt32 >>> ((3 : Int32) &&& 31).toUInt32).toInt32) &&& (3 : Int32)), rv b425, .unset, .unset] [])
              refine own_st (fun t k => XS.lloadN X431.here hx rfl (hb hby at_101) rfl k) ?_
              show own_E p e below _ T431 (mkF m 102 #[.val (.long q1), .second, .val (.long q2), .second, iv p3, iv 1, iv 1, .val (.long q2), .second, iv (((p3.toUInt32 >>> ((3 : Int32) &&& 31).toUInt32).toInt32) &&& (3 : Int32)), rv b425, .unset, .unset] [.long q1])
              obtain ⟨_, _, ⟨T435, L435, k435, n435⟩, -, X435, ⟨Lc435, hQ435, l435, y435, z435⟩, st435⟩ := Jvm.LawKit.callS X431 hx (y := own_y2) hown (mvT hZ (own_w hw 20 rfl)) (mvT hZ (own_w hw 21 rfl)) (mvT hZ (own_w hw 22 rfl)) (mvT hZ (own_w hw 23 rfl)) (by decide) (backOf (W := 0) (own_lval l Z a0 hw [] q1 T428.heap n0 Z429 (own_cache_keep hC K430)) hZ (own_w hw 23 rfl) (own_w hw 22 rfl) (by decide) (by decide)) (g := (mkF m 102 #[.val (.long q1), .second, .val (.long q2), .second, iv p3, iv 1, iv 1, .val (.long q2), .second, iv (((p3.toUInt32 >>> ((3 : Int32) &&& 31).toUInt32).toInt32) &&& (3 : Int32)), rv b425, .unset, .unset] [.long q1])) rfl (by rw [hml]; rfl) (argsL := [(.long q1)]) (rest := []) (lenOf own_pd_1 rfl) rfl (by show 2 * 0 + _ ≤ _; exact Nat.le_of_eq rfl) (hb hby at_102) (fun _ _ => ⟨rfl, e431, (by decide : 1 + 1 ≤ _), (by decide : 2 + 1 ≤ _)⟩)
              dsimp only [Pt.U, Pt.locs, Pt.cells, Pt.slots] at X435 l435 y435 z435 st435 hQ435
              subst l435 y435 z435
              obtain ⟨b435_o, rfl, Nq435, Kq435, P435⟩ := hQ435
              have N435 := Fr.app N431 Nq435
              have e435 : T435.heap = T435.heap := rfl
              have Z436 := Nat.le_trans Z429 Kq435.1
              have K437 : Keep h0 _ [] := K430.trans Kq435 all0
              refine own_st st435 ?_
              show own_E p e below _ T435 (mkF m 105 #[.val (.long q1), .second, .val (.long q2), .second, iv p3, iv 1, iv 1, .val (.long q2), .second, iv (((p3.toUInt32 >>> ((3 : Int32) &&& 31).toUInt32).toInt32) &&& (3 : Int32)), rv b425, .unset, .unset] [.ref b435_o])
              refine own_st (fun t k => XS.astore X435.here hx rfl (hb hby at_105) rfl rfl (l' := #[.val (.long q1), .second, .val (.long q2), .second, iv p3, iv 1, iv 1, .val (.long q2), .second, iv (((p3.toUInt32 >>> ((3 : Int32) &&& 31).toUInt32).toInt32) &&& (3 : Int32)), rv b425, rv b435_o, .unset]) rfl k) ?_
              show own_E p e below _ T435 (mkF m 107 #[.val (.long q1), .second, .val (.long q2), .second, iv p3, iv 1, iv 1, .val (.long q2), .second, iv (((p3.toUInt32 >>> ((3 : Int32) &&& 31).toUInt32).toInt32) &&& (3 : Int32)), rv b425, rv b435_o, .unset] [])
              refine own_st (fun t k => XS.aload X435.here hx rfl (hb hby at_107) rfl rfl k) ?_
              show own_E p e below _ T435 (mkF m 109 #[.val (.long q1), .second, .val (.long q2), .second, iv p3, iv 1, iv 1, .val (.long q2), .second, iv (((p3.toUInt32 >>> ((3 : Int32) &&& 31).toUInt32).toInt32) &&& (3 : Int32)), rv b425, rv b435_o, .unset] [.ref b425])
              refine own_st (fun t k => XS.aload X435.here hx rfl (hb hby at_109) rfl rfl k) ?_
              show own_E p e below _ T435 (mkF m 111 #[.val (.long q1), .second, .val (.long q2), .second, iv p3, iv 1, iv 1, .val (.long q2), .second, iv (((p3.toUInt32 >>> ((3 : Int32) &&& 31).toUInt32).toInt32) &&& (3 : Int32)), rv b425, rv b435_o, .unset] [.ref b435_o, .ref b425])
              have B439 := (P428_0.keep Kq435)
              obtain ⟨cq438, kq438, q438a, q438b, q438c⟩ := isOf hZ e435 B439
              obtain ⟨_, _, ⟨T438, L438, k438, n438⟩, -, X438, ⟨Lc438, hQ438, l438, y438, z438⟩, st438⟩ := X435.virtualBack hx (y := own_y4) (z := own_y4) hown (mvT hZ (own_w hw 13 rfl)) (mvT hZ (own_w hw 14 rfl)) (notFace_of_selects (args := #[]) (mvT hZ (own_w hw 16 rfl))) (mvT hZ (own_w hw 16 rfl)) (mvT hZ (own_w hw 15 rfl)) (by decide) (backOf (W := 0) (own_eqL l Z a0 hw [] b425 b435_o T435.heap n0 Z436 P435) hZ (own_w hw 17 rfl) (own_w hw 2 rfl) (by decide) (by decide)) q438a q438c (g := (mkF m 111 #[.val (.long q1), .second, .val (.long q2), .second, iv p3, iv 1, iv 1, .val (.long q2), .second, iv (((p3.toUInt32 >>> ((3 : Int32) &&& 31).toUInt32).toInt32) &&& (3 : Int32)), rv b425, rv b435_o, .unset] [.ref b435_o, .ref b425])) rfl (by rw [hml]; rfl) (Steps.refl _) (argsL := [(.ref b435_o)]) (rest := []) (lenOf own_pd_5 rfl) rfl (by show 2 * 0 + _ ≤ _; exact Nat.le_of_eq rfl) (hb hby at_111) (fun _ _ => ⟨rfl, e435, (by decide : 2 + 0 ≤ _), (by decide : 3 + 0 ≤ _)⟩)
              dsimp only [Pt.U, Pt.locs, Pt.cells, Pt.slots] at X438 l438 y438 z438 st438 hQ438
              subst l438 y438 z438
              obtain ⟨hR438, e438, rfl⟩ := hQ438
              have N438 := Fr.app N435 (Fr.nil n0)
              obtain rfl := hR438
              refine own_tr st438 ?_
              show own_E p e below _ T438 (mkF m 114 #[.val (.long q1), .second, .val (.long q2), .second, iv p3, iv 1, iv 1, .val (.long q2), .second, iv (((p3.toUInt32 >>> ((3 : Int32) &&& 31).toUInt32).toInt32) &&& (3 : Int32)), rv b425, rv b435_o, .unset] [.int 0])
              refine own_st (fun t k => XS.ifNo X438.here hx rfl (hb hby at_114) rfl (by decide) k) ?_
              show own_E p e below _ T438 (mkF m 117 #[.val (.long q1), .second, .val (.long q2), .second, iv p3, iv 1, iv 1, .val (.long q2), .second, iv (((p3.toUInt32 >>> ((3 : Int32) &&& 31).toUInt32).toInt32) &&& (3 : Int32)), rv b425, rv b435_o, .unset] [])
              refine own_st (fun t k => XS.iconst X438.here hx rfl (hb hby at_117) k) ?_
              show own_E p e below _ T438 (mkF m 118 #[.val (.long q1), .second, .val (.long q2), .second, iv p3, iv 1, iv 1, .val (.long q2), .second, iv (((p3.toUInt32 >>> ((3 : Int32) &&& 31).toUInt32).toInt32) &&& (3 : Int32)), rv b425, rv b435_o, .unset] [.int 1])
              refine own_st (fun t k => XS.goto X438.here hx rfl (pc0 := 118) (pc' := 122) rfl (hb hby at_118) (by decide) (by decide) k) ?_
              show own_E p e below _ T438 (mkF m 122 #[.val (.long q1), .second, .val (.long q2), .second, iv p3, iv 1, iv 1, .val (.long q2), .second, iv (((p3.toUInt32 >>> ((3 : Int32) &&& 31).toUInt32).toInt32) &&& (3 : Int32)), rv b425, rv b435_o, .unset] [.int 1])
              refine own_retS X438 hx Bd.notSynchronized Bd.returns rfl (by decide) (hb hby at_122) (by decide) (by decide) ?_
              exact ⟨rfl, N438⟩
            · refine own_st (fun t k => XS.icmpYes X431.here hx rfl (pc0 := 98) (pc' := 123) rfl (hb hby at_98) rfl (feq hc434).2 (by decide) (by decide) k) ?_
              show own_E p e below _ T431 (mkF m 123 #[.val (.long q1), .second, .val (.long q2), .second, iv p3, iv 1, iv 1, .val (.long q2), .second, iv (((p3.toUInt32 >>> ((3 : Int32) &&& 31).toUInt32).toInt32) &&& (3 : Int32)), rv b425, .unset, .unset] [])
              obtain ⟨T440, h440, X440, e440, E440, A440, D440, -, st440⟩ := newO X431 hx hZ hown (own_w hw 0 rfl) (own_w hw 1 rfl) (own_w hw 2 rfl) e431 (g := (mkF m 123 #[.val (.long q1), .second, .val (.long q2), .second, iv p3, iv 1, iv 1, .val (.long q2), .second, iv (((p3.toUInt32 >>> ((3 : Int32) &&& 31).toUInt32).toInt32) &&& (3 : Int32)), rv b425, .unset, .unset] [])) rfl (hb hby at_123) (by decide) (by decide)
              obtain ⟨b440, g440⟩ : ∃ z, z = T428.heap.size := ⟨_, rfl⟩
              rw [← g440] at A440 D440 st440
              have ne_b425_b440 : b425 ≠ b440 := Nat.ne_of_lt (Nat.lt_of_lt_of_le P428_0.lt (Nat.le_of_eq g440.symm))
              have g_b440 : n0 ≤ b440 := Nat.le_trans Z429 (Nat.le_of_eq g440.symm)
              have sz_b440 : h0.size ≤ b440 := Nat.le_trans K430.1 (Nat.le_of_eq g440.symm)
              have Z441 := Nat.le_trans Z429 E440.1
              have K442 : Keep h0 _ [] := K430.ext E440
              have F_count_b440 : Fld Z h440 b440 "com/example/tight_fence/tightfence/engine/TemporalValue" "count" "J" (.long (0 : Int64)) := D440 (Or.inr (own_w hw 10 rfl)) (ty := .long) (by decide)
              have F_fromClock_b440 : Fld Z h440 b440 "com/example/tight_fence/tightfence/engine/TemporalValue" "fromClock" "Z" (.int (0 : Int32)) := D440 (Or.inr (own_w hw 12 rfl)) (ty := .boolean) (by decide)
              refine own_st st440 ?_
              show own_E p e below _ T440 (mkF m 126 #[.val (.long q1), .second, .val (.long q2), .second, iv p3, iv 1, iv 1, .val (.long q2), .second, iv (((p3.toUInt32 >>> ((3 : Int32) &&& 31).toUInt32).toInt32) &&& (3 : Int32)), rv b425, .unset, .unset] [.ref b440])
              refine own_st (fun t k => XS.dup X440.here hx rfl (hb hby at_126) rfl rfl k) ?_
              show own_E p e below _ T440 (mkF m 127 #[.val (.long q1), .second, .val (.long q2), .second, iv p3, iv 1, iv 1, .val (.long q2), .second, iv (((p3.toUInt32 >>> ((3 : Int32) &&& 31).toUInt32).toInt32) &&& (3 : Int32)), rv b425, .unset, .unset] [.ref b440, .ref b440])
              refine own_st (fun t k => XS.lload X440.here hx rfl (hb hby at_127) rfl k) ?_
              show own_E p e below _ T440 (mkF m 129 #[.val (.long q1), .second, .val (.long q2), .second, iv p3, iv 1, iv 1, .val (.long q2), .second, iv (((p3.toUInt32 >>> ((3 : Int32) &&& 31).toUInt32).toInt32) &&& (3 : Int32)), rv b425, .unset, .unset] [.long q2, .ref b440, .ref b440])
              refine own_st (fun t k => XS.iload X440.here hx rfl (hb hby at_129) rfl k) ?_
              show own_E p e below _ T440 (mkF m 131 #[.val (.long q1), .second, .val (.long q2), .second, iv p3, iv 1, iv 1, .val (.long q2), .second, iv (((p3.toUInt32 >>> ((3 : Int32) &&& 31).toUInt32).toInt32) &&& (3 : Int32)), rv b425, .unset, .unset] [.int 1, .long q2, .ref b440, .ref b440])
              obtain ⟨_, _, ⟨T443, L443, k443, n443⟩, -, X443, ⟨Lc443, hQ443, l443, y443, z443⟩, st443⟩ := X440.specialBack hx (y := own_y3) rfl hown (mvT hZ (own_w hw 3 rfl)) (mvT hZ (own_w hw 4 rfl)) (mvT hZ (own_w hw 5 rfl)) (by decide) (backOf (W := 1) (own_init1 l Z a0 hw [] b440 q2 h440 n0 Z441 A440 F_count_b440 F_fromClock_b440 g_b440) hZ (own_w hw 5 rfl) (own_w hw 2 rfl) (by decide) (by decide)) (g := (mkF m 131 #[.val (.long q1), .second, .val (.long q2), .second, iv p3, iv 1, iv 1, .val (.long q2), .second, iv (((p3.toUInt32 >>> ((3 : Int32) &&& 31).toUInt32).toInt32) &&& (3 : Int32)), rv b425, .unset, .unset] [.int 1, .long q2, .ref b440, .ref b440])) rfl (by rw [hml]; rfl) (Steps.refl _) (a := b440) (argsL := [(.long q2), (.int (1 : Int32))]) (rest := [(.ref b440)]) (lenOf own_pd_4 rfl) rfl (by show 2 * 0 + _ ≤ _; exact Nat.le_of_eq rfl) (hb hby at_131) (fun _ _ => ⟨rfl, e440, (by decide : 2 + 0 ≤ _), (by decide : 4 + 0 ≤ _)⟩)
              dsimp only [Pt.U, Pt.locs, Pt.cells, Pt.slots] at X443 l443 y443 z443 st443 hQ443
              subst l443 y443 z443
              obtain ⟨rfl, Nq443, Kq443, P443_0, P443_1⟩ := hQ443
              have N443 := Fr.app N431 Nq443
              have e443 : T443.heap = T443.heap := rfl
              have Z444 := Nat.le_trans Z441 Kq443.1
              have K445 : Keep h0 _ [] := K442.trans Kq443 (allS (P := fun x => x ∈ [] ∨ h0.size ≤ x) (Or.inr sz_b440) all0)
              refine own_tr st443 ?_
              show own_E p e below _ T443 (mkF m 134 #[.val (.long q1), .second, .val (.long q2), .second, iv p3, iv 1, iv 1, .val (.long q2), .second, iv (((p3.toUInt32 >>> ((3 : Int32) &&& 31).toUInt32).toInt32) &&& (3 : Int32)), rv b425, .unset, .unset] [.ref b440])
              refine own_st (fun t k => XS.astore X443.here hx rfl (hb hby at_134) rfl rfl (l' := #[.val (.long q1), .second, .val (.long q2), .second, iv p3, iv 1, iv 1, .val (.long q2), .second, iv (((p3.toUInt32 >>> ((3 : Int32) &&& 31).toUInt32).toInt32) &&& (3 : Int32)), rv b425, rv b440, .unset]) rfl k) ?_
              show own_E p e below _ T443 (mkF m 136 #[.val (.long q1), .second, .val (.long q2), .second, iv p3, iv 1, iv 1, .val (.long q2), .second, iv (((p3.toUInt32 >>> ((3 : Int32) &&& 31).toUInt32).toInt32) &&& (3 : Int32)), rv b425, rv b440, .unset] [])
              refine own_st (fun t k => XS.lloadN X443.here hx rfl (hb hby at_136) rfl k) ?_
              show own_E p e below _ T443 (mkF m 137 #[.val (.long q1), .second, .val (.long q2), .second, iv p3, iv 1, iv 1, .val (.long q2), .second, iv (((p3.toUInt32 >>> ((3 : Int32) &&& 31).toUInt32).toInt32) &&& (3 : Int32)), rv b425, rv b440, .unset] [.long q1])
              refine own_st (fun t k => XS.lload X443.here hx rfl (hb hby at_137) rfl k) ?_
              show own_E p e below _ T443 (mkF m 139 #[.val (.long q1), .second, .val (.long q2), .second, iv p3, iv 1, iv 1, .val (.long q2), .second, iv (((p3.toUInt32 >>> ((3 : Int32) &&& 31).toUInt32).toInt32) &&& (3 : Int32)), rv b425, rv b440, .unset] [.long q2, .long q1])
              refine own_st (fun t k => XS.lcmp X443.here hx rfl (hb hby at_139) rfl k) ?_
              show own_E p e below _ T443 (mkF m 140 #[.val (.long q1), .second, .val (.long q2), .second, iv p3, iv 1, iv 1, .val (.long q2), .second, iv (((p3.toUInt32 >>> ((3 : Int32) &&& 31).toUInt32).toInt32) &&& (3 : Int32)), rv b425, rv b440, .unset] [.int (lcmpW q1 q2)])
              by_cases hc446 : q1 = q2
              · refine own_st (fun t k => XS.ifNo X443.here hx rfl (hb hby at_140) rfl ((if0 _ _).trans (teq ((lw_eq _ _).mpr hc446)).2) k) ?_
                show own_E p e below _ T443 (mkF m 143 #[.val (.long q1), .second, .val (.long q2), .second, iv p3, iv 1, iv 1, .val (.long q2), .second, iv (((p3.toUInt32 >>> ((3 : Int32) &&& 31).toUInt32).toInt32) &&& (3 : Int32)), rv b425, rv b440, .unset] [])
                refine own_st (fun t k => XS.iconst X443.here hx rfl (hb hby at_143) k) ?_
                show own_E p e below _ T443 (mkF m 144 #[.val (.long q1), .second, .val (.long q2), .second, iv p3, iv 1, iv 1, .val (.long q2), .second, iv (((p3.toUInt32 >>> ((3 : Int32) &&& 31).toUInt32).toInt32) &&& (3 : Int32)), rv b425, rv b440, .unset] [.int 1])
                refine own_st (fun t k => XS.goto X443.here hx rfl (pc0 := 144) (pc' := 148) rfl (hb hby at_144) (by decide) (by decide) k) ?_
                show own_E p e below _ T443 (mkF m 148 #[.val (.long q1), .second, .val (.long q2), .second, iv p3, iv 1, iv 1, .val (.long q2), .second, iv (((p3.toUInt32 >>> ((3 : Int32) &&& 31).toUInt32).toInt32) &&& (3 : Int32)), rv b425, rv b440, .unset] [.int 1])
                refine own_st (fun t k => XS.istore X443.here hx rfl (hb hby at_148) rfl (l' := #[.val (.long q1), .second, .val (.long q2), .second, iv p3, iv 1, iv 1, .val (.long q2), .second, iv (((p3.toUInt32 >>> ((3 : Int32) &&& 31).toUInt32).toInt32) &&& (3 : Int32)), rv b425, rv b440, iv 1]) rfl k) ?_
                show own_E p e below _ T443 (mkF m 150 #[.val (.long q1), .second, .val (.long q2), .second, iv p3, iv 1, iv 1, .val (.long q2), .second, iv (((p3.toUInt32 >>> ((3 : Int32) &&& 31).toUInt32).toInt32) &&& (3 : Int32)), rv b425, rv b440, iv 1] [])
                refine own_st (fun t k => XS.aload X443.here hx rfl (hb hby at_150) rfl rfl k) ?_
                show own_E p e below _ T443 (mkF m 152 #[.val (.long q1), .second, .val (.long q2), .second, iv p3, iv 1, iv 1, .val (.long q2), .second, iv (((p3.toUInt32 >>> ((3 : Int32) &&& 31).toUInt32).toInt32) &&& (3 : Int32)), rv b425, rv b440, iv 1] [.ref b425])
                refine own_st (fun t k => XS.aload X443.here hx rfl (hb hby at_152) rfl rfl k) ?_
                show own_E p e below _ T443 (mkF m 154 #[.val (.long q1), .second, .val (.long q2), .second, iv p3, iv 1, iv 1, .val (.long q2), .second, iv (((p3.toUInt32 >>> ((3 : Int32) &&& 31).toUInt32).toInt32) &&& (3 : Int32)), rv b425, rv b440, iv 1] [.ref b440, .ref b425])
                have B447 := ((P428_1.ext E440).keep Kq443 (ninS ne_b425_b440 nin0))
                have B449 := ((P428_0.ext E440).keep Kq443)
                obtain ⟨cq448, kq448, q448a, q448b, q448c⟩ := isOf hZ e443 B449
                obtain ⟨_, _, ⟨T448, L448, k448, n448⟩, -, X448, ⟨Lc448, hQ448, l448, y448, z448⟩, st448⟩ := X443.virtualBack hx (y := own_y4) (z := own_y4) hown (mvT hZ (own_w hw 13 rfl)) (mvT hZ (own_w hw 14 rfl)) (notFace_of_selects (args := #[]) (mvT hZ (own_w hw 16 rfl))) (mvT hZ (own_w hw 16 rfl)) (mvT hZ (own_w hw 15 rfl)) (by decide) (backOf (W := 0) (own_eqT l Z a0 hw [] b425 b440 q1 q2 T443.heap n0 Z444 P443_0 B447 P443_1) hZ (own_w hw 17 rfl) (own_w hw 2 rfl) (by decide) (by decide)) q448a q448c (g := (mkF m 154 #[.val (.long q1), .second, .val (.long q2), .second, iv p3, iv 1, iv 1, .val (.long q2), .second, iv (((p3.toUInt32 >>> ((3 : Int32) &&& 31).toUInt32).toInt32) &&& (3 : Int32)), rv b425, rv b440, iv 1] [.ref b440, .ref b425])) rfl (by rw [hml]; rfl) (Steps.refl _) (argsL := [(.ref b440)]) (rest := []) (lenOf own_pd_5 rfl) rfl (by show 2 * 0 + _ ≤ _; exact Nat.le_of_eq rfl) (hb hby at_154) (fun _ _ => ⟨rfl, e443, (by decide : 2 + 0 ≤ _), (by decide : 4 + 0 ≤ _)⟩)
                dsimp only [Pt.U, Pt.locs, Pt.cells, Pt.slots] at X448 l448 y448 z448 st448 hQ448
                subst l448 y448 z448
                obtain ⟨hR448, e448, rfl⟩ := hQ448
                have N448 := Fr.app N443 (Fr.nil n0)
                rcases hR448 with ⟨rfl, ha448_0⟩ | ⟨rfl, ha448_0⟩
                · refine own_tr st448 ?_
                  show own_E p e below _ T448 (mkF m 157 #[.val (.long q1), .second, .val (.long q2), .second, iv p3, iv 1, iv 1, .val (.long q2), .second, iv (((p3.toUInt32 >>> ((3 : Int32) &&& 31).toUInt32).toInt32) &&& (3 : Int32)), rv b425, rv b440, iv 1] [.int 1])
                  refine own_st (fun t k => XS.iload X448.here hx rfl (hb hby at_157) rfl k) ?_
                  show own_E p e below _ T448 (mkF m 159 #[.val (.long q1), .second, .val (.long q2), .second, iv p3, iv 1, iv 1, .val (.long q2), .second, iv (((p3.toUInt32 >>> ((3 : Int32) &&& 31).toUInt32).toInt32) &&& (3 : Int32)), rv b425, rv b440, iv 1] [.int 1, .int 1])
                  refine own_st (fun t k => XS.icmpYes X448.here hx rfl (pc0 := 159) (pc' := 164) rfl (hb hby at_159) rfl (by decide) (by decide) (by decide) k) ?_
                  show own_E p e below _ T448 (mkF m 164 #[.val (.long q1), .second, .val (.long q2), .second, iv p3, iv 1, iv 1, .val (.long q2), .second, iv (((p3.toUInt32 >>> ((3 : Int32) &&& 31).toUInt32).toInt32) &&& (3 : Int32)), rv b425, rv b440, iv 1] [])
                  refine own_st (fun t k => XS.aload X448.here hx rfl (hb hby at_164) rfl rfl k) ?_
                  show own_E p e below _ T448 (mkF m 166 #[.val (.long q1), .second, .val (.long q2), .second, iv p3, iv 1, iv 1, .val (.long q2), .second, iv (((p3.toUInt32 >>> ((3 : Int32) &&& 31).toUInt32).toInt32) &&& (3 : Int32)), rv b425, rv b440, iv 1] [.ref b440])
                  refine own_st (fun t k => XS.aload X448.here hx rfl (hb hby at_166) rfl rfl k) ?_
                  show own_E p e below _ T448 (mkF m 168 #[.val (.long q1), .second, .val (.long q2), .second, iv p3, iv 1, iv 1, .val (.long q2), .second, iv (((p3.toUInt32 >>> ((3 : Int32) &&& 31).toUInt32).toInt32) &&& (3 : Int32)), rv b425, rv b440, iv 1] [.ref b425, .ref b440])
                  obtain ⟨cq450, kq450, q450a, q450b, q450c⟩ := isOf hZ e448 P443_0
                  obtain ⟨_, _, ⟨T450, L450, k450, n450⟩, -, X450, ⟨Lc450, hQ450, l450, y450, z450⟩, st450⟩ := X448.virtualBack hx (y := own_y4) (z := own_y4) hown (mvT hZ (own_w hw 13 rfl)) (mvT hZ (own_w hw 14 rfl)) (notFace_of_selects (args := #[]) (mvT hZ (own_w hw 16 rfl))) (mvT hZ (own_w hw 16 rfl)) (mvT hZ (own_w hw 15 rfl)) (by decide) (backOf (W := 0) (own_eqT l Z a0 hw [] b440 b425 q2 q1 T443.heap n0 Z444 B449 P443_1 B447) hZ (own_w hw 17 rfl) (own_w hw 2 rfl) (by decide) (by decide)) q450a q450c (g := (mkF m 168 #[.val (.long q1), .second, .val (.long q2), .second, iv p3, iv 1, iv 1, .val (.long q2), .second, iv (((p3.toUInt32 >>> ((3 : Int32) &&& 31).toUInt32).toInt32) &&& (3 : Int32)), rv b425, rv b440, iv 1] [.ref b425, .ref b440])) rfl (by rw [hml]; rfl) (Steps.refl _) (argsL := [(.ref b425)]) (rest := []) (lenOf own_pd_5 rfl) rfl (by show 2 * 0 + _ ≤ _; exact Nat.le_of_eq rfl) (hb hby at_168) (fun _ _ => ⟨rfl, e448, (by decide : 2 + 0 ≤ _), (by decide : 4 + 0 ≤ _)⟩)
                  dsimp only [Pt.U, Pt.locs, Pt.cells, Pt.slots] at X450 l450 y450 z450 st450 hQ450
                  subst l450 y450 z450
                  obtain ⟨hR450, e450, rfl⟩ := hQ450
                  have N450 := Fr.app N448 (Fr.nil n0)
                  rcases hR450 with ⟨rfl, ha450_0⟩ | ⟨rfl, ha450_0⟩
                  · refine own_tr st450 ?_
                    show own_E p e below _ T450 (mkF m 171 #[.val (.long q1), .second, .val (.long q2), .second, iv p3, iv 1, iv 1, .val (.long q2), .second, iv (((p3.toUInt32 >>> ((3 : Int32) &&& 31).toUInt32).toInt32) &&& (3 : Int32)), rv b425, rv b440, iv 1] [.int 1])
                    refine own_st (fun t k => XS.iload X450.here hx rfl (hb hby at_171) rfl k) ?_
                    show own_E p e below _ T450 (mkF m 173 #[.val (.long q1), .second, .val (.long q2), .second, iv p3, iv 1, iv 1, .val (.long q2), .second, iv (((p3.toUInt32 >>> ((3 : Int32) &&& 31).toUInt32).toInt32) &&& (3 : Int32)), rv b425, rv b440, iv 1] [.int 1, .int 1])
                    refine own_st (fun t k => XS.icmpNo X450.here hx rfl (hb hby at_173) rfl (by decide) k) ?_
                    show own_E p e below _ T450 (mkF m 176 #[.val (.long q1), .second, .val (.long q2), .second, iv p3, iv 1, iv 1, .val (.long q2), .second, iv (((p3.toUInt32 >>> ((3 : Int32) &&& 31).toUInt32).toInt32) &&& (3 : Int32)), rv b425, rv b440, iv 1] [])
                    refine own_st (fun t k => XS.iconst X450.here hx rfl (hb hby at_176) k) ?_
                    show own_E p e below _ T450 (mkF m 177 #[.val (.long q1), .second, .val (.long q2), .second, iv p3, iv 1, iv 1, .val (.long q2), .second, iv (((p3.toUInt32 >>> ((3 : Int32) &&& 31).toUInt32).toInt32) &&& (3 : Int32)), rv b425, rv b440, iv 1] [.int 1])
                    refine own_st (fun t k => XS.goto X450.here hx rfl (pc0 := 177) (pc' := 181) rfl (hb hby at_177) (by decide) (by decide) k) ?_
                    show own_E p e below _ T450 (mkF m 181 #[.val (.long q1), .second, .val (.long q2), .second, iv p3, iv 1, iv 1, .val (.long q2), .second, iv (((p3.toUInt32 >>> ((3 : Int32) &&& 31).toUInt32).toInt32) &&& (3 : Int32)), rv b425, rv b440, iv 1] [.int 1])
                    refine own_retS X450 hx Bd.notSynchronized Bd.returns rfl (by decide) (hb hby at_181) (by decide) (by decide) ?_
                    exact ⟨rfl, N450⟩
                  · exact absurd hc446 ha450_0
                · exfalso
                  have f451 := rng32 p3
                  have f452 : (1 : Int32).toInt = 1 := rfl
                  have f453 := rng32 (p3 &&& (1 : Int32))
                  have f454 : (p3 &&& (1 : Int32)).toInt = p3.toInt % 2 := c_mask p3 (1 : Int32) 1 (by decide) (by decide)
                  have f455 : (0 : Int32).toInt = 0 := rfl
                  have f456 : (2 : Int32).toInt = 2 := rfl
                  have f457 := rng32 (p3 &&& (2 : Int32))
                  have f458 := c_and p3 (2 : Int32) (by decide)
                  have f459 : (4 : Int32).toInt = 4 := rfl
                  have f460 := rng32 (p3 &&& (4 : Int32))
                  have f461 := c_and p3 (4 : Int32) (by decide)
                  have f462 := rng64 q1
                  have f463 : (3 : Int32).toInt = 3 := rfl
                  have f464 := rng32 ((p3.toUInt32 >>> ((3 : Int32) &&& 31).toUInt32).toInt32)
                  have f465 : ((p3.toUInt32 >>> ((3 : Int32) &&& 31).toUInt32).toInt32).toInt = (p3.toInt % 4294967296) / 8 := c_iushr p3 (3 : Int32) 3 (by decide) (by decide)
                  have f466 := rng32 (((p3.toUInt32 >>> ((3 : Int32) &&& 31).toUInt32).toInt32) &&& (3 : Int32))
                  have f467 : (((p3.toUInt32 >>> ((3 : Int32) &&& 31).toUInt32).toInt32) &&& (3 : Int32)).toInt = ((p3.toUInt32 >>> ((3 : Int32) &&& 31).toUInt32).toInt32).toInt % 4 := c_mask ((p3.toUInt32 >>> ((3 : Int32) &&& 31).toUInt32).toInt32) (3 : Int32) 2 (by decide) (by decide)
                  have f468 := rng64 q2
                  have g469 := hc1
                  rw [← Int32.toInt_inj] at g469
                  have g470 := hc283
                  rw [← Int32.toInt_inj] at g470
                  have g471 := hc424
                  rw [← Int32.toInt_inj] at g471
                  have g472 := ha431_0
                  rw [← Int64.toInt_inj] at g472
                  have g473 := hc432
                  rw [← Int32.toInt_inj] at g473
                  have g474 := hc434
                  rw [← Int32.toInt_inj] at g474
                  have g475 := hc446
                  rw [← Int64.toInt_inj] at g475
                  have g476 := ha448_0
                  rw [← Int64.toInt_inj] at g476
                  omega
              · refine own_st (fun t k => XS.ifYes X443.here hx rfl (pc0 := 140) (pc' := 147) rfl (hb hby at_140) rfl ((if0 _ _).trans (feq (fun q => hc446 ((lw_eq _ _).mp q))).2) (by decide) (by decide) k) ?_
                show own_E p e below _ T443 (mkF m 147 #[.val (.long q1), .second, .val (.long q2), .second, iv p3, iv 1, iv 1, .val (.long q2), .second, iv (((p3.toUInt32 >>> ((3 : Int32) &&& 31).toUInt32).toInt32) &&& (3 : Int32)), rv b425, rv b440, .unset] [])
                refine own_st (fun t k => XS.iconst X443.here hx rfl (hb hby at_147) k) ?_
                show own_E p e below _ T443 (mkF m 148 #[.val (.long q1), .second, .val (.long q2), .second, iv p3, iv 1, iv 1, .val (.long q2), .second, iv (((p3.toUInt32 >>> ((3 : Int32) &&& 31).toUInt32).toInt32) &&& (3 : Int32)), rv b425, rv b440, .unset] [.int 0])
                refine own_st (fun t k => XS.istore X443.here hx rfl (hb hby at_148) rfl (l' := #[.val (.long q1), .second, .val (.long q2), .second, iv p3, iv 1, iv 1, .val (.long q2), .second, iv (((p3.toUInt32 >>> ((3 : Int32) &&& 31).toUInt32).toInt32) &&& (3 : Int32)), rv b425, rv b440, iv 0]) rfl k) ?_
                show own_E p e below _ T443 (mkF m 150 #[.val (.long q1), .second, .val (.long q2), .second, iv p3, iv 1, iv 1, .val (.long q2), .second, iv (((p3.toUInt32 >>> ((3 : Int32) &&& 31).toUInt32).toInt32) &&& (3 : Int32)), rv b425, rv b440, iv 0] [])
                refine own_st (fun t k => XS.aload X443.here hx rfl (hb hby at_150) rfl rfl k) ?_
                show own_E p e below _ T443 (mkF m 152 #[.val (.long q1), .second, .val (.long q2), .second, iv p3, iv 1, iv 1, .val (.long q2), .second, iv (((p3.toUInt32 >>> ((3 : Int32) &&& 31).toUInt32).toInt32) &&& (3 : Int32)), rv b425, rv b440, iv 0] [.ref b425])
                refine own_st (fun t k => XS.aload X443.here hx rfl (hb hby at_152) rfl rfl k) ?_
                show own_E p e below _ T443 (mkF m 154 #[.val (.long q1), .second, .val (.long q2), .second, iv p3, iv 1, iv 1, .val (.long q2), .second, iv (((p3.toUInt32 >>> ((3 : Int32) &&& 31).toUInt32).toInt32) &&& (3 : Int32)), rv b425, rv b440, iv 0] [.ref b440, .ref b425])
                have B477 := ((P428_1.ext E440).keep Kq443 (ninS ne_b425_b440 nin0))
                have B479 := ((P428_0.ext E440).keep Kq443)
                obtain ⟨cq478, kq478, q478a, q478b, q478c⟩ := isOf hZ e443 B479
                obtain ⟨_, _, ⟨T478, L478, k478, n478⟩, -, X478, ⟨Lc478, hQ478, l478, y478, z478⟩, st478⟩ := X443.virtualBack hx (y := own_y4) (z := own_y4) hown (mvT hZ (own_w hw 13 rfl)) (mvT hZ (own_w hw 14 rfl)) (notFace_of_selects (args := #[]) (mvT hZ (own_w hw 16 rfl))) (mvT hZ (own_w hw 16 rfl)) (mvT hZ (own_w hw 15 rfl)) (by decide) (backOf (W := 0) (own_eqT l Z a0 hw [] b425 b440 q1 q2 T443.heap n0 Z444 P443_0 B477 P443_1) hZ (own_w hw 17 rfl) (own_w hw 2 rfl) (by decide) (by decide)) q478a q478c (g := (mkF m 154 #[.val (.long q1), .second, .val (.long q2), .second, iv p3, iv 1, iv 1, .val (.long q2), .second, iv (((p3.toUInt32 >>> ((3 : Int32) &&& 31).toUInt32).toInt32) &&& (3 : Int32)), rv b425, rv b440, iv 0] [.ref b440, .ref b425])) rfl (by rw [hml]; rfl) (Steps.refl _) (argsL := [(.ref b440)]) (rest := []) (lenOf own_pd_5 rfl) rfl (by show 2 * 0 + _ ≤ _; exact Nat.le_of_eq rfl) (hb hby at_154) (fun _ _ => ⟨rfl, e443, (by decide : 2 + 0 ≤ _), (by decide : 4 + 0 ≤ _)⟩)
                dsimp only [Pt.U, Pt.locs, Pt.cells, Pt.slots] at X478 l478 y478 z478 st478 hQ478
                subst l478 y478 z478
                obtain ⟨hR478, e478, rfl⟩ := hQ478
                have N478 := Fr.app N443 (Fr.nil n0)
                rcases hR478 with ⟨rfl, ha478_0⟩ | ⟨rfl, ha478_0⟩
                · exfalso
                  have f480 := rng32 p3
                  have f481 : (1 : Int32).toInt = 1 := rfl
                  have f482 := rng32 (p3 &&& (1 : Int32))
                  have f483 : (p3 &&& (1 : Int32)).toInt = p3.toInt % 2 := c_mask p3 (1 : Int32) 1 (by decide) (by decide)
                  have f484 : (0 : Int32).toInt = 0 := rfl
                  have f485 : (2 : Int32).toInt = 2 := rfl
                  have f486 := rng32 (p3 &&& (2 : Int32))
                  have f487 := c_and p3 (2 : Int32) (by decide)
                  have f488 : (4 : Int32).toInt = 4 := rfl
                  have f489 := rng32 (p3 &&& (4 : Int32))
                  have f490 := c_and p3 (4 : Int32) (by decide)
                  have f491 := rng64 q1
                  have f492 : (3 : Int32).toInt = 3 := rfl
                  have f493 := rng32 ((p3.toUInt32 >>> ((3 : Int32) &&& 31).toUInt32).toInt32)
                  have f494 : ((p3.toUInt32 >>> ((3 : Int32) &&& 31).toUInt32).toInt32).toInt = (p3.toInt % 4294967296) / 8 := c_iushr p3 (3 : Int32) 3 (by decide) (by decide)
                  have f495 := rng32 (((p3.toUInt32 >>> ((3 : Int32) &&& 31).toUInt32).toInt32) &&& (3 : Int32))
                  have f496 : (((p3.toUInt32 >>> ((3 : Int32) &&& 31).toUInt32).toInt32) &&& (3 : Int32)).toInt = ((p3.toUInt32 >>> ((3 : Int32) &&& 31).toUInt32).toInt32).toInt % 4 := c_mask ((p3.toUInt32 >>> ((3 : Int32) &&& 31).toUInt32).toInt32) (3 : Int32) 2 (by decide) (by decide)
                  have f497 := rng64 q2
                  have g498 := hc1
                  rw [← Int32.toInt_inj] at g498
                  have g499 := hc283
                  rw [← Int32.toInt_inj] at g499
                  have g500 := hc424
                  rw [← Int32.toInt_inj] at g500
                  have g501 := ha431_0
                  rw [← Int64.toInt_inj] at g501
                  have g502 := hc432
                  rw [← Int32.toInt_inj] at g502
                  have g503 := hc434
                  rw [← Int32.toInt_inj] at g503
                  have g504 := hc446
                  rw [← Int64.toInt_inj] at g504
                  have g505 := ha478_0
                  rw [← Int64.toInt_inj] at g505
                  omega
                · refine own_tr st478 ?_
                  show own_E p e below _ T478 (mkF m 157 #[.val (.long q1), .second, .val (.long q2), .second, iv p3, iv 1, iv 1, .val (.long q2), .second, iv (((p3.toUInt32 >>> ((3 : Int32) &&& 31).toUInt32).toInt32) &&& (3 : Int32)), rv b425, rv b440, iv 0] [.int 0])
                  refine own_st (fun t k => XS.iload X478.here hx rfl (hb hby at_157) rfl k) ?_
                  show own_E p e below _ T478 (mkF m 159 #[.val (.long q1), .second, .val (.long q2), .second, iv p3, iv 1, iv 1, .val (.long q2), .second, iv (((p3.toUInt32 >>> ((3 : Int32) &&& 31).toUInt32).toInt32) &&& (3 : Int32)), rv b425, rv b440, iv 0] [.int 0, .int 0])
                  refine own_st (fun t k => XS.icmpYes X478.here hx rfl (pc0 := 159) (pc' := 164) rfl (hb hby at_159) rfl (by decide) (by decide) (by decide) k) ?_
                  show own_E p e below _ T478 (mkF m 164 #[.val (.long q1), .second, .val (.long q2), .second, iv p3, iv 1, iv 1, .val (.long q2), .second, iv (((p3.toUInt32 >>> ((3 : Int32) &&& 31).toUInt32).toInt32) &&& (3 : Int32)), rv b425, rv b440, iv 0] [])
                  refine own_st (fun t k => XS.aload X478.here hx rfl (hb hby at_164) rfl rfl k) ?_
                  show own_E p e below _ T478 (mkF m 166 #[.val (.long q1), .second, .val (.long q2), .second, iv p3, iv 1, iv 1, .val (.long q2), .second, iv (((p3.toUInt32 >>> ((3 : Int32) &&& 31).toUInt32).toInt32) &&& (3 : Int32)), rv b425, rv b440, iv 0] [.ref b440])
                  refine own_st (fun t k => XS.aload X478.here hx rfl (hb hby at_166) rfl rfl k) ?_
                  show own_E p e below _ T478 (mkF m 168 #[.val (.long q1), .second, .val (.long q2), .second, iv p3, iv 1, iv 1, .val (.long q2), .second, iv (((p3.toUInt32 >>> ((3 : Int32) &&& 31).toUInt32).toInt32) &&& (3 : Int32)), rv b425, rv b440, iv 0] [.ref b425, .ref b440])
                  obtain ⟨cq506, kq506, q506a, q506b, q506c⟩ := isOf hZ e478 P443_0
                  obtain ⟨_, _, ⟨T506, L506, k506, n506⟩, -, X506, ⟨Lc506, hQ506, l506, y506, z506⟩, st506⟩ := X478.virtualBack hx (y := own_y4) (z := own_y4) hown (mvT hZ (own_w hw 13 rfl)) (mvT hZ (own_w hw 14 rfl)) (notFace_of_selects (args := #[]) (mvT hZ (own_w hw 16 rfl))) (mvT hZ (own_w hw 16 rfl)) (mvT hZ (own_w hw 15 rfl)) (by decide) (backOf (W := 0) (own_eqT l Z a0 hw [] b440 b425 q2 q1 T443.heap n0 Z444 B479 P443_1 B477) hZ (own_w hw 17 rfl) (own_w hw 2 rfl) (by decide) (by decide)) q506a q506c (g := (mkF m 168 #[.val (.long q1), .second, .val (.long q2), .second, iv p3, iv 1, iv 1, .val (.long q2), .second, iv (((p3.toUInt32 >>> ((3 : Int32) &&& 31).toUInt32).toInt32) &&& (3 : Int32)), rv b425, rv b440, iv 0] [.ref b425, .ref b440])) rfl (by rw [hml]; rfl) (Steps.refl _) (argsL := [(.ref b425)]) (rest := []) (lenOf own_pd_5 rfl) rfl (by show 2 * 0 + _ ≤ _; exact Nat.le_of_eq rfl) (hb hby at_168) (fun _ _ => ⟨rfl, e478, (by decide : 2 + 0 ≤ _), (by decide : 4 + 0 ≤ _)⟩)
                  dsimp only [Pt.U, Pt.locs, Pt.cells, Pt.slots] at X506 l506 y506 z506 st506 hQ506
                  subst l506 y506 z506
                  obtain ⟨hR506, e506, rfl⟩ := hQ506
                  have N506 := Fr.app N478 (Fr.nil n0)
                  rcases hR506 with ⟨rfl, ha506_0⟩ | ⟨rfl, ha506_0⟩
                  · exact absurd ha506_0 hc446
                  · refine own_tr st506 ?_
                    show own_E p e below _ T506 (mkF m 171 #[.val (.long q1), .second, .val (.long q2), .second, iv p3, iv 1, iv 1, .val (.long q2), .second, iv (((p3.toUInt32 >>> ((3 : Int32) &&& 31).toUInt32).toInt32) &&& (3 : Int32)), rv b425, rv b440, iv 0] [.int 0])
                    refine own_st (fun t k => XS.iload X506.here hx rfl (hb hby at_171) rfl k) ?_
                    show own_E p e below _ T506 (mkF m 173 #[.val (.long q1), .second, .val (.long q2), .second, iv p3, iv 1, iv 1, .val (.long q2), .second, iv (((p3.toUInt32 >>> ((3 : Int32) &&& 31).toUInt32).toInt32) &&& (3 : Int32)), rv b425, rv b440, iv 0] [.int 0, .int 0])
                    refine own_st (fun t k => XS.icmpNo X506.here hx rfl (hb hby at_173) rfl (by decide) k) ?_
                    show own_E p e below _ T506 (mkF m 176 #[.val (.long q1), .second, .val (.long q2), .second, iv p3, iv 1, iv 1, .val (.long q2), .second, iv (((p3.toUInt32 >>> ((3 : Int32) &&& 31).toUInt32).toInt32) &&& (3 : Int32)), rv b425, rv b440, iv 0] [])
                    refine own_st (fun t k => XS.iconst X506.here hx rfl (hb hby at_176) k) ?_
                    show own_E p e below _ T506 (mkF m 177 #[.val (.long q1), .second, .val (.long q2), .second, iv p3, iv 1, iv 1, .val (.long q2), .second, iv (((p3.toUInt32 >>> ((3 : Int32) &&& 31).toUInt32).toInt32) &&& (3 : Int32)), rv b425, rv b440, iv 0] [.int 1])
                    refine own_st (fun t k => XS.goto X506.here hx rfl (pc0 := 177) (pc' := 181) rfl (hb hby at_177) (by decide) (by decide) k) ?_
                    show own_E p e below _ T506 (mkF m 181 #[.val (.long q1), .second, .val (.long q2), .second, iv p3, iv 1, iv 1, .val (.long q2), .second, iv (((p3.toUInt32 >>> ((3 : Int32) &&& 31).toUInt32).toInt32) &&& (3 : Int32)), rv b425, rv b440, iv 0] [.int 1])
                    refine own_retS X506 hx Bd.notSynchronized Bd.returns rfl (by decide) (hb hby at_181) (by decide) (by decide) ?_
                    exact ⟨rfl, N506⟩
        · exfalso
          have f507 := rng32 p3
          have f508 : (1 : Int32).toInt = 1 := rfl
          have f509 := rng32 (p3 &&& (1 : Int32))
          have f510 : (p3 &&& (1 : Int32)).toInt = p3.toInt % 2 := c_mask p3 (1 : Int32) 1 (by decide) (by decide)
          have f511 : (0 : Int32).toInt = 0 := rfl
          have f512 : (2 : Int32).toInt = 2 := rfl
          have f513 := rng32 (p3 &&& (2 : Int32))
          have f514 := c_and p3 (2 : Int32) (by decide)
          have f515 : (4 : Int32).toInt = 4 := rfl
          have f516 := rng32 (p3 &&& (4 : Int32))
          have f517 := c_and p3 (4 : Int32) (by decide)
          have f518 := rng64 q1
          have g519 := hc1
          rw [← Int32.toInt_inj] at g519
          have g520 := hc283
          rw [← Int32.toInt_inj] at g520
          have g521 := hc424
          rw [← Int32.toInt_inj] at g521
          have g522 := ha431_0
          rw [← Int64.toInt_inj] at g522
          omega
      · refine own_st (fun t k => XS.ifNo X0.here hx rfl (hb hby at_32) rfl ((if0 _ _).trans (feq hc424).1) k) ?_
        show own_E p e below _ s₁ (mkF m 35 #[.val (.long q1), .second, .val (.long q2), .second, iv p3, iv 1, iv 1, .unset, .unset, .unset, .unset, .unset, .unset] [])
        refine own_st (fun t k => XS.lloadN X0.here hx rfl (hb hby at_35) rfl k) ?_
        show own_E p e below _ s₁ (mkF m 36 #[.val (.long q1), .second, .val (.long q2), .second, iv p3, iv 1, iv 1, .unset, .unset, .unset, .unset, .unset, .unset] [.long q1])
        refine own_st (fun t k => XS.goto X0.here hx rfl (pc0 := 36) (pc' := 40) rfl (hb hby at_36) (by decide) (by decide) k) ?_
        show own_E p e below _ s₁ (mkF m 40 #[.val (.long q1), .second, .val (.long q2), .second, iv p3, iv 1, iv 1, .unset, .unset, .unset, .unset, .unset, .unset] [.long q1])
        refine own_st (fun t k => XS.lstore X0.here hx rfl (hb hby at_40) rfl (l' := #[.val (.long q1), .second, .val (.long q2), .second, iv p3, iv 1, iv 1, .val (.long q1), .second, .unset, .unset, .unset, .unset]) rfl k) ?_
        show own_E p e below _ s₁ (mkF m 42 #[.val (.long q1), .second, .val (.long q2), .second, iv p3, iv 1, iv 1, .val (.long q1), .second, .unset, .unset, .unset, .unset] [])
        refine own_st (fun t k => XS.iload X0.here hx rfl (hb hby at_42) rfl k) ?_
        show own_E p e below _ s₁ (mkF m 44 #[.val (.long q1), .second, .val (.long q2), .second, iv p3, iv 1, iv 1, .val (.long q1), .second, .unset, .unset, .unset, .unset] [.int p3])
        refine own_st (fun t k => XS.iconst X0.here hx rfl (hb hby at_44) k) ?_
        show own_E p e below _ s₁ (mkF m 45 #[.val (.long q1), .second, .val (.long q2), .second, iv p3, iv 1, iv 1, .val (.long q1), .second, .unset, .unset, .unset, .unset] [.int 3, .int p3])
        refine own_st (fun t k => XS.iushr X0.here hx rfl (hb hby at_45) rfl k) ?_
        show own_E p e below _ s₁ (mkF m 46 #[.val (.long q1), .second, .val (.long q2), .second, iv p3, iv 1, iv 1, .val (.long q1), .second, .unset, .unset, .unset, .unset] [.int ((p3.toUInt32 >>> ((3 : Int32) &&& 31).toUInt32).toInt32)])
        refine own_st (fun t k => XS.iconst X0.here hx rfl (hb hby at_46) k) ?_
        show own_E p e below _ s₁ (mkF m 47 #[.val (.long q1), .second, .val (.long q2), .second, iv p3, iv 1, iv 1, .val (.long q1), .second, .unset, .unset, .unset, .unset] [.int 3, .int ((p3.toUInt32 >>> ((3 : Int32) &&& 31).toUInt32).toInt32)])
        refine own_st (fun t k => XS.iand X0.here hx rfl (hb hby at_47) rfl k) ?_
        show own_E p e below _ s₁ (mkF m 48 #[.val (.long q1), .second, .val (.long q2), .second, iv p3, iv 1, iv 1, .val (.long q1), .second, .unset, .unset, .unset, .unset] [.int (((p3.toUInt32 >>> ((3 : Int32) &&& 31).toUInt32).toInt32) &&& (3 : Int32))])
        refine own_st (fun t k => XS.istore X0.here hx rfl (hb hby at_48) rfl (l' := #[.val (.long q1), .second, .val (.long q2), .second, iv p3, iv 1, iv 1, .val (.long q1), .second, iv (((p3.toUInt32 >>> ((3 : Int32) &&& 31).toUInt32).toInt32) &&& (3 : Int32)), .unset, .unset, .unset]) rfl k) ?_
        show own_E p e below _ s₁ (mkF m 50 #[.val (.long q1), .second, .val (.long q2), .second, iv p3, iv 1, iv 1, .val (.long q1), .second, iv (((p3.toUInt32 >>> ((3 : Int32) &&& 31).toUInt32).toInt32) &&& (3 : Int32)), .unset, .unset, .unset] [])
        obtain ⟨T523, h523, X523, e523, E523, A523, D523, -, st523⟩ := newO X0 hx hZ hown (own_w hw 0 rfl) (own_w hw 1 rfl) (own_w hw 2 rfl) e0 (g := (mkF m 50 #[.val (.long q1), .second, .val (.long q2), .second, iv p3, iv 1, iv 1, .val (.long q1), .second, iv (((p3.toUInt32 >>> ((3 : Int32) &&& 31).toUInt32).toInt32) &&& (3 : Int32)), .unset, .unset, .unset] [])) rfl (hb hby at_50) (by decide) (by decide)
        obtain ⟨b523, g523⟩ : ∃ z, z = h0.size := ⟨_, rfl⟩
        rw [← g523] at A523 D523 st523
        have g_b523 : n0 ≤ b523 := Nat.le_trans Z0 (Nat.le_of_eq g523.symm)
        have sz_b523 : h0.size ≤ b523 := Nat.le_trans (Keep.refl h0 []).1 (Nat.le_of_eq g523.symm)
        have Z524 := Nat.le_trans Z0 E523.1
        have K525 : Keep h0 _ [] := (Keep.refl h0 []).ext E523
        have F_count_b523 : Fld Z h523 b523 "com/example/tight_fence/tightfence/engine/TemporalValue" "count" "J" (.long (0 : Int64)) := D523 (Or.inr (own_w hw 10 rfl)) (ty := .long) (by decide)
        have F_fromClock_b523 : Fld Z h523 b523 "com/example/tight_fence/tightfence/engine/TemporalValue" "fromClock" "Z" (.int (0 : Int32)) := D523 (Or.inr (own_w hw 12 rfl)) (ty := .boolean) (by decide)
        refine own_st st523 ?_
        show own_E p e below _ T523 (mkF m 53 #[.val (.long q1), .second, .val (.long q2), .second, iv p3, iv 1, iv 1, .val (.long q1), .second, iv (((p3.toUInt32 >>> ((3 : Int32) &&& 31).toUInt32).toInt32) &&& (3 : Int32)), .unset, .unset, .unset] [.ref b523])
        refine own_st (fun t k => XS.dup X523.here hx rfl (hb hby at_53) rfl rfl k) ?_
        show own_E p e below _ T523 (mkF m 54 #[.val (.long q1), .second, .val (.long q2), .second, iv p3, iv 1, iv 1, .val (.long q1), .second, iv (((p3.toUInt32 >>> ((3 : Int32) &&& 31).toUInt32).toInt32) &&& (3 : Int32)), .unset, .unset, .unset] [.ref b523, .ref b523])
        refine own_st (fun t k => XS.lloadN X523.here hx rfl (hb hby at_54) rfl k) ?_
        show own_E p e below _ T523 (mkF m 55 #[.val (.long q1), .second, .val (.long q2), .second, iv p3, iv 1, iv 1, .val (.long q1), .second, iv (((p3.toUInt32 >>> ((3 : Int32) &&& 31).toUInt32).toInt32) &&& (3 : Int32)), .unset, .unset, .unset] [.long q1, .ref b523, .ref b523])
        refine own_st (fun t k => XS.iload X523.here hx rfl (hb hby at_55) rfl k) ?_
        show own_E p e below _ T523 (mkF m 57 #[.val (.long q1), .second, .val (.long q2), .second, iv p3, iv 1, iv 1, .val (.long q1), .second, iv (((p3.toUInt32 >>> ((3 : Int32) &&& 31).toUInt32).toInt32) &&& (3 : Int32)), .unset, .unset, .unset] [.int 1, .long q1, .ref b523, .ref b523])
        obtain ⟨_, _, ⟨T526, L526, k526, n526⟩, -, X526, ⟨Lc526, hQ526, l526, y526, z526⟩, st526⟩ := X523.specialBack hx (y := own_y3) rfl hown (mvT hZ (own_w hw 3 rfl)) (mvT hZ (own_w hw 4 rfl)) (mvT hZ (own_w hw 5 rfl)) (by decide) (backOf (W := 1) (own_init1 l Z a0 hw [] b523 q1 h523 n0 Z524 A523 F_count_b523 F_fromClock_b523 g_b523) hZ (own_w hw 5 rfl) (own_w hw 2 rfl) (by decide) (by decide)) (g := (mkF m 57 #[.val (.long q1), .second, .val (.long q2), .second, iv p3, iv 1, iv 1, .val (.long q1), .second, iv (((p3.toUInt32 >>> ((3 : Int32) &&& 31).toUInt32).toInt32) &&& (3 : Int32)), .unset, .unset, .unset] [.int 1, .long q1, .ref b523, .ref b523])) rfl (by rw [hml]; rfl) (Steps.refl _) (a := b523) (argsL := [(.long q1), (.int (1 : Int32))]) (rest := [(.ref b523)]) (lenOf own_pd_4 rfl) rfl (by show 2 * 0 + _ ≤ _; exact Nat.le_of_eq rfl) (hb hby at_57) (fun _ _ => ⟨rfl, e523, (by decide : 1 + 0 ≤ _), (by decide : 2 + 0 ≤ _)⟩)
        dsimp only [Pt.U, Pt.locs, Pt.cells, Pt.slots] at X526 l526 y526 z526 st526 hQ526
        subst l526 y526 z526
        obtain ⟨rfl, Nq526, Kq526, P526_0, P526_1⟩ := hQ526
        have N526 := Fr.app (Fr.nil n0) Nq526
        have e526 : T526.heap = T526.heap := rfl
        have Z527 := Nat.le_trans Z524 Kq526.1
        have K528 : Keep h0 _ [] := K525.trans Kq526 (allS (P := fun x => x ∈ [] ∨ h0.size ≤ x) (Or.inr sz_b523) all0)
        refine own_tr st526 ?_
        show own_E p e below _ T526 (mkF m 60 #[.val (.long q1), .second, .val (.long q2), .second, iv p3, iv 1, iv 1, .val (.long q1), .second, iv (((p3.toUInt32 >>> ((3 : Int32) &&& 31).toUInt32).toInt32) &&& (3 : Int32)), .unset, .unset, .unset] [.ref b523])
        refine own_st (fun t k => XS.astore X526.here hx rfl (hb hby at_60) rfl rfl (l' := #[.val (.long q1), .second, .val (.long q2), .second, iv p3, iv 1, iv 1, .val (.long q1), .second, iv (((p3.toUInt32 >>> ((3 : Int32) &&& 31).toUInt32).toInt32) &&& (3 : Int32)), rv b523, .unset, .unset]) rfl k) ?_
        show own_E p e below _ T526 (mkF m 62 #[.val (.long q1), .second, .val (.long q2), .second, iv p3, iv 1, iv 1, .val (.long q1), .second, iv (((p3.toUInt32 >>> ((3 : Int32) &&& 31).toUInt32).toInt32) &&& (3 : Int32)), rv b523, .unset, .unset] [])
        refine own_st (fun t k => XS.aload X526.here hx rfl (hb hby at_62) rfl rfl k) ?_
        show own_E p e below _ T526 (mkF m 64 #[.val (.long q1), .second, .val (.long q2), .second, iv p3, iv 1, iv 1, .val (.long q1), .second, iv (((p3.toUInt32 >>> ((3 : Int32) &&& 31).toUInt32).toInt32) &&& (3 : Int32)), rv b523, .unset, .unset] [.ref b523])
        refine own_st (fun t k => XS.aload X526.here hx rfl (hb hby at_64) rfl rfl k) ?_
        show own_E p e below _ T526 (mkF m 66 #[.val (.long q1), .second, .val (.long q2), .second, iv p3, iv 1, iv 1, .val (.long q1), .second, iv (((p3.toUInt32 >>> ((3 : Int32) &&& 31).toUInt32).toInt32) &&& (3 : Int32)), rv b523, .unset, .unset] [.ref b523, .ref b523])
        obtain ⟨cq529, kq529, q529a, q529b, q529c⟩ := isOf hZ e526 P526_0
        obtain ⟨_, _, ⟨T529, L529, k529, n529⟩, -, X529, ⟨Lc529, hQ529, l529, y529, z529⟩, st529⟩ := X526.virtualBack hx (y := own_y4) (z := own_y4) hown (mvT hZ (own_w hw 13 rfl)) (mvT hZ (own_w hw 14 rfl)) (notFace_of_selects (args := #[]) (mvT hZ (own_w hw 16 rfl))) (mvT hZ (own_w hw 16 rfl)) (mvT hZ (own_w hw 15 rfl)) (by decide) (backOf (W := 0) (own_eqT l Z a0 hw [] b523 b523 q1 q1 T526.heap n0 Z527 P526_0 P526_1 P526_1) hZ (own_w hw 17 rfl) (own_w hw 2 rfl) (by decide) (by decide)) q529a q529c (g := (mkF m 66 #[.val (.long q1), .second, .val (.long q2), .second, iv p3, iv 1, iv 1, .val (.long q1), .second, iv (((p3.toUInt32 >>> ((3 : Int32) &&& 31).toUInt32).toInt32) &&& (3 : Int32)), rv b523, .unset, .unset] [.ref b523, .ref b523])) rfl (by rw [hml]; rfl) (Steps.refl _) (argsL := [(.ref b523)]) (rest := []) (lenOf own_pd_5 rfl) rfl (by show 2 * 0 + _ ≤ _; exact Nat.le_of_eq rfl) (hb hby at_66) (fun _ _ => ⟨rfl, e526, (by decide : 1 + 0 ≤ _), (by decide : 2 + 0 ≤ _)⟩)
        dsimp only [Pt.U, Pt.locs, Pt.cells, Pt.slots] at X529 l529 y529 z529 st529 hQ529
        subst l529 y529 z529
        obtain ⟨hR529, e529, rfl⟩ := hQ529
        have N529 := Fr.app N526 (Fr.nil n0)
        rcases hR529 with ⟨rfl, ha529_0⟩ | ⟨rfl, ha529_0⟩
        · refine own_tr st529 ?_
          show own_E p e below _ T529 (mkF m 69 #[.val (.long q1), .second, .val (.long q2), .second, iv p3, iv 1, iv 1, .val (.long q1), .second, iv (((p3.toUInt32 >>> ((3 : Int32) &&& 31).toUInt32).toInt32) &&& (3 : Int32)), rv b523, .unset, .unset] [.int 1])
          refine own_st (fun t k => XS.ifYes X529.here hx rfl (pc0 := 69) (pc' := 74) rfl (hb hby at_69) rfl (by decide) (by decide) (by decide) k) ?_
          show own_E p e below _ T529 (mkF m 74 #[.val (.long q1), .second, .val (.long q2), .second, iv p3, iv 1, iv 1, .val (.long q1), .second, iv (((p3.toUInt32 >>> ((3 : Int32) &&& 31).toUInt32).toInt32) &&& (3 : Int32)), rv b523, .unset, .unset] [])
          refine own_st (fun t k => XS.iload X529.here hx rfl (hb hby at_74) rfl k) ?_
          show own_E p e below _ T529 (mkF m 76 #[.val (.long q1), .second, .val (.long q2), .second, iv p3, iv 1, iv 1, .val (.long q1), .second, iv (((p3.toUInt32 >>> ((3 : Int32) &&& 31).toUInt32).toInt32) &&& (3 : Int32)), rv b523, .unset, .unset] [.int (((p3.toUInt32 >>> ((3 : Int32) &&& 31).toUInt32).toInt32) &&& (3 : Int32))])
          refine own_st (fun t k => XS.iconst X529.here hx rfl (hb hby at_76) k) ?_
          show own_E p e below _ T529 (mkF m 77 #[.val (.long q1), .second, .val (.long q2), .second, iv p3, iv 1, iv 1, .val (.long q1), .second, iv (((p3.toUInt32 >>> ((3 : Int32) &&& 31).toUInt32).toInt32) &&& (3 : Int32)), rv b523, .unset, .unset] [.int 1, .int (((p3.toUInt32 >>> ((3 : Int32) &&& 31).toUInt32).toInt32) &&& (3 : Int32))])
          by_cases hc530 : (((p3.toUInt32 >>> ((3 : Int32) &&& 31).toUInt32).toInt32) &&& (3 : Int32)) = (1 : Int32)
          · refine own_st (fun t k => XS.icmpNo X529.here hx rfl (hb hby at_77) rfl (teq hc530).2 k) ?_
            show own_E p e below _ T529 (mkF m 80 #[.val (.long q1), .second, .val (.long q2), .second, iv p3, iv 1, iv 1, .val (.long q1), .second, iv (((p3.toUInt32 >>> ((3 : Int32) &&& 31).toUInt32).toInt32) &&& (3 : Int32)), rv b523, .unset, .unset] [])
            refine own_st (fun t k => XS.aload X529.here hx rfl (hb hby at_80) rfl rfl k) ?_
            show own_E p e below _ T529 (mkF m 82 #[.val (.long q1), .second, .val (.long q2), .second, iv p3, iv 1, iv 1, .val (.long q1), .second, iv (((p3.toUInt32 >>> ((3 : Int32) &&& 31).toUInt32).toInt32) &&& (3 : Int32)), rv b523, .unset, .unset] [.ref b523])
            refine own_st (fun t k => XS.aconstNull X529.here hx rfl (hb hby at_82) k) ?_
            show own_E p e below _ T529 (mkF m 83 #[.val (.long q1), .second, .val (.long q2), .second, iv p3, iv 1, iv 1, .val (.long q1), .second, iv (((p3.toUInt32 >>> ((3 : Int32) &&& 31).toUInt32).toInt32) &&& (3 : Int32)), rv b523, .unset, .unset] [.null, .ref b523])
            obtain ⟨cq531, kq531, q531a, q531b, q531c⟩ := isOf hZ e529 P526_0
            obtain ⟨_, _, ⟨T531, L531, k531, n531⟩, -, X531, ⟨Lc531, hQ531, l531, y531, z531⟩, st531⟩ := X529.virtualBack hx (y := own_y4) (z := own_y4) hown (mvT hZ (own_w hw 13 rfl)) (mvT hZ (own_w hw 14 rfl)) (notFace_of_selects (args := #[]) (mvT hZ (own_w hw 16 rfl))) (mvT hZ (own_w hw 16 rfl)) (mvT hZ (own_w hw 15 rfl)) (by decide) (backOf (W := 0) (own_eqN l Z a0 hw [] b523 T526.heap n0 Z527 ) hZ (own_w hw 17 rfl) (own_w hw 2 rfl) (by decide) (by decide)) q531a q531c (g := (mkF m 83 #[.val (.long q1), .second, .val (.long q2), .second, iv p3, iv 1, iv 1, .val (.long q1), .second, iv (((p3.toUInt32 >>> ((3 : Int32) &&& 31).toUInt32).toInt32) &&& (3 : Int32)), rv b523, .unset, .unset] [.null, .ref b523])) rfl (by rw [hml]; rfl) (Steps.refl _) (argsL := [.null]) (rest := []) (lenOf own_pd_5 rfl) rfl (by show 2 * 0 + _ ≤ _; exact Nat.le_of_eq rfl) (hb hby at_83) (fun _ _ => ⟨rfl, e529, (by decide : 1 + 0 ≤ _), (by decide : 2 + 0 ≤ _)⟩)
            dsimp only [Pt.U, Pt.locs, Pt.cells, Pt.slots] at X531 l531 y531 z531 st531 hQ531
            subst l531 y531 z531
            obtain ⟨hR531, e531, rfl⟩ := hQ531
            have N531 := Fr.app N529 (Fr.nil n0)
            obtain rfl := hR531
            refine own_tr st531 ?_
            show own_E p e below _ T531 (mkF m 86 #[.val (.long q1), .second, .val (.long q2), .second, iv p3, iv 1, iv 1, .val (.long q1), .second, iv (((p3.toUInt32 >>> ((3 : Int32) &&& 31).toUInt32).toInt32) &&& (3 : Int32)), rv b523, .unset, .unset] [.int 0])
            refine own_st (fun t k => XS.ifNo X531.here hx rfl (hb hby at_86) rfl (by decide) k) ?_
            show own_E p e below _ T531 (mkF m 89 #[.val (.long q1), .second, .val (.long q2), .second, iv p3, iv 1, iv 1, .val (.long q1), .second, iv (((p3.toUInt32 >>> ((3 : Int32) &&& 31).toUInt32).toInt32) &&& (3 : Int32)), rv b523, .unset, .unset] [])
            refine own_st (fun t k => XS.iconst X531.here hx rfl (hb hby at_89) k) ?_
            show own_E p e below _ T531 (mkF m 90 #[.val (.long q1), .second, .val (.long q2), .second, iv p3, iv 1, iv 1, .val (.long q1), .second, iv (((p3.toUInt32 >>> ((3 : Int32) &&& 31).toUInt32).toInt32) &&& (3 : Int32)), rv b523, .unset, .unset] [.int 1])
            refine own_st (fun t k => XS.goto X531.here hx rfl (pc0 := 90) (pc' := 94) rfl (hb hby at_90) (by decide) (by decide) k) ?_
            show own_E p e below _ T531 (mkF m 94 #[.val (.long q1), .second, .val (.long q2), .second, iv p3, iv 1, iv 1, .val (.long q1), .second, iv (((p3.toUInt32 >>> ((3 : Int32) &&& 31).toUInt32).toInt32) &&& (3 : Int32)), rv b523, .unset, .unset] [.int 1])
            refine own_retS X531 hx Bd.notSynchronized Bd.returns rfl (by decide) (hb hby at_94) (by decide) (by decide) ?_
            exact ⟨rfl, N531⟩
          · refine own_st (fun t k => XS.icmpYes X529.here hx rfl (pc0 := 77) (pc' := 95) rfl (hb hby at_77) rfl (feq hc530).2 (by decide) (by decide) k) ?_
            show own_E p e below _ T529 (mkF m 95 #[.val (.long q1), .second, .val (.long q2), .second, iv p3, iv 1, iv 1, .val (.long q1), .second, iv (((p3.toUInt32 >>> ((3 : Int32) &&& 31).toUInt32).toInt32) &&& (3 : Int32)), rv b523, .unset, .unset] [])
            refine own_st (fun t k => XS.iload X529.here hx rfl (hb hby at_95) rfl k) ?_
            show own_E p e below _ T529 (mkF m 97 #[.val (.long q1), .second, .val (.long q2), .second, iv p3, iv 1, iv 1, .val (.long q1), .second, iv (((p3.toUInt32 >>> ((3 : Int32) &&& 31).toUInt32).toInt32) &&& (3 : Int32)), rv b523, .unset, .unset] [.int (((p3.toUInt32 >>> ((3 : Int32) &&& 31).toUInt32).toInt32) &&& (3 : Int32))])
            refine own_st (fun t k => XS.iconst X529.here hx rfl (hb hby at_97) k) ?_
            show own_E p e below _ T529 (mkF m 98 #[.val (.long q1), .second, .val (.long q2), .second, iv p3, iv 1, iv 1, .val (.long q1), .second, iv (((p3.toUInt32 >>> ((3 : Int32) &&& 31).toUInt32).toInt32) &&& (3 : Int32)), rv b523, .unset, .unset] [.int 2, .int (((p3.toUInt32 >>> ((3 : Int32) &&& 31).toUInt32).toInt32) &&& (3 : Int32))])
            by_cases hc532 : (((p3.toUInt32 >>> ((3 : Int32) &&& 31).toUInt32).toInt32) &&& (3 : Int32)) = (2 : Int32)
            · refine own_st (fun t k => XS.icmpNo X529.here hx rfl (hb hby at_98) rfl (teq hc532).2 k) ?_
              show own_E p e below _ T529 (mkF m 101 #[.val (.long q1), .second, .val (.long q2), .second, iv p3, iv 1, iv 1, .val (.long q1), .second, iv (((p3.toUInt32 >>> ((3 : Int32) &&& 31).toUInt32).toInt32) &&& (3 : Int32)), rv b523, .unset, .unset] [])
              refine own_st (fun t k => XS.lloadN X529.here hx rfl (hb hby at_101) rfl k) ?_
              show own_E p e below _ T529 (mkF m 102 #[.val (.long q1), .second, .val (.long q2), .second, iv p3, iv 1, iv 1, .val (.long q1), .second, iv (((p3.toUInt32 >>> ((3 : Int32) &&& 31).toUInt32).toInt32) &&& (3 : Int32)), rv b523, .unset, .unset] [.long q1])
              obtain ⟨_, _, ⟨T533, L533, k533, n533⟩, -, X533, ⟨Lc533, hQ533, l533, y533, z533⟩, st533⟩ := Jvm.LawKit.callS X529 hx (y := own_y2) hown (mvT hZ (own_w hw 20 rfl)) (mvT hZ (own_w hw 21 rfl)) (mvT hZ (own_w hw 22 rfl)) (mvT hZ (own_w hw 23 rfl)) (by decide) (backOf (W := 0) (own_lval l Z a0 hw [] q1 T526.heap n0 Z527 (own_cache_keep hC K528)) hZ (own_w hw 23 rfl) (own_w hw 22 rfl) (by decide) (by decide)) (g := (mkF m 102 #[.val (.long q1), .second, .val (.long q2), .second, iv p3, iv 1, iv 1, .val (.long q1), .second, iv (((p3.toUInt32 >>> ((3 : Int32) &&& 31).toUInt32).toInt32) &&& (3 : Int32)), rv b523, .unset, .unset] [.long q1])) rfl (by rw [hml]; rfl) (argsL := [(.long q1)]) (rest := []) (lenOf own_pd_1 rfl) rfl (by show 2 * 0 + _ ≤ _; exact Nat.le_of_eq rfl) (hb hby at_102) (fun _ _ => ⟨rfl, e529, (by decide : 1 + 1 ≤ _), (by decide : 2 + 1 ≤ _)⟩)
              dsimp only [Pt.U, Pt.locs, Pt.cells, Pt.slots] at X533 l533 y533 z533 st533 hQ533
              subst l533 y533 z533
              obtain ⟨b533_o, rfl, Nq533, Kq533, P533⟩ := hQ533
              have N533 := Fr.app N529 Nq533
              have e533 : T533.heap = T533.heap := rfl
              have Z534 := Nat.le_trans Z527 Kq533.1
              have K535 : Keep h0 _ [] := K528.trans Kq533 all0
              refine own_st st533 ?_
              show own_E p e below _ T533 (mkF m 105 #[.val (.long q1), .second, .val (.long q2), .second, iv p3, iv 1, iv 1, .val (.long q1), .second, iv (((p3.toUInt32 >>> ((3 : Int32) &&& 31).toUInt32).toInt32) &&& (3 : Int32)), rv b523, .unset, .unset] [.ref b533_o])
              refine own_st (fun t k => XS.astore X533.here hx rfl (hb hby at_105) rfl rfl (l' := #[.val (.long q1), .second, .val (.long q2), .second, iv p3, iv 1, iv 1, .val (.long q1), .second, iv (((p3.toUInt32 >>> ((3 : Int32) &&& 31).toUInt32).toInt32) &&& (3 : Int32)), rv b523, rv b533_o, .unset]) rfl k) ?_
              show own_E p e below _ T533 (mkF m 107 #[.val (.long q1), .second, .val (.long q2), .second, iv p3, iv 1, iv 1, .val (.long q1), .second, iv (((p3.toUInt32 >>> ((3 : Int32) &&& 31).toUInt32).toInt32) &&& (3 : Int32)), rv b523, rv b533_o, .unset] [])
              refine own_st (fun t k => XS.aload X533.here hx rfl (hb hby at_107) rfl rfl k) ?_
              show own_E p e below _ T533 (mkF m 109 #[.val (.long q1), .second, .val (.long q2), .second, iv p3, iv 1, iv 1, .val (.long q1), .second, iv (((p3.toUInt32 >>> ((3 : Int32) &&& 31).toUInt32).toInt32) &&& (3 : Int32)), rv b523, rv b533_o, .unset] [.ref b523])
              refine own_st (fun t k => XS.aload X533.here hx rfl (hb hby at_109) rfl rfl k) ?_
              show own_E p e below _ T533 (mkF m 111 #[.val (.long q1), .second, .val (.long q2), .second, iv p3, iv 1, iv 1, .val (.long q1), .second, iv (((p3.toUInt32 >>> ((3 : Int32) &&& 31).toUInt32).toInt32) &&& (3 : Int32)), rv b523, rv b533_o, .unset] [.ref b533_o, .ref b523])
              have B537 := (P526_0.keep Kq533)
              obtain ⟨cq536, kq536, q536a, q536b, q536c⟩ := isOf hZ e533 B537
              obtain ⟨_, _, ⟨T536, L536, k536, n536⟩, -, X536, ⟨Lc536, hQ536, l536, y536, z536⟩, st536⟩ := X533.virtualBack hx (y := own_y4) (z := own_y4) hown (mvT hZ (own_w hw 13 rfl)) (mvT hZ (own_w hw 14 rfl)) (notFace_of_selects (args := #[]) (mvT hZ (own_w hw 16 rfl))) (mvT hZ (own_w hw 16 rfl)) (mvT hZ (own_w hw 15 rfl)) (by decide) (backOf (W := 0) (own_eqL l Z a0 hw [] b523 b533_o T533.heap n0 Z534 P533) hZ (own_w hw 17 rfl) (own_w hw 2 rfl) (by decide) (by decide)) q536a q536c (g := (mkF m 111 #[.val (.long q1), .second, .val (.long q2), .second, iv p3, iv 1, iv 1, .val (.long q1), .second, iv (((p3.toUInt32 >>> ((3 : Int32) &&& 31).toUInt32).toInt32) &&& (3 : Int32)), rv b523, rv b533_o, .unset] [.ref b533_o, .ref b523])) rfl (by rw [hml]; rfl) (Steps.refl _) (argsL := [(.ref b533_o)]) (rest := []) (lenOf own_pd_5 rfl) rfl (by show 2 * 0 + _ ≤ _; exact Nat.le_of_eq rfl) (hb hby at_111) (fun _ _ => ⟨rfl, e533, (by decide : 2 + 0 ≤ _), (by decide : 3 + 0 ≤ _)⟩)
              dsimp only [Pt.U, Pt.locs, Pt.cells, Pt.slots] at X536 l536 y536 z536 st536 hQ536
              subst l536 y536 z536
              obtain ⟨hR536, e536, rfl⟩ := hQ536
              have N536 := Fr.app N533 (Fr.nil n0)
              obtain rfl := hR536
              refine own_tr st536 ?_
              show own_E p e below _ T536 (mkF m 114 #[.val (.long q1), .second, .val (.long q2), .second, iv p3, iv 1, iv 1, .val (.long q1), .second, iv (((p3.toUInt32 >>> ((3 : Int32) &&& 31).toUInt32).toInt32) &&& (3 : Int32)), rv b523, rv b533_o, .unset] [.int 0])
              refine own_st (fun t k => XS.ifNo X536.here hx rfl (hb hby at_114) rfl (by decide) k) ?_
              show own_E p e below _ T536 (mkF m 117 #[.val (.long q1), .second, .val (.long q2), .second, iv p3, iv 1, iv 1, .val (.long q1), .second, iv (((p3.toUInt32 >>> ((3 : Int32) &&& 31).toUInt32).toInt32) &&& (3 : Int32)), rv b523, rv b533_o, .unset] [])
              refine own_st (fun t k => XS.iconst X536.here hx rfl (hb hby at_117) k) ?_
              show own_E p e below _ T536 (mkF m 118 #[.val (.long q1), .second, .val (.long q2), .second, iv p3, iv 1, iv 1, .val (.long q1), .second, iv (((p3.toUInt32 >>> ((3 : Int32) &&& 31).toUInt32).toInt32) &&& (3 : Int32)), rv b523, rv b533_o, .unset] [.int 1])
              refine own_st (fun t k => XS.goto X536.here hx rfl (pc0 := 118) (pc' := 122) rfl (hb hby at_118) (by decide) (by decide) k) ?_
              show own_E p e below _ T536 (mkF m 122 #[.val (.long q1), .second, .val (.long q2), .second, iv p3, iv 1, iv 1, .val (.long q1), .second, iv (((p3.toUInt32 >>> ((3 : Int32) &&& 31).toUInt32).toInt32) &&& (3 : Int32)), rv b523, rv b533_o, .unset] [.int 1])
              refine own_retS X536 hx Bd.notSynchronized Bd.returns rfl (by decide) (hb hby at_122) (by decide) (by decide) ?_
              exact ⟨rfl, N536⟩
            · refine own_st (fun t k => XS.icmpYes X529.here hx rfl (pc0 := 98) (pc' := 123) rfl (hb hby at_98) rfl (feq hc532).2 (by decide) (by decide) k) ?_
              show own_E p e below _ T529 (mkF m 123 #[.val (.long q1), .second, .val (.long q2), .second, iv p3, iv 1, iv 1, .val (.long q1), .second, iv (((p3.toUInt32 >>> ((3 : Int32) &&& 31).toUInt32).toInt32) &&& (3 : Int32)), rv b523, .unset, .unset] [])
              obtain ⟨T538, h538, X538, e538, E538, A538, D538, -, st538⟩ := newO X529 hx hZ hown (own_w hw 0 rfl) (own_w hw 1 rfl) (own_w hw 2 rfl) e529 (g := (mkF m 123 #[.val (.long q1), .second, .val (.long q2), .second, iv p3, iv 1, iv 1, .val (.long q1), .second, iv (((p3.toUInt32 >>> ((3 : Int32) &&& 31).toUInt32).toInt32) &&& (3 : Int32)), rv b523, .unset, .unset] [])) rfl (hb hby at_123) (by decide) (by decide)
              obtain ⟨b538, g538⟩ : ∃ z, z = T526.heap.size := ⟨_, rfl⟩
              rw [← g538] at A538 D538 st538
              have ne_b523_b538 : b523 ≠ b538 := Nat.ne_of_lt (Nat.lt_of_lt_of_le P526_0.lt (Nat.le_of_eq g538.symm))
              have g_b538 : n0 ≤ b538 := Nat.le_trans Z527 (Nat.le_of_eq g538.symm)
              have sz_b538 : h0.size ≤ b538 := Nat.le_trans K528.1 (Nat.le_of_eq g538.symm)
              have Z539 := Nat.le_trans Z527 E538.1
              have K540 : Keep h0 _ [] := K528.ext E538
              have F_count_b538 : Fld Z h538 b538 "com/example/tight_fence/tightfence/engine/TemporalValue" "count" "J" (.long (0 : Int64)) := D538 (Or.inr (own_w hw 10 rfl)) (ty := .long) (by decide)
              have F_fromClock_b538 : Fld Z h538 b538 "com/example/tight_fence/tightfence/engine/TemporalValue" "fromClock" "Z" (.int (0 : Int32)) := D538 (Or.inr (own_w hw 12 rfl)) (ty := .boolean) (by decide)
              refine own_st st538 ?_
              show own_E p e below _ T538 (mkF m 126 #[.val (.long q1), .second, .val (.long q2), .second, iv p3, iv 1, iv 1, .val (.long q1), .second, iv (((p3.toUInt32 >>> ((3 : Int32) &&& 31).toUInt32).toInt32) &&& (3 : Int32)), rv b523, .unset, .unset] [.ref b538])
              refine own_st (fun t k => XS.dup X538.here hx rfl (hb hby at_126) rfl rfl k) ?_
              show own_E p e below _ T538 (mkF m 127 #[.val (.long q1), .second, .val (.long q2), .second, iv p3, iv 1, iv 1, .val (.long q1), .second, iv (((p3.toUInt32 >>> ((3 : Int32) &&& 31).toUInt32).toInt32) &&& (3 : Int32)), rv b523, .unset, .unset] [.ref b538, .ref b538])
              refine own_st (fun t k => XS.lload X538.here hx rfl (hb hby at_127) rfl k) ?_
              show own_E p e below _ T538 (mkF m 129 #[.val (.long q1), .second, .val (.long q2), .second, iv p3, iv 1, iv 1, .val (.long q1), .second, iv (((p3.toUInt32 >>> ((3 : Int32) &&& 31).toUInt32).toInt32) &&& (3 : Int32)), rv b523, .unset, .unset] [.long q1, .ref b538, .ref b538])
              refine own_st (fun t k => XS.iload X538.here hx rfl (hb hby at_129) rfl k) ?_
              show own_E p e below _ T538 (mkF m 131 #[.val (.long q1), .second, .val (.long q2), .second, iv p3, iv 1, iv 1, .val (.long q1), .second, iv (((p3.toUInt32 >>> ((3 : Int32) &&& 31).toUInt32).toInt32) &&& (3 : Int32)), rv b523, .unset, .unset] [.int 1, .long q1, .ref b538, .ref b538])
              obtain ⟨_, _, ⟨T541, L541, k541, n541⟩, -, X541, ⟨Lc541, hQ541, l541, y541, z541⟩, st541⟩ := X538.specialBack hx (y := own_y3) rfl hown (mvT hZ (own_w hw 3 rfl)) (mvT hZ (own_w hw 4 rfl)) (mvT hZ (own_w hw 5 rfl)) (by decide) (backOf (W := 1) (own_init1 l Z a0 hw [] b538 q1 h538 n0 Z539 A538 F_count_b538 F_fromClock_b538 g_b538) hZ (own_w hw 5 rfl) (own_w hw 2 rfl) (by decide) (by decide)) (g := (mkF m 131 #[.val (.long q1), .second, .val (.long q2), .second, iv p3, iv 1, iv 1, .val (.long q1), .second, iv (((p3.toUInt32 >>> ((3 : Int32) &&& 31).toUInt32).toInt32) &&& (3 : Int32)), rv b523, .unset, .unset] [.int 1, .long q1, .ref b538, .ref b538])) rfl (by rw [hml]; rfl) (Steps.refl _) (a := b538) (argsL := [(.long q1), (.int (1 : Int32))]) (rest := [(.ref b538)]) (lenOf own_pd_4 rfl) rfl (by show 2 * 0 + _ ≤ _; exact Nat.le_of_eq rfl) (hb hby at_131) (fun _ _ => ⟨rfl, e538, (by decide : 2 + 0 ≤ _), (by decide : 4 + 0 ≤ _)⟩)
              dsimp only [Pt.U, Pt.locs, Pt.cells, Pt.slots] at X541 l541 y541 z541 st541 hQ541
              subst l541 y541 z541
              obtain ⟨rfl, Nq541, Kq541, P541_0, P541_1⟩ := hQ541
              have N541 := Fr.app N529 Nq541
              have e541 : T541.heap = T541.heap := rfl
              have Z542 := Nat.le_trans Z539 Kq541.1
              have K543 : Keep h0 _ [] := K540.trans Kq541 (allS (P := fun x => x ∈ [] ∨ h0.size ≤ x) (Or.inr sz_b538) all0)
              refine own_tr st541 ?_
              show own_E p e below _ T541 (mkF m 134 #[.val (.long q1), .second, .val (.long q2), .second, iv p3, iv 1, iv 1, .val (.long q1), .second, iv (((p3.toUInt32 >>> ((3 : Int32) &&& 31).toUInt32).toInt32) &&& (3 : Int32)), rv b523, .unset, .unset] [.ref b538])
              refine own_st (fun t k => XS.astore X541.here hx rfl (hb hby at_134) rfl rfl (l' := #[.val (.long q1), .second, .val (.long q2), .second, iv p3, iv 1, iv 1, .val (.long q1), .second, iv (((p3.toUInt32 >>> ((3 : Int32) &&& 31).toUInt32).toInt32) &&& (3 : Int32)), rv b523, rv b538, .unset]) rfl k) ?_
              show own_E p e below _ T541 (mkF m 136 #[.val (.long q1), .second, .val (.long q2), .second, iv p3, iv 1, iv 1, .val (.long q1), .second, iv (((p3.toUInt32 >>> ((3 : Int32) &&& 31).toUInt32).toInt32) &&& (3 : Int32)), rv b523, rv b538, .unset] [])
              refine own_st (fun t k => XS.lloadN X541.here hx rfl (hb hby at_136) rfl k) ?_
              show own_E p e below _ T541 (mkF m 137 #[.val (.long q1), .second, .val (.long q2), .second, iv p3, iv 1, iv 1, .val (.long q1), .second, iv (((p3.toUInt32 >>> ((3 : Int32) &&& 31).toUInt32).toInt32) &&& (3 : Int32)), rv b523, rv b538, .unset] [.long q1])
              refine own_st (fun t k => XS.lload X541.here hx rfl (hb hby at_137) rfl k) ?_
              show own_E p e below _ T541 (mkF m 139 #[.val (.long q1), .second, .val (.long q2), .second, iv p3, iv 1, iv 1, .val (.long q1), .second, iv (((p3.toUInt32 >>> ((3 : Int32) &&& 31).toUInt32).toInt32) &&& (3 : Int32)), rv b523, rv b538, .unset] [.long q1, .long q1])
              refine own_st (fun t k => XS.lcmp X541.here hx rfl (hb hby at_139) rfl k) ?_
              show own_E p e below _ T541 (mkF m 140 #[.val (.long q1), .second, .val (.long q2), .second, iv p3, iv 1, iv 1, .val (.long q1), .second, iv (((p3.toUInt32 >>> ((3 : Int32) &&& 31).toUInt32).toInt32) &&& (3 : Int32)), rv b523, rv b538, .unset] [.int (lcmpW q1 q1)])
              refine own_st (fun t k => XS.ifNo X541.here hx rfl (hb hby at_140) rfl ((if0 _ _).trans (teq ((lw_eq _ _).mpr ha529_0)).2) k) ?_
              show own_E p e below _ T541 (mkF m 143 #[.val (.long q1), .second, .val (.long q2), .second, iv p3, iv 1, iv 1, .val (.long q1), .second, iv (((p3.toUInt32 >>> ((3 : Int32) &&& 31).toUInt32).toInt32) &&& (3 : Int32)), rv b523, rv b538, .unset] [])
              refine own_st (fun t k => XS.iconst X541.here hx rfl (hb hby at_143) k) ?_
              show own_E p e below _ T541 (mkF m 144 #[.val (.long q1), .second, .val (.long q2), .second, iv p3, iv 1, iv 1, .val (.long q1), .second, iv (((p3.toUInt32 >>> ((3 : Int32) &&& 31).toUInt32).toInt32) &&& (3 : Int32)), rv b523, rv b538, .unset] [.int 1])
              refine own_st (fun t k => XS.goto X541.here hx rfl (pc0 := 144) (pc' := 148) rfl (hb hby at_144) (by decide) (by decide) k) ?_
              show own_E p e below _ T541 (mkF m 148 #[.val (.long q1), .second, .val (.long q2), .second, iv p3, iv 1, iv 1, .val (.long q1), .second, iv (((p3.toUInt32 >>> ((3 : Int32) &&& 31).toUInt32).toInt32) &&& (3 : Int32)), rv b523, rv b538, .unset] [.int 1])
              refine own_st (fun t k => XS.istore X541.here hx rfl (hb hby at_148) rfl (l' := #[.val (.long q1), .second, .val (.long q2), .second, iv p3, iv 1, iv 1, .val (.long q1), .second, iv (((p3.toUInt32 >>> ((3 : Int32) &&& 31).toUInt32).toInt32) &&& (3 : Int32)), rv b523, rv b538, iv 1]) rfl k) ?_
              show own_E p e below _ T541 (mkF m 150 #[.val (.long q1), .second, .val (.long q2), .second, iv p3, iv 1, iv 1, .val (.long q1), .second, iv (((p3.toUInt32 >>> ((3 : Int32) &&& 31).toUInt32).toInt32) &&& (3 : Int32)), rv b523, rv b538, iv 1] [])
              refine own_st (fun t k => XS.aload X541.here hx rfl (hb hby at_150) rfl rfl k) ?_
              show own_E p e below _ T541 (mkF m 152 #[.val (.long q1), .second, .val (.long q2), .second, iv p3, iv 1, iv 1, .val (.long q1), .second, iv (((p3.toUInt32 >>> ((3 : Int32) &&& 31).toUInt32).toInt32) &&& (3 : Int32)), rv b523, rv b538, iv 1] [.ref b523])
              refine own_st (fun t k => XS.aload X541.here hx rfl (hb hby at_152) rfl rfl k) ?_
              show own_E p e below _ T541 (mkF m 154 #[.val (.long q1), .second, .val (.long q2), .second, iv p3, iv 1, iv 1, .val (.long q1), .second, iv (((p3.toUInt32 >>> ((3 : Int32) &&& 31).toUInt32).toInt32) &&& (3 : Int32)), rv b523, rv b538, iv 1] [.ref b538, .ref b523])
              have B544 := ((P526_1.ext E538).keep Kq541 (ninS ne_b523_b538 nin0))
              have B546 := ((P526_0.ext E538).keep Kq541)
              obtain ⟨cq545, kq545, q545a, q545b, q545c⟩ := isOf hZ e541 B546
              obtain ⟨_, _, ⟨T545, L545, k545, n545⟩, -, X545, ⟨Lc545, hQ545, l545, y545, z545⟩, st545⟩ := X541.virtualBack hx (y := own_y4) (z := own_y4) hown (mvT hZ (own_w hw 13 rfl)) (mvT hZ (own_w hw 14 rfl)) (notFace_of_selects (args := #[]) (mvT hZ (own_w hw 16 rfl))) (mvT hZ (own_w hw 16 rfl)) (mvT hZ (own_w hw 15 rfl)) (by decide) (backOf (W := 0) (own_eqT l Z a0 hw [] b523 b538 q1 q1 T541.heap n0 Z542 P541_0 B544 P541_1) hZ (own_w hw 17 rfl) (own_w hw 2 rfl) (by decide) (by decide)) q545a q545c (g := (mkF m 154 #[.val (.long q1), .second, .val (.long q2), .second, iv p3, iv 1, iv 1, .val (.long q1), .second, iv (((p3.toUInt32 >>> ((3 : Int32) &&& 31).toUInt32).toInt32) &&& (3 : Int32)), rv b523, rv b538, iv 1] [.ref b538, .ref b523])) rfl (by rw [hml]; rfl) (Steps.refl _) (argsL := [(.ref b538)]) (rest := []) (lenOf own_pd_5 rfl) rfl (by show 2 * 0 + _ ≤ _; exact Nat.le_of_eq rfl) (hb hby at_154) (fun _ _ => ⟨rfl, e541, (by decide : 2 + 0 ≤ _), (by decide : 4 + 0 ≤ _)⟩)
              dsimp only [Pt.U, Pt.locs, Pt.cells, Pt.slots] at X545 l545 y545 z545 st545 hQ545
              subst l545 y545 z545
              obtain ⟨hR545, e545, rfl⟩ := hQ545
              have N545 := Fr.app N541 (Fr.nil n0)
              rcases hR545 with ⟨rfl, ha545_0⟩ | ⟨rfl, ha545_0⟩
              · refine own_tr st545 ?_
                show own_E p e below _ T545 (mkF m 157 #[.val (.long q1), .second, .val (.long q2), .second, iv p3, iv 1, iv 1, .val (.long q1), .second, iv (((p3.toUInt32 >>> ((3 : Int32) &&& 31).toUInt32).toInt32) &&& (3 : Int32)), rv b523, rv b538, iv 1] [.int 1])
                refine own_st (fun t k => XS.iload X545.here hx rfl (hb hby at_157) rfl k) ?_
                show own_E p e below _ T545 (mkF m 159 #[.val (.long q1), .second, .val (.long q2), .second, iv p3, iv 1, iv 1, .val (.long q1), .second, iv (((p3.toUInt32 >>> ((3 : Int32) &&& 31).toUInt32).toInt32) &&& (3 : Int32)), rv b523, rv b538, iv 1] [.int 1, .int 1])
                refine own_st (fun t k => XS.icmpYes X545.here hx rfl (pc0 := 159) (pc' := 164) rfl (hb hby at_159) rfl (by decide) (by decide) (by decide) k) ?_
                show own_E p e below _ T545 (mkF m 164 #[.val (.long q1), .second, .val (.long q2), .second, iv p3, iv 1, iv 1, .val (.long q1), .second, iv (((p3.toUInt32 >>> ((3 : Int32) &&& 31).toUInt32).toInt32) &&& (3 : Int32)), rv b523, rv b538, iv 1] [])
                refine own_st (fun t k => XS.aload X545.here hx rfl (hb hby at_164) rfl rfl k) ?_
                show own_E p e below _ T545 (mkF m 166 #[.val (.long q1), .second, .val (.long q2), .second, iv p3, iv 1, iv 1, .val (.long q1), .second, iv (((p3.toUInt32 >>> ((3 : Int32) &&& 31).toUInt32).toInt32) &&& (3 : Int32)), rv b523, rv b538, iv 1] [.ref b538])
                refine own_st (fun t k => XS.aload X545.here hx rfl (hb hby at_166) rfl rfl k) ?_
                show own_E p e below _ T545 (mkF m 168 #[.val (.long q1), .second, .val (.long q2), .second, iv p3, iv 1, iv 1, .val (.long q1), .second, iv (((p3.toUInt32 >>> ((3 : Int32) &&& 31).toUInt32).toInt32) &&& (3 : Int32)), rv b523, rv b538, iv 1] [.ref b523, .ref b538])
                obtain ⟨cq547, kq547, q547a, q547b, q547c⟩ := isOf hZ e545 P541_0
                obtain ⟨_, _, ⟨T547, L547, k547, n547⟩, -, X547, ⟨Lc547, hQ547, l547, y547, z547⟩, st547⟩ := X545.virtualBack hx (y := own_y4) (z := own_y4) hown (mvT hZ (own_w hw 13 rfl)) (mvT hZ (own_w hw 14 rfl)) (notFace_of_selects (args := #[]) (mvT hZ (own_w hw 16 rfl))) (mvT hZ (own_w hw 16 rfl)) (mvT hZ (own_w hw 15 rfl)) (by decide) (backOf (W := 0) (own_eqT l Z a0 hw [] b538 b523 q1 q1 T541.heap n0 Z542 B546 P541_1 B544) hZ (own_w hw 17 rfl) (own_w hw 2 rfl) (by decide) (by decide)) q547a q547c (g := (mkF m 168 #[.val (.long q1), .second, .val (.long q2), .second, iv p3, iv 1, iv 1, .val (.long q1), .second, iv (((p3.toUInt32 >>> ((3 : Int32) &&& 31).toUInt32).toInt32) &&& (3 : Int32)), rv b523, rv b538, iv 1] [.ref b523, .ref b538])) rfl (by rw [hml]; rfl) (Steps.refl _) (argsL := [(.ref b523)]) (rest := []) (lenOf own_pd_5 rfl) rfl (by show 2 * 0 + _ ≤ _; exact Nat.le_of_eq rfl) (hb hby at_168) (fun _ _ => ⟨rfl, e545, (by decide : 2 + 0 ≤ _), (by decide : 4 + 0 ≤ _)⟩)
                dsimp only [Pt.U, Pt.locs, Pt.cells, Pt.slots] at X547 l547 y547 z547 st547 hQ547
                subst l547 y547 z547
                obtain ⟨hR547, e547, rfl⟩ := hQ547
                have N547 := Fr.app N545 (Fr.nil n0)
                rcases hR547 with ⟨rfl, ha547_0⟩ | ⟨rfl, ha547_0⟩
                · refine own_tr st547 ?_
                  show own_E p e below _ T547 (mkF m 171 #[.val (.long q1), .second, .val (.long q2), .second, iv p3, iv 1, iv 1, .val (.long q1), .second, iv (((p3.toUInt32 >>> ((3 : Int32) &&& 31).toUInt32).toInt32) &&& (3 : Int32)), rv b523, rv b538, iv 1] [.int 1])
                  refine own_st (fun t k => XS.iload X547.here hx rfl (hb hby at_171) rfl k) ?_
                  show own_E p e below _ T547 (mkF m 173 #[.val (.long q1), .second, .val (.long q2), .second, iv p3, iv 1, iv 1, .val (.long q1), .second, iv (((p3.toUInt32 >>> ((3 : Int32) &&& 31).toUInt32).toInt32) &&& (3 : Int32)), rv b523, rv b538, iv 1] [.int 1, .int 1])
                  refine own_st (fun t k => XS.icmpNo X547.here hx rfl (hb hby at_173) rfl (by decide) k) ?_
                  show own_E p e below _ T547 (mkF m 176 #[.val (.long q1), .second, .val (.long q2), .second, iv p3, iv 1, iv 1, .val (.long q1), .second, iv (((p3.toUInt32 >>> ((3 : Int32) &&& 31).toUInt32).toInt32) &&& (3 : Int32)), rv b523, rv b538, iv 1] [])
                  refine own_st (fun t k => XS.iconst X547.here hx rfl (hb hby at_176) k) ?_
                  show own_E p e below _ T547 (mkF m 177 #[.val (.long q1), .second, .val (.long q2), .second, iv p3, iv 1, iv 1, .val (.long q1), .second, iv (((p3.toUInt32 >>> ((3 : Int32) &&& 31).toUInt32).toInt32) &&& (3 : Int32)), rv b523, rv b538, iv 1] [.int 1])
                  refine own_st (fun t k => XS.goto X547.here hx rfl (pc0 := 177) (pc' := 181) rfl (hb hby at_177) (by decide) (by decide) k) ?_
                  show own_E p e below _ T547 (mkF m 181 #[.val (.long q1), .second, .val (.long q2), .second, iv p3, iv 1, iv 1, .val (.long q1), .second, iv (((p3.toUInt32 >>> ((3 : Int32) &&& 31).toUInt32).toInt32) &&& (3 : Int32)), rv b523, rv b538, iv 1] [.int 1])
                  refine own_retS X547 hx Bd.notSynchronized Bd.returns rfl (by decide) (hb hby at_181) (by decide) (by decide) ?_
                  exact ⟨rfl, N547⟩
                · exact absurd ha529_0 ha547_0
              · exact absurd ha529_0 ha545_0
        · exfalso
          have f548 := rng32 p3
          have f549 : (1 : Int32).toInt = 1 := rfl
          have f550 := rng32 (p3 &&& (1 : Int32))
          have f551 : (p3 &&& (1 : Int32)).toInt = p3.toInt % 2 := c_mask p3 (1 : Int32) 1 (by decide) (by decide)
          have f552 : (0 : Int32).toInt = 0 := rfl
          have f553 : (2 : Int32).toInt = 2 := rfl
          have f554 := rng32 (p3 &&& (2 : Int32))
          have f555 := c_and p3 (2 : Int32) (by decide)
          have f556 : (4 : Int32).toInt = 4 := rfl
          have f557 := rng32 (p3 &&& (4 : Int32))
          have f558 := c_and p3 (4 : Int32) (by decide)
          have f559 := rng64 q1
          have g560 := hc1
          rw [← Int32.toInt_inj] at g560
          have g561 := hc283
          rw [← Int32.toInt_inj] at g561
          have g562 := hc424
          rw [← Int32.toInt_inj] at g562
          have g563 := ha529_0
          rw [← Int64.toInt_inj] at g563
          omega
set_option maxRecDepth 65536 in
set_option maxHeartbeats 40000000 in
theorem comes_1 {Post : Tables → Env → Array Value → State → Outcome → State → Prop} (hpost : ∀ tb e args s v u, (limb_1_1.after args s (.returned v) u = true ∧ limb_1_2.after args s (.returned v) u = true ∧ True) → FrameEnd s (.returned v) u (Jvm.fieldLocs frame_1_writes args s ++ Jvm.arrayLocs frame_1_arrays args s ++ Jvm.staticLocs frame_1_statics s) 16 128 → Post tb e args s (.returned v) u) :
    ArmFor flags0 classFile x code maxLocals ret World_1 tables_1 room_1 Calls_1 rest_1 Pre_1 Post := by
  intro l hfl _ _ p e ha hc hk s m args below hf hA hF happ hP
  obtain ⟨hcalls, hrest, hpre⟩ := hP
  obtain ⟨-, -, -, hnamed, -, -, -, hat⟩ := (Spec.applies_iff hf).mp happ
  obtain ⟨hg, hn⟩ := and_e (Cond.before_iff.mp (show (Jvm.Cond.and given_1 narrow_1).before args s = true from hpre))
  obtain ⟨hg0, hg1⟩ := and_e hg
  obtain ⟨hv0, hg2⟩ := and_e hg1
  obtain ⟨hv1, hg3⟩ := and_e hg2
  have hv2 := hg3
  obtain ⟨w0, w1, w2, rfl⟩ : ∃ w0 w1 w2 : Value, args = #[w0, w1, w2] := by
    have hs : args.size = 3 := by simpa [Cond.value, given_1] using hg0
    obtain ⟨L⟩ := args
    match L, hs with
    | [w0, w1, w2], _ => exact ⟨w0, w1, w2, rfl⟩
  have hw := fun d (hd : d ∈ tables_1) => atoms_spec (ws := Jvm.Cond.code x code maxLocals ret :: tables_1) hat d (List.mem_cons_of_mem _ hd)
  have hfit : Fit s := fun {y c} hc i hi => by
    obtain ⟨ha, rfl⟩ := Array.getElem?_eq_some_iff.mp hc
    have q := List.all_eq_true.mp ((Array.all_eq_true_iff_forall_mem.mp hF) _ (Array.getElem_mem ha)) i (List.mem_range.mpr hi)
    simpa [Array.getElem?_eq_getElem hi] using q
  obtain ⟨i0, ev0⟩ := isL_v hv0
  obtain rfl : w0 = (.long i0) := Option.some.inj ev0
  obtain ⟨i1, ev1⟩ := isL_v hv1
  obtain rfl : w1 = (.long i1) := Option.some.inj ev1
  obtain ⟨i2, ev2⟩ := is_v hv2
  obtain rfl : w2 = (.int i2) := Option.some.inj ev2
  have hsets := (atoms_of jdkStatics_1 (own := restOwn_1) (by rw [← rest_1_c_eq]; exact hrest)).1
  have hC := own_cache_start hsets
  obtain ⟨n, o, h1, h2, h3, _, L, rfl, ⟨rfl, N⟩, hq⟩ := own_law l s _ hw tables_1 i0 i1 i2 s.heap s.heap.size (Nat.le_refl _) hC p e ha hc hk s m _ below hf ((Spec.applies_iff_loose hf).mp happ).1 ⟨rfl, State.Warmed39.refl s, rfl⟩ trivial
  refine ⟨n, _, h1, h2, h3, hpost _ _ _ _ _ _ ⟨Cond.after_iff.mpr rfl, Cond.after_iff.mpr (eq_i res_at (Term.int_eval (1)) rfl), trivial⟩ ⟨hq.1, hq.2.1, (hq.2.2.sift fun y hy => Or.inr (N y hy)).mono (by decide) (by decide)⟩⟩
theorem main_1_1 : Claimed_1_1 := comes_1 fun _ _ _ _ _ _ h hF => ⟨h.1, hF⟩
theorem main_1_2 : Claimed_1_2 := comes_1 fun _ _ _ _ _ _ h hF => ⟨h.2.1, hF⟩
end Jvm.Pilot.@@N@@
namespace Jvm.Pilot.@@N@@
open Jvm Jvm.ClassFile Sem Op Lib Jvm.Free Jvm.Stand Jvm.Pilot.@@N@@.Jvm.D
/-! MADE BY PROGRAM (witnessworld.py) out of the Statement's table words and the real class files: 16 classes; the members and pool entries that the words name. The judged class is class 1, her method 1. -/
namespace start1
open Jvm.ClassFile
def u (s : String) : CpInfo := .utf8 (stringToUtf16 s)
/-- a pool by its gaps: so many unusable entries, then the entry; so many at the end -/
def gap : Nat → List CpInfo → List CpInfo
  | 0, r => r
  | n + 1, r => .unusable :: gap n r
def poolList (es : List (Nat × CpInfo)) (last : Nat) : List CpInfo := es.foldr (fun e r => gap e.1 (e.2 :: r)) (gap last [])
def pool (es : List (Nat × CpInfo)) (last : Nat) : Array CpInfo := ⟨poolList es last⟩
def fileOf (pool : Array CpInfo) (this : Nat) (attrs : Array Attribute := #[]) (ms : Array MethodInfo := #[]) (fl : Nat := 33) (sup : Nat := 0) (ifs : Array Nat := #[]) (fds : Array FieldInfo := #[]) : ClassFile where
  minorVersion := 0
  majorVersion := 65
  constantPool := pool
  accessFlags := fl
  thisClass := this
  superClass := sup
  interfaces := ifs
  fields := fds
  methods := ms
  attributes := attrs
def plain (name : String) (sup : Option ClassId) : Class where
  name := name
  kind := .ordinary
  loader := none
  accessFlags := 33
  super := sup
  interfaces := #[]
  cf := none
  fields := #[]
  methods := #[]
  instanceTypes := #[]
  staticTypes := #[]
  resolved := #[]
  callSites := []
  init := .initialized
  statics := none
  mirror := none

def pool0 : Array CpInfo := pool [(5, u "<init>"), (0, u "()V"), (1, .class_ 10), (1, u "java/lang/Object")] 113

def k0c0 : Code := { maxStack := 0, maxLocals := 1, code := object_method_1_code, exceptionTable := #[], attributes := #[] }
def k0m0 : Method := { name := "<init>", desc := "()V", sig := { parameters := [], returnType := none }, accessFlags := 1, code := some k0c0 }
/-- java/lang/Object -/
def k0 : Class := { plain "java/lang/Object" none with
  accessFlags := 33
  interfaces := #[]
  cf := some (fileOf pool0 8 #[] #[{ accessFlags := 1, nameIndex := 5, descriptorIndex := 6, attributes := #[] }] 33 0 #[] #[])
  fields := #[]
  methods := #[k0m0]
  instanceTypes := #[]
  staticTypes := #[]
  resolved := Array.replicate 124 none
  statics := none }

def pool1 : Array CpInfo := pool [(2, .class_ 4), (1, u "java/lang/Object"), (0, u "<init>"), (0, u "()V"), (0, .class_ 8), (0, u "com/example/tight_fence/tightfence/engine/TemporalValue"), (0, .methodref 7 10), (0, .nameAndType 5 11), (0, u "(JZ)V"), (0, .methodref 7 13), (0, .nameAndType 14 15), (0, u "equals"), (0, u "(Ljava/lang/Object;)Z"), (0, .methodref 17 18), (0, .class_ 19), (0, .nameAndType 20 21), (0, u "java/lang/Long"), (0, u "valueOf"), (0, u "(J)Ljava/lang/Long;"), (0, .class_ 23), (0, u "com/example/tight_fence/tightfence/engine/TemporalValueEqualsPinLaw"), (2, u "law"), (0, u "(JJI)Z")] 3

def k1m0 : Method := { name := "<init>", desc := "()V", sig := { parameters := [], returnType := none }, accessFlags := 2, code := none }
def k1c1 : Code := { maxStack := 5, maxLocals := 13, code := code, exceptionTable := #[], attributes := #[] }
def k1m1 : Method := { name := "law", desc := "(JJI)Z", sig := { parameters := [.long, .long, .int], returnType := some .boolean }, accessFlags := 9, code := some k1c1 }
/-- com/example/tight_fence/tightfence/engine/TemporalValueEqualsPinLaw -/
def k1 : Class := { plain "com/example/tight_fence/tightfence/engine/TemporalValueEqualsPinLaw" (some 0) with
  accessFlags := 49
  interfaces := #[]
  cf := some (fileOf pool1 22 #[] #[{ accessFlags := 2, nameIndex := 5, descriptorIndex := 6, attributes := #[] }, { accessFlags := 9, nameIndex := 26, descriptorIndex := 27, attributes := #[] }] 49 2 #[] #[])
  fields := #[]
  methods := #[k1m0, k1m1]
  instanceTypes := #[]
  staticTypes := #[]
  resolved := Array.replicate 31 none
  statics := none }

def pool2 : Array CpInfo := pool [(1, .methodref 2 3), (0, .class_ 4), (0, .nameAndType 5 6), (0, u "java/lang/Object"), (0, u "<init>"), (0, u "()V"), (0, .fieldref 8 9), (0, .class_ 10), (0, .nameAndType 11 12), (0, u "com/example/tight_fence/tightfence/engine/TemporalValue"), (0, u "count"), (0, u "J"), (0, .fieldref 8 14), (0, .nameAndType 15 16), (0, u "fromClock"), (0, u "Z"), (10, u "FROM_CLOCK"), (0, u "Ljava/lang/String;"), (3, u "(JZ)V"), (5, u "(Ljava/lang/Object;)Z"), (1, u "equals")] 4

def k2c0 : Code := { maxStack := 3, maxLocals := 4, code := prog_84_method_1_code, exceptionTable := #[], attributes := #[] }
def k2m0 : Method := { name := "<init>", desc := "(JZ)V", sig := { parameters := [.long, .boolean], returnType := none }, accessFlags := 0, code := some k2c0 }
def k2c1 : Code := { maxStack := 4, maxLocals := 2, code := prog_84_method_5_code, exceptionTable := #[], attributes := #[] }
def k2m1 : Method := { name := "equals", desc := "(Ljava/lang/Object;)Z", sig := { parameters := [(.object "java/lang/Object")], returnType := some .boolean }, accessFlags := 1, code := some k2c1 }
/-- com/example/tight_fence/tightfence/engine/TemporalValue -/
def k2 : Class := { plain "com/example/tight_fence/tightfence/engine/TemporalValue" (some 0) with
  accessFlags := 48
  interfaces := #[]
  cf := some (fileOf pool2 8 #[] #[{ accessFlags := 0, nameIndex := 5, descriptorIndex := 32, attributes := #[] }, { accessFlags := 1, nameIndex := 40, descriptorIndex := 38, attributes := #[] }] 48 2 #[] #[{ accessFlags := 24, nameIndex := 27, descriptorIndex := 28, attributes := #[] }, { accessFlags := 18, nameIndex := 11, descriptorIndex := 12, attributes := #[] }, { accessFlags := 18, nameIndex := 15, descriptorIndex := 16, attributes := #[] }])
  fields := #[{ name := "FROM_CLOCK", type := (.object "java/lang/String"), accessFlags := 24, slot := 0, constantValue := 0 }, { name := "count", type := .long, accessFlags := 18, slot := 0, constantValue := 0 }, { name := "fromClock", type := .boolean, accessFlags := 18, slot := 1, constantValue := 0 }]
  methods := #[k2m0, k2m1]
  instanceTypes := #[.long, .boolean]
  staticTypes := #[(.object "java/lang/String")]
  resolved := Array.replicate 45 none
  statics := none }

def pool3 : Array CpInfo := pool [(1, .class_ 2), (0, u "java/io/Serializable"), (0, .class_ 4), (0, u "java/lang/Object")] 2

/-- java/io/Serializable -/
def k3 : Class := { plain "java/io/Serializable" (some 0) with
  accessFlags := 1537
  interfaces := #[]
  cf := some (fileOf pool3 1 #[] #[] 1537 3 #[] #[])
  fields := #[]
  methods := #[]
  instanceTypes := #[]
  staticTypes := #[]
  resolved := Array.replicate 7 none
  statics := none }

def pool4 : Array CpInfo := pool [(1, .methodref 2 3), (0, .class_ 4), (0, .nameAndType 5 6), (0, u "java/lang/Object"), (0, u "<init>"), (0, u "()V"), (1, .class_ 10), (1, u "java/lang/Number"), (2, .class_ 14), (0, u "java/io/Serializable"), (0, u "serialVersionUID"), (0, u "J")] 20

def k4c0 : Code := { maxStack := 1, maxLocals := 1, code := jdk_18_method_1_code, exceptionTable := #[], attributes := #[] }
def k4m0 : Method := { name := "<init>", desc := "()V", sig := { parameters := [], returnType := none }, accessFlags := 1, code := some k4c0 }
/-- java/lang/Number -/
def k4 : Class := { plain "java/lang/Number" (some 0) with
  accessFlags := 1057
  interfaces := #[3]
  cf := some (fileOf pool4 8 #[] #[{ accessFlags := 1, nameIndex := 5, descriptorIndex := 6, attributes := #[] }] 1057 2 #[13] #[{ accessFlags := 26, nameIndex := 15, descriptorIndex := 16, attributes := #[] }])
  fields := #[{ name := "serialVersionUID", type := .long, accessFlags := 26, slot := 0, constantValue := 0 }]
  methods := #[k4m0]
  instanceTypes := #[]
  staticTypes := #[.long]
  resolved := Array.replicate 37 none
  statics := none }

def pool5 : Array CpInfo := pool [(1, .class_ 2), (0, u "java/lang/Comparable"), (0, .class_ 4), (0, u "java/lang/Object")] 7

/-- java/lang/Comparable -/
def k5 : Class := { plain "java/lang/Comparable" (some 0) with
  accessFlags := 1537
  interfaces := #[]
  cf := some (fileOf pool5 1 #[] #[] 1537 3 #[] #[])
  fields := #[]
  methods := #[]
  instanceTypes := #[]
  staticTypes := #[]
  resolved := Array.replicate 12 none
  statics := none }

def pool6 : Array CpInfo := pool [(1, .class_ 2), (0, u "java/lang/constant/Constable"), (0, .class_ 4), (0, u "java/lang/Object")] 6

/-- java/lang/constant/Constable -/
def k6 : Class := { plain "java/lang/constant/Constable" (some 0) with
  accessFlags := 1537
  interfaces := #[]
  cf := some (fileOf pool6 1 #[] #[] 1537 3 #[] #[])
  fields := #[]
  methods := #[]
  instanceTypes := #[]
  staticTypes := #[]
  resolved := Array.replicate 11 none
  statics := none }

def pool7 : Array CpInfo := pool [(1, .class_ 2), (0, u "java/lang/constant/ConstantDesc"), (0, .class_ 4), (0, u "java/lang/Object")] 32

/-- java/lang/constant/ConstantDesc -/
def k7 : Class := { plain "java/lang/constant/ConstantDesc" (some 0) with
  accessFlags := 1537
  interfaces := #[]
  cf := some (fileOf pool7 1 #[] #[] 1537 3 #[] #[])
  fields := #[]
  methods := #[]
  instanceTypes := #[]
  staticTypes := #[]
  resolved := Array.replicate 37 none
  statics := none }

def pool8 : Array CpInfo := pool [(1, .class_ 2), (0, u "java/lang/Long"), (55, .nameAndType 59 60), (0, u "<init>"), (0, u "()V"), (24, u "valueOf"), (143, u "(J)Ljava/lang/Long;"), (0, .long 18446744073709551488), (1, .long 127), (1, .fieldref 235 236), (0, .class_ 237), (0, .nameAndType 238 239), (0, u "java/lang/Long$LongCache"), (0, u "cache"), (0, u "[Ljava/lang/Long;"), (0, .methodref 1 241), (0, .nameAndType 59 242), (0, u "(J)V"), (27, .methodref 271 58), (0, .class_ 272), (0, u "java/lang/Number"), (0, .fieldref 1 274), (0, .nameAndType 275 276), (0, u "value"), (0, u "J"), (84, u "TYPE"), (0, u "Ljava/lang/Class;"), (0, .class_ 364), (0, u "java/lang/Comparable"), (0, .class_ 366), (0, u "java/lang/constant/Constable"), (0, .class_ 368), (0, u "java/lang/constant/ConstantDesc"), (0, u "MIN_VALUE"), (1, u "MAX_VALUE"), (4, u "SIZE"), (0, u "I"), (1, u "BYTES"), (1, u "serialVersionUID")] 142

def k8c0 : Code := { maxStack := 4, maxLocals := 3, code := jdk_35_method_24_code, exceptionTable := #[], attributes := #[] }
def k8m0 : Method := { name := "valueOf", desc := "(J)Ljava/lang/Long;", sig := { parameters := [.long], returnType := some (.object "java/lang/Long") }, accessFlags := 9, code := some k8c0 }
def k8c1 : Code := { maxStack := 3, maxLocals := 3, code := jdk_35_method_26_code, exceptionTable := #[], attributes := #[] }
def k8m1 : Method := { name := "<init>", desc := "(J)V", sig := { parameters := [.long], returnType := none }, accessFlags := 1, code := some k8c1 }
/-- java/lang/Long -/
def k8 : Class := { plain "java/lang/Long" (some 4) with
  accessFlags := 49
  interfaces := #[5, 6, 7]
  cf := some (fileOf pool8 1 #[.nestMembers #[235]] #[{ accessFlags := 9, nameIndex := 85, descriptorIndex := 229, attributes := #[] }, { accessFlags := 1, nameIndex := 59, descriptorIndex := 242, attributes := #[] }] 49 271 #[363, 365, 367] #[{ accessFlags := 25, nameIndex := 369, descriptorIndex := 276, attributes := #[] }, { accessFlags := 25, nameIndex := 371, descriptorIndex := 276, attributes := #[] }, { accessFlags := 25, nameIndex := 361, descriptorIndex := 362, attributes := #[] }, { accessFlags := 18, nameIndex := 275, descriptorIndex := 276, attributes := #[] }, { accessFlags := 25, nameIndex := 376, descriptorIndex := 377, attributes := #[] }, { accessFlags := 25, nameIndex := 379, descriptorIndex := 377, attributes := #[] }, { accessFlags := 26, nameIndex := 381, descriptorIndex := 276, attributes := #[] }])
  fields := #[{ name := "MIN_VALUE", type := .long, accessFlags := 25, slot := 0, constantValue := 0 }, { name := "MAX_VALUE", type := .long, accessFlags := 25, slot := 1, constantValue := 0 }, { name := "TYPE", type := (.object "java/lang/Class"), accessFlags := 25, slot := 2, constantValue := 0 }, { name := "value", type := .long, accessFlags := 18, slot := 0, constantValue := 0 }, { name := "SIZE", type := .int, accessFlags := 25, slot := 3, constantValue := 0 }, { name := "BYTES", type := .int, accessFlags := 25, slot := 4, constantValue := 0 }, { name := "serialVersionUID", type := .long, accessFlags := 26, slot := 5, constantValue := 0 }]
  methods := #[k8m0, k8m1]
  instanceTypes := #[.long]
  staticTypes := #[.long, .long, (.object "java/lang/Class"), .int, .int, .long]
  resolved := Array.replicate 524 none
  statics := none }

def pool9 : Array CpInfo := pool [(2, .class_ 4), (1, u "java/lang/Object"), (0, u "<init>"), (0, u "()V"), (0, .class_ 8), (0, u "java/lang/Long"), (7, .class_ 18), (1, u "java/lang/Long$LongCache"), (0, u "$assertionsDisabled"), (0, u "Z"), (8, u "archivedCache"), (0, u "[Ljava/lang/Long;"), (7, u "cache")] 24

def k9m0 : Method := { name := "<init>", desc := "()V", sig := { parameters := [], returnType := none }, accessFlags := 2, code := none }
/-- java/lang/Long$LongCache -/
def k9 : Class := { plain "java/lang/Long$LongCache" (some 0) with
  accessFlags := 48
  interfaces := #[]
  cf := some (fileOf pool9 16 #[.nestHost 7] #[{ accessFlags := 2, nameIndex := 5, descriptorIndex := 6, attributes := #[] }] 48 2 #[] #[{ accessFlags := 24, nameIndex := 38, descriptorIndex := 30, attributes := #[] }, { accessFlags := 8, nameIndex := 29, descriptorIndex := 30, attributes := #[] }, { accessFlags := 4120, nameIndex := 19, descriptorIndex := 20, attributes := #[] }])
  fields := #[{ name := "cache", type := (.array (.object "java/lang/Long")), accessFlags := 24, slot := 0, constantValue := 0 }, { name := "archivedCache", type := (.array (.object "java/lang/Long")), accessFlags := 8, slot := 1, constantValue := 0 }, { name := "$assertionsDisabled", type := .boolean, accessFlags := 4120, slot := 2, constantValue := 0 }]
  methods := #[k9m0]
  instanceTypes := #[]
  staticTypes := #[(.array (.object "java/lang/Long")), (.array (.object "java/lang/Long")), .boolean]
  resolved := Array.replicate 63 none
  statics := some 0 }

def pool10 : Array CpInfo := pool [(1, u "java/lang/Cloneable"), (0, .class_ 1), (0, u "java/lang/Object"), (0, .class_ 3)] 3

/-- java/lang/Cloneable -/
def k10 : Class := { plain "java/lang/Cloneable" (some 0) with
  accessFlags := 1537
  interfaces := #[]
  cf := some (fileOf pool10 2 #[] #[] 1537 4 #[] #[])
  fields := #[]
  methods := #[]
  instanceTypes := #[]
  staticTypes := #[]
  resolved := Array.replicate 8 none
  statics := none }

/-- the primitive byte -/
def k11 : Class := { plain "byte" none with kind := .primitive 'B', accessFlags := 0x411 }
/-- [B -/
def k12 : Class := { plain "[B" (some 0) with kind := .array 11 .byte, interfaces := #[10, 3], accessFlags := 1041 }

/-- the primitive int -/
def k13 : Class := { plain "int" none with kind := .primitive 'I', accessFlags := 0x411 }
/-- [I -/
def k14 : Class := { plain "[I" (some 0) with kind := .array 13 .int, interfaces := #[10, 3], accessFlags := 1041 }

/-- [Ljava/lang/Long; -/
def k15 : Class := { plain "[Ljava/lang/Long;" (some 0) with kind := .array 8 (.object "java/lang/Long"), interfaces := #[10, 3], accessFlags := 1041 }

def heap : Heap := #[{ cls := 9, slots := #[.ref 1, .null, .int 0], vm := .statics 9 },
  { cls := 15, slots := #[.ref 2, .ref 3, .ref 4, .ref 5, .ref 6, .ref 7, .ref 8, .ref 9, .ref 10, .ref 11, .ref 12, .ref 13, .ref 14, .ref 15, .ref 16, .ref 17, .ref 18, .ref 19, .ref 20, .ref 21, .ref 22, .ref 23, .ref 24, .ref 25, .ref 26, .ref 27, .ref 28, .ref 29, .ref 30, .ref 31, .ref 32, .ref 33, .ref 34, .ref 35, .ref 36, .ref 37, .ref 38, .ref 39, .ref 40, .ref 41, .ref 42, .ref 43, .ref 44, .ref 45, .ref 46, .ref 47, .ref 48, .ref 49, .ref 50, .ref 51, .ref 52, .ref 53, .ref 54, .ref 55, .ref 56, .ref 57, .ref 58, .ref 59, .ref 60, .ref 61, .ref 62, .ref 63, .ref 64, .ref 65, .ref 66, .ref 67, .ref 68, .ref 69, .ref 70, .ref 71, .ref 72, .ref 73, .ref 74, .ref 75, .ref 76, .ref 77, .ref 78, .ref 79, .ref 80, .ref 81, .ref 82, .ref 83, .ref 84, .ref 85, .ref 86, .ref 87, .ref 88, .ref 89, .ref 90, .ref 91, .ref 92, .ref 93, .ref 94, .ref 95, .ref 96, .ref 97, .ref 98, .ref 99, .ref 100, .ref 101, .ref 102, .ref 103, .ref 104, .ref 105, .ref 106, .ref 107, .ref 108, .ref 109, .ref 110, .ref 111, .ref 112, .ref 113, .ref 114, .ref 115, .ref 116, .ref 117, .ref 118, .ref 119, .ref 120, .ref 121, .ref 122, .ref 123, .ref 124, .ref 125, .ref 126, .ref 127, .ref 128, .ref 129, .ref 130, .ref 131, .ref 132, .ref 133, .ref 134, .ref 135, .ref 136, .ref 137, .ref 138, .ref 139, .ref 140, .ref 141, .ref 142, .ref 143, .ref 144, .ref 145, .ref 146, .ref 147, .ref 148, .ref 149, .ref 150, .ref 151, .ref 152, .ref 153, .ref 154, .ref 155, .ref 156, .ref 157, .ref 158, .ref 159, .ref 160, .ref 161, .ref 162, .ref 163, .ref 164, .ref 165, .ref 166, .ref 167, .ref 168, .ref 169, .ref 170, .ref 171, .ref 172, .ref 173, .ref 174, .ref 175, .ref 176, .ref 177, .ref 178, .ref 179, .ref 180, .ref 181, .ref 182, .ref 183, .ref 184, .ref 185, .ref 186, .ref 187, .ref 188, .ref 189, .ref 190, .ref 191, .ref 192, .ref 193, .ref 194, .ref 195, .ref 196, .ref 197, .ref 198, .ref 199, .ref 200, .ref 201, .ref 202, .ref 203, .ref 204, .ref 205, .ref 206, .ref 207, .ref 208, .ref 209, .ref 210, .ref 211, .ref 212, .ref 213, .ref 214, .ref 215, .ref 216, .ref 217, .ref 218, .ref 219, .ref 220, .ref 221, .ref 222, .ref 223, .ref 224, .ref 225, .ref 226, .ref 227, .ref 228, .ref 229, .ref 230, .ref 231, .ref 232, .ref 233, .ref 234, .ref 235, .ref 236, .ref 237, .ref 238, .ref 239, .ref 240, .ref 241, .ref 242, .ref 243, .ref 244, .ref 245, .ref 246, .ref 247, .ref 248, .ref 249, .ref 250, .ref 251, .ref 252, .ref 253, .ref 254, .ref 255, .ref 256, .ref 257], vm := .none },
  { cls := 8, slots := #[.long (-128)], vm := .none },
  { cls := 8, slots := #[.long (-127)], vm := .none },
  { cls := 8, slots := #[.long (-126)], vm := .none },
  { cls := 8, slots := #[.long (-125)], vm := .none },
  { cls := 8, slots := #[.long (-124)], vm := .none },
  { cls := 8, slots := #[.long (-123)], vm := .none },
  { cls := 8, slots := #[.long (-122)], vm := .none },
  { cls := 8, slots := #[.long (-121)], vm := .none },
  { cls := 8, slots := #[.long (-120)], vm := .none },
  { cls := 8, slots := #[.long (-119)], vm := .none },
  { cls := 8, slots := #[.long (-118)], vm := .none },
  { cls := 8, slots := #[.long (-117)], vm := .none },
  { cls := 8, slots := #[.long (-116)], vm := .none },
  { cls := 8, slots := #[.long (-115)], vm := .none },
  { cls := 8, slots := #[.long (-114)], vm := .none },
  { cls := 8, slots := #[.long (-113)], vm := .none },
  { cls := 8, slots := #[.long (-112)], vm := .none },
  { cls := 8, slots := #[.long (-111)], vm := .none },
  { cls := 8, slots := #[.long (-110)], vm := .none },
  { cls := 8, slots := #[.long (-109)], vm := .none },
  { cls := 8, slots := #[.long (-108)], vm := .none },
  { cls := 8, slots := #[.long (-107)], vm := .none },
  { cls := 8, slots := #[.long (-106)], vm := .none },
  { cls := 8, slots := #[.long (-105)], vm := .none },
  { cls := 8, slots := #[.long (-104)], vm := .none },
  { cls := 8, slots := #[.long (-103)], vm := .none },
  { cls := 8, slots := #[.long (-102)], vm := .none },
  { cls := 8, slots := #[.long (-101)], vm := .none },
  { cls := 8, slots := #[.long (-100)], vm := .none },
  { cls := 8, slots := #[.long (-99)], vm := .none },
  { cls := 8, slots := #[.long (-98)], vm := .none },
  { cls := 8, slots := #[.long (-97)], vm := .none },
  { cls := 8, slots := #[.long (-96)], vm := .none },
  { cls := 8, slots := #[.long (-95)], vm := .none },
  { cls := 8, slots := #[.long (-94)], vm := .none },
  { cls := 8, slots := #[.long (-93)], vm := .none },
  { cls := 8, slots := #[.long (-92)], vm := .none },
  { cls := 8, slots := #[.long (-91)], vm := .none },
  { cls := 8, slots := #[.long (-90)], vm := .none },
  { cls := 8, slots := #[.long (-89)], vm := .none },
  { cls := 8, slots := #[.long (-88)], vm := .none },
  { cls := 8, slots := #[.long (-87)], vm := .none },
  { cls := 8, slots := #[.long (-86)], vm := .none },
  { cls := 8, slots := #[.long (-85)], vm := .none },
  { cls := 8, slots := #[.long (-84)], vm := .none },
  { cls := 8, slots := #[.long (-83)], vm := .none },
  { cls := 8, slots := #[.long (-82)], vm := .none },
  { cls := 8, slots := #[.long (-81)], vm := .none },
  { cls := 8, slots := #[.long (-80)], vm := .none },
  { cls := 8, slots := #[.long (-79)], vm := .none },
  { cls := 8, slots := #[.long (-78)], vm := .none },
  { cls := 8, slots := #[.long (-77)], vm := .none },
  { cls := 8, slots := #[.long (-76)], vm := .none },
  { cls := 8, slots := #[.long (-75)], vm := .none },
  { cls := 8, slots := #[.long (-74)], vm := .none },
  { cls := 8, slots := #[.long (-73)], vm := .none },
  { cls := 8, slots := #[.long (-72)], vm := .none },
  { cls := 8, slots := #[.long (-71)], vm := .none },
  { cls := 8, slots := #[.long (-70)], vm := .none },
  { cls := 8, slots := #[.long (-69)], vm := .none },
  { cls := 8, slots := #[.long (-68)], vm := .none },
  { cls := 8, slots := #[.long (-67)], vm := .none },
  { cls := 8, slots := #[.long (-66)], vm := .none },
  { cls := 8, slots := #[.long (-65)], vm := .none },
  { cls := 8, slots := #[.long (-64)], vm := .none },
  { cls := 8, slots := #[.long (-63)], vm := .none },
  { cls := 8, slots := #[.long (-62)], vm := .none },
  { cls := 8, slots := #[.long (-61)], vm := .none },
  { cls := 8, slots := #[.long (-60)], vm := .none },
  { cls := 8, slots := #[.long (-59)], vm := .none },
  { cls := 8, slots := #[.long (-58)], vm := .none },
  { cls := 8, slots := #[.long (-57)], vm := .none },
  { cls := 8, slots := #[.long (-56)], vm := .none },
  { cls := 8, slots := #[.long (-55)], vm := .none },
  { cls := 8, slots := #[.long (-54)], vm := .none },
  { cls := 8, slots := #[.long (-53)], vm := .none },
  { cls := 8, slots := #[.long (-52)], vm := .none },
  { cls := 8, slots := #[.long (-51)], vm := .none },
  { cls := 8, slots := #[.long (-50)], vm := .none },
  { cls := 8, slots := #[.long (-49)], vm := .none },
  { cls := 8, slots := #[.long (-48)], vm := .none },
  { cls := 8, slots := #[.long (-47)], vm := .none },
  { cls := 8, slots := #[.long (-46)], vm := .none },
  { cls := 8, slots := #[.long (-45)], vm := .none },
  { cls := 8, slots := #[.long (-44)], vm := .none },
  { cls := 8, slots := #[.long (-43)], vm := .none },
  { cls := 8, slots := #[.long (-42)], vm := .none },
  { cls := 8, slots := #[.long (-41)], vm := .none },
  { cls := 8, slots := #[.long (-40)], vm := .none },
  { cls := 8, slots := #[.long (-39)], vm := .none },
  { cls := 8, slots := #[.long (-38)], vm := .none },
  { cls := 8, slots := #[.long (-37)], vm := .none },
  { cls := 8, slots := #[.long (-36)], vm := .none },
  { cls := 8, slots := #[.long (-35)], vm := .none },
  { cls := 8, slots := #[.long (-34)], vm := .none },
  { cls := 8, slots := #[.long (-33)], vm := .none },
  { cls := 8, slots := #[.long (-32)], vm := .none },
  { cls := 8, slots := #[.long (-31)], vm := .none },
  { cls := 8, slots := #[.long (-30)], vm := .none },
  { cls := 8, slots := #[.long (-29)], vm := .none },
  { cls := 8, slots := #[.long (-28)], vm := .none },
  { cls := 8, slots := #[.long (-27)], vm := .none },
  { cls := 8, slots := #[.long (-26)], vm := .none },
  { cls := 8, slots := #[.long (-25)], vm := .none },
  { cls := 8, slots := #[.long (-24)], vm := .none },
  { cls := 8, slots := #[.long (-23)], vm := .none },
  { cls := 8, slots := #[.long (-22)], vm := .none },
  { cls := 8, slots := #[.long (-21)], vm := .none },
  { cls := 8, slots := #[.long (-20)], vm := .none },
  { cls := 8, slots := #[.long (-19)], vm := .none },
  { cls := 8, slots := #[.long (-18)], vm := .none },
  { cls := 8, slots := #[.long (-17)], vm := .none },
  { cls := 8, slots := #[.long (-16)], vm := .none },
  { cls := 8, slots := #[.long (-15)], vm := .none },
  { cls := 8, slots := #[.long (-14)], vm := .none },
  { cls := 8, slots := #[.long (-13)], vm := .none },
  { cls := 8, slots := #[.long (-12)], vm := .none },
  { cls := 8, slots := #[.long (-11)], vm := .none },
  { cls := 8, slots := #[.long (-10)], vm := .none },
  { cls := 8, slots := #[.long (-9)], vm := .none },
  { cls := 8, slots := #[.long (-8)], vm := .none },
  { cls := 8, slots := #[.long (-7)], vm := .none },
  { cls := 8, slots := #[.long (-6)], vm := .none },
  { cls := 8, slots := #[.long (-5)], vm := .none },
  { cls := 8, slots := #[.long (-4)], vm := .none },
  { cls := 8, slots := #[.long (-3)], vm := .none },
  { cls := 8, slots := #[.long (-2)], vm := .none },
  { cls := 8, slots := #[.long (-1)], vm := .none },
  { cls := 8, slots := #[.long (0)], vm := .none },
  { cls := 8, slots := #[.long (1)], vm := .none },
  { cls := 8, slots := #[.long (2)], vm := .none },
  { cls := 8, slots := #[.long (3)], vm := .none },
  { cls := 8, slots := #[.long (4)], vm := .none },
  { cls := 8, slots := #[.long (5)], vm := .none },
  { cls := 8, slots := #[.long (6)], vm := .none },
  { cls := 8, slots := #[.long (7)], vm := .none },
  { cls := 8, slots := #[.long (8)], vm := .none },
  { cls := 8, slots := #[.long (9)], vm := .none },
  { cls := 8, slots := #[.long (10)], vm := .none },
  { cls := 8, slots := #[.long (11)], vm := .none },
  { cls := 8, slots := #[.long (12)], vm := .none },
  { cls := 8, slots := #[.long (13)], vm := .none },
  { cls := 8, slots := #[.long (14)], vm := .none },
  { cls := 8, slots := #[.long (15)], vm := .none },
  { cls := 8, slots := #[.long (16)], vm := .none },
  { cls := 8, slots := #[.long (17)], vm := .none },
  { cls := 8, slots := #[.long (18)], vm := .none },
  { cls := 8, slots := #[.long (19)], vm := .none },
  { cls := 8, slots := #[.long (20)], vm := .none },
  { cls := 8, slots := #[.long (21)], vm := .none },
  { cls := 8, slots := #[.long (22)], vm := .none },
  { cls := 8, slots := #[.long (23)], vm := .none },
  { cls := 8, slots := #[.long (24)], vm := .none },
  { cls := 8, slots := #[.long (25)], vm := .none },
  { cls := 8, slots := #[.long (26)], vm := .none },
  { cls := 8, slots := #[.long (27)], vm := .none },
  { cls := 8, slots := #[.long (28)], vm := .none },
  { cls := 8, slots := #[.long (29)], vm := .none },
  { cls := 8, slots := #[.long (30)], vm := .none },
  { cls := 8, slots := #[.long (31)], vm := .none },
  { cls := 8, slots := #[.long (32)], vm := .none },
  { cls := 8, slots := #[.long (33)], vm := .none },
  { cls := 8, slots := #[.long (34)], vm := .none },
  { cls := 8, slots := #[.long (35)], vm := .none },
  { cls := 8, slots := #[.long (36)], vm := .none },
  { cls := 8, slots := #[.long (37)], vm := .none },
  { cls := 8, slots := #[.long (38)], vm := .none },
  { cls := 8, slots := #[.long (39)], vm := .none },
  { cls := 8, slots := #[.long (40)], vm := .none },
  { cls := 8, slots := #[.long (41)], vm := .none },
  { cls := 8, slots := #[.long (42)], vm := .none },
  { cls := 8, slots := #[.long (43)], vm := .none },
  { cls := 8, slots := #[.long (44)], vm := .none },
  { cls := 8, slots := #[.long (45)], vm := .none },
  { cls := 8, slots := #[.long (46)], vm := .none },
  { cls := 8, slots := #[.long (47)], vm := .none },
  { cls := 8, slots := #[.long (48)], vm := .none },
  { cls := 8, slots := #[.long (49)], vm := .none },
  { cls := 8, slots := #[.long (50)], vm := .none },
  { cls := 8, slots := #[.long (51)], vm := .none },
  { cls := 8, slots := #[.long (52)], vm := .none },
  { cls := 8, slots := #[.long (53)], vm := .none },
  { cls := 8, slots := #[.long (54)], vm := .none },
  { cls := 8, slots := #[.long (55)], vm := .none },
  { cls := 8, slots := #[.long (56)], vm := .none },
  { cls := 8, slots := #[.long (57)], vm := .none },
  { cls := 8, slots := #[.long (58)], vm := .none },
  { cls := 8, slots := #[.long (59)], vm := .none },
  { cls := 8, slots := #[.long (60)], vm := .none },
  { cls := 8, slots := #[.long (61)], vm := .none },
  { cls := 8, slots := #[.long (62)], vm := .none },
  { cls := 8, slots := #[.long (63)], vm := .none },
  { cls := 8, slots := #[.long (64)], vm := .none },
  { cls := 8, slots := #[.long (65)], vm := .none },
  { cls := 8, slots := #[.long (66)], vm := .none },
  { cls := 8, slots := #[.long (67)], vm := .none },
  { cls := 8, slots := #[.long (68)], vm := .none },
  { cls := 8, slots := #[.long (69)], vm := .none },
  { cls := 8, slots := #[.long (70)], vm := .none },
  { cls := 8, slots := #[.long (71)], vm := .none },
  { cls := 8, slots := #[.long (72)], vm := .none },
  { cls := 8, slots := #[.long (73)], vm := .none },
  { cls := 8, slots := #[.long (74)], vm := .none },
  { cls := 8, slots := #[.long (75)], vm := .none },
  { cls := 8, slots := #[.long (76)], vm := .none },
  { cls := 8, slots := #[.long (77)], vm := .none },
  { cls := 8, slots := #[.long (78)], vm := .none },
  { cls := 8, slots := #[.long (79)], vm := .none },
  { cls := 8, slots := #[.long (80)], vm := .none },
  { cls := 8, slots := #[.long (81)], vm := .none },
  { cls := 8, slots := #[.long (82)], vm := .none },
  { cls := 8, slots := #[.long (83)], vm := .none },
  { cls := 8, slots := #[.long (84)], vm := .none },
  { cls := 8, slots := #[.long (85)], vm := .none },
  { cls := 8, slots := #[.long (86)], vm := .none },
  { cls := 8, slots := #[.long (87)], vm := .none },
  { cls := 8, slots := #[.long (88)], vm := .none },
  { cls := 8, slots := #[.long (89)], vm := .none },
  { cls := 8, slots := #[.long (90)], vm := .none },
  { cls := 8, slots := #[.long (91)], vm := .none },
  { cls := 8, slots := #[.long (92)], vm := .none },
  { cls := 8, slots := #[.long (93)], vm := .none },
  { cls := 8, slots := #[.long (94)], vm := .none },
  { cls := 8, slots := #[.long (95)], vm := .none },
  { cls := 8, slots := #[.long (96)], vm := .none },
  { cls := 8, slots := #[.long (97)], vm := .none },
  { cls := 8, slots := #[.long (98)], vm := .none },
  { cls := 8, slots := #[.long (99)], vm := .none },
  { cls := 8, slots := #[.long (100)], vm := .none },
  { cls := 8, slots := #[.long (101)], vm := .none },
  { cls := 8, slots := #[.long (102)], vm := .none },
  { cls := 8, slots := #[.long (103)], vm := .none },
  { cls := 8, slots := #[.long (104)], vm := .none },
  { cls := 8, slots := #[.long (105)], vm := .none },
  { cls := 8, slots := #[.long (106)], vm := .none },
  { cls := 8, slots := #[.long (107)], vm := .none },
  { cls := 8, slots := #[.long (108)], vm := .none },
  { cls := 8, slots := #[.long (109)], vm := .none },
  { cls := 8, slots := #[.long (110)], vm := .none },
  { cls := 8, slots := #[.long (111)], vm := .none },
  { cls := 8, slots := #[.long (112)], vm := .none },
  { cls := 8, slots := #[.long (113)], vm := .none },
  { cls := 8, slots := #[.long (114)], vm := .none },
  { cls := 8, slots := #[.long (115)], vm := .none },
  { cls := 8, slots := #[.long (116)], vm := .none },
  { cls := 8, slots := #[.long (117)], vm := .none },
  { cls := 8, slots := #[.long (118)], vm := .none },
  { cls := 8, slots := #[.long (119)], vm := .none },
  { cls := 8, slots := #[.long (120)], vm := .none },
  { cls := 8, slots := #[.long (121)], vm := .none },
  { cls := 8, slots := #[.long (122)], vm := .none },
  { cls := 8, slots := #[.long (123)], vm := .none },
  { cls := 8, slots := #[.long (124)], vm := .none },
  { cls := 8, slots := #[.long (125)], vm := .none },
  { cls := 8, slots := #[.long (126)], vm := .none },
  { cls := 8, slots := #[.long (127)], vm := .none }]
def classes : Array Class := #[k0, k1, k2, k3, k4, k5, k6, k7, k8, k9, k10, k11, k12, k13, k14, k15]
def interned : List (Array UInt16 × Addr) := []
def slotsUsed : Nat := 515
def theMethod : MethodId := ⟨1, 1⟩
def args0 : Array Value := #[.long 1, .long 2, .int 5]
def aboutOver (below : List Frame) : State where
  vm := { classes := classes, interned := interned.toArray }
  heap := heap
  slotsUsed := slotsUsed
  threads := #[{ frames := .invoking theMethod args0 :: below }]
def below0 : List Frame := [.native { method := ⟨0, 0⟩, args := #[] }]
def about1 : State := aboutOver below0
def p0 : Program := .bare "" "" ""
def e0 : Env := launch0.env 0 0 0
theorem w_frames : about1.frames = Frame.invoking theMethod args0 :: below0 := rfl
set_option maxRecDepth 65536 in
theorem w_args : argsFit about1.vm theMethod args0 = true := by decide +kernel
set_option maxRecDepth 65536 in
theorem w_heap : heapFits about1 = true := by decide +kernel
set_option maxRecDepth 65536 in
theorem w_runnable : about1.curStatus? = some .runnable := by decide +kernel
set_option maxRecDepth 65536 in
theorem w_alone : about1.alone = true := by decide +kernel
set_option maxRecDepth 65536 in
theorem w_named : about1.methodNamed? x = some theMethod := by decide +kernel
set_option maxRecDepth 65536 in
theorem w_hears : about1.hears theMethod below0 = true := by decide +kernel
set_option maxRecDepth 65536 in
theorem w_ripe : about1.ripe theMethod args0 below0 = true := by decide +kernel
theorem w_running : about1.status = .running := rfl
set_option maxRecDepth 65536 in
theorem w_room : about1.hasRoom e0.platform room_1 = true :=
  launch0.hasRoom_least _ room_1 (by decide +kernel) (by decide +kernel) (by decide +kernel) (by decide +kernel) (by decide +kernel) (by decide +kernel)
theorem allAtoms_all (ts : List Jvm.Cond) (a : Array Jvm.Value) (st : Jvm.State) : (allAtoms ts).before a st = ts.all (fun c => c.before a st) := by
  induction ts with
  | nil => rfl
  | cons c t ih =>
    show (Jvm.Cond.and c (allAtoms t)).before a st = _
    rw [Jvm.Cond.before_and, ih, List.all_cons]
def words1 : List Jvm.Cond := Jvm.Cond.code x code maxLocals ret :: tables_1
/-- a 'code' word, met by the world's own term for the bytes: nothing is compared byte by byte -/
theorem code_word {y : MethodName} {bytes : ByteArray} {mx : Nat} {rt : Option FieldType} {a : Array Value} {s : State} {m : MethodId} {meth : Method} {c : Code} (h1 : s.methodNamed? y = some m) (h2 : s.vm.method? m = some meth) (h3 : meth.code = some c) (h4 : c.code = bytes)
    (h5 : (c.maxLocals == mx && c.exceptionTable.isEmpty && decide (c.maxStack ≤ mostOperands) && decide (meth.sig.returnType = rt) && !meth.locks && decide (parseMethodDescriptor y.desc = some meth.sig)) = true) : (Jvm.Cond.code y bytes mx rt).before a s = true := by
  simp only [Bool.and_eq_true, beq_iff_eq, Bool.not_eq_true', decide_eq_true_eq] at h5
  obtain ⟨⟨⟨⟨⟨g1, g2⟩, g3⟩, g4⟩, g5⟩, g6⟩ := h5
  simp [Cond.before, Cond.holds, Cond.value, h1, h2, h3, h4, g1, g2, g3, g4, g5, g6]
def isCode : Jvm.Cond → Bool
  | .code _ _ _ _ => true
  | _ => false
theorem all_split {L : List Jvm.Cond} {P : Jvm.Cond → Bool} (h1 : L.all (fun c => isCode c || P c) = true) (h2 : ∀ c ∈ L.filter isCode, P c = true) : L.all P = true := by
  refine List.all_eq_true.mpr fun c hc => ?_
  have h := List.all_eq_true.mp h1 c hc
  rcases Bool.eq_false_or_eq_true (isCode c) with hi | hi
  · exact h2 c (List.mem_filter.mpr ⟨hc, hi⟩)
  · simpa [hi] using h
set_option maxRecDepth 65536 in
theorem w_c0 : (Jvm.Cond.code x code maxLocals ret).before args0 about1 = true := code_word (m := ⟨1, 1⟩) (meth := k1m1) (c := k1c1) (by decide +kernel) rfl rfl rfl (by decide +kernel)
set_option maxRecDepth 65536 in
theorem w_c1 : (Jvm.Cond.code ({ cls := "com/example/tight_fence/tightfence/engine/TemporalValue", name := "<init>", desc := "(JZ)V" } : Jvm.MethodName) prog_84_method_1_code (4 : Nat) (Option.none : Option Jvm.ClassFile.FieldType)).before args0 about1 = true := code_word (m := ⟨2, 0⟩) (meth := k2m0) (c := k2c0) (by decide +kernel) rfl rfl rfl (by decide +kernel)
set_option maxRecDepth 65536 in
theorem w_c2 : (Jvm.Cond.code ({ cls := "java/lang/Object", name := "<init>", desc := "()V" } : Jvm.MethodName) object_method_1_code (1 : Nat) (Option.none : Option Jvm.ClassFile.FieldType)).before args0 about1 = true := code_word (m := ⟨0, 0⟩) (meth := k0m0) (c := k0c0) (by decide +kernel) rfl rfl rfl (by decide +kernel)
set_option maxRecDepth 65536 in
theorem w_c3 : (Jvm.Cond.code ({ cls := "com/example/tight_fence/tightfence/engine/TemporalValue", name := "equals", desc := "(Ljava/lang/Object;)Z" } : Jvm.MethodName) prog_84_method_5_code (2 : Nat) (Option.some Jvm.ClassFile.FieldType.boolean)).before args0 about1 = true := code_word (m := ⟨2, 1⟩) (meth := k2m1) (c := k2c1) (by decide +kernel) rfl rfl rfl (by decide +kernel)
set_option maxRecDepth 65536 in
theorem w_c4 : (Jvm.Cond.code ({ cls := "java/lang/Long", name := "valueOf", desc := "(J)Ljava/lang/Long;" } : Jvm.MethodName) jdk_35_method_24_code (3 : Nat) (Option.some (Jvm.ClassFile.FieldType.object "java/lang/Long"))).before args0 about1 = true := code_word (m := ⟨8, 0⟩) (meth := k8m0) (c := k8c0) (by decide +kernel) rfl rfl rfl (by decide +kernel)
set_option maxRecDepth 65536 in
theorem w_c5 : (Jvm.Cond.code ({ cls := "java/lang/Long", name := "<init>", desc := "(J)V" } : Jvm.MethodName) jdk_35_method_26_code (3 : Nat) (Option.none : Option Jvm.ClassFile.FieldType)).before args0 about1 = true := code_word (m := ⟨8, 1⟩) (meth := k8m1) (c := k8c1) (by decide +kernel) rfl rfl rfl (by decide +kernel)
set_option maxRecDepth 65536 in
theorem w_c6 : (Jvm.Cond.code ({ cls := "java/lang/Number", name := "<init>", desc := "()V" } : Jvm.MethodName) jdk_18_method_1_code (1 : Nat) (Option.none : Option Jvm.ClassFile.FieldType)).before args0 about1 = true := code_word (m := ⟨4, 0⟩) (meth := k4m0) (c := k4c0) (by decide +kernel) rfl rfl rfl (by decide +kernel)
def codes1 : List Jvm.Cond := [Jvm.Cond.code x code maxLocals ret, Jvm.Cond.code ({ cls := "com/example/tight_fence/tightfence/engine/TemporalValue", name := "<init>", desc := "(JZ)V" } : Jvm.MethodName) prog_84_method_1_code (4 : Nat) (Option.none : Option Jvm.ClassFile.FieldType), Jvm.Cond.code ({ cls := "java/lang/Object", name := "<init>", desc := "()V" } : Jvm.MethodName) object_method_1_code (1 : Nat) (Option.none : Option Jvm.ClassFile.FieldType), Jvm.Cond.code ({ cls := "com/example/tight_fence/tightfence/engine/TemporalValue", name := "equals", desc := "(Ljava/lang/Object;)Z" } : Jvm.MethodName) prog_84_method_5_code (2 : Nat) (Option.some Jvm.ClassFile.FieldType.boolean), Jvm.Cond.code ({ cls := "java/lang/Long", name := "valueOf", desc := "(J)Ljava/lang/Long;" } : Jvm.MethodName) jdk_35_method_24_code (3 : Nat) (Option.some (Jvm.ClassFile.FieldType.object "java/lang/Long")), Jvm.Cond.code ({ cls := "java/lang/Long", name := "<init>", desc := "(J)V" } : Jvm.MethodName) jdk_35_method_26_code (3 : Nat) (Option.none : Option Jvm.ClassFile.FieldType), Jvm.Cond.code ({ cls := "java/lang/Number", name := "<init>", desc := "()V" } : Jvm.MethodName) jdk_18_method_1_code (1 : Nat) (Option.none : Option Jvm.ClassFile.FieldType)]
set_option maxRecDepth 65536 in
theorem codes_eq : words1.filter isCode = codes1 := rfl
theorem w_codes : ∀ c ∈ words1.filter isCode, c.before args0 about1 = true := by
  rw [codes_eq]
  intro c hc
  simp only [codes1, List.mem_cons, List.not_mem_nil, or_false] at hc
  rcases hc with rfl | rfl | rfl | rfl | rfl | rfl | rfl
  · exact w_c0
  · exact w_c1
  · exact w_c2
  · exact w_c3
  · exact w_c4
  · exact w_c5
  · exact w_c6
set_option maxRecDepth 65536 in
theorem w_t1 : (words1.take 24).all (fun c => isCode c || c.before args0 about1) = true := by decide +kernel
set_option maxRecDepth 65536 in
theorem w_t2 : (words1.drop 24).all (fun c => isCode c || c.before args0 about1) = true := by decide +kernel
theorem w_tables : (allAtoms (Jvm.Cond.code x code maxLocals ret :: tables_1)).before args0 about1 = true := by
  rw [allAtoms_all]
  show words1.all (fun c => c.before args0 about1) = true
  refine all_split ?_ w_codes
  rw [← List.take_append_drop 24 words1, List.all_append, w_t1, w_t2]
  rfl
set_option maxRecDepth 65536 in
theorem w_rest : rest_1_c.before args0 about1 = true := by decide +kernel
set_option maxRecDepth 65536 in
theorem w_case : (Jvm.Cond.and given_1 narrow_1).before args0 about1 = true := by decide +kernel
theorem w_applies : (headSpec (Jvm.Cond.code x code maxLocals ret :: tables_1) room_1).applies x e0.platform about1 = true :=
  (Spec.applies_iff w_frames).mpr ⟨w_running, w_runnable, w_alone, w_named, w_hears, w_ripe, w_room, w_tables⟩
theorem atStart : AtStart classFile x code maxLocals ret World_1 tables_1 room_1 Calls_1 rest_1 Pre_1 launch0 p0 e0 about1 theMethod args0 below0 :=
  ⟨lists_1, trivial, launch0.admits_env _ _ _, launch0.least_env, fairChoices_fair.cas, fairChoices_fair.clock, w_frames, w_args, w_heap, w_applies, trivial, w_rest, w_case⟩
end start1
theorem witness_1 : WitnessClaimed_1 := ⟨start1.p0, start1.e0, start1.about1, start1.theMethod, start1.args0, start1.below0, start1.atStart⟩
end Jvm.Pilot.@@N@@
