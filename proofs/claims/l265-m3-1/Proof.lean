import JvmDerived
import JvmDerived.Pilot.@@N@@Statement
import JvmDerived.Pilot.@@N@@Code
set_option linter.unusedVariables false
set_option linter.unusedSimpArgs false
namespace Jvm.Pilot.@@N@@
open Jvm Jvm.ClassFile Sem Op Lib Jvm.Free Jvm.Stand Jvm.LawKit Jvm.RoadKit Bundle Jvm.Pilot.@@N@@.Jvm.D
theorem own_w {a0 : Array Value} {Z : State} (hw : ∀ d ∈ tables_1, d.before a0 Z = true) (i : Nat) {d : Jvm.Cond} (h : tables_1[i]? = some d) : d.before a0 Z = true := hw d (List.mem_of_getElem? h)
section Own
variable {p : Program} {l : Launch} {e : Env} {R : Room} {s : State} {m : MethodId} {args : Array Value} {below : List Frame} {meth : Method} {c : Code} {T T' : State} {locs : List Loc} {cells slots : Nat} {g g' : JFrame} {K : Outcome → State → Prop} {Q : Option Value → Heap → List Loc → Prop} {kc ks : Nat}
/-- from this state, with this frame on top, the run comes to an end at which K holds -/
def own_E (p : Program) (e : Env) (below : List Frame) (K : Outcome → State → Prop) (T : State) (g : JFrame) : Prop :=
  ∃ s₂ o, Steps p.tables e below (T.setTop g) s₂ ∧ s₂.status = .running ∧ Ended s₂ below o ∧ K o s₂
def own_K (Q : Option Value → Heap → List Loc → Prop) (s : State) (kc ks : Nat) : Outcome → State → Prop :=
  fun o U' => ∃ v L, o = .returned v ∧ Q v U'.heap L ∧ FrameEnd s o U' L kc ks
theorem own_st (st : ∀ t, Steps p.tables e below (T'.setTop g') t → Steps p.tables e below (T.setTop g) t) (k : own_E p e below K T' g') : own_E p e below K T g := by
  obtain ⟨s2, o, h1, h2⟩ := k
  exact ⟨s2, o, st _ h1, h2⟩
theorem own_tr (st : Steps p.tables e below (T.setTop g) (T'.setTop g')) (k : own_E p e below K T' g') : own_E p e below K T g :=
  own_st (fun _ h => st.trans h) k
theorem own_pre (q : g = g') (k : own_E p e below K T g') : own_E p e below K T g := q ▸ k
theorem own_end (X : Stand p l e R s m args below meth c T locs cells slots) (hlk : meth.locks = false) {v : Option Value} (hv : meth.sig.returnType = none → v = none)
    (hr : ∀ fs : List Frame, (∀ (f : JFrame) (acts : List Action), f.method = m → f.locked = none → f.entered = [] → (doReturn e (T.setTop f) acts v).1 = T.setFrames fs) → Steps p.tables e below (T.setTop g) (T.setFrames fs))
    (hc : cells ≤ kc) (hs : slots ≤ ks) (hQ : Q v T.heap locs) : own_E p e below (own_K Q s kc ks) T g := by
  obtain ⟨fs, h1, hrun, hended, hW, hsame⟩ := X.leave (v := v) hv hlk
  exact ⟨_, _, hr fs h1, hrun, hended, _, _, rfl, hQ, ⟨_, rfl⟩, hW, hsame.mono hc hs⟩
theorem own_retV (X : Stand p l e R s m args below meth c T locs cells slots) (hx : p.tables.exec = Jvm.exec) (hlk : meth.locks = false) {pc : Nat} {Ls : Array Slot} (hret : meth.sig.returnType = none)
    (hd : decode c.code pc = .ok (.return_, 1)) (hc : cells ≤ kc) (hs : slots ≤ ks) (hQ : Q none T.heap locs) : own_E p e below (own_K Q s kc ks) T (mkF m pc Ls []) :=
  own_end X hlk (fun _ => rfl) (fun fs h => X.returnOut hx hret hd h) hc hs hQ
theorem own_retG (X : Stand p l e R s m args below meth c T locs cells slots) (hx : p.tables.exec = Jvm.exec) (hlk : meth.locks = false) {pc : Nat} {Ls : Array Slot} {w : Value} {t : FieldType} {i : Instr} {rest : List Value} (hret : meth.sig.returnType = some t) (hn : narrow t w = w)
    (hi : (i = .ireturn ∧ (t = .int ∨ t = .boolean ∨ t = .byte ∨ t = .char ∨ t = .short) ∧ ∃ z, w = .int z) ∨ (i = .lreturn ∧ t = .long ∧ ∃ z, w = .long z) ∨ (i = .dreturn ∧ t = .double ∧ ∃ z, w = .double z) ∨ (i = .freturn ∧ t = .float ∧ ∃ z, w = .float z) ∨ (i = .areturn ∧ t.isReference = true ∧ w.isRef = true))
    (hd : decode c.code pc = .ok (i, 1)) (hc : cells ≤ kc) (hs : slots ≤ ks) (hQ : Q (some w) T.heap locs) : own_E p e below (own_K Q s kc ks) T (mkF m pc Ls (w :: rest)) :=
  own_end X hlk (fun h => by rw [hret] at h; cases h) (fun fs h => retOut X hx hret hn hi hd h) hc hs hQ
theorem own_retI (X : Stand p l e R s m args below meth c T locs cells slots) (hx : p.tables.exec = Jvm.exec) (hlk : meth.locks = false) {pc : Nat} {Ls : Array Slot} {z : Int32} {rest : List Value} (hret : meth.sig.returnType = some .int)
    (hd : decode c.code pc = .ok (.ireturn, 1)) (hc : cells ≤ kc) (hs : slots ≤ ks) (hQ : Q (some (.int z)) T.heap locs) : own_E p e below (own_K Q s kc ks) T (mkF m pc Ls (.int z :: rest)) :=
  own_retG X hx hlk hret rfl (Or.inl ⟨rfl, Or.inl rfl, z, rfl⟩) hd hc hs hQ
theorem own_retS (X : Stand p l e R s m args below meth c T locs cells slots) (hx : p.tables.exec = Jvm.exec) (hlk : meth.locks = false) {pc : Nat} {Ls : Array Slot} {z : Int32} {t : FieldType} {rest : List Value} (hret : meth.sig.returnType = some t) (hn : narrow t (.int z) = .int z)
    (ht : t = .int ∨ t = .boolean ∨ t = .byte ∨ t = .char ∨ t = .short) (hd : decode c.code pc = .ok (.ireturn, 1)) (hc : cells ≤ kc) (hs : slots ≤ ks) (hQ : Q (some (.int z)) T.heap locs) : own_E p e below (own_K Q s kc ks) T (mkF m pc Ls (.int z :: rest)) :=
  own_retG X hx hlk hret hn (Or.inl ⟨rfl, ht, z, rfl⟩) hd hc hs hQ
theorem own_retN (X : Stand p l e R s m args below meth c T locs cells slots) (hx : p.tables.exec = Jvm.exec) (hlk : meth.locks = false) {pc : Nat} {Ls : Array Slot} {z : Int32} {t : FieldType} {rest : List Value} (hret : meth.sig.returnType = some t)
    (ht : t = .boolean ∨ t = .byte ∨ t = .char ∨ t = .short) (hd : decode c.code pc = .ok (.ireturn, 1)) (hc : cells ≤ kc) (hs : slots ≤ ks) (hQ : Q (some (.int (nar t z))) T.heap locs) : own_E p e below (own_K Q s kc ks) T (mkF m pc Ls (.int z :: rest)) :=
  own_end X hlk (fun h => by rw [hret] at h; cases h) (fun fs h => retN X hx hret ht hd h) hc hs hQ
theorem own_retJ (X : Stand p l e R s m args below meth c T locs cells slots) (hx : p.tables.exec = Jvm.exec) (hlk : meth.locks = false) {pc : Nat} {Ls : Array Slot} {z : Int64} {rest : List Value} (hret : meth.sig.returnType = some .long)
    (hd : decode c.code pc = .ok (.lreturn, 1)) (hc : cells ≤ kc) (hs : slots ≤ ks) (hQ : Q (some (.long z)) T.heap locs) : own_E p e below (own_K Q s kc ks) T (mkF m pc Ls (.long z :: rest)) :=
  own_retG X hx hlk hret rfl (Or.inr (Or.inl ⟨rfl, rfl, z, rfl⟩)) hd hc hs hQ
theorem own_retD (X : Stand p l e R s m args below meth c T locs cells slots) (hx : p.tables.exec = Jvm.exec) (hlk : meth.locks = false) {pc : Nat} {Ls : Array Slot} {z : UInt64} {rest : List Value} (hret : meth.sig.returnType = some .double)
    (hd : decode c.code pc = .ok (.dreturn, 1)) (hc : cells ≤ kc) (hs : slots ≤ ks) (hQ : Q (some (.double z)) T.heap locs) : own_E p e below (own_K Q s kc ks) T (mkF m pc Ls (.double z :: rest)) :=
  own_retG X hx hlk hret rfl (Or.inr (Or.inr (Or.inl ⟨rfl, rfl, z, rfl⟩))) hd hc hs hQ
theorem own_retA (X : Stand p l e R s m args below meth c T locs cells slots) (hx : p.tables.exec = Jvm.exec) (hlk : meth.locks = false) {pc : Nat} {Ls : Array Slot} {w : Value} {t : FieldType} {rest : List Value} (hret : meth.sig.returnType = some t) (ht : t.isReference = true) (hw : w.isRef = true)
    (hd : decode c.code pc = .ok (.areturn, 1)) (hc : cells ≤ kc) (hs : slots ≤ ks) (hQ : Q (some w) T.heap locs) : own_E p e below (own_K Q s kc ks) T (mkF m pc Ls (w :: rest)) :=
  own_retG X hx hlk hret (by cases w <;> cases t <;> first | rfl | (simp [Value.isRef] at hw) | (simp [FieldType.isReference] at ht)) (Or.inr (Or.inr (Or.inr (Or.inr ⟨rfl, ht, hw⟩)))) hd hc hs hQ
end Own
theorem own_StaK {Z : State} {h h' : Heap} {C n d : String} {v : Value} (F : Sta Z h C n d v) (K : Keep h h' []) : Sta Z h' C n d v := Sta.ext ⟨K.1, fun a c q => K.2.1 a c q nin0⟩ F
section OwnArr
variable {p : Program} {l : Launch} {e : Env} {R : Room} {s : State} {m : MethodId} {args : Array Value} {below : List Frame} {meth : Method} {c : Code} {T : State} {locs : List Loc} {cells slots : Nat} {Z : State} {h : Heap} {a : Addr} {k : ClassId} {z : Int32} {vs : List Value} {dv : Value}
theorem own_alen (X : Stand p l e R s m args below meth c T locs cells slots) (hx : p.tables.exec = Jvm.exec) (hZ : Z.Warmed39 s.vm) (eT : T.heap = h) {ty : FieldType} (F : Arv Z h a k ty z vs dv) {g : JFrame} (hg : g.method = m) {rest : List Value} (hs : g.stack = .ref a :: rest) (hd : decode c.code g.pc = .ok (.arraylength, 1)) :
    ∀ target, Steps p.tables e below (T.setTop { g with pc := g.pc + 1, stack := .int z :: rest }) target → Steps p.tables e below (T.setTop g) target := by
  obtain ⟨cl, A, q, S, N, H, G⟩ := F
  intro target hr
  refine X.arraylength hx (by rw [eT]; exact A.1) (State.isArrayOf_alike hZ.alike A.2.1) hg hs hd _ ?_
  rw [len_of S N]; exact hr
theorem own_ald (X : Stand p l e R s m args below meth c T locs cells slots) (hx : p.tables.exec = Jvm.exec) (hZ : Z.Warmed39 s.vm) (eT : T.heap = h) (F : Arv Z h a k .int z vs dv) {j : Int32} (hj : ¬ j < 0 ∧ j < z) {v : Value} (hv : vs.getD j.toNatClampNeg dv = v) {g : JFrame} (hg : g.method = m) {rest : List Value} (hs : g.stack = .int j :: .ref a :: rest) (hd : decode c.code g.pc = .ok (.iaload, 1)) :
    ∀ target, Steps p.tables e below (T.setTop { g with pc := g.pc + 1, stack := v :: rest }) target → Steps p.tables e below (T.setTop g) target := by
  obtain ⟨cl, A, q, S, N, H, G⟩ := F
  have hin := inb_of S hj
  exact X.iaload hx (by rw [eT]; exact A.1) (State.isArrayOf_alike hZ.alike A.2.1) A.2.2 hin (H.at hin hv) hg hs hd
theorem own_ast (X : Stand p l e R s m args below meth c T locs cells slots) (hx : p.tables.exec = Jvm.exec) (hZ : Z.Warmed39 s.vm) (eT : T.heap = h) (F : Arv Z h a k .int z vs dv) {j : Int32} (hj : ¬ j < 0 ∧ j < z) {x : Int32} {i : Nat} (hi : j.toNatClampNeg = i) (hl : i < vs.length) {g : JFrame} (hg : g.method = m) {rest : List Value} (hs : g.stack = .int x :: .int j :: .ref a :: rest) (hd : decode c.code g.pc = .ok (.iastore, 1)) :
    ∃ T' h', Stand p l e R s m args below meth c T' (locs ++ [⟨a, j.toNatClampNeg⟩]) cells slots ∧ T'.heap = h' ∧ Wr h h' a j.toNatClampNeg (.int x) ∧ Arv Z h' a k .int z (vs.set i (.int x)) dv ∧ ∀ target, Steps p.tables e below (T'.setTop { g with pc := g.pc + 1, stack := rest }) target → Steps p.tables e below (T.setTop g) target := by
  obtain ⟨cl, A, q, S, N, H, G⟩ := F
  have hin := inb_of S hj
  obtain ⟨T', h', X', e', W, st⟩ := stI X hx hZ eT A hin hg hs hd
  exact ⟨T', h', X', e', W, Arv.set A q S N H G rfl W i hi hl, st⟩
theorem own_cst (X : Stand p l e R s m args below meth c T locs cells slots) (hx : p.tables.exec = Jvm.exec) (hZ : Z.Warmed39 s.vm) (eT : T.heap = h) (F : Arv Z h a k .char z vs dv) {j : Int32} (hj : ¬ j < 0 ∧ j < z) {x : Int32} {i : Nat} (hi : j.toNatClampNeg = i) (hl : i < vs.length) {g : JFrame} (hg : g.method = m) {rest : List Value} (hs : g.stack = .int x :: .int j :: .ref a :: rest) (hd : decode c.code g.pc = .ok (.castore, 1)) :
    ∃ T' h', Stand p l e R s m args below meth c T' (locs ++ [⟨a, j.toNatClampNeg⟩]) cells slots ∧ T'.heap = h' ∧ Wr h h' a j.toNatClampNeg (.int (nar .char x)) ∧ Arv Z h' a k .char z (vs.set i (.int (nar .char x))) dv ∧ ∀ target, Steps p.tables e below (T'.setTop { g with pc := g.pc + 1, stack := rest }) target → Steps p.tables e below (T.setTop g) target := by
  obtain ⟨cl, A, q, S, N, H, G⟩ := F
  have hin := inb_of S hj
  obtain ⟨T', h', X', e', W, st⟩ := stC X hx hZ eT A hin hg hs hd
  exact ⟨T', h', X', e', W, Arv.set A q S N H G (fits_nar_char _) W i hi hl, st⟩
end OwnArr
/-! arrays of known length whose places are a function of the index -/
section OwnFn
/-- an array of n places of the kind ty; place j holds the int f j -/
def own_A (Z : State) (h : Heap) (a : Addr) (ty : FieldType) (n : Nat) (f : Nat → Int32) : Prop := ∃ c : Cell, Arr Z h a c ty ∧ c.slots.size = n ∧ ∀ j, j < n → c.slots[j]? = some (.int (f j))
variable {p : Program} {l : Launch} {e : Env} {R : Room} {s : State} {m : MethodId} {args : Array Value} {below : List Frame} {meth : Method} {c : Code} {T : State} {locs : List Loc} {cells slots : Nat} {Z : State} {h h' : Heap} {a b : Addr} {ty : FieldType} {n : Nat} {f f' : Nat → Int32}
theorem own_A.lt (F : own_A Z h a ty n f) : a < h.size := by obtain ⟨c, A, -⟩ := F; exact A.lt
theorem own_A.ext (F : own_A Z h a ty n f) (E : Ext h h') : own_A Z h' a ty n f := by obtain ⟨c, A, r⟩ := F; exact ⟨c, A.ext E, r⟩
theorem own_A.other {sl : Nat} {v : Value} (F : own_A Z h a ty n f) (W : Wr h h' b sl v) (q : a ≠ b) : own_A Z h' a ty n f := by obtain ⟨c, A, r⟩ := F; exact ⟨c, A.other W q, r⟩
theorem own_A.keep {ws : List Addr} (F : own_A Z h a ty n f) (K : Keep h h' ws) (q : a ∉ ws) : own_A Z h' a ty n f := by obtain ⟨c, A, r⟩ := F; exact ⟨c, ⟨K.2.1 a c A.1 q, A.2⟩, r⟩
theorem own_A.cong (F : own_A Z h a ty n f) (q : ∀ j, j < n → f j = f' j) : own_A Z h a ty n f' := by
  obtain ⟨c, A, r1, r2⟩ := F
  exact ⟨c, A, r1, fun j hj => by rw [r2 j hj, q j hj]⟩
theorem own_A.of {k : ClassId} {z : Int32} {vs : List Value} {dv : Value} (F : Arv Z h a k ty z vs dv) (hz : z.toNatClampNeg = n) (hf : ∀ j, j < n → vs.getD j dv = .int (f j)) : own_A Z h a ty n f := by
  obtain ⟨c, A, -, S, -, H, -⟩ := F
  exact ⟨c, A, S.trans hz, fun j hj => by rw [H j (by rw [S, hz]; exact hj), hf j hj]⟩
theorem own_A_len (X : Stand p l e R s m args below meth c T locs cells slots) (hx : p.tables.exec = Jvm.exec) (hZ : Z.Warmed39 s.vm) (eT : T.heap = h) (F : own_A Z h a ty n f) {z : Int32} (hz : n.toInt32 = z) {g : JFrame} (hg : g.method = m) {rest : List Value} (hs : g.stack = .ref a :: rest) (hd : decode c.code g.pc = .ok (.arraylength, 1)) :
    ∀ target, Steps p.tables e below (T.setTop { g with pc := g.pc + 1, stack := .int z :: rest }) target → Steps p.tables e below (T.setTop g) target := by
  obtain ⟨cl, A, S, H⟩ := F
  intro target hr
  refine X.arraylength hx (by rw [eT]; exact A.1) (State.isArrayOf_alike hZ.alike A.2.1) hg hs hd _ ?_
  rw [S, hz]; exact hr
theorem own_A_in {cl : Cell} {j : Int32} {i : Nat} (S : cl.slots.size = n) (h0 : ¬ j < 0) (hj : j.toNatClampNeg = i) (hi : i < n) : ¬ (j < 0 ∨ cl.slots.size ≤ j.toNatClampNeg) := fun q => by
  rcases q with q | q
  · exact h0 q
  · rw [S, hj] at q; omega
theorem own_A_cld (X : Stand p l e R s m args below meth c T locs cells slots) (hx : p.tables.exec = Jvm.exec) (hZ : Z.Warmed39 s.vm) (eT : T.heap = h) (F : own_A Z h a .char n f) {j : Int32} {i : Nat} (h0 : ¬ j < 0) (hj : j.toNatClampNeg = i) (hi : i < n) {g : JFrame} (hg : g.method = m) {rest : List Value} (hs : g.stack = .int j :: .ref a :: rest) (hd : decode c.code g.pc = .ok (.caload, 1)) :
    ∀ target, Steps p.tables e below (T.setTop { g with pc := g.pc + 1, stack := .int (f i) :: rest }) target → Steps p.tables e below (T.setTop g) target := by
  obtain ⟨cl, A, S, H⟩ := F
  exact X.caload hx (by rw [eT]; exact A.1) (State.isArrayOf_alike hZ.alike A.2.1) A.2.2 (own_A_in S h0 hj hi) (by rw [hj]; exact H i hi) hg hs hd
theorem own_A_bld (X : Stand p l e R s m args below meth c T locs cells slots) (hx : p.tables.exec = Jvm.exec) (hZ : Z.Warmed39 s.vm) (eT : T.heap = h) (F : own_A Z h a .byte n f) {j : Int32} {i : Nat} (h0 : ¬ j < 0) (hj : j.toNatClampNeg = i) (hi : i < n) {g : JFrame} (hg : g.method = m) {rest : List Value} (hs : g.stack = .int j :: .ref a :: rest) (hd : decode c.code g.pc = .ok (.baload, 1)) :
    ∀ target, Steps p.tables e below (T.setTop { g with pc := g.pc + 1, stack := .int (f i) :: rest }) target → Steps p.tables e below (T.setTop g) target := by
  obtain ⟨cl, A, S, H⟩ := F
  exact X.baloadBytes hx (by rw [eT]; exact A.1) (State.isArrayOf_alike hZ.alike A.2.1) A.2.2 (own_A_in S h0 hj hi) (by rw [hj]; exact H i hi) hg hs hd
theorem own_A_set {cl : Cell} {j : Int32} {i : Nat} {v : Int32} (A : Arr Z h a cl ty) (S : cl.slots.size = n) (H : ∀ k, k < n → cl.slots[k]? = some (.int (f k))) (hj : j.toNatClampNeg = i) (hi : i < n) (W : Wr h h' a j.toNatClampNeg (.int v)) : own_A Z h' a ty n (fun k => if k = i then v else f k) := by
  have A' := Arr.same W A
  refine ⟨_, A', by rw [sz_set]; exact S, fun k hk => ?_⟩
  rw [hj]
  by_cases q : k = i
  · subst q
    simp [Cell.setSlot, S, hk]
  · have q' : i ≠ k := fun z => q z.symm
    simp [Cell.setSlot, q, q']
    have := H k hk
    simpa using this
theorem own_A_cst (X : Stand p l e R s m args below meth c T locs cells slots) (hx : p.tables.exec = Jvm.exec) (hZ : Z.Warmed39 s.vm) (eT : T.heap = h) (F : own_A Z h a .char n f) {j x : Int32} {i : Nat} (h0 : ¬ j < 0) (hj : j.toNatClampNeg = i) (hi : i < n) {g : JFrame} (hg : g.method = m) {rest : List Value} (hs : g.stack = .int x :: .int j :: .ref a :: rest) (hd : decode c.code g.pc = .ok (.castore, 1)) :
    ∃ T' h', Stand p l e R s m args below meth c T' (locs ++ [⟨a, j.toNatClampNeg⟩]) cells slots ∧ T'.heap = h' ∧ Wr h h' a j.toNatClampNeg (.int (nar .char x)) ∧ own_A Z h' a .char n (fun k => if k = i then nar .char x else f k) ∧ ∀ target, Steps p.tables e below (T'.setTop { g with pc := g.pc + 1, stack := rest }) target → Steps p.tables e below (T.setTop g) target := by
  obtain ⟨cl, A, S, H⟩ := F
  obtain ⟨T', h', X', e', W, st⟩ := stC X hx hZ eT A (own_A_in S h0 hj hi) hg hs hd
  exact ⟨T', h', X', e', W, own_A_set A S H hj hi W, st⟩
theorem own_A_bst (X : Stand p l e R s m args below meth c T locs cells slots) (hx : p.tables.exec = Jvm.exec) (hZ : Z.Warmed39 s.vm) (eT : T.heap = h) (F : own_A Z h a .byte n f) {j x : Int32} {i : Nat} (h0 : ¬ j < 0) (hj : j.toNatClampNeg = i) (hi : i < n) {g : JFrame} (hg : g.method = m) {rest : List Value} (hs : g.stack = .int x :: .int j :: .ref a :: rest) (hd : decode c.code g.pc = .ok (.bastore, 1)) :
    ∃ T' h', Stand p l e R s m args below meth c T' (locs ++ [⟨a, j.toNatClampNeg⟩]) cells slots ∧ T'.heap = h' ∧ Wr h h' a j.toNatClampNeg (.int (nar .byte x)) ∧ own_A Z h' a .byte n (fun k => if k = i then nar .byte x else f k) ∧ ∀ target, Steps p.tables e below (T'.setTop { g with pc := g.pc + 1, stack := rest }) target → Steps p.tables e below (T.setTop g) target := by
  obtain ⟨cl, A, S, H⟩ := F
  obtain ⟨T', h', X', e', W, st⟩ := stB X hx hZ eT A (own_A_in S h0 hj hi) hg hs hd
  exact ⟨T', h', X', e', W, own_A_set A S H hj hi W, st⟩
/-- small naturals as ints -/
def own_n (i : Nat) : Int32 := Int32.ofNat i
theorem own_nI {i : Nat} (h : i < 1000) : (own_n i).toInt = i := Int32.toInt_ofNat_of_lt (by omega)
theorem own_n0 {i : Nat} (h : i < 1000) : ¬ own_n i < 0 := by
  rw [Int32.lt_iff_toInt_lt, own_nI h]; have : (0 : Int32).toInt = 0 := rfl; omega
theorem own_nN {i : Nat} (h : i < 1000) : (own_n i).toNatClampNeg = i := by
  have q : (own_n i).toNatClampNeg = (own_n i).toInt.toNat := rfl
  rw [q, own_nI h]; omega
theorem own_nlt {i k : Nat} (h : i < 1000) (h' : k < 1000) : own_n i < own_n k ↔ i < k := by rw [Int32.lt_iff_toInt_lt, own_nI h, own_nI h']; omega
theorem own_ns {i : Nat} (h : i + 1 < 1000) : own_n i + 1 = own_n (i + 1) := by
  rw [← Int32.toInt_inj, own_nI h]
  have f := c_iadd (own_n i) 1
  have r := rng32 (own_n i + 1)
  have k : (1 : Int32).toInt = 1 := rfl
  rw [own_nI (by omega), k] at f
  omega
theorem own_no {x : Int32} {k : Nat} (h0 : ¬ x < 0) (h1 : x.toInt < k) (hk : k ≤ 1000) : ∃ i, i < k ∧ x = own_n i := by
  rw [Int32.lt_iff_toInt_lt] at h0
  have z : (0 : Int32).toInt = 0 := rfl
  refine ⟨x.toInt.toNat, by omega, ?_⟩
  rw [← Int32.toInt_inj, own_nI (by omega)]
  omega
end OwnFn
/-! a String of 70 chars: lemmas -/
section OwnS
variable {Z : State} {h h' : Heap} {a : Addr} {ty : FieldType} {n : Nat} {f g : Nat → Int32}
theorem own_A.nostat (A : own_A Z h a ty n f) : ∀ cell : Cell, h[a]? = some cell → cell.vm.isStatics = false := by obtain ⟨c, A, -⟩ := A; exact A.nostat
theorem own_Sta_keep {C n d : String} {v : Value} {ws : List Addr} (F : Sta Z h C n d v) (K : Keep h h' ws) (hw : ∀ x ∈ ws, ∀ cell : Cell, h[x]? = some cell → cell.vm.isStatics = false) : Sta Z h' C n d v := by
  obtain ⟨cf, i, k, f, st, cell, h1, h2, h3, h4, h5, h6, h7⟩ := F
  exact ⟨cf, i, k, f, st, cell, h1, h2, h3, h4, K.2.1 _ _ h5 (fun q => by rw [hw _ q _ h5] at h6; cases h6), h6, h7⟩
/-- the statics that the String road reads -/
def own_St (Z : State) (h : Heap) (zc : Int32) (rs : Value) : Prop := Sta Z h "java/lang/String" "COMPACT_STRINGS" "Z" (.int zc) ∧ Sta Z h "java/lang/StringUTF16" "$assertionsDisabled" "Z" (.int (1 : Int32)) ∧ Sta Z h "java/lang/StringUTF16" "HI_BYTE_SHIFT" "I" (.int (0 : Int32)) ∧ Sta Z h "java/lang/StringUTF16" "LO_BYTE_SHIFT" "I" (.int (8 : Int32)) ∧ Sta Z h "jdk/internal/util/Preconditions" "SIOOBE_FORMATTER" "Ljava/util/function/BiFunction;" rs
theorem own_St.keep {zc : Int32} {rs : Value} {ws : List Addr} (F : own_St Z h zc rs) (K : Keep h h' ws) (hw : ∀ x ∈ ws, ∀ cell : Cell, h[x]? = some cell → cell.vm.isStatics = false) : own_St Z h' zc rs :=
  ⟨own_Sta_keep F.1 K hw, own_Sta_keep F.2.1 K hw, own_Sta_keep F.2.2.1 K hw, own_Sta_keep F.2.2.2.1 K hw, own_Sta_keep F.2.2.2.2 K hw⟩
/-- chars -/
def own_C (f : Nat → Int32) : Prop := ∀ j, j < 70 → 0 ≤ (f j).toInt ∧ (f j).toInt < 65536
theorem own_i2c {x : Int32} (q : 0 ≤ x.toInt ∧ x.toInt < 65536) : x.toUInt32.toUInt16.toUInt32.toInt32 = x := by
  rw [← Int32.toInt_inj]; have := c_i2c x; omega
theorem own_nc {x : Int32} (q : 0 ≤ x.toInt ∧ x.toInt < 65536) : narrow .char (.int x) = .int x := by
  show Value.int _ = _
  exact congrArg _ (own_i2c q)
/-- the two bytes of each char -/
def own_U (g f : Nat → Int32) (n : Nat) : Prop := ∀ i, i < n → g (2 * i) = (f i >>> ((0 : Int32) &&& 31)).toInt8.toInt32 ∧ g (2 * i + 1) = (f i >>> ((8 : Int32) &&& 31)).toInt8.toInt32
theorem own_join {x y z : Int32} (q : 0 ≤ x.toInt ∧ x.toInt < 65536) (hy : y = (x >>> ((0 : Int32) &&& 31)).toInt8.toInt32) (hz : z = (x >>> ((8 : Int32) &&& 31)).toInt8.toInt32) : (((y &&& (255 : Int32)) <<< ((0 : Int32) &&& 31)) ||| ((z &&& (255 : Int32)) <<< ((8 : Int32) &&& 31))).toUInt32.toUInt16.toUInt32.toInt32 = x := by
  rw [← Int32.toInt_inj]
  have f1 := c_ishr x 0 0 (by decide); have f2 := c_ishr x 8 8 (by decide)
  have f3 := c_i2b (x >>> ((0 : Int32) &&& 31)); have f4 := c_i2b (x >>> ((8 : Int32) &&& 31))
  rw [← hy] at f3; rw [← hz] at f4
  have f5 : (y &&& (255 : Int32)).toInt = y.toInt % 256 := c_mask y 255 8 (by decide) (by decide)
  have f6 : (z &&& (255 : Int32)).toInt = z.toInt % 256 := c_mask z 255 8 (by decide) (by decide)
  have f7 : ((y &&& (255 : Int32)) <<< ((0 : Int32) &&& 31)).toInt = (y &&& (255 : Int32)).toInt := by
    have a := c_ishl (y &&& (255 : Int32)) 0 0 (by decide); have b := rng32 ((y &&& (255 : Int32)) <<< ((0 : Int32) &&& 31)); omega
  have f8 : ((z &&& (255 : Int32)) <<< ((8 : Int32) &&& 31)).toInt = (z &&& (255 : Int32)).toInt * 256 := by
    have a := c_ishl (z &&& (255 : Int32)) 8 8 (by decide); have b := rng32 ((z &&& (255 : Int32)) <<< ((8 : Int32) &&& 31)); omega
  have f9 := c_or' ((y &&& (255 : Int32)) <<< ((0 : Int32) &&& 31)) ((z &&& (255 : Int32)) <<< ((8 : Int32) &&& 31)) 8 (by decide) 256 (by decide) (by omega) (by omega) (by omega)
  have f10 := c_i2c (((y &&& (255 : Int32)) <<< ((0 : Int32) &&& 31)) ||| ((z &&& (255 : Int32)) <<< ((8 : Int32) &&& 31)))
  omega
theorem own_lat {x : Int32} (q : 0 ≤ x.toInt ∧ x.toInt < 65536) (r : ¬ (255 : Int32) < x) : (x.toInt8.toInt32 &&& (255 : Int32)).toUInt32.toUInt16.toUInt32.toInt32 = x := by
  rw [← Int32.toInt_inj]
  rw [Int32.lt_iff_toInt_lt] at r
  have k : (255 : Int32).toInt = 255 := rfl
  have f3 := c_i2b x
  have f5 : (x.toInt8.toInt32 &&& (255 : Int32)).toInt = x.toInt8.toInt32.toInt % 256 := c_mask x.toInt8.toInt32 255 8 (by decide) (by decide)
  have f10 := c_i2c (x.toInt8.toInt32 &&& (255 : Int32))
  omega
theorem own_U_put {i : Nat} {g' : Nat → Int32} (q : own_U g f i) (h0 : g' (2 * i) = (f i >>> ((0 : Int32) &&& 31)).toInt8.toInt32) (h1 : g' (2 * i + 1) = (f i >>> ((8 : Int32) &&& 31)).toInt8.toInt32) (r : ∀ k, k ≠ 2 * i → k ≠ 2 * i + 1 → g' k = g k) : own_U g' f (i + 1) := fun j hj => by
  by_cases e : j = i
  · subst e; exact ⟨h0, h1⟩
  · rw [r (2 * j) (by omega) (by omega), r (2 * j + 1) (by omega) (by omega)]; exact q j (by omega)
/-- the value array of the String: one byte or two bytes for a char -/
def own_Bv (Z : State) (h : Heap) (t : Addr) (f : Nat → Int32) : Prop := (own_A Z h t .byte 70 (fun j => (f j).toInt8.toInt32) ∧ ∀ j, j < 70 → ¬ (255 : Int32) < f j) ∨ (∃ g, own_A Z h t .byte 140 g ∧ own_U g f 70)
/-- the object x is a String of the 70 chars f -/
def own_Str (Z : State) (h : Heap) (x : Addr) (f : Nat → Int32) : Prop := Exa Z h x "java/lang/String" ∧ ∃ t, Fld Z h x "java/lang/String" "value" "[B" (.ref t) ∧ ((Fld Z h x "java/lang/String" "coder" "B" (.int (0 : Int32)) ∧ own_A Z h t .byte 70 (fun j => (f j).toInt8.toInt32) ∧ ∀ j, j < 70 → ¬ (255 : Int32) < f j) ∨ (Fld Z h x "java/lang/String" "coder" "B" (.int (1 : Int32)) ∧ ∃ g, own_A Z h t .byte 140 g ∧ own_U g f 70))
def own_ok (c : Int32) : Prop := (¬ c < 65 ∧ ¬ 90 < c) ∨ (¬ c < 97 ∧ ¬ 122 < c) ∨ (¬ c < 48 ∧ ¬ 57 < c) ∨ c = 45 ∨ c = 46
end OwnS
theorem own_lt70 {i : Nat} (h : i < 70) : own_n i < (70 : Int32) := (own_nlt (k := 70) (by omega) (by omega)).mpr h
theorem own_ge70 {i : Nat} (h : ¬ i < 70) (h2 : i < 1000) : ¬ own_n i < (70 : Int32) := fun q => h ((own_nlt (k := 70) h2 (by omega)).mp q)
theorem own_bb (x : Int32) : x.toInt8.toInt32.toInt8.toInt32 = x.toInt8.toInt32 := by simp
theorem own_d_jdk_52_method_21_3 : decode jdk_52_method_21_code 3 = .ok (.iload 5, 2) := by decide +kernel
theorem own_d_jdk_52_method_21_5 : decode jdk_52_method_21_code 5 = .ok (.iload 4, 2) := by decide +kernel
theorem own_d_jdk_52_method_21_7 : decode jdk_52_method_21_code 7 = .ok (.if_icmp .ge 37, 3) := by decide +kernel
theorem own_d_jdk_52_method_21_44 : decode jdk_52_method_21_code 44 = .ok (.iload 4, 2) := by decide +kernel
theorem own_d_jdk_52_method_21_46 : decode jdk_52_method_21_code 46 = .ok (.ireturn, 1) := by decide +kernel
theorem own_d_jdk_52_method_21_10 : decode jdk_52_method_21_code 10 = .ok (.aload_n 0, 1) := by decide +kernel
theorem own_d_jdk_52_method_21_11 : decode jdk_52_method_21_code 11 = .ok (.iload_n 1, 1) := by decide +kernel
theorem own_d_jdk_52_method_21_12 : decode jdk_52_method_21_code 12 = .ok (.caload, 1) := by decide +kernel
theorem own_d_jdk_52_method_21_13 : decode jdk_52_method_21_code 13 = .ok (.istore 6, 2) := by decide +kernel
theorem own_d_jdk_52_method_21_15 : decode jdk_52_method_21_code 15 = .ok (.iload 6, 2) := by decide +kernel
theorem own_d_jdk_52_method_21_17 : decode jdk_52_method_21_code 17 = .ok (.sipush 255, 3) := by decide +kernel
theorem own_d_jdk_52_method_21_20 : decode jdk_52_method_21_code 20 = .ok (.if_icmp .le 6, 3) := by decide +kernel
theorem own_d_jdk_52_method_21_23 : decode jdk_52_method_21_code 23 = .ok (.iload 5, 2) := by decide +kernel
theorem own_d_jdk_52_method_21_25 : decode jdk_52_method_21_code 25 = .ok (.ireturn, 1) := by decide +kernel
theorem own_d_jdk_52_method_21_26 : decode jdk_52_method_21_code 26 = .ok (.aload_n 2, 1) := by decide +kernel
theorem own_d_jdk_52_method_21_27 : decode jdk_52_method_21_code 27 = .ok (.iload_n 3, 1) := by decide +kernel
theorem own_d_jdk_52_method_21_28 : decode jdk_52_method_21_code 28 = .ok (.iload 6, 2) := by decide +kernel
theorem own_d_jdk_52_method_21_30 : decode jdk_52_method_21_code 30 = .ok (.i2b, 1) := by decide +kernel
theorem own_d_jdk_52_method_21_31 : decode jdk_52_method_21_code 31 = .ok (.bastore, 1) := by decide +kernel
theorem own_d_jdk_52_method_21_32 : decode jdk_52_method_21_code 32 = .ok (.iinc 1 1, 3) := by decide +kernel
theorem own_d_jdk_52_method_21_35 : decode jdk_52_method_21_code 35 = .ok (.iinc 3 1, 3) := by decide +kernel
theorem own_d_jdk_52_method_21_38 : decode jdk_52_method_21_code 38 = .ok (.iinc 5 1, 3) := by decide +kernel
theorem own_d_jdk_52_method_21_41 : decode jdk_52_method_21_code 41 = .ok (.goto (-38), 3) := by decide +kernel
theorem own_d_jdk_52_method_21_0 : decode jdk_52_method_21_code 0 = .ok (.iconst 0, 1) := by decide +kernel
theorem own_d_jdk_52_method_21_1 : decode jdk_52_method_21_code 1 = .ok (.istore 5, 2) := by decide +kernel
def own_c5_Q (Z : State) (a1 b1 : Addr) (f g0 : Nat → Int32) (h0 : Heap) (n0 : Nat) (v : Option Value) (h : Heap) (L : List Loc) : Prop := Fr n0 L ∧ Keep h0 h [b1] ∧ ((v = some (.int (70 : Int32)) ∧ (∀ j, j < 70 → ¬ (255 : Int32) < f j) ∧ own_A Z h b1 .byte 70 (fun j => (f j).toInt8.toInt32)) ∨ (∃ i, i < 70 ∧ v = some (.int (own_n i)) ∧ (255 : Int32) < f i))
abbrev own_y0 : MethodName := ⟨"java/lang/StringUTF16", "compress", "([CI[BII)I"⟩
theorem own_pn_StringUTF16 : plainName "java/lang/StringUTF16" = true := by first | (simp [plainName, overriddenIn]; done) | decide +kernel
theorem own_c5_ef (m : MethodId) (a1 : Addr) (b1 : Addr) (f : Nat → Int32) (g0 : Nat → Int32) : entryFrame m #[(.ref a1), (.int (0 : Int32)), (.ref b1), (.int (0 : Int32)), (.int (70 : Int32))] 7 = mkF m 0 #[.val (.ref a1), .val (.int (0 : Int32)), .val (.ref b1), .val (.int (0 : Int32)), .val (.int (70 : Int32)), .unset, .unset] [] := by first | (simp [entryFrame, mkF, argsToLocals, Value.category]; done) | rfl
set_option maxRecDepth 65536 in
set_option maxHeartbeats 40000000 in
theorem own_c5 (l : Launch) (Z : State) (a0 : Array Value) (hw : ∀ d ∈ tables_1, d.before a0 Z = true) (ws : List Jvm.Cond) (a1 : Addr) (b1 : Addr) (f : Nat → Int32) (g0 : Nat → Int32) (h0 : Heap) (n0 : Nat) (Z0 : n0 ≤ h0.size) (VA : own_A Z h0 a1 .char 70 f) (VB : own_A Z h0 b1 .byte 70 g0) (neab : a1 ≠ b1) (g_b1 : n0 ≤ b1) :
    MetFree l own_y0 (head1 (Jvm.Cond.code own_y0 jdk_52_method_21_code 7 (some .int) :: ws) ({ frames := 0, cells := 0, slots := 0, locals := 0 } : Room)) (fun a U => a = #[(.ref a1), (.int (0 : Int32)), (.ref b1), (.int (0 : Int32)), (.int (70 : Int32))] ∧ Z.Warmed39 U.vm ∧ U.heap = h0) (fun _ _ _ _ _ => True) (fun _ U o U' => ∃ v L, o = .returned v ∧ own_c5_Q Z a1 b1 f g0 h0 n0 v U'.heap L ∧ FrameEnd U o U' L ({ frames := 0, cells := 0, slots := 0, locals := 0 } : Room).cells ({ frames := 0, cells := 0, slots := 0, locals := 0 } : Room).slots) := by
  refine MetFree.of_bodySF (plainFor_of_name own_pn_StringUTF16) hisR ?_
  intro p e s m args below meth c s₁ Bd hml0 hP hK
  obtain ⟨rfl, hZ, hh⟩ := hP
  have hx := Bd.exec
  have hby := Bd.bytes
  have hml : c.maxLocals = 7 := hml0
  have hown : s.vm.findClass "java/lang/StringUTF16" = some m.cls := findClass_of_methodNamed Bd.named
  have hnm := (name_of_methodNamed Bd.named Bd.method).1
  have X0 : Stand p l e ({ frames := 0, cells := 0, slots := 0, locals := 0 } : Room) s m #[(.ref a1), (.int (0 : Int32)), (.ref b1), (.int (0 : Int32)), (.int (70 : Int32))] below meth c s₁ [] 0 0 := Stand.of_body Bd
  have e0 : s₁.heap = h0 := by rw [← hh, Bd.state]; rfl
  show own_E p e below (own_K (own_c5_Q Z a1 b1 f g0 h0 n0) s ({ frames := 0, cells := 0, slots := 0, locals := 0 } : Room).cells ({ frames := 0, cells := 0, slots := 0, locals := 0 } : Room).slots) s₁ (entryFrame m #[(.ref a1), (.int (0 : Int32)), (.ref b1), (.int (0 : Int32)), (.int (70 : Int32))] 7)
  refine own_pre (own_c5_ef m a1 b1 f g0) ?_
  have loop : ∀ (k i : Nat) (T : State) (Lc : List Loc) (g : Nat → Int32) (s6 : Slot), i + k = 70 → One s6 → Stand p l e ({ frames := 0, cells := 0, slots := 0, locals := 0 } : Room) s m #[(.ref a1), (.int (0 : Int32)), (.ref b1), (.int (0 : Int32)), (.int (70 : Int32))] below meth c T Lc 0 0 → Fr n0 Lc → Keep h0 T.heap [b1] → own_A Z T.heap b1 .byte 70 g → (∀ j, j < i → ¬ (255 : Int32) < f j ∧ g j = (f j).toInt8.toInt32) → own_E p e below (own_K (own_c5_Q Z a1 b1 f g0 h0 n0) s 0 0) T (mkF m 3 #[rv a1, iv (own_n i), rv b1, iv (own_n i), iv 70, iv (own_n i), s6] []) := by
    intro k
    induction k with
    | zero =>
      intro i T Lc g s6 hik o6 X N K VB I
      have eTl : T.heap = T.heap := rfl
      have hnl := own_ge70 (i := i) (by omega) (by omega)
      show own_E p e below _ T (mkF m 3 #[rv a1, iv (own_n i), rv b1, iv (own_n i), iv 70, iv (own_n i), s6] [])
      refine own_st (fun t k => XS.iload X.here hx rfl (hb hby own_d_jdk_52_method_21_3) rfl k) ?_
      show own_E p e below _ T (mkF m 5 #[rv a1, iv (own_n i), rv b1, iv (own_n i), iv 70, iv (own_n i), s6] [.int (own_n i)])
      refine own_st (fun t k => XS.iload X.here hx rfl (hb hby own_d_jdk_52_method_21_5) rfl k) ?_
      show own_E p e below _ T (mkF m 7 #[rv a1, iv (own_n i), rv b1, iv (own_n i), iv 70, iv (own_n i), s6] [.int 70, .int (own_n i)])
      refine own_st (fun t k => XS.icmpYes X.here hx rfl (pc0 := 7) (pc' := 44) rfl (hb hby own_d_jdk_52_method_21_7) rfl (flt hnl).2.1 (by decide) (by decide) k) ?_
      show own_E p e below _ T (mkF m 44 #[rv a1, iv (own_n i), rv b1, iv (own_n i), iv 70, iv (own_n i), s6] [])
      refine own_st (fun t k => XS.iload X.here hx rfl (hb hby own_d_jdk_52_method_21_44) rfl k) ?_
      show own_E p e below _ T (mkF m 46 #[rv a1, iv (own_n i), rv b1, iv (own_n i), iv 70, iv (own_n i), s6] [.int 70])
      refine own_retI X hx Bd.notSynchronized Bd.returns (hb hby own_d_jdk_52_method_21_46) (by decide) (by decide) ?_
      show own_c5_Q Z a1 b1 f g0 h0 n0 _ T.heap _
      exact ⟨N, K, Or.inl ⟨rfl, fun j hj => (I j (by omega)).1, VB.cong fun j hj => (I j (by omega)).2⟩⟩
    | succ k ih =>
      intro i T Lc g s6 hik o6 X N K VB I
      have eTl : T.heap = T.heap := rfl
      have hi : i < 70 := by omega
      have hlt := own_lt70 hi
      show own_E p e below _ T (mkF m 3 #[rv a1, iv (own_n i), rv b1, iv (own_n i), iv 70, iv (own_n i), s6] [])
      refine own_st (fun t k => XS.iload X.here hx rfl (hb hby own_d_jdk_52_method_21_3) rfl k) ?_
      show own_E p e below _ T (mkF m 5 #[rv a1, iv (own_n i), rv b1, iv (own_n i), iv 70, iv (own_n i), s6] [.int (own_n i)])
      refine own_st (fun t k => XS.iload X.here hx rfl (hb hby own_d_jdk_52_method_21_5) rfl k) ?_
      show own_E p e below _ T (mkF m 7 #[rv a1, iv (own_n i), rv b1, iv (own_n i), iv 70, iv (own_n i), s6] [.int 70, .int (own_n i)])
      refine own_st (fun t k => XS.icmpNo X.here hx rfl (hb hby own_d_jdk_52_method_21_7) rfl (tlt hlt).2.1 k) ?_
      show own_E p e below _ T (mkF m 10 #[rv a1, iv (own_n i), rv b1, iv (own_n i), iv 70, iv (own_n i), s6] [])
      refine own_st (fun t k => XS.aloadN X.here hx rfl (hb hby own_d_jdk_52_method_21_10) rfl rfl k) ?_
      show own_E p e below _ T (mkF m 11 #[rv a1, iv (own_n i), rv b1, iv (own_n i), iv 70, iv (own_n i), s6] [.ref a1])
      refine own_st (fun t k => XS.iloadN X.here hx rfl (hb hby own_d_jdk_52_method_21_11) rfl k) ?_
      show own_E p e below _ T (mkF m 12 #[rv a1, iv (own_n i), rv b1, iv (own_n i), iv 70, iv (own_n i), s6] [.int (own_n i), .ref a1])
      refine own_st (own_A_cld X hx hZ eTl (VA.keep K (ninS neab nin0)) (j := (own_n i)) (i := i) (own_n0 (by omega)) (own_nN (by omega)) hi (g := (mkF m 12 #[rv a1, iv (own_n i), rv b1, iv (own_n i), iv 70, iv (own_n i), s6] [.int (own_n i), .ref a1])) rfl rfl (hb hby own_d_jdk_52_method_21_12)) ?_
      show own_E p e below _ T (mkF m 13 #[rv a1, iv (own_n i), rv b1, iv (own_n i), iv 70, iv (own_n i), s6] [.int (f i)])
      have os1 : storeLocals #[.val (.ref a1), .val (.int (own_n i)), .val (.ref b1), .val (.int (own_n i)), .val (.int (70 : Int32)), .val (.int (own_n i)), s6] 6 (.int (f i)) = some #[.val (.ref a1), .val (.int (own_n i)), .val (.ref b1), .val (.int (own_n i)), .val (.int (70 : Int32)), .val (.int (own_n i)), .val (.int (f i))] := by rcases o6 with h | ⟨w, h, hw⟩ <;> subst h <;> first | rfl | (cases w <;> first | rfl | (simp [Value.category] at hw))
      refine own_st (fun t k => XS.istore X.here hx rfl (hb hby own_d_jdk_52_method_21_13) rfl (l' := #[.val (.ref a1), .val (.int (own_n i)), .val (.ref b1), .val (.int (own_n i)), .val (.int (70 : Int32)), .val (.int (own_n i)), .val (.int (f i))]) os1 k) ?_
      show own_E p e below _ T (mkF m 15 #[rv a1, iv (own_n i), rv b1, iv (own_n i), iv 70, iv (own_n i), iv (f i)] [])
      refine own_st (fun t k => XS.iload X.here hx rfl (hb hby own_d_jdk_52_method_21_15) rfl k) ?_
      show own_E p e below _ T (mkF m 17 #[rv a1, iv (own_n i), rv b1, iv (own_n i), iv 70, iv (own_n i), iv (f i)] [.int (f i)])
      refine own_st (fun t k => XS.sipush X.here hx rfl (hb hby own_d_jdk_52_method_21_17) k) ?_
      show own_E p e below _ T (mkF m 20 #[rv a1, iv (own_n i), rv b1, iv (own_n i), iv 70, iv (own_n i), iv (f i)] [.int 255, .int (f i)])
      by_cases hc2 : (255 : Int32) < (f i)
      · refine own_st (fun t k => XS.icmpNo X.here hx rfl (hb hby own_d_jdk_52_method_21_20) rfl (tlt hc2).2.2.2 k) ?_
        show own_E p e below _ T (mkF m 23 #[rv a1, iv (own_n i), rv b1, iv (own_n i), iv 70, iv (own_n i), iv (f i)] [])
        refine own_st (fun t k => XS.iload X.here hx rfl (hb hby own_d_jdk_52_method_21_23) rfl k) ?_
        show own_E p e below _ T (mkF m 25 #[rv a1, iv (own_n i), rv b1, iv (own_n i), iv 70, iv (own_n i), iv (f i)] [.int (own_n i)])
        refine own_retI X hx Bd.notSynchronized Bd.returns (hb hby own_d_jdk_52_method_21_25) (by decide) (by decide) ?_
        show own_c5_Q Z a1 b1 f g0 h0 n0 _ T.heap _
        exact ⟨N, K, Or.inr ⟨i, hi, rfl, hc2⟩⟩
      · refine own_st (fun t k => XS.icmpYes X.here hx rfl (pc0 := 20) (pc' := 26) rfl (hb hby own_d_jdk_52_method_21_20) rfl (flt hc2).2.2.2 (by decide) (by decide) k) ?_
        show own_E p e below _ T (mkF m 26 #[rv a1, iv (own_n i), rv b1, iv (own_n i), iv 70, iv (own_n i), iv (f i)] [])
        refine own_st (fun t k => XS.aloadN X.here hx rfl (hb hby own_d_jdk_52_method_21_26) rfl rfl k) ?_
        show own_E p e below _ T (mkF m 27 #[rv a1, iv (own_n i), rv b1, iv (own_n i), iv 70, iv (own_n i), iv (f i)] [.ref b1])
        refine own_st (fun t k => XS.iloadN X.here hx rfl (hb hby own_d_jdk_52_method_21_27) rfl k) ?_
        show own_E p e below _ T (mkF m 28 #[rv a1, iv (own_n i), rv b1, iv (own_n i), iv 70, iv (own_n i), iv (f i)] [.int (own_n i), .ref b1])
        refine own_st (fun t k => XS.iload X.here hx rfl (hb hby own_d_jdk_52_method_21_28) rfl k) ?_
        show own_E p e below _ T (mkF m 30 #[rv a1, iv (own_n i), rv b1, iv (own_n i), iv 70, iv (own_n i), iv (f i)] [.int (f i), .int (own_n i), .ref b1])
        refine own_st (fun t k => XS.i2b X.here hx rfl (hb hby own_d_jdk_52_method_21_30) rfl k) ?_
        show own_E p e below _ T (mkF m 31 #[rv a1, iv (own_n i), rv b1, iv (own_n i), iv 70, iv (own_n i), iv (f i)] [.int ((f i).toInt8.toInt32), .int (own_n i), .ref b1])
        obtain ⟨T3, h3, X3, e3, W3, Aw3, st3⟩ := own_A_bst X hx hZ eTl VB (j := (own_n i)) (x := ((f i).toInt8.toInt32)) (i := i) (own_n0 (by omega)) (own_nN (by omega)) hi (g := (mkF m 31 #[rv a1, iv (own_n i), rv b1, iv (own_n i), iv 70, iv (own_n i), iv (f i)] [.int ((f i).toInt8.toInt32), .int (own_n i), .ref b1])) rfl rfl (hb hby own_d_jdk_52_method_21_31)
        have N3 := Fr.snoc X3 N g_b1
        have Z4 := Nat.le_trans (Nat.le_trans Z0 K.1) (Keep.of_wr W3).1
        have K5 : Keep h0 _ [b1] := K.wr W3 (Or.inl (List.mem_of_getElem? (i := 0) rfl))
        refine own_st st3 ?_
        show own_E p e below _ T3 (mkF m 32 #[rv a1, iv (own_n i), rv b1, iv (own_n i), iv 70, iv (own_n i), iv (f i)] [])
        refine own_st (fun t k => XS.iinc X3.here hx rfl (hb hby own_d_jdk_52_method_21_32) rfl (l' := #[rv a1, iv ((own_n i) + (1 : Int32)), rv b1, iv (own_n i), iv 70, iv (own_n i), iv (f i)]) rfl k) ?_
        show own_E p e below _ T3 (mkF m 35 #[rv a1, iv ((own_n i) + (1 : Int32)), rv b1, iv (own_n i), iv 70, iv (own_n i), iv (f i)] [])
        refine own_st (fun t k => XS.iinc X3.here hx rfl (hb hby own_d_jdk_52_method_21_35) rfl (l' := #[rv a1, iv ((own_n i) + (1 : Int32)), rv b1, iv ((own_n i) + (1 : Int32)), iv 70, iv (own_n i), iv (f i)]) rfl k) ?_
        show own_E p e below _ T3 (mkF m 38 #[rv a1, iv ((own_n i) + (1 : Int32)), rv b1, iv ((own_n i) + (1 : Int32)), iv 70, iv (own_n i), iv (f i)] [])
        refine own_st (fun t k => XS.iinc X3.here hx rfl (hb hby own_d_jdk_52_method_21_38) rfl (l' := #[rv a1, iv ((own_n i) + (1 : Int32)), rv b1, iv ((own_n i) + (1 : Int32)), iv 70, iv ((own_n i) + (1 : Int32)), iv (f i)]) rfl k) ?_
        show own_E p e below _ T3 (mkF m 41 #[rv a1, iv ((own_n i) + (1 : Int32)), rv b1, iv ((own_n i) + (1 : Int32)), iv 70, iv ((own_n i) + (1 : Int32)), iv (f i)] [])
        refine own_st (fun t k => XS.goto X3.here hx rfl (pc0 := 41) (pc' := 3) rfl (hb hby own_d_jdk_52_method_21_41) (by decide) (by decide) k) ?_
        show own_E p e below _ T3 (mkF m 3 #[rv a1, iv ((own_n i) + (1 : Int32)), rv b1, iv ((own_n i) + (1 : Int32)), iv 70, iv ((own_n i) + (1 : Int32)), iv (f i)] [])
        rw [own_ns (by omega)]
        refine ih (i + 1) _ _ _ _ (by omega) (One.val rfl) X3 N3 (by rw [e3]; exact K5) (by rw [e3]; exact Aw3) (fun j hj => ?_)
        by_cases hji : j = i
        · subst hji; exact ⟨hc2, by simp [nar, own_bb]⟩
        · simp only [hji, if_false]; exact I j (by omega)
  show own_E p e below _ s₁ (mkF m 0 #[rv a1, iv 0, rv b1, iv 0, iv 70, .unset, .unset] [])
  refine own_st (fun t k => XS.iconst X0.here hx rfl (hb hby own_d_jdk_52_method_21_0) k) ?_
  show own_E p e below _ s₁ (mkF m 1 #[rv a1, iv 0, rv b1, iv 0, iv 70, .unset, .unset] [.int 0])
  refine own_st (fun t k => XS.istore X0.here hx rfl (hb hby own_d_jdk_52_method_21_1) rfl (l' := #[rv a1, iv 0, rv b1, iv 0, iv 70, iv 0, .unset]) rfl k) ?_
  show own_E p e below _ s₁ (mkF m 3 #[rv a1, iv 0, rv b1, iv 0, iv 70, iv 0, .unset] [])
  exact loop 70 0 _ _ g0 _ rfl One.u X0 (Fr.nil n0) (by rw [e0]; exact Keep.refl h0 [b1]) (by rw [e0]; exact VB) (fun j hj => absurd hj (Nat.not_lt_zero j))
theorem own_shl {i : Nat} (h : i < 400) : own_n i <<< ((1 : Int32) &&& 31) = own_n (2 * i) := by
  rw [← Int32.toInt_inj, own_nI (by omega)]
  have f := c_ishl (own_n i) 1 1 (by decide)
  have r := rng32 (own_n i <<< ((1 : Int32) &&& 31))
  rw [own_nI (by omega)] at f
  omega
theorem own_d_jdk_52_method_3_0 : decode jdk_52_method_3_code 0 = .ok (.iload_n 0, 1) := by decide +kernel
theorem own_d_jdk_52_method_3_1 : decode jdk_52_method_3_code 1 = .ok (.ifCond .ge 11, 3) := by decide +kernel
theorem own_d_jdk_52_method_3_12 : decode jdk_52_method_3_code 12 = .ok (.iload_n 0, 1) := by decide +kernel
theorem own_d_jdk_52_method_3_13 : decode jdk_52_method_3_code 13 = .ok (.ldc 20, 2) := by decide +kernel
theorem own_d_jdk_52_method_3_15 : decode jdk_52_method_3_code 15 = .ok (.if_icmp .lt 40, 3) := by decide +kernel
theorem own_d_jdk_52_method_3_55 : decode jdk_52_method_3_code 55 = .ok (.iload_n 0, 1) := by decide +kernel
theorem own_d_jdk_52_method_3_56 : decode jdk_52_method_3_code 56 = .ok (.iconst 1, 1) := by decide +kernel
theorem own_d_jdk_52_method_3_57 : decode jdk_52_method_3_code 57 = .ok (.ishl, 1) := by decide +kernel
theorem own_d_jdk_52_method_3_58 : decode jdk_52_method_3_code 58 = .ok (.ireturn, 1) := by decide +kernel
def own_nbl_Q  (h0 : Heap) (v : Option Value) (h : Heap) (L : List Loc) : Prop := ((v = some (.int (140 : Int32)))) ∧ h = h0 ∧ L = []
abbrev own_y1 : MethodName := ⟨"java/lang/StringUTF16", "newBytesLength", "(I)I"⟩
theorem own_nbl_ef (m : MethodId)  : entryFrame m #[(.int (70 : Int32))] 1 = mkF m 0 #[.val (.int (70 : Int32))] [] := by first | (simp [entryFrame, mkF, argsToLocals, Value.category]; done) | rfl
set_option maxRecDepth 65536 in
set_option maxHeartbeats 40000000 in
theorem own_nbl (l : Launch) (Z : State) (a0 : Array Value) (hw : ∀ d ∈ tables_1, d.before a0 Z = true) (ws : List Jvm.Cond)  (h0 : Heap) (n0 : Nat) (Z0 : n0 ≤ h0.size)  :
    MetFree l own_y1 (head1 (Jvm.Cond.code own_y1 jdk_52_method_3_code 1 (some .int) :: ws) ({ frames := 0, cells := 0, slots := 0, locals := 0 } : Room)) (fun a U => a = #[(.int (70 : Int32))] ∧ Z.Warmed39 U.vm ∧ U.heap = h0) (fun _ _ _ _ _ => True) (fun _ U o U' => ∃ v L, o = .returned v ∧ own_nbl_Q  h0 v U'.heap L ∧ FrameEnd U o U' L ({ frames := 0, cells := 0, slots := 0, locals := 0 } : Room).cells ({ frames := 0, cells := 0, slots := 0, locals := 0 } : Room).slots) := by
  refine MetFree.of_bodySF (plainFor_of_name own_pn_StringUTF16) hisR ?_
  intro p e s m args below meth c s₁ Bd hml0 hP hK
  obtain ⟨rfl, hZ, hh⟩ := hP
  have hx := Bd.exec
  have hby := Bd.bytes
  have hml : c.maxLocals = 1 := hml0
  have hown : s.vm.findClass "java/lang/StringUTF16" = some m.cls := findClass_of_methodNamed Bd.named
  have hnm := (name_of_methodNamed Bd.named Bd.method).1
  have X0 : Stand p l e ({ frames := 0, cells := 0, slots := 0, locals := 0 } : Room) s m #[(.int (70 : Int32))] below meth c s₁ [] 0 0 := Stand.of_body Bd
  have e0 : s₁.heap = h0 := by rw [← hh, Bd.state]; rfl
  show own_E p e below (own_K (own_nbl_Q  h0) s ({ frames := 0, cells := 0, slots := 0, locals := 0 } : Room).cells ({ frames := 0, cells := 0, slots := 0, locals := 0 } : Room).slots) s₁ (entryFrame m #[(.int (70 : Int32))] 1)
  refine own_pre (own_nbl_ef m ) ?_
  show own_E p e below _ s₁ (mkF m 0 #[iv 70] [])
  refine own_st (fun t k => XS.iloadN X0.here hx rfl (hb hby own_d_jdk_52_method_3_0) rfl k) ?_
  show own_E p e below _ s₁ (mkF m 1 #[iv 70] [.int 70])
  refine own_st (fun t k => XS.ifYes X0.here hx rfl (pc0 := 1) (pc' := 12) rfl (hb hby own_d_jdk_52_method_3_1) rfl (by decide) (by decide) (by decide) k) ?_
  show own_E p e below _ s₁ (mkF m 12 #[iv 70] [])
  refine own_st (fun t k => XS.iloadN X0.here hx rfl (hb hby own_d_jdk_52_method_3_12) rfl k) ?_
  show own_E p e below _ s₁ (mkF m 13 #[iv 70] [.int 70])
  refine own_st (X0.ldcInt hx hown (mvT hZ (own_w hw 74 rfl)) (g := (mkF m 13 #[iv 70] [.int 70])) rfl (hb hby own_d_jdk_52_method_3_13)) ?_
  show own_E p e below _ s₁ (mkF m 15 #[iv 70] [.int 1073741823, .int 70])
  refine own_st (fun t k => XS.icmpYes X0.here hx rfl (pc0 := 15) (pc' := 55) rfl (hb hby own_d_jdk_52_method_3_15) rfl (by decide) (by decide) (by decide) k) ?_
  show own_E p e below _ s₁ (mkF m 55 #[iv 70] [])
  refine own_st (fun t k => XS.iloadN X0.here hx rfl (hb hby own_d_jdk_52_method_3_55) rfl k) ?_
  show own_E p e below _ s₁ (mkF m 56 #[iv 70] [.int 70])
  refine own_st (fun t k => XS.iconst X0.here hx rfl (hb hby own_d_jdk_52_method_3_56) k) ?_
  show own_E p e below _ s₁ (mkF m 57 #[iv 70] [.int 1, .int 70])
  refine own_st (fun t k => XS.ishl X0.here hx rfl (hb hby own_d_jdk_52_method_3_57) rfl k) ?_
  show own_E p e below _ s₁ (mkF m 58 #[iv 70] [.int 140])
  refine own_retI X0 hx Bd.notSynchronized Bd.returns (hb hby own_d_jdk_52_method_3_58) (by decide) (by decide) ?_
  exact ⟨rfl, e0, rfl⟩
theorem own_d_jdk_52_method_2_0 : decode jdk_52_method_2_code 0 = .ok (.iload_n 0, 1) := by decide +kernel
theorem own_d_jdk_52_method_2_1 : decode jdk_52_method_2_code 1 = .ok (.invokestatic 11, 3) := by decide +kernel
theorem own_pd_4 : parseMethodDescriptor "(I)I" = some ⟨[.int], some .int⟩ := by decide +kernel
theorem own_d_jdk_52_method_2_4 : decode jdk_52_method_2_code 4 = .ok (.newarray .byte, 2) := by decide +kernel
theorem own_d_jdk_52_method_2_6 : decode jdk_52_method_2_code 6 = .ok (.areturn, 1) := by decide +kernel
def own_nbf_Q (Z : State)  (h0 : Heap) (n0 : Nat) (v : Option Value) (h : Heap) (L : List Loc) : Prop := ∃ (o0 : Addr), v = some (.ref o0) ∧ Fr n0 L ∧ Keep h0 h [] ∧ h0.size ≤ o0 ∧ own_A Z h o0 .byte 140 (fun _ => (0 : Int32))
abbrev own_y2 : MethodName := ⟨"java/lang/StringUTF16", "newBytesFor", "(I)[B"⟩
theorem own_nbf_ef (m : MethodId)  : entryFrame m #[(.int (70 : Int32))] 1 = mkF m 0 #[.val (.int (70 : Int32))] [] := by first | (simp [entryFrame, mkF, argsToLocals, Value.category]; done) | rfl
set_option maxRecDepth 65536 in
set_option maxHeartbeats 40000000 in
theorem own_nbf (l : Launch) (Z : State) (a0 : Array Value) (hw : ∀ d ∈ tables_1, d.before a0 Z = true) (ws : List Jvm.Cond)  (h0 : Heap) (n0 : Nat) (Z0 : n0 ≤ h0.size)  :
    MetFree l own_y2 (head1 (Jvm.Cond.code own_y2 jdk_52_method_2_code 1 (some (.array .byte)) :: ws) ({ frames := 1, cells := 1, slots := 140, locals := 12 } : Room)) (fun a U => a = #[(.int (70 : Int32))] ∧ Z.Warmed39 U.vm ∧ U.heap = h0) (fun _ _ _ _ _ => True) (fun _ U o U' => ∃ v L, o = .returned v ∧ own_nbf_Q Z  h0 n0 v U'.heap L ∧ FrameEnd U o U' L ({ frames := 1, cells := 1, slots := 140, locals := 12 } : Room).cells ({ frames := 1, cells := 1, slots := 140, locals := 12 } : Room).slots) := by
  refine MetFree.of_bodySF (plainFor_of_name own_pn_StringUTF16) hisR ?_
  intro p e s m args below meth c s₁ Bd hml0 hP hK
  obtain ⟨rfl, hZ, hh⟩ := hP
  have hx := Bd.exec
  have hby := Bd.bytes
  have hml : c.maxLocals = 1 := hml0
  have hown : s.vm.findClass "java/lang/StringUTF16" = some m.cls := findClass_of_methodNamed Bd.named
  have hnm := (name_of_methodNamed Bd.named Bd.method).1
  have X0 : Stand p l e ({ frames := 1, cells := 1, slots := 140, locals := 12 } : Room) s m #[(.int (70 : Int32))] below meth c s₁ [] 0 0 := Stand.of_body Bd
  have e0 : s₁.heap = h0 := by rw [← hh, Bd.state]; rfl
  show own_E p e below (own_K (own_nbf_Q Z  h0 n0) s ({ frames := 1, cells := 1, slots := 140, locals := 12 } : Room).cells ({ frames := 1, cells := 1, slots := 140, locals := 12 } : Room).slots) s₁ (entryFrame m #[(.int (70 : Int32))] 1)
  refine own_pre (own_nbf_ef m ) ?_
  show own_E p e below _ s₁ (mkF m 0 #[iv 70] [])
  refine own_st (fun t k => XS.iloadN X0.here hx rfl (hb hby own_d_jdk_52_method_2_0) rfl k) ?_
  show own_E p e below _ s₁ (mkF m 1 #[iv 70] [.int 70])
  obtain ⟨_, _, ⟨T1, L1, k1, n1⟩, -, X1, ⟨Lc1, hQ1, l1, y1, z1⟩, st1⟩ := Jvm.LawKit.callS X0 hx (y := own_y1) hown (mvT hZ (own_w hw 71 rfl)) (mvT hZ (own_w hw 72 rfl)) (mvT hZ (own_w hw 19 rfl)) (mvT hZ (own_w hw 73 rfl)) (by decide) (backOf (W := 0) (own_nbl l Z a0 hw []  h0 n0 Z0 ) hZ (own_w hw 73 rfl) (own_w hw 19 rfl) (by decide) (by decide)) (g := (mkF m 1 #[iv 70] [.int 70])) rfl (by rw [hml]; rfl) (argsL := [(.int (70 : Int32))]) (rest := []) (lenOf own_pd_4 rfl) rfl (by show 2 * 0 + _ ≤ _; exact Nat.le_of_eq rfl) (hb hby own_d_jdk_52_method_2_1) (fun _ _ => ⟨rfl, e0, (by decide : 0 + 0 ≤ _), (by decide : 0 + 0 ≤ _)⟩)
  dsimp only [Pt.U, Pt.locs, Pt.cells, Pt.slots] at X1 l1 y1 z1 st1 hQ1
  subst l1 y1 z1
  obtain ⟨hR1, e1, rfl⟩ := hQ1
  have N1 := Fr.app (Fr.nil n0) (Fr.nil n0)
  obtain rfl := hR1
  refine own_st st1 ?_
  show own_E p e below _ T1 (mkF m 4 #[iv 70] [.int 140])
  obtain ⟨T2, h2, k2, X2, e2, E2, A2, st2⟩ := newP X1 hx hZ (own_w hw 21 rfl) e1 (g := (mkF m 4 #[iv 70] [.int 140])) rfl (hb hby own_d_jdk_52_method_2_4) rfl (by decide) (cap := 140) (by decide) (by decide) (by decide) (by decide)
  obtain ⟨b2, g2⟩ : ∃ z, z = h0.size := ⟨_, rfl⟩
  rw [← g2] at A2 st2
  have g_b2 : n0 ≤ b2 := Nat.le_trans Z0 (Nat.le_of_eq g2.symm)
  have sz_b2 : h0.size ≤ b2 := Nat.le_trans (Keep.refl h0 []).1 (Nat.le_of_eq g2.symm)
  have Z3 := Nat.le_trans Z0 E2.1
  have K4 : Keep h0 _ [] := (Keep.refl h0 []).ext E2
  have Va2 : own_A Z h2 b2 .byte 140 (fun _ => (0 : Int32)) := own_A.of (Arv.new A2 (by decide)) rfl (fun j _ => by simp [defaultValue, newarray.typeOf])
  refine own_st st2 ?_
  show own_E p e below _ T2 (mkF m 6 #[iv 70] [.ref b2])
  refine own_retA X2 hx Bd.notSynchronized Bd.returns rfl rfl (hb hby own_d_jdk_52_method_2_6) (by decide) (by decide) ?_
  show own_nbf_Q Z  h0 n0 _ T2.heap _
  rw [e2]
  exact ⟨b2, rfl, N1, K4, sz_b2, Va2⟩
theorem own_d_jdk_52_method_4_0 : decode jdk_52_method_4_code 0 = .ok (.getstatic 44, 3) := by decide +kernel
theorem own_d_jdk_52_method_4_3 : decode jdk_52_method_4_code 3 = .ok (.ifCond .ne 25, 3) := by decide +kernel
theorem own_d_jdk_52_method_4_28 : decode jdk_52_method_4_code 28 = .ok (.iload_n 1, 1) := by decide +kernel
theorem own_d_jdk_52_method_4_29 : decode jdk_52_method_4_code 29 = .ok (.iconst 1, 1) := by decide +kernel
theorem own_d_jdk_52_method_4_30 : decode jdk_52_method_4_code 30 = .ok (.ishl, 1) := by decide +kernel
theorem own_d_jdk_52_method_4_31 : decode jdk_52_method_4_code 31 = .ok (.istore_n 1, 1) := by decide +kernel
theorem own_d_jdk_52_method_4_32 : decode jdk_52_method_4_code 32 = .ok (.aload_n 0, 1) := by decide +kernel
theorem own_d_jdk_52_method_4_33 : decode jdk_52_method_4_code 33 = .ok (.iload_n 1, 1) := by decide +kernel
theorem own_d_jdk_52_method_4_34 : decode jdk_52_method_4_code 34 = .ok (.iinc 1 1, 3) := by decide +kernel
theorem own_d_jdk_52_method_4_37 : decode jdk_52_method_4_code 37 = .ok (.iload_n 2, 1) := by decide +kernel
theorem own_d_jdk_52_method_4_38 : decode jdk_52_method_4_code 38 = .ok (.getstatic 59, 3) := by decide +kernel
theorem own_d_jdk_52_method_4_41 : decode jdk_52_method_4_code 41 = .ok (.ishr, 1) := by decide +kernel
theorem own_d_jdk_52_method_4_42 : decode jdk_52_method_4_code 42 = .ok (.i2b, 1) := by decide +kernel
theorem own_d_jdk_52_method_4_43 : decode jdk_52_method_4_code 43 = .ok (.bastore, 1) := by decide +kernel
theorem own_d_jdk_52_method_4_44 : decode jdk_52_method_4_code 44 = .ok (.aload_n 0, 1) := by decide +kernel
theorem own_d_jdk_52_method_4_45 : decode jdk_52_method_4_code 45 = .ok (.iload_n 1, 1) := by decide +kernel
theorem own_d_jdk_52_method_4_46 : decode jdk_52_method_4_code 46 = .ok (.iload_n 2, 1) := by decide +kernel
theorem own_d_jdk_52_method_4_47 : decode jdk_52_method_4_code 47 = .ok (.getstatic 63, 3) := by decide +kernel
theorem own_d_jdk_52_method_4_50 : decode jdk_52_method_4_code 50 = .ok (.ishr, 1) := by decide +kernel
theorem own_d_jdk_52_method_4_51 : decode jdk_52_method_4_code 51 = .ok (.i2b, 1) := by decide +kernel
theorem own_d_jdk_52_method_4_52 : decode jdk_52_method_4_code 52 = .ok (.bastore, 1) := by decide +kernel
theorem own_d_jdk_52_method_4_53 : decode jdk_52_method_4_code 53 = .ok (.return_, 1) := by decide +kernel
def own_putc_Q (Z : State) (b1 : Addr) (i : Nat) (p1 : Int32) (g : Nat → Int32) (zc : Int32) (rs : Value) (h0 : Heap) (n0 : Nat) (v : Option Value) (h : Heap) (L : List Loc) : Prop := v = none ∧ Fr n0 L ∧ Keep h0 h [b1] ∧ own_A Z h b1 .byte 140 (fun k => if k = (2 * i + 1) then nar .byte ((p1 >>> ((8 : Int32) &&& 31)).toInt8.toInt32) else (fun k => if k = (2 * i) then nar .byte ((p1 >>> ((0 : Int32) &&& 31)).toInt8.toInt32) else g k) k)
abbrev own_y3 : MethodName := ⟨"java/lang/StringUTF16", "putChar", "([BII)V"⟩
theorem own_putc_ef (m : MethodId) (b1 : Addr) (i : Nat) (p1 : Int32) (g : Nat → Int32) (zc : Int32) (rs : Value) : entryFrame m #[(.ref b1), (.int (own_n i)), (.int p1)] 3 = mkF m 0 #[.val (.ref b1), .val (.int (own_n i)), .val (.int p1)] [] := by first | (simp [entryFrame, mkF, argsToLocals, Value.category]; done) | rfl
set_option maxRecDepth 65536 in
set_option maxHeartbeats 40000000 in
theorem own_putc (l : Launch) (Z : State) (a0 : Array Value) (hw : ∀ d ∈ tables_1, d.before a0 Z = true) (ws : List Jvm.Cond) (b1 : Addr) (i : Nat) (p1 : Int32) (g : Nat → Int32) (zc : Int32) (rs : Value) (h0 : Heap) (n0 : Nat) (Z0 : n0 ≤ h0.size) (hi : i < 70) (SX : own_St Z h0 zc rs) (VA_b1 : own_A Z h0 b1 .byte 140 g) (g_b1 : n0 ≤ b1) :
    MetFree l own_y3 (head1 (Jvm.Cond.code own_y3 jdk_52_method_4_code 3 none :: ws) ({ frames := 0, cells := 0, slots := 0, locals := 0 } : Room)) (fun a U => a = #[(.ref b1), (.int (own_n i)), (.int p1)] ∧ Z.Warmed39 U.vm ∧ U.heap = h0) (fun _ _ _ _ _ => True) (fun _ U o U' => ∃ v L, o = .returned v ∧ own_putc_Q Z b1 i p1 g zc rs h0 n0 v U'.heap L ∧ FrameEnd U o U' L ({ frames := 0, cells := 0, slots := 0, locals := 0 } : Room).cells ({ frames := 0, cells := 0, slots := 0, locals := 0 } : Room).slots) := by
  refine MetFree.of_bodySF (plainFor_of_name own_pn_StringUTF16) hisR ?_
  intro p e s m args below meth c s₁ Bd hml0 hP hK
  obtain ⟨rfl, hZ, hh⟩ := hP
  have hx := Bd.exec
  have hby := Bd.bytes
  have hml : c.maxLocals = 3 := hml0
  have hown : s.vm.findClass "java/lang/StringUTF16" = some m.cls := findClass_of_methodNamed Bd.named
  have hnm := (name_of_methodNamed Bd.named Bd.method).1
  have X0 : Stand p l e ({ frames := 0, cells := 0, slots := 0, locals := 0 } : Room) s m #[(.ref b1), (.int (own_n i)), (.int p1)] below meth c s₁ [] 0 0 := Stand.of_body Bd
  have e0 : s₁.heap = h0 := by rw [← hh, Bd.state]; rfl
  show own_E p e below (own_K (own_putc_Q Z b1 i p1 g zc rs h0 n0) s ({ frames := 0, cells := 0, slots := 0, locals := 0 } : Room).cells ({ frames := 0, cells := 0, slots := 0, locals := 0 } : Room).slots) s₁ (entryFrame m #[(.ref b1), (.int (own_n i)), (.int p1)] 3)
  refine own_pre (own_putc_ef m b1 i p1 g zc rs) ?_
  show own_E p e below _ s₁ (mkF m 0 #[rv b1, iv (own_n i), iv p1] [])
  obtain ⟨T1, X1, e1, st1⟩ := getS2 X0 hx hZ hown (host := "") (Or.inl (own_w hw 78 rfl)) Via.refl e0 (SX.keep (Keep.refl h0 [b1]) (nsS VA_b1.nostat ns0)).2.1 (g := (mkF m 0 #[rv b1, iv (own_n i), iv p1] [])) rfl (hb hby own_d_jdk_52_method_4_0)
  refine own_st st1 ?_
  show own_E p e below _ T1 (mkF m 3 #[rv b1, iv (own_n i), iv p1] [.int 1])
  refine own_st (fun t k => XS.ifYes X1.here hx rfl (pc0 := 3) (pc' := 28) rfl (hb hby own_d_jdk_52_method_4_3) rfl (by decide) (by decide) (by decide) k) ?_
  show own_E p e below _ T1 (mkF m 28 #[rv b1, iv (own_n i), iv p1] [])
  refine own_st (fun t k => XS.iloadN X1.here hx rfl (hb hby own_d_jdk_52_method_4_28) rfl k) ?_
  show own_E p e below _ T1 (mkF m 29 #[rv b1, iv (own_n i), iv p1] [.int (own_n i)])
  refine own_st (fun t k => XS.iconst X1.here hx rfl (hb hby own_d_jdk_52_method_4_29) k) ?_
  show own_E p e below _ T1 (mkF m 30 #[rv b1, iv (own_n i), iv p1] [.int 1, .int (own_n i)])
  refine own_st (fun t k => XS.ishl X1.here hx rfl (hb hby own_d_jdk_52_method_4_30) rfl k) ?_
  show own_E p e below _ T1 (mkF m 31 #[rv b1, iv (own_n i), iv p1] [.int ((own_n i) <<< ((1 : Int32) &&& 31))])
  rw [own_shl (by omega)]
  show own_E p e below _ T1 (mkF m 31 #[rv b1, iv (own_n i), iv p1] [.int (own_n (2 * i))])
  refine own_st (fun t k => XS.istoreN X1.here hx rfl (hb hby own_d_jdk_52_method_4_31) rfl (l' := #[rv b1, iv (own_n (2 * i)), iv p1]) rfl k) ?_
  show own_E p e below _ T1 (mkF m 32 #[rv b1, iv (own_n (2 * i)), iv p1] [])
  refine own_st (fun t k => XS.aloadN X1.here hx rfl (hb hby own_d_jdk_52_method_4_32) rfl rfl k) ?_
  show own_E p e below _ T1 (mkF m 33 #[rv b1, iv (own_n (2 * i)), iv p1] [.ref b1])
  refine own_st (fun t k => XS.iloadN X1.here hx rfl (hb hby own_d_jdk_52_method_4_33) rfl k) ?_
  show own_E p e below _ T1 (mkF m 34 #[rv b1, iv (own_n (2 * i)), iv p1] [.int (own_n (2 * i)), .ref b1])
  refine own_st (fun t k => XS.iinc X1.here hx rfl (hb hby own_d_jdk_52_method_4_34) rfl (l' := #[rv b1, iv ((own_n (2 * i)) + (1 : Int32)), iv p1]) rfl k) ?_
  show own_E p e below _ T1 (mkF m 37 #[rv b1, iv ((own_n (2 * i)) + (1 : Int32)), iv p1] [.int (own_n (2 * i)), .ref b1])
  rw [own_ns (by omega)]
  show own_E p e below _ T1 (mkF m 37 #[rv b1, iv (own_n (2 * i + 1)), iv p1] [.int (own_n (2 * i)), .ref b1])
  refine own_st (fun t k => XS.iloadN X1.here hx rfl (hb hby own_d_jdk_52_method_4_37) rfl k) ?_
  show own_E p e below _ T1 (mkF m 38 #[rv b1, iv (own_n (2 * i + 1)), iv p1] [.int p1, .int (own_n (2 * i)), .ref b1])
  obtain ⟨T2, X2, e2, st2⟩ := getS2 X1 hx hZ hown (host := "") (Or.inl (own_w hw 79 rfl)) Via.refl e1 (SX.keep (Keep.refl h0 [b1]) (nsS VA_b1.nostat ns0)).2.2.1 (g := (mkF m 38 #[rv b1, iv (own_n (2 * i + 1)), iv p1] [.int p1, .int (own_n (2 * i)), .ref b1])) rfl (hb hby own_d_jdk_52_method_4_38)
  refine own_st st2 ?_
  show own_E p e below _ T2 (mkF m 41 #[rv b1, iv (own_n (2 * i + 1)), iv p1] [.int 0, .int p1, .int (own_n (2 * i)), .ref b1])
  refine own_st (fun t k => XS.ishr X2.here hx rfl (hb hby own_d_jdk_52_method_4_41) rfl k) ?_
  show own_E p e below _ T2 (mkF m 42 #[rv b1, iv (own_n (2 * i + 1)), iv p1] [.int (p1 >>> ((0 : Int32) &&& 31)), .int (own_n (2 * i)), .ref b1])
  refine own_st (fun t k => XS.i2b X2.here hx rfl (hb hby own_d_jdk_52_method_4_42) rfl k) ?_
  show own_E p e below _ T2 (mkF m 43 #[rv b1, iv (own_n (2 * i + 1)), iv p1] [.int ((p1 >>> ((0 : Int32) &&& 31)).toInt8.toInt32), .int (own_n (2 * i)), .ref b1])
  obtain ⟨T3, h3, X3, e3, W3, Aw3, st3⟩ := own_A_bst X2 hx hZ e2 VA_b1 (j := (own_n (2 * i))) (x := ((p1 >>> ((0 : Int32) &&& 31)).toInt8.toInt32)) (i := (2 * i)) (own_n0 (by omega)) (own_nN (by omega)) (by omega) (g := (mkF m 43 #[rv b1, iv (own_n (2 * i + 1)), iv p1] [.int ((p1 >>> ((0 : Int32) &&& 31)).toInt8.toInt32), .int (own_n (2 * i)), .ref b1])) rfl rfl (hb hby own_d_jdk_52_method_4_43)
  have N3 := Fr.snoc X3 (Fr.nil n0) g_b1
  have Z4 := Nat.le_trans Z0 (Keep.of_wr W3).1
  have K5 : Keep h0 _ [b1] := (Keep.refl h0 [b1]).wr W3 (Or.inl (List.mem_of_getElem? (i := 0) rfl))
  refine own_st st3 ?_
  show own_E p e below _ T3 (mkF m 44 #[rv b1, iv (own_n (2 * i + 1)), iv p1] [])
  refine own_st (fun t k => XS.aloadN X3.here hx rfl (hb hby own_d_jdk_52_method_4_44) rfl rfl k) ?_
  show own_E p e below _ T3 (mkF m 45 #[rv b1, iv (own_n (2 * i + 1)), iv p1] [.ref b1])
  refine own_st (fun t k => XS.iloadN X3.here hx rfl (hb hby own_d_jdk_52_method_4_45) rfl k) ?_
  show own_E p e below _ T3 (mkF m 46 #[rv b1, iv (own_n (2 * i + 1)), iv p1] [.int (own_n (2 * i + 1)), .ref b1])
  refine own_st (fun t k => XS.iloadN X3.here hx rfl (hb hby own_d_jdk_52_method_4_46) rfl k) ?_
  show own_E p e below _ T3 (mkF m 47 #[rv b1, iv (own_n (2 * i + 1)), iv p1] [.int p1, .int (own_n (2 * i + 1)), .ref b1])
  obtain ⟨T6, X6, e6, st6⟩ := getS2 X3 hx hZ hown (host := "") (Or.inl (own_w hw 80 rfl)) Via.refl e3 (SX.keep K5 (nsS VA_b1.nostat ns0)).2.2.2.1 (g := (mkF m 47 #[rv b1, iv (own_n (2 * i + 1)), iv p1] [.int p1, .int (own_n (2 * i + 1)), .ref b1])) rfl (hb hby own_d_jdk_52_method_4_47)
  refine own_st st6 ?_
  show own_E p e below _ T6 (mkF m 50 #[rv b1, iv (own_n (2 * i + 1)), iv p1] [.int 8, .int p1, .int (own_n (2 * i + 1)), .ref b1])
  refine own_st (fun t k => XS.ishr X6.here hx rfl (hb hby own_d_jdk_52_method_4_50) rfl k) ?_
  show own_E p e below _ T6 (mkF m 51 #[rv b1, iv (own_n (2 * i + 1)), iv p1] [.int (p1 >>> ((8 : Int32) &&& 31)), .int (own_n (2 * i + 1)), .ref b1])
  refine own_st (fun t k => XS.i2b X6.here hx rfl (hb hby own_d_jdk_52_method_4_51) rfl k) ?_
  show own_E p e below _ T6 (mkF m 52 #[rv b1, iv (own_n (2 * i + 1)), iv p1] [.int ((p1 >>> ((8 : Int32) &&& 31)).toInt8.toInt32), .int (own_n (2 * i + 1)), .ref b1])
  obtain ⟨T7, h7, X7, e7, W7, Aw7, st7⟩ := own_A_bst X6 hx hZ e6 Aw3 (j := (own_n (2 * i + 1))) (x := ((p1 >>> ((8 : Int32) &&& 31)).toInt8.toInt32)) (i := (2 * i + 1)) (own_n0 (by omega)) (own_nN (by omega)) (by omega) (g := (mkF m 52 #[rv b1, iv (own_n (2 * i + 1)), iv p1] [.int ((p1 >>> ((8 : Int32) &&& 31)).toInt8.toInt32), .int (own_n (2 * i + 1)), .ref b1])) rfl rfl (hb hby own_d_jdk_52_method_4_52)
  have N7 := Fr.snoc X7 N3 g_b1
  have Z8 := Nat.le_trans Z4 (Keep.of_wr W7).1
  have K9 : Keep h0 _ [b1] := K5.wr W7 (Or.inl (List.mem_of_getElem? (i := 0) rfl))
  refine own_st st7 ?_
  show own_E p e below _ T7 (mkF m 53 #[rv b1, iv (own_n (2 * i + 1)), iv p1] [])
  refine own_retV X7 hx Bd.notSynchronized Bd.returns (hb hby own_d_jdk_52_method_4_53) (by decide) (by decide) ?_
  show own_putc_Q Z b1 i p1 g zc rs h0 n0 _ T7.heap _
  rw [e7]
  exact ⟨rfl, N7, K9, Aw7⟩
theorem own_d_jdk_52_method_5_0 : decode jdk_52_method_5_code 0 = .ok (.getstatic 44, 3) := by decide +kernel
theorem own_d_jdk_52_method_5_3 : decode jdk_52_method_5_code 3 = .ok (.ifCond .ne 25, 3) := by decide +kernel
theorem own_d_jdk_52_method_5_28 : decode jdk_52_method_5_code 28 = .ok (.iload_n 1, 1) := by decide +kernel
theorem own_d_jdk_52_method_5_29 : decode jdk_52_method_5_code 29 = .ok (.iconst 1, 1) := by decide +kernel
theorem own_d_jdk_52_method_5_30 : decode jdk_52_method_5_code 30 = .ok (.ishl, 1) := by decide +kernel
theorem own_d_jdk_52_method_5_31 : decode jdk_52_method_5_code 31 = .ok (.istore_n 1, 1) := by decide +kernel
theorem own_d_jdk_52_method_5_32 : decode jdk_52_method_5_code 32 = .ok (.aload_n 0, 1) := by decide +kernel
theorem own_d_jdk_52_method_5_33 : decode jdk_52_method_5_code 33 = .ok (.iload_n 1, 1) := by decide +kernel
theorem own_d_jdk_52_method_5_34 : decode jdk_52_method_5_code 34 = .ok (.iinc 1 1, 3) := by decide +kernel
theorem own_d_jdk_52_method_5_37 : decode jdk_52_method_5_code 37 = .ok (.baload, 1) := by decide +kernel
theorem own_d_jdk_52_method_5_38 : decode jdk_52_method_5_code 38 = .ok (.sipush 255, 3) := by decide +kernel
theorem own_d_jdk_52_method_5_41 : decode jdk_52_method_5_code 41 = .ok (.iand, 1) := by decide +kernel
theorem own_d_jdk_52_method_5_42 : decode jdk_52_method_5_code 42 = .ok (.getstatic 59, 3) := by decide +kernel
theorem own_d_jdk_52_method_5_45 : decode jdk_52_method_5_code 45 = .ok (.ishl, 1) := by decide +kernel
theorem own_d_jdk_52_method_5_46 : decode jdk_52_method_5_code 46 = .ok (.aload_n 0, 1) := by decide +kernel
theorem own_d_jdk_52_method_5_47 : decode jdk_52_method_5_code 47 = .ok (.iload_n 1, 1) := by decide +kernel
theorem own_d_jdk_52_method_5_48 : decode jdk_52_method_5_code 48 = .ok (.baload, 1) := by decide +kernel
theorem own_d_jdk_52_method_5_49 : decode jdk_52_method_5_code 49 = .ok (.sipush 255, 3) := by decide +kernel
theorem own_d_jdk_52_method_5_52 : decode jdk_52_method_5_code 52 = .ok (.iand, 1) := by decide +kernel
theorem own_d_jdk_52_method_5_53 : decode jdk_52_method_5_code 53 = .ok (.getstatic 63, 3) := by decide +kernel
theorem own_d_jdk_52_method_5_56 : decode jdk_52_method_5_code 56 = .ok (.ishl, 1) := by decide +kernel
theorem own_d_jdk_52_method_5_57 : decode jdk_52_method_5_code 57 = .ok (.ior, 1) := by decide +kernel
theorem own_d_jdk_52_method_5_58 : decode jdk_52_method_5_code 58 = .ok (.i2c, 1) := by decide +kernel
theorem own_d_jdk_52_method_5_59 : decode jdk_52_method_5_code 59 = .ok (.ireturn, 1) := by decide +kernel
def own_getc_Q (b1 : Addr) (i : Nat) (f : Nat → Int32) (g : Nat → Int32) (zc : Int32) (rs : Value) (h0 : Heap) (v : Option Value) (h : Heap) (L : List Loc) : Prop := ((v = some (.int (f i)))) ∧ h = h0 ∧ L = []
abbrev own_y4 : MethodName := ⟨"java/lang/StringUTF16", "getChar", "([BI)C"⟩
theorem own_getc_ef (m : MethodId) (b1 : Addr) (i : Nat) (f : Nat → Int32) (g : Nat → Int32) (zc : Int32) (rs : Value) : entryFrame m #[(.ref b1), (.int (own_n i))] 2 = mkF m 0 #[.val (.ref b1), .val (.int (own_n i))] [] := by first | (simp [entryFrame, mkF, argsToLocals, Value.category]; done) | rfl
set_option maxRecDepth 65536 in
set_option maxHeartbeats 40000000 in
theorem own_getc (l : Launch) (Z : State) (a0 : Array Value) (hw : ∀ d ∈ tables_1, d.before a0 Z = true) (ws : List Jvm.Cond) (b1 : Addr) (i : Nat) (f : Nat → Int32) (g : Nat → Int32) (zc : Int32) (rs : Value) (h0 : Heap) (n0 : Nat) (Z0 : n0 ≤ h0.size) (hi : i < 70) (hC : own_C f) (hU : own_U g f 70) (SX : own_St Z h0 zc rs) (VA_b1 : own_A Z h0 b1 .byte 140 g) :
    MetFree l own_y4 (head1 (Jvm.Cond.code own_y4 jdk_52_method_5_code 2 (some .char) :: ws) ({ frames := 0, cells := 0, slots := 0, locals := 0 } : Room)) (fun a U => a = #[(.ref b1), (.int (own_n i))] ∧ Z.Warmed39 U.vm ∧ U.heap = h0) (fun _ _ _ _ _ => True) (fun _ U o U' => ∃ v L, o = .returned v ∧ own_getc_Q b1 i f g zc rs h0 v U'.heap L ∧ FrameEnd U o U' L ({ frames := 0, cells := 0, slots := 0, locals := 0 } : Room).cells ({ frames := 0, cells := 0, slots := 0, locals := 0 } : Room).slots) := by
  refine MetFree.of_bodySF (plainFor_of_name own_pn_StringUTF16) hisR ?_
  intro p e s m args below meth c s₁ Bd hml0 hP hK
  obtain ⟨rfl, hZ, hh⟩ := hP
  have hx := Bd.exec
  have hby := Bd.bytes
  have hml : c.maxLocals = 2 := hml0
  have hown : s.vm.findClass "java/lang/StringUTF16" = some m.cls := findClass_of_methodNamed Bd.named
  have hnm := (name_of_methodNamed Bd.named Bd.method).1
  have X0 : Stand p l e ({ frames := 0, cells := 0, slots := 0, locals := 0 } : Room) s m #[(.ref b1), (.int (own_n i))] below meth c s₁ [] 0 0 := Stand.of_body Bd
  have e0 : s₁.heap = h0 := by rw [← hh, Bd.state]; rfl
  show own_E p e below (own_K (own_getc_Q b1 i f g zc rs h0) s ({ frames := 0, cells := 0, slots := 0, locals := 0 } : Room).cells ({ frames := 0, cells := 0, slots := 0, locals := 0 } : Room).slots) s₁ (entryFrame m #[(.ref b1), (.int (own_n i))] 2)
  refine own_pre (own_getc_ef m b1 i f g zc rs) ?_
  show own_E p e below _ s₁ (mkF m 0 #[rv b1, iv (own_n i)] [])
  obtain ⟨T1, X1, e1, st1⟩ := getS2 X0 hx hZ hown (host := "") (Or.inl (own_w hw 78 rfl)) Via.refl e0 SX.2.1 (g := (mkF m 0 #[rv b1, iv (own_n i)] [])) rfl (hb hby own_d_jdk_52_method_5_0)
  refine own_st st1 ?_
  show own_E p e below _ T1 (mkF m 3 #[rv b1, iv (own_n i)] [.int 1])
  refine own_st (fun t k => XS.ifYes X1.here hx rfl (pc0 := 3) (pc' := 28) rfl (hb hby own_d_jdk_52_method_5_3) rfl (by decide) (by decide) (by decide) k) ?_
  show own_E p e below _ T1 (mkF m 28 #[rv b1, iv (own_n i)] [])
  refine own_st (fun t k => XS.iloadN X1.here hx rfl (hb hby own_d_jdk_52_method_5_28) rfl k) ?_
  show own_E p e below _ T1 (mkF m 29 #[rv b1, iv (own_n i)] [.int (own_n i)])
  refine own_st (fun t k => XS.iconst X1.here hx rfl (hb hby own_d_jdk_52_method_5_29) k) ?_
  show own_E p e below _ T1 (mkF m 30 #[rv b1, iv (own_n i)] [.int 1, .int (own_n i)])
  refine own_st (fun t k => XS.ishl X1.here hx rfl (hb hby own_d_jdk_52_method_5_30) rfl k) ?_
  show own_E p e below _ T1 (mkF m 31 #[rv b1, iv (own_n i)] [.int ((own_n i) <<< ((1 : Int32) &&& 31))])
  rw [own_shl (by omega)]
  show own_E p e below _ T1 (mkF m 31 #[rv b1, iv (own_n i)] [.int (own_n (2 * i))])
  refine own_st (fun t k => XS.istoreN X1.here hx rfl (hb hby own_d_jdk_52_method_5_31) rfl (l' := #[rv b1, iv (own_n (2 * i))]) rfl k) ?_
  show own_E p e below _ T1 (mkF m 32 #[rv b1, iv (own_n (2 * i))] [])
  refine own_st (fun t k => XS.aloadN X1.here hx rfl (hb hby own_d_jdk_52_method_5_32) rfl rfl k) ?_
  show own_E p e below _ T1 (mkF m 33 #[rv b1, iv (own_n (2 * i))] [.ref b1])
  refine own_st (fun t k => XS.iloadN X1.here hx rfl (hb hby own_d_jdk_52_method_5_33) rfl k) ?_
  show own_E p e below _ T1 (mkF m 34 #[rv b1, iv (own_n (2 * i))] [.int (own_n (2 * i)), .ref b1])
  refine own_st (fun t k => XS.iinc X1.here hx rfl (hb hby own_d_jdk_52_method_5_34) rfl (l' := #[rv b1, iv ((own_n (2 * i)) + (1 : Int32))]) rfl k) ?_
  show own_E p e below _ T1 (mkF m 37 #[rv b1, iv ((own_n (2 * i)) + (1 : Int32))] [.int (own_n (2 * i)), .ref b1])
  rw [own_ns (by omega)]
  show own_E p e below _ T1 (mkF m 37 #[rv b1, iv (own_n (2 * i + 1))] [.int (own_n (2 * i)), .ref b1])
  refine own_st (own_A_bld X1 hx hZ e1 VA_b1 (j := (own_n (2 * i))) (i := (2 * i)) (own_n0 (by omega)) (own_nN (by omega)) (by omega) (g := (mkF m 37 #[rv b1, iv (own_n (2 * i + 1))] [.int (own_n (2 * i)), .ref b1])) rfl rfl (hb hby own_d_jdk_52_method_5_37)) ?_
  show own_E p e below _ T1 (mkF m 38 #[rv b1, iv (own_n (2 * i + 1))] [.int (g (2 * i))])
  refine own_st (fun t k => XS.sipush X1.here hx rfl (hb hby own_d_jdk_52_method_5_38) k) ?_
  show own_E p e below _ T1 (mkF m 41 #[rv b1, iv (own_n (2 * i + 1))] [.int 255, .int (g (2 * i))])
  refine own_st (fun t k => XS.iand X1.here hx rfl (hb hby own_d_jdk_52_method_5_41) rfl k) ?_
  show own_E p e below _ T1 (mkF m 42 #[rv b1, iv (own_n (2 * i + 1))] [.int ((g (2 * i)) &&& (255 : Int32))])
  obtain ⟨T2, X2, e2, st2⟩ := getS2 X1 hx hZ hown (host := "") (Or.inl (own_w hw 79 rfl)) Via.refl e1 SX.2.2.1 (g := (mkF m 42 #[rv b1, iv (own_n (2 * i + 1))] [.int ((g (2 * i)) &&& (255 : Int32))])) rfl (hb hby own_d_jdk_52_method_5_42)
  refine own_st st2 ?_
  show own_E p e below _ T2 (mkF m 45 #[rv b1, iv (own_n (2 * i + 1))] [.int 0, .int ((g (2 * i)) &&& (255 : Int32))])
  refine own_st (fun t k => XS.ishl X2.here hx rfl (hb hby own_d_jdk_52_method_5_45) rfl k) ?_
  show own_E p e below _ T2 (mkF m 46 #[rv b1, iv (own_n (2 * i + 1))] [.int (((g (2 * i)) &&& (255 : Int32)) <<< ((0 : Int32) &&& 31))])
  refine own_st (fun t k => XS.aloadN X2.here hx rfl (hb hby own_d_jdk_52_method_5_46) rfl rfl k) ?_
  show own_E p e below _ T2 (mkF m 47 #[rv b1, iv (own_n (2 * i + 1))] [.ref b1, .int (((g (2 * i)) &&& (255 : Int32)) <<< ((0 : Int32) &&& 31))])
  refine own_st (fun t k => XS.iloadN X2.here hx rfl (hb hby own_d_jdk_52_method_5_47) rfl k) ?_
  show own_E p e below _ T2 (mkF m 48 #[rv b1, iv (own_n (2 * i + 1))] [.int (own_n (2 * i + 1)), .ref b1, .int (((g (2 * i)) &&& (255 : Int32)) <<< ((0 : Int32) &&& 31))])
  refine own_st (own_A_bld X2 hx hZ e2 VA_b1 (j := (own_n (2 * i + 1))) (i := (2 * i + 1)) (own_n0 (by omega)) (own_nN (by omega)) (by omega) (g := (mkF m 48 #[rv b1, iv (own_n (2 * i + 1))] [.int (own_n (2 * i + 1)), .ref b1, .int (((g (2 * i)) &&& (255 : Int32)) <<< ((0 : Int32) &&& 31))])) rfl rfl (hb hby own_d_jdk_52_method_5_48)) ?_
  show own_E p e below _ T2 (mkF m 49 #[rv b1, iv (own_n (2 * i + 1))] [.int (g (2 * i + 1)), .int (((g (2 * i)) &&& (255 : Int32)) <<< ((0 : Int32) &&& 31))])
  refine own_st (fun t k => XS.sipush X2.here hx rfl (hb hby own_d_jdk_52_method_5_49) k) ?_
  show own_E p e below _ T2 (mkF m 52 #[rv b1, iv (own_n (2 * i + 1))] [.int 255, .int (g (2 * i + 1)), .int (((g (2 * i)) &&& (255 : Int32)) <<< ((0 : Int32) &&& 31))])
  refine own_st (fun t k => XS.iand X2.here hx rfl (hb hby own_d_jdk_52_method_5_52) rfl k) ?_
  show own_E p e below _ T2 (mkF m 53 #[rv b1, iv (own_n (2 * i + 1))] [.int ((g (2 * i + 1)) &&& (255 : Int32)), .int (((g (2 * i)) &&& (255 : Int32)) <<< ((0 : Int32) &&& 31))])
  obtain ⟨T3, X3, e3, st3⟩ := getS2 X2 hx hZ hown (host := "") (Or.inl (own_w hw 80 rfl)) Via.refl e2 SX.2.2.2.1 (g := (mkF m 53 #[rv b1, iv (own_n (2 * i + 1))] [.int ((g (2 * i + 1)) &&& (255 : Int32)), .int (((g (2 * i)) &&& (255 : Int32)) <<< ((0 : Int32) &&& 31))])) rfl (hb hby own_d_jdk_52_method_5_53)
  refine own_st st3 ?_
  show own_E p e below _ T3 (mkF m 56 #[rv b1, iv (own_n (2 * i + 1))] [.int 8, .int ((g (2 * i + 1)) &&& (255 : Int32)), .int (((g (2 * i)) &&& (255 : Int32)) <<< ((0 : Int32) &&& 31))])
  refine own_st (fun t k => XS.ishl X3.here hx rfl (hb hby own_d_jdk_52_method_5_56) rfl k) ?_
  show own_E p e below _ T3 (mkF m 57 #[rv b1, iv (own_n (2 * i + 1))] [.int (((g (2 * i + 1)) &&& (255 : Int32)) <<< ((8 : Int32) &&& 31)), .int (((g (2 * i)) &&& (255 : Int32)) <<< ((0 : Int32) &&& 31))])
  refine own_st (fun t k => XS.ior X3.here hx rfl (hb hby own_d_jdk_52_method_5_57) rfl k) ?_
  show own_E p e below _ T3 (mkF m 58 #[rv b1, iv (own_n (2 * i + 1))] [.int ((((g (2 * i)) &&& (255 : Int32)) <<< ((0 : Int32) &&& 31)) ||| (((g (2 * i + 1)) &&& (255 : Int32)) <<< ((8 : Int32) &&& 31)))])
  refine own_st (fun t k => XS.i2c X3.here hx rfl (hb hby own_d_jdk_52_method_5_58) rfl k) ?_
  show own_E p e below _ T3 (mkF m 59 #[rv b1, iv (own_n (2 * i + 1))] [.int (((((g (2 * i)) &&& (255 : Int32)) <<< ((0 : Int32) &&& 31)) ||| (((g (2 * i + 1)) &&& (255 : Int32)) <<< ((8 : Int32) &&& 31))).toUInt32.toUInt16.toUInt32.toInt32)])
  rw [own_join (hC i hi) (hU i hi).1 (hU i hi).2]
  show own_E p e below _ T3 (mkF m 59 #[rv b1, iv (own_n (2 * i + 1))] [.int (f i)])
  refine own_retS X3 hx Bd.notSynchronized Bd.returns (own_nc (hC i hi)) (by decide) (hb hby own_d_jdk_52_method_5_59) (by decide) (by decide) ?_
  exact ⟨rfl, e3, rfl⟩
theorem own_d_jdk_52_method_14_8 : decode jdk_52_method_14_code 8 = .ok (.iload 4, 2) := by decide +kernel
theorem own_d_jdk_52_method_14_10 : decode jdk_52_method_14_code 10 = .ok (.iload_n 2, 1) := by decide +kernel
theorem own_d_jdk_52_method_14_11 : decode jdk_52_method_14_code 11 = .ok (.if_icmp .ge 21, 3) := by decide +kernel
theorem own_d_jdk_52_method_14_32 : decode jdk_52_method_14_code 32 = .ok (.aload_n 3, 1) := by decide +kernel
theorem own_d_jdk_52_method_14_33 : decode jdk_52_method_14_code 33 = .ok (.areturn, 1) := by decide +kernel
theorem own_d_jdk_52_method_14_14 : decode jdk_52_method_14_code 14 = .ok (.aload_n 3, 1) := by decide +kernel
theorem own_d_jdk_52_method_14_15 : decode jdk_52_method_14_code 15 = .ok (.iload 4, 2) := by decide +kernel
theorem own_d_jdk_52_method_14_17 : decode jdk_52_method_14_code 17 = .ok (.aload_n 0, 1) := by decide +kernel
theorem own_d_jdk_52_method_14_18 : decode jdk_52_method_14_code 18 = .ok (.iload_n 1, 1) := by decide +kernel
theorem own_d_jdk_52_method_14_19 : decode jdk_52_method_14_code 19 = .ok (.caload, 1) := by decide +kernel
theorem own_d_jdk_52_method_14_20 : decode jdk_52_method_14_code 20 = .ok (.invokestatic 111, 3) := by decide +kernel
theorem own_pd_14 : parseMethodDescriptor "([BII)V" = some ⟨[(.array .byte), .int, .int], none⟩ := by decide +kernel
theorem own_d_jdk_52_method_14_23 : decode jdk_52_method_14_code 23 = .ok (.iinc 1 1, 3) := by decide +kernel
theorem own_d_jdk_52_method_14_26 : decode jdk_52_method_14_code 26 = .ok (.iinc 4 1, 3) := by decide +kernel
theorem own_d_jdk_52_method_14_29 : decode jdk_52_method_14_code 29 = .ok (.goto (-21), 3) := by decide +kernel
theorem own_d_jdk_52_method_14_0 : decode jdk_52_method_14_code 0 = .ok (.iload_n 2, 1) := by decide +kernel
theorem own_d_jdk_52_method_14_1 : decode jdk_52_method_14_code 1 = .ok (.invokestatic 107, 3) := by decide +kernel
theorem own_pd_5 : parseMethodDescriptor "(I)[B" = some ⟨[.int], some (.array .byte)⟩ := by decide +kernel
theorem own_d_jdk_52_method_14_4 : decode jdk_52_method_14_code 4 = .ok (.astore_n 3, 1) := by decide +kernel
theorem own_d_jdk_52_method_14_5 : decode jdk_52_method_14_code 5 = .ok (.iconst 0, 1) := by decide +kernel
theorem own_d_jdk_52_method_14_6 : decode jdk_52_method_14_code 6 = .ok (.istore 4, 2) := by decide +kernel
def own_tb_Q (Z : State) (a1 : Addr) (f : Nat → Int32) (h0 : Heap) (n0 : Nat) (v : Option Value) (h : Heap) (L : List Loc) : Prop := ∃ t, v = some (.ref t) ∧ Fr n0 L ∧ Keep h0 h [] ∧ h0.size ≤ t ∧ ∃ g, own_A Z h t .byte 140 g ∧ own_U g f 70
abbrev own_y5 : MethodName := ⟨"java/lang/StringUTF16", "toBytes", "([CII)[B"⟩
theorem own_tb_ef (m : MethodId) (a1 : Addr) (f : Nat → Int32) (zc : Int32) (rs : Value) : entryFrame m #[(.ref a1), (.int (0 : Int32)), (.int (70 : Int32))] 5 = mkF m 0 #[.val (.ref a1), .val (.int (0 : Int32)), .val (.int (70 : Int32)), .unset, .unset] [] := by first | (simp [entryFrame, mkF, argsToLocals, Value.category]; done) | rfl
set_option maxRecDepth 65536 in
set_option maxHeartbeats 40000000 in
theorem own_tb (l : Launch) (Z : State) (a0 : Array Value) (hw : ∀ d ∈ tables_1, d.before a0 Z = true) (ws : List Jvm.Cond) (a1 : Addr) (f : Nat → Int32) (zc : Int32) (rs : Value) (h0 : Heap) (n0 : Nat) (Z0 : n0 ≤ h0.size) (SX : own_St Z h0 zc rs) (VA_a1 : own_A Z h0 a1 .char 70 f) :
    MetFree l own_y5 (head1 (Jvm.Cond.code own_y5 jdk_52_method_14_code 5 (some (.array .byte)) :: ws) ({ frames := 2, cells := 1, slots := 140, locals := 24 } : Room)) (fun a U => a = #[(.ref a1), (.int (0 : Int32)), (.int (70 : Int32))] ∧ Z.Warmed39 U.vm ∧ U.heap = h0) (fun _ _ _ _ _ => True) (fun _ U o U' => ∃ v L, o = .returned v ∧ own_tb_Q Z a1 f h0 n0 v U'.heap L ∧ FrameEnd U o U' L ({ frames := 2, cells := 1, slots := 140, locals := 24 } : Room).cells ({ frames := 2, cells := 1, slots := 140, locals := 24 } : Room).slots) := by
  refine MetFree.of_bodySF (plainFor_of_name own_pn_StringUTF16) hisR ?_
  intro p e s m args below meth c s₁ Bd hml0 hP hK
  obtain ⟨rfl, hZ, hh⟩ := hP
  have hx := Bd.exec
  have hby := Bd.bytes
  have hml : c.maxLocals = 5 := hml0
  have hown : s.vm.findClass "java/lang/StringUTF16" = some m.cls := findClass_of_methodNamed Bd.named
  have hnm := (name_of_methodNamed Bd.named Bd.method).1
  have X0 : Stand p l e ({ frames := 2, cells := 1, slots := 140, locals := 24 } : Room) s m #[(.ref a1), (.int (0 : Int32)), (.int (70 : Int32))] below meth c s₁ [] 0 0 := Stand.of_body Bd
  have e0 : s₁.heap = h0 := by rw [← hh, Bd.state]; rfl
  show own_E p e below (own_K (own_tb_Q Z a1 f h0 n0) s ({ frames := 2, cells := 1, slots := 140, locals := 24 } : Room).cells ({ frames := 2, cells := 1, slots := 140, locals := 24 } : Room).slots) s₁ (entryFrame m #[(.ref a1), (.int (0 : Int32)), (.int (70 : Int32))] 5)
  refine own_pre (own_tb_ef m a1 f zc rs) ?_
  have loop : ∀ (k i : Nat) (T : State) (Lc : List Loc) (g : Nat → Int32) (b : Addr), i + k = 70 → Stand p l e ({ frames := 2, cells := 1, slots := 140, locals := 24 } : Room) s m #[(.ref a1), (.int (0 : Int32)), (.int (70 : Int32))] below meth c T Lc 1 140 → Fr n0 Lc → Keep h0 T.heap [] → h0.size ≤ b → own_A Z T.heap b .byte 140 g → own_U g f i → own_E p e below (own_K (own_tb_Q Z a1 f h0 n0) s ({ frames := 2, cells := 1, slots := 140, locals := 24 } : Room).cells ({ frames := 2, cells := 1, slots := 140, locals := 24 } : Room).slots) T (mkF m 8 #[rv a1, iv (own_n i), iv 70, rv b, iv (own_n i)] []) := by
    intro k
    induction k with
    | zero =>
      intro i T Lc g b hik X N K sz_b VB I
      have eTl : T.heap = T.heap := rfl
      have g_b : n0 ≤ b := Nat.le_trans Z0 sz_b
      have neab : a1 ≠ b := Nat.ne_of_lt (Nat.lt_of_lt_of_le VA_a1.lt sz_b)
      have hnl := own_ge70 (i := i) (by omega) (by omega)
      show own_E p e below _ T (mkF m 8 #[rv a1, iv (own_n i), iv 70, rv b, iv (own_n i)] [])
      refine own_st (fun t k => XS.iload X.here hx rfl (hb hby own_d_jdk_52_method_14_8) rfl k) ?_
      show own_E p e below _ T (mkF m 10 #[rv a1, iv (own_n i), iv 70, rv b, iv (own_n i)] [.int (own_n i)])
      refine own_st (fun t k => XS.iloadN X.here hx rfl (hb hby own_d_jdk_52_method_14_10) rfl k) ?_
      show own_E p e below _ T (mkF m 11 #[rv a1, iv (own_n i), iv 70, rv b, iv (own_n i)] [.int 70, .int (own_n i)])
      refine own_st (fun t k => XS.icmpYes X.here hx rfl (pc0 := 11) (pc' := 32) rfl (hb hby own_d_jdk_52_method_14_11) rfl (flt hnl).2.1 (by decide) (by decide) k) ?_
      show own_E p e below _ T (mkF m 32 #[rv a1, iv (own_n i), iv 70, rv b, iv (own_n i)] [])
      refine own_st (fun t k => XS.aloadN X.here hx rfl (hb hby own_d_jdk_52_method_14_32) rfl rfl k) ?_
      show own_E p e below _ T (mkF m 33 #[rv a1, iv (own_n i), iv 70, rv b, iv (own_n i)] [.ref b])
      refine own_retA X hx Bd.notSynchronized Bd.returns rfl rfl (hb hby own_d_jdk_52_method_14_33) (by decide) (by decide) ?_
      show own_tb_Q Z a1 f h0 n0 _ T.heap _
      have hi70 : i = 70 := by omega
      subst hi70
      exact ⟨b, rfl, N, K, sz_b, g, VB, I⟩
    | succ k ih =>
      intro i T Lc g b hik X N K sz_b VB I
      have eTl : T.heap = T.heap := rfl
      have g_b : n0 ≤ b := Nat.le_trans Z0 sz_b
      have neab : a1 ≠ b := Nat.ne_of_lt (Nat.lt_of_lt_of_le VA_a1.lt sz_b)
      have hi : i < 70 := by omega
      have hlt := own_lt70 hi
      show own_E p e below _ T (mkF m 8 #[rv a1, iv (own_n i), iv 70, rv b, iv (own_n i)] [])
      refine own_st (fun t k => XS.iload X.here hx rfl (hb hby own_d_jdk_52_method_14_8) rfl k) ?_
      show own_E p e below _ T (mkF m 10 #[rv a1, iv (own_n i), iv 70, rv b, iv (own_n i)] [.int (own_n i)])
      refine own_st (fun t k => XS.iloadN X.here hx rfl (hb hby own_d_jdk_52_method_14_10) rfl k) ?_
      show own_E p e below _ T (mkF m 11 #[rv a1, iv (own_n i), iv 70, rv b, iv (own_n i)] [.int 70, .int (own_n i)])
      refine own_st (fun t k => XS.icmpNo X.here hx rfl (hb hby own_d_jdk_52_method_14_11) rfl (tlt hlt).2.1 k) ?_
      show own_E p e below _ T (mkF m 14 #[rv a1, iv (own_n i), iv 70, rv b, iv (own_n i)] [])
      refine own_st (fun t k => XS.aloadN X.here hx rfl (hb hby own_d_jdk_52_method_14_14) rfl rfl k) ?_
      show own_E p e below _ T (mkF m 15 #[rv a1, iv (own_n i), iv 70, rv b, iv (own_n i)] [.ref b])
      refine own_st (fun t k => XS.iload X.here hx rfl (hb hby own_d_jdk_52_method_14_15) rfl k) ?_
      show own_E p e below _ T (mkF m 17 #[rv a1, iv (own_n i), iv 70, rv b, iv (own_n i)] [.int (own_n i), .ref b])
      refine own_st (fun t k => XS.aloadN X.here hx rfl (hb hby own_d_jdk_52_method_14_17) rfl rfl k) ?_
      show own_E p e below _ T (mkF m 18 #[rv a1, iv (own_n i), iv 70, rv b, iv (own_n i)] [.ref a1, .int (own_n i), .ref b])
      refine own_st (fun t k => XS.iloadN X.here hx rfl (hb hby own_d_jdk_52_method_14_18) rfl k) ?_
      show own_E p e below _ T (mkF m 19 #[rv a1, iv (own_n i), iv 70, rv b, iv (own_n i)] [.int (own_n i), .ref a1, .int (own_n i), .ref b])
      refine own_st (own_A_cld X hx hZ eTl (VA_a1.keep K nin0) (j := (own_n i)) (i := i) (own_n0 (by omega)) (own_nN (by omega)) hi (g := (mkF m 19 #[rv a1, iv (own_n i), iv 70, rv b, iv (own_n i)] [.int (own_n i), .ref a1, .int (own_n i), .ref b])) rfl rfl (hb hby own_d_jdk_52_method_14_19)) ?_
      show own_E p e below _ T (mkF m 20 #[rv a1, iv (own_n i), iv 70, rv b, iv (own_n i)] [.int (f i), .int (own_n i), .ref b])
      obtain ⟨_, _, ⟨T1, L1, k1, n1⟩, -, X1, ⟨Lc1, hQ1, l1, y1, z1⟩, st1⟩ := Jvm.LawKit.callS X hx (y := own_y3) hown (mvT hZ (own_w hw 75 rfl)) (mvT hZ (own_w hw 76 rfl)) (mvT hZ (own_w hw 19 rfl)) (mvT hZ (own_w hw 77 rfl)) (by decide) (backOf (W := 0) (own_putc l Z a0 hw [] b i (f i) g zc rs T.heap n0 (Nat.le_trans Z0 K.1) hi (SX.keep K ns0) VB g_b) hZ (own_w hw 77 rfl) (own_w hw 19 rfl) (by decide) (by decide)) (g := (mkF m 20 #[rv a1, iv (own_n i), iv 70, rv b, iv (own_n i)] [.int (f i), .int (own_n i), .ref b])) rfl (by rw [hml]; rfl) (argsL := [(.ref b), (.int (own_n i)), (.int (f i))]) (rest := []) (lenOf own_pd_14 rfl) rfl (by show 2 * 0 + _ ≤ _; exact Nat.le_of_eq rfl) (hb hby own_d_jdk_52_method_14_20) (fun _ _ => ⟨rfl, eTl, (by decide : 1 + 0 ≤ _), (by decide : 140 + 0 ≤ _)⟩)
      dsimp only [Pt.U, Pt.locs, Pt.cells, Pt.slots] at X1 l1 y1 z1 st1 hQ1
      subst l1 y1 z1
      obtain ⟨rfl, Nq1, Kq1, P1_0⟩ := hQ1
      have N1 := Fr.app N Nq1
      have e1 : T1.heap = T1.heap := rfl
      have Z2 := Nat.le_trans (Nat.le_trans Z0 K.1) Kq1.1
      have K3 : Keep h0 _ [] := K.trans Kq1 (allS (P := fun x => x ∈ [] ∨ h0.size ≤ x) (Or.inr sz_b) all0)
      refine own_st st1 ?_
      show own_E p e below _ T1 (mkF m 23 #[rv a1, iv (own_n i), iv 70, rv b, iv (own_n i)] [])
      refine own_st (fun t k => XS.iinc X1.here hx rfl (hb hby own_d_jdk_52_method_14_23) rfl (l' := #[rv a1, iv ((own_n i) + (1 : Int32)), iv 70, rv b, iv (own_n i)]) rfl k) ?_
      show own_E p e below _ T1 (mkF m 26 #[rv a1, iv ((own_n i) + (1 : Int32)), iv 70, rv b, iv (own_n i)] [])
      refine own_st (fun t k => XS.iinc X1.here hx rfl (hb hby own_d_jdk_52_method_14_26) rfl (l' := #[rv a1, iv ((own_n i) + (1 : Int32)), iv 70, rv b, iv ((own_n i) + (1 : Int32))]) rfl k) ?_
      show own_E p e below _ T1 (mkF m 29 #[rv a1, iv ((own_n i) + (1 : Int32)), iv 70, rv b, iv ((own_n i) + (1 : Int32))] [])
      refine own_st (fun t k => XS.goto X1.here hx rfl (pc0 := 29) (pc' := 8) rfl (hb hby own_d_jdk_52_method_14_29) (by decide) (by decide) k) ?_
      show own_E p e below _ T1 (mkF m 8 #[rv a1, iv ((own_n i) + (1 : Int32)), iv 70, rv b, iv ((own_n i) + (1 : Int32))] [])
      rw [own_ns (by omega)]
      refine ih (i + 1) _ _ _ b (by omega) X1 N1 (by rw [e1]; exact K3) sz_b (by rw [e1]; exact P1_0) (own_U_put I ?_ ?_ ?_)
      · simp [nar, own_bb]
      · simp [nar, own_bb]
      · intro k h1 h2; simp [h1, h2]
  show own_E p e below _ s₁ (mkF m 0 #[rv a1, iv 0, iv 70, .unset, .unset] [])
  refine own_st (fun t k => XS.iloadN X0.here hx rfl (hb hby own_d_jdk_52_method_14_0) rfl k) ?_
  show own_E p e below _ s₁ (mkF m 1 #[rv a1, iv 0, iv 70, .unset, .unset] [.int 70])
  obtain ⟨_, _, ⟨T4, L4, k4, n4⟩, -, X4, ⟨Lc4, hQ4, l4, y4, z4⟩, st4⟩ := Jvm.LawKit.callS X0 hx (y := own_y2) hown (mvT hZ (own_w hw 68 rfl)) (mvT hZ (own_w hw 69 rfl)) (mvT hZ (own_w hw 19 rfl)) (mvT hZ (own_w hw 70 rfl)) (by decide) (backOf (W := 0) (own_nbf l Z a0 hw []  h0 n0 Z0 ) hZ (own_w hw 70 rfl) (own_w hw 19 rfl) (by decide) (by decide)) (g := (mkF m 1 #[rv a1, iv 0, iv 70, .unset, .unset] [.int 70])) rfl (by rw [hml]; rfl) (argsL := [(.int (70 : Int32))]) (rest := []) (lenOf own_pd_5 rfl) rfl (by show 2 * 0 + _ ≤ _; exact Nat.le_of_eq rfl) (hb hby own_d_jdk_52_method_14_1) (fun _ _ => ⟨rfl, e0, (by decide : 0 + 1 ≤ _), (by decide : 0 + 140 ≤ _)⟩)
  dsimp only [Pt.U, Pt.locs, Pt.cells, Pt.slots] at X4 l4 y4 z4 st4 hQ4
  subst l4 y4 z4
  obtain ⟨b4_o0, rfl, Nq4, Kq4, sz4_0, P4_0⟩ := hQ4
  have N4 := Fr.app (Fr.nil n0) Nq4
  have ne_a1_b4_o0 : a1 ≠ b4_o0 := Nat.ne_of_lt (Nat.lt_of_lt_of_le VA_a1.lt sz4_0)
  have g_b4_o0 : n0 ≤ b4_o0 := Nat.le_trans Z0 sz4_0
  have sz_b4_o0 : h0.size ≤ b4_o0 := Nat.le_trans (Keep.refl h0 []).1 sz4_0
  have e4 : T4.heap = T4.heap := rfl
  have Z5 := Nat.le_trans Z0 Kq4.1
  have K6 : Keep h0 _ [] := (Keep.refl h0 []).trans Kq4 all0
  refine own_st st4 ?_
  show own_E p e below _ T4 (mkF m 4 #[rv a1, iv 0, iv 70, .unset, .unset] [.ref b4_o0])
  refine own_st (fun t k => XS.astoreN X4.here hx rfl (hb hby own_d_jdk_52_method_14_4) rfl rfl (l' := #[rv a1, iv 0, iv 70, rv b4_o0, .unset]) rfl k) ?_
  show own_E p e below _ T4 (mkF m 5 #[rv a1, iv 0, iv 70, rv b4_o0, .unset] [])
  refine own_st (fun t k => XS.iconst X4.here hx rfl (hb hby own_d_jdk_52_method_14_5) k) ?_
  show own_E p e below _ T4 (mkF m 6 #[rv a1, iv 0, iv 70, rv b4_o0, .unset] [.int 0])
  refine own_st (fun t k => XS.istore X4.here hx rfl (hb hby own_d_jdk_52_method_14_6) rfl (l' := #[rv a1, iv 0, iv 70, rv b4_o0, iv 0]) rfl k) ?_
  show own_E p e below _ T4 (mkF m 8 #[rv a1, iv 0, iv 70, rv b4_o0, iv 0] [])
  exact loop 70 0 _ _ _ b4_o0 rfl X4 N4 (by rw [e4]; exact K6) sz_b4_o0 (by rw [e4]; exact P4_0) (fun j hj => absurd hj (Nat.not_lt_zero j))
theorem own_ne70 {i : Nat} (h : i < 70) : ¬ own_n i = (70 : Int32) := fun q => by
  have := own_lt70 h
  rw [q] at this
  exact absurd this (by decide)
theorem own_d_jdk_52_method_16_0 : decode jdk_52_method_16_code 0 = .ok (.iload_n 2, 1) := by decide +kernel
theorem own_d_jdk_52_method_16_1 : decode jdk_52_method_16_code 1 = .ok (.newarray .byte, 2) := by decide +kernel
theorem own_d_jdk_52_method_16_3 : decode jdk_52_method_16_code 3 = .ok (.astore_n 3, 1) := by decide +kernel
theorem own_d_jdk_52_method_16_4 : decode jdk_52_method_16_code 4 = .ok (.aload_n 0, 1) := by decide +kernel
theorem own_d_jdk_52_method_16_5 : decode jdk_52_method_16_code 5 = .ok (.iload_n 1, 1) := by decide +kernel
theorem own_d_jdk_52_method_16_6 : decode jdk_52_method_16_code 6 = .ok (.aload_n 3, 1) := by decide +kernel
theorem own_d_jdk_52_method_16_7 : decode jdk_52_method_16_code 7 = .ok (.iconst 0, 1) := by decide +kernel
theorem own_d_jdk_52_method_16_8 : decode jdk_52_method_16_code 8 = .ok (.iload_n 2, 1) := by decide +kernel
theorem own_d_jdk_52_method_16_9 : decode jdk_52_method_16_code 9 = .ok (.invokestatic 115, 3) := by decide +kernel
theorem own_pd_19 : parseMethodDescriptor "([CI[BII)I" = some ⟨[(.array .char), .int, (.array .byte), .int, .int], some .int⟩ := by decide +kernel
theorem own_d_jdk_52_method_16_12 : decode jdk_52_method_16_code 12 = .ok (.istore 4, 2) := by decide +kernel
theorem own_d_jdk_52_method_16_14 : decode jdk_52_method_16_code 14 = .ok (.iload 4, 2) := by decide +kernel
theorem own_d_jdk_52_method_16_16 : decode jdk_52_method_16_code 16 = .ok (.iload_n 2, 1) := by decide +kernel
theorem own_d_jdk_52_method_16_17 : decode jdk_52_method_16_code 17 = .ok (.if_icmp .eq 40, 3) := by decide +kernel
theorem own_d_jdk_52_method_16_57 : decode jdk_52_method_16_code 57 = .ok (.aload_n 3, 1) := by decide +kernel
theorem own_d_jdk_52_method_16_58 : decode jdk_52_method_16_code 58 = .ok (.areturn, 1) := by decide +kernel
theorem own_d_jdk_52_method_16_20 : decode jdk_52_method_16_code 20 = .ok (.aload_n 0, 1) := by decide +kernel
theorem own_d_jdk_52_method_16_21 : decode jdk_52_method_16_code 21 = .ok (.iload_n 1, 1) := by decide +kernel
theorem own_d_jdk_52_method_16_22 : decode jdk_52_method_16_code 22 = .ok (.iload_n 2, 1) := by decide +kernel
theorem own_d_jdk_52_method_16_23 : decode jdk_52_method_16_code 23 = .ok (.invokestatic 119, 3) := by decide +kernel
theorem own_pd_16 : parseMethodDescriptor "([CII)[B" = some ⟨[(.array .char), .int, .int], some (.array .byte)⟩ := by decide +kernel
theorem own_d_jdk_52_method_16_26 : decode jdk_52_method_16_code 26 = .ok (.astore 5, 2) := by decide +kernel
theorem own_d_jdk_52_method_16_28 : decode jdk_52_method_16_code 28 = .ok (.aload 5, 2) := by decide +kernel
theorem own_d_jdk_52_method_16_30 : decode jdk_52_method_16_code 30 = .ok (.iload 4, 2) := by decide +kernel
theorem own_d_jdk_52_method_16_32 : decode jdk_52_method_16_code 32 = .ok (.invokestatic 71, 3) := by decide +kernel
theorem own_pd_13 : parseMethodDescriptor "([BI)C" = some ⟨[(.array .byte), .int], some .char⟩ := by decide +kernel
theorem own_d_jdk_52_method_16_35 : decode jdk_52_method_16_code 35 = .ok (.sipush 255, 3) := by decide +kernel
theorem own_d_jdk_52_method_16_38 : decode jdk_52_method_16_code 38 = .ok (.if_icmp .gt 16, 3) := by decide +kernel
theorem own_d_jdk_52_method_16_54 : decode jdk_52_method_16_code 54 = .ok (.aload 5, 2) := by decide +kernel
theorem own_d_jdk_52_method_16_56 : decode jdk_52_method_16_code 56 = .ok (.areturn, 1) := by decide +kernel
def own_c3_Q (Z : State) (f : Nat → Int32) (h0 : Heap) (n0 : Nat) (v : Option Value) (h : Heap) (L : List Loc) : Prop := ∃ t, v = some (.ref t) ∧ Fr n0 L ∧ Keep h0 h [] ∧ h0.size ≤ t ∧ own_Bv Z h t f
abbrev own_y6 : MethodName := ⟨"java/lang/StringUTF16", "compress", "([CII)[B"⟩
theorem own_c3_ef (m : MethodId) (a1 : Addr) (f : Nat → Int32) (zc : Int32) (rs : Value) : entryFrame m #[(.ref a1), (.int (0 : Int32)), (.int (70 : Int32))] 6 = mkF m 0 #[.val (.ref a1), .val (.int (0 : Int32)), .val (.int (70 : Int32)), .unset, .unset, .unset] [] := by first | (simp [entryFrame, mkF, argsToLocals, Value.category]; done) | rfl
set_option maxRecDepth 65536 in
set_option maxHeartbeats 40000000 in
theorem own_c3 (l : Launch) (Z : State) (a0 : Array Value) (hw : ∀ d ∈ tables_1, d.before a0 Z = true) (ws : List Jvm.Cond) (a1 : Addr) (f : Nat → Int32) (zc : Int32) (rs : Value) (h0 : Heap) (n0 : Nat) (Z0 : n0 ≤ h0.size) (hC : own_C f) (SX : own_St Z h0 zc rs) (VA_a1 : own_A Z h0 a1 .char 70 f) :
    MetFree l own_y6 (head1 (Jvm.Cond.code own_y6 jdk_52_method_16_code 6 (some (.array .byte)) :: ws) ({ frames := 3, cells := 2, slots := 210, locals := 40 } : Room)) (fun a U => a = #[(.ref a1), (.int (0 : Int32)), (.int (70 : Int32))] ∧ Z.Warmed39 U.vm ∧ U.heap = h0) (fun _ _ _ _ _ => True) (fun _ U o U' => ∃ v L, o = .returned v ∧ own_c3_Q Z f h0 n0 v U'.heap L ∧ FrameEnd U o U' L ({ frames := 3, cells := 2, slots := 210, locals := 40 } : Room).cells ({ frames := 3, cells := 2, slots := 210, locals := 40 } : Room).slots) := by
  refine MetFree.of_bodySF (plainFor_of_name own_pn_StringUTF16) hisR ?_
  intro p e s m args below meth c s₁ Bd hml0 hP hK
  obtain ⟨rfl, hZ, hh⟩ := hP
  have hx := Bd.exec
  have hby := Bd.bytes
  have hml : c.maxLocals = 6 := hml0
  have hown : s.vm.findClass "java/lang/StringUTF16" = some m.cls := findClass_of_methodNamed Bd.named
  have hnm := (name_of_methodNamed Bd.named Bd.method).1
  have X0 : Stand p l e ({ frames := 3, cells := 2, slots := 210, locals := 40 } : Room) s m #[(.ref a1), (.int (0 : Int32)), (.int (70 : Int32))] below meth c s₁ [] 0 0 := Stand.of_body Bd
  have e0 : s₁.heap = h0 := by rw [← hh, Bd.state]; rfl
  show own_E p e below (own_K (own_c3_Q Z f h0 n0) s ({ frames := 3, cells := 2, slots := 210, locals := 40 } : Room).cells ({ frames := 3, cells := 2, slots := 210, locals := 40 } : Room).slots) s₁ (entryFrame m #[(.ref a1), (.int (0 : Int32)), (.int (70 : Int32))] 6)
  refine own_pre (own_c3_ef m a1 f zc rs) ?_
  show own_E p e below _ s₁ (mkF m 0 #[rv a1, iv 0, iv 70, .unset, .unset, .unset] [])
  refine own_st (fun t k => XS.iloadN X0.here hx rfl (hb hby own_d_jdk_52_method_16_0) rfl k) ?_
  show own_E p e below _ s₁ (mkF m 1 #[rv a1, iv 0, iv 70, .unset, .unset, .unset] [.int 70])
  obtain ⟨T1, h1, k1, X1, e1, E1, A1, st1⟩ := newP X0 hx hZ (own_w hw 21 rfl) e0 (g := (mkF m 1 #[rv a1, iv 0, iv 70, .unset, .unset, .unset] [.int 70])) rfl (hb hby own_d_jdk_52_method_16_1) rfl (by decide) (cap := 70) (by decide) (by decide) (by decide) (by decide)
  obtain ⟨b1, g1⟩ : ∃ z, z = h0.size := ⟨_, rfl⟩
  rw [← g1] at A1 st1
  have ne_a1_b1 : a1 ≠ b1 := Nat.ne_of_lt (Nat.lt_of_lt_of_le VA_a1.lt (Nat.le_of_eq g1.symm))
  have g_b1 : n0 ≤ b1 := Nat.le_trans Z0 (Nat.le_of_eq g1.symm)
  have sz_b1 : h0.size ≤ b1 := Nat.le_trans (Keep.refl h0 []).1 (Nat.le_of_eq g1.symm)
  have Z2 := Nat.le_trans Z0 E1.1
  have K3 : Keep h0 _ [] := (Keep.refl h0 []).ext E1
  have Va1 : own_A Z h1 b1 .byte 70 (fun _ => (0 : Int32)) := own_A.of (Arv.new A1 (by decide)) rfl (fun j _ => by simp [defaultValue, newarray.typeOf])
  refine own_st st1 ?_
  show own_E p e below _ T1 (mkF m 3 #[rv a1, iv 0, iv 70, .unset, .unset, .unset] [.ref b1])
  refine own_st (fun t k => XS.astoreN X1.here hx rfl (hb hby own_d_jdk_52_method_16_3) rfl rfl (l' := #[rv a1, iv 0, iv 70, rv b1, .unset, .unset]) rfl k) ?_
  show own_E p e below _ T1 (mkF m 4 #[rv a1, iv 0, iv 70, rv b1, .unset, .unset] [])
  refine own_st (fun t k => XS.aloadN X1.here hx rfl (hb hby own_d_jdk_52_method_16_4) rfl rfl k) ?_
  show own_E p e below _ T1 (mkF m 5 #[rv a1, iv 0, iv 70, rv b1, .unset, .unset] [.ref a1])
  refine own_st (fun t k => XS.iloadN X1.here hx rfl (hb hby own_d_jdk_52_method_16_5) rfl k) ?_
  show own_E p e below _ T1 (mkF m 6 #[rv a1, iv 0, iv 70, rv b1, .unset, .unset] [.int 0, .ref a1])
  refine own_st (fun t k => XS.aloadN X1.here hx rfl (hb hby own_d_jdk_52_method_16_6) rfl rfl k) ?_
  show own_E p e below _ T1 (mkF m 7 #[rv a1, iv 0, iv 70, rv b1, .unset, .unset] [.ref b1, .int 0, .ref a1])
  refine own_st (fun t k => XS.iconst X1.here hx rfl (hb hby own_d_jdk_52_method_16_7) k) ?_
  show own_E p e below _ T1 (mkF m 8 #[rv a1, iv 0, iv 70, rv b1, .unset, .unset] [.int 0, .ref b1, .int 0, .ref a1])
  refine own_st (fun t k => XS.iloadN X1.here hx rfl (hb hby own_d_jdk_52_method_16_8) rfl k) ?_
  show own_E p e below _ T1 (mkF m 9 #[rv a1, iv 0, iv 70, rv b1, .unset, .unset] [.int 70, .int 0, .ref b1, .int 0, .ref a1])
  have B4 := (VA_a1.ext E1)
  obtain ⟨_, _, ⟨T5, L5, k5, n5⟩, -, X5, ⟨Lc5, hQ5, l5, y5, z5⟩, st5⟩ := Jvm.LawKit.callS X1 hx (y := own_y0) hown (mvT hZ (own_w hw 22 rfl)) (mvT hZ (own_w hw 23 rfl)) (mvT hZ (own_w hw 19 rfl)) (mvT hZ (own_w hw 24 rfl)) (by decide) (backOf (W := 0) (own_c5 l Z a0 hw [] a1 b1 f (fun _ => (0 : Int32)) h1 n0 Z2 B4 Va1 ne_a1_b1 g_b1) hZ (own_w hw 24 rfl) (own_w hw 19 rfl) (by decide) (by decide)) (g := (mkF m 9 #[rv a1, iv 0, iv 70, rv b1, .unset, .unset] [.int 70, .int 0, .ref b1, .int 0, .ref a1])) rfl (by rw [hml]; rfl) (argsL := [(.ref a1), (.int (0 : Int32)), (.ref b1), (.int (0 : Int32)), (.int (70 : Int32))]) (rest := []) (lenOf own_pd_19 rfl) rfl (by show 2 * 0 + _ ≤ _; exact Nat.le_of_eq rfl) (hb hby own_d_jdk_52_method_16_9) (fun _ _ => ⟨rfl, e1, (by decide : 1 + 0 ≤ _), (by decide : 70 + 0 ≤ _)⟩)
  dsimp only [Pt.U, Pt.locs, Pt.cells, Pt.slots] at X5 l5 y5 z5 st5 hQ5
  subst l5 y5 z5
  obtain ⟨Nq5, Kq5, hR5⟩ := hQ5
  have N5 := Fr.app (Fr.nil n0) Nq5
  have e5 : T5.heap = T5.heap := rfl
  have Z6 := Nat.le_trans Z2 Kq5.1
  have K7 : Keep h0 _ [] := K3.trans Kq5 (allS (P := fun x => x ∈ [] ∨ h0.size ≤ x) (Or.inr sz_b1) all0)
  rcases hR5 with ⟨rfl, hlat, Ab5⟩ | ⟨i, hi, rfl, hgt⟩
  · refine own_st st5 ?_
    show own_E p e below _ T5 (mkF m 12 #[rv a1, iv 0, iv 70, rv b1, .unset, .unset] [.int 70])
    refine own_st (fun t k => XS.istore X5.here hx rfl (hb hby own_d_jdk_52_method_16_12) rfl (l' := #[rv a1, iv 0, iv 70, rv b1, iv 70, .unset]) rfl k) ?_
    show own_E p e below _ T5 (mkF m 14 #[rv a1, iv 0, iv 70, rv b1, iv 70, .unset] [])
    refine own_st (fun t k => XS.iload X5.here hx rfl (hb hby own_d_jdk_52_method_16_14) rfl k) ?_
    show own_E p e below _ T5 (mkF m 16 #[rv a1, iv 0, iv 70, rv b1, iv 70, .unset] [.int 70])
    refine own_st (fun t k => XS.iloadN X5.here hx rfl (hb hby own_d_jdk_52_method_16_16) rfl k) ?_
    show own_E p e below _ T5 (mkF m 17 #[rv a1, iv 0, iv 70, rv b1, iv 70, .unset] [.int 70, .int 70])
    refine own_st (fun t k => XS.icmpYes X5.here hx rfl (pc0 := 17) (pc' := 57) rfl (hb hby own_d_jdk_52_method_16_17) rfl (teq rfl).1 (by decide) (by decide) k) ?_
    show own_E p e below _ T5 (mkF m 57 #[rv a1, iv 0, iv 70, rv b1, iv 70, .unset] [])
    refine own_st (fun t k => XS.aloadN X5.here hx rfl (hb hby own_d_jdk_52_method_16_57) rfl rfl k) ?_
    show own_E p e below _ T5 (mkF m 58 #[rv a1, iv 0, iv 70, rv b1, iv 70, .unset] [.ref b1])
    refine own_retA X5 hx Bd.notSynchronized Bd.returns rfl rfl (hb hby own_d_jdk_52_method_16_58) (by decide) (by decide) ?_
    show own_c3_Q Z f h0 n0 _ T5.heap _
    rw [e5]
    exact ⟨b1, rfl, N5, K7, sz_b1, Or.inl ⟨Ab5, hlat⟩⟩
  · refine own_st st5 ?_
    show own_E p e below _ T5 (mkF m 12 #[rv a1, iv 0, iv 70, rv b1, .unset, .unset] [.int (own_n i)])
    refine own_st (fun t k => XS.istore X5.here hx rfl (hb hby own_d_jdk_52_method_16_12) rfl (l' := #[rv a1, iv 0, iv 70, rv b1, iv (own_n i), .unset]) rfl k) ?_
    show own_E p e below _ T5 (mkF m 14 #[rv a1, iv 0, iv 70, rv b1, iv (own_n i), .unset] [])
    refine own_st (fun t k => XS.iload X5.here hx rfl (hb hby own_d_jdk_52_method_16_14) rfl k) ?_
    show own_E p e below _ T5 (mkF m 16 #[rv a1, iv 0, iv 70, rv b1, iv (own_n i), .unset] [.int (own_n i)])
    refine own_st (fun t k => XS.iloadN X5.here hx rfl (hb hby own_d_jdk_52_method_16_16) rfl k) ?_
    show own_E p e below _ T5 (mkF m 17 #[rv a1, iv 0, iv 70, rv b1, iv (own_n i), .unset] [.int 70, .int (own_n i)])
    refine own_st (fun t k => XS.icmpNo X5.here hx rfl (hb hby own_d_jdk_52_method_16_17) rfl (feq (own_ne70 hi)).1 k) ?_
    show own_E p e below _ T5 (mkF m 20 #[rv a1, iv 0, iv 70, rv b1, iv (own_n i), .unset] [])
    refine own_st (fun t k => XS.aloadN X5.here hx rfl (hb hby own_d_jdk_52_method_16_20) rfl rfl k) ?_
    show own_E p e below _ T5 (mkF m 21 #[rv a1, iv 0, iv 70, rv b1, iv (own_n i), .unset] [.ref a1])
    refine own_st (fun t k => XS.iloadN X5.here hx rfl (hb hby own_d_jdk_52_method_16_21) rfl k) ?_
    show own_E p e below _ T5 (mkF m 22 #[rv a1, iv 0, iv 70, rv b1, iv (own_n i), .unset] [.int 0, .ref a1])
    refine own_st (fun t k => XS.iloadN X5.here hx rfl (hb hby own_d_jdk_52_method_16_22) rfl k) ?_
    show own_E p e below _ T5 (mkF m 23 #[rv a1, iv 0, iv 70, rv b1, iv (own_n i), .unset] [.int 70, .int 0, .ref a1])
    have B8 := (B4.keep Kq5 (ninS ne_a1_b1 nin0))
    obtain ⟨_, _, ⟨T9, L9, k9, n9⟩, -, X9, ⟨Lc9, hQ9, l9, y9, z9⟩, st9⟩ := Jvm.LawKit.callS X5 hx (y := own_y5) hown (mvT hZ (own_w hw 65 rfl)) (mvT hZ (own_w hw 66 rfl)) (mvT hZ (own_w hw 19 rfl)) (mvT hZ (own_w hw 67 rfl)) (by decide) (backOf (W := 0) (own_tb l Z a0 hw [] a1 f zc rs T5.heap n0 Z6 (SX.keep K7 ns0) B8) hZ (own_w hw 67 rfl) (own_w hw 19 rfl) (by decide) (by decide)) (g := (mkF m 23 #[rv a1, iv 0, iv 70, rv b1, iv (own_n i), .unset] [.int 70, .int 0, .ref a1])) rfl (by rw [hml]; rfl) (argsL := [(.ref a1), (.int (0 : Int32)), (.int (70 : Int32))]) (rest := []) (lenOf own_pd_16 rfl) rfl (by show 2 * 0 + _ ≤ _; exact Nat.le_of_eq rfl) (hb hby own_d_jdk_52_method_16_23) (fun _ _ => ⟨rfl, e5, (by decide : 1 + 1 ≤ _), (by decide : 70 + 140 ≤ _)⟩)
    dsimp only [Pt.U, Pt.locs, Pt.cells, Pt.slots] at X9 l9 y9 z9 st9 hQ9
    subst l9 y9 z9
    obtain ⟨t9, rfl, Nq9, Kq9, szq9, g, At9, hU⟩ := hQ9
    have ne_a1_t9 : a1 ≠ t9 := Nat.ne_of_lt (Nat.lt_of_lt_of_le B8.lt szq9)
    have g_t9 : n0 ≤ t9 := Nat.le_trans Z6 szq9
    have sz_t9 : h0.size ≤ t9 := Nat.le_trans K7.1 szq9
    have N9 := Fr.app N5 Nq9
    have e9 : T9.heap = T9.heap := rfl
    have Z10 := Nat.le_trans Z6 Kq9.1
    have K11 : Keep h0 _ [] := K7.trans Kq9 all0
    refine own_st st9 ?_
    show own_E p e below _ T9 (mkF m 26 #[rv a1, iv 0, iv 70, rv b1, iv (own_n i), .unset] [.ref t9])
    refine own_st (fun t k => XS.astore X9.here hx rfl (hb hby own_d_jdk_52_method_16_26) rfl rfl (l' := #[rv a1, iv 0, iv 70, rv b1, iv (own_n i), rv t9]) rfl k) ?_
    show own_E p e below _ T9 (mkF m 28 #[rv a1, iv 0, iv 70, rv b1, iv (own_n i), rv t9] [])
    refine own_st (fun t k => XS.aload X9.here hx rfl (hb hby own_d_jdk_52_method_16_28) rfl rfl k) ?_
    show own_E p e below _ T9 (mkF m 30 #[rv a1, iv 0, iv 70, rv b1, iv (own_n i), rv t9] [.ref t9])
    refine own_st (fun t k => XS.iload X9.here hx rfl (hb hby own_d_jdk_52_method_16_30) rfl k) ?_
    show own_E p e below _ T9 (mkF m 32 #[rv a1, iv 0, iv 70, rv b1, iv (own_n i), rv t9] [.int (own_n i), .ref t9])
    obtain ⟨_, _, ⟨T12, L12, k12, n12⟩, -, X12, ⟨Lc12, hQ12, l12, y12, z12⟩, st12⟩ := Jvm.LawKit.callS X9 hx (y := own_y4) hown (mvT hZ (own_w hw 81 rfl)) (mvT hZ (own_w hw 82 rfl)) (mvT hZ (own_w hw 19 rfl)) (mvT hZ (own_w hw 83 rfl)) (by decide) (backOf (W := 0) (own_getc l Z a0 hw [] t9 i f g zc rs T9.heap n0 Z10 hi hC hU (SX.keep K11 ns0) At9) hZ (own_w hw 83 rfl) (own_w hw 19 rfl) (by decide) (by decide)) (g := (mkF m 32 #[rv a1, iv 0, iv 70, rv b1, iv (own_n i), rv t9] [.int (own_n i), .ref t9])) rfl (by rw [hml]; rfl) (argsL := [(.ref t9), (.int (own_n i))]) (rest := []) (lenOf own_pd_13 rfl) rfl (by show 2 * 0 + _ ≤ _; exact Nat.le_of_eq rfl) (hb hby own_d_jdk_52_method_16_32) (fun _ _ => ⟨rfl, e9, (by decide : 2 + 0 ≤ _), (by decide : 210 + 0 ≤ _)⟩)
    dsimp only [Pt.U, Pt.locs, Pt.cells, Pt.slots] at X12 l12 y12 z12 st12 hQ12
    subst l12 y12 z12
    obtain ⟨hR12, e12, rfl⟩ := hQ12
    have N12 := Fr.app N9 (Fr.nil n0)
    obtain rfl := hR12
    refine own_st st12 ?_
    show own_E p e below _ T12 (mkF m 35 #[rv a1, iv 0, iv 70, rv b1, iv (own_n i), rv t9] [.int (f i)])
    refine own_st (fun t k => XS.sipush X12.here hx rfl (hb hby own_d_jdk_52_method_16_35) k) ?_
    show own_E p e below _ T12 (mkF m 38 #[rv a1, iv 0, iv 70, rv b1, iv (own_n i), rv t9] [.int 255, .int (f i)])
    refine own_st (fun t k => XS.icmpYes X12.here hx rfl (pc0 := 38) (pc' := 54) rfl (hb hby own_d_jdk_52_method_16_38) rfl (tlt hgt).2.2.1 (by decide) (by decide) k) ?_
    show own_E p e below _ T12 (mkF m 54 #[rv a1, iv 0, iv 70, rv b1, iv (own_n i), rv t9] [])
    refine own_st (fun t k => XS.aload X12.here hx rfl (hb hby own_d_jdk_52_method_16_54) rfl rfl k) ?_
    show own_E p e below _ T12 (mkF m 56 #[rv a1, iv 0, iv 70, rv b1, iv (own_n i), rv t9] [.ref t9])
    refine own_retA X12 hx Bd.notSynchronized Bd.returns rfl rfl (hb hby own_d_jdk_52_method_16_56) (by decide) (by decide) ?_
    show own_c3_Q Z f h0 n0 _ T12.heap _
    rw [e12]
    exact ⟨t9, rfl, N12, K11, sz_t9, Or.inr ⟨g, At9, hU⟩⟩
theorem own_d_jdk_52_method_15_0 : decode jdk_52_method_15_code 0 = .ok (.iload_n 1, 1) := by decide +kernel
theorem own_d_jdk_52_method_15_1 : decode jdk_52_method_15_code 1 = .ok (.aload_n 0, 1) := by decide +kernel
theorem own_d_jdk_52_method_15_2 : decode jdk_52_method_15_code 2 = .ok (.arraylength, 1) := by decide +kernel
theorem own_d_jdk_52_method_15_3 : decode jdk_52_method_15_code 3 = .ok (.isub, 1) := by decide +kernel
theorem own_d_jdk_52_method_15_4 : decode jdk_52_method_15_code 4 = .ok (.bipush 31, 2) := by decide +kernel
theorem own_d_jdk_52_method_15_6 : decode jdk_52_method_15_code 6 = .ok (.iushr, 1) := by decide +kernel
theorem own_d_jdk_52_method_15_7 : decode jdk_52_method_15_code 7 = .ok (.i2b, 1) := by decide +kernel
theorem own_d_jdk_52_method_15_8 : decode jdk_52_method_15_code 8 = .ok (.ireturn, 1) := by decide +kernel
def own_cfl70_Q (a1 : Addr) (f : Nat → Int32) (h0 : Heap) (v : Option Value) (h : Heap) (L : List Loc) : Prop := ((v = some (.int (0 : Int32)))) ∧ h = h0 ∧ L = []
abbrev own_y7 : MethodName := ⟨"java/lang/StringUTF16", "coderFromArrayLen", "([BI)B"⟩
theorem own_cfl70_ef (m : MethodId) (a1 : Addr) (f : Nat → Int32) : entryFrame m #[(.ref a1), (.int (70 : Int32))] 2 = mkF m 0 #[.val (.ref a1), .val (.int (70 : Int32))] [] := by first | (simp [entryFrame, mkF, argsToLocals, Value.category]; done) | rfl
set_option maxRecDepth 65536 in
set_option maxHeartbeats 40000000 in
theorem own_cfl70 (l : Launch) (Z : State) (a0 : Array Value) (hw : ∀ d ∈ tables_1, d.before a0 Z = true) (ws : List Jvm.Cond) (a1 : Addr) (f : Nat → Int32) (h0 : Heap) (n0 : Nat) (Z0 : n0 ≤ h0.size) (VA_a1 : own_A Z h0 a1 .byte 70 f) :
    MetFree l own_y7 (head1 (Jvm.Cond.code own_y7 jdk_52_method_15_code 2 (some .byte) :: ws) ({ frames := 0, cells := 0, slots := 0, locals := 0 } : Room)) (fun a U => a = #[(.ref a1), (.int (70 : Int32))] ∧ Z.Warmed39 U.vm ∧ U.heap = h0) (fun _ _ _ _ _ => True) (fun _ U o U' => ∃ v L, o = .returned v ∧ own_cfl70_Q a1 f h0 v U'.heap L ∧ FrameEnd U o U' L ({ frames := 0, cells := 0, slots := 0, locals := 0 } : Room).cells ({ frames := 0, cells := 0, slots := 0, locals := 0 } : Room).slots) := by
  refine MetFree.of_bodySF (plainFor_of_name own_pn_StringUTF16) hisR ?_
  intro p e s m args below meth c s₁ Bd hml0 hP hK
  obtain ⟨rfl, hZ, hh⟩ := hP
  have hx := Bd.exec
  have hby := Bd.bytes
  have hml : c.maxLocals = 2 := hml0
  have hown : s.vm.findClass "java/lang/StringUTF16" = some m.cls := findClass_of_methodNamed Bd.named
  have hnm := (name_of_methodNamed Bd.named Bd.method).1
  have X0 : Stand p l e ({ frames := 0, cells := 0, slots := 0, locals := 0 } : Room) s m #[(.ref a1), (.int (70 : Int32))] below meth c s₁ [] 0 0 := Stand.of_body Bd
  have e0 : s₁.heap = h0 := by rw [← hh, Bd.state]; rfl
  show own_E p e below (own_K (own_cfl70_Q a1 f h0) s ({ frames := 0, cells := 0, slots := 0, locals := 0 } : Room).cells ({ frames := 0, cells := 0, slots := 0, locals := 0 } : Room).slots) s₁ (entryFrame m #[(.ref a1), (.int (70 : Int32))] 2)
  refine own_pre (own_cfl70_ef m a1 f) ?_
  show own_E p e below _ s₁ (mkF m 0 #[rv a1, iv 70] [])
  refine own_st (fun t k => XS.iloadN X0.here hx rfl (hb hby own_d_jdk_52_method_15_0) rfl k) ?_
  show own_E p e below _ s₁ (mkF m 1 #[rv a1, iv 70] [.int 70])
  refine own_st (fun t k => XS.aloadN X0.here hx rfl (hb hby own_d_jdk_52_method_15_1) rfl rfl k) ?_
  show own_E p e below _ s₁ (mkF m 2 #[rv a1, iv 70] [.ref a1, .int 70])
  refine own_st (own_A_len X0 hx hZ e0 VA_a1 (z := (70 : Int32)) rfl (g := (mkF m 2 #[rv a1, iv 70] [.ref a1, .int 70])) rfl rfl (hb hby own_d_jdk_52_method_15_2)) ?_
  show own_E p e below _ s₁ (mkF m 3 #[rv a1, iv 70] [.int 70, .int 70])
  refine own_st (fun t k => XS.isub X0.here hx rfl (hb hby own_d_jdk_52_method_15_3) rfl k) ?_
  show own_E p e below _ s₁ (mkF m 4 #[rv a1, iv 70] [.int 0])
  refine own_st (fun t k => XS.bipush X0.here hx rfl (hb hby own_d_jdk_52_method_15_4) k) ?_
  show own_E p e below _ s₁ (mkF m 6 #[rv a1, iv 70] [.int 31, .int 0])
  refine own_st (fun t k => XS.iushr X0.here hx rfl (hb hby own_d_jdk_52_method_15_6) rfl k) ?_
  show own_E p e below _ s₁ (mkF m 7 #[rv a1, iv 70] [.int 0])
  refine own_st (fun t k => XS.i2b X0.here hx rfl (hb hby own_d_jdk_52_method_15_7) rfl k) ?_
  show own_E p e below _ s₁ (mkF m 8 #[rv a1, iv 70] [.int 0])
  refine own_retS X0 hx Bd.notSynchronized Bd.returns rfl (by decide) (hb hby own_d_jdk_52_method_15_8) (by decide) (by decide) ?_
  exact ⟨rfl, e0, rfl⟩
def own_cfl140_Q (a1 : Addr) (f : Nat → Int32) (h0 : Heap) (v : Option Value) (h : Heap) (L : List Loc) : Prop := ((v = some (.int (1 : Int32)))) ∧ h = h0 ∧ L = []
theorem own_cfl140_ef (m : MethodId) (a1 : Addr) (f : Nat → Int32) : entryFrame m #[(.ref a1), (.int (70 : Int32))] 2 = mkF m 0 #[.val (.ref a1), .val (.int (70 : Int32))] [] := by first | (simp [entryFrame, mkF, argsToLocals, Value.category]; done) | rfl
set_option maxRecDepth 65536 in
set_option maxHeartbeats 40000000 in
theorem own_cfl140 (l : Launch) (Z : State) (a0 : Array Value) (hw : ∀ d ∈ tables_1, d.before a0 Z = true) (ws : List Jvm.Cond) (a1 : Addr) (f : Nat → Int32) (h0 : Heap) (n0 : Nat) (Z0 : n0 ≤ h0.size) (VA_a1 : own_A Z h0 a1 .byte 140 f) :
    MetFree l own_y7 (head1 (Jvm.Cond.code own_y7 jdk_52_method_15_code 2 (some .byte) :: ws) ({ frames := 0, cells := 0, slots := 0, locals := 0 } : Room)) (fun a U => a = #[(.ref a1), (.int (70 : Int32))] ∧ Z.Warmed39 U.vm ∧ U.heap = h0) (fun _ _ _ _ _ => True) (fun _ U o U' => ∃ v L, o = .returned v ∧ own_cfl140_Q a1 f h0 v U'.heap L ∧ FrameEnd U o U' L ({ frames := 0, cells := 0, slots := 0, locals := 0 } : Room).cells ({ frames := 0, cells := 0, slots := 0, locals := 0 } : Room).slots) := by
  refine MetFree.of_bodySF (plainFor_of_name own_pn_StringUTF16) hisR ?_
  intro p e s m args below meth c s₁ Bd hml0 hP hK
  obtain ⟨rfl, hZ, hh⟩ := hP
  have hx := Bd.exec
  have hby := Bd.bytes
  have hml : c.maxLocals = 2 := hml0
  have hown : s.vm.findClass "java/lang/StringUTF16" = some m.cls := findClass_of_methodNamed Bd.named
  have hnm := (name_of_methodNamed Bd.named Bd.method).1
  have X0 : Stand p l e ({ frames := 0, cells := 0, slots := 0, locals := 0 } : Room) s m #[(.ref a1), (.int (70 : Int32))] below meth c s₁ [] 0 0 := Stand.of_body Bd
  have e0 : s₁.heap = h0 := by rw [← hh, Bd.state]; rfl
  show own_E p e below (own_K (own_cfl140_Q a1 f h0) s ({ frames := 0, cells := 0, slots := 0, locals := 0 } : Room).cells ({ frames := 0, cells := 0, slots := 0, locals := 0 } : Room).slots) s₁ (entryFrame m #[(.ref a1), (.int (70 : Int32))] 2)
  refine own_pre (own_cfl140_ef m a1 f) ?_
  show own_E p e below _ s₁ (mkF m 0 #[rv a1, iv 70] [])
  refine own_st (fun t k => XS.iloadN X0.here hx rfl (hb hby own_d_jdk_52_method_15_0) rfl k) ?_
  show own_E p e below _ s₁ (mkF m 1 #[rv a1, iv 70] [.int 70])
  refine own_st (fun t k => XS.aloadN X0.here hx rfl (hb hby own_d_jdk_52_method_15_1) rfl rfl k) ?_
  show own_E p e below _ s₁ (mkF m 2 #[rv a1, iv 70] [.ref a1, .int 70])
  refine own_st (own_A_len X0 hx hZ e0 VA_a1 (z := (140 : Int32)) rfl (g := (mkF m 2 #[rv a1, iv 70] [.ref a1, .int 70])) rfl rfl (hb hby own_d_jdk_52_method_15_2)) ?_
  show own_E p e below _ s₁ (mkF m 3 #[rv a1, iv 70] [.int 140, .int 70])
  refine own_st (fun t k => XS.isub X0.here hx rfl (hb hby own_d_jdk_52_method_15_3) rfl k) ?_
  show own_E p e below _ s₁ (mkF m 4 #[rv a1, iv 70] [.int (-70)])
  refine own_st (fun t k => XS.bipush X0.here hx rfl (hb hby own_d_jdk_52_method_15_4) k) ?_
  show own_E p e below _ s₁ (mkF m 6 #[rv a1, iv 70] [.int 31, .int (-70)])
  refine own_st (fun t k => XS.iushr X0.here hx rfl (hb hby own_d_jdk_52_method_15_6) rfl k) ?_
  show own_E p e below _ s₁ (mkF m 7 #[rv a1, iv 70] [.int 1])
  refine own_st (fun t k => XS.i2b X0.here hx rfl (hb hby own_d_jdk_52_method_15_7) rfl k) ?_
  show own_E p e below _ s₁ (mkF m 8 #[rv a1, iv 70] [.int 1])
  refine own_retS X0 hx Bd.notSynchronized Bd.returns rfl (by decide) (hb hby own_d_jdk_52_method_15_8) (by decide) (by decide) ?_
  exact ⟨rfl, e0, rfl⟩
theorem own_d_jdk_42_method_149_0 : decode jdk_42_method_149_code 0 = .ok (.aload_n 0, 1) := by decide +kernel
theorem own_d_jdk_42_method_149_1 : decode jdk_42_method_149_code 1 = .ok (.invokespecial 1, 3) := by decide +kernel
theorem own_d_jdk_42_method_149_4 : decode jdk_42_method_149_code 4 = .ok (.iload_n 3, 1) := by decide +kernel
theorem own_d_jdk_42_method_149_5 : decode jdk_42_method_149_code 5 = .ok (.ifCond .ne 22, 3) := by decide +kernel
theorem own_d_jdk_42_method_149_27 : decode jdk_42_method_149_code 27 = .ok (.getstatic 38, 3) := by decide +kernel
theorem own_d_jdk_42_method_149_30 : decode jdk_42_method_149_code 30 = .ok (.ifCond .eq 28, 3) := by decide +kernel
theorem own_d_jdk_42_method_149_33 : decode jdk_42_method_149_code 33 = .ok (.aload_n 1, 1) := by decide +kernel
theorem own_d_jdk_42_method_149_34 : decode jdk_42_method_149_code 34 = .ok (.iload_n 2, 1) := by decide +kernel
theorem own_d_jdk_42_method_149_35 : decode jdk_42_method_149_code 35 = .ok (.iload_n 3, 1) := by decide +kernel
theorem own_d_jdk_42_method_149_36 : decode jdk_42_method_149_code 36 = .ok (.invokestatic 177, 3) := by decide +kernel
theorem own_d_jdk_42_method_149_39 : decode jdk_42_method_149_code 39 = .ok (.astore 5, 2) := by decide +kernel
theorem own_d_jdk_42_method_149_41 : decode jdk_42_method_149_code 41 = .ok (.aload_n 0, 1) := by decide +kernel
theorem own_d_jdk_42_method_149_42 : decode jdk_42_method_149_code 42 = .ok (.aload 5, 2) := by decide +kernel
theorem own_d_jdk_42_method_149_44 : decode jdk_42_method_149_code 44 = .ok (.iload_n 3, 1) := by decide +kernel
theorem own_d_jdk_42_method_149_45 : decode jdk_42_method_149_code 45 = .ok (.invokestatic 47, 3) := by decide +kernel
theorem own_pd_12 : parseMethodDescriptor "([BI)B" = some ⟨[(.array .byte), .int], some .byte⟩ := by decide +kernel
theorem own_d_jdk_42_method_149_48 : decode jdk_42_method_149_code 48 = .ok (.putfield 15, 3) := by decide +kernel
theorem own_d_jdk_42_method_149_51 : decode jdk_42_method_149_code 51 = .ok (.aload_n 0, 1) := by decide +kernel
theorem own_d_jdk_42_method_149_52 : decode jdk_42_method_149_code 52 = .ok (.aload 5, 2) := by decide +kernel
theorem own_d_jdk_42_method_149_54 : decode jdk_42_method_149_code 54 = .ok (.putfield 9, 3) := by decide +kernel
theorem own_d_jdk_42_method_149_57 : decode jdk_42_method_149_code 57 = .ok (.return_, 1) := by decide +kernel
def own_new4_Q (Z : State) (a1 : Addr) (f : Nat → Int32) (h0 : Heap) (n0 : Nat) (v : Option Value) (h : Heap) (L : List Loc) : Prop := v = none ∧ Fr n0 L ∧ Keep h0 h [a1] ∧ own_Str Z h a1 f
abbrev own_y8 : MethodName := ⟨"java/lang/String", "<init>", "([CIILjava/lang/Void;)V"⟩
theorem own_pn_String : plainName "java/lang/String" = true := by first | (simp [plainName, overriddenIn]; done) | decide +kernel
theorem own_new4_ef (m : MethodId) (a1 : Addr) (a2 : Addr) (f : Nat → Int32) (zc : Int32) (rs : Value) : entryFrame m #[(.ref a1), (.ref a2), (.int (0 : Int32)), (.int (70 : Int32)), .null] 6 = mkF m 0 #[.val (.ref a1), .val (.ref a2), .val (.int (0 : Int32)), .val (.int (70 : Int32)), .val .null, .unset] [] := by first | (simp [entryFrame, mkF, argsToLocals, Value.category]; done) | rfl
set_option maxRecDepth 65536 in
set_option maxHeartbeats 40000000 in
theorem own_new4 (l : Launch) (Z : State) (a0 : Array Value) (hw : ∀ d ∈ tables_1, d.before a0 Z = true) (ws : List Jvm.Cond) (a1 : Addr) (a2 : Addr) (f : Nat → Int32) (zc : Int32) (rs : Value) (h0 : Heap) (n0 : Nat) (Z0 : n0 ≤ h0.size) (hC : own_C f) (hzc : ¬ zc = 0) (SX : own_St Z h0 zc rs) (E_a1 : Exa Z h0 a1 "java/lang/String") (F_value_a1 : Fld Z h0 a1 "java/lang/String" "value" "[B" .null) (F_coder_a1 : Fld Z h0 a1 "java/lang/String" "coder" "B" (.int (0 : Int32))) (VA_a2 : own_A Z h0 a2 .char 70 f) (ne12 : a1 ≠ a2) (g_a1 : n0 ≤ a1) :
    MetFree l own_y8 (head1 (Jvm.Cond.code own_y8 jdk_42_method_149_code 6 none :: ws) ({ frames := 4, cells := 2, slots := 210, locals := 57 } : Room)) (fun a U => a = #[(.ref a1), (.ref a2), (.int (0 : Int32)), (.int (70 : Int32)), .null] ∧ Z.Warmed39 U.vm ∧ U.heap = h0) (fun _ _ _ _ _ => True) (fun _ U o U' => ∃ v L, o = .returned v ∧ own_new4_Q Z a1 f h0 n0 v U'.heap L ∧ FrameEnd U o U' L ({ frames := 4, cells := 2, slots := 210, locals := 57 } : Room).cells ({ frames := 4, cells := 2, slots := 210, locals := 57 } : Room).slots) := by
  refine MetFree.of_bodySF (plainFor_of_name own_pn_String) hisR ?_
  intro p e s m args below meth c s₁ Bd hml0 hP hK
  obtain ⟨rfl, hZ, hh⟩ := hP
  have hx := Bd.exec
  have hby := Bd.bytes
  have hml : c.maxLocals = 6 := hml0
  have hown : s.vm.findClass "java/lang/String" = some m.cls := findClass_of_methodNamed Bd.named
  have hnm := (name_of_methodNamed Bd.named Bd.method).1
  have X0 : Stand p l e ({ frames := 4, cells := 2, slots := 210, locals := 57 } : Room) s m #[(.ref a1), (.ref a2), (.int (0 : Int32)), (.int (70 : Int32)), .null] below meth c s₁ [] 0 0 := Stand.of_body Bd
  have e0 : s₁.heap = h0 := by rw [← hh, Bd.state]; rfl
  show own_E p e below (own_K (own_new4_Q Z a1 f h0 n0) s ({ frames := 4, cells := 2, slots := 210, locals := 57 } : Room).cells ({ frames := 4, cells := 2, slots := 210, locals := 57 } : Room).slots) s₁ (entryFrame m #[(.ref a1), (.ref a2), (.int (0 : Int32)), (.int (70 : Int32)), .null] 6)
  refine own_pre (own_new4_ef m a1 a2 f zc rs) ?_
  show own_E p e below _ s₁ (mkF m 0 #[rv a1, rv a2, iv 0, iv 70, .val (.null), .unset] [])
  refine own_st (fun t k => XS.aloadN X0.here hx rfl (hb hby own_d_jdk_42_method_149_0) rfl rfl k) ?_
  show own_E p e below _ s₁ (mkF m 1 #[rv a1, rv a2, iv 0, iv 70, .val (.null), .unset] [.ref a1])
  obtain ⟨T1, X1, e1, st1⟩ := initO X0 hx hZ hown (own_w hw 13 rfl) (own_w hw 14 rfl) (own_w hw 15 rfl) e0 (g := (mkF m 1 #[rv a1, rv a2, iv 0, iv 70, .val (.null), .unset] [.ref a1])) rfl (by rw [hml]; rfl) rfl (hb hby own_d_jdk_42_method_149_1) (by decide) (W := 0) (by show 2 * 0 + _ ≤ _; exact Nat.le_of_eq rfl) (by decide)
  refine own_st st1 ?_
  show own_E p e below _ T1 (mkF m 4 #[rv a1, rv a2, iv 0, iv 70, .val (.null), .unset] [])
  refine own_st (fun t k => XS.iloadN X1.here hx rfl (hb hby own_d_jdk_42_method_149_4) rfl k) ?_
  show own_E p e below _ T1 (mkF m 5 #[rv a1, rv a2, iv 0, iv 70, .val (.null), .unset] [.int 70])
  refine own_st (fun t k => XS.ifYes X1.here hx rfl (pc0 := 5) (pc' := 27) rfl (hb hby own_d_jdk_42_method_149_5) rfl (by decide) (by decide) (by decide) k) ?_
  show own_E p e below _ T1 (mkF m 27 #[rv a1, rv a2, iv 0, iv 70, .val (.null), .unset] [])
  obtain ⟨T2, X2, e2, st2⟩ := getS2 X1 hx hZ hown (host := "") (Or.inl (own_w hw 16 rfl)) Via.refl e1 (SX.keep (Keep.refl h0 [a1]) (nsS E_a1.nostat ns0)).1 (g := (mkF m 27 #[rv a1, rv a2, iv 0, iv 70, .val (.null), .unset] [])) rfl (hb hby own_d_jdk_42_method_149_27)
  refine own_st st2 ?_
  show own_E p e below _ T2 (mkF m 30 #[rv a1, rv a2, iv 0, iv 70, .val (.null), .unset] [.int zc])
  refine own_st (fun t k => XS.ifNo X2.here hx rfl (hb hby own_d_jdk_42_method_149_30) rfl ((if0 _ _).trans (feq hzc).1) k) ?_
  show own_E p e below _ T2 (mkF m 33 #[rv a1, rv a2, iv 0, iv 70, .val (.null), .unset] [])
  refine own_st (fun t k => XS.aloadN X2.here hx rfl (hb hby own_d_jdk_42_method_149_33) rfl rfl k) ?_
  show own_E p e below _ T2 (mkF m 34 #[rv a1, rv a2, iv 0, iv 70, .val (.null), .unset] [.ref a2])
  refine own_st (fun t k => XS.iloadN X2.here hx rfl (hb hby own_d_jdk_42_method_149_34) rfl k) ?_
  show own_E p e below _ T2 (mkF m 35 #[rv a1, rv a2, iv 0, iv 70, .val (.null), .unset] [.int 0, .ref a2])
  refine own_st (fun t k => XS.iloadN X2.here hx rfl (hb hby own_d_jdk_42_method_149_35) rfl k) ?_
  show own_E p e below _ T2 (mkF m 36 #[rv a1, rv a2, iv 0, iv 70, .val (.null), .unset] [.int 70, .int 0, .ref a2])
  obtain ⟨_, _, ⟨T3, L3, k3, n3⟩, -, X3, ⟨Lc3, hQ3, l3, y3, z3⟩, st3⟩ := Jvm.LawKit.callS X2 hx (y := own_y6) hown (mvT hZ (own_w hw 17 rfl)) (mvT hZ (own_w hw 18 rfl)) (mvT hZ (own_w hw 19 rfl)) (mvT hZ (own_w hw 20 rfl)) (by decide) (backOf (W := 0) (own_c3 l Z a0 hw [] a2 f zc rs h0 n0 Z0 hC (SX.keep (Keep.refl h0 [a1]) (nsS E_a1.nostat ns0)) VA_a2) hZ (own_w hw 20 rfl) (own_w hw 19 rfl) (by decide) (by decide)) (g := (mkF m 36 #[rv a1, rv a2, iv 0, iv 70, .val (.null), .unset] [.int 70, .int 0, .ref a2])) rfl (by rw [hml]; rfl) (argsL := [(.ref a2), (.int (0 : Int32)), (.int (70 : Int32))]) (rest := []) (lenOf own_pd_16 rfl) rfl (by show 2 * 0 + _ ≤ _; exact Nat.le_of_eq rfl) (hb hby own_d_jdk_42_method_149_36) (fun _ _ => ⟨rfl, e2, (by decide : 0 + 2 ≤ _), (by decide : 0 + 210 ≤ _)⟩)
  dsimp only [Pt.U, Pt.locs, Pt.cells, Pt.slots] at X3 l3 y3 z3 st3 hQ3
  subst l3 y3 z3
  obtain ⟨t3, rfl, Nq3, Kq3, szq3, hB3⟩ := hQ3
  have ne_a1_t3 : a1 ≠ t3 := Nat.ne_of_lt (Nat.lt_of_lt_of_le E_a1.lt szq3)
  have ne_a2_t3 : a2 ≠ t3 := Nat.ne_of_lt (Nat.lt_of_lt_of_le VA_a2.lt szq3)
  have g_t3 : n0 ≤ t3 := Nat.le_trans Z0 szq3
  have sz_t3 : h0.size ≤ t3 := Nat.le_trans (Keep.refl h0 [a1]).1 szq3
  have N3 := Fr.app (Fr.nil n0) Nq3
  have e3 : T3.heap = T3.heap := rfl
  have Z4 := Nat.le_trans Z0 Kq3.1
  have K5 : Keep h0 _ [a1] := (Keep.refl h0 [a1]).trans Kq3 all0
  rcases hB3 with ⟨At3, hlat⟩ | ⟨g, At3, hU⟩
  · refine own_st st3 ?_
    show own_E p e below _ T3 (mkF m 39 #[rv a1, rv a2, iv 0, iv 70, .val (.null), .unset] [.ref t3])
    refine own_st (fun t k => XS.astore X3.here hx rfl (hb hby own_d_jdk_42_method_149_39) rfl rfl (l' := #[rv a1, rv a2, iv 0, iv 70, .val (.null), rv t3]) rfl k) ?_
    show own_E p e below _ T3 (mkF m 41 #[rv a1, rv a2, iv 0, iv 70, .val (.null), rv t3] [])
    refine own_st (fun t k => XS.aloadN X3.here hx rfl (hb hby own_d_jdk_42_method_149_41) rfl rfl k) ?_
    show own_E p e below _ T3 (mkF m 42 #[rv a1, rv a2, iv 0, iv 70, .val (.null), rv t3] [.ref a1])
    refine own_st (fun t k => XS.aload X3.here hx rfl (hb hby own_d_jdk_42_method_149_42) rfl rfl k) ?_
    show own_E p e below _ T3 (mkF m 44 #[rv a1, rv a2, iv 0, iv 70, .val (.null), rv t3] [.ref t3, .ref a1])
    refine own_st (fun t k => XS.iloadN X3.here hx rfl (hb hby own_d_jdk_42_method_149_44) rfl k) ?_
    show own_E p e below _ T3 (mkF m 45 #[rv a1, rv a2, iv 0, iv 70, .val (.null), rv t3] [.int 70, .ref t3, .ref a1])
    obtain ⟨_, _, ⟨T6, L6, k6, n6⟩, -, X6, ⟨Lc6, hQ6, l6, y6, z6⟩, st6⟩ := Jvm.LawKit.callS X3 hx (y := own_y7) hown (mvT hZ (own_w hw 25 rfl)) (mvT hZ (own_w hw 26 rfl)) (mvT hZ (own_w hw 19 rfl)) (mvT hZ (own_w hw 27 rfl)) (by decide) (backOf (W := 1) (own_cfl70 l Z a0 hw [] t3 (fun j => (f j).toInt8.toInt32) T3.heap n0 Z4 At3) hZ (own_w hw 27 rfl) (own_w hw 19 rfl) (by decide) (by decide)) (g := (mkF m 45 #[rv a1, rv a2, iv 0, iv 70, .val (.null), rv t3] [.int 70, .ref t3, .ref a1])) rfl (by rw [hml]; rfl) (argsL := [(.ref t3), (.int (70 : Int32))]) (rest := [(.ref a1)]) (lenOf own_pd_12 rfl) rfl (by show 2 * 0 + _ ≤ _; exact Nat.le_of_eq rfl) (hb hby own_d_jdk_42_method_149_45) (fun _ _ => ⟨rfl, e3, (by decide : 2 + 0 ≤ _), (by decide : 210 + 0 ≤ _)⟩)
    dsimp only [Pt.U, Pt.locs, Pt.cells, Pt.slots] at X6 l6 y6 z6 st6 hQ6
    subst l6 y6 z6
    obtain ⟨hR6, e6, rfl⟩ := hQ6
    have N6 := Fr.app N3 (Fr.nil n0)
    obtain rfl := hR6
    refine own_st st6 ?_
    show own_E p e below _ T6 (mkF m 48 #[rv a1, rv a2, iv 0, iv 70, .val (.null), rv t3] [.int 0, .ref a1])
    have B8 := (F_coder_a1.keep Kq3 nin0)
    have B9 := (E_a1.keep Kq3)
    obtain ⟨T7, h7, X7, e7, W7, st7⟩ := putF X6 hx hZ hown (host := "") (Or.inl (own_w hw 28 rfl)) Via.refl e6 B8 B9 (Or.inr ⟨(own_w hw 29 rfl), rfl, hnm⟩) (own_w hw 4 rfl) (ty := .byte) (by decide) rfl rfl (g := (mkF m 48 #[rv a1, rv a2, iv 0, iv 70, .val (.null), rv t3] [.int 0, .ref a1])) rfl rfl (hb hby own_d_jdk_42_method_149_48)
    have N7 := Fr.snoc X7 N6 g_a1
    have Fw7 := B8.same W7
    have Z10 := Nat.le_trans Z4 (Keep.of_wr W7).1
    have K11 : Keep h0 _ [a1] := K5.wr W7 (Or.inl (List.mem_of_getElem? (i := 0) rfl))
    refine own_st st7 ?_
    show own_E p e below _ T7 (mkF m 51 #[rv a1, rv a2, iv 0, iv 70, .val (.null), rv t3] [])
    refine own_st (fun t k => XS.aloadN X7.here hx rfl (hb hby own_d_jdk_42_method_149_51) rfl rfl k) ?_
    show own_E p e below _ T7 (mkF m 52 #[rv a1, rv a2, iv 0, iv 70, .val (.null), rv t3] [.ref a1])
    refine own_st (fun t k => XS.aload X7.here hx rfl (hb hby own_d_jdk_42_method_149_52) rfl rfl k) ?_
    show own_E p e below _ T7 (mkF m 54 #[rv a1, rv a2, iv 0, iv 70, .val (.null), rv t3] [.ref t3, .ref a1])
    have B13 := ((F_value_a1.keep Kq3 nin0).other W7 (Or.inr (slot_ne (Or.inr (own_w hw 31 rfl)) (Or.inr (own_w hw 29 rfl)) (by decide) (t := (.array .byte)) (t' := .byte) (by decide) (by decide))))
    have B14 := (B9.wr W7)
    obtain ⟨T12, h12, X12, e12, W12, st12⟩ := putF X7 hx hZ hown (host := "") (Or.inl (own_w hw 30 rfl)) Via.refl e7 B13 B14 (Or.inr ⟨(own_w hw 31 rfl), rfl, hnm⟩) (own_w hw 4 rfl) (ty := (.array .byte)) (by decide) rfl rfl (g := (mkF m 54 #[rv a1, rv a2, iv 0, iv 70, .val (.null), rv t3] [.ref t3, .ref a1])) rfl rfl (hb hby own_d_jdk_42_method_149_54)
    have N12 := Fr.snoc X12 N7 g_a1
    have Fw12 := B13.same W12
    have Z15 := Nat.le_trans Z10 (Keep.of_wr W12).1
    have K16 : Keep h0 _ [a1] := K11.wr W12 (Or.inl (List.mem_of_getElem? (i := 0) rfl))
    refine own_st st12 ?_
    show own_E p e below _ T12 (mkF m 57 #[rv a1, rv a2, iv 0, iv 70, .val (.null), rv t3] [])
    refine own_retV X12 hx Bd.notSynchronized Bd.returns (hb hby own_d_jdk_42_method_149_57) (by decide) (by decide) ?_
    have B17 := ((At3.other W7 (Ne.symm ne_a1_t3)).other W12 (Ne.symm ne_a1_t3))
    have B18 := (B14.wr W12)
    have B19 := (Fw7.other W12 (Or.inr (slot_ne (Or.inr (own_w hw 29 rfl)) (Or.inr (own_w hw 31 rfl)) (by decide) (t := .byte) (t' := (.array .byte)) (by decide) (by decide))))
    show own_new4_Q Z a1 f h0 n0 _ T12.heap _
    rw [e12]
    exact ⟨rfl, N12, K16, B18, t3, Fw12, Or.inl ⟨B19, B17, hlat⟩⟩
  · refine own_st st3 ?_
    show own_E p e below _ T3 (mkF m 39 #[rv a1, rv a2, iv 0, iv 70, .val (.null), .unset] [.ref t3])
    refine own_st (fun t k => XS.astore X3.here hx rfl (hb hby own_d_jdk_42_method_149_39) rfl rfl (l' := #[rv a1, rv a2, iv 0, iv 70, .val (.null), rv t3]) rfl k) ?_
    show own_E p e below _ T3 (mkF m 41 #[rv a1, rv a2, iv 0, iv 70, .val (.null), rv t3] [])
    refine own_st (fun t k => XS.aloadN X3.here hx rfl (hb hby own_d_jdk_42_method_149_41) rfl rfl k) ?_
    show own_E p e below _ T3 (mkF m 42 #[rv a1, rv a2, iv 0, iv 70, .val (.null), rv t3] [.ref a1])
    refine own_st (fun t k => XS.aload X3.here hx rfl (hb hby own_d_jdk_42_method_149_42) rfl rfl k) ?_
    show own_E p e below _ T3 (mkF m 44 #[rv a1, rv a2, iv 0, iv 70, .val (.null), rv t3] [.ref t3, .ref a1])
    refine own_st (fun t k => XS.iloadN X3.here hx rfl (hb hby own_d_jdk_42_method_149_44) rfl k) ?_
    show own_E p e below _ T3 (mkF m 45 #[rv a1, rv a2, iv 0, iv 70, .val (.null), rv t3] [.int 70, .ref t3, .ref a1])
    obtain ⟨_, _, ⟨T20, L20, k20, n20⟩, -, X20, ⟨Lc20, hQ20, l20, y20, z20⟩, st20⟩ := Jvm.LawKit.callS X3 hx (y := own_y7) hown (mvT hZ (own_w hw 25 rfl)) (mvT hZ (own_w hw 26 rfl)) (mvT hZ (own_w hw 19 rfl)) (mvT hZ (own_w hw 27 rfl)) (by decide) (backOf (W := 1) (own_cfl140 l Z a0 hw [] t3 g T3.heap n0 Z4 At3) hZ (own_w hw 27 rfl) (own_w hw 19 rfl) (by decide) (by decide)) (g := (mkF m 45 #[rv a1, rv a2, iv 0, iv 70, .val (.null), rv t3] [.int 70, .ref t3, .ref a1])) rfl (by rw [hml]; rfl) (argsL := [(.ref t3), (.int (70 : Int32))]) (rest := [(.ref a1)]) (lenOf own_pd_12 rfl) rfl (by show 2 * 0 + _ ≤ _; exact Nat.le_of_eq rfl) (hb hby own_d_jdk_42_method_149_45) (fun _ _ => ⟨rfl, e3, (by decide : 2 + 0 ≤ _), (by decide : 210 + 0 ≤ _)⟩)
    dsimp only [Pt.U, Pt.locs, Pt.cells, Pt.slots] at X20 l20 y20 z20 st20 hQ20
    subst l20 y20 z20
    obtain ⟨hR20, e20, rfl⟩ := hQ20
    have N20 := Fr.app N3 (Fr.nil n0)
    obtain rfl := hR20
    refine own_st st20 ?_
    show own_E p e below _ T20 (mkF m 48 #[rv a1, rv a2, iv 0, iv 70, .val (.null), rv t3] [.int 1, .ref a1])
    have B22 := (F_coder_a1.keep Kq3 nin0)
    have B23 := (E_a1.keep Kq3)
    obtain ⟨T21, h21, X21, e21, W21, st21⟩ := putF X20 hx hZ hown (host := "") (Or.inl (own_w hw 28 rfl)) Via.refl e20 B22 B23 (Or.inr ⟨(own_w hw 29 rfl), rfl, hnm⟩) (own_w hw 4 rfl) (ty := .byte) (by decide) rfl rfl (g := (mkF m 48 #[rv a1, rv a2, iv 0, iv 70, .val (.null), rv t3] [.int 1, .ref a1])) rfl rfl (hb hby own_d_jdk_42_method_149_48)
    have N21 := Fr.snoc X21 N20 g_a1
    have Fw21 := B22.same W21
    have Z24 := Nat.le_trans Z4 (Keep.of_wr W21).1
    have K25 : Keep h0 _ [a1] := K5.wr W21 (Or.inl (List.mem_of_getElem? (i := 0) rfl))
    refine own_st st21 ?_
    show own_E p e below _ T21 (mkF m 51 #[rv a1, rv a2, iv 0, iv 70, .val (.null), rv t3] [])
    refine own_st (fun t k => XS.aloadN X21.here hx rfl (hb hby own_d_jdk_42_method_149_51) rfl rfl k) ?_
    show own_E p e below _ T21 (mkF m 52 #[rv a1, rv a2, iv 0, iv 70, .val (.null), rv t3] [.ref a1])
    refine own_st (fun t k => XS.aload X21.here hx rfl (hb hby own_d_jdk_42_method_149_52) rfl rfl k) ?_
    show own_E p e below _ T21 (mkF m 54 #[rv a1, rv a2, iv 0, iv 70, .val (.null), rv t3] [.ref t3, .ref a1])
    have B27 := ((F_value_a1.keep Kq3 nin0).other W21 (Or.inr (slot_ne (Or.inr (own_w hw 31 rfl)) (Or.inr (own_w hw 29 rfl)) (by decide) (t := (.array .byte)) (t' := .byte) (by decide) (by decide))))
    have B28 := (B23.wr W21)
    obtain ⟨T26, h26, X26, e26, W26, st26⟩ := putF X21 hx hZ hown (host := "") (Or.inl (own_w hw 30 rfl)) Via.refl e21 B27 B28 (Or.inr ⟨(own_w hw 31 rfl), rfl, hnm⟩) (own_w hw 4 rfl) (ty := (.array .byte)) (by decide) rfl rfl (g := (mkF m 54 #[rv a1, rv a2, iv 0, iv 70, .val (.null), rv t3] [.ref t3, .ref a1])) rfl rfl (hb hby own_d_jdk_42_method_149_54)
    have N26 := Fr.snoc X26 N21 g_a1
    have Fw26 := B27.same W26
    have Z29 := Nat.le_trans Z24 (Keep.of_wr W26).1
    have K30 : Keep h0 _ [a1] := K25.wr W26 (Or.inl (List.mem_of_getElem? (i := 0) rfl))
    refine own_st st26 ?_
    show own_E p e below _ T26 (mkF m 57 #[rv a1, rv a2, iv 0, iv 70, .val (.null), rv t3] [])
    refine own_retV X26 hx Bd.notSynchronized Bd.returns (hb hby own_d_jdk_42_method_149_57) (by decide) (by decide) ?_
    have B31 := ((At3.other W21 (Ne.symm ne_a1_t3)).other W26 (Ne.symm ne_a1_t3))
    have B32 := (B28.wr W26)
    have B33 := (Fw21.other W26 (Or.inr (slot_ne (Or.inr (own_w hw 29 rfl)) (Or.inr (own_w hw 31 rfl)) (by decide) (t := .byte) (t' := (.array .byte)) (by decide) (by decide))))
    show own_new4_Q Z a1 f h0 n0 _ T26.heap _
    rw [e26]
    exact ⟨rfl, N26, K30, B32, t3, Fw26, Or.inr ⟨B33, g, B31, hU⟩⟩
theorem own_d_jdk_42_method_3_0 : decode jdk_42_method_3_code 0 = .ok (.aload_n 0, 1) := by decide +kernel
theorem own_d_jdk_42_method_3_1 : decode jdk_42_method_3_code 1 = .ok (.aload_n 1, 1) := by decide +kernel
theorem own_d_jdk_42_method_3_2 : decode jdk_42_method_3_code 2 = .ok (.iconst 0, 1) := by decide +kernel
theorem own_d_jdk_42_method_3_3 : decode jdk_42_method_3_code 3 = .ok (.aload_n 1, 1) := by decide +kernel
theorem own_d_jdk_42_method_3_4 : decode jdk_42_method_3_code 4 = .ok (.arraylength, 1) := by decide +kernel
theorem own_d_jdk_42_method_3_5 : decode jdk_42_method_3_code 5 = .ok (.aconst_null, 1) := by decide +kernel
theorem own_d_jdk_42_method_3_6 : decode jdk_42_method_3_code 6 = .ok (.invokespecial 27, 3) := by decide +kernel
theorem own_pd_18 : parseMethodDescriptor "([CIILjava/lang/Void;)V" = some ⟨[(.array .char), .int, .int, (.object "java/lang/Void")], none⟩ := by decide +kernel
theorem own_d_jdk_42_method_3_9 : decode jdk_42_method_3_code 9 = .ok (.return_, 1) := by decide +kernel

abbrev own_y9 : MethodName := ⟨"java/lang/String", "<init>", "([C)V"⟩
theorem own_new1_ef (m : MethodId) (a1 : Addr) (a2 : Addr) (f : Nat → Int32) (zc : Int32) (rs : Value) : entryFrame m #[(.ref a1), (.ref a2)] 2 = mkF m 0 #[.val (.ref a1), .val (.ref a2)] [] := by first | (simp [entryFrame, mkF, argsToLocals, Value.category]; done) | rfl
set_option maxRecDepth 65536 in
set_option maxHeartbeats 40000000 in
theorem own_new1 (l : Launch) (Z : State) (a0 : Array Value) (hw : ∀ d ∈ tables_1, d.before a0 Z = true) (ws : List Jvm.Cond) (a1 : Addr) (a2 : Addr) (f : Nat → Int32) (zc : Int32) (rs : Value) (h0 : Heap) (n0 : Nat) (Z0 : n0 ≤ h0.size) (hC : own_C f) (hzc : ¬ zc = 0) (SX : own_St Z h0 zc rs) (E_a1 : Exa Z h0 a1 "java/lang/String") (F_value_a1 : Fld Z h0 a1 "java/lang/String" "value" "[B" .null) (F_coder_a1 : Fld Z h0 a1 "java/lang/String" "coder" "B" (.int (0 : Int32))) (VA_a2 : own_A Z h0 a2 .char 70 f) (ne12 : a1 ≠ a2) (g_a1 : n0 ≤ a1) :
    MetFree l own_y9 (head1 (Jvm.Cond.code own_y9 jdk_42_method_3_code 2 none :: ws) ({ frames := 5, cells := 2, slots := 210, locals := 74 } : Room)) (fun a U => a = #[(.ref a1), (.ref a2)] ∧ Z.Warmed39 U.vm ∧ U.heap = h0) (fun _ _ _ _ _ => True) (fun _ U o U' => ∃ v L, o = .returned v ∧ own_new4_Q Z a1 f h0 n0 v U'.heap L ∧ FrameEnd U o U' L ({ frames := 5, cells := 2, slots := 210, locals := 74 } : Room).cells ({ frames := 5, cells := 2, slots := 210, locals := 74 } : Room).slots) := by
  refine MetFree.of_bodySF (plainFor_of_name own_pn_String) hisR ?_
  intro p e s m args below meth c s₁ Bd hml0 hP hK
  obtain ⟨rfl, hZ, hh⟩ := hP
  have hx := Bd.exec
  have hby := Bd.bytes
  have hml : c.maxLocals = 2 := hml0
  have hown : s.vm.findClass "java/lang/String" = some m.cls := findClass_of_methodNamed Bd.named
  have hnm := (name_of_methodNamed Bd.named Bd.method).1
  have X0 : Stand p l e ({ frames := 5, cells := 2, slots := 210, locals := 74 } : Room) s m #[(.ref a1), (.ref a2)] below meth c s₁ [] 0 0 := Stand.of_body Bd
  have e0 : s₁.heap = h0 := by rw [← hh, Bd.state]; rfl
  show own_E p e below (own_K (own_new4_Q Z a1 f h0 n0) s ({ frames := 5, cells := 2, slots := 210, locals := 74 } : Room).cells ({ frames := 5, cells := 2, slots := 210, locals := 74 } : Room).slots) s₁ (entryFrame m #[(.ref a1), (.ref a2)] 2)
  refine own_pre (own_new1_ef m a1 a2 f zc rs) ?_
  show own_E p e below _ s₁ (mkF m 0 #[rv a1, rv a2] [])
  refine own_st (fun t k => XS.aloadN X0.here hx rfl (hb hby own_d_jdk_42_method_3_0) rfl rfl k) ?_
  show own_E p e below _ s₁ (mkF m 1 #[rv a1, rv a2] [.ref a1])
  refine own_st (fun t k => XS.aloadN X0.here hx rfl (hb hby own_d_jdk_42_method_3_1) rfl rfl k) ?_
  show own_E p e below _ s₁ (mkF m 2 #[rv a1, rv a2] [.ref a2, .ref a1])
  refine own_st (fun t k => XS.iconst X0.here hx rfl (hb hby own_d_jdk_42_method_3_2) k) ?_
  show own_E p e below _ s₁ (mkF m 3 #[rv a1, rv a2] [.int 0, .ref a2, .ref a1])
  refine own_st (fun t k => XS.aloadN X0.here hx rfl (hb hby own_d_jdk_42_method_3_3) rfl rfl k) ?_
  show own_E p e below _ s₁ (mkF m 4 #[rv a1, rv a2] [.ref a2, .int 0, .ref a2, .ref a1])
  refine own_st (own_A_len X0 hx hZ e0 VA_a2 (z := (70 : Int32)) rfl (g := (mkF m 4 #[rv a1, rv a2] [.ref a2, .int 0, .ref a2, .ref a1])) rfl rfl (hb hby own_d_jdk_42_method_3_4)) ?_
  show own_E p e below _ s₁ (mkF m 5 #[rv a1, rv a2] [.int 70, .int 0, .ref a2, .ref a1])
  refine own_st (fun t k => XS.aconstNull X0.here hx rfl (hb hby own_d_jdk_42_method_3_5) k) ?_
  show own_E p e below _ s₁ (mkF m 6 #[rv a1, rv a2] [.null, .int 70, .int 0, .ref a2, .ref a1])
  obtain ⟨_, _, ⟨T1, L1, k1, n1⟩, -, X1, ⟨Lc1, hQ1, l1, y1, z1⟩, st1⟩ := X0.specialBack hx (y := own_y8) rfl hown (mvT hZ (own_w hw 9 rfl)) (mvT hZ (own_w hw 10 rfl)) (mvT hZ (own_w hw 12 rfl)) (by decide) (backOf (W := 0) (own_new4 l Z a0 hw [] a1 a2 f zc rs h0 n0 Z0 hC hzc (SX.keep (Keep.refl h0 [a1]) (nsS E_a1.nostat ns0)) E_a1 F_value_a1 F_coder_a1 VA_a2 ne12 g_a1) hZ (own_w hw 12 rfl) (own_w hw 5 rfl) (by decide) (by decide)) (g := (mkF m 6 #[rv a1, rv a2] [.null, .int 70, .int 0, .ref a2, .ref a1])) rfl (by rw [hml]; rfl) (Steps.refl _) (a := a1) (argsL := [(.ref a2), (.int (0 : Int32)), (.int (70 : Int32)), .null]) (rest := []) (lenOf own_pd_18 rfl) rfl (by show 2 * 0 + _ ≤ _; exact Nat.le_of_eq rfl) (hb hby own_d_jdk_42_method_3_6) (fun _ _ => ⟨rfl, e0, (by decide : 0 + 2 ≤ _), (by decide : 0 + 210 ≤ _)⟩)
  dsimp only [Pt.U, Pt.locs, Pt.cells, Pt.slots] at X1 l1 y1 z1 st1 hQ1
  subst l1 y1 z1
  obtain ⟨rfl, Nq1, Kq1, hStr⟩ := hQ1
  have N1 := Fr.app (Fr.nil n0) Nq1
  have e1 : T1.heap = T1.heap := rfl
  have Z2 := Nat.le_trans Z0 Kq1.1
  have K3 : Keep h0 _ [a1] := (Keep.refl h0 [a1]).trans Kq1 (allS (P := fun x => x ∈ [a1] ∨ h0.size ≤ x) (Or.inl (List.mem_of_getElem? (i := 0) rfl)) all0)
  refine own_tr st1 ?_
  show own_E p e below _ T1 (mkF m 9 #[rv a1, rv a2] [])
  refine own_retV X1 hx Bd.notSynchronized Bd.returns (hb hby own_d_jdk_42_method_3_9) (by decide) (by decide) ?_
  exact ⟨rfl, N1, K3, hStr⟩
theorem own_d_jdk_42_method_154_0 : decode jdk_42_method_154_code 0 = .ok (.getstatic 38, 3) := by decide +kernel
theorem own_d_jdk_42_method_154_3 : decode jdk_42_method_154_code 3 = .ok (.ifCond .eq 14, 3) := by decide +kernel
theorem own_d_jdk_42_method_154_6 : decode jdk_42_method_154_code 6 = .ok (.aload_n 0, 1) := by decide +kernel
theorem own_d_jdk_42_method_154_7 : decode jdk_42_method_154_code 7 = .ok (.getfield 15, 3) := by decide +kernel
theorem own_d_jdk_42_method_154_10 : decode jdk_42_method_154_code 10 = .ok (.ifCond .ne 7, 3) := by decide +kernel
theorem own_d_jdk_42_method_154_13 : decode jdk_42_method_154_code 13 = .ok (.iconst 1, 1) := by decide +kernel
theorem own_d_jdk_42_method_154_14 : decode jdk_42_method_154_code 14 = .ok (.goto 4, 3) := by decide +kernel
theorem own_d_jdk_42_method_154_18 : decode jdk_42_method_154_code 18 = .ok (.ireturn, 1) := by decide +kernel
def own_il0_Q (a1 : Addr) (zc : Int32) (rs : Value) (h0 : Heap) (v : Option Value) (h : Heap) (L : List Loc) : Prop := ((v = some (.int (1 : Int32)))) ∧ h = h0 ∧ L = []
abbrev own_y10 : MethodName := ⟨"java/lang/String", "isLatin1", "()Z"⟩
theorem own_il0_ef (m : MethodId) (a1 : Addr) (zc : Int32) (rs : Value) : entryFrame m #[(.ref a1)] 1 = mkF m 0 #[.val (.ref a1)] [] := by first | (simp [entryFrame, mkF, argsToLocals, Value.category]; done) | rfl
set_option maxRecDepth 65536 in
set_option maxHeartbeats 40000000 in
theorem own_il0 (l : Launch) (Z : State) (a0 : Array Value) (hw : ∀ d ∈ tables_1, d.before a0 Z = true) (ws : List Jvm.Cond) (a1 : Addr) (zc : Int32) (rs : Value) (h0 : Heap) (n0 : Nat) (Z0 : n0 ≤ h0.size) (hzc : ¬ zc = 0) (SX : own_St Z h0 zc rs) (F_coder_a1 : Fld Z h0 a1 "java/lang/String" "coder" "B" (.int (0 : Int32))) :
    MetFree l own_y10 (head1 (Jvm.Cond.code own_y10 jdk_42_method_154_code 1 (some .boolean) :: ws) ({ frames := 0, cells := 0, slots := 0, locals := 0 } : Room)) (fun a U => a = #[(.ref a1)] ∧ Z.Warmed39 U.vm ∧ U.heap = h0) (fun _ _ _ _ _ => True) (fun _ U o U' => ∃ v L, o = .returned v ∧ own_il0_Q a1 zc rs h0 v U'.heap L ∧ FrameEnd U o U' L ({ frames := 0, cells := 0, slots := 0, locals := 0 } : Room).cells ({ frames := 0, cells := 0, slots := 0, locals := 0 } : Room).slots) := by
  refine MetFree.of_bodySF (plainFor_of_name own_pn_String) hisR ?_
  intro p e s m args below meth c s₁ Bd hml0 hP hK
  obtain ⟨rfl, hZ, hh⟩ := hP
  have hx := Bd.exec
  have hby := Bd.bytes
  have hml : c.maxLocals = 1 := hml0
  have hown : s.vm.findClass "java/lang/String" = some m.cls := findClass_of_methodNamed Bd.named
  have hnm := (name_of_methodNamed Bd.named Bd.method).1
  have X0 : Stand p l e ({ frames := 0, cells := 0, slots := 0, locals := 0 } : Room) s m #[(.ref a1)] below meth c s₁ [] 0 0 := Stand.of_body Bd
  have e0 : s₁.heap = h0 := by rw [← hh, Bd.state]; rfl
  show own_E p e below (own_K (own_il0_Q a1 zc rs h0) s ({ frames := 0, cells := 0, slots := 0, locals := 0 } : Room).cells ({ frames := 0, cells := 0, slots := 0, locals := 0 } : Room).slots) s₁ (entryFrame m #[(.ref a1)] 1)
  refine own_pre (own_il0_ef m a1 zc rs) ?_
  show own_E p e below _ s₁ (mkF m 0 #[rv a1] [])
  obtain ⟨T1, X1, e1, st1⟩ := getS2 X0 hx hZ hown (host := "") (Or.inl (own_w hw 16 rfl)) Via.refl e0 SX.1 (g := (mkF m 0 #[rv a1] [])) rfl (hb hby own_d_jdk_42_method_154_0)
  refine own_st st1 ?_
  show own_E p e below _ T1 (mkF m 3 #[rv a1] [.int zc])
  refine own_st (fun t k => XS.ifNo X1.here hx rfl (hb hby own_d_jdk_42_method_154_3) rfl ((if0 _ _).trans (feq hzc).1) k) ?_
  show own_E p e below _ T1 (mkF m 6 #[rv a1] [])
  refine own_st (fun t k => XS.aloadN X1.here hx rfl (hb hby own_d_jdk_42_method_154_6) rfl rfl k) ?_
  show own_E p e below _ T1 (mkF m 7 #[rv a1] [.ref a1])
  obtain ⟨T2, X2, e2, st2⟩ := getF X1 hx hZ hown (host := "") (Or.inl (own_w hw 28 rfl)) Via.refl e1 F_coder_a1 (g := (mkF m 7 #[rv a1] [.ref a1])) rfl rfl (hb hby own_d_jdk_42_method_154_7)
  refine own_st st2 ?_
  show own_E p e below _ T2 (mkF m 10 #[rv a1] [.int 0])
  refine own_st (fun t k => XS.ifNo X2.here hx rfl (hb hby own_d_jdk_42_method_154_10) rfl (by decide) k) ?_
  show own_E p e below _ T2 (mkF m 13 #[rv a1] [])
  refine own_st (fun t k => XS.iconst X2.here hx rfl (hb hby own_d_jdk_42_method_154_13) k) ?_
  show own_E p e below _ T2 (mkF m 14 #[rv a1] [.int 1])
  refine own_st (fun t k => XS.goto X2.here hx rfl (pc0 := 14) (pc' := 18) rfl (hb hby own_d_jdk_42_method_154_14) (by decide) (by decide) k) ?_
  show own_E p e below _ T2 (mkF m 18 #[rv a1] [.int 1])
  refine own_retS X2 hx Bd.notSynchronized Bd.returns rfl (by decide) (hb hby own_d_jdk_42_method_154_18) (by decide) (by decide) ?_
  exact ⟨rfl, e2, rfl⟩
theorem own_d_jdk_42_method_154_17 : decode jdk_42_method_154_code 17 = .ok (.iconst 0, 1) := by decide +kernel
def own_il1_Q (a1 : Addr) (zc : Int32) (rs : Value) (h0 : Heap) (v : Option Value) (h : Heap) (L : List Loc) : Prop := ((v = some (.int (0 : Int32)))) ∧ h = h0 ∧ L = []
theorem own_il1_ef (m : MethodId) (a1 : Addr) (zc : Int32) (rs : Value) : entryFrame m #[(.ref a1)] 1 = mkF m 0 #[.val (.ref a1)] [] := by first | (simp [entryFrame, mkF, argsToLocals, Value.category]; done) | rfl
set_option maxRecDepth 65536 in
set_option maxHeartbeats 40000000 in
theorem own_il1 (l : Launch) (Z : State) (a0 : Array Value) (hw : ∀ d ∈ tables_1, d.before a0 Z = true) (ws : List Jvm.Cond) (a1 : Addr) (zc : Int32) (rs : Value) (h0 : Heap) (n0 : Nat) (Z0 : n0 ≤ h0.size) (hzc : ¬ zc = 0) (SX : own_St Z h0 zc rs) (F_coder_a1 : Fld Z h0 a1 "java/lang/String" "coder" "B" (.int (1 : Int32))) :
    MetFree l own_y10 (head1 (Jvm.Cond.code own_y10 jdk_42_method_154_code 1 (some .boolean) :: ws) ({ frames := 0, cells := 0, slots := 0, locals := 0 } : Room)) (fun a U => a = #[(.ref a1)] ∧ Z.Warmed39 U.vm ∧ U.heap = h0) (fun _ _ _ _ _ => True) (fun _ U o U' => ∃ v L, o = .returned v ∧ own_il1_Q a1 zc rs h0 v U'.heap L ∧ FrameEnd U o U' L ({ frames := 0, cells := 0, slots := 0, locals := 0 } : Room).cells ({ frames := 0, cells := 0, slots := 0, locals := 0 } : Room).slots) := by
  refine MetFree.of_bodySF (plainFor_of_name own_pn_String) hisR ?_
  intro p e s m args below meth c s₁ Bd hml0 hP hK
  obtain ⟨rfl, hZ, hh⟩ := hP
  have hx := Bd.exec
  have hby := Bd.bytes
  have hml : c.maxLocals = 1 := hml0
  have hown : s.vm.findClass "java/lang/String" = some m.cls := findClass_of_methodNamed Bd.named
  have hnm := (name_of_methodNamed Bd.named Bd.method).1
  have X0 : Stand p l e ({ frames := 0, cells := 0, slots := 0, locals := 0 } : Room) s m #[(.ref a1)] below meth c s₁ [] 0 0 := Stand.of_body Bd
  have e0 : s₁.heap = h0 := by rw [← hh, Bd.state]; rfl
  show own_E p e below (own_K (own_il1_Q a1 zc rs h0) s ({ frames := 0, cells := 0, slots := 0, locals := 0 } : Room).cells ({ frames := 0, cells := 0, slots := 0, locals := 0 } : Room).slots) s₁ (entryFrame m #[(.ref a1)] 1)
  refine own_pre (own_il1_ef m a1 zc rs) ?_
  show own_E p e below _ s₁ (mkF m 0 #[rv a1] [])
  obtain ⟨T1, X1, e1, st1⟩ := getS2 X0 hx hZ hown (host := "") (Or.inl (own_w hw 16 rfl)) Via.refl e0 SX.1 (g := (mkF m 0 #[rv a1] [])) rfl (hb hby own_d_jdk_42_method_154_0)
  refine own_st st1 ?_
  show own_E p e below _ T1 (mkF m 3 #[rv a1] [.int zc])
  refine own_st (fun t k => XS.ifNo X1.here hx rfl (hb hby own_d_jdk_42_method_154_3) rfl ((if0 _ _).trans (feq hzc).1) k) ?_
  show own_E p e below _ T1 (mkF m 6 #[rv a1] [])
  refine own_st (fun t k => XS.aloadN X1.here hx rfl (hb hby own_d_jdk_42_method_154_6) rfl rfl k) ?_
  show own_E p e below _ T1 (mkF m 7 #[rv a1] [.ref a1])
  obtain ⟨T2, X2, e2, st2⟩ := getF X1 hx hZ hown (host := "") (Or.inl (own_w hw 28 rfl)) Via.refl e1 F_coder_a1 (g := (mkF m 7 #[rv a1] [.ref a1])) rfl rfl (hb hby own_d_jdk_42_method_154_7)
  refine own_st st2 ?_
  show own_E p e below _ T2 (mkF m 10 #[rv a1] [.int 1])
  refine own_st (fun t k => XS.ifYes X2.here hx rfl (pc0 := 10) (pc' := 17) rfl (hb hby own_d_jdk_42_method_154_10) rfl (by decide) (by decide) (by decide) k) ?_
  show own_E p e below _ T2 (mkF m 17 #[rv a1] [])
  refine own_st (fun t k => XS.iconst X2.here hx rfl (hb hby own_d_jdk_42_method_154_17) k) ?_
  show own_E p e below _ T2 (mkF m 18 #[rv a1] [.int 0])
  refine own_retS X2 hx Bd.notSynchronized Bd.returns rfl (by decide) (hb hby own_d_jdk_42_method_154_18) (by decide) (by decide) ?_
  exact ⟨rfl, e2, rfl⟩
theorem own_d_jdk_41_method_11_0 : decode jdk_41_method_11_code 0 = .ok (.iload_n 0, 1) := by decide +kernel
theorem own_d_jdk_41_method_11_1 : decode jdk_41_method_11_code 1 = .ok (.ifCond .lt 8, 3) := by decide +kernel
theorem own_d_jdk_41_method_11_4 : decode jdk_41_method_11_code 4 = .ok (.iload_n 0, 1) := by decide +kernel
theorem own_d_jdk_41_method_11_5 : decode jdk_41_method_11_code 5 = .ok (.iload_n 1, 1) := by decide +kernel
theorem own_d_jdk_41_method_11_6 : decode jdk_41_method_11_code 6 = .ok (.if_icmp .lt 10, 3) := by decide +kernel
theorem own_d_jdk_41_method_11_16 : decode jdk_41_method_11_code 16 = .ok (.iload_n 0, 1) := by decide +kernel
theorem own_d_jdk_41_method_11_17 : decode jdk_41_method_11_code 17 = .ok (.ireturn, 1) := by decide +kernel
def own_ciN_Q (i : Nat) (h0 : Heap) (v : Option Value) (h : Heap) (L : List Loc) : Prop := ((v = some (.int (own_n i)))) ∧ h = h0 ∧ L = []
abbrev own_y11 : MethodName := ⟨"jdk/internal/util/Preconditions", "checkIndex", "(IILjava/util/function/BiFunction;)I"⟩
theorem own_pn_Preconditions : plainName "jdk/internal/util/Preconditions" = true := by first | (simp [plainName, overriddenIn]; done) | decide +kernel
theorem own_ciN_ef (m : MethodId) (i : Nat) : entryFrame m #[(.int (own_n i)), (.int (70 : Int32)), .null] 3 = mkF m 0 #[.val (.int (own_n i)), .val (.int (70 : Int32)), .val .null] [] := by first | (simp [entryFrame, mkF, argsToLocals, Value.category]; done) | rfl
set_option maxRecDepth 65536 in
set_option maxHeartbeats 40000000 in
theorem own_ciN (l : Launch) (Z : State) (a0 : Array Value) (hw : ∀ d ∈ tables_1, d.before a0 Z = true) (ws : List Jvm.Cond) (i : Nat) (h0 : Heap) (n0 : Nat) (Z0 : n0 ≤ h0.size) (hi : i < 70) :
    MetFree l own_y11 (head1 (Jvm.Cond.code own_y11 jdk_41_method_11_code 3 (some .int) :: ws) ({ frames := 0, cells := 0, slots := 0, locals := 0 } : Room)) (fun a U => a = #[(.int (own_n i)), (.int (70 : Int32)), .null] ∧ Z.Warmed39 U.vm ∧ U.heap = h0) (fun _ _ _ _ _ => True) (fun _ U o U' => ∃ v L, o = .returned v ∧ own_ciN_Q i h0 v U'.heap L ∧ FrameEnd U o U' L ({ frames := 0, cells := 0, slots := 0, locals := 0 } : Room).cells ({ frames := 0, cells := 0, slots := 0, locals := 0 } : Room).slots) := by
  refine MetFree.of_bodySF (plainFor_of_name own_pn_Preconditions) hisR ?_
  intro p e s m args below meth c s₁ Bd hml0 hP hK
  obtain ⟨rfl, hZ, hh⟩ := hP
  have hx := Bd.exec
  have hby := Bd.bytes
  have hml : c.maxLocals = 3 := hml0
  have hown : s.vm.findClass "jdk/internal/util/Preconditions" = some m.cls := findClass_of_methodNamed Bd.named
  have hnm := (name_of_methodNamed Bd.named Bd.method).1
  have X0 : Stand p l e ({ frames := 0, cells := 0, slots := 0, locals := 0 } : Room) s m #[(.int (own_n i)), (.int (70 : Int32)), .null] below meth c s₁ [] 0 0 := Stand.of_body Bd
  have e0 : s₁.heap = h0 := by rw [← hh, Bd.state]; rfl
  show own_E p e below (own_K (own_ciN_Q i h0) s ({ frames := 0, cells := 0, slots := 0, locals := 0 } : Room).cells ({ frames := 0, cells := 0, slots := 0, locals := 0 } : Room).slots) s₁ (entryFrame m #[(.int (own_n i)), (.int (70 : Int32)), .null] 3)
  refine own_pre (own_ciN_ef m i) ?_
  show own_E p e below _ s₁ (mkF m 0 #[iv (own_n i), iv 70, .val (.null)] [])
  refine own_st (fun t k => XS.iloadN X0.here hx rfl (hb hby own_d_jdk_41_method_11_0) rfl k) ?_
  show own_E p e below _ s₁ (mkF m 1 #[iv (own_n i), iv 70, .val (.null)] [.int (own_n i)])
  refine own_st (fun t k => XS.ifNo X0.here hx rfl (hb hby own_d_jdk_41_method_11_1) rfl ((if0 _ _).trans (flt (own_n0 (by omega))).1) k) ?_
  show own_E p e below _ s₁ (mkF m 4 #[iv (own_n i), iv 70, .val (.null)] [])
  refine own_st (fun t k => XS.iloadN X0.here hx rfl (hb hby own_d_jdk_41_method_11_4) rfl k) ?_
  show own_E p e below _ s₁ (mkF m 5 #[iv (own_n i), iv 70, .val (.null)] [.int (own_n i)])
  refine own_st (fun t k => XS.iloadN X0.here hx rfl (hb hby own_d_jdk_41_method_11_5) rfl k) ?_
  show own_E p e below _ s₁ (mkF m 6 #[iv (own_n i), iv 70, .val (.null)] [.int 70, .int (own_n i)])
  refine own_st (fun t k => XS.icmpYes X0.here hx rfl (pc0 := 6) (pc' := 16) rfl (hb hby own_d_jdk_41_method_11_6) rfl (tlt (own_lt70 hi)).1 (by decide) (by decide) k) ?_
  show own_E p e below _ s₁ (mkF m 16 #[iv (own_n i), iv 70, .val (.null)] [])
  refine own_st (fun t k => XS.iloadN X0.here hx rfl (hb hby own_d_jdk_41_method_11_16) rfl k) ?_
  show own_E p e below _ s₁ (mkF m 17 #[iv (own_n i), iv 70, .val (.null)] [.int (own_n i)])
  refine own_retI X0 hx Bd.notSynchronized Bd.returns (hb hby own_d_jdk_41_method_11_17) (by decide) (by decide) ?_
  exact ⟨rfl, e0, rfl⟩
theorem own_d_jdk_42_method_155_0 : decode jdk_42_method_155_code 0 = .ok (.iload_n 0, 1) := by decide +kernel
theorem own_d_jdk_42_method_155_1 : decode jdk_42_method_155_code 1 = .ok (.iload_n 1, 1) := by decide +kernel
theorem own_d_jdk_42_method_155_2 : decode jdk_42_method_155_code 2 = .ok (.getstatic 1053, 3) := by decide +kernel
theorem own_d_jdk_42_method_155_5 : decode jdk_42_method_155_code 5 = .ok (.invokestatic 1059, 3) := by decide +kernel
theorem own_pd_8 : parseMethodDescriptor "(IILjava/util/function/BiFunction;)I" = some ⟨[.int, .int, (.object "java/util/function/BiFunction")], some .int⟩ := by decide +kernel
theorem own_d_jdk_42_method_155_8 : decode jdk_42_method_155_code 8 = .ok (.pop, 1) := by decide +kernel
theorem own_d_jdk_42_method_155_9 : decode jdk_42_method_155_code 9 = .ok (.return_, 1) := by decide +kernel
def own_sciN_Q (i : Nat) (zc : Int32) (h0 : Heap) (v : Option Value) (h : Heap) (L : List Loc) : Prop := ((v = none)) ∧ h = h0 ∧ L = []
abbrev own_y12 : MethodName := ⟨"java/lang/String", "checkIndex", "(II)V"⟩
theorem own_sciN_ef (m : MethodId) (i : Nat) (zc : Int32) : entryFrame m #[(.int (own_n i)), (.int (70 : Int32))] 2 = mkF m 0 #[.val (.int (own_n i)), .val (.int (70 : Int32))] [] := by first | (simp [entryFrame, mkF, argsToLocals, Value.category]; done) | rfl
set_option maxRecDepth 65536 in
set_option maxHeartbeats 40000000 in
theorem own_sciN (l : Launch) (Z : State) (a0 : Array Value) (hw : ∀ d ∈ tables_1, d.before a0 Z = true) (ws : List Jvm.Cond) (i : Nat) (zc : Int32) (h0 : Heap) (n0 : Nat) (Z0 : n0 ≤ h0.size) (hi : i < 70) (SX : own_St Z h0 zc .null) :
    MetFree l own_y12 (head1 (Jvm.Cond.code own_y12 jdk_42_method_155_code 2 none :: ws) ({ frames := 1, cells := 0, slots := 0, locals := 14 } : Room)) (fun a U => a = #[(.int (own_n i)), (.int (70 : Int32))] ∧ Z.Warmed39 U.vm ∧ U.heap = h0) (fun _ _ _ _ _ => True) (fun _ U o U' => ∃ v L, o = .returned v ∧ own_sciN_Q i zc h0 v U'.heap L ∧ FrameEnd U o U' L ({ frames := 1, cells := 0, slots := 0, locals := 14 } : Room).cells ({ frames := 1, cells := 0, slots := 0, locals := 14 } : Room).slots) := by
  refine MetFree.of_bodySF (plainFor_of_name own_pn_String) hisR ?_
  intro p e s m args below meth c s₁ Bd hml0 hP hK
  obtain ⟨rfl, hZ, hh⟩ := hP
  have hx := Bd.exec
  have hby := Bd.bytes
  have hml : c.maxLocals = 2 := hml0
  have hown : s.vm.findClass "java/lang/String" = some m.cls := findClass_of_methodNamed Bd.named
  have hnm := (name_of_methodNamed Bd.named Bd.method).1
  have X0 : Stand p l e ({ frames := 1, cells := 0, slots := 0, locals := 14 } : Room) s m #[(.int (own_n i)), (.int (70 : Int32))] below meth c s₁ [] 0 0 := Stand.of_body Bd
  have e0 : s₁.heap = h0 := by rw [← hh, Bd.state]; rfl
  show own_E p e below (own_K (own_sciN_Q i zc h0) s ({ frames := 1, cells := 0, slots := 0, locals := 14 } : Room).cells ({ frames := 1, cells := 0, slots := 0, locals := 14 } : Room).slots) s₁ (entryFrame m #[(.int (own_n i)), (.int (70 : Int32))] 2)
  refine own_pre (own_sciN_ef m i zc) ?_
  show own_E p e below _ s₁ (mkF m 0 #[iv (own_n i), iv 70] [])
  refine own_st (fun t k => XS.iloadN X0.here hx rfl (hb hby own_d_jdk_42_method_155_0) rfl k) ?_
  show own_E p e below _ s₁ (mkF m 1 #[iv (own_n i), iv 70] [.int (own_n i)])
  refine own_st (fun t k => XS.iloadN X0.here hx rfl (hb hby own_d_jdk_42_method_155_1) rfl k) ?_
  show own_E p e below _ s₁ (mkF m 2 #[iv (own_n i), iv 70] [.int 70, .int (own_n i)])
  obtain ⟨T1, X1, e1, st1⟩ := getS2 X0 hx hZ hown (host := "") (Or.inl (own_w hw 53 rfl)) Via.refl e0 SX.2.2.2.2 (g := (mkF m 2 #[iv (own_n i), iv 70] [.int 70, .int (own_n i)])) rfl (hb hby own_d_jdk_42_method_155_2)
  refine own_st st1 ?_
  show own_E p e below _ T1 (mkF m 5 #[iv (own_n i), iv 70] [.null, .int 70, .int (own_n i)])
  obtain ⟨_, _, ⟨T2, L2, k2, n2⟩, -, X2, ⟨Lc2, hQ2, l2, y2, z2⟩, st2⟩ := Jvm.LawKit.callS X1 hx (y := own_y11) hown (mvT hZ (own_w hw 55 rfl)) (mvT hZ (own_w hw 56 rfl)) (mvT hZ (own_w hw 54 rfl)) (mvT hZ (own_w hw 57 rfl)) (by decide) (backOf (W := 0) (own_ciN l Z a0 hw [] i h0 n0 Z0 hi) hZ (own_w hw 57 rfl) (own_w hw 54 rfl) (by decide) (by decide)) (g := (mkF m 5 #[iv (own_n i), iv 70] [.null, .int 70, .int (own_n i)])) rfl (by rw [hml]; rfl) (argsL := [(.int (own_n i)), (.int (70 : Int32)), .null]) (rest := []) (lenOf own_pd_8 rfl) rfl (by show 2 * 0 + _ ≤ _; exact Nat.le_of_eq rfl) (hb hby own_d_jdk_42_method_155_5) (fun _ _ => ⟨rfl, e1, (by decide : 0 + 0 ≤ _), (by decide : 0 + 0 ≤ _)⟩)
  dsimp only [Pt.U, Pt.locs, Pt.cells, Pt.slots] at X2 l2 y2 z2 st2 hQ2
  subst l2 y2 z2
  obtain ⟨hR2, e2, rfl⟩ := hQ2
  have N2 := Fr.app (Fr.nil n0) (Fr.nil n0)
  obtain rfl := hR2
  refine own_st st2 ?_
  show own_E p e below _ T2 (mkF m 8 #[iv (own_n i), iv 70] [.int (own_n i)])
  refine own_st (fun t k => XS.pop X2.here hx rfl (hb hby own_d_jdk_42_method_155_8) rfl rfl k) ?_
  show own_E p e below _ T2 (mkF m 9 #[iv (own_n i), iv 70] [])
  refine own_retV X2 hx Bd.notSynchronized Bd.returns (hb hby own_d_jdk_42_method_155_9) (by decide) (by decide) ?_
  exact ⟨rfl, e2, rfl⟩
def own_ciR_Q (i : Nat) (ra : Addr) (h0 : Heap) (v : Option Value) (h : Heap) (L : List Loc) : Prop := ((v = some (.int (own_n i)))) ∧ h = h0 ∧ L = []
theorem own_ciR_ef (m : MethodId) (i : Nat) (ra : Addr) : entryFrame m #[(.int (own_n i)), (.int (70 : Int32)), (.ref ra)] 3 = mkF m 0 #[.val (.int (own_n i)), .val (.int (70 : Int32)), .val (.ref ra)] [] := by first | (simp [entryFrame, mkF, argsToLocals, Value.category]; done) | rfl
set_option maxRecDepth 65536 in
set_option maxHeartbeats 40000000 in
theorem own_ciR (l : Launch) (Z : State) (a0 : Array Value) (hw : ∀ d ∈ tables_1, d.before a0 Z = true) (ws : List Jvm.Cond) (i : Nat) (ra : Addr) (h0 : Heap) (n0 : Nat) (Z0 : n0 ≤ h0.size) (hi : i < 70) :
    MetFree l own_y11 (head1 (Jvm.Cond.code own_y11 jdk_41_method_11_code 3 (some .int) :: ws) ({ frames := 0, cells := 0, slots := 0, locals := 0 } : Room)) (fun a U => a = #[(.int (own_n i)), (.int (70 : Int32)), (.ref ra)] ∧ Z.Warmed39 U.vm ∧ U.heap = h0) (fun _ _ _ _ _ => True) (fun _ U o U' => ∃ v L, o = .returned v ∧ own_ciR_Q i ra h0 v U'.heap L ∧ FrameEnd U o U' L ({ frames := 0, cells := 0, slots := 0, locals := 0 } : Room).cells ({ frames := 0, cells := 0, slots := 0, locals := 0 } : Room).slots) := by
  refine MetFree.of_bodySF (plainFor_of_name own_pn_Preconditions) hisR ?_
  intro p e s m args below meth c s₁ Bd hml0 hP hK
  obtain ⟨rfl, hZ, hh⟩ := hP
  have hx := Bd.exec
  have hby := Bd.bytes
  have hml : c.maxLocals = 3 := hml0
  have hown : s.vm.findClass "jdk/internal/util/Preconditions" = some m.cls := findClass_of_methodNamed Bd.named
  have hnm := (name_of_methodNamed Bd.named Bd.method).1
  have X0 : Stand p l e ({ frames := 0, cells := 0, slots := 0, locals := 0 } : Room) s m #[(.int (own_n i)), (.int (70 : Int32)), (.ref ra)] below meth c s₁ [] 0 0 := Stand.of_body Bd
  have e0 : s₁.heap = h0 := by rw [← hh, Bd.state]; rfl
  show own_E p e below (own_K (own_ciR_Q i ra h0) s ({ frames := 0, cells := 0, slots := 0, locals := 0 } : Room).cells ({ frames := 0, cells := 0, slots := 0, locals := 0 } : Room).slots) s₁ (entryFrame m #[(.int (own_n i)), (.int (70 : Int32)), (.ref ra)] 3)
  refine own_pre (own_ciR_ef m i ra) ?_
  show own_E p e below _ s₁ (mkF m 0 #[iv (own_n i), iv 70, rv ra] [])
  refine own_st (fun t k => XS.iloadN X0.here hx rfl (hb hby own_d_jdk_41_method_11_0) rfl k) ?_
  show own_E p e below _ s₁ (mkF m 1 #[iv (own_n i), iv 70, rv ra] [.int (own_n i)])
  refine own_st (fun t k => XS.ifNo X0.here hx rfl (hb hby own_d_jdk_41_method_11_1) rfl ((if0 _ _).trans (flt (own_n0 (by omega))).1) k) ?_
  show own_E p e below _ s₁ (mkF m 4 #[iv (own_n i), iv 70, rv ra] [])
  refine own_st (fun t k => XS.iloadN X0.here hx rfl (hb hby own_d_jdk_41_method_11_4) rfl k) ?_
  show own_E p e below _ s₁ (mkF m 5 #[iv (own_n i), iv 70, rv ra] [.int (own_n i)])
  refine own_st (fun t k => XS.iloadN X0.here hx rfl (hb hby own_d_jdk_41_method_11_5) rfl k) ?_
  show own_E p e below _ s₁ (mkF m 6 #[iv (own_n i), iv 70, rv ra] [.int 70, .int (own_n i)])
  refine own_st (fun t k => XS.icmpYes X0.here hx rfl (pc0 := 6) (pc' := 16) rfl (hb hby own_d_jdk_41_method_11_6) rfl (tlt (own_lt70 hi)).1 (by decide) (by decide) k) ?_
  show own_E p e below _ s₁ (mkF m 16 #[iv (own_n i), iv 70, rv ra] [])
  refine own_st (fun t k => XS.iloadN X0.here hx rfl (hb hby own_d_jdk_41_method_11_16) rfl k) ?_
  show own_E p e below _ s₁ (mkF m 17 #[iv (own_n i), iv 70, rv ra] [.int (own_n i)])
  refine own_retI X0 hx Bd.notSynchronized Bd.returns (hb hby own_d_jdk_41_method_11_17) (by decide) (by decide) ?_
  exact ⟨rfl, e0, rfl⟩
def own_sciR_Q (i : Nat) (zc : Int32) (ra : Addr) (h0 : Heap) (v : Option Value) (h : Heap) (L : List Loc) : Prop := ((v = none)) ∧ h = h0 ∧ L = []
theorem own_sciR_ef (m : MethodId) (i : Nat) (zc : Int32) (ra : Addr) : entryFrame m #[(.int (own_n i)), (.int (70 : Int32))] 2 = mkF m 0 #[.val (.int (own_n i)), .val (.int (70 : Int32))] [] := by first | (simp [entryFrame, mkF, argsToLocals, Value.category]; done) | rfl
set_option maxRecDepth 65536 in
set_option maxHeartbeats 40000000 in
theorem own_sciR (l : Launch) (Z : State) (a0 : Array Value) (hw : ∀ d ∈ tables_1, d.before a0 Z = true) (ws : List Jvm.Cond) (i : Nat) (zc : Int32) (ra : Addr) (h0 : Heap) (n0 : Nat) (Z0 : n0 ≤ h0.size) (hi : i < 70) (SX : own_St Z h0 zc (.ref ra)) :
    MetFree l own_y12 (head1 (Jvm.Cond.code own_y12 jdk_42_method_155_code 2 none :: ws) ({ frames := 1, cells := 0, slots := 0, locals := 14 } : Room)) (fun a U => a = #[(.int (own_n i)), (.int (70 : Int32))] ∧ Z.Warmed39 U.vm ∧ U.heap = h0) (fun _ _ _ _ _ => True) (fun _ U o U' => ∃ v L, o = .returned v ∧ own_sciR_Q i zc ra h0 v U'.heap L ∧ FrameEnd U o U' L ({ frames := 1, cells := 0, slots := 0, locals := 14 } : Room).cells ({ frames := 1, cells := 0, slots := 0, locals := 14 } : Room).slots) := by
  refine MetFree.of_bodySF (plainFor_of_name own_pn_String) hisR ?_
  intro p e s m args below meth c s₁ Bd hml0 hP hK
  obtain ⟨rfl, hZ, hh⟩ := hP
  have hx := Bd.exec
  have hby := Bd.bytes
  have hml : c.maxLocals = 2 := hml0
  have hown : s.vm.findClass "java/lang/String" = some m.cls := findClass_of_methodNamed Bd.named
  have hnm := (name_of_methodNamed Bd.named Bd.method).1
  have X0 : Stand p l e ({ frames := 1, cells := 0, slots := 0, locals := 14 } : Room) s m #[(.int (own_n i)), (.int (70 : Int32))] below meth c s₁ [] 0 0 := Stand.of_body Bd
  have e0 : s₁.heap = h0 := by rw [← hh, Bd.state]; rfl
  show own_E p e below (own_K (own_sciR_Q i zc ra h0) s ({ frames := 1, cells := 0, slots := 0, locals := 14 } : Room).cells ({ frames := 1, cells := 0, slots := 0, locals := 14 } : Room).slots) s₁ (entryFrame m #[(.int (own_n i)), (.int (70 : Int32))] 2)
  refine own_pre (own_sciR_ef m i zc ra) ?_
  show own_E p e below _ s₁ (mkF m 0 #[iv (own_n i), iv 70] [])
  refine own_st (fun t k => XS.iloadN X0.here hx rfl (hb hby own_d_jdk_42_method_155_0) rfl k) ?_
  show own_E p e below _ s₁ (mkF m 1 #[iv (own_n i), iv 70] [.int (own_n i)])
  refine own_st (fun t k => XS.iloadN X0.here hx rfl (hb hby own_d_jdk_42_method_155_1) rfl k) ?_
  show own_E p e below _ s₁ (mkF m 2 #[iv (own_n i), iv 70] [.int 70, .int (own_n i)])
  obtain ⟨T1, X1, e1, st1⟩ := getS2 X0 hx hZ hown (host := "") (Or.inl (own_w hw 53 rfl)) Via.refl e0 SX.2.2.2.2 (g := (mkF m 2 #[iv (own_n i), iv 70] [.int 70, .int (own_n i)])) rfl (hb hby own_d_jdk_42_method_155_2)
  refine own_st st1 ?_
  show own_E p e below _ T1 (mkF m 5 #[iv (own_n i), iv 70] [.ref ra, .int 70, .int (own_n i)])
  obtain ⟨_, _, ⟨T2, L2, k2, n2⟩, -, X2, ⟨Lc2, hQ2, l2, y2, z2⟩, st2⟩ := Jvm.LawKit.callS X1 hx (y := own_y11) hown (mvT hZ (own_w hw 55 rfl)) (mvT hZ (own_w hw 56 rfl)) (mvT hZ (own_w hw 54 rfl)) (mvT hZ (own_w hw 57 rfl)) (by decide) (backOf (W := 0) (own_ciR l Z a0 hw [] i ra h0 n0 Z0 hi) hZ (own_w hw 57 rfl) (own_w hw 54 rfl) (by decide) (by decide)) (g := (mkF m 5 #[iv (own_n i), iv 70] [.ref ra, .int 70, .int (own_n i)])) rfl (by rw [hml]; rfl) (argsL := [(.int (own_n i)), (.int (70 : Int32)), (.ref ra)]) (rest := []) (lenOf own_pd_8 rfl) rfl (by show 2 * 0 + _ ≤ _; exact Nat.le_of_eq rfl) (hb hby own_d_jdk_42_method_155_5) (fun _ _ => ⟨rfl, e1, (by decide : 0 + 0 ≤ _), (by decide : 0 + 0 ≤ _)⟩)
  dsimp only [Pt.U, Pt.locs, Pt.cells, Pt.slots] at X2 l2 y2 z2 st2 hQ2
  subst l2 y2 z2
  obtain ⟨hR2, e2, rfl⟩ := hQ2
  have N2 := Fr.app (Fr.nil n0) (Fr.nil n0)
  obtain rfl := hR2
  refine own_st st2 ?_
  show own_E p e below _ T2 (mkF m 8 #[iv (own_n i), iv 70] [.int (own_n i)])
  refine own_st (fun t k => XS.pop X2.here hx rfl (hb hby own_d_jdk_42_method_155_8) rfl rfl k) ?_
  show own_E p e below _ T2 (mkF m 9 #[iv (own_n i), iv 70] [])
  refine own_retV X2 hx Bd.notSynchronized Bd.returns (hb hby own_d_jdk_42_method_155_9) (by decide) (by decide) ?_
  exact ⟨rfl, e2, rfl⟩
def own_sci_Q (h0 : Heap) (v : Option Value) (h : Heap) (L : List Loc) : Prop := v = none ∧ h = h0 ∧ L = []
theorem own_sci (l : Launch) (Z : State) (a0 : Array Value) (hw : ∀ d ∈ tables_1, d.before a0 Z = true) (ws : List Jvm.Cond) (i : Nat) (zc : Int32) (rs : Value) (h0 : Heap) (n0 : Nat) (Z0 : n0 ≤ h0.size) (hi : i < 70) (SX : own_St Z h0 zc rs) (hrs : rs = .null ∨ ∃ x, rs = .ref x) :
    MetFree l own_y12 (head1 (Jvm.Cond.code own_y12 jdk_42_method_155_code 2 none :: ws) ({ frames := 1, cells := 0, slots := 0, locals := 14 } : Room)) (fun a U => a = #[(.int (own_n i)), (.int (70 : Int32))] ∧ Z.Warmed39 U.vm ∧ U.heap = h0) (fun _ _ _ _ _ => True) (fun _ U o U' => ∃ v L, o = .returned v ∧ own_sci_Q h0 v U'.heap L ∧ FrameEnd U o U' L ({ frames := 1, cells := 0, slots := 0, locals := 14 } : Room).cells ({ frames := 1, cells := 0, slots := 0, locals := 14 } : Room).slots) := by
  obtain rfl | ⟨x, rfl⟩ := hrs
  · exact own_sciN l Z a0 hw ws i zc h0 n0 Z0 hi SX
  · exact own_sciR l Z a0 hw ws i zc x h0 n0 Z0 hi SX
theorem own_d_jdk_43_method_2_0 : decode jdk_43_method_2_code 0 = .ok (.iload_n 1, 1) := by decide +kernel
theorem own_d_jdk_43_method_2_1 : decode jdk_43_method_2_code 1 = .ok (.aload_n 0, 1) := by decide +kernel
theorem own_d_jdk_43_method_2_2 : decode jdk_43_method_2_code 2 = .ok (.arraylength, 1) := by decide +kernel
theorem own_d_jdk_43_method_2_3 : decode jdk_43_method_2_code 3 = .ok (.invokestatic 9, 3) := by decide +kernel
theorem own_pd_6 : parseMethodDescriptor "(II)V" = some ⟨[.int, .int], none⟩ := by decide +kernel
theorem own_d_jdk_43_method_2_6 : decode jdk_43_method_2_code 6 = .ok (.aload_n 0, 1) := by decide +kernel
theorem own_d_jdk_43_method_2_7 : decode jdk_43_method_2_code 7 = .ok (.iload_n 1, 1) := by decide +kernel
theorem own_d_jdk_43_method_2_8 : decode jdk_43_method_2_code 8 = .ok (.baload, 1) := by decide +kernel
theorem own_d_jdk_43_method_2_9 : decode jdk_43_method_2_code 9 = .ok (.sipush 255, 3) := by decide +kernel
theorem own_d_jdk_43_method_2_12 : decode jdk_43_method_2_code 12 = .ok (.iand, 1) := by decide +kernel
theorem own_d_jdk_43_method_2_13 : decode jdk_43_method_2_code 13 = .ok (.i2c, 1) := by decide +kernel
theorem own_d_jdk_43_method_2_14 : decode jdk_43_method_2_code 14 = .ok (.ireturn, 1) := by decide +kernel
def own_lch_Q (b1 : Addr) (i : Nat) (f : Nat → Int32) (zc : Int32) (rs : Value) (h0 : Heap) (v : Option Value) (h : Heap) (L : List Loc) : Prop := ((v = some (.int (f i)))) ∧ h = h0 ∧ L = []
abbrev own_y13 : MethodName := ⟨"java/lang/StringLatin1", "charAt", "([BI)C"⟩
theorem own_pn_StringLatin1 : plainName "java/lang/StringLatin1" = true := by first | (simp [plainName, overriddenIn]; done) | decide +kernel
theorem own_lch_ef (m : MethodId) (b1 : Addr) (i : Nat) (f : Nat → Int32) (zc : Int32) (rs : Value) : entryFrame m #[(.ref b1), (.int (own_n i))] 2 = mkF m 0 #[.val (.ref b1), .val (.int (own_n i))] [] := by first | (simp [entryFrame, mkF, argsToLocals, Value.category]; done) | rfl
set_option maxRecDepth 65536 in
set_option maxHeartbeats 40000000 in
theorem own_lch (l : Launch) (Z : State) (a0 : Array Value) (hw : ∀ d ∈ tables_1, d.before a0 Z = true) (ws : List Jvm.Cond) (b1 : Addr) (i : Nat) (f : Nat → Int32) (zc : Int32) (rs : Value) (h0 : Heap) (n0 : Nat) (Z0 : n0 ≤ h0.size) (hi : i < 70) (hC : own_C f) (hL : ∀ j, j < 70 → ¬ (255 : Int32) < f j) (SX : own_St Z h0 zc rs) (hrs : rs = .null ∨ ∃ x, rs = .ref x) (VA_b1 : own_A Z h0 b1 .byte 70 (fun j => (f j).toInt8.toInt32)) :
    MetFree l own_y13 (head1 (Jvm.Cond.code own_y13 jdk_43_method_2_code 2 (some .char) :: ws) ({ frames := 2, cells := 0, slots := 0, locals := 27 } : Room)) (fun a U => a = #[(.ref b1), (.int (own_n i))] ∧ Z.Warmed39 U.vm ∧ U.heap = h0) (fun _ _ _ _ _ => True) (fun _ U o U' => ∃ v L, o = .returned v ∧ own_lch_Q b1 i f zc rs h0 v U'.heap L ∧ FrameEnd U o U' L ({ frames := 2, cells := 0, slots := 0, locals := 27 } : Room).cells ({ frames := 2, cells := 0, slots := 0, locals := 27 } : Room).slots) := by
  refine MetFree.of_bodySF (plainFor_of_name own_pn_StringLatin1) hisR ?_
  intro p e s m args below meth c s₁ Bd hml0 hP hK
  obtain ⟨rfl, hZ, hh⟩ := hP
  have hx := Bd.exec
  have hby := Bd.bytes
  have hml : c.maxLocals = 2 := hml0
  have hown : s.vm.findClass "java/lang/StringLatin1" = some m.cls := findClass_of_methodNamed Bd.named
  have hnm := (name_of_methodNamed Bd.named Bd.method).1
  have X0 : Stand p l e ({ frames := 2, cells := 0, slots := 0, locals := 27 } : Room) s m #[(.ref b1), (.int (own_n i))] below meth c s₁ [] 0 0 := Stand.of_body Bd
  have e0 : s₁.heap = h0 := by rw [← hh, Bd.state]; rfl
  show own_E p e below (own_K (own_lch_Q b1 i f zc rs h0) s ({ frames := 2, cells := 0, slots := 0, locals := 27 } : Room).cells ({ frames := 2, cells := 0, slots := 0, locals := 27 } : Room).slots) s₁ (entryFrame m #[(.ref b1), (.int (own_n i))] 2)
  refine own_pre (own_lch_ef m b1 i f zc rs) ?_
  show own_E p e below _ s₁ (mkF m 0 #[rv b1, iv (own_n i)] [])
  refine own_st (fun t k => XS.iloadN X0.here hx rfl (hb hby own_d_jdk_43_method_2_0) rfl k) ?_
  show own_E p e below _ s₁ (mkF m 1 #[rv b1, iv (own_n i)] [.int (own_n i)])
  refine own_st (fun t k => XS.aloadN X0.here hx rfl (hb hby own_d_jdk_43_method_2_1) rfl rfl k) ?_
  show own_E p e below _ s₁ (mkF m 2 #[rv b1, iv (own_n i)] [.ref b1, .int (own_n i)])
  refine own_st (own_A_len X0 hx hZ e0 VA_b1 (z := (70 : Int32)) rfl (g := (mkF m 2 #[rv b1, iv (own_n i)] [.ref b1, .int (own_n i)])) rfl rfl (hb hby own_d_jdk_43_method_2_2)) ?_
  show own_E p e below _ s₁ (mkF m 3 #[rv b1, iv (own_n i)] [.int 70, .int (own_n i)])
  obtain ⟨_, _, ⟨T1, L1, k1, n1⟩, -, X1, ⟨Lc1, hQ1, l1, y1, z1⟩, st1⟩ := Jvm.LawKit.callS X0 hx (y := own_y12) hown (mvT hZ (own_w hw 50 rfl)) (mvT hZ (own_w hw 51 rfl)) (mvT hZ (own_w hw 5 rfl)) (mvT hZ (own_w hw 52 rfl)) (by decide) (backOf (W := 0) (own_sci l Z a0 hw [] i zc rs h0 n0 Z0 hi SX hrs) hZ (own_w hw 52 rfl) (own_w hw 5 rfl) (by decide) (by decide)) (g := (mkF m 3 #[rv b1, iv (own_n i)] [.int 70, .int (own_n i)])) rfl (by rw [hml]; rfl) (argsL := [(.int (own_n i)), (.int (70 : Int32))]) (rest := []) (lenOf own_pd_6 rfl) rfl (by show 2 * 0 + _ ≤ _; exact Nat.le_of_eq rfl) (hb hby own_d_jdk_43_method_2_3) (fun _ _ => ⟨rfl, e0, (by decide : 0 + 0 ≤ _), (by decide : 0 + 0 ≤ _)⟩)
  dsimp only [Pt.U, Pt.locs, Pt.cells, Pt.slots] at X1 l1 y1 z1 st1 hQ1
  subst l1 y1 z1
  obtain ⟨rfl, e1, rfl⟩ := hQ1
  have N1 := Fr.app (Fr.nil n0) (Fr.nil n0)
  refine own_st st1 ?_
  show own_E p e below _ T1 (mkF m 6 #[rv b1, iv (own_n i)] [])
  refine own_st (fun t k => XS.aloadN X1.here hx rfl (hb hby own_d_jdk_43_method_2_6) rfl rfl k) ?_
  show own_E p e below _ T1 (mkF m 7 #[rv b1, iv (own_n i)] [.ref b1])
  refine own_st (fun t k => XS.iloadN X1.here hx rfl (hb hby own_d_jdk_43_method_2_7) rfl k) ?_
  show own_E p e below _ T1 (mkF m 8 #[rv b1, iv (own_n i)] [.int (own_n i), .ref b1])
  refine own_st (own_A_bld X1 hx hZ e1 VA_b1 (j := (own_n i)) (i := i) (own_n0 (by omega)) (own_nN (by omega)) hi (g := (mkF m 8 #[rv b1, iv (own_n i)] [.int (own_n i), .ref b1])) rfl rfl (hb hby own_d_jdk_43_method_2_8)) ?_
  show own_E p e below _ T1 (mkF m 9 #[rv b1, iv (own_n i)] [.int ((fun j => (f j).toInt8.toInt32) i)])
  refine own_st (fun t k => XS.sipush X1.here hx rfl (hb hby own_d_jdk_43_method_2_9) k) ?_
  show own_E p e below _ T1 (mkF m 12 #[rv b1, iv (own_n i)] [.int 255, .int ((fun j => (f j).toInt8.toInt32) i)])
  refine own_st (fun t k => XS.iand X1.here hx rfl (hb hby own_d_jdk_43_method_2_12) rfl k) ?_
  show own_E p e below _ T1 (mkF m 13 #[rv b1, iv (own_n i)] [.int (((fun j => (f j).toInt8.toInt32) i) &&& (255 : Int32))])
  refine own_st (fun t k => XS.i2c X1.here hx rfl (hb hby own_d_jdk_43_method_2_13) rfl k) ?_
  show own_E p e below _ T1 (mkF m 14 #[rv b1, iv (own_n i)] [.int ((((fun j => (f j).toInt8.toInt32) i) &&& (255 : Int32)).toUInt32.toUInt16.toUInt32.toInt32)])
  rw [show (((((fun j => (f j).toInt8.toInt32) i) &&& (255 : Int32)).toUInt32.toUInt16.toUInt32.toInt32) : Int32) = f i from own_lat (hC i hi) (hL i hi)]
  show own_E p e below _ T1 (mkF m 14 #[rv b1, iv (own_n i)] [.int (f i)])
  refine own_retS X1 hx Bd.notSynchronized Bd.returns (own_nc (hC i hi)) (by decide) (hb hby own_d_jdk_43_method_2_14) (by decide) (by decide) ?_
  exact ⟨rfl, e1, rfl⟩
theorem own_d_jdk_52_method_6_0 : decode jdk_52_method_6_code 0 = .ok (.aload_n 0, 1) := by decide +kernel
theorem own_d_jdk_52_method_6_1 : decode jdk_52_method_6_code 1 = .ok (.arraylength, 1) := by decide +kernel
theorem own_d_jdk_52_method_6_2 : decode jdk_52_method_6_code 2 = .ok (.iconst 1, 1) := by decide +kernel
theorem own_d_jdk_52_method_6_3 : decode jdk_52_method_6_code 3 = .ok (.ishr, 1) := by decide +kernel
theorem own_d_jdk_52_method_6_4 : decode jdk_52_method_6_code 4 = .ok (.ireturn, 1) := by decide +kernel
def own_ul_Q (b1 : Addr) (g : Nat → Int32) (zc : Int32) (rs : Value) (h0 : Heap) (v : Option Value) (h : Heap) (L : List Loc) : Prop := ((v = some (.int (70 : Int32)))) ∧ h = h0 ∧ L = []
abbrev own_y14 : MethodName := ⟨"java/lang/StringUTF16", "length", "([B)I"⟩
theorem own_ul_ef (m : MethodId) (b1 : Addr) (g : Nat → Int32) (zc : Int32) (rs : Value) : entryFrame m #[(.ref b1)] 1 = mkF m 0 #[.val (.ref b1)] [] := by first | (simp [entryFrame, mkF, argsToLocals, Value.category]; done) | rfl
set_option maxRecDepth 65536 in
set_option maxHeartbeats 40000000 in
theorem own_ul (l : Launch) (Z : State) (a0 : Array Value) (hw : ∀ d ∈ tables_1, d.before a0 Z = true) (ws : List Jvm.Cond) (b1 : Addr) (g : Nat → Int32) (zc : Int32) (rs : Value) (h0 : Heap) (n0 : Nat) (Z0 : n0 ≤ h0.size) (VA_b1 : own_A Z h0 b1 .byte 140 g) :
    MetFree l own_y14 (head1 (Jvm.Cond.code own_y14 jdk_52_method_6_code 1 (some .int) :: ws) ({ frames := 0, cells := 0, slots := 0, locals := 0 } : Room)) (fun a U => a = #[(.ref b1)] ∧ Z.Warmed39 U.vm ∧ U.heap = h0) (fun _ _ _ _ _ => True) (fun _ U o U' => ∃ v L, o = .returned v ∧ own_ul_Q b1 g zc rs h0 v U'.heap L ∧ FrameEnd U o U' L ({ frames := 0, cells := 0, slots := 0, locals := 0 } : Room).cells ({ frames := 0, cells := 0, slots := 0, locals := 0 } : Room).slots) := by
  refine MetFree.of_bodySF (plainFor_of_name own_pn_StringUTF16) hisR ?_
  intro p e s m args below meth c s₁ Bd hml0 hP hK
  obtain ⟨rfl, hZ, hh⟩ := hP
  have hx := Bd.exec
  have hby := Bd.bytes
  have hml : c.maxLocals = 1 := hml0
  have hown : s.vm.findClass "java/lang/StringUTF16" = some m.cls := findClass_of_methodNamed Bd.named
  have hnm := (name_of_methodNamed Bd.named Bd.method).1
  have X0 : Stand p l e ({ frames := 0, cells := 0, slots := 0, locals := 0 } : Room) s m #[(.ref b1)] below meth c s₁ [] 0 0 := Stand.of_body Bd
  have e0 : s₁.heap = h0 := by rw [← hh, Bd.state]; rfl
  show own_E p e below (own_K (own_ul_Q b1 g zc rs h0) s ({ frames := 0, cells := 0, slots := 0, locals := 0 } : Room).cells ({ frames := 0, cells := 0, slots := 0, locals := 0 } : Room).slots) s₁ (entryFrame m #[(.ref b1)] 1)
  refine own_pre (own_ul_ef m b1 g zc rs) ?_
  show own_E p e below _ s₁ (mkF m 0 #[rv b1] [])
  refine own_st (fun t k => XS.aloadN X0.here hx rfl (hb hby own_d_jdk_52_method_6_0) rfl rfl k) ?_
  show own_E p e below _ s₁ (mkF m 1 #[rv b1] [.ref b1])
  refine own_st (own_A_len X0 hx hZ e0 VA_b1 (z := (140 : Int32)) rfl (g := (mkF m 1 #[rv b1] [.ref b1])) rfl rfl (hb hby own_d_jdk_52_method_6_1)) ?_
  show own_E p e below _ s₁ (mkF m 2 #[rv b1] [.int 140])
  refine own_st (fun t k => XS.iconst X0.here hx rfl (hb hby own_d_jdk_52_method_6_2) k) ?_
  show own_E p e below _ s₁ (mkF m 3 #[rv b1] [.int 1, .int 140])
  refine own_st (fun t k => XS.ishr X0.here hx rfl (hb hby own_d_jdk_52_method_6_3) rfl k) ?_
  show own_E p e below _ s₁ (mkF m 4 #[rv b1] [.int 70])
  refine own_retI X0 hx Bd.notSynchronized Bd.returns (hb hby own_d_jdk_52_method_6_4) (by decide) (by decide) ?_
  exact ⟨rfl, e0, rfl⟩
theorem own_d_jdk_52_method_91_0 : decode jdk_52_method_91_code 0 = .ok (.iload_n 0, 1) := by decide +kernel
theorem own_d_jdk_52_method_91_1 : decode jdk_52_method_91_code 1 = .ok (.aload_n 1, 1) := by decide +kernel
theorem own_d_jdk_52_method_91_2 : decode jdk_52_method_91_code 2 = .ok (.invokestatic 48, 3) := by decide +kernel
theorem own_pd_11 : parseMethodDescriptor "([B)I" = some ⟨[(.array .byte)], some .int⟩ := by decide +kernel
theorem own_d_jdk_52_method_91_5 : decode jdk_52_method_91_code 5 = .ok (.invokestatic 414, 3) := by decide +kernel
theorem own_d_jdk_52_method_91_8 : decode jdk_52_method_91_code 8 = .ok (.return_, 1) := by decide +kernel
def own_uci_Q (b1 : Addr) (i : Nat) (g : Nat → Int32) (zc : Int32) (rs : Value) (h0 : Heap) (v : Option Value) (h : Heap) (L : List Loc) : Prop := ((v = none)) ∧ h = h0 ∧ L = []
abbrev own_y15 : MethodName := ⟨"java/lang/StringUTF16", "checkIndex", "(I[B)V"⟩
theorem own_uci_ef (m : MethodId) (b1 : Addr) (i : Nat) (g : Nat → Int32) (zc : Int32) (rs : Value) : entryFrame m #[(.int (own_n i)), (.ref b1)] 2 = mkF m 0 #[.val (.int (own_n i)), .val (.ref b1)] [] := by first | (simp [entryFrame, mkF, argsToLocals, Value.category]; done) | rfl
set_option maxRecDepth 65536 in
set_option maxHeartbeats 40000000 in
theorem own_uci (l : Launch) (Z : State) (a0 : Array Value) (hw : ∀ d ∈ tables_1, d.before a0 Z = true) (ws : List Jvm.Cond) (b1 : Addr) (i : Nat) (g : Nat → Int32) (zc : Int32) (rs : Value) (h0 : Heap) (n0 : Nat) (Z0 : n0 ≤ h0.size) (hi : i < 70) (SX : own_St Z h0 zc rs) (hrs : rs = .null ∨ ∃ x, rs = .ref x) (VA_b1 : own_A Z h0 b1 .byte 140 g) :
    MetFree l own_y15 (head1 (Jvm.Cond.code own_y15 jdk_52_method_91_code 2 none :: ws) ({ frames := 2, cells := 0, slots := 0, locals := 27 } : Room)) (fun a U => a = #[(.int (own_n i)), (.ref b1)] ∧ Z.Warmed39 U.vm ∧ U.heap = h0) (fun _ _ _ _ _ => True) (fun _ U o U' => ∃ v L, o = .returned v ∧ own_uci_Q b1 i g zc rs h0 v U'.heap L ∧ FrameEnd U o U' L ({ frames := 2, cells := 0, slots := 0, locals := 27 } : Room).cells ({ frames := 2, cells := 0, slots := 0, locals := 27 } : Room).slots) := by
  refine MetFree.of_bodySF (plainFor_of_name own_pn_StringUTF16) hisR ?_
  intro p e s m args below meth c s₁ Bd hml0 hP hK
  obtain ⟨rfl, hZ, hh⟩ := hP
  have hx := Bd.exec
  have hby := Bd.bytes
  have hml : c.maxLocals = 2 := hml0
  have hown : s.vm.findClass "java/lang/StringUTF16" = some m.cls := findClass_of_methodNamed Bd.named
  have hnm := (name_of_methodNamed Bd.named Bd.method).1
  have X0 : Stand p l e ({ frames := 2, cells := 0, slots := 0, locals := 27 } : Room) s m #[(.int (own_n i)), (.ref b1)] below meth c s₁ [] 0 0 := Stand.of_body Bd
  have e0 : s₁.heap = h0 := by rw [← hh, Bd.state]; rfl
  show own_E p e below (own_K (own_uci_Q b1 i g zc rs h0) s ({ frames := 2, cells := 0, slots := 0, locals := 27 } : Room).cells ({ frames := 2, cells := 0, slots := 0, locals := 27 } : Room).slots) s₁ (entryFrame m #[(.int (own_n i)), (.ref b1)] 2)
  refine own_pre (own_uci_ef m b1 i g zc rs) ?_
  show own_E p e below _ s₁ (mkF m 0 #[iv (own_n i), rv b1] [])
  refine own_st (fun t k => XS.iloadN X0.here hx rfl (hb hby own_d_jdk_52_method_91_0) rfl k) ?_
  show own_E p e below _ s₁ (mkF m 1 #[iv (own_n i), rv b1] [.int (own_n i)])
  refine own_st (fun t k => XS.aloadN X0.here hx rfl (hb hby own_d_jdk_52_method_91_1) rfl rfl k) ?_
  show own_E p e below _ s₁ (mkF m 2 #[iv (own_n i), rv b1] [.ref b1, .int (own_n i)])
  obtain ⟨_, _, ⟨T1, L1, k1, n1⟩, -, X1, ⟨Lc1, hQ1, l1, y1, z1⟩, st1⟩ := Jvm.LawKit.callS X0 hx (y := own_y14) hown (mvT hZ (own_w hw 90 rfl)) (mvT hZ (own_w hw 91 rfl)) (mvT hZ (own_w hw 19 rfl)) (mvT hZ (own_w hw 92 rfl)) (by decide) (backOf (W := 1) (own_ul l Z a0 hw [] b1 g zc rs h0 n0 Z0 VA_b1) hZ (own_w hw 92 rfl) (own_w hw 19 rfl) (by decide) (by decide)) (g := (mkF m 2 #[iv (own_n i), rv b1] [.ref b1, .int (own_n i)])) rfl (by rw [hml]; rfl) (argsL := [(.ref b1)]) (rest := [(.int (own_n i))]) (lenOf own_pd_11 rfl) rfl (by show 2 * 0 + _ ≤ _; exact Nat.le_of_eq rfl) (hb hby own_d_jdk_52_method_91_2) (fun _ _ => ⟨rfl, e0, (by decide : 0 + 0 ≤ _), (by decide : 0 + 0 ≤ _)⟩)
  dsimp only [Pt.U, Pt.locs, Pt.cells, Pt.slots] at X1 l1 y1 z1 st1 hQ1
  subst l1 y1 z1
  obtain ⟨hR1, e1, rfl⟩ := hQ1
  have N1 := Fr.app (Fr.nil n0) (Fr.nil n0)
  obtain rfl := hR1
  refine own_st st1 ?_
  show own_E p e below _ T1 (mkF m 5 #[iv (own_n i), rv b1] [.int 70, .int (own_n i)])
  obtain ⟨_, _, ⟨T2, L2, k2, n2⟩, -, X2, ⟨Lc2, hQ2, l2, y2, z2⟩, st2⟩ := Jvm.LawKit.callS X1 hx (y := own_y12) hown (mvT hZ (own_w hw 93 rfl)) (mvT hZ (own_w hw 51 rfl)) (mvT hZ (own_w hw 5 rfl)) (mvT hZ (own_w hw 52 rfl)) (by decide) (backOf (W := 0) (own_sci l Z a0 hw [] i zc rs h0 n0 Z0 hi SX hrs) hZ (own_w hw 52 rfl) (own_w hw 5 rfl) (by decide) (by decide)) (g := (mkF m 5 #[iv (own_n i), rv b1] [.int 70, .int (own_n i)])) rfl (by rw [hml]; rfl) (argsL := [(.int (own_n i)), (.int (70 : Int32))]) (rest := []) (lenOf own_pd_6 rfl) rfl (by show 2 * 0 + _ ≤ _; exact Nat.le_of_eq rfl) (hb hby own_d_jdk_52_method_91_5) (fun _ _ => ⟨rfl, e1, (by decide : 0 + 0 ≤ _), (by decide : 0 + 0 ≤ _)⟩)
  dsimp only [Pt.U, Pt.locs, Pt.cells, Pt.slots] at X2 l2 y2 z2 st2 hQ2
  subst l2 y2 z2
  obtain ⟨rfl, e2, rfl⟩ := hQ2
  have N2 := Fr.app N1 (Fr.nil n0)
  refine own_st st2 ?_
  show own_E p e below _ T2 (mkF m 8 #[iv (own_n i), rv b1] [])
  refine own_retV X2 hx Bd.notSynchronized Bd.returns (hb hby own_d_jdk_52_method_91_8) (by decide) (by decide) ?_
  exact ⟨rfl, e2, rfl⟩
theorem own_d_jdk_52_method_83_0 : decode jdk_52_method_83_code 0 = .ok (.iload_n 1, 1) := by decide +kernel
theorem own_d_jdk_52_method_83_1 : decode jdk_52_method_83_code 1 = .ok (.aload_n 0, 1) := by decide +kernel
theorem own_d_jdk_52_method_83_2 : decode jdk_52_method_83_code 2 = .ok (.invokestatic 67, 3) := by decide +kernel
theorem own_pd_9 : parseMethodDescriptor "(I[B)V" = some ⟨[.int, (.array .byte)], none⟩ := by decide +kernel
theorem own_d_jdk_52_method_83_5 : decode jdk_52_method_83_code 5 = .ok (.aload_n 0, 1) := by decide +kernel
theorem own_d_jdk_52_method_83_6 : decode jdk_52_method_83_code 6 = .ok (.iload_n 1, 1) := by decide +kernel
theorem own_d_jdk_52_method_83_7 : decode jdk_52_method_83_code 7 = .ok (.invokestatic 71, 3) := by decide +kernel
theorem own_d_jdk_52_method_83_10 : decode jdk_52_method_83_code 10 = .ok (.ireturn, 1) := by decide +kernel
def own_uch_Q (b1 : Addr) (i : Nat) (f : Nat → Int32) (g : Nat → Int32) (zc : Int32) (rs : Value) (h0 : Heap) (v : Option Value) (h : Heap) (L : List Loc) : Prop := ((v = some (.int (f i)))) ∧ h = h0 ∧ L = []
abbrev own_y16 : MethodName := ⟨"java/lang/StringUTF16", "charAt", "([BI)C"⟩
theorem own_uch_ef (m : MethodId) (b1 : Addr) (i : Nat) (f : Nat → Int32) (g : Nat → Int32) (zc : Int32) (rs : Value) : entryFrame m #[(.ref b1), (.int (own_n i))] 2 = mkF m 0 #[.val (.ref b1), .val (.int (own_n i))] [] := by first | (simp [entryFrame, mkF, argsToLocals, Value.category]; done) | rfl
set_option maxRecDepth 65536 in
set_option maxHeartbeats 40000000 in
theorem own_uch (l : Launch) (Z : State) (a0 : Array Value) (hw : ∀ d ∈ tables_1, d.before a0 Z = true) (ws : List Jvm.Cond) (b1 : Addr) (i : Nat) (f : Nat → Int32) (g : Nat → Int32) (zc : Int32) (rs : Value) (h0 : Heap) (n0 : Nat) (Z0 : n0 ≤ h0.size) (hi : i < 70) (hC : own_C f) (hU : own_U g f 70) (SX : own_St Z h0 zc rs) (hrs : rs = .null ∨ ∃ x, rs = .ref x) (VA_b1 : own_A Z h0 b1 .byte 140 g) :
    MetFree l own_y16 (head1 (Jvm.Cond.code own_y16 jdk_52_method_83_code 2 (some .char) :: ws) ({ frames := 3, cells := 0, slots := 0, locals := 40 } : Room)) (fun a U => a = #[(.ref b1), (.int (own_n i))] ∧ Z.Warmed39 U.vm ∧ U.heap = h0) (fun _ _ _ _ _ => True) (fun _ U o U' => ∃ v L, o = .returned v ∧ own_uch_Q b1 i f g zc rs h0 v U'.heap L ∧ FrameEnd U o U' L ({ frames := 3, cells := 0, slots := 0, locals := 40 } : Room).cells ({ frames := 3, cells := 0, slots := 0, locals := 40 } : Room).slots) := by
  refine MetFree.of_bodySF (plainFor_of_name own_pn_StringUTF16) hisR ?_
  intro p e s m args below meth c s₁ Bd hml0 hP hK
  obtain ⟨rfl, hZ, hh⟩ := hP
  have hx := Bd.exec
  have hby := Bd.bytes
  have hml : c.maxLocals = 2 := hml0
  have hown : s.vm.findClass "java/lang/StringUTF16" = some m.cls := findClass_of_methodNamed Bd.named
  have hnm := (name_of_methodNamed Bd.named Bd.method).1
  have X0 : Stand p l e ({ frames := 3, cells := 0, slots := 0, locals := 40 } : Room) s m #[(.ref b1), (.int (own_n i))] below meth c s₁ [] 0 0 := Stand.of_body Bd
  have e0 : s₁.heap = h0 := by rw [← hh, Bd.state]; rfl
  show own_E p e below (own_K (own_uch_Q b1 i f g zc rs h0) s ({ frames := 3, cells := 0, slots := 0, locals := 40 } : Room).cells ({ frames := 3, cells := 0, slots := 0, locals := 40 } : Room).slots) s₁ (entryFrame m #[(.ref b1), (.int (own_n i))] 2)
  refine own_pre (own_uch_ef m b1 i f g zc rs) ?_
  show own_E p e below _ s₁ (mkF m 0 #[rv b1, iv (own_n i)] [])
  refine own_st (fun t k => XS.iloadN X0.here hx rfl (hb hby own_d_jdk_52_method_83_0) rfl k) ?_
  show own_E p e below _ s₁ (mkF m 1 #[rv b1, iv (own_n i)] [.int (own_n i)])
  refine own_st (fun t k => XS.aloadN X0.here hx rfl (hb hby own_d_jdk_52_method_83_1) rfl rfl k) ?_
  show own_E p e below _ s₁ (mkF m 2 #[rv b1, iv (own_n i)] [.ref b1, .int (own_n i)])
  obtain ⟨_, _, ⟨T1, L1, k1, n1⟩, -, X1, ⟨Lc1, hQ1, l1, y1, z1⟩, st1⟩ := Jvm.LawKit.callS X0 hx (y := own_y15) hown (mvT hZ (own_w hw 87 rfl)) (mvT hZ (own_w hw 88 rfl)) (mvT hZ (own_w hw 19 rfl)) (mvT hZ (own_w hw 89 rfl)) (by decide) (backOf (W := 0) (own_uci l Z a0 hw [] b1 i g zc rs h0 n0 Z0 hi SX hrs VA_b1) hZ (own_w hw 89 rfl) (own_w hw 19 rfl) (by decide) (by decide)) (g := (mkF m 2 #[rv b1, iv (own_n i)] [.ref b1, .int (own_n i)])) rfl (by rw [hml]; rfl) (argsL := [(.int (own_n i)), (.ref b1)]) (rest := []) (lenOf own_pd_9 rfl) rfl (by show 2 * 0 + _ ≤ _; exact Nat.le_of_eq rfl) (hb hby own_d_jdk_52_method_83_2) (fun _ _ => ⟨rfl, e0, (by decide : 0 + 0 ≤ _), (by decide : 0 + 0 ≤ _)⟩)
  dsimp only [Pt.U, Pt.locs, Pt.cells, Pt.slots] at X1 l1 y1 z1 st1 hQ1
  subst l1 y1 z1
  obtain ⟨hR1, e1, rfl⟩ := hQ1
  have N1 := Fr.app (Fr.nil n0) (Fr.nil n0)
  obtain rfl := hR1
  refine own_st st1 ?_
  show own_E p e below _ T1 (mkF m 5 #[rv b1, iv (own_n i)] [])
  refine own_st (fun t k => XS.aloadN X1.here hx rfl (hb hby own_d_jdk_52_method_83_5) rfl rfl k) ?_
  show own_E p e below _ T1 (mkF m 6 #[rv b1, iv (own_n i)] [.ref b1])
  refine own_st (fun t k => XS.iloadN X1.here hx rfl (hb hby own_d_jdk_52_method_83_6) rfl k) ?_
  show own_E p e below _ T1 (mkF m 7 #[rv b1, iv (own_n i)] [.int (own_n i), .ref b1])
  obtain ⟨_, _, ⟨T2, L2, k2, n2⟩, -, X2, ⟨Lc2, hQ2, l2, y2, z2⟩, st2⟩ := Jvm.LawKit.callS X1 hx (y := own_y4) hown (mvT hZ (own_w hw 81 rfl)) (mvT hZ (own_w hw 82 rfl)) (mvT hZ (own_w hw 19 rfl)) (mvT hZ (own_w hw 83 rfl)) (by decide) (backOf (W := 0) (own_getc l Z a0 hw [] b1 i f g zc rs h0 n0 Z0 hi hC hU SX VA_b1) hZ (own_w hw 83 rfl) (own_w hw 19 rfl) (by decide) (by decide)) (g := (mkF m 7 #[rv b1, iv (own_n i)] [.int (own_n i), .ref b1])) rfl (by rw [hml]; rfl) (argsL := [(.ref b1), (.int (own_n i))]) (rest := []) (lenOf own_pd_13 rfl) rfl (by show 2 * 0 + _ ≤ _; exact Nat.le_of_eq rfl) (hb hby own_d_jdk_52_method_83_7) (fun _ _ => ⟨rfl, e1, (by decide : 0 + 0 ≤ _), (by decide : 0 + 0 ≤ _)⟩)
  dsimp only [Pt.U, Pt.locs, Pt.cells, Pt.slots] at X2 l2 y2 z2 st2 hQ2
  subst l2 y2 z2
  obtain ⟨hR2, e2, rfl⟩ := hQ2
  have N2 := Fr.app N1 (Fr.nil n0)
  obtain rfl := hR2
  refine own_st st2 ?_
  show own_E p e below _ T2 (mkF m 10 #[rv b1, iv (own_n i)] [.int (f i)])
  refine own_retS X2 hx Bd.notSynchronized Bd.returns (own_nc (hC i hi)) (by decide) (hb hby own_d_jdk_52_method_83_10) (by decide) (by decide) ?_
  exact ⟨rfl, e2, rfl⟩
theorem own_d_jdk_42_method_56_0 : decode jdk_42_method_56_code 0 = .ok (.aload_n 0, 1) := by decide +kernel
theorem own_d_jdk_42_method_56_1 : decode jdk_42_method_56_code 1 = .ok (.invokevirtual 492, 3) := by decide +kernel
theorem own_pd_1 : parseMethodDescriptor "()Z" = some ⟨[], some .boolean⟩ := by decide +kernel
theorem own_d_jdk_42_method_56_4 : decode jdk_42_method_56_code 4 = .ok (.ifCond .eq 12, 3) := by decide +kernel
theorem own_d_jdk_42_method_56_7 : decode jdk_42_method_56_code 7 = .ok (.aload_n 0, 1) := by decide +kernel
theorem own_d_jdk_42_method_56_8 : decode jdk_42_method_56_code 8 = .ok (.getfield 9, 3) := by decide +kernel
theorem own_d_jdk_42_method_56_11 : decode jdk_42_method_56_code 11 = .ok (.iload_n 1, 1) := by decide +kernel
theorem own_d_jdk_42_method_56_12 : decode jdk_42_method_56_code 12 = .ok (.invokestatic 495, 3) := by decide +kernel
theorem own_d_jdk_42_method_56_15 : decode jdk_42_method_56_code 15 = .ok (.ireturn, 1) := by decide +kernel
def own_chL_Q (a1 : Addr) (t : Addr) (i : Nat) (f : Nat → Int32) (zc : Int32) (rs : Value) (h0 : Heap) (v : Option Value) (h : Heap) (L : List Loc) : Prop := ((v = some (.int (f i)))) ∧ h = h0 ∧ L = []
abbrev own_y17 : MethodName := ⟨"java/lang/String", "charAt", "(I)C"⟩
theorem own_chL_ef (m : MethodId) (a1 : Addr) (t : Addr) (i : Nat) (f : Nat → Int32) (zc : Int32) (rs : Value) : entryFrame m #[(.ref a1), (.int (own_n i))] 2 = mkF m 0 #[.val (.ref a1), .val (.int (own_n i))] [] := by first | (simp [entryFrame, mkF, argsToLocals, Value.category]; done) | rfl
set_option maxRecDepth 65536 in
set_option maxHeartbeats 40000000 in
theorem own_chL (l : Launch) (Z : State) (a0 : Array Value) (hw : ∀ d ∈ tables_1, d.before a0 Z = true) (ws : List Jvm.Cond) (a1 : Addr) (t : Addr) (i : Nat) (f : Nat → Int32) (zc : Int32) (rs : Value) (h0 : Heap) (n0 : Nat) (Z0 : n0 ≤ h0.size) (hi : i < 70) (hC : own_C f) (hL : ∀ j, j < 70 → ¬ (255 : Int32) < f j) (hzc : ¬ zc = 0) (SX : own_St Z h0 zc rs) (hrs : rs = .null ∨ ∃ x, rs = .ref x) (E_a1 : Exa Z h0 a1 "java/lang/String") (F_value_a1 : Fld Z h0 a1 "java/lang/String" "value" "[B" (.ref t)) (F_coder_a1 : Fld Z h0 a1 "java/lang/String" "coder" "B" (.int (0 : Int32))) (VA_t : own_A Z h0 t .byte 70 (fun j => (f j).toInt8.toInt32)) :
    MetFree l own_y17 (head1 (Jvm.Cond.code own_y17 jdk_42_method_56_code 2 (some .char) :: ws) ({ frames := 4, cells := 0, slots := 0, locals := 110 } : Room)) (fun a U => a = #[(.ref a1), (.int (own_n i))] ∧ Z.Warmed39 U.vm ∧ U.heap = h0) (fun _ _ _ _ _ => True) (fun _ U o U' => ∃ v L, o = .returned v ∧ own_chL_Q a1 t i f zc rs h0 v U'.heap L ∧ FrameEnd U o U' L ({ frames := 4, cells := 0, slots := 0, locals := 110 } : Room).cells ({ frames := 4, cells := 0, slots := 0, locals := 110 } : Room).slots) := by
  refine MetFree.of_bodySF (plainFor_of_name own_pn_String) hisR ?_
  intro p e s m args below meth c s₁ Bd hml0 hP hK
  obtain ⟨rfl, hZ, hh⟩ := hP
  have hx := Bd.exec
  have hby := Bd.bytes
  have hml : c.maxLocals = 2 := hml0
  have hown : s.vm.findClass "java/lang/String" = some m.cls := findClass_of_methodNamed Bd.named
  have hnm := (name_of_methodNamed Bd.named Bd.method).1
  have X0 : Stand p l e ({ frames := 4, cells := 0, slots := 0, locals := 110 } : Room) s m #[(.ref a1), (.int (own_n i))] below meth c s₁ [] 0 0 := Stand.of_body Bd
  have e0 : s₁.heap = h0 := by rw [← hh, Bd.state]; rfl
  show own_E p e below (own_K (own_chL_Q a1 t i f zc rs h0) s ({ frames := 4, cells := 0, slots := 0, locals := 110 } : Room).cells ({ frames := 4, cells := 0, slots := 0, locals := 110 } : Room).slots) s₁ (entryFrame m #[(.ref a1), (.int (own_n i))] 2)
  refine own_pre (own_chL_ef m a1 t i f zc rs) ?_
  show own_E p e below _ s₁ (mkF m 0 #[rv a1, iv (own_n i)] [])
  refine own_st (fun t k => XS.aloadN X0.here hx rfl (hb hby own_d_jdk_42_method_56_0) rfl rfl k) ?_
  show own_E p e below _ s₁ (mkF m 1 #[rv a1, iv (own_n i)] [.ref a1])
  obtain ⟨cq1, kq1, q1a, q1b, q1c⟩ := isOf hZ e0 E_a1
  obtain ⟨_, _, ⟨T1, L1, k1, n1⟩, -, X1, ⟨Lc1, hQ1, l1, y1, z1⟩, st1⟩ := X0.virtualBack hx (y := own_y10) (z := own_y10) hown (mvT hZ (own_w hw 41 rfl)) (mvT hZ (own_w hw 42 rfl)) (notFace_of_selects (args := #[]) (mvT hZ (own_w hw 44 rfl))) (mvT hZ (own_w hw 44 rfl)) (mvT hZ (own_w hw 43 rfl)) (by decide) (backOf (W := 0) (own_il0 l Z a0 hw [] a1 zc rs h0 n0 Z0 hzc SX F_coder_a1) hZ (own_w hw 45 rfl) (own_w hw 5 rfl) (by decide) (by decide)) q1a q1c (g := (mkF m 1 #[rv a1, iv (own_n i)] [.ref a1])) rfl (by rw [hml]; rfl) (Steps.refl _) (argsL := []) (rest := []) (lenOf own_pd_1 rfl) rfl (by show 2 * 0 + _ ≤ _; exact Nat.le_of_eq rfl) (hb hby own_d_jdk_42_method_56_1) (fun _ _ => ⟨rfl, e0, (by decide : 0 + 0 ≤ _), (by decide : 0 + 0 ≤ _)⟩)
  dsimp only [Pt.U, Pt.locs, Pt.cells, Pt.slots] at X1 l1 y1 z1 st1 hQ1
  subst l1 y1 z1
  obtain ⟨hR1, e1, rfl⟩ := hQ1
  have N1 := Fr.app (Fr.nil n0) (Fr.nil n0)
  obtain rfl := hR1
  refine own_tr st1 ?_
  show own_E p e below _ T1 (mkF m 4 #[rv a1, iv (own_n i)] [.int 1])
  refine own_st (fun t k => XS.ifNo X1.here hx rfl (hb hby own_d_jdk_42_method_56_4) rfl (by decide) k) ?_
  show own_E p e below _ T1 (mkF m 7 #[rv a1, iv (own_n i)] [])
  refine own_st (fun t k => XS.aloadN X1.here hx rfl (hb hby own_d_jdk_42_method_56_7) rfl rfl k) ?_
  show own_E p e below _ T1 (mkF m 8 #[rv a1, iv (own_n i)] [.ref a1])
  obtain ⟨T2, X2, e2, st2⟩ := getF X1 hx hZ hown (host := "") (Or.inl (own_w hw 30 rfl)) Via.refl e1 F_value_a1 (g := (mkF m 8 #[rv a1, iv (own_n i)] [.ref a1])) rfl rfl (hb hby own_d_jdk_42_method_56_8)
  refine own_st st2 ?_
  show own_E p e below _ T2 (mkF m 11 #[rv a1, iv (own_n i)] [.ref t])
  refine own_st (fun t k => XS.iloadN X2.here hx rfl (hb hby own_d_jdk_42_method_56_11) rfl k) ?_
  show own_E p e below _ T2 (mkF m 12 #[rv a1, iv (own_n i)] [.int (own_n i), .ref t])
  obtain ⟨_, _, ⟨T3, L3, k3, n3⟩, -, X3, ⟨Lc3, hQ3, l3, y3, z3⟩, st3⟩ := Jvm.LawKit.callS X2 hx (y := own_y13) hown (mvT hZ (own_w hw 46 rfl)) (mvT hZ (own_w hw 47 rfl)) (mvT hZ (own_w hw 48 rfl)) (mvT hZ (own_w hw 49 rfl)) (by decide) (backOf (W := 0) (own_lch l Z a0 hw [] t i f zc rs h0 n0 Z0 hi hC hL SX hrs VA_t) hZ (own_w hw 49 rfl) (own_w hw 48 rfl) (by decide) (by decide)) (g := (mkF m 12 #[rv a1, iv (own_n i)] [.int (own_n i), .ref t])) rfl (by rw [hml]; rfl) (argsL := [(.ref t), (.int (own_n i))]) (rest := []) (lenOf own_pd_13 rfl) rfl (by show 2 * 0 + _ ≤ _; exact Nat.le_of_eq rfl) (hb hby own_d_jdk_42_method_56_12) (fun _ _ => ⟨rfl, e2, (by decide : 0 + 0 ≤ _), (by decide : 0 + 0 ≤ _)⟩)
  dsimp only [Pt.U, Pt.locs, Pt.cells, Pt.slots] at X3 l3 y3 z3 st3 hQ3
  subst l3 y3 z3
  obtain ⟨hR3, e3, rfl⟩ := hQ3
  have N3 := Fr.app N1 (Fr.nil n0)
  obtain rfl := hR3
  refine own_st st3 ?_
  show own_E p e below _ T3 (mkF m 15 #[rv a1, iv (own_n i)] [.int (f i)])
  refine own_retS X3 hx Bd.notSynchronized Bd.returns (own_nc (hC i hi)) (by decide) (hb hby own_d_jdk_42_method_56_15) (by decide) (by decide) ?_
  exact ⟨rfl, e3, rfl⟩
theorem own_d_jdk_42_method_56_16 : decode jdk_42_method_56_code 16 = .ok (.aload_n 0, 1) := by decide +kernel
theorem own_d_jdk_42_method_56_17 : decode jdk_42_method_56_code 17 = .ok (.getfield 9, 3) := by decide +kernel
theorem own_d_jdk_42_method_56_20 : decode jdk_42_method_56_code 20 = .ok (.iload_n 1, 1) := by decide +kernel
theorem own_d_jdk_42_method_56_21 : decode jdk_42_method_56_code 21 = .ok (.invokestatic 498, 3) := by decide +kernel
theorem own_d_jdk_42_method_56_24 : decode jdk_42_method_56_code 24 = .ok (.ireturn, 1) := by decide +kernel
def own_chU_Q (a1 : Addr) (t : Addr) (i : Nat) (f : Nat → Int32) (g : Nat → Int32) (zc : Int32) (rs : Value) (h0 : Heap) (v : Option Value) (h : Heap) (L : List Loc) : Prop := ((v = some (.int (f i)))) ∧ h = h0 ∧ L = []
theorem own_chU_ef (m : MethodId) (a1 : Addr) (t : Addr) (i : Nat) (f : Nat → Int32) (g : Nat → Int32) (zc : Int32) (rs : Value) : entryFrame m #[(.ref a1), (.int (own_n i))] 2 = mkF m 0 #[.val (.ref a1), .val (.int (own_n i))] [] := by first | (simp [entryFrame, mkF, argsToLocals, Value.category]; done) | rfl
set_option maxRecDepth 65536 in
set_option maxHeartbeats 40000000 in
theorem own_chU (l : Launch) (Z : State) (a0 : Array Value) (hw : ∀ d ∈ tables_1, d.before a0 Z = true) (ws : List Jvm.Cond) (a1 : Addr) (t : Addr) (i : Nat) (f : Nat → Int32) (g : Nat → Int32) (zc : Int32) (rs : Value) (h0 : Heap) (n0 : Nat) (Z0 : n0 ≤ h0.size) (hi : i < 70) (hC : own_C f) (hU : own_U g f 70) (hzc : ¬ zc = 0) (SX : own_St Z h0 zc rs) (hrs : rs = .null ∨ ∃ x, rs = .ref x) (E_a1 : Exa Z h0 a1 "java/lang/String") (F_value_a1 : Fld Z h0 a1 "java/lang/String" "value" "[B" (.ref t)) (F_coder_a1 : Fld Z h0 a1 "java/lang/String" "coder" "B" (.int (1 : Int32))) (VA_t : own_A Z h0 t .byte 140 g) :
    MetFree l own_y17 (head1 (Jvm.Cond.code own_y17 jdk_42_method_56_code 2 (some .char) :: ws) ({ frames := 4, cells := 0, slots := 0, locals := 110 } : Room)) (fun a U => a = #[(.ref a1), (.int (own_n i))] ∧ Z.Warmed39 U.vm ∧ U.heap = h0) (fun _ _ _ _ _ => True) (fun _ U o U' => ∃ v L, o = .returned v ∧ own_chU_Q a1 t i f g zc rs h0 v U'.heap L ∧ FrameEnd U o U' L ({ frames := 4, cells := 0, slots := 0, locals := 110 } : Room).cells ({ frames := 4, cells := 0, slots := 0, locals := 110 } : Room).slots) := by
  refine MetFree.of_bodySF (plainFor_of_name own_pn_String) hisR ?_
  intro p e s m args below meth c s₁ Bd hml0 hP hK
  obtain ⟨rfl, hZ, hh⟩ := hP
  have hx := Bd.exec
  have hby := Bd.bytes
  have hml : c.maxLocals = 2 := hml0
  have hown : s.vm.findClass "java/lang/String" = some m.cls := findClass_of_methodNamed Bd.named
  have hnm := (name_of_methodNamed Bd.named Bd.method).1
  have X0 : Stand p l e ({ frames := 4, cells := 0, slots := 0, locals := 110 } : Room) s m #[(.ref a1), (.int (own_n i))] below meth c s₁ [] 0 0 := Stand.of_body Bd
  have e0 : s₁.heap = h0 := by rw [← hh, Bd.state]; rfl
  show own_E p e below (own_K (own_chU_Q a1 t i f g zc rs h0) s ({ frames := 4, cells := 0, slots := 0, locals := 110 } : Room).cells ({ frames := 4, cells := 0, slots := 0, locals := 110 } : Room).slots) s₁ (entryFrame m #[(.ref a1), (.int (own_n i))] 2)
  refine own_pre (own_chU_ef m a1 t i f g zc rs) ?_
  show own_E p e below _ s₁ (mkF m 0 #[rv a1, iv (own_n i)] [])
  refine own_st (fun t k => XS.aloadN X0.here hx rfl (hb hby own_d_jdk_42_method_56_0) rfl rfl k) ?_
  show own_E p e below _ s₁ (mkF m 1 #[rv a1, iv (own_n i)] [.ref a1])
  obtain ⟨cq1, kq1, q1a, q1b, q1c⟩ := isOf hZ e0 E_a1
  obtain ⟨_, _, ⟨T1, L1, k1, n1⟩, -, X1, ⟨Lc1, hQ1, l1, y1, z1⟩, st1⟩ := X0.virtualBack hx (y := own_y10) (z := own_y10) hown (mvT hZ (own_w hw 41 rfl)) (mvT hZ (own_w hw 42 rfl)) (notFace_of_selects (args := #[]) (mvT hZ (own_w hw 44 rfl))) (mvT hZ (own_w hw 44 rfl)) (mvT hZ (own_w hw 43 rfl)) (by decide) (backOf (W := 0) (own_il1 l Z a0 hw [] a1 zc rs h0 n0 Z0 hzc SX F_coder_a1) hZ (own_w hw 45 rfl) (own_w hw 5 rfl) (by decide) (by decide)) q1a q1c (g := (mkF m 1 #[rv a1, iv (own_n i)] [.ref a1])) rfl (by rw [hml]; rfl) (Steps.refl _) (argsL := []) (rest := []) (lenOf own_pd_1 rfl) rfl (by show 2 * 0 + _ ≤ _; exact Nat.le_of_eq rfl) (hb hby own_d_jdk_42_method_56_1) (fun _ _ => ⟨rfl, e0, (by decide : 0 + 0 ≤ _), (by decide : 0 + 0 ≤ _)⟩)
  dsimp only [Pt.U, Pt.locs, Pt.cells, Pt.slots] at X1 l1 y1 z1 st1 hQ1
  subst l1 y1 z1
  obtain ⟨hR1, e1, rfl⟩ := hQ1
  have N1 := Fr.app (Fr.nil n0) (Fr.nil n0)
  obtain rfl := hR1
  refine own_tr st1 ?_
  show own_E p e below _ T1 (mkF m 4 #[rv a1, iv (own_n i)] [.int 0])
  refine own_st (fun t k => XS.ifYes X1.here hx rfl (pc0 := 4) (pc' := 16) rfl (hb hby own_d_jdk_42_method_56_4) rfl (by decide) (by decide) (by decide) k) ?_
  show own_E p e below _ T1 (mkF m 16 #[rv a1, iv (own_n i)] [])
  refine own_st (fun t k => XS.aloadN X1.here hx rfl (hb hby own_d_jdk_42_method_56_16) rfl rfl k) ?_
  show own_E p e below _ T1 (mkF m 17 #[rv a1, iv (own_n i)] [.ref a1])
  obtain ⟨T2, X2, e2, st2⟩ := getF X1 hx hZ hown (host := "") (Or.inl (own_w hw 30 rfl)) Via.refl e1 F_value_a1 (g := (mkF m 17 #[rv a1, iv (own_n i)] [.ref a1])) rfl rfl (hb hby own_d_jdk_42_method_56_17)
  refine own_st st2 ?_
  show own_E p e below _ T2 (mkF m 20 #[rv a1, iv (own_n i)] [.ref t])
  refine own_st (fun t k => XS.iloadN X2.here hx rfl (hb hby own_d_jdk_42_method_56_20) rfl k) ?_
  show own_E p e below _ T2 (mkF m 21 #[rv a1, iv (own_n i)] [.int (own_n i), .ref t])
  obtain ⟨_, _, ⟨T3, L3, k3, n3⟩, -, X3, ⟨Lc3, hQ3, l3, y3, z3⟩, st3⟩ := Jvm.LawKit.callS X2 hx (y := own_y16) hown (mvT hZ (own_w hw 84 rfl)) (mvT hZ (own_w hw 85 rfl)) (mvT hZ (own_w hw 19 rfl)) (mvT hZ (own_w hw 86 rfl)) (by decide) (backOf (W := 0) (own_uch l Z a0 hw [] t i f g zc rs h0 n0 Z0 hi hC hU SX hrs VA_t) hZ (own_w hw 86 rfl) (own_w hw 19 rfl) (by decide) (by decide)) (g := (mkF m 21 #[rv a1, iv (own_n i)] [.int (own_n i), .ref t])) rfl (by rw [hml]; rfl) (argsL := [(.ref t), (.int (own_n i))]) (rest := []) (lenOf own_pd_13 rfl) rfl (by show 2 * 0 + _ ≤ _; exact Nat.le_of_eq rfl) (hb hby own_d_jdk_42_method_56_21) (fun _ _ => ⟨rfl, e2, (by decide : 0 + 0 ≤ _), (by decide : 0 + 0 ≤ _)⟩)
  dsimp only [Pt.U, Pt.locs, Pt.cells, Pt.slots] at X3 l3 y3 z3 st3 hQ3
  subst l3 y3 z3
  obtain ⟨hR3, e3, rfl⟩ := hQ3
  have N3 := Fr.app N1 (Fr.nil n0)
  obtain rfl := hR3
  refine own_st st3 ?_
  show own_E p e below _ T3 (mkF m 24 #[rv a1, iv (own_n i)] [.int (f i)])
  refine own_retS X3 hx Bd.notSynchronized Bd.returns (own_nc (hC i hi)) (by decide) (hb hby own_d_jdk_42_method_56_24) (by decide) (by decide) ?_
  exact ⟨rfl, e3, rfl⟩
def own_ch_Q (i : Nat) (f : Nat → Int32) (h0 : Heap) (v : Option Value) (h : Heap) (L : List Loc) : Prop := v = some (.int (f i)) ∧ h = h0 ∧ L = []
theorem own_ch (l : Launch) (Z : State) (a0 : Array Value) (hw : ∀ d ∈ tables_1, d.before a0 Z = true) (ws : List Jvm.Cond) (a1 : Addr) (i : Nat) (f : Nat → Int32) (zc : Int32) (rs : Value) (h0 : Heap) (n0 : Nat) (Z0 : n0 ≤ h0.size) (hi : i < 70) (hC : own_C f) (hzc : ¬ zc = 0) (SX : own_St Z h0 zc rs) (hrs : rs = .null ∨ ∃ x, rs = .ref x) (hS : own_Str Z h0 a1 f) :
    MetFree l own_y17 (head1 (Jvm.Cond.code own_y17 jdk_42_method_56_code 2 (some .char) :: ws) ({ frames := 4, cells := 0, slots := 0, locals := 110 } : Room)) (fun a U => a = #[(.ref a1), (.int (own_n i))] ∧ Z.Warmed39 U.vm ∧ U.heap = h0) (fun _ _ _ _ _ => True) (fun _ U o U' => ∃ v L, o = .returned v ∧ own_ch_Q i f h0 v U'.heap L ∧ FrameEnd U o U' L ({ frames := 4, cells := 0, slots := 0, locals := 110 } : Room).cells ({ frames := 4, cells := 0, slots := 0, locals := 110 } : Room).slots) := by
  obtain ⟨E, t, Fv, ⟨Fc, A, hL⟩ | ⟨Fc, g, A, hU⟩⟩ := hS
  · exact own_chL l Z a0 hw ws a1 t i f zc rs h0 n0 Z0 hi hC hL hzc SX hrs E Fv Fc A
  · exact own_chU l Z a0 hw ws a1 t i f g zc rs h0 n0 Z0 hi hC hU hzc SX hrs E Fv Fc A
def own_P (f : Nat → Int32) (s0 w0 : Nat) : Prop := ¬ (own_n w0 - own_n s0 < (1 : Int32)) ∧ ¬ ((64 : Int32) < own_n w0 - own_n s0) ∧ ∀ j, s0 ≤ j → j < w0 → own_ok (f j)
def own_iv_Q (f : Nat → Int32) (s0 w0 : Nat) (h0 : Heap) (n0 : Nat) (v : Option Value) (h : Heap) (L : List Loc) : Prop := (v = some (.int (1 : Int32)) ∧ own_P f s0 w0 ∨ v = some (.int (0 : Int32)) ∧ ¬ own_P f s0 w0) ∧ h = h0 ∧ Fr n0 L
theorem own_sub1 {s0 w0 : Nat} (h1 : s0 ≤ 70) (h2 : w0 ≤ 70) (q : ¬ (own_n w0 - own_n s0 < (1 : Int32))) : s0 < w0 := by
  rw [Int32.lt_iff_toInt_lt] at q
  have a := own_nI (i := s0) (by omega); have b := own_nI (i := w0) (by omega)
  have f := c_isub (own_n w0) (own_n s0)
  have r := rng32 (own_n w0 - own_n s0)
  have k : (1 : Int32).toInt = 1 := rfl
  omega
theorem own_d_prog_34_method_3_19 : decode prog_34_method_3_code 19 = .ok (.iload_n 3, 1) := by decide +kernel
theorem own_d_prog_34_method_3_20 : decode prog_34_method_3_code 20 = .ok (.iload_n 2, 1) := by decide +kernel
theorem own_d_prog_34_method_3_21 : decode prog_34_method_3_code 21 = .ok (.if_icmp .ge 74, 3) := by decide +kernel
theorem own_d_prog_34_method_3_95 : decode prog_34_method_3_code 95 = .ok (.iconst 1, 1) := by decide +kernel
theorem own_d_prog_34_method_3_96 : decode prog_34_method_3_code 96 = .ok (.ireturn, 1) := by decide +kernel
theorem own_d_prog_34_method_3_24 : decode prog_34_method_3_code 24 = .ok (.aload_n 0, 1) := by decide +kernel
theorem own_d_prog_34_method_3_25 : decode prog_34_method_3_code 25 = .ok (.iload_n 3, 1) := by decide +kernel
theorem own_d_prog_34_method_3_26 : decode prog_34_method_3_code 26 = .ok (.invokevirtual 27, 3) := by decide +kernel
theorem own_pd_3 : parseMethodDescriptor "(I)C" = some ⟨[.int], some .char⟩ := by decide +kernel
theorem own_d_prog_34_method_3_29 : decode prog_34_method_3_code 29 = .ok (.istore 4, 2) := by decide +kernel
theorem own_d_prog_34_method_3_31 : decode prog_34_method_3_code 31 = .ok (.iload 4, 2) := by decide +kernel
theorem own_d_prog_34_method_3_33 : decode prog_34_method_3_code 33 = .ok (.bipush 65, 2) := by decide +kernel
theorem own_d_prog_34_method_3_35 : decode prog_34_method_3_code 35 = .ok (.if_icmp .lt 10, 3) := by decide +kernel
theorem own_d_prog_34_method_3_45 : decode prog_34_method_3_code 45 = .ok (.iload 4, 2) := by decide +kernel
theorem own_d_prog_34_method_3_47 : decode prog_34_method_3_code 47 = .ok (.bipush 97, 2) := by decide +kernel
theorem own_d_prog_34_method_3_49 : decode prog_34_method_3_code 49 = .ok (.if_icmp .lt 10, 3) := by decide +kernel
theorem own_d_prog_34_method_3_59 : decode prog_34_method_3_code 59 = .ok (.iload 4, 2) := by decide +kernel
theorem own_d_prog_34_method_3_61 : decode prog_34_method_3_code 61 = .ok (.bipush 48, 2) := by decide +kernel
theorem own_d_prog_34_method_3_63 : decode prog_34_method_3_code 63 = .ok (.if_icmp .lt 10, 3) := by decide +kernel
theorem own_d_prog_34_method_3_73 : decode prog_34_method_3_code 73 = .ok (.iload 4, 2) := by decide +kernel
theorem own_d_prog_34_method_3_75 : decode prog_34_method_3_code 75 = .ok (.bipush 45, 2) := by decide +kernel
theorem own_d_prog_34_method_3_77 : decode prog_34_method_3_code 77 = .ok (.if_icmp .eq 12, 3) := by decide +kernel
theorem own_d_prog_34_method_3_89 : decode prog_34_method_3_code 89 = .ok (.iinc 3 1, 3) := by decide +kernel
theorem own_d_prog_34_method_3_92 : decode prog_34_method_3_code 92 = .ok (.goto (-73), 3) := by decide +kernel
theorem own_d_prog_34_method_3_80 : decode prog_34_method_3_code 80 = .ok (.iload 4, 2) := by decide +kernel
theorem own_d_prog_34_method_3_82 : decode prog_34_method_3_code 82 = .ok (.bipush 46, 2) := by decide +kernel
theorem own_d_prog_34_method_3_84 : decode prog_34_method_3_code 84 = .ok (.if_icmp .eq 5, 3) := by decide +kernel
theorem own_d_prog_34_method_3_87 : decode prog_34_method_3_code 87 = .ok (.iconst 0, 1) := by decide +kernel
theorem own_d_prog_34_method_3_88 : decode prog_34_method_3_code 88 = .ok (.ireturn, 1) := by decide +kernel
theorem own_d_prog_34_method_3_66 : decode prog_34_method_3_code 66 = .ok (.iload 4, 2) := by decide +kernel
theorem own_d_prog_34_method_3_68 : decode prog_34_method_3_code 68 = .ok (.bipush 57, 2) := by decide +kernel
theorem own_d_prog_34_method_3_70 : decode prog_34_method_3_code 70 = .ok (.if_icmp .le 19, 3) := by decide +kernel
theorem own_d_prog_34_method_3_52 : decode prog_34_method_3_code 52 = .ok (.iload 4, 2) := by decide +kernel
theorem own_d_prog_34_method_3_54 : decode prog_34_method_3_code 54 = .ok (.bipush 122, 2) := by decide +kernel
theorem own_d_prog_34_method_3_56 : decode prog_34_method_3_code 56 = .ok (.if_icmp .le 33, 3) := by decide +kernel
theorem own_d_prog_34_method_3_38 : decode prog_34_method_3_code 38 = .ok (.iload 4, 2) := by decide +kernel
theorem own_d_prog_34_method_3_40 : decode prog_34_method_3_code 40 = .ok (.bipush 90, 2) := by decide +kernel
theorem own_d_prog_34_method_3_42 : decode prog_34_method_3_code 42 = .ok (.if_icmp .le 47, 3) := by decide +kernel
theorem own_d_prog_34_method_3_0 : decode prog_34_method_3_code 0 = .ok (.iload_n 2, 1) := by decide +kernel
theorem own_d_prog_34_method_3_1 : decode prog_34_method_3_code 1 = .ok (.iload_n 1, 1) := by decide +kernel
theorem own_d_prog_34_method_3_2 : decode prog_34_method_3_code 2 = .ok (.isub, 1) := by decide +kernel
theorem own_d_prog_34_method_3_3 : decode prog_34_method_3_code 3 = .ok (.iconst 1, 1) := by decide +kernel
theorem own_d_prog_34_method_3_4 : decode prog_34_method_3_code 4 = .ok (.if_icmp .lt 11, 3) := by decide +kernel
theorem own_d_prog_34_method_3_15 : decode prog_34_method_3_code 15 = .ok (.iconst 0, 1) := by decide +kernel
theorem own_d_prog_34_method_3_16 : decode prog_34_method_3_code 16 = .ok (.ireturn, 1) := by decide +kernel
theorem own_d_prog_34_method_3_7 : decode prog_34_method_3_code 7 = .ok (.iload_n 2, 1) := by decide +kernel
theorem own_d_prog_34_method_3_8 : decode prog_34_method_3_code 8 = .ok (.iload_n 1, 1) := by decide +kernel
theorem own_d_prog_34_method_3_9 : decode prog_34_method_3_code 9 = .ok (.isub, 1) := by decide +kernel
theorem own_d_prog_34_method_3_10 : decode prog_34_method_3_code 10 = .ok (.bipush 64, 2) := by decide +kernel
theorem own_d_prog_34_method_3_12 : decode prog_34_method_3_code 12 = .ok (.if_icmp .le 5, 3) := by decide +kernel
theorem own_d_prog_34_method_3_17 : decode prog_34_method_3_code 17 = .ok (.iload_n 1, 1) := by decide +kernel
theorem own_d_prog_34_method_3_18 : decode prog_34_method_3_code 18 = .ok (.istore_n 3, 1) := by decide +kernel
abbrev own_y18 : MethodName := ⟨"com/example/brazier/brazier/fhir/ResourceId", "isValid", "(Ljava/lang/String;II)Z"⟩
theorem own_pn_ResourceId : plainName "com/example/brazier/brazier/fhir/ResourceId" = true := by first | (simp [plainName, overriddenIn]; done) | decide +kernel
theorem own_iv_ef (m : MethodId) (a1 : Addr) (s0 : Nat) (w0 : Nat) (f : Nat → Int32) (zc : Int32) (rs : Value) : entryFrame m #[(.ref a1), (.int (own_n s0)), (.int (own_n w0))] 5 = mkF m 0 #[.val (.ref a1), .val (.int (own_n s0)), .val (.int (own_n w0)), .unset, .unset] [] := by first | (simp [entryFrame, mkF, argsToLocals, Value.category]; done) | rfl
set_option maxRecDepth 65536 in
set_option maxHeartbeats 40000000 in
theorem own_iv (l : Launch) (Z : State) (a0 : Array Value) (hw : ∀ d ∈ tables_1, d.before a0 Z = true) (ws : List Jvm.Cond) (a1 : Addr) (s0 : Nat) (w0 : Nat) (f : Nat → Int32) (zc : Int32) (rs : Value) (h0 : Heap) (n0 : Nat) (Z0 : n0 ≤ h0.size) (hs0 : s0 ≤ 70) (he0 : w0 ≤ 70) (hC : own_C f) (hzc : ¬ zc = 0) (SX : own_St Z h0 zc rs) (hrs : rs = .null ∨ ∃ x, rs = .ref x) (hS : own_Str Z h0 a1 f) :
    MetFree l own_y18 (head1 (Jvm.Cond.code own_y18 prog_34_method_3_code 5 (some .boolean) :: ws) ({ frames := 5, cells := 0, slots := 0, locals := 123 } : Room)) (fun a U => a = #[(.ref a1), (.int (own_n s0)), (.int (own_n w0))] ∧ Z.Warmed39 U.vm ∧ U.heap = h0) (fun _ _ _ _ _ => True) (fun _ U o U' => ∃ v L, o = .returned v ∧ own_iv_Q f s0 w0 h0 n0 v U'.heap L ∧ FrameEnd U o U' L ({ frames := 5, cells := 0, slots := 0, locals := 123 } : Room).cells ({ frames := 5, cells := 0, slots := 0, locals := 123 } : Room).slots) := by
  refine MetFree.of_bodySF (plainFor_of_name own_pn_ResourceId) hisR ?_
  intro p e s m args below meth c s₁ Bd hml0 hP hK
  obtain ⟨rfl, hZ, hh⟩ := hP
  have hx := Bd.exec
  have hby := Bd.bytes
  have hml : c.maxLocals = 5 := hml0
  have hown : s.vm.findClass "com/example/brazier/brazier/fhir/ResourceId" = some m.cls := findClass_of_methodNamed Bd.named
  have hnm := (name_of_methodNamed Bd.named Bd.method).1
  have X0 : Stand p l e ({ frames := 5, cells := 0, slots := 0, locals := 123 } : Room) s m #[(.ref a1), (.int (own_n s0)), (.int (own_n w0))] below meth c s₁ [] 0 0 := Stand.of_body Bd
  have e0 : s₁.heap = h0 := by rw [← hh, Bd.state]; rfl
  show own_E p e below (own_K (own_iv_Q f s0 w0 h0 n0) s ({ frames := 5, cells := 0, slots := 0, locals := 123 } : Room).cells ({ frames := 5, cells := 0, slots := 0, locals := 123 } : Room).slots) s₁ (entryFrame m #[(.ref a1), (.int (own_n s0)), (.int (own_n w0))] 5)
  refine own_pre (own_iv_ef m a1 s0 w0 f zc rs) ?_
  have loop : ∀ (k i : Nat) (T : State) (Lc : List Loc) (s4 : Slot), One s4 → i + k = w0 → s0 ≤ i → ¬ (own_n w0 - own_n s0 < (1 : Int32)) → ¬ ((64 : Int32) < own_n w0 - own_n s0) → Stand p l e ({ frames := 5, cells := 0, slots := 0, locals := 123 } : Room) s m #[(.ref a1), (.int (own_n s0)), (.int (own_n w0))] below meth c T Lc 0 0 → Fr n0 Lc → T.heap = h0 → (∀ j, s0 ≤ j → j < i → own_ok (f j)) → own_E p e below (own_K (own_iv_Q f s0 w0 h0 n0) s ({ frames := 5, cells := 0, slots := 0, locals := 123 } : Room).cells ({ frames := 5, cells := 0, slots := 0, locals := 123 } : Room).slots) T (mkF m 19 #[rv a1, iv (own_n s0), iv (own_n w0), iv (own_n i), s4] []) := by
    intro k
    induction k with
    | zero =>
      intro i T Lc s4 o4 hik hsi hs1 hs2 X N eT I
      have hnl : ¬ own_n i < own_n w0 := fun q => absurd ((own_nlt (by omega) (by omega)).mp q) (by omega)
      show own_E p e below _ T (mkF m 19 #[rv a1, iv (own_n s0), iv (own_n w0), iv (own_n i), s4] [])
      refine own_st (fun t k => XS.iloadN X.here hx rfl (hb hby own_d_prog_34_method_3_19) rfl k) ?_
      show own_E p e below _ T (mkF m 20 #[rv a1, iv (own_n s0), iv (own_n w0), iv (own_n i), s4] [.int (own_n i)])
      refine own_st (fun t k => XS.iloadN X.here hx rfl (hb hby own_d_prog_34_method_3_20) rfl k) ?_
      show own_E p e below _ T (mkF m 21 #[rv a1, iv (own_n s0), iv (own_n w0), iv (own_n i), s4] [.int (own_n w0), .int (own_n i)])
      refine own_st (fun t k => XS.icmpYes X.here hx rfl (pc0 := 21) (pc' := 95) rfl (hb hby own_d_prog_34_method_3_21) rfl (flt hnl).2.1 (by decide) (by decide) k) ?_
      show own_E p e below _ T (mkF m 95 #[rv a1, iv (own_n s0), iv (own_n w0), iv (own_n i), s4] [])
      refine own_st (fun t k => XS.iconst X.here hx rfl (hb hby own_d_prog_34_method_3_95) k) ?_
      show own_E p e below _ T (mkF m 96 #[rv a1, iv (own_n s0), iv (own_n w0), iv (own_n i), s4] [.int 1])
      refine own_retS X hx Bd.notSynchronized Bd.returns rfl (by decide) (hb hby own_d_prog_34_method_3_96) (by decide) (by decide) ?_
      show own_iv_Q f s0 w0 h0 n0 _ T.heap _
      exact ⟨Or.inl ⟨rfl, hs1, hs2, fun j h1 h2 => I j h1 (by omega)⟩, eT, N⟩
    | succ k ih =>
      intro i T Lc s4 o4 hik hsi hs1 hs2 X N eT I
      have hi : i < w0 := by omega
      have hi70 : i < 70 := by omega
      have hlt : own_n i < own_n w0 := (own_nlt (by omega) (by omega)).mpr hi
      show own_E p e below _ T (mkF m 19 #[rv a1, iv (own_n s0), iv (own_n w0), iv (own_n i), s4] [])
      refine own_st (fun t k => XS.iloadN X.here hx rfl (hb hby own_d_prog_34_method_3_19) rfl k) ?_
      show own_E p e below _ T (mkF m 20 #[rv a1, iv (own_n s0), iv (own_n w0), iv (own_n i), s4] [.int (own_n i)])
      refine own_st (fun t k => XS.iloadN X.here hx rfl (hb hby own_d_prog_34_method_3_20) rfl k) ?_
      show own_E p e below _ T (mkF m 21 #[rv a1, iv (own_n s0), iv (own_n w0), iv (own_n i), s4] [.int (own_n w0), .int (own_n i)])
      refine own_st (fun t k => XS.icmpNo X.here hx rfl (hb hby own_d_prog_34_method_3_21) rfl (tlt hlt).2.1 k) ?_
      show own_E p e below _ T (mkF m 24 #[rv a1, iv (own_n s0), iv (own_n w0), iv (own_n i), s4] [])
      refine own_st (fun t k => XS.aloadN X.here hx rfl (hb hby own_d_prog_34_method_3_24) rfl rfl k) ?_
      show own_E p e below _ T (mkF m 25 #[rv a1, iv (own_n s0), iv (own_n w0), iv (own_n i), s4] [.ref a1])
      refine own_st (fun t k => XS.iloadN X.here hx rfl (hb hby own_d_prog_34_method_3_25) rfl k) ?_
      show own_E p e below _ T (mkF m 26 #[rv a1, iv (own_n s0), iv (own_n w0), iv (own_n i), s4] [.int (own_n i), .ref a1])
      obtain ⟨cq1, kq1, q1a, q1b, q1c⟩ := isOf hZ eT hS.1
      obtain ⟨_, _, ⟨T1, L1, k1, n1⟩, -, X1, ⟨Lc1, hQ1, l1, y1, z1⟩, st1⟩ := X.virtualBack hx (y := own_y17) (z := own_y17) hown (mvT hZ (own_w hw 36 rfl)) (mvT hZ (own_w hw 37 rfl)) (notFace_of_selects (args := #[]) (mvT hZ (own_w hw 39 rfl))) (mvT hZ (own_w hw 39 rfl)) (mvT hZ (own_w hw 38 rfl)) (by decide) (backOf (W := 0) (own_ch l Z a0 hw [] a1 i f zc rs h0 n0 Z0 hi70 hC hzc SX hrs hS) hZ (own_w hw 40 rfl) (own_w hw 5 rfl) (by decide) (by decide)) q1a q1c (g := (mkF m 26 #[rv a1, iv (own_n s0), iv (own_n w0), iv (own_n i), s4] [.int (own_n i), .ref a1])) rfl (by rw [hml]; rfl) (Steps.refl _) (argsL := [(.int (own_n i))]) (rest := []) (lenOf own_pd_3 rfl) rfl (by show 2 * 0 + _ ≤ _; exact Nat.le_of_eq rfl) (hb hby own_d_prog_34_method_3_26) (fun _ _ => ⟨rfl, eT, (by decide : 0 + 0 ≤ _), (by decide : 0 + 0 ≤ _)⟩)
      dsimp only [Pt.U, Pt.locs, Pt.cells, Pt.slots] at X1 l1 y1 z1 st1 hQ1
      subst l1 y1 z1
      obtain ⟨rfl, e1, rfl⟩ := hQ1
      have N1 := Fr.app N (Fr.nil n0)
      refine own_tr st1 ?_
      show own_E p e below _ T1 (mkF m 29 #[rv a1, iv (own_n s0), iv (own_n w0), iv (own_n i), s4] [.int (f i)])
      have os2 : storeLocals #[.val (.ref a1), .val (.int (own_n s0)), .val (.int (own_n w0)), .val (.int (own_n i)), s4] 4 (.int (f i)) = some #[.val (.ref a1), .val (.int (own_n s0)), .val (.int (own_n w0)), .val (.int (own_n i)), .val (.int (f i))] := by rcases o4 with h | ⟨w, h, hw⟩ <;> subst h <;> first | rfl | (cases w <;> first | rfl | (simp [Value.category] at hw))
      refine own_st (fun t k => XS.istore X1.here hx rfl (hb hby own_d_prog_34_method_3_29) rfl (l' := #[.val (.ref a1), .val (.int (own_n s0)), .val (.int (own_n w0)), .val (.int (own_n i)), .val (.int (f i))]) os2 k) ?_
      show own_E p e below _ T1 (mkF m 31 #[rv a1, iv (own_n s0), iv (own_n w0), iv (own_n i), iv (f i)] [])
      refine own_st (fun t k => XS.iload X1.here hx rfl (hb hby own_d_prog_34_method_3_31) rfl k) ?_
      show own_E p e below _ T1 (mkF m 33 #[rv a1, iv (own_n s0), iv (own_n w0), iv (own_n i), iv (f i)] [.int (f i)])
      refine own_st (fun t k => XS.bipush X1.here hx rfl (hb hby own_d_prog_34_method_3_33) k) ?_
      show own_E p e below _ T1 (mkF m 35 #[rv a1, iv (own_n s0), iv (own_n w0), iv (own_n i), iv (f i)] [.int 65, .int (f i)])
      by_cases hc3 : (f i) < (65 : Int32)
      · refine own_st (fun t k => XS.icmpYes X1.here hx rfl (pc0 := 35) (pc' := 45) rfl (hb hby own_d_prog_34_method_3_35) rfl (tlt hc3).1 (by decide) (by decide) k) ?_
        show own_E p e below _ T1 (mkF m 45 #[rv a1, iv (own_n s0), iv (own_n w0), iv (own_n i), iv (f i)] [])
        refine own_st (fun t k => XS.iload X1.here hx rfl (hb hby own_d_prog_34_method_3_45) rfl k) ?_
        show own_E p e below _ T1 (mkF m 47 #[rv a1, iv (own_n s0), iv (own_n w0), iv (own_n i), iv (f i)] [.int (f i)])
        refine own_st (fun t k => XS.bipush X1.here hx rfl (hb hby own_d_prog_34_method_3_47) k) ?_
        show own_E p e below _ T1 (mkF m 49 #[rv a1, iv (own_n s0), iv (own_n w0), iv (own_n i), iv (f i)] [.int 97, .int (f i)])
        by_cases hc4 : (f i) < (97 : Int32)
        · refine own_st (fun t k => XS.icmpYes X1.here hx rfl (pc0 := 49) (pc' := 59) rfl (hb hby own_d_prog_34_method_3_49) rfl (tlt hc4).1 (by decide) (by decide) k) ?_
          show own_E p e below _ T1 (mkF m 59 #[rv a1, iv (own_n s0), iv (own_n w0), iv (own_n i), iv (f i)] [])
          refine own_st (fun t k => XS.iload X1.here hx rfl (hb hby own_d_prog_34_method_3_59) rfl k) ?_
          show own_E p e below _ T1 (mkF m 61 #[rv a1, iv (own_n s0), iv (own_n w0), iv (own_n i), iv (f i)] [.int (f i)])
          refine own_st (fun t k => XS.bipush X1.here hx rfl (hb hby own_d_prog_34_method_3_61) k) ?_
          show own_E p e below _ T1 (mkF m 63 #[rv a1, iv (own_n s0), iv (own_n w0), iv (own_n i), iv (f i)] [.int 48, .int (f i)])
          by_cases hc5 : (f i) < (48 : Int32)
          · refine own_st (fun t k => XS.icmpYes X1.here hx rfl (pc0 := 63) (pc' := 73) rfl (hb hby own_d_prog_34_method_3_63) rfl (tlt hc5).1 (by decide) (by decide) k) ?_
            show own_E p e below _ T1 (mkF m 73 #[rv a1, iv (own_n s0), iv (own_n w0), iv (own_n i), iv (f i)] [])
            refine own_st (fun t k => XS.iload X1.here hx rfl (hb hby own_d_prog_34_method_3_73) rfl k) ?_
            show own_E p e below _ T1 (mkF m 75 #[rv a1, iv (own_n s0), iv (own_n w0), iv (own_n i), iv (f i)] [.int (f i)])
            refine own_st (fun t k => XS.bipush X1.here hx rfl (hb hby own_d_prog_34_method_3_75) k) ?_
            show own_E p e below _ T1 (mkF m 77 #[rv a1, iv (own_n s0), iv (own_n w0), iv (own_n i), iv (f i)] [.int 45, .int (f i)])
            by_cases hc6 : (f i) = (45 : Int32)
            · refine own_st (fun t k => XS.icmpYes X1.here hx rfl (pc0 := 77) (pc' := 89) rfl (hb hby own_d_prog_34_method_3_77) rfl (teq hc6).1 (by decide) (by decide) k) ?_
              show own_E p e below _ T1 (mkF m 89 #[rv a1, iv (own_n s0), iv (own_n w0), iv (own_n i), iv (f i)] [])
              refine own_st (fun t k => XS.iinc X1.here hx rfl (hb hby own_d_prog_34_method_3_89) rfl (l' := #[rv a1, iv (own_n s0), iv (own_n w0), iv ((own_n i) + (1 : Int32)), iv (f i)]) rfl k) ?_
              show own_E p e below _ T1 (mkF m 92 #[rv a1, iv (own_n s0), iv (own_n w0), iv ((own_n i) + (1 : Int32)), iv (f i)] [])
              refine own_st (fun t k => XS.goto X1.here hx rfl (pc0 := 92) (pc' := 19) rfl (hb hby own_d_prog_34_method_3_92) (by decide) (by decide) k) ?_
              show own_E p e below _ T1 (mkF m 19 #[rv a1, iv (own_n s0), iv (own_n w0), iv ((own_n i) + (1 : Int32)), iv (f i)] [])
              rw [own_ns (by omega)]
              refine ih (i + 1) _ _ _ (One.val rfl) (by omega) (by omega) hs1 hs2 X1 N1 e1 (fun j h1 h2 => ?_)
              by_cases hji : j = i
              · subst hji; simp [own_ok, hc3, hc4, hc5, hc6]
              · exact I j h1 (by omega)
            · refine own_st (fun t k => XS.icmpNo X1.here hx rfl (hb hby own_d_prog_34_method_3_77) rfl (feq hc6).1 k) ?_
              show own_E p e below _ T1 (mkF m 80 #[rv a1, iv (own_n s0), iv (own_n w0), iv (own_n i), iv (f i)] [])
              refine own_st (fun t k => XS.iload X1.here hx rfl (hb hby own_d_prog_34_method_3_80) rfl k) ?_
              show own_E p e below _ T1 (mkF m 82 #[rv a1, iv (own_n s0), iv (own_n w0), iv (own_n i), iv (f i)] [.int (f i)])
              refine own_st (fun t k => XS.bipush X1.here hx rfl (hb hby own_d_prog_34_method_3_82) k) ?_
              show own_E p e below _ T1 (mkF m 84 #[rv a1, iv (own_n s0), iv (own_n w0), iv (own_n i), iv (f i)] [.int 46, .int (f i)])
              by_cases hc7 : (f i) = (46 : Int32)
              · refine own_st (fun t k => XS.icmpYes X1.here hx rfl (pc0 := 84) (pc' := 89) rfl (hb hby own_d_prog_34_method_3_84) rfl (teq hc7).1 (by decide) (by decide) k) ?_
                show own_E p e below _ T1 (mkF m 89 #[rv a1, iv (own_n s0), iv (own_n w0), iv (own_n i), iv (f i)] [])
                refine own_st (fun t k => XS.iinc X1.here hx rfl (hb hby own_d_prog_34_method_3_89) rfl (l' := #[rv a1, iv (own_n s0), iv (own_n w0), iv ((own_n i) + (1 : Int32)), iv (f i)]) rfl k) ?_
                show own_E p e below _ T1 (mkF m 92 #[rv a1, iv (own_n s0), iv (own_n w0), iv ((own_n i) + (1 : Int32)), iv (f i)] [])
                refine own_st (fun t k => XS.goto X1.here hx rfl (pc0 := 92) (pc' := 19) rfl (hb hby own_d_prog_34_method_3_92) (by decide) (by decide) k) ?_
                show own_E p e below _ T1 (mkF m 19 #[rv a1, iv (own_n s0), iv (own_n w0), iv ((own_n i) + (1 : Int32)), iv (f i)] [])
                rw [own_ns (by omega)]
                refine ih (i + 1) _ _ _ (One.val rfl) (by omega) (by omega) hs1 hs2 X1 N1 e1 (fun j h1 h2 => ?_)
                by_cases hji : j = i
                · subst hji; simp [own_ok, hc3, hc4, hc5, hc6, hc7]
                · exact I j h1 (by omega)
              · refine own_st (fun t k => XS.icmpNo X1.here hx rfl (hb hby own_d_prog_34_method_3_84) rfl (feq hc7).1 k) ?_
                show own_E p e below _ T1 (mkF m 87 #[rv a1, iv (own_n s0), iv (own_n w0), iv (own_n i), iv (f i)] [])
                refine own_st (fun t k => XS.iconst X1.here hx rfl (hb hby own_d_prog_34_method_3_87) k) ?_
                show own_E p e below _ T1 (mkF m 88 #[rv a1, iv (own_n s0), iv (own_n w0), iv (own_n i), iv (f i)] [.int 0])
                refine own_retS X1 hx Bd.notSynchronized Bd.returns rfl (by decide) (hb hby own_d_prog_34_method_3_88) (by decide) (by decide) ?_
                show own_iv_Q f s0 w0 h0 n0 _ T1.heap _
                exact ⟨Or.inr ⟨rfl, fun q => absurd (q.2.2 i hsi hi) (by simp [own_ok, hc3, hc4, hc5, hc6, hc7])⟩, e1, N1⟩
          · refine own_st (fun t k => XS.icmpNo X1.here hx rfl (hb hby own_d_prog_34_method_3_63) rfl (flt hc5).1 k) ?_
            show own_E p e below _ T1 (mkF m 66 #[rv a1, iv (own_n s0), iv (own_n w0), iv (own_n i), iv (f i)] [])
            refine own_st (fun t k => XS.iload X1.here hx rfl (hb hby own_d_prog_34_method_3_66) rfl k) ?_
            show own_E p e below _ T1 (mkF m 68 #[rv a1, iv (own_n s0), iv (own_n w0), iv (own_n i), iv (f i)] [.int (f i)])
            refine own_st (fun t k => XS.bipush X1.here hx rfl (hb hby own_d_prog_34_method_3_68) k) ?_
            show own_E p e below _ T1 (mkF m 70 #[rv a1, iv (own_n s0), iv (own_n w0), iv (own_n i), iv (f i)] [.int 57, .int (f i)])
            by_cases hc8 : (57 : Int32) < (f i)
            · refine own_st (fun t k => XS.icmpNo X1.here hx rfl (hb hby own_d_prog_34_method_3_70) rfl (tlt hc8).2.2.2 k) ?_
              show own_E p e below _ T1 (mkF m 73 #[rv a1, iv (own_n s0), iv (own_n w0), iv (own_n i), iv (f i)] [])
              refine own_st (fun t k => XS.iload X1.here hx rfl (hb hby own_d_prog_34_method_3_73) rfl k) ?_
              show own_E p e below _ T1 (mkF m 75 #[rv a1, iv (own_n s0), iv (own_n w0), iv (own_n i), iv (f i)] [.int (f i)])
              refine own_st (fun t k => XS.bipush X1.here hx rfl (hb hby own_d_prog_34_method_3_75) k) ?_
              show own_E p e below _ T1 (mkF m 77 #[rv a1, iv (own_n s0), iv (own_n w0), iv (own_n i), iv (f i)] [.int 45, .int (f i)])
              by_cases hc9 : (f i) = (45 : Int32)
              · refine own_st (fun t k => XS.icmpYes X1.here hx rfl (pc0 := 77) (pc' := 89) rfl (hb hby own_d_prog_34_method_3_77) rfl (teq hc9).1 (by decide) (by decide) k) ?_
                show own_E p e below _ T1 (mkF m 89 #[rv a1, iv (own_n s0), iv (own_n w0), iv (own_n i), iv (f i)] [])
                refine own_st (fun t k => XS.iinc X1.here hx rfl (hb hby own_d_prog_34_method_3_89) rfl (l' := #[rv a1, iv (own_n s0), iv (own_n w0), iv ((own_n i) + (1 : Int32)), iv (f i)]) rfl k) ?_
                show own_E p e below _ T1 (mkF m 92 #[rv a1, iv (own_n s0), iv (own_n w0), iv ((own_n i) + (1 : Int32)), iv (f i)] [])
                refine own_st (fun t k => XS.goto X1.here hx rfl (pc0 := 92) (pc' := 19) rfl (hb hby own_d_prog_34_method_3_92) (by decide) (by decide) k) ?_
                show own_E p e below _ T1 (mkF m 19 #[rv a1, iv (own_n s0), iv (own_n w0), iv ((own_n i) + (1 : Int32)), iv (f i)] [])
                rw [own_ns (by omega)]
                refine ih (i + 1) _ _ _ (One.val rfl) (by omega) (by omega) hs1 hs2 X1 N1 e1 (fun j h1 h2 => ?_)
                by_cases hji : j = i
                · subst hji; simp [own_ok, hc3, hc4, hc5, hc8, hc9]
                · exact I j h1 (by omega)
              · refine own_st (fun t k => XS.icmpNo X1.here hx rfl (hb hby own_d_prog_34_method_3_77) rfl (feq hc9).1 k) ?_
                show own_E p e below _ T1 (mkF m 80 #[rv a1, iv (own_n s0), iv (own_n w0), iv (own_n i), iv (f i)] [])
                refine own_st (fun t k => XS.iload X1.here hx rfl (hb hby own_d_prog_34_method_3_80) rfl k) ?_
                show own_E p e below _ T1 (mkF m 82 #[rv a1, iv (own_n s0), iv (own_n w0), iv (own_n i), iv (f i)] [.int (f i)])
                refine own_st (fun t k => XS.bipush X1.here hx rfl (hb hby own_d_prog_34_method_3_82) k) ?_
                show own_E p e below _ T1 (mkF m 84 #[rv a1, iv (own_n s0), iv (own_n w0), iv (own_n i), iv (f i)] [.int 46, .int (f i)])
                by_cases hc10 : (f i) = (46 : Int32)
                · refine own_st (fun t k => XS.icmpYes X1.here hx rfl (pc0 := 84) (pc' := 89) rfl (hb hby own_d_prog_34_method_3_84) rfl (teq hc10).1 (by decide) (by decide) k) ?_
                  show own_E p e below _ T1 (mkF m 89 #[rv a1, iv (own_n s0), iv (own_n w0), iv (own_n i), iv (f i)] [])
                  refine own_st (fun t k => XS.iinc X1.here hx rfl (hb hby own_d_prog_34_method_3_89) rfl (l' := #[rv a1, iv (own_n s0), iv (own_n w0), iv ((own_n i) + (1 : Int32)), iv (f i)]) rfl k) ?_
                  show own_E p e below _ T1 (mkF m 92 #[rv a1, iv (own_n s0), iv (own_n w0), iv ((own_n i) + (1 : Int32)), iv (f i)] [])
                  refine own_st (fun t k => XS.goto X1.here hx rfl (pc0 := 92) (pc' := 19) rfl (hb hby own_d_prog_34_method_3_92) (by decide) (by decide) k) ?_
                  show own_E p e below _ T1 (mkF m 19 #[rv a1, iv (own_n s0), iv (own_n w0), iv ((own_n i) + (1 : Int32)), iv (f i)] [])
                  rw [own_ns (by omega)]
                  refine ih (i + 1) _ _ _ (One.val rfl) (by omega) (by omega) hs1 hs2 X1 N1 e1 (fun j h1 h2 => ?_)
                  by_cases hji : j = i
                  · subst hji; simp [own_ok, hc3, hc4, hc5, hc8, hc9, hc10]
                  · exact I j h1 (by omega)
                · refine own_st (fun t k => XS.icmpNo X1.here hx rfl (hb hby own_d_prog_34_method_3_84) rfl (feq hc10).1 k) ?_
                  show own_E p e below _ T1 (mkF m 87 #[rv a1, iv (own_n s0), iv (own_n w0), iv (own_n i), iv (f i)] [])
                  refine own_st (fun t k => XS.iconst X1.here hx rfl (hb hby own_d_prog_34_method_3_87) k) ?_
                  show own_E p e below _ T1 (mkF m 88 #[rv a1, iv (own_n s0), iv (own_n w0), iv (own_n i), iv (f i)] [.int 0])
                  refine own_retS X1 hx Bd.notSynchronized Bd.returns rfl (by decide) (hb hby own_d_prog_34_method_3_88) (by decide) (by decide) ?_
                  show own_iv_Q f s0 w0 h0 n0 _ T1.heap _
                  exact ⟨Or.inr ⟨rfl, fun q => absurd (q.2.2 i hsi hi) (by simp [own_ok, hc3, hc4, hc5, hc8, hc9, hc10])⟩, e1, N1⟩
            · refine own_st (fun t k => XS.icmpYes X1.here hx rfl (pc0 := 70) (pc' := 89) rfl (hb hby own_d_prog_34_method_3_70) rfl (flt hc8).2.2.2 (by decide) (by decide) k) ?_
              show own_E p e below _ T1 (mkF m 89 #[rv a1, iv (own_n s0), iv (own_n w0), iv (own_n i), iv (f i)] [])
              refine own_st (fun t k => XS.iinc X1.here hx rfl (hb hby own_d_prog_34_method_3_89) rfl (l' := #[rv a1, iv (own_n s0), iv (own_n w0), iv ((own_n i) + (1 : Int32)), iv (f i)]) rfl k) ?_
              show own_E p e below _ T1 (mkF m 92 #[rv a1, iv (own_n s0), iv (own_n w0), iv ((own_n i) + (1 : Int32)), iv (f i)] [])
              refine own_st (fun t k => XS.goto X1.here hx rfl (pc0 := 92) (pc' := 19) rfl (hb hby own_d_prog_34_method_3_92) (by decide) (by decide) k) ?_
              show own_E p e below _ T1 (mkF m 19 #[rv a1, iv (own_n s0), iv (own_n w0), iv ((own_n i) + (1 : Int32)), iv (f i)] [])
              rw [own_ns (by omega)]
              refine ih (i + 1) _ _ _ (One.val rfl) (by omega) (by omega) hs1 hs2 X1 N1 e1 (fun j h1 h2 => ?_)
              by_cases hji : j = i
              · subst hji; simp [own_ok, hc3, hc4, hc5, hc8]
              · exact I j h1 (by omega)
        · refine own_st (fun t k => XS.icmpNo X1.here hx rfl (hb hby own_d_prog_34_method_3_49) rfl (flt hc4).1 k) ?_
          show own_E p e below _ T1 (mkF m 52 #[rv a1, iv (own_n s0), iv (own_n w0), iv (own_n i), iv (f i)] [])
          refine own_st (fun t k => XS.iload X1.here hx rfl (hb hby own_d_prog_34_method_3_52) rfl k) ?_
          show own_E p e below _ T1 (mkF m 54 #[rv a1, iv (own_n s0), iv (own_n w0), iv (own_n i), iv (f i)] [.int (f i)])
          refine own_st (fun t k => XS.bipush X1.here hx rfl (hb hby own_d_prog_34_method_3_54) k) ?_
          show own_E p e below _ T1 (mkF m 56 #[rv a1, iv (own_n s0), iv (own_n w0), iv (own_n i), iv (f i)] [.int 122, .int (f i)])
          by_cases hc11 : (122 : Int32) < (f i)
          · refine own_st (fun t k => XS.icmpNo X1.here hx rfl (hb hby own_d_prog_34_method_3_56) rfl (tlt hc11).2.2.2 k) ?_
            show own_E p e below _ T1 (mkF m 59 #[rv a1, iv (own_n s0), iv (own_n w0), iv (own_n i), iv (f i)] [])
            refine own_st (fun t k => XS.iload X1.here hx rfl (hb hby own_d_prog_34_method_3_59) rfl k) ?_
            show own_E p e below _ T1 (mkF m 61 #[rv a1, iv (own_n s0), iv (own_n w0), iv (own_n i), iv (f i)] [.int (f i)])
            refine own_st (fun t k => XS.bipush X1.here hx rfl (hb hby own_d_prog_34_method_3_61) k) ?_
            show own_E p e below _ T1 (mkF m 63 #[rv a1, iv (own_n s0), iv (own_n w0), iv (own_n i), iv (f i)] [.int 48, .int (f i)])
            by_cases hc12 : (f i) < (48 : Int32)
            · refine own_st (fun t k => XS.icmpYes X1.here hx rfl (pc0 := 63) (pc' := 73) rfl (hb hby own_d_prog_34_method_3_63) rfl (tlt hc12).1 (by decide) (by decide) k) ?_
              show own_E p e below _ T1 (mkF m 73 #[rv a1, iv (own_n s0), iv (own_n w0), iv (own_n i), iv (f i)] [])
              refine own_st (fun t k => XS.iload X1.here hx rfl (hb hby own_d_prog_34_method_3_73) rfl k) ?_
              show own_E p e below _ T1 (mkF m 75 #[rv a1, iv (own_n s0), iv (own_n w0), iv (own_n i), iv (f i)] [.int (f i)])
              refine own_st (fun t k => XS.bipush X1.here hx rfl (hb hby own_d_prog_34_method_3_75) k) ?_
              show own_E p e below _ T1 (mkF m 77 #[rv a1, iv (own_n s0), iv (own_n w0), iv (own_n i), iv (f i)] [.int 45, .int (f i)])
              by_cases hc13 : (f i) = (45 : Int32)
              · refine own_st (fun t k => XS.icmpYes X1.here hx rfl (pc0 := 77) (pc' := 89) rfl (hb hby own_d_prog_34_method_3_77) rfl (teq hc13).1 (by decide) (by decide) k) ?_
                show own_E p e below _ T1 (mkF m 89 #[rv a1, iv (own_n s0), iv (own_n w0), iv (own_n i), iv (f i)] [])
                refine own_st (fun t k => XS.iinc X1.here hx rfl (hb hby own_d_prog_34_method_3_89) rfl (l' := #[rv a1, iv (own_n s0), iv (own_n w0), iv ((own_n i) + (1 : Int32)), iv (f i)]) rfl k) ?_
                show own_E p e below _ T1 (mkF m 92 #[rv a1, iv (own_n s0), iv (own_n w0), iv ((own_n i) + (1 : Int32)), iv (f i)] [])
                refine own_st (fun t k => XS.goto X1.here hx rfl (pc0 := 92) (pc' := 19) rfl (hb hby own_d_prog_34_method_3_92) (by decide) (by decide) k) ?_
                show own_E p e below _ T1 (mkF m 19 #[rv a1, iv (own_n s0), iv (own_n w0), iv ((own_n i) + (1 : Int32)), iv (f i)] [])
                rw [own_ns (by omega)]
                refine ih (i + 1) _ _ _ (One.val rfl) (by omega) (by omega) hs1 hs2 X1 N1 e1 (fun j h1 h2 => ?_)
                by_cases hji : j = i
                · subst hji; simp [own_ok, hc3, hc4, hc11, hc12, hc13]
                · exact I j h1 (by omega)
              · refine own_st (fun t k => XS.icmpNo X1.here hx rfl (hb hby own_d_prog_34_method_3_77) rfl (feq hc13).1 k) ?_
                show own_E p e below _ T1 (mkF m 80 #[rv a1, iv (own_n s0), iv (own_n w0), iv (own_n i), iv (f i)] [])
                refine own_st (fun t k => XS.iload X1.here hx rfl (hb hby own_d_prog_34_method_3_80) rfl k) ?_
                show own_E p e below _ T1 (mkF m 82 #[rv a1, iv (own_n s0), iv (own_n w0), iv (own_n i), iv (f i)] [.int (f i)])
                refine own_st (fun t k => XS.bipush X1.here hx rfl (hb hby own_d_prog_34_method_3_82) k) ?_
                show own_E p e below _ T1 (mkF m 84 #[rv a1, iv (own_n s0), iv (own_n w0), iv (own_n i), iv (f i)] [.int 46, .int (f i)])
                by_cases hc14 : (f i) = (46 : Int32)
                · refine own_st (fun t k => XS.icmpYes X1.here hx rfl (pc0 := 84) (pc' := 89) rfl (hb hby own_d_prog_34_method_3_84) rfl (teq hc14).1 (by decide) (by decide) k) ?_
                  show own_E p e below _ T1 (mkF m 89 #[rv a1, iv (own_n s0), iv (own_n w0), iv (own_n i), iv (f i)] [])
                  refine own_st (fun t k => XS.iinc X1.here hx rfl (hb hby own_d_prog_34_method_3_89) rfl (l' := #[rv a1, iv (own_n s0), iv (own_n w0), iv ((own_n i) + (1 : Int32)), iv (f i)]) rfl k) ?_
                  show own_E p e below _ T1 (mkF m 92 #[rv a1, iv (own_n s0), iv (own_n w0), iv ((own_n i) + (1 : Int32)), iv (f i)] [])
                  refine own_st (fun t k => XS.goto X1.here hx rfl (pc0 := 92) (pc' := 19) rfl (hb hby own_d_prog_34_method_3_92) (by decide) (by decide) k) ?_
                  show own_E p e below _ T1 (mkF m 19 #[rv a1, iv (own_n s0), iv (own_n w0), iv ((own_n i) + (1 : Int32)), iv (f i)] [])
                  rw [own_ns (by omega)]
                  refine ih (i + 1) _ _ _ (One.val rfl) (by omega) (by omega) hs1 hs2 X1 N1 e1 (fun j h1 h2 => ?_)
                  by_cases hji : j = i
                  · subst hji; simp [own_ok, hc3, hc4, hc11, hc12, hc13, hc14]
                  · exact I j h1 (by omega)
                · refine own_st (fun t k => XS.icmpNo X1.here hx rfl (hb hby own_d_prog_34_method_3_84) rfl (feq hc14).1 k) ?_
                  show own_E p e below _ T1 (mkF m 87 #[rv a1, iv (own_n s0), iv (own_n w0), iv (own_n i), iv (f i)] [])
                  refine own_st (fun t k => XS.iconst X1.here hx rfl (hb hby own_d_prog_34_method_3_87) k) ?_
                  show own_E p e below _ T1 (mkF m 88 #[rv a1, iv (own_n s0), iv (own_n w0), iv (own_n i), iv (f i)] [.int 0])
                  refine own_retS X1 hx Bd.notSynchronized Bd.returns rfl (by decide) (hb hby own_d_prog_34_method_3_88) (by decide) (by decide) ?_
                  show own_iv_Q f s0 w0 h0 n0 _ T1.heap _
                  exact ⟨Or.inr ⟨rfl, fun q => absurd (q.2.2 i hsi hi) (by simp [own_ok, hc3, hc4, hc11, hc12, hc13, hc14])⟩, e1, N1⟩
            · refine own_st (fun t k => XS.icmpNo X1.here hx rfl (hb hby own_d_prog_34_method_3_63) rfl (flt hc12).1 k) ?_
              show own_E p e below _ T1 (mkF m 66 #[rv a1, iv (own_n s0), iv (own_n w0), iv (own_n i), iv (f i)] [])
              refine own_st (fun t k => XS.iload X1.here hx rfl (hb hby own_d_prog_34_method_3_66) rfl k) ?_
              show own_E p e below _ T1 (mkF m 68 #[rv a1, iv (own_n s0), iv (own_n w0), iv (own_n i), iv (f i)] [.int (f i)])
              refine own_st (fun t k => XS.bipush X1.here hx rfl (hb hby own_d_prog_34_method_3_68) k) ?_
              show own_E p e below _ T1 (mkF m 70 #[rv a1, iv (own_n s0), iv (own_n w0), iv (own_n i), iv (f i)] [.int 57, .int (f i)])
              by_cases hc15 : (57 : Int32) < (f i)
              · refine own_st (fun t k => XS.icmpNo X1.here hx rfl (hb hby own_d_prog_34_method_3_70) rfl (tlt hc15).2.2.2 k) ?_
                show own_E p e below _ T1 (mkF m 73 #[rv a1, iv (own_n s0), iv (own_n w0), iv (own_n i), iv (f i)] [])
                refine own_st (fun t k => XS.iload X1.here hx rfl (hb hby own_d_prog_34_method_3_73) rfl k) ?_
                show own_E p e below _ T1 (mkF m 75 #[rv a1, iv (own_n s0), iv (own_n w0), iv (own_n i), iv (f i)] [.int (f i)])
                refine own_st (fun t k => XS.bipush X1.here hx rfl (hb hby own_d_prog_34_method_3_75) k) ?_
                show own_E p e below _ T1 (mkF m 77 #[rv a1, iv (own_n s0), iv (own_n w0), iv (own_n i), iv (f i)] [.int 45, .int (f i)])
                by_cases hc16 : (f i) = (45 : Int32)
                · refine own_st (fun t k => XS.icmpYes X1.here hx rfl (pc0 := 77) (pc' := 89) rfl (hb hby own_d_prog_34_method_3_77) rfl (teq hc16).1 (by decide) (by decide) k) ?_
                  show own_E p e below _ T1 (mkF m 89 #[rv a1, iv (own_n s0), iv (own_n w0), iv (own_n i), iv (f i)] [])
                  refine own_st (fun t k => XS.iinc X1.here hx rfl (hb hby own_d_prog_34_method_3_89) rfl (l' := #[rv a1, iv (own_n s0), iv (own_n w0), iv ((own_n i) + (1 : Int32)), iv (f i)]) rfl k) ?_
                  show own_E p e below _ T1 (mkF m 92 #[rv a1, iv (own_n s0), iv (own_n w0), iv ((own_n i) + (1 : Int32)), iv (f i)] [])
                  refine own_st (fun t k => XS.goto X1.here hx rfl (pc0 := 92) (pc' := 19) rfl (hb hby own_d_prog_34_method_3_92) (by decide) (by decide) k) ?_
                  show own_E p e below _ T1 (mkF m 19 #[rv a1, iv (own_n s0), iv (own_n w0), iv ((own_n i) + (1 : Int32)), iv (f i)] [])
                  rw [own_ns (by omega)]
                  refine ih (i + 1) _ _ _ (One.val rfl) (by omega) (by omega) hs1 hs2 X1 N1 e1 (fun j h1 h2 => ?_)
                  by_cases hji : j = i
                  · subst hji; simp [own_ok, hc3, hc4, hc11, hc12, hc15, hc16]
                  · exact I j h1 (by omega)
                · refine own_st (fun t k => XS.icmpNo X1.here hx rfl (hb hby own_d_prog_34_method_3_77) rfl (feq hc16).1 k) ?_
                  show own_E p e below _ T1 (mkF m 80 #[rv a1, iv (own_n s0), iv (own_n w0), iv (own_n i), iv (f i)] [])
                  refine own_st (fun t k => XS.iload X1.here hx rfl (hb hby own_d_prog_34_method_3_80) rfl k) ?_
                  show own_E p e below _ T1 (mkF m 82 #[rv a1, iv (own_n s0), iv (own_n w0), iv (own_n i), iv (f i)] [.int (f i)])
                  refine own_st (fun t k => XS.bipush X1.here hx rfl (hb hby own_d_prog_34_method_3_82) k) ?_
                  show own_E p e below _ T1 (mkF m 84 #[rv a1, iv (own_n s0), iv (own_n w0), iv (own_n i), iv (f i)] [.int 46, .int (f i)])
                  by_cases hc17 : (f i) = (46 : Int32)
                  · refine own_st (fun t k => XS.icmpYes X1.here hx rfl (pc0 := 84) (pc' := 89) rfl (hb hby own_d_prog_34_method_3_84) rfl (teq hc17).1 (by decide) (by decide) k) ?_
                    show own_E p e below _ T1 (mkF m 89 #[rv a1, iv (own_n s0), iv (own_n w0), iv (own_n i), iv (f i)] [])
                    refine own_st (fun t k => XS.iinc X1.here hx rfl (hb hby own_d_prog_34_method_3_89) rfl (l' := #[rv a1, iv (own_n s0), iv (own_n w0), iv ((own_n i) + (1 : Int32)), iv (f i)]) rfl k) ?_
                    show own_E p e below _ T1 (mkF m 92 #[rv a1, iv (own_n s0), iv (own_n w0), iv ((own_n i) + (1 : Int32)), iv (f i)] [])
                    refine own_st (fun t k => XS.goto X1.here hx rfl (pc0 := 92) (pc' := 19) rfl (hb hby own_d_prog_34_method_3_92) (by decide) (by decide) k) ?_
                    show own_E p e below _ T1 (mkF m 19 #[rv a1, iv (own_n s0), iv (own_n w0), iv ((own_n i) + (1 : Int32)), iv (f i)] [])
                    rw [own_ns (by omega)]
                    refine ih (i + 1) _ _ _ (One.val rfl) (by omega) (by omega) hs1 hs2 X1 N1 e1 (fun j h1 h2 => ?_)
                    by_cases hji : j = i
                    · subst hji; simp [own_ok, hc3, hc4, hc11, hc12, hc15, hc16, hc17]
                    · exact I j h1 (by omega)
                  · refine own_st (fun t k => XS.icmpNo X1.here hx rfl (hb hby own_d_prog_34_method_3_84) rfl (feq hc17).1 k) ?_
                    show own_E p e below _ T1 (mkF m 87 #[rv a1, iv (own_n s0), iv (own_n w0), iv (own_n i), iv (f i)] [])
                    refine own_st (fun t k => XS.iconst X1.here hx rfl (hb hby own_d_prog_34_method_3_87) k) ?_
                    show own_E p e below _ T1 (mkF m 88 #[rv a1, iv (own_n s0), iv (own_n w0), iv (own_n i), iv (f i)] [.int 0])
                    refine own_retS X1 hx Bd.notSynchronized Bd.returns rfl (by decide) (hb hby own_d_prog_34_method_3_88) (by decide) (by decide) ?_
                    show own_iv_Q f s0 w0 h0 n0 _ T1.heap _
                    exact ⟨Or.inr ⟨rfl, fun q => absurd (q.2.2 i hsi hi) (by simp [own_ok, hc3, hc4, hc11, hc12, hc15, hc16, hc17])⟩, e1, N1⟩
              · refine own_st (fun t k => XS.icmpYes X1.here hx rfl (pc0 := 70) (pc' := 89) rfl (hb hby own_d_prog_34_method_3_70) rfl (flt hc15).2.2.2 (by decide) (by decide) k) ?_
                show own_E p e below _ T1 (mkF m 89 #[rv a1, iv (own_n s0), iv (own_n w0), iv (own_n i), iv (f i)] [])
                refine own_st (fun t k => XS.iinc X1.here hx rfl (hb hby own_d_prog_34_method_3_89) rfl (l' := #[rv a1, iv (own_n s0), iv (own_n w0), iv ((own_n i) + (1 : Int32)), iv (f i)]) rfl k) ?_
                show own_E p e below _ T1 (mkF m 92 #[rv a1, iv (own_n s0), iv (own_n w0), iv ((own_n i) + (1 : Int32)), iv (f i)] [])
                refine own_st (fun t k => XS.goto X1.here hx rfl (pc0 := 92) (pc' := 19) rfl (hb hby own_d_prog_34_method_3_92) (by decide) (by decide) k) ?_
                show own_E p e below _ T1 (mkF m 19 #[rv a1, iv (own_n s0), iv (own_n w0), iv ((own_n i) + (1 : Int32)), iv (f i)] [])
                rw [own_ns (by omega)]
                refine ih (i + 1) _ _ _ (One.val rfl) (by omega) (by omega) hs1 hs2 X1 N1 e1 (fun j h1 h2 => ?_)
                by_cases hji : j = i
                · subst hji; simp [own_ok, hc3, hc4, hc11, hc12, hc15]
                · exact I j h1 (by omega)
          · refine own_st (fun t k => XS.icmpYes X1.here hx rfl (pc0 := 56) (pc' := 89) rfl (hb hby own_d_prog_34_method_3_56) rfl (flt hc11).2.2.2 (by decide) (by decide) k) ?_
            show own_E p e below _ T1 (mkF m 89 #[rv a1, iv (own_n s0), iv (own_n w0), iv (own_n i), iv (f i)] [])
            refine own_st (fun t k => XS.iinc X1.here hx rfl (hb hby own_d_prog_34_method_3_89) rfl (l' := #[rv a1, iv (own_n s0), iv (own_n w0), iv ((own_n i) + (1 : Int32)), iv (f i)]) rfl k) ?_
            show own_E p e below _ T1 (mkF m 92 #[rv a1, iv (own_n s0), iv (own_n w0), iv ((own_n i) + (1 : Int32)), iv (f i)] [])
            refine own_st (fun t k => XS.goto X1.here hx rfl (pc0 := 92) (pc' := 19) rfl (hb hby own_d_prog_34_method_3_92) (by decide) (by decide) k) ?_
            show own_E p e below _ T1 (mkF m 19 #[rv a1, iv (own_n s0), iv (own_n w0), iv ((own_n i) + (1 : Int32)), iv (f i)] [])
            rw [own_ns (by omega)]
            refine ih (i + 1) _ _ _ (One.val rfl) (by omega) (by omega) hs1 hs2 X1 N1 e1 (fun j h1 h2 => ?_)
            by_cases hji : j = i
            · subst hji; simp [own_ok, hc3, hc4, hc11]
            · exact I j h1 (by omega)
      · refine own_st (fun t k => XS.icmpNo X1.here hx rfl (hb hby own_d_prog_34_method_3_35) rfl (flt hc3).1 k) ?_
        show own_E p e below _ T1 (mkF m 38 #[rv a1, iv (own_n s0), iv (own_n w0), iv (own_n i), iv (f i)] [])
        refine own_st (fun t k => XS.iload X1.here hx rfl (hb hby own_d_prog_34_method_3_38) rfl k) ?_
        show own_E p e below _ T1 (mkF m 40 #[rv a1, iv (own_n s0), iv (own_n w0), iv (own_n i), iv (f i)] [.int (f i)])
        refine own_st (fun t k => XS.bipush X1.here hx rfl (hb hby own_d_prog_34_method_3_40) k) ?_
        show own_E p e below _ T1 (mkF m 42 #[rv a1, iv (own_n s0), iv (own_n w0), iv (own_n i), iv (f i)] [.int 90, .int (f i)])
        by_cases hc18 : (90 : Int32) < (f i)
        · refine own_st (fun t k => XS.icmpNo X1.here hx rfl (hb hby own_d_prog_34_method_3_42) rfl (tlt hc18).2.2.2 k) ?_
          show own_E p e below _ T1 (mkF m 45 #[rv a1, iv (own_n s0), iv (own_n w0), iv (own_n i), iv (f i)] [])
          refine own_st (fun t k => XS.iload X1.here hx rfl (hb hby own_d_prog_34_method_3_45) rfl k) ?_
          show own_E p e below _ T1 (mkF m 47 #[rv a1, iv (own_n s0), iv (own_n w0), iv (own_n i), iv (f i)] [.int (f i)])
          refine own_st (fun t k => XS.bipush X1.here hx rfl (hb hby own_d_prog_34_method_3_47) k) ?_
          show own_E p e below _ T1 (mkF m 49 #[rv a1, iv (own_n s0), iv (own_n w0), iv (own_n i), iv (f i)] [.int 97, .int (f i)])
          by_cases hc19 : (f i) < (97 : Int32)
          · refine own_st (fun t k => XS.icmpYes X1.here hx rfl (pc0 := 49) (pc' := 59) rfl (hb hby own_d_prog_34_method_3_49) rfl (tlt hc19).1 (by decide) (by decide) k) ?_
            show own_E p e below _ T1 (mkF m 59 #[rv a1, iv (own_n s0), iv (own_n w0), iv (own_n i), iv (f i)] [])
            refine own_st (fun t k => XS.iload X1.here hx rfl (hb hby own_d_prog_34_method_3_59) rfl k) ?_
            show own_E p e below _ T1 (mkF m 61 #[rv a1, iv (own_n s0), iv (own_n w0), iv (own_n i), iv (f i)] [.int (f i)])
            refine own_st (fun t k => XS.bipush X1.here hx rfl (hb hby own_d_prog_34_method_3_61) k) ?_
            show own_E p e below _ T1 (mkF m 63 #[rv a1, iv (own_n s0), iv (own_n w0), iv (own_n i), iv (f i)] [.int 48, .int (f i)])
            by_cases hc20 : (f i) < (48 : Int32)
            · refine own_st (fun t k => XS.icmpYes X1.here hx rfl (pc0 := 63) (pc' := 73) rfl (hb hby own_d_prog_34_method_3_63) rfl (tlt hc20).1 (by decide) (by decide) k) ?_
              show own_E p e below _ T1 (mkF m 73 #[rv a1, iv (own_n s0), iv (own_n w0), iv (own_n i), iv (f i)] [])
              refine own_st (fun t k => XS.iload X1.here hx rfl (hb hby own_d_prog_34_method_3_73) rfl k) ?_
              show own_E p e below _ T1 (mkF m 75 #[rv a1, iv (own_n s0), iv (own_n w0), iv (own_n i), iv (f i)] [.int (f i)])
              refine own_st (fun t k => XS.bipush X1.here hx rfl (hb hby own_d_prog_34_method_3_75) k) ?_
              show own_E p e below _ T1 (mkF m 77 #[rv a1, iv (own_n s0), iv (own_n w0), iv (own_n i), iv (f i)] [.int 45, .int (f i)])
              by_cases hc21 : (f i) = (45 : Int32)
              · refine own_st (fun t k => XS.icmpYes X1.here hx rfl (pc0 := 77) (pc' := 89) rfl (hb hby own_d_prog_34_method_3_77) rfl (teq hc21).1 (by decide) (by decide) k) ?_
                show own_E p e below _ T1 (mkF m 89 #[rv a1, iv (own_n s0), iv (own_n w0), iv (own_n i), iv (f i)] [])
                refine own_st (fun t k => XS.iinc X1.here hx rfl (hb hby own_d_prog_34_method_3_89) rfl (l' := #[rv a1, iv (own_n s0), iv (own_n w0), iv ((own_n i) + (1 : Int32)), iv (f i)]) rfl k) ?_
                show own_E p e below _ T1 (mkF m 92 #[rv a1, iv (own_n s0), iv (own_n w0), iv ((own_n i) + (1 : Int32)), iv (f i)] [])
                refine own_st (fun t k => XS.goto X1.here hx rfl (pc0 := 92) (pc' := 19) rfl (hb hby own_d_prog_34_method_3_92) (by decide) (by decide) k) ?_
                show own_E p e below _ T1 (mkF m 19 #[rv a1, iv (own_n s0), iv (own_n w0), iv ((own_n i) + (1 : Int32)), iv (f i)] [])
                rw [own_ns (by omega)]
                refine ih (i + 1) _ _ _ (One.val rfl) (by omega) (by omega) hs1 hs2 X1 N1 e1 (fun j h1 h2 => ?_)
                by_cases hji : j = i
                · subst hji; simp [own_ok, hc3, hc18, hc19, hc20, hc21]
                · exact I j h1 (by omega)
              · refine own_st (fun t k => XS.icmpNo X1.here hx rfl (hb hby own_d_prog_34_method_3_77) rfl (feq hc21).1 k) ?_
                show own_E p e below _ T1 (mkF m 80 #[rv a1, iv (own_n s0), iv (own_n w0), iv (own_n i), iv (f i)] [])
                refine own_st (fun t k => XS.iload X1.here hx rfl (hb hby own_d_prog_34_method_3_80) rfl k) ?_
                show own_E p e below _ T1 (mkF m 82 #[rv a1, iv (own_n s0), iv (own_n w0), iv (own_n i), iv (f i)] [.int (f i)])
                refine own_st (fun t k => XS.bipush X1.here hx rfl (hb hby own_d_prog_34_method_3_82) k) ?_
                show own_E p e below _ T1 (mkF m 84 #[rv a1, iv (own_n s0), iv (own_n w0), iv (own_n i), iv (f i)] [.int 46, .int (f i)])
                by_cases hc22 : (f i) = (46 : Int32)
                · refine own_st (fun t k => XS.icmpYes X1.here hx rfl (pc0 := 84) (pc' := 89) rfl (hb hby own_d_prog_34_method_3_84) rfl (teq hc22).1 (by decide) (by decide) k) ?_
                  show own_E p e below _ T1 (mkF m 89 #[rv a1, iv (own_n s0), iv (own_n w0), iv (own_n i), iv (f i)] [])
                  refine own_st (fun t k => XS.iinc X1.here hx rfl (hb hby own_d_prog_34_method_3_89) rfl (l' := #[rv a1, iv (own_n s0), iv (own_n w0), iv ((own_n i) + (1 : Int32)), iv (f i)]) rfl k) ?_
                  show own_E p e below _ T1 (mkF m 92 #[rv a1, iv (own_n s0), iv (own_n w0), iv ((own_n i) + (1 : Int32)), iv (f i)] [])
                  refine own_st (fun t k => XS.goto X1.here hx rfl (pc0 := 92) (pc' := 19) rfl (hb hby own_d_prog_34_method_3_92) (by decide) (by decide) k) ?_
                  show own_E p e below _ T1 (mkF m 19 #[rv a1, iv (own_n s0), iv (own_n w0), iv ((own_n i) + (1 : Int32)), iv (f i)] [])
                  rw [own_ns (by omega)]
                  refine ih (i + 1) _ _ _ (One.val rfl) (by omega) (by omega) hs1 hs2 X1 N1 e1 (fun j h1 h2 => ?_)
                  by_cases hji : j = i
                  · subst hji; simp [own_ok, hc3, hc18, hc19, hc20, hc21, hc22]
                  · exact I j h1 (by omega)
                · refine own_st (fun t k => XS.icmpNo X1.here hx rfl (hb hby own_d_prog_34_method_3_84) rfl (feq hc22).1 k) ?_
                  show own_E p e below _ T1 (mkF m 87 #[rv a1, iv (own_n s0), iv (own_n w0), iv (own_n i), iv (f i)] [])
                  refine own_st (fun t k => XS.iconst X1.here hx rfl (hb hby own_d_prog_34_method_3_87) k) ?_
                  show own_E p e below _ T1 (mkF m 88 #[rv a1, iv (own_n s0), iv (own_n w0), iv (own_n i), iv (f i)] [.int 0])
                  refine own_retS X1 hx Bd.notSynchronized Bd.returns rfl (by decide) (hb hby own_d_prog_34_method_3_88) (by decide) (by decide) ?_
                  show own_iv_Q f s0 w0 h0 n0 _ T1.heap _
                  exact ⟨Or.inr ⟨rfl, fun q => absurd (q.2.2 i hsi hi) (by simp [own_ok, hc3, hc18, hc19, hc20, hc21, hc22])⟩, e1, N1⟩
            · refine own_st (fun t k => XS.icmpNo X1.here hx rfl (hb hby own_d_prog_34_method_3_63) rfl (flt hc20).1 k) ?_
              show own_E p e below _ T1 (mkF m 66 #[rv a1, iv (own_n s0), iv (own_n w0), iv (own_n i), iv (f i)] [])
              refine own_st (fun t k => XS.iload X1.here hx rfl (hb hby own_d_prog_34_method_3_66) rfl k) ?_
              show own_E p e below _ T1 (mkF m 68 #[rv a1, iv (own_n s0), iv (own_n w0), iv (own_n i), iv (f i)] [.int (f i)])
              refine own_st (fun t k => XS.bipush X1.here hx rfl (hb hby own_d_prog_34_method_3_68) k) ?_
              show own_E p e below _ T1 (mkF m 70 #[rv a1, iv (own_n s0), iv (own_n w0), iv (own_n i), iv (f i)] [.int 57, .int (f i)])
              by_cases hc23 : (57 : Int32) < (f i)
              · refine own_st (fun t k => XS.icmpNo X1.here hx rfl (hb hby own_d_prog_34_method_3_70) rfl (tlt hc23).2.2.2 k) ?_
                show own_E p e below _ T1 (mkF m 73 #[rv a1, iv (own_n s0), iv (own_n w0), iv (own_n i), iv (f i)] [])
                refine own_st (fun t k => XS.iload X1.here hx rfl (hb hby own_d_prog_34_method_3_73) rfl k) ?_
                show own_E p e below _ T1 (mkF m 75 #[rv a1, iv (own_n s0), iv (own_n w0), iv (own_n i), iv (f i)] [.int (f i)])
                refine own_st (fun t k => XS.bipush X1.here hx rfl (hb hby own_d_prog_34_method_3_75) k) ?_
                show own_E p e below _ T1 (mkF m 77 #[rv a1, iv (own_n s0), iv (own_n w0), iv (own_n i), iv (f i)] [.int 45, .int (f i)])
                by_cases hc24 : (f i) = (45 : Int32)
                · refine own_st (fun t k => XS.icmpYes X1.here hx rfl (pc0 := 77) (pc' := 89) rfl (hb hby own_d_prog_34_method_3_77) rfl (teq hc24).1 (by decide) (by decide) k) ?_
                  show own_E p e below _ T1 (mkF m 89 #[rv a1, iv (own_n s0), iv (own_n w0), iv (own_n i), iv (f i)] [])
                  refine own_st (fun t k => XS.iinc X1.here hx rfl (hb hby own_d_prog_34_method_3_89) rfl (l' := #[rv a1, iv (own_n s0), iv (own_n w0), iv ((own_n i) + (1 : Int32)), iv (f i)]) rfl k) ?_
                  show own_E p e below _ T1 (mkF m 92 #[rv a1, iv (own_n s0), iv (own_n w0), iv ((own_n i) + (1 : Int32)), iv (f i)] [])
                  refine own_st (fun t k => XS.goto X1.here hx rfl (pc0 := 92) (pc' := 19) rfl (hb hby own_d_prog_34_method_3_92) (by decide) (by decide) k) ?_
                  show own_E p e below _ T1 (mkF m 19 #[rv a1, iv (own_n s0), iv (own_n w0), iv ((own_n i) + (1 : Int32)), iv (f i)] [])
                  rw [own_ns (by omega)]
                  refine ih (i + 1) _ _ _ (One.val rfl) (by omega) (by omega) hs1 hs2 X1 N1 e1 (fun j h1 h2 => ?_)
                  by_cases hji : j = i
                  · subst hji; simp [own_ok, hc3, hc18, hc19, hc20, hc23, hc24]
                  · exact I j h1 (by omega)
                · refine own_st (fun t k => XS.icmpNo X1.here hx rfl (hb hby own_d_prog_34_method_3_77) rfl (feq hc24).1 k) ?_
                  show own_E p e below _ T1 (mkF m 80 #[rv a1, iv (own_n s0), iv (own_n w0), iv (own_n i), iv (f i)] [])
                  refine own_st (fun t k => XS.iload X1.here hx rfl (hb hby own_d_prog_34_method_3_80) rfl k) ?_
                  show own_E p e below _ T1 (mkF m 82 #[rv a1, iv (own_n s0), iv (own_n w0), iv (own_n i), iv (f i)] [.int (f i)])
                  refine own_st (fun t k => XS.bipush X1.here hx rfl (hb hby own_d_prog_34_method_3_82) k) ?_
                  show own_E p e below _ T1 (mkF m 84 #[rv a1, iv (own_n s0), iv (own_n w0), iv (own_n i), iv (f i)] [.int 46, .int (f i)])
                  by_cases hc25 : (f i) = (46 : Int32)
                  · refine own_st (fun t k => XS.icmpYes X1.here hx rfl (pc0 := 84) (pc' := 89) rfl (hb hby own_d_prog_34_method_3_84) rfl (teq hc25).1 (by decide) (by decide) k) ?_
                    show own_E p e below _ T1 (mkF m 89 #[rv a1, iv (own_n s0), iv (own_n w0), iv (own_n i), iv (f i)] [])
                    refine own_st (fun t k => XS.iinc X1.here hx rfl (hb hby own_d_prog_34_method_3_89) rfl (l' := #[rv a1, iv (own_n s0), iv (own_n w0), iv ((own_n i) + (1 : Int32)), iv (f i)]) rfl k) ?_
                    show own_E p e below _ T1 (mkF m 92 #[rv a1, iv (own_n s0), iv (own_n w0), iv ((own_n i) + (1 : Int32)), iv (f i)] [])
                    refine own_st (fun t k => XS.goto X1.here hx rfl (pc0 := 92) (pc' := 19) rfl (hb hby own_d_prog_34_method_3_92) (by decide) (by decide) k) ?_
                    show own_E p e below _ T1 (mkF m 19 #[rv a1, iv (own_n s0), iv (own_n w0), iv ((own_n i) + (1 : Int32)), iv (f i)] [])
                    rw [own_ns (by omega)]
                    refine ih (i + 1) _ _ _ (One.val rfl) (by omega) (by omega) hs1 hs2 X1 N1 e1 (fun j h1 h2 => ?_)
                    by_cases hji : j = i
                    · subst hji; simp [own_ok, hc3, hc18, hc19, hc20, hc23, hc24, hc25]
                    · exact I j h1 (by omega)
                  · refine own_st (fun t k => XS.icmpNo X1.here hx rfl (hb hby own_d_prog_34_method_3_84) rfl (feq hc25).1 k) ?_
                    show own_E p e below _ T1 (mkF m 87 #[rv a1, iv (own_n s0), iv (own_n w0), iv (own_n i), iv (f i)] [])
                    refine own_st (fun t k => XS.iconst X1.here hx rfl (hb hby own_d_prog_34_method_3_87) k) ?_
                    show own_E p e below _ T1 (mkF m 88 #[rv a1, iv (own_n s0), iv (own_n w0), iv (own_n i), iv (f i)] [.int 0])
                    refine own_retS X1 hx Bd.notSynchronized Bd.returns rfl (by decide) (hb hby own_d_prog_34_method_3_88) (by decide) (by decide) ?_
                    show own_iv_Q f s0 w0 h0 n0 _ T1.heap _
                    exact ⟨Or.inr ⟨rfl, fun q => absurd (q.2.2 i hsi hi) (by simp [own_ok, hc3, hc18, hc19, hc20, hc23, hc24, hc25])⟩, e1, N1⟩
              · refine own_st (fun t k => XS.icmpYes X1.here hx rfl (pc0 := 70) (pc' := 89) rfl (hb hby own_d_prog_34_method_3_70) rfl (flt hc23).2.2.2 (by decide) (by decide) k) ?_
                show own_E p e below _ T1 (mkF m 89 #[rv a1, iv (own_n s0), iv (own_n w0), iv (own_n i), iv (f i)] [])
                refine own_st (fun t k => XS.iinc X1.here hx rfl (hb hby own_d_prog_34_method_3_89) rfl (l' := #[rv a1, iv (own_n s0), iv (own_n w0), iv ((own_n i) + (1 : Int32)), iv (f i)]) rfl k) ?_
                show own_E p e below _ T1 (mkF m 92 #[rv a1, iv (own_n s0), iv (own_n w0), iv ((own_n i) + (1 : Int32)), iv (f i)] [])
                refine own_st (fun t k => XS.goto X1.here hx rfl (pc0 := 92) (pc' := 19) rfl (hb hby own_d_prog_34_method_3_92) (by decide) (by decide) k) ?_
                show own_E p e below _ T1 (mkF m 19 #[rv a1, iv (own_n s0), iv (own_n w0), iv ((own_n i) + (1 : Int32)), iv (f i)] [])
                rw [own_ns (by omega)]
                refine ih (i + 1) _ _ _ (One.val rfl) (by omega) (by omega) hs1 hs2 X1 N1 e1 (fun j h1 h2 => ?_)
                by_cases hji : j = i
                · subst hji; simp [own_ok, hc3, hc18, hc19, hc20, hc23]
                · exact I j h1 (by omega)
          · refine own_st (fun t k => XS.icmpNo X1.here hx rfl (hb hby own_d_prog_34_method_3_49) rfl (flt hc19).1 k) ?_
            show own_E p e below _ T1 (mkF m 52 #[rv a1, iv (own_n s0), iv (own_n w0), iv (own_n i), iv (f i)] [])
            refine own_st (fun t k => XS.iload X1.here hx rfl (hb hby own_d_prog_34_method_3_52) rfl k) ?_
            show own_E p e below _ T1 (mkF m 54 #[rv a1, iv (own_n s0), iv (own_n w0), iv (own_n i), iv (f i)] [.int (f i)])
            refine own_st (fun t k => XS.bipush X1.here hx rfl (hb hby own_d_prog_34_method_3_54) k) ?_
            show own_E p e below _ T1 (mkF m 56 #[rv a1, iv (own_n s0), iv (own_n w0), iv (own_n i), iv (f i)] [.int 122, .int (f i)])
            by_cases hc26 : (122 : Int32) < (f i)
            · refine own_st (fun t k => XS.icmpNo X1.here hx rfl (hb hby own_d_prog_34_method_3_56) rfl (tlt hc26).2.2.2 k) ?_
              show own_E p e below _ T1 (mkF m 59 #[rv a1, iv (own_n s0), iv (own_n w0), iv (own_n i), iv (f i)] [])
              refine own_st (fun t k => XS.iload X1.here hx rfl (hb hby own_d_prog_34_method_3_59) rfl k) ?_
              show own_E p e below _ T1 (mkF m 61 #[rv a1, iv (own_n s0), iv (own_n w0), iv (own_n i), iv (f i)] [.int (f i)])
              refine own_st (fun t k => XS.bipush X1.here hx rfl (hb hby own_d_prog_34_method_3_61) k) ?_
              show own_E p e below _ T1 (mkF m 63 #[rv a1, iv (own_n s0), iv (own_n w0), iv (own_n i), iv (f i)] [.int 48, .int (f i)])
              by_cases hc27 : (f i) < (48 : Int32)
              · refine own_st (fun t k => XS.icmpYes X1.here hx rfl (pc0 := 63) (pc' := 73) rfl (hb hby own_d_prog_34_method_3_63) rfl (tlt hc27).1 (by decide) (by decide) k) ?_
                show own_E p e below _ T1 (mkF m 73 #[rv a1, iv (own_n s0), iv (own_n w0), iv (own_n i), iv (f i)] [])
                refine own_st (fun t k => XS.iload X1.here hx rfl (hb hby own_d_prog_34_method_3_73) rfl k) ?_
                show own_E p e below _ T1 (mkF m 75 #[rv a1, iv (own_n s0), iv (own_n w0), iv (own_n i), iv (f i)] [.int (f i)])
                refine own_st (fun t k => XS.bipush X1.here hx rfl (hb hby own_d_prog_34_method_3_75) k) ?_
                show own_E p e below _ T1 (mkF m 77 #[rv a1, iv (own_n s0), iv (own_n w0), iv (own_n i), iv (f i)] [.int 45, .int (f i)])
                by_cases hc28 : (f i) = (45 : Int32)
                · refine own_st (fun t k => XS.icmpYes X1.here hx rfl (pc0 := 77) (pc' := 89) rfl (hb hby own_d_prog_34_method_3_77) rfl (teq hc28).1 (by decide) (by decide) k) ?_
                  show own_E p e below _ T1 (mkF m 89 #[rv a1, iv (own_n s0), iv (own_n w0), iv (own_n i), iv (f i)] [])
                  refine own_st (fun t k => XS.iinc X1.here hx rfl (hb hby own_d_prog_34_method_3_89) rfl (l' := #[rv a1, iv (own_n s0), iv (own_n w0), iv ((own_n i) + (1 : Int32)), iv (f i)]) rfl k) ?_
                  show own_E p e below _ T1 (mkF m 92 #[rv a1, iv (own_n s0), iv (own_n w0), iv ((own_n i) + (1 : Int32)), iv (f i)] [])
                  refine own_st (fun t k => XS.goto X1.here hx rfl (pc0 := 92) (pc' := 19) rfl (hb hby own_d_prog_34_method_3_92) (by decide) (by decide) k) ?_
                  show own_E p e below _ T1 (mkF m 19 #[rv a1, iv (own_n s0), iv (own_n w0), iv ((own_n i) + (1 : Int32)), iv (f i)] [])
                  rw [own_ns (by omega)]
                  refine ih (i + 1) _ _ _ (One.val rfl) (by omega) (by omega) hs1 hs2 X1 N1 e1 (fun j h1 h2 => ?_)
                  by_cases hji : j = i
                  · subst hji; simp [own_ok, hc3, hc18, hc19, hc26, hc27, hc28]
                  · exact I j h1 (by omega)
                · refine own_st (fun t k => XS.icmpNo X1.here hx rfl (hb hby own_d_prog_34_method_3_77) rfl (feq hc28).1 k) ?_
                  show own_E p e below _ T1 (mkF m 80 #[rv a1, iv (own_n s0), iv (own_n w0), iv (own_n i), iv (f i)] [])
                  refine own_st (fun t k => XS.iload X1.here hx rfl (hb hby own_d_prog_34_method_3_80) rfl k) ?_
                  show own_E p e below _ T1 (mkF m 82 #[rv a1, iv (own_n s0), iv (own_n w0), iv (own_n i), iv (f i)] [.int (f i)])
                  refine own_st (fun t k => XS.bipush X1.here hx rfl (hb hby own_d_prog_34_method_3_82) k) ?_
                  show own_E p e below _ T1 (mkF m 84 #[rv a1, iv (own_n s0), iv (own_n w0), iv (own_n i), iv (f i)] [.int 46, .int (f i)])
                  by_cases hc29 : (f i) = (46 : Int32)
                  · refine own_st (fun t k => XS.icmpYes X1.here hx rfl (pc0 := 84) (pc' := 89) rfl (hb hby own_d_prog_34_method_3_84) rfl (teq hc29).1 (by decide) (by decide) k) ?_
                    show own_E p e below _ T1 (mkF m 89 #[rv a1, iv (own_n s0), iv (own_n w0), iv (own_n i), iv (f i)] [])
                    refine own_st (fun t k => XS.iinc X1.here hx rfl (hb hby own_d_prog_34_method_3_89) rfl (l' := #[rv a1, iv (own_n s0), iv (own_n w0), iv ((own_n i) + (1 : Int32)), iv (f i)]) rfl k) ?_
                    show own_E p e below _ T1 (mkF m 92 #[rv a1, iv (own_n s0), iv (own_n w0), iv ((own_n i) + (1 : Int32)), iv (f i)] [])
                    refine own_st (fun t k => XS.goto X1.here hx rfl (pc0 := 92) (pc' := 19) rfl (hb hby own_d_prog_34_method_3_92) (by decide) (by decide) k) ?_
                    show own_E p e below _ T1 (mkF m 19 #[rv a1, iv (own_n s0), iv (own_n w0), iv ((own_n i) + (1 : Int32)), iv (f i)] [])
                    rw [own_ns (by omega)]
                    refine ih (i + 1) _ _ _ (One.val rfl) (by omega) (by omega) hs1 hs2 X1 N1 e1 (fun j h1 h2 => ?_)
                    by_cases hji : j = i
                    · subst hji; simp [own_ok, hc3, hc18, hc19, hc26, hc27, hc28, hc29]
                    · exact I j h1 (by omega)
                  · refine own_st (fun t k => XS.icmpNo X1.here hx rfl (hb hby own_d_prog_34_method_3_84) rfl (feq hc29).1 k) ?_
                    show own_E p e below _ T1 (mkF m 87 #[rv a1, iv (own_n s0), iv (own_n w0), iv (own_n i), iv (f i)] [])
                    refine own_st (fun t k => XS.iconst X1.here hx rfl (hb hby own_d_prog_34_method_3_87) k) ?_
                    show own_E p e below _ T1 (mkF m 88 #[rv a1, iv (own_n s0), iv (own_n w0), iv (own_n i), iv (f i)] [.int 0])
                    refine own_retS X1 hx Bd.notSynchronized Bd.returns rfl (by decide) (hb hby own_d_prog_34_method_3_88) (by decide) (by decide) ?_
                    show own_iv_Q f s0 w0 h0 n0 _ T1.heap _
                    exact ⟨Or.inr ⟨rfl, fun q => absurd (q.2.2 i hsi hi) (by simp [own_ok, hc3, hc18, hc19, hc26, hc27, hc28, hc29])⟩, e1, N1⟩
              · refine own_st (fun t k => XS.icmpNo X1.here hx rfl (hb hby own_d_prog_34_method_3_63) rfl (flt hc27).1 k) ?_
                show own_E p e below _ T1 (mkF m 66 #[rv a1, iv (own_n s0), iv (own_n w0), iv (own_n i), iv (f i)] [])
                refine own_st (fun t k => XS.iload X1.here hx rfl (hb hby own_d_prog_34_method_3_66) rfl k) ?_
                show own_E p e below _ T1 (mkF m 68 #[rv a1, iv (own_n s0), iv (own_n w0), iv (own_n i), iv (f i)] [.int (f i)])
                refine own_st (fun t k => XS.bipush X1.here hx rfl (hb hby own_d_prog_34_method_3_68) k) ?_
                show own_E p e below _ T1 (mkF m 70 #[rv a1, iv (own_n s0), iv (own_n w0), iv (own_n i), iv (f i)] [.int 57, .int (f i)])
                by_cases hc30 : (57 : Int32) < (f i)
                · refine own_st (fun t k => XS.icmpNo X1.here hx rfl (hb hby own_d_prog_34_method_3_70) rfl (tlt hc30).2.2.2 k) ?_
                  show own_E p e below _ T1 (mkF m 73 #[rv a1, iv (own_n s0), iv (own_n w0), iv (own_n i), iv (f i)] [])
                  refine own_st (fun t k => XS.iload X1.here hx rfl (hb hby own_d_prog_34_method_3_73) rfl k) ?_
                  show own_E p e below _ T1 (mkF m 75 #[rv a1, iv (own_n s0), iv (own_n w0), iv (own_n i), iv (f i)] [.int (f i)])
                  refine own_st (fun t k => XS.bipush X1.here hx rfl (hb hby own_d_prog_34_method_3_75) k) ?_
                  show own_E p e below _ T1 (mkF m 77 #[rv a1, iv (own_n s0), iv (own_n w0), iv (own_n i), iv (f i)] [.int 45, .int (f i)])
                  by_cases hc31 : (f i) = (45 : Int32)
                  · refine own_st (fun t k => XS.icmpYes X1.here hx rfl (pc0 := 77) (pc' := 89) rfl (hb hby own_d_prog_34_method_3_77) rfl (teq hc31).1 (by decide) (by decide) k) ?_
                    show own_E p e below _ T1 (mkF m 89 #[rv a1, iv (own_n s0), iv (own_n w0), iv (own_n i), iv (f i)] [])
                    refine own_st (fun t k => XS.iinc X1.here hx rfl (hb hby own_d_prog_34_method_3_89) rfl (l' := #[rv a1, iv (own_n s0), iv (own_n w0), iv ((own_n i) + (1 : Int32)), iv (f i)]) rfl k) ?_
                    show own_E p e below _ T1 (mkF m 92 #[rv a1, iv (own_n s0), iv (own_n w0), iv ((own_n i) + (1 : Int32)), iv (f i)] [])
                    refine own_st (fun t k => XS.goto X1.here hx rfl (pc0 := 92) (pc' := 19) rfl (hb hby own_d_prog_34_method_3_92) (by decide) (by decide) k) ?_
                    show own_E p e below _ T1 (mkF m 19 #[rv a1, iv (own_n s0), iv (own_n w0), iv ((own_n i) + (1 : Int32)), iv (f i)] [])
                    rw [own_ns (by omega)]
                    refine ih (i + 1) _ _ _ (One.val rfl) (by omega) (by omega) hs1 hs2 X1 N1 e1 (fun j h1 h2 => ?_)
                    by_cases hji : j = i
                    · subst hji; simp [own_ok, hc3, hc18, hc19, hc26, hc27, hc30, hc31]
                    · exact I j h1 (by omega)
                  · refine own_st (fun t k => XS.icmpNo X1.here hx rfl (hb hby own_d_prog_34_method_3_77) rfl (feq hc31).1 k) ?_
                    show own_E p e below _ T1 (mkF m 80 #[rv a1, iv (own_n s0), iv (own_n w0), iv (own_n i), iv (f i)] [])
                    refine own_st (fun t k => XS.iload X1.here hx rfl (hb hby own_d_prog_34_method_3_80) rfl k) ?_
                    show own_E p e below _ T1 (mkF m 82 #[rv a1, iv (own_n s0), iv (own_n w0), iv (own_n i), iv (f i)] [.int (f i)])
                    refine own_st (fun t k => XS.bipush X1.here hx rfl (hb hby own_d_prog_34_method_3_82) k) ?_
                    show own_E p e below _ T1 (mkF m 84 #[rv a1, iv (own_n s0), iv (own_n w0), iv (own_n i), iv (f i)] [.int 46, .int (f i)])
                    by_cases hc32 : (f i) = (46 : Int32)
                    · refine own_st (fun t k => XS.icmpYes X1.here hx rfl (pc0 := 84) (pc' := 89) rfl (hb hby own_d_prog_34_method_3_84) rfl (teq hc32).1 (by decide) (by decide) k) ?_
                      show own_E p e below _ T1 (mkF m 89 #[rv a1, iv (own_n s0), iv (own_n w0), iv (own_n i), iv (f i)] [])
                      refine own_st (fun t k => XS.iinc X1.here hx rfl (hb hby own_d_prog_34_method_3_89) rfl (l' := #[rv a1, iv (own_n s0), iv (own_n w0), iv ((own_n i) + (1 : Int32)), iv (f i)]) rfl k) ?_
                      show own_E p e below _ T1 (mkF m 92 #[rv a1, iv (own_n s0), iv (own_n w0), iv ((own_n i) + (1 : Int32)), iv (f i)] [])
                      refine own_st (fun t k => XS.goto X1.here hx rfl (pc0 := 92) (pc' := 19) rfl (hb hby own_d_prog_34_method_3_92) (by decide) (by decide) k) ?_
                      show own_E p e below _ T1 (mkF m 19 #[rv a1, iv (own_n s0), iv (own_n w0), iv ((own_n i) + (1 : Int32)), iv (f i)] [])
                      rw [own_ns (by omega)]
                      refine ih (i + 1) _ _ _ (One.val rfl) (by omega) (by omega) hs1 hs2 X1 N1 e1 (fun j h1 h2 => ?_)
                      by_cases hji : j = i
                      · subst hji; simp [own_ok, hc3, hc18, hc19, hc26, hc27, hc30, hc31, hc32]
                      · exact I j h1 (by omega)
                    · refine own_st (fun t k => XS.icmpNo X1.here hx rfl (hb hby own_d_prog_34_method_3_84) rfl (feq hc32).1 k) ?_
                      show own_E p e below _ T1 (mkF m 87 #[rv a1, iv (own_n s0), iv (own_n w0), iv (own_n i), iv (f i)] [])
                      refine own_st (fun t k => XS.iconst X1.here hx rfl (hb hby own_d_prog_34_method_3_87) k) ?_
                      show own_E p e below _ T1 (mkF m 88 #[rv a1, iv (own_n s0), iv (own_n w0), iv (own_n i), iv (f i)] [.int 0])
                      refine own_retS X1 hx Bd.notSynchronized Bd.returns rfl (by decide) (hb hby own_d_prog_34_method_3_88) (by decide) (by decide) ?_
                      show own_iv_Q f s0 w0 h0 n0 _ T1.heap _
                      exact ⟨Or.inr ⟨rfl, fun q => absurd (q.2.2 i hsi hi) (by simp [own_ok, hc3, hc18, hc19, hc26, hc27, hc30, hc31, hc32])⟩, e1, N1⟩
                · refine own_st (fun t k => XS.icmpYes X1.here hx rfl (pc0 := 70) (pc' := 89) rfl (hb hby own_d_prog_34_method_3_70) rfl (flt hc30).2.2.2 (by decide) (by decide) k) ?_
                  show own_E p e below _ T1 (mkF m 89 #[rv a1, iv (own_n s0), iv (own_n w0), iv (own_n i), iv (f i)] [])
                  refine own_st (fun t k => XS.iinc X1.here hx rfl (hb hby own_d_prog_34_method_3_89) rfl (l' := #[rv a1, iv (own_n s0), iv (own_n w0), iv ((own_n i) + (1 : Int32)), iv (f i)]) rfl k) ?_
                  show own_E p e below _ T1 (mkF m 92 #[rv a1, iv (own_n s0), iv (own_n w0), iv ((own_n i) + (1 : Int32)), iv (f i)] [])
                  refine own_st (fun t k => XS.goto X1.here hx rfl (pc0 := 92) (pc' := 19) rfl (hb hby own_d_prog_34_method_3_92) (by decide) (by decide) k) ?_
                  show own_E p e below _ T1 (mkF m 19 #[rv a1, iv (own_n s0), iv (own_n w0), iv ((own_n i) + (1 : Int32)), iv (f i)] [])
                  rw [own_ns (by omega)]
                  refine ih (i + 1) _ _ _ (One.val rfl) (by omega) (by omega) hs1 hs2 X1 N1 e1 (fun j h1 h2 => ?_)
                  by_cases hji : j = i
                  · subst hji; simp [own_ok, hc3, hc18, hc19, hc26, hc27, hc30]
                  · exact I j h1 (by omega)
            · refine own_st (fun t k => XS.icmpYes X1.here hx rfl (pc0 := 56) (pc' := 89) rfl (hb hby own_d_prog_34_method_3_56) rfl (flt hc26).2.2.2 (by decide) (by decide) k) ?_
              show own_E p e below _ T1 (mkF m 89 #[rv a1, iv (own_n s0), iv (own_n w0), iv (own_n i), iv (f i)] [])
              refine own_st (fun t k => XS.iinc X1.here hx rfl (hb hby own_d_prog_34_method_3_89) rfl (l' := #[rv a1, iv (own_n s0), iv (own_n w0), iv ((own_n i) + (1 : Int32)), iv (f i)]) rfl k) ?_
              show own_E p e below _ T1 (mkF m 92 #[rv a1, iv (own_n s0), iv (own_n w0), iv ((own_n i) + (1 : Int32)), iv (f i)] [])
              refine own_st (fun t k => XS.goto X1.here hx rfl (pc0 := 92) (pc' := 19) rfl (hb hby own_d_prog_34_method_3_92) (by decide) (by decide) k) ?_
              show own_E p e below _ T1 (mkF m 19 #[rv a1, iv (own_n s0), iv (own_n w0), iv ((own_n i) + (1 : Int32)), iv (f i)] [])
              rw [own_ns (by omega)]
              refine ih (i + 1) _ _ _ (One.val rfl) (by omega) (by omega) hs1 hs2 X1 N1 e1 (fun j h1 h2 => ?_)
              by_cases hji : j = i
              · subst hji; simp [own_ok, hc3, hc18, hc19, hc26]
              · exact I j h1 (by omega)
        · refine own_st (fun t k => XS.icmpYes X1.here hx rfl (pc0 := 42) (pc' := 89) rfl (hb hby own_d_prog_34_method_3_42) rfl (flt hc18).2.2.2 (by decide) (by decide) k) ?_
          show own_E p e below _ T1 (mkF m 89 #[rv a1, iv (own_n s0), iv (own_n w0), iv (own_n i), iv (f i)] [])
          refine own_st (fun t k => XS.iinc X1.here hx rfl (hb hby own_d_prog_34_method_3_89) rfl (l' := #[rv a1, iv (own_n s0), iv (own_n w0), iv ((own_n i) + (1 : Int32)), iv (f i)]) rfl k) ?_
          show own_E p e below _ T1 (mkF m 92 #[rv a1, iv (own_n s0), iv (own_n w0), iv ((own_n i) + (1 : Int32)), iv (f i)] [])
          refine own_st (fun t k => XS.goto X1.here hx rfl (pc0 := 92) (pc' := 19) rfl (hb hby own_d_prog_34_method_3_92) (by decide) (by decide) k) ?_
          show own_E p e below _ T1 (mkF m 19 #[rv a1, iv (own_n s0), iv (own_n w0), iv ((own_n i) + (1 : Int32)), iv (f i)] [])
          rw [own_ns (by omega)]
          refine ih (i + 1) _ _ _ (One.val rfl) (by omega) (by omega) hs1 hs2 X1 N1 e1 (fun j h1 h2 => ?_)
          by_cases hji : j = i
          · subst hji; simp [own_ok, hc3, hc18]
          · exact I j h1 (by omega)
  show own_E p e below _ s₁ (mkF m 0 #[rv a1, iv (own_n s0), iv (own_n w0), .unset, .unset] [])
  refine own_st (fun t k => XS.iloadN X0.here hx rfl (hb hby own_d_prog_34_method_3_0) rfl k) ?_
  show own_E p e below _ s₁ (mkF m 1 #[rv a1, iv (own_n s0), iv (own_n w0), .unset, .unset] [.int (own_n w0)])
  refine own_st (fun t k => XS.iloadN X0.here hx rfl (hb hby own_d_prog_34_method_3_1) rfl k) ?_
  show own_E p e below _ s₁ (mkF m 2 #[rv a1, iv (own_n s0), iv (own_n w0), .unset, .unset] [.int (own_n s0), .int (own_n w0)])
  refine own_st (fun t k => XS.isub X0.here hx rfl (hb hby own_d_prog_34_method_3_2) rfl k) ?_
  show own_E p e below _ s₁ (mkF m 3 #[rv a1, iv (own_n s0), iv (own_n w0), .unset, .unset] [.int ((own_n w0) - (own_n s0))])
  refine own_st (fun t k => XS.iconst X0.here hx rfl (hb hby own_d_prog_34_method_3_3) k) ?_
  show own_E p e below _ s₁ (mkF m 4 #[rv a1, iv (own_n s0), iv (own_n w0), .unset, .unset] [.int 1, .int ((own_n w0) - (own_n s0))])
  by_cases hc33 : ((own_n w0) - (own_n s0)) < (1 : Int32)
  · refine own_st (fun t k => XS.icmpYes X0.here hx rfl (pc0 := 4) (pc' := 15) rfl (hb hby own_d_prog_34_method_3_4) rfl (tlt hc33).1 (by decide) (by decide) k) ?_
    show own_E p e below _ s₁ (mkF m 15 #[rv a1, iv (own_n s0), iv (own_n w0), .unset, .unset] [])
    refine own_st (fun t k => XS.iconst X0.here hx rfl (hb hby own_d_prog_34_method_3_15) k) ?_
    show own_E p e below _ s₁ (mkF m 16 #[rv a1, iv (own_n s0), iv (own_n w0), .unset, .unset] [.int 0])
    refine own_retS X0 hx Bd.notSynchronized Bd.returns rfl (by decide) (hb hby own_d_prog_34_method_3_16) (by decide) (by decide) ?_
    show own_iv_Q f s0 w0 h0 n0 _ s₁.heap _
    exact ⟨Or.inr ⟨rfl, fun q => q.1 hc33⟩, e0, (Fr.nil n0)⟩
  · refine own_st (fun t k => XS.icmpNo X0.here hx rfl (hb hby own_d_prog_34_method_3_4) rfl (flt hc33).1 k) ?_
    show own_E p e below _ s₁ (mkF m 7 #[rv a1, iv (own_n s0), iv (own_n w0), .unset, .unset] [])
    refine own_st (fun t k => XS.iloadN X0.here hx rfl (hb hby own_d_prog_34_method_3_7) rfl k) ?_
    show own_E p e below _ s₁ (mkF m 8 #[rv a1, iv (own_n s0), iv (own_n w0), .unset, .unset] [.int (own_n w0)])
    refine own_st (fun t k => XS.iloadN X0.here hx rfl (hb hby own_d_prog_34_method_3_8) rfl k) ?_
    show own_E p e below _ s₁ (mkF m 9 #[rv a1, iv (own_n s0), iv (own_n w0), .unset, .unset] [.int (own_n s0), .int (own_n w0)])
    refine own_st (fun t k => XS.isub X0.here hx rfl (hb hby own_d_prog_34_method_3_9) rfl k) ?_
    show own_E p e below _ s₁ (mkF m 10 #[rv a1, iv (own_n s0), iv (own_n w0), .unset, .unset] [.int ((own_n w0) - (own_n s0))])
    refine own_st (fun t k => XS.bipush X0.here hx rfl (hb hby own_d_prog_34_method_3_10) k) ?_
    show own_E p e below _ s₁ (mkF m 12 #[rv a1, iv (own_n s0), iv (own_n w0), .unset, .unset] [.int 64, .int ((own_n w0) - (own_n s0))])
    by_cases hc34 : (64 : Int32) < ((own_n w0) - (own_n s0))
    · refine own_st (fun t k => XS.icmpNo X0.here hx rfl (hb hby own_d_prog_34_method_3_12) rfl (tlt hc34).2.2.2 k) ?_
      show own_E p e below _ s₁ (mkF m 15 #[rv a1, iv (own_n s0), iv (own_n w0), .unset, .unset] [])
      refine own_st (fun t k => XS.iconst X0.here hx rfl (hb hby own_d_prog_34_method_3_15) k) ?_
      show own_E p e below _ s₁ (mkF m 16 #[rv a1, iv (own_n s0), iv (own_n w0), .unset, .unset] [.int 0])
      refine own_retS X0 hx Bd.notSynchronized Bd.returns rfl (by decide) (hb hby own_d_prog_34_method_3_16) (by decide) (by decide) ?_
      show own_iv_Q f s0 w0 h0 n0 _ s₁.heap _
      exact ⟨Or.inr ⟨rfl, fun q => q.2.1 hc34⟩, e0, (Fr.nil n0)⟩
    · refine own_st (fun t k => XS.icmpYes X0.here hx rfl (pc0 := 12) (pc' := 17) rfl (hb hby own_d_prog_34_method_3_12) rfl (flt hc34).2.2.2 (by decide) (by decide) k) ?_
      show own_E p e below _ s₁ (mkF m 17 #[rv a1, iv (own_n s0), iv (own_n w0), .unset, .unset] [])
      refine own_st (fun t k => XS.iloadN X0.here hx rfl (hb hby own_d_prog_34_method_3_17) rfl k) ?_
      show own_E p e below _ s₁ (mkF m 18 #[rv a1, iv (own_n s0), iv (own_n w0), .unset, .unset] [.int (own_n s0)])
      refine own_st (fun t k => XS.istoreN X0.here hx rfl (hb hby own_d_prog_34_method_3_18) rfl (l' := #[rv a1, iv (own_n s0), iv (own_n w0), iv (own_n s0), .unset]) rfl k) ?_
      show own_E p e below _ s₁ (mkF m 19 #[rv a1, iv (own_n s0), iv (own_n w0), iv (own_n s0), .unset] [])
      have hse := own_sub1 hs0 he0 hc33
      exact loop (w0 - s0) s0 _ _ _ One.u (by omega) (Nat.le_refl _) hc33 hc34 X0 (Fr.nil n0) e0 (fun j q1 q2 => absurd q1 (by omega))
def own_id_Q (x : Int32) (h0 : Heap) (v : Option Value) (h : Heap) (L : List Loc) : Prop := (v = some (.int (1 : Int32)) ∧ own_ok x ∨ v = some (.int (0 : Int32)) ∧ ¬ own_ok x) ∧ h = h0 ∧ L = []
theorem own_d_method_4_0 : decode method_4_code 0 = .ok (.iload_n 0, 1) := by decide +kernel
theorem own_d_method_4_1 : decode method_4_code 1 = .ok (.bipush 48, 2) := by decide +kernel
theorem own_d_method_4_3 : decode method_4_code 3 = .ok (.if_icmp .lt 11, 3) := by decide +kernel
theorem own_d_method_4_14 : decode method_4_code 14 = .ok (.iload_n 0, 1) := by decide +kernel
theorem own_d_method_4_15 : decode method_4_code 15 = .ok (.bipush 65, 2) := by decide +kernel
theorem own_d_method_4_17 : decode method_4_code 17 = .ok (.if_icmp .lt 11, 3) := by decide +kernel
theorem own_d_method_4_28 : decode method_4_code 28 = .ok (.iload_n 0, 1) := by decide +kernel
theorem own_d_method_4_29 : decode method_4_code 29 = .ok (.bipush 97, 2) := by decide +kernel
theorem own_d_method_4_31 : decode method_4_code 31 = .ok (.if_icmp .lt 11, 3) := by decide +kernel
theorem own_d_method_4_42 : decode method_4_code 42 = .ok (.iload_n 0, 1) := by decide +kernel
theorem own_d_method_4_43 : decode method_4_code 43 = .ok (.bipush 45, 2) := by decide +kernel
theorem own_d_method_4_45 : decode method_4_code 45 = .ok (.if_icmp .eq 9, 3) := by decide +kernel
theorem own_d_method_4_54 : decode method_4_code 54 = .ok (.iconst 1, 1) := by decide +kernel
theorem own_d_method_4_55 : decode method_4_code 55 = .ok (.goto 4, 3) := by decide +kernel
theorem own_d_method_4_59 : decode method_4_code 59 = .ok (.ireturn, 1) := by decide +kernel
theorem own_d_method_4_48 : decode method_4_code 48 = .ok (.iload_n 0, 1) := by decide +kernel
theorem own_d_method_4_49 : decode method_4_code 49 = .ok (.bipush 46, 2) := by decide +kernel
theorem own_d_method_4_51 : decode method_4_code 51 = .ok (.if_icmp .ne 7, 3) := by decide +kernel
theorem own_d_method_4_58 : decode method_4_code 58 = .ok (.iconst 0, 1) := by decide +kernel
theorem own_d_method_4_34 : decode method_4_code 34 = .ok (.iload_n 0, 1) := by decide +kernel
theorem own_d_method_4_35 : decode method_4_code 35 = .ok (.bipush 122, 2) := by decide +kernel
theorem own_d_method_4_37 : decode method_4_code 37 = .ok (.if_icmp .gt 5, 3) := by decide +kernel
theorem own_d_method_4_40 : decode method_4_code 40 = .ok (.iconst 1, 1) := by decide +kernel
theorem own_d_method_4_41 : decode method_4_code 41 = .ok (.ireturn, 1) := by decide +kernel
theorem own_d_method_4_20 : decode method_4_code 20 = .ok (.iload_n 0, 1) := by decide +kernel
theorem own_d_method_4_21 : decode method_4_code 21 = .ok (.bipush 90, 2) := by decide +kernel
theorem own_d_method_4_23 : decode method_4_code 23 = .ok (.if_icmp .gt 5, 3) := by decide +kernel
theorem own_d_method_4_26 : decode method_4_code 26 = .ok (.iconst 1, 1) := by decide +kernel
theorem own_d_method_4_27 : decode method_4_code 27 = .ok (.ireturn, 1) := by decide +kernel
theorem own_d_method_4_6 : decode method_4_code 6 = .ok (.iload_n 0, 1) := by decide +kernel
theorem own_d_method_4_7 : decode method_4_code 7 = .ok (.bipush 57, 2) := by decide +kernel
theorem own_d_method_4_9 : decode method_4_code 9 = .ok (.if_icmp .gt 5, 3) := by decide +kernel
theorem own_d_method_4_12 : decode method_4_code 12 = .ok (.iconst 1, 1) := by decide +kernel
theorem own_d_method_4_13 : decode method_4_code 13 = .ok (.ireturn, 1) := by decide +kernel
abbrev own_y19 : MethodName := ⟨"com/example/brazier/brazier/fhir/ResourceIdIsValidPinLaw", "idChar", "(C)Z"⟩
theorem own_pn_ResourceIdIsValidPinLaw : plainName "com/example/brazier/brazier/fhir/ResourceIdIsValidPinLaw" = true := by first | (simp [plainName, overriddenIn]; done) | decide +kernel
theorem own_id_ef (m : MethodId) (p1 : Int32) : entryFrame m #[(.int p1)] 1 = mkF m 0 #[.val (.int p1)] [] := by first | (simp [entryFrame, mkF, argsToLocals, Value.category]; done) | rfl
set_option maxRecDepth 65536 in
set_option maxHeartbeats 40000000 in
theorem own_id (l : Launch) (Z : State) (a0 : Array Value) (hw : ∀ d ∈ tables_1, d.before a0 Z = true) (ws : List Jvm.Cond) (p1 : Int32) (h0 : Heap) (n0 : Nat) (Z0 : n0 ≤ h0.size)  :
    MetFree l own_y19 (head1 (Jvm.Cond.code own_y19 method_4_code 1 (some .boolean) :: ws) ({ frames := 0, cells := 0, slots := 0, locals := 0 } : Room)) (fun a U => a = #[(.int p1)] ∧ Z.Warmed39 U.vm ∧ U.heap = h0) (fun _ _ _ _ _ => True) (fun _ U o U' => ∃ v L, o = .returned v ∧ own_id_Q p1 h0 v U'.heap L ∧ FrameEnd U o U' L ({ frames := 0, cells := 0, slots := 0, locals := 0 } : Room).cells ({ frames := 0, cells := 0, slots := 0, locals := 0 } : Room).slots) := by
  refine MetFree.of_bodySF (plainFor_of_name own_pn_ResourceIdIsValidPinLaw) hisR ?_
  intro p e s m args below meth c s₁ Bd hml0 hP hK
  obtain ⟨rfl, hZ, hh⟩ := hP
  have hx := Bd.exec
  have hby := Bd.bytes
  have hml : c.maxLocals = 1 := hml0
  have hown : s.vm.findClass "com/example/brazier/brazier/fhir/ResourceIdIsValidPinLaw" = some m.cls := findClass_of_methodNamed Bd.named
  have hnm := (name_of_methodNamed Bd.named Bd.method).1
  have X0 : Stand p l e ({ frames := 0, cells := 0, slots := 0, locals := 0 } : Room) s m #[(.int p1)] below meth c s₁ [] 0 0 := Stand.of_body Bd
  have e0 : s₁.heap = h0 := by rw [← hh, Bd.state]; rfl
  show own_E p e below (own_K (own_id_Q p1 h0) s ({ frames := 0, cells := 0, slots := 0, locals := 0 } : Room).cells ({ frames := 0, cells := 0, slots := 0, locals := 0 } : Room).slots) s₁ (entryFrame m #[(.int p1)] 1)
  refine own_pre (own_id_ef m p1) ?_
  show own_E p e below _ s₁ (mkF m 0 #[iv p1] [])
  refine own_st (fun t k => XS.iloadN X0.here hx rfl (hb hby own_d_method_4_0) rfl k) ?_
  show own_E p e below _ s₁ (mkF m 1 #[iv p1] [.int p1])
  refine own_st (fun t k => XS.bipush X0.here hx rfl (hb hby own_d_method_4_1) k) ?_
  show own_E p e below _ s₁ (mkF m 3 #[iv p1] [.int 48, .int p1])
  by_cases hc1 : p1 < (48 : Int32)
  · refine own_st (fun t k => XS.icmpYes X0.here hx rfl (pc0 := 3) (pc' := 14) rfl (hb hby own_d_method_4_3) rfl (tlt hc1).1 (by decide) (by decide) k) ?_
    show own_E p e below _ s₁ (mkF m 14 #[iv p1] [])
    refine own_st (fun t k => XS.iloadN X0.here hx rfl (hb hby own_d_method_4_14) rfl k) ?_
    show own_E p e below _ s₁ (mkF m 15 #[iv p1] [.int p1])
    refine own_st (fun t k => XS.bipush X0.here hx rfl (hb hby own_d_method_4_15) k) ?_
    show own_E p e below _ s₁ (mkF m 17 #[iv p1] [.int 65, .int p1])
    by_cases hc2 : p1 < (65 : Int32)
    · refine own_st (fun t k => XS.icmpYes X0.here hx rfl (pc0 := 17) (pc' := 28) rfl (hb hby own_d_method_4_17) rfl (tlt hc2).1 (by decide) (by decide) k) ?_
      show own_E p e below _ s₁ (mkF m 28 #[iv p1] [])
      refine own_st (fun t k => XS.iloadN X0.here hx rfl (hb hby own_d_method_4_28) rfl k) ?_
      show own_E p e below _ s₁ (mkF m 29 #[iv p1] [.int p1])
      refine own_st (fun t k => XS.bipush X0.here hx rfl (hb hby own_d_method_4_29) k) ?_
      show own_E p e below _ s₁ (mkF m 31 #[iv p1] [.int 97, .int p1])
      by_cases hc3 : p1 < (97 : Int32)
      · refine own_st (fun t k => XS.icmpYes X0.here hx rfl (pc0 := 31) (pc' := 42) rfl (hb hby own_d_method_4_31) rfl (tlt hc3).1 (by decide) (by decide) k) ?_
        show own_E p e below _ s₁ (mkF m 42 #[iv p1] [])
        refine own_st (fun t k => XS.iloadN X0.here hx rfl (hb hby own_d_method_4_42) rfl k) ?_
        show own_E p e below _ s₁ (mkF m 43 #[iv p1] [.int p1])
        refine own_st (fun t k => XS.bipush X0.here hx rfl (hb hby own_d_method_4_43) k) ?_
        show own_E p e below _ s₁ (mkF m 45 #[iv p1] [.int 45, .int p1])
        by_cases hc4 : p1 = (45 : Int32)
        · refine own_st (fun t k => XS.icmpYes X0.here hx rfl (pc0 := 45) (pc' := 54) rfl (hb hby own_d_method_4_45) rfl (teq hc4).1 (by decide) (by decide) k) ?_
          show own_E p e below _ s₁ (mkF m 54 #[iv p1] [])
          refine own_st (fun t k => XS.iconst X0.here hx rfl (hb hby own_d_method_4_54) k) ?_
          show own_E p e below _ s₁ (mkF m 55 #[iv p1] [.int 1])
          refine own_st (fun t k => XS.goto X0.here hx rfl (pc0 := 55) (pc' := 59) rfl (hb hby own_d_method_4_55) (by decide) (by decide) k) ?_
          show own_E p e below _ s₁ (mkF m 59 #[iv p1] [.int 1])
          refine own_retS X0 hx Bd.notSynchronized Bd.returns rfl (by decide) (hb hby own_d_method_4_59) (by decide) (by decide) ?_
          exact ⟨Or.inl ⟨rfl, by simp [own_ok, hc1, hc2, hc3, hc4]⟩, e0, rfl⟩
        · refine own_st (fun t k => XS.icmpNo X0.here hx rfl (hb hby own_d_method_4_45) rfl (feq hc4).1 k) ?_
          show own_E p e below _ s₁ (mkF m 48 #[iv p1] [])
          refine own_st (fun t k => XS.iloadN X0.here hx rfl (hb hby own_d_method_4_48) rfl k) ?_
          show own_E p e below _ s₁ (mkF m 49 #[iv p1] [.int p1])
          refine own_st (fun t k => XS.bipush X0.here hx rfl (hb hby own_d_method_4_49) k) ?_
          show own_E p e below _ s₁ (mkF m 51 #[iv p1] [.int 46, .int p1])
          by_cases hc5 : p1 = (46 : Int32)
          · refine own_st (fun t k => XS.icmpNo X0.here hx rfl (hb hby own_d_method_4_51) rfl (teq hc5).2 k) ?_
            show own_E p e below _ s₁ (mkF m 54 #[iv p1] [])
            refine own_st (fun t k => XS.iconst X0.here hx rfl (hb hby own_d_method_4_54) k) ?_
            show own_E p e below _ s₁ (mkF m 55 #[iv p1] [.int 1])
            refine own_st (fun t k => XS.goto X0.here hx rfl (pc0 := 55) (pc' := 59) rfl (hb hby own_d_method_4_55) (by decide) (by decide) k) ?_
            show own_E p e below _ s₁ (mkF m 59 #[iv p1] [.int 1])
            refine own_retS X0 hx Bd.notSynchronized Bd.returns rfl (by decide) (hb hby own_d_method_4_59) (by decide) (by decide) ?_
            exact ⟨Or.inl ⟨rfl, by simp [own_ok, hc1, hc2, hc3, hc4, hc5]⟩, e0, rfl⟩
          · refine own_st (fun t k => XS.icmpYes X0.here hx rfl (pc0 := 51) (pc' := 58) rfl (hb hby own_d_method_4_51) rfl (feq hc5).2 (by decide) (by decide) k) ?_
            show own_E p e below _ s₁ (mkF m 58 #[iv p1] [])
            refine own_st (fun t k => XS.iconst X0.here hx rfl (hb hby own_d_method_4_58) k) ?_
            show own_E p e below _ s₁ (mkF m 59 #[iv p1] [.int 0])
            refine own_retS X0 hx Bd.notSynchronized Bd.returns rfl (by decide) (hb hby own_d_method_4_59) (by decide) (by decide) ?_
            exact ⟨Or.inr ⟨rfl, by simp [own_ok, hc1, hc2, hc3, hc4, hc5]⟩, e0, rfl⟩
      · refine own_st (fun t k => XS.icmpNo X0.here hx rfl (hb hby own_d_method_4_31) rfl (flt hc3).1 k) ?_
        show own_E p e below _ s₁ (mkF m 34 #[iv p1] [])
        refine own_st (fun t k => XS.iloadN X0.here hx rfl (hb hby own_d_method_4_34) rfl k) ?_
        show own_E p e below _ s₁ (mkF m 35 #[iv p1] [.int p1])
        refine own_st (fun t k => XS.bipush X0.here hx rfl (hb hby own_d_method_4_35) k) ?_
        show own_E p e below _ s₁ (mkF m 37 #[iv p1] [.int 122, .int p1])
        by_cases hc6 : (122 : Int32) < p1
        · refine own_st (fun t k => XS.icmpYes X0.here hx rfl (pc0 := 37) (pc' := 42) rfl (hb hby own_d_method_4_37) rfl (tlt hc6).2.2.1 (by decide) (by decide) k) ?_
          show own_E p e below _ s₁ (mkF m 42 #[iv p1] [])
          refine own_st (fun t k => XS.iloadN X0.here hx rfl (hb hby own_d_method_4_42) rfl k) ?_
          show own_E p e below _ s₁ (mkF m 43 #[iv p1] [.int p1])
          refine own_st (fun t k => XS.bipush X0.here hx rfl (hb hby own_d_method_4_43) k) ?_
          show own_E p e below _ s₁ (mkF m 45 #[iv p1] [.int 45, .int p1])
          by_cases hc7 : p1 = (45 : Int32)
          · refine own_st (fun t k => XS.icmpYes X0.here hx rfl (pc0 := 45) (pc' := 54) rfl (hb hby own_d_method_4_45) rfl (teq hc7).1 (by decide) (by decide) k) ?_
            show own_E p e below _ s₁ (mkF m 54 #[iv p1] [])
            refine own_st (fun t k => XS.iconst X0.here hx rfl (hb hby own_d_method_4_54) k) ?_
            show own_E p e below _ s₁ (mkF m 55 #[iv p1] [.int 1])
            refine own_st (fun t k => XS.goto X0.here hx rfl (pc0 := 55) (pc' := 59) rfl (hb hby own_d_method_4_55) (by decide) (by decide) k) ?_
            show own_E p e below _ s₁ (mkF m 59 #[iv p1] [.int 1])
            refine own_retS X0 hx Bd.notSynchronized Bd.returns rfl (by decide) (hb hby own_d_method_4_59) (by decide) (by decide) ?_
            exact ⟨Or.inl ⟨rfl, by simp [own_ok, hc1, hc2, hc3, hc6, hc7]⟩, e0, rfl⟩
          · refine own_st (fun t k => XS.icmpNo X0.here hx rfl (hb hby own_d_method_4_45) rfl (feq hc7).1 k) ?_
            show own_E p e below _ s₁ (mkF m 48 #[iv p1] [])
            refine own_st (fun t k => XS.iloadN X0.here hx rfl (hb hby own_d_method_4_48) rfl k) ?_
            show own_E p e below _ s₁ (mkF m 49 #[iv p1] [.int p1])
            refine own_st (fun t k => XS.bipush X0.here hx rfl (hb hby own_d_method_4_49) k) ?_
            show own_E p e below _ s₁ (mkF m 51 #[iv p1] [.int 46, .int p1])
            by_cases hc8 : p1 = (46 : Int32)
            · refine own_st (fun t k => XS.icmpNo X0.here hx rfl (hb hby own_d_method_4_51) rfl (teq hc8).2 k) ?_
              show own_E p e below _ s₁ (mkF m 54 #[iv p1] [])
              refine own_st (fun t k => XS.iconst X0.here hx rfl (hb hby own_d_method_4_54) k) ?_
              show own_E p e below _ s₁ (mkF m 55 #[iv p1] [.int 1])
              refine own_st (fun t k => XS.goto X0.here hx rfl (pc0 := 55) (pc' := 59) rfl (hb hby own_d_method_4_55) (by decide) (by decide) k) ?_
              show own_E p e below _ s₁ (mkF m 59 #[iv p1] [.int 1])
              refine own_retS X0 hx Bd.notSynchronized Bd.returns rfl (by decide) (hb hby own_d_method_4_59) (by decide) (by decide) ?_
              exact ⟨Or.inl ⟨rfl, by simp [own_ok, hc1, hc2, hc3, hc6, hc7, hc8]⟩, e0, rfl⟩
            · refine own_st (fun t k => XS.icmpYes X0.here hx rfl (pc0 := 51) (pc' := 58) rfl (hb hby own_d_method_4_51) rfl (feq hc8).2 (by decide) (by decide) k) ?_
              show own_E p e below _ s₁ (mkF m 58 #[iv p1] [])
              refine own_st (fun t k => XS.iconst X0.here hx rfl (hb hby own_d_method_4_58) k) ?_
              show own_E p e below _ s₁ (mkF m 59 #[iv p1] [.int 0])
              refine own_retS X0 hx Bd.notSynchronized Bd.returns rfl (by decide) (hb hby own_d_method_4_59) (by decide) (by decide) ?_
              exact ⟨Or.inr ⟨rfl, by simp [own_ok, hc1, hc2, hc3, hc6, hc7, hc8]⟩, e0, rfl⟩
        · refine own_st (fun t k => XS.icmpNo X0.here hx rfl (hb hby own_d_method_4_37) rfl (flt hc6).2.2.1 k) ?_
          show own_E p e below _ s₁ (mkF m 40 #[iv p1] [])
          refine own_st (fun t k => XS.iconst X0.here hx rfl (hb hby own_d_method_4_40) k) ?_
          show own_E p e below _ s₁ (mkF m 41 #[iv p1] [.int 1])
          refine own_retS X0 hx Bd.notSynchronized Bd.returns rfl (by decide) (hb hby own_d_method_4_41) (by decide) (by decide) ?_
          exact ⟨Or.inl ⟨rfl, by simp [own_ok, hc1, hc2, hc3, hc6]⟩, e0, rfl⟩
    · refine own_st (fun t k => XS.icmpNo X0.here hx rfl (hb hby own_d_method_4_17) rfl (flt hc2).1 k) ?_
      show own_E p e below _ s₁ (mkF m 20 #[iv p1] [])
      refine own_st (fun t k => XS.iloadN X0.here hx rfl (hb hby own_d_method_4_20) rfl k) ?_
      show own_E p e below _ s₁ (mkF m 21 #[iv p1] [.int p1])
      refine own_st (fun t k => XS.bipush X0.here hx rfl (hb hby own_d_method_4_21) k) ?_
      show own_E p e below _ s₁ (mkF m 23 #[iv p1] [.int 90, .int p1])
      by_cases hc9 : (90 : Int32) < p1
      · refine own_st (fun t k => XS.icmpYes X0.here hx rfl (pc0 := 23) (pc' := 28) rfl (hb hby own_d_method_4_23) rfl (tlt hc9).2.2.1 (by decide) (by decide) k) ?_
        show own_E p e below _ s₁ (mkF m 28 #[iv p1] [])
        refine own_st (fun t k => XS.iloadN X0.here hx rfl (hb hby own_d_method_4_28) rfl k) ?_
        show own_E p e below _ s₁ (mkF m 29 #[iv p1] [.int p1])
        refine own_st (fun t k => XS.bipush X0.here hx rfl (hb hby own_d_method_4_29) k) ?_
        show own_E p e below _ s₁ (mkF m 31 #[iv p1] [.int 97, .int p1])
        by_cases hc10 : p1 < (97 : Int32)
        · refine own_st (fun t k => XS.icmpYes X0.here hx rfl (pc0 := 31) (pc' := 42) rfl (hb hby own_d_method_4_31) rfl (tlt hc10).1 (by decide) (by decide) k) ?_
          show own_E p e below _ s₁ (mkF m 42 #[iv p1] [])
          refine own_st (fun t k => XS.iloadN X0.here hx rfl (hb hby own_d_method_4_42) rfl k) ?_
          show own_E p e below _ s₁ (mkF m 43 #[iv p1] [.int p1])
          refine own_st (fun t k => XS.bipush X0.here hx rfl (hb hby own_d_method_4_43) k) ?_
          show own_E p e below _ s₁ (mkF m 45 #[iv p1] [.int 45, .int p1])
          by_cases hc11 : p1 = (45 : Int32)
          · refine own_st (fun t k => XS.icmpYes X0.here hx rfl (pc0 := 45) (pc' := 54) rfl (hb hby own_d_method_4_45) rfl (teq hc11).1 (by decide) (by decide) k) ?_
            show own_E p e below _ s₁ (mkF m 54 #[iv p1] [])
            refine own_st (fun t k => XS.iconst X0.here hx rfl (hb hby own_d_method_4_54) k) ?_
            show own_E p e below _ s₁ (mkF m 55 #[iv p1] [.int 1])
            refine own_st (fun t k => XS.goto X0.here hx rfl (pc0 := 55) (pc' := 59) rfl (hb hby own_d_method_4_55) (by decide) (by decide) k) ?_
            show own_E p e below _ s₁ (mkF m 59 #[iv p1] [.int 1])
            refine own_retS X0 hx Bd.notSynchronized Bd.returns rfl (by decide) (hb hby own_d_method_4_59) (by decide) (by decide) ?_
            exact ⟨Or.inl ⟨rfl, by simp [own_ok, hc1, hc2, hc9, hc10, hc11]⟩, e0, rfl⟩
          · refine own_st (fun t k => XS.icmpNo X0.here hx rfl (hb hby own_d_method_4_45) rfl (feq hc11).1 k) ?_
            show own_E p e below _ s₁ (mkF m 48 #[iv p1] [])
            refine own_st (fun t k => XS.iloadN X0.here hx rfl (hb hby own_d_method_4_48) rfl k) ?_
            show own_E p e below _ s₁ (mkF m 49 #[iv p1] [.int p1])
            refine own_st (fun t k => XS.bipush X0.here hx rfl (hb hby own_d_method_4_49) k) ?_
            show own_E p e below _ s₁ (mkF m 51 #[iv p1] [.int 46, .int p1])
            by_cases hc12 : p1 = (46 : Int32)
            · refine own_st (fun t k => XS.icmpNo X0.here hx rfl (hb hby own_d_method_4_51) rfl (teq hc12).2 k) ?_
              show own_E p e below _ s₁ (mkF m 54 #[iv p1] [])
              refine own_st (fun t k => XS.iconst X0.here hx rfl (hb hby own_d_method_4_54) k) ?_
              show own_E p e below _ s₁ (mkF m 55 #[iv p1] [.int 1])
              refine own_st (fun t k => XS.goto X0.here hx rfl (pc0 := 55) (pc' := 59) rfl (hb hby own_d_method_4_55) (by decide) (by decide) k) ?_
              show own_E p e below _ s₁ (mkF m 59 #[iv p1] [.int 1])
              refine own_retS X0 hx Bd.notSynchronized Bd.returns rfl (by decide) (hb hby own_d_method_4_59) (by decide) (by decide) ?_
              exact ⟨Or.inl ⟨rfl, by simp [own_ok, hc1, hc2, hc9, hc10, hc11, hc12]⟩, e0, rfl⟩
            · refine own_st (fun t k => XS.icmpYes X0.here hx rfl (pc0 := 51) (pc' := 58) rfl (hb hby own_d_method_4_51) rfl (feq hc12).2 (by decide) (by decide) k) ?_
              show own_E p e below _ s₁ (mkF m 58 #[iv p1] [])
              refine own_st (fun t k => XS.iconst X0.here hx rfl (hb hby own_d_method_4_58) k) ?_
              show own_E p e below _ s₁ (mkF m 59 #[iv p1] [.int 0])
              refine own_retS X0 hx Bd.notSynchronized Bd.returns rfl (by decide) (hb hby own_d_method_4_59) (by decide) (by decide) ?_
              exact ⟨Or.inr ⟨rfl, by simp [own_ok, hc1, hc2, hc9, hc10, hc11, hc12]⟩, e0, rfl⟩
        · refine own_st (fun t k => XS.icmpNo X0.here hx rfl (hb hby own_d_method_4_31) rfl (flt hc10).1 k) ?_
          show own_E p e below _ s₁ (mkF m 34 #[iv p1] [])
          refine own_st (fun t k => XS.iloadN X0.here hx rfl (hb hby own_d_method_4_34) rfl k) ?_
          show own_E p e below _ s₁ (mkF m 35 #[iv p1] [.int p1])
          refine own_st (fun t k => XS.bipush X0.here hx rfl (hb hby own_d_method_4_35) k) ?_
          show own_E p e below _ s₁ (mkF m 37 #[iv p1] [.int 122, .int p1])
          by_cases hc13 : (122 : Int32) < p1
          · refine own_st (fun t k => XS.icmpYes X0.here hx rfl (pc0 := 37) (pc' := 42) rfl (hb hby own_d_method_4_37) rfl (tlt hc13).2.2.1 (by decide) (by decide) k) ?_
            show own_E p e below _ s₁ (mkF m 42 #[iv p1] [])
            refine own_st (fun t k => XS.iloadN X0.here hx rfl (hb hby own_d_method_4_42) rfl k) ?_
            show own_E p e below _ s₁ (mkF m 43 #[iv p1] [.int p1])
            refine own_st (fun t k => XS.bipush X0.here hx rfl (hb hby own_d_method_4_43) k) ?_
            show own_E p e below _ s₁ (mkF m 45 #[iv p1] [.int 45, .int p1])
            by_cases hc14 : p1 = (45 : Int32)
            · refine own_st (fun t k => XS.icmpYes X0.here hx rfl (pc0 := 45) (pc' := 54) rfl (hb hby own_d_method_4_45) rfl (teq hc14).1 (by decide) (by decide) k) ?_
              show own_E p e below _ s₁ (mkF m 54 #[iv p1] [])
              refine own_st (fun t k => XS.iconst X0.here hx rfl (hb hby own_d_method_4_54) k) ?_
              show own_E p e below _ s₁ (mkF m 55 #[iv p1] [.int 1])
              refine own_st (fun t k => XS.goto X0.here hx rfl (pc0 := 55) (pc' := 59) rfl (hb hby own_d_method_4_55) (by decide) (by decide) k) ?_
              show own_E p e below _ s₁ (mkF m 59 #[iv p1] [.int 1])
              refine own_retS X0 hx Bd.notSynchronized Bd.returns rfl (by decide) (hb hby own_d_method_4_59) (by decide) (by decide) ?_
              exact ⟨Or.inl ⟨rfl, by simp [own_ok, hc1, hc2, hc9, hc10, hc13, hc14]⟩, e0, rfl⟩
            · refine own_st (fun t k => XS.icmpNo X0.here hx rfl (hb hby own_d_method_4_45) rfl (feq hc14).1 k) ?_
              show own_E p e below _ s₁ (mkF m 48 #[iv p1] [])
              refine own_st (fun t k => XS.iloadN X0.here hx rfl (hb hby own_d_method_4_48) rfl k) ?_
              show own_E p e below _ s₁ (mkF m 49 #[iv p1] [.int p1])
              refine own_st (fun t k => XS.bipush X0.here hx rfl (hb hby own_d_method_4_49) k) ?_
              show own_E p e below _ s₁ (mkF m 51 #[iv p1] [.int 46, .int p1])
              by_cases hc15 : p1 = (46 : Int32)
              · refine own_st (fun t k => XS.icmpNo X0.here hx rfl (hb hby own_d_method_4_51) rfl (teq hc15).2 k) ?_
                show own_E p e below _ s₁ (mkF m 54 #[iv p1] [])
                refine own_st (fun t k => XS.iconst X0.here hx rfl (hb hby own_d_method_4_54) k) ?_
                show own_E p e below _ s₁ (mkF m 55 #[iv p1] [.int 1])
                refine own_st (fun t k => XS.goto X0.here hx rfl (pc0 := 55) (pc' := 59) rfl (hb hby own_d_method_4_55) (by decide) (by decide) k) ?_
                show own_E p e below _ s₁ (mkF m 59 #[iv p1] [.int 1])
                refine own_retS X0 hx Bd.notSynchronized Bd.returns rfl (by decide) (hb hby own_d_method_4_59) (by decide) (by decide) ?_
                exact ⟨Or.inl ⟨rfl, by simp [own_ok, hc1, hc2, hc9, hc10, hc13, hc14, hc15]⟩, e0, rfl⟩
              · refine own_st (fun t k => XS.icmpYes X0.here hx rfl (pc0 := 51) (pc' := 58) rfl (hb hby own_d_method_4_51) rfl (feq hc15).2 (by decide) (by decide) k) ?_
                show own_E p e below _ s₁ (mkF m 58 #[iv p1] [])
                refine own_st (fun t k => XS.iconst X0.here hx rfl (hb hby own_d_method_4_58) k) ?_
                show own_E p e below _ s₁ (mkF m 59 #[iv p1] [.int 0])
                refine own_retS X0 hx Bd.notSynchronized Bd.returns rfl (by decide) (hb hby own_d_method_4_59) (by decide) (by decide) ?_
                exact ⟨Or.inr ⟨rfl, by simp [own_ok, hc1, hc2, hc9, hc10, hc13, hc14, hc15]⟩, e0, rfl⟩
          · refine own_st (fun t k => XS.icmpNo X0.here hx rfl (hb hby own_d_method_4_37) rfl (flt hc13).2.2.1 k) ?_
            show own_E p e below _ s₁ (mkF m 40 #[iv p1] [])
            refine own_st (fun t k => XS.iconst X0.here hx rfl (hb hby own_d_method_4_40) k) ?_
            show own_E p e below _ s₁ (mkF m 41 #[iv p1] [.int 1])
            refine own_retS X0 hx Bd.notSynchronized Bd.returns rfl (by decide) (hb hby own_d_method_4_41) (by decide) (by decide) ?_
            exact ⟨Or.inl ⟨rfl, by simp [own_ok, hc1, hc2, hc9, hc10, hc13]⟩, e0, rfl⟩
      · refine own_st (fun t k => XS.icmpNo X0.here hx rfl (hb hby own_d_method_4_23) rfl (flt hc9).2.2.1 k) ?_
        show own_E p e below _ s₁ (mkF m 26 #[iv p1] [])
        refine own_st (fun t k => XS.iconst X0.here hx rfl (hb hby own_d_method_4_26) k) ?_
        show own_E p e below _ s₁ (mkF m 27 #[iv p1] [.int 1])
        refine own_retS X0 hx Bd.notSynchronized Bd.returns rfl (by decide) (hb hby own_d_method_4_27) (by decide) (by decide) ?_
        exact ⟨Or.inl ⟨rfl, by simp [own_ok, hc1, hc2, hc9]⟩, e0, rfl⟩
  · refine own_st (fun t k => XS.icmpNo X0.here hx rfl (hb hby own_d_method_4_3) rfl (flt hc1).1 k) ?_
    show own_E p e below _ s₁ (mkF m 6 #[iv p1] [])
    refine own_st (fun t k => XS.iloadN X0.here hx rfl (hb hby own_d_method_4_6) rfl k) ?_
    show own_E p e below _ s₁ (mkF m 7 #[iv p1] [.int p1])
    refine own_st (fun t k => XS.bipush X0.here hx rfl (hb hby own_d_method_4_7) k) ?_
    show own_E p e below _ s₁ (mkF m 9 #[iv p1] [.int 57, .int p1])
    by_cases hc16 : (57 : Int32) < p1
    · refine own_st (fun t k => XS.icmpYes X0.here hx rfl (pc0 := 9) (pc' := 14) rfl (hb hby own_d_method_4_9) rfl (tlt hc16).2.2.1 (by decide) (by decide) k) ?_
      show own_E p e below _ s₁ (mkF m 14 #[iv p1] [])
      refine own_st (fun t k => XS.iloadN X0.here hx rfl (hb hby own_d_method_4_14) rfl k) ?_
      show own_E p e below _ s₁ (mkF m 15 #[iv p1] [.int p1])
      refine own_st (fun t k => XS.bipush X0.here hx rfl (hb hby own_d_method_4_15) k) ?_
      show own_E p e below _ s₁ (mkF m 17 #[iv p1] [.int 65, .int p1])
      by_cases hc17 : p1 < (65 : Int32)
      · refine own_st (fun t k => XS.icmpYes X0.here hx rfl (pc0 := 17) (pc' := 28) rfl (hb hby own_d_method_4_17) rfl (tlt hc17).1 (by decide) (by decide) k) ?_
        show own_E p e below _ s₁ (mkF m 28 #[iv p1] [])
        refine own_st (fun t k => XS.iloadN X0.here hx rfl (hb hby own_d_method_4_28) rfl k) ?_
        show own_E p e below _ s₁ (mkF m 29 #[iv p1] [.int p1])
        refine own_st (fun t k => XS.bipush X0.here hx rfl (hb hby own_d_method_4_29) k) ?_
        show own_E p e below _ s₁ (mkF m 31 #[iv p1] [.int 97, .int p1])
        by_cases hc18 : p1 < (97 : Int32)
        · refine own_st (fun t k => XS.icmpYes X0.here hx rfl (pc0 := 31) (pc' := 42) rfl (hb hby own_d_method_4_31) rfl (tlt hc18).1 (by decide) (by decide) k) ?_
          show own_E p e below _ s₁ (mkF m 42 #[iv p1] [])
          refine own_st (fun t k => XS.iloadN X0.here hx rfl (hb hby own_d_method_4_42) rfl k) ?_
          show own_E p e below _ s₁ (mkF m 43 #[iv p1] [.int p1])
          refine own_st (fun t k => XS.bipush X0.here hx rfl (hb hby own_d_method_4_43) k) ?_
          show own_E p e below _ s₁ (mkF m 45 #[iv p1] [.int 45, .int p1])
          by_cases hc19 : p1 = (45 : Int32)
          · refine own_st (fun t k => XS.icmpYes X0.here hx rfl (pc0 := 45) (pc' := 54) rfl (hb hby own_d_method_4_45) rfl (teq hc19).1 (by decide) (by decide) k) ?_
            show own_E p e below _ s₁ (mkF m 54 #[iv p1] [])
            refine own_st (fun t k => XS.iconst X0.here hx rfl (hb hby own_d_method_4_54) k) ?_
            show own_E p e below _ s₁ (mkF m 55 #[iv p1] [.int 1])
            refine own_st (fun t k => XS.goto X0.here hx rfl (pc0 := 55) (pc' := 59) rfl (hb hby own_d_method_4_55) (by decide) (by decide) k) ?_
            show own_E p e below _ s₁ (mkF m 59 #[iv p1] [.int 1])
            refine own_retS X0 hx Bd.notSynchronized Bd.returns rfl (by decide) (hb hby own_d_method_4_59) (by decide) (by decide) ?_
            exact ⟨Or.inl ⟨rfl, by simp [own_ok, hc1, hc16, hc17, hc18, hc19]⟩, e0, rfl⟩
          · refine own_st (fun t k => XS.icmpNo X0.here hx rfl (hb hby own_d_method_4_45) rfl (feq hc19).1 k) ?_
            show own_E p e below _ s₁ (mkF m 48 #[iv p1] [])
            refine own_st (fun t k => XS.iloadN X0.here hx rfl (hb hby own_d_method_4_48) rfl k) ?_
            show own_E p e below _ s₁ (mkF m 49 #[iv p1] [.int p1])
            refine own_st (fun t k => XS.bipush X0.here hx rfl (hb hby own_d_method_4_49) k) ?_
            show own_E p e below _ s₁ (mkF m 51 #[iv p1] [.int 46, .int p1])
            by_cases hc20 : p1 = (46 : Int32)
            · refine own_st (fun t k => XS.icmpNo X0.here hx rfl (hb hby own_d_method_4_51) rfl (teq hc20).2 k) ?_
              show own_E p e below _ s₁ (mkF m 54 #[iv p1] [])
              refine own_st (fun t k => XS.iconst X0.here hx rfl (hb hby own_d_method_4_54) k) ?_
              show own_E p e below _ s₁ (mkF m 55 #[iv p1] [.int 1])
              refine own_st (fun t k => XS.goto X0.here hx rfl (pc0 := 55) (pc' := 59) rfl (hb hby own_d_method_4_55) (by decide) (by decide) k) ?_
              show own_E p e below _ s₁ (mkF m 59 #[iv p1] [.int 1])
              refine own_retS X0 hx Bd.notSynchronized Bd.returns rfl (by decide) (hb hby own_d_method_4_59) (by decide) (by decide) ?_
              exact ⟨Or.inl ⟨rfl, by simp [own_ok, hc1, hc16, hc17, hc18, hc19, hc20]⟩, e0, rfl⟩
            · refine own_st (fun t k => XS.icmpYes X0.here hx rfl (pc0 := 51) (pc' := 58) rfl (hb hby own_d_method_4_51) rfl (feq hc20).2 (by decide) (by decide) k) ?_
              show own_E p e below _ s₁ (mkF m 58 #[iv p1] [])
              refine own_st (fun t k => XS.iconst X0.here hx rfl (hb hby own_d_method_4_58) k) ?_
              show own_E p e below _ s₁ (mkF m 59 #[iv p1] [.int 0])
              refine own_retS X0 hx Bd.notSynchronized Bd.returns rfl (by decide) (hb hby own_d_method_4_59) (by decide) (by decide) ?_
              exact ⟨Or.inr ⟨rfl, by simp [own_ok, hc1, hc16, hc17, hc18, hc19, hc20]⟩, e0, rfl⟩
        · refine own_st (fun t k => XS.icmpNo X0.here hx rfl (hb hby own_d_method_4_31) rfl (flt hc18).1 k) ?_
          show own_E p e below _ s₁ (mkF m 34 #[iv p1] [])
          refine own_st (fun t k => XS.iloadN X0.here hx rfl (hb hby own_d_method_4_34) rfl k) ?_
          show own_E p e below _ s₁ (mkF m 35 #[iv p1] [.int p1])
          refine own_st (fun t k => XS.bipush X0.here hx rfl (hb hby own_d_method_4_35) k) ?_
          show own_E p e below _ s₁ (mkF m 37 #[iv p1] [.int 122, .int p1])
          by_cases hc21 : (122 : Int32) < p1
          · refine own_st (fun t k => XS.icmpYes X0.here hx rfl (pc0 := 37) (pc' := 42) rfl (hb hby own_d_method_4_37) rfl (tlt hc21).2.2.1 (by decide) (by decide) k) ?_
            show own_E p e below _ s₁ (mkF m 42 #[iv p1] [])
            refine own_st (fun t k => XS.iloadN X0.here hx rfl (hb hby own_d_method_4_42) rfl k) ?_
            show own_E p e below _ s₁ (mkF m 43 #[iv p1] [.int p1])
            refine own_st (fun t k => XS.bipush X0.here hx rfl (hb hby own_d_method_4_43) k) ?_
            show own_E p e below _ s₁ (mkF m 45 #[iv p1] [.int 45, .int p1])
            by_cases hc22 : p1 = (45 : Int32)
            · refine own_st (fun t k => XS.icmpYes X0.here hx rfl (pc0 := 45) (pc' := 54) rfl (hb hby own_d_method_4_45) rfl (teq hc22).1 (by decide) (by decide) k) ?_
              show own_E p e below _ s₁ (mkF m 54 #[iv p1] [])
              refine own_st (fun t k => XS.iconst X0.here hx rfl (hb hby own_d_method_4_54) k) ?_
              show own_E p e below _ s₁ (mkF m 55 #[iv p1] [.int 1])
              refine own_st (fun t k => XS.goto X0.here hx rfl (pc0 := 55) (pc' := 59) rfl (hb hby own_d_method_4_55) (by decide) (by decide) k) ?_
              show own_E p e below _ s₁ (mkF m 59 #[iv p1] [.int 1])
              refine own_retS X0 hx Bd.notSynchronized Bd.returns rfl (by decide) (hb hby own_d_method_4_59) (by decide) (by decide) ?_
              exact ⟨Or.inl ⟨rfl, by simp [own_ok, hc1, hc16, hc17, hc18, hc21, hc22]⟩, e0, rfl⟩
            · refine own_st (fun t k => XS.icmpNo X0.here hx rfl (hb hby own_d_method_4_45) rfl (feq hc22).1 k) ?_
              show own_E p e below _ s₁ (mkF m 48 #[iv p1] [])
              refine own_st (fun t k => XS.iloadN X0.here hx rfl (hb hby own_d_method_4_48) rfl k) ?_
              show own_E p e below _ s₁ (mkF m 49 #[iv p1] [.int p1])
              refine own_st (fun t k => XS.bipush X0.here hx rfl (hb hby own_d_method_4_49) k) ?_
              show own_E p e below _ s₁ (mkF m 51 #[iv p1] [.int 46, .int p1])
              by_cases hc23 : p1 = (46 : Int32)
              · refine own_st (fun t k => XS.icmpNo X0.here hx rfl (hb hby own_d_method_4_51) rfl (teq hc23).2 k) ?_
                show own_E p e below _ s₁ (mkF m 54 #[iv p1] [])
                refine own_st (fun t k => XS.iconst X0.here hx rfl (hb hby own_d_method_4_54) k) ?_
                show own_E p e below _ s₁ (mkF m 55 #[iv p1] [.int 1])
                refine own_st (fun t k => XS.goto X0.here hx rfl (pc0 := 55) (pc' := 59) rfl (hb hby own_d_method_4_55) (by decide) (by decide) k) ?_
                show own_E p e below _ s₁ (mkF m 59 #[iv p1] [.int 1])
                refine own_retS X0 hx Bd.notSynchronized Bd.returns rfl (by decide) (hb hby own_d_method_4_59) (by decide) (by decide) ?_
                exact ⟨Or.inl ⟨rfl, by simp [own_ok, hc1, hc16, hc17, hc18, hc21, hc22, hc23]⟩, e0, rfl⟩
              · refine own_st (fun t k => XS.icmpYes X0.here hx rfl (pc0 := 51) (pc' := 58) rfl (hb hby own_d_method_4_51) rfl (feq hc23).2 (by decide) (by decide) k) ?_
                show own_E p e below _ s₁ (mkF m 58 #[iv p1] [])
                refine own_st (fun t k => XS.iconst X0.here hx rfl (hb hby own_d_method_4_58) k) ?_
                show own_E p e below _ s₁ (mkF m 59 #[iv p1] [.int 0])
                refine own_retS X0 hx Bd.notSynchronized Bd.returns rfl (by decide) (hb hby own_d_method_4_59) (by decide) (by decide) ?_
                exact ⟨Or.inr ⟨rfl, by simp [own_ok, hc1, hc16, hc17, hc18, hc21, hc22, hc23]⟩, e0, rfl⟩
          · refine own_st (fun t k => XS.icmpNo X0.here hx rfl (hb hby own_d_method_4_37) rfl (flt hc21).2.2.1 k) ?_
            show own_E p e below _ s₁ (mkF m 40 #[iv p1] [])
            refine own_st (fun t k => XS.iconst X0.here hx rfl (hb hby own_d_method_4_40) k) ?_
            show own_E p e below _ s₁ (mkF m 41 #[iv p1] [.int 1])
            refine own_retS X0 hx Bd.notSynchronized Bd.returns rfl (by decide) (hb hby own_d_method_4_41) (by decide) (by decide) ?_
            exact ⟨Or.inl ⟨rfl, by simp [own_ok, hc1, hc16, hc17, hc18, hc21]⟩, e0, rfl⟩
      · refine own_st (fun t k => XS.icmpNo X0.here hx rfl (hb hby own_d_method_4_17) rfl (flt hc17).1 k) ?_
        show own_E p e below _ s₁ (mkF m 20 #[iv p1] [])
        refine own_st (fun t k => XS.iloadN X0.here hx rfl (hb hby own_d_method_4_20) rfl k) ?_
        show own_E p e below _ s₁ (mkF m 21 #[iv p1] [.int p1])
        refine own_st (fun t k => XS.bipush X0.here hx rfl (hb hby own_d_method_4_21) k) ?_
        show own_E p e below _ s₁ (mkF m 23 #[iv p1] [.int 90, .int p1])
        by_cases hc24 : (90 : Int32) < p1
        · refine own_st (fun t k => XS.icmpYes X0.here hx rfl (pc0 := 23) (pc' := 28) rfl (hb hby own_d_method_4_23) rfl (tlt hc24).2.2.1 (by decide) (by decide) k) ?_
          show own_E p e below _ s₁ (mkF m 28 #[iv p1] [])
          refine own_st (fun t k => XS.iloadN X0.here hx rfl (hb hby own_d_method_4_28) rfl k) ?_
          show own_E p e below _ s₁ (mkF m 29 #[iv p1] [.int p1])
          refine own_st (fun t k => XS.bipush X0.here hx rfl (hb hby own_d_method_4_29) k) ?_
          show own_E p e below _ s₁ (mkF m 31 #[iv p1] [.int 97, .int p1])
          by_cases hc25 : p1 < (97 : Int32)
          · refine own_st (fun t k => XS.icmpYes X0.here hx rfl (pc0 := 31) (pc' := 42) rfl (hb hby own_d_method_4_31) rfl (tlt hc25).1 (by decide) (by decide) k) ?_
            show own_E p e below _ s₁ (mkF m 42 #[iv p1] [])
            refine own_st (fun t k => XS.iloadN X0.here hx rfl (hb hby own_d_method_4_42) rfl k) ?_
            show own_E p e below _ s₁ (mkF m 43 #[iv p1] [.int p1])
            refine own_st (fun t k => XS.bipush X0.here hx rfl (hb hby own_d_method_4_43) k) ?_
            show own_E p e below _ s₁ (mkF m 45 #[iv p1] [.int 45, .int p1])
            by_cases hc26 : p1 = (45 : Int32)
            · refine own_st (fun t k => XS.icmpYes X0.here hx rfl (pc0 := 45) (pc' := 54) rfl (hb hby own_d_method_4_45) rfl (teq hc26).1 (by decide) (by decide) k) ?_
              show own_E p e below _ s₁ (mkF m 54 #[iv p1] [])
              refine own_st (fun t k => XS.iconst X0.here hx rfl (hb hby own_d_method_4_54) k) ?_
              show own_E p e below _ s₁ (mkF m 55 #[iv p1] [.int 1])
              refine own_st (fun t k => XS.goto X0.here hx rfl (pc0 := 55) (pc' := 59) rfl (hb hby own_d_method_4_55) (by decide) (by decide) k) ?_
              show own_E p e below _ s₁ (mkF m 59 #[iv p1] [.int 1])
              refine own_retS X0 hx Bd.notSynchronized Bd.returns rfl (by decide) (hb hby own_d_method_4_59) (by decide) (by decide) ?_
              exact ⟨Or.inl ⟨rfl, by simp [own_ok, hc1, hc16, hc17, hc24, hc25, hc26]⟩, e0, rfl⟩
            · refine own_st (fun t k => XS.icmpNo X0.here hx rfl (hb hby own_d_method_4_45) rfl (feq hc26).1 k) ?_
              show own_E p e below _ s₁ (mkF m 48 #[iv p1] [])
              refine own_st (fun t k => XS.iloadN X0.here hx rfl (hb hby own_d_method_4_48) rfl k) ?_
              show own_E p e below _ s₁ (mkF m 49 #[iv p1] [.int p1])
              refine own_st (fun t k => XS.bipush X0.here hx rfl (hb hby own_d_method_4_49) k) ?_
              show own_E p e below _ s₁ (mkF m 51 #[iv p1] [.int 46, .int p1])
              by_cases hc27 : p1 = (46 : Int32)
              · refine own_st (fun t k => XS.icmpNo X0.here hx rfl (hb hby own_d_method_4_51) rfl (teq hc27).2 k) ?_
                show own_E p e below _ s₁ (mkF m 54 #[iv p1] [])
                refine own_st (fun t k => XS.iconst X0.here hx rfl (hb hby own_d_method_4_54) k) ?_
                show own_E p e below _ s₁ (mkF m 55 #[iv p1] [.int 1])
                refine own_st (fun t k => XS.goto X0.here hx rfl (pc0 := 55) (pc' := 59) rfl (hb hby own_d_method_4_55) (by decide) (by decide) k) ?_
                show own_E p e below _ s₁ (mkF m 59 #[iv p1] [.int 1])
                refine own_retS X0 hx Bd.notSynchronized Bd.returns rfl (by decide) (hb hby own_d_method_4_59) (by decide) (by decide) ?_
                exact ⟨Or.inl ⟨rfl, by simp [own_ok, hc1, hc16, hc17, hc24, hc25, hc26, hc27]⟩, e0, rfl⟩
              · refine own_st (fun t k => XS.icmpYes X0.here hx rfl (pc0 := 51) (pc' := 58) rfl (hb hby own_d_method_4_51) rfl (feq hc27).2 (by decide) (by decide) k) ?_
                show own_E p e below _ s₁ (mkF m 58 #[iv p1] [])
                refine own_st (fun t k => XS.iconst X0.here hx rfl (hb hby own_d_method_4_58) k) ?_
                show own_E p e below _ s₁ (mkF m 59 #[iv p1] [.int 0])
                refine own_retS X0 hx Bd.notSynchronized Bd.returns rfl (by decide) (hb hby own_d_method_4_59) (by decide) (by decide) ?_
                exact ⟨Or.inr ⟨rfl, by simp [own_ok, hc1, hc16, hc17, hc24, hc25, hc26, hc27]⟩, e0, rfl⟩
          · refine own_st (fun t k => XS.icmpNo X0.here hx rfl (hb hby own_d_method_4_31) rfl (flt hc25).1 k) ?_
            show own_E p e below _ s₁ (mkF m 34 #[iv p1] [])
            refine own_st (fun t k => XS.iloadN X0.here hx rfl (hb hby own_d_method_4_34) rfl k) ?_
            show own_E p e below _ s₁ (mkF m 35 #[iv p1] [.int p1])
            refine own_st (fun t k => XS.bipush X0.here hx rfl (hb hby own_d_method_4_35) k) ?_
            show own_E p e below _ s₁ (mkF m 37 #[iv p1] [.int 122, .int p1])
            by_cases hc28 : (122 : Int32) < p1
            · refine own_st (fun t k => XS.icmpYes X0.here hx rfl (pc0 := 37) (pc' := 42) rfl (hb hby own_d_method_4_37) rfl (tlt hc28).2.2.1 (by decide) (by decide) k) ?_
              show own_E p e below _ s₁ (mkF m 42 #[iv p1] [])
              refine own_st (fun t k => XS.iloadN X0.here hx rfl (hb hby own_d_method_4_42) rfl k) ?_
              show own_E p e below _ s₁ (mkF m 43 #[iv p1] [.int p1])
              refine own_st (fun t k => XS.bipush X0.here hx rfl (hb hby own_d_method_4_43) k) ?_
              show own_E p e below _ s₁ (mkF m 45 #[iv p1] [.int 45, .int p1])
              by_cases hc29 : p1 = (45 : Int32)
              · refine own_st (fun t k => XS.icmpYes X0.here hx rfl (pc0 := 45) (pc' := 54) rfl (hb hby own_d_method_4_45) rfl (teq hc29).1 (by decide) (by decide) k) ?_
                show own_E p e below _ s₁ (mkF m 54 #[iv p1] [])
                refine own_st (fun t k => XS.iconst X0.here hx rfl (hb hby own_d_method_4_54) k) ?_
                show own_E p e below _ s₁ (mkF m 55 #[iv p1] [.int 1])
                refine own_st (fun t k => XS.goto X0.here hx rfl (pc0 := 55) (pc' := 59) rfl (hb hby own_d_method_4_55) (by decide) (by decide) k) ?_
                show own_E p e below _ s₁ (mkF m 59 #[iv p1] [.int 1])
                refine own_retS X0 hx Bd.notSynchronized Bd.returns rfl (by decide) (hb hby own_d_method_4_59) (by decide) (by decide) ?_
                exact ⟨Or.inl ⟨rfl, by simp [own_ok, hc1, hc16, hc17, hc24, hc25, hc28, hc29]⟩, e0, rfl⟩
              · refine own_st (fun t k => XS.icmpNo X0.here hx rfl (hb hby own_d_method_4_45) rfl (feq hc29).1 k) ?_
                show own_E p e below _ s₁ (mkF m 48 #[iv p1] [])
                refine own_st (fun t k => XS.iloadN X0.here hx rfl (hb hby own_d_method_4_48) rfl k) ?_
                show own_E p e below _ s₁ (mkF m 49 #[iv p1] [.int p1])
                refine own_st (fun t k => XS.bipush X0.here hx rfl (hb hby own_d_method_4_49) k) ?_
                show own_E p e below _ s₁ (mkF m 51 #[iv p1] [.int 46, .int p1])
                by_cases hc30 : p1 = (46 : Int32)
                · refine own_st (fun t k => XS.icmpNo X0.here hx rfl (hb hby own_d_method_4_51) rfl (teq hc30).2 k) ?_
                  show own_E p e below _ s₁ (mkF m 54 #[iv p1] [])
                  refine own_st (fun t k => XS.iconst X0.here hx rfl (hb hby own_d_method_4_54) k) ?_
                  show own_E p e below _ s₁ (mkF m 55 #[iv p1] [.int 1])
                  refine own_st (fun t k => XS.goto X0.here hx rfl (pc0 := 55) (pc' := 59) rfl (hb hby own_d_method_4_55) (by decide) (by decide) k) ?_
                  show own_E p e below _ s₁ (mkF m 59 #[iv p1] [.int 1])
                  refine own_retS X0 hx Bd.notSynchronized Bd.returns rfl (by decide) (hb hby own_d_method_4_59) (by decide) (by decide) ?_
                  exact ⟨Or.inl ⟨rfl, by simp [own_ok, hc1, hc16, hc17, hc24, hc25, hc28, hc29, hc30]⟩, e0, rfl⟩
                · refine own_st (fun t k => XS.icmpYes X0.here hx rfl (pc0 := 51) (pc' := 58) rfl (hb hby own_d_method_4_51) rfl (feq hc30).2 (by decide) (by decide) k) ?_
                  show own_E p e below _ s₁ (mkF m 58 #[iv p1] [])
                  refine own_st (fun t k => XS.iconst X0.here hx rfl (hb hby own_d_method_4_58) k) ?_
                  show own_E p e below _ s₁ (mkF m 59 #[iv p1] [.int 0])
                  refine own_retS X0 hx Bd.notSynchronized Bd.returns rfl (by decide) (hb hby own_d_method_4_59) (by decide) (by decide) ?_
                  exact ⟨Or.inr ⟨rfl, by simp [own_ok, hc1, hc16, hc17, hc24, hc25, hc28, hc29, hc30]⟩, e0, rfl⟩
            · refine own_st (fun t k => XS.icmpNo X0.here hx rfl (hb hby own_d_method_4_37) rfl (flt hc28).2.2.1 k) ?_
              show own_E p e below _ s₁ (mkF m 40 #[iv p1] [])
              refine own_st (fun t k => XS.iconst X0.here hx rfl (hb hby own_d_method_4_40) k) ?_
              show own_E p e below _ s₁ (mkF m 41 #[iv p1] [.int 1])
              refine own_retS X0 hx Bd.notSynchronized Bd.returns rfl (by decide) (hb hby own_d_method_4_41) (by decide) (by decide) ?_
              exact ⟨Or.inl ⟨rfl, by simp [own_ok, hc1, hc16, hc17, hc24, hc25, hc28]⟩, e0, rfl⟩
        · refine own_st (fun t k => XS.icmpNo X0.here hx rfl (hb hby own_d_method_4_23) rfl (flt hc24).2.2.1 k) ?_
          show own_E p e below _ s₁ (mkF m 26 #[iv p1] [])
          refine own_st (fun t k => XS.iconst X0.here hx rfl (hb hby own_d_method_4_26) k) ?_
          show own_E p e below _ s₁ (mkF m 27 #[iv p1] [.int 1])
          refine own_retS X0 hx Bd.notSynchronized Bd.returns rfl (by decide) (hb hby own_d_method_4_27) (by decide) (by decide) ?_
          exact ⟨Or.inl ⟨rfl, by simp [own_ok, hc1, hc16, hc17, hc24]⟩, e0, rfl⟩
    · refine own_st (fun t k => XS.icmpNo X0.here hx rfl (hb hby own_d_method_4_9) rfl (flt hc16).2.2.1 k) ?_
      show own_E p e below _ s₁ (mkF m 12 #[iv p1] [])
      refine own_st (fun t k => XS.iconst X0.here hx rfl (hb hby own_d_method_4_12) k) ?_
      show own_E p e below _ s₁ (mkF m 13 #[iv p1] [.int 1])
      refine own_retS X0 hx Bd.notSynchronized Bd.returns rfl (by decide) (hb hby own_d_method_4_13) (by decide) (by decide) ?_
      exact ⟨Or.inl ⟨rfl, by simp [own_ok, hc1, hc16]⟩, e0, rfl⟩
def own_okp (f : Nat → Int32) (q s0 w0 : Nat) : Prop := s0 ≤ q → q < w0 → own_ok (f q)
def own_okQ (f : Nat → Int32) (q s0 w0 : Nat) (h0 : Heap) (v : Option Value) (h : Heap) (L : List Loc) : Prop := (v = some (.int (1 : Int32)) ∧ own_okp f q s0 w0 ∨ v = some (.int (0 : Int32)) ∧ ¬ own_okp f q s0 w0) ∧ h = h0 ∧ L = []
theorem own_d_method_3_0 : decode method_3_code 0 = .ok (.iload_n 1, 1) := by decide +kernel
theorem own_d_method_3_1 : decode method_3_code 1 = .ok (.iload_n 2, 1) := by decide +kernel
theorem own_d_method_3_2 : decode method_3_code 2 = .ok (.if_icmp .lt 8, 3) := by decide +kernel
theorem own_d_method_3_10 : decode method_3_code 10 = .ok (.iconst 1, 1) := by decide +kernel
theorem own_d_method_3_11 : decode method_3_code 11 = .ok (.ireturn, 1) := by decide +kernel
theorem own_d_method_3_5 : decode method_3_code 5 = .ok (.iload_n 1, 1) := by decide +kernel
theorem own_d_method_3_6 : decode method_3_code 6 = .ok (.iload_n 3, 1) := by decide +kernel
theorem own_d_method_3_7 : decode method_3_code 7 = .ok (.if_icmp .lt 5, 3) := by decide +kernel
theorem own_d_method_3_12 : decode method_3_code 12 = .ok (.aload_n 0, 1) := by decide +kernel
theorem own_d_method_3_13 : decode method_3_code 13 = .ok (.iload_n 1, 1) := by decide +kernel
theorem own_d_method_3_14 : decode method_3_code 14 = .ok (.caload, 1) := by decide +kernel
theorem own_d_method_3_15 : decode method_3_code 15 = .ok (.invokestatic 26, 3) := by decide +kernel
theorem own_pd_2 : parseMethodDescriptor "(C)Z" = some ⟨[.char], some .boolean⟩ := by decide +kernel
theorem own_d_method_3_18 : decode method_3_code 18 = .ok (.ireturn, 1) := by decide +kernel
abbrev own_y20 : MethodName := ⟨"com/example/brazier/brazier/fhir/ResourceIdIsValidPinLaw", "ok", "([CIII)Z"⟩
theorem own_okb_ef (m : MethodId) (a1 : Addr) (q : Nat) (s0 : Nat) (w0 : Nat) (f : Nat → Int32) : entryFrame m #[(.ref a1), (.int (own_n q)), (.int (own_n s0)), (.int (own_n w0))] 4 = mkF m 0 #[.val (.ref a1), .val (.int (own_n q)), .val (.int (own_n s0)), .val (.int (own_n w0))] [] := by first | (simp [entryFrame, mkF, argsToLocals, Value.category]; done) | rfl
set_option maxRecDepth 65536 in
set_option maxHeartbeats 40000000 in
theorem own_okb (l : Launch) (Z : State) (a0 : Array Value) (hw : ∀ d ∈ tables_1, d.before a0 Z = true) (ws : List Jvm.Cond) (a1 : Addr) (q : Nat) (s0 : Nat) (w0 : Nat) (f : Nat → Int32) (h0 : Heap) (n0 : Nat) (Z0 : n0 ≤ h0.size) (hq : q < 70) (hs0 : s0 ≤ 70) (he0 : w0 ≤ 70) (VA_a1 : own_A Z h0 a1 .char 70 f) :
    MetFree l own_y20 (head1 (Jvm.Cond.code own_y20 method_3_code 4 (some .boolean) :: ws) ({ frames := 1, cells := 0, slots := 0, locals := 12 } : Room)) (fun a U => a = #[(.ref a1), (.int (own_n q)), (.int (own_n s0)), (.int (own_n w0))] ∧ Z.Warmed39 U.vm ∧ U.heap = h0) (fun _ _ _ _ _ => True) (fun _ U o U' => ∃ v L, o = .returned v ∧ own_okQ f q s0 w0 h0 v U'.heap L ∧ FrameEnd U o U' L ({ frames := 1, cells := 0, slots := 0, locals := 12 } : Room).cells ({ frames := 1, cells := 0, slots := 0, locals := 12 } : Room).slots) := by
  refine MetFree.of_bodySF (plainFor_of_name own_pn_ResourceIdIsValidPinLaw) hisR ?_
  intro p e s m args below meth c s₁ Bd hml0 hP hK
  obtain ⟨rfl, hZ, hh⟩ := hP
  have hx := Bd.exec
  have hby := Bd.bytes
  have hml : c.maxLocals = 4 := hml0
  have hown : s.vm.findClass "com/example/brazier/brazier/fhir/ResourceIdIsValidPinLaw" = some m.cls := findClass_of_methodNamed Bd.named
  have hnm := (name_of_methodNamed Bd.named Bd.method).1
  have X0 : Stand p l e ({ frames := 1, cells := 0, slots := 0, locals := 12 } : Room) s m #[(.ref a1), (.int (own_n q)), (.int (own_n s0)), (.int (own_n w0))] below meth c s₁ [] 0 0 := Stand.of_body Bd
  have e0 : s₁.heap = h0 := by rw [← hh, Bd.state]; rfl
  show own_E p e below (own_K (own_okQ f q s0 w0 h0) s ({ frames := 1, cells := 0, slots := 0, locals := 12 } : Room).cells ({ frames := 1, cells := 0, slots := 0, locals := 12 } : Room).slots) s₁ (entryFrame m #[(.ref a1), (.int (own_n q)), (.int (own_n s0)), (.int (own_n w0))] 4)
  refine own_pre (own_okb_ef m a1 q s0 w0 f) ?_
  show own_E p e below _ s₁ (mkF m 0 #[rv a1, iv (own_n q), iv (own_n s0), iv (own_n w0)] [])
  refine own_st (fun t k => XS.iloadN X0.here hx rfl (hb hby own_d_method_3_0) rfl k) ?_
  show own_E p e below _ s₁ (mkF m 1 #[rv a1, iv (own_n q), iv (own_n s0), iv (own_n w0)] [.int (own_n q)])
  refine own_st (fun t k => XS.iloadN X0.here hx rfl (hb hby own_d_method_3_1) rfl k) ?_
  show own_E p e below _ s₁ (mkF m 2 #[rv a1, iv (own_n q), iv (own_n s0), iv (own_n w0)] [.int (own_n s0), .int (own_n q)])
  by_cases hc1 : (own_n q) < (own_n s0)
  · refine own_st (fun t k => XS.icmpYes X0.here hx rfl (pc0 := 2) (pc' := 10) rfl (hb hby own_d_method_3_2) rfl (tlt hc1).1 (by decide) (by decide) k) ?_
    show own_E p e below _ s₁ (mkF m 10 #[rv a1, iv (own_n q), iv (own_n s0), iv (own_n w0)] [])
    refine own_st (fun t k => XS.iconst X0.here hx rfl (hb hby own_d_method_3_10) k) ?_
    show own_E p e below _ s₁ (mkF m 11 #[rv a1, iv (own_n q), iv (own_n s0), iv (own_n w0)] [.int 1])
    refine own_retS X0 hx Bd.notSynchronized Bd.returns rfl (by decide) (hb hby own_d_method_3_11) (by decide) (by decide) ?_
    exact ⟨Or.inl ⟨rfl, fun w1 w2 => absurd ((own_nlt (by omega) (by omega)).mp hc1) (by omega)⟩, e0, rfl⟩
  · refine own_st (fun t k => XS.icmpNo X0.here hx rfl (hb hby own_d_method_3_2) rfl (flt hc1).1 k) ?_
    show own_E p e below _ s₁ (mkF m 5 #[rv a1, iv (own_n q), iv (own_n s0), iv (own_n w0)] [])
    refine own_st (fun t k => XS.iloadN X0.here hx rfl (hb hby own_d_method_3_5) rfl k) ?_
    show own_E p e below _ s₁ (mkF m 6 #[rv a1, iv (own_n q), iv (own_n s0), iv (own_n w0)] [.int (own_n q)])
    refine own_st (fun t k => XS.iloadN X0.here hx rfl (hb hby own_d_method_3_6) rfl k) ?_
    show own_E p e below _ s₁ (mkF m 7 #[rv a1, iv (own_n q), iv (own_n s0), iv (own_n w0)] [.int (own_n w0), .int (own_n q)])
    by_cases hc2 : (own_n q) < (own_n w0)
    · refine own_st (fun t k => XS.icmpYes X0.here hx rfl (pc0 := 7) (pc' := 12) rfl (hb hby own_d_method_3_7) rfl (tlt hc2).1 (by decide) (by decide) k) ?_
      show own_E p e below _ s₁ (mkF m 12 #[rv a1, iv (own_n q), iv (own_n s0), iv (own_n w0)] [])
      refine own_st (fun t k => XS.aloadN X0.here hx rfl (hb hby own_d_method_3_12) rfl rfl k) ?_
      show own_E p e below _ s₁ (mkF m 13 #[rv a1, iv (own_n q), iv (own_n s0), iv (own_n w0)] [.ref a1])
      refine own_st (fun t k => XS.iloadN X0.here hx rfl (hb hby own_d_method_3_13) rfl k) ?_
      show own_E p e below _ s₁ (mkF m 14 #[rv a1, iv (own_n q), iv (own_n s0), iv (own_n w0)] [.int (own_n q), .ref a1])
      refine own_st (own_A_cld X0 hx hZ e0 VA_a1 (j := (own_n q)) (i := q) (own_n0 (by omega)) (own_nN (by omega)) hq (g := (mkF m 14 #[rv a1, iv (own_n q), iv (own_n s0), iv (own_n w0)] [.int (own_n q), .ref a1])) rfl rfl (hb hby own_d_method_3_14)) ?_
      show own_E p e below _ s₁ (mkF m 15 #[rv a1, iv (own_n q), iv (own_n s0), iv (own_n w0)] [.int (f q)])
      obtain ⟨_, _, ⟨T3, L3, k3, n3⟩, -, X3, ⟨Lc3, hQ3, l3, y3, z3⟩, st3⟩ := Jvm.LawKit.callS X0 hx (y := own_y19) hown (mvT hZ (own_w hw 62 rfl)) (mvT hZ (own_w hw 63 rfl)) (mvT hZ (own_w hw 60 rfl)) (mvT hZ (own_w hw 64 rfl)) (by decide) (backOf (W := 0) (own_id l Z a0 hw [] (f q) h0 n0 Z0 ) hZ (own_w hw 64 rfl) (own_w hw 60 rfl) (by decide) (by decide)) (g := (mkF m 15 #[rv a1, iv (own_n q), iv (own_n s0), iv (own_n w0)] [.int (f q)])) rfl (by rw [hml]; rfl) (argsL := [(.int (f q))]) (rest := []) (lenOf own_pd_2 rfl) rfl (by show 2 * 0 + _ ≤ _; exact Nat.le_of_eq rfl) (hb hby own_d_method_3_15) (fun _ _ => ⟨rfl, e0, (by decide : 0 + 0 ≤ _), (by decide : 0 + 0 ≤ _)⟩)
      dsimp only [Pt.U, Pt.locs, Pt.cells, Pt.slots] at X3 l3 y3 z3 st3 hQ3
      subst l3 y3 z3
      obtain ⟨hR3, e3, rfl⟩ := hQ3
      have N3 := Fr.app (Fr.nil n0) (Fr.nil n0)
      rcases hR3 with ⟨rfl, hok⟩ | ⟨rfl, hok⟩
      · refine own_st st3 ?_
        show own_E p e below _ T3 (mkF m 18 #[rv a1, iv (own_n q), iv (own_n s0), iv (own_n w0)] [.int 1])
        refine own_retS X3 hx Bd.notSynchronized Bd.returns rfl (by decide) (hb hby own_d_method_3_18) (by decide) (by decide) ?_
        exact ⟨Or.inl ⟨rfl, fun _ _ => hok⟩, e3, rfl⟩
      · refine own_st st3 ?_
        show own_E p e below _ T3 (mkF m 18 #[rv a1, iv (own_n q), iv (own_n s0), iv (own_n w0)] [.int 0])
        refine own_retS X3 hx Bd.notSynchronized Bd.returns rfl (by decide) (hb hby own_d_method_3_18) (by decide) (by decide) ?_
        exact ⟨Or.inr ⟨rfl, fun w => hok (w (Nat.le_of_not_lt fun z => hc1 ((own_nlt (by omega) (by omega)).mpr z)) ((own_nlt (by omega) (by omega)).mp hc2))⟩, e3, rfl⟩
    · refine own_st (fun t k => XS.icmpNo X0.here hx rfl (hb hby own_d_method_3_7) rfl (flt hc2).1 k) ?_
      show own_E p e below _ s₁ (mkF m 10 #[rv a1, iv (own_n q), iv (own_n s0), iv (own_n w0)] [])
      refine own_st (fun t k => XS.iconst X0.here hx rfl (hb hby own_d_method_3_10) k) ?_
      show own_E p e below _ s₁ (mkF m 11 #[rv a1, iv (own_n q), iv (own_n s0), iv (own_n w0)] [.int 1])
      refine own_retS X0 hx Bd.notSynchronized Bd.returns rfl (by decide) (hb hby own_d_method_3_11) (by decide) (by decide) ?_
      exact ⟨Or.inl ⟨rfl, fun w1 w2 => absurd ((own_nlt (by omega) (by omega)).mpr w2) hc2⟩, e0, rfl⟩
def own_base (j : Nat) : Int32 := [65, 90, 97, 122, 48, 57, 45, 46, 109, 53, 65, 90, 97, 122, 48, 57, 45, 46, 109, 53, 65, 90, 97, 122, 48, 57, 45, 46, 109, 53, 65, 90, 97, 122, 48, 57, 45, 46, 109, 53, 65, 90, 97, 122, 48, 57, 45, 46, 109, 53, 65, 90, 97, 122, 48, 57, 45, 46, 109, 53, 65, 90, 97, 122, 48, 57, 45, 46, 109, 53].getD j 48
instance own_okD (x : Int32) : Decidable (own_ok x) := by unfold own_ok; infer_instance
theorem own_base_ok : ∀ j, j < 70 → own_ok (own_base j) ∧ 0 ≤ (own_base j).toInt ∧ (own_base j).toInt < 65536 := by decide +kernel
def own_f (q0 q1 q2 : Nat) (x y z : Int32) : Nat → Int32 := fun k => if k = q2 then z else if k = q1 then y else if k = q0 then x else own_base k
theorem own_f_C (q0 q1 q2 : Nat) (x y z : Int32) (hx : 0 ≤ x.toInt ∧ x.toInt < 65536) (hy : 0 ≤ y.toInt ∧ y.toInt < 65536) (hz : 0 ≤ z.toInt ∧ z.toInt < 65536) : own_C (own_f q0 q1 q2 x y z) := fun j hj => by
  unfold own_f
  split
  · exact hz
  split
  · exact hy
  split
  · exact hx
  exact (own_base_ok j hj).2
theorem own_f_all (q0 q1 q2 s0 w0 : Nat) (x y z : Int32) (h2 : w0 ≤ 70) (k0 : own_okp (own_f q0 q1 q2 x y z) q0 s0 w0) (k1 : own_okp (own_f q0 q1 q2 x y z) q1 s0 w0) (k2 : own_okp (own_f q0 q1 q2 x y z) q2 s0 w0) : ∀ j, s0 ≤ j → j < w0 → own_ok (own_f q0 q1 q2 x y z j) := fun j h1 h3 => by
  by_cases e2 : j = q2
  · subst e2; exact k2 h1 h3
  by_cases e1 : j = q1
  · subst e1; exact k1 h1 h3
  by_cases e0 : j = q0
  · subst e0; exact k0 h1 h3
  simp only [own_f, e2, e1, e0, if_false]
  exact (own_base_ok j (by omega)).1
theorem own_bst {k : Nat} {g : Nat → Int32} {z : Int32} (I : ∀ j, j < k → g j = own_base j) (hz : z = own_base k) : ∀ j, j < k + 1 → (if j = k then z else g j) = own_base j := fun j hj => by
  by_cases e : j = k
  · subst e; simp only [if_true]; exact hz
  · simp only [e, if_false]; exact I j (by omega)
theorem own_pd_15 : parseMethodDescriptor "([C)V" = some ⟨[(.array .char)], none⟩ := by decide +kernel
theorem own_pd_10 : parseMethodDescriptor "(Ljava/lang/String;II)Z" = some ⟨[(.object "java/lang/String"), .int, .int], some .boolean⟩ := by decide +kernel
theorem own_pd_17 : parseMethodDescriptor "([CIII)Z" = some ⟨[(.array .char), .int, .int, .int], some .boolean⟩ := by decide +kernel
def own_law_Q (n0 : Nat) (v : Option Value) (h : Heap) (L : List Loc) : Prop := v = some (.int 1) ∧ Fr n0 L
theorem own_law_ef (m : MethodId) (p0 : Int32) (p1 : Int32) (p2 : Int32) (p3 : Int32) (p4 : Int32) (p5 : Int32) (zc : Int32) (rs : Value) : entryFrame m #[(.int p0), (.int p1), (.int p2), (.int p3), (.int p4), (.int p5)] maxLocals = mkF m 0 #[.val (.int p0), .val (.int p1), .val (.int p2), .val (.int p3), .val (.int p4), .val (.int p5), .unset, .unset, .unset, .unset, .unset, .unset, .unset, .unset, .unset, .unset] [] := by first | (simp [entryFrame, mkF, argsToLocals, Value.category, maxLocals]; done) | rfl
set_option maxRecDepth 65536 in
set_option maxHeartbeats 40000000 in
theorem own_law (l : Launch) (Z : State) (a0 : Array Value) (hw : ∀ d ∈ tables_1, d.before a0 Z = true) (ws : List Jvm.Cond) (p0 : Int32) (p1 : Int32) (p2 : Int32) (p3 : Int32) (p4 : Int32) (p5 : Int32) (zc : Int32) (rs : Value) (h0 : Heap) (n0 : Nat) (Z0 : n0 ≤ h0.size) (hzc : ¬ zc = 0) (SX : own_St Z h0 zc rs) (hrs : rs = .null ∨ ∃ x, rs = .ref x) :
    MetFree l x (head1 (Jvm.Cond.code x code maxLocals ret :: ws) room_1) (fun a U => a = #[(.int p0), (.int p1), (.int p2), (.int p3), (.int p4), (.int p5)] ∧ Z.Warmed39 U.vm ∧ U.heap = h0) (fun _ _ _ _ _ => True) (fun _ U o U' => ∃ v L, o = .returned v ∧ own_law_Q n0 v U'.heap L ∧ FrameEnd U o U' L room_1.cells room_1.slots) := by
  refine MetFree.of_bodySF (plainFor_of_name own_pn_ResourceIdIsValidPinLaw) hisR ?_
  intro p e s m args below meth c s₁ Bd hml0 hP hK
  obtain ⟨rfl, hZ, hh⟩ := hP
  have hx := Bd.exec
  have hby := Bd.bytes
  have hml : c.maxLocals = 16 := hml0
  have hown : s.vm.findClass "com/example/brazier/brazier/fhir/ResourceIdIsValidPinLaw" = some m.cls := findClass_of_methodNamed Bd.named
  have hnm := (name_of_methodNamed Bd.named Bd.method).1
  have X0 : Stand p l e room_1 s m #[(.int p0), (.int p1), (.int p2), (.int p3), (.int p4), (.int p5)] below meth c s₁ [] 0 0 := Stand.of_body Bd
  have e0 : s₁.heap = h0 := by rw [← hh, Bd.state]; rfl
  show own_E p e below (own_K (own_law_Q n0) s room_1.cells room_1.slots) s₁ (entryFrame m #[(.int p0), (.int p1), (.int p2), (.int p3), (.int p4), (.int p5)] maxLocals)
  refine own_pre (own_law_ef m p0 p1 p2 p3 p4 p5 zc rs) ?_
  show own_E p e below _ s₁ (mkF m 0 #[iv p0, iv p1, iv p2, iv p3, iv p4, iv p5, .unset, .unset, .unset, .unset, .unset, .unset, .unset, .unset, .unset, .unset] [])
  refine own_st (fun t k => XS.iloadN X0.here hx rfl (hb hby at_0) rfl k) ?_
  show own_E p e below _ s₁ (mkF m 1 #[iv p0, iv p1, iv p2, iv p3, iv p4, iv p5, .unset, .unset, .unset, .unset, .unset, .unset, .unset, .unset, .unset, .unset] [.int p0])
  refine own_st (X0.ldcInt hx hown (mvT hZ (own_w hw 0 rfl)) (g := (mkF m 1 #[iv p0, iv p1, iv p2, iv p3, iv p4, iv p5, .unset, .unset, .unset, .unset, .unset, .unset, .unset, .unset, .unset, .unset] [.int p0])) rfl (hb hby at_1)) ?_
  show own_E p e below _ s₁ (mkF m 3 #[iv p0, iv p1, iv p2, iv p3, iv p4, iv p5, .unset, .unset, .unset, .unset, .unset, .unset, .unset, .unset, .unset, .unset] [.int 2147483647, .int p0])
  refine own_st (fun t k => XS.iand X0.here hx rfl (hb hby at_3) rfl k) ?_
  show own_E p e below _ s₁ (mkF m 4 #[iv p0, iv p1, iv p2, iv p3, iv p4, iv p5, .unset, .unset, .unset, .unset, .unset, .unset, .unset, .unset, .unset, .unset] [.int (p0 &&& (2147483647 : Int32))])
  refine own_st (fun t k => XS.bipush X0.here hx rfl (hb hby at_4) k) ?_
  show own_E p e below _ s₁ (mkF m 6 #[iv p0, iv p1, iv p2, iv p3, iv p4, iv p5, .unset, .unset, .unset, .unset, .unset, .unset, .unset, .unset, .unset, .unset] [.int 71, .int (p0 &&& (2147483647 : Int32))])
  refine own_st (fun t k => iremM X0 hx rfl (hb hby at_6) rfl (by decide) k) ?_
  show own_E p e below _ s₁ (mkF m 7 #[iv p0, iv p1, iv p2, iv p3, iv p4, iv p5, .unset, .unset, .unset, .unset, .unset, .unset, .unset, .unset, .unset, .unset] [.int ((p0 &&& (2147483647 : Int32)) % (71 : Int32))])
  refine own_st (fun t k => XS.istore X0.here hx rfl (hb hby at_7) rfl (l' := #[iv p0, iv p1, iv p2, iv p3, iv p4, iv p5, iv ((p0 &&& (2147483647 : Int32)) % (71 : Int32)), .unset, .unset, .unset, .unset, .unset, .unset, .unset, .unset, .unset]) rfl k) ?_
  show own_E p e below _ s₁ (mkF m 9 #[iv p0, iv p1, iv p2, iv p3, iv p4, iv p5, iv ((p0 &&& (2147483647 : Int32)) % (71 : Int32)), .unset, .unset, .unset, .unset, .unset, .unset, .unset, .unset, .unset] [])
  have r_s0 : ¬ (((p0 &&& (2147483647 : Int32)) % (71 : Int32)) < (0 : Int32)) ∧ (((p0 &&& (2147483647 : Int32)) % (71 : Int32))).toInt < (71 : Nat) := by
    rw [Int32.lt_iff_toInt_lt]
    have f1 := rng32 p0
    have f2 : (2147483647 : Int32).toInt = 2147483647 := rfl
    have f3 := rng32 (p0 &&& (2147483647 : Int32))
    have f4 : (p0 &&& (2147483647 : Int32)).toInt = p0.toInt % 2147483648 := c_mask p0 (2147483647 : Int32) 31 (by decide) (by decide)
    have f5 : (71 : Int32).toInt = 71 := rfl
    have f6 := rng32 ((p0 &&& (2147483647 : Int32)) % (71 : Int32))
    have f7 := c_irem (p0 &&& (2147483647 : Int32)) (71 : Int32) 71 rfl
    have f8 : (0 : Int32).toInt = 0 := rfl
    omega
  obtain ⟨s0, h_s0, e_s0⟩ := own_no r_s0.1 r_s0.2 (by decide)
  rw [e_s0]
  show own_E p e below _ s₁ (mkF m 9 #[iv p0, iv p1, iv p2, iv p3, iv p4, iv p5, iv (own_n s0), .unset, .unset, .unset, .unset, .unset, .unset, .unset, .unset, .unset] [])
  refine own_st (fun t k => XS.iloadN X0.here hx rfl (hb hby at_9) rfl k) ?_
  show own_E p e below _ s₁ (mkF m 10 #[iv p0, iv p1, iv p2, iv p3, iv p4, iv p5, iv (own_n s0), .unset, .unset, .unset, .unset, .unset, .unset, .unset, .unset, .unset] [.int p1])
  refine own_st (X0.ldcInt hx hown (mvT hZ (own_w hw 0 rfl)) (g := (mkF m 10 #[iv p0, iv p1, iv p2, iv p3, iv p4, iv p5, iv (own_n s0), .unset, .unset, .unset, .unset, .unset, .unset, .unset, .unset, .unset] [.int p1])) rfl (hb hby at_10)) ?_
  show own_E p e below _ s₁ (mkF m 12 #[iv p0, iv p1, iv p2, iv p3, iv p4, iv p5, iv (own_n s0), .unset, .unset, .unset, .unset, .unset, .unset, .unset, .unset, .unset] [.int 2147483647, .int p1])
  refine own_st (fun t k => XS.iand X0.here hx rfl (hb hby at_12) rfl k) ?_
  show own_E p e below _ s₁ (mkF m 13 #[iv p0, iv p1, iv p2, iv p3, iv p4, iv p5, iv (own_n s0), .unset, .unset, .unset, .unset, .unset, .unset, .unset, .unset, .unset] [.int (p1 &&& (2147483647 : Int32))])
  refine own_st (fun t k => XS.bipush X0.here hx rfl (hb hby at_13) k) ?_
  show own_E p e below _ s₁ (mkF m 15 #[iv p0, iv p1, iv p2, iv p3, iv p4, iv p5, iv (own_n s0), .unset, .unset, .unset, .unset, .unset, .unset, .unset, .unset, .unset] [.int 71, .int (p1 &&& (2147483647 : Int32))])
  refine own_st (fun t k => iremM X0 hx rfl (hb hby at_15) rfl (by decide) k) ?_
  show own_E p e below _ s₁ (mkF m 16 #[iv p0, iv p1, iv p2, iv p3, iv p4, iv p5, iv (own_n s0), .unset, .unset, .unset, .unset, .unset, .unset, .unset, .unset, .unset] [.int ((p1 &&& (2147483647 : Int32)) % (71 : Int32))])
  refine own_st (fun t k => XS.istore X0.here hx rfl (hb hby at_16) rfl (l' := #[iv p0, iv p1, iv p2, iv p3, iv p4, iv p5, iv (own_n s0), iv ((p1 &&& (2147483647 : Int32)) % (71 : Int32)), .unset, .unset, .unset, .unset, .unset, .unset, .unset, .unset]) rfl k) ?_
  show own_E p e below _ s₁ (mkF m 18 #[iv p0, iv p1, iv p2, iv p3, iv p4, iv p5, iv (own_n s0), iv ((p1 &&& (2147483647 : Int32)) % (71 : Int32)), .unset, .unset, .unset, .unset, .unset, .unset, .unset, .unset] [])
  have r_w0 : ¬ (((p1 &&& (2147483647 : Int32)) % (71 : Int32)) < (0 : Int32)) ∧ (((p1 &&& (2147483647 : Int32)) % (71 : Int32))).toInt < (71 : Nat) := by
    rw [Int32.lt_iff_toInt_lt]
    have f9 := rng32 p1
    have f10 : (2147483647 : Int32).toInt = 2147483647 := rfl
    have f11 := rng32 (p1 &&& (2147483647 : Int32))
    have f12 : (p1 &&& (2147483647 : Int32)).toInt = p1.toInt % 2147483648 := c_mask p1 (2147483647 : Int32) 31 (by decide) (by decide)
    have f13 : (71 : Int32).toInt = 71 := rfl
    have f14 := rng32 ((p1 &&& (2147483647 : Int32)) % (71 : Int32))
    have f15 := c_irem (p1 &&& (2147483647 : Int32)) (71 : Int32) 71 rfl
    have f16 : (0 : Int32).toInt = 0 := rfl
    omega
  obtain ⟨w0, h_w0, e_w0⟩ := own_no r_w0.1 r_w0.2 (by decide)
  rw [e_w0]
  show own_E p e below _ s₁ (mkF m 18 #[iv p0, iv p1, iv p2, iv p3, iv p4, iv p5, iv (own_n s0), iv (own_n w0), .unset, .unset, .unset, .unset, .unset, .unset, .unset, .unset] [])
  refine own_st (fun t k => XS.iloadN X0.here hx rfl (hb hby at_18) rfl k) ?_
  show own_E p e below _ s₁ (mkF m 19 #[iv p0, iv p1, iv p2, iv p3, iv p4, iv p5, iv (own_n s0), iv (own_n w0), .unset, .unset, .unset, .unset, .unset, .unset, .unset, .unset] [.int p2])
  refine own_st (fun t k => XS.sipush X0.here hx rfl (hb hby at_19) k) ?_
  show own_E p e below _ s₁ (mkF m 22 #[iv p0, iv p1, iv p2, iv p3, iv p4, iv p5, iv (own_n s0), iv (own_n w0), .unset, .unset, .unset, .unset, .unset, .unset, .unset, .unset] [.int 255, .int p2])
  refine own_st (fun t k => XS.iand X0.here hx rfl (hb hby at_22) rfl k) ?_
  show own_E p e below _ s₁ (mkF m 23 #[iv p0, iv p1, iv p2, iv p3, iv p4, iv p5, iv (own_n s0), iv (own_n w0), .unset, .unset, .unset, .unset, .unset, .unset, .unset, .unset] [.int (p2 &&& (255 : Int32))])
  refine own_st (fun t k => XS.bipush X0.here hx rfl (hb hby at_23) k) ?_
  show own_E p e below _ s₁ (mkF m 25 #[iv p0, iv p1, iv p2, iv p3, iv p4, iv p5, iv (own_n s0), iv (own_n w0), .unset, .unset, .unset, .unset, .unset, .unset, .unset, .unset] [.int 70, .int (p2 &&& (255 : Int32))])
  refine own_st (fun t k => iremM X0 hx rfl (hb hby at_25) rfl (by decide) k) ?_
  show own_E p e below _ s₁ (mkF m 26 #[iv p0, iv p1, iv p2, iv p3, iv p4, iv p5, iv (own_n s0), iv (own_n w0), .unset, .unset, .unset, .unset, .unset, .unset, .unset, .unset] [.int ((p2 &&& (255 : Int32)) % (70 : Int32))])
  refine own_st (fun t k => XS.istore X0.here hx rfl (hb hby at_26) rfl (l' := #[iv p0, iv p1, iv p2, iv p3, iv p4, iv p5, iv (own_n s0), iv (own_n w0), iv ((p2 &&& (255 : Int32)) % (70 : Int32)), .unset, .unset, .unset, .unset, .unset, .unset, .unset]) rfl k) ?_
  show own_E p e below _ s₁ (mkF m 28 #[iv p0, iv p1, iv p2, iv p3, iv p4, iv p5, iv (own_n s0), iv (own_n w0), iv ((p2 &&& (255 : Int32)) % (70 : Int32)), .unset, .unset, .unset, .unset, .unset, .unset, .unset] [])
  have r_q0 : ¬ (((p2 &&& (255 : Int32)) % (70 : Int32)) < (0 : Int32)) ∧ (((p2 &&& (255 : Int32)) % (70 : Int32))).toInt < (70 : Nat) := by
    rw [Int32.lt_iff_toInt_lt]
    have f17 := rng32 p2
    have f18 : (255 : Int32).toInt = 255 := rfl
    have f19 := rng32 (p2 &&& (255 : Int32))
    have f20 : (p2 &&& (255 : Int32)).toInt = p2.toInt % 256 := c_mask p2 (255 : Int32) 8 (by decide) (by decide)
    have f21 : (70 : Int32).toInt = 70 := rfl
    have f22 := rng32 ((p2 &&& (255 : Int32)) % (70 : Int32))
    have f23 := c_irem (p2 &&& (255 : Int32)) (70 : Int32) 70 rfl
    have f24 : (0 : Int32).toInt = 0 := rfl
    omega
  obtain ⟨q0, h_q0, e_q0⟩ := own_no r_q0.1 r_q0.2 (by decide)
  rw [e_q0]
  show own_E p e below _ s₁ (mkF m 28 #[iv p0, iv p1, iv p2, iv p3, iv p4, iv p5, iv (own_n s0), iv (own_n w0), iv (own_n q0), .unset, .unset, .unset, .unset, .unset, .unset, .unset] [])
  refine own_st (fun t k => XS.iloadN X0.here hx rfl (hb hby at_28) rfl k) ?_
  show own_E p e below _ s₁ (mkF m 29 #[iv p0, iv p1, iv p2, iv p3, iv p4, iv p5, iv (own_n s0), iv (own_n w0), iv (own_n q0), .unset, .unset, .unset, .unset, .unset, .unset, .unset] [.int p2])
  refine own_st (fun t k => XS.bipush X0.here hx rfl (hb hby at_29) k) ?_
  show own_E p e below _ s₁ (mkF m 31 #[iv p0, iv p1, iv p2, iv p3, iv p4, iv p5, iv (own_n s0), iv (own_n w0), iv (own_n q0), .unset, .unset, .unset, .unset, .unset, .unset, .unset] [.int 8, .int p2])
  refine own_st (fun t k => XS.iushr X0.here hx rfl (hb hby at_31) rfl k) ?_
  show own_E p e below _ s₁ (mkF m 32 #[iv p0, iv p1, iv p2, iv p3, iv p4, iv p5, iv (own_n s0), iv (own_n w0), iv (own_n q0), .unset, .unset, .unset, .unset, .unset, .unset, .unset] [.int ((p2.toUInt32 >>> ((8 : Int32) &&& 31).toUInt32).toInt32)])
  refine own_st (fun t k => XS.sipush X0.here hx rfl (hb hby at_32) k) ?_
  show own_E p e below _ s₁ (mkF m 35 #[iv p0, iv p1, iv p2, iv p3, iv p4, iv p5, iv (own_n s0), iv (own_n w0), iv (own_n q0), .unset, .unset, .unset, .unset, .unset, .unset, .unset] [.int 255, .int ((p2.toUInt32 >>> ((8 : Int32) &&& 31).toUInt32).toInt32)])
  refine own_st (fun t k => XS.iand X0.here hx rfl (hb hby at_35) rfl k) ?_
  show own_E p e below _ s₁ (mkF m 36 #[iv p0, iv p1, iv p2, iv p3, iv p4, iv p5, iv (own_n s0), iv (own_n w0), iv (own_n q0), .unset, .unset, .unset, .unset, .unset, .unset, .unset] [.int (((p2.toUInt32 >>> ((8 : Int32) &&& 31).toUInt32).toInt32) &&& (255 : Int32))])
  refine own_st (fun t k => XS.bipush X0.here hx rfl (hb hby at_36) k) ?_
  show own_E p e below _ s₁ (mkF m 38 #[iv p0, iv p1, iv p2, iv p3, iv p4, iv p5, iv (own_n s0), iv (own_n w0), iv (own_n q0), .unset, .unset, .unset, .unset, .unset, .unset, .unset] [.int 70, .int (((p2.toUInt32 >>> ((8 : Int32) &&& 31).toUInt32).toInt32) &&& (255 : Int32))])
  refine own_st (fun t k => iremM X0 hx rfl (hb hby at_38) rfl (by decide) k) ?_
  show own_E p e below _ s₁ (mkF m 39 #[iv p0, iv p1, iv p2, iv p3, iv p4, iv p5, iv (own_n s0), iv (own_n w0), iv (own_n q0), .unset, .unset, .unset, .unset, .unset, .unset, .unset] [.int ((((p2.toUInt32 >>> ((8 : Int32) &&& 31).toUInt32).toInt32) &&& (255 : Int32)) % (70 : Int32))])
  refine own_st (fun t k => XS.istore X0.here hx rfl (hb hby at_39) rfl (l' := #[iv p0, iv p1, iv p2, iv p3, iv p4, iv p5, iv (own_n s0), iv (own_n w0), iv (own_n q0), iv ((((p2.toUInt32 >>> ((8 : Int32) &&& 31).toUInt32).toInt32) &&& (255 : Int32)) % (70 : Int32)), .unset, .unset, .unset, .unset, .unset, .unset]) rfl k) ?_
  show own_E p e below _ s₁ (mkF m 41 #[iv p0, iv p1, iv p2, iv p3, iv p4, iv p5, iv (own_n s0), iv (own_n w0), iv (own_n q0), iv ((((p2.toUInt32 >>> ((8 : Int32) &&& 31).toUInt32).toInt32) &&& (255 : Int32)) % (70 : Int32)), .unset, .unset, .unset, .unset, .unset, .unset] [])
  have r_q1 : ¬ (((((p2.toUInt32 >>> ((8 : Int32) &&& 31).toUInt32).toInt32) &&& (255 : Int32)) % (70 : Int32)) < (0 : Int32)) ∧ (((((p2.toUInt32 >>> ((8 : Int32) &&& 31).toUInt32).toInt32) &&& (255 : Int32)) % (70 : Int32))).toInt < (70 : Nat) := by
    rw [Int32.lt_iff_toInt_lt]
    have f25 := rng32 p2
    have f26 : (8 : Int32).toInt = 8 := rfl
    have f27 := rng32 ((p2.toUInt32 >>> ((8 : Int32) &&& 31).toUInt32).toInt32)
    have f28 : ((p2.toUInt32 >>> ((8 : Int32) &&& 31).toUInt32).toInt32).toInt = (p2.toInt % 4294967296) / 256 := c_iushr p2 (8 : Int32) 8 (by decide) (by decide)
    have f29 : (255 : Int32).toInt = 255 := rfl
    have f30 := rng32 (((p2.toUInt32 >>> ((8 : Int32) &&& 31).toUInt32).toInt32) &&& (255 : Int32))
    have f31 : (((p2.toUInt32 >>> ((8 : Int32) &&& 31).toUInt32).toInt32) &&& (255 : Int32)).toInt = ((p2.toUInt32 >>> ((8 : Int32) &&& 31).toUInt32).toInt32).toInt % 256 := c_mask ((p2.toUInt32 >>> ((8 : Int32) &&& 31).toUInt32).toInt32) (255 : Int32) 8 (by decide) (by decide)
    have f32 : (70 : Int32).toInt = 70 := rfl
    have f33 := rng32 ((((p2.toUInt32 >>> ((8 : Int32) &&& 31).toUInt32).toInt32) &&& (255 : Int32)) % (70 : Int32))
    have f34 := c_irem (((p2.toUInt32 >>> ((8 : Int32) &&& 31).toUInt32).toInt32) &&& (255 : Int32)) (70 : Int32) 70 rfl
    have f35 : (0 : Int32).toInt = 0 := rfl
    omega
  obtain ⟨q1, h_q1, e_q1⟩ := own_no r_q1.1 r_q1.2 (by decide)
  rw [e_q1]
  show own_E p e below _ s₁ (mkF m 41 #[iv p0, iv p1, iv p2, iv p3, iv p4, iv p5, iv (own_n s0), iv (own_n w0), iv (own_n q0), iv (own_n q1), .unset, .unset, .unset, .unset, .unset, .unset] [])
  refine own_st (fun t k => XS.iloadN X0.here hx rfl (hb hby at_41) rfl k) ?_
  show own_E p e below _ s₁ (mkF m 42 #[iv p0, iv p1, iv p2, iv p3, iv p4, iv p5, iv (own_n s0), iv (own_n w0), iv (own_n q0), iv (own_n q1), .unset, .unset, .unset, .unset, .unset, .unset] [.int p2])
  refine own_st (fun t k => XS.bipush X0.here hx rfl (hb hby at_42) k) ?_
  show own_E p e below _ s₁ (mkF m 44 #[iv p0, iv p1, iv p2, iv p3, iv p4, iv p5, iv (own_n s0), iv (own_n w0), iv (own_n q0), iv (own_n q1), .unset, .unset, .unset, .unset, .unset, .unset] [.int 16, .int p2])
  refine own_st (fun t k => XS.iushr X0.here hx rfl (hb hby at_44) rfl k) ?_
  show own_E p e below _ s₁ (mkF m 45 #[iv p0, iv p1, iv p2, iv p3, iv p4, iv p5, iv (own_n s0), iv (own_n w0), iv (own_n q0), iv (own_n q1), .unset, .unset, .unset, .unset, .unset, .unset] [.int ((p2.toUInt32 >>> ((16 : Int32) &&& 31).toUInt32).toInt32)])
  refine own_st (fun t k => XS.sipush X0.here hx rfl (hb hby at_45) k) ?_
  show own_E p e below _ s₁ (mkF m 48 #[iv p0, iv p1, iv p2, iv p3, iv p4, iv p5, iv (own_n s0), iv (own_n w0), iv (own_n q0), iv (own_n q1), .unset, .unset, .unset, .unset, .unset, .unset] [.int 255, .int ((p2.toUInt32 >>> ((16 : Int32) &&& 31).toUInt32).toInt32)])
  refine own_st (fun t k => XS.iand X0.here hx rfl (hb hby at_48) rfl k) ?_
  show own_E p e below _ s₁ (mkF m 49 #[iv p0, iv p1, iv p2, iv p3, iv p4, iv p5, iv (own_n s0), iv (own_n w0), iv (own_n q0), iv (own_n q1), .unset, .unset, .unset, .unset, .unset, .unset] [.int (((p2.toUInt32 >>> ((16 : Int32) &&& 31).toUInt32).toInt32) &&& (255 : Int32))])
  refine own_st (fun t k => XS.bipush X0.here hx rfl (hb hby at_49) k) ?_
  show own_E p e below _ s₁ (mkF m 51 #[iv p0, iv p1, iv p2, iv p3, iv p4, iv p5, iv (own_n s0), iv (own_n w0), iv (own_n q0), iv (own_n q1), .unset, .unset, .unset, .unset, .unset, .unset] [.int 70, .int (((p2.toUInt32 >>> ((16 : Int32) &&& 31).toUInt32).toInt32) &&& (255 : Int32))])
  refine own_st (fun t k => iremM X0 hx rfl (hb hby at_51) rfl (by decide) k) ?_
  show own_E p e below _ s₁ (mkF m 52 #[iv p0, iv p1, iv p2, iv p3, iv p4, iv p5, iv (own_n s0), iv (own_n w0), iv (own_n q0), iv (own_n q1), .unset, .unset, .unset, .unset, .unset, .unset] [.int ((((p2.toUInt32 >>> ((16 : Int32) &&& 31).toUInt32).toInt32) &&& (255 : Int32)) % (70 : Int32))])
  refine own_st (fun t k => XS.istore X0.here hx rfl (hb hby at_52) rfl (l' := #[iv p0, iv p1, iv p2, iv p3, iv p4, iv p5, iv (own_n s0), iv (own_n w0), iv (own_n q0), iv (own_n q1), iv ((((p2.toUInt32 >>> ((16 : Int32) &&& 31).toUInt32).toInt32) &&& (255 : Int32)) % (70 : Int32)), .unset, .unset, .unset, .unset, .unset]) rfl k) ?_
  show own_E p e below _ s₁ (mkF m 54 #[iv p0, iv p1, iv p2, iv p3, iv p4, iv p5, iv (own_n s0), iv (own_n w0), iv (own_n q0), iv (own_n q1), iv ((((p2.toUInt32 >>> ((16 : Int32) &&& 31).toUInt32).toInt32) &&& (255 : Int32)) % (70 : Int32)), .unset, .unset, .unset, .unset, .unset] [])
  have r_q2 : ¬ (((((p2.toUInt32 >>> ((16 : Int32) &&& 31).toUInt32).toInt32) &&& (255 : Int32)) % (70 : Int32)) < (0 : Int32)) ∧ (((((p2.toUInt32 >>> ((16 : Int32) &&& 31).toUInt32).toInt32) &&& (255 : Int32)) % (70 : Int32))).toInt < (70 : Nat) := by
    rw [Int32.lt_iff_toInt_lt]
    have f36 := rng32 p2
    have f37 : (16 : Int32).toInt = 16 := rfl
    have f38 := rng32 ((p2.toUInt32 >>> ((16 : Int32) &&& 31).toUInt32).toInt32)
    have f39 : ((p2.toUInt32 >>> ((16 : Int32) &&& 31).toUInt32).toInt32).toInt = (p2.toInt % 4294967296) / 65536 := c_iushr p2 (16 : Int32) 16 (by decide) (by decide)
    have f40 : (255 : Int32).toInt = 255 := rfl
    have f41 := rng32 (((p2.toUInt32 >>> ((16 : Int32) &&& 31).toUInt32).toInt32) &&& (255 : Int32))
    have f42 : (((p2.toUInt32 >>> ((16 : Int32) &&& 31).toUInt32).toInt32) &&& (255 : Int32)).toInt = ((p2.toUInt32 >>> ((16 : Int32) &&& 31).toUInt32).toInt32).toInt % 256 := c_mask ((p2.toUInt32 >>> ((16 : Int32) &&& 31).toUInt32).toInt32) (255 : Int32) 8 (by decide) (by decide)
    have f43 : (70 : Int32).toInt = 70 := rfl
    have f44 := rng32 ((((p2.toUInt32 >>> ((16 : Int32) &&& 31).toUInt32).toInt32) &&& (255 : Int32)) % (70 : Int32))
    have f45 := c_irem (((p2.toUInt32 >>> ((16 : Int32) &&& 31).toUInt32).toInt32) &&& (255 : Int32)) (70 : Int32) 70 rfl
    have f46 : (0 : Int32).toInt = 0 := rfl
    omega
  obtain ⟨q2, h_q2, e_q2⟩ := own_no r_q2.1 r_q2.2 (by decide)
  rw [e_q2]
  show own_E p e below _ s₁ (mkF m 54 #[iv p0, iv p1, iv p2, iv p3, iv p4, iv p5, iv (own_n s0), iv (own_n w0), iv (own_n q0), iv (own_n q1), iv (own_n q2), .unset, .unset, .unset, .unset, .unset] [])
  refine own_st (fun t k => XS.bipush X0.here hx rfl (hb hby at_54) k) ?_
  show own_E p e below _ s₁ (mkF m 56 #[iv p0, iv p1, iv p2, iv p3, iv p4, iv p5, iv (own_n s0), iv (own_n w0), iv (own_n q0), iv (own_n q1), iv (own_n q2), .unset, .unset, .unset, .unset, .unset] [.int 70])
  obtain ⟨T47, h47, k47, X47, e47, E47, A47, st47⟩ := newP X0 hx hZ (own_w hw 1 rfl) e0 (g := (mkF m 56 #[iv p0, iv p1, iv p2, iv p3, iv p4, iv p5, iv (own_n s0), iv (own_n w0), iv (own_n q0), iv (own_n q1), iv (own_n q2), .unset, .unset, .unset, .unset, .unset] [.int 70])) rfl (hb hby at_56) rfl (by decide) (cap := 70) (by decide) (by decide) (by decide) (by decide)
  obtain ⟨b47, g47⟩ : ∃ z, z = h0.size := ⟨_, rfl⟩
  rw [← g47] at A47 st47
  have g_b47 : n0 ≤ b47 := Nat.le_trans Z0 (Nat.le_of_eq g47.symm)
  have sz_b47 : h0.size ≤ b47 := Nat.le_trans (Keep.refl h0 []).1 (Nat.le_of_eq g47.symm)
  have Z48 := Nat.le_trans Z0 E47.1
  have K49 : Keep h0 _ [] := (Keep.refl h0 []).ext E47
  have Va47 : own_A Z h47 b47 .char 70 (fun _ => (0 : Int32)) := own_A.of (Arv.new A47 (by decide)) rfl (fun j _ => by simp [defaultValue, newarray.typeOf])
  refine own_st st47 ?_
  show own_E p e below _ T47 (mkF m 58 #[iv p0, iv p1, iv p2, iv p3, iv p4, iv p5, iv (own_n s0), iv (own_n w0), iv (own_n q0), iv (own_n q1), iv (own_n q2), .unset, .unset, .unset, .unset, .unset] [.ref b47])
  have S70 : ∀ (T : State) (Lc : List Loc) (g : Nat → Int32), Stand p l e room_1 s m #[(.int p0), (.int p1), (.int p2), (.int p3), (.int p4), (.int p5)] below meth c T Lc 1 70 → Fr n0 Lc → Keep h0 T.heap [] → own_A Z T.heap b47 .char 70 g → (∀ j, j < 70 → g j = own_base j) → own_E p e below (own_K (own_law_Q n0) s room_1.cells room_1.slots) T (mkF m 472 #[iv p0, iv p1, iv p2, iv p3, iv p4, iv p5, iv (own_n s0), iv (own_n w0), iv (own_n q0), iv (own_n q1), iv (own_n q2), .unset, .unset, .unset, .unset, .unset] [.ref b47]) := by
    intro T Lc g X N K VB I
    have eTl : T.heap = T.heap := rfl
    refine own_st (fun t k => XS.astore X.here hx rfl (hb hby at_472) rfl rfl (l' := #[iv p0, iv p1, iv p2, iv p3, iv p4, iv p5, iv (own_n s0), iv (own_n w0), iv (own_n q0), iv (own_n q1), iv (own_n q2), rv b47, .unset, .unset, .unset, .unset]) rfl k) ?_
    show own_E p e below _ T (mkF m 474 #[iv p0, iv p1, iv p2, iv p3, iv p4, iv p5, iv (own_n s0), iv (own_n w0), iv (own_n q0), iv (own_n q1), iv (own_n q2), rv b47, .unset, .unset, .unset, .unset] [])
    have Abase := own_A.cong (f' := own_base) VB I
    refine own_st (fun t k => XS.aload X.here hx rfl (hb hby at_474) rfl rfl k) ?_
    show own_E p e below _ T (mkF m 476 #[iv p0, iv p1, iv p2, iv p3, iv p4, iv p5, iv (own_n s0), iv (own_n w0), iv (own_n q0), iv (own_n q1), iv (own_n q2), rv b47, .unset, .unset, .unset, .unset] [.ref b47])
    refine own_st (fun t k => XS.iload X.here hx rfl (hb hby at_476) rfl k) ?_
    show own_E p e below _ T (mkF m 478 #[iv p0, iv p1, iv p2, iv p3, iv p4, iv p5, iv (own_n s0), iv (own_n w0), iv (own_n q0), iv (own_n q1), iv (own_n q2), rv b47, .unset, .unset, .unset, .unset] [.int (own_n q0), .ref b47])
    refine own_st (fun t k => XS.iloadN X.here hx rfl (hb hby at_478) rfl k) ?_
    show own_E p e below _ T (mkF m 479 #[iv p0, iv p1, iv p2, iv p3, iv p4, iv p5, iv (own_n s0), iv (own_n w0), iv (own_n q0), iv (own_n q1), iv (own_n q2), rv b47, .unset, .unset, .unset, .unset] [.int p3, .int (own_n q0), .ref b47])
    refine own_st (X.ldcInt hx hown (mvT hZ (own_w hw 2 rfl)) (g := (mkF m 479 #[iv p0, iv p1, iv p2, iv p3, iv p4, iv p5, iv (own_n s0), iv (own_n w0), iv (own_n q0), iv (own_n q1), iv (own_n q2), rv b47, .unset, .unset, .unset, .unset] [.int p3, .int (own_n q0), .ref b47])) rfl (hb hby at_479)) ?_
    show own_E p e below _ T (mkF m 481 #[iv p0, iv p1, iv p2, iv p3, iv p4, iv p5, iv (own_n s0), iv (own_n w0), iv (own_n q0), iv (own_n q1), iv (own_n q2), rv b47, .unset, .unset, .unset, .unset] [.int 65535, .int p3, .int (own_n q0), .ref b47])
    refine own_st (fun t k => XS.iand X.here hx rfl (hb hby at_481) rfl k) ?_
    show own_E p e below _ T (mkF m 482 #[iv p0, iv p1, iv p2, iv p3, iv p4, iv p5, iv (own_n s0), iv (own_n w0), iv (own_n q0), iv (own_n q1), iv (own_n q2), rv b47, .unset, .unset, .unset, .unset] [.int (p3 &&& (65535 : Int32)), .int (own_n q0), .ref b47])
    refine own_st (fun t k => XS.i2c X.here hx rfl (hb hby at_482) rfl k) ?_
    show own_E p e below _ T (mkF m 483 #[iv p0, iv p1, iv p2, iv p3, iv p4, iv p5, iv (own_n s0), iv (own_n w0), iv (own_n q0), iv (own_n q1), iv (own_n q2), rv b47, .unset, .unset, .unset, .unset] [.int ((p3 &&& (65535 : Int32)).toUInt32.toUInt16.toUInt32.toInt32), .int (own_n q0), .ref b47])
    obtain ⟨T50, h50, X50, e50, W50, Aw50, st50⟩ := own_A_cst X hx hZ eTl Abase (j := (own_n q0)) (x := ((p3 &&& (65535 : Int32)).toUInt32.toUInt16.toUInt32.toInt32)) (i := q0) (own_n0 (by omega)) (own_nN (by omega)) h_q0 (g := (mkF m 483 #[iv p0, iv p1, iv p2, iv p3, iv p4, iv p5, iv (own_n s0), iv (own_n w0), iv (own_n q0), iv (own_n q1), iv (own_n q2), rv b47, .unset, .unset, .unset, .unset] [.int ((p3 &&& (65535 : Int32)).toUInt32.toUInt16.toUInt32.toInt32), .int (own_n q0), .ref b47])) rfl rfl (hb hby at_483)
    have N50 := Fr.snoc X50 N g_b47
    have Z51 := Nat.le_trans (Nat.le_trans Z0 K.1) (Keep.of_wr W50).1
    have K52 : Keep h0 _ [] := K.wr W50 (Or.inr sz_b47)
    refine own_st st50 ?_
    show own_E p e below _ T50 (mkF m 484 #[iv p0, iv p1, iv p2, iv p3, iv p4, iv p5, iv (own_n s0), iv (own_n w0), iv (own_n q0), iv (own_n q1), iv (own_n q2), rv b47, .unset, .unset, .unset, .unset] [])
    refine own_st (fun t k => XS.aload X50.here hx rfl (hb hby at_484) rfl rfl k) ?_
    show own_E p e below _ T50 (mkF m 486 #[iv p0, iv p1, iv p2, iv p3, iv p4, iv p5, iv (own_n s0), iv (own_n w0), iv (own_n q0), iv (own_n q1), iv (own_n q2), rv b47, .unset, .unset, .unset, .unset] [.ref b47])
    refine own_st (fun t k => XS.iload X50.here hx rfl (hb hby at_486) rfl k) ?_
    show own_E p e below _ T50 (mkF m 488 #[iv p0, iv p1, iv p2, iv p3, iv p4, iv p5, iv (own_n s0), iv (own_n w0), iv (own_n q0), iv (own_n q1), iv (own_n q2), rv b47, .unset, .unset, .unset, .unset] [.int (own_n q1), .ref b47])
    refine own_st (fun t k => XS.iload X50.here hx rfl (hb hby at_488) rfl k) ?_
    show own_E p e below _ T50 (mkF m 490 #[iv p0, iv p1, iv p2, iv p3, iv p4, iv p5, iv (own_n s0), iv (own_n w0), iv (own_n q0), iv (own_n q1), iv (own_n q2), rv b47, .unset, .unset, .unset, .unset] [.int p4, .int (own_n q1), .ref b47])
    refine own_st (X50.ldcInt hx hown (mvT hZ (own_w hw 2 rfl)) (g := (mkF m 490 #[iv p0, iv p1, iv p2, iv p3, iv p4, iv p5, iv (own_n s0), iv (own_n w0), iv (own_n q0), iv (own_n q1), iv (own_n q2), rv b47, .unset, .unset, .unset, .unset] [.int p4, .int (own_n q1), .ref b47])) rfl (hb hby at_490)) ?_
    show own_E p e below _ T50 (mkF m 492 #[iv p0, iv p1, iv p2, iv p3, iv p4, iv p5, iv (own_n s0), iv (own_n w0), iv (own_n q0), iv (own_n q1), iv (own_n q2), rv b47, .unset, .unset, .unset, .unset] [.int 65535, .int p4, .int (own_n q1), .ref b47])
    refine own_st (fun t k => XS.iand X50.here hx rfl (hb hby at_492) rfl k) ?_
    show own_E p e below _ T50 (mkF m 493 #[iv p0, iv p1, iv p2, iv p3, iv p4, iv p5, iv (own_n s0), iv (own_n w0), iv (own_n q0), iv (own_n q1), iv (own_n q2), rv b47, .unset, .unset, .unset, .unset] [.int (p4 &&& (65535 : Int32)), .int (own_n q1), .ref b47])
    refine own_st (fun t k => XS.i2c X50.here hx rfl (hb hby at_493) rfl k) ?_
    show own_E p e below _ T50 (mkF m 494 #[iv p0, iv p1, iv p2, iv p3, iv p4, iv p5, iv (own_n s0), iv (own_n w0), iv (own_n q0), iv (own_n q1), iv (own_n q2), rv b47, .unset, .unset, .unset, .unset] [.int ((p4 &&& (65535 : Int32)).toUInt32.toUInt16.toUInt32.toInt32), .int (own_n q1), .ref b47])
    obtain ⟨T53, h53, X53, e53, W53, Aw53, st53⟩ := own_A_cst X50 hx hZ e50 Aw50 (j := (own_n q1)) (x := ((p4 &&& (65535 : Int32)).toUInt32.toUInt16.toUInt32.toInt32)) (i := q1) (own_n0 (by omega)) (own_nN (by omega)) h_q1 (g := (mkF m 494 #[iv p0, iv p1, iv p2, iv p3, iv p4, iv p5, iv (own_n s0), iv (own_n w0), iv (own_n q0), iv (own_n q1), iv (own_n q2), rv b47, .unset, .unset, .unset, .unset] [.int ((p4 &&& (65535 : Int32)).toUInt32.toUInt16.toUInt32.toInt32), .int (own_n q1), .ref b47])) rfl rfl (hb hby at_494)
    have N53 := Fr.snoc X53 N50 g_b47
    have Z54 := Nat.le_trans Z51 (Keep.of_wr W53).1
    have K55 : Keep h0 _ [] := K52.wr W53 (Or.inr sz_b47)
    refine own_st st53 ?_
    show own_E p e below _ T53 (mkF m 495 #[iv p0, iv p1, iv p2, iv p3, iv p4, iv p5, iv (own_n s0), iv (own_n w0), iv (own_n q0), iv (own_n q1), iv (own_n q2), rv b47, .unset, .unset, .unset, .unset] [])
    refine own_st (fun t k => XS.aload X53.here hx rfl (hb hby at_495) rfl rfl k) ?_
    show own_E p e below _ T53 (mkF m 497 #[iv p0, iv p1, iv p2, iv p3, iv p4, iv p5, iv (own_n s0), iv (own_n w0), iv (own_n q0), iv (own_n q1), iv (own_n q2), rv b47, .unset, .unset, .unset, .unset] [.ref b47])
    refine own_st (fun t k => XS.iload X53.here hx rfl (hb hby at_497) rfl k) ?_
    show own_E p e below _ T53 (mkF m 499 #[iv p0, iv p1, iv p2, iv p3, iv p4, iv p5, iv (own_n s0), iv (own_n w0), iv (own_n q0), iv (own_n q1), iv (own_n q2), rv b47, .unset, .unset, .unset, .unset] [.int (own_n q2), .ref b47])
    refine own_st (fun t k => XS.iload X53.here hx rfl (hb hby at_499) rfl k) ?_
    show own_E p e below _ T53 (mkF m 501 #[iv p0, iv p1, iv p2, iv p3, iv p4, iv p5, iv (own_n s0), iv (own_n w0), iv (own_n q0), iv (own_n q1), iv (own_n q2), rv b47, .unset, .unset, .unset, .unset] [.int p5, .int (own_n q2), .ref b47])
    refine own_st (X53.ldcInt hx hown (mvT hZ (own_w hw 2 rfl)) (g := (mkF m 501 #[iv p0, iv p1, iv p2, iv p3, iv p4, iv p5, iv (own_n s0), iv (own_n w0), iv (own_n q0), iv (own_n q1), iv (own_n q2), rv b47, .unset, .unset, .unset, .unset] [.int p5, .int (own_n q2), .ref b47])) rfl (hb hby at_501)) ?_
    show own_E p e below _ T53 (mkF m 503 #[iv p0, iv p1, iv p2, iv p3, iv p4, iv p5, iv (own_n s0), iv (own_n w0), iv (own_n q0), iv (own_n q1), iv (own_n q2), rv b47, .unset, .unset, .unset, .unset] [.int 65535, .int p5, .int (own_n q2), .ref b47])
    refine own_st (fun t k => XS.iand X53.here hx rfl (hb hby at_503) rfl k) ?_
    show own_E p e below _ T53 (mkF m 504 #[iv p0, iv p1, iv p2, iv p3, iv p4, iv p5, iv (own_n s0), iv (own_n w0), iv (own_n q0), iv (own_n q1), iv (own_n q2), rv b47, .unset, .unset, .unset, .unset] [.int (p5 &&& (65535 : Int32)), .int (own_n q2), .ref b47])
    refine own_st (fun t k => XS.i2c X53.here hx rfl (hb hby at_504) rfl k) ?_
    show own_E p e below _ T53 (mkF m 505 #[iv p0, iv p1, iv p2, iv p3, iv p4, iv p5, iv (own_n s0), iv (own_n w0), iv (own_n q0), iv (own_n q1), iv (own_n q2), rv b47, .unset, .unset, .unset, .unset] [.int ((p5 &&& (65535 : Int32)).toUInt32.toUInt16.toUInt32.toInt32), .int (own_n q2), .ref b47])
    obtain ⟨T56, h56, X56, e56, W56, Aw56, st56⟩ := own_A_cst X53 hx hZ e53 Aw53 (j := (own_n q2)) (x := ((p5 &&& (65535 : Int32)).toUInt32.toUInt16.toUInt32.toInt32)) (i := q2) (own_n0 (by omega)) (own_nN (by omega)) h_q2 (g := (mkF m 505 #[iv p0, iv p1, iv p2, iv p3, iv p4, iv p5, iv (own_n s0), iv (own_n w0), iv (own_n q0), iv (own_n q1), iv (own_n q2), rv b47, .unset, .unset, .unset, .unset] [.int ((p5 &&& (65535 : Int32)).toUInt32.toUInt16.toUInt32.toInt32), .int (own_n q2), .ref b47])) rfl rfl (hb hby at_505)
    have N56 := Fr.snoc X56 N53 g_b47
    have Z57 := Nat.le_trans Z54 (Keep.of_wr W56).1
    have K58 : Keep h0 _ [] := K55.wr W56 (Or.inr sz_b47)
    refine own_st st56 ?_
    show own_E p e below _ T56 (mkF m 506 #[iv p0, iv p1, iv p2, iv p3, iv p4, iv p5, iv (own_n s0), iv (own_n w0), iv (own_n q0), iv (own_n q1), iv (own_n q2), rv b47, .unset, .unset, .unset, .unset] [])
    obtain ⟨f, hC, hall, Af⟩ : ∃ f, own_C f ∧ (own_okp f q0 s0 w0 → own_okp f q1 s0 w0 → own_okp f q2 s0 w0 → ∀ j, s0 ≤ j → j < w0 → own_ok (f j)) ∧ own_A Z h56 b47 .char 70 f := ⟨own_f q0 q1 q2 (nar .char ((p3 &&& (65535 : Int32)).toUInt32.toUInt16.toUInt32.toInt32)) (nar .char ((p4 &&& (65535 : Int32)).toUInt32.toUInt16.toUInt32.toInt32)) (nar .char ((p5 &&& (65535 : Int32)).toUInt32.toUInt16.toUInt32.toInt32)), own_f_C q0 q1 q2 _ _ _ (c_i2c ((p3 &&& (65535 : Int32)).toUInt32.toUInt16.toUInt32.toInt32)).2 (c_i2c ((p4 &&& (65535 : Int32)).toUInt32.toUInt16.toUInt32.toInt32)).2 (c_i2c ((p5 &&& (65535 : Int32)).toUInt32.toUInt16.toUInt32.toInt32)).2, own_f_all q0 q1 q2 s0 w0 _ _ _ (by omega), Aw56⟩
    obtain ⟨T59, h59, X59, e59, E59, A59, D59, -, st59⟩ := newO X56 hx hZ hown (own_w hw 3 rfl) (own_w hw 4 rfl) (own_w hw 5 rfl) e56 (g := (mkF m 506 #[iv p0, iv p1, iv p2, iv p3, iv p4, iv p5, iv (own_n s0), iv (own_n w0), iv (own_n q0), iv (own_n q1), iv (own_n q2), rv b47, .unset, .unset, .unset, .unset] [])) rfl (hb hby at_506) (by decide) (by decide)
    obtain ⟨b59, g59⟩ : ∃ z, z = h56.size := ⟨_, rfl⟩
    rw [← g59] at A59 D59 st59
    have ne_b47_b59 : b47 ≠ b59 := Nat.ne_of_lt (Nat.lt_of_lt_of_le Af.lt (Nat.le_of_eq g59.symm))
    have g_b59 : n0 ≤ b59 := Nat.le_trans Z57 (Nat.le_of_eq g59.symm)
    have sz_b59 : h0.size ≤ b59 := Nat.le_trans K58.1 (Nat.le_of_eq g59.symm)
    have Z60 := Nat.le_trans Z57 E59.1
    have K61 : Keep h0 _ [] := K58.ext E59
    have F_coder_b59 : Fld Z h59 b59 "java/lang/String" "coder" "B" (.int (0 : Int32)) := D59 (Or.inr (own_w hw 29 rfl)) (ty := .byte) (by decide)
    have F_value_b59 : Fld Z h59 b59 "java/lang/String" "value" "[B" .null := D59 (Or.inr (own_w hw 31 rfl)) (ty := (.array .byte)) (by decide)
    refine own_st st59 ?_
    show own_E p e below _ T59 (mkF m 509 #[iv p0, iv p1, iv p2, iv p3, iv p4, iv p5, iv (own_n s0), iv (own_n w0), iv (own_n q0), iv (own_n q1), iv (own_n q2), rv b47, .unset, .unset, .unset, .unset] [.ref b59])
    refine own_st (fun t k => XS.dup X59.here hx rfl (hb hby at_509) rfl rfl k) ?_
    show own_E p e below _ T59 (mkF m 510 #[iv p0, iv p1, iv p2, iv p3, iv p4, iv p5, iv (own_n s0), iv (own_n w0), iv (own_n q0), iv (own_n q1), iv (own_n q2), rv b47, .unset, .unset, .unset, .unset] [.ref b59, .ref b59])
    refine own_st (fun t k => XS.aload X59.here hx rfl (hb hby at_510) rfl rfl k) ?_
    show own_E p e below _ T59 (mkF m 512 #[iv p0, iv p1, iv p2, iv p3, iv p4, iv p5, iv (own_n s0), iv (own_n w0), iv (own_n q0), iv (own_n q1), iv (own_n q2), rv b47, .unset, .unset, .unset, .unset] [.ref b47, .ref b59, .ref b59])
    have B62 := (Af.ext E59)
    obtain ⟨_, _, ⟨T63, L63, k63, n63⟩, -, X63, ⟨Lc63, hQ63, l63, y63, z63⟩, st63⟩ := X59.specialBack hx (y := own_y9) rfl hown (mvT hZ (own_w hw 6 rfl)) (mvT hZ (own_w hw 7 rfl)) (mvT hZ (own_w hw 8 rfl)) (by decide) (backOf (W := 1) (own_new1 l Z a0 hw [] b59 b47 f zc rs h59 n0 Z60 hC hzc (SX.keep K61 ns0) A59 F_value_b59 F_coder_b59 B62 (Ne.symm ne_b47_b59) g_b59) hZ (own_w hw 8 rfl) (own_w hw 5 rfl) (by decide) (by decide)) (g := (mkF m 512 #[iv p0, iv p1, iv p2, iv p3, iv p4, iv p5, iv (own_n s0), iv (own_n w0), iv (own_n q0), iv (own_n q1), iv (own_n q2), rv b47, .unset, .unset, .unset, .unset] [.ref b47, .ref b59, .ref b59])) rfl (by rw [hml]; rfl) (Steps.refl _) (a := b59) (argsL := [(.ref b47)]) (rest := [(.ref b59)]) (lenOf own_pd_15 rfl) rfl (by show 2 * 0 + _ ≤ _; exact Nat.le_of_eq rfl) (hb hby at_512) (fun _ _ => ⟨rfl, e59, (by decide : 2 + 2 ≤ _), (by decide : 74 + 210 ≤ _)⟩)
    dsimp only [Pt.U, Pt.locs, Pt.cells, Pt.slots] at X63 l63 y63 z63 st63 hQ63
    subst l63 y63 z63
    obtain ⟨rfl, Nq63, Kq63, hStr⟩ := hQ63
    have N63 := Fr.app N56 Nq63
    have e63 : T63.heap = T63.heap := rfl
    have Z64 := Nat.le_trans Z60 Kq63.1
    have K65 : Keep h0 _ [] := K61.trans Kq63 (allS (P := fun x => x ∈ [] ∨ h0.size ≤ x) (Or.inr sz_b59) all0)
    refine own_tr st63 ?_
    show own_E p e below _ T63 (mkF m 515 #[iv p0, iv p1, iv p2, iv p3, iv p4, iv p5, iv (own_n s0), iv (own_n w0), iv (own_n q0), iv (own_n q1), iv (own_n q2), rv b47, .unset, .unset, .unset, .unset] [.ref b59])
    refine own_st (fun t k => XS.astore X63.here hx rfl (hb hby at_515) rfl rfl (l' := #[iv p0, iv p1, iv p2, iv p3, iv p4, iv p5, iv (own_n s0), iv (own_n w0), iv (own_n q0), iv (own_n q1), iv (own_n q2), rv b47, rv b59, .unset, .unset, .unset]) rfl k) ?_
    show own_E p e below _ T63 (mkF m 517 #[iv p0, iv p1, iv p2, iv p3, iv p4, iv p5, iv (own_n s0), iv (own_n w0), iv (own_n q0), iv (own_n q1), iv (own_n q2), rv b47, rv b59, .unset, .unset, .unset] [])
    refine own_st (fun t k => XS.aload X63.here hx rfl (hb hby at_517) rfl rfl k) ?_
    show own_E p e below _ T63 (mkF m 519 #[iv p0, iv p1, iv p2, iv p3, iv p4, iv p5, iv (own_n s0), iv (own_n w0), iv (own_n q0), iv (own_n q1), iv (own_n q2), rv b47, rv b59, .unset, .unset, .unset] [.ref b59])
    refine own_st (fun t k => XS.iload X63.here hx rfl (hb hby at_519) rfl k) ?_
    show own_E p e below _ T63 (mkF m 521 #[iv p0, iv p1, iv p2, iv p3, iv p4, iv p5, iv (own_n s0), iv (own_n w0), iv (own_n q0), iv (own_n q1), iv (own_n q2), rv b47, rv b59, .unset, .unset, .unset] [.int (own_n s0), .ref b59])
    refine own_st (fun t k => XS.iload X63.here hx rfl (hb hby at_521) rfl k) ?_
    show own_E p e below _ T63 (mkF m 523 #[iv p0, iv p1, iv p2, iv p3, iv p4, iv p5, iv (own_n s0), iv (own_n w0), iv (own_n q0), iv (own_n q1), iv (own_n q2), rv b47, rv b59, .unset, .unset, .unset] [.int (own_n w0), .int (own_n s0), .ref b59])
    obtain ⟨_, _, ⟨T66, L66, k66, n66⟩, -, X66, ⟨Lc66, hQ66, l66, y66, z66⟩, st66⟩ := Jvm.LawKit.callS X63 hx (y := own_y18) hown (mvT hZ (own_w hw 32 rfl)) (mvT hZ (own_w hw 33 rfl)) (mvT hZ (own_w hw 34 rfl)) (mvT hZ (own_w hw 35 rfl)) (by decide) (backOf (W := 0) (own_iv l Z a0 hw [] b59 s0 w0 f zc rs T63.heap n0 Z64 (by omega) (by omega) hC hzc (SX.keep K65 ns0) hrs hStr) hZ (own_w hw 35 rfl) (own_w hw 34 rfl) (by decide) (by decide)) (g := (mkF m 523 #[iv p0, iv p1, iv p2, iv p3, iv p4, iv p5, iv (own_n s0), iv (own_n w0), iv (own_n q0), iv (own_n q1), iv (own_n q2), rv b47, rv b59, .unset, .unset, .unset] [.int (own_n w0), .int (own_n s0), .ref b59])) rfl (by rw [hml]; rfl) (argsL := [(.ref b59), (.int (own_n s0)), (.int (own_n w0))]) (rest := []) (lenOf own_pd_10 rfl) rfl (by show 2 * 0 + _ ≤ _; exact Nat.le_of_eq rfl) (hb hby at_523) (fun _ _ => ⟨rfl, e63, (by decide : 4 + 0 ≤ _), (by decide : 284 + 0 ≤ _)⟩)
    dsimp only [Pt.U, Pt.locs, Pt.cells, Pt.slots] at X66 l66 y66 z66 st66 hQ66
    subst l66 y66 z66
    obtain ⟨hR66, e66, Nq66⟩ := hQ66
    have N66 := Fr.app N63 Nq66
    rcases hR66 with ⟨rfl, hP⟩ | ⟨rfl, hP⟩
    · refine own_st st66 ?_
      show own_E p e below _ T66 (mkF m 526 #[iv p0, iv p1, iv p2, iv p3, iv p4, iv p5, iv (own_n s0), iv (own_n w0), iv (own_n q0), iv (own_n q1), iv (own_n q2), rv b47, rv b59, .unset, .unset, .unset] [.int 1])
      refine own_st (fun t k => XS.istore X66.here hx rfl (hb hby at_526) rfl (l' := #[iv p0, iv p1, iv p2, iv p3, iv p4, iv p5, iv (own_n s0), iv (own_n w0), iv (own_n q0), iv (own_n q1), iv (own_n q2), rv b47, rv b59, iv 1, .unset, .unset]) rfl k) ?_
      show own_E p e below _ T66 (mkF m 528 #[iv p0, iv p1, iv p2, iv p3, iv p4, iv p5, iv (own_n s0), iv (own_n w0), iv (own_n q0), iv (own_n q1), iv (own_n q2), rv b47, rv b59, iv 1, .unset, .unset] [])
      refine own_st (fun t k => XS.iload X66.here hx rfl (hb hby at_528) rfl k) ?_
      show own_E p e below _ T66 (mkF m 530 #[iv p0, iv p1, iv p2, iv p3, iv p4, iv p5, iv (own_n s0), iv (own_n w0), iv (own_n q0), iv (own_n q1), iv (own_n q2), rv b47, rv b59, iv 1, .unset, .unset] [.int (own_n w0)])
      refine own_st (fun t k => XS.iload X66.here hx rfl (hb hby at_530) rfl k) ?_
      show own_E p e below _ T66 (mkF m 532 #[iv p0, iv p1, iv p2, iv p3, iv p4, iv p5, iv (own_n s0), iv (own_n w0), iv (own_n q0), iv (own_n q1), iv (own_n q2), rv b47, rv b59, iv 1, .unset, .unset] [.int (own_n s0), .int (own_n w0)])
      refine own_st (fun t k => XS.isub X66.here hx rfl (hb hby at_532) rfl k) ?_
      show own_E p e below _ T66 (mkF m 533 #[iv p0, iv p1, iv p2, iv p3, iv p4, iv p5, iv (own_n s0), iv (own_n w0), iv (own_n q0), iv (own_n q1), iv (own_n q2), rv b47, rv b59, iv 1, .unset, .unset] [.int ((own_n w0) - (own_n s0))])
      refine own_st (fun t k => XS.istore X66.here hx rfl (hb hby at_533) rfl (l' := #[iv p0, iv p1, iv p2, iv p3, iv p4, iv p5, iv (own_n s0), iv (own_n w0), iv (own_n q0), iv (own_n q1), iv (own_n q2), rv b47, rv b59, iv 1, iv ((own_n w0) - (own_n s0)), .unset]) rfl k) ?_
      show own_E p e below _ T66 (mkF m 535 #[iv p0, iv p1, iv p2, iv p3, iv p4, iv p5, iv (own_n s0), iv (own_n w0), iv (own_n q0), iv (own_n q1), iv (own_n q2), rv b47, rv b59, iv 1, iv ((own_n w0) - (own_n s0)), .unset] [])
      refine own_st (fun t k => XS.iload X66.here hx rfl (hb hby at_535) rfl k) ?_
      show own_E p e below _ T66 (mkF m 537 #[iv p0, iv p1, iv p2, iv p3, iv p4, iv p5, iv (own_n s0), iv (own_n w0), iv (own_n q0), iv (own_n q1), iv (own_n q2), rv b47, rv b59, iv 1, iv ((own_n w0) - (own_n s0)), .unset] [.int ((own_n w0) - (own_n s0))])
      refine own_st (fun t k => XS.iconst X66.here hx rfl (hb hby at_537) k) ?_
      show own_E p e below _ T66 (mkF m 538 #[iv p0, iv p1, iv p2, iv p3, iv p4, iv p5, iv (own_n s0), iv (own_n w0), iv (own_n q0), iv (own_n q1), iv (own_n q2), rv b47, rv b59, iv 1, iv ((own_n w0) - (own_n s0)), .unset] [.int 1, .int ((own_n w0) - (own_n s0))])
      refine own_st (fun t k => XS.icmpNo X66.here hx rfl (hb hby at_538) rfl (flt hP.1).1 k) ?_
      show own_E p e below _ T66 (mkF m 541 #[iv p0, iv p1, iv p2, iv p3, iv p4, iv p5, iv (own_n s0), iv (own_n w0), iv (own_n q0), iv (own_n q1), iv (own_n q2), rv b47, rv b59, iv 1, iv ((own_n w0) - (own_n s0)), .unset] [])
      refine own_st (fun t k => XS.iload X66.here hx rfl (hb hby at_541) rfl k) ?_
      show own_E p e below _ T66 (mkF m 543 #[iv p0, iv p1, iv p2, iv p3, iv p4, iv p5, iv (own_n s0), iv (own_n w0), iv (own_n q0), iv (own_n q1), iv (own_n q2), rv b47, rv b59, iv 1, iv ((own_n w0) - (own_n s0)), .unset] [.int ((own_n w0) - (own_n s0))])
      refine own_st (fun t k => XS.bipush X66.here hx rfl (hb hby at_543) k) ?_
      show own_E p e below _ T66 (mkF m 545 #[iv p0, iv p1, iv p2, iv p3, iv p4, iv p5, iv (own_n s0), iv (own_n w0), iv (own_n q0), iv (own_n q1), iv (own_n q2), rv b47, rv b59, iv 1, iv ((own_n w0) - (own_n s0)), .unset] [.int 64, .int ((own_n w0) - (own_n s0))])
      refine own_st (fun t k => XS.icmpNo X66.here hx rfl (hb hby at_545) rfl (flt hP.2.1).2.2.1 k) ?_
      show own_E p e below _ T66 (mkF m 548 #[iv p0, iv p1, iv p2, iv p3, iv p4, iv p5, iv (own_n s0), iv (own_n w0), iv (own_n q0), iv (own_n q1), iv (own_n q2), rv b47, rv b59, iv 1, iv ((own_n w0) - (own_n s0)), .unset] [])
      refine own_st (fun t k => XS.aload X66.here hx rfl (hb hby at_548) rfl rfl k) ?_
      show own_E p e below _ T66 (mkF m 550 #[iv p0, iv p1, iv p2, iv p3, iv p4, iv p5, iv (own_n s0), iv (own_n w0), iv (own_n q0), iv (own_n q1), iv (own_n q2), rv b47, rv b59, iv 1, iv ((own_n w0) - (own_n s0)), .unset] [.ref b47])
      refine own_st (fun t k => XS.iload X66.here hx rfl (hb hby at_550) rfl k) ?_
      show own_E p e below _ T66 (mkF m 552 #[iv p0, iv p1, iv p2, iv p3, iv p4, iv p5, iv (own_n s0), iv (own_n w0), iv (own_n q0), iv (own_n q1), iv (own_n q2), rv b47, rv b59, iv 1, iv ((own_n w0) - (own_n s0)), .unset] [.int (own_n q0), .ref b47])
      refine own_st (fun t k => XS.iload X66.here hx rfl (hb hby at_552) rfl k) ?_
      show own_E p e below _ T66 (mkF m 554 #[iv p0, iv p1, iv p2, iv p3, iv p4, iv p5, iv (own_n s0), iv (own_n w0), iv (own_n q0), iv (own_n q1), iv (own_n q2), rv b47, rv b59, iv 1, iv ((own_n w0) - (own_n s0)), .unset] [.int (own_n s0), .int (own_n q0), .ref b47])
      refine own_st (fun t k => XS.iload X66.here hx rfl (hb hby at_554) rfl k) ?_
      show own_E p e below _ T66 (mkF m 556 #[iv p0, iv p1, iv p2, iv p3, iv p4, iv p5, iv (own_n s0), iv (own_n w0), iv (own_n q0), iv (own_n q1), iv (own_n q2), rv b47, rv b59, iv 1, iv ((own_n w0) - (own_n s0)), .unset] [.int (own_n w0), .int (own_n s0), .int (own_n q0), .ref b47])
      have B67 := (B62.keep Kq63 (ninS ne_b47_b59 nin0))
      obtain ⟨_, _, ⟨T68, L68, k68, n68⟩, -, X68, ⟨Lc68, hQ68, l68, y68, z68⟩, st68⟩ := Jvm.LawKit.callS X66 hx (y := own_y20) hown (mvT hZ (own_w hw 58 rfl)) (mvT hZ (own_w hw 59 rfl)) (mvT hZ (own_w hw 60 rfl)) (mvT hZ (own_w hw 61 rfl)) (by decide) (backOf (W := 0) (own_okb l Z a0 hw [] b47 q0 s0 w0 f T63.heap n0 Z64 h_q0 (by omega) (by omega) B67) hZ (own_w hw 61 rfl) (own_w hw 60 rfl) (by decide) (by decide)) (g := (mkF m 556 #[iv p0, iv p1, iv p2, iv p3, iv p4, iv p5, iv (own_n s0), iv (own_n w0), iv (own_n q0), iv (own_n q1), iv (own_n q2), rv b47, rv b59, iv 1, iv ((own_n w0) - (own_n s0)), .unset] [.int (own_n w0), .int (own_n s0), .int (own_n q0), .ref b47])) rfl (by rw [hml]; rfl) (argsL := [(.ref b47), (.int (own_n q0)), (.int (own_n s0)), (.int (own_n w0))]) (rest := []) (lenOf own_pd_17 rfl) rfl (by show 2 * 0 + _ ≤ _; exact Nat.le_of_eq rfl) (hb hby at_556) (fun _ _ => ⟨rfl, e66, (by decide : 4 + 0 ≤ _), (by decide : 284 + 0 ≤ _)⟩)
      dsimp only [Pt.U, Pt.locs, Pt.cells, Pt.slots] at X68 l68 y68 z68 st68 hQ68
      subst l68 y68 z68
      obtain ⟨hR68, e68, rfl⟩ := hQ68
      have N68 := Fr.app N66 (Fr.nil n0)
      rcases hR68 with ⟨rfl, k_q0⟩ | ⟨rfl, k_q0⟩
      · refine own_st st68 ?_
        show own_E p e below _ T68 (mkF m 559 #[iv p0, iv p1, iv p2, iv p3, iv p4, iv p5, iv (own_n s0), iv (own_n w0), iv (own_n q0), iv (own_n q1), iv (own_n q2), rv b47, rv b59, iv 1, iv ((own_n w0) - (own_n s0)), .unset] [.int 1])
        refine own_st (fun t k => XS.ifNo X68.here hx rfl (hb hby at_559) rfl (by decide) k) ?_
        show own_E p e below _ T68 (mkF m 562 #[iv p0, iv p1, iv p2, iv p3, iv p4, iv p5, iv (own_n s0), iv (own_n w0), iv (own_n q0), iv (own_n q1), iv (own_n q2), rv b47, rv b59, iv 1, iv ((own_n w0) - (own_n s0)), .unset] [])
        refine own_st (fun t k => XS.aload X68.here hx rfl (hb hby at_562) rfl rfl k) ?_
        show own_E p e below _ T68 (mkF m 564 #[iv p0, iv p1, iv p2, iv p3, iv p4, iv p5, iv (own_n s0), iv (own_n w0), iv (own_n q0), iv (own_n q1), iv (own_n q2), rv b47, rv b59, iv 1, iv ((own_n w0) - (own_n s0)), .unset] [.ref b47])
        refine own_st (fun t k => XS.iload X68.here hx rfl (hb hby at_564) rfl k) ?_
        show own_E p e below _ T68 (mkF m 566 #[iv p0, iv p1, iv p2, iv p3, iv p4, iv p5, iv (own_n s0), iv (own_n w0), iv (own_n q0), iv (own_n q1), iv (own_n q2), rv b47, rv b59, iv 1, iv ((own_n w0) - (own_n s0)), .unset] [.int (own_n q1), .ref b47])
        refine own_st (fun t k => XS.iload X68.here hx rfl (hb hby at_566) rfl k) ?_
        show own_E p e below _ T68 (mkF m 568 #[iv p0, iv p1, iv p2, iv p3, iv p4, iv p5, iv (own_n s0), iv (own_n w0), iv (own_n q0), iv (own_n q1), iv (own_n q2), rv b47, rv b59, iv 1, iv ((own_n w0) - (own_n s0)), .unset] [.int (own_n s0), .int (own_n q1), .ref b47])
        refine own_st (fun t k => XS.iload X68.here hx rfl (hb hby at_568) rfl k) ?_
        show own_E p e below _ T68 (mkF m 570 #[iv p0, iv p1, iv p2, iv p3, iv p4, iv p5, iv (own_n s0), iv (own_n w0), iv (own_n q0), iv (own_n q1), iv (own_n q2), rv b47, rv b59, iv 1, iv ((own_n w0) - (own_n s0)), .unset] [.int (own_n w0), .int (own_n s0), .int (own_n q1), .ref b47])
        obtain ⟨_, _, ⟨T69, L69, k69, n69⟩, -, X69, ⟨Lc69, hQ69, l69, y69, z69⟩, st69⟩ := Jvm.LawKit.callS X68 hx (y := own_y20) hown (mvT hZ (own_w hw 58 rfl)) (mvT hZ (own_w hw 59 rfl)) (mvT hZ (own_w hw 60 rfl)) (mvT hZ (own_w hw 61 rfl)) (by decide) (backOf (W := 0) (own_okb l Z a0 hw [] b47 q1 s0 w0 f T63.heap n0 Z64 h_q1 (by omega) (by omega) B67) hZ (own_w hw 61 rfl) (own_w hw 60 rfl) (by decide) (by decide)) (g := (mkF m 570 #[iv p0, iv p1, iv p2, iv p3, iv p4, iv p5, iv (own_n s0), iv (own_n w0), iv (own_n q0), iv (own_n q1), iv (own_n q2), rv b47, rv b59, iv 1, iv ((own_n w0) - (own_n s0)), .unset] [.int (own_n w0), .int (own_n s0), .int (own_n q1), .ref b47])) rfl (by rw [hml]; rfl) (argsL := [(.ref b47), (.int (own_n q1)), (.int (own_n s0)), (.int (own_n w0))]) (rest := []) (lenOf own_pd_17 rfl) rfl (by show 2 * 0 + _ ≤ _; exact Nat.le_of_eq rfl) (hb hby at_570) (fun _ _ => ⟨rfl, e68, (by decide : 4 + 0 ≤ _), (by decide : 284 + 0 ≤ _)⟩)
        dsimp only [Pt.U, Pt.locs, Pt.cells, Pt.slots] at X69 l69 y69 z69 st69 hQ69
        subst l69 y69 z69
        obtain ⟨hR69, e69, rfl⟩ := hQ69
        have N69 := Fr.app N68 (Fr.nil n0)
        rcases hR69 with ⟨rfl, k_q1⟩ | ⟨rfl, k_q1⟩
        · refine own_st st69 ?_
          show own_E p e below _ T69 (mkF m 573 #[iv p0, iv p1, iv p2, iv p3, iv p4, iv p5, iv (own_n s0), iv (own_n w0), iv (own_n q0), iv (own_n q1), iv (own_n q2), rv b47, rv b59, iv 1, iv ((own_n w0) - (own_n s0)), .unset] [.int 1])
          refine own_st (fun t k => XS.ifNo X69.here hx rfl (hb hby at_573) rfl (by decide) k) ?_
          show own_E p e below _ T69 (mkF m 576 #[iv p0, iv p1, iv p2, iv p3, iv p4, iv p5, iv (own_n s0), iv (own_n w0), iv (own_n q0), iv (own_n q1), iv (own_n q2), rv b47, rv b59, iv 1, iv ((own_n w0) - (own_n s0)), .unset] [])
          refine own_st (fun t k => XS.aload X69.here hx rfl (hb hby at_576) rfl rfl k) ?_
          show own_E p e below _ T69 (mkF m 578 #[iv p0, iv p1, iv p2, iv p3, iv p4, iv p5, iv (own_n s0), iv (own_n w0), iv (own_n q0), iv (own_n q1), iv (own_n q2), rv b47, rv b59, iv 1, iv ((own_n w0) - (own_n s0)), .unset] [.ref b47])
          refine own_st (fun t k => XS.iload X69.here hx rfl (hb hby at_578) rfl k) ?_
          show own_E p e below _ T69 (mkF m 580 #[iv p0, iv p1, iv p2, iv p3, iv p4, iv p5, iv (own_n s0), iv (own_n w0), iv (own_n q0), iv (own_n q1), iv (own_n q2), rv b47, rv b59, iv 1, iv ((own_n w0) - (own_n s0)), .unset] [.int (own_n q2), .ref b47])
          refine own_st (fun t k => XS.iload X69.here hx rfl (hb hby at_580) rfl k) ?_
          show own_E p e below _ T69 (mkF m 582 #[iv p0, iv p1, iv p2, iv p3, iv p4, iv p5, iv (own_n s0), iv (own_n w0), iv (own_n q0), iv (own_n q1), iv (own_n q2), rv b47, rv b59, iv 1, iv ((own_n w0) - (own_n s0)), .unset] [.int (own_n s0), .int (own_n q2), .ref b47])
          refine own_st (fun t k => XS.iload X69.here hx rfl (hb hby at_582) rfl k) ?_
          show own_E p e below _ T69 (mkF m 584 #[iv p0, iv p1, iv p2, iv p3, iv p4, iv p5, iv (own_n s0), iv (own_n w0), iv (own_n q0), iv (own_n q1), iv (own_n q2), rv b47, rv b59, iv 1, iv ((own_n w0) - (own_n s0)), .unset] [.int (own_n w0), .int (own_n s0), .int (own_n q2), .ref b47])
          obtain ⟨_, _, ⟨T70, L70, k70, n70⟩, -, X70, ⟨Lc70, hQ70, l70, y70, z70⟩, st70⟩ := Jvm.LawKit.callS X69 hx (y := own_y20) hown (mvT hZ (own_w hw 58 rfl)) (mvT hZ (own_w hw 59 rfl)) (mvT hZ (own_w hw 60 rfl)) (mvT hZ (own_w hw 61 rfl)) (by decide) (backOf (W := 0) (own_okb l Z a0 hw [] b47 q2 s0 w0 f T63.heap n0 Z64 h_q2 (by omega) (by omega) B67) hZ (own_w hw 61 rfl) (own_w hw 60 rfl) (by decide) (by decide)) (g := (mkF m 584 #[iv p0, iv p1, iv p2, iv p3, iv p4, iv p5, iv (own_n s0), iv (own_n w0), iv (own_n q0), iv (own_n q1), iv (own_n q2), rv b47, rv b59, iv 1, iv ((own_n w0) - (own_n s0)), .unset] [.int (own_n w0), .int (own_n s0), .int (own_n q2), .ref b47])) rfl (by rw [hml]; rfl) (argsL := [(.ref b47), (.int (own_n q2)), (.int (own_n s0)), (.int (own_n w0))]) (rest := []) (lenOf own_pd_17 rfl) rfl (by show 2 * 0 + _ ≤ _; exact Nat.le_of_eq rfl) (hb hby at_584) (fun _ _ => ⟨rfl, e69, (by decide : 4 + 0 ≤ _), (by decide : 284 + 0 ≤ _)⟩)
          dsimp only [Pt.U, Pt.locs, Pt.cells, Pt.slots] at X70 l70 y70 z70 st70 hQ70
          subst l70 y70 z70
          obtain ⟨hR70, e70, rfl⟩ := hQ70
          have N70 := Fr.app N69 (Fr.nil n0)
          rcases hR70 with ⟨rfl, k_q2⟩ | ⟨rfl, k_q2⟩
          · refine own_st st70 ?_
            show own_E p e below _ T70 (mkF m 587 #[iv p0, iv p1, iv p2, iv p3, iv p4, iv p5, iv (own_n s0), iv (own_n w0), iv (own_n q0), iv (own_n q1), iv (own_n q2), rv b47, rv b59, iv 1, iv ((own_n w0) - (own_n s0)), .unset] [.int 1])
            refine own_st (fun t k => XS.ifNo X70.here hx rfl (hb hby at_587) rfl (by decide) k) ?_
            show own_E p e below _ T70 (mkF m 590 #[iv p0, iv p1, iv p2, iv p3, iv p4, iv p5, iv (own_n s0), iv (own_n w0), iv (own_n q0), iv (own_n q1), iv (own_n q2), rv b47, rv b59, iv 1, iv ((own_n w0) - (own_n s0)), .unset] [])
            refine own_st (fun t k => XS.iconst X70.here hx rfl (hb hby at_590) k) ?_
            show own_E p e below _ T70 (mkF m 591 #[iv p0, iv p1, iv p2, iv p3, iv p4, iv p5, iv (own_n s0), iv (own_n w0), iv (own_n q0), iv (own_n q1), iv (own_n q2), rv b47, rv b59, iv 1, iv ((own_n w0) - (own_n s0)), .unset] [.int 1])
            refine own_st (fun t k => XS.goto X70.here hx rfl (pc0 := 591) (pc' := 595) rfl (hb hby at_591) (by decide) (by decide) k) ?_
            show own_E p e below _ T70 (mkF m 595 #[iv p0, iv p1, iv p2, iv p3, iv p4, iv p5, iv (own_n s0), iv (own_n w0), iv (own_n q0), iv (own_n q1), iv (own_n q2), rv b47, rv b59, iv 1, iv ((own_n w0) - (own_n s0)), .unset] [.int 1])
            refine own_st (fun t k => XS.istore X70.here hx rfl (hb hby at_595) rfl (l' := #[iv p0, iv p1, iv p2, iv p3, iv p4, iv p5, iv (own_n s0), iv (own_n w0), iv (own_n q0), iv (own_n q1), iv (own_n q2), rv b47, rv b59, iv 1, iv ((own_n w0) - (own_n s0)), iv 1]) rfl k) ?_
            show own_E p e below _ T70 (mkF m 597 #[iv p0, iv p1, iv p2, iv p3, iv p4, iv p5, iv (own_n s0), iv (own_n w0), iv (own_n q0), iv (own_n q1), iv (own_n q2), rv b47, rv b59, iv 1, iv ((own_n w0) - (own_n s0)), iv 1] [])
            refine own_st (fun t k => XS.iload X70.here hx rfl (hb hby at_597) rfl k) ?_
            show own_E p e below _ T70 (mkF m 599 #[iv p0, iv p1, iv p2, iv p3, iv p4, iv p5, iv (own_n s0), iv (own_n w0), iv (own_n q0), iv (own_n q1), iv (own_n q2), rv b47, rv b59, iv 1, iv ((own_n w0) - (own_n s0)), iv 1] [.int 1])
            refine own_st (fun t k => XS.iload X70.here hx rfl (hb hby at_599) rfl k) ?_
            show own_E p e below _ T70 (mkF m 601 #[iv p0, iv p1, iv p2, iv p3, iv p4, iv p5, iv (own_n s0), iv (own_n w0), iv (own_n q0), iv (own_n q1), iv (own_n q2), rv b47, rv b59, iv 1, iv ((own_n w0) - (own_n s0)), iv 1] [.int 1, .int 1])
            refine own_st (fun t k => XS.icmpNo X70.here hx rfl (hb hby at_601) rfl (by decide) k) ?_
            show own_E p e below _ T70 (mkF m 604 #[iv p0, iv p1, iv p2, iv p3, iv p4, iv p5, iv (own_n s0), iv (own_n w0), iv (own_n q0), iv (own_n q1), iv (own_n q2), rv b47, rv b59, iv 1, iv ((own_n w0) - (own_n s0)), iv 1] [])
            refine own_st (fun t k => XS.iconst X70.here hx rfl (hb hby at_604) k) ?_
            show own_E p e below _ T70 (mkF m 605 #[iv p0, iv p1, iv p2, iv p3, iv p4, iv p5, iv (own_n s0), iv (own_n w0), iv (own_n q0), iv (own_n q1), iv (own_n q2), rv b47, rv b59, iv 1, iv ((own_n w0) - (own_n s0)), iv 1] [.int 1])
            refine own_st (fun t k => XS.goto X70.here hx rfl (pc0 := 605) (pc' := 609) rfl (hb hby at_605) (by decide) (by decide) k) ?_
            show own_E p e below _ T70 (mkF m 609 #[iv p0, iv p1, iv p2, iv p3, iv p4, iv p5, iv (own_n s0), iv (own_n w0), iv (own_n q0), iv (own_n q1), iv (own_n q2), rv b47, rv b59, iv 1, iv ((own_n w0) - (own_n s0)), iv 1] [.int 1])
            refine own_retS X70 hx Bd.notSynchronized Bd.returns rfl (by decide) (hb hby at_609) (by decide) (by decide) ?_
            exact ⟨rfl, N70⟩
          · refine own_st st70 ?_
            show own_E p e below _ T70 (mkF m 587 #[iv p0, iv p1, iv p2, iv p3, iv p4, iv p5, iv (own_n s0), iv (own_n w0), iv (own_n q0), iv (own_n q1), iv (own_n q2), rv b47, rv b59, iv 1, iv ((own_n w0) - (own_n s0)), .unset] [.int 0])
            refine own_st (fun t k => XS.ifYes X70.here hx rfl (pc0 := 587) (pc' := 594) rfl (hb hby at_587) rfl (by decide) (by decide) (by decide) k) ?_
            show own_E p e below _ T70 (mkF m 594 #[iv p0, iv p1, iv p2, iv p3, iv p4, iv p5, iv (own_n s0), iv (own_n w0), iv (own_n q0), iv (own_n q1), iv (own_n q2), rv b47, rv b59, iv 1, iv ((own_n w0) - (own_n s0)), .unset] [])
            refine own_st (fun t k => XS.iconst X70.here hx rfl (hb hby at_594) k) ?_
            show own_E p e below _ T70 (mkF m 595 #[iv p0, iv p1, iv p2, iv p3, iv p4, iv p5, iv (own_n s0), iv (own_n w0), iv (own_n q0), iv (own_n q1), iv (own_n q2), rv b47, rv b59, iv 1, iv ((own_n w0) - (own_n s0)), .unset] [.int 0])
            refine own_st (fun t k => XS.istore X70.here hx rfl (hb hby at_595) rfl (l' := #[iv p0, iv p1, iv p2, iv p3, iv p4, iv p5, iv (own_n s0), iv (own_n w0), iv (own_n q0), iv (own_n q1), iv (own_n q2), rv b47, rv b59, iv 1, iv ((own_n w0) - (own_n s0)), iv 0]) rfl k) ?_
            show own_E p e below _ T70 (mkF m 597 #[iv p0, iv p1, iv p2, iv p3, iv p4, iv p5, iv (own_n s0), iv (own_n w0), iv (own_n q0), iv (own_n q1), iv (own_n q2), rv b47, rv b59, iv 1, iv ((own_n w0) - (own_n s0)), iv 0] [])
            refine own_st (fun t k => XS.iload X70.here hx rfl (hb hby at_597) rfl k) ?_
            show own_E p e below _ T70 (mkF m 599 #[iv p0, iv p1, iv p2, iv p3, iv p4, iv p5, iv (own_n s0), iv (own_n w0), iv (own_n q0), iv (own_n q1), iv (own_n q2), rv b47, rv b59, iv 1, iv ((own_n w0) - (own_n s0)), iv 0] [.int 1])
            refine own_st (fun t k => XS.iload X70.here hx rfl (hb hby at_599) rfl k) ?_
            show own_E p e below _ T70 (mkF m 601 #[iv p0, iv p1, iv p2, iv p3, iv p4, iv p5, iv (own_n s0), iv (own_n w0), iv (own_n q0), iv (own_n q1), iv (own_n q2), rv b47, rv b59, iv 1, iv ((own_n w0) - (own_n s0)), iv 0] [.int 0, .int 1])
            refine own_st (fun t k => XS.icmpYes X70.here hx rfl (pc0 := 601) (pc' := 608) rfl (hb hby at_601) rfl (by decide) (by decide) (by decide) k) ?_
            show own_E p e below _ T70 (mkF m 608 #[iv p0, iv p1, iv p2, iv p3, iv p4, iv p5, iv (own_n s0), iv (own_n w0), iv (own_n q0), iv (own_n q1), iv (own_n q2), rv b47, rv b59, iv 1, iv ((own_n w0) - (own_n s0)), iv 0] [])
            refine own_st (fun t k => XS.iconst X70.here hx rfl (hb hby at_608) k) ?_
            show own_E p e below _ T70 (mkF m 609 #[iv p0, iv p1, iv p2, iv p3, iv p4, iv p5, iv (own_n s0), iv (own_n w0), iv (own_n q0), iv (own_n q1), iv (own_n q2), rv b47, rv b59, iv 1, iv ((own_n w0) - (own_n s0)), iv 0] [.int 0])
            refine own_retS X70 hx Bd.notSynchronized Bd.returns rfl (by decide) (hb hby at_609) (by decide) (by decide) ?_
            exact absurd (fun h1 h2 => hP.2.2 q2 h1 h2) k_q2
        · refine own_st st69 ?_
          show own_E p e below _ T69 (mkF m 573 #[iv p0, iv p1, iv p2, iv p3, iv p4, iv p5, iv (own_n s0), iv (own_n w0), iv (own_n q0), iv (own_n q1), iv (own_n q2), rv b47, rv b59, iv 1, iv ((own_n w0) - (own_n s0)), .unset] [.int 0])
          refine own_st (fun t k => XS.ifYes X69.here hx rfl (pc0 := 573) (pc' := 594) rfl (hb hby at_573) rfl (by decide) (by decide) (by decide) k) ?_
          show own_E p e below _ T69 (mkF m 594 #[iv p0, iv p1, iv p2, iv p3, iv p4, iv p5, iv (own_n s0), iv (own_n w0), iv (own_n q0), iv (own_n q1), iv (own_n q2), rv b47, rv b59, iv 1, iv ((own_n w0) - (own_n s0)), .unset] [])
          refine own_st (fun t k => XS.iconst X69.here hx rfl (hb hby at_594) k) ?_
          show own_E p e below _ T69 (mkF m 595 #[iv p0, iv p1, iv p2, iv p3, iv p4, iv p5, iv (own_n s0), iv (own_n w0), iv (own_n q0), iv (own_n q1), iv (own_n q2), rv b47, rv b59, iv 1, iv ((own_n w0) - (own_n s0)), .unset] [.int 0])
          refine own_st (fun t k => XS.istore X69.here hx rfl (hb hby at_595) rfl (l' := #[iv p0, iv p1, iv p2, iv p3, iv p4, iv p5, iv (own_n s0), iv (own_n w0), iv (own_n q0), iv (own_n q1), iv (own_n q2), rv b47, rv b59, iv 1, iv ((own_n w0) - (own_n s0)), iv 0]) rfl k) ?_
          show own_E p e below _ T69 (mkF m 597 #[iv p0, iv p1, iv p2, iv p3, iv p4, iv p5, iv (own_n s0), iv (own_n w0), iv (own_n q0), iv (own_n q1), iv (own_n q2), rv b47, rv b59, iv 1, iv ((own_n w0) - (own_n s0)), iv 0] [])
          refine own_st (fun t k => XS.iload X69.here hx rfl (hb hby at_597) rfl k) ?_
          show own_E p e below _ T69 (mkF m 599 #[iv p0, iv p1, iv p2, iv p3, iv p4, iv p5, iv (own_n s0), iv (own_n w0), iv (own_n q0), iv (own_n q1), iv (own_n q2), rv b47, rv b59, iv 1, iv ((own_n w0) - (own_n s0)), iv 0] [.int 1])
          refine own_st (fun t k => XS.iload X69.here hx rfl (hb hby at_599) rfl k) ?_
          show own_E p e below _ T69 (mkF m 601 #[iv p0, iv p1, iv p2, iv p3, iv p4, iv p5, iv (own_n s0), iv (own_n w0), iv (own_n q0), iv (own_n q1), iv (own_n q2), rv b47, rv b59, iv 1, iv ((own_n w0) - (own_n s0)), iv 0] [.int 0, .int 1])
          refine own_st (fun t k => XS.icmpYes X69.here hx rfl (pc0 := 601) (pc' := 608) rfl (hb hby at_601) rfl (by decide) (by decide) (by decide) k) ?_
          show own_E p e below _ T69 (mkF m 608 #[iv p0, iv p1, iv p2, iv p3, iv p4, iv p5, iv (own_n s0), iv (own_n w0), iv (own_n q0), iv (own_n q1), iv (own_n q2), rv b47, rv b59, iv 1, iv ((own_n w0) - (own_n s0)), iv 0] [])
          refine own_st (fun t k => XS.iconst X69.here hx rfl (hb hby at_608) k) ?_
          show own_E p e below _ T69 (mkF m 609 #[iv p0, iv p1, iv p2, iv p3, iv p4, iv p5, iv (own_n s0), iv (own_n w0), iv (own_n q0), iv (own_n q1), iv (own_n q2), rv b47, rv b59, iv 1, iv ((own_n w0) - (own_n s0)), iv 0] [.int 0])
          refine own_retS X69 hx Bd.notSynchronized Bd.returns rfl (by decide) (hb hby at_609) (by decide) (by decide) ?_
          exact absurd (fun h1 h2 => hP.2.2 q1 h1 h2) k_q1
      · refine own_st st68 ?_
        show own_E p e below _ T68 (mkF m 559 #[iv p0, iv p1, iv p2, iv p3, iv p4, iv p5, iv (own_n s0), iv (own_n w0), iv (own_n q0), iv (own_n q1), iv (own_n q2), rv b47, rv b59, iv 1, iv ((own_n w0) - (own_n s0)), .unset] [.int 0])
        refine own_st (fun t k => XS.ifYes X68.here hx rfl (pc0 := 559) (pc' := 594) rfl (hb hby at_559) rfl (by decide) (by decide) (by decide) k) ?_
        show own_E p e below _ T68 (mkF m 594 #[iv p0, iv p1, iv p2, iv p3, iv p4, iv p5, iv (own_n s0), iv (own_n w0), iv (own_n q0), iv (own_n q1), iv (own_n q2), rv b47, rv b59, iv 1, iv ((own_n w0) - (own_n s0)), .unset] [])
        refine own_st (fun t k => XS.iconst X68.here hx rfl (hb hby at_594) k) ?_
        show own_E p e below _ T68 (mkF m 595 #[iv p0, iv p1, iv p2, iv p3, iv p4, iv p5, iv (own_n s0), iv (own_n w0), iv (own_n q0), iv (own_n q1), iv (own_n q2), rv b47, rv b59, iv 1, iv ((own_n w0) - (own_n s0)), .unset] [.int 0])
        refine own_st (fun t k => XS.istore X68.here hx rfl (hb hby at_595) rfl (l' := #[iv p0, iv p1, iv p2, iv p3, iv p4, iv p5, iv (own_n s0), iv (own_n w0), iv (own_n q0), iv (own_n q1), iv (own_n q2), rv b47, rv b59, iv 1, iv ((own_n w0) - (own_n s0)), iv 0]) rfl k) ?_
        show own_E p e below _ T68 (mkF m 597 #[iv p0, iv p1, iv p2, iv p3, iv p4, iv p5, iv (own_n s0), iv (own_n w0), iv (own_n q0), iv (own_n q1), iv (own_n q2), rv b47, rv b59, iv 1, iv ((own_n w0) - (own_n s0)), iv 0] [])
        refine own_st (fun t k => XS.iload X68.here hx rfl (hb hby at_597) rfl k) ?_
        show own_E p e below _ T68 (mkF m 599 #[iv p0, iv p1, iv p2, iv p3, iv p4, iv p5, iv (own_n s0), iv (own_n w0), iv (own_n q0), iv (own_n q1), iv (own_n q2), rv b47, rv b59, iv 1, iv ((own_n w0) - (own_n s0)), iv 0] [.int 1])
        refine own_st (fun t k => XS.iload X68.here hx rfl (hb hby at_599) rfl k) ?_
        show own_E p e below _ T68 (mkF m 601 #[iv p0, iv p1, iv p2, iv p3, iv p4, iv p5, iv (own_n s0), iv (own_n w0), iv (own_n q0), iv (own_n q1), iv (own_n q2), rv b47, rv b59, iv 1, iv ((own_n w0) - (own_n s0)), iv 0] [.int 0, .int 1])
        refine own_st (fun t k => XS.icmpYes X68.here hx rfl (pc0 := 601) (pc' := 608) rfl (hb hby at_601) rfl (by decide) (by decide) (by decide) k) ?_
        show own_E p e below _ T68 (mkF m 608 #[iv p0, iv p1, iv p2, iv p3, iv p4, iv p5, iv (own_n s0), iv (own_n w0), iv (own_n q0), iv (own_n q1), iv (own_n q2), rv b47, rv b59, iv 1, iv ((own_n w0) - (own_n s0)), iv 0] [])
        refine own_st (fun t k => XS.iconst X68.here hx rfl (hb hby at_608) k) ?_
        show own_E p e below _ T68 (mkF m 609 #[iv p0, iv p1, iv p2, iv p3, iv p4, iv p5, iv (own_n s0), iv (own_n w0), iv (own_n q0), iv (own_n q1), iv (own_n q2), rv b47, rv b59, iv 1, iv ((own_n w0) - (own_n s0)), iv 0] [.int 0])
        refine own_retS X68 hx Bd.notSynchronized Bd.returns rfl (by decide) (hb hby at_609) (by decide) (by decide) ?_
        exact absurd (fun h1 h2 => hP.2.2 q0 h1 h2) k_q0
    · refine own_st st66 ?_
      show own_E p e below _ T66 (mkF m 526 #[iv p0, iv p1, iv p2, iv p3, iv p4, iv p5, iv (own_n s0), iv (own_n w0), iv (own_n q0), iv (own_n q1), iv (own_n q2), rv b47, rv b59, .unset, .unset, .unset] [.int 0])
      refine own_st (fun t k => XS.istore X66.here hx rfl (hb hby at_526) rfl (l' := #[iv p0, iv p1, iv p2, iv p3, iv p4, iv p5, iv (own_n s0), iv (own_n w0), iv (own_n q0), iv (own_n q1), iv (own_n q2), rv b47, rv b59, iv 0, .unset, .unset]) rfl k) ?_
      show own_E p e below _ T66 (mkF m 528 #[iv p0, iv p1, iv p2, iv p3, iv p4, iv p5, iv (own_n s0), iv (own_n w0), iv (own_n q0), iv (own_n q1), iv (own_n q2), rv b47, rv b59, iv 0, .unset, .unset] [])
      refine own_st (fun t k => XS.iload X66.here hx rfl (hb hby at_528) rfl k) ?_
      show own_E p e below _ T66 (mkF m 530 #[iv p0, iv p1, iv p2, iv p3, iv p4, iv p5, iv (own_n s0), iv (own_n w0), iv (own_n q0), iv (own_n q1), iv (own_n q2), rv b47, rv b59, iv 0, .unset, .unset] [.int (own_n w0)])
      refine own_st (fun t k => XS.iload X66.here hx rfl (hb hby at_530) rfl k) ?_
      show own_E p e below _ T66 (mkF m 532 #[iv p0, iv p1, iv p2, iv p3, iv p4, iv p5, iv (own_n s0), iv (own_n w0), iv (own_n q0), iv (own_n q1), iv (own_n q2), rv b47, rv b59, iv 0, .unset, .unset] [.int (own_n s0), .int (own_n w0)])
      refine own_st (fun t k => XS.isub X66.here hx rfl (hb hby at_532) rfl k) ?_
      show own_E p e below _ T66 (mkF m 533 #[iv p0, iv p1, iv p2, iv p3, iv p4, iv p5, iv (own_n s0), iv (own_n w0), iv (own_n q0), iv (own_n q1), iv (own_n q2), rv b47, rv b59, iv 0, .unset, .unset] [.int ((own_n w0) - (own_n s0))])
      refine own_st (fun t k => XS.istore X66.here hx rfl (hb hby at_533) rfl (l' := #[iv p0, iv p1, iv p2, iv p3, iv p4, iv p5, iv (own_n s0), iv (own_n w0), iv (own_n q0), iv (own_n q1), iv (own_n q2), rv b47, rv b59, iv 0, iv ((own_n w0) - (own_n s0)), .unset]) rfl k) ?_
      show own_E p e below _ T66 (mkF m 535 #[iv p0, iv p1, iv p2, iv p3, iv p4, iv p5, iv (own_n s0), iv (own_n w0), iv (own_n q0), iv (own_n q1), iv (own_n q2), rv b47, rv b59, iv 0, iv ((own_n w0) - (own_n s0)), .unset] [])
      refine own_st (fun t k => XS.iload X66.here hx rfl (hb hby at_535) rfl k) ?_
      show own_E p e below _ T66 (mkF m 537 #[iv p0, iv p1, iv p2, iv p3, iv p4, iv p5, iv (own_n s0), iv (own_n w0), iv (own_n q0), iv (own_n q1), iv (own_n q2), rv b47, rv b59, iv 0, iv ((own_n w0) - (own_n s0)), .unset] [.int ((own_n w0) - (own_n s0))])
      refine own_st (fun t k => XS.iconst X66.here hx rfl (hb hby at_537) k) ?_
      show own_E p e below _ T66 (mkF m 538 #[iv p0, iv p1, iv p2, iv p3, iv p4, iv p5, iv (own_n s0), iv (own_n w0), iv (own_n q0), iv (own_n q1), iv (own_n q2), rv b47, rv b59, iv 0, iv ((own_n w0) - (own_n s0)), .unset] [.int 1, .int ((own_n w0) - (own_n s0))])
      by_cases hc71 : ((own_n w0) - (own_n s0)) < (1 : Int32)
      · refine own_st (fun t k => XS.icmpYes X66.here hx rfl (pc0 := 538) (pc' := 594) rfl (hb hby at_538) rfl (tlt hc71).1 (by decide) (by decide) k) ?_
        show own_E p e below _ T66 (mkF m 594 #[iv p0, iv p1, iv p2, iv p3, iv p4, iv p5, iv (own_n s0), iv (own_n w0), iv (own_n q0), iv (own_n q1), iv (own_n q2), rv b47, rv b59, iv 0, iv ((own_n w0) - (own_n s0)), .unset] [])
        refine own_st (fun t k => XS.iconst X66.here hx rfl (hb hby at_594) k) ?_
        show own_E p e below _ T66 (mkF m 595 #[iv p0, iv p1, iv p2, iv p3, iv p4, iv p5, iv (own_n s0), iv (own_n w0), iv (own_n q0), iv (own_n q1), iv (own_n q2), rv b47, rv b59, iv 0, iv ((own_n w0) - (own_n s0)), .unset] [.int 0])
        refine own_st (fun t k => XS.istore X66.here hx rfl (hb hby at_595) rfl (l' := #[iv p0, iv p1, iv p2, iv p3, iv p4, iv p5, iv (own_n s0), iv (own_n w0), iv (own_n q0), iv (own_n q1), iv (own_n q2), rv b47, rv b59, iv 0, iv ((own_n w0) - (own_n s0)), iv 0]) rfl k) ?_
        show own_E p e below _ T66 (mkF m 597 #[iv p0, iv p1, iv p2, iv p3, iv p4, iv p5, iv (own_n s0), iv (own_n w0), iv (own_n q0), iv (own_n q1), iv (own_n q2), rv b47, rv b59, iv 0, iv ((own_n w0) - (own_n s0)), iv 0] [])
        refine own_st (fun t k => XS.iload X66.here hx rfl (hb hby at_597) rfl k) ?_
        show own_E p e below _ T66 (mkF m 599 #[iv p0, iv p1, iv p2, iv p3, iv p4, iv p5, iv (own_n s0), iv (own_n w0), iv (own_n q0), iv (own_n q1), iv (own_n q2), rv b47, rv b59, iv 0, iv ((own_n w0) - (own_n s0)), iv 0] [.int 0])
        refine own_st (fun t k => XS.iload X66.here hx rfl (hb hby at_599) rfl k) ?_
        show own_E p e below _ T66 (mkF m 601 #[iv p0, iv p1, iv p2, iv p3, iv p4, iv p5, iv (own_n s0), iv (own_n w0), iv (own_n q0), iv (own_n q1), iv (own_n q2), rv b47, rv b59, iv 0, iv ((own_n w0) - (own_n s0)), iv 0] [.int 0, .int 0])
        refine own_st (fun t k => XS.icmpNo X66.here hx rfl (hb hby at_601) rfl (by decide) k) ?_
        show own_E p e below _ T66 (mkF m 604 #[iv p0, iv p1, iv p2, iv p3, iv p4, iv p5, iv (own_n s0), iv (own_n w0), iv (own_n q0), iv (own_n q1), iv (own_n q2), rv b47, rv b59, iv 0, iv ((own_n w0) - (own_n s0)), iv 0] [])
        refine own_st (fun t k => XS.iconst X66.here hx rfl (hb hby at_604) k) ?_
        show own_E p e below _ T66 (mkF m 605 #[iv p0, iv p1, iv p2, iv p3, iv p4, iv p5, iv (own_n s0), iv (own_n w0), iv (own_n q0), iv (own_n q1), iv (own_n q2), rv b47, rv b59, iv 0, iv ((own_n w0) - (own_n s0)), iv 0] [.int 1])
        refine own_st (fun t k => XS.goto X66.here hx rfl (pc0 := 605) (pc' := 609) rfl (hb hby at_605) (by decide) (by decide) k) ?_
        show own_E p e below _ T66 (mkF m 609 #[iv p0, iv p1, iv p2, iv p3, iv p4, iv p5, iv (own_n s0), iv (own_n w0), iv (own_n q0), iv (own_n q1), iv (own_n q2), rv b47, rv b59, iv 0, iv ((own_n w0) - (own_n s0)), iv 0] [.int 1])
        refine own_retS X66 hx Bd.notSynchronized Bd.returns rfl (by decide) (hb hby at_609) (by decide) (by decide) ?_
        exact ⟨rfl, N66⟩
      · refine own_st (fun t k => XS.icmpNo X66.here hx rfl (hb hby at_538) rfl (flt hc71).1 k) ?_
        show own_E p e below _ T66 (mkF m 541 #[iv p0, iv p1, iv p2, iv p3, iv p4, iv p5, iv (own_n s0), iv (own_n w0), iv (own_n q0), iv (own_n q1), iv (own_n q2), rv b47, rv b59, iv 0, iv ((own_n w0) - (own_n s0)), .unset] [])
        refine own_st (fun t k => XS.iload X66.here hx rfl (hb hby at_541) rfl k) ?_
        show own_E p e below _ T66 (mkF m 543 #[iv p0, iv p1, iv p2, iv p3, iv p4, iv p5, iv (own_n s0), iv (own_n w0), iv (own_n q0), iv (own_n q1), iv (own_n q2), rv b47, rv b59, iv 0, iv ((own_n w0) - (own_n s0)), .unset] [.int ((own_n w0) - (own_n s0))])
        refine own_st (fun t k => XS.bipush X66.here hx rfl (hb hby at_543) k) ?_
        show own_E p e below _ T66 (mkF m 545 #[iv p0, iv p1, iv p2, iv p3, iv p4, iv p5, iv (own_n s0), iv (own_n w0), iv (own_n q0), iv (own_n q1), iv (own_n q2), rv b47, rv b59, iv 0, iv ((own_n w0) - (own_n s0)), .unset] [.int 64, .int ((own_n w0) - (own_n s0))])
        by_cases hc72 : (64 : Int32) < ((own_n w0) - (own_n s0))
        · refine own_st (fun t k => XS.icmpYes X66.here hx rfl (pc0 := 545) (pc' := 594) rfl (hb hby at_545) rfl (tlt hc72).2.2.1 (by decide) (by decide) k) ?_
          show own_E p e below _ T66 (mkF m 594 #[iv p0, iv p1, iv p2, iv p3, iv p4, iv p5, iv (own_n s0), iv (own_n w0), iv (own_n q0), iv (own_n q1), iv (own_n q2), rv b47, rv b59, iv 0, iv ((own_n w0) - (own_n s0)), .unset] [])
          refine own_st (fun t k => XS.iconst X66.here hx rfl (hb hby at_594) k) ?_
          show own_E p e below _ T66 (mkF m 595 #[iv p0, iv p1, iv p2, iv p3, iv p4, iv p5, iv (own_n s0), iv (own_n w0), iv (own_n q0), iv (own_n q1), iv (own_n q2), rv b47, rv b59, iv 0, iv ((own_n w0) - (own_n s0)), .unset] [.int 0])
          refine own_st (fun t k => XS.istore X66.here hx rfl (hb hby at_595) rfl (l' := #[iv p0, iv p1, iv p2, iv p3, iv p4, iv p5, iv (own_n s0), iv (own_n w0), iv (own_n q0), iv (own_n q1), iv (own_n q2), rv b47, rv b59, iv 0, iv ((own_n w0) - (own_n s0)), iv 0]) rfl k) ?_
          show own_E p e below _ T66 (mkF m 597 #[iv p0, iv p1, iv p2, iv p3, iv p4, iv p5, iv (own_n s0), iv (own_n w0), iv (own_n q0), iv (own_n q1), iv (own_n q2), rv b47, rv b59, iv 0, iv ((own_n w0) - (own_n s0)), iv 0] [])
          refine own_st (fun t k => XS.iload X66.here hx rfl (hb hby at_597) rfl k) ?_
          show own_E p e below _ T66 (mkF m 599 #[iv p0, iv p1, iv p2, iv p3, iv p4, iv p5, iv (own_n s0), iv (own_n w0), iv (own_n q0), iv (own_n q1), iv (own_n q2), rv b47, rv b59, iv 0, iv ((own_n w0) - (own_n s0)), iv 0] [.int 0])
          refine own_st (fun t k => XS.iload X66.here hx rfl (hb hby at_599) rfl k) ?_
          show own_E p e below _ T66 (mkF m 601 #[iv p0, iv p1, iv p2, iv p3, iv p4, iv p5, iv (own_n s0), iv (own_n w0), iv (own_n q0), iv (own_n q1), iv (own_n q2), rv b47, rv b59, iv 0, iv ((own_n w0) - (own_n s0)), iv 0] [.int 0, .int 0])
          refine own_st (fun t k => XS.icmpNo X66.here hx rfl (hb hby at_601) rfl (by decide) k) ?_
          show own_E p e below _ T66 (mkF m 604 #[iv p0, iv p1, iv p2, iv p3, iv p4, iv p5, iv (own_n s0), iv (own_n w0), iv (own_n q0), iv (own_n q1), iv (own_n q2), rv b47, rv b59, iv 0, iv ((own_n w0) - (own_n s0)), iv 0] [])
          refine own_st (fun t k => XS.iconst X66.here hx rfl (hb hby at_604) k) ?_
          show own_E p e below _ T66 (mkF m 605 #[iv p0, iv p1, iv p2, iv p3, iv p4, iv p5, iv (own_n s0), iv (own_n w0), iv (own_n q0), iv (own_n q1), iv (own_n q2), rv b47, rv b59, iv 0, iv ((own_n w0) - (own_n s0)), iv 0] [.int 1])
          refine own_st (fun t k => XS.goto X66.here hx rfl (pc0 := 605) (pc' := 609) rfl (hb hby at_605) (by decide) (by decide) k) ?_
          show own_E p e below _ T66 (mkF m 609 #[iv p0, iv p1, iv p2, iv p3, iv p4, iv p5, iv (own_n s0), iv (own_n w0), iv (own_n q0), iv (own_n q1), iv (own_n q2), rv b47, rv b59, iv 0, iv ((own_n w0) - (own_n s0)), iv 0] [.int 1])
          refine own_retS X66 hx Bd.notSynchronized Bd.returns rfl (by decide) (hb hby at_609) (by decide) (by decide) ?_
          exact ⟨rfl, N66⟩
        · refine own_st (fun t k => XS.icmpNo X66.here hx rfl (hb hby at_545) rfl (flt hc72).2.2.1 k) ?_
          show own_E p e below _ T66 (mkF m 548 #[iv p0, iv p1, iv p2, iv p3, iv p4, iv p5, iv (own_n s0), iv (own_n w0), iv (own_n q0), iv (own_n q1), iv (own_n q2), rv b47, rv b59, iv 0, iv ((own_n w0) - (own_n s0)), .unset] [])
          refine own_st (fun t k => XS.aload X66.here hx rfl (hb hby at_548) rfl rfl k) ?_
          show own_E p e below _ T66 (mkF m 550 #[iv p0, iv p1, iv p2, iv p3, iv p4, iv p5, iv (own_n s0), iv (own_n w0), iv (own_n q0), iv (own_n q1), iv (own_n q2), rv b47, rv b59, iv 0, iv ((own_n w0) - (own_n s0)), .unset] [.ref b47])
          refine own_st (fun t k => XS.iload X66.here hx rfl (hb hby at_550) rfl k) ?_
          show own_E p e below _ T66 (mkF m 552 #[iv p0, iv p1, iv p2, iv p3, iv p4, iv p5, iv (own_n s0), iv (own_n w0), iv (own_n q0), iv (own_n q1), iv (own_n q2), rv b47, rv b59, iv 0, iv ((own_n w0) - (own_n s0)), .unset] [.int (own_n q0), .ref b47])
          refine own_st (fun t k => XS.iload X66.here hx rfl (hb hby at_552) rfl k) ?_
          show own_E p e below _ T66 (mkF m 554 #[iv p0, iv p1, iv p2, iv p3, iv p4, iv p5, iv (own_n s0), iv (own_n w0), iv (own_n q0), iv (own_n q1), iv (own_n q2), rv b47, rv b59, iv 0, iv ((own_n w0) - (own_n s0)), .unset] [.int (own_n s0), .int (own_n q0), .ref b47])
          refine own_st (fun t k => XS.iload X66.here hx rfl (hb hby at_554) rfl k) ?_
          show own_E p e below _ T66 (mkF m 556 #[iv p0, iv p1, iv p2, iv p3, iv p4, iv p5, iv (own_n s0), iv (own_n w0), iv (own_n q0), iv (own_n q1), iv (own_n q2), rv b47, rv b59, iv 0, iv ((own_n w0) - (own_n s0)), .unset] [.int (own_n w0), .int (own_n s0), .int (own_n q0), .ref b47])
          have B73 := (B62.keep Kq63 (ninS ne_b47_b59 nin0))
          obtain ⟨_, _, ⟨T74, L74, k74, n74⟩, -, X74, ⟨Lc74, hQ74, l74, y74, z74⟩, st74⟩ := Jvm.LawKit.callS X66 hx (y := own_y20) hown (mvT hZ (own_w hw 58 rfl)) (mvT hZ (own_w hw 59 rfl)) (mvT hZ (own_w hw 60 rfl)) (mvT hZ (own_w hw 61 rfl)) (by decide) (backOf (W := 0) (own_okb l Z a0 hw [] b47 q0 s0 w0 f T63.heap n0 Z64 h_q0 (by omega) (by omega) B73) hZ (own_w hw 61 rfl) (own_w hw 60 rfl) (by decide) (by decide)) (g := (mkF m 556 #[iv p0, iv p1, iv p2, iv p3, iv p4, iv p5, iv (own_n s0), iv (own_n w0), iv (own_n q0), iv (own_n q1), iv (own_n q2), rv b47, rv b59, iv 0, iv ((own_n w0) - (own_n s0)), .unset] [.int (own_n w0), .int (own_n s0), .int (own_n q0), .ref b47])) rfl (by rw [hml]; rfl) (argsL := [(.ref b47), (.int (own_n q0)), (.int (own_n s0)), (.int (own_n w0))]) (rest := []) (lenOf own_pd_17 rfl) rfl (by show 2 * 0 + _ ≤ _; exact Nat.le_of_eq rfl) (hb hby at_556) (fun _ _ => ⟨rfl, e66, (by decide : 4 + 0 ≤ _), (by decide : 284 + 0 ≤ _)⟩)
          dsimp only [Pt.U, Pt.locs, Pt.cells, Pt.slots] at X74 l74 y74 z74 st74 hQ74
          subst l74 y74 z74
          obtain ⟨hR74, e74, rfl⟩ := hQ74
          have N74 := Fr.app N66 (Fr.nil n0)
          rcases hR74 with ⟨rfl, k_q0⟩ | ⟨rfl, k_q0⟩
          · refine own_st st74 ?_
            show own_E p e below _ T74 (mkF m 559 #[iv p0, iv p1, iv p2, iv p3, iv p4, iv p5, iv (own_n s0), iv (own_n w0), iv (own_n q0), iv (own_n q1), iv (own_n q2), rv b47, rv b59, iv 0, iv ((own_n w0) - (own_n s0)), .unset] [.int 1])
            refine own_st (fun t k => XS.ifNo X74.here hx rfl (hb hby at_559) rfl (by decide) k) ?_
            show own_E p e below _ T74 (mkF m 562 #[iv p0, iv p1, iv p2, iv p3, iv p4, iv p5, iv (own_n s0), iv (own_n w0), iv (own_n q0), iv (own_n q1), iv (own_n q2), rv b47, rv b59, iv 0, iv ((own_n w0) - (own_n s0)), .unset] [])
            refine own_st (fun t k => XS.aload X74.here hx rfl (hb hby at_562) rfl rfl k) ?_
            show own_E p e below _ T74 (mkF m 564 #[iv p0, iv p1, iv p2, iv p3, iv p4, iv p5, iv (own_n s0), iv (own_n w0), iv (own_n q0), iv (own_n q1), iv (own_n q2), rv b47, rv b59, iv 0, iv ((own_n w0) - (own_n s0)), .unset] [.ref b47])
            refine own_st (fun t k => XS.iload X74.here hx rfl (hb hby at_564) rfl k) ?_
            show own_E p e below _ T74 (mkF m 566 #[iv p0, iv p1, iv p2, iv p3, iv p4, iv p5, iv (own_n s0), iv (own_n w0), iv (own_n q0), iv (own_n q1), iv (own_n q2), rv b47, rv b59, iv 0, iv ((own_n w0) - (own_n s0)), .unset] [.int (own_n q1), .ref b47])
            refine own_st (fun t k => XS.iload X74.here hx rfl (hb hby at_566) rfl k) ?_
            show own_E p e below _ T74 (mkF m 568 #[iv p0, iv p1, iv p2, iv p3, iv p4, iv p5, iv (own_n s0), iv (own_n w0), iv (own_n q0), iv (own_n q1), iv (own_n q2), rv b47, rv b59, iv 0, iv ((own_n w0) - (own_n s0)), .unset] [.int (own_n s0), .int (own_n q1), .ref b47])
            refine own_st (fun t k => XS.iload X74.here hx rfl (hb hby at_568) rfl k) ?_
            show own_E p e below _ T74 (mkF m 570 #[iv p0, iv p1, iv p2, iv p3, iv p4, iv p5, iv (own_n s0), iv (own_n w0), iv (own_n q0), iv (own_n q1), iv (own_n q2), rv b47, rv b59, iv 0, iv ((own_n w0) - (own_n s0)), .unset] [.int (own_n w0), .int (own_n s0), .int (own_n q1), .ref b47])
            obtain ⟨_, _, ⟨T75, L75, k75, n75⟩, -, X75, ⟨Lc75, hQ75, l75, y75, z75⟩, st75⟩ := Jvm.LawKit.callS X74 hx (y := own_y20) hown (mvT hZ (own_w hw 58 rfl)) (mvT hZ (own_w hw 59 rfl)) (mvT hZ (own_w hw 60 rfl)) (mvT hZ (own_w hw 61 rfl)) (by decide) (backOf (W := 0) (own_okb l Z a0 hw [] b47 q1 s0 w0 f T63.heap n0 Z64 h_q1 (by omega) (by omega) B73) hZ (own_w hw 61 rfl) (own_w hw 60 rfl) (by decide) (by decide)) (g := (mkF m 570 #[iv p0, iv p1, iv p2, iv p3, iv p4, iv p5, iv (own_n s0), iv (own_n w0), iv (own_n q0), iv (own_n q1), iv (own_n q2), rv b47, rv b59, iv 0, iv ((own_n w0) - (own_n s0)), .unset] [.int (own_n w0), .int (own_n s0), .int (own_n q1), .ref b47])) rfl (by rw [hml]; rfl) (argsL := [(.ref b47), (.int (own_n q1)), (.int (own_n s0)), (.int (own_n w0))]) (rest := []) (lenOf own_pd_17 rfl) rfl (by show 2 * 0 + _ ≤ _; exact Nat.le_of_eq rfl) (hb hby at_570) (fun _ _ => ⟨rfl, e74, (by decide : 4 + 0 ≤ _), (by decide : 284 + 0 ≤ _)⟩)
            dsimp only [Pt.U, Pt.locs, Pt.cells, Pt.slots] at X75 l75 y75 z75 st75 hQ75
            subst l75 y75 z75
            obtain ⟨hR75, e75, rfl⟩ := hQ75
            have N75 := Fr.app N74 (Fr.nil n0)
            rcases hR75 with ⟨rfl, k_q1⟩ | ⟨rfl, k_q1⟩
            · refine own_st st75 ?_
              show own_E p e below _ T75 (mkF m 573 #[iv p0, iv p1, iv p2, iv p3, iv p4, iv p5, iv (own_n s0), iv (own_n w0), iv (own_n q0), iv (own_n q1), iv (own_n q2), rv b47, rv b59, iv 0, iv ((own_n w0) - (own_n s0)), .unset] [.int 1])
              refine own_st (fun t k => XS.ifNo X75.here hx rfl (hb hby at_573) rfl (by decide) k) ?_
              show own_E p e below _ T75 (mkF m 576 #[iv p0, iv p1, iv p2, iv p3, iv p4, iv p5, iv (own_n s0), iv (own_n w0), iv (own_n q0), iv (own_n q1), iv (own_n q2), rv b47, rv b59, iv 0, iv ((own_n w0) - (own_n s0)), .unset] [])
              refine own_st (fun t k => XS.aload X75.here hx rfl (hb hby at_576) rfl rfl k) ?_
              show own_E p e below _ T75 (mkF m 578 #[iv p0, iv p1, iv p2, iv p3, iv p4, iv p5, iv (own_n s0), iv (own_n w0), iv (own_n q0), iv (own_n q1), iv (own_n q2), rv b47, rv b59, iv 0, iv ((own_n w0) - (own_n s0)), .unset] [.ref b47])
              refine own_st (fun t k => XS.iload X75.here hx rfl (hb hby at_578) rfl k) ?_
              show own_E p e below _ T75 (mkF m 580 #[iv p0, iv p1, iv p2, iv p3, iv p4, iv p5, iv (own_n s0), iv (own_n w0), iv (own_n q0), iv (own_n q1), iv (own_n q2), rv b47, rv b59, iv 0, iv ((own_n w0) - (own_n s0)), .unset] [.int (own_n q2), .ref b47])
              refine own_st (fun t k => XS.iload X75.here hx rfl (hb hby at_580) rfl k) ?_
              show own_E p e below _ T75 (mkF m 582 #[iv p0, iv p1, iv p2, iv p3, iv p4, iv p5, iv (own_n s0), iv (own_n w0), iv (own_n q0), iv (own_n q1), iv (own_n q2), rv b47, rv b59, iv 0, iv ((own_n w0) - (own_n s0)), .unset] [.int (own_n s0), .int (own_n q2), .ref b47])
              refine own_st (fun t k => XS.iload X75.here hx rfl (hb hby at_582) rfl k) ?_
              show own_E p e below _ T75 (mkF m 584 #[iv p0, iv p1, iv p2, iv p3, iv p4, iv p5, iv (own_n s0), iv (own_n w0), iv (own_n q0), iv (own_n q1), iv (own_n q2), rv b47, rv b59, iv 0, iv ((own_n w0) - (own_n s0)), .unset] [.int (own_n w0), .int (own_n s0), .int (own_n q2), .ref b47])
              obtain ⟨_, _, ⟨T76, L76, k76, n76⟩, -, X76, ⟨Lc76, hQ76, l76, y76, z76⟩, st76⟩ := Jvm.LawKit.callS X75 hx (y := own_y20) hown (mvT hZ (own_w hw 58 rfl)) (mvT hZ (own_w hw 59 rfl)) (mvT hZ (own_w hw 60 rfl)) (mvT hZ (own_w hw 61 rfl)) (by decide) (backOf (W := 0) (own_okb l Z a0 hw [] b47 q2 s0 w0 f T63.heap n0 Z64 h_q2 (by omega) (by omega) B73) hZ (own_w hw 61 rfl) (own_w hw 60 rfl) (by decide) (by decide)) (g := (mkF m 584 #[iv p0, iv p1, iv p2, iv p3, iv p4, iv p5, iv (own_n s0), iv (own_n w0), iv (own_n q0), iv (own_n q1), iv (own_n q2), rv b47, rv b59, iv 0, iv ((own_n w0) - (own_n s0)), .unset] [.int (own_n w0), .int (own_n s0), .int (own_n q2), .ref b47])) rfl (by rw [hml]; rfl) (argsL := [(.ref b47), (.int (own_n q2)), (.int (own_n s0)), (.int (own_n w0))]) (rest := []) (lenOf own_pd_17 rfl) rfl (by show 2 * 0 + _ ≤ _; exact Nat.le_of_eq rfl) (hb hby at_584) (fun _ _ => ⟨rfl, e75, (by decide : 4 + 0 ≤ _), (by decide : 284 + 0 ≤ _)⟩)
              dsimp only [Pt.U, Pt.locs, Pt.cells, Pt.slots] at X76 l76 y76 z76 st76 hQ76
              subst l76 y76 z76
              obtain ⟨hR76, e76, rfl⟩ := hQ76
              have N76 := Fr.app N75 (Fr.nil n0)
              rcases hR76 with ⟨rfl, k_q2⟩ | ⟨rfl, k_q2⟩
              · refine own_st st76 ?_
                show own_E p e below _ T76 (mkF m 587 #[iv p0, iv p1, iv p2, iv p3, iv p4, iv p5, iv (own_n s0), iv (own_n w0), iv (own_n q0), iv (own_n q1), iv (own_n q2), rv b47, rv b59, iv 0, iv ((own_n w0) - (own_n s0)), .unset] [.int 1])
                refine own_st (fun t k => XS.ifNo X76.here hx rfl (hb hby at_587) rfl (by decide) k) ?_
                show own_E p e below _ T76 (mkF m 590 #[iv p0, iv p1, iv p2, iv p3, iv p4, iv p5, iv (own_n s0), iv (own_n w0), iv (own_n q0), iv (own_n q1), iv (own_n q2), rv b47, rv b59, iv 0, iv ((own_n w0) - (own_n s0)), .unset] [])
                refine own_st (fun t k => XS.iconst X76.here hx rfl (hb hby at_590) k) ?_
                show own_E p e below _ T76 (mkF m 591 #[iv p0, iv p1, iv p2, iv p3, iv p4, iv p5, iv (own_n s0), iv (own_n w0), iv (own_n q0), iv (own_n q1), iv (own_n q2), rv b47, rv b59, iv 0, iv ((own_n w0) - (own_n s0)), .unset] [.int 1])
                refine own_st (fun t k => XS.goto X76.here hx rfl (pc0 := 591) (pc' := 595) rfl (hb hby at_591) (by decide) (by decide) k) ?_
                show own_E p e below _ T76 (mkF m 595 #[iv p0, iv p1, iv p2, iv p3, iv p4, iv p5, iv (own_n s0), iv (own_n w0), iv (own_n q0), iv (own_n q1), iv (own_n q2), rv b47, rv b59, iv 0, iv ((own_n w0) - (own_n s0)), .unset] [.int 1])
                refine own_st (fun t k => XS.istore X76.here hx rfl (hb hby at_595) rfl (l' := #[iv p0, iv p1, iv p2, iv p3, iv p4, iv p5, iv (own_n s0), iv (own_n w0), iv (own_n q0), iv (own_n q1), iv (own_n q2), rv b47, rv b59, iv 0, iv ((own_n w0) - (own_n s0)), iv 1]) rfl k) ?_
                show own_E p e below _ T76 (mkF m 597 #[iv p0, iv p1, iv p2, iv p3, iv p4, iv p5, iv (own_n s0), iv (own_n w0), iv (own_n q0), iv (own_n q1), iv (own_n q2), rv b47, rv b59, iv 0, iv ((own_n w0) - (own_n s0)), iv 1] [])
                refine own_st (fun t k => XS.iload X76.here hx rfl (hb hby at_597) rfl k) ?_
                show own_E p e below _ T76 (mkF m 599 #[iv p0, iv p1, iv p2, iv p3, iv p4, iv p5, iv (own_n s0), iv (own_n w0), iv (own_n q0), iv (own_n q1), iv (own_n q2), rv b47, rv b59, iv 0, iv ((own_n w0) - (own_n s0)), iv 1] [.int 0])
                refine own_st (fun t k => XS.iload X76.here hx rfl (hb hby at_599) rfl k) ?_
                show own_E p e below _ T76 (mkF m 601 #[iv p0, iv p1, iv p2, iv p3, iv p4, iv p5, iv (own_n s0), iv (own_n w0), iv (own_n q0), iv (own_n q1), iv (own_n q2), rv b47, rv b59, iv 0, iv ((own_n w0) - (own_n s0)), iv 1] [.int 1, .int 0])
                refine own_st (fun t k => XS.icmpYes X76.here hx rfl (pc0 := 601) (pc' := 608) rfl (hb hby at_601) rfl (by decide) (by decide) (by decide) k) ?_
                show own_E p e below _ T76 (mkF m 608 #[iv p0, iv p1, iv p2, iv p3, iv p4, iv p5, iv (own_n s0), iv (own_n w0), iv (own_n q0), iv (own_n q1), iv (own_n q2), rv b47, rv b59, iv 0, iv ((own_n w0) - (own_n s0)), iv 1] [])
                refine own_st (fun t k => XS.iconst X76.here hx rfl (hb hby at_608) k) ?_
                show own_E p e below _ T76 (mkF m 609 #[iv p0, iv p1, iv p2, iv p3, iv p4, iv p5, iv (own_n s0), iv (own_n w0), iv (own_n q0), iv (own_n q1), iv (own_n q2), rv b47, rv b59, iv 0, iv ((own_n w0) - (own_n s0)), iv 1] [.int 0])
                refine own_retS X76 hx Bd.notSynchronized Bd.returns rfl (by decide) (hb hby at_609) (by decide) (by decide) ?_
                exact absurd ⟨hc71, hc72, hall k_q0 k_q1 k_q2⟩ hP
              · refine own_st st76 ?_
                show own_E p e below _ T76 (mkF m 587 #[iv p0, iv p1, iv p2, iv p3, iv p4, iv p5, iv (own_n s0), iv (own_n w0), iv (own_n q0), iv (own_n q1), iv (own_n q2), rv b47, rv b59, iv 0, iv ((own_n w0) - (own_n s0)), .unset] [.int 0])
                refine own_st (fun t k => XS.ifYes X76.here hx rfl (pc0 := 587) (pc' := 594) rfl (hb hby at_587) rfl (by decide) (by decide) (by decide) k) ?_
                show own_E p e below _ T76 (mkF m 594 #[iv p0, iv p1, iv p2, iv p3, iv p4, iv p5, iv (own_n s0), iv (own_n w0), iv (own_n q0), iv (own_n q1), iv (own_n q2), rv b47, rv b59, iv 0, iv ((own_n w0) - (own_n s0)), .unset] [])
                refine own_st (fun t k => XS.iconst X76.here hx rfl (hb hby at_594) k) ?_
                show own_E p e below _ T76 (mkF m 595 #[iv p0, iv p1, iv p2, iv p3, iv p4, iv p5, iv (own_n s0), iv (own_n w0), iv (own_n q0), iv (own_n q1), iv (own_n q2), rv b47, rv b59, iv 0, iv ((own_n w0) - (own_n s0)), .unset] [.int 0])
                refine own_st (fun t k => XS.istore X76.here hx rfl (hb hby at_595) rfl (l' := #[iv p0, iv p1, iv p2, iv p3, iv p4, iv p5, iv (own_n s0), iv (own_n w0), iv (own_n q0), iv (own_n q1), iv (own_n q2), rv b47, rv b59, iv 0, iv ((own_n w0) - (own_n s0)), iv 0]) rfl k) ?_
                show own_E p e below _ T76 (mkF m 597 #[iv p0, iv p1, iv p2, iv p3, iv p4, iv p5, iv (own_n s0), iv (own_n w0), iv (own_n q0), iv (own_n q1), iv (own_n q2), rv b47, rv b59, iv 0, iv ((own_n w0) - (own_n s0)), iv 0] [])
                refine own_st (fun t k => XS.iload X76.here hx rfl (hb hby at_597) rfl k) ?_
                show own_E p e below _ T76 (mkF m 599 #[iv p0, iv p1, iv p2, iv p3, iv p4, iv p5, iv (own_n s0), iv (own_n w0), iv (own_n q0), iv (own_n q1), iv (own_n q2), rv b47, rv b59, iv 0, iv ((own_n w0) - (own_n s0)), iv 0] [.int 0])
                refine own_st (fun t k => XS.iload X76.here hx rfl (hb hby at_599) rfl k) ?_
                show own_E p e below _ T76 (mkF m 601 #[iv p0, iv p1, iv p2, iv p3, iv p4, iv p5, iv (own_n s0), iv (own_n w0), iv (own_n q0), iv (own_n q1), iv (own_n q2), rv b47, rv b59, iv 0, iv ((own_n w0) - (own_n s0)), iv 0] [.int 0, .int 0])
                refine own_st (fun t k => XS.icmpNo X76.here hx rfl (hb hby at_601) rfl (by decide) k) ?_
                show own_E p e below _ T76 (mkF m 604 #[iv p0, iv p1, iv p2, iv p3, iv p4, iv p5, iv (own_n s0), iv (own_n w0), iv (own_n q0), iv (own_n q1), iv (own_n q2), rv b47, rv b59, iv 0, iv ((own_n w0) - (own_n s0)), iv 0] [])
                refine own_st (fun t k => XS.iconst X76.here hx rfl (hb hby at_604) k) ?_
                show own_E p e below _ T76 (mkF m 605 #[iv p0, iv p1, iv p2, iv p3, iv p4, iv p5, iv (own_n s0), iv (own_n w0), iv (own_n q0), iv (own_n q1), iv (own_n q2), rv b47, rv b59, iv 0, iv ((own_n w0) - (own_n s0)), iv 0] [.int 1])
                refine own_st (fun t k => XS.goto X76.here hx rfl (pc0 := 605) (pc' := 609) rfl (hb hby at_605) (by decide) (by decide) k) ?_
                show own_E p e below _ T76 (mkF m 609 #[iv p0, iv p1, iv p2, iv p3, iv p4, iv p5, iv (own_n s0), iv (own_n w0), iv (own_n q0), iv (own_n q1), iv (own_n q2), rv b47, rv b59, iv 0, iv ((own_n w0) - (own_n s0)), iv 0] [.int 1])
                refine own_retS X76 hx Bd.notSynchronized Bd.returns rfl (by decide) (hb hby at_609) (by decide) (by decide) ?_
                exact ⟨rfl, N76⟩
            · refine own_st st75 ?_
              show own_E p e below _ T75 (mkF m 573 #[iv p0, iv p1, iv p2, iv p3, iv p4, iv p5, iv (own_n s0), iv (own_n w0), iv (own_n q0), iv (own_n q1), iv (own_n q2), rv b47, rv b59, iv 0, iv ((own_n w0) - (own_n s0)), .unset] [.int 0])
              refine own_st (fun t k => XS.ifYes X75.here hx rfl (pc0 := 573) (pc' := 594) rfl (hb hby at_573) rfl (by decide) (by decide) (by decide) k) ?_
              show own_E p e below _ T75 (mkF m 594 #[iv p0, iv p1, iv p2, iv p3, iv p4, iv p5, iv (own_n s0), iv (own_n w0), iv (own_n q0), iv (own_n q1), iv (own_n q2), rv b47, rv b59, iv 0, iv ((own_n w0) - (own_n s0)), .unset] [])
              refine own_st (fun t k => XS.iconst X75.here hx rfl (hb hby at_594) k) ?_
              show own_E p e below _ T75 (mkF m 595 #[iv p0, iv p1, iv p2, iv p3, iv p4, iv p5, iv (own_n s0), iv (own_n w0), iv (own_n q0), iv (own_n q1), iv (own_n q2), rv b47, rv b59, iv 0, iv ((own_n w0) - (own_n s0)), .unset] [.int 0])
              refine own_st (fun t k => XS.istore X75.here hx rfl (hb hby at_595) rfl (l' := #[iv p0, iv p1, iv p2, iv p3, iv p4, iv p5, iv (own_n s0), iv (own_n w0), iv (own_n q0), iv (own_n q1), iv (own_n q2), rv b47, rv b59, iv 0, iv ((own_n w0) - (own_n s0)), iv 0]) rfl k) ?_
              show own_E p e below _ T75 (mkF m 597 #[iv p0, iv p1, iv p2, iv p3, iv p4, iv p5, iv (own_n s0), iv (own_n w0), iv (own_n q0), iv (own_n q1), iv (own_n q2), rv b47, rv b59, iv 0, iv ((own_n w0) - (own_n s0)), iv 0] [])
              refine own_st (fun t k => XS.iload X75.here hx rfl (hb hby at_597) rfl k) ?_
              show own_E p e below _ T75 (mkF m 599 #[iv p0, iv p1, iv p2, iv p3, iv p4, iv p5, iv (own_n s0), iv (own_n w0), iv (own_n q0), iv (own_n q1), iv (own_n q2), rv b47, rv b59, iv 0, iv ((own_n w0) - (own_n s0)), iv 0] [.int 0])
              refine own_st (fun t k => XS.iload X75.here hx rfl (hb hby at_599) rfl k) ?_
              show own_E p e below _ T75 (mkF m 601 #[iv p0, iv p1, iv p2, iv p3, iv p4, iv p5, iv (own_n s0), iv (own_n w0), iv (own_n q0), iv (own_n q1), iv (own_n q2), rv b47, rv b59, iv 0, iv ((own_n w0) - (own_n s0)), iv 0] [.int 0, .int 0])
              refine own_st (fun t k => XS.icmpNo X75.here hx rfl (hb hby at_601) rfl (by decide) k) ?_
              show own_E p e below _ T75 (mkF m 604 #[iv p0, iv p1, iv p2, iv p3, iv p4, iv p5, iv (own_n s0), iv (own_n w0), iv (own_n q0), iv (own_n q1), iv (own_n q2), rv b47, rv b59, iv 0, iv ((own_n w0) - (own_n s0)), iv 0] [])
              refine own_st (fun t k => XS.iconst X75.here hx rfl (hb hby at_604) k) ?_
              show own_E p e below _ T75 (mkF m 605 #[iv p0, iv p1, iv p2, iv p3, iv p4, iv p5, iv (own_n s0), iv (own_n w0), iv (own_n q0), iv (own_n q1), iv (own_n q2), rv b47, rv b59, iv 0, iv ((own_n w0) - (own_n s0)), iv 0] [.int 1])
              refine own_st (fun t k => XS.goto X75.here hx rfl (pc0 := 605) (pc' := 609) rfl (hb hby at_605) (by decide) (by decide) k) ?_
              show own_E p e below _ T75 (mkF m 609 #[iv p0, iv p1, iv p2, iv p3, iv p4, iv p5, iv (own_n s0), iv (own_n w0), iv (own_n q0), iv (own_n q1), iv (own_n q2), rv b47, rv b59, iv 0, iv ((own_n w0) - (own_n s0)), iv 0] [.int 1])
              refine own_retS X75 hx Bd.notSynchronized Bd.returns rfl (by decide) (hb hby at_609) (by decide) (by decide) ?_
              exact ⟨rfl, N75⟩
          · refine own_st st74 ?_
            show own_E p e below _ T74 (mkF m 559 #[iv p0, iv p1, iv p2, iv p3, iv p4, iv p5, iv (own_n s0), iv (own_n w0), iv (own_n q0), iv (own_n q1), iv (own_n q2), rv b47, rv b59, iv 0, iv ((own_n w0) - (own_n s0)), .unset] [.int 0])
            refine own_st (fun t k => XS.ifYes X74.here hx rfl (pc0 := 559) (pc' := 594) rfl (hb hby at_559) rfl (by decide) (by decide) (by decide) k) ?_
            show own_E p e below _ T74 (mkF m 594 #[iv p0, iv p1, iv p2, iv p3, iv p4, iv p5, iv (own_n s0), iv (own_n w0), iv (own_n q0), iv (own_n q1), iv (own_n q2), rv b47, rv b59, iv 0, iv ((own_n w0) - (own_n s0)), .unset] [])
            refine own_st (fun t k => XS.iconst X74.here hx rfl (hb hby at_594) k) ?_
            show own_E p e below _ T74 (mkF m 595 #[iv p0, iv p1, iv p2, iv p3, iv p4, iv p5, iv (own_n s0), iv (own_n w0), iv (own_n q0), iv (own_n q1), iv (own_n q2), rv b47, rv b59, iv 0, iv ((own_n w0) - (own_n s0)), .unset] [.int 0])
            refine own_st (fun t k => XS.istore X74.here hx rfl (hb hby at_595) rfl (l' := #[iv p0, iv p1, iv p2, iv p3, iv p4, iv p5, iv (own_n s0), iv (own_n w0), iv (own_n q0), iv (own_n q1), iv (own_n q2), rv b47, rv b59, iv 0, iv ((own_n w0) - (own_n s0)), iv 0]) rfl k) ?_
            show own_E p e below _ T74 (mkF m 597 #[iv p0, iv p1, iv p2, iv p3, iv p4, iv p5, iv (own_n s0), iv (own_n w0), iv (own_n q0), iv (own_n q1), iv (own_n q2), rv b47, rv b59, iv 0, iv ((own_n w0) - (own_n s0)), iv 0] [])
            refine own_st (fun t k => XS.iload X74.here hx rfl (hb hby at_597) rfl k) ?_
            show own_E p e below _ T74 (mkF m 599 #[iv p0, iv p1, iv p2, iv p3, iv p4, iv p5, iv (own_n s0), iv (own_n w0), iv (own_n q0), iv (own_n q1), iv (own_n q2), rv b47, rv b59, iv 0, iv ((own_n w0) - (own_n s0)), iv 0] [.int 0])
            refine own_st (fun t k => XS.iload X74.here hx rfl (hb hby at_599) rfl k) ?_
            show own_E p e below _ T74 (mkF m 601 #[iv p0, iv p1, iv p2, iv p3, iv p4, iv p5, iv (own_n s0), iv (own_n w0), iv (own_n q0), iv (own_n q1), iv (own_n q2), rv b47, rv b59, iv 0, iv ((own_n w0) - (own_n s0)), iv 0] [.int 0, .int 0])
            refine own_st (fun t k => XS.icmpNo X74.here hx rfl (hb hby at_601) rfl (by decide) k) ?_
            show own_E p e below _ T74 (mkF m 604 #[iv p0, iv p1, iv p2, iv p3, iv p4, iv p5, iv (own_n s0), iv (own_n w0), iv (own_n q0), iv (own_n q1), iv (own_n q2), rv b47, rv b59, iv 0, iv ((own_n w0) - (own_n s0)), iv 0] [])
            refine own_st (fun t k => XS.iconst X74.here hx rfl (hb hby at_604) k) ?_
            show own_E p e below _ T74 (mkF m 605 #[iv p0, iv p1, iv p2, iv p3, iv p4, iv p5, iv (own_n s0), iv (own_n w0), iv (own_n q0), iv (own_n q1), iv (own_n q2), rv b47, rv b59, iv 0, iv ((own_n w0) - (own_n s0)), iv 0] [.int 1])
            refine own_st (fun t k => XS.goto X74.here hx rfl (pc0 := 605) (pc' := 609) rfl (hb hby at_605) (by decide) (by decide) k) ?_
            show own_E p e below _ T74 (mkF m 609 #[iv p0, iv p1, iv p2, iv p3, iv p4, iv p5, iv (own_n s0), iv (own_n w0), iv (own_n q0), iv (own_n q1), iv (own_n q2), rv b47, rv b59, iv 0, iv ((own_n w0) - (own_n s0)), iv 0] [.int 1])
            refine own_retS X74 hx Bd.notSynchronized Bd.returns rfl (by decide) (hb hby at_609) (by decide) (by decide) ?_
            exact ⟨rfl, N74⟩
  have S69 : ∀ (T : State) (Lc : List Loc) (g : Nat → Int32), Stand p l e room_1 s m #[(.int p0), (.int p1), (.int p2), (.int p3), (.int p4), (.int p5)] below meth c T Lc 1 70 → Fr n0 Lc → Keep h0 T.heap [] → own_A Z T.heap b47 .char 70 g → (∀ j, j < 69 → g j = own_base j) → own_E p e below (own_K (own_law_Q n0) s room_1.cells room_1.slots) T (mkF m 466 #[iv p0, iv p1, iv p2, iv p3, iv p4, iv p5, iv (own_n s0), iv (own_n w0), iv (own_n q0), iv (own_n q1), iv (own_n q2), .unset, .unset, .unset, .unset, .unset] [.ref b47]) := by
    intro T Lc g X N K VB I
    have eTl : T.heap = T.heap := rfl
    refine own_st (fun t k => XS.dup X.here hx rfl (hb hby at_466) rfl rfl k) ?_
    show own_E p e below _ T (mkF m 467 #[iv p0, iv p1, iv p2, iv p3, iv p4, iv p5, iv (own_n s0), iv (own_n w0), iv (own_n q0), iv (own_n q1), iv (own_n q2), .unset, .unset, .unset, .unset, .unset] [.ref b47, .ref b47])
    refine own_st (fun t k => XS.bipush X.here hx rfl (hb hby at_467) k) ?_
    show own_E p e below _ T (mkF m 469 #[iv p0, iv p1, iv p2, iv p3, iv p4, iv p5, iv (own_n s0), iv (own_n w0), iv (own_n q0), iv (own_n q1), iv (own_n q2), .unset, .unset, .unset, .unset, .unset] [.int 69, .ref b47, .ref b47])
    refine own_st (fun t k => XS.bipush X.here hx rfl (hb hby at_469) k) ?_
    show own_E p e below _ T (mkF m 471 #[iv p0, iv p1, iv p2, iv p3, iv p4, iv p5, iv (own_n s0), iv (own_n w0), iv (own_n q0), iv (own_n q1), iv (own_n q2), .unset, .unset, .unset, .unset, .unset] [.int 53, .int 69, .ref b47, .ref b47])
    obtain ⟨T77, h77, X77, e77, W77, Aw77, st77⟩ := own_A_cst X hx hZ eTl VB (j := (69 : Int32)) (x := (53 : Int32)) (i := 69) (by decide) rfl (by decide) (g := (mkF m 471 #[iv p0, iv p1, iv p2, iv p3, iv p4, iv p5, iv (own_n s0), iv (own_n w0), iv (own_n q0), iv (own_n q1), iv (own_n q2), .unset, .unset, .unset, .unset, .unset] [.int 53, .int 69, .ref b47, .ref b47])) rfl rfl (hb hby at_471)
    have N77 := Fr.snoc X77 N g_b47
    have Z78 := Nat.le_trans (Nat.le_trans Z0 K.1) (Keep.of_wr W77).1
    have K79 : Keep h0 _ [] := K.wr W77 (Or.inr sz_b47)
    refine own_st st77 ?_
    show own_E p e below _ T77 (mkF m 472 #[iv p0, iv p1, iv p2, iv p3, iv p4, iv p5, iv (own_n s0), iv (own_n w0), iv (own_n q0), iv (own_n q1), iv (own_n q2), .unset, .unset, .unset, .unset, .unset] [.ref b47])
    exact S70 _ _ _ X77 N77 (by rw [e77]; exact K79) (by rw [e77]; exact Aw77) (own_bst (k := 69) I (by decide +kernel))
  clear S70
  have S68 : ∀ (T : State) (Lc : List Loc) (g : Nat → Int32), Stand p l e room_1 s m #[(.int p0), (.int p1), (.int p2), (.int p3), (.int p4), (.int p5)] below meth c T Lc 1 70 → Fr n0 Lc → Keep h0 T.heap [] → own_A Z T.heap b47 .char 70 g → (∀ j, j < 68 → g j = own_base j) → own_E p e below (own_K (own_law_Q n0) s room_1.cells room_1.slots) T (mkF m 460 #[iv p0, iv p1, iv p2, iv p3, iv p4, iv p5, iv (own_n s0), iv (own_n w0), iv (own_n q0), iv (own_n q1), iv (own_n q2), .unset, .unset, .unset, .unset, .unset] [.ref b47]) := by
    intro T Lc g X N K VB I
    have eTl : T.heap = T.heap := rfl
    refine own_st (fun t k => XS.dup X.here hx rfl (hb hby at_460) rfl rfl k) ?_
    show own_E p e below _ T (mkF m 461 #[iv p0, iv p1, iv p2, iv p3, iv p4, iv p5, iv (own_n s0), iv (own_n w0), iv (own_n q0), iv (own_n q1), iv (own_n q2), .unset, .unset, .unset, .unset, .unset] [.ref b47, .ref b47])
    refine own_st (fun t k => XS.bipush X.here hx rfl (hb hby at_461) k) ?_
    show own_E p e below _ T (mkF m 463 #[iv p0, iv p1, iv p2, iv p3, iv p4, iv p5, iv (own_n s0), iv (own_n w0), iv (own_n q0), iv (own_n q1), iv (own_n q2), .unset, .unset, .unset, .unset, .unset] [.int 68, .ref b47, .ref b47])
    refine own_st (fun t k => XS.bipush X.here hx rfl (hb hby at_463) k) ?_
    show own_E p e below _ T (mkF m 465 #[iv p0, iv p1, iv p2, iv p3, iv p4, iv p5, iv (own_n s0), iv (own_n w0), iv (own_n q0), iv (own_n q1), iv (own_n q2), .unset, .unset, .unset, .unset, .unset] [.int 109, .int 68, .ref b47, .ref b47])
    obtain ⟨T80, h80, X80, e80, W80, Aw80, st80⟩ := own_A_cst X hx hZ eTl VB (j := (68 : Int32)) (x := (109 : Int32)) (i := 68) (by decide) rfl (by decide) (g := (mkF m 465 #[iv p0, iv p1, iv p2, iv p3, iv p4, iv p5, iv (own_n s0), iv (own_n w0), iv (own_n q0), iv (own_n q1), iv (own_n q2), .unset, .unset, .unset, .unset, .unset] [.int 109, .int 68, .ref b47, .ref b47])) rfl rfl (hb hby at_465)
    have N80 := Fr.snoc X80 N g_b47
    have Z81 := Nat.le_trans (Nat.le_trans Z0 K.1) (Keep.of_wr W80).1
    have K82 : Keep h0 _ [] := K.wr W80 (Or.inr sz_b47)
    refine own_st st80 ?_
    show own_E p e below _ T80 (mkF m 466 #[iv p0, iv p1, iv p2, iv p3, iv p4, iv p5, iv (own_n s0), iv (own_n w0), iv (own_n q0), iv (own_n q1), iv (own_n q2), .unset, .unset, .unset, .unset, .unset] [.ref b47])
    exact S69 _ _ _ X80 N80 (by rw [e80]; exact K82) (by rw [e80]; exact Aw80) (own_bst (k := 68) I (by decide +kernel))
  clear S69
  have S67 : ∀ (T : State) (Lc : List Loc) (g : Nat → Int32), Stand p l e room_1 s m #[(.int p0), (.int p1), (.int p2), (.int p3), (.int p4), (.int p5)] below meth c T Lc 1 70 → Fr n0 Lc → Keep h0 T.heap [] → own_A Z T.heap b47 .char 70 g → (∀ j, j < 67 → g j = own_base j) → own_E p e below (own_K (own_law_Q n0) s room_1.cells room_1.slots) T (mkF m 454 #[iv p0, iv p1, iv p2, iv p3, iv p4, iv p5, iv (own_n s0), iv (own_n w0), iv (own_n q0), iv (own_n q1), iv (own_n q2), .unset, .unset, .unset, .unset, .unset] [.ref b47]) := by
    intro T Lc g X N K VB I
    have eTl : T.heap = T.heap := rfl
    refine own_st (fun t k => XS.dup X.here hx rfl (hb hby at_454) rfl rfl k) ?_
    show own_E p e below _ T (mkF m 455 #[iv p0, iv p1, iv p2, iv p3, iv p4, iv p5, iv (own_n s0), iv (own_n w0), iv (own_n q0), iv (own_n q1), iv (own_n q2), .unset, .unset, .unset, .unset, .unset] [.ref b47, .ref b47])
    refine own_st (fun t k => XS.bipush X.here hx rfl (hb hby at_455) k) ?_
    show own_E p e below _ T (mkF m 457 #[iv p0, iv p1, iv p2, iv p3, iv p4, iv p5, iv (own_n s0), iv (own_n w0), iv (own_n q0), iv (own_n q1), iv (own_n q2), .unset, .unset, .unset, .unset, .unset] [.int 67, .ref b47, .ref b47])
    refine own_st (fun t k => XS.bipush X.here hx rfl (hb hby at_457) k) ?_
    show own_E p e below _ T (mkF m 459 #[iv p0, iv p1, iv p2, iv p3, iv p4, iv p5, iv (own_n s0), iv (own_n w0), iv (own_n q0), iv (own_n q1), iv (own_n q2), .unset, .unset, .unset, .unset, .unset] [.int 46, .int 67, .ref b47, .ref b47])
    obtain ⟨T83, h83, X83, e83, W83, Aw83, st83⟩ := own_A_cst X hx hZ eTl VB (j := (67 : Int32)) (x := (46 : Int32)) (i := 67) (by decide) rfl (by decide) (g := (mkF m 459 #[iv p0, iv p1, iv p2, iv p3, iv p4, iv p5, iv (own_n s0), iv (own_n w0), iv (own_n q0), iv (own_n q1), iv (own_n q2), .unset, .unset, .unset, .unset, .unset] [.int 46, .int 67, .ref b47, .ref b47])) rfl rfl (hb hby at_459)
    have N83 := Fr.snoc X83 N g_b47
    have Z84 := Nat.le_trans (Nat.le_trans Z0 K.1) (Keep.of_wr W83).1
    have K85 : Keep h0 _ [] := K.wr W83 (Or.inr sz_b47)
    refine own_st st83 ?_
    show own_E p e below _ T83 (mkF m 460 #[iv p0, iv p1, iv p2, iv p3, iv p4, iv p5, iv (own_n s0), iv (own_n w0), iv (own_n q0), iv (own_n q1), iv (own_n q2), .unset, .unset, .unset, .unset, .unset] [.ref b47])
    exact S68 _ _ _ X83 N83 (by rw [e83]; exact K85) (by rw [e83]; exact Aw83) (own_bst (k := 67) I (by decide +kernel))
  clear S68
  have S66 : ∀ (T : State) (Lc : List Loc) (g : Nat → Int32), Stand p l e room_1 s m #[(.int p0), (.int p1), (.int p2), (.int p3), (.int p4), (.int p5)] below meth c T Lc 1 70 → Fr n0 Lc → Keep h0 T.heap [] → own_A Z T.heap b47 .char 70 g → (∀ j, j < 66 → g j = own_base j) → own_E p e below (own_K (own_law_Q n0) s room_1.cells room_1.slots) T (mkF m 448 #[iv p0, iv p1, iv p2, iv p3, iv p4, iv p5, iv (own_n s0), iv (own_n w0), iv (own_n q0), iv (own_n q1), iv (own_n q2), .unset, .unset, .unset, .unset, .unset] [.ref b47]) := by
    intro T Lc g X N K VB I
    have eTl : T.heap = T.heap := rfl
    refine own_st (fun t k => XS.dup X.here hx rfl (hb hby at_448) rfl rfl k) ?_
    show own_E p e below _ T (mkF m 449 #[iv p0, iv p1, iv p2, iv p3, iv p4, iv p5, iv (own_n s0), iv (own_n w0), iv (own_n q0), iv (own_n q1), iv (own_n q2), .unset, .unset, .unset, .unset, .unset] [.ref b47, .ref b47])
    refine own_st (fun t k => XS.bipush X.here hx rfl (hb hby at_449) k) ?_
    show own_E p e below _ T (mkF m 451 #[iv p0, iv p1, iv p2, iv p3, iv p4, iv p5, iv (own_n s0), iv (own_n w0), iv (own_n q0), iv (own_n q1), iv (own_n q2), .unset, .unset, .unset, .unset, .unset] [.int 66, .ref b47, .ref b47])
    refine own_st (fun t k => XS.bipush X.here hx rfl (hb hby at_451) k) ?_
    show own_E p e below _ T (mkF m 453 #[iv p0, iv p1, iv p2, iv p3, iv p4, iv p5, iv (own_n s0), iv (own_n w0), iv (own_n q0), iv (own_n q1), iv (own_n q2), .unset, .unset, .unset, .unset, .unset] [.int 45, .int 66, .ref b47, .ref b47])
    obtain ⟨T86, h86, X86, e86, W86, Aw86, st86⟩ := own_A_cst X hx hZ eTl VB (j := (66 : Int32)) (x := (45 : Int32)) (i := 66) (by decide) rfl (by decide) (g := (mkF m 453 #[iv p0, iv p1, iv p2, iv p3, iv p4, iv p5, iv (own_n s0), iv (own_n w0), iv (own_n q0), iv (own_n q1), iv (own_n q2), .unset, .unset, .unset, .unset, .unset] [.int 45, .int 66, .ref b47, .ref b47])) rfl rfl (hb hby at_453)
    have N86 := Fr.snoc X86 N g_b47
    have Z87 := Nat.le_trans (Nat.le_trans Z0 K.1) (Keep.of_wr W86).1
    have K88 : Keep h0 _ [] := K.wr W86 (Or.inr sz_b47)
    refine own_st st86 ?_
    show own_E p e below _ T86 (mkF m 454 #[iv p0, iv p1, iv p2, iv p3, iv p4, iv p5, iv (own_n s0), iv (own_n w0), iv (own_n q0), iv (own_n q1), iv (own_n q2), .unset, .unset, .unset, .unset, .unset] [.ref b47])
    exact S67 _ _ _ X86 N86 (by rw [e86]; exact K88) (by rw [e86]; exact Aw86) (own_bst (k := 66) I (by decide +kernel))
  clear S67
  have S65 : ∀ (T : State) (Lc : List Loc) (g : Nat → Int32), Stand p l e room_1 s m #[(.int p0), (.int p1), (.int p2), (.int p3), (.int p4), (.int p5)] below meth c T Lc 1 70 → Fr n0 Lc → Keep h0 T.heap [] → own_A Z T.heap b47 .char 70 g → (∀ j, j < 65 → g j = own_base j) → own_E p e below (own_K (own_law_Q n0) s room_1.cells room_1.slots) T (mkF m 442 #[iv p0, iv p1, iv p2, iv p3, iv p4, iv p5, iv (own_n s0), iv (own_n w0), iv (own_n q0), iv (own_n q1), iv (own_n q2), .unset, .unset, .unset, .unset, .unset] [.ref b47]) := by
    intro T Lc g X N K VB I
    have eTl : T.heap = T.heap := rfl
    refine own_st (fun t k => XS.dup X.here hx rfl (hb hby at_442) rfl rfl k) ?_
    show own_E p e below _ T (mkF m 443 #[iv p0, iv p1, iv p2, iv p3, iv p4, iv p5, iv (own_n s0), iv (own_n w0), iv (own_n q0), iv (own_n q1), iv (own_n q2), .unset, .unset, .unset, .unset, .unset] [.ref b47, .ref b47])
    refine own_st (fun t k => XS.bipush X.here hx rfl (hb hby at_443) k) ?_
    show own_E p e below _ T (mkF m 445 #[iv p0, iv p1, iv p2, iv p3, iv p4, iv p5, iv (own_n s0), iv (own_n w0), iv (own_n q0), iv (own_n q1), iv (own_n q2), .unset, .unset, .unset, .unset, .unset] [.int 65, .ref b47, .ref b47])
    refine own_st (fun t k => XS.bipush X.here hx rfl (hb hby at_445) k) ?_
    show own_E p e below _ T (mkF m 447 #[iv p0, iv p1, iv p2, iv p3, iv p4, iv p5, iv (own_n s0), iv (own_n w0), iv (own_n q0), iv (own_n q1), iv (own_n q2), .unset, .unset, .unset, .unset, .unset] [.int 57, .int 65, .ref b47, .ref b47])
    obtain ⟨T89, h89, X89, e89, W89, Aw89, st89⟩ := own_A_cst X hx hZ eTl VB (j := (65 : Int32)) (x := (57 : Int32)) (i := 65) (by decide) rfl (by decide) (g := (mkF m 447 #[iv p0, iv p1, iv p2, iv p3, iv p4, iv p5, iv (own_n s0), iv (own_n w0), iv (own_n q0), iv (own_n q1), iv (own_n q2), .unset, .unset, .unset, .unset, .unset] [.int 57, .int 65, .ref b47, .ref b47])) rfl rfl (hb hby at_447)
    have N89 := Fr.snoc X89 N g_b47
    have Z90 := Nat.le_trans (Nat.le_trans Z0 K.1) (Keep.of_wr W89).1
    have K91 : Keep h0 _ [] := K.wr W89 (Or.inr sz_b47)
    refine own_st st89 ?_
    show own_E p e below _ T89 (mkF m 448 #[iv p0, iv p1, iv p2, iv p3, iv p4, iv p5, iv (own_n s0), iv (own_n w0), iv (own_n q0), iv (own_n q1), iv (own_n q2), .unset, .unset, .unset, .unset, .unset] [.ref b47])
    exact S66 _ _ _ X89 N89 (by rw [e89]; exact K91) (by rw [e89]; exact Aw89) (own_bst (k := 65) I (by decide +kernel))
  clear S66
  have S64 : ∀ (T : State) (Lc : List Loc) (g : Nat → Int32), Stand p l e room_1 s m #[(.int p0), (.int p1), (.int p2), (.int p3), (.int p4), (.int p5)] below meth c T Lc 1 70 → Fr n0 Lc → Keep h0 T.heap [] → own_A Z T.heap b47 .char 70 g → (∀ j, j < 64 → g j = own_base j) → own_E p e below (own_K (own_law_Q n0) s room_1.cells room_1.slots) T (mkF m 436 #[iv p0, iv p1, iv p2, iv p3, iv p4, iv p5, iv (own_n s0), iv (own_n w0), iv (own_n q0), iv (own_n q1), iv (own_n q2), .unset, .unset, .unset, .unset, .unset] [.ref b47]) := by
    intro T Lc g X N K VB I
    have eTl : T.heap = T.heap := rfl
    refine own_st (fun t k => XS.dup X.here hx rfl (hb hby at_436) rfl rfl k) ?_
    show own_E p e below _ T (mkF m 437 #[iv p0, iv p1, iv p2, iv p3, iv p4, iv p5, iv (own_n s0), iv (own_n w0), iv (own_n q0), iv (own_n q1), iv (own_n q2), .unset, .unset, .unset, .unset, .unset] [.ref b47, .ref b47])
    refine own_st (fun t k => XS.bipush X.here hx rfl (hb hby at_437) k) ?_
    show own_E p e below _ T (mkF m 439 #[iv p0, iv p1, iv p2, iv p3, iv p4, iv p5, iv (own_n s0), iv (own_n w0), iv (own_n q0), iv (own_n q1), iv (own_n q2), .unset, .unset, .unset, .unset, .unset] [.int 64, .ref b47, .ref b47])
    refine own_st (fun t k => XS.bipush X.here hx rfl (hb hby at_439) k) ?_
    show own_E p e below _ T (mkF m 441 #[iv p0, iv p1, iv p2, iv p3, iv p4, iv p5, iv (own_n s0), iv (own_n w0), iv (own_n q0), iv (own_n q1), iv (own_n q2), .unset, .unset, .unset, .unset, .unset] [.int 48, .int 64, .ref b47, .ref b47])
    obtain ⟨T92, h92, X92, e92, W92, Aw92, st92⟩ := own_A_cst X hx hZ eTl VB (j := (64 : Int32)) (x := (48 : Int32)) (i := 64) (by decide) rfl (by decide) (g := (mkF m 441 #[iv p0, iv p1, iv p2, iv p3, iv p4, iv p5, iv (own_n s0), iv (own_n w0), iv (own_n q0), iv (own_n q1), iv (own_n q2), .unset, .unset, .unset, .unset, .unset] [.int 48, .int 64, .ref b47, .ref b47])) rfl rfl (hb hby at_441)
    have N92 := Fr.snoc X92 N g_b47
    have Z93 := Nat.le_trans (Nat.le_trans Z0 K.1) (Keep.of_wr W92).1
    have K94 : Keep h0 _ [] := K.wr W92 (Or.inr sz_b47)
    refine own_st st92 ?_
    show own_E p e below _ T92 (mkF m 442 #[iv p0, iv p1, iv p2, iv p3, iv p4, iv p5, iv (own_n s0), iv (own_n w0), iv (own_n q0), iv (own_n q1), iv (own_n q2), .unset, .unset, .unset, .unset, .unset] [.ref b47])
    exact S65 _ _ _ X92 N92 (by rw [e92]; exact K94) (by rw [e92]; exact Aw92) (own_bst (k := 64) I (by decide +kernel))
  clear S65
  have S63 : ∀ (T : State) (Lc : List Loc) (g : Nat → Int32), Stand p l e room_1 s m #[(.int p0), (.int p1), (.int p2), (.int p3), (.int p4), (.int p5)] below meth c T Lc 1 70 → Fr n0 Lc → Keep h0 T.heap [] → own_A Z T.heap b47 .char 70 g → (∀ j, j < 63 → g j = own_base j) → own_E p e below (own_K (own_law_Q n0) s room_1.cells room_1.slots) T (mkF m 430 #[iv p0, iv p1, iv p2, iv p3, iv p4, iv p5, iv (own_n s0), iv (own_n w0), iv (own_n q0), iv (own_n q1), iv (own_n q2), .unset, .unset, .unset, .unset, .unset] [.ref b47]) := by
    intro T Lc g X N K VB I
    have eTl : T.heap = T.heap := rfl
    refine own_st (fun t k => XS.dup X.here hx rfl (hb hby at_430) rfl rfl k) ?_
    show own_E p e below _ T (mkF m 431 #[iv p0, iv p1, iv p2, iv p3, iv p4, iv p5, iv (own_n s0), iv (own_n w0), iv (own_n q0), iv (own_n q1), iv (own_n q2), .unset, .unset, .unset, .unset, .unset] [.ref b47, .ref b47])
    refine own_st (fun t k => XS.bipush X.here hx rfl (hb hby at_431) k) ?_
    show own_E p e below _ T (mkF m 433 #[iv p0, iv p1, iv p2, iv p3, iv p4, iv p5, iv (own_n s0), iv (own_n w0), iv (own_n q0), iv (own_n q1), iv (own_n q2), .unset, .unset, .unset, .unset, .unset] [.int 63, .ref b47, .ref b47])
    refine own_st (fun t k => XS.bipush X.here hx rfl (hb hby at_433) k) ?_
    show own_E p e below _ T (mkF m 435 #[iv p0, iv p1, iv p2, iv p3, iv p4, iv p5, iv (own_n s0), iv (own_n w0), iv (own_n q0), iv (own_n q1), iv (own_n q2), .unset, .unset, .unset, .unset, .unset] [.int 122, .int 63, .ref b47, .ref b47])
    obtain ⟨T95, h95, X95, e95, W95, Aw95, st95⟩ := own_A_cst X hx hZ eTl VB (j := (63 : Int32)) (x := (122 : Int32)) (i := 63) (by decide) rfl (by decide) (g := (mkF m 435 #[iv p0, iv p1, iv p2, iv p3, iv p4, iv p5, iv (own_n s0), iv (own_n w0), iv (own_n q0), iv (own_n q1), iv (own_n q2), .unset, .unset, .unset, .unset, .unset] [.int 122, .int 63, .ref b47, .ref b47])) rfl rfl (hb hby at_435)
    have N95 := Fr.snoc X95 N g_b47
    have Z96 := Nat.le_trans (Nat.le_trans Z0 K.1) (Keep.of_wr W95).1
    have K97 : Keep h0 _ [] := K.wr W95 (Or.inr sz_b47)
    refine own_st st95 ?_
    show own_E p e below _ T95 (mkF m 436 #[iv p0, iv p1, iv p2, iv p3, iv p4, iv p5, iv (own_n s0), iv (own_n w0), iv (own_n q0), iv (own_n q1), iv (own_n q2), .unset, .unset, .unset, .unset, .unset] [.ref b47])
    exact S64 _ _ _ X95 N95 (by rw [e95]; exact K97) (by rw [e95]; exact Aw95) (own_bst (k := 63) I (by decide +kernel))
  clear S64
  have S62 : ∀ (T : State) (Lc : List Loc) (g : Nat → Int32), Stand p l e room_1 s m #[(.int p0), (.int p1), (.int p2), (.int p3), (.int p4), (.int p5)] below meth c T Lc 1 70 → Fr n0 Lc → Keep h0 T.heap [] → own_A Z T.heap b47 .char 70 g → (∀ j, j < 62 → g j = own_base j) → own_E p e below (own_K (own_law_Q n0) s room_1.cells room_1.slots) T (mkF m 424 #[iv p0, iv p1, iv p2, iv p3, iv p4, iv p5, iv (own_n s0), iv (own_n w0), iv (own_n q0), iv (own_n q1), iv (own_n q2), .unset, .unset, .unset, .unset, .unset] [.ref b47]) := by
    intro T Lc g X N K VB I
    have eTl : T.heap = T.heap := rfl
    refine own_st (fun t k => XS.dup X.here hx rfl (hb hby at_424) rfl rfl k) ?_
    show own_E p e below _ T (mkF m 425 #[iv p0, iv p1, iv p2, iv p3, iv p4, iv p5, iv (own_n s0), iv (own_n w0), iv (own_n q0), iv (own_n q1), iv (own_n q2), .unset, .unset, .unset, .unset, .unset] [.ref b47, .ref b47])
    refine own_st (fun t k => XS.bipush X.here hx rfl (hb hby at_425) k) ?_
    show own_E p e below _ T (mkF m 427 #[iv p0, iv p1, iv p2, iv p3, iv p4, iv p5, iv (own_n s0), iv (own_n w0), iv (own_n q0), iv (own_n q1), iv (own_n q2), .unset, .unset, .unset, .unset, .unset] [.int 62, .ref b47, .ref b47])
    refine own_st (fun t k => XS.bipush X.here hx rfl (hb hby at_427) k) ?_
    show own_E p e below _ T (mkF m 429 #[iv p0, iv p1, iv p2, iv p3, iv p4, iv p5, iv (own_n s0), iv (own_n w0), iv (own_n q0), iv (own_n q1), iv (own_n q2), .unset, .unset, .unset, .unset, .unset] [.int 97, .int 62, .ref b47, .ref b47])
    obtain ⟨T98, h98, X98, e98, W98, Aw98, st98⟩ := own_A_cst X hx hZ eTl VB (j := (62 : Int32)) (x := (97 : Int32)) (i := 62) (by decide) rfl (by decide) (g := (mkF m 429 #[iv p0, iv p1, iv p2, iv p3, iv p4, iv p5, iv (own_n s0), iv (own_n w0), iv (own_n q0), iv (own_n q1), iv (own_n q2), .unset, .unset, .unset, .unset, .unset] [.int 97, .int 62, .ref b47, .ref b47])) rfl rfl (hb hby at_429)
    have N98 := Fr.snoc X98 N g_b47
    have Z99 := Nat.le_trans (Nat.le_trans Z0 K.1) (Keep.of_wr W98).1
    have K100 : Keep h0 _ [] := K.wr W98 (Or.inr sz_b47)
    refine own_st st98 ?_
    show own_E p e below _ T98 (mkF m 430 #[iv p0, iv p1, iv p2, iv p3, iv p4, iv p5, iv (own_n s0), iv (own_n w0), iv (own_n q0), iv (own_n q1), iv (own_n q2), .unset, .unset, .unset, .unset, .unset] [.ref b47])
    exact S63 _ _ _ X98 N98 (by rw [e98]; exact K100) (by rw [e98]; exact Aw98) (own_bst (k := 62) I (by decide +kernel))
  clear S63
  have S61 : ∀ (T : State) (Lc : List Loc) (g : Nat → Int32), Stand p l e room_1 s m #[(.int p0), (.int p1), (.int p2), (.int p3), (.int p4), (.int p5)] below meth c T Lc 1 70 → Fr n0 Lc → Keep h0 T.heap [] → own_A Z T.heap b47 .char 70 g → (∀ j, j < 61 → g j = own_base j) → own_E p e below (own_K (own_law_Q n0) s room_1.cells room_1.slots) T (mkF m 418 #[iv p0, iv p1, iv p2, iv p3, iv p4, iv p5, iv (own_n s0), iv (own_n w0), iv (own_n q0), iv (own_n q1), iv (own_n q2), .unset, .unset, .unset, .unset, .unset] [.ref b47]) := by
    intro T Lc g X N K VB I
    have eTl : T.heap = T.heap := rfl
    refine own_st (fun t k => XS.dup X.here hx rfl (hb hby at_418) rfl rfl k) ?_
    show own_E p e below _ T (mkF m 419 #[iv p0, iv p1, iv p2, iv p3, iv p4, iv p5, iv (own_n s0), iv (own_n w0), iv (own_n q0), iv (own_n q1), iv (own_n q2), .unset, .unset, .unset, .unset, .unset] [.ref b47, .ref b47])
    refine own_st (fun t k => XS.bipush X.here hx rfl (hb hby at_419) k) ?_
    show own_E p e below _ T (mkF m 421 #[iv p0, iv p1, iv p2, iv p3, iv p4, iv p5, iv (own_n s0), iv (own_n w0), iv (own_n q0), iv (own_n q1), iv (own_n q2), .unset, .unset, .unset, .unset, .unset] [.int 61, .ref b47, .ref b47])
    refine own_st (fun t k => XS.bipush X.here hx rfl (hb hby at_421) k) ?_
    show own_E p e below _ T (mkF m 423 #[iv p0, iv p1, iv p2, iv p3, iv p4, iv p5, iv (own_n s0), iv (own_n w0), iv (own_n q0), iv (own_n q1), iv (own_n q2), .unset, .unset, .unset, .unset, .unset] [.int 90, .int 61, .ref b47, .ref b47])
    obtain ⟨T101, h101, X101, e101, W101, Aw101, st101⟩ := own_A_cst X hx hZ eTl VB (j := (61 : Int32)) (x := (90 : Int32)) (i := 61) (by decide) rfl (by decide) (g := (mkF m 423 #[iv p0, iv p1, iv p2, iv p3, iv p4, iv p5, iv (own_n s0), iv (own_n w0), iv (own_n q0), iv (own_n q1), iv (own_n q2), .unset, .unset, .unset, .unset, .unset] [.int 90, .int 61, .ref b47, .ref b47])) rfl rfl (hb hby at_423)
    have N101 := Fr.snoc X101 N g_b47
    have Z102 := Nat.le_trans (Nat.le_trans Z0 K.1) (Keep.of_wr W101).1
    have K103 : Keep h0 _ [] := K.wr W101 (Or.inr sz_b47)
    refine own_st st101 ?_
    show own_E p e below _ T101 (mkF m 424 #[iv p0, iv p1, iv p2, iv p3, iv p4, iv p5, iv (own_n s0), iv (own_n w0), iv (own_n q0), iv (own_n q1), iv (own_n q2), .unset, .unset, .unset, .unset, .unset] [.ref b47])
    exact S62 _ _ _ X101 N101 (by rw [e101]; exact K103) (by rw [e101]; exact Aw101) (own_bst (k := 61) I (by decide +kernel))
  clear S62
  have S60 : ∀ (T : State) (Lc : List Loc) (g : Nat → Int32), Stand p l e room_1 s m #[(.int p0), (.int p1), (.int p2), (.int p3), (.int p4), (.int p5)] below meth c T Lc 1 70 → Fr n0 Lc → Keep h0 T.heap [] → own_A Z T.heap b47 .char 70 g → (∀ j, j < 60 → g j = own_base j) → own_E p e below (own_K (own_law_Q n0) s room_1.cells room_1.slots) T (mkF m 412 #[iv p0, iv p1, iv p2, iv p3, iv p4, iv p5, iv (own_n s0), iv (own_n w0), iv (own_n q0), iv (own_n q1), iv (own_n q2), .unset, .unset, .unset, .unset, .unset] [.ref b47]) := by
    intro T Lc g X N K VB I
    have eTl : T.heap = T.heap := rfl
    refine own_st (fun t k => XS.dup X.here hx rfl (hb hby at_412) rfl rfl k) ?_
    show own_E p e below _ T (mkF m 413 #[iv p0, iv p1, iv p2, iv p3, iv p4, iv p5, iv (own_n s0), iv (own_n w0), iv (own_n q0), iv (own_n q1), iv (own_n q2), .unset, .unset, .unset, .unset, .unset] [.ref b47, .ref b47])
    refine own_st (fun t k => XS.bipush X.here hx rfl (hb hby at_413) k) ?_
    show own_E p e below _ T (mkF m 415 #[iv p0, iv p1, iv p2, iv p3, iv p4, iv p5, iv (own_n s0), iv (own_n w0), iv (own_n q0), iv (own_n q1), iv (own_n q2), .unset, .unset, .unset, .unset, .unset] [.int 60, .ref b47, .ref b47])
    refine own_st (fun t k => XS.bipush X.here hx rfl (hb hby at_415) k) ?_
    show own_E p e below _ T (mkF m 417 #[iv p0, iv p1, iv p2, iv p3, iv p4, iv p5, iv (own_n s0), iv (own_n w0), iv (own_n q0), iv (own_n q1), iv (own_n q2), .unset, .unset, .unset, .unset, .unset] [.int 65, .int 60, .ref b47, .ref b47])
    obtain ⟨T104, h104, X104, e104, W104, Aw104, st104⟩ := own_A_cst X hx hZ eTl VB (j := (60 : Int32)) (x := (65 : Int32)) (i := 60) (by decide) rfl (by decide) (g := (mkF m 417 #[iv p0, iv p1, iv p2, iv p3, iv p4, iv p5, iv (own_n s0), iv (own_n w0), iv (own_n q0), iv (own_n q1), iv (own_n q2), .unset, .unset, .unset, .unset, .unset] [.int 65, .int 60, .ref b47, .ref b47])) rfl rfl (hb hby at_417)
    have N104 := Fr.snoc X104 N g_b47
    have Z105 := Nat.le_trans (Nat.le_trans Z0 K.1) (Keep.of_wr W104).1
    have K106 : Keep h0 _ [] := K.wr W104 (Or.inr sz_b47)
    refine own_st st104 ?_
    show own_E p e below _ T104 (mkF m 418 #[iv p0, iv p1, iv p2, iv p3, iv p4, iv p5, iv (own_n s0), iv (own_n w0), iv (own_n q0), iv (own_n q1), iv (own_n q2), .unset, .unset, .unset, .unset, .unset] [.ref b47])
    exact S61 _ _ _ X104 N104 (by rw [e104]; exact K106) (by rw [e104]; exact Aw104) (own_bst (k := 60) I (by decide +kernel))
  clear S61
  have S59 : ∀ (T : State) (Lc : List Loc) (g : Nat → Int32), Stand p l e room_1 s m #[(.int p0), (.int p1), (.int p2), (.int p3), (.int p4), (.int p5)] below meth c T Lc 1 70 → Fr n0 Lc → Keep h0 T.heap [] → own_A Z T.heap b47 .char 70 g → (∀ j, j < 59 → g j = own_base j) → own_E p e below (own_K (own_law_Q n0) s room_1.cells room_1.slots) T (mkF m 406 #[iv p0, iv p1, iv p2, iv p3, iv p4, iv p5, iv (own_n s0), iv (own_n w0), iv (own_n q0), iv (own_n q1), iv (own_n q2), .unset, .unset, .unset, .unset, .unset] [.ref b47]) := by
    intro T Lc g X N K VB I
    have eTl : T.heap = T.heap := rfl
    refine own_st (fun t k => XS.dup X.here hx rfl (hb hby at_406) rfl rfl k) ?_
    show own_E p e below _ T (mkF m 407 #[iv p0, iv p1, iv p2, iv p3, iv p4, iv p5, iv (own_n s0), iv (own_n w0), iv (own_n q0), iv (own_n q1), iv (own_n q2), .unset, .unset, .unset, .unset, .unset] [.ref b47, .ref b47])
    refine own_st (fun t k => XS.bipush X.here hx rfl (hb hby at_407) k) ?_
    show own_E p e below _ T (mkF m 409 #[iv p0, iv p1, iv p2, iv p3, iv p4, iv p5, iv (own_n s0), iv (own_n w0), iv (own_n q0), iv (own_n q1), iv (own_n q2), .unset, .unset, .unset, .unset, .unset] [.int 59, .ref b47, .ref b47])
    refine own_st (fun t k => XS.bipush X.here hx rfl (hb hby at_409) k) ?_
    show own_E p e below _ T (mkF m 411 #[iv p0, iv p1, iv p2, iv p3, iv p4, iv p5, iv (own_n s0), iv (own_n w0), iv (own_n q0), iv (own_n q1), iv (own_n q2), .unset, .unset, .unset, .unset, .unset] [.int 53, .int 59, .ref b47, .ref b47])
    obtain ⟨T107, h107, X107, e107, W107, Aw107, st107⟩ := own_A_cst X hx hZ eTl VB (j := (59 : Int32)) (x := (53 : Int32)) (i := 59) (by decide) rfl (by decide) (g := (mkF m 411 #[iv p0, iv p1, iv p2, iv p3, iv p4, iv p5, iv (own_n s0), iv (own_n w0), iv (own_n q0), iv (own_n q1), iv (own_n q2), .unset, .unset, .unset, .unset, .unset] [.int 53, .int 59, .ref b47, .ref b47])) rfl rfl (hb hby at_411)
    have N107 := Fr.snoc X107 N g_b47
    have Z108 := Nat.le_trans (Nat.le_trans Z0 K.1) (Keep.of_wr W107).1
    have K109 : Keep h0 _ [] := K.wr W107 (Or.inr sz_b47)
    refine own_st st107 ?_
    show own_E p e below _ T107 (mkF m 412 #[iv p0, iv p1, iv p2, iv p3, iv p4, iv p5, iv (own_n s0), iv (own_n w0), iv (own_n q0), iv (own_n q1), iv (own_n q2), .unset, .unset, .unset, .unset, .unset] [.ref b47])
    exact S60 _ _ _ X107 N107 (by rw [e107]; exact K109) (by rw [e107]; exact Aw107) (own_bst (k := 59) I (by decide +kernel))
  clear S60
  have S58 : ∀ (T : State) (Lc : List Loc) (g : Nat → Int32), Stand p l e room_1 s m #[(.int p0), (.int p1), (.int p2), (.int p3), (.int p4), (.int p5)] below meth c T Lc 1 70 → Fr n0 Lc → Keep h0 T.heap [] → own_A Z T.heap b47 .char 70 g → (∀ j, j < 58 → g j = own_base j) → own_E p e below (own_K (own_law_Q n0) s room_1.cells room_1.slots) T (mkF m 400 #[iv p0, iv p1, iv p2, iv p3, iv p4, iv p5, iv (own_n s0), iv (own_n w0), iv (own_n q0), iv (own_n q1), iv (own_n q2), .unset, .unset, .unset, .unset, .unset] [.ref b47]) := by
    intro T Lc g X N K VB I
    have eTl : T.heap = T.heap := rfl
    refine own_st (fun t k => XS.dup X.here hx rfl (hb hby at_400) rfl rfl k) ?_
    show own_E p e below _ T (mkF m 401 #[iv p0, iv p1, iv p2, iv p3, iv p4, iv p5, iv (own_n s0), iv (own_n w0), iv (own_n q0), iv (own_n q1), iv (own_n q2), .unset, .unset, .unset, .unset, .unset] [.ref b47, .ref b47])
    refine own_st (fun t k => XS.bipush X.here hx rfl (hb hby at_401) k) ?_
    show own_E p e below _ T (mkF m 403 #[iv p0, iv p1, iv p2, iv p3, iv p4, iv p5, iv (own_n s0), iv (own_n w0), iv (own_n q0), iv (own_n q1), iv (own_n q2), .unset, .unset, .unset, .unset, .unset] [.int 58, .ref b47, .ref b47])
    refine own_st (fun t k => XS.bipush X.here hx rfl (hb hby at_403) k) ?_
    show own_E p e below _ T (mkF m 405 #[iv p0, iv p1, iv p2, iv p3, iv p4, iv p5, iv (own_n s0), iv (own_n w0), iv (own_n q0), iv (own_n q1), iv (own_n q2), .unset, .unset, .unset, .unset, .unset] [.int 109, .int 58, .ref b47, .ref b47])
    obtain ⟨T110, h110, X110, e110, W110, Aw110, st110⟩ := own_A_cst X hx hZ eTl VB (j := (58 : Int32)) (x := (109 : Int32)) (i := 58) (by decide) rfl (by decide) (g := (mkF m 405 #[iv p0, iv p1, iv p2, iv p3, iv p4, iv p5, iv (own_n s0), iv (own_n w0), iv (own_n q0), iv (own_n q1), iv (own_n q2), .unset, .unset, .unset, .unset, .unset] [.int 109, .int 58, .ref b47, .ref b47])) rfl rfl (hb hby at_405)
    have N110 := Fr.snoc X110 N g_b47
    have Z111 := Nat.le_trans (Nat.le_trans Z0 K.1) (Keep.of_wr W110).1
    have K112 : Keep h0 _ [] := K.wr W110 (Or.inr sz_b47)
    refine own_st st110 ?_
    show own_E p e below _ T110 (mkF m 406 #[iv p0, iv p1, iv p2, iv p3, iv p4, iv p5, iv (own_n s0), iv (own_n w0), iv (own_n q0), iv (own_n q1), iv (own_n q2), .unset, .unset, .unset, .unset, .unset] [.ref b47])
    exact S59 _ _ _ X110 N110 (by rw [e110]; exact K112) (by rw [e110]; exact Aw110) (own_bst (k := 58) I (by decide +kernel))
  clear S59
  have S57 : ∀ (T : State) (Lc : List Loc) (g : Nat → Int32), Stand p l e room_1 s m #[(.int p0), (.int p1), (.int p2), (.int p3), (.int p4), (.int p5)] below meth c T Lc 1 70 → Fr n0 Lc → Keep h0 T.heap [] → own_A Z T.heap b47 .char 70 g → (∀ j, j < 57 → g j = own_base j) → own_E p e below (own_K (own_law_Q n0) s room_1.cells room_1.slots) T (mkF m 394 #[iv p0, iv p1, iv p2, iv p3, iv p4, iv p5, iv (own_n s0), iv (own_n w0), iv (own_n q0), iv (own_n q1), iv (own_n q2), .unset, .unset, .unset, .unset, .unset] [.ref b47]) := by
    intro T Lc g X N K VB I
    have eTl : T.heap = T.heap := rfl
    refine own_st (fun t k => XS.dup X.here hx rfl (hb hby at_394) rfl rfl k) ?_
    show own_E p e below _ T (mkF m 395 #[iv p0, iv p1, iv p2, iv p3, iv p4, iv p5, iv (own_n s0), iv (own_n w0), iv (own_n q0), iv (own_n q1), iv (own_n q2), .unset, .unset, .unset, .unset, .unset] [.ref b47, .ref b47])
    refine own_st (fun t k => XS.bipush X.here hx rfl (hb hby at_395) k) ?_
    show own_E p e below _ T (mkF m 397 #[iv p0, iv p1, iv p2, iv p3, iv p4, iv p5, iv (own_n s0), iv (own_n w0), iv (own_n q0), iv (own_n q1), iv (own_n q2), .unset, .unset, .unset, .unset, .unset] [.int 57, .ref b47, .ref b47])
    refine own_st (fun t k => XS.bipush X.here hx rfl (hb hby at_397) k) ?_
    show own_E p e below _ T (mkF m 399 #[iv p0, iv p1, iv p2, iv p3, iv p4, iv p5, iv (own_n s0), iv (own_n w0), iv (own_n q0), iv (own_n q1), iv (own_n q2), .unset, .unset, .unset, .unset, .unset] [.int 46, .int 57, .ref b47, .ref b47])
    obtain ⟨T113, h113, X113, e113, W113, Aw113, st113⟩ := own_A_cst X hx hZ eTl VB (j := (57 : Int32)) (x := (46 : Int32)) (i := 57) (by decide) rfl (by decide) (g := (mkF m 399 #[iv p0, iv p1, iv p2, iv p3, iv p4, iv p5, iv (own_n s0), iv (own_n w0), iv (own_n q0), iv (own_n q1), iv (own_n q2), .unset, .unset, .unset, .unset, .unset] [.int 46, .int 57, .ref b47, .ref b47])) rfl rfl (hb hby at_399)
    have N113 := Fr.snoc X113 N g_b47
    have Z114 := Nat.le_trans (Nat.le_trans Z0 K.1) (Keep.of_wr W113).1
    have K115 : Keep h0 _ [] := K.wr W113 (Or.inr sz_b47)
    refine own_st st113 ?_
    show own_E p e below _ T113 (mkF m 400 #[iv p0, iv p1, iv p2, iv p3, iv p4, iv p5, iv (own_n s0), iv (own_n w0), iv (own_n q0), iv (own_n q1), iv (own_n q2), .unset, .unset, .unset, .unset, .unset] [.ref b47])
    exact S58 _ _ _ X113 N113 (by rw [e113]; exact K115) (by rw [e113]; exact Aw113) (own_bst (k := 57) I (by decide +kernel))
  clear S58
  have S56 : ∀ (T : State) (Lc : List Loc) (g : Nat → Int32), Stand p l e room_1 s m #[(.int p0), (.int p1), (.int p2), (.int p3), (.int p4), (.int p5)] below meth c T Lc 1 70 → Fr n0 Lc → Keep h0 T.heap [] → own_A Z T.heap b47 .char 70 g → (∀ j, j < 56 → g j = own_base j) → own_E p e below (own_K (own_law_Q n0) s room_1.cells room_1.slots) T (mkF m 388 #[iv p0, iv p1, iv p2, iv p3, iv p4, iv p5, iv (own_n s0), iv (own_n w0), iv (own_n q0), iv (own_n q1), iv (own_n q2), .unset, .unset, .unset, .unset, .unset] [.ref b47]) := by
    intro T Lc g X N K VB I
    have eTl : T.heap = T.heap := rfl
    refine own_st (fun t k => XS.dup X.here hx rfl (hb hby at_388) rfl rfl k) ?_
    show own_E p e below _ T (mkF m 389 #[iv p0, iv p1, iv p2, iv p3, iv p4, iv p5, iv (own_n s0), iv (own_n w0), iv (own_n q0), iv (own_n q1), iv (own_n q2), .unset, .unset, .unset, .unset, .unset] [.ref b47, .ref b47])
    refine own_st (fun t k => XS.bipush X.here hx rfl (hb hby at_389) k) ?_
    show own_E p e below _ T (mkF m 391 #[iv p0, iv p1, iv p2, iv p3, iv p4, iv p5, iv (own_n s0), iv (own_n w0), iv (own_n q0), iv (own_n q1), iv (own_n q2), .unset, .unset, .unset, .unset, .unset] [.int 56, .ref b47, .ref b47])
    refine own_st (fun t k => XS.bipush X.here hx rfl (hb hby at_391) k) ?_
    show own_E p e below _ T (mkF m 393 #[iv p0, iv p1, iv p2, iv p3, iv p4, iv p5, iv (own_n s0), iv (own_n w0), iv (own_n q0), iv (own_n q1), iv (own_n q2), .unset, .unset, .unset, .unset, .unset] [.int 45, .int 56, .ref b47, .ref b47])
    obtain ⟨T116, h116, X116, e116, W116, Aw116, st116⟩ := own_A_cst X hx hZ eTl VB (j := (56 : Int32)) (x := (45 : Int32)) (i := 56) (by decide) rfl (by decide) (g := (mkF m 393 #[iv p0, iv p1, iv p2, iv p3, iv p4, iv p5, iv (own_n s0), iv (own_n w0), iv (own_n q0), iv (own_n q1), iv (own_n q2), .unset, .unset, .unset, .unset, .unset] [.int 45, .int 56, .ref b47, .ref b47])) rfl rfl (hb hby at_393)
    have N116 := Fr.snoc X116 N g_b47
    have Z117 := Nat.le_trans (Nat.le_trans Z0 K.1) (Keep.of_wr W116).1
    have K118 : Keep h0 _ [] := K.wr W116 (Or.inr sz_b47)
    refine own_st st116 ?_
    show own_E p e below _ T116 (mkF m 394 #[iv p0, iv p1, iv p2, iv p3, iv p4, iv p5, iv (own_n s0), iv (own_n w0), iv (own_n q0), iv (own_n q1), iv (own_n q2), .unset, .unset, .unset, .unset, .unset] [.ref b47])
    exact S57 _ _ _ X116 N116 (by rw [e116]; exact K118) (by rw [e116]; exact Aw116) (own_bst (k := 56) I (by decide +kernel))
  clear S57
  have S55 : ∀ (T : State) (Lc : List Loc) (g : Nat → Int32), Stand p l e room_1 s m #[(.int p0), (.int p1), (.int p2), (.int p3), (.int p4), (.int p5)] below meth c T Lc 1 70 → Fr n0 Lc → Keep h0 T.heap [] → own_A Z T.heap b47 .char 70 g → (∀ j, j < 55 → g j = own_base j) → own_E p e below (own_K (own_law_Q n0) s room_1.cells room_1.slots) T (mkF m 382 #[iv p0, iv p1, iv p2, iv p3, iv p4, iv p5, iv (own_n s0), iv (own_n w0), iv (own_n q0), iv (own_n q1), iv (own_n q2), .unset, .unset, .unset, .unset, .unset] [.ref b47]) := by
    intro T Lc g X N K VB I
    have eTl : T.heap = T.heap := rfl
    refine own_st (fun t k => XS.dup X.here hx rfl (hb hby at_382) rfl rfl k) ?_
    show own_E p e below _ T (mkF m 383 #[iv p0, iv p1, iv p2, iv p3, iv p4, iv p5, iv (own_n s0), iv (own_n w0), iv (own_n q0), iv (own_n q1), iv (own_n q2), .unset, .unset, .unset, .unset, .unset] [.ref b47, .ref b47])
    refine own_st (fun t k => XS.bipush X.here hx rfl (hb hby at_383) k) ?_
    show own_E p e below _ T (mkF m 385 #[iv p0, iv p1, iv p2, iv p3, iv p4, iv p5, iv (own_n s0), iv (own_n w0), iv (own_n q0), iv (own_n q1), iv (own_n q2), .unset, .unset, .unset, .unset, .unset] [.int 55, .ref b47, .ref b47])
    refine own_st (fun t k => XS.bipush X.here hx rfl (hb hby at_385) k) ?_
    show own_E p e below _ T (mkF m 387 #[iv p0, iv p1, iv p2, iv p3, iv p4, iv p5, iv (own_n s0), iv (own_n w0), iv (own_n q0), iv (own_n q1), iv (own_n q2), .unset, .unset, .unset, .unset, .unset] [.int 57, .int 55, .ref b47, .ref b47])
    obtain ⟨T119, h119, X119, e119, W119, Aw119, st119⟩ := own_A_cst X hx hZ eTl VB (j := (55 : Int32)) (x := (57 : Int32)) (i := 55) (by decide) rfl (by decide) (g := (mkF m 387 #[iv p0, iv p1, iv p2, iv p3, iv p4, iv p5, iv (own_n s0), iv (own_n w0), iv (own_n q0), iv (own_n q1), iv (own_n q2), .unset, .unset, .unset, .unset, .unset] [.int 57, .int 55, .ref b47, .ref b47])) rfl rfl (hb hby at_387)
    have N119 := Fr.snoc X119 N g_b47
    have Z120 := Nat.le_trans (Nat.le_trans Z0 K.1) (Keep.of_wr W119).1
    have K121 : Keep h0 _ [] := K.wr W119 (Or.inr sz_b47)
    refine own_st st119 ?_
    show own_E p e below _ T119 (mkF m 388 #[iv p0, iv p1, iv p2, iv p3, iv p4, iv p5, iv (own_n s0), iv (own_n w0), iv (own_n q0), iv (own_n q1), iv (own_n q2), .unset, .unset, .unset, .unset, .unset] [.ref b47])
    exact S56 _ _ _ X119 N119 (by rw [e119]; exact K121) (by rw [e119]; exact Aw119) (own_bst (k := 55) I (by decide +kernel))
  clear S56
  have S54 : ∀ (T : State) (Lc : List Loc) (g : Nat → Int32), Stand p l e room_1 s m #[(.int p0), (.int p1), (.int p2), (.int p3), (.int p4), (.int p5)] below meth c T Lc 1 70 → Fr n0 Lc → Keep h0 T.heap [] → own_A Z T.heap b47 .char 70 g → (∀ j, j < 54 → g j = own_base j) → own_E p e below (own_K (own_law_Q n0) s room_1.cells room_1.slots) T (mkF m 376 #[iv p0, iv p1, iv p2, iv p3, iv p4, iv p5, iv (own_n s0), iv (own_n w0), iv (own_n q0), iv (own_n q1), iv (own_n q2), .unset, .unset, .unset, .unset, .unset] [.ref b47]) := by
    intro T Lc g X N K VB I
    have eTl : T.heap = T.heap := rfl
    refine own_st (fun t k => XS.dup X.here hx rfl (hb hby at_376) rfl rfl k) ?_
    show own_E p e below _ T (mkF m 377 #[iv p0, iv p1, iv p2, iv p3, iv p4, iv p5, iv (own_n s0), iv (own_n w0), iv (own_n q0), iv (own_n q1), iv (own_n q2), .unset, .unset, .unset, .unset, .unset] [.ref b47, .ref b47])
    refine own_st (fun t k => XS.bipush X.here hx rfl (hb hby at_377) k) ?_
    show own_E p e below _ T (mkF m 379 #[iv p0, iv p1, iv p2, iv p3, iv p4, iv p5, iv (own_n s0), iv (own_n w0), iv (own_n q0), iv (own_n q1), iv (own_n q2), .unset, .unset, .unset, .unset, .unset] [.int 54, .ref b47, .ref b47])
    refine own_st (fun t k => XS.bipush X.here hx rfl (hb hby at_379) k) ?_
    show own_E p e below _ T (mkF m 381 #[iv p0, iv p1, iv p2, iv p3, iv p4, iv p5, iv (own_n s0), iv (own_n w0), iv (own_n q0), iv (own_n q1), iv (own_n q2), .unset, .unset, .unset, .unset, .unset] [.int 48, .int 54, .ref b47, .ref b47])
    obtain ⟨T122, h122, X122, e122, W122, Aw122, st122⟩ := own_A_cst X hx hZ eTl VB (j := (54 : Int32)) (x := (48 : Int32)) (i := 54) (by decide) rfl (by decide) (g := (mkF m 381 #[iv p0, iv p1, iv p2, iv p3, iv p4, iv p5, iv (own_n s0), iv (own_n w0), iv (own_n q0), iv (own_n q1), iv (own_n q2), .unset, .unset, .unset, .unset, .unset] [.int 48, .int 54, .ref b47, .ref b47])) rfl rfl (hb hby at_381)
    have N122 := Fr.snoc X122 N g_b47
    have Z123 := Nat.le_trans (Nat.le_trans Z0 K.1) (Keep.of_wr W122).1
    have K124 : Keep h0 _ [] := K.wr W122 (Or.inr sz_b47)
    refine own_st st122 ?_
    show own_E p e below _ T122 (mkF m 382 #[iv p0, iv p1, iv p2, iv p3, iv p4, iv p5, iv (own_n s0), iv (own_n w0), iv (own_n q0), iv (own_n q1), iv (own_n q2), .unset, .unset, .unset, .unset, .unset] [.ref b47])
    exact S55 _ _ _ X122 N122 (by rw [e122]; exact K124) (by rw [e122]; exact Aw122) (own_bst (k := 54) I (by decide +kernel))
  clear S55
  have S53 : ∀ (T : State) (Lc : List Loc) (g : Nat → Int32), Stand p l e room_1 s m #[(.int p0), (.int p1), (.int p2), (.int p3), (.int p4), (.int p5)] below meth c T Lc 1 70 → Fr n0 Lc → Keep h0 T.heap [] → own_A Z T.heap b47 .char 70 g → (∀ j, j < 53 → g j = own_base j) → own_E p e below (own_K (own_law_Q n0) s room_1.cells room_1.slots) T (mkF m 370 #[iv p0, iv p1, iv p2, iv p3, iv p4, iv p5, iv (own_n s0), iv (own_n w0), iv (own_n q0), iv (own_n q1), iv (own_n q2), .unset, .unset, .unset, .unset, .unset] [.ref b47]) := by
    intro T Lc g X N K VB I
    have eTl : T.heap = T.heap := rfl
    refine own_st (fun t k => XS.dup X.here hx rfl (hb hby at_370) rfl rfl k) ?_
    show own_E p e below _ T (mkF m 371 #[iv p0, iv p1, iv p2, iv p3, iv p4, iv p5, iv (own_n s0), iv (own_n w0), iv (own_n q0), iv (own_n q1), iv (own_n q2), .unset, .unset, .unset, .unset, .unset] [.ref b47, .ref b47])
    refine own_st (fun t k => XS.bipush X.here hx rfl (hb hby at_371) k) ?_
    show own_E p e below _ T (mkF m 373 #[iv p0, iv p1, iv p2, iv p3, iv p4, iv p5, iv (own_n s0), iv (own_n w0), iv (own_n q0), iv (own_n q1), iv (own_n q2), .unset, .unset, .unset, .unset, .unset] [.int 53, .ref b47, .ref b47])
    refine own_st (fun t k => XS.bipush X.here hx rfl (hb hby at_373) k) ?_
    show own_E p e below _ T (mkF m 375 #[iv p0, iv p1, iv p2, iv p3, iv p4, iv p5, iv (own_n s0), iv (own_n w0), iv (own_n q0), iv (own_n q1), iv (own_n q2), .unset, .unset, .unset, .unset, .unset] [.int 122, .int 53, .ref b47, .ref b47])
    obtain ⟨T125, h125, X125, e125, W125, Aw125, st125⟩ := own_A_cst X hx hZ eTl VB (j := (53 : Int32)) (x := (122 : Int32)) (i := 53) (by decide) rfl (by decide) (g := (mkF m 375 #[iv p0, iv p1, iv p2, iv p3, iv p4, iv p5, iv (own_n s0), iv (own_n w0), iv (own_n q0), iv (own_n q1), iv (own_n q2), .unset, .unset, .unset, .unset, .unset] [.int 122, .int 53, .ref b47, .ref b47])) rfl rfl (hb hby at_375)
    have N125 := Fr.snoc X125 N g_b47
    have Z126 := Nat.le_trans (Nat.le_trans Z0 K.1) (Keep.of_wr W125).1
    have K127 : Keep h0 _ [] := K.wr W125 (Or.inr sz_b47)
    refine own_st st125 ?_
    show own_E p e below _ T125 (mkF m 376 #[iv p0, iv p1, iv p2, iv p3, iv p4, iv p5, iv (own_n s0), iv (own_n w0), iv (own_n q0), iv (own_n q1), iv (own_n q2), .unset, .unset, .unset, .unset, .unset] [.ref b47])
    exact S54 _ _ _ X125 N125 (by rw [e125]; exact K127) (by rw [e125]; exact Aw125) (own_bst (k := 53) I (by decide +kernel))
  clear S54
  have S52 : ∀ (T : State) (Lc : List Loc) (g : Nat → Int32), Stand p l e room_1 s m #[(.int p0), (.int p1), (.int p2), (.int p3), (.int p4), (.int p5)] below meth c T Lc 1 70 → Fr n0 Lc → Keep h0 T.heap [] → own_A Z T.heap b47 .char 70 g → (∀ j, j < 52 → g j = own_base j) → own_E p e below (own_K (own_law_Q n0) s room_1.cells room_1.slots) T (mkF m 364 #[iv p0, iv p1, iv p2, iv p3, iv p4, iv p5, iv (own_n s0), iv (own_n w0), iv (own_n q0), iv (own_n q1), iv (own_n q2), .unset, .unset, .unset, .unset, .unset] [.ref b47]) := by
    intro T Lc g X N K VB I
    have eTl : T.heap = T.heap := rfl
    refine own_st (fun t k => XS.dup X.here hx rfl (hb hby at_364) rfl rfl k) ?_
    show own_E p e below _ T (mkF m 365 #[iv p0, iv p1, iv p2, iv p3, iv p4, iv p5, iv (own_n s0), iv (own_n w0), iv (own_n q0), iv (own_n q1), iv (own_n q2), .unset, .unset, .unset, .unset, .unset] [.ref b47, .ref b47])
    refine own_st (fun t k => XS.bipush X.here hx rfl (hb hby at_365) k) ?_
    show own_E p e below _ T (mkF m 367 #[iv p0, iv p1, iv p2, iv p3, iv p4, iv p5, iv (own_n s0), iv (own_n w0), iv (own_n q0), iv (own_n q1), iv (own_n q2), .unset, .unset, .unset, .unset, .unset] [.int 52, .ref b47, .ref b47])
    refine own_st (fun t k => XS.bipush X.here hx rfl (hb hby at_367) k) ?_
    show own_E p e below _ T (mkF m 369 #[iv p0, iv p1, iv p2, iv p3, iv p4, iv p5, iv (own_n s0), iv (own_n w0), iv (own_n q0), iv (own_n q1), iv (own_n q2), .unset, .unset, .unset, .unset, .unset] [.int 97, .int 52, .ref b47, .ref b47])
    obtain ⟨T128, h128, X128, e128, W128, Aw128, st128⟩ := own_A_cst X hx hZ eTl VB (j := (52 : Int32)) (x := (97 : Int32)) (i := 52) (by decide) rfl (by decide) (g := (mkF m 369 #[iv p0, iv p1, iv p2, iv p3, iv p4, iv p5, iv (own_n s0), iv (own_n w0), iv (own_n q0), iv (own_n q1), iv (own_n q2), .unset, .unset, .unset, .unset, .unset] [.int 97, .int 52, .ref b47, .ref b47])) rfl rfl (hb hby at_369)
    have N128 := Fr.snoc X128 N g_b47
    have Z129 := Nat.le_trans (Nat.le_trans Z0 K.1) (Keep.of_wr W128).1
    have K130 : Keep h0 _ [] := K.wr W128 (Or.inr sz_b47)
    refine own_st st128 ?_
    show own_E p e below _ T128 (mkF m 370 #[iv p0, iv p1, iv p2, iv p3, iv p4, iv p5, iv (own_n s0), iv (own_n w0), iv (own_n q0), iv (own_n q1), iv (own_n q2), .unset, .unset, .unset, .unset, .unset] [.ref b47])
    exact S53 _ _ _ X128 N128 (by rw [e128]; exact K130) (by rw [e128]; exact Aw128) (own_bst (k := 52) I (by decide +kernel))
  clear S53
  have S51 : ∀ (T : State) (Lc : List Loc) (g : Nat → Int32), Stand p l e room_1 s m #[(.int p0), (.int p1), (.int p2), (.int p3), (.int p4), (.int p5)] below meth c T Lc 1 70 → Fr n0 Lc → Keep h0 T.heap [] → own_A Z T.heap b47 .char 70 g → (∀ j, j < 51 → g j = own_base j) → own_E p e below (own_K (own_law_Q n0) s room_1.cells room_1.slots) T (mkF m 358 #[iv p0, iv p1, iv p2, iv p3, iv p4, iv p5, iv (own_n s0), iv (own_n w0), iv (own_n q0), iv (own_n q1), iv (own_n q2), .unset, .unset, .unset, .unset, .unset] [.ref b47]) := by
    intro T Lc g X N K VB I
    have eTl : T.heap = T.heap := rfl
    refine own_st (fun t k => XS.dup X.here hx rfl (hb hby at_358) rfl rfl k) ?_
    show own_E p e below _ T (mkF m 359 #[iv p0, iv p1, iv p2, iv p3, iv p4, iv p5, iv (own_n s0), iv (own_n w0), iv (own_n q0), iv (own_n q1), iv (own_n q2), .unset, .unset, .unset, .unset, .unset] [.ref b47, .ref b47])
    refine own_st (fun t k => XS.bipush X.here hx rfl (hb hby at_359) k) ?_
    show own_E p e below _ T (mkF m 361 #[iv p0, iv p1, iv p2, iv p3, iv p4, iv p5, iv (own_n s0), iv (own_n w0), iv (own_n q0), iv (own_n q1), iv (own_n q2), .unset, .unset, .unset, .unset, .unset] [.int 51, .ref b47, .ref b47])
    refine own_st (fun t k => XS.bipush X.here hx rfl (hb hby at_361) k) ?_
    show own_E p e below _ T (mkF m 363 #[iv p0, iv p1, iv p2, iv p3, iv p4, iv p5, iv (own_n s0), iv (own_n w0), iv (own_n q0), iv (own_n q1), iv (own_n q2), .unset, .unset, .unset, .unset, .unset] [.int 90, .int 51, .ref b47, .ref b47])
    obtain ⟨T131, h131, X131, e131, W131, Aw131, st131⟩ := own_A_cst X hx hZ eTl VB (j := (51 : Int32)) (x := (90 : Int32)) (i := 51) (by decide) rfl (by decide) (g := (mkF m 363 #[iv p0, iv p1, iv p2, iv p3, iv p4, iv p5, iv (own_n s0), iv (own_n w0), iv (own_n q0), iv (own_n q1), iv (own_n q2), .unset, .unset, .unset, .unset, .unset] [.int 90, .int 51, .ref b47, .ref b47])) rfl rfl (hb hby at_363)
    have N131 := Fr.snoc X131 N g_b47
    have Z132 := Nat.le_trans (Nat.le_trans Z0 K.1) (Keep.of_wr W131).1
    have K133 : Keep h0 _ [] := K.wr W131 (Or.inr sz_b47)
    refine own_st st131 ?_
    show own_E p e below _ T131 (mkF m 364 #[iv p0, iv p1, iv p2, iv p3, iv p4, iv p5, iv (own_n s0), iv (own_n w0), iv (own_n q0), iv (own_n q1), iv (own_n q2), .unset, .unset, .unset, .unset, .unset] [.ref b47])
    exact S52 _ _ _ X131 N131 (by rw [e131]; exact K133) (by rw [e131]; exact Aw131) (own_bst (k := 51) I (by decide +kernel))
  clear S52
  have S50 : ∀ (T : State) (Lc : List Loc) (g : Nat → Int32), Stand p l e room_1 s m #[(.int p0), (.int p1), (.int p2), (.int p3), (.int p4), (.int p5)] below meth c T Lc 1 70 → Fr n0 Lc → Keep h0 T.heap [] → own_A Z T.heap b47 .char 70 g → (∀ j, j < 50 → g j = own_base j) → own_E p e below (own_K (own_law_Q n0) s room_1.cells room_1.slots) T (mkF m 352 #[iv p0, iv p1, iv p2, iv p3, iv p4, iv p5, iv (own_n s0), iv (own_n w0), iv (own_n q0), iv (own_n q1), iv (own_n q2), .unset, .unset, .unset, .unset, .unset] [.ref b47]) := by
    intro T Lc g X N K VB I
    have eTl : T.heap = T.heap := rfl
    refine own_st (fun t k => XS.dup X.here hx rfl (hb hby at_352) rfl rfl k) ?_
    show own_E p e below _ T (mkF m 353 #[iv p0, iv p1, iv p2, iv p3, iv p4, iv p5, iv (own_n s0), iv (own_n w0), iv (own_n q0), iv (own_n q1), iv (own_n q2), .unset, .unset, .unset, .unset, .unset] [.ref b47, .ref b47])
    refine own_st (fun t k => XS.bipush X.here hx rfl (hb hby at_353) k) ?_
    show own_E p e below _ T (mkF m 355 #[iv p0, iv p1, iv p2, iv p3, iv p4, iv p5, iv (own_n s0), iv (own_n w0), iv (own_n q0), iv (own_n q1), iv (own_n q2), .unset, .unset, .unset, .unset, .unset] [.int 50, .ref b47, .ref b47])
    refine own_st (fun t k => XS.bipush X.here hx rfl (hb hby at_355) k) ?_
    show own_E p e below _ T (mkF m 357 #[iv p0, iv p1, iv p2, iv p3, iv p4, iv p5, iv (own_n s0), iv (own_n w0), iv (own_n q0), iv (own_n q1), iv (own_n q2), .unset, .unset, .unset, .unset, .unset] [.int 65, .int 50, .ref b47, .ref b47])
    obtain ⟨T134, h134, X134, e134, W134, Aw134, st134⟩ := own_A_cst X hx hZ eTl VB (j := (50 : Int32)) (x := (65 : Int32)) (i := 50) (by decide) rfl (by decide) (g := (mkF m 357 #[iv p0, iv p1, iv p2, iv p3, iv p4, iv p5, iv (own_n s0), iv (own_n w0), iv (own_n q0), iv (own_n q1), iv (own_n q2), .unset, .unset, .unset, .unset, .unset] [.int 65, .int 50, .ref b47, .ref b47])) rfl rfl (hb hby at_357)
    have N134 := Fr.snoc X134 N g_b47
    have Z135 := Nat.le_trans (Nat.le_trans Z0 K.1) (Keep.of_wr W134).1
    have K136 : Keep h0 _ [] := K.wr W134 (Or.inr sz_b47)
    refine own_st st134 ?_
    show own_E p e below _ T134 (mkF m 358 #[iv p0, iv p1, iv p2, iv p3, iv p4, iv p5, iv (own_n s0), iv (own_n w0), iv (own_n q0), iv (own_n q1), iv (own_n q2), .unset, .unset, .unset, .unset, .unset] [.ref b47])
    exact S51 _ _ _ X134 N134 (by rw [e134]; exact K136) (by rw [e134]; exact Aw134) (own_bst (k := 50) I (by decide +kernel))
  clear S51
  have S49 : ∀ (T : State) (Lc : List Loc) (g : Nat → Int32), Stand p l e room_1 s m #[(.int p0), (.int p1), (.int p2), (.int p3), (.int p4), (.int p5)] below meth c T Lc 1 70 → Fr n0 Lc → Keep h0 T.heap [] → own_A Z T.heap b47 .char 70 g → (∀ j, j < 49 → g j = own_base j) → own_E p e below (own_K (own_law_Q n0) s room_1.cells room_1.slots) T (mkF m 346 #[iv p0, iv p1, iv p2, iv p3, iv p4, iv p5, iv (own_n s0), iv (own_n w0), iv (own_n q0), iv (own_n q1), iv (own_n q2), .unset, .unset, .unset, .unset, .unset] [.ref b47]) := by
    intro T Lc g X N K VB I
    have eTl : T.heap = T.heap := rfl
    refine own_st (fun t k => XS.dup X.here hx rfl (hb hby at_346) rfl rfl k) ?_
    show own_E p e below _ T (mkF m 347 #[iv p0, iv p1, iv p2, iv p3, iv p4, iv p5, iv (own_n s0), iv (own_n w0), iv (own_n q0), iv (own_n q1), iv (own_n q2), .unset, .unset, .unset, .unset, .unset] [.ref b47, .ref b47])
    refine own_st (fun t k => XS.bipush X.here hx rfl (hb hby at_347) k) ?_
    show own_E p e below _ T (mkF m 349 #[iv p0, iv p1, iv p2, iv p3, iv p4, iv p5, iv (own_n s0), iv (own_n w0), iv (own_n q0), iv (own_n q1), iv (own_n q2), .unset, .unset, .unset, .unset, .unset] [.int 49, .ref b47, .ref b47])
    refine own_st (fun t k => XS.bipush X.here hx rfl (hb hby at_349) k) ?_
    show own_E p e below _ T (mkF m 351 #[iv p0, iv p1, iv p2, iv p3, iv p4, iv p5, iv (own_n s0), iv (own_n w0), iv (own_n q0), iv (own_n q1), iv (own_n q2), .unset, .unset, .unset, .unset, .unset] [.int 53, .int 49, .ref b47, .ref b47])
    obtain ⟨T137, h137, X137, e137, W137, Aw137, st137⟩ := own_A_cst X hx hZ eTl VB (j := (49 : Int32)) (x := (53 : Int32)) (i := 49) (by decide) rfl (by decide) (g := (mkF m 351 #[iv p0, iv p1, iv p2, iv p3, iv p4, iv p5, iv (own_n s0), iv (own_n w0), iv (own_n q0), iv (own_n q1), iv (own_n q2), .unset, .unset, .unset, .unset, .unset] [.int 53, .int 49, .ref b47, .ref b47])) rfl rfl (hb hby at_351)
    have N137 := Fr.snoc X137 N g_b47
    have Z138 := Nat.le_trans (Nat.le_trans Z0 K.1) (Keep.of_wr W137).1
    have K139 : Keep h0 _ [] := K.wr W137 (Or.inr sz_b47)
    refine own_st st137 ?_
    show own_E p e below _ T137 (mkF m 352 #[iv p0, iv p1, iv p2, iv p3, iv p4, iv p5, iv (own_n s0), iv (own_n w0), iv (own_n q0), iv (own_n q1), iv (own_n q2), .unset, .unset, .unset, .unset, .unset] [.ref b47])
    exact S50 _ _ _ X137 N137 (by rw [e137]; exact K139) (by rw [e137]; exact Aw137) (own_bst (k := 49) I (by decide +kernel))
  clear S50
  have S48 : ∀ (T : State) (Lc : List Loc) (g : Nat → Int32), Stand p l e room_1 s m #[(.int p0), (.int p1), (.int p2), (.int p3), (.int p4), (.int p5)] below meth c T Lc 1 70 → Fr n0 Lc → Keep h0 T.heap [] → own_A Z T.heap b47 .char 70 g → (∀ j, j < 48 → g j = own_base j) → own_E p e below (own_K (own_law_Q n0) s room_1.cells room_1.slots) T (mkF m 340 #[iv p0, iv p1, iv p2, iv p3, iv p4, iv p5, iv (own_n s0), iv (own_n w0), iv (own_n q0), iv (own_n q1), iv (own_n q2), .unset, .unset, .unset, .unset, .unset] [.ref b47]) := by
    intro T Lc g X N K VB I
    have eTl : T.heap = T.heap := rfl
    refine own_st (fun t k => XS.dup X.here hx rfl (hb hby at_340) rfl rfl k) ?_
    show own_E p e below _ T (mkF m 341 #[iv p0, iv p1, iv p2, iv p3, iv p4, iv p5, iv (own_n s0), iv (own_n w0), iv (own_n q0), iv (own_n q1), iv (own_n q2), .unset, .unset, .unset, .unset, .unset] [.ref b47, .ref b47])
    refine own_st (fun t k => XS.bipush X.here hx rfl (hb hby at_341) k) ?_
    show own_E p e below _ T (mkF m 343 #[iv p0, iv p1, iv p2, iv p3, iv p4, iv p5, iv (own_n s0), iv (own_n w0), iv (own_n q0), iv (own_n q1), iv (own_n q2), .unset, .unset, .unset, .unset, .unset] [.int 48, .ref b47, .ref b47])
    refine own_st (fun t k => XS.bipush X.here hx rfl (hb hby at_343) k) ?_
    show own_E p e below _ T (mkF m 345 #[iv p0, iv p1, iv p2, iv p3, iv p4, iv p5, iv (own_n s0), iv (own_n w0), iv (own_n q0), iv (own_n q1), iv (own_n q2), .unset, .unset, .unset, .unset, .unset] [.int 109, .int 48, .ref b47, .ref b47])
    obtain ⟨T140, h140, X140, e140, W140, Aw140, st140⟩ := own_A_cst X hx hZ eTl VB (j := (48 : Int32)) (x := (109 : Int32)) (i := 48) (by decide) rfl (by decide) (g := (mkF m 345 #[iv p0, iv p1, iv p2, iv p3, iv p4, iv p5, iv (own_n s0), iv (own_n w0), iv (own_n q0), iv (own_n q1), iv (own_n q2), .unset, .unset, .unset, .unset, .unset] [.int 109, .int 48, .ref b47, .ref b47])) rfl rfl (hb hby at_345)
    have N140 := Fr.snoc X140 N g_b47
    have Z141 := Nat.le_trans (Nat.le_trans Z0 K.1) (Keep.of_wr W140).1
    have K142 : Keep h0 _ [] := K.wr W140 (Or.inr sz_b47)
    refine own_st st140 ?_
    show own_E p e below _ T140 (mkF m 346 #[iv p0, iv p1, iv p2, iv p3, iv p4, iv p5, iv (own_n s0), iv (own_n w0), iv (own_n q0), iv (own_n q1), iv (own_n q2), .unset, .unset, .unset, .unset, .unset] [.ref b47])
    exact S49 _ _ _ X140 N140 (by rw [e140]; exact K142) (by rw [e140]; exact Aw140) (own_bst (k := 48) I (by decide +kernel))
  clear S49
  have S47 : ∀ (T : State) (Lc : List Loc) (g : Nat → Int32), Stand p l e room_1 s m #[(.int p0), (.int p1), (.int p2), (.int p3), (.int p4), (.int p5)] below meth c T Lc 1 70 → Fr n0 Lc → Keep h0 T.heap [] → own_A Z T.heap b47 .char 70 g → (∀ j, j < 47 → g j = own_base j) → own_E p e below (own_K (own_law_Q n0) s room_1.cells room_1.slots) T (mkF m 334 #[iv p0, iv p1, iv p2, iv p3, iv p4, iv p5, iv (own_n s0), iv (own_n w0), iv (own_n q0), iv (own_n q1), iv (own_n q2), .unset, .unset, .unset, .unset, .unset] [.ref b47]) := by
    intro T Lc g X N K VB I
    have eTl : T.heap = T.heap := rfl
    refine own_st (fun t k => XS.dup X.here hx rfl (hb hby at_334) rfl rfl k) ?_
    show own_E p e below _ T (mkF m 335 #[iv p0, iv p1, iv p2, iv p3, iv p4, iv p5, iv (own_n s0), iv (own_n w0), iv (own_n q0), iv (own_n q1), iv (own_n q2), .unset, .unset, .unset, .unset, .unset] [.ref b47, .ref b47])
    refine own_st (fun t k => XS.bipush X.here hx rfl (hb hby at_335) k) ?_
    show own_E p e below _ T (mkF m 337 #[iv p0, iv p1, iv p2, iv p3, iv p4, iv p5, iv (own_n s0), iv (own_n w0), iv (own_n q0), iv (own_n q1), iv (own_n q2), .unset, .unset, .unset, .unset, .unset] [.int 47, .ref b47, .ref b47])
    refine own_st (fun t k => XS.bipush X.here hx rfl (hb hby at_337) k) ?_
    show own_E p e below _ T (mkF m 339 #[iv p0, iv p1, iv p2, iv p3, iv p4, iv p5, iv (own_n s0), iv (own_n w0), iv (own_n q0), iv (own_n q1), iv (own_n q2), .unset, .unset, .unset, .unset, .unset] [.int 46, .int 47, .ref b47, .ref b47])
    obtain ⟨T143, h143, X143, e143, W143, Aw143, st143⟩ := own_A_cst X hx hZ eTl VB (j := (47 : Int32)) (x := (46 : Int32)) (i := 47) (by decide) rfl (by decide) (g := (mkF m 339 #[iv p0, iv p1, iv p2, iv p3, iv p4, iv p5, iv (own_n s0), iv (own_n w0), iv (own_n q0), iv (own_n q1), iv (own_n q2), .unset, .unset, .unset, .unset, .unset] [.int 46, .int 47, .ref b47, .ref b47])) rfl rfl (hb hby at_339)
    have N143 := Fr.snoc X143 N g_b47
    have Z144 := Nat.le_trans (Nat.le_trans Z0 K.1) (Keep.of_wr W143).1
    have K145 : Keep h0 _ [] := K.wr W143 (Or.inr sz_b47)
    refine own_st st143 ?_
    show own_E p e below _ T143 (mkF m 340 #[iv p0, iv p1, iv p2, iv p3, iv p4, iv p5, iv (own_n s0), iv (own_n w0), iv (own_n q0), iv (own_n q1), iv (own_n q2), .unset, .unset, .unset, .unset, .unset] [.ref b47])
    exact S48 _ _ _ X143 N143 (by rw [e143]; exact K145) (by rw [e143]; exact Aw143) (own_bst (k := 47) I (by decide +kernel))
  clear S48
  have S46 : ∀ (T : State) (Lc : List Loc) (g : Nat → Int32), Stand p l e room_1 s m #[(.int p0), (.int p1), (.int p2), (.int p3), (.int p4), (.int p5)] below meth c T Lc 1 70 → Fr n0 Lc → Keep h0 T.heap [] → own_A Z T.heap b47 .char 70 g → (∀ j, j < 46 → g j = own_base j) → own_E p e below (own_K (own_law_Q n0) s room_1.cells room_1.slots) T (mkF m 328 #[iv p0, iv p1, iv p2, iv p3, iv p4, iv p5, iv (own_n s0), iv (own_n w0), iv (own_n q0), iv (own_n q1), iv (own_n q2), .unset, .unset, .unset, .unset, .unset] [.ref b47]) := by
    intro T Lc g X N K VB I
    have eTl : T.heap = T.heap := rfl
    refine own_st (fun t k => XS.dup X.here hx rfl (hb hby at_328) rfl rfl k) ?_
    show own_E p e below _ T (mkF m 329 #[iv p0, iv p1, iv p2, iv p3, iv p4, iv p5, iv (own_n s0), iv (own_n w0), iv (own_n q0), iv (own_n q1), iv (own_n q2), .unset, .unset, .unset, .unset, .unset] [.ref b47, .ref b47])
    refine own_st (fun t k => XS.bipush X.here hx rfl (hb hby at_329) k) ?_
    show own_E p e below _ T (mkF m 331 #[iv p0, iv p1, iv p2, iv p3, iv p4, iv p5, iv (own_n s0), iv (own_n w0), iv (own_n q0), iv (own_n q1), iv (own_n q2), .unset, .unset, .unset, .unset, .unset] [.int 46, .ref b47, .ref b47])
    refine own_st (fun t k => XS.bipush X.here hx rfl (hb hby at_331) k) ?_
    show own_E p e below _ T (mkF m 333 #[iv p0, iv p1, iv p2, iv p3, iv p4, iv p5, iv (own_n s0), iv (own_n w0), iv (own_n q0), iv (own_n q1), iv (own_n q2), .unset, .unset, .unset, .unset, .unset] [.int 45, .int 46, .ref b47, .ref b47])
    obtain ⟨T146, h146, X146, e146, W146, Aw146, st146⟩ := own_A_cst X hx hZ eTl VB (j := (46 : Int32)) (x := (45 : Int32)) (i := 46) (by decide) rfl (by decide) (g := (mkF m 333 #[iv p0, iv p1, iv p2, iv p3, iv p4, iv p5, iv (own_n s0), iv (own_n w0), iv (own_n q0), iv (own_n q1), iv (own_n q2), .unset, .unset, .unset, .unset, .unset] [.int 45, .int 46, .ref b47, .ref b47])) rfl rfl (hb hby at_333)
    have N146 := Fr.snoc X146 N g_b47
    have Z147 := Nat.le_trans (Nat.le_trans Z0 K.1) (Keep.of_wr W146).1
    have K148 : Keep h0 _ [] := K.wr W146 (Or.inr sz_b47)
    refine own_st st146 ?_
    show own_E p e below _ T146 (mkF m 334 #[iv p0, iv p1, iv p2, iv p3, iv p4, iv p5, iv (own_n s0), iv (own_n w0), iv (own_n q0), iv (own_n q1), iv (own_n q2), .unset, .unset, .unset, .unset, .unset] [.ref b47])
    exact S47 _ _ _ X146 N146 (by rw [e146]; exact K148) (by rw [e146]; exact Aw146) (own_bst (k := 46) I (by decide +kernel))
  clear S47
  have S45 : ∀ (T : State) (Lc : List Loc) (g : Nat → Int32), Stand p l e room_1 s m #[(.int p0), (.int p1), (.int p2), (.int p3), (.int p4), (.int p5)] below meth c T Lc 1 70 → Fr n0 Lc → Keep h0 T.heap [] → own_A Z T.heap b47 .char 70 g → (∀ j, j < 45 → g j = own_base j) → own_E p e below (own_K (own_law_Q n0) s room_1.cells room_1.slots) T (mkF m 322 #[iv p0, iv p1, iv p2, iv p3, iv p4, iv p5, iv (own_n s0), iv (own_n w0), iv (own_n q0), iv (own_n q1), iv (own_n q2), .unset, .unset, .unset, .unset, .unset] [.ref b47]) := by
    intro T Lc g X N K VB I
    have eTl : T.heap = T.heap := rfl
    refine own_st (fun t k => XS.dup X.here hx rfl (hb hby at_322) rfl rfl k) ?_
    show own_E p e below _ T (mkF m 323 #[iv p0, iv p1, iv p2, iv p3, iv p4, iv p5, iv (own_n s0), iv (own_n w0), iv (own_n q0), iv (own_n q1), iv (own_n q2), .unset, .unset, .unset, .unset, .unset] [.ref b47, .ref b47])
    refine own_st (fun t k => XS.bipush X.here hx rfl (hb hby at_323) k) ?_
    show own_E p e below _ T (mkF m 325 #[iv p0, iv p1, iv p2, iv p3, iv p4, iv p5, iv (own_n s0), iv (own_n w0), iv (own_n q0), iv (own_n q1), iv (own_n q2), .unset, .unset, .unset, .unset, .unset] [.int 45, .ref b47, .ref b47])
    refine own_st (fun t k => XS.bipush X.here hx rfl (hb hby at_325) k) ?_
    show own_E p e below _ T (mkF m 327 #[iv p0, iv p1, iv p2, iv p3, iv p4, iv p5, iv (own_n s0), iv (own_n w0), iv (own_n q0), iv (own_n q1), iv (own_n q2), .unset, .unset, .unset, .unset, .unset] [.int 57, .int 45, .ref b47, .ref b47])
    obtain ⟨T149, h149, X149, e149, W149, Aw149, st149⟩ := own_A_cst X hx hZ eTl VB (j := (45 : Int32)) (x := (57 : Int32)) (i := 45) (by decide) rfl (by decide) (g := (mkF m 327 #[iv p0, iv p1, iv p2, iv p3, iv p4, iv p5, iv (own_n s0), iv (own_n w0), iv (own_n q0), iv (own_n q1), iv (own_n q2), .unset, .unset, .unset, .unset, .unset] [.int 57, .int 45, .ref b47, .ref b47])) rfl rfl (hb hby at_327)
    have N149 := Fr.snoc X149 N g_b47
    have Z150 := Nat.le_trans (Nat.le_trans Z0 K.1) (Keep.of_wr W149).1
    have K151 : Keep h0 _ [] := K.wr W149 (Or.inr sz_b47)
    refine own_st st149 ?_
    show own_E p e below _ T149 (mkF m 328 #[iv p0, iv p1, iv p2, iv p3, iv p4, iv p5, iv (own_n s0), iv (own_n w0), iv (own_n q0), iv (own_n q1), iv (own_n q2), .unset, .unset, .unset, .unset, .unset] [.ref b47])
    exact S46 _ _ _ X149 N149 (by rw [e149]; exact K151) (by rw [e149]; exact Aw149) (own_bst (k := 45) I (by decide +kernel))
  clear S46
  have S44 : ∀ (T : State) (Lc : List Loc) (g : Nat → Int32), Stand p l e room_1 s m #[(.int p0), (.int p1), (.int p2), (.int p3), (.int p4), (.int p5)] below meth c T Lc 1 70 → Fr n0 Lc → Keep h0 T.heap [] → own_A Z T.heap b47 .char 70 g → (∀ j, j < 44 → g j = own_base j) → own_E p e below (own_K (own_law_Q n0) s room_1.cells room_1.slots) T (mkF m 316 #[iv p0, iv p1, iv p2, iv p3, iv p4, iv p5, iv (own_n s0), iv (own_n w0), iv (own_n q0), iv (own_n q1), iv (own_n q2), .unset, .unset, .unset, .unset, .unset] [.ref b47]) := by
    intro T Lc g X N K VB I
    have eTl : T.heap = T.heap := rfl
    refine own_st (fun t k => XS.dup X.here hx rfl (hb hby at_316) rfl rfl k) ?_
    show own_E p e below _ T (mkF m 317 #[iv p0, iv p1, iv p2, iv p3, iv p4, iv p5, iv (own_n s0), iv (own_n w0), iv (own_n q0), iv (own_n q1), iv (own_n q2), .unset, .unset, .unset, .unset, .unset] [.ref b47, .ref b47])
    refine own_st (fun t k => XS.bipush X.here hx rfl (hb hby at_317) k) ?_
    show own_E p e below _ T (mkF m 319 #[iv p0, iv p1, iv p2, iv p3, iv p4, iv p5, iv (own_n s0), iv (own_n w0), iv (own_n q0), iv (own_n q1), iv (own_n q2), .unset, .unset, .unset, .unset, .unset] [.int 44, .ref b47, .ref b47])
    refine own_st (fun t k => XS.bipush X.here hx rfl (hb hby at_319) k) ?_
    show own_E p e below _ T (mkF m 321 #[iv p0, iv p1, iv p2, iv p3, iv p4, iv p5, iv (own_n s0), iv (own_n w0), iv (own_n q0), iv (own_n q1), iv (own_n q2), .unset, .unset, .unset, .unset, .unset] [.int 48, .int 44, .ref b47, .ref b47])
    obtain ⟨T152, h152, X152, e152, W152, Aw152, st152⟩ := own_A_cst X hx hZ eTl VB (j := (44 : Int32)) (x := (48 : Int32)) (i := 44) (by decide) rfl (by decide) (g := (mkF m 321 #[iv p0, iv p1, iv p2, iv p3, iv p4, iv p5, iv (own_n s0), iv (own_n w0), iv (own_n q0), iv (own_n q1), iv (own_n q2), .unset, .unset, .unset, .unset, .unset] [.int 48, .int 44, .ref b47, .ref b47])) rfl rfl (hb hby at_321)
    have N152 := Fr.snoc X152 N g_b47
    have Z153 := Nat.le_trans (Nat.le_trans Z0 K.1) (Keep.of_wr W152).1
    have K154 : Keep h0 _ [] := K.wr W152 (Or.inr sz_b47)
    refine own_st st152 ?_
    show own_E p e below _ T152 (mkF m 322 #[iv p0, iv p1, iv p2, iv p3, iv p4, iv p5, iv (own_n s0), iv (own_n w0), iv (own_n q0), iv (own_n q1), iv (own_n q2), .unset, .unset, .unset, .unset, .unset] [.ref b47])
    exact S45 _ _ _ X152 N152 (by rw [e152]; exact K154) (by rw [e152]; exact Aw152) (own_bst (k := 44) I (by decide +kernel))
  clear S45
  have S43 : ∀ (T : State) (Lc : List Loc) (g : Nat → Int32), Stand p l e room_1 s m #[(.int p0), (.int p1), (.int p2), (.int p3), (.int p4), (.int p5)] below meth c T Lc 1 70 → Fr n0 Lc → Keep h0 T.heap [] → own_A Z T.heap b47 .char 70 g → (∀ j, j < 43 → g j = own_base j) → own_E p e below (own_K (own_law_Q n0) s room_1.cells room_1.slots) T (mkF m 310 #[iv p0, iv p1, iv p2, iv p3, iv p4, iv p5, iv (own_n s0), iv (own_n w0), iv (own_n q0), iv (own_n q1), iv (own_n q2), .unset, .unset, .unset, .unset, .unset] [.ref b47]) := by
    intro T Lc g X N K VB I
    have eTl : T.heap = T.heap := rfl
    refine own_st (fun t k => XS.dup X.here hx rfl (hb hby at_310) rfl rfl k) ?_
    show own_E p e below _ T (mkF m 311 #[iv p0, iv p1, iv p2, iv p3, iv p4, iv p5, iv (own_n s0), iv (own_n w0), iv (own_n q0), iv (own_n q1), iv (own_n q2), .unset, .unset, .unset, .unset, .unset] [.ref b47, .ref b47])
    refine own_st (fun t k => XS.bipush X.here hx rfl (hb hby at_311) k) ?_
    show own_E p e below _ T (mkF m 313 #[iv p0, iv p1, iv p2, iv p3, iv p4, iv p5, iv (own_n s0), iv (own_n w0), iv (own_n q0), iv (own_n q1), iv (own_n q2), .unset, .unset, .unset, .unset, .unset] [.int 43, .ref b47, .ref b47])
    refine own_st (fun t k => XS.bipush X.here hx rfl (hb hby at_313) k) ?_
    show own_E p e below _ T (mkF m 315 #[iv p0, iv p1, iv p2, iv p3, iv p4, iv p5, iv (own_n s0), iv (own_n w0), iv (own_n q0), iv (own_n q1), iv (own_n q2), .unset, .unset, .unset, .unset, .unset] [.int 122, .int 43, .ref b47, .ref b47])
    obtain ⟨T155, h155, X155, e155, W155, Aw155, st155⟩ := own_A_cst X hx hZ eTl VB (j := (43 : Int32)) (x := (122 : Int32)) (i := 43) (by decide) rfl (by decide) (g := (mkF m 315 #[iv p0, iv p1, iv p2, iv p3, iv p4, iv p5, iv (own_n s0), iv (own_n w0), iv (own_n q0), iv (own_n q1), iv (own_n q2), .unset, .unset, .unset, .unset, .unset] [.int 122, .int 43, .ref b47, .ref b47])) rfl rfl (hb hby at_315)
    have N155 := Fr.snoc X155 N g_b47
    have Z156 := Nat.le_trans (Nat.le_trans Z0 K.1) (Keep.of_wr W155).1
    have K157 : Keep h0 _ [] := K.wr W155 (Or.inr sz_b47)
    refine own_st st155 ?_
    show own_E p e below _ T155 (mkF m 316 #[iv p0, iv p1, iv p2, iv p3, iv p4, iv p5, iv (own_n s0), iv (own_n w0), iv (own_n q0), iv (own_n q1), iv (own_n q2), .unset, .unset, .unset, .unset, .unset] [.ref b47])
    exact S44 _ _ _ X155 N155 (by rw [e155]; exact K157) (by rw [e155]; exact Aw155) (own_bst (k := 43) I (by decide +kernel))
  clear S44
  have S42 : ∀ (T : State) (Lc : List Loc) (g : Nat → Int32), Stand p l e room_1 s m #[(.int p0), (.int p1), (.int p2), (.int p3), (.int p4), (.int p5)] below meth c T Lc 1 70 → Fr n0 Lc → Keep h0 T.heap [] → own_A Z T.heap b47 .char 70 g → (∀ j, j < 42 → g j = own_base j) → own_E p e below (own_K (own_law_Q n0) s room_1.cells room_1.slots) T (mkF m 304 #[iv p0, iv p1, iv p2, iv p3, iv p4, iv p5, iv (own_n s0), iv (own_n w0), iv (own_n q0), iv (own_n q1), iv (own_n q2), .unset, .unset, .unset, .unset, .unset] [.ref b47]) := by
    intro T Lc g X N K VB I
    have eTl : T.heap = T.heap := rfl
    refine own_st (fun t k => XS.dup X.here hx rfl (hb hby at_304) rfl rfl k) ?_
    show own_E p e below _ T (mkF m 305 #[iv p0, iv p1, iv p2, iv p3, iv p4, iv p5, iv (own_n s0), iv (own_n w0), iv (own_n q0), iv (own_n q1), iv (own_n q2), .unset, .unset, .unset, .unset, .unset] [.ref b47, .ref b47])
    refine own_st (fun t k => XS.bipush X.here hx rfl (hb hby at_305) k) ?_
    show own_E p e below _ T (mkF m 307 #[iv p0, iv p1, iv p2, iv p3, iv p4, iv p5, iv (own_n s0), iv (own_n w0), iv (own_n q0), iv (own_n q1), iv (own_n q2), .unset, .unset, .unset, .unset, .unset] [.int 42, .ref b47, .ref b47])
    refine own_st (fun t k => XS.bipush X.here hx rfl (hb hby at_307) k) ?_
    show own_E p e below _ T (mkF m 309 #[iv p0, iv p1, iv p2, iv p3, iv p4, iv p5, iv (own_n s0), iv (own_n w0), iv (own_n q0), iv (own_n q1), iv (own_n q2), .unset, .unset, .unset, .unset, .unset] [.int 97, .int 42, .ref b47, .ref b47])
    obtain ⟨T158, h158, X158, e158, W158, Aw158, st158⟩ := own_A_cst X hx hZ eTl VB (j := (42 : Int32)) (x := (97 : Int32)) (i := 42) (by decide) rfl (by decide) (g := (mkF m 309 #[iv p0, iv p1, iv p2, iv p3, iv p4, iv p5, iv (own_n s0), iv (own_n w0), iv (own_n q0), iv (own_n q1), iv (own_n q2), .unset, .unset, .unset, .unset, .unset] [.int 97, .int 42, .ref b47, .ref b47])) rfl rfl (hb hby at_309)
    have N158 := Fr.snoc X158 N g_b47
    have Z159 := Nat.le_trans (Nat.le_trans Z0 K.1) (Keep.of_wr W158).1
    have K160 : Keep h0 _ [] := K.wr W158 (Or.inr sz_b47)
    refine own_st st158 ?_
    show own_E p e below _ T158 (mkF m 310 #[iv p0, iv p1, iv p2, iv p3, iv p4, iv p5, iv (own_n s0), iv (own_n w0), iv (own_n q0), iv (own_n q1), iv (own_n q2), .unset, .unset, .unset, .unset, .unset] [.ref b47])
    exact S43 _ _ _ X158 N158 (by rw [e158]; exact K160) (by rw [e158]; exact Aw158) (own_bst (k := 42) I (by decide +kernel))
  clear S43
  have S41 : ∀ (T : State) (Lc : List Loc) (g : Nat → Int32), Stand p l e room_1 s m #[(.int p0), (.int p1), (.int p2), (.int p3), (.int p4), (.int p5)] below meth c T Lc 1 70 → Fr n0 Lc → Keep h0 T.heap [] → own_A Z T.heap b47 .char 70 g → (∀ j, j < 41 → g j = own_base j) → own_E p e below (own_K (own_law_Q n0) s room_1.cells room_1.slots) T (mkF m 298 #[iv p0, iv p1, iv p2, iv p3, iv p4, iv p5, iv (own_n s0), iv (own_n w0), iv (own_n q0), iv (own_n q1), iv (own_n q2), .unset, .unset, .unset, .unset, .unset] [.ref b47]) := by
    intro T Lc g X N K VB I
    have eTl : T.heap = T.heap := rfl
    refine own_st (fun t k => XS.dup X.here hx rfl (hb hby at_298) rfl rfl k) ?_
    show own_E p e below _ T (mkF m 299 #[iv p0, iv p1, iv p2, iv p3, iv p4, iv p5, iv (own_n s0), iv (own_n w0), iv (own_n q0), iv (own_n q1), iv (own_n q2), .unset, .unset, .unset, .unset, .unset] [.ref b47, .ref b47])
    refine own_st (fun t k => XS.bipush X.here hx rfl (hb hby at_299) k) ?_
    show own_E p e below _ T (mkF m 301 #[iv p0, iv p1, iv p2, iv p3, iv p4, iv p5, iv (own_n s0), iv (own_n w0), iv (own_n q0), iv (own_n q1), iv (own_n q2), .unset, .unset, .unset, .unset, .unset] [.int 41, .ref b47, .ref b47])
    refine own_st (fun t k => XS.bipush X.here hx rfl (hb hby at_301) k) ?_
    show own_E p e below _ T (mkF m 303 #[iv p0, iv p1, iv p2, iv p3, iv p4, iv p5, iv (own_n s0), iv (own_n w0), iv (own_n q0), iv (own_n q1), iv (own_n q2), .unset, .unset, .unset, .unset, .unset] [.int 90, .int 41, .ref b47, .ref b47])
    obtain ⟨T161, h161, X161, e161, W161, Aw161, st161⟩ := own_A_cst X hx hZ eTl VB (j := (41 : Int32)) (x := (90 : Int32)) (i := 41) (by decide) rfl (by decide) (g := (mkF m 303 #[iv p0, iv p1, iv p2, iv p3, iv p4, iv p5, iv (own_n s0), iv (own_n w0), iv (own_n q0), iv (own_n q1), iv (own_n q2), .unset, .unset, .unset, .unset, .unset] [.int 90, .int 41, .ref b47, .ref b47])) rfl rfl (hb hby at_303)
    have N161 := Fr.snoc X161 N g_b47
    have Z162 := Nat.le_trans (Nat.le_trans Z0 K.1) (Keep.of_wr W161).1
    have K163 : Keep h0 _ [] := K.wr W161 (Or.inr sz_b47)
    refine own_st st161 ?_
    show own_E p e below _ T161 (mkF m 304 #[iv p0, iv p1, iv p2, iv p3, iv p4, iv p5, iv (own_n s0), iv (own_n w0), iv (own_n q0), iv (own_n q1), iv (own_n q2), .unset, .unset, .unset, .unset, .unset] [.ref b47])
    exact S42 _ _ _ X161 N161 (by rw [e161]; exact K163) (by rw [e161]; exact Aw161) (own_bst (k := 41) I (by decide +kernel))
  clear S42
  have S40 : ∀ (T : State) (Lc : List Loc) (g : Nat → Int32), Stand p l e room_1 s m #[(.int p0), (.int p1), (.int p2), (.int p3), (.int p4), (.int p5)] below meth c T Lc 1 70 → Fr n0 Lc → Keep h0 T.heap [] → own_A Z T.heap b47 .char 70 g → (∀ j, j < 40 → g j = own_base j) → own_E p e below (own_K (own_law_Q n0) s room_1.cells room_1.slots) T (mkF m 292 #[iv p0, iv p1, iv p2, iv p3, iv p4, iv p5, iv (own_n s0), iv (own_n w0), iv (own_n q0), iv (own_n q1), iv (own_n q2), .unset, .unset, .unset, .unset, .unset] [.ref b47]) := by
    intro T Lc g X N K VB I
    have eTl : T.heap = T.heap := rfl
    refine own_st (fun t k => XS.dup X.here hx rfl (hb hby at_292) rfl rfl k) ?_
    show own_E p e below _ T (mkF m 293 #[iv p0, iv p1, iv p2, iv p3, iv p4, iv p5, iv (own_n s0), iv (own_n w0), iv (own_n q0), iv (own_n q1), iv (own_n q2), .unset, .unset, .unset, .unset, .unset] [.ref b47, .ref b47])
    refine own_st (fun t k => XS.bipush X.here hx rfl (hb hby at_293) k) ?_
    show own_E p e below _ T (mkF m 295 #[iv p0, iv p1, iv p2, iv p3, iv p4, iv p5, iv (own_n s0), iv (own_n w0), iv (own_n q0), iv (own_n q1), iv (own_n q2), .unset, .unset, .unset, .unset, .unset] [.int 40, .ref b47, .ref b47])
    refine own_st (fun t k => XS.bipush X.here hx rfl (hb hby at_295) k) ?_
    show own_E p e below _ T (mkF m 297 #[iv p0, iv p1, iv p2, iv p3, iv p4, iv p5, iv (own_n s0), iv (own_n w0), iv (own_n q0), iv (own_n q1), iv (own_n q2), .unset, .unset, .unset, .unset, .unset] [.int 65, .int 40, .ref b47, .ref b47])
    obtain ⟨T164, h164, X164, e164, W164, Aw164, st164⟩ := own_A_cst X hx hZ eTl VB (j := (40 : Int32)) (x := (65 : Int32)) (i := 40) (by decide) rfl (by decide) (g := (mkF m 297 #[iv p0, iv p1, iv p2, iv p3, iv p4, iv p5, iv (own_n s0), iv (own_n w0), iv (own_n q0), iv (own_n q1), iv (own_n q2), .unset, .unset, .unset, .unset, .unset] [.int 65, .int 40, .ref b47, .ref b47])) rfl rfl (hb hby at_297)
    have N164 := Fr.snoc X164 N g_b47
    have Z165 := Nat.le_trans (Nat.le_trans Z0 K.1) (Keep.of_wr W164).1
    have K166 : Keep h0 _ [] := K.wr W164 (Or.inr sz_b47)
    refine own_st st164 ?_
    show own_E p e below _ T164 (mkF m 298 #[iv p0, iv p1, iv p2, iv p3, iv p4, iv p5, iv (own_n s0), iv (own_n w0), iv (own_n q0), iv (own_n q1), iv (own_n q2), .unset, .unset, .unset, .unset, .unset] [.ref b47])
    exact S41 _ _ _ X164 N164 (by rw [e164]; exact K166) (by rw [e164]; exact Aw164) (own_bst (k := 40) I (by decide +kernel))
  clear S41
  have S39 : ∀ (T : State) (Lc : List Loc) (g : Nat → Int32), Stand p l e room_1 s m #[(.int p0), (.int p1), (.int p2), (.int p3), (.int p4), (.int p5)] below meth c T Lc 1 70 → Fr n0 Lc → Keep h0 T.heap [] → own_A Z T.heap b47 .char 70 g → (∀ j, j < 39 → g j = own_base j) → own_E p e below (own_K (own_law_Q n0) s room_1.cells room_1.slots) T (mkF m 286 #[iv p0, iv p1, iv p2, iv p3, iv p4, iv p5, iv (own_n s0), iv (own_n w0), iv (own_n q0), iv (own_n q1), iv (own_n q2), .unset, .unset, .unset, .unset, .unset] [.ref b47]) := by
    intro T Lc g X N K VB I
    have eTl : T.heap = T.heap := rfl
    refine own_st (fun t k => XS.dup X.here hx rfl (hb hby at_286) rfl rfl k) ?_
    show own_E p e below _ T (mkF m 287 #[iv p0, iv p1, iv p2, iv p3, iv p4, iv p5, iv (own_n s0), iv (own_n w0), iv (own_n q0), iv (own_n q1), iv (own_n q2), .unset, .unset, .unset, .unset, .unset] [.ref b47, .ref b47])
    refine own_st (fun t k => XS.bipush X.here hx rfl (hb hby at_287) k) ?_
    show own_E p e below _ T (mkF m 289 #[iv p0, iv p1, iv p2, iv p3, iv p4, iv p5, iv (own_n s0), iv (own_n w0), iv (own_n q0), iv (own_n q1), iv (own_n q2), .unset, .unset, .unset, .unset, .unset] [.int 39, .ref b47, .ref b47])
    refine own_st (fun t k => XS.bipush X.here hx rfl (hb hby at_289) k) ?_
    show own_E p e below _ T (mkF m 291 #[iv p0, iv p1, iv p2, iv p3, iv p4, iv p5, iv (own_n s0), iv (own_n w0), iv (own_n q0), iv (own_n q1), iv (own_n q2), .unset, .unset, .unset, .unset, .unset] [.int 53, .int 39, .ref b47, .ref b47])
    obtain ⟨T167, h167, X167, e167, W167, Aw167, st167⟩ := own_A_cst X hx hZ eTl VB (j := (39 : Int32)) (x := (53 : Int32)) (i := 39) (by decide) rfl (by decide) (g := (mkF m 291 #[iv p0, iv p1, iv p2, iv p3, iv p4, iv p5, iv (own_n s0), iv (own_n w0), iv (own_n q0), iv (own_n q1), iv (own_n q2), .unset, .unset, .unset, .unset, .unset] [.int 53, .int 39, .ref b47, .ref b47])) rfl rfl (hb hby at_291)
    have N167 := Fr.snoc X167 N g_b47
    have Z168 := Nat.le_trans (Nat.le_trans Z0 K.1) (Keep.of_wr W167).1
    have K169 : Keep h0 _ [] := K.wr W167 (Or.inr sz_b47)
    refine own_st st167 ?_
    show own_E p e below _ T167 (mkF m 292 #[iv p0, iv p1, iv p2, iv p3, iv p4, iv p5, iv (own_n s0), iv (own_n w0), iv (own_n q0), iv (own_n q1), iv (own_n q2), .unset, .unset, .unset, .unset, .unset] [.ref b47])
    exact S40 _ _ _ X167 N167 (by rw [e167]; exact K169) (by rw [e167]; exact Aw167) (own_bst (k := 39) I (by decide +kernel))
  clear S40
  have S38 : ∀ (T : State) (Lc : List Loc) (g : Nat → Int32), Stand p l e room_1 s m #[(.int p0), (.int p1), (.int p2), (.int p3), (.int p4), (.int p5)] below meth c T Lc 1 70 → Fr n0 Lc → Keep h0 T.heap [] → own_A Z T.heap b47 .char 70 g → (∀ j, j < 38 → g j = own_base j) → own_E p e below (own_K (own_law_Q n0) s room_1.cells room_1.slots) T (mkF m 280 #[iv p0, iv p1, iv p2, iv p3, iv p4, iv p5, iv (own_n s0), iv (own_n w0), iv (own_n q0), iv (own_n q1), iv (own_n q2), .unset, .unset, .unset, .unset, .unset] [.ref b47]) := by
    intro T Lc g X N K VB I
    have eTl : T.heap = T.heap := rfl
    refine own_st (fun t k => XS.dup X.here hx rfl (hb hby at_280) rfl rfl k) ?_
    show own_E p e below _ T (mkF m 281 #[iv p0, iv p1, iv p2, iv p3, iv p4, iv p5, iv (own_n s0), iv (own_n w0), iv (own_n q0), iv (own_n q1), iv (own_n q2), .unset, .unset, .unset, .unset, .unset] [.ref b47, .ref b47])
    refine own_st (fun t k => XS.bipush X.here hx rfl (hb hby at_281) k) ?_
    show own_E p e below _ T (mkF m 283 #[iv p0, iv p1, iv p2, iv p3, iv p4, iv p5, iv (own_n s0), iv (own_n w0), iv (own_n q0), iv (own_n q1), iv (own_n q2), .unset, .unset, .unset, .unset, .unset] [.int 38, .ref b47, .ref b47])
    refine own_st (fun t k => XS.bipush X.here hx rfl (hb hby at_283) k) ?_
    show own_E p e below _ T (mkF m 285 #[iv p0, iv p1, iv p2, iv p3, iv p4, iv p5, iv (own_n s0), iv (own_n w0), iv (own_n q0), iv (own_n q1), iv (own_n q2), .unset, .unset, .unset, .unset, .unset] [.int 109, .int 38, .ref b47, .ref b47])
    obtain ⟨T170, h170, X170, e170, W170, Aw170, st170⟩ := own_A_cst X hx hZ eTl VB (j := (38 : Int32)) (x := (109 : Int32)) (i := 38) (by decide) rfl (by decide) (g := (mkF m 285 #[iv p0, iv p1, iv p2, iv p3, iv p4, iv p5, iv (own_n s0), iv (own_n w0), iv (own_n q0), iv (own_n q1), iv (own_n q2), .unset, .unset, .unset, .unset, .unset] [.int 109, .int 38, .ref b47, .ref b47])) rfl rfl (hb hby at_285)
    have N170 := Fr.snoc X170 N g_b47
    have Z171 := Nat.le_trans (Nat.le_trans Z0 K.1) (Keep.of_wr W170).1
    have K172 : Keep h0 _ [] := K.wr W170 (Or.inr sz_b47)
    refine own_st st170 ?_
    show own_E p e below _ T170 (mkF m 286 #[iv p0, iv p1, iv p2, iv p3, iv p4, iv p5, iv (own_n s0), iv (own_n w0), iv (own_n q0), iv (own_n q1), iv (own_n q2), .unset, .unset, .unset, .unset, .unset] [.ref b47])
    exact S39 _ _ _ X170 N170 (by rw [e170]; exact K172) (by rw [e170]; exact Aw170) (own_bst (k := 38) I (by decide +kernel))
  clear S39
  have S37 : ∀ (T : State) (Lc : List Loc) (g : Nat → Int32), Stand p l e room_1 s m #[(.int p0), (.int p1), (.int p2), (.int p3), (.int p4), (.int p5)] below meth c T Lc 1 70 → Fr n0 Lc → Keep h0 T.heap [] → own_A Z T.heap b47 .char 70 g → (∀ j, j < 37 → g j = own_base j) → own_E p e below (own_K (own_law_Q n0) s room_1.cells room_1.slots) T (mkF m 274 #[iv p0, iv p1, iv p2, iv p3, iv p4, iv p5, iv (own_n s0), iv (own_n w0), iv (own_n q0), iv (own_n q1), iv (own_n q2), .unset, .unset, .unset, .unset, .unset] [.ref b47]) := by
    intro T Lc g X N K VB I
    have eTl : T.heap = T.heap := rfl
    refine own_st (fun t k => XS.dup X.here hx rfl (hb hby at_274) rfl rfl k) ?_
    show own_E p e below _ T (mkF m 275 #[iv p0, iv p1, iv p2, iv p3, iv p4, iv p5, iv (own_n s0), iv (own_n w0), iv (own_n q0), iv (own_n q1), iv (own_n q2), .unset, .unset, .unset, .unset, .unset] [.ref b47, .ref b47])
    refine own_st (fun t k => XS.bipush X.here hx rfl (hb hby at_275) k) ?_
    show own_E p e below _ T (mkF m 277 #[iv p0, iv p1, iv p2, iv p3, iv p4, iv p5, iv (own_n s0), iv (own_n w0), iv (own_n q0), iv (own_n q1), iv (own_n q2), .unset, .unset, .unset, .unset, .unset] [.int 37, .ref b47, .ref b47])
    refine own_st (fun t k => XS.bipush X.here hx rfl (hb hby at_277) k) ?_
    show own_E p e below _ T (mkF m 279 #[iv p0, iv p1, iv p2, iv p3, iv p4, iv p5, iv (own_n s0), iv (own_n w0), iv (own_n q0), iv (own_n q1), iv (own_n q2), .unset, .unset, .unset, .unset, .unset] [.int 46, .int 37, .ref b47, .ref b47])
    obtain ⟨T173, h173, X173, e173, W173, Aw173, st173⟩ := own_A_cst X hx hZ eTl VB (j := (37 : Int32)) (x := (46 : Int32)) (i := 37) (by decide) rfl (by decide) (g := (mkF m 279 #[iv p0, iv p1, iv p2, iv p3, iv p4, iv p5, iv (own_n s0), iv (own_n w0), iv (own_n q0), iv (own_n q1), iv (own_n q2), .unset, .unset, .unset, .unset, .unset] [.int 46, .int 37, .ref b47, .ref b47])) rfl rfl (hb hby at_279)
    have N173 := Fr.snoc X173 N g_b47
    have Z174 := Nat.le_trans (Nat.le_trans Z0 K.1) (Keep.of_wr W173).1
    have K175 : Keep h0 _ [] := K.wr W173 (Or.inr sz_b47)
    refine own_st st173 ?_
    show own_E p e below _ T173 (mkF m 280 #[iv p0, iv p1, iv p2, iv p3, iv p4, iv p5, iv (own_n s0), iv (own_n w0), iv (own_n q0), iv (own_n q1), iv (own_n q2), .unset, .unset, .unset, .unset, .unset] [.ref b47])
    exact S38 _ _ _ X173 N173 (by rw [e173]; exact K175) (by rw [e173]; exact Aw173) (own_bst (k := 37) I (by decide +kernel))
  clear S38
  have S36 : ∀ (T : State) (Lc : List Loc) (g : Nat → Int32), Stand p l e room_1 s m #[(.int p0), (.int p1), (.int p2), (.int p3), (.int p4), (.int p5)] below meth c T Lc 1 70 → Fr n0 Lc → Keep h0 T.heap [] → own_A Z T.heap b47 .char 70 g → (∀ j, j < 36 → g j = own_base j) → own_E p e below (own_K (own_law_Q n0) s room_1.cells room_1.slots) T (mkF m 268 #[iv p0, iv p1, iv p2, iv p3, iv p4, iv p5, iv (own_n s0), iv (own_n w0), iv (own_n q0), iv (own_n q1), iv (own_n q2), .unset, .unset, .unset, .unset, .unset] [.ref b47]) := by
    intro T Lc g X N K VB I
    have eTl : T.heap = T.heap := rfl
    refine own_st (fun t k => XS.dup X.here hx rfl (hb hby at_268) rfl rfl k) ?_
    show own_E p e below _ T (mkF m 269 #[iv p0, iv p1, iv p2, iv p3, iv p4, iv p5, iv (own_n s0), iv (own_n w0), iv (own_n q0), iv (own_n q1), iv (own_n q2), .unset, .unset, .unset, .unset, .unset] [.ref b47, .ref b47])
    refine own_st (fun t k => XS.bipush X.here hx rfl (hb hby at_269) k) ?_
    show own_E p e below _ T (mkF m 271 #[iv p0, iv p1, iv p2, iv p3, iv p4, iv p5, iv (own_n s0), iv (own_n w0), iv (own_n q0), iv (own_n q1), iv (own_n q2), .unset, .unset, .unset, .unset, .unset] [.int 36, .ref b47, .ref b47])
    refine own_st (fun t k => XS.bipush X.here hx rfl (hb hby at_271) k) ?_
    show own_E p e below _ T (mkF m 273 #[iv p0, iv p1, iv p2, iv p3, iv p4, iv p5, iv (own_n s0), iv (own_n w0), iv (own_n q0), iv (own_n q1), iv (own_n q2), .unset, .unset, .unset, .unset, .unset] [.int 45, .int 36, .ref b47, .ref b47])
    obtain ⟨T176, h176, X176, e176, W176, Aw176, st176⟩ := own_A_cst X hx hZ eTl VB (j := (36 : Int32)) (x := (45 : Int32)) (i := 36) (by decide) rfl (by decide) (g := (mkF m 273 #[iv p0, iv p1, iv p2, iv p3, iv p4, iv p5, iv (own_n s0), iv (own_n w0), iv (own_n q0), iv (own_n q1), iv (own_n q2), .unset, .unset, .unset, .unset, .unset] [.int 45, .int 36, .ref b47, .ref b47])) rfl rfl (hb hby at_273)
    have N176 := Fr.snoc X176 N g_b47
    have Z177 := Nat.le_trans (Nat.le_trans Z0 K.1) (Keep.of_wr W176).1
    have K178 : Keep h0 _ [] := K.wr W176 (Or.inr sz_b47)
    refine own_st st176 ?_
    show own_E p e below _ T176 (mkF m 274 #[iv p0, iv p1, iv p2, iv p3, iv p4, iv p5, iv (own_n s0), iv (own_n w0), iv (own_n q0), iv (own_n q1), iv (own_n q2), .unset, .unset, .unset, .unset, .unset] [.ref b47])
    exact S37 _ _ _ X176 N176 (by rw [e176]; exact K178) (by rw [e176]; exact Aw176) (own_bst (k := 36) I (by decide +kernel))
  clear S37
  have S35 : ∀ (T : State) (Lc : List Loc) (g : Nat → Int32), Stand p l e room_1 s m #[(.int p0), (.int p1), (.int p2), (.int p3), (.int p4), (.int p5)] below meth c T Lc 1 70 → Fr n0 Lc → Keep h0 T.heap [] → own_A Z T.heap b47 .char 70 g → (∀ j, j < 35 → g j = own_base j) → own_E p e below (own_K (own_law_Q n0) s room_1.cells room_1.slots) T (mkF m 262 #[iv p0, iv p1, iv p2, iv p3, iv p4, iv p5, iv (own_n s0), iv (own_n w0), iv (own_n q0), iv (own_n q1), iv (own_n q2), .unset, .unset, .unset, .unset, .unset] [.ref b47]) := by
    intro T Lc g X N K VB I
    have eTl : T.heap = T.heap := rfl
    refine own_st (fun t k => XS.dup X.here hx rfl (hb hby at_262) rfl rfl k) ?_
    show own_E p e below _ T (mkF m 263 #[iv p0, iv p1, iv p2, iv p3, iv p4, iv p5, iv (own_n s0), iv (own_n w0), iv (own_n q0), iv (own_n q1), iv (own_n q2), .unset, .unset, .unset, .unset, .unset] [.ref b47, .ref b47])
    refine own_st (fun t k => XS.bipush X.here hx rfl (hb hby at_263) k) ?_
    show own_E p e below _ T (mkF m 265 #[iv p0, iv p1, iv p2, iv p3, iv p4, iv p5, iv (own_n s0), iv (own_n w0), iv (own_n q0), iv (own_n q1), iv (own_n q2), .unset, .unset, .unset, .unset, .unset] [.int 35, .ref b47, .ref b47])
    refine own_st (fun t k => XS.bipush X.here hx rfl (hb hby at_265) k) ?_
    show own_E p e below _ T (mkF m 267 #[iv p0, iv p1, iv p2, iv p3, iv p4, iv p5, iv (own_n s0), iv (own_n w0), iv (own_n q0), iv (own_n q1), iv (own_n q2), .unset, .unset, .unset, .unset, .unset] [.int 57, .int 35, .ref b47, .ref b47])
    obtain ⟨T179, h179, X179, e179, W179, Aw179, st179⟩ := own_A_cst X hx hZ eTl VB (j := (35 : Int32)) (x := (57 : Int32)) (i := 35) (by decide) rfl (by decide) (g := (mkF m 267 #[iv p0, iv p1, iv p2, iv p3, iv p4, iv p5, iv (own_n s0), iv (own_n w0), iv (own_n q0), iv (own_n q1), iv (own_n q2), .unset, .unset, .unset, .unset, .unset] [.int 57, .int 35, .ref b47, .ref b47])) rfl rfl (hb hby at_267)
    have N179 := Fr.snoc X179 N g_b47
    have Z180 := Nat.le_trans (Nat.le_trans Z0 K.1) (Keep.of_wr W179).1
    have K181 : Keep h0 _ [] := K.wr W179 (Or.inr sz_b47)
    refine own_st st179 ?_
    show own_E p e below _ T179 (mkF m 268 #[iv p0, iv p1, iv p2, iv p3, iv p4, iv p5, iv (own_n s0), iv (own_n w0), iv (own_n q0), iv (own_n q1), iv (own_n q2), .unset, .unset, .unset, .unset, .unset] [.ref b47])
    exact S36 _ _ _ X179 N179 (by rw [e179]; exact K181) (by rw [e179]; exact Aw179) (own_bst (k := 35) I (by decide +kernel))
  clear S36
  have S34 : ∀ (T : State) (Lc : List Loc) (g : Nat → Int32), Stand p l e room_1 s m #[(.int p0), (.int p1), (.int p2), (.int p3), (.int p4), (.int p5)] below meth c T Lc 1 70 → Fr n0 Lc → Keep h0 T.heap [] → own_A Z T.heap b47 .char 70 g → (∀ j, j < 34 → g j = own_base j) → own_E p e below (own_K (own_law_Q n0) s room_1.cells room_1.slots) T (mkF m 256 #[iv p0, iv p1, iv p2, iv p3, iv p4, iv p5, iv (own_n s0), iv (own_n w0), iv (own_n q0), iv (own_n q1), iv (own_n q2), .unset, .unset, .unset, .unset, .unset] [.ref b47]) := by
    intro T Lc g X N K VB I
    have eTl : T.heap = T.heap := rfl
    refine own_st (fun t k => XS.dup X.here hx rfl (hb hby at_256) rfl rfl k) ?_
    show own_E p e below _ T (mkF m 257 #[iv p0, iv p1, iv p2, iv p3, iv p4, iv p5, iv (own_n s0), iv (own_n w0), iv (own_n q0), iv (own_n q1), iv (own_n q2), .unset, .unset, .unset, .unset, .unset] [.ref b47, .ref b47])
    refine own_st (fun t k => XS.bipush X.here hx rfl (hb hby at_257) k) ?_
    show own_E p e below _ T (mkF m 259 #[iv p0, iv p1, iv p2, iv p3, iv p4, iv p5, iv (own_n s0), iv (own_n w0), iv (own_n q0), iv (own_n q1), iv (own_n q2), .unset, .unset, .unset, .unset, .unset] [.int 34, .ref b47, .ref b47])
    refine own_st (fun t k => XS.bipush X.here hx rfl (hb hby at_259) k) ?_
    show own_E p e below _ T (mkF m 261 #[iv p0, iv p1, iv p2, iv p3, iv p4, iv p5, iv (own_n s0), iv (own_n w0), iv (own_n q0), iv (own_n q1), iv (own_n q2), .unset, .unset, .unset, .unset, .unset] [.int 48, .int 34, .ref b47, .ref b47])
    obtain ⟨T182, h182, X182, e182, W182, Aw182, st182⟩ := own_A_cst X hx hZ eTl VB (j := (34 : Int32)) (x := (48 : Int32)) (i := 34) (by decide) rfl (by decide) (g := (mkF m 261 #[iv p0, iv p1, iv p2, iv p3, iv p4, iv p5, iv (own_n s0), iv (own_n w0), iv (own_n q0), iv (own_n q1), iv (own_n q2), .unset, .unset, .unset, .unset, .unset] [.int 48, .int 34, .ref b47, .ref b47])) rfl rfl (hb hby at_261)
    have N182 := Fr.snoc X182 N g_b47
    have Z183 := Nat.le_trans (Nat.le_trans Z0 K.1) (Keep.of_wr W182).1
    have K184 : Keep h0 _ [] := K.wr W182 (Or.inr sz_b47)
    refine own_st st182 ?_
    show own_E p e below _ T182 (mkF m 262 #[iv p0, iv p1, iv p2, iv p3, iv p4, iv p5, iv (own_n s0), iv (own_n w0), iv (own_n q0), iv (own_n q1), iv (own_n q2), .unset, .unset, .unset, .unset, .unset] [.ref b47])
    exact S35 _ _ _ X182 N182 (by rw [e182]; exact K184) (by rw [e182]; exact Aw182) (own_bst (k := 34) I (by decide +kernel))
  clear S35
  have S33 : ∀ (T : State) (Lc : List Loc) (g : Nat → Int32), Stand p l e room_1 s m #[(.int p0), (.int p1), (.int p2), (.int p3), (.int p4), (.int p5)] below meth c T Lc 1 70 → Fr n0 Lc → Keep h0 T.heap [] → own_A Z T.heap b47 .char 70 g → (∀ j, j < 33 → g j = own_base j) → own_E p e below (own_K (own_law_Q n0) s room_1.cells room_1.slots) T (mkF m 250 #[iv p0, iv p1, iv p2, iv p3, iv p4, iv p5, iv (own_n s0), iv (own_n w0), iv (own_n q0), iv (own_n q1), iv (own_n q2), .unset, .unset, .unset, .unset, .unset] [.ref b47]) := by
    intro T Lc g X N K VB I
    have eTl : T.heap = T.heap := rfl
    refine own_st (fun t k => XS.dup X.here hx rfl (hb hby at_250) rfl rfl k) ?_
    show own_E p e below _ T (mkF m 251 #[iv p0, iv p1, iv p2, iv p3, iv p4, iv p5, iv (own_n s0), iv (own_n w0), iv (own_n q0), iv (own_n q1), iv (own_n q2), .unset, .unset, .unset, .unset, .unset] [.ref b47, .ref b47])
    refine own_st (fun t k => XS.bipush X.here hx rfl (hb hby at_251) k) ?_
    show own_E p e below _ T (mkF m 253 #[iv p0, iv p1, iv p2, iv p3, iv p4, iv p5, iv (own_n s0), iv (own_n w0), iv (own_n q0), iv (own_n q1), iv (own_n q2), .unset, .unset, .unset, .unset, .unset] [.int 33, .ref b47, .ref b47])
    refine own_st (fun t k => XS.bipush X.here hx rfl (hb hby at_253) k) ?_
    show own_E p e below _ T (mkF m 255 #[iv p0, iv p1, iv p2, iv p3, iv p4, iv p5, iv (own_n s0), iv (own_n w0), iv (own_n q0), iv (own_n q1), iv (own_n q2), .unset, .unset, .unset, .unset, .unset] [.int 122, .int 33, .ref b47, .ref b47])
    obtain ⟨T185, h185, X185, e185, W185, Aw185, st185⟩ := own_A_cst X hx hZ eTl VB (j := (33 : Int32)) (x := (122 : Int32)) (i := 33) (by decide) rfl (by decide) (g := (mkF m 255 #[iv p0, iv p1, iv p2, iv p3, iv p4, iv p5, iv (own_n s0), iv (own_n w0), iv (own_n q0), iv (own_n q1), iv (own_n q2), .unset, .unset, .unset, .unset, .unset] [.int 122, .int 33, .ref b47, .ref b47])) rfl rfl (hb hby at_255)
    have N185 := Fr.snoc X185 N g_b47
    have Z186 := Nat.le_trans (Nat.le_trans Z0 K.1) (Keep.of_wr W185).1
    have K187 : Keep h0 _ [] := K.wr W185 (Or.inr sz_b47)
    refine own_st st185 ?_
    show own_E p e below _ T185 (mkF m 256 #[iv p0, iv p1, iv p2, iv p3, iv p4, iv p5, iv (own_n s0), iv (own_n w0), iv (own_n q0), iv (own_n q1), iv (own_n q2), .unset, .unset, .unset, .unset, .unset] [.ref b47])
    exact S34 _ _ _ X185 N185 (by rw [e185]; exact K187) (by rw [e185]; exact Aw185) (own_bst (k := 33) I (by decide +kernel))
  clear S34
  have S32 : ∀ (T : State) (Lc : List Loc) (g : Nat → Int32), Stand p l e room_1 s m #[(.int p0), (.int p1), (.int p2), (.int p3), (.int p4), (.int p5)] below meth c T Lc 1 70 → Fr n0 Lc → Keep h0 T.heap [] → own_A Z T.heap b47 .char 70 g → (∀ j, j < 32 → g j = own_base j) → own_E p e below (own_K (own_law_Q n0) s room_1.cells room_1.slots) T (mkF m 244 #[iv p0, iv p1, iv p2, iv p3, iv p4, iv p5, iv (own_n s0), iv (own_n w0), iv (own_n q0), iv (own_n q1), iv (own_n q2), .unset, .unset, .unset, .unset, .unset] [.ref b47]) := by
    intro T Lc g X N K VB I
    have eTl : T.heap = T.heap := rfl
    refine own_st (fun t k => XS.dup X.here hx rfl (hb hby at_244) rfl rfl k) ?_
    show own_E p e below _ T (mkF m 245 #[iv p0, iv p1, iv p2, iv p3, iv p4, iv p5, iv (own_n s0), iv (own_n w0), iv (own_n q0), iv (own_n q1), iv (own_n q2), .unset, .unset, .unset, .unset, .unset] [.ref b47, .ref b47])
    refine own_st (fun t k => XS.bipush X.here hx rfl (hb hby at_245) k) ?_
    show own_E p e below _ T (mkF m 247 #[iv p0, iv p1, iv p2, iv p3, iv p4, iv p5, iv (own_n s0), iv (own_n w0), iv (own_n q0), iv (own_n q1), iv (own_n q2), .unset, .unset, .unset, .unset, .unset] [.int 32, .ref b47, .ref b47])
    refine own_st (fun t k => XS.bipush X.here hx rfl (hb hby at_247) k) ?_
    show own_E p e below _ T (mkF m 249 #[iv p0, iv p1, iv p2, iv p3, iv p4, iv p5, iv (own_n s0), iv (own_n w0), iv (own_n q0), iv (own_n q1), iv (own_n q2), .unset, .unset, .unset, .unset, .unset] [.int 97, .int 32, .ref b47, .ref b47])
    obtain ⟨T188, h188, X188, e188, W188, Aw188, st188⟩ := own_A_cst X hx hZ eTl VB (j := (32 : Int32)) (x := (97 : Int32)) (i := 32) (by decide) rfl (by decide) (g := (mkF m 249 #[iv p0, iv p1, iv p2, iv p3, iv p4, iv p5, iv (own_n s0), iv (own_n w0), iv (own_n q0), iv (own_n q1), iv (own_n q2), .unset, .unset, .unset, .unset, .unset] [.int 97, .int 32, .ref b47, .ref b47])) rfl rfl (hb hby at_249)
    have N188 := Fr.snoc X188 N g_b47
    have Z189 := Nat.le_trans (Nat.le_trans Z0 K.1) (Keep.of_wr W188).1
    have K190 : Keep h0 _ [] := K.wr W188 (Or.inr sz_b47)
    refine own_st st188 ?_
    show own_E p e below _ T188 (mkF m 250 #[iv p0, iv p1, iv p2, iv p3, iv p4, iv p5, iv (own_n s0), iv (own_n w0), iv (own_n q0), iv (own_n q1), iv (own_n q2), .unset, .unset, .unset, .unset, .unset] [.ref b47])
    exact S33 _ _ _ X188 N188 (by rw [e188]; exact K190) (by rw [e188]; exact Aw188) (own_bst (k := 32) I (by decide +kernel))
  clear S33
  have S31 : ∀ (T : State) (Lc : List Loc) (g : Nat → Int32), Stand p l e room_1 s m #[(.int p0), (.int p1), (.int p2), (.int p3), (.int p4), (.int p5)] below meth c T Lc 1 70 → Fr n0 Lc → Keep h0 T.heap [] → own_A Z T.heap b47 .char 70 g → (∀ j, j < 31 → g j = own_base j) → own_E p e below (own_K (own_law_Q n0) s room_1.cells room_1.slots) T (mkF m 238 #[iv p0, iv p1, iv p2, iv p3, iv p4, iv p5, iv (own_n s0), iv (own_n w0), iv (own_n q0), iv (own_n q1), iv (own_n q2), .unset, .unset, .unset, .unset, .unset] [.ref b47]) := by
    intro T Lc g X N K VB I
    have eTl : T.heap = T.heap := rfl
    refine own_st (fun t k => XS.dup X.here hx rfl (hb hby at_238) rfl rfl k) ?_
    show own_E p e below _ T (mkF m 239 #[iv p0, iv p1, iv p2, iv p3, iv p4, iv p5, iv (own_n s0), iv (own_n w0), iv (own_n q0), iv (own_n q1), iv (own_n q2), .unset, .unset, .unset, .unset, .unset] [.ref b47, .ref b47])
    refine own_st (fun t k => XS.bipush X.here hx rfl (hb hby at_239) k) ?_
    show own_E p e below _ T (mkF m 241 #[iv p0, iv p1, iv p2, iv p3, iv p4, iv p5, iv (own_n s0), iv (own_n w0), iv (own_n q0), iv (own_n q1), iv (own_n q2), .unset, .unset, .unset, .unset, .unset] [.int 31, .ref b47, .ref b47])
    refine own_st (fun t k => XS.bipush X.here hx rfl (hb hby at_241) k) ?_
    show own_E p e below _ T (mkF m 243 #[iv p0, iv p1, iv p2, iv p3, iv p4, iv p5, iv (own_n s0), iv (own_n w0), iv (own_n q0), iv (own_n q1), iv (own_n q2), .unset, .unset, .unset, .unset, .unset] [.int 90, .int 31, .ref b47, .ref b47])
    obtain ⟨T191, h191, X191, e191, W191, Aw191, st191⟩ := own_A_cst X hx hZ eTl VB (j := (31 : Int32)) (x := (90 : Int32)) (i := 31) (by decide) rfl (by decide) (g := (mkF m 243 #[iv p0, iv p1, iv p2, iv p3, iv p4, iv p5, iv (own_n s0), iv (own_n w0), iv (own_n q0), iv (own_n q1), iv (own_n q2), .unset, .unset, .unset, .unset, .unset] [.int 90, .int 31, .ref b47, .ref b47])) rfl rfl (hb hby at_243)
    have N191 := Fr.snoc X191 N g_b47
    have Z192 := Nat.le_trans (Nat.le_trans Z0 K.1) (Keep.of_wr W191).1
    have K193 : Keep h0 _ [] := K.wr W191 (Or.inr sz_b47)
    refine own_st st191 ?_
    show own_E p e below _ T191 (mkF m 244 #[iv p0, iv p1, iv p2, iv p3, iv p4, iv p5, iv (own_n s0), iv (own_n w0), iv (own_n q0), iv (own_n q1), iv (own_n q2), .unset, .unset, .unset, .unset, .unset] [.ref b47])
    exact S32 _ _ _ X191 N191 (by rw [e191]; exact K193) (by rw [e191]; exact Aw191) (own_bst (k := 31) I (by decide +kernel))
  clear S32
  have S30 : ∀ (T : State) (Lc : List Loc) (g : Nat → Int32), Stand p l e room_1 s m #[(.int p0), (.int p1), (.int p2), (.int p3), (.int p4), (.int p5)] below meth c T Lc 1 70 → Fr n0 Lc → Keep h0 T.heap [] → own_A Z T.heap b47 .char 70 g → (∀ j, j < 30 → g j = own_base j) → own_E p e below (own_K (own_law_Q n0) s room_1.cells room_1.slots) T (mkF m 232 #[iv p0, iv p1, iv p2, iv p3, iv p4, iv p5, iv (own_n s0), iv (own_n w0), iv (own_n q0), iv (own_n q1), iv (own_n q2), .unset, .unset, .unset, .unset, .unset] [.ref b47]) := by
    intro T Lc g X N K VB I
    have eTl : T.heap = T.heap := rfl
    refine own_st (fun t k => XS.dup X.here hx rfl (hb hby at_232) rfl rfl k) ?_
    show own_E p e below _ T (mkF m 233 #[iv p0, iv p1, iv p2, iv p3, iv p4, iv p5, iv (own_n s0), iv (own_n w0), iv (own_n q0), iv (own_n q1), iv (own_n q2), .unset, .unset, .unset, .unset, .unset] [.ref b47, .ref b47])
    refine own_st (fun t k => XS.bipush X.here hx rfl (hb hby at_233) k) ?_
    show own_E p e below _ T (mkF m 235 #[iv p0, iv p1, iv p2, iv p3, iv p4, iv p5, iv (own_n s0), iv (own_n w0), iv (own_n q0), iv (own_n q1), iv (own_n q2), .unset, .unset, .unset, .unset, .unset] [.int 30, .ref b47, .ref b47])
    refine own_st (fun t k => XS.bipush X.here hx rfl (hb hby at_235) k) ?_
    show own_E p e below _ T (mkF m 237 #[iv p0, iv p1, iv p2, iv p3, iv p4, iv p5, iv (own_n s0), iv (own_n w0), iv (own_n q0), iv (own_n q1), iv (own_n q2), .unset, .unset, .unset, .unset, .unset] [.int 65, .int 30, .ref b47, .ref b47])
    obtain ⟨T194, h194, X194, e194, W194, Aw194, st194⟩ := own_A_cst X hx hZ eTl VB (j := (30 : Int32)) (x := (65 : Int32)) (i := 30) (by decide) rfl (by decide) (g := (mkF m 237 #[iv p0, iv p1, iv p2, iv p3, iv p4, iv p5, iv (own_n s0), iv (own_n w0), iv (own_n q0), iv (own_n q1), iv (own_n q2), .unset, .unset, .unset, .unset, .unset] [.int 65, .int 30, .ref b47, .ref b47])) rfl rfl (hb hby at_237)
    have N194 := Fr.snoc X194 N g_b47
    have Z195 := Nat.le_trans (Nat.le_trans Z0 K.1) (Keep.of_wr W194).1
    have K196 : Keep h0 _ [] := K.wr W194 (Or.inr sz_b47)
    refine own_st st194 ?_
    show own_E p e below _ T194 (mkF m 238 #[iv p0, iv p1, iv p2, iv p3, iv p4, iv p5, iv (own_n s0), iv (own_n w0), iv (own_n q0), iv (own_n q1), iv (own_n q2), .unset, .unset, .unset, .unset, .unset] [.ref b47])
    exact S31 _ _ _ X194 N194 (by rw [e194]; exact K196) (by rw [e194]; exact Aw194) (own_bst (k := 30) I (by decide +kernel))
  clear S31
  have S29 : ∀ (T : State) (Lc : List Loc) (g : Nat → Int32), Stand p l e room_1 s m #[(.int p0), (.int p1), (.int p2), (.int p3), (.int p4), (.int p5)] below meth c T Lc 1 70 → Fr n0 Lc → Keep h0 T.heap [] → own_A Z T.heap b47 .char 70 g → (∀ j, j < 29 → g j = own_base j) → own_E p e below (own_K (own_law_Q n0) s room_1.cells room_1.slots) T (mkF m 226 #[iv p0, iv p1, iv p2, iv p3, iv p4, iv p5, iv (own_n s0), iv (own_n w0), iv (own_n q0), iv (own_n q1), iv (own_n q2), .unset, .unset, .unset, .unset, .unset] [.ref b47]) := by
    intro T Lc g X N K VB I
    have eTl : T.heap = T.heap := rfl
    refine own_st (fun t k => XS.dup X.here hx rfl (hb hby at_226) rfl rfl k) ?_
    show own_E p e below _ T (mkF m 227 #[iv p0, iv p1, iv p2, iv p3, iv p4, iv p5, iv (own_n s0), iv (own_n w0), iv (own_n q0), iv (own_n q1), iv (own_n q2), .unset, .unset, .unset, .unset, .unset] [.ref b47, .ref b47])
    refine own_st (fun t k => XS.bipush X.here hx rfl (hb hby at_227) k) ?_
    show own_E p e below _ T (mkF m 229 #[iv p0, iv p1, iv p2, iv p3, iv p4, iv p5, iv (own_n s0), iv (own_n w0), iv (own_n q0), iv (own_n q1), iv (own_n q2), .unset, .unset, .unset, .unset, .unset] [.int 29, .ref b47, .ref b47])
    refine own_st (fun t k => XS.bipush X.here hx rfl (hb hby at_229) k) ?_
    show own_E p e below _ T (mkF m 231 #[iv p0, iv p1, iv p2, iv p3, iv p4, iv p5, iv (own_n s0), iv (own_n w0), iv (own_n q0), iv (own_n q1), iv (own_n q2), .unset, .unset, .unset, .unset, .unset] [.int 53, .int 29, .ref b47, .ref b47])
    obtain ⟨T197, h197, X197, e197, W197, Aw197, st197⟩ := own_A_cst X hx hZ eTl VB (j := (29 : Int32)) (x := (53 : Int32)) (i := 29) (by decide) rfl (by decide) (g := (mkF m 231 #[iv p0, iv p1, iv p2, iv p3, iv p4, iv p5, iv (own_n s0), iv (own_n w0), iv (own_n q0), iv (own_n q1), iv (own_n q2), .unset, .unset, .unset, .unset, .unset] [.int 53, .int 29, .ref b47, .ref b47])) rfl rfl (hb hby at_231)
    have N197 := Fr.snoc X197 N g_b47
    have Z198 := Nat.le_trans (Nat.le_trans Z0 K.1) (Keep.of_wr W197).1
    have K199 : Keep h0 _ [] := K.wr W197 (Or.inr sz_b47)
    refine own_st st197 ?_
    show own_E p e below _ T197 (mkF m 232 #[iv p0, iv p1, iv p2, iv p3, iv p4, iv p5, iv (own_n s0), iv (own_n w0), iv (own_n q0), iv (own_n q1), iv (own_n q2), .unset, .unset, .unset, .unset, .unset] [.ref b47])
    exact S30 _ _ _ X197 N197 (by rw [e197]; exact K199) (by rw [e197]; exact Aw197) (own_bst (k := 29) I (by decide +kernel))
  clear S30
  have S28 : ∀ (T : State) (Lc : List Loc) (g : Nat → Int32), Stand p l e room_1 s m #[(.int p0), (.int p1), (.int p2), (.int p3), (.int p4), (.int p5)] below meth c T Lc 1 70 → Fr n0 Lc → Keep h0 T.heap [] → own_A Z T.heap b47 .char 70 g → (∀ j, j < 28 → g j = own_base j) → own_E p e below (own_K (own_law_Q n0) s room_1.cells room_1.slots) T (mkF m 220 #[iv p0, iv p1, iv p2, iv p3, iv p4, iv p5, iv (own_n s0), iv (own_n w0), iv (own_n q0), iv (own_n q1), iv (own_n q2), .unset, .unset, .unset, .unset, .unset] [.ref b47]) := by
    intro T Lc g X N K VB I
    have eTl : T.heap = T.heap := rfl
    refine own_st (fun t k => XS.dup X.here hx rfl (hb hby at_220) rfl rfl k) ?_
    show own_E p e below _ T (mkF m 221 #[iv p0, iv p1, iv p2, iv p3, iv p4, iv p5, iv (own_n s0), iv (own_n w0), iv (own_n q0), iv (own_n q1), iv (own_n q2), .unset, .unset, .unset, .unset, .unset] [.ref b47, .ref b47])
    refine own_st (fun t k => XS.bipush X.here hx rfl (hb hby at_221) k) ?_
    show own_E p e below _ T (mkF m 223 #[iv p0, iv p1, iv p2, iv p3, iv p4, iv p5, iv (own_n s0), iv (own_n w0), iv (own_n q0), iv (own_n q1), iv (own_n q2), .unset, .unset, .unset, .unset, .unset] [.int 28, .ref b47, .ref b47])
    refine own_st (fun t k => XS.bipush X.here hx rfl (hb hby at_223) k) ?_
    show own_E p e below _ T (mkF m 225 #[iv p0, iv p1, iv p2, iv p3, iv p4, iv p5, iv (own_n s0), iv (own_n w0), iv (own_n q0), iv (own_n q1), iv (own_n q2), .unset, .unset, .unset, .unset, .unset] [.int 109, .int 28, .ref b47, .ref b47])
    obtain ⟨T200, h200, X200, e200, W200, Aw200, st200⟩ := own_A_cst X hx hZ eTl VB (j := (28 : Int32)) (x := (109 : Int32)) (i := 28) (by decide) rfl (by decide) (g := (mkF m 225 #[iv p0, iv p1, iv p2, iv p3, iv p4, iv p5, iv (own_n s0), iv (own_n w0), iv (own_n q0), iv (own_n q1), iv (own_n q2), .unset, .unset, .unset, .unset, .unset] [.int 109, .int 28, .ref b47, .ref b47])) rfl rfl (hb hby at_225)
    have N200 := Fr.snoc X200 N g_b47
    have Z201 := Nat.le_trans (Nat.le_trans Z0 K.1) (Keep.of_wr W200).1
    have K202 : Keep h0 _ [] := K.wr W200 (Or.inr sz_b47)
    refine own_st st200 ?_
    show own_E p e below _ T200 (mkF m 226 #[iv p0, iv p1, iv p2, iv p3, iv p4, iv p5, iv (own_n s0), iv (own_n w0), iv (own_n q0), iv (own_n q1), iv (own_n q2), .unset, .unset, .unset, .unset, .unset] [.ref b47])
    exact S29 _ _ _ X200 N200 (by rw [e200]; exact K202) (by rw [e200]; exact Aw200) (own_bst (k := 28) I (by decide +kernel))
  clear S29
  have S27 : ∀ (T : State) (Lc : List Loc) (g : Nat → Int32), Stand p l e room_1 s m #[(.int p0), (.int p1), (.int p2), (.int p3), (.int p4), (.int p5)] below meth c T Lc 1 70 → Fr n0 Lc → Keep h0 T.heap [] → own_A Z T.heap b47 .char 70 g → (∀ j, j < 27 → g j = own_base j) → own_E p e below (own_K (own_law_Q n0) s room_1.cells room_1.slots) T (mkF m 214 #[iv p0, iv p1, iv p2, iv p3, iv p4, iv p5, iv (own_n s0), iv (own_n w0), iv (own_n q0), iv (own_n q1), iv (own_n q2), .unset, .unset, .unset, .unset, .unset] [.ref b47]) := by
    intro T Lc g X N K VB I
    have eTl : T.heap = T.heap := rfl
    refine own_st (fun t k => XS.dup X.here hx rfl (hb hby at_214) rfl rfl k) ?_
    show own_E p e below _ T (mkF m 215 #[iv p0, iv p1, iv p2, iv p3, iv p4, iv p5, iv (own_n s0), iv (own_n w0), iv (own_n q0), iv (own_n q1), iv (own_n q2), .unset, .unset, .unset, .unset, .unset] [.ref b47, .ref b47])
    refine own_st (fun t k => XS.bipush X.here hx rfl (hb hby at_215) k) ?_
    show own_E p e below _ T (mkF m 217 #[iv p0, iv p1, iv p2, iv p3, iv p4, iv p5, iv (own_n s0), iv (own_n w0), iv (own_n q0), iv (own_n q1), iv (own_n q2), .unset, .unset, .unset, .unset, .unset] [.int 27, .ref b47, .ref b47])
    refine own_st (fun t k => XS.bipush X.here hx rfl (hb hby at_217) k) ?_
    show own_E p e below _ T (mkF m 219 #[iv p0, iv p1, iv p2, iv p3, iv p4, iv p5, iv (own_n s0), iv (own_n w0), iv (own_n q0), iv (own_n q1), iv (own_n q2), .unset, .unset, .unset, .unset, .unset] [.int 46, .int 27, .ref b47, .ref b47])
    obtain ⟨T203, h203, X203, e203, W203, Aw203, st203⟩ := own_A_cst X hx hZ eTl VB (j := (27 : Int32)) (x := (46 : Int32)) (i := 27) (by decide) rfl (by decide) (g := (mkF m 219 #[iv p0, iv p1, iv p2, iv p3, iv p4, iv p5, iv (own_n s0), iv (own_n w0), iv (own_n q0), iv (own_n q1), iv (own_n q2), .unset, .unset, .unset, .unset, .unset] [.int 46, .int 27, .ref b47, .ref b47])) rfl rfl (hb hby at_219)
    have N203 := Fr.snoc X203 N g_b47
    have Z204 := Nat.le_trans (Nat.le_trans Z0 K.1) (Keep.of_wr W203).1
    have K205 : Keep h0 _ [] := K.wr W203 (Or.inr sz_b47)
    refine own_st st203 ?_
    show own_E p e below _ T203 (mkF m 220 #[iv p0, iv p1, iv p2, iv p3, iv p4, iv p5, iv (own_n s0), iv (own_n w0), iv (own_n q0), iv (own_n q1), iv (own_n q2), .unset, .unset, .unset, .unset, .unset] [.ref b47])
    exact S28 _ _ _ X203 N203 (by rw [e203]; exact K205) (by rw [e203]; exact Aw203) (own_bst (k := 27) I (by decide +kernel))
  clear S28
  have S26 : ∀ (T : State) (Lc : List Loc) (g : Nat → Int32), Stand p l e room_1 s m #[(.int p0), (.int p1), (.int p2), (.int p3), (.int p4), (.int p5)] below meth c T Lc 1 70 → Fr n0 Lc → Keep h0 T.heap [] → own_A Z T.heap b47 .char 70 g → (∀ j, j < 26 → g j = own_base j) → own_E p e below (own_K (own_law_Q n0) s room_1.cells room_1.slots) T (mkF m 208 #[iv p0, iv p1, iv p2, iv p3, iv p4, iv p5, iv (own_n s0), iv (own_n w0), iv (own_n q0), iv (own_n q1), iv (own_n q2), .unset, .unset, .unset, .unset, .unset] [.ref b47]) := by
    intro T Lc g X N K VB I
    have eTl : T.heap = T.heap := rfl
    refine own_st (fun t k => XS.dup X.here hx rfl (hb hby at_208) rfl rfl k) ?_
    show own_E p e below _ T (mkF m 209 #[iv p0, iv p1, iv p2, iv p3, iv p4, iv p5, iv (own_n s0), iv (own_n w0), iv (own_n q0), iv (own_n q1), iv (own_n q2), .unset, .unset, .unset, .unset, .unset] [.ref b47, .ref b47])
    refine own_st (fun t k => XS.bipush X.here hx rfl (hb hby at_209) k) ?_
    show own_E p e below _ T (mkF m 211 #[iv p0, iv p1, iv p2, iv p3, iv p4, iv p5, iv (own_n s0), iv (own_n w0), iv (own_n q0), iv (own_n q1), iv (own_n q2), .unset, .unset, .unset, .unset, .unset] [.int 26, .ref b47, .ref b47])
    refine own_st (fun t k => XS.bipush X.here hx rfl (hb hby at_211) k) ?_
    show own_E p e below _ T (mkF m 213 #[iv p0, iv p1, iv p2, iv p3, iv p4, iv p5, iv (own_n s0), iv (own_n w0), iv (own_n q0), iv (own_n q1), iv (own_n q2), .unset, .unset, .unset, .unset, .unset] [.int 45, .int 26, .ref b47, .ref b47])
    obtain ⟨T206, h206, X206, e206, W206, Aw206, st206⟩ := own_A_cst X hx hZ eTl VB (j := (26 : Int32)) (x := (45 : Int32)) (i := 26) (by decide) rfl (by decide) (g := (mkF m 213 #[iv p0, iv p1, iv p2, iv p3, iv p4, iv p5, iv (own_n s0), iv (own_n w0), iv (own_n q0), iv (own_n q1), iv (own_n q2), .unset, .unset, .unset, .unset, .unset] [.int 45, .int 26, .ref b47, .ref b47])) rfl rfl (hb hby at_213)
    have N206 := Fr.snoc X206 N g_b47
    have Z207 := Nat.le_trans (Nat.le_trans Z0 K.1) (Keep.of_wr W206).1
    have K208 : Keep h0 _ [] := K.wr W206 (Or.inr sz_b47)
    refine own_st st206 ?_
    show own_E p e below _ T206 (mkF m 214 #[iv p0, iv p1, iv p2, iv p3, iv p4, iv p5, iv (own_n s0), iv (own_n w0), iv (own_n q0), iv (own_n q1), iv (own_n q2), .unset, .unset, .unset, .unset, .unset] [.ref b47])
    exact S27 _ _ _ X206 N206 (by rw [e206]; exact K208) (by rw [e206]; exact Aw206) (own_bst (k := 26) I (by decide +kernel))
  clear S27
  have S25 : ∀ (T : State) (Lc : List Loc) (g : Nat → Int32), Stand p l e room_1 s m #[(.int p0), (.int p1), (.int p2), (.int p3), (.int p4), (.int p5)] below meth c T Lc 1 70 → Fr n0 Lc → Keep h0 T.heap [] → own_A Z T.heap b47 .char 70 g → (∀ j, j < 25 → g j = own_base j) → own_E p e below (own_K (own_law_Q n0) s room_1.cells room_1.slots) T (mkF m 202 #[iv p0, iv p1, iv p2, iv p3, iv p4, iv p5, iv (own_n s0), iv (own_n w0), iv (own_n q0), iv (own_n q1), iv (own_n q2), .unset, .unset, .unset, .unset, .unset] [.ref b47]) := by
    intro T Lc g X N K VB I
    have eTl : T.heap = T.heap := rfl
    refine own_st (fun t k => XS.dup X.here hx rfl (hb hby at_202) rfl rfl k) ?_
    show own_E p e below _ T (mkF m 203 #[iv p0, iv p1, iv p2, iv p3, iv p4, iv p5, iv (own_n s0), iv (own_n w0), iv (own_n q0), iv (own_n q1), iv (own_n q2), .unset, .unset, .unset, .unset, .unset] [.ref b47, .ref b47])
    refine own_st (fun t k => XS.bipush X.here hx rfl (hb hby at_203) k) ?_
    show own_E p e below _ T (mkF m 205 #[iv p0, iv p1, iv p2, iv p3, iv p4, iv p5, iv (own_n s0), iv (own_n w0), iv (own_n q0), iv (own_n q1), iv (own_n q2), .unset, .unset, .unset, .unset, .unset] [.int 25, .ref b47, .ref b47])
    refine own_st (fun t k => XS.bipush X.here hx rfl (hb hby at_205) k) ?_
    show own_E p e below _ T (mkF m 207 #[iv p0, iv p1, iv p2, iv p3, iv p4, iv p5, iv (own_n s0), iv (own_n w0), iv (own_n q0), iv (own_n q1), iv (own_n q2), .unset, .unset, .unset, .unset, .unset] [.int 57, .int 25, .ref b47, .ref b47])
    obtain ⟨T209, h209, X209, e209, W209, Aw209, st209⟩ := own_A_cst X hx hZ eTl VB (j := (25 : Int32)) (x := (57 : Int32)) (i := 25) (by decide) rfl (by decide) (g := (mkF m 207 #[iv p0, iv p1, iv p2, iv p3, iv p4, iv p5, iv (own_n s0), iv (own_n w0), iv (own_n q0), iv (own_n q1), iv (own_n q2), .unset, .unset, .unset, .unset, .unset] [.int 57, .int 25, .ref b47, .ref b47])) rfl rfl (hb hby at_207)
    have N209 := Fr.snoc X209 N g_b47
    have Z210 := Nat.le_trans (Nat.le_trans Z0 K.1) (Keep.of_wr W209).1
    have K211 : Keep h0 _ [] := K.wr W209 (Or.inr sz_b47)
    refine own_st st209 ?_
    show own_E p e below _ T209 (mkF m 208 #[iv p0, iv p1, iv p2, iv p3, iv p4, iv p5, iv (own_n s0), iv (own_n w0), iv (own_n q0), iv (own_n q1), iv (own_n q2), .unset, .unset, .unset, .unset, .unset] [.ref b47])
    exact S26 _ _ _ X209 N209 (by rw [e209]; exact K211) (by rw [e209]; exact Aw209) (own_bst (k := 25) I (by decide +kernel))
  clear S26
  have S24 : ∀ (T : State) (Lc : List Loc) (g : Nat → Int32), Stand p l e room_1 s m #[(.int p0), (.int p1), (.int p2), (.int p3), (.int p4), (.int p5)] below meth c T Lc 1 70 → Fr n0 Lc → Keep h0 T.heap [] → own_A Z T.heap b47 .char 70 g → (∀ j, j < 24 → g j = own_base j) → own_E p e below (own_K (own_law_Q n0) s room_1.cells room_1.slots) T (mkF m 196 #[iv p0, iv p1, iv p2, iv p3, iv p4, iv p5, iv (own_n s0), iv (own_n w0), iv (own_n q0), iv (own_n q1), iv (own_n q2), .unset, .unset, .unset, .unset, .unset] [.ref b47]) := by
    intro T Lc g X N K VB I
    have eTl : T.heap = T.heap := rfl
    refine own_st (fun t k => XS.dup X.here hx rfl (hb hby at_196) rfl rfl k) ?_
    show own_E p e below _ T (mkF m 197 #[iv p0, iv p1, iv p2, iv p3, iv p4, iv p5, iv (own_n s0), iv (own_n w0), iv (own_n q0), iv (own_n q1), iv (own_n q2), .unset, .unset, .unset, .unset, .unset] [.ref b47, .ref b47])
    refine own_st (fun t k => XS.bipush X.here hx rfl (hb hby at_197) k) ?_
    show own_E p e below _ T (mkF m 199 #[iv p0, iv p1, iv p2, iv p3, iv p4, iv p5, iv (own_n s0), iv (own_n w0), iv (own_n q0), iv (own_n q1), iv (own_n q2), .unset, .unset, .unset, .unset, .unset] [.int 24, .ref b47, .ref b47])
    refine own_st (fun t k => XS.bipush X.here hx rfl (hb hby at_199) k) ?_
    show own_E p e below _ T (mkF m 201 #[iv p0, iv p1, iv p2, iv p3, iv p4, iv p5, iv (own_n s0), iv (own_n w0), iv (own_n q0), iv (own_n q1), iv (own_n q2), .unset, .unset, .unset, .unset, .unset] [.int 48, .int 24, .ref b47, .ref b47])
    obtain ⟨T212, h212, X212, e212, W212, Aw212, st212⟩ := own_A_cst X hx hZ eTl VB (j := (24 : Int32)) (x := (48 : Int32)) (i := 24) (by decide) rfl (by decide) (g := (mkF m 201 #[iv p0, iv p1, iv p2, iv p3, iv p4, iv p5, iv (own_n s0), iv (own_n w0), iv (own_n q0), iv (own_n q1), iv (own_n q2), .unset, .unset, .unset, .unset, .unset] [.int 48, .int 24, .ref b47, .ref b47])) rfl rfl (hb hby at_201)
    have N212 := Fr.snoc X212 N g_b47
    have Z213 := Nat.le_trans (Nat.le_trans Z0 K.1) (Keep.of_wr W212).1
    have K214 : Keep h0 _ [] := K.wr W212 (Or.inr sz_b47)
    refine own_st st212 ?_
    show own_E p e below _ T212 (mkF m 202 #[iv p0, iv p1, iv p2, iv p3, iv p4, iv p5, iv (own_n s0), iv (own_n w0), iv (own_n q0), iv (own_n q1), iv (own_n q2), .unset, .unset, .unset, .unset, .unset] [.ref b47])
    exact S25 _ _ _ X212 N212 (by rw [e212]; exact K214) (by rw [e212]; exact Aw212) (own_bst (k := 24) I (by decide +kernel))
  clear S25
  have S23 : ∀ (T : State) (Lc : List Loc) (g : Nat → Int32), Stand p l e room_1 s m #[(.int p0), (.int p1), (.int p2), (.int p3), (.int p4), (.int p5)] below meth c T Lc 1 70 → Fr n0 Lc → Keep h0 T.heap [] → own_A Z T.heap b47 .char 70 g → (∀ j, j < 23 → g j = own_base j) → own_E p e below (own_K (own_law_Q n0) s room_1.cells room_1.slots) T (mkF m 190 #[iv p0, iv p1, iv p2, iv p3, iv p4, iv p5, iv (own_n s0), iv (own_n w0), iv (own_n q0), iv (own_n q1), iv (own_n q2), .unset, .unset, .unset, .unset, .unset] [.ref b47]) := by
    intro T Lc g X N K VB I
    have eTl : T.heap = T.heap := rfl
    refine own_st (fun t k => XS.dup X.here hx rfl (hb hby at_190) rfl rfl k) ?_
    show own_E p e below _ T (mkF m 191 #[iv p0, iv p1, iv p2, iv p3, iv p4, iv p5, iv (own_n s0), iv (own_n w0), iv (own_n q0), iv (own_n q1), iv (own_n q2), .unset, .unset, .unset, .unset, .unset] [.ref b47, .ref b47])
    refine own_st (fun t k => XS.bipush X.here hx rfl (hb hby at_191) k) ?_
    show own_E p e below _ T (mkF m 193 #[iv p0, iv p1, iv p2, iv p3, iv p4, iv p5, iv (own_n s0), iv (own_n w0), iv (own_n q0), iv (own_n q1), iv (own_n q2), .unset, .unset, .unset, .unset, .unset] [.int 23, .ref b47, .ref b47])
    refine own_st (fun t k => XS.bipush X.here hx rfl (hb hby at_193) k) ?_
    show own_E p e below _ T (mkF m 195 #[iv p0, iv p1, iv p2, iv p3, iv p4, iv p5, iv (own_n s0), iv (own_n w0), iv (own_n q0), iv (own_n q1), iv (own_n q2), .unset, .unset, .unset, .unset, .unset] [.int 122, .int 23, .ref b47, .ref b47])
    obtain ⟨T215, h215, X215, e215, W215, Aw215, st215⟩ := own_A_cst X hx hZ eTl VB (j := (23 : Int32)) (x := (122 : Int32)) (i := 23) (by decide) rfl (by decide) (g := (mkF m 195 #[iv p0, iv p1, iv p2, iv p3, iv p4, iv p5, iv (own_n s0), iv (own_n w0), iv (own_n q0), iv (own_n q1), iv (own_n q2), .unset, .unset, .unset, .unset, .unset] [.int 122, .int 23, .ref b47, .ref b47])) rfl rfl (hb hby at_195)
    have N215 := Fr.snoc X215 N g_b47
    have Z216 := Nat.le_trans (Nat.le_trans Z0 K.1) (Keep.of_wr W215).1
    have K217 : Keep h0 _ [] := K.wr W215 (Or.inr sz_b47)
    refine own_st st215 ?_
    show own_E p e below _ T215 (mkF m 196 #[iv p0, iv p1, iv p2, iv p3, iv p4, iv p5, iv (own_n s0), iv (own_n w0), iv (own_n q0), iv (own_n q1), iv (own_n q2), .unset, .unset, .unset, .unset, .unset] [.ref b47])
    exact S24 _ _ _ X215 N215 (by rw [e215]; exact K217) (by rw [e215]; exact Aw215) (own_bst (k := 23) I (by decide +kernel))
  clear S24
  have S22 : ∀ (T : State) (Lc : List Loc) (g : Nat → Int32), Stand p l e room_1 s m #[(.int p0), (.int p1), (.int p2), (.int p3), (.int p4), (.int p5)] below meth c T Lc 1 70 → Fr n0 Lc → Keep h0 T.heap [] → own_A Z T.heap b47 .char 70 g → (∀ j, j < 22 → g j = own_base j) → own_E p e below (own_K (own_law_Q n0) s room_1.cells room_1.slots) T (mkF m 184 #[iv p0, iv p1, iv p2, iv p3, iv p4, iv p5, iv (own_n s0), iv (own_n w0), iv (own_n q0), iv (own_n q1), iv (own_n q2), .unset, .unset, .unset, .unset, .unset] [.ref b47]) := by
    intro T Lc g X N K VB I
    have eTl : T.heap = T.heap := rfl
    refine own_st (fun t k => XS.dup X.here hx rfl (hb hby at_184) rfl rfl k) ?_
    show own_E p e below _ T (mkF m 185 #[iv p0, iv p1, iv p2, iv p3, iv p4, iv p5, iv (own_n s0), iv (own_n w0), iv (own_n q0), iv (own_n q1), iv (own_n q2), .unset, .unset, .unset, .unset, .unset] [.ref b47, .ref b47])
    refine own_st (fun t k => XS.bipush X.here hx rfl (hb hby at_185) k) ?_
    show own_E p e below _ T (mkF m 187 #[iv p0, iv p1, iv p2, iv p3, iv p4, iv p5, iv (own_n s0), iv (own_n w0), iv (own_n q0), iv (own_n q1), iv (own_n q2), .unset, .unset, .unset, .unset, .unset] [.int 22, .ref b47, .ref b47])
    refine own_st (fun t k => XS.bipush X.here hx rfl (hb hby at_187) k) ?_
    show own_E p e below _ T (mkF m 189 #[iv p0, iv p1, iv p2, iv p3, iv p4, iv p5, iv (own_n s0), iv (own_n w0), iv (own_n q0), iv (own_n q1), iv (own_n q2), .unset, .unset, .unset, .unset, .unset] [.int 97, .int 22, .ref b47, .ref b47])
    obtain ⟨T218, h218, X218, e218, W218, Aw218, st218⟩ := own_A_cst X hx hZ eTl VB (j := (22 : Int32)) (x := (97 : Int32)) (i := 22) (by decide) rfl (by decide) (g := (mkF m 189 #[iv p0, iv p1, iv p2, iv p3, iv p4, iv p5, iv (own_n s0), iv (own_n w0), iv (own_n q0), iv (own_n q1), iv (own_n q2), .unset, .unset, .unset, .unset, .unset] [.int 97, .int 22, .ref b47, .ref b47])) rfl rfl (hb hby at_189)
    have N218 := Fr.snoc X218 N g_b47
    have Z219 := Nat.le_trans (Nat.le_trans Z0 K.1) (Keep.of_wr W218).1
    have K220 : Keep h0 _ [] := K.wr W218 (Or.inr sz_b47)
    refine own_st st218 ?_
    show own_E p e below _ T218 (mkF m 190 #[iv p0, iv p1, iv p2, iv p3, iv p4, iv p5, iv (own_n s0), iv (own_n w0), iv (own_n q0), iv (own_n q1), iv (own_n q2), .unset, .unset, .unset, .unset, .unset] [.ref b47])
    exact S23 _ _ _ X218 N218 (by rw [e218]; exact K220) (by rw [e218]; exact Aw218) (own_bst (k := 22) I (by decide +kernel))
  clear S23
  have S21 : ∀ (T : State) (Lc : List Loc) (g : Nat → Int32), Stand p l e room_1 s m #[(.int p0), (.int p1), (.int p2), (.int p3), (.int p4), (.int p5)] below meth c T Lc 1 70 → Fr n0 Lc → Keep h0 T.heap [] → own_A Z T.heap b47 .char 70 g → (∀ j, j < 21 → g j = own_base j) → own_E p e below (own_K (own_law_Q n0) s room_1.cells room_1.slots) T (mkF m 178 #[iv p0, iv p1, iv p2, iv p3, iv p4, iv p5, iv (own_n s0), iv (own_n w0), iv (own_n q0), iv (own_n q1), iv (own_n q2), .unset, .unset, .unset, .unset, .unset] [.ref b47]) := by
    intro T Lc g X N K VB I
    have eTl : T.heap = T.heap := rfl
    refine own_st (fun t k => XS.dup X.here hx rfl (hb hby at_178) rfl rfl k) ?_
    show own_E p e below _ T (mkF m 179 #[iv p0, iv p1, iv p2, iv p3, iv p4, iv p5, iv (own_n s0), iv (own_n w0), iv (own_n q0), iv (own_n q1), iv (own_n q2), .unset, .unset, .unset, .unset, .unset] [.ref b47, .ref b47])
    refine own_st (fun t k => XS.bipush X.here hx rfl (hb hby at_179) k) ?_
    show own_E p e below _ T (mkF m 181 #[iv p0, iv p1, iv p2, iv p3, iv p4, iv p5, iv (own_n s0), iv (own_n w0), iv (own_n q0), iv (own_n q1), iv (own_n q2), .unset, .unset, .unset, .unset, .unset] [.int 21, .ref b47, .ref b47])
    refine own_st (fun t k => XS.bipush X.here hx rfl (hb hby at_181) k) ?_
    show own_E p e below _ T (mkF m 183 #[iv p0, iv p1, iv p2, iv p3, iv p4, iv p5, iv (own_n s0), iv (own_n w0), iv (own_n q0), iv (own_n q1), iv (own_n q2), .unset, .unset, .unset, .unset, .unset] [.int 90, .int 21, .ref b47, .ref b47])
    obtain ⟨T221, h221, X221, e221, W221, Aw221, st221⟩ := own_A_cst X hx hZ eTl VB (j := (21 : Int32)) (x := (90 : Int32)) (i := 21) (by decide) rfl (by decide) (g := (mkF m 183 #[iv p0, iv p1, iv p2, iv p3, iv p4, iv p5, iv (own_n s0), iv (own_n w0), iv (own_n q0), iv (own_n q1), iv (own_n q2), .unset, .unset, .unset, .unset, .unset] [.int 90, .int 21, .ref b47, .ref b47])) rfl rfl (hb hby at_183)
    have N221 := Fr.snoc X221 N g_b47
    have Z222 := Nat.le_trans (Nat.le_trans Z0 K.1) (Keep.of_wr W221).1
    have K223 : Keep h0 _ [] := K.wr W221 (Or.inr sz_b47)
    refine own_st st221 ?_
    show own_E p e below _ T221 (mkF m 184 #[iv p0, iv p1, iv p2, iv p3, iv p4, iv p5, iv (own_n s0), iv (own_n w0), iv (own_n q0), iv (own_n q1), iv (own_n q2), .unset, .unset, .unset, .unset, .unset] [.ref b47])
    exact S22 _ _ _ X221 N221 (by rw [e221]; exact K223) (by rw [e221]; exact Aw221) (own_bst (k := 21) I (by decide +kernel))
  clear S22
  have S20 : ∀ (T : State) (Lc : List Loc) (g : Nat → Int32), Stand p l e room_1 s m #[(.int p0), (.int p1), (.int p2), (.int p3), (.int p4), (.int p5)] below meth c T Lc 1 70 → Fr n0 Lc → Keep h0 T.heap [] → own_A Z T.heap b47 .char 70 g → (∀ j, j < 20 → g j = own_base j) → own_E p e below (own_K (own_law_Q n0) s room_1.cells room_1.slots) T (mkF m 172 #[iv p0, iv p1, iv p2, iv p3, iv p4, iv p5, iv (own_n s0), iv (own_n w0), iv (own_n q0), iv (own_n q1), iv (own_n q2), .unset, .unset, .unset, .unset, .unset] [.ref b47]) := by
    intro T Lc g X N K VB I
    have eTl : T.heap = T.heap := rfl
    refine own_st (fun t k => XS.dup X.here hx rfl (hb hby at_172) rfl rfl k) ?_
    show own_E p e below _ T (mkF m 173 #[iv p0, iv p1, iv p2, iv p3, iv p4, iv p5, iv (own_n s0), iv (own_n w0), iv (own_n q0), iv (own_n q1), iv (own_n q2), .unset, .unset, .unset, .unset, .unset] [.ref b47, .ref b47])
    refine own_st (fun t k => XS.bipush X.here hx rfl (hb hby at_173) k) ?_
    show own_E p e below _ T (mkF m 175 #[iv p0, iv p1, iv p2, iv p3, iv p4, iv p5, iv (own_n s0), iv (own_n w0), iv (own_n q0), iv (own_n q1), iv (own_n q2), .unset, .unset, .unset, .unset, .unset] [.int 20, .ref b47, .ref b47])
    refine own_st (fun t k => XS.bipush X.here hx rfl (hb hby at_175) k) ?_
    show own_E p e below _ T (mkF m 177 #[iv p0, iv p1, iv p2, iv p3, iv p4, iv p5, iv (own_n s0), iv (own_n w0), iv (own_n q0), iv (own_n q1), iv (own_n q2), .unset, .unset, .unset, .unset, .unset] [.int 65, .int 20, .ref b47, .ref b47])
    obtain ⟨T224, h224, X224, e224, W224, Aw224, st224⟩ := own_A_cst X hx hZ eTl VB (j := (20 : Int32)) (x := (65 : Int32)) (i := 20) (by decide) rfl (by decide) (g := (mkF m 177 #[iv p0, iv p1, iv p2, iv p3, iv p4, iv p5, iv (own_n s0), iv (own_n w0), iv (own_n q0), iv (own_n q1), iv (own_n q2), .unset, .unset, .unset, .unset, .unset] [.int 65, .int 20, .ref b47, .ref b47])) rfl rfl (hb hby at_177)
    have N224 := Fr.snoc X224 N g_b47
    have Z225 := Nat.le_trans (Nat.le_trans Z0 K.1) (Keep.of_wr W224).1
    have K226 : Keep h0 _ [] := K.wr W224 (Or.inr sz_b47)
    refine own_st st224 ?_
    show own_E p e below _ T224 (mkF m 178 #[iv p0, iv p1, iv p2, iv p3, iv p4, iv p5, iv (own_n s0), iv (own_n w0), iv (own_n q0), iv (own_n q1), iv (own_n q2), .unset, .unset, .unset, .unset, .unset] [.ref b47])
    exact S21 _ _ _ X224 N224 (by rw [e224]; exact K226) (by rw [e224]; exact Aw224) (own_bst (k := 20) I (by decide +kernel))
  clear S21
  have S19 : ∀ (T : State) (Lc : List Loc) (g : Nat → Int32), Stand p l e room_1 s m #[(.int p0), (.int p1), (.int p2), (.int p3), (.int p4), (.int p5)] below meth c T Lc 1 70 → Fr n0 Lc → Keep h0 T.heap [] → own_A Z T.heap b47 .char 70 g → (∀ j, j < 19 → g j = own_base j) → own_E p e below (own_K (own_law_Q n0) s room_1.cells room_1.slots) T (mkF m 166 #[iv p0, iv p1, iv p2, iv p3, iv p4, iv p5, iv (own_n s0), iv (own_n w0), iv (own_n q0), iv (own_n q1), iv (own_n q2), .unset, .unset, .unset, .unset, .unset] [.ref b47]) := by
    intro T Lc g X N K VB I
    have eTl : T.heap = T.heap := rfl
    refine own_st (fun t k => XS.dup X.here hx rfl (hb hby at_166) rfl rfl k) ?_
    show own_E p e below _ T (mkF m 167 #[iv p0, iv p1, iv p2, iv p3, iv p4, iv p5, iv (own_n s0), iv (own_n w0), iv (own_n q0), iv (own_n q1), iv (own_n q2), .unset, .unset, .unset, .unset, .unset] [.ref b47, .ref b47])
    refine own_st (fun t k => XS.bipush X.here hx rfl (hb hby at_167) k) ?_
    show own_E p e below _ T (mkF m 169 #[iv p0, iv p1, iv p2, iv p3, iv p4, iv p5, iv (own_n s0), iv (own_n w0), iv (own_n q0), iv (own_n q1), iv (own_n q2), .unset, .unset, .unset, .unset, .unset] [.int 19, .ref b47, .ref b47])
    refine own_st (fun t k => XS.bipush X.here hx rfl (hb hby at_169) k) ?_
    show own_E p e below _ T (mkF m 171 #[iv p0, iv p1, iv p2, iv p3, iv p4, iv p5, iv (own_n s0), iv (own_n w0), iv (own_n q0), iv (own_n q1), iv (own_n q2), .unset, .unset, .unset, .unset, .unset] [.int 53, .int 19, .ref b47, .ref b47])
    obtain ⟨T227, h227, X227, e227, W227, Aw227, st227⟩ := own_A_cst X hx hZ eTl VB (j := (19 : Int32)) (x := (53 : Int32)) (i := 19) (by decide) rfl (by decide) (g := (mkF m 171 #[iv p0, iv p1, iv p2, iv p3, iv p4, iv p5, iv (own_n s0), iv (own_n w0), iv (own_n q0), iv (own_n q1), iv (own_n q2), .unset, .unset, .unset, .unset, .unset] [.int 53, .int 19, .ref b47, .ref b47])) rfl rfl (hb hby at_171)
    have N227 := Fr.snoc X227 N g_b47
    have Z228 := Nat.le_trans (Nat.le_trans Z0 K.1) (Keep.of_wr W227).1
    have K229 : Keep h0 _ [] := K.wr W227 (Or.inr sz_b47)
    refine own_st st227 ?_
    show own_E p e below _ T227 (mkF m 172 #[iv p0, iv p1, iv p2, iv p3, iv p4, iv p5, iv (own_n s0), iv (own_n w0), iv (own_n q0), iv (own_n q1), iv (own_n q2), .unset, .unset, .unset, .unset, .unset] [.ref b47])
    exact S20 _ _ _ X227 N227 (by rw [e227]; exact K229) (by rw [e227]; exact Aw227) (own_bst (k := 19) I (by decide +kernel))
  clear S20
  have S18 : ∀ (T : State) (Lc : List Loc) (g : Nat → Int32), Stand p l e room_1 s m #[(.int p0), (.int p1), (.int p2), (.int p3), (.int p4), (.int p5)] below meth c T Lc 1 70 → Fr n0 Lc → Keep h0 T.heap [] → own_A Z T.heap b47 .char 70 g → (∀ j, j < 18 → g j = own_base j) → own_E p e below (own_K (own_law_Q n0) s room_1.cells room_1.slots) T (mkF m 160 #[iv p0, iv p1, iv p2, iv p3, iv p4, iv p5, iv (own_n s0), iv (own_n w0), iv (own_n q0), iv (own_n q1), iv (own_n q2), .unset, .unset, .unset, .unset, .unset] [.ref b47]) := by
    intro T Lc g X N K VB I
    have eTl : T.heap = T.heap := rfl
    refine own_st (fun t k => XS.dup X.here hx rfl (hb hby at_160) rfl rfl k) ?_
    show own_E p e below _ T (mkF m 161 #[iv p0, iv p1, iv p2, iv p3, iv p4, iv p5, iv (own_n s0), iv (own_n w0), iv (own_n q0), iv (own_n q1), iv (own_n q2), .unset, .unset, .unset, .unset, .unset] [.ref b47, .ref b47])
    refine own_st (fun t k => XS.bipush X.here hx rfl (hb hby at_161) k) ?_
    show own_E p e below _ T (mkF m 163 #[iv p0, iv p1, iv p2, iv p3, iv p4, iv p5, iv (own_n s0), iv (own_n w0), iv (own_n q0), iv (own_n q1), iv (own_n q2), .unset, .unset, .unset, .unset, .unset] [.int 18, .ref b47, .ref b47])
    refine own_st (fun t k => XS.bipush X.here hx rfl (hb hby at_163) k) ?_
    show own_E p e below _ T (mkF m 165 #[iv p0, iv p1, iv p2, iv p3, iv p4, iv p5, iv (own_n s0), iv (own_n w0), iv (own_n q0), iv (own_n q1), iv (own_n q2), .unset, .unset, .unset, .unset, .unset] [.int 109, .int 18, .ref b47, .ref b47])
    obtain ⟨T230, h230, X230, e230, W230, Aw230, st230⟩ := own_A_cst X hx hZ eTl VB (j := (18 : Int32)) (x := (109 : Int32)) (i := 18) (by decide) rfl (by decide) (g := (mkF m 165 #[iv p0, iv p1, iv p2, iv p3, iv p4, iv p5, iv (own_n s0), iv (own_n w0), iv (own_n q0), iv (own_n q1), iv (own_n q2), .unset, .unset, .unset, .unset, .unset] [.int 109, .int 18, .ref b47, .ref b47])) rfl rfl (hb hby at_165)
    have N230 := Fr.snoc X230 N g_b47
    have Z231 := Nat.le_trans (Nat.le_trans Z0 K.1) (Keep.of_wr W230).1
    have K232 : Keep h0 _ [] := K.wr W230 (Or.inr sz_b47)
    refine own_st st230 ?_
    show own_E p e below _ T230 (mkF m 166 #[iv p0, iv p1, iv p2, iv p3, iv p4, iv p5, iv (own_n s0), iv (own_n w0), iv (own_n q0), iv (own_n q1), iv (own_n q2), .unset, .unset, .unset, .unset, .unset] [.ref b47])
    exact S19 _ _ _ X230 N230 (by rw [e230]; exact K232) (by rw [e230]; exact Aw230) (own_bst (k := 18) I (by decide +kernel))
  clear S19
  have S17 : ∀ (T : State) (Lc : List Loc) (g : Nat → Int32), Stand p l e room_1 s m #[(.int p0), (.int p1), (.int p2), (.int p3), (.int p4), (.int p5)] below meth c T Lc 1 70 → Fr n0 Lc → Keep h0 T.heap [] → own_A Z T.heap b47 .char 70 g → (∀ j, j < 17 → g j = own_base j) → own_E p e below (own_K (own_law_Q n0) s room_1.cells room_1.slots) T (mkF m 154 #[iv p0, iv p1, iv p2, iv p3, iv p4, iv p5, iv (own_n s0), iv (own_n w0), iv (own_n q0), iv (own_n q1), iv (own_n q2), .unset, .unset, .unset, .unset, .unset] [.ref b47]) := by
    intro T Lc g X N K VB I
    have eTl : T.heap = T.heap := rfl
    refine own_st (fun t k => XS.dup X.here hx rfl (hb hby at_154) rfl rfl k) ?_
    show own_E p e below _ T (mkF m 155 #[iv p0, iv p1, iv p2, iv p3, iv p4, iv p5, iv (own_n s0), iv (own_n w0), iv (own_n q0), iv (own_n q1), iv (own_n q2), .unset, .unset, .unset, .unset, .unset] [.ref b47, .ref b47])
    refine own_st (fun t k => XS.bipush X.here hx rfl (hb hby at_155) k) ?_
    show own_E p e below _ T (mkF m 157 #[iv p0, iv p1, iv p2, iv p3, iv p4, iv p5, iv (own_n s0), iv (own_n w0), iv (own_n q0), iv (own_n q1), iv (own_n q2), .unset, .unset, .unset, .unset, .unset] [.int 17, .ref b47, .ref b47])
    refine own_st (fun t k => XS.bipush X.here hx rfl (hb hby at_157) k) ?_
    show own_E p e below _ T (mkF m 159 #[iv p0, iv p1, iv p2, iv p3, iv p4, iv p5, iv (own_n s0), iv (own_n w0), iv (own_n q0), iv (own_n q1), iv (own_n q2), .unset, .unset, .unset, .unset, .unset] [.int 46, .int 17, .ref b47, .ref b47])
    obtain ⟨T233, h233, X233, e233, W233, Aw233, st233⟩ := own_A_cst X hx hZ eTl VB (j := (17 : Int32)) (x := (46 : Int32)) (i := 17) (by decide) rfl (by decide) (g := (mkF m 159 #[iv p0, iv p1, iv p2, iv p3, iv p4, iv p5, iv (own_n s0), iv (own_n w0), iv (own_n q0), iv (own_n q1), iv (own_n q2), .unset, .unset, .unset, .unset, .unset] [.int 46, .int 17, .ref b47, .ref b47])) rfl rfl (hb hby at_159)
    have N233 := Fr.snoc X233 N g_b47
    have Z234 := Nat.le_trans (Nat.le_trans Z0 K.1) (Keep.of_wr W233).1
    have K235 : Keep h0 _ [] := K.wr W233 (Or.inr sz_b47)
    refine own_st st233 ?_
    show own_E p e below _ T233 (mkF m 160 #[iv p0, iv p1, iv p2, iv p3, iv p4, iv p5, iv (own_n s0), iv (own_n w0), iv (own_n q0), iv (own_n q1), iv (own_n q2), .unset, .unset, .unset, .unset, .unset] [.ref b47])
    exact S18 _ _ _ X233 N233 (by rw [e233]; exact K235) (by rw [e233]; exact Aw233) (own_bst (k := 17) I (by decide +kernel))
  clear S18
  have S16 : ∀ (T : State) (Lc : List Loc) (g : Nat → Int32), Stand p l e room_1 s m #[(.int p0), (.int p1), (.int p2), (.int p3), (.int p4), (.int p5)] below meth c T Lc 1 70 → Fr n0 Lc → Keep h0 T.heap [] → own_A Z T.heap b47 .char 70 g → (∀ j, j < 16 → g j = own_base j) → own_E p e below (own_K (own_law_Q n0) s room_1.cells room_1.slots) T (mkF m 148 #[iv p0, iv p1, iv p2, iv p3, iv p4, iv p5, iv (own_n s0), iv (own_n w0), iv (own_n q0), iv (own_n q1), iv (own_n q2), .unset, .unset, .unset, .unset, .unset] [.ref b47]) := by
    intro T Lc g X N K VB I
    have eTl : T.heap = T.heap := rfl
    refine own_st (fun t k => XS.dup X.here hx rfl (hb hby at_148) rfl rfl k) ?_
    show own_E p e below _ T (mkF m 149 #[iv p0, iv p1, iv p2, iv p3, iv p4, iv p5, iv (own_n s0), iv (own_n w0), iv (own_n q0), iv (own_n q1), iv (own_n q2), .unset, .unset, .unset, .unset, .unset] [.ref b47, .ref b47])
    refine own_st (fun t k => XS.bipush X.here hx rfl (hb hby at_149) k) ?_
    show own_E p e below _ T (mkF m 151 #[iv p0, iv p1, iv p2, iv p3, iv p4, iv p5, iv (own_n s0), iv (own_n w0), iv (own_n q0), iv (own_n q1), iv (own_n q2), .unset, .unset, .unset, .unset, .unset] [.int 16, .ref b47, .ref b47])
    refine own_st (fun t k => XS.bipush X.here hx rfl (hb hby at_151) k) ?_
    show own_E p e below _ T (mkF m 153 #[iv p0, iv p1, iv p2, iv p3, iv p4, iv p5, iv (own_n s0), iv (own_n w0), iv (own_n q0), iv (own_n q1), iv (own_n q2), .unset, .unset, .unset, .unset, .unset] [.int 45, .int 16, .ref b47, .ref b47])
    obtain ⟨T236, h236, X236, e236, W236, Aw236, st236⟩ := own_A_cst X hx hZ eTl VB (j := (16 : Int32)) (x := (45 : Int32)) (i := 16) (by decide) rfl (by decide) (g := (mkF m 153 #[iv p0, iv p1, iv p2, iv p3, iv p4, iv p5, iv (own_n s0), iv (own_n w0), iv (own_n q0), iv (own_n q1), iv (own_n q2), .unset, .unset, .unset, .unset, .unset] [.int 45, .int 16, .ref b47, .ref b47])) rfl rfl (hb hby at_153)
    have N236 := Fr.snoc X236 N g_b47
    have Z237 := Nat.le_trans (Nat.le_trans Z0 K.1) (Keep.of_wr W236).1
    have K238 : Keep h0 _ [] := K.wr W236 (Or.inr sz_b47)
    refine own_st st236 ?_
    show own_E p e below _ T236 (mkF m 154 #[iv p0, iv p1, iv p2, iv p3, iv p4, iv p5, iv (own_n s0), iv (own_n w0), iv (own_n q0), iv (own_n q1), iv (own_n q2), .unset, .unset, .unset, .unset, .unset] [.ref b47])
    exact S17 _ _ _ X236 N236 (by rw [e236]; exact K238) (by rw [e236]; exact Aw236) (own_bst (k := 16) I (by decide +kernel))
  clear S17
  have S15 : ∀ (T : State) (Lc : List Loc) (g : Nat → Int32), Stand p l e room_1 s m #[(.int p0), (.int p1), (.int p2), (.int p3), (.int p4), (.int p5)] below meth c T Lc 1 70 → Fr n0 Lc → Keep h0 T.heap [] → own_A Z T.heap b47 .char 70 g → (∀ j, j < 15 → g j = own_base j) → own_E p e below (own_K (own_law_Q n0) s room_1.cells room_1.slots) T (mkF m 142 #[iv p0, iv p1, iv p2, iv p3, iv p4, iv p5, iv (own_n s0), iv (own_n w0), iv (own_n q0), iv (own_n q1), iv (own_n q2), .unset, .unset, .unset, .unset, .unset] [.ref b47]) := by
    intro T Lc g X N K VB I
    have eTl : T.heap = T.heap := rfl
    refine own_st (fun t k => XS.dup X.here hx rfl (hb hby at_142) rfl rfl k) ?_
    show own_E p e below _ T (mkF m 143 #[iv p0, iv p1, iv p2, iv p3, iv p4, iv p5, iv (own_n s0), iv (own_n w0), iv (own_n q0), iv (own_n q1), iv (own_n q2), .unset, .unset, .unset, .unset, .unset] [.ref b47, .ref b47])
    refine own_st (fun t k => XS.bipush X.here hx rfl (hb hby at_143) k) ?_
    show own_E p e below _ T (mkF m 145 #[iv p0, iv p1, iv p2, iv p3, iv p4, iv p5, iv (own_n s0), iv (own_n w0), iv (own_n q0), iv (own_n q1), iv (own_n q2), .unset, .unset, .unset, .unset, .unset] [.int 15, .ref b47, .ref b47])
    refine own_st (fun t k => XS.bipush X.here hx rfl (hb hby at_145) k) ?_
    show own_E p e below _ T (mkF m 147 #[iv p0, iv p1, iv p2, iv p3, iv p4, iv p5, iv (own_n s0), iv (own_n w0), iv (own_n q0), iv (own_n q1), iv (own_n q2), .unset, .unset, .unset, .unset, .unset] [.int 57, .int 15, .ref b47, .ref b47])
    obtain ⟨T239, h239, X239, e239, W239, Aw239, st239⟩ := own_A_cst X hx hZ eTl VB (j := (15 : Int32)) (x := (57 : Int32)) (i := 15) (by decide) rfl (by decide) (g := (mkF m 147 #[iv p0, iv p1, iv p2, iv p3, iv p4, iv p5, iv (own_n s0), iv (own_n w0), iv (own_n q0), iv (own_n q1), iv (own_n q2), .unset, .unset, .unset, .unset, .unset] [.int 57, .int 15, .ref b47, .ref b47])) rfl rfl (hb hby at_147)
    have N239 := Fr.snoc X239 N g_b47
    have Z240 := Nat.le_trans (Nat.le_trans Z0 K.1) (Keep.of_wr W239).1
    have K241 : Keep h0 _ [] := K.wr W239 (Or.inr sz_b47)
    refine own_st st239 ?_
    show own_E p e below _ T239 (mkF m 148 #[iv p0, iv p1, iv p2, iv p3, iv p4, iv p5, iv (own_n s0), iv (own_n w0), iv (own_n q0), iv (own_n q1), iv (own_n q2), .unset, .unset, .unset, .unset, .unset] [.ref b47])
    exact S16 _ _ _ X239 N239 (by rw [e239]; exact K241) (by rw [e239]; exact Aw239) (own_bst (k := 15) I (by decide +kernel))
  clear S16
  have S14 : ∀ (T : State) (Lc : List Loc) (g : Nat → Int32), Stand p l e room_1 s m #[(.int p0), (.int p1), (.int p2), (.int p3), (.int p4), (.int p5)] below meth c T Lc 1 70 → Fr n0 Lc → Keep h0 T.heap [] → own_A Z T.heap b47 .char 70 g → (∀ j, j < 14 → g j = own_base j) → own_E p e below (own_K (own_law_Q n0) s room_1.cells room_1.slots) T (mkF m 136 #[iv p0, iv p1, iv p2, iv p3, iv p4, iv p5, iv (own_n s0), iv (own_n w0), iv (own_n q0), iv (own_n q1), iv (own_n q2), .unset, .unset, .unset, .unset, .unset] [.ref b47]) := by
    intro T Lc g X N K VB I
    have eTl : T.heap = T.heap := rfl
    refine own_st (fun t k => XS.dup X.here hx rfl (hb hby at_136) rfl rfl k) ?_
    show own_E p e below _ T (mkF m 137 #[iv p0, iv p1, iv p2, iv p3, iv p4, iv p5, iv (own_n s0), iv (own_n w0), iv (own_n q0), iv (own_n q1), iv (own_n q2), .unset, .unset, .unset, .unset, .unset] [.ref b47, .ref b47])
    refine own_st (fun t k => XS.bipush X.here hx rfl (hb hby at_137) k) ?_
    show own_E p e below _ T (mkF m 139 #[iv p0, iv p1, iv p2, iv p3, iv p4, iv p5, iv (own_n s0), iv (own_n w0), iv (own_n q0), iv (own_n q1), iv (own_n q2), .unset, .unset, .unset, .unset, .unset] [.int 14, .ref b47, .ref b47])
    refine own_st (fun t k => XS.bipush X.here hx rfl (hb hby at_139) k) ?_
    show own_E p e below _ T (mkF m 141 #[iv p0, iv p1, iv p2, iv p3, iv p4, iv p5, iv (own_n s0), iv (own_n w0), iv (own_n q0), iv (own_n q1), iv (own_n q2), .unset, .unset, .unset, .unset, .unset] [.int 48, .int 14, .ref b47, .ref b47])
    obtain ⟨T242, h242, X242, e242, W242, Aw242, st242⟩ := own_A_cst X hx hZ eTl VB (j := (14 : Int32)) (x := (48 : Int32)) (i := 14) (by decide) rfl (by decide) (g := (mkF m 141 #[iv p0, iv p1, iv p2, iv p3, iv p4, iv p5, iv (own_n s0), iv (own_n w0), iv (own_n q0), iv (own_n q1), iv (own_n q2), .unset, .unset, .unset, .unset, .unset] [.int 48, .int 14, .ref b47, .ref b47])) rfl rfl (hb hby at_141)
    have N242 := Fr.snoc X242 N g_b47
    have Z243 := Nat.le_trans (Nat.le_trans Z0 K.1) (Keep.of_wr W242).1
    have K244 : Keep h0 _ [] := K.wr W242 (Or.inr sz_b47)
    refine own_st st242 ?_
    show own_E p e below _ T242 (mkF m 142 #[iv p0, iv p1, iv p2, iv p3, iv p4, iv p5, iv (own_n s0), iv (own_n w0), iv (own_n q0), iv (own_n q1), iv (own_n q2), .unset, .unset, .unset, .unset, .unset] [.ref b47])
    exact S15 _ _ _ X242 N242 (by rw [e242]; exact K244) (by rw [e242]; exact Aw242) (own_bst (k := 14) I (by decide +kernel))
  clear S15
  have S13 : ∀ (T : State) (Lc : List Loc) (g : Nat → Int32), Stand p l e room_1 s m #[(.int p0), (.int p1), (.int p2), (.int p3), (.int p4), (.int p5)] below meth c T Lc 1 70 → Fr n0 Lc → Keep h0 T.heap [] → own_A Z T.heap b47 .char 70 g → (∀ j, j < 13 → g j = own_base j) → own_E p e below (own_K (own_law_Q n0) s room_1.cells room_1.slots) T (mkF m 130 #[iv p0, iv p1, iv p2, iv p3, iv p4, iv p5, iv (own_n s0), iv (own_n w0), iv (own_n q0), iv (own_n q1), iv (own_n q2), .unset, .unset, .unset, .unset, .unset] [.ref b47]) := by
    intro T Lc g X N K VB I
    have eTl : T.heap = T.heap := rfl
    refine own_st (fun t k => XS.dup X.here hx rfl (hb hby at_130) rfl rfl k) ?_
    show own_E p e below _ T (mkF m 131 #[iv p0, iv p1, iv p2, iv p3, iv p4, iv p5, iv (own_n s0), iv (own_n w0), iv (own_n q0), iv (own_n q1), iv (own_n q2), .unset, .unset, .unset, .unset, .unset] [.ref b47, .ref b47])
    refine own_st (fun t k => XS.bipush X.here hx rfl (hb hby at_131) k) ?_
    show own_E p e below _ T (mkF m 133 #[iv p0, iv p1, iv p2, iv p3, iv p4, iv p5, iv (own_n s0), iv (own_n w0), iv (own_n q0), iv (own_n q1), iv (own_n q2), .unset, .unset, .unset, .unset, .unset] [.int 13, .ref b47, .ref b47])
    refine own_st (fun t k => XS.bipush X.here hx rfl (hb hby at_133) k) ?_
    show own_E p e below _ T (mkF m 135 #[iv p0, iv p1, iv p2, iv p3, iv p4, iv p5, iv (own_n s0), iv (own_n w0), iv (own_n q0), iv (own_n q1), iv (own_n q2), .unset, .unset, .unset, .unset, .unset] [.int 122, .int 13, .ref b47, .ref b47])
    obtain ⟨T245, h245, X245, e245, W245, Aw245, st245⟩ := own_A_cst X hx hZ eTl VB (j := (13 : Int32)) (x := (122 : Int32)) (i := 13) (by decide) rfl (by decide) (g := (mkF m 135 #[iv p0, iv p1, iv p2, iv p3, iv p4, iv p5, iv (own_n s0), iv (own_n w0), iv (own_n q0), iv (own_n q1), iv (own_n q2), .unset, .unset, .unset, .unset, .unset] [.int 122, .int 13, .ref b47, .ref b47])) rfl rfl (hb hby at_135)
    have N245 := Fr.snoc X245 N g_b47
    have Z246 := Nat.le_trans (Nat.le_trans Z0 K.1) (Keep.of_wr W245).1
    have K247 : Keep h0 _ [] := K.wr W245 (Or.inr sz_b47)
    refine own_st st245 ?_
    show own_E p e below _ T245 (mkF m 136 #[iv p0, iv p1, iv p2, iv p3, iv p4, iv p5, iv (own_n s0), iv (own_n w0), iv (own_n q0), iv (own_n q1), iv (own_n q2), .unset, .unset, .unset, .unset, .unset] [.ref b47])
    exact S14 _ _ _ X245 N245 (by rw [e245]; exact K247) (by rw [e245]; exact Aw245) (own_bst (k := 13) I (by decide +kernel))
  clear S14
  have S12 : ∀ (T : State) (Lc : List Loc) (g : Nat → Int32), Stand p l e room_1 s m #[(.int p0), (.int p1), (.int p2), (.int p3), (.int p4), (.int p5)] below meth c T Lc 1 70 → Fr n0 Lc → Keep h0 T.heap [] → own_A Z T.heap b47 .char 70 g → (∀ j, j < 12 → g j = own_base j) → own_E p e below (own_K (own_law_Q n0) s room_1.cells room_1.slots) T (mkF m 124 #[iv p0, iv p1, iv p2, iv p3, iv p4, iv p5, iv (own_n s0), iv (own_n w0), iv (own_n q0), iv (own_n q1), iv (own_n q2), .unset, .unset, .unset, .unset, .unset] [.ref b47]) := by
    intro T Lc g X N K VB I
    have eTl : T.heap = T.heap := rfl
    refine own_st (fun t k => XS.dup X.here hx rfl (hb hby at_124) rfl rfl k) ?_
    show own_E p e below _ T (mkF m 125 #[iv p0, iv p1, iv p2, iv p3, iv p4, iv p5, iv (own_n s0), iv (own_n w0), iv (own_n q0), iv (own_n q1), iv (own_n q2), .unset, .unset, .unset, .unset, .unset] [.ref b47, .ref b47])
    refine own_st (fun t k => XS.bipush X.here hx rfl (hb hby at_125) k) ?_
    show own_E p e below _ T (mkF m 127 #[iv p0, iv p1, iv p2, iv p3, iv p4, iv p5, iv (own_n s0), iv (own_n w0), iv (own_n q0), iv (own_n q1), iv (own_n q2), .unset, .unset, .unset, .unset, .unset] [.int 12, .ref b47, .ref b47])
    refine own_st (fun t k => XS.bipush X.here hx rfl (hb hby at_127) k) ?_
    show own_E p e below _ T (mkF m 129 #[iv p0, iv p1, iv p2, iv p3, iv p4, iv p5, iv (own_n s0), iv (own_n w0), iv (own_n q0), iv (own_n q1), iv (own_n q2), .unset, .unset, .unset, .unset, .unset] [.int 97, .int 12, .ref b47, .ref b47])
    obtain ⟨T248, h248, X248, e248, W248, Aw248, st248⟩ := own_A_cst X hx hZ eTl VB (j := (12 : Int32)) (x := (97 : Int32)) (i := 12) (by decide) rfl (by decide) (g := (mkF m 129 #[iv p0, iv p1, iv p2, iv p3, iv p4, iv p5, iv (own_n s0), iv (own_n w0), iv (own_n q0), iv (own_n q1), iv (own_n q2), .unset, .unset, .unset, .unset, .unset] [.int 97, .int 12, .ref b47, .ref b47])) rfl rfl (hb hby at_129)
    have N248 := Fr.snoc X248 N g_b47
    have Z249 := Nat.le_trans (Nat.le_trans Z0 K.1) (Keep.of_wr W248).1
    have K250 : Keep h0 _ [] := K.wr W248 (Or.inr sz_b47)
    refine own_st st248 ?_
    show own_E p e below _ T248 (mkF m 130 #[iv p0, iv p1, iv p2, iv p3, iv p4, iv p5, iv (own_n s0), iv (own_n w0), iv (own_n q0), iv (own_n q1), iv (own_n q2), .unset, .unset, .unset, .unset, .unset] [.ref b47])
    exact S13 _ _ _ X248 N248 (by rw [e248]; exact K250) (by rw [e248]; exact Aw248) (own_bst (k := 12) I (by decide +kernel))
  clear S13
  have S11 : ∀ (T : State) (Lc : List Loc) (g : Nat → Int32), Stand p l e room_1 s m #[(.int p0), (.int p1), (.int p2), (.int p3), (.int p4), (.int p5)] below meth c T Lc 1 70 → Fr n0 Lc → Keep h0 T.heap [] → own_A Z T.heap b47 .char 70 g → (∀ j, j < 11 → g j = own_base j) → own_E p e below (own_K (own_law_Q n0) s room_1.cells room_1.slots) T (mkF m 118 #[iv p0, iv p1, iv p2, iv p3, iv p4, iv p5, iv (own_n s0), iv (own_n w0), iv (own_n q0), iv (own_n q1), iv (own_n q2), .unset, .unset, .unset, .unset, .unset] [.ref b47]) := by
    intro T Lc g X N K VB I
    have eTl : T.heap = T.heap := rfl
    refine own_st (fun t k => XS.dup X.here hx rfl (hb hby at_118) rfl rfl k) ?_
    show own_E p e below _ T (mkF m 119 #[iv p0, iv p1, iv p2, iv p3, iv p4, iv p5, iv (own_n s0), iv (own_n w0), iv (own_n q0), iv (own_n q1), iv (own_n q2), .unset, .unset, .unset, .unset, .unset] [.ref b47, .ref b47])
    refine own_st (fun t k => XS.bipush X.here hx rfl (hb hby at_119) k) ?_
    show own_E p e below _ T (mkF m 121 #[iv p0, iv p1, iv p2, iv p3, iv p4, iv p5, iv (own_n s0), iv (own_n w0), iv (own_n q0), iv (own_n q1), iv (own_n q2), .unset, .unset, .unset, .unset, .unset] [.int 11, .ref b47, .ref b47])
    refine own_st (fun t k => XS.bipush X.here hx rfl (hb hby at_121) k) ?_
    show own_E p e below _ T (mkF m 123 #[iv p0, iv p1, iv p2, iv p3, iv p4, iv p5, iv (own_n s0), iv (own_n w0), iv (own_n q0), iv (own_n q1), iv (own_n q2), .unset, .unset, .unset, .unset, .unset] [.int 90, .int 11, .ref b47, .ref b47])
    obtain ⟨T251, h251, X251, e251, W251, Aw251, st251⟩ := own_A_cst X hx hZ eTl VB (j := (11 : Int32)) (x := (90 : Int32)) (i := 11) (by decide) rfl (by decide) (g := (mkF m 123 #[iv p0, iv p1, iv p2, iv p3, iv p4, iv p5, iv (own_n s0), iv (own_n w0), iv (own_n q0), iv (own_n q1), iv (own_n q2), .unset, .unset, .unset, .unset, .unset] [.int 90, .int 11, .ref b47, .ref b47])) rfl rfl (hb hby at_123)
    have N251 := Fr.snoc X251 N g_b47
    have Z252 := Nat.le_trans (Nat.le_trans Z0 K.1) (Keep.of_wr W251).1
    have K253 : Keep h0 _ [] := K.wr W251 (Or.inr sz_b47)
    refine own_st st251 ?_
    show own_E p e below _ T251 (mkF m 124 #[iv p0, iv p1, iv p2, iv p3, iv p4, iv p5, iv (own_n s0), iv (own_n w0), iv (own_n q0), iv (own_n q1), iv (own_n q2), .unset, .unset, .unset, .unset, .unset] [.ref b47])
    exact S12 _ _ _ X251 N251 (by rw [e251]; exact K253) (by rw [e251]; exact Aw251) (own_bst (k := 11) I (by decide +kernel))
  clear S12
  have S10 : ∀ (T : State) (Lc : List Loc) (g : Nat → Int32), Stand p l e room_1 s m #[(.int p0), (.int p1), (.int p2), (.int p3), (.int p4), (.int p5)] below meth c T Lc 1 70 → Fr n0 Lc → Keep h0 T.heap [] → own_A Z T.heap b47 .char 70 g → (∀ j, j < 10 → g j = own_base j) → own_E p e below (own_K (own_law_Q n0) s room_1.cells room_1.slots) T (mkF m 112 #[iv p0, iv p1, iv p2, iv p3, iv p4, iv p5, iv (own_n s0), iv (own_n w0), iv (own_n q0), iv (own_n q1), iv (own_n q2), .unset, .unset, .unset, .unset, .unset] [.ref b47]) := by
    intro T Lc g X N K VB I
    have eTl : T.heap = T.heap := rfl
    refine own_st (fun t k => XS.dup X.here hx rfl (hb hby at_112) rfl rfl k) ?_
    show own_E p e below _ T (mkF m 113 #[iv p0, iv p1, iv p2, iv p3, iv p4, iv p5, iv (own_n s0), iv (own_n w0), iv (own_n q0), iv (own_n q1), iv (own_n q2), .unset, .unset, .unset, .unset, .unset] [.ref b47, .ref b47])
    refine own_st (fun t k => XS.bipush X.here hx rfl (hb hby at_113) k) ?_
    show own_E p e below _ T (mkF m 115 #[iv p0, iv p1, iv p2, iv p3, iv p4, iv p5, iv (own_n s0), iv (own_n w0), iv (own_n q0), iv (own_n q1), iv (own_n q2), .unset, .unset, .unset, .unset, .unset] [.int 10, .ref b47, .ref b47])
    refine own_st (fun t k => XS.bipush X.here hx rfl (hb hby at_115) k) ?_
    show own_E p e below _ T (mkF m 117 #[iv p0, iv p1, iv p2, iv p3, iv p4, iv p5, iv (own_n s0), iv (own_n w0), iv (own_n q0), iv (own_n q1), iv (own_n q2), .unset, .unset, .unset, .unset, .unset] [.int 65, .int 10, .ref b47, .ref b47])
    obtain ⟨T254, h254, X254, e254, W254, Aw254, st254⟩ := own_A_cst X hx hZ eTl VB (j := (10 : Int32)) (x := (65 : Int32)) (i := 10) (by decide) rfl (by decide) (g := (mkF m 117 #[iv p0, iv p1, iv p2, iv p3, iv p4, iv p5, iv (own_n s0), iv (own_n w0), iv (own_n q0), iv (own_n q1), iv (own_n q2), .unset, .unset, .unset, .unset, .unset] [.int 65, .int 10, .ref b47, .ref b47])) rfl rfl (hb hby at_117)
    have N254 := Fr.snoc X254 N g_b47
    have Z255 := Nat.le_trans (Nat.le_trans Z0 K.1) (Keep.of_wr W254).1
    have K256 : Keep h0 _ [] := K.wr W254 (Or.inr sz_b47)
    refine own_st st254 ?_
    show own_E p e below _ T254 (mkF m 118 #[iv p0, iv p1, iv p2, iv p3, iv p4, iv p5, iv (own_n s0), iv (own_n w0), iv (own_n q0), iv (own_n q1), iv (own_n q2), .unset, .unset, .unset, .unset, .unset] [.ref b47])
    exact S11 _ _ _ X254 N254 (by rw [e254]; exact K256) (by rw [e254]; exact Aw254) (own_bst (k := 10) I (by decide +kernel))
  clear S11
  have S9 : ∀ (T : State) (Lc : List Loc) (g : Nat → Int32), Stand p l e room_1 s m #[(.int p0), (.int p1), (.int p2), (.int p3), (.int p4), (.int p5)] below meth c T Lc 1 70 → Fr n0 Lc → Keep h0 T.heap [] → own_A Z T.heap b47 .char 70 g → (∀ j, j < 9 → g j = own_base j) → own_E p e below (own_K (own_law_Q n0) s room_1.cells room_1.slots) T (mkF m 106 #[iv p0, iv p1, iv p2, iv p3, iv p4, iv p5, iv (own_n s0), iv (own_n w0), iv (own_n q0), iv (own_n q1), iv (own_n q2), .unset, .unset, .unset, .unset, .unset] [.ref b47]) := by
    intro T Lc g X N K VB I
    have eTl : T.heap = T.heap := rfl
    refine own_st (fun t k => XS.dup X.here hx rfl (hb hby at_106) rfl rfl k) ?_
    show own_E p e below _ T (mkF m 107 #[iv p0, iv p1, iv p2, iv p3, iv p4, iv p5, iv (own_n s0), iv (own_n w0), iv (own_n q0), iv (own_n q1), iv (own_n q2), .unset, .unset, .unset, .unset, .unset] [.ref b47, .ref b47])
    refine own_st (fun t k => XS.bipush X.here hx rfl (hb hby at_107) k) ?_
    show own_E p e below _ T (mkF m 109 #[iv p0, iv p1, iv p2, iv p3, iv p4, iv p5, iv (own_n s0), iv (own_n w0), iv (own_n q0), iv (own_n q1), iv (own_n q2), .unset, .unset, .unset, .unset, .unset] [.int 9, .ref b47, .ref b47])
    refine own_st (fun t k => XS.bipush X.here hx rfl (hb hby at_109) k) ?_
    show own_E p e below _ T (mkF m 111 #[iv p0, iv p1, iv p2, iv p3, iv p4, iv p5, iv (own_n s0), iv (own_n w0), iv (own_n q0), iv (own_n q1), iv (own_n q2), .unset, .unset, .unset, .unset, .unset] [.int 53, .int 9, .ref b47, .ref b47])
    obtain ⟨T257, h257, X257, e257, W257, Aw257, st257⟩ := own_A_cst X hx hZ eTl VB (j := (9 : Int32)) (x := (53 : Int32)) (i := 9) (by decide) rfl (by decide) (g := (mkF m 111 #[iv p0, iv p1, iv p2, iv p3, iv p4, iv p5, iv (own_n s0), iv (own_n w0), iv (own_n q0), iv (own_n q1), iv (own_n q2), .unset, .unset, .unset, .unset, .unset] [.int 53, .int 9, .ref b47, .ref b47])) rfl rfl (hb hby at_111)
    have N257 := Fr.snoc X257 N g_b47
    have Z258 := Nat.le_trans (Nat.le_trans Z0 K.1) (Keep.of_wr W257).1
    have K259 : Keep h0 _ [] := K.wr W257 (Or.inr sz_b47)
    refine own_st st257 ?_
    show own_E p e below _ T257 (mkF m 112 #[iv p0, iv p1, iv p2, iv p3, iv p4, iv p5, iv (own_n s0), iv (own_n w0), iv (own_n q0), iv (own_n q1), iv (own_n q2), .unset, .unset, .unset, .unset, .unset] [.ref b47])
    exact S10 _ _ _ X257 N257 (by rw [e257]; exact K259) (by rw [e257]; exact Aw257) (own_bst (k := 9) I (by decide +kernel))
  clear S10
  have S8 : ∀ (T : State) (Lc : List Loc) (g : Nat → Int32), Stand p l e room_1 s m #[(.int p0), (.int p1), (.int p2), (.int p3), (.int p4), (.int p5)] below meth c T Lc 1 70 → Fr n0 Lc → Keep h0 T.heap [] → own_A Z T.heap b47 .char 70 g → (∀ j, j < 8 → g j = own_base j) → own_E p e below (own_K (own_law_Q n0) s room_1.cells room_1.slots) T (mkF m 100 #[iv p0, iv p1, iv p2, iv p3, iv p4, iv p5, iv (own_n s0), iv (own_n w0), iv (own_n q0), iv (own_n q1), iv (own_n q2), .unset, .unset, .unset, .unset, .unset] [.ref b47]) := by
    intro T Lc g X N K VB I
    have eTl : T.heap = T.heap := rfl
    refine own_st (fun t k => XS.dup X.here hx rfl (hb hby at_100) rfl rfl k) ?_
    show own_E p e below _ T (mkF m 101 #[iv p0, iv p1, iv p2, iv p3, iv p4, iv p5, iv (own_n s0), iv (own_n w0), iv (own_n q0), iv (own_n q1), iv (own_n q2), .unset, .unset, .unset, .unset, .unset] [.ref b47, .ref b47])
    refine own_st (fun t k => XS.bipush X.here hx rfl (hb hby at_101) k) ?_
    show own_E p e below _ T (mkF m 103 #[iv p0, iv p1, iv p2, iv p3, iv p4, iv p5, iv (own_n s0), iv (own_n w0), iv (own_n q0), iv (own_n q1), iv (own_n q2), .unset, .unset, .unset, .unset, .unset] [.int 8, .ref b47, .ref b47])
    refine own_st (fun t k => XS.bipush X.here hx rfl (hb hby at_103) k) ?_
    show own_E p e below _ T (mkF m 105 #[iv p0, iv p1, iv p2, iv p3, iv p4, iv p5, iv (own_n s0), iv (own_n w0), iv (own_n q0), iv (own_n q1), iv (own_n q2), .unset, .unset, .unset, .unset, .unset] [.int 109, .int 8, .ref b47, .ref b47])
    obtain ⟨T260, h260, X260, e260, W260, Aw260, st260⟩ := own_A_cst X hx hZ eTl VB (j := (8 : Int32)) (x := (109 : Int32)) (i := 8) (by decide) rfl (by decide) (g := (mkF m 105 #[iv p0, iv p1, iv p2, iv p3, iv p4, iv p5, iv (own_n s0), iv (own_n w0), iv (own_n q0), iv (own_n q1), iv (own_n q2), .unset, .unset, .unset, .unset, .unset] [.int 109, .int 8, .ref b47, .ref b47])) rfl rfl (hb hby at_105)
    have N260 := Fr.snoc X260 N g_b47
    have Z261 := Nat.le_trans (Nat.le_trans Z0 K.1) (Keep.of_wr W260).1
    have K262 : Keep h0 _ [] := K.wr W260 (Or.inr sz_b47)
    refine own_st st260 ?_
    show own_E p e below _ T260 (mkF m 106 #[iv p0, iv p1, iv p2, iv p3, iv p4, iv p5, iv (own_n s0), iv (own_n w0), iv (own_n q0), iv (own_n q1), iv (own_n q2), .unset, .unset, .unset, .unset, .unset] [.ref b47])
    exact S9 _ _ _ X260 N260 (by rw [e260]; exact K262) (by rw [e260]; exact Aw260) (own_bst (k := 8) I (by decide +kernel))
  clear S9
  have S7 : ∀ (T : State) (Lc : List Loc) (g : Nat → Int32), Stand p l e room_1 s m #[(.int p0), (.int p1), (.int p2), (.int p3), (.int p4), (.int p5)] below meth c T Lc 1 70 → Fr n0 Lc → Keep h0 T.heap [] → own_A Z T.heap b47 .char 70 g → (∀ j, j < 7 → g j = own_base j) → own_E p e below (own_K (own_law_Q n0) s room_1.cells room_1.slots) T (mkF m 94 #[iv p0, iv p1, iv p2, iv p3, iv p4, iv p5, iv (own_n s0), iv (own_n w0), iv (own_n q0), iv (own_n q1), iv (own_n q2), .unset, .unset, .unset, .unset, .unset] [.ref b47]) := by
    intro T Lc g X N K VB I
    have eTl : T.heap = T.heap := rfl
    refine own_st (fun t k => XS.dup X.here hx rfl (hb hby at_94) rfl rfl k) ?_
    show own_E p e below _ T (mkF m 95 #[iv p0, iv p1, iv p2, iv p3, iv p4, iv p5, iv (own_n s0), iv (own_n w0), iv (own_n q0), iv (own_n q1), iv (own_n q2), .unset, .unset, .unset, .unset, .unset] [.ref b47, .ref b47])
    refine own_st (fun t k => XS.bipush X.here hx rfl (hb hby at_95) k) ?_
    show own_E p e below _ T (mkF m 97 #[iv p0, iv p1, iv p2, iv p3, iv p4, iv p5, iv (own_n s0), iv (own_n w0), iv (own_n q0), iv (own_n q1), iv (own_n q2), .unset, .unset, .unset, .unset, .unset] [.int 7, .ref b47, .ref b47])
    refine own_st (fun t k => XS.bipush X.here hx rfl (hb hby at_97) k) ?_
    show own_E p e below _ T (mkF m 99 #[iv p0, iv p1, iv p2, iv p3, iv p4, iv p5, iv (own_n s0), iv (own_n w0), iv (own_n q0), iv (own_n q1), iv (own_n q2), .unset, .unset, .unset, .unset, .unset] [.int 46, .int 7, .ref b47, .ref b47])
    obtain ⟨T263, h263, X263, e263, W263, Aw263, st263⟩ := own_A_cst X hx hZ eTl VB (j := (7 : Int32)) (x := (46 : Int32)) (i := 7) (by decide) rfl (by decide) (g := (mkF m 99 #[iv p0, iv p1, iv p2, iv p3, iv p4, iv p5, iv (own_n s0), iv (own_n w0), iv (own_n q0), iv (own_n q1), iv (own_n q2), .unset, .unset, .unset, .unset, .unset] [.int 46, .int 7, .ref b47, .ref b47])) rfl rfl (hb hby at_99)
    have N263 := Fr.snoc X263 N g_b47
    have Z264 := Nat.le_trans (Nat.le_trans Z0 K.1) (Keep.of_wr W263).1
    have K265 : Keep h0 _ [] := K.wr W263 (Or.inr sz_b47)
    refine own_st st263 ?_
    show own_E p e below _ T263 (mkF m 100 #[iv p0, iv p1, iv p2, iv p3, iv p4, iv p5, iv (own_n s0), iv (own_n w0), iv (own_n q0), iv (own_n q1), iv (own_n q2), .unset, .unset, .unset, .unset, .unset] [.ref b47])
    exact S8 _ _ _ X263 N263 (by rw [e263]; exact K265) (by rw [e263]; exact Aw263) (own_bst (k := 7) I (by decide +kernel))
  clear S8
  have S6 : ∀ (T : State) (Lc : List Loc) (g : Nat → Int32), Stand p l e room_1 s m #[(.int p0), (.int p1), (.int p2), (.int p3), (.int p4), (.int p5)] below meth c T Lc 1 70 → Fr n0 Lc → Keep h0 T.heap [] → own_A Z T.heap b47 .char 70 g → (∀ j, j < 6 → g j = own_base j) → own_E p e below (own_K (own_law_Q n0) s room_1.cells room_1.slots) T (mkF m 88 #[iv p0, iv p1, iv p2, iv p3, iv p4, iv p5, iv (own_n s0), iv (own_n w0), iv (own_n q0), iv (own_n q1), iv (own_n q2), .unset, .unset, .unset, .unset, .unset] [.ref b47]) := by
    intro T Lc g X N K VB I
    have eTl : T.heap = T.heap := rfl
    refine own_st (fun t k => XS.dup X.here hx rfl (hb hby at_88) rfl rfl k) ?_
    show own_E p e below _ T (mkF m 89 #[iv p0, iv p1, iv p2, iv p3, iv p4, iv p5, iv (own_n s0), iv (own_n w0), iv (own_n q0), iv (own_n q1), iv (own_n q2), .unset, .unset, .unset, .unset, .unset] [.ref b47, .ref b47])
    refine own_st (fun t k => XS.bipush X.here hx rfl (hb hby at_89) k) ?_
    show own_E p e below _ T (mkF m 91 #[iv p0, iv p1, iv p2, iv p3, iv p4, iv p5, iv (own_n s0), iv (own_n w0), iv (own_n q0), iv (own_n q1), iv (own_n q2), .unset, .unset, .unset, .unset, .unset] [.int 6, .ref b47, .ref b47])
    refine own_st (fun t k => XS.bipush X.here hx rfl (hb hby at_91) k) ?_
    show own_E p e below _ T (mkF m 93 #[iv p0, iv p1, iv p2, iv p3, iv p4, iv p5, iv (own_n s0), iv (own_n w0), iv (own_n q0), iv (own_n q1), iv (own_n q2), .unset, .unset, .unset, .unset, .unset] [.int 45, .int 6, .ref b47, .ref b47])
    obtain ⟨T266, h266, X266, e266, W266, Aw266, st266⟩ := own_A_cst X hx hZ eTl VB (j := (6 : Int32)) (x := (45 : Int32)) (i := 6) (by decide) rfl (by decide) (g := (mkF m 93 #[iv p0, iv p1, iv p2, iv p3, iv p4, iv p5, iv (own_n s0), iv (own_n w0), iv (own_n q0), iv (own_n q1), iv (own_n q2), .unset, .unset, .unset, .unset, .unset] [.int 45, .int 6, .ref b47, .ref b47])) rfl rfl (hb hby at_93)
    have N266 := Fr.snoc X266 N g_b47
    have Z267 := Nat.le_trans (Nat.le_trans Z0 K.1) (Keep.of_wr W266).1
    have K268 : Keep h0 _ [] := K.wr W266 (Or.inr sz_b47)
    refine own_st st266 ?_
    show own_E p e below _ T266 (mkF m 94 #[iv p0, iv p1, iv p2, iv p3, iv p4, iv p5, iv (own_n s0), iv (own_n w0), iv (own_n q0), iv (own_n q1), iv (own_n q2), .unset, .unset, .unset, .unset, .unset] [.ref b47])
    exact S7 _ _ _ X266 N266 (by rw [e266]; exact K268) (by rw [e266]; exact Aw266) (own_bst (k := 6) I (by decide +kernel))
  clear S7
  have S5 : ∀ (T : State) (Lc : List Loc) (g : Nat → Int32), Stand p l e room_1 s m #[(.int p0), (.int p1), (.int p2), (.int p3), (.int p4), (.int p5)] below meth c T Lc 1 70 → Fr n0 Lc → Keep h0 T.heap [] → own_A Z T.heap b47 .char 70 g → (∀ j, j < 5 → g j = own_base j) → own_E p e below (own_K (own_law_Q n0) s room_1.cells room_1.slots) T (mkF m 83 #[iv p0, iv p1, iv p2, iv p3, iv p4, iv p5, iv (own_n s0), iv (own_n w0), iv (own_n q0), iv (own_n q1), iv (own_n q2), .unset, .unset, .unset, .unset, .unset] [.ref b47]) := by
    intro T Lc g X N K VB I
    have eTl : T.heap = T.heap := rfl
    refine own_st (fun t k => XS.dup X.here hx rfl (hb hby at_83) rfl rfl k) ?_
    show own_E p e below _ T (mkF m 84 #[iv p0, iv p1, iv p2, iv p3, iv p4, iv p5, iv (own_n s0), iv (own_n w0), iv (own_n q0), iv (own_n q1), iv (own_n q2), .unset, .unset, .unset, .unset, .unset] [.ref b47, .ref b47])
    refine own_st (fun t k => XS.iconst X.here hx rfl (hb hby at_84) k) ?_
    show own_E p e below _ T (mkF m 85 #[iv p0, iv p1, iv p2, iv p3, iv p4, iv p5, iv (own_n s0), iv (own_n w0), iv (own_n q0), iv (own_n q1), iv (own_n q2), .unset, .unset, .unset, .unset, .unset] [.int 5, .ref b47, .ref b47])
    refine own_st (fun t k => XS.bipush X.here hx rfl (hb hby at_85) k) ?_
    show own_E p e below _ T (mkF m 87 #[iv p0, iv p1, iv p2, iv p3, iv p4, iv p5, iv (own_n s0), iv (own_n w0), iv (own_n q0), iv (own_n q1), iv (own_n q2), .unset, .unset, .unset, .unset, .unset] [.int 57, .int 5, .ref b47, .ref b47])
    obtain ⟨T269, h269, X269, e269, W269, Aw269, st269⟩ := own_A_cst X hx hZ eTl VB (j := (5 : Int32)) (x := (57 : Int32)) (i := 5) (by decide) rfl (by decide) (g := (mkF m 87 #[iv p0, iv p1, iv p2, iv p3, iv p4, iv p5, iv (own_n s0), iv (own_n w0), iv (own_n q0), iv (own_n q1), iv (own_n q2), .unset, .unset, .unset, .unset, .unset] [.int 57, .int 5, .ref b47, .ref b47])) rfl rfl (hb hby at_87)
    have N269 := Fr.snoc X269 N g_b47
    have Z270 := Nat.le_trans (Nat.le_trans Z0 K.1) (Keep.of_wr W269).1
    have K271 : Keep h0 _ [] := K.wr W269 (Or.inr sz_b47)
    refine own_st st269 ?_
    show own_E p e below _ T269 (mkF m 88 #[iv p0, iv p1, iv p2, iv p3, iv p4, iv p5, iv (own_n s0), iv (own_n w0), iv (own_n q0), iv (own_n q1), iv (own_n q2), .unset, .unset, .unset, .unset, .unset] [.ref b47])
    exact S6 _ _ _ X269 N269 (by rw [e269]; exact K271) (by rw [e269]; exact Aw269) (own_bst (k := 5) I (by decide +kernel))
  clear S6
  have S4 : ∀ (T : State) (Lc : List Loc) (g : Nat → Int32), Stand p l e room_1 s m #[(.int p0), (.int p1), (.int p2), (.int p3), (.int p4), (.int p5)] below meth c T Lc 1 70 → Fr n0 Lc → Keep h0 T.heap [] → own_A Z T.heap b47 .char 70 g → (∀ j, j < 4 → g j = own_base j) → own_E p e below (own_K (own_law_Q n0) s room_1.cells room_1.slots) T (mkF m 78 #[iv p0, iv p1, iv p2, iv p3, iv p4, iv p5, iv (own_n s0), iv (own_n w0), iv (own_n q0), iv (own_n q1), iv (own_n q2), .unset, .unset, .unset, .unset, .unset] [.ref b47]) := by
    intro T Lc g X N K VB I
    have eTl : T.heap = T.heap := rfl
    refine own_st (fun t k => XS.dup X.here hx rfl (hb hby at_78) rfl rfl k) ?_
    show own_E p e below _ T (mkF m 79 #[iv p0, iv p1, iv p2, iv p3, iv p4, iv p5, iv (own_n s0), iv (own_n w0), iv (own_n q0), iv (own_n q1), iv (own_n q2), .unset, .unset, .unset, .unset, .unset] [.ref b47, .ref b47])
    refine own_st (fun t k => XS.iconst X.here hx rfl (hb hby at_79) k) ?_
    show own_E p e below _ T (mkF m 80 #[iv p0, iv p1, iv p2, iv p3, iv p4, iv p5, iv (own_n s0), iv (own_n w0), iv (own_n q0), iv (own_n q1), iv (own_n q2), .unset, .unset, .unset, .unset, .unset] [.int 4, .ref b47, .ref b47])
    refine own_st (fun t k => XS.bipush X.here hx rfl (hb hby at_80) k) ?_
    show own_E p e below _ T (mkF m 82 #[iv p0, iv p1, iv p2, iv p3, iv p4, iv p5, iv (own_n s0), iv (own_n w0), iv (own_n q0), iv (own_n q1), iv (own_n q2), .unset, .unset, .unset, .unset, .unset] [.int 48, .int 4, .ref b47, .ref b47])
    obtain ⟨T272, h272, X272, e272, W272, Aw272, st272⟩ := own_A_cst X hx hZ eTl VB (j := (4 : Int32)) (x := (48 : Int32)) (i := 4) (by decide) rfl (by decide) (g := (mkF m 82 #[iv p0, iv p1, iv p2, iv p3, iv p4, iv p5, iv (own_n s0), iv (own_n w0), iv (own_n q0), iv (own_n q1), iv (own_n q2), .unset, .unset, .unset, .unset, .unset] [.int 48, .int 4, .ref b47, .ref b47])) rfl rfl (hb hby at_82)
    have N272 := Fr.snoc X272 N g_b47
    have Z273 := Nat.le_trans (Nat.le_trans Z0 K.1) (Keep.of_wr W272).1
    have K274 : Keep h0 _ [] := K.wr W272 (Or.inr sz_b47)
    refine own_st st272 ?_
    show own_E p e below _ T272 (mkF m 83 #[iv p0, iv p1, iv p2, iv p3, iv p4, iv p5, iv (own_n s0), iv (own_n w0), iv (own_n q0), iv (own_n q1), iv (own_n q2), .unset, .unset, .unset, .unset, .unset] [.ref b47])
    exact S5 _ _ _ X272 N272 (by rw [e272]; exact K274) (by rw [e272]; exact Aw272) (own_bst (k := 4) I (by decide +kernel))
  clear S5
  have S3 : ∀ (T : State) (Lc : List Loc) (g : Nat → Int32), Stand p l e room_1 s m #[(.int p0), (.int p1), (.int p2), (.int p3), (.int p4), (.int p5)] below meth c T Lc 1 70 → Fr n0 Lc → Keep h0 T.heap [] → own_A Z T.heap b47 .char 70 g → (∀ j, j < 3 → g j = own_base j) → own_E p e below (own_K (own_law_Q n0) s room_1.cells room_1.slots) T (mkF m 73 #[iv p0, iv p1, iv p2, iv p3, iv p4, iv p5, iv (own_n s0), iv (own_n w0), iv (own_n q0), iv (own_n q1), iv (own_n q2), .unset, .unset, .unset, .unset, .unset] [.ref b47]) := by
    intro T Lc g X N K VB I
    have eTl : T.heap = T.heap := rfl
    refine own_st (fun t k => XS.dup X.here hx rfl (hb hby at_73) rfl rfl k) ?_
    show own_E p e below _ T (mkF m 74 #[iv p0, iv p1, iv p2, iv p3, iv p4, iv p5, iv (own_n s0), iv (own_n w0), iv (own_n q0), iv (own_n q1), iv (own_n q2), .unset, .unset, .unset, .unset, .unset] [.ref b47, .ref b47])
    refine own_st (fun t k => XS.iconst X.here hx rfl (hb hby at_74) k) ?_
    show own_E p e below _ T (mkF m 75 #[iv p0, iv p1, iv p2, iv p3, iv p4, iv p5, iv (own_n s0), iv (own_n w0), iv (own_n q0), iv (own_n q1), iv (own_n q2), .unset, .unset, .unset, .unset, .unset] [.int 3, .ref b47, .ref b47])
    refine own_st (fun t k => XS.bipush X.here hx rfl (hb hby at_75) k) ?_
    show own_E p e below _ T (mkF m 77 #[iv p0, iv p1, iv p2, iv p3, iv p4, iv p5, iv (own_n s0), iv (own_n w0), iv (own_n q0), iv (own_n q1), iv (own_n q2), .unset, .unset, .unset, .unset, .unset] [.int 122, .int 3, .ref b47, .ref b47])
    obtain ⟨T275, h275, X275, e275, W275, Aw275, st275⟩ := own_A_cst X hx hZ eTl VB (j := (3 : Int32)) (x := (122 : Int32)) (i := 3) (by decide) rfl (by decide) (g := (mkF m 77 #[iv p0, iv p1, iv p2, iv p3, iv p4, iv p5, iv (own_n s0), iv (own_n w0), iv (own_n q0), iv (own_n q1), iv (own_n q2), .unset, .unset, .unset, .unset, .unset] [.int 122, .int 3, .ref b47, .ref b47])) rfl rfl (hb hby at_77)
    have N275 := Fr.snoc X275 N g_b47
    have Z276 := Nat.le_trans (Nat.le_trans Z0 K.1) (Keep.of_wr W275).1
    have K277 : Keep h0 _ [] := K.wr W275 (Or.inr sz_b47)
    refine own_st st275 ?_
    show own_E p e below _ T275 (mkF m 78 #[iv p0, iv p1, iv p2, iv p3, iv p4, iv p5, iv (own_n s0), iv (own_n w0), iv (own_n q0), iv (own_n q1), iv (own_n q2), .unset, .unset, .unset, .unset, .unset] [.ref b47])
    exact S4 _ _ _ X275 N275 (by rw [e275]; exact K277) (by rw [e275]; exact Aw275) (own_bst (k := 3) I (by decide +kernel))
  clear S4
  have S2 : ∀ (T : State) (Lc : List Loc) (g : Nat → Int32), Stand p l e room_1 s m #[(.int p0), (.int p1), (.int p2), (.int p3), (.int p4), (.int p5)] below meth c T Lc 1 70 → Fr n0 Lc → Keep h0 T.heap [] → own_A Z T.heap b47 .char 70 g → (∀ j, j < 2 → g j = own_base j) → own_E p e below (own_K (own_law_Q n0) s room_1.cells room_1.slots) T (mkF m 68 #[iv p0, iv p1, iv p2, iv p3, iv p4, iv p5, iv (own_n s0), iv (own_n w0), iv (own_n q0), iv (own_n q1), iv (own_n q2), .unset, .unset, .unset, .unset, .unset] [.ref b47]) := by
    intro T Lc g X N K VB I
    have eTl : T.heap = T.heap := rfl
    refine own_st (fun t k => XS.dup X.here hx rfl (hb hby at_68) rfl rfl k) ?_
    show own_E p e below _ T (mkF m 69 #[iv p0, iv p1, iv p2, iv p3, iv p4, iv p5, iv (own_n s0), iv (own_n w0), iv (own_n q0), iv (own_n q1), iv (own_n q2), .unset, .unset, .unset, .unset, .unset] [.ref b47, .ref b47])
    refine own_st (fun t k => XS.iconst X.here hx rfl (hb hby at_69) k) ?_
    show own_E p e below _ T (mkF m 70 #[iv p0, iv p1, iv p2, iv p3, iv p4, iv p5, iv (own_n s0), iv (own_n w0), iv (own_n q0), iv (own_n q1), iv (own_n q2), .unset, .unset, .unset, .unset, .unset] [.int 2, .ref b47, .ref b47])
    refine own_st (fun t k => XS.bipush X.here hx rfl (hb hby at_70) k) ?_
    show own_E p e below _ T (mkF m 72 #[iv p0, iv p1, iv p2, iv p3, iv p4, iv p5, iv (own_n s0), iv (own_n w0), iv (own_n q0), iv (own_n q1), iv (own_n q2), .unset, .unset, .unset, .unset, .unset] [.int 97, .int 2, .ref b47, .ref b47])
    obtain ⟨T278, h278, X278, e278, W278, Aw278, st278⟩ := own_A_cst X hx hZ eTl VB (j := (2 : Int32)) (x := (97 : Int32)) (i := 2) (by decide) rfl (by decide) (g := (mkF m 72 #[iv p0, iv p1, iv p2, iv p3, iv p4, iv p5, iv (own_n s0), iv (own_n w0), iv (own_n q0), iv (own_n q1), iv (own_n q2), .unset, .unset, .unset, .unset, .unset] [.int 97, .int 2, .ref b47, .ref b47])) rfl rfl (hb hby at_72)
    have N278 := Fr.snoc X278 N g_b47
    have Z279 := Nat.le_trans (Nat.le_trans Z0 K.1) (Keep.of_wr W278).1
    have K280 : Keep h0 _ [] := K.wr W278 (Or.inr sz_b47)
    refine own_st st278 ?_
    show own_E p e below _ T278 (mkF m 73 #[iv p0, iv p1, iv p2, iv p3, iv p4, iv p5, iv (own_n s0), iv (own_n w0), iv (own_n q0), iv (own_n q1), iv (own_n q2), .unset, .unset, .unset, .unset, .unset] [.ref b47])
    exact S3 _ _ _ X278 N278 (by rw [e278]; exact K280) (by rw [e278]; exact Aw278) (own_bst (k := 2) I (by decide +kernel))
  clear S3
  have S1 : ∀ (T : State) (Lc : List Loc) (g : Nat → Int32), Stand p l e room_1 s m #[(.int p0), (.int p1), (.int p2), (.int p3), (.int p4), (.int p5)] below meth c T Lc 1 70 → Fr n0 Lc → Keep h0 T.heap [] → own_A Z T.heap b47 .char 70 g → (∀ j, j < 1 → g j = own_base j) → own_E p e below (own_K (own_law_Q n0) s room_1.cells room_1.slots) T (mkF m 63 #[iv p0, iv p1, iv p2, iv p3, iv p4, iv p5, iv (own_n s0), iv (own_n w0), iv (own_n q0), iv (own_n q1), iv (own_n q2), .unset, .unset, .unset, .unset, .unset] [.ref b47]) := by
    intro T Lc g X N K VB I
    have eTl : T.heap = T.heap := rfl
    refine own_st (fun t k => XS.dup X.here hx rfl (hb hby at_63) rfl rfl k) ?_
    show own_E p e below _ T (mkF m 64 #[iv p0, iv p1, iv p2, iv p3, iv p4, iv p5, iv (own_n s0), iv (own_n w0), iv (own_n q0), iv (own_n q1), iv (own_n q2), .unset, .unset, .unset, .unset, .unset] [.ref b47, .ref b47])
    refine own_st (fun t k => XS.iconst X.here hx rfl (hb hby at_64) k) ?_
    show own_E p e below _ T (mkF m 65 #[iv p0, iv p1, iv p2, iv p3, iv p4, iv p5, iv (own_n s0), iv (own_n w0), iv (own_n q0), iv (own_n q1), iv (own_n q2), .unset, .unset, .unset, .unset, .unset] [.int 1, .ref b47, .ref b47])
    refine own_st (fun t k => XS.bipush X.here hx rfl (hb hby at_65) k) ?_
    show own_E p e below _ T (mkF m 67 #[iv p0, iv p1, iv p2, iv p3, iv p4, iv p5, iv (own_n s0), iv (own_n w0), iv (own_n q0), iv (own_n q1), iv (own_n q2), .unset, .unset, .unset, .unset, .unset] [.int 90, .int 1, .ref b47, .ref b47])
    obtain ⟨T281, h281, X281, e281, W281, Aw281, st281⟩ := own_A_cst X hx hZ eTl VB (j := (1 : Int32)) (x := (90 : Int32)) (i := 1) (by decide) rfl (by decide) (g := (mkF m 67 #[iv p0, iv p1, iv p2, iv p3, iv p4, iv p5, iv (own_n s0), iv (own_n w0), iv (own_n q0), iv (own_n q1), iv (own_n q2), .unset, .unset, .unset, .unset, .unset] [.int 90, .int 1, .ref b47, .ref b47])) rfl rfl (hb hby at_67)
    have N281 := Fr.snoc X281 N g_b47
    have Z282 := Nat.le_trans (Nat.le_trans Z0 K.1) (Keep.of_wr W281).1
    have K283 : Keep h0 _ [] := K.wr W281 (Or.inr sz_b47)
    refine own_st st281 ?_
    show own_E p e below _ T281 (mkF m 68 #[iv p0, iv p1, iv p2, iv p3, iv p4, iv p5, iv (own_n s0), iv (own_n w0), iv (own_n q0), iv (own_n q1), iv (own_n q2), .unset, .unset, .unset, .unset, .unset] [.ref b47])
    exact S2 _ _ _ X281 N281 (by rw [e281]; exact K283) (by rw [e281]; exact Aw281) (own_bst (k := 1) I (by decide +kernel))
  clear S2
  have S0 : ∀ (T : State) (Lc : List Loc) (g : Nat → Int32), Stand p l e room_1 s m #[(.int p0), (.int p1), (.int p2), (.int p3), (.int p4), (.int p5)] below meth c T Lc 1 70 → Fr n0 Lc → Keep h0 T.heap [] → own_A Z T.heap b47 .char 70 g → (∀ j, j < 0 → g j = own_base j) → own_E p e below (own_K (own_law_Q n0) s room_1.cells room_1.slots) T (mkF m 58 #[iv p0, iv p1, iv p2, iv p3, iv p4, iv p5, iv (own_n s0), iv (own_n w0), iv (own_n q0), iv (own_n q1), iv (own_n q2), .unset, .unset, .unset, .unset, .unset] [.ref b47]) := by
    intro T Lc g X N K VB I
    have eTl : T.heap = T.heap := rfl
    refine own_st (fun t k => XS.dup X.here hx rfl (hb hby at_58) rfl rfl k) ?_
    show own_E p e below _ T (mkF m 59 #[iv p0, iv p1, iv p2, iv p3, iv p4, iv p5, iv (own_n s0), iv (own_n w0), iv (own_n q0), iv (own_n q1), iv (own_n q2), .unset, .unset, .unset, .unset, .unset] [.ref b47, .ref b47])
    refine own_st (fun t k => XS.iconst X.here hx rfl (hb hby at_59) k) ?_
    show own_E p e below _ T (mkF m 60 #[iv p0, iv p1, iv p2, iv p3, iv p4, iv p5, iv (own_n s0), iv (own_n w0), iv (own_n q0), iv (own_n q1), iv (own_n q2), .unset, .unset, .unset, .unset, .unset] [.int 0, .ref b47, .ref b47])
    refine own_st (fun t k => XS.bipush X.here hx rfl (hb hby at_60) k) ?_
    show own_E p e below _ T (mkF m 62 #[iv p0, iv p1, iv p2, iv p3, iv p4, iv p5, iv (own_n s0), iv (own_n w0), iv (own_n q0), iv (own_n q1), iv (own_n q2), .unset, .unset, .unset, .unset, .unset] [.int 65, .int 0, .ref b47, .ref b47])
    obtain ⟨T284, h284, X284, e284, W284, Aw284, st284⟩ := own_A_cst X hx hZ eTl VB (j := (0 : Int32)) (x := (65 : Int32)) (i := 0) (by decide) rfl (by decide) (g := (mkF m 62 #[iv p0, iv p1, iv p2, iv p3, iv p4, iv p5, iv (own_n s0), iv (own_n w0), iv (own_n q0), iv (own_n q1), iv (own_n q2), .unset, .unset, .unset, .unset, .unset] [.int 65, .int 0, .ref b47, .ref b47])) rfl rfl (hb hby at_62)
    have N284 := Fr.snoc X284 N g_b47
    have Z285 := Nat.le_trans (Nat.le_trans Z0 K.1) (Keep.of_wr W284).1
    have K286 : Keep h0 _ [] := K.wr W284 (Or.inr sz_b47)
    refine own_st st284 ?_
    show own_E p e below _ T284 (mkF m 63 #[iv p0, iv p1, iv p2, iv p3, iv p4, iv p5, iv (own_n s0), iv (own_n w0), iv (own_n q0), iv (own_n q1), iv (own_n q2), .unset, .unset, .unset, .unset, .unset] [.ref b47])
    exact S1 _ _ _ X284 N284 (by rw [e284]; exact K286) (by rw [e284]; exact Aw284) (own_bst (k := 0) I (by decide +kernel))
  clear S1
  exact S0 _ _ _ X47 (Fr.nil n0) (by rw [e47]; exact K49) (by rw [e47]; exact Va47) (fun j hj => absurd hj (Nat.not_lt_zero j))
theorem own_eqI {args : Array Value} {first s : State} {o : Option Outcome} {idx : List Nat} {t : Term} {k : Int32} (h : (Cond.eq t (.int k)).value args first o s idx = some true) : t.eval args first o idx s = some (.int k) := by
  simp only [Cond.value, Term.eval] at h
  cases ht : t.eval args first o idx s with
  | none => simp [ht] at h
  | some x => cases x <;> simp [ht] at h ⊢; exact h
set_option maxRecDepth 65536 in
set_option maxHeartbeats 40000000 in
theorem comes_1 {Post : Tables → Env → Array Value → State → Outcome → State → Prop} (hpost : ∀ tb e args s v u, (limb_1_1.after args s (.returned v) u = true ∧ limb_1_2.after args s (.returned v) u = true ∧ True) → FrameEnd s (.returned v) u (Jvm.fieldLocs frame_1_writes args s ++ Jvm.arrayLocs frame_1_arrays args s ++ Jvm.staticLocs frame_1_statics s) 16 640 → Post tb e args s (.returned v) u) :
    ArmFor flags0 classFile x code maxLocals ret World_1 tables_1 room_1 Calls_1 rest_1 Pre_1 Post := by
  intro l hfl _ _ p e ha hc hk s m args below hf hA hF happ hP
  obtain ⟨hcalls, hrest, hpre⟩ := hP
  obtain ⟨-, -, -, hnamed, -, -, -, hat⟩ := (Spec.applies_iff hf).mp happ
  obtain ⟨hg, hn⟩ := and_e (Cond.before_iff.mp (show (Jvm.Cond.and given_1 narrow_1).before args s = true from hpre))
  obtain ⟨hg0, hg1⟩ := and_e hg
  obtain ⟨hv0, hg2⟩ := and_e hg1
  obtain ⟨hv1, hg3⟩ := and_e hg2
  obtain ⟨hv2, hg4⟩ := and_e hg3
  obtain ⟨hv3, hg5⟩ := and_e hg4
  obtain ⟨hv4, hg6⟩ := and_e hg5
  have hv5 := hg6
  obtain ⟨w0, w1, w2, w3, w4, w5, rfl⟩ : ∃ w0 w1 w2 w3 w4 w5 : Value, args = #[w0, w1, w2, w3, w4, w5] := by
    have hs : args.size = 6 := by simpa [Cond.value, given_1] using hg0
    obtain ⟨L⟩ := args
    match L, hs with
    | [w0, w1, w2, w3, w4, w5], _ => exact ⟨w0, w1, w2, w3, w4, w5, rfl⟩
  have hw := fun d (hd : d ∈ tables_1) => atoms_spec (ws := Jvm.Cond.code x code maxLocals ret :: tables_1) hat d (List.mem_cons_of_mem _ hd)
  have hfit : Fit s := fun {y c} hc i hi => by
    obtain ⟨ha, rfl⟩ := Array.getElem?_eq_some_iff.mp hc
    have q := List.all_eq_true.mp ((Array.all_eq_true_iff_forall_mem.mp hF) _ (Array.getElem_mem ha)) i (List.mem_range.mpr hi)
    simpa [Array.getElem?_eq_getElem hi] using q
  obtain ⟨i0, ev0⟩ := is_v hv0
  obtain rfl : w0 = (.int i0) := Option.some.inj ev0
  obtain ⟨i1, ev1⟩ := is_v hv1
  obtain rfl : w1 = (.int i1) := Option.some.inj ev1
  obtain ⟨i2, ev2⟩ := is_v hv2
  obtain rfl : w2 = (.int i2) := Option.some.inj ev2
  obtain ⟨i3, ev3⟩ := is_v hv3
  obtain rfl : w3 = (.int i3) := Option.some.inj ev3
  obtain ⟨i4, ev4⟩ := is_v hv4
  obtain rfl : w4 = (.int i4) := Option.some.inj ev4
  obtain ⟨i5, ev5⟩ := is_v hv5
  obtain rfl : w5 = (.int i5) := Option.some.inj ev5
  have hsets := (atoms_of jdkStatics_1 (own := restOwn_1) (by rw [← rest_1_c_eq]; exact hrest)).1
  obtain ⟨zc, evc⟩ := is_v (Cond.before_iff.mp (hsets _ (List.mem_of_getElem? (i := 1) rfl)))
  have SC := Sta.start evc (Or.inl (hsets _ (List.mem_of_getElem? (i := 0) rfl)))
  have hzc : ¬ zc = 0 := fun h => by
    subst h
    have q := not_v (Cond.before_iff.mp (hsets _ (List.mem_of_getElem? (i := 2) rfl)))
    rw [eq_i evc (Term.int_eval 0) rfl] at q
    cases q
  obtain ⟨rs, evr, hr⟩ := isR_v (Cond.before_iff.mp (hsets _ (List.mem_of_getElem? (i := 8) rfl)))
  have SR := Sta.start evr (Or.inl (hsets _ (List.mem_of_getElem? (i := 7) rfl)))
  have hrs : rs = .null ∨ ∃ x, rs = .ref x := by cases rs <;> simp [Value.isRef] at hr ⊢
  have SA := Sta.start (own_eqI (Cond.before_iff.mp (hsets _ (List.mem_of_getElem? (i := 12) rfl)))) (Or.inl (hsets _ (List.mem_of_getElem? (i := 11) rfl)))
  have SH := Sta.start (own_eqI (Cond.before_iff.mp (hsets _ (List.mem_of_getElem? (i := 15) rfl)))) (Or.inl (hsets _ (List.mem_of_getElem? (i := 14) rfl)))
  have SL := Sta.start (own_eqI (Cond.before_iff.mp (hsets _ (List.mem_of_getElem? (i := 18) rfl)))) (Or.inl (hsets _ (List.mem_of_getElem? (i := 17) rfl)))
  have SX : own_St s s.heap zc rs := ⟨SC, SA, SH, SL, SR⟩
  obtain ⟨n, o, h1, h2, h3, _, L, rfl, ⟨rfl, N⟩, hq⟩ := own_law l s _ hw tables_1 i0 i1 i2 i3 i4 i5 zc rs s.heap s.heap.size (Nat.le_refl _) hzc SX hrs p e ha hc hk s m _ below hf ((Spec.applies_iff_loose hf).mp happ).1 ⟨rfl, State.Warmed39.refl s, rfl⟩ trivial
  refine ⟨n, _, h1, h2, h3, hpost _ _ _ _ _ _ ⟨Cond.after_iff.mpr rfl, Cond.after_iff.mpr (eq_i res_at (Term.int_eval (1)) rfl), trivial⟩ ⟨hq.1, hq.2.1, (hq.2.2.sift fun y hy => Or.inr (N y hy)).mono (by decide) (by decide)⟩⟩
theorem main_1_1 : Claimed_1_1 := comes_1 fun _ _ _ _ _ _ h hF => ⟨h.1, hF⟩
theorem main_1_2 : Claimed_1_2 := comes_1 fun _ _ _ _ _ _ h hF => ⟨h.2.1, hF⟩
end Jvm.Pilot.@@N@@
namespace Jvm.Pilot.@@N@@
open Jvm Jvm.ClassFile Sem Op Lib Jvm.Free Jvm.Stand Jvm.Pilot.@@N@@.Jvm.D
/-! MADE BY PROGRAM (witnessworld.py) out of the Statement's table words and the real class files: 20 classes; the members and pool entries that the words name. The judged class is class 1, her method 1. -/
namespace start1
open Jvm.ClassFile
def u (s : String) : CpInfo := .utf8 (stringToUtf16 s)
/-- a pool by its gaps: so many unusable entries, then the entry; so many at the end -/
def gap : Nat → List CpInfo → List CpInfo
  | 0, r => r
  | n + 1, r => .unusable :: gap n r
def poolList (es : List (Nat × CpInfo)) (last : Nat) : List CpInfo := es.foldr (fun e r => gap e.1 (e.2 :: r)) (gap last [])
def pool (es : List (Nat × CpInfo)) (last : Nat) : Array CpInfo := ⟨poolList es last⟩
def fileOf (pool : Array CpInfo) (this : Nat) (attrs : Array Attribute := #[]) (ms : Array MethodInfo := #[]) (fl : Nat := 33) (sup : Nat := 0) (ifs : Array Nat := #[]) (fds : Array FieldInfo := #[]) : ClassFile where
  minorVersion := 0
  majorVersion := 65
  constantPool := pool
  accessFlags := fl
  thisClass := this
  superClass := sup
  interfaces := ifs
  fields := fds
  methods := ms
  attributes := attrs
def plain (name : String) (sup : Option ClassId) : Class where
  name := name
  kind := .ordinary
  loader := none
  accessFlags := 33
  super := sup
  interfaces := #[]
  cf := none
  fields := #[]
  methods := #[]
  instanceTypes := #[]
  staticTypes := #[]
  resolved := #[]
  callSites := []
  init := .initialized
  statics := none
  mirror := none

def pool0 : Array CpInfo := pool [(5, u "<init>"), (0, u "()V"), (1, .class_ 10), (1, u "java/lang/Object")] 113

def k0c0 : Code := { maxStack := 0, maxLocals := 1, code := object_method_1_code, exceptionTable := #[], attributes := #[] }
def k0m0 : Method := { name := "<init>", desc := "()V", sig := { parameters := [], returnType := none }, accessFlags := 1, code := some k0c0 }
/-- java/lang/Object -/
def k0 : Class := { plain "java/lang/Object" none with
  accessFlags := 33
  interfaces := #[]
  cf := some (fileOf pool0 8 #[] #[{ accessFlags := 1, nameIndex := 5, descriptorIndex := 6, attributes := #[] }] 33 0 #[] #[])
  fields := #[]
  methods := #[k0m0]
  instanceTypes := #[]
  staticTypes := #[]
  resolved := Array.replicate 124 none
  statics := none }

def pool1 : Array CpInfo := pool [(2, .class_ 4), (1, u "java/lang/Object"), (0, u "<init>"), (0, u "()V"), (0, .integer 2147483647), (0, .integer 65535), (0, .class_ 10), (0, u "java/lang/String"), (0, .methodref 9 12), (0, .nameAndType 5 13), (0, u "([C)V"), (0, .methodref 15 16), (0, .class_ 17), (0, .nameAndType 18 19), (0, u "com/example/brazier/brazier/fhir/ResourceId"), (0, u "isValid"), (0, u "(Ljava/lang/String;II)Z"), (0, .methodref 21 22), (0, .class_ 23), (0, .nameAndType 24 25), (0, u "com/example/brazier/brazier/fhir/ResourceIdIsValidPinLaw"), (0, u "ok"), (0, u "([CIII)Z"), (0, .methodref 21 27), (0, .nameAndType 28 29), (0, u "idChar"), (0, u "(C)Z"), (2, u "law"), (0, u "(IIIIII)Z")] 5

def k1m0 : Method := { name := "<init>", desc := "()V", sig := { parameters := [], returnType := none }, accessFlags := 2, code := none }
def k1c1 : Code := { maxStack := 4, maxLocals := 16, code := code, exceptionTable := #[], attributes := #[] }
def k1m1 : Method := { name := "law", desc := "(IIIIII)Z", sig := { parameters := [.int, .int, .int, .int, .int, .int], returnType := some .boolean }, accessFlags := 9, code := some k1c1 }
def k1c2 : Code := { maxStack := 2, maxLocals := 4, code := method_3_code, exceptionTable := #[], attributes := #[] }
def k1m2 : Method := { name := "ok", desc := "([CIII)Z", sig := { parameters := [(.array .char), .int, .int, .int], returnType := some .boolean }, accessFlags := 10, code := some k1c2 }
def k1c3 : Code := { maxStack := 2, maxLocals := 1, code := method_4_code, exceptionTable := #[], attributes := #[] }
def k1m3 : Method := { name := "idChar", desc := "(C)Z", sig := { parameters := [.char], returnType := some .boolean }, accessFlags := 10, code := some k1c3 }
/-- com/example/brazier/brazier/fhir/ResourceIdIsValidPinLaw -/
def k1 : Class := { plain "com/example/brazier/brazier/fhir/ResourceIdIsValidPinLaw" (some 0) with
  accessFlags := 49
  interfaces := #[]
  cf := some (fileOf pool1 21 #[] #[{ accessFlags := 2, nameIndex := 5, descriptorIndex := 6, attributes := #[] }, { accessFlags := 9, nameIndex := 32, descriptorIndex := 33, attributes := #[] }, { accessFlags := 10, nameIndex := 24, descriptorIndex := 25, attributes := #[] }, { accessFlags := 10, nameIndex := 28, descriptorIndex := 29, attributes := #[] }] 49 2 #[] #[])
  fields := #[]
  methods := #[k1m0, k1m1, k1m2, k1m3]
  instanceTypes := #[]
  staticTypes := #[]
  resolved := Array.replicate 39 none
  statics := none }

def pool2 : Array CpInfo := pool [(1, .class_ 2), (0, u "java/io/Serializable"), (0, .class_ 4), (0, u "java/lang/Object")] 2

/-- java/io/Serializable -/
def k2 : Class := { plain "java/io/Serializable" (some 0) with
  accessFlags := 1537
  interfaces := #[]
  cf := some (fileOf pool2 1 #[] #[] 1537 3 #[] #[])
  fields := #[]
  methods := #[]
  instanceTypes := #[]
  staticTypes := #[]
  resolved := Array.replicate 7 none
  statics := none }

def pool3 : Array CpInfo := pool [(1, .class_ 2), (0, u "java/lang/Comparable"), (0, .class_ 4), (0, u "java/lang/Object")] 7

/-- java/lang/Comparable -/
def k3 : Class := { plain "java/lang/Comparable" (some 0) with
  accessFlags := 1537
  interfaces := #[]
  cf := some (fileOf pool3 1 #[] #[] 1537 3 #[] #[])
  fields := #[]
  methods := #[]
  instanceTypes := #[]
  staticTypes := #[]
  resolved := Array.replicate 12 none
  statics := none }

def pool4 : Array CpInfo := pool [(2, .class_ 4), (1, u "java/lang/CharSequence"), (42, .class_ 48), (0, u "java/lang/CharSequence$1CodePointIterator"), (10, .class_ 60), (0, u "java/lang/CharSequence$1CharIterator"), (5, .class_ 67), (0, u "java/lang/Object")] 63

/-- java/lang/CharSequence -/
def k4 : Class := { plain "java/lang/CharSequence" (some 0) with
  accessFlags := 1537
  interfaces := #[]
  cf := some (fileOf pool4 2 #[.nestMembers #[47, 59]] #[] 1537 66 #[] #[])
  fields := #[]
  methods := #[]
  instanceTypes := #[]
  staticTypes := #[]
  resolved := Array.replicate 131 none
  statics := none }

def pool5 : Array CpInfo := pool [(1, .class_ 2), (0, u "java/lang/constant/Constable"), (0, .class_ 4), (0, u "java/lang/Object")] 6

/-- java/lang/constant/Constable -/
def k5 : Class := { plain "java/lang/constant/Constable" (some 0) with
  accessFlags := 1537
  interfaces := #[]
  cf := some (fileOf pool5 1 #[] #[] 1537 3 #[] #[])
  fields := #[]
  methods := #[]
  instanceTypes := #[]
  staticTypes := #[]
  resolved := Array.replicate 11 none
  statics := none }

def pool6 : Array CpInfo := pool [(1, .class_ 2), (0, u "java/lang/constant/ConstantDesc"), (0, .class_ 4), (0, u "java/lang/Object")] 32

/-- java/lang/constant/ConstantDesc -/
def k6 : Class := { plain "java/lang/constant/ConstantDesc" (some 0) with
  accessFlags := 1537
  interfaces := #[]
  cf := some (fileOf pool6 1 #[] #[] 1537 3 #[] #[])
  fields := #[]
  methods := #[]
  instanceTypes := #[]
  staticTypes := #[]
  resolved := Array.replicate 37 none
  statics := none }

def pool7 : Array CpInfo := pool [(1, .methodref 2 3), (0, .class_ 4), (0, .nameAndType 5 6), (0, u "java/lang/Object"), (0, u "<init>"), (0, u "()V"), (2, .fieldref 10 11), (0, .class_ 12), (0, .nameAndType 13 14), (0, u "java/lang/String"), (0, u "value"), (0, u "[B"), (0, .fieldref 10 16), (0, .nameAndType 17 18), (0, u "coder"), (0, u "B"), (2, u "hash"), (0, u "I"), (2, u "hashIsZero"), (0, u "Z"), (0, .methodref 10 28), (0, .nameAndType 5 29), (0, u "([CIILjava/lang/Void;)V"), (8, .fieldref 10 39), (0, .nameAndType 40 26), (0, u "COMPACT_STRINGS"), (1, .class_ 44), (1, u "java/lang/StringUTF16"), (0, u "compress"), (1, .methodref 42 48), (0, .nameAndType 49 50), (0, u "coderFromArrayLen"), (0, u "([BI)B"), (56, .class_ 109), (1, u "java/lang/StringLatin1"), (32, u "()Z"), (34, .methodref 42 178), (0, .nameAndType 45 179), (0, u "([CII)[B"), (183, u "([BI)C"), (27, u "(II)V"), (35, u "(I)C"), (64, .methodref 10 493), (0, .nameAndType 494 142), (0, u "isLatin1"), (0, .methodref 107 496), (0, .nameAndType 497 363), (0, u "charAt"), (0, .methodref 42 496), (2, u "checkIndex"), (73, .class_ 576), (0, u "java/lang/CharSequence"), (22, u "CASE_INSENSITIVE_ORDER"), (0, u "Ljava/util/Comparator;"), (409, u "([C)V"), (42, .fieldref 1054 1055), (0, .class_ 1056), (0, .nameAndType 1057 1058), (0, u "jdk/internal/util/Preconditions"), (0, u "SIOOBE_FORMATTER"), (0, u "Ljava/util/function/BiFunction;"), (0, .methodref 1054 1060), (0, .nameAndType 501 1061), (0, u "(IILjava/util/function/BiFunction;)I"), (39, u "serialPersistentFields"), (0, u "[Ljava/io/ObjectStreamField;"), (0, .class_ 1104), (0, u "java/lang/String$CaseInsensitiveComparator"), (1, .class_ 1107), (0, u "java/io/Serializable"), (0, .class_ 1109), (0, u "java/lang/Comparable"), (0, .class_ 1111), (0, u "java/lang/constant/Constable"), (0, .class_ 1113), (0, u "java/lang/constant/ConstantDesc"), (2, u "serialVersionUID"), (0, u "J"), (3, u "REPL"), (0, u "C"), (2, u "LATIN1"), (1, u "UTF16")] 323

def k7m0 : Method := { name := "<init>", desc := "()V", sig := { parameters := [], returnType := none }, accessFlags := 1, code := none }
def k7c1 : Code := { maxStack := 5, maxLocals := 2, code := jdk_42_method_3_code, exceptionTable := #[], attributes := #[] }
def k7m1 : Method := { name := "<init>", desc := "([C)V", sig := { parameters := [(.array .char)], returnType := none }, accessFlags := 1, code := some k7c1 }
def k7c2 : Code := { maxStack := 2, maxLocals := 2, code := jdk_42_method_56_code, exceptionTable := #[], attributes := #[] }
def k7m2 : Method := { name := "charAt", desc := "(I)C", sig := { parameters := [.int], returnType := some .char }, accessFlags := 1, code := some k7c2 }
def k7c3 : Code := { maxStack := 4, maxLocals := 6, code := jdk_42_method_149_code, exceptionTable := #[], attributes := #[] }
def k7m3 : Method := { name := "<init>", desc := "([CIILjava/lang/Void;)V", sig := { parameters := [(.array .char), .int, .int, (.object "java/lang/Void")], returnType := none }, accessFlags := 2, code := some k7c3 }
def k7c4 : Code := { maxStack := 1, maxLocals := 1, code := jdk_42_method_154_code, exceptionTable := #[], attributes := #[] }
def k7m4 : Method := { name := "isLatin1", desc := "()Z", sig := { parameters := [], returnType := some .boolean }, accessFlags := 0, code := some k7c4 }
def k7c5 : Code := { maxStack := 3, maxLocals := 2, code := jdk_42_method_155_code, exceptionTable := #[], attributes := #[] }
def k7m5 : Method := { name := "checkIndex", desc := "(II)V", sig := { parameters := [.int, .int], returnType := none }, accessFlags := 8, code := some k7c5 }
/-- java/lang/String -/
def k7 : Class := { plain "java/lang/String" (some 0) with
  accessFlags := 49
  interfaces := #[2, 3, 4, 5, 6]
  cf := some (fileOf pool7 10 #[.nestMembers #[1103]] #[{ accessFlags := 1, nameIndex := 5, descriptorIndex := 6, attributes := #[] }, { accessFlags := 1, nameIndex := 5, descriptorIndex := 1010, attributes := #[] }, { accessFlags := 1, nameIndex := 497, descriptorIndex := 427, attributes := #[] }, { accessFlags := 2, nameIndex := 5, descriptorIndex := 29, attributes := #[] }, { accessFlags := 0, nameIndex := 494, descriptorIndex := 142, attributes := #[] }, { accessFlags := 8, nameIndex := 501, descriptorIndex := 391, attributes := #[] }] 49 2 #[1106, 1108, 575, 1110, 1112] #[{ accessFlags := 18, nameIndex := 13, descriptorIndex := 14, attributes := #[] }, { accessFlags := 18, nameIndex := 17, descriptorIndex := 18, attributes := #[] }, { accessFlags := 2, nameIndex := 21, descriptorIndex := 22, attributes := #[] }, { accessFlags := 2, nameIndex := 25, descriptorIndex := 26, attributes := #[] }, { accessFlags := 26, nameIndex := 1116, descriptorIndex := 1117, attributes := #[] }, { accessFlags := 24, nameIndex := 40, descriptorIndex := 26, attributes := #[] }, { accessFlags := 26, nameIndex := 1101, descriptorIndex := 1102, attributes := #[] }, { accessFlags := 26, nameIndex := 1121, descriptorIndex := 1122, attributes := #[] }, { accessFlags := 25, nameIndex := 599, descriptorIndex := 600, attributes := #[] }, { accessFlags := 24, nameIndex := 1125, descriptorIndex := 18, attributes := #[] }, { accessFlags := 24, nameIndex := 1127, descriptorIndex := 18, attributes := #[] }])
  fields := #[{ name := "value", type := (.array .byte), accessFlags := 18, slot := 0, constantValue := 0 }, { name := "coder", type := .byte, accessFlags := 18, slot := 1, constantValue := 0 }, { name := "hash", type := .int, accessFlags := 2, slot := 2, constantValue := 0 }, { name := "hashIsZero", type := .boolean, accessFlags := 2, slot := 3, constantValue := 0 }, { name := "serialVersionUID", type := .long, accessFlags := 26, slot := 0, constantValue := 0 }, { name := "COMPACT_STRINGS", type := .boolean, accessFlags := 24, slot := 1, constantValue := 0 }, { name := "serialPersistentFields", type := (.array (.object "java/io/ObjectStreamField")), accessFlags := 26, slot := 2, constantValue := 0 }, { name := "REPL", type := .char, accessFlags := 26, slot := 3, constantValue := 0 }, { name := "CASE_INSENSITIVE_ORDER", type := (.object "java/util/Comparator"), accessFlags := 25, slot := 4, constantValue := 0 }, { name := "LATIN1", type := .byte, accessFlags := 24, slot := 5, constantValue := 0 }, { name := "UTF16", type := .byte, accessFlags := 24, slot := 6, constantValue := 0 }]
  methods := #[k7m0, k7m1, k7m2, k7m3, k7m4, k7m5]
  instanceTypes := #[(.array .byte), .byte, .int, .boolean]
  staticTypes := #[.long, .boolean, (.array (.object "java/io/ObjectStreamField")), .char, (.object "java/util/Comparator"), .byte, .byte]
  resolved := Array.replicate 1451 none
  statics := some 0 }

def pool8 : Array CpInfo := pool [(3, .class_ 4), (0, u "java/lang/String"), (1, .class_ 8), (1, u "java/lang/Object"), (0, u "<init>"), (0, u "()V"), (0, .methodref 12 13), (0, .class_ 14), (0, .nameAndType 15 16), (0, u "java/lang/StringUTF16"), (0, u "newBytesLength"), (0, u "(I)I"), (3, .integer 1073741823), (23, .fieldref 12 45), (0, .nameAndType 46 47), (0, u "$assertionsDisabled"), (0, u "Z"), (0, .methodref 12 49), (0, .nameAndType 50 51), (0, u "length"), (0, u "([B)I"), (7, .fieldref 12 60), (0, .nameAndType 61 62), (0, u "HI_BYTE_SHIFT"), (0, u "I"), (0, .fieldref 12 64), (0, .nameAndType 65 62), (0, u "LO_BYTE_SHIFT"), (1, .methodref 12 68), (0, .nameAndType 69 70), (0, u "checkIndex"), (0, u "(I[B)V"), (0, .methodref 12 72), (0, .nameAndType 73 74), (0, u "getChar"), (0, u "([BI)C"), (32, .methodref 12 108), (0, .nameAndType 109 110), (0, u "newBytesFor"), (0, u "(I)[B"), (0, .methodref 12 112), (0, .nameAndType 113 114), (0, u "putChar"), (0, u "([BII)V"), (0, .methodref 12 116), (0, .nameAndType 117 118), (0, u "compress"), (0, u "([CI[BII)I"), (0, .methodref 12 120), (0, .nameAndType 121 122), (0, u "toBytes"), (0, u "([CII)[B"), (138, u "coderFromArrayLen"), (0, u "([BI)B"), (106, .class_ 371), (1, u "java/lang/StringUTF16$LinesSpliterator"), (20, u "charAt"), (21, .methodref 3 415), (0, .nameAndType 69 416), (0, u "(II)V"), (13, u "MAX_LENGTH"), (196, .class_ 628), (0, u "java/lang/StringUTF16$CodePointsSpliterator"), (0, .class_ 630), (0, u "java/lang/StringUTF16$CharsSpliterator")] 4

def k8m0 : Method := { name := "<init>", desc := "()V", sig := { parameters := [], returnType := none }, accessFlags := 0, code := none }
def k8c1 : Code := { maxStack := 1, maxLocals := 1, code := jdk_52_method_2_code, exceptionTable := #[], attributes := #[] }
def k8m1 : Method := { name := "newBytesFor", desc := "(I)[B", sig := { parameters := [.int], returnType := some (.array .byte) }, accessFlags := 9, code := some k8c1 }
def k8c2 : Code := { maxStack := 4, maxLocals := 1, code := jdk_52_method_3_code, exceptionTable := #[], attributes := #[] }
def k8m2 : Method := { name := "newBytesLength", desc := "(I)I", sig := { parameters := [.int], returnType := some .int }, accessFlags := 9, code := some k8c2 }
def k8c3 : Code := { maxStack := 4, maxLocals := 3, code := jdk_52_method_4_code, exceptionTable := #[], attributes := #[] }
def k8m3 : Method := { name := "putChar", desc := "([BII)V", sig := { parameters := [(.array .byte), .int, .int], returnType := none }, accessFlags := 8, code := some k8c3 }
def k8c4 : Code := { maxStack := 3, maxLocals := 2, code := jdk_52_method_5_code, exceptionTable := #[], attributes := #[] }
def k8m4 : Method := { name := "getChar", desc := "([BI)C", sig := { parameters := [(.array .byte), .int], returnType := some .char }, accessFlags := 8, code := some k8c4 }
def k8c5 : Code := { maxStack := 2, maxLocals := 1, code := jdk_52_method_6_code, exceptionTable := #[], attributes := #[] }
def k8m5 : Method := { name := "length", desc := "([B)I", sig := { parameters := [(.array .byte)], returnType := some .int }, accessFlags := 9, code := some k8c5 }
def k8c6 : Code := { maxStack := 4, maxLocals := 5, code := jdk_52_method_14_code, exceptionTable := #[], attributes := #[] }
def k8m6 : Method := { name := "toBytes", desc := "([CII)[B", sig := { parameters := [(.array .char), .int, .int], returnType := some (.array .byte) }, accessFlags := 9, code := some k8c6 }
def k8c7 : Code := { maxStack := 2, maxLocals := 2, code := jdk_52_method_15_code, exceptionTable := #[], attributes := #[] }
def k8m7 : Method := { name := "coderFromArrayLen", desc := "([BI)B", sig := { parameters := [(.array .byte), .int], returnType := some .byte }, accessFlags := 8, code := some k8c7 }
def k8c8 : Code := { maxStack := 5, maxLocals := 6, code := jdk_52_method_16_code, exceptionTable := #[], attributes := #[] }
def k8m8 : Method := { name := "compress", desc := "([CII)[B", sig := { parameters := [(.array .char), .int, .int], returnType := some (.array .byte) }, accessFlags := 9, code := some k8c8 }
def k8c9 : Code := { maxStack := 3, maxLocals := 7, code := jdk_52_method_21_code, exceptionTable := #[], attributes := #[] }
def k8m9 : Method := { name := "compress", desc := "([CI[BII)I", sig := { parameters := [(.array .char), .int, (.array .byte), .int, .int], returnType := some .int }, accessFlags := 9, code := some k8c9 }
def k8c10 : Code := { maxStack := 2, maxLocals := 2, code := jdk_52_method_83_code, exceptionTable := #[], attributes := #[] }
def k8m10 : Method := { name := "charAt", desc := "([BI)C", sig := { parameters := [(.array .byte), .int], returnType := some .char }, accessFlags := 9, code := some k8c10 }
def k8c11 : Code := { maxStack := 2, maxLocals := 2, code := jdk_52_method_91_code, exceptionTable := #[], attributes := #[] }
def k8m11 : Method := { name := "checkIndex", desc := "(I[B)V", sig := { parameters := [.int, (.array .byte)], returnType := none }, accessFlags := 9, code := some k8c11 }
/-- java/lang/StringUTF16 -/
def k8 : Class := { plain "java/lang/StringUTF16" (some 0) with
  accessFlags := 48
  interfaces := #[]
  cf := some (fileOf pool8 12 #[.nestMembers #[627, 629, 369]] #[{ accessFlags := 0, nameIndex := 9, descriptorIndex := 10, attributes := #[] }, { accessFlags := 9, nameIndex := 109, descriptorIndex := 110, attributes := #[] }, { accessFlags := 9, nameIndex := 15, descriptorIndex := 16, attributes := #[] }, { accessFlags := 8, nameIndex := 113, descriptorIndex := 114, attributes := #[] }, { accessFlags := 8, nameIndex := 73, descriptorIndex := 74, attributes := #[] }, { accessFlags := 9, nameIndex := 50, descriptorIndex := 51, attributes := #[] }, { accessFlags := 9, nameIndex := 121, descriptorIndex := 122, attributes := #[] }, { accessFlags := 8, nameIndex := 261, descriptorIndex := 262, attributes := #[] }, { accessFlags := 9, nameIndex := 117, descriptorIndex := 122, attributes := #[] }, { accessFlags := 9, nameIndex := 117, descriptorIndex := 118, attributes := #[] }, { accessFlags := 9, nameIndex := 392, descriptorIndex := 74, attributes := #[] }, { accessFlags := 9, nameIndex := 69, descriptorIndex := 70, attributes := #[] }] 48 6 #[] #[{ accessFlags := 26, nameIndex := 61, descriptorIndex := 62, attributes := #[] }, { accessFlags := 26, nameIndex := 65, descriptorIndex := 62, attributes := #[] }, { accessFlags := 24, nameIndex := 430, descriptorIndex := 62, attributes := #[] }, { accessFlags := 4120, nameIndex := 46, descriptorIndex := 47, attributes := #[] }])
  fields := #[{ name := "HI_BYTE_SHIFT", type := .int, accessFlags := 26, slot := 0, constantValue := 0 }, { name := "LO_BYTE_SHIFT", type := .int, accessFlags := 26, slot := 1, constantValue := 0 }, { name := "MAX_LENGTH", type := .int, accessFlags := 24, slot := 2, constantValue := 0 }, { name := "$assertionsDisabled", type := .boolean, accessFlags := 4120, slot := 3, constantValue := 0 }]
  methods := #[k8m0, k8m1, k8m2, k8m3, k8m4, k8m5, k8m6, k8m7, k8m8, k8m9, k8m10, k8m11]
  instanceTypes := #[]
  staticTypes := #[.int, .int, .int, .boolean]
  resolved := Array.replicate 635 none
  statics := some 1 }

def pool9 : Array CpInfo := pool [(1, .class_ 2), (0, u "com/example/brazier/brazier/fhir/ResourceId"), (1, .class_ 6), (1, u "java/lang/Object"), (0, u "<init>"), (0, u "()V"), (9, .class_ 20), (1, u "java/lang/String"), (4, u "isValid"), (0, u "(Ljava/lang/String;II)Z"), (0, .methodref 18 28), (0, .nameAndType 29 30), (0, u "charAt"), (0, u "(I)C"), (0, u "MAX_LENGTH"), (0, u "I"), (2, u "SYNTAX"), (0, u "Ljava/lang/String;")] 8

def k9m0 : Method := { name := "<init>", desc := "()V", sig := { parameters := [], returnType := none }, accessFlags := 2, code := none }
def k9c1 : Code := { maxStack := 2, maxLocals := 5, code := prog_34_method_3_code, exceptionTable := #[], attributes := #[] }
def k9m1 : Method := { name := "isValid", desc := "(Ljava/lang/String;II)Z", sig := { parameters := [(.object "java/lang/String"), .int, .int], returnType := some .boolean }, accessFlags := 8, code := some k9c1 }
/-- com/example/brazier/brazier/fhir/ResourceId -/
def k9 : Class := { plain "com/example/brazier/brazier/fhir/ResourceId" (some 0) with
  accessFlags := 49
  interfaces := #[]
  cf := some (fileOf pool9 1 #[] #[{ accessFlags := 2, nameIndex := 7, descriptorIndex := 8, attributes := #[] }, { accessFlags := 8, nameIndex := 25, descriptorIndex := 26, attributes := #[] }] 49 4 #[] #[{ accessFlags := 26, nameIndex := 31, descriptorIndex := 32, attributes := #[] }, { accessFlags := 25, nameIndex := 35, descriptorIndex := 36, attributes := #[] }])
  fields := #[{ name := "MAX_LENGTH", type := .int, accessFlags := 26, slot := 0, constantValue := 0 }, { name := "SYNTAX", type := (.object "java/lang/String"), accessFlags := 25, slot := 1, constantValue := 0 }]
  methods := #[k9m0, k9m1]
  instanceTypes := #[]
  staticTypes := #[.int, (.object "java/lang/String")]
  resolved := Array.replicate 45 none
  statics := none }

def pool10 : Array CpInfo := pool [(1, .class_ 2), (0, u "java/lang/String"), (1, .class_ 6), (1, u "java/lang/Object"), (0, u "<init>"), (0, u "()V"), (0, .methodref 1 10), (0, .nameAndType 11 12), (0, u "checkIndex"), (0, u "(II)V"), (1, .class_ 16), (1, u "java/lang/StringLatin1"), (36, u "([BI)C"), (67, u "$assertionsDisabled"), (0, u "Z"), (98, .class_ 223), (1, u "java/lang/StringLatin1$LinesSpliterator"), (28, u "charAt"), (137, .class_ 391), (0, u "java/lang/StringLatin1$CharsSpliterator")] 3

def k10m0 : Method := { name := "<init>", desc := "()V", sig := { parameters := [], returnType := none }, accessFlags := 0, code := none }
def k10c1 : Code := { maxStack := 2, maxLocals := 2, code := jdk_43_method_2_code, exceptionTable := #[], attributes := #[] }
def k10m1 : Method := { name := "charAt", desc := "([BI)C", sig := { parameters := [(.array .byte), .int], returnType := some .char }, accessFlags := 9, code := some k10c1 }
/-- java/lang/StringLatin1 -/
def k10 : Class := { plain "java/lang/StringLatin1" (some 0) with
  accessFlags := 48
  interfaces := #[]
  cf := some (fileOf pool10 14 #[.nestMembers #[390, 221]] #[{ accessFlags := 0, nameIndex := 7, descriptorIndex := 8, attributes := #[] }, { accessFlags := 9, nameIndex := 252, descriptorIndex := 53, attributes := #[] }] 48 4 #[] #[{ accessFlags := 4120, nameIndex := 121, descriptorIndex := 122, attributes := #[] }])
  fields := #[{ name := "$assertionsDisabled", type := .boolean, accessFlags := 4120, slot := 0, constantValue := 0 }]
  methods := #[k10m0, k10m1]
  instanceTypes := #[]
  staticTypes := #[.boolean]
  resolved := Array.replicate 395 none
  statics := none }

def pool11 : Array CpInfo := pool [(2, .class_ 4), (1, u "java/lang/Object"), (0, u "<init>"), (0, u "()V"), (17, .class_ 26), (1, u "jdk/internal/util/Preconditions"), (6, u "checkIndex"), (21, .class_ 56), (0, u "jdk/internal/util/Preconditions$4"), (57, .class_ 115), (0, u "jdk/internal/util/Preconditions$1"), (7, u "SIOOBE_FORMATTER"), (0, u "Ljava/util/function/BiFunction;"), (0, .class_ 126), (0, u "jdk/internal/util/Preconditions$2"), (3, u "AIOOBE_FORMATTER"), (0, .class_ 132), (0, u "jdk/internal/util/Preconditions$3"), (3, u "IOOBE_FORMATTER"), (41, u "(IILjava/util/function/BiFunction;)I")] 15

def k11m0 : Method := { name := "<init>", desc := "()V", sig := { parameters := [], returnType := none }, accessFlags := 1, code := none }
def k11c1 : Code := { maxStack := 3, maxLocals := 3, code := jdk_41_method_11_code, exceptionTable := #[], attributes := #[] }
def k11m1 : Method := { name := "checkIndex", desc := "(IILjava/util/function/BiFunction;)I", sig := { parameters := [.int, .int, (.object "java/util/function/BiFunction")], returnType := some .int }, accessFlags := 9, code := some k11c1 }
/-- jdk/internal/util/Preconditions -/
def k11 : Class := { plain "jdk/internal/util/Preconditions" (some 0) with
  accessFlags := 33
  interfaces := #[]
  cf := some (fileOf pool11 24 #[.nestMembers #[55, 131, 125, 114]] #[{ accessFlags := 1, nameIndex := 5, descriptorIndex := 6, attributes := #[] }, { accessFlags := 9, nameIndex := 33, descriptorIndex := 178, attributes := #[] }] 33 2 #[] #[{ accessFlags := 25, nameIndex := 123, descriptorIndex := 124, attributes := #[] }, { accessFlags := 25, nameIndex := 130, descriptorIndex := 124, attributes := #[] }, { accessFlags := 25, nameIndex := 136, descriptorIndex := 124, attributes := #[] }])
  fields := #[{ name := "SIOOBE_FORMATTER", type := (.object "java/util/function/BiFunction"), accessFlags := 25, slot := 0, constantValue := 0 }, { name := "AIOOBE_FORMATTER", type := (.object "java/util/function/BiFunction"), accessFlags := 25, slot := 1, constantValue := 0 }, { name := "IOOBE_FORMATTER", type := (.object "java/util/function/BiFunction"), accessFlags := 25, slot := 2, constantValue := 0 }]
  methods := #[k11m0, k11m1]
  instanceTypes := #[]
  staticTypes := #[(.object "java/util/function/BiFunction"), (.object "java/util/function/BiFunction"), (.object "java/util/function/BiFunction")]
  resolved := Array.replicate 194 none
  statics := some 2 }

def pool12 : Array CpInfo := pool [(9, u "<init>"), (6, .class_ 18), (1, u "java/lang/Object"), (0, u "()V"), (1, .class_ 23), (1, u "jdk/internal/util/ArraysSupport"), (0, u "LOG2_ARRAY_LONG_INDEX_SCALE"), (0, u "I"), (2, u "U"), (0, u "Ljdk/internal/misc/Unsafe;"), (8, u "BIG_ENDIAN"), (0, u "Z"), (8, u "LOG2_BYTE_BIT_SIZE"), (4, u "LOG2_ARRAY_INT_INDEX_SCALE"), (54, u "JLA"), (0, u "Ljdk/internal/access/JavaLangAccess;"), (11, u "LOG2_ARRAY_BOOLEAN_INDEX_SCALE"), (9, u "LOG2_ARRAY_BYTE_INDEX_SCALE"), (5, u "LOG2_ARRAY_CHAR_INDEX_SCALE"), (5, u "LOG2_ARRAY_SHORT_INDEX_SCALE"), (18, u "LOG2_ARRAY_FLOAT_INDEX_SCALE"), (24, u "LOG2_ARRAY_DOUBLE_INDEX_SCALE"), (89, u "T_BOOLEAN"), (2, u "T_CHAR"), (1, u "T_FLOAT"), (1, u "T_DOUBLE"), (1, u "T_BYTE"), (1, u "T_SHORT"), (1, u "T_INT"), (1, u "T_LONG"), (1, u "SOFT_MAX_ARRAY_LENGTH")] 83

def k12m0 : Method := { name := "<init>", desc := "()V", sig := { parameters := [], returnType := none }, accessFlags := 2, code := none }
/-- jdk/internal/util/ArraysSupport -/
def k12 : Class := { plain "jdk/internal/util/ArraysSupport" (some 0) with
  accessFlags := 33
  interfaces := #[]
  cf := some (fileOf pool12 21 #[] #[{ accessFlags := 2, nameIndex := 9, descriptorIndex := 19, attributes := #[] }] 33 16 #[] #[{ accessFlags := 24, nameIndex := 28, descriptorIndex := 29, attributes := #[] }, { accessFlags := 26, nameIndex := 38, descriptorIndex := 39, attributes := #[] }, { accessFlags := 25, nameIndex := 121, descriptorIndex := 25, attributes := #[] }, { accessFlags := 25, nameIndex := 131, descriptorIndex := 25, attributes := #[] }, { accessFlags := 25, nameIndex := 137, descriptorIndex := 25, attributes := #[] }, { accessFlags := 25, nameIndex := 143, descriptorIndex := 25, attributes := #[] }, { accessFlags := 25, nameIndex := 53, descriptorIndex := 25, attributes := #[] }, { accessFlags := 25, nameIndex := 24, descriptorIndex := 25, attributes := #[] }, { accessFlags := 25, nameIndex := 162, descriptorIndex := 25, attributes := #[] }, { accessFlags := 25, nameIndex := 187, descriptorIndex := 25, attributes := #[] }, { accessFlags := 26, nameIndex := 48, descriptorIndex := 25, attributes := #[] }, { accessFlags := 25, nameIndex := 277, descriptorIndex := 25, attributes := #[] }, { accessFlags := 25, nameIndex := 280, descriptorIndex := 25, attributes := #[] }, { accessFlags := 25, nameIndex := 282, descriptorIndex := 25, attributes := #[] }, { accessFlags := 25, nameIndex := 284, descriptorIndex := 25, attributes := #[] }, { accessFlags := 25, nameIndex := 286, descriptorIndex := 25, attributes := #[] }, { accessFlags := 25, nameIndex := 288, descriptorIndex := 25, attributes := #[] }, { accessFlags := 25, nameIndex := 290, descriptorIndex := 25, attributes := #[] }, { accessFlags := 25, nameIndex := 292, descriptorIndex := 25, attributes := #[] }, { accessFlags := 26, nameIndex := 108, descriptorIndex := 109, attributes := #[] }, { accessFlags := 25, nameIndex := 294, descriptorIndex := 25, attributes := #[] }])
  fields := #[{ name := "U", type := (.object "jdk/internal/misc/Unsafe"), accessFlags := 24, slot := 0, constantValue := 0 }, { name := "BIG_ENDIAN", type := .boolean, accessFlags := 26, slot := 1, constantValue := 0 }, { name := "LOG2_ARRAY_BOOLEAN_INDEX_SCALE", type := .int, accessFlags := 25, slot := 2, constantValue := 0 }, { name := "LOG2_ARRAY_BYTE_INDEX_SCALE", type := .int, accessFlags := 25, slot := 3, constantValue := 0 }, { name := "LOG2_ARRAY_CHAR_INDEX_SCALE", type := .int, accessFlags := 25, slot := 4, constantValue := 0 }, { name := "LOG2_ARRAY_SHORT_INDEX_SCALE", type := .int, accessFlags := 25, slot := 5, constantValue := 0 }, { name := "LOG2_ARRAY_INT_INDEX_SCALE", type := .int, accessFlags := 25, slot := 6, constantValue := 0 }, { name := "LOG2_ARRAY_LONG_INDEX_SCALE", type := .int, accessFlags := 25, slot := 7, constantValue := 0 }, { name := "LOG2_ARRAY_FLOAT_INDEX_SCALE", type := .int, accessFlags := 25, slot := 8, constantValue := 0 }, { name := "LOG2_ARRAY_DOUBLE_INDEX_SCALE", type := .int, accessFlags := 25, slot := 9, constantValue := 0 }, { name := "LOG2_BYTE_BIT_SIZE", type := .int, accessFlags := 26, slot := 10, constantValue := 0 }, { name := "T_BOOLEAN", type := .int, accessFlags := 25, slot := 11, constantValue := 0 }, { name := "T_CHAR", type := .int, accessFlags := 25, slot := 12, constantValue := 0 }, { name := "T_FLOAT", type := .int, accessFlags := 25, slot := 13, constantValue := 0 }, { name := "T_DOUBLE", type := .int, accessFlags := 25, slot := 14, constantValue := 0 }, { name := "T_BYTE", type := .int, accessFlags := 25, slot := 15, constantValue := 0 }, { name := "T_SHORT", type := .int, accessFlags := 25, slot := 16, constantValue := 0 }, { name := "T_INT", type := .int, accessFlags := 25, slot := 17, constantValue := 0 }, { name := "T_LONG", type := .int, accessFlags := 25, slot := 18, constantValue := 0 }, { name := "JLA", type := (.object "jdk/internal/access/JavaLangAccess"), accessFlags := 26, slot := 19, constantValue := 0 }, { name := "SOFT_MAX_ARRAY_LENGTH", type := .int, accessFlags := 25, slot := 20, constantValue := 0 }]
  methods := #[k12m0]
  instanceTypes := #[]
  staticTypes := #[(.object "jdk/internal/misc/Unsafe"), .boolean, .int, .int, .int, .int, .int, .int, .int, .int, .int, .int, .int, .int, .int, .int, .int, .int, .int, (.object "jdk/internal/access/JavaLangAccess"), .int]
  resolved := Array.replicate 378 none
  statics := none }

def pool13 : Array CpInfo := pool [(1, u "java/lang/Cloneable"), (0, .class_ 1), (0, u "java/lang/Object"), (0, .class_ 3)] 3

/-- java/lang/Cloneable -/
def k13 : Class := { plain "java/lang/Cloneable" (some 0) with
  accessFlags := 1537
  interfaces := #[]
  cf := some (fileOf pool13 2 #[] #[] 1537 4 #[] #[])
  fields := #[]
  methods := #[]
  instanceTypes := #[]
  staticTypes := #[]
  resolved := Array.replicate 8 none
  statics := none }

/-- the primitive byte -/
def k14 : Class := { plain "byte" none with kind := .primitive 'B', accessFlags := 0x411 }
/-- [B -/
def k15 : Class := { plain "[B" (some 0) with kind := .array 14 .byte, interfaces := #[13, 2], accessFlags := 1041 }

/-- the primitive char -/
def k16 : Class := { plain "char" none with kind := .primitive 'C', accessFlags := 0x411 }
/-- [C -/
def k17 : Class := { plain "[C" (some 0) with kind := .array 16 .char, interfaces := #[13, 2], accessFlags := 1041 }

/-- the primitive int -/
def k18 : Class := { plain "int" none with kind := .primitive 'I', accessFlags := 0x411 }
/-- [I -/
def k19 : Class := { plain "[I" (some 0) with kind := .array 18 .int, interfaces := #[13, 2], accessFlags := 1041 }

def heap : Heap := #[{ cls := 7, slots := #[.long 0, .int 1, .null, .int 0, .null, .int 0, .int 0], vm := .statics 7 },
  { cls := 8, slots := #[.int 0, .int 8, .int 0, .int 1], vm := .statics 8 },
  { cls := 11, slots := #[.null, .null, .null], vm := .statics 11 }]
def classes : Array Class := #[k0, k1, k2, k3, k4, k5, k6, k7, k8, k9, k10, k11, k12, k13, k14, k15, k16, k17, k18, k19]
def interned : List (Array UInt16 × Addr) := []
def slotsUsed : Nat := 14
def theMethod : MethodId := ⟨1, 1⟩
def args0 : Array Value := #[.int 1, .int 2, .int 3, .int 4, .int 5, .int 6]
def aboutOver (below : List Frame) : State where
  vm := { classes := classes, interned := interned.toArray }
  heap := heap
  slotsUsed := slotsUsed
  threads := #[{ frames := .invoking theMethod args0 :: below }]
def below0 : List Frame := [.native { method := ⟨0, 0⟩, args := #[] }]
def about1 : State := aboutOver below0
def p0 : Program := .bare "" "" ""
def e0 : Env := launch0.env 0 0 0
theorem w_frames : about1.frames = Frame.invoking theMethod args0 :: below0 := rfl
set_option maxRecDepth 65536 in
theorem w_args : argsFit about1.vm theMethod args0 = true := by decide +kernel
set_option maxRecDepth 65536 in
theorem w_heap : heapFits about1 = true := by decide +kernel
set_option maxRecDepth 65536 in
theorem w_runnable : about1.curStatus? = some .runnable := by decide +kernel
set_option maxRecDepth 65536 in
theorem w_alone : about1.alone = true := by decide +kernel
set_option maxRecDepth 65536 in
theorem w_named : about1.methodNamed? x = some theMethod := by decide +kernel
set_option maxRecDepth 65536 in
theorem w_hears : about1.hears theMethod below0 = true := by decide +kernel
set_option maxRecDepth 65536 in
theorem w_ripe : about1.ripe theMethod args0 below0 = true := by decide +kernel
theorem w_running : about1.status = .running := rfl
set_option maxRecDepth 65536 in
theorem w_room : about1.hasRoom e0.platform room_1 = true :=
  launch0.hasRoom_least _ room_1 (by decide +kernel) (by decide +kernel) (by decide +kernel) (by decide +kernel) (by decide +kernel) (by decide +kernel)
theorem allAtoms_all (ts : List Jvm.Cond) (a : Array Jvm.Value) (st : Jvm.State) : (allAtoms ts).before a st = ts.all (fun c => c.before a st) := by
  induction ts with
  | nil => rfl
  | cons c t ih =>
    show (Jvm.Cond.and c (allAtoms t)).before a st = _
    rw [Jvm.Cond.before_and, ih, List.all_cons]
def words1 : List Jvm.Cond := Jvm.Cond.code x code maxLocals ret :: tables_1
/-- a 'code' word, met by the world's own term for the bytes: nothing is compared byte by byte -/
theorem code_word {y : MethodName} {bytes : ByteArray} {mx : Nat} {rt : Option FieldType} {a : Array Value} {s : State} {m : MethodId} {meth : Method} {c : Code} (h1 : s.methodNamed? y = some m) (h2 : s.vm.method? m = some meth) (h3 : meth.code = some c) (h4 : c.code = bytes)
    (h5 : (c.maxLocals == mx && c.exceptionTable.isEmpty && decide (c.maxStack ≤ mostOperands) && decide (meth.sig.returnType = rt) && !meth.locks && decide (parseMethodDescriptor y.desc = some meth.sig)) = true) : (Jvm.Cond.code y bytes mx rt).before a s = true := by
  simp only [Bool.and_eq_true, beq_iff_eq, Bool.not_eq_true', decide_eq_true_eq] at h5
  obtain ⟨⟨⟨⟨⟨g1, g2⟩, g3⟩, g4⟩, g5⟩, g6⟩ := h5
  simp [Cond.before, Cond.holds, Cond.value, h1, h2, h3, h4, g1, g2, g3, g4, g5, g6]
def isCode : Jvm.Cond → Bool
  | .code _ _ _ _ => true
  | _ => false
theorem all_split {L : List Jvm.Cond} {P : Jvm.Cond → Bool} (h1 : L.all (fun c => isCode c || P c) = true) (h2 : ∀ c ∈ L.filter isCode, P c = true) : L.all P = true := by
  refine List.all_eq_true.mpr fun c hc => ?_
  have h := List.all_eq_true.mp h1 c hc
  rcases Bool.eq_false_or_eq_true (isCode c) with hi | hi
  · exact h2 c (List.mem_filter.mpr ⟨hc, hi⟩)
  · simpa [hi] using h
set_option maxRecDepth 65536 in
theorem w_c0 : (Jvm.Cond.code x code maxLocals ret).before args0 about1 = true := code_word (m := ⟨1, 1⟩) (meth := k1m1) (c := k1c1) (by decide +kernel) rfl rfl rfl (by decide +kernel)
set_option maxRecDepth 65536 in
theorem w_c1 : (Jvm.Cond.code ({ cls := "java/lang/String", name := "<init>", desc := "([C)V" } : Jvm.MethodName) jdk_42_method_3_code (2 : Nat) (Option.none : Option Jvm.ClassFile.FieldType)).before args0 about1 = true := code_word (m := ⟨7, 1⟩) (meth := k7m1) (c := k7c1) (by decide +kernel) rfl rfl rfl (by decide +kernel)
set_option maxRecDepth 65536 in
theorem w_c2 : (Jvm.Cond.code ({ cls := "java/lang/String", name := "<init>", desc := "([CIILjava/lang/Void;)V" } : Jvm.MethodName) jdk_42_method_149_code (6 : Nat) (Option.none : Option Jvm.ClassFile.FieldType)).before args0 about1 = true := code_word (m := ⟨7, 3⟩) (meth := k7m3) (c := k7c3) (by decide +kernel) rfl rfl rfl (by decide +kernel)
set_option maxRecDepth 65536 in
theorem w_c3 : (Jvm.Cond.code ({ cls := "java/lang/Object", name := "<init>", desc := "()V" } : Jvm.MethodName) object_method_1_code (1 : Nat) (Option.none : Option Jvm.ClassFile.FieldType)).before args0 about1 = true := code_word (m := ⟨0, 0⟩) (meth := k0m0) (c := k0c0) (by decide +kernel) rfl rfl rfl (by decide +kernel)
set_option maxRecDepth 65536 in
theorem w_c4 : (Jvm.Cond.code ({ cls := "java/lang/StringUTF16", name := "compress", desc := "([CII)[B" } : Jvm.MethodName) jdk_52_method_16_code (6 : Nat) (Option.some (Jvm.ClassFile.FieldType.array Jvm.ClassFile.FieldType.byte))).before args0 about1 = true := code_word (m := ⟨8, 8⟩) (meth := k8m8) (c := k8c8) (by decide +kernel) rfl rfl rfl (by decide +kernel)
set_option maxRecDepth 65536 in
theorem w_c5 : (Jvm.Cond.code ({ cls := "java/lang/StringUTF16", name := "compress", desc := "([CI[BII)I" } : Jvm.MethodName) jdk_52_method_21_code (7 : Nat) (Option.some Jvm.ClassFile.FieldType.int)).before args0 about1 = true := code_word (m := ⟨8, 9⟩) (meth := k8m9) (c := k8c9) (by decide +kernel) rfl rfl rfl (by decide +kernel)
set_option maxRecDepth 65536 in
theorem w_c6 : (Jvm.Cond.code ({ cls := "java/lang/StringUTF16", name := "coderFromArrayLen", desc := "([BI)B" } : Jvm.MethodName) jdk_52_method_15_code (2 : Nat) (Option.some Jvm.ClassFile.FieldType.byte)).before args0 about1 = true := code_word (m := ⟨8, 7⟩) (meth := k8m7) (c := k8c7) (by decide +kernel) rfl rfl rfl (by decide +kernel)
set_option maxRecDepth 65536 in
theorem w_c7 : (Jvm.Cond.code ({ cls := "com/example/brazier/brazier/fhir/ResourceId", name := "isValid", desc := "(Ljava/lang/String;II)Z" } : Jvm.MethodName) prog_34_method_3_code (5 : Nat) (Option.some Jvm.ClassFile.FieldType.boolean)).before args0 about1 = true := code_word (m := ⟨9, 1⟩) (meth := k9m1) (c := k9c1) (by decide +kernel) rfl rfl rfl (by decide +kernel)
set_option maxRecDepth 65536 in
theorem w_c8 : (Jvm.Cond.code ({ cls := "java/lang/String", name := "charAt", desc := "(I)C" } : Jvm.MethodName) jdk_42_method_56_code (2 : Nat) (Option.some Jvm.ClassFile.FieldType.char)).before args0 about1 = true := code_word (m := ⟨7, 2⟩) (meth := k7m2) (c := k7c2) (by decide +kernel) rfl rfl rfl (by decide +kernel)
set_option maxRecDepth 65536 in
theorem w_c9 : (Jvm.Cond.code ({ cls := "java/lang/String", name := "isLatin1", desc := "()Z" } : Jvm.MethodName) jdk_42_method_154_code (1 : Nat) (Option.some Jvm.ClassFile.FieldType.boolean)).before args0 about1 = true := code_word (m := ⟨7, 4⟩) (meth := k7m4) (c := k7c4) (by decide +kernel) rfl rfl rfl (by decide +kernel)
set_option maxRecDepth 65536 in
theorem w_c10 : (Jvm.Cond.code ({ cls := "java/lang/StringLatin1", name := "charAt", desc := "([BI)C" } : Jvm.MethodName) jdk_43_method_2_code (2 : Nat) (Option.some Jvm.ClassFile.FieldType.char)).before args0 about1 = true := code_word (m := ⟨10, 1⟩) (meth := k10m1) (c := k10c1) (by decide +kernel) rfl rfl rfl (by decide +kernel)
set_option maxRecDepth 65536 in
theorem w_c11 : (Jvm.Cond.code ({ cls := "java/lang/String", name := "checkIndex", desc := "(II)V" } : Jvm.MethodName) jdk_42_method_155_code (2 : Nat) (Option.none : Option Jvm.ClassFile.FieldType)).before args0 about1 = true := code_word (m := ⟨7, 5⟩) (meth := k7m5) (c := k7c5) (by decide +kernel) rfl rfl rfl (by decide +kernel)
set_option maxRecDepth 65536 in
theorem w_c12 : (Jvm.Cond.code ({ cls := "jdk/internal/util/Preconditions", name := "checkIndex", desc := "(IILjava/util/function/BiFunction;)I" } : Jvm.MethodName) jdk_41_method_11_code (3 : Nat) (Option.some Jvm.ClassFile.FieldType.int)).before args0 about1 = true := code_word (m := ⟨11, 1⟩) (meth := k11m1) (c := k11c1) (by decide +kernel) rfl rfl rfl (by decide +kernel)
set_option maxRecDepth 65536 in
theorem w_c13 : (Jvm.Cond.code ({ cls := "com/example/brazier/brazier/fhir/ResourceIdIsValidPinLaw", name := "ok", desc := "([CIII)Z" } : Jvm.MethodName) method_3_code (4 : Nat) (Option.some Jvm.ClassFile.FieldType.boolean)).before args0 about1 = true := code_word (m := ⟨1, 2⟩) (meth := k1m2) (c := k1c2) (by decide +kernel) rfl rfl rfl (by decide +kernel)
set_option maxRecDepth 65536 in
theorem w_c14 : (Jvm.Cond.code ({ cls := "com/example/brazier/brazier/fhir/ResourceIdIsValidPinLaw", name := "idChar", desc := "(C)Z" } : Jvm.MethodName) method_4_code (1 : Nat) (Option.some Jvm.ClassFile.FieldType.boolean)).before args0 about1 = true := code_word (m := ⟨1, 3⟩) (meth := k1m3) (c := k1c3) (by decide +kernel) rfl rfl rfl (by decide +kernel)
set_option maxRecDepth 65536 in
theorem w_c15 : (Jvm.Cond.code ({ cls := "java/lang/StringUTF16", name := "toBytes", desc := "([CII)[B" } : Jvm.MethodName) jdk_52_method_14_code (5 : Nat) (Option.some (Jvm.ClassFile.FieldType.array Jvm.ClassFile.FieldType.byte))).before args0 about1 = true := code_word (m := ⟨8, 6⟩) (meth := k8m6) (c := k8c6) (by decide +kernel) rfl rfl rfl (by decide +kernel)
set_option maxRecDepth 65536 in
theorem w_c16 : (Jvm.Cond.code ({ cls := "java/lang/StringUTF16", name := "newBytesFor", desc := "(I)[B" } : Jvm.MethodName) jdk_52_method_2_code (1 : Nat) (Option.some (Jvm.ClassFile.FieldType.array Jvm.ClassFile.FieldType.byte))).before args0 about1 = true := code_word (m := ⟨8, 1⟩) (meth := k8m1) (c := k8c1) (by decide +kernel) rfl rfl rfl (by decide +kernel)
set_option maxRecDepth 65536 in
theorem w_c17 : (Jvm.Cond.code ({ cls := "java/lang/StringUTF16", name := "newBytesLength", desc := "(I)I" } : Jvm.MethodName) jdk_52_method_3_code (1 : Nat) (Option.some Jvm.ClassFile.FieldType.int)).before args0 about1 = true := code_word (m := ⟨8, 2⟩) (meth := k8m2) (c := k8c2) (by decide +kernel) rfl rfl rfl (by decide +kernel)
set_option maxRecDepth 65536 in
theorem w_c18 : (Jvm.Cond.code ({ cls := "java/lang/StringUTF16", name := "putChar", desc := "([BII)V" } : Jvm.MethodName) jdk_52_method_4_code (3 : Nat) (Option.none : Option Jvm.ClassFile.FieldType)).before args0 about1 = true := code_word (m := ⟨8, 3⟩) (meth := k8m3) (c := k8c3) (by decide +kernel) rfl rfl rfl (by decide +kernel)
set_option maxRecDepth 65536 in
theorem w_c19 : (Jvm.Cond.code ({ cls := "java/lang/StringUTF16", name := "getChar", desc := "([BI)C" } : Jvm.MethodName) jdk_52_method_5_code (2 : Nat) (Option.some Jvm.ClassFile.FieldType.char)).before args0 about1 = true := code_word (m := ⟨8, 4⟩) (meth := k8m4) (c := k8c4) (by decide +kernel) rfl rfl rfl (by decide +kernel)
set_option maxRecDepth 65536 in
theorem w_c20 : (Jvm.Cond.code ({ cls := "java/lang/StringUTF16", name := "charAt", desc := "([BI)C" } : Jvm.MethodName) jdk_52_method_83_code (2 : Nat) (Option.some Jvm.ClassFile.FieldType.char)).before args0 about1 = true := code_word (m := ⟨8, 10⟩) (meth := k8m10) (c := k8c10) (by decide +kernel) rfl rfl rfl (by decide +kernel)
set_option maxRecDepth 65536 in
theorem w_c21 : (Jvm.Cond.code ({ cls := "java/lang/StringUTF16", name := "checkIndex", desc := "(I[B)V" } : Jvm.MethodName) jdk_52_method_91_code (2 : Nat) (Option.none : Option Jvm.ClassFile.FieldType)).before args0 about1 = true := code_word (m := ⟨8, 11⟩) (meth := k8m11) (c := k8c11) (by decide +kernel) rfl rfl rfl (by decide +kernel)
set_option maxRecDepth 65536 in
theorem w_c22 : (Jvm.Cond.code ({ cls := "java/lang/StringUTF16", name := "length", desc := "([B)I" } : Jvm.MethodName) jdk_52_method_6_code (1 : Nat) (Option.some Jvm.ClassFile.FieldType.int)).before args0 about1 = true := code_word (m := ⟨8, 5⟩) (meth := k8m5) (c := k8c5) (by decide +kernel) rfl rfl rfl (by decide +kernel)
def codes1 : List Jvm.Cond := [Jvm.Cond.code x code maxLocals ret, Jvm.Cond.code ({ cls := "java/lang/String", name := "<init>", desc := "([C)V" } : Jvm.MethodName) jdk_42_method_3_code (2 : Nat) (Option.none : Option Jvm.ClassFile.FieldType), Jvm.Cond.code ({ cls := "java/lang/String", name := "<init>", desc := "([CIILjava/lang/Void;)V" } : Jvm.MethodName) jdk_42_method_149_code (6 : Nat) (Option.none : Option Jvm.ClassFile.FieldType), Jvm.Cond.code ({ cls := "java/lang/Object", name := "<init>", desc := "()V" } : Jvm.MethodName) object_method_1_code (1 : Nat) (Option.none : Option Jvm.ClassFile.FieldType), Jvm.Cond.code ({ cls := "java/lang/StringUTF16", name := "compress", desc := "([CII)[B" } : Jvm.MethodName) jdk_52_method_16_code (6 : Nat) (Option.some (Jvm.ClassFile.FieldType.array Jvm.ClassFile.FieldType.byte)), Jvm.Cond.code ({ cls := "java/lang/StringUTF16", name := "compress", desc := "([CI[BII)I" } : Jvm.MethodName) jdk_52_method_21_code (7 : Nat) (Option.some Jvm.ClassFile.FieldType.int), Jvm.Cond.code ({ cls := "java/lang/StringUTF16", name := "coderFromArrayLen", desc := "([BI)B" } : Jvm.MethodName) jdk_52_method_15_code (2 : Nat) (Option.some Jvm.ClassFile.FieldType.byte), Jvm.Cond.code ({ cls := "com/example/brazier/brazier/fhir/ResourceId", name := "isValid", desc := "(Ljava/lang/String;II)Z" } : Jvm.MethodName) prog_34_method_3_code (5 : Nat) (Option.some Jvm.ClassFile.FieldType.boolean), Jvm.Cond.code ({ cls := "java/lang/String", name := "charAt", desc := "(I)C" } : Jvm.MethodName) jdk_42_method_56_code (2 : Nat) (Option.some Jvm.ClassFile.FieldType.char), Jvm.Cond.code ({ cls := "java/lang/String", name := "isLatin1", desc := "()Z" } : Jvm.MethodName) jdk_42_method_154_code (1 : Nat) (Option.some Jvm.ClassFile.FieldType.boolean), Jvm.Cond.code ({ cls := "java/lang/StringLatin1", name := "charAt", desc := "([BI)C" } : Jvm.MethodName) jdk_43_method_2_code (2 : Nat) (Option.some Jvm.ClassFile.FieldType.char), Jvm.Cond.code ({ cls := "java/lang/String", name := "checkIndex", desc := "(II)V" } : Jvm.MethodName) jdk_42_method_155_code (2 : Nat) (Option.none : Option Jvm.ClassFile.FieldType), Jvm.Cond.code ({ cls := "jdk/internal/util/Preconditions", name := "checkIndex", desc := "(IILjava/util/function/BiFunction;)I" } : Jvm.MethodName) jdk_41_method_11_code (3 : Nat) (Option.some Jvm.ClassFile.FieldType.int), Jvm.Cond.code ({ cls := "com/example/brazier/brazier/fhir/ResourceIdIsValidPinLaw", name := "ok", desc := "([CIII)Z" } : Jvm.MethodName) method_3_code (4 : Nat) (Option.some Jvm.ClassFile.FieldType.boolean), Jvm.Cond.code ({ cls := "com/example/brazier/brazier/fhir/ResourceIdIsValidPinLaw", name := "idChar", desc := "(C)Z" } : Jvm.MethodName) method_4_code (1 : Nat) (Option.some Jvm.ClassFile.FieldType.boolean), Jvm.Cond.code ({ cls := "java/lang/StringUTF16", name := "toBytes", desc := "([CII)[B" } : Jvm.MethodName) jdk_52_method_14_code (5 : Nat) (Option.some (Jvm.ClassFile.FieldType.array Jvm.ClassFile.FieldType.byte)), Jvm.Cond.code ({ cls := "java/lang/StringUTF16", name := "newBytesFor", desc := "(I)[B" } : Jvm.MethodName) jdk_52_method_2_code (1 : Nat) (Option.some (Jvm.ClassFile.FieldType.array Jvm.ClassFile.FieldType.byte)), Jvm.Cond.code ({ cls := "java/lang/StringUTF16", name := "newBytesLength", desc := "(I)I" } : Jvm.MethodName) jdk_52_method_3_code (1 : Nat) (Option.some Jvm.ClassFile.FieldType.int), Jvm.Cond.code ({ cls := "java/lang/StringUTF16", name := "putChar", desc := "([BII)V" } : Jvm.MethodName) jdk_52_method_4_code (3 : Nat) (Option.none : Option Jvm.ClassFile.FieldType), Jvm.Cond.code ({ cls := "java/lang/StringUTF16", name := "getChar", desc := "([BI)C" } : Jvm.MethodName) jdk_52_method_5_code (2 : Nat) (Option.some Jvm.ClassFile.FieldType.char), Jvm.Cond.code ({ cls := "java/lang/StringUTF16", name := "charAt", desc := "([BI)C" } : Jvm.MethodName) jdk_52_method_83_code (2 : Nat) (Option.some Jvm.ClassFile.FieldType.char), Jvm.Cond.code ({ cls := "java/lang/StringUTF16", name := "checkIndex", desc := "(I[B)V" } : Jvm.MethodName) jdk_52_method_91_code (2 : Nat) (Option.none : Option Jvm.ClassFile.FieldType), Jvm.Cond.code ({ cls := "java/lang/StringUTF16", name := "length", desc := "([B)I" } : Jvm.MethodName) jdk_52_method_6_code (1 : Nat) (Option.some Jvm.ClassFile.FieldType.int)]
set_option maxRecDepth 65536 in
theorem codes_eq : words1.filter isCode = codes1 := rfl
theorem w_codes : ∀ c ∈ words1.filter isCode, c.before args0 about1 = true := by
  rw [codes_eq]
  intro c hc
  simp only [codes1, List.mem_cons, List.not_mem_nil, or_false] at hc
  rcases hc with rfl | rfl | rfl | rfl | rfl | rfl | rfl | rfl | rfl | rfl | rfl | rfl | rfl | rfl | rfl | rfl | rfl | rfl | rfl | rfl | rfl | rfl | rfl
  · exact w_c0
  · exact w_c1
  · exact w_c2
  · exact w_c3
  · exact w_c4
  · exact w_c5
  · exact w_c6
  · exact w_c7
  · exact w_c8
  · exact w_c9
  · exact w_c10
  · exact w_c11
  · exact w_c12
  · exact w_c13
  · exact w_c14
  · exact w_c15
  · exact w_c16
  · exact w_c17
  · exact w_c18
  · exact w_c19
  · exact w_c20
  · exact w_c21
  · exact w_c22
set_option maxRecDepth 65536 in
theorem w_t1 : (words1.take 24).all (fun c => isCode c || c.before args0 about1) = true := by decide +kernel
set_option maxRecDepth 65536 in
theorem w_t2 : ((words1.drop 24).take 24).all (fun c => isCode c || c.before args0 about1) = true := by decide +kernel
set_option maxRecDepth 65536 in
theorem w_t3 : (((words1.drop 24).drop 24).take 24).all (fun c => isCode c || c.before args0 about1) = true := by decide +kernel
set_option maxRecDepth 65536 in
theorem w_t4 : (((words1.drop 24).drop 24).drop 24).all (fun c => isCode c || c.before args0 about1) = true := by decide +kernel
theorem w_tables : (allAtoms (Jvm.Cond.code x code maxLocals ret :: tables_1)).before args0 about1 = true := by
  rw [allAtoms_all]
  show words1.all (fun c => c.before args0 about1) = true
  refine all_split ?_ w_codes
  rw [← List.take_append_drop 24 words1, List.all_append, w_t1, ← List.take_append_drop 24 (words1.drop 24), List.all_append, w_t2, ← List.take_append_drop 24 ((words1.drop 24).drop 24), List.all_append, w_t3, w_t4]
  rfl
set_option maxRecDepth 65536 in
theorem w_rest : rest_1_c.before args0 about1 = true := by decide +kernel
set_option maxRecDepth 65536 in
theorem w_case : (Jvm.Cond.and given_1 narrow_1).before args0 about1 = true := by decide +kernel
theorem w_applies : (headSpec (Jvm.Cond.code x code maxLocals ret :: tables_1) room_1).applies x e0.platform about1 = true :=
  (Spec.applies_iff w_frames).mpr ⟨w_running, w_runnable, w_alone, w_named, w_hears, w_ripe, w_room, w_tables⟩
theorem atStart : AtStart classFile x code maxLocals ret World_1 tables_1 room_1 Calls_1 rest_1 Pre_1 launch0 p0 e0 about1 theMethod args0 below0 :=
  ⟨lists_1, trivial, launch0.admits_env _ _ _, launch0.least_env, fairChoices_fair.cas, fairChoices_fair.clock, w_frames, w_args, w_heap, w_applies, trivial, w_rest, w_case⟩
end start1
theorem witness_1 : WitnessClaimed_1 := ⟨start1.p0, start1.e0, start1.about1, start1.theMethod, start1.args0, start1.below0, start1.atStart⟩
end Jvm.Pilot.@@N@@
