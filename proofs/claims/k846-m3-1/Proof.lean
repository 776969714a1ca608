import JvmDerived
import JvmDerived.Pilot.@@N@@Statement
import JvmDerived.Pilot.@@N@@Code
set_option linter.unusedVariables false
set_option linter.unusedSimpArgs false
namespace Jvm.Pilot.@@N@@
open Jvm Jvm.ClassFile Sem Op Lib Jvm.Free Jvm.Stand Jvm.LawKit Jvm.RoadKit Bundle Jvm.Pilot.@@N@@.Jvm.D
section Own
variable {p : Program} {l : Launch} {e : Env} {R : Room} {s : State} {m : MethodId} {args : Array Value} {below : List Frame} {meth : Method} {c : Code} {T : State} {locs : List Loc} {cells slots : Nat} {Z : State} {a0 : Array Value} {h : Heap} {Q : Option Value → Heap → List Loc → Prop} {kc kn : Nat}
/-- from S the method comes to its end, and what it leaves answers to Q -/
def own_Ends (p : Program) (e : Env) (below : List Frame) (s : State) (Q : Option Value → Heap → List Loc → Prop) (kc kn : Nat) (S : State) : Prop :=
  ∃ s₂ o, Steps p.tables e below S s₂ ∧ s₂.status = .running ∧ Ended s₂ below o ∧ ∃ v L, o = .returned v ∧ Q v s₂.heap L ∧ FrameEnd s o s₂ L kc kn
theorem own_pre {S S' : State} (st : ∀ t, Steps p.tables e below S' t → Steps p.tables e below S t) (k : own_Ends p e below s Q kc kn S') : own_Ends p e below s Q kc kn S := by
  obtain ⟨s₂, o, h1, r⟩ := k
  exact ⟨s₂, o, st _ h1, r⟩
theorem own_ret (X : Stand p l e R s m args below meth c T locs cells slots) (hx : p.tables.exec = Jvm.exec) (hlk : meth.locks = false) {pc : Nat} {Ls : Array Slot} {w : Value} {t : FieldType} {i : Instr} {rest : List Value} (hret : meth.sig.returnType = some t) (hn : narrow t w = w)
    (hi : (i = .ireturn ∧ (t = .int ∨ t = .boolean ∨ t = .byte ∨ t = .char ∨ t = .short) ∧ ∃ z, w = .int z) ∨ (i = .lreturn ∧ t = .long ∧ ∃ z, w = .long z) ∨ (i = .dreturn ∧ t = .double ∧ ∃ z, w = .double z) ∨ (i = .freturn ∧ t = .float ∧ ∃ z, w = .float z) ∨ (i = .areturn ∧ t.isReference = true ∧ w.isRef = true))
    (hd : decode c.code pc = .ok (i, 1)) (h1 : cells ≤ kc) (h2 : slots ≤ kn) (hQ : Q (some w) T.heap locs) : own_Ends p e below s Q kc kn (T.setTop (mkF m pc Ls (w :: rest))) := by
  obtain ⟨fs, hr, hrun, hended, hW, hsame⟩ := X.leave (v := some w) (fun h => by rw [hret] at h; cases h) hlk
  exact ⟨_, _, retOut X hx hret hn hi hd hr, hrun, hended, _, _, rfl, hQ, ⟨_, rfl⟩, hW, hsame.mono h1 h2⟩
theorem own_retV (X : Stand p l e R s m args below meth c T locs cells slots) (hx : p.tables.exec = Jvm.exec) (hlk : meth.locks = false) {pc : Nat} {Ls : Array Slot} (hret : meth.sig.returnType = none)
    (hd : decode c.code pc = .ok (.return_, 1)) (h1 : cells ≤ kc) (h2 : slots ≤ kn) (hQ : Q none T.heap locs) : own_Ends p e below s Q kc kn (T.setTop (mkF m pc Ls [])) := by
  obtain ⟨fs, hr, hrun, hended, hW, hsame⟩ := X.leave (v := none) (fun _ => rfl) hlk
  exact ⟨_, _, X.returnOut hx hret hd hr, hrun, hended, _, _, rfl, hQ, ⟨_, rfl⟩, hW, hsame.mono h1 h2⟩
/-- a contract: called with these arguments over this heap it returns, and Q says what it left -/
abbrev own_Met (l : Launch) (Z : State) (y : MethodName) (bytes : ByteArray) (maxL : Nat) (ret : Option FieldType) (ws : List Jvm.Cond) (rm : Room) (as' : Array Value) (h0 : Heap) (Q : Option Value → Heap → List Loc → Prop) : Prop :=
  MetFree l y (head1 (Jvm.Cond.code y bytes maxL ret :: ws) rm) (fun a U => a = as' ∧ Z.Warmed39 U.vm ∧ U.heap = h0) (fun _ _ _ _ _ => True) (fun _ U o U' => ∃ v L, o = .returned v ∧ Q v U'.heap L ∧ FrameEnd U o U' L rm.cells rm.slots)
theorem own_body {y : MethodName} {bytes : ByteArray} {maxL : Nat} {ret : Option FieldType} {ws : List Jvm.Cond} {rm : Room} {as' : Array Value} {h0 : Heap} (pn : plainFor y = true) (F : MethodId → JFrame) (hF : ∀ m, entryFrame m as' maxL = F m)
    (body : ∀ (p : Program) (e : Env) (s : State) (m : MethodId) (below : List Frame) (meth : Method) (c : Code) (T : State), p.tables.exec = Jvm.exec → c.code = bytes → c.maxLocals = maxL → meth.locks = false → meth.sig.returnType = ret → Z.Warmed39 s.vm → s.vm.findClass y.cls = some m.cls → meth.name = y.name →
      Stand p l e rm s m as' below meth c T [] 0 0 → T.heap = h0 → own_Ends p e below s Q rm.cells rm.slots (T.setTop (F m))) : own_Met l Z y bytes maxL ret ws rm as' h0 Q := by
  refine MetFree.of_bodySF pn hisR ?_
  intro p e s m args below meth c s₁ Bd hml0 hP hK
  obtain ⟨rfl, hZ, hh⟩ := hP
  have := body p e s m below meth c s₁ Bd.exec Bd.bytes hml0 (BodyLoose.notSynchronized Bd) Bd.returns hZ (findClass_of_methodNamed Bd.named) (name_of_methodNamed Bd.named Bd.method).1 (Stand.of_body Bd) (by rw [← hh, Bd.state]; rfl)
  rw [← hF m] at this
  exact this
theorem own_callS (X : Stand p l e R s m args below meth c T locs cells slots) (hx : p.tables.exec = Jvm.exec) (hZ : Z.Warmed39 s.vm) {own : String} {index : Nat} {y : MethodName} {bytes : ByteArray} {maxL : Nat} {ret : Option FieldType} {rm : Room} {Qc : Option Value → Heap → List Loc → Prop}
    (hown : s.vm.findClass own = some m.cls) (w1 : (Cond.methodLink own index y).before a0 Z = true) (w2 : (Cond.static y).before a0 Z = true) (w3 : (Cond.initialized y.cls).before a0 Z = true) (w4 : (Cond.code y bytes maxL ret).before a0 Z = true)
    (hy : y.cls ≠ "java/lang/invoke/MethodHandle" ∧ y.cls ≠ "java/lang/invoke/VarHandle") (eT : T.heap = h) {argsL rest st0 : List Value} (hM : own_Met l Z y bytes maxL ret [] rm argsL.toArray h Qc) {W pc : Nat} {Ls : Array Slot}
    (hsz : Ls.size = c.maxLocals) (hlen : ∀ sig, parseMethodDescriptor y.desc = some sig → argsL.length = sig.parameters.length) (hst : st0 = argsL.reverse ++ rest) (hW : (rest.map fun v => v.category).sum ≤ W) (hd : decode c.code pc = .ok (.invokestatic index, 3))
    (hf : rm.frames + 1 ≤ R.frames) (hl : W + (maxL + 11) + rm.locals ≤ R.locals) (hc : cells + rm.cells ≤ R.cells) (hs : slots + rm.slots ≤ R.slots)
    (k : ∀ v T' L, Stand p l e R s m args below meth c T' (locs ++ L) (cells + rm.cells) (slots + rm.slots) → Qc v T'.heap L → own_Ends p e below s Q kc kn (T'.setTop (mkF m (pc + 3) Ls (v.toList ++ rest)))) :
    own_Ends p e below s Q kc kn (T.setTop (mkF m pc Ls st0)) := by
  obtain ⟨v, _, ⟨T', L', k', n'⟩, -, X', ⟨Lc, hQ, l1, y1, z1⟩, st⟩ := Jvm.LawKit.callS X hx (y := y) hown (mvT hZ w1) (mvT hZ w2) (mvT hZ w3) (mvT hZ w4) hy (backOf (W := W) hM hZ w4 w3 hf hl) (g := mkF m pc Ls st0) rfl hsz (argsL := argsL) (rest := rest) hlen hst (by show 2 * 0 + _ ≤ _; simpa using hW) hd (fun _ _ => ⟨rfl, eT, hc, hs⟩)
  dsimp only [Pt.U, Pt.locs, Pt.cells, Pt.slots] at X' l1 y1 z1 st hQ
  subst l1 y1 z1
  exact own_pre st (k v T' Lc X' hQ)
theorem own_callI (X : Stand p l e R s m args below meth c T locs cells slots) (hx : p.tables.exec = Jvm.exec) (hZ : Z.Warmed39 s.vm) {own : String} {index : Nat} {y : MethodName} {bytes : ByteArray} {maxL : Nat} {rm : Room} {Qc : Option Value → Heap → List Loc → Prop} {b : Addr}
    (hown : s.vm.findClass own = some m.cls) (hy1 : y.name = "<init>") (w1 : (Cond.methodLink own index y).before a0 Z = true) (w2 : (Cond.instanceMethod y).before a0 Z = true) (w4 : (Cond.code y bytes maxL none).before a0 Z = true) (w3 : (Cond.initialized y.cls).before a0 Z = true)
    (hy : y.cls ≠ "java/lang/invoke/MethodHandle" ∧ y.cls ≠ "java/lang/invoke/VarHandle") (eT : T.heap = h) {argsL rest st0 : List Value} (hM : own_Met l Z y bytes maxL none [] rm (.ref b :: argsL).toArray h Qc) {W pc : Nat} {Ls : Array Slot}
    (hsz : Ls.size = c.maxLocals) (hlen : ∀ sig, parseMethodDescriptor y.desc = some sig → argsL.length = sig.parameters.length) (hst : st0 = argsL.reverse ++ .ref b :: rest) (hW : (rest.map fun v => v.category).sum ≤ W) (hd : decode c.code pc = .ok (.invokespecial index, 3))
    (hf : rm.frames + 1 ≤ R.frames) (hl : W + (maxL + 11) + rm.locals ≤ R.locals) (hc : cells + rm.cells ≤ R.cells) (hs : slots + rm.slots ≤ R.slots)
    (k : ∀ v T' L, Stand p l e R s m args below meth c T' (locs ++ L) (cells + rm.cells) (slots + rm.slots) → Qc v T'.heap L → own_Ends p e below s Q kc kn (T'.setTop (mkF m (pc + 3) Ls (v.toList ++ rest)))) :
    own_Ends p e below s Q kc kn (T.setTop (mkF m pc Ls st0)) := by
  obtain ⟨v, _, ⟨T', L', k', n'⟩, -, X', ⟨Lc, hQ, l1, y1, z1⟩, st⟩ := X.specialBack hx (y := y) hy1 hown (mvT hZ w1) (mvT hZ w2) (mvT hZ w4) hy (backOf (W := W) hM hZ w4 w3 hf hl) (g := mkF m pc Ls st0) rfl hsz (Steps.refl _) (a := b) (argsL := argsL) (rest := rest) hlen hst (by show 2 * 0 + _ ≤ _; simpa using hW) hd (fun _ _ => ⟨rfl, eT, hc, hs⟩)
  dsimp only [Pt.U, Pt.locs, Pt.cells, Pt.slots] at X' l1 y1 z1 st hQ
  subst l1 y1 z1
  exact own_pre (fun t k => st.trans k) (k v T' Lc X' hQ)
theorem own_callV (X : Stand p l e R s m args below meth c T locs cells slots) (hx : p.tables.exec = Jvm.exec) (hZ : Z.Warmed39 s.vm) {own C : String} {index : Nat} {y : MethodName} {bytes : ByteArray} {maxL : Nat} {ret : Option FieldType} {rm : Room} {Qc : Option Value → Heap → List Loc → Prop} {b : Addr}
    (hown : s.vm.findClass own = some m.cls) (w1 : (Cond.methodLink own index y).before a0 Z = true) (w2 : (Cond.declares y).before a0 Z = true) (w3 : (Cond.selects C y y).before a0 Z = true) (w4 : (Cond.instanceMethod y).before a0 Z = true) (w5 : (Cond.code y bytes maxL ret).before a0 Z = true) (w6 : (Cond.initialized y.cls).before a0 Z = true)
    (hy : y.cls ≠ "java/lang/invoke/MethodHandle" ∧ y.cls ≠ "java/lang/invoke/VarHandle") (eT : T.heap = h) (E : Exa Z h b C) {argsL rest st0 : List Value} (hM : own_Met l Z y bytes maxL ret [] rm (.ref b :: argsL).toArray h Qc) {W pc : Nat} {Ls : Array Slot}
    (hsz : Ls.size = c.maxLocals) (hlen : ∀ sig, parseMethodDescriptor y.desc = some sig → argsL.length = sig.parameters.length) (hst : st0 = argsL.reverse ++ .ref b :: rest) (hW : (rest.map fun v => v.category).sum ≤ W) (hd : decode c.code pc = .ok (.invokevirtual index, 3))
    (hf : rm.frames + 1 ≤ R.frames) (hl : W + (maxL + 11) + rm.locals ≤ R.locals) (hc : cells + rm.cells ≤ R.cells) (hs : slots + rm.slots ≤ R.slots)
    (k : ∀ v T' L, Stand p l e R s m args below meth c T' (locs ++ L) (cells + rm.cells) (slots + rm.slots) → Qc v T'.heap L → own_Ends p e below s Q kc kn (T'.setTop (mkF m (pc + 3) Ls (v.toList ++ rest)))) :
    own_Ends p e below s Q kc kn (T.setTop (mkF m pc Ls st0)) := by
  obtain ⟨cq, kq, qa, qb, qc⟩ := isOf hZ eT E
  obtain ⟨v, _, ⟨T', L', k', n'⟩, -, X', ⟨Lc, hQ, l1, y1, z1⟩, st⟩ := X.virtualBack hx (y := y) (z := y) hown (mvT hZ w1) (mvT hZ w2) (notFace_of_selects (args := #[]) (mvT hZ w3)) (mvT hZ w3) (mvT hZ w4) hy (backOf (W := W) hM hZ w5 w6 hf hl) qa qc (g := mkF m pc Ls st0) rfl hsz (Steps.refl _) (argsL := argsL) (rest := rest) hlen hst (by show 2 * 0 + _ ≤ _; simpa using hW) hd (fun _ _ => ⟨rfl, eT, hc, hs⟩)
  dsimp only [Pt.U, Pt.locs, Pt.cells, Pt.slots] at X' l1 y1 z1 st hQ
  subst l1 y1 z1
  exact own_pre (fun t k => st.trans k) (k v T' Lc X' hQ)
theorem own_eqi {t : Term} {k : Int32} {args : Array Value} {s : State} (h : (Jvm.Cond.eq t (Term.int k)).value args s none s [] = some true) : t.eval args s none [] s = some (.int k) := by
  obtain ⟨x, y, h1, h2, -, h3⟩ := cmp_v (Or.inl h)
  have h4 : y = .int k := (Option.some.inj ((Term.int_eval k).symm.trans h2)).symm
  subst h4
  obtain ⟨z, rfl⟩ := h3
  have h5 : (Jvm.Cond.eq t (Term.int k)).value args s none s [] = some (decide (z = k)) := by simp [Cond.value, h1, h2]
  rw [h1, gotT h5 h]
theorem own_fieldOf {t : Term} {C n d : String} {k : Int32} {a : Addr} {args : Array Value} {s : State} (ht : t.eval args s none [] s = some (.ref a)) (h : (Jvm.Cond.eq (Term.field t C n d) (Term.int k)).value args s none s [] = some true) : Fld s s.heap a C n d (.int k) :=
  Fld.start ((fld_at ht).symm.trans (own_eqi h))
theorem own_st1 {Ls Ls' : Array Slot} {k : Nat} {o : Slot} {v : Value} (hold : Ls[k]? = some o) (ho : One o) (hv : v.category = 1) (he : Ls.setIfInBounds k (.val v) = Ls') : storeLocals Ls k v = some Ls' := he ▸ XS.store1 hold ho hv
theorem own_catV {v : Value} (hv : v.isRef = true) : v.category = 1 := by rcases ref_cases hv with rfl | ⟨_, rfl⟩ <;> rfl
theorem own_narV {v : Value} {t : FieldType} (hv : v.isRef = true) (ht : t.isReference = true) : narrow t v = v := by
  rcases ref_cases hv with rfl | ⟨_, rfl⟩ <;> cases t <;> first | rfl | (cases ht; done)
theorem own_narC {x : Int32} (h : 0 ≤ x.toInt ∧ x.toInt ≤ 65535) : nar .char x = x := by
  have q := c_i2c x
  rw [← Int32.toInt_inj]
  show (x.toUInt32.toUInt16.toUInt32.toInt32).toInt = x.toInt
  omega
theorem own_narZ {x : Int32} (h : x = 0 ∨ x = 1) : narrow .boolean (.int x) = .int x := by rcases h with rfl | rfl <;> rfl
def own_plain (h : Heap) (x : Addr) : Prop := ∃ c : Cell, h[x]? = some c ∧ c.vm.isStatics = false
theorem own_plainE {a : Addr} {C : String} (F : Exa Z h a C) : own_plain h a := by obtain ⟨c, k, h1, -, -, h4, -⟩ := F; exact ⟨c, h1, h4⟩
theorem own_sta_keep {h' : Heap} {ws : List Addr} {C n d : String} {v : Value} (F : Sta Z h C n d v) (K : Keep h h' ws) (q : ∀ x ∈ ws, own_plain h x) : Sta Z h' C n d v := by
  obtain ⟨cf, i, k, f, st, cell, h1, h2, h3, h4, h5, h6, h7⟩ := F
  refine ⟨cf, i, k, f, st, cell, h1, h2, h3, h4, K.2.1 _ _ h5 fun y => ?_, h6, h7⟩
  obtain ⟨c, z1, z2⟩ := q _ y
  cases h5.symm.trans z1
  rw [z2] at h6; cases h6
end Own
abbrev own_F (T : State) (m : MethodId) (pc : Nat) (Ls : Array Slot) (st : List Value) : State := T.setTop (mkF m pc Ls st)
theorem own_g {p : Program} {e : Env} {s : State} {below : List Frame} {Q : Option Value → Heap → List Loc → Prop} {kc kn : Nat} {S : State} (S' : State) (st : ∀ t, Steps p.tables e below S' t → Steps p.tables e below S t) (k : own_Ends p e below s Q kc kn S') : own_Ends p e below s Q kc kn S := own_pre st k
theorem own_w {a0 : Array Value} {Z : State} (hw : ∀ d ∈ tables_1, d.before a0 Z = true) (i : Nat) {d : Jvm.Cond} (h : tables_1[i]? = some d := by rfl) : d.before a0 Z = true := hw _ (List.mem_of_getElem? h)
section OwnArr
variable {p : Program} {l : Launch} {e : Env} {R : Room} {s : State} {m : MethodId} {args : Array Value} {below : List Frame} {meth : Method} {c : Code} {T : State} {locs : List Loc} {cells slots : Nat} {Z : State} {a0 : Array Value} {h h' : Heap} {Q : Option Value → Heap → List Loc → Prop} {kc kn : Nat} {a b : Addr} {ty : FieldType} {n : Nat} {f : Nat → Value}
/-- in h there lies at a an array of n components of the kind ty, the i-th is f i -/
def own_A (Z : State) (h : Heap) (a : Addr) (ty : FieldType) (n : Nat) (f : Nat → Value) : Prop := n < 2 ^ 31 ∧ ∃ cl : Cell, Arr Z h a cl ty ∧ cl.slots.size = n ∧ ∀ i, i < n → cl.slots[i]? = some (f i)
theorem own_A.lt (F : own_A Z h a ty n f) : a < h.size := by obtain ⟨_, c, A, -⟩ := F; exact A.lt
theorem own_A.ext (F : own_A Z h a ty n f) (E : Ext h h') : own_A Z h' a ty n f := by obtain ⟨q, c, A, r⟩ := F; exact ⟨q, c, A.ext E, r⟩
theorem own_A.other {sl : Nat} {v : Value} (F : own_A Z h b ty n f) (W : Wr h h' a sl v) (q : b ≠ a) : own_A Z h' b ty n f := by obtain ⟨r0, c, A, r⟩ := F; exact ⟨r0, c, A.other W q, r⟩
theorem own_A.keep {ws : List Addr} (F : own_A Z h a ty n f) (K : Keep h h' ws) (q : a ∉ ws) : own_A Z h' a ty n f := by obtain ⟨r0, c, A, r⟩ := F; exact ⟨r0, c, ⟨K.2.1 a c A.1 q, A.2⟩, r⟩
theorem own_A.congr {g : Nat → Value} (F : own_A Z h a ty n f) (q : ∀ i, i < n → f i = g i) : own_A Z h a ty n g := by obtain ⟨r0, c, A, r1, r2⟩ := F; exact ⟨r0, c, A, r1, fun i hi => by rw [r2 i hi, q i hi]⟩
theorem own_clamp {j : Int32} {i : Nat} (hj : j.toInt = (i : Int)) : ¬ j < 0 ∧ j.toNatClampNeg = i := by
  refine ⟨fun q => ?_, ?_⟩
  · rw [Int32.lt_iff_toInt_lt, hj, Int32.toInt_zero] at q; omega
  · show j.toInt.toNat = i
    rw [hj]; exact Int.toNat_natCast i
theorem own_in {j : Int32} {i : Nat} {cl : Cell} (hj : j.toInt = (i : Int)) (hi : i < cl.slots.size) : ¬ (j < 0 ∨ cl.slots.size ≤ j.toNatClampNeg) := by
  obtain ⟨q1, q2⟩ := own_clamp hj
  rw [q2]
  intro q
  rcases q with q | q
  · exact q1 q
  · omega
theorem own_alen (X : Stand p l e R s m args below meth c T locs cells slots) (hx : p.tables.exec = Jvm.exec) (hZ : Z.Warmed39 s.vm) (eT : T.heap = h) (A : own_A Z h a ty n f) {pc : Nat} {Ls : Array Slot} {rest : List Value} (hd : decode c.code pc = .ok (.arraylength, 1))
    (k : own_Ends p e below s Q kc kn (T.setTop (mkF m (pc + 1) Ls (.int n.toInt32 :: rest)))) : own_Ends p e below s Q kc kn (T.setTop (mkF m pc Ls (.ref a :: rest))) := by
  obtain ⟨-, cl, Ar, rfl, -⟩ := A
  exact own_pre (X.arraylength hx (by rw [eT]; exact Ar.1) (State.isArrayOf_alike hZ.alike Ar.2.1) (g := mkF m pc Ls (.ref a :: rest)) rfl rfl hd) k
theorem own_iald (X : Stand p l e R s m args below meth c T locs cells slots) (hx : p.tables.exec = Jvm.exec) (hZ : Z.Warmed39 s.vm) (eT : T.heap = h) {g : Nat → Int32} (A : own_A Z h a .int n (fun i => .int (g i))) {pc : Nat} {Ls : Array Slot} {rest : List Value} {j : Int32} (i : Nat) (hj : j.toInt = (i : Int)) (hi : i < n) (hd : decode c.code pc = .ok (.iaload, 1))
    (k : own_Ends p e below s Q kc kn (T.setTop (mkF m (pc + 1) Ls (.int (g i) :: rest)))) : own_Ends p e below s Q kc kn (T.setTop (mkF m pc Ls (.int j :: .ref a :: rest))) := by
  obtain ⟨-, cl, Ar, rfl, hv⟩ := A
  exact own_pre (X.iaload hx (j := j) (v := .int (g i)) (by rw [eT]; exact Ar.1) (State.isArrayOf_alike hZ.alike Ar.2.1) Ar.2.2 (own_in hj hi) (by rw [(own_clamp hj).2]; exact hv i hi) (g := mkF m pc Ls (.int j :: .ref a :: rest)) rfl rfl hd) k
theorem own_cald (X : Stand p l e R s m args below meth c T locs cells slots) (hx : p.tables.exec = Jvm.exec) (hZ : Z.Warmed39 s.vm) (eT : T.heap = h) {g : Nat → Int32} (A : own_A Z h a .char n (fun i => .int (g i))) {pc : Nat} {Ls : Array Slot} {rest : List Value} {j : Int32} (i : Nat) (hj : j.toInt = (i : Int)) (hi : i < n) (hd : decode c.code pc = .ok (.caload, 1))
    (k : own_Ends p e below s Q kc kn (T.setTop (mkF m (pc + 1) Ls (.int (g i) :: rest)))) : own_Ends p e below s Q kc kn (T.setTop (mkF m pc Ls (.int j :: .ref a :: rest))) := by
  obtain ⟨-, cl, Ar, rfl, hv⟩ := A
  exact own_pre (X.caload hx (j := j) (v := .int (g i)) (by rw [eT]; exact Ar.1) (State.isArrayOf_alike hZ.alike Ar.2.1) Ar.2.2 (own_in hj hi) (by rw [(own_clamp hj).2]; exact hv i hi) (g := mkF m pc Ls (.int j :: .ref a :: rest)) rfl rfl hd) k
theorem own_bald (X : Stand p l e R s m args below meth c T locs cells slots) (hx : p.tables.exec = Jvm.exec) (hZ : Z.Warmed39 s.vm) (eT : T.heap = h) {g : Nat → Int32} (A : own_A Z h a .byte n (fun i => .int (g i))) {pc : Nat} {Ls : Array Slot} {rest : List Value} {j : Int32} (i : Nat) (hj : j.toInt = (i : Int)) (hi : i < n) (hd : decode c.code pc = .ok (.baload, 1))
    (k : own_Ends p e below s Q kc kn (T.setTop (mkF m (pc + 1) Ls (.int (g i) :: rest)))) : own_Ends p e below s Q kc kn (T.setTop (mkF m pc Ls (.int j :: .ref a :: rest))) := by
  obtain ⟨-, cl, Ar, rfl, hv⟩ := A
  exact own_pre (X.baloadBytes hx (j := j) (v := .int (g i)) (by rw [eT]; exact Ar.1) (State.isArrayOf_alike hZ.alike Ar.2.1) Ar.2.2 (own_in hj hi) (by rw [(own_clamp hj).2]; exact hv i hi) (g := mkF m pc Ls (.int j :: .ref a :: rest)) rfl rfl hd) k
theorem own_lald (X : Stand p l e R s m args below meth c T locs cells slots) (hx : p.tables.exec = Jvm.exec) (hZ : Z.Warmed39 s.vm) (eT : T.heap = h) {g : Nat → Int64} (A : own_A Z h a .long n (fun i => .long (g i))) {pc : Nat} {Ls : Array Slot} {rest : List Value} {j : Int32} (i : Nat) (hj : j.toInt = (i : Int)) (hi : i < n) (hd : decode c.code pc = .ok (.laload, 1))
    (k : own_Ends p e below s Q kc kn (T.setTop (mkF m (pc + 1) Ls (.long (g i) :: rest)))) : own_Ends p e below s Q kc kn (T.setTop (mkF m pc Ls (.int j :: .ref a :: rest))) := by
  obtain ⟨-, cl, Ar, rfl, hv⟩ := A
  exact own_pre (X.laload hx (j := j) (v := .long (g i)) (by rw [eT]; exact Ar.1) (State.isArrayOf_alike hZ.alike Ar.2.1) Ar.2.2 (own_in hj hi) (by rw [(own_clamp hj).2]; exact hv i hi) (g := mkF m pc Ls (.int j :: .ref a :: rest)) rfl rfl hd) k
theorem own_aald (X : Stand p l e R s m args below meth c T locs cells slots) (hx : p.tables.exec = Jvm.exec) (hZ : Z.Warmed39 s.vm) (eT : T.heap = h) (hty : ty.isReference = true) (A : own_A Z h a ty n f) {pc : Nat} {Ls : Array Slot} {rest : List Value} {j : Int32} (i : Nat) (hj : j.toInt = (i : Int)) (hi : i < n) (hd : decode c.code pc = .ok (.aaload, 1))
    (k : own_Ends p e below s Q kc kn (T.setTop (mkF m (pc + 1) Ls (f i :: rest)))) : own_Ends p e below s Q kc kn (T.setTop (mkF m pc Ls (.int j :: .ref a :: rest))) := by
  obtain ⟨-, cl, Ar, rfl, hv⟩ := A
  exact own_pre (X.aaload hx (j := j) (v := f i) (by rw [eT]; exact Ar.1) (State.isArrayOf_alike hZ.alike Ar.2.1) hty Ar.2.2 (own_in hj hi) (by rw [(own_clamp hj).2]; exact hv i hi) (g := mkF m pc Ls (.int j :: .ref a :: rest)) rfl rfl hd) k
/-- the array behind a store -/
theorem own_A.set {cl : Cell} {i : Nat} {v : Value} (q : n < 2 ^ 31) (Ar : Arr Z h a cl ty) (hn : cl.slots.size = n) (hv : ∀ i, i < n → cl.slots[i]? = some (f i)) (W : Wr h h' a i v) (hi : i < n) : own_A Z h' a ty n (fun k => if k = i then v else f k) := by
  refine ⟨q, _, Ar.same W, by rw [sz_set, hn], fun k hk => ?_⟩
  by_cases e : k = i
  · subst e; simp [Cell.setSlot, hn, hk]
  · have := hv k hk
    simp only [e, if_false]
    rw [← this]
    exact Array.getElem?_setIfInBounds_ne (Ne.symm e)
theorem own_iast (X : Stand p l e R s m args below meth c T locs cells slots) (hx : p.tables.exec = Jvm.exec) (hZ : Z.Warmed39 s.vm) (eT : T.heap = h) {g : Nat → Int32} (A : own_A Z h a .int n (fun i => .int (g i))) {pc : Nat} {Ls : Array Slot} {rest : List Value} {j x : Int32} (i : Nat) (hj : j.toInt = (i : Int)) (hi : i < n) (hd : decode c.code pc = .ok (.iastore, 1))
    (k : ∀ T' h', Stand p l e R s m args below meth c T' (locs ++ [⟨a, i⟩]) cells slots → T'.heap = h' → Wr h h' a i (.int x) → own_A Z h' a .int n (fun k => .int (if k = i then x else g k)) → own_Ends p e below s Q kc kn (T'.setTop (mkF m (pc + 1) Ls rest))) :
    own_Ends p e below s Q kc kn (T.setTop (mkF m pc Ls (.int x :: .int j :: .ref a :: rest))) := by
  obtain ⟨q, cl, Ar, hn, hv⟩ := A
  obtain ⟨T', h', X', e', W, st⟩ := stI X hx hZ eT Ar (j := j) (x := x) (own_in hj (by rw [hn]; exact hi)) (g := mkF m pc Ls (.int x :: .int j :: .ref a :: rest)) rfl rfl hd
  rw [(own_clamp hj).2] at X' W
  exact own_pre st (k T' h' X' e' W ((own_A.set q Ar hn hv W hi).congr fun k _ => by by_cases z : k = i <;> simp [z]))
theorem own_last (X : Stand p l e R s m args below meth c T locs cells slots) (hx : p.tables.exec = Jvm.exec) (hZ : Z.Warmed39 s.vm) (eT : T.heap = h) {g : Nat → Int64} (A : own_A Z h a .long n (fun i => .long (g i))) {pc : Nat} {Ls : Array Slot} {rest : List Value} {j : Int32} {x : Int64} (i : Nat) (hj : j.toInt = (i : Int)) (hi : i < n) (hd : decode c.code pc = .ok (.lastore, 1))
    (k : ∀ T' h', Stand p l e R s m args below meth c T' (locs ++ [⟨a, i⟩]) cells slots → T'.heap = h' → Wr h h' a i (.long x) → own_A Z h' a .long n (fun k => .long (if k = i then x else g k)) → own_Ends p e below s Q kc kn (T'.setTop (mkF m (pc + 1) Ls rest))) :
    own_Ends p e below s Q kc kn (T.setTop (mkF m pc Ls (.long x :: .int j :: .ref a :: rest))) := by
  obtain ⟨q, cl, Ar, hn, hv⟩ := A
  obtain ⟨T', h', X', e', W, st⟩ := stJ X hx hZ eT Ar (j := j) (x := x) (own_in hj (by rw [hn]; exact hi)) (g := mkF m pc Ls (.long x :: .int j :: .ref a :: rest)) rfl rfl hd
  rw [(own_clamp hj).2] at X' W
  exact own_pre st (k T' h' X' e' W ((own_A.set q Ar hn hv W hi).congr fun k _ => by by_cases z : k = i <;> simp [z]))
theorem own_cast (X : Stand p l e R s m args below meth c T locs cells slots) (hx : p.tables.exec = Jvm.exec) (hZ : Z.Warmed39 s.vm) (eT : T.heap = h) {g : Nat → Int32} (A : own_A Z h a .char n (fun i => .int (g i))) {pc : Nat} {Ls : Array Slot} {rest : List Value} {j x : Int32} (i : Nat) (hj : j.toInt = (i : Int)) (hi : i < n) (x' : Int32) (hx' : nar .char x = x') (hd : decode c.code pc = .ok (.castore, 1))
    (k : ∀ T' h', Stand p l e R s m args below meth c T' (locs ++ [⟨a, i⟩]) cells slots → T'.heap = h' → Wr h h' a i (.int x') → own_A Z h' a .char n (fun k => .int (if k = i then x' else g k)) → own_Ends p e below s Q kc kn (T'.setTop (mkF m (pc + 1) Ls rest))) :
    own_Ends p e below s Q kc kn (T.setTop (mkF m pc Ls (.int x :: .int j :: .ref a :: rest))) := by
  subst hx'
  obtain ⟨q, cl, Ar, hn, hv⟩ := A
  obtain ⟨T', h', X', e', W, st⟩ := stC X hx hZ eT Ar (j := j) (x := x) (own_in hj (by rw [hn]; exact hi)) (g := mkF m pc Ls (.int x :: .int j :: .ref a :: rest)) rfl rfl hd
  rw [(own_clamp hj).2] at X' W
  exact own_pre st (k T' h' X' e' W ((own_A.set q Ar hn hv W hi).congr fun k _ => by by_cases z : k = i <;> simp [z]))
theorem own_bast (X : Stand p l e R s m args below meth c T locs cells slots) (hx : p.tables.exec = Jvm.exec) (hZ : Z.Warmed39 s.vm) (eT : T.heap = h) {g : Nat → Int32} (A : own_A Z h a .byte n (fun i => .int (g i))) {pc : Nat} {Ls : Array Slot} {rest : List Value} {j x : Int32} (i : Nat) (hj : j.toInt = (i : Int)) (hi : i < n) (x' : Int32) (hx' : nar .byte x = x') (hd : decode c.code pc = .ok (.bastore, 1))
    (k : ∀ T' h', Stand p l e R s m args below meth c T' (locs ++ [⟨a, i⟩]) cells slots → T'.heap = h' → Wr h h' a i (.int x') → own_A Z h' a .byte n (fun k => .int (if k = i then x' else g k)) → own_Ends p e below s Q kc kn (T'.setTop (mkF m (pc + 1) Ls rest))) :
    own_Ends p e below s Q kc kn (T.setTop (mkF m pc Ls (.int x :: .int j :: .ref a :: rest))) := by
  subst hx'
  obtain ⟨q, cl, Ar, hn, hv⟩ := A
  obtain ⟨T', h', X', e', W, st⟩ := stB X hx hZ eT Ar (j := j) (x := x) (own_in hj (by rw [hn]; exact hi)) (g := mkF m pc Ls (.int x :: .int j :: .ref a :: rest)) rfl rfl hd
  rw [(own_clamp hj).2] at X' W
  exact own_pre st (k T' h' X' e' W ((own_A.set q Ar hn hv W hi).congr fun k _ => by by_cases z : k = i <;> simp [z]))
theorem own_newA (X : Stand p l e R s m args below meth c T locs cells slots) (hx : p.tables.exec = Jvm.exec) (hZ : Z.Warmed39 s.vm) {aty : ArrayType} (ty : FieldType) (hty : newarray.typeOf aty = ty) (w : (Cond.arrayClass ty).before a0 Z = true) (eT : T.heap = h) {pc : Nat} {Ls : Array Slot} {rest : List Value} {j : Int32} (hd : decode c.code pc = .ok (.newarray aty, 2))
    (n : Nat) (hj : j.toInt = (n : Int)) (cap : Nat) (hcap : n ≤ cap) (hb : cap * 8 ≤ 536870912) (hc : cells + 1 ≤ R.cells) (hl : slots + cap ≤ R.slots)
    (k : ∀ T' h' (b : Addr), Stand p l e R s m args below meth c T' locs (cells + 1) (slots + cap) → T'.heap = h' → Ext h h' → b = h.size → own_A Z h' b ty n (fun _ => defaultValue ty) → own_Ends p e below s Q kc kn (T'.setTop (mkF m (pc + 2) Ls (.ref b :: rest)))) :
    own_Ends p e below s Q kc kn (T.setTop (mkF m pc Ls (.int j :: rest))) := by
  subst hty
  obtain ⟨q1, q2⟩ := own_clamp hj
  obtain ⟨T', h', cA, X', e', E, A, st⟩ := newP X hx hZ w eT (g := mkF m pc Ls (.int j :: rest)) rfl hd rfl q1 (cap := cap) (by rw [q2]; exact hcap) hb hc hl
  refine own_pre st (k T' h' _ X' e' E rfl ⟨by omega, _, A, by rw [sz_new, q2], fun i hi => ?_⟩)
  simp [newA, q2, hi]
theorem own_lenS {t : Term} {k : Int32} {args : Array Value} {s : State} {cl : Cell} (ht : t.eval args s none [] s = some (.ref a)) (A : Arr s s.heap a cl ty) (h : (Jvm.Cond.eq (Term.length t) (Term.int k)).value args s none s [] = some true) : cl.slots.size.toInt32 = k ∧ cl.slots.size < 2 ^ 31 := by
  have h1 := own_eqi h
  have h2 : s.arrayAt? a = some cl := Arr.fin (Vm.Alike.refl _) A
  by_cases q : cl.slots.size < 2 ^ 31
  · rw [len_f ht h2 q] at h1
    exact ⟨Value.int.inj (Option.some.inj h1), q⟩
  · simp [Term.eval, ht, h2, q] at h1
theorem own_plainA (F : own_A Z h a ty n f) : own_plain h a := by obtain ⟨_, c, A, -⟩ := F; exact ⟨c, A.1, A.plain⟩
theorem own_sz {k : Int32} (h : n.toInt32 = k) (q : n < 2 ^ 31) : (n : Int) = k.toInt := by rw [← h, len_toInt q]
theorem own_sz0 (h : n.toInt32 = 0) (q : n < 2 ^ 31) : n = 0 := by
  have := own_sz h q
  rw [Int32.toInt_zero] at this; omega
end OwnArr
section OwnCp
variable {p : Program} {l : Launch} {e : Env} {R : Room} {s : State} {m : MethodId} {args : Array Value} {below : List Frame} {meth : Method} {c : Code} {T : State} {locs : List Loc} {cells slots : Nat} {Z : State} {a0 : Array Value} {h h' : Heap} {Q : Option Value → Heap → List Loc → Prop} {kc kn : Nat} {a b : Addr} {ty : FieldType} {n n' : Nat} {f f' : Nat → Value}
theorem own_rgetD (f : Nat → Value) (d : Value) {n i : Nat} (hi : i < n) : ((List.range n).map f).getD i d = f i := by simp [List.getD_eq_getElem?_getD, hi]
theorem own_toArv (F : own_A Z h a ty n f) (hf : ∀ i, fits ty (f i) = true) (d : Value) : ∃ k, Arv Z h a k ty n.toInt32 ((List.range n).map f) d := by
  obtain ⟨q, cl, A, S, V⟩ := F
  have e := own_clamp (len_toInt q)
  refine ⟨cl.cls, cl, A, rfl, by rw [S, e.2], e.1, fun i hi => ?_, fun i hi => ?_⟩
  · rw [S] at hi; rw [own_rgetD f d hi]; exact V i hi
  · rw [S] at hi; rw [own_rgetD f d hi]; exact hf i
theorem own_ofArv {k : ClassId} {z : Int32} {vs : List Value} {d : Value} (F : Arv Z h a k ty z vs d) (hz : z.toNatClampNeg = n) (hn : n < 2 ^ 31) : own_A Z h a ty n (fun i => vs.getD i d) := by
  obtain ⟨c, A, -, S, -, H, -⟩ := F
  exact ⟨hn, c, A, by rw [S, hz], fun i hi => H i (by rw [S, hz]; exact hi)⟩
theorem own_cp (X : Stand p l e R s m args below meth c T locs cells slots) (hx : p.tables.exec = Jvm.exec) (hZ : Z.Warmed39 s.vm) {own : String} {index : Nat} (hown : s.vm.findClass own = some m.cls)
    (w1 : (Cond.methodLink own index Jvm.Stand.acN).before a0 Z = true) (w2 : (Cond.native Jvm.Stand.acN).before a0 Z = true) (w3 : (Cond.static Jvm.Stand.acN).before a0 Z = true) (w4 : (Cond.initialized "java/lang/System").before a0 Z = true) (eT : T.heap = h)
    (A : own_A Z h a ty n f) (B : own_A Z h b ty n' f') (hfA : ∀ i, fits ty (f i) = true) (hfB : ∀ i, fits ty (f' i) = true) (hp : refKind ty = false) {nn : Int32} (k : Nat) (hk : nn.toInt = (k : Int)) (hkn : k ≤ n) (hkn' : k ≤ n') {n0 : Nat} (N : Fr n0 locs) (ge : n0 ≤ b)
    {pc : Nat} {Ls : Array Slot} (hsz : Ls.size = c.maxLocals) {rest : List Value} (hd : decode c.code pc = .ok (.invokestatic index, 3)) (hfr : 1 ≤ R.frames) {W : Nat} (hW : (rest.map fun v => v.category).sum ≤ W) (hlo : W + 18 ≤ R.locals)
    (kk : ∀ T' h' L, Stand p l e R s m args below meth c T' L cells slots → T'.heap = h' → Fr n0 L → Keep h h' [b] → own_A Z h' b ty n' (fun i => if i < k then f i else f' i) → own_Ends p e below s Q kc kn (T'.setTop (mkF m (pc + 3) Ls rest))) :
    own_Ends p e below s Q kc kn (T.setTop (mkF m pc Ls (.int nn :: .int 0 :: .ref b :: .int 0 :: .ref a :: rest))) := by
  obtain ⟨k1, A1⟩ := own_toArv A hfA (.int 0)
  obtain ⟨k2, B1⟩ := own_toArv B hfB (.int 0)
  have e1 := own_clamp (len_toInt A.1)
  have e2 := own_clamp (len_toInt B.1)
  have e3 := own_clamp hk
  have z0 : (0 : Int32).toNatClampNeg = 0 := by decide
  obtain ⟨T', h', L, X', e', N', K, V, st⟩ := cpA X hx hZ hown w1 w2 w3 w4 eT (sp := 0) (dp := 0) (nn := nn) (us := (List.range nn.toNatClampNeg).map fun i => ((List.range n).map f).getD ((0 : Int32).toNatClampNeg + i) (.int 0)) A1 B1 (Or.inl ⟨rfl, hp⟩) (by decide) (by decide) e3.1 (by rw [z0, e1.2, e3.2]; omega) (by rw [z0, e2.2, e3.2]; omega) rfl (by rw [z0, e3.2]; simp; omega) N ge (g := mkF m pc Ls (.int nn :: .int 0 :: .ref b :: .int 0 :: .ref a :: rest)) rfl hsz rfl hd hfr (W := W) (by show 2 * 0 + _ ≤ _; simpa using hW) (by show W + (7 + 11) ≤ _; omega)
  refine own_pre st (kk T' h' L X' e' N' K ((own_ofArv V e2.2 B.1).congr fun i hi => ?_))
  rw [z0, e3.2]
  simp only [List.take_zero, List.nil_append, Nat.zero_add, List.getD_eq_getElem?_getD]
  by_cases q : i < k
  · have q2 : i < n := by omega
    rw [List.getElem?_append_left (by simpa using q)]
    simp [q, q2]
  · rw [List.getElem?_append_right (by simp; omega)]
    have q3 : k + (i - k) = i := by omega
    simp [q, List.getElem?_drop, q3, hi]
theorem own_callP (X : Stand p l e R s m args below meth c T locs cells slots) (hx : p.tables.exec = Jvm.exec) (hZ : Z.Warmed39 s.vm) {own C : String} {index : Nat} {y : MethodName} {bytes : ByteArray} {maxL : Nat} {ret : Option FieldType} {rm : Room} {Qc : Option Value → Heap → List Loc → Prop} {b : Addr}
    (hown : s.vm.findClass own = some m.cls) (w1 : (Cond.methodLink own index y).before a0 Z = true) (w2 : (Cond.instanceMethod y).before a0 Z = true) (w3 : (Cond.selects y.cls y y).before a0 Z = true) (w4 : (Cond.privateMethod y).before a0 Z = true) (w5 : (Cond.code y bytes maxL ret).before a0 Z = true) (w6 : (Cond.initialized y.cls).before a0 Z = true)
    (hy : y.cls ≠ "java/lang/invoke/MethodHandle" ∧ y.cls ≠ "java/lang/invoke/VarHandle") (eT : T.heap = h) (E : Exa Z h b C) {argsL rest st0 : List Value} (hM : own_Met l Z y bytes maxL ret [] rm (.ref b :: argsL).toArray h Qc) {W pc : Nat} {Ls : Array Slot}
    (hsz : Ls.size = c.maxLocals) (hlen : ∀ sig, parseMethodDescriptor y.desc = some sig → argsL.length = sig.parameters.length) (hst : st0 = argsL.reverse ++ .ref b :: rest) (hW : (rest.map fun v => v.category).sum ≤ W) (hd : decode c.code pc = .ok (.invokevirtual index, 3))
    (hf : rm.frames + 1 ≤ R.frames) (hl : W + (maxL + 11) + rm.locals ≤ R.locals) (hc : cells + rm.cells ≤ R.cells) (hs : slots + rm.slots ≤ R.slots)
    (k : ∀ v T' L, Stand p l e R s m args below meth c T' (locs ++ L) (cells + rm.cells) (slots + rm.slots) → Qc v T'.heap L → own_Ends p e below s Q kc kn (T'.setTop (mkF m (pc + 3) Ls (v.toList ++ rest)))) :
    own_Ends p e below s Q kc kn (T.setTop (mkF m pc Ls st0)) := by
  obtain ⟨cq, q1, q2⟩ := E.cell
  obtain ⟨v, _, ⟨T', L', k', n'⟩, -, X', ⟨Lc, hQ, l1, y1, z1⟩, st⟩ := X.privateBack hx (y := y) hown (mvT hZ w1) (mvT hZ w2) (mvT hZ w3) (Cond.privateMethod_at (mvP hZ w4 (args := #[]))) (mvT hZ w5) hy (backOf (W := W) hM hZ w5 w6 hf hl) (g := mkF m pc Ls st0) rfl hsz (Steps.refl _) (a := b) (by rw [eT]; exact q1) q2 (argsL := argsL) (rest := rest) hlen hst (by show 2 * 0 + _ ≤ _; simpa using hW) hd (fun _ _ => ⟨rfl, eT, hc, hs⟩)
  dsimp only [Pt.U, Pt.locs, Pt.cells, Pt.slots] at X' l1 y1 z1 st hQ
  subst l1 y1 z1
  exact own_pre (fun t k => st.trans k) (k v T' Lc X' hQ)
theorem own_selp {y y' : MethodName} (hZ : Z.Warmed39 s.vm) (hc : y'.cls = y.cls) (w : (Cond.selects y'.cls y' y').before a0 Z = true) (wi : (Cond.instanceMethod y).before a0 Z = true) (wp : (Cond.privateMethod y).before a0 Z = true) (hy : y.cls ≠ "java/lang/invoke/MethodHandle" ∧ y.cls ≠ "java/lang/invoke/VarHandle") : (Cond.selects y.cls y y).before args s = true := by
  have w' : (Cond.selects y'.cls y' y').before args s = true := mvT hZ w
  obtain ⟨c2, r2, m2, q1, -, q3, -, kP, hkP, hkPi⟩ := Cond.selects_spec w'
  have q4 := findClass_of_methodNamed q3
  refine selects_self_of_private (c := m2.cls) (k := kP) (by rw [← hc]; exact q4) hkP hkPi (Cond.privateMethod_at (mvP hZ wp (args := #[]))) (mvT hZ wi) hy
theorem own_callQ (X : Stand p l e R s m args below meth c T locs cells slots) (hx : p.tables.exec = Jvm.exec) (hZ : Z.Warmed39 s.vm) {own C : String} {index : Nat} {y y' : MethodName} {bytes : ByteArray} {maxL : Nat} {ret : Option FieldType} {rm : Room} {Qc : Option Value → Heap → List Loc → Prop} {b : Addr}
    (hown : s.vm.findClass own = some m.cls) (w1 : (Cond.methodLink own index y).before a0 Z = true) (w2 : (Cond.instanceMethod y).before a0 Z = true) (w3 : (Cond.selects y'.cls y' y').before a0 Z = true) (w4 : (Cond.privateMethod y).before a0 Z = true) (w5 : (Cond.code y bytes maxL ret).before a0 Z = true) (w6 : (Cond.initialized y.cls).before a0 Z = true)
    (hyy : y'.cls = y.cls) (hy : y.cls ≠ "java/lang/invoke/MethodHandle" ∧ y.cls ≠ "java/lang/invoke/VarHandle") (eT : T.heap = h) (E : Exa Z h b C) {argsL rest st0 : List Value} (hM : own_Met l Z y bytes maxL ret [] rm (.ref b :: argsL).toArray h Qc) {W pc : Nat} {Ls : Array Slot}
    (hsz : Ls.size = c.maxLocals) (hlen : ∀ sig, parseMethodDescriptor y.desc = some sig → argsL.length = sig.parameters.length) (hst : st0 = argsL.reverse ++ .ref b :: rest) (hW : (rest.map fun v => v.category).sum ≤ W) (hd : decode c.code pc = .ok (.invokevirtual index, 3))
    (hf : rm.frames + 1 ≤ R.frames) (hl : W + (maxL + 11) + rm.locals ≤ R.locals) (hc : cells + rm.cells ≤ R.cells) (hs : slots + rm.slots ≤ R.slots)
    (k : ∀ v T' L, Stand p l e R s m args below meth c T' (locs ++ L) (cells + rm.cells) (slots + rm.slots) → Qc v T'.heap L → own_Ends p e below s Q kc kn (T'.setTop (mkF m (pc + 3) Ls (v.toList ++ rest)))) :
    own_Ends p e below s Q kc kn (T.setTop (mkF m pc Ls st0)) := by
  obtain ⟨cq, q1, q2⟩ := E.cell
  obtain ⟨v, _, ⟨T', L', k', n'⟩, -, X', ⟨Lc, hQ, l1, y1, z1⟩, st⟩ := X.privateBack hx (y := y) hown (mvT hZ w1) (mvT hZ w2) (own_selp hZ hyy w3 w2 w4 hy) (Cond.privateMethod_at (mvP hZ w4 (args := #[]))) (mvT hZ w5) hy (backOf (W := W) hM hZ w5 w6 hf hl) (g := mkF m pc Ls st0) rfl hsz (Steps.refl _) (a := b) (by rw [eT]; exact q1) q2 (argsL := argsL) (rest := rest) hlen hst (by show 2 * 0 + _ ≤ _; simpa using hW) hd (fun _ _ => ⟨rfl, eT, hc, hs⟩)
  dsimp only [Pt.U, Pt.locs, Pt.cells, Pt.slots] at X' l1 y1 z1 st hQ
  subst l1 y1 z1
  exact own_pre (fun t k => st.trans k) (k v T' Lc X' hQ)
end OwnCp
def own_few (n0 : Nat) (Z : State) (h : Heap) (a len cap : Nat) (g : Nat → Int32) : Prop := ∃ (aN : Nat) (sz : Int32), n0 ≤ a ∧ n0 ≤ aN ∧ a ≠ aN ∧ sz.toInt = (len : Int) ∧ len ≤ cap ∧ cap ≤ 8 ∧ (cap = 0 ∨ cap = 2 ∨ cap = 4 ∨ cap = 8) ∧ Exa Z h a "com/example/kunci/kunci/NumberSet" ∧ Fld Z h a "com/example/kunci/kunci/NumberSet" "size" "I" (.int sz) ∧ Fld Z h a "com/example/kunci/kunci/NumberSet" "bits" "Ljava/util/BitSet;" .null ∧ Fld Z h a "com/example/kunci/kunci/NumberSet" "numbers" "[I" (.ref aN) ∧ own_A Z h aN .int cap (fun i => .int (g i))
def own_bits (n0 : Nat) (Z : State) (h : Heap) (a b w len : Nat) (wu : Int32) (u : Int64) : Prop := ∃ sz : Int32, n0 ≤ a ∧ n0 ≤ b ∧ n0 ≤ w ∧ a ≠ b ∧ a ≠ w ∧ b ≠ w ∧ sz.toInt = (len : Int) ∧ Exa Z h a "com/example/kunci/kunci/NumberSet" ∧ Fld Z h a "com/example/kunci/kunci/NumberSet" "size" "I" (.int sz) ∧ Fld Z h a "com/example/kunci/kunci/NumberSet" "bits" "Ljava/util/BitSet;" (.ref b) ∧ Exa Z h b "java/util/BitSet" ∧ Fld Z h b "java/util/BitSet" "words" "[J" (.ref w) ∧ Fld Z h b "java/util/BitSet" "wordsInUse" "I" (.int wu) ∧ own_A Z h w .long 1 (fun i => .long u)
def own_mem (len : Nat) (g : Nat → Int32) (v : Int32) : Prop := ∃ i, i < len ∧ g i = v
theorem own_succ {j : Int32} {k n : Nat} (hj : j.toInt = (k : Int)) (hk : k < n) (hn : n < 2 ^ 31) : (j + (1 : Int32)).toInt = ((k + 1 : Nat) : Int) := by
  have h := c_iadd j 1
  have r := rng32 (j + 1)
  simp only [Int32.reduceToInt] at h
  omega
theorem own_jlt {j nn : Int32} {k n : Nat} (hj : j.toInt = (k : Int)) (hn : nn.toInt = (n : Int)) (h : k < n) : j < nn := by rw [Int32.lt_iff_toInt_lt]; omega
theorem own_jge {j nn : Int32} {k n : Nat} (hj : j.toInt = (k : Int)) (hn : nn.toInt = (n : Int)) (h : n ≤ k) : ¬ j < nn := by rw [Int32.lt_iff_toInt_lt]; omega
theorem own_n32 {n : Nat} {nn : Int32} (hn : nn.toInt = (n : Int)) : n.toInt32 = nn := by
  have r := rng32 nn
  rw [← Int32.toInt_inj, len_toInt (by omega), hn]
theorem own_notin {len : Nat} {g : Nat → Int32} {q : Int32} (h : ∀ i, i < len → ¬ g i = q) : ¬ own_mem len g q := fun ⟨i, hi, e⟩ => h i hi e
theorem own_nstep {k : Nat} {g : Nat → Int32} {q : Int32} (h : ∀ i, i < k → ¬ g i = q) (hk : ¬ g k = q) : ∀ i, i < k + 1 → ¬ g i = q := by
  intro i hi
  by_cases e : i = k
  · subst e; exact hk
  · exact h i (by omega)
theorem own_mem_upd {len : Nat} {g g' : Nat → Int32} {x : Int32} (h : ∀ i, i ≤ len → g' i = if i = len then x else g i) (v : Int32) : own_mem (len + 1) g' v ↔ own_mem len g v ∨ x = v := by
  constructor
  · intro ⟨i, hi, e⟩
    rw [h i (by omega)] at e
    by_cases q : i = len
    · right; rw [if_pos q] at e; exact e
    · left; rw [if_neg q] at e; exact ⟨i, by omega, e⟩
  · intro z
    rcases z with ⟨i, hi, e⟩ | e
    · exact ⟨i, by omega, by rw [h i (by omega), if_neg (by omega)]; exact e⟩
    · exact ⟨len, by omega, by rw [h len (Nat.le_refl _), if_pos rfl]; exact e⟩
theorem own_01 {r : Int32} {P Q : Prop} (h : r = 1 ∧ P ∨ r = 0 ∧ Q) : r = 0 ∨ r = 1 := by rcases h with ⟨h, -⟩ | ⟨h, -⟩; exact Or.inr h; exact Or.inl h
theorem own_jn {j nn : Int32} {k n : Nat} (hj : j.toInt = (k : Int)) (hn : nn.toInt = (n : Int)) (h : n < k) : ¬ j = nn := by rw [← Int32.toInt_inj]; omega
theorem own_lt8 {sz : Int32} {len : Nat} (h : sz.toInt = (len : Int)) (h7 : len ≤ 7) : sz < (8 : Int32) := by rw [Int32.lt_iff_toInt_lt]; simp only [Int32.reduceToInt]; omega
theorem own_ge8 {sz : Int32} {len : Nat} (h : sz.toInt = (len : Int)) (h7 : len = 8) : ¬ sz < (8 : Int32) := by rw [Int32.lt_iff_toInt_lt]; simp only [Int32.reduceToInt]; omega
theorem own_eqc {sz : Int32} {len cap : Nat} (h : sz.toInt = (len : Int)) (hc : cap ≤ 8) (e : sz = cap.toInt32) : len = cap := by
  rw [← Int32.toInt_inj, len_toInt (by omega), h] at e; omega
theorem own_nec {sz : Int32} {len cap : Nat} (h : sz.toInt = (len : Int)) (hc : cap ≤ 8) (hl : len ≤ cap) (e : ¬ sz = cap.toInt32) : len < cap := by
  rw [← Int32.toInt_inj, len_toInt (by omega), h] at e; omega
def own_gk (len : Nat) : Nat := if len = 0 then 2 else 2 * len
theorem own_grow {len cap : Nat} (hc : cap = 0 ∨ cap = 2 ∨ cap = 4 ∨ cap = 8) (e : len = cap) (h7 : len ≤ 7) : len < own_gk len ∧ own_gk len ≤ 8 ∧ (own_gk len = 0 ∨ own_gk len = 2 ∨ own_gk len = 4 ∨ own_gk len = 8) := by
  subst e
  rcases hc with rfl | rfl | rfl | rfl
  · decide
  · decide
  · decide
  · omega
theorem own_mm {sz : Int32} {len cap : Nat} (h : sz.toInt = (len : Int)) (hc : cap = 0 ∨ cap = 2 ∨ cap = 4 ∨ cap = 8) (e : len = cap) : ∃ mm : Int32, (if (2 : Int32) < ((2 : Int32) * sz) then ((2 : Int32) * sz) else (2 : Int32)) = mm ∧ mm.toInt = (own_gk len : Int) := by
  have q := c_imul (2 : Int32) sz
  have r := rng32 ((2 : Int32) * sz)
  simp only [Int32.reduceToInt] at q
  refine ⟨_, rfl, ?_⟩
  unfold own_gk
  by_cases z : (2 : Int32) < ((2 : Int32) * sz)
  · rw [if_pos z]; rw [Int32.lt_iff_toInt_lt] at z; simp only [Int32.reduceToInt] at z
    rw [if_neg (by omega)]; omega
  · rw [if_neg z]; rw [Int32.lt_iff_toInt_lt] at z; simp only [Int32.reduceToInt] at z ⊢
    by_cases y : len = 0
    · rw [if_pos y]; rfl
    · rw [if_neg y]; omega
theorem own_s1 {sz : Int32} {len : Nat} (h : sz.toInt = (len : Int)) (h8 : len ≤ 8) : (sz + (1 : Int32)).toInt = ((len + 1 : Nat) : Int) := by
  have q := c_iadd sz 1
  have r := rng32 (sz + 1)
  simp only [Int32.reduceToInt] at q; omega
theorem own_updA {len : Nat} {g g' : Nat → Int32} {x : Int32} (h : g' = fun q => if q = len then x else g q) : ∀ i, i ≤ len → g' i = if i = len then x else g i := fun i _ => by rw [h]
theorem own_updB {len : Nat} {g g' : Nat → Int32} {x : Int32} (h : g' = fun q => if q = len then x else (fun i => if i < len then g i else 0) q) : ∀ i, i ≤ len → g' i = if i = len then x else g i := fun i hi => by
  rw [h]
  by_cases q : i = len
  · simp [q]
  · have : i < len := by omega
    simp [q, this]
theorem own_mem_self {len : Nat} {g : Nat → Int32} {x : Int32} (h : own_mem len g x) (v : Int32) : own_mem len g v ↔ own_mem len g v ∨ x = v := ⟨Or.inl, fun z => z.elim id fun e => e ▸ h⟩
theorem own_nn {x : Int32} (h : 0 ≤ x.toInt) : ¬ x < (0 : Int32) := by rw [Int32.lt_iff_toInt_lt, Int32.toInt_zero]; omega
theorem own_wi0 {x : Int32} (h : 0 ≤ x.toInt ∧ x.toInt ≤ 63) : (x >>> ((6 : Int32) &&& 31)) = 0 := by
  have q := c_ishr x 6 6 (by decide)
  simp only [Nat.reducePow] at q
  rw [← Int32.toInt_inj, q, Int32.toInt_zero]; omega
theorem own_wu {wu : Int32} (h : wu = 0 ∨ wu = 1) (c : ¬ wu < (1 : Int32)) : wu = 1 := by rcases h with rfl | rfl; exact absurd (by decide) c; rfl
theorem own_wz {q : Int32} (hq : 0 ≤ q.toInt) (c : (q >>> ((6 : Int32) &&& 31)) < (1 : Int32)) : (q >>> ((6 : Int32) &&& 31)).toInt = ((0 : Nat) : Int) := by
  have z := c_ishr q 6 6 (by decide)
  simp only [Nat.reducePow] at z
  rw [Int32.lt_iff_toInt_lt] at c; simp only [Int32.reduceToInt] at c; omega
theorem own_w63 {q : Int32} (hq : 0 ≤ q.toInt) (c : (q >>> ((6 : Int32) &&& 31)) < (1 : Int32)) : q.toInt ≤ 63 := by
  have z := c_ishr q 6 6 (by decide)
  simp only [Nat.reducePow] at z
  rw [Int32.lt_iff_toInt_lt] at c; simp only [Int32.reduceToInt] at c; omega
theorem own_w1 {q : Int32} (hq : 0 ≤ q.toInt) (c : q.toInt ≤ 63) : (q >>> ((6 : Int32) &&& 31)) < (1 : Int32) := by
  have z := c_ishr q 6 6 (by decide)
  simp only [Nat.reducePow] at z
  rw [Int32.lt_iff_toInt_lt]; simp only [Int32.reduceToInt]; omega
theorem own_one1 {g g' : Nat → Int64} {x : Int64} {i : Nat} (h : g' = fun q => if q = 0 then x else g q) (hi : i < 1) : Value.long (g' i) = Value.long x := by
  have : i = 0 := by omega
  rw [h, this]; rfl
theorem own_bbv (v : Int32) (h : 0 ≤ v.toInt ∧ v.toInt ≤ 63) : ((1 : Int64) <<< (v &&& 0x3f).toInt64).toBitVec = BitVec.twoPow 64 v.toInt.toNat := by
  have e : v.toBitVec.toNat % 64 = v.toInt.toNat := by
    have q : v.toInt = v.toBitVec.toInt := rfl
    have r := BitVec.toInt_eq_toNat_cond v.toBitVec
    have r2 := v.toBitVec.isLt
    rw [← q] at r
    split at r <;> omega
  obtain ⟨q1, q2⟩ := sm64 v _ e
  show (1 : Int64).toBitVec <<< ((v &&& 0x3f).toInt64.toBitVec.smod 64) = _
  rw [q1]
  show (1 : Int64).toBitVec <<< ((BitVec.ofNat 64 _).smod 64).toNat = _
  rw [smod64 _ q2]
  rfl
theorem own_tp (u : BitVec 64) (k : Nat) (hk : k < 64) : (u &&& BitVec.twoPow 64 k) = 0#64 ↔ u.getLsbD k = false := by
  rw [BitVec.and_twoPow]
  cases hb : u.getLsbD k
  · simp
  · simp only [if_true, Bool.true_eq_false, iff_false]
    intro z
    have := congrArg (fun w => BitVec.getLsbD w k) z
    simp [hk] at this
theorem own_tq (u : BitVec 64) (j k : Nat) (hk : j < 64) : ¬ (u ||| BitVec.twoPow 64 j).getLsbD k = false ↔ (¬ u.getLsbD k = false ∨ j = k) := by
  rw [BitVec.getLsbD_or, BitVec.getLsbD_twoPow]
  by_cases q : j = k
  · subst q; simp [hk]
  · simp [q]
theorem own_and0 (u : Int64) (v : Int32) (h : 0 ≤ v.toInt ∧ v.toInt ≤ 63) : (u &&& ((1 : Int64) <<< (v &&& 0x3f).toInt64)) = 0 ↔ u.toBitVec.getLsbD v.toInt.toNat = false := by
  rw [← Int64.toBitVec_inj, Int64.toBitVec_and, own_bbv v h]
  exact own_tp _ _ (by omega)
theorem own_or0 (u : Int64) (x v : Int32) (hx : 0 ≤ x.toInt ∧ x.toInt ≤ 63) (h : 0 ≤ v.toInt ∧ v.toInt ≤ 63) : ¬ ((u ||| ((1 : Int64) <<< (x &&& 0x3f).toInt64)) &&& ((1 : Int64) <<< (v &&& 0x3f).toInt64)) = 0 ↔ (¬ (u &&& ((1 : Int64) <<< (v &&& 0x3f).toInt64)) = 0 ∨ x = v) := by
  rw [own_and0 _ v h, own_and0 _ v h, Int64.toBitVec_or, own_bbv x hx]
  have e : x = v ↔ x.toInt.toNat = v.toInt.toNat := by rw [← Int32.toInt_inj]; omega
  rw [e]
  exact own_tq _ _ _ (by omega)
def own_bs (Z : State) (h : Heap) (a : Nat) (u : Int64) : Prop := ∃ (b w : Nat), Exa Z h a "com/example/kunci/kunci/NumberSet" ∧ Fld Z h a "com/example/kunci/kunci/NumberSet" "bits" "Ljava/util/BitSet;" (.ref b) ∧ Exa Z h b "java/util/BitSet" ∧ Fld Z h b "java/util/BitSet" "words" "[J" (.ref w) ∧ Fld Z h b "java/util/BitSet" "wordsInUse" "I" (.int (1 : Int32)) ∧ own_A Z h w .long 1 (fun i => .long u)
def own_in6 (v : Int32) : Prop := 0 ≤ v.toInt ∧ v.toInt ≤ 63
theorem own_mem_s {k : Nat} {g : Nat → Int32} (v : Int32) : own_mem (k + 1) g v ↔ own_mem k g v ∨ g k = v := own_mem_upd (g := g) (g' := g) (x := g k) (fun i _ => by by_cases q : i = k; subst q; simp; simp [q]) v
theorem own_b00 {g : Nat → Int32} : ∀ v, own_in6 v → (¬ ((0 : Int64) &&& ((1 : Int64) <<< (v &&& 0x3f).toInt64)) = 0 ↔ own_mem 0 g v) := fun v hv => by
  constructor
  · intro z; exact absurd (by simp) z
  · intro ⟨i, hi, _⟩; omega
theorem own_bstep {u u' : Int64} {k : Nat} {g : Nat → Int32} (hu : u' = (u ||| ((1 : Int64) <<< ((g k) &&& 0x3f).toInt64))) (hx : own_in6 (g k)) (h : ∀ v, own_in6 v → (¬ (u &&& ((1 : Int64) <<< (v &&& 0x3f).toInt64)) = 0 ↔ own_mem k g v)) : ∀ v, own_in6 v → (¬ (u' &&& ((1 : Int64) <<< (v &&& 0x3f).toInt64)) = 0 ↔ own_mem (k + 1) g v) := fun v hv => by
  rw [hu, own_or0 u _ v hx hv, h v hv, own_mem_s]
theorem own_bend {u u' : Int64} {x : Int32} {M : Int32 → Prop} (hu : u' = (u ||| ((1 : Int64) <<< (x &&& 0x3f).toInt64))) (hx : own_in6 x) (h : ∀ v, own_in6 v → (¬ (u &&& ((1 : Int64) <<< (v &&& 0x3f).toInt64)) = 0 ↔ M v)) : ∀ v, own_in6 v → (¬ (u' &&& ((1 : Int64) <<< (v &&& 0x3f).toInt64)) = 0 ↔ M v ∨ x = v) := fun v hv => by
  rw [hu, own_or0 u _ v hx hv, h v hv]
theorem own_sz8 {sz : Int32} (h : sz.toInt = ((8 : Nat) : Int)) : sz = 8 := by rw [← Int32.toInt_inj, h]; rfl
theorem own_few.exa {n0 : Nat} {Z : State} {h : Heap} {a len cap : Nat} {g : Nat → Int32} (F : own_few n0 Z h a len cap g) : Exa Z h a "com/example/kunci/kunci/NumberSet" := by obtain ⟨aN, sz, ga, gN, naN, hsz, hlc, hc8, hcc, Ea, -⟩ := F; exact Ea
theorem own_few.cap8 {n0 : Nat} {Z : State} {h : Heap} {a len cap : Nat} {g : Nat → Int32} (F : own_few n0 Z h a len cap g) (e : len = 8) : cap = 8 := by obtain ⟨aN, sz, ga, gN, naN, hsz, hlc, hc8, hcc, Ea, -⟩ := F; omega
theorem own_bs.exa {Z : State} {h : Heap} {a : Nat} {u : Int64} (F : own_bs Z h a u) : Exa Z h a "com/example/kunci/kunci/NumberSet" := by obtain ⟨b, w, Ea, -⟩ := F; exact Ea
theorem own_pk (z : Int64) : 0 ≤ (z &&& (63 : Int64)).toInt32.toInt ∧ (z &&& (63 : Int64)).toInt32.toInt ≤ 63 := by
  have h : (z &&& (63 : Int64)).toBitVec.toNat ≤ 63 := by
    rw [Int64.toBitVec_and, BitVec.toNat_and]; exact Nat.and_le_right
  have r := BitVec.toInt_eq_toNat_cond (z &&& (63 : Int64)).toBitVec
  have q : (z &&& (63 : Int64)).toInt = (z &&& (63 : Int64)).toBitVec.toInt := rfl
  rw [Int64.toInt_toInt32, q, r, if_pos (by omega)]
  rw [Int.bmod_eq_of_le (by omega) (by omega)]
  omega
theorem own_p63 (x : Int32) : 0 ≤ (x &&& (63 : Int32)).toInt := by
  have h := c_mask x 63 6 (by decide) (by decide)
  simp only [Nat.reducePow] at h; omega
theorem own_p31 (x : Int32) : 0 ≤ (x &&& (2147483647 : Int32)).toInt := by
  have h := c_mask x 2147483647 31 (by decide) (by decide)
  simp only [Nat.reducePow] at h; omega
theorem own_Smono {p : Program} {l : Launch} {e : Env} {R : Room} {s : State} {m : MethodId} {args : Array Value} {below : List Frame} {meth : Method} {c : Code} {T : State} {locs : List Loc} {c1 s1 c2 s2 : Nat} (X : Stand p l e R s m args below meth c T locs c1 s1) (h1 : c1 ≤ c2) (h2 : s1 ≤ s2) : Stand p l e R s m args below meth c T locs c2 s2 := { X with same := X.same.mono h1 h2 }
theorem own_Ry {M M' R e c : Prop} (h : M' ↔ M ∨ e) (hR : M ↔ R) (hc : c) : M' ↔ R ∨ (c ∧ e) := by rw [h, hR]; simp [hc]
theorem own_Rn {M R e c : Prop} (hR : M ↔ R) (hc : ¬ c) : M ↔ R ∨ (c ∧ e) := by rw [hR]; simp [hc]
theorem own_eqb {r t : Int32} {P : Prop} (h : r = 1 ∧ P ∨ r = 0 ∧ ¬ P) (k : t = 1 ∧ P ∨ t = 0 ∧ ¬ P) : r = t := by
  rcases h with ⟨rfl, h⟩ | ⟨rfl, h⟩ <;> rcases k with ⟨rfl, k⟩ | ⟨rfl, k⟩
  · rfl
  · exact absurd h k
  · exact absurd k h
  · rfl
theorem own_iff1 {r : Int32} {P Q : Prop} (e : P ↔ Q) (h : r = 1 ∧ P ∨ r = 0 ∧ ¬ P) : r = 1 ∧ Q ∨ r = 0 ∧ ¬ Q := by rw [← e]; exact h
def own_R0 (n x0 x1 x2 x3 x4 x5 x6 x7 x8 v : Int32) : Prop := False
def own_R1 (n x0 x1 x2 x3 x4 x5 x6 x7 x8 v : Int32) : Prop := own_R0 n x0 x1 x2 x3 x4 x5 x6 x7 x8 v ∨ ((0 : Int32) < n ∧ x0 = v)
def own_R2 (n x0 x1 x2 x3 x4 x5 x6 x7 x8 v : Int32) : Prop := own_R1 n x0 x1 x2 x3 x4 x5 x6 x7 x8 v ∨ ((1 : Int32) < n ∧ x1 = v)
def own_R3 (n x0 x1 x2 x3 x4 x5 x6 x7 x8 v : Int32) : Prop := own_R2 n x0 x1 x2 x3 x4 x5 x6 x7 x8 v ∨ ((2 : Int32) < n ∧ x2 = v)
def own_R4 (n x0 x1 x2 x3 x4 x5 x6 x7 x8 v : Int32) : Prop := own_R3 n x0 x1 x2 x3 x4 x5 x6 x7 x8 v ∨ ((3 : Int32) < n ∧ x3 = v)
def own_R5 (n x0 x1 x2 x3 x4 x5 x6 x7 x8 v : Int32) : Prop := own_R4 n x0 x1 x2 x3 x4 x5 x6 x7 x8 v ∨ ((4 : Int32) < n ∧ x4 = v)
def own_R6 (n x0 x1 x2 x3 x4 x5 x6 x7 x8 v : Int32) : Prop := own_R5 n x0 x1 x2 x3 x4 x5 x6 x7 x8 v ∨ ((5 : Int32) < n ∧ x5 = v)
def own_R7 (n x0 x1 x2 x3 x4 x5 x6 x7 x8 v : Int32) : Prop := own_R6 n x0 x1 x2 x3 x4 x5 x6 x7 x8 v ∨ ((6 : Int32) < n ∧ x6 = v)
def own_R8 (n x0 x1 x2 x3 x4 x5 x6 x7 x8 v : Int32) : Prop := own_R7 n x0 x1 x2 x3 x4 x5 x6 x7 x8 v ∨ ((7 : Int32) < n ∧ x7 = v)
def own_R9 (n x0 x1 x2 x3 x4 x5 x6 x7 x8 v : Int32) : Prop := own_R8 n x0 x1 x2 x3 x4 x5 x6 x7 x8 v ∨ ((8 : Int32) < n ∧ x8 = v)
theorem own_Rin {n x0 x1 x2 x3 x4 x5 x6 x7 x8 v : Int32} (k0 : own_in6 x0) (k1 : own_in6 x1) (k2 : own_in6 x2) (k3 : own_in6 x3) (k4 : own_in6 x4) (k5 : own_in6 x5) (k6 : own_in6 x6) (k7 : own_in6 x7) (k8 : own_in6 x8) (h : own_R9 n x0 x1 x2 x3 x4 x5 x6 x7 x8 v) : own_in6 v := by
  rcases h with ((((((((h | ⟨-, rfl⟩) | ⟨-, rfl⟩) | ⟨-, rfl⟩) | ⟨-, rfl⟩) | ⟨-, rfl⟩) | ⟨-, rfl⟩) | ⟨-, rfl⟩) | ⟨-, rfl⟩) | ⟨-, rfl⟩
  · exact h.elim
  · exact k0
  · exact k1
  · exact k2
  · exact k3
  · exact k4
  · exact k5
  · exact k6
  · exact k7
  · exact k8
def own_step (c r k c' : Nat) : Prop := (r ≤ c ∧ k = 0 ∧ c' = c) ∨ (c < r ∧ c' = (if 2 * c < r then r else 2 * c) ∧ k = c')
theorem own_stepX (c r : Nat) : ∃ k c', own_step c r k c' := by
  by_cases h : r ≤ c
  · exact ⟨0, c, Or.inl ⟨h, rfl, rfl⟩⟩
  · exact ⟨_, _, Or.inr ⟨by omega, rfl, rfl⟩⟩
theorem own_stepB {c r k c' : Nat} (h : own_step c r k c') (hr : r ≤ 17024) (hc : c ≤ 34048) : k + 2 * c ≤ 2 * c' ∧ c' ≤ 34048 ∧ r ≤ c' ∧ c ≤ c' := by
  rcases h with ⟨h1, h2, h3⟩ | ⟨h1, h2, h3⟩
  · omega
  · by_cases q : 2 * c < r
    · rw [if_pos q] at h2; omega
    · rw [if_neg q] at h2; omega
def own_bt (U : Nat → Int64) (v : Int32) : Prop := ¬ (U (v.toInt.toNat / 64) &&& ((1 : Int64) <<< (v &&& 0x3f).toInt64)) = 0
def own_up (U : Nat → Int64) (x : Int32) : Nat → Int64 := fun i => if i = x.toInt.toNat / 64 then (U i ||| ((1 : Int64) <<< (x &&& 0x3f).toInt64)) else U i
theorem own_bbv' (v : Int32) (h : 0 ≤ v.toInt) : (((1 : Int64) <<< (v &&& 0x3f).toInt64)).toBitVec = BitVec.twoPow 64 (v.toInt.toNat % 64) := by
  have e : v.toBitVec.toNat % 64 = v.toInt.toNat % 64 := by
    have q : v.toInt = v.toBitVec.toInt := rfl
    have r := BitVec.toInt_eq_toNat_cond v.toBitVec
    have r2 := v.toBitVec.isLt
    rw [← q] at r
    split at r <;> omega
  obtain ⟨q1, q2⟩ := sm64 v _ e
  show (1 : Int64).toBitVec <<< ((v &&& 0x3f).toInt64.toBitVec.smod 64) = _
  rw [q1]
  show (1 : Int64).toBitVec <<< ((BitVec.ofNat 64 _).smod 64).toNat = _
  rw [smod64 _ q2]
  rfl
theorem own_and0' (u : Int64) (v : Int32) (h : 0 ≤ v.toInt) : (u &&& ((1 : Int64) <<< (v &&& 0x3f).toInt64)) = 0 ↔ u.toBitVec.getLsbD (v.toInt.toNat % 64) = false := by
  rw [← Int64.toBitVec_inj, Int64.toBitVec_and, own_bbv' v h]
  exact own_tp _ _ (by omega)
theorem own_btU (U : Nat → Int64) (x v : Int32) (hx : 0 ≤ x.toInt) (hv : 0 ≤ v.toInt) : own_bt (own_up U x) v ↔ own_bt U v ∨ x = v := by
  unfold own_bt own_up
  have e : x = v ↔ x.toInt.toNat = v.toInt.toNat := by rw [← Int32.toInt_inj]; omega
  by_cases q : v.toInt.toNat / 64 = x.toInt.toNat / 64
  · simp only [q, if_true]
    rw [own_and0' _ v hv, own_and0' _ v hv, Int64.toBitVec_or, own_bbv' x hx, own_tq _ _ _ (by omega), e]
    have e2 : x.toInt.toNat % 64 = v.toInt.toNat % 64 ↔ x.toInt.toNat = v.toInt.toNat := by omega
    rw [e2]
  · simp only [q, if_false]
    have : ¬ x = v := fun z => q (by rw [z])
    simp [this]
theorem own_wsh {v : Int32} (h : 0 ≤ v.toInt) : (v >>> ((6 : Int32) &&& 31)).toInt = ((v.toInt.toNat / 64 : Nat) : Int) := by
  have q := c_ishr v 6 6 (by decide)
  simp only [Nat.reducePow] at q
  rw [q]; omega
theorem own_btz {U : Nat → Int64} {v : Int32} (h : U (v.toInt.toNat / 64) = 0) : ¬ own_bt U v := by unfold own_bt; rw [h]; simp
def own_run (a s : Int32) (k : Nat) (v : Int32) : Prop := ∃ j : Nat, j < k ∧ v.toInt = a.toInt + (j : Int) * s.toInt
theorem own_run0 {a s v : Int32} : ¬ own_run a s 0 v := fun ⟨j, h, _⟩ => absurd h (Nat.not_lt_zero j)
theorem own_runS {a s x : Int32} {k : Nat} (hx : x.toInt = a.toInt + (k : Int) * s.toInt) (v : Int32) : own_run a s (k + 1) v ↔ own_run a s k v ∨ x = v := by
  constructor
  · intro ⟨j, hj, e⟩
    by_cases q : j = k
    · subst q; exact Or.inr (by rw [← Int32.toInt_inj]; omega)
    · exact Or.inl ⟨j, by omega, e⟩
  · rintro (⟨j, hj, e⟩ | rfl)
    · exact ⟨j, by omega, e⟩
    · exact ⟨k, by omega, hx⟩
theorem own_runN {a s x : Int32} {k : Nat} (hx : x.toInt = a.toInt + (k : Int) * s.toInt) (hs : 0 < s.toInt) : ¬ own_run a s k x := fun ⟨j, hj, e⟩ => by
  have h := Int.mul_lt_mul_of_pos_right (a := (j : Int)) (b := (k : Int)) (c := s.toInt) (by omega) hs
  omega
theorem own_irx {d s n : Int32} {a v : Int32} (hd : d.toInt = v.toInt - a.toInt) (h0 : 0 ≤ d.toInt) (hs : 0 < s.toInt) (hn : 0 ≤ n.toInt) : ((d % s) = (0 : Int32) ∧ (d / s) < n) ↔ own_run a s n.toInt.toNat v := by
  have hs1 : s ≠ -1 := fun q => by rw [q] at hs; revert hs; decide
  have e1 := (c_irem d s _ rfl).1 h0
  have e2 := (c_idiv d s _ rfl hs1).1 h0
  rw [← Int32.toInt_inj, Int32.lt_iff_toInt_lt, e1, e2, Int32.toInt_zero]
  constructor
  · intro ⟨h1, h2⟩
    have h3 := Int.mul_ediv_add_emod d.toInt s.toInt
    have h4 : 0 ≤ d.toInt / s.toInt := Int.ediv_nonneg h0 (by omega)
    refine ⟨(d.toInt / s.toInt).toNat, by omega, ?_⟩
    rw [Int.toNat_of_nonneg h4, Int.mul_comm]; omega
  · intro ⟨j, hj, e⟩
    have h5 : d.toInt = (j : Int) * s.toInt := by omega
    rw [h5]
    refine ⟨Int.mul_emod_left _ _, ?_⟩
    rw [Int.mul_ediv_cancel _ (by omega)]; omega
theorem own_xk {a s x : Int32} {k : Nat} {c : Int32} (hc : c.toInt = (k : Int)) (hk : k ≤ 10) (hs : 0 < s.toInt ∧ s.toInt ≤ 4096) (ha : 0 ≤ a.toInt ∧ a.toInt + 40960 < 2147483648) (hx : x = a + c * s) : x.toInt = a.toInt + (k : Int) * s.toInt ∧ 0 ≤ x.toInt ∧ x.toInt ≤ a.toInt + 40960 := by
  have h1 := c_imul c s
  have r1 := rng32 (c * s)
  have h2 := c_iadd a (c * s)
  have r2 := rng32 (a + c * s)
  rw [← hx] at h2 r2
  have h3 : 0 ≤ (k : Int) * s.toInt := Int.mul_nonneg (by omega) (by omega)
  have h4 : (k : Int) * s.toInt ≤ 10 * 4096 := Int.mul_le_mul (by omega) hs.2 (by omega) (by omega)
  rw [hc] at h1
  generalize (k : Int) * s.toInt = z at *
  omega
def own_bw (n0 : Nat) (Z : State) (h : Heap) (a len cap : Nat) (U : Nat → Int64) : Prop := ∃ (b w : Nat) (sz wu : Int32) (wn : Nat), n0 ≤ a ∧ n0 ≤ b ∧ n0 ≤ w ∧ a ≠ b ∧ a ≠ w ∧ b ≠ w ∧ sz.toInt = (len : Int) ∧ wu.toInt = (wn : Int) ∧ wn ≤ cap ∧ (∀ i, wn ≤ i → U i = 0) ∧ 1 ≤ cap ∧ Exa Z h a "com/example/kunci/kunci/NumberSet" ∧ Fld Z h a "com/example/kunci/kunci/NumberSet" "size" "I" (.int sz) ∧ Fld Z h a "com/example/kunci/kunci/NumberSet" "bits" "Ljava/util/BitSet;" (.ref b) ∧ Exa Z h b "java/util/BitSet" ∧ Fld Z h b "java/util/BitSet" "words" "[J" (.ref w) ∧ Fld Z h b "java/util/BitSet" "wordsInUse" "I" (.int wu) ∧ Fld Z h b "java/util/BitSet" "sizeIsSticky" "Z" (.int (0 : Int32)) ∧ own_A Z h w .long cap (fun i => .long (U i))
theorem own_bw.exa {n0 : Nat} {Z : State} {h : Heap} {a len cap : Nat} {U : Nat → Int64} (F : own_bw n0 Z h a len cap U) : Exa Z h a "com/example/kunci/kunci/NumberSet" := by obtain ⟨b, w, sz, wu, wn, -, -, -, -, -, -, -, -, -, -, -, E, -⟩ := F; exact E
theorem own_upz {U : Nat → Int64} {x : Int32} {m : Nat} (h : ∀ i, m ≤ i → U i = 0) (hx : x.toInt.toNat / 64 < m) : ∀ i, m ≤ i → own_up U x i = 0 := fun i hi => by
  unfold own_up; rw [if_neg (by omega)]; exact h i hi
theorem own_zmono {U : Nat → Int64} {m m' : Nat} (h : ∀ i, m ≤ i → U i = 0) (hm : m ≤ m') : ∀ i, m' ≤ i → U i = 0 := fun i hi => h i (by omega)
theorem own_w1x {j : Int32} {k : Nat} (hj : j.toInt = (k : Int)) (hk : k ≤ 34048) : (j + (1 : Int32)).toInt = ((k + 1 : Nat) : Int) := own_succ hj (Nat.lt_succ_self k) (by omega)
theorem own_ltI {p nn : Int32} {k n : Nat} (hp : p.toInt = (k : Int)) (hn : nn.toInt = (n : Int)) : p < nn ↔ k < n := by rw [Int32.lt_iff_toInt_lt]; omega
theorem own_mmG {cc rq : Int32} {c r c' : Nat} (hc : cc.toInt = (c : Int)) (hr : rq.toInt = (r : Int)) (hcb : c ≤ 34048) (h : c' = (if 2 * c < r then r else 2 * c)) : ∃ mm : Int32, (if ((2 : Int32) * cc) < rq then rq else ((2 : Int32) * cc)) = mm ∧ mm.toInt = (c' : Int) := by
  have q := c_imul (2 : Int32) cc
  have z := rng32 ((2 : Int32) * cc)
  simp only [Int32.reduceToInt] at q
  have e : ((2 : Int32) * cc).toInt = ((2 * c : Nat) : Int) := by omega
  refine ⟨_, rfl, ?_⟩
  have i := own_ltI e hr
  by_cases y : ((2 : Int32) * cc) < rq
  · rw [if_pos y]; rw [if_pos (i.mp y)] at h; omega
  · rw [if_neg y]; rw [if_neg (fun z => y (i.mpr z))] at h; omega
theorem own_conv {g : Nat → Int32} {x1 : Int32} {U1 U2 U3 U4 U5 U6 U7 U8 U9 : Nat → Int64} (hgi : ∀ i, i < 8 → 0 ≤ (g i).toInt ∧ (g i).toInt ≤ 1089535) (hx1 : 0 ≤ x1.toInt ∧ x1.toInt ≤ 1089535) (h1 : U1 = own_up (fun _ => (0 : Int64)) (g 0)) (h2 : U2 = own_up U1 (g 1)) (h3 : U3 = own_up U2 (g 2)) (h4 : U4 = own_up U3 (g 3)) (h5 : U5 = own_up U4 (g 4)) (h6 : U6 = own_up U5 (g 5)) (h7 : U7 = own_up U6 (g 6)) (h8 : U8 = own_up U7 (g 7)) (h9 : U9 = own_up U8 x1) : ∀ v : Int32, 0 ≤ v.toInt → (own_bt U9 v ↔ own_mem 8 g v ∨ x1 = v) := by
  intro v hv
  have e0 : ¬ own_bt (fun _ => (0 : Int64)) v := own_btz rfl
  rw [h9, own_btU _ _ _ hx1.1 hv, h8, own_btU _ _ _ (hgi 7 (by decide)).1 hv, h7, own_btU _ _ _ (hgi 6 (by decide)).1 hv, h6, own_btU _ _ _ (hgi 5 (by decide)).1 hv, h5, own_btU _ _ _ (hgi 4 (by decide)).1 hv, h4, own_btU _ _ _ (hgi 3 (by decide)).1 hv, h3, own_btU _ _ _ (hgi 2 (by decide)).1 hv, h2, own_btU _ _ _ (hgi 1 (by decide)).1 hv, h1, own_btU _ _ _ (hgi 0 (by decide)).1 hv]
  have m0 : ¬ own_mem 0 g v := fun ⟨i, hi, _⟩ => absurd hi (Nat.not_lt_zero i)
  simp only [own_mem_s, e0, m0, false_or]
theorem own_rlt {v a s : Int32} {k : Nat} (h : v < a) (hs : 0 < s.toInt) : ¬ own_run a s k v := fun ⟨j, _, e⟩ => by
  rw [Int32.lt_iff_toInt_lt] at h
  have := Int.mul_nonneg (a := (j : Int)) (b := s.toInt) (by omega) (by omega)
  omega
theorem own_x0 {a s : Int32} (hs : 0 < s.toInt ∧ s.toInt ≤ 4096) (ha : 0 ≤ a.toInt ∧ a.toInt + 40960 < 2147483648) : a.toInt = a.toInt + ((0 : Nat) : Int) * s.toInt ∧ 0 ≤ a.toInt ∧ a.toInt ≤ a.toInt + 40960 := by
  have : ((0 : Nat) : Int) * s.toInt = 0 := by simp
  omega
theorem own_x1 {a s : Int32} (hs : 0 < s.toInt ∧ s.toInt ≤ 4096) (ha : 0 ≤ a.toInt ∧ a.toInt + 40960 < 2147483648) : (a + s).toInt = a.toInt + ((1 : Nat) : Int) * s.toInt ∧ 0 ≤ (a + s).toInt ∧ (a + s).toInt ≤ a.toInt + 40960 := by
  have h := c_iadd a s
  have r := rng32 (a + s)
  have e : ((1 : Nat) : Int) * s.toInt = s.toInt := by simp
  omega
theorem own_rr {a s v : Int32} {k : Nat} (hk : k ≤ 10) (hs : 0 < s.toInt ∧ s.toInt ≤ 4096) (ha : 0 ≤ a.toInt ∧ a.toInt + 40960 < 2147483648) (h : own_run a s k v) : 0 ≤ v.toInt ∧ v.toInt ≤ a.toInt + 40960 := by
  obtain ⟨j, hj, e⟩ := h
  have h3 : 0 ≤ (j : Int) * s.toInt := Int.mul_nonneg (by omega) (by omega)
  have h4 : (j : Int) * s.toInt ≤ 10 * 4096 := Int.mul_le_mul (by omega) hs.2 (by omega) (by omega)
  omega
theorem own_nrem (z : Int32) : 0 ≤ ((z &&& (2147483647 : Int32)) % (10 : Int32)).toInt ∧ ((z &&& (2147483647 : Int32)) % (10 : Int32)).toInt ≤ 9 := by
  have a := c_and z 2147483647 (by decide)
  have q := (c_irem (z &&& (2147483647 : Int32)) 10 10 (by decide)).1 a.1
  rw [q]; omega
theorem own_sq (z : Int32) : 0 < ((z &&& (4095 : Int32)) + (1 : Int32)).toInt ∧ ((z &&& (4095 : Int32)) + (1 : Int32)).toInt ≤ 4096 := by
  have a := c_and z 4095 (by decide)
  have b := c_iadd (z &&& (4095 : Int32)) 1
  have r := rng32 ((z &&& (4095 : Int32)) + (1 : Int32))
  simp only [Int32.reduceToInt] at a b
  omega
theorem own_r11 {z : Int32} (h : 0 ≤ z.toInt) : 0 ≤ (z % (11 : Int32)).toInt ∧ (z % (11 : Int32)).toInt ≤ 10 := by
  have q := (c_irem z 11 11 (by decide)).1 h
  rw [q]; omega
theorem own_sh1 (z : Int32) : 0 ≤ ((z.toUInt32 >>> ((1 : Int32) &&& 31).toUInt32).toInt32).toInt := by
  have h := c_iushr z 1 1 (by decide) (by decide)
  have r := rng32 z
  simp only [Nat.reducePow] at h
  rw [h]; omega
theorem own_sh2 (z : Int32) : 0 ≤ ((z.toUInt32 >>> ((2 : Int32) &&& 31).toUInt32).toInt32).toInt := by
  have h := c_iushr z 2 2 (by decide) (by decide)
  have r := rng32 z
  simp only [Nat.reducePow] at h
  rw [h]; omega
theorem own_x11 {a s z : Int32} (hz : 0 ≤ z.toInt) (hs : 0 < s.toInt ∧ s.toInt ≤ 4096) (ha : 0 ≤ a.toInt ∧ a.toInt + 40960 < 2147483648) : 0 ≤ (a + (z % (11 : Int32)) * s).toInt ∧ (a + (z % (11 : Int32)) * s).toInt ≤ a.toInt + 40960 := by
  have r := own_r11 hz
  exact (own_xk (c := z % (11 : Int32)) (k := (z % (11 : Int32)).toInt.toNat) (by omega) (by omega) hs ha rfl).2
def own_M (a s : Int32) (k : Nat) (w v : Int32) : Prop := own_run a s k v ∨ w = v
theorem own_few.size {n0 : Nat} {Z : State} {h : Heap} {a len cap : Nat} {g : Nat → Int32} (F : own_few n0 Z h a len cap g) : ∃ sz : Int32, sz.toInt = (len : Int) ∧ Fld Z h a "com/example/kunci/kunci/NumberSet" "size" "I" (.int sz) := by obtain ⟨aN, sz, ga, gN, naN, hsz, hlc, hc8, hcc, Ea, Fs, -⟩ := F; exact ⟨sz, hsz, Fs⟩
theorem own_bw.size {n0 : Nat} {Z : State} {h : Heap} {a len cap : Nat} {U : Nat → Int64} (F : own_bw n0 Z h a len cap U) : ∃ sz : Int32, sz.toInt = (len : Int) ∧ Fld Z h a "com/example/kunci/kunci/NumberSet" "size" "I" (.int sz) := by obtain ⟨b, w, sz, wu, wn, -, -, -, -, -, -, hsz, -, -, -, -, -, Fs, -⟩ := F; exact ⟨sz, hsz, Fs⟩
theorem own_d1_0 : decode prog_3_method_1_code 0 = .ok (.aload_n 0, 1) := by decide +kernel
theorem own_d1_1 : decode prog_3_method_1_code 1 = .ok (.invokespecial 1, 3) := by decide +kernel
theorem own_d1_4 : decode prog_3_method_1_code 4 = .ok (.aload_n 0, 1) := by decide +kernel
theorem own_d1_5 : decode prog_3_method_1_code 5 = .ok (.iconst 0, 1) := by decide +kernel
theorem own_d1_6 : decode prog_3_method_1_code 6 = .ok (.newarray .int, 2) := by decide +kernel
theorem own_d1_8 : decode prog_3_method_1_code 8 = .ok (.putfield 7, 3) := by decide +kernel
theorem own_d1_11 : decode prog_3_method_1_code 11 = .ok (.return_, 1) := by decide +kernel
theorem own_d3_0 : decode prog_3_method_2_code 0 = .ok (.aload_n 0, 1) := by decide +kernel
theorem own_d3_1 : decode prog_3_method_2_code 1 = .ok (.iload_n 1, 1) := by decide +kernel
theorem own_d3_2 : decode prog_3_method_2_code 2 = .ok (.invokevirtual 13, 3) := by decide +kernel
theorem own_d3_5 : decode prog_3_method_2_code 5 = .ok (.ifCond .eq 5, 3) := by decide +kernel
theorem own_d3_8 : decode prog_3_method_2_code 8 = .ok (.iconst 0, 1) := by decide +kernel
theorem own_d3_9 : decode prog_3_method_2_code 9 = .ok (.ireturn, 1) := by decide +kernel
theorem own_d3_10 : decode prog_3_method_2_code 10 = .ok (.aload_n 0, 1) := by decide +kernel
theorem own_d3_11 : decode prog_3_method_2_code 11 = .ok (.getfield 17, 3) := by decide +kernel
theorem own_d3_14 : decode prog_3_method_2_code 14 = .ok (.ifnull 14, 3) := by decide +kernel
theorem own_d3_17 : decode prog_3_method_2_code 17 = .ok (.aload_n 0, 1) := by decide +kernel
theorem own_d3_18 : decode prog_3_method_2_code 18 = .ok (.getfield 17, 3) := by decide +kernel
theorem own_d3_21 : decode prog_3_method_2_code 21 = .ok (.iload_n 1, 1) := by decide +kernel
theorem own_d3_22 : decode prog_3_method_2_code 22 = .ok (.invokevirtual 21, 3) := by decide +kernel
theorem own_d3_25 : decode prog_3_method_2_code 25 = .ok (.goto 111, 3) := by decide +kernel
theorem own_d3_28 : decode prog_3_method_2_code 28 = .ok (.aload_n 0, 1) := by decide +kernel
theorem own_d3_29 : decode prog_3_method_2_code 29 = .ok (.getfield 27, 3) := by decide +kernel
theorem own_d3_32 : decode prog_3_method_2_code 32 = .ok (.bipush 8, 2) := by decide +kernel
theorem own_d3_34 : decode prog_3_method_2_code 34 = .ok (.if_icmp .ge 49, 3) := by decide +kernel
theorem own_d3_37 : decode prog_3_method_2_code 37 = .ok (.aload_n 0, 1) := by decide +kernel
theorem own_d3_38 : decode prog_3_method_2_code 38 = .ok (.getfield 27, 3) := by decide +kernel
theorem own_d3_41 : decode prog_3_method_2_code 41 = .ok (.aload_n 0, 1) := by decide +kernel
theorem own_d3_42 : decode prog_3_method_2_code 42 = .ok (.getfield 7, 3) := by decide +kernel
theorem own_d3_45 : decode prog_3_method_2_code 45 = .ok (.arraylength, 1) := by decide +kernel
theorem own_d3_46 : decode prog_3_method_2_code 46 = .ok (.if_icmp .ne 24, 3) := by decide +kernel
theorem own_d3_49 : decode prog_3_method_2_code 49 = .ok (.aload_n 0, 1) := by decide +kernel
theorem own_d3_50 : decode prog_3_method_2_code 50 = .ok (.aload_n 0, 1) := by decide +kernel
theorem own_d3_51 : decode prog_3_method_2_code 51 = .ok (.getfield 7, 3) := by decide +kernel
theorem own_d3_54 : decode prog_3_method_2_code 54 = .ok (.iconst 2, 1) := by decide +kernel
theorem own_d3_55 : decode prog_3_method_2_code 55 = .ok (.iconst 2, 1) := by decide +kernel
theorem own_d3_56 : decode prog_3_method_2_code 56 = .ok (.aload_n 0, 1) := by decide +kernel
theorem own_d3_57 : decode prog_3_method_2_code 57 = .ok (.getfield 27, 3) := by decide +kernel
theorem own_d3_60 : decode prog_3_method_2_code 60 = .ok (.imul, 1) := by decide +kernel
theorem own_d3_61 : decode prog_3_method_2_code 61 = .ok (.invokestatic 31, 3) := by decide +kernel
theorem own_d3_64 : decode prog_3_method_2_code 64 = .ok (.invokestatic 37, 3) := by decide +kernel
theorem own_d3_67 : decode prog_3_method_2_code 67 = .ok (.putfield 7, 3) := by decide +kernel
theorem own_d3_70 : decode prog_3_method_2_code 70 = .ok (.aload_n 0, 1) := by decide +kernel
theorem own_d3_71 : decode prog_3_method_2_code 71 = .ok (.getfield 7, 3) := by decide +kernel
theorem own_d3_74 : decode prog_3_method_2_code 74 = .ok (.aload_n 0, 1) := by decide +kernel
theorem own_d3_75 : decode prog_3_method_2_code 75 = .ok (.getfield 27, 3) := by decide +kernel
theorem own_d3_78 : decode prog_3_method_2_code 78 = .ok (.iload_n 1, 1) := by decide +kernel
theorem own_d3_79 : decode prog_3_method_2_code 79 = .ok (.iastore, 1) := by decide +kernel
theorem own_d3_80 : decode prog_3_method_2_code 80 = .ok (.goto 56, 3) := by decide +kernel
theorem own_d3_83 : decode prog_3_method_2_code 83 = .ok (.aload_n 0, 1) := by decide +kernel
theorem own_d3_84 : decode prog_3_method_2_code 84 = .ok (.new 22, 3) := by decide +kernel
theorem own_d3_87 : decode prog_3_method_2_code 87 = .ok (.dup, 1) := by decide +kernel
theorem own_d3_88 : decode prog_3_method_2_code 88 = .ok (.invokespecial 43, 3) := by decide +kernel
theorem own_d3_91 : decode prog_3_method_2_code 91 = .ok (.putfield 17, 3) := by decide +kernel
theorem own_d3_94 : decode prog_3_method_2_code 94 = .ok (.iconst 0, 1) := by decide +kernel
theorem own_d3_95 : decode prog_3_method_2_code 95 = .ok (.istore_n 2, 1) := by decide +kernel
theorem own_d3_96 : decode prog_3_method_2_code 96 = .ok (.iload_n 2, 1) := by decide +kernel
theorem own_d3_97 : decode prog_3_method_2_code 97 = .ok (.aload_n 0, 1) := by decide +kernel
theorem own_d3_98 : decode prog_3_method_2_code 98 = .ok (.getfield 27, 3) := by decide +kernel
theorem own_d3_101 : decode prog_3_method_2_code 101 = .ok (.if_icmp .ge 22, 3) := by decide +kernel
theorem own_d3_104 : decode prog_3_method_2_code 104 = .ok (.aload_n 0, 1) := by decide +kernel
theorem own_d3_105 : decode prog_3_method_2_code 105 = .ok (.getfield 17, 3) := by decide +kernel
theorem own_d3_108 : decode prog_3_method_2_code 108 = .ok (.aload_n 0, 1) := by decide +kernel
theorem own_d3_109 : decode prog_3_method_2_code 109 = .ok (.getfield 7, 3) := by decide +kernel
theorem own_d3_112 : decode prog_3_method_2_code 112 = .ok (.iload_n 2, 1) := by decide +kernel
theorem own_d3_113 : decode prog_3_method_2_code 113 = .ok (.iaload, 1) := by decide +kernel
theorem own_d3_114 : decode prog_3_method_2_code 114 = .ok (.invokevirtual 21, 3) := by decide +kernel
theorem own_d3_117 : decode prog_3_method_2_code 117 = .ok (.iinc 2 1, 3) := by decide +kernel
theorem own_d3_120 : decode prog_3_method_2_code 120 = .ok (.goto (-24), 3) := by decide +kernel
theorem own_d3_123 : decode prog_3_method_2_code 123 = .ok (.aload_n 0, 1) := by decide +kernel
theorem own_d3_124 : decode prog_3_method_2_code 124 = .ok (.getfield 17, 3) := by decide +kernel
theorem own_d3_127 : decode prog_3_method_2_code 127 = .ok (.iload_n 1, 1) := by decide +kernel
theorem own_d3_128 : decode prog_3_method_2_code 128 = .ok (.invokevirtual 21, 3) := by decide +kernel
theorem own_d3_131 : decode prog_3_method_2_code 131 = .ok (.aload_n 0, 1) := by decide +kernel
theorem own_d3_132 : decode prog_3_method_2_code 132 = .ok (.aconst_null, 1) := by decide +kernel
theorem own_d3_133 : decode prog_3_method_2_code 133 = .ok (.putfield 7, 3) := by decide +kernel
theorem own_d3_136 : decode prog_3_method_2_code 136 = .ok (.aload_n 0, 1) := by decide +kernel
theorem own_d3_137 : decode prog_3_method_2_code 137 = .ok (.dup, 1) := by decide +kernel
theorem own_d3_138 : decode prog_3_method_2_code 138 = .ok (.getfield 27, 3) := by decide +kernel
theorem own_d3_141 : decode prog_3_method_2_code 141 = .ok (.iconst 1, 1) := by decide +kernel
theorem own_d3_142 : decode prog_3_method_2_code 142 = .ok (.iadd, 1) := by decide +kernel
theorem own_d3_143 : decode prog_3_method_2_code 143 = .ok (.putfield 27, 3) := by decide +kernel
theorem own_d3_146 : decode prog_3_method_2_code 146 = .ok (.iconst 1, 1) := by decide +kernel
theorem own_d3_147 : decode prog_3_method_2_code 147 = .ok (.ireturn, 1) := by decide +kernel
theorem own_d4_0 : decode prog_3_method_3_code 0 = .ok (.aload_n 0, 1) := by decide +kernel
theorem own_d4_1 : decode prog_3_method_3_code 1 = .ok (.getfield 17, 3) := by decide +kernel
theorem own_d4_4 : decode prog_3_method_3_code 4 = .ok (.ifnonnull 11, 3) := by decide +kernel
theorem own_d4_7 : decode prog_3_method_3_code 7 = .ok (.aload_n 0, 1) := by decide +kernel
theorem own_d4_8 : decode prog_3_method_3_code 8 = .ok (.iload_n 1, 1) := by decide +kernel
theorem own_d4_9 : decode prog_3_method_3_code 9 = .ok (.invokevirtual 44, 3) := by decide +kernel
theorem own_d4_12 : decode prog_3_method_3_code 12 = .ok (.goto 11, 3) := by decide +kernel
theorem own_d4_15 : decode prog_3_method_3_code 15 = .ok (.aload_n 0, 1) := by decide +kernel
theorem own_d4_16 : decode prog_3_method_3_code 16 = .ok (.getfield 17, 3) := by decide +kernel
theorem own_d4_19 : decode prog_3_method_3_code 19 = .ok (.iload_n 1, 1) := by decide +kernel
theorem own_d4_20 : decode prog_3_method_3_code 20 = .ok (.invokevirtual 47, 3) := by decide +kernel
theorem own_d4_23 : decode prog_3_method_3_code 23 = .ok (.ireturn, 1) := by decide +kernel
theorem own_d5_0 : decode prog_3_method_7_code 0 = .ok (.iconst 0, 1) := by decide +kernel
theorem own_d5_1 : decode prog_3_method_7_code 1 = .ok (.istore_n 2, 1) := by decide +kernel
theorem own_d5_2 : decode prog_3_method_7_code 2 = .ok (.iload_n 2, 1) := by decide +kernel
theorem own_d5_3 : decode prog_3_method_7_code 3 = .ok (.aload_n 0, 1) := by decide +kernel
theorem own_d5_4 : decode prog_3_method_7_code 4 = .ok (.getfield 27, 3) := by decide +kernel
theorem own_d5_7 : decode prog_3_method_7_code 7 = .ok (.if_icmp .ge 21, 3) := by decide +kernel
theorem own_d5_10 : decode prog_3_method_7_code 10 = .ok (.aload_n 0, 1) := by decide +kernel
theorem own_d5_11 : decode prog_3_method_7_code 11 = .ok (.getfield 7, 3) := by decide +kernel
theorem own_d5_14 : decode prog_3_method_7_code 14 = .ok (.iload_n 2, 1) := by decide +kernel
theorem own_d5_15 : decode prog_3_method_7_code 15 = .ok (.iaload, 1) := by decide +kernel
theorem own_d5_16 : decode prog_3_method_7_code 16 = .ok (.iload_n 1, 1) := by decide +kernel
theorem own_d5_17 : decode prog_3_method_7_code 17 = .ok (.if_icmp .ne 5, 3) := by decide +kernel
theorem own_d5_20 : decode prog_3_method_7_code 20 = .ok (.iconst 1, 1) := by decide +kernel
theorem own_d5_21 : decode prog_3_method_7_code 21 = .ok (.ireturn, 1) := by decide +kernel
theorem own_d5_22 : decode prog_3_method_7_code 22 = .ok (.iinc 2 1, 3) := by decide +kernel
theorem own_d5_25 : decode prog_3_method_7_code 25 = .ok (.goto (-23), 3) := by decide +kernel
theorem own_d5_28 : decode prog_3_method_7_code 28 = .ok (.iconst 0, 1) := by decide +kernel
theorem own_d5_29 : decode prog_3_method_7_code 29 = .ok (.ireturn, 1) := by decide +kernel
theorem own_d6_0 : decode jdk_29_method_65_code 0 = .ok (.iload_n 0, 1) := by decide +kernel
theorem own_d6_1 : decode jdk_29_method_65_code 1 = .ok (.iload_n 1, 1) := by decide +kernel
theorem own_d6_2 : decode jdk_29_method_65_code 2 = .ok (.if_icmp .lt 7, 3) := by decide +kernel
theorem own_d6_5 : decode jdk_29_method_65_code 5 = .ok (.iload_n 0, 1) := by decide +kernel
theorem own_d6_6 : decode jdk_29_method_65_code 6 = .ok (.goto 4, 3) := by decide +kernel
theorem own_d6_9 : decode jdk_29_method_65_code 9 = .ok (.iload_n 1, 1) := by decide +kernel
theorem own_d6_10 : decode jdk_29_method_65_code 10 = .ok (.ireturn, 1) := by decide +kernel
theorem own_d7_0 : decode jdk_65_method_123_code 0 = .ok (.iload_n 1, 1) := by decide +kernel
theorem own_d7_1 : decode jdk_65_method_123_code 1 = .ok (.aload_n 0, 1) := by decide +kernel
theorem own_d7_2 : decode jdk_65_method_123_code 2 = .ok (.arraylength, 1) := by decide +kernel
theorem own_d7_3 : decode jdk_65_method_123_code 3 = .ok (.if_icmp .ne 11, 3) := by decide +kernel
theorem own_d7_14 : decode jdk_65_method_123_code 14 = .ok (.iload_n 1, 1) := by decide +kernel
theorem own_d7_15 : decode jdk_65_method_123_code 15 = .ok (.newarray .int, 2) := by decide +kernel
theorem own_d7_17 : decode jdk_65_method_123_code 17 = .ok (.astore_n 2, 1) := by decide +kernel
theorem own_d7_18 : decode jdk_65_method_123_code 18 = .ok (.aload_n 0, 1) := by decide +kernel
theorem own_d7_19 : decode jdk_65_method_123_code 19 = .ok (.iconst 0, 1) := by decide +kernel
theorem own_d7_20 : decode jdk_65_method_123_code 20 = .ok (.aload_n 2, 1) := by decide +kernel
theorem own_d7_21 : decode jdk_65_method_123_code 21 = .ok (.iconst 0, 1) := by decide +kernel
theorem own_d7_22 : decode jdk_65_method_123_code 22 = .ok (.aload_n 0, 1) := by decide +kernel
theorem own_d7_23 : decode jdk_65_method_123_code 23 = .ok (.arraylength, 1) := by decide +kernel
theorem own_d7_24 : decode jdk_65_method_123_code 24 = .ok (.iload_n 1, 1) := by decide +kernel
theorem own_d7_25 : decode jdk_65_method_123_code 25 = .ok (.invokestatic 304, 3) := by decide +kernel
theorem own_d7_28 : decode jdk_65_method_123_code 28 = .ok (.invokestatic 150, 3) := by decide +kernel
theorem own_d7_31 : decode jdk_65_method_123_code 31 = .ok (.aload_n 2, 1) := by decide +kernel
theorem own_d7_32 : decode jdk_65_method_123_code 32 = .ok (.areturn, 1) := by decide +kernel
theorem own_d8_0 : decode jdk_29_method_69_code 0 = .ok (.iload_n 0, 1) := by decide +kernel
theorem own_d8_1 : decode jdk_29_method_69_code 1 = .ok (.iload_n 1, 1) := by decide +kernel
theorem own_d8_2 : decode jdk_29_method_69_code 2 = .ok (.if_icmp .gt 7, 3) := by decide +kernel
theorem own_d8_5 : decode jdk_29_method_69_code 5 = .ok (.iload_n 0, 1) := by decide +kernel
theorem own_d8_6 : decode jdk_29_method_69_code 6 = .ok (.goto 4, 3) := by decide +kernel
theorem own_d8_9 : decode jdk_29_method_69_code 9 = .ok (.iload_n 1, 1) := by decide +kernel
theorem own_d8_10 : decode jdk_29_method_69_code 10 = .ok (.ireturn, 1) := by decide +kernel
theorem own_d9_0 : decode method_3_code 0 = .ok (.iload_n 0, 1) := by decide +kernel
theorem own_d9_1 : decode method_3_code 1 = .ok (.iload_n 1, 1) := by decide +kernel
theorem own_d9_2 : decode method_3_code 2 = .ok (.if_icmp .ge 5, 3) := by decide +kernel
theorem own_d9_5 : decode method_3_code 5 = .ok (.iconst 0, 1) := by decide +kernel
theorem own_d9_6 : decode method_3_code 6 = .ok (.ireturn, 1) := by decide +kernel
theorem own_d9_7 : decode method_3_code 7 = .ok (.iload_n 0, 1) := by decide +kernel
theorem own_d9_8 : decode method_3_code 8 = .ok (.iload_n 1, 1) := by decide +kernel
theorem own_d9_9 : decode method_3_code 9 = .ok (.isub, 1) := by decide +kernel
theorem own_d9_10 : decode method_3_code 10 = .ok (.istore 4, 2) := by decide +kernel
theorem own_d9_12 : decode method_3_code 12 = .ok (.iload 4, 2) := by decide +kernel
theorem own_d9_14 : decode method_3_code 14 = .ok (.iload_n 2, 1) := by decide +kernel
theorem own_d9_15 : decode method_3_code 15 = .ok (.irem, 1) := by decide +kernel
theorem own_d9_16 : decode method_3_code 16 = .ok (.ifCond .ne 15, 3) := by decide +kernel
theorem own_d9_19 : decode method_3_code 19 = .ok (.iload 4, 2) := by decide +kernel
theorem own_d9_21 : decode method_3_code 21 = .ok (.iload_n 2, 1) := by decide +kernel
theorem own_d9_22 : decode method_3_code 22 = .ok (.idiv, 1) := by decide +kernel
theorem own_d9_23 : decode method_3_code 23 = .ok (.iload_n 3, 1) := by decide +kernel
theorem own_d9_24 : decode method_3_code 24 = .ok (.if_icmp .ge 7, 3) := by decide +kernel
theorem own_d9_27 : decode method_3_code 27 = .ok (.iconst 1, 1) := by decide +kernel
theorem own_d9_28 : decode method_3_code 28 = .ok (.goto 4, 3) := by decide +kernel
theorem own_d9_31 : decode method_3_code 31 = .ok (.iconst 0, 1) := by decide +kernel
theorem own_d9_32 : decode method_3_code 32 = .ok (.ireturn, 1) := by decide +kernel
theorem own_d10_0 : decode prog_3_method_4_code 0 = .ok (.aload_n 0, 1) := by decide +kernel
theorem own_d10_1 : decode prog_3_method_4_code 1 = .ok (.getfield 27, 3) := by decide +kernel
theorem own_d10_4 : decode prog_3_method_4_code 4 = .ok (.ireturn, 1) := by decide +kernel
theorem own_d11_0 : decode jdk_92_method_4_code 0 = .ok (.aload_n 0, 1) := by decide +kernel
theorem own_d11_1 : decode jdk_92_method_4_code 1 = .ok (.invokespecial 21, 3) := by decide +kernel
theorem own_d11_4 : decode jdk_92_method_4_code 4 = .ok (.aload_n 0, 1) := by decide +kernel
theorem own_d11_5 : decode jdk_92_method_4_code 5 = .ok (.iconst 0, 1) := by decide +kernel
theorem own_d11_6 : decode jdk_92_method_4_code 6 = .ok (.putfield 7, 3) := by decide +kernel
theorem own_d11_9 : decode jdk_92_method_4_code 9 = .ok (.aload_n 0, 1) := by decide +kernel
theorem own_d11_10 : decode jdk_92_method_4_code 10 = .ok (.iconst 0, 1) := by decide +kernel
theorem own_d11_11 : decode jdk_92_method_4_code 11 = .ok (.putfield 24, 3) := by decide +kernel
theorem own_d11_14 : decode jdk_92_method_4_code 14 = .ok (.aload_n 0, 1) := by decide +kernel
theorem own_d11_15 : decode jdk_92_method_4_code 15 = .ok (.bipush 64, 2) := by decide +kernel
theorem own_d11_17 : decode jdk_92_method_4_code 17 = .ok (.invokevirtual 27, 3) := by decide +kernel
theorem own_d11_20 : decode jdk_92_method_4_code 20 = .ok (.aload_n 0, 1) := by decide +kernel
theorem own_d11_21 : decode jdk_92_method_4_code 21 = .ok (.iconst 0, 1) := by decide +kernel
theorem own_d11_22 : decode jdk_92_method_4_code 22 = .ok (.putfield 24, 3) := by decide +kernel
theorem own_d11_25 : decode jdk_92_method_4_code 25 = .ok (.return_, 1) := by decide +kernel
theorem own_d12_0 : decode jdk_92_method_6_code 0 = .ok (.aload_n 0, 1) := by decide +kernel
theorem own_d12_1 : decode jdk_92_method_6_code 1 = .ok (.iload_n 1, 1) := by decide +kernel
theorem own_d12_2 : decode jdk_92_method_6_code 2 = .ok (.iconst 1, 1) := by decide +kernel
theorem own_d12_3 : decode jdk_92_method_6_code 3 = .ok (.isub, 1) := by decide +kernel
theorem own_d12_4 : decode jdk_92_method_6_code 4 = .ok (.invokestatic 52, 3) := by decide +kernel
theorem own_d12_7 : decode jdk_92_method_6_code 7 = .ok (.iconst 1, 1) := by decide +kernel
theorem own_d12_8 : decode jdk_92_method_6_code 8 = .ok (.iadd, 1) := by decide +kernel
theorem own_d12_9 : decode jdk_92_method_6_code 9 = .ok (.newarray .long, 2) := by decide +kernel
theorem own_d12_11 : decode jdk_92_method_6_code 11 = .ok (.putfield 11, 3) := by decide +kernel
theorem own_d12_14 : decode jdk_92_method_6_code 14 = .ok (.return_, 1) := by decide +kernel
theorem own_d13_0 : decode jdk_92_method_1_code 0 = .ok (.iload_n 0, 1) := by decide +kernel
theorem own_d13_1 : decode jdk_92_method_1_code 1 = .ok (.bipush 6, 2) := by decide +kernel
theorem own_d13_3 : decode jdk_92_method_1_code 3 = .ok (.ishr, 1) := by decide +kernel
theorem own_d13_4 : decode jdk_92_method_1_code 4 = .ok (.ireturn, 1) := by decide +kernel
theorem own_d14_0 : decode jdk_92_method_19_code 0 = .ok (.iload_n 1, 1) := by decide +kernel
theorem own_d14_1 : decode jdk_92_method_19_code 1 = .ok (.ifCond .ge 30, 3) := by decide +kernel
theorem own_d14_31 : decode jdk_92_method_19_code 31 = .ok (.iload_n 1, 1) := by decide +kernel
theorem own_d14_32 : decode jdk_92_method_19_code 32 = .ok (.invokestatic 52, 3) := by decide +kernel
theorem own_d14_35 : decode jdk_92_method_19_code 35 = .ok (.istore_n 2, 1) := by decide +kernel
theorem own_d14_36 : decode jdk_92_method_19_code 36 = .ok (.aload_n 0, 1) := by decide +kernel
theorem own_d14_37 : decode jdk_92_method_19_code 37 = .ok (.iload_n 2, 1) := by decide +kernel
theorem own_d14_38 : decode jdk_92_method_19_code 38 = .ok (.invokevirtual 155, 3) := by decide +kernel
theorem own_d14_41 : decode jdk_92_method_19_code 41 = .ok (.aload_n 0, 1) := by decide +kernel
theorem own_d14_42 : decode jdk_92_method_19_code 42 = .ok (.getfield 11, 3) := by decide +kernel
theorem own_d14_45 : decode jdk_92_method_19_code 45 = .ok (.iload_n 2, 1) := by decide +kernel
theorem own_d14_46 : decode jdk_92_method_19_code 46 = .ok (.dup2, 1) := by decide +kernel
theorem own_d14_47 : decode jdk_92_method_19_code 47 = .ok (.laload, 1) := by decide +kernel
theorem own_d14_48 : decode jdk_92_method_19_code 48 = .ok (.lconst 1, 1) := by decide +kernel
theorem own_d14_49 : decode jdk_92_method_19_code 49 = .ok (.iload_n 1, 1) := by decide +kernel
theorem own_d14_50 : decode jdk_92_method_19_code 50 = .ok (.lshl, 1) := by decide +kernel
theorem own_d14_51 : decode jdk_92_method_19_code 51 = .ok (.lor, 1) := by decide +kernel
theorem own_d14_52 : decode jdk_92_method_19_code 52 = .ok (.lastore, 1) := by decide +kernel
theorem own_d14_53 : decode jdk_92_method_19_code 53 = .ok (.aload_n 0, 1) := by decide +kernel
theorem own_d14_54 : decode jdk_92_method_19_code 54 = .ok (.invokevirtual 56, 3) := by decide +kernel
theorem own_d14_57 : decode jdk_92_method_19_code 57 = .ok (.return_, 1) := by decide +kernel
theorem own_d15_0 : decode jdk_92_method_15_code 0 = .ok (.iload_n 1, 1) := by decide +kernel
theorem own_d15_1 : decode jdk_92_method_15_code 1 = .ok (.iconst 1, 1) := by decide +kernel
theorem own_d15_2 : decode jdk_92_method_15_code 2 = .ok (.iadd, 1) := by decide +kernel
theorem own_d15_3 : decode jdk_92_method_15_code 3 = .ok (.istore_n 2, 1) := by decide +kernel
theorem own_d15_4 : decode jdk_92_method_15_code 4 = .ok (.aload_n 0, 1) := by decide +kernel
theorem own_d15_5 : decode jdk_92_method_15_code 5 = .ok (.getfield 7, 3) := by decide +kernel
theorem own_d15_8 : decode jdk_92_method_15_code 8 = .ok (.iload_n 2, 1) := by decide +kernel
theorem own_d15_9 : decode jdk_92_method_15_code 9 = .ok (.if_icmp .ge 13, 3) := by decide +kernel
theorem own_d15_12 : decode jdk_92_method_15_code 12 = .ok (.aload_n 0, 1) := by decide +kernel
theorem own_d15_13 : decode jdk_92_method_15_code 13 = .ok (.iload_n 2, 1) := by decide +kernel
theorem own_d15_14 : decode jdk_92_method_15_code 14 = .ok (.invokevirtual 139, 3) := by decide +kernel
theorem own_d15_17 : decode jdk_92_method_15_code 17 = .ok (.aload_n 0, 1) := by decide +kernel
theorem own_d15_18 : decode jdk_92_method_15_code 18 = .ok (.iload_n 2, 1) := by decide +kernel
theorem own_d15_19 : decode jdk_92_method_15_code 19 = .ok (.putfield 7, 3) := by decide +kernel
theorem own_d15_22 : decode jdk_92_method_15_code 22 = .ok (.return_, 1) := by decide +kernel
theorem own_d16_0 : decode jdk_92_method_14_code 0 = .ok (.aload_n 0, 1) := by decide +kernel
theorem own_d16_1 : decode jdk_92_method_14_code 1 = .ok (.getfield 11, 3) := by decide +kernel
theorem own_d16_4 : decode jdk_92_method_14_code 4 = .ok (.arraylength, 1) := by decide +kernel
theorem own_d16_5 : decode jdk_92_method_14_code 5 = .ok (.iload_n 1, 1) := by decide +kernel
theorem own_d16_6 : decode jdk_92_method_14_code 6 = .ok (.if_icmp .ge 32, 3) := by decide +kernel
theorem own_d16_9 : decode jdk_92_method_14_code 9 = .ok (.iconst 2, 1) := by decide +kernel
theorem own_d16_10 : decode jdk_92_method_14_code 10 = .ok (.aload_n 0, 1) := by decide +kernel
theorem own_d16_11 : decode jdk_92_method_14_code 11 = .ok (.getfield 11, 3) := by decide +kernel
theorem own_d16_14 : decode jdk_92_method_14_code 14 = .ok (.arraylength, 1) := by decide +kernel
theorem own_d16_15 : decode jdk_92_method_14_code 15 = .ok (.imul, 1) := by decide +kernel
theorem own_d16_16 : decode jdk_92_method_14_code 16 = .ok (.iload_n 1, 1) := by decide +kernel
theorem own_d16_17 : decode jdk_92_method_14_code 17 = .ok (.invokestatic 133, 3) := by decide +kernel
theorem own_d16_20 : decode jdk_92_method_14_code 20 = .ok (.istore_n 2, 1) := by decide +kernel
theorem own_d16_21 : decode jdk_92_method_14_code 21 = .ok (.aload_n 0, 1) := by decide +kernel
theorem own_d16_22 : decode jdk_92_method_14_code 22 = .ok (.aload_n 0, 1) := by decide +kernel
theorem own_d16_23 : decode jdk_92_method_14_code 23 = .ok (.getfield 11, 3) := by decide +kernel
theorem own_d16_26 : decode jdk_92_method_14_code 26 = .ok (.iload_n 2, 1) := by decide +kernel
theorem own_d16_27 : decode jdk_92_method_14_code 27 = .ok (.invokestatic 59, 3) := by decide +kernel
theorem own_d16_30 : decode jdk_92_method_14_code 30 = .ok (.putfield 11, 3) := by decide +kernel
theorem own_d16_33 : decode jdk_92_method_14_code 33 = .ok (.aload_n 0, 1) := by decide +kernel
theorem own_d16_34 : decode jdk_92_method_14_code 34 = .ok (.iconst 0, 1) := by decide +kernel
theorem own_d16_35 : decode jdk_92_method_14_code 35 = .ok (.putfield 24, 3) := by decide +kernel
theorem own_d16_38 : decode jdk_92_method_14_code 38 = .ok (.return_, 1) := by decide +kernel
theorem own_d17_0 : decode jdk_92_method_2_code 0 = .ok (.getstatic 3, 3) := by decide +kernel
theorem own_d17_3 : decode jdk_92_method_2_code 3 = .ok (.ifCond .ne 34, 3) := by decide +kernel
theorem own_d17_37 : decode jdk_92_method_2_code 37 = .ok (.getstatic 3, 3) := by decide +kernel
theorem own_d17_40 : decode jdk_92_method_2_code 40 = .ok (.ifCond .ne 30, 3) := by decide +kernel
theorem own_d17_70 : decode jdk_92_method_2_code 70 = .ok (.getstatic 3, 3) := by decide +kernel
theorem own_d17_73 : decode jdk_92_method_2_code 73 = .ok (.ifCond .ne 37, 3) := by decide +kernel
theorem own_d17_110 : decode jdk_92_method_2_code 110 = .ok (.return_, 1) := by decide +kernel
theorem own_d18_0 : decode jdk_65_method_124_code 0 = .ok (.iload_n 1, 1) := by decide +kernel
theorem own_d18_1 : decode jdk_65_method_124_code 1 = .ok (.aload_n 0, 1) := by decide +kernel
theorem own_d18_2 : decode jdk_65_method_124_code 2 = .ok (.arraylength, 1) := by decide +kernel
theorem own_d18_3 : decode jdk_65_method_124_code 3 = .ok (.if_icmp .ne 11, 3) := by decide +kernel
theorem own_d18_14 : decode jdk_65_method_124_code 14 = .ok (.iload_n 1, 1) := by decide +kernel
theorem own_d18_15 : decode jdk_65_method_124_code 15 = .ok (.newarray .long, 2) := by decide +kernel
theorem own_d18_17 : decode jdk_65_method_124_code 17 = .ok (.astore_n 2, 1) := by decide +kernel
theorem own_d18_18 : decode jdk_65_method_124_code 18 = .ok (.aload_n 0, 1) := by decide +kernel
theorem own_d18_19 : decode jdk_65_method_124_code 19 = .ok (.iconst 0, 1) := by decide +kernel
theorem own_d18_20 : decode jdk_65_method_124_code 20 = .ok (.aload_n 2, 1) := by decide +kernel
theorem own_d18_21 : decode jdk_65_method_124_code 21 = .ok (.iconst 0, 1) := by decide +kernel
theorem own_d18_22 : decode jdk_65_method_124_code 22 = .ok (.aload_n 0, 1) := by decide +kernel
theorem own_d18_23 : decode jdk_65_method_124_code 23 = .ok (.arraylength, 1) := by decide +kernel
theorem own_d18_24 : decode jdk_65_method_124_code 24 = .ok (.iload_n 1, 1) := by decide +kernel
theorem own_d18_25 : decode jdk_65_method_124_code 25 = .ok (.invokestatic 304, 3) := by decide +kernel
theorem own_d18_28 : decode jdk_65_method_124_code 28 = .ok (.invokestatic 150, 3) := by decide +kernel
theorem own_d18_31 : decode jdk_65_method_124_code 31 = .ok (.aload_n 2, 1) := by decide +kernel
theorem own_d18_32 : decode jdk_65_method_124_code 32 = .ok (.areturn, 1) := by decide +kernel
theorem own_d19_0 : decode jdk_92_method_26_code 0 = .ok (.iload_n 1, 1) := by decide +kernel
theorem own_d19_1 : decode jdk_92_method_26_code 1 = .ok (.ifCond .ge 30, 3) := by decide +kernel
theorem own_d19_31 : decode jdk_92_method_26_code 31 = .ok (.aload_n 0, 1) := by decide +kernel
theorem own_d19_32 : decode jdk_92_method_26_code 32 = .ok (.invokevirtual 56, 3) := by decide +kernel
theorem own_d19_35 : decode jdk_92_method_26_code 35 = .ok (.iload_n 1, 1) := by decide +kernel
theorem own_d19_36 : decode jdk_92_method_26_code 36 = .ok (.invokestatic 52, 3) := by decide +kernel
theorem own_d19_39 : decode jdk_92_method_26_code 39 = .ok (.istore_n 2, 1) := by decide +kernel
theorem own_d19_40 : decode jdk_92_method_26_code 40 = .ok (.iload_n 2, 1) := by decide +kernel
theorem own_d19_41 : decode jdk_92_method_26_code 41 = .ok (.aload_n 0, 1) := by decide +kernel
theorem own_d19_42 : decode jdk_92_method_26_code 42 = .ok (.getfield 7, 3) := by decide +kernel
theorem own_d19_45 : decode jdk_92_method_26_code 45 = .ok (.if_icmp .ge 22, 3) := by decide +kernel
theorem own_d19_48 : decode jdk_92_method_26_code 48 = .ok (.aload_n 0, 1) := by decide +kernel
theorem own_d19_49 : decode jdk_92_method_26_code 49 = .ok (.getfield 11, 3) := by decide +kernel
theorem own_d19_52 : decode jdk_92_method_26_code 52 = .ok (.iload_n 2, 1) := by decide +kernel
theorem own_d19_53 : decode jdk_92_method_26_code 53 = .ok (.laload, 1) := by decide +kernel
theorem own_d19_54 : decode jdk_92_method_26_code 54 = .ok (.lconst 1, 1) := by decide +kernel
theorem own_d19_55 : decode jdk_92_method_26_code 55 = .ok (.iload_n 1, 1) := by decide +kernel
theorem own_d19_56 : decode jdk_92_method_26_code 56 = .ok (.lshl, 1) := by decide +kernel
theorem own_d19_57 : decode jdk_92_method_26_code 57 = .ok (.land, 1) := by decide +kernel
theorem own_d19_58 : decode jdk_92_method_26_code 58 = .ok (.lconst 0, 1) := by decide +kernel
theorem own_d19_59 : decode jdk_92_method_26_code 59 = .ok (.lcmp, 1) := by decide +kernel
theorem own_d19_60 : decode jdk_92_method_26_code 60 = .ok (.ifCond .eq 7, 3) := by decide +kernel
theorem own_d19_63 : decode jdk_92_method_26_code 63 = .ok (.iconst 1, 1) := by decide +kernel
theorem own_d19_64 : decode jdk_92_method_26_code 64 = .ok (.goto 4, 3) := by decide +kernel
theorem own_d19_67 : decode jdk_92_method_26_code 67 = .ok (.iconst 0, 1) := by decide +kernel
theorem own_d19_68 : decode jdk_92_method_26_code 68 = .ok (.ireturn, 1) := by decide +kernel
theorem own_pn0 : plainFor (⟨"com/example/kunci/kunci/NumberSet", "holdsAmongFew", "(I)Z"⟩ : MethodName) = true := by first | exact plainFor_of_name (by first | (simp [plainName, overriddenIn]; done) | decide +kernel) | decide +kernel
theorem own_pn1 : plainFor (⟨"com/example/kunci/kunci/NumberSet", "contains", "(I)Z"⟩ : MethodName) = true := by first | exact plainFor_of_name (by first | (simp [plainName, overriddenIn]; done) | decide +kernel) | decide +kernel
theorem own_pn2 : plainFor (⟨"java/lang/Math", "max", "(II)I"⟩ : MethodName) = true := by first | exact plainFor_of_name (by first | (simp [plainName, overriddenIn]; done) | decide +kernel) | decide +kernel
theorem own_pn3 : plainFor (⟨"java/lang/Math", "min", "(II)I"⟩ : MethodName) = true := by first | exact plainFor_of_name (by first | (simp [plainName, overriddenIn]; done) | decide +kernel) | decide +kernel
theorem own_pn4 : plainFor (⟨"java/util/Arrays", "copyOf", "([II)[I"⟩ : MethodName) = true := by first | exact plainFor_of_name (by first | (simp [plainName, overriddenIn]; done) | decide +kernel) | decide +kernel
theorem own_pn5 : plainFor (⟨"com/example/kunci/kunci/NumberSet", "add", "(I)Z"⟩ : MethodName) = true := by first | exact plainFor_of_name (by first | (simp [plainName, overriddenIn]; done) | decide +kernel) | decide +kernel
theorem own_pn6 : plainFor (⟨"java/util/BitSet", "wordIndex", "(I)I"⟩ : MethodName) = true := by first | exact plainFor_of_name (by first | (simp [plainName, overriddenIn]; done) | decide +kernel) | decide +kernel
theorem own_pn7 : plainFor (⟨"java/util/BitSet", "checkInvariants", "()V"⟩ : MethodName) = true := by first | exact plainFor_of_name (by first | (simp [plainName, overriddenIn]; done) | decide +kernel) | decide +kernel
theorem own_pn8 : plainFor (⟨"java/util/BitSet", "initWords", "(I)V"⟩ : MethodName) = true := by first | exact plainFor_of_name (by first | (simp [plainName, overriddenIn]; done) | decide +kernel) | decide +kernel
theorem own_pn9 : plainFor (⟨"java/util/BitSet", "<init>", "()V"⟩ : MethodName) = true := by first | exact plainFor_of_name (by first | (simp [plainName, overriddenIn]; done) | decide +kernel) | decide +kernel
theorem own_pn10 : plainFor (⟨"com/example/kunci/kunci/NumberSet", "<init>", "()V"⟩ : MethodName) = true := by first | exact plainFor_of_name (by first | (simp [plainName, overriddenIn]; done) | decide +kernel) | decide +kernel
theorem own_pn11 : plainFor (⟨"java/util/Arrays", "copyOf", "([JI)[J"⟩ : MethodName) = true := by first | exact plainFor_of_name (by first | (simp [plainName, overriddenIn]; done) | decide +kernel) | decide +kernel
theorem own_pn12 : plainFor (⟨"java/util/BitSet", "ensureCapacity", "(I)V"⟩ : MethodName) = true := by first | exact plainFor_of_name (by first | (simp [plainName, overriddenIn]; done) | decide +kernel) | decide +kernel
theorem own_pn13 : plainFor (⟨"java/util/BitSet", "expandTo", "(I)V"⟩ : MethodName) = true := by first | exact plainFor_of_name (by first | (simp [plainName, overriddenIn]; done) | decide +kernel) | decide +kernel
theorem own_pn14 : plainFor (⟨"java/util/BitSet", "set", "(I)V"⟩ : MethodName) = true := by first | exact plainFor_of_name (by first | (simp [plainName, overriddenIn]; done) | decide +kernel) | decide +kernel
theorem own_pn15 : plainFor (⟨"java/util/BitSet", "get", "(I)Z"⟩ : MethodName) = true := by first | exact plainFor_of_name (by first | (simp [plainName, overriddenIn]; done) | decide +kernel) | decide +kernel
theorem own_pn16 : plainFor (⟨"com/example/kunci/kunci/NumberSet", "size", "()I"⟩ : MethodName) = true := by first | exact plainFor_of_name (by first | (simp [plainName, overriddenIn]; done) | decide +kernel) | decide +kernel
theorem own_pn17 : plainFor (⟨"com/example/kunci/kunci/NumberSetAddPinLaw", "inRun", "(IIII)Z"⟩ : MethodName) = true := by first | exact plainFor_of_name (by first | (simp [plainName, overriddenIn]; done) | decide +kernel) | decide +kernel
theorem own_pn18 : plainFor (⟨"com/example/kunci/kunci/NumberSetAddPinLaw", "law", "(IIIII)Z"⟩ : MethodName) = true := by first | exact plainFor_of_name (by first | (simp [plainName, overriddenIn]; done) | decide +kernel) | decide +kernel
theorem own_pd0 : parseMethodDescriptor "(I)Z" = some ⟨[.int], some .boolean⟩ := by decide +kernel
theorem own_pd1 : parseMethodDescriptor "(II)I" = some ⟨[.int, .int], some .int⟩ := by decide +kernel
theorem own_pd2 : parseMethodDescriptor "([II)[I" = some ⟨[(.array .int), .int], some (.array .int)⟩ := by decide +kernel
theorem own_pd3 : parseMethodDescriptor "(I)I" = some ⟨[.int], some .int⟩ := by decide +kernel
theorem own_pd4 : parseMethodDescriptor "(I)V" = some ⟨[.int], none⟩ := by decide +kernel
theorem own_pd5 : parseMethodDescriptor "([JI)[J" = some ⟨[(.array .long), .int], some (.array .long)⟩ := by decide +kernel
theorem own_pd6 : parseMethodDescriptor "()V" = some ⟨[], none⟩ := by decide +kernel
theorem own_pd7 : parseMethodDescriptor "()I" = some ⟨[], some .int⟩ := by decide +kernel
theorem own_pd8 : parseMethodDescriptor "(IIII)Z" = some ⟨[.int, .int, .int, .int], some .boolean⟩ := by decide +kernel
theorem own_ef_own_hold (m : MethodId) (x0 : Addr) (x1 : Int32) : entryFrame m #[(.ref x0), (.int x1)] 3 = mkF m 0 #[rv x0, iv x1, .unset] [] := by first | (simp [entryFrame, mkF, argsToLocals, Value.category]; done) | rfl
theorem own_ef_own_conf (m : MethodId) (x0 : Addr) (x1 : Int32) : entryFrame m #[(.ref x0), (.int x1)] 2 = mkF m 0 #[rv x0, iv x1] [] := by first | (simp [entryFrame, mkF, argsToLocals, Value.category]; done) | rfl
theorem own_ef_own_max (m : MethodId) (x0 : Int32) (x1 : Int32) : entryFrame m #[(.int x0), (.int x1)] 2 = mkF m 0 #[iv x0, iv x1] [] := by first | (simp [entryFrame, mkF, argsToLocals, Value.category]; done) | rfl
theorem own_ef_own_min (m : MethodId) (x0 : Int32) (x1 : Int32) : entryFrame m #[(.int x0), (.int x1)] 2 = mkF m 0 #[iv x0, iv x1] [] := by first | (simp [entryFrame, mkF, argsToLocals, Value.category]; done) | rfl
theorem own_ef_own_cpy (m : MethodId) (x0 : Addr) (x1 : Int32) : entryFrame m #[(.ref x0), (.int x1)] 3 = mkF m 0 #[rv x0, iv x1, .unset] [] := by first | (simp [entryFrame, mkF, argsToLocals, Value.category]; done) | rfl
theorem own_ef_own_addf (m : MethodId) (x0 : Addr) (x1 : Int32) : entryFrame m #[(.ref x0), (.int x1)] 3 = mkF m 0 #[rv x0, iv x1, .unset] [] := by first | (simp [entryFrame, mkF, argsToLocals, Value.category]; done) | rfl
theorem own_ef_own_wi (m : MethodId) (x0 : Int32) : entryFrame m #[(.int x0)] 1 = mkF m 0 #[iv x0] [] := by first | (simp [entryFrame, mkF, argsToLocals, Value.category]; done) | rfl
theorem own_ef_own_ci (m : MethodId) (x0 : Addr) : entryFrame m #[(.ref x0)] 1 = mkF m 0 #[rv x0] [] := by first | (simp [entryFrame, mkF, argsToLocals, Value.category]; done) | rfl
theorem own_ef_own_iw (m : MethodId) (x0 : Addr) (x1 : Int32) : entryFrame m #[(.ref x0), (.int x1)] 2 = mkF m 0 #[rv x0, iv x1] [] := by first | (simp [entryFrame, mkF, argsToLocals, Value.category]; done) | rfl
theorem own_ef_own_bsi (m : MethodId) (x0 : Addr) : entryFrame m #[(.ref x0)] 1 = mkF m 0 #[rv x0] [] := by first | (simp [entryFrame, mkF, argsToLocals, Value.category]; done) | rfl
theorem own_ef_own_nsi (m : MethodId) (x0 : Addr) : entryFrame m #[(.ref x0)] 1 = mkF m 0 #[rv x0] [] := by first | (simp [entryFrame, mkF, argsToLocals, Value.category]; done) | rfl
theorem own_ef_own_cpj (m : MethodId) (x0 : Addr) (x1 : Int32) : entryFrame m #[(.ref x0), (.int x1)] 3 = mkF m 0 #[rv x0, iv x1, .unset] [] := by first | (simp [entryFrame, mkF, argsToLocals, Value.category]; done) | rfl
theorem own_ef_own_ecG (m : MethodId) (x0 : Addr) (x1 : Int32) : entryFrame m #[(.ref x0), (.int x1)] 3 = mkF m 0 #[rv x0, iv x1, .unset] [] := by first | (simp [entryFrame, mkF, argsToLocals, Value.category]; done) | rfl
theorem own_ef_own_etG (m : MethodId) (x0 : Addr) (x1 : Int32) : entryFrame m #[(.ref x0), (.int x1)] 3 = mkF m 0 #[rv x0, iv x1, .unset] [] := by first | (simp [entryFrame, mkF, argsToLocals, Value.category]; done) | rfl
theorem own_ef_own_setG (m : MethodId) (x0 : Addr) (x1 : Int32) : entryFrame m #[(.ref x0), (.int x1)] 3 = mkF m 0 #[rv x0, iv x1, .unset] [] := by first | (simp [entryFrame, mkF, argsToLocals, Value.category]; done) | rfl
theorem own_ef_own_getG (m : MethodId) (x0 : Addr) (x1 : Int32) : entryFrame m #[(.ref x0), (.int x1)] 3 = mkF m 0 #[rv x0, iv x1, .unset] [] := by first | (simp [entryFrame, mkF, argsToLocals, Value.category]; done) | rfl
theorem own_ef_own_conG (m : MethodId) (x0 : Addr) (x1 : Int32) : entryFrame m #[(.ref x0), (.int x1)] 2 = mkF m 0 #[rv x0, iv x1] [] := by first | (simp [entryFrame, mkF, argsToLocals, Value.category]; done) | rfl
theorem own_ef_own_sizeC (m : MethodId) (x0 : Addr) : entryFrame m #[(.ref x0)] 1 = mkF m 0 #[rv x0] [] := by first | (simp [entryFrame, mkF, argsToLocals, Value.category]; done) | rfl
theorem own_ef_own_addb (m : MethodId) (x0 : Addr) (x1 : Int32) : entryFrame m #[(.ref x0), (.int x1)] 3 = mkF m 0 #[rv x0, iv x1, .unset] [] := by first | (simp [entryFrame, mkF, argsToLocals, Value.category]; done) | rfl
theorem own_ef_own_addc (m : MethodId) (x0 : Addr) (x1 : Int32) : entryFrame m #[(.ref x0), (.int x1)] 3 = mkF m 0 #[rv x0, iv x1, .unset] [] := by first | (simp [entryFrame, mkF, argsToLocals, Value.category]; done) | rfl
theorem own_ef_own_inRun (m : MethodId) (x0 : Int32) (x1 : Int32) (x2 : Int32) (x3 : Int32) : entryFrame m #[(.int x0), (.int x1), (.int x2), (.int x3)] 5 = mkF m 0 #[iv x0, iv x1, iv x2, iv x3, .unset] [] := by first | (simp [entryFrame, mkF, argsToLocals, Value.category]; done) | rfl
theorem own_ef_own_law (m : MethodId) (x0 : Int32) (x1 : Int32) (x2 : Int32) (x3 : Int32) (x4 : Int32) : entryFrame m #[(.int x0), (.int x1), (.int x2), (.int x3), (.int x4)] maxLocals = mkF m 0 #[iv x0, iv x1, iv x2, iv x3, iv x4, .unset, .unset, .unset, .unset, .unset, .unset, .unset, .unset, .unset, .unset, .unset, .unset] [] := by first | (simp [entryFrame, mkF, argsToLocals, Value.category, maxLocals]; done) | rfl
set_option maxRecDepth 65536 in
set_option maxHeartbeats 40000000 in
theorem own_hold (l : Launch) (Z : State) (a0 : Array Value) (hw : ∀ d ∈ tables_1, d.before a0 Z = true) (ws : List Jvm.Cond) (a len cap : Nat) (q : Int32) (g : Nat → Int32) (h0 : Heap) (n0 : Nat) (Z0 : n0 ≤ h0.size) (hF : own_few n0 Z h0 a len cap g) :
    own_Met l Z (⟨"com/example/kunci/kunci/NumberSet", "holdsAmongFew", "(I)Z"⟩ : MethodName) prog_3_method_7_code 3 (some .boolean) ws ({ frames := 0, cells := 0, slots := 0, locals := 0 } : Room) #[(.ref a), (.int q)] h0 (fun v h L => ∃ r : Int32, v = some (.int r) ∧ (r = 1 ∧ own_mem len g q ∨ r = 0 ∧ ¬ own_mem len g q) ∧ Fr n0 L ∧ h = h0) := by
  refine own_body own_pn0 (fun m => mkF m 0 #[rv a, iv q, .unset] []) (fun m => own_ef_own_hold m a q) ?_
  intro p e s m below meth c T0 hx hby hml hlk hrt hZ hown hnm X0 e0
  have hown : s.vm.findClass "com/example/kunci/kunci/NumberSet" = some m.cls := hown
  have N0 := Fr.nil n0
  obtain ⟨aN, sz, ga, gN, naN, hsz, hlc, hc8, -, Ea, Fs, Fb, Fn, AN⟩ := hF
  have J : ∀ (r : Nat) (k : Nat) (j : Int32) (T1 : State) (lc1 : List Loc) (hp1 : Heap) (X1 : Stand p l e ({ frames := 0, cells := 0, slots := 0, locals := 0 } : Room) s m #[(.ref a), (.int q)] below meth c T1 lc1 0 0) (e1 : T1.heap = hp1) (N1 : Fr n0 lc1) (zs1 : n0 ≤ hp1.size) (zz1 : h0.size ≤ hp1.size) (hkr : k + r = len) (hj : j.toInt = (k : Int)) (hn_ : ∀ i, i < k → ¬ g i = q) (hq : hp1 = h0), own_Ends p e below s (fun v h L => ∃ r : Int32, v = some (.int r) ∧ (r = 1 ∧ own_mem len g q ∨ r = 0 ∧ ¬ own_mem len g q) ∧ Fr n0 L ∧ h = h0) ({ frames := 0, cells := 0, slots := 0, locals := 0 } : Room).cells ({ frames := 0, cells := 0, slots := 0, locals := 0 } : Room).slots (own_F T1 m 2 #[rv a, iv q, iv j] []) := by
   intro r
   induction r with
   | zero =>
    intro k j T1 lc1 hp1 X1 e1 N1 zs1 zz1 hkr hj hn_ hq
    subst hq
    have e0_ := e1
    refine own_g (own_F T1 m 3 #[rv a, iv q, iv j] [(.int j)]) (fun _ z_ => XS.iloadN X1.here hx rfl (hb hby own_d5_2) rfl z_) ?_
    refine own_g (own_F T1 m 4 #[rv a, iv q, iv j] [(.ref a), (.int j)]) (fun _ z_ => XS.aloadN X1.here hx rfl (hb hby own_d5_3) rfl rfl z_) ?_
    obtain ⟨T2, X2, e2, st2⟩ := getF X1 hx hZ hown (host := "") (Or.inl (own_w hw 30)) Via.refl e1 Fs (g := (mkF m 4 #[rv a, iv q, iv j] [(.ref a), (.int j)])) rfl rfl (hb hby own_d5_4)
    refine own_pre (S' := (own_F T2 m 7 #[rv a, iv q, iv j] [(.int sz), (.int j)])) st2 ?_
    refine own_g (own_F T2 m 28 #[rv a, iv q, iv j] []) (fun _ z_ => XS.icmpYes X2.here hx rfl (pc0 := 7) (pc' := 28) rfl (hb hby own_d5_7) rfl (flt (own_jge hj hsz (by omega))).2.1 (by decide) (by decide) z_) ?_
    refine own_g (own_F T2 m 29 #[rv a, iv q, iv j] [(.int 0)]) (fun _ z_ => XS.iconst X2.here hx rfl (hb hby own_d5_28) z_) ?_
    refine own_ret (t := .boolean) X2 hx hlk hrt rfl (Or.inl ⟨rfl, by simp, _, rfl⟩) (hb hby own_d5_29) (by decide) (by decide) ?_
    exact ⟨_, rfl, Or.inr ⟨rfl, own_notin (fun i hi => hn_ i (by omega))⟩, N1, e2⟩
   | succ r ih =>
    intro k j T1 lc1 hp1 X1 e1 N1 zs1 zz1 hkr hj hn_ hq
    have hkn : k < len := by omega
    subst hq
    have e0_ := e1
    refine own_g (own_F T1 m 3 #[rv a, iv q, iv j] [(.int j)]) (fun _ z_ => XS.iloadN X1.here hx rfl (hb hby own_d5_2) rfl z_) ?_
    refine own_g (own_F T1 m 4 #[rv a, iv q, iv j] [(.ref a), (.int j)]) (fun _ z_ => XS.aloadN X1.here hx rfl (hb hby own_d5_3) rfl rfl z_) ?_
    obtain ⟨T3, X3, e3, st3⟩ := getF X1 hx hZ hown (host := "") (Or.inl (own_w hw 30)) Via.refl e1 Fs (g := (mkF m 4 #[rv a, iv q, iv j] [(.ref a), (.int j)])) rfl rfl (hb hby own_d5_4)
    refine own_pre (S' := (own_F T3 m 7 #[rv a, iv q, iv j] [(.int sz), (.int j)])) st3 ?_
    refine own_g (own_F T3 m 10 #[rv a, iv q, iv j] []) (fun _ z_ => XS.icmpNo X3.here hx rfl (hb hby own_d5_7) rfl (tlt (own_jlt hj hsz hkn)).2.1 z_) ?_
    refine own_g (own_F T3 m 11 #[rv a, iv q, iv j] [(.ref a)]) (fun _ z_ => XS.aloadN X3.here hx rfl (hb hby own_d5_10) rfl rfl z_) ?_
    obtain ⟨T4, X4, e4, st4⟩ := getF X3 hx hZ hown (host := "") (Or.inl (own_w hw 12)) Via.refl e3 Fn (g := (mkF m 11 #[rv a, iv q, iv j] [(.ref a)])) rfl rfl (hb hby own_d5_11)
    refine own_pre (S' := (own_F T4 m 14 #[rv a, iv q, iv j] [(.ref aN)])) st4 ?_
    refine own_g (own_F T4 m 15 #[rv a, iv q, iv j] [(.int j), (.ref aN)]) (fun _ z_ => XS.iloadN X4.here hx rfl (hb hby own_d5_14) rfl z_) ?_
    refine own_iald X4 hx hZ e4 AN k hj (by omega) (hb hby own_d5_15) ?_
    show own_Ends p e below s _ _ _ (own_F T4 m 16 #[rv a, iv q, iv j] [(.int (g k))])
    refine own_g (own_F T4 m 17 #[rv a, iv q, iv j] [(.int q), (.int (g k))]) (fun _ z_ => XS.iloadN X4.here hx rfl (hb hby own_d5_16) rfl z_) ?_
    by_cases c17 : (g k) = q
    · -- pc 17: (g k) = q
     refine own_g (own_F T4 m 20 #[rv a, iv q, iv j] []) (fun _ z_ => XS.icmpNo X4.here hx rfl (hb hby own_d5_17) rfl (teq c17).2 z_) ?_
     refine own_g (own_F T4 m 21 #[rv a, iv q, iv j] [(.int 1)]) (fun _ z_ => XS.iconst X4.here hx rfl (hb hby own_d5_20) z_) ?_
     refine own_ret (t := .boolean) X4 hx hlk hrt rfl (Or.inl ⟨rfl, by simp, _, rfl⟩) (hb hby own_d5_21) (by decide) (by decide) ?_
     exact ⟨_, rfl, Or.inl ⟨rfl, k, hkn, c17⟩, N1, e4⟩
    · -- pc 17: not (g k) = q
     refine own_g (own_F T4 m 22 #[rv a, iv q, iv j] []) (fun _ z_ => XS.icmpYes X4.here hx rfl (pc0 := 17) (pc' := 22) rfl (hb hby own_d5_17) rfl (feq c17).2 (by decide) (by decide) z_) ?_
     refine own_g (own_F T4 m 25 #[rv a, iv q, iv (j + (1 : Int32))] []) (fun _ z_ => XS.iinc X4.here hx rfl (hb hby own_d5_22) rfl (l' := #[rv a, iv q, iv (j + (1 : Int32))]) rfl z_) ?_
     refine own_g (own_F T4 m 2 #[rv a, iv q, iv (j + (1 : Int32))] []) (fun _ z_ => XS.goto X4.here hx rfl (pc0 := 25) (pc' := 2) rfl (hb hby own_d5_25) (by decide) (by decide) z_) ?_
     exact ih (k + 1) (j + (1 : Int32)) T4 _ _ X4 e4 N1 zs1 zz1 (by omega) (own_succ hj hkn (by omega)) (own_nstep hn_ c17) rfl
  refine own_g (own_F T0 m 1 #[rv a, iv q, .unset] [(.int 0)]) (fun _ z_ => XS.iconst X0.here hx rfl (hb hby own_d5_0) z_) ?_
  refine own_g (own_F T0 m 2 #[rv a, iv q, iv 0] []) (fun _ z_ => XS.istoreN X0.here hx rfl (hb hby own_d5_1) rfl (l' := #[rv a, iv q, iv 0]) rfl z_) ?_
  exact J len 0 (0 : Int32) T0 _ _ X0 e0 N0 Z0 (Nat.le_refl h0.size) (by omega) rfl (fun i hi => absurd hi (Nat.not_lt_zero i)) rfl
set_option maxRecDepth 65536 in
set_option maxHeartbeats 40000000 in
theorem own_conf (l : Launch) (Z : State) (a0 : Array Value) (hw : ∀ d ∈ tables_1, d.before a0 Z = true) (ws : List Jvm.Cond) (a len cap : Nat) (q : Int32) (g : Nat → Int32) (h0 : Heap) (n0 : Nat) (Z0 : n0 ≤ h0.size) (hF : own_few n0 Z h0 a len cap g) :
    own_Met l Z (⟨"com/example/kunci/kunci/NumberSet", "contains", "(I)Z"⟩ : MethodName) prog_3_method_3_code 2 (some .boolean) ws ({ frames := 1, cells := 0, slots := 0, locals := 14 } : Room) #[(.ref a), (.int q)] h0 (fun v h L => ∃ r : Int32, v = some (.int r) ∧ (r = 1 ∧ own_mem len g q ∨ r = 0 ∧ ¬ own_mem len g q) ∧ Fr n0 L ∧ h = h0) := by
  refine own_body own_pn1 (fun m => mkF m 0 #[rv a, iv q] []) (fun m => own_ef_own_conf m a q) ?_
  intro p e s m below meth c T0 hx hby hml hlk hrt hZ hown hnm X0 e0
  have hown : s.vm.findClass "com/example/kunci/kunci/NumberSet" = some m.cls := hown
  have N0 := Fr.nil n0
  have hF0 := hF
  obtain ⟨aN, sz, ga, gN, naN, hsz, hlc, hc8, hcc, Ea, Fs, Fb, Fn, AN⟩ := hF
  refine own_g (own_F T0 m 1 #[rv a, iv q] [(.ref a)]) (fun _ z_ => XS.aloadN X0.here hx rfl (hb hby own_d4_0) rfl rfl z_) ?_
  obtain ⟨T1, X1, e1, st1⟩ := getF X0 hx hZ hown (host := "") (Or.inl (own_w hw 24)) Via.refl e0 Fb (g := (mkF m 1 #[rv a, iv q] [(.ref a)])) rfl rfl (hb hby own_d4_1)
  refine own_pre (S' := (own_F T1 m 4 #[rv a, iv q] [.null])) st1 ?_
  refine own_g (own_F T1 m 7 #[rv a, iv q] []) (fun _ z_ => XS.ifnonnullNo X1.here hx rfl (hb hby own_d4_4) rfl z_) ?_
  refine own_g (own_F T1 m 8 #[rv a, iv q] [(.ref a)]) (fun _ z_ => XS.aloadN X1.here hx rfl (hb hby own_d4_7) rfl rfl z_) ?_
  refine own_g (own_F T1 m 9 #[rv a, iv q] [(.int q), (.ref a)]) (fun _ z_ => XS.iloadN X1.here hx rfl (hb hby own_d4_8) rfl z_) ?_
  refine own_callQ (C := "com/example/kunci/kunci/NumberSet") (y := (⟨"com/example/kunci/kunci/NumberSet", "holdsAmongFew", "(I)Z"⟩ : MethodName)) (y' := (⟨"com/example/kunci/kunci/NumberSet", "add", "(I)Z"⟩ : MethodName)) (b := a) X1 hx hZ hown (own_w hw 26) (own_w hw 27) (own_w hw 17) (own_w hw 28) (own_w hw 29) (own_w hw 4) rfl (by decide) e1 Ea (hM := own_hold l Z a0 hw [] a len cap q g h0 n0 Z0 hF0) (W := 0) (pc := 9) (Ls := #[rv a, iv q]) (argsL := [(.int q)]) (rest := []) (st0 := [(.int q), (.ref a)]) (by rw [hml]; rfl) (lenOf own_pd0 rfl) rfl (Nat.le_of_eq rfl) (hb hby own_d4_9) (by decide) (by decide) (by decide) (by decide) ?_
  intro v2 T2 L2 X2 hQ2
  obtain ⟨r2, rfl, hr2, Nq2, hh2⟩ := hQ2
  have N2 := Fr.app N0 Nq2
  show own_Ends p e below s _ _ _ (own_F T2 m 12 #[rv a, iv q] [(.int r2)])
  refine own_g (own_F T2 m 23 #[rv a, iv q] [(.int r2)]) (fun _ z_ => XS.goto X2.here hx rfl (pc0 := 12) (pc' := 23) rfl (hb hby own_d4_12) (by decide) (by decide) z_) ?_
  refine own_ret (t := .boolean) X2 hx hlk hrt (own_narZ (own_01 hr2)) (Or.inl ⟨rfl, by simp, _, rfl⟩) (hb hby own_d4_23) (by decide) (by decide) ?_
  exact ⟨_, rfl, hr2, N2, hh2⟩
set_option maxRecDepth 65536 in
set_option maxHeartbeats 40000000 in
theorem own_max (l : Launch) (Z : State) (a0 : Array Value) (hw : ∀ d ∈ tables_1, d.before a0 Z = true) (ws : List Jvm.Cond) (x y r : Int32) (h0 : Heap) (n0 : Nat) (Z0 : n0 ≤ h0.size) (hr : (if x < y then y else x) = r) :
    own_Met l Z (⟨"java/lang/Math", "max", "(II)I"⟩ : MethodName) jdk_29_method_65_code 2 (some .int) ws ({ frames := 0, cells := 0, slots := 0, locals := 0 } : Room) #[(.int x), (.int y)] h0 (fun v h L => v = some (.int r) ∧ Fr n0 L ∧ h = h0) := by
  refine own_body own_pn2 (fun m => mkF m 0 #[iv x, iv y] []) (fun m => own_ef_own_max m x y) ?_
  intro p e s m below meth c T0 hx hby hml hlk hrt hZ hown hnm X0 e0
  have hown : s.vm.findClass "java/lang/Math" = some m.cls := hown
  have N0 := Fr.nil n0
  refine own_g (own_F T0 m 1 #[iv x, iv y] [(.int x)]) (fun _ z_ => XS.iloadN X0.here hx rfl (hb hby own_d6_0) rfl z_) ?_
  refine own_g (own_F T0 m 2 #[iv x, iv y] [(.int y), (.int x)]) (fun _ z_ => XS.iloadN X0.here hx rfl (hb hby own_d6_1) rfl z_) ?_
  by_cases c2 : x < y
  · -- pc 2: x < y
   refine own_g (own_F T0 m 9 #[iv x, iv y] []) (fun _ z_ => XS.icmpYes X0.here hx rfl (pc0 := 2) (pc' := 9) rfl (hb hby own_d6_2) rfl (tlt c2).1 (by decide) (by decide) z_) ?_
   refine own_g (own_F T0 m 10 #[iv x, iv y] [(.int y)]) (fun _ z_ => XS.iloadN X0.here hx rfl (hb hby own_d6_9) rfl z_) ?_
   refine own_ret (t := .int) X0 hx hlk hrt rfl (Or.inl ⟨rfl, by simp, _, rfl⟩) (hb hby own_d6_10) (by decide) (by decide) ?_
   exact ⟨by rw [← hr, if_pos c2], N0, e0⟩
  · -- pc 2: not x < y
   refine own_g (own_F T0 m 5 #[iv x, iv y] []) (fun _ z_ => XS.icmpNo X0.here hx rfl (hb hby own_d6_2) rfl (flt c2).1 z_) ?_
   refine own_g (own_F T0 m 6 #[iv x, iv y] [(.int x)]) (fun _ z_ => XS.iloadN X0.here hx rfl (hb hby own_d6_5) rfl z_) ?_
   refine own_g (own_F T0 m 10 #[iv x, iv y] [(.int x)]) (fun _ z_ => XS.goto X0.here hx rfl (pc0 := 6) (pc' := 10) rfl (hb hby own_d6_6) (by decide) (by decide) z_) ?_
   refine own_ret (t := .int) X0 hx hlk hrt rfl (Or.inl ⟨rfl, by simp, _, rfl⟩) (hb hby own_d6_10) (by decide) (by decide) ?_
   exact ⟨by rw [← hr, if_neg c2], N0, e0⟩
set_option maxRecDepth 65536 in
set_option maxHeartbeats 40000000 in
theorem own_min (l : Launch) (Z : State) (a0 : Array Value) (hw : ∀ d ∈ tables_1, d.before a0 Z = true) (ws : List Jvm.Cond) (x y r : Int32) (h0 : Heap) (n0 : Nat) (Z0 : n0 ≤ h0.size) (hr : (if y < x then y else x) = r) :
    own_Met l Z (⟨"java/lang/Math", "min", "(II)I"⟩ : MethodName) jdk_29_method_69_code 2 (some .int) ws ({ frames := 0, cells := 0, slots := 0, locals := 0 } : Room) #[(.int x), (.int y)] h0 (fun v h L => v = some (.int r) ∧ Fr n0 L ∧ h = h0) := by
  refine own_body own_pn3 (fun m => mkF m 0 #[iv x, iv y] []) (fun m => own_ef_own_min m x y) ?_
  intro p e s m below meth c T0 hx hby hml hlk hrt hZ hown hnm X0 e0
  have hown : s.vm.findClass "java/lang/Math" = some m.cls := hown
  have N0 := Fr.nil n0
  refine own_g (own_F T0 m 1 #[iv x, iv y] [(.int x)]) (fun _ z_ => XS.iloadN X0.here hx rfl (hb hby own_d8_0) rfl z_) ?_
  refine own_g (own_F T0 m 2 #[iv x, iv y] [(.int y), (.int x)]) (fun _ z_ => XS.iloadN X0.here hx rfl (hb hby own_d8_1) rfl z_) ?_
  by_cases c2 : y < x
  · -- pc 2: y < x
   refine own_g (own_F T0 m 9 #[iv x, iv y] []) (fun _ z_ => XS.icmpYes X0.here hx rfl (pc0 := 2) (pc' := 9) rfl (hb hby own_d8_2) rfl (tlt c2).2.2.1 (by decide) (by decide) z_) ?_
   refine own_g (own_F T0 m 10 #[iv x, iv y] [(.int y)]) (fun _ z_ => XS.iloadN X0.here hx rfl (hb hby own_d8_9) rfl z_) ?_
   refine own_ret (t := .int) X0 hx hlk hrt rfl (Or.inl ⟨rfl, by simp, _, rfl⟩) (hb hby own_d8_10) (by decide) (by decide) ?_
   exact ⟨by rw [← hr, if_pos c2], N0, e0⟩
  · -- pc 2: not y < x
   refine own_g (own_F T0 m 5 #[iv x, iv y] []) (fun _ z_ => XS.icmpNo X0.here hx rfl (hb hby own_d8_2) rfl (flt c2).2.2.1 z_) ?_
   refine own_g (own_F T0 m 6 #[iv x, iv y] [(.int x)]) (fun _ z_ => XS.iloadN X0.here hx rfl (hb hby own_d8_5) rfl z_) ?_
   refine own_g (own_F T0 m 10 #[iv x, iv y] [(.int x)]) (fun _ z_ => XS.goto X0.here hx rfl (pc0 := 6) (pc' := 10) rfl (hb hby own_d8_6) (by decide) (by decide) z_) ?_
   refine own_ret (t := .int) X0 hx hlk hrt rfl (Or.inl ⟨rfl, by simp, _, rfl⟩) (hb hby own_d8_10) (by decide) (by decide) ?_
   exact ⟨by rw [← hr, if_neg c2], N0, e0⟩
set_option maxRecDepth 65536 in
set_option maxHeartbeats 40000000 in
theorem own_cpy (l : Launch) (Z : State) (a0 : Array Value) (hw : ∀ d ∈ tables_1, d.before a0 Z = true) (ws : List Jvm.Cond) (x n k : Nat) (nn mm : Int32) (g : Nat → Int32) (h0 : Heap) (n0 : Nat) (Z0 : n0 ≤ h0.size) (hn : nn.toInt = (n : Int)) (hm : mm.toInt = (k : Int)) (hlt : n < k) (hk8 : k ≤ 8) (Ax : own_A Z h0 x .int n (fun i => .int (g i))) :
    own_Met l Z (⟨"java/util/Arrays", "copyOf", "([II)[I"⟩ : MethodName) jdk_65_method_123_code 3 (some (.array .int)) ws ({ frames := 1, cells := 1, slots := 8, locals := 18 } : Room) #[(.ref x), (.int mm)] h0 (fun v h L => ∃ b : Nat, v = some (.ref b) ∧ Fr n0 L ∧ Keep h0 h [] ∧ n0 ≤ b ∧ h0.size ≤ b ∧ own_A Z h b .int k (fun i => .int (if i < n then g i else 0))) := by
  refine own_body own_pn4 (fun m => mkF m 0 #[rv x, iv mm, .unset] []) (fun m => own_ef_own_cpy m x mm) ?_
  intro p e s m below meth c T0 hx hby hml hlk hrt hZ hown hnm X0 e0
  have hown : s.vm.findClass "java/util/Arrays" = some m.cls := hown
  have N0 := Fr.nil n0
  refine own_g (own_F T0 m 1 #[rv x, iv mm, .unset] [(.int mm)]) (fun _ z_ => XS.iloadN X0.here hx rfl (hb hby own_d7_0) rfl z_) ?_
  refine own_g (own_F T0 m 2 #[rv x, iv mm, .unset] [(.ref x), (.int mm)]) (fun _ z_ => XS.aloadN X0.here hx rfl (hb hby own_d7_1) rfl rfl z_) ?_
  refine own_alen X0 hx hZ e0 Ax (hb hby own_d7_2) ?_
  rw [own_n32 hn]
  show own_Ends p e below s _ _ _ (own_F T0 m 3 #[rv x, iv mm, .unset] [(.int nn), (.int mm)])
  refine own_g (own_F T0 m 14 #[rv x, iv mm, .unset] []) (fun _ z_ => XS.icmpYes X0.here hx rfl (pc0 := 3) (pc' := 14) rfl (hb hby own_d7_3) rfl (feq (own_jn hm hn hlt)).2 (by decide) (by decide) z_) ?_
  refine own_g (own_F T0 m 15 #[rv x, iv mm, .unset] [(.int mm)]) (fun _ z_ => XS.iloadN X0.here hx rfl (hb hby own_d7_14) rfl z_) ?_
  refine own_newA X0 hx hZ .int rfl (own_w hw 11) e0 (hb hby own_d7_15) k hm 8 hk8 (by decide) (by decide) (by decide) ?_
  intro T1 h1 b1 X1 e1 E1 g1 A1
  have sz_b1 : h0.size ≤ b1 := Nat.le_trans (Nat.le_refl h0.size) (Nat.le_of_eq g1.symm)
  have ge_b1 : n0 ≤ b1 := Nat.le_trans Z0 (Nat.le_of_eq g1.symm)
  have ne_x_b1 : x ≠ b1 := Nat.ne_of_lt (Nat.lt_of_lt_of_le Ax.lt (Nat.le_of_eq g1.symm))
  have A1 : own_A Z h1 b1 .int k (fun q_ => .int ((fun _ => (0 : Int32)) q_)) := A1
  show own_Ends p e below s _ _ _ (own_F T1 m 17 #[rv x, iv mm, .unset] [(.ref b1)])
  refine own_g (own_F T1 m 18 #[rv x, iv mm, rv b1] []) (fun _ z_ => XS.astoreN X1.here hx rfl (hb hby own_d7_17) rfl rfl (l' := #[rv x, iv mm, rv b1]) rfl z_) ?_
  refine own_g (own_F T1 m 19 #[rv x, iv mm, rv b1] [(.ref x)]) (fun _ z_ => XS.aloadN X1.here hx rfl (hb hby own_d7_18) rfl rfl z_) ?_
  refine own_g (own_F T1 m 20 #[rv x, iv mm, rv b1] [(.int 0), (.ref x)]) (fun _ z_ => XS.iconst X1.here hx rfl (hb hby own_d7_19) z_) ?_
  refine own_g (own_F T1 m 21 #[rv x, iv mm, rv b1] [(.ref b1), (.int 0), (.ref x)]) (fun _ z_ => XS.aloadN X1.here hx rfl (hb hby own_d7_20) rfl rfl z_) ?_
  refine own_g (own_F T1 m 22 #[rv x, iv mm, rv b1] [(.int 0), (.ref b1), (.int 0), (.ref x)]) (fun _ z_ => XS.iconst X1.here hx rfl (hb hby own_d7_21) z_) ?_
  refine own_g (own_F T1 m 23 #[rv x, iv mm, rv b1] [(.ref x), (.int 0), (.ref b1), (.int 0), (.ref x)]) (fun _ z_ => XS.aloadN X1.here hx rfl (hb hby own_d7_22) rfl rfl z_) ?_
  refine own_alen X1 hx hZ e1 (Ax.ext E1) (hb hby own_d7_23) ?_
  rw [own_n32 hn]
  show own_Ends p e below s _ _ _ (own_F T1 m 24 #[rv x, iv mm, rv b1] [(.int nn), (.int 0), (.ref b1), (.int 0), (.ref x)])
  refine own_g (own_F T1 m 25 #[rv x, iv mm, rv b1] [(.int mm), (.int nn), (.int 0), (.ref b1), (.int 0), (.ref x)]) (fun _ z_ => XS.iloadN X1.here hx rfl (hb hby own_d7_24) rfl z_) ?_
  refine own_callS (y := (⟨"java/lang/Math", "min", "(II)I"⟩ : MethodName)) X1 hx hZ hown (own_w hw 40) (own_w hw 41) (own_w hw 34) (own_w hw 42) (by decide) e1 (hM := own_min l Z a0 hw [] nn mm nn h1 n0 (Nat.le_trans Z0 E1.1) (if_neg (own_jge hm hn (Nat.le_of_lt hlt)))) (W := 4) (pc := 25) (Ls := #[rv x, iv mm, rv b1]) (argsL := [(.int nn), (.int mm)]) (rest := [(.int 0), (.ref b1), (.int 0), (.ref x)]) (st0 := [(.int mm), (.int nn), (.int 0), (.ref b1), (.int 0), (.ref x)]) (by rw [hml]; rfl) (lenOf own_pd1 rfl) rfl (Nat.le_of_eq rfl) (hb hby own_d7_25) (by decide) (by decide) (by decide) (by decide) ?_
  intro v2 T2 L2 X2 hQ2
  obtain ⟨rfl, Nq2, hh2⟩ := hQ2
  have N2 := Fr.app N0 Nq2
  show own_Ends p e below s _ _ _ (own_F T2 m 28 #[rv x, iv mm, rv b1] [(.int nn), (.int 0), (.ref b1), (.int 0), (.ref x)])
  refine own_cp X2 hx hZ hown (own_w hw 43) (own_w hw 46) (own_w hw 44) (own_w hw 45) hh2 (Ax.ext E1) A1 (fun _ => rfl) (fun _ => rfl) rfl n hn (Nat.le_refl _) (Nat.le_of_lt hlt) N2 ge_b1 (pc := 28) (Ls := #[rv x, iv mm, rv b1]) (by rw [hml]; rfl) (rest := []) (hb hby own_d7_28) (by decide) (W := 0) (Nat.le_refl _) (by decide) ?_
  intro T3 h3 L3 X3 e3 N3 K3 A3
  show own_Ends p e below s _ _ _ (own_F T3 m 31 #[rv x, iv mm, rv b1] [])
  refine own_g (own_F T3 m 32 #[rv x, iv mm, rv b1] [(.ref b1)]) (fun _ z_ => XS.aloadN X3.here hx rfl (hb hby own_d7_31) rfl rfl z_) ?_
  refine own_ret (t := (.array .int)) X3 hx hlk hrt rfl (Or.inr (Or.inr (Or.inr (Or.inr ⟨rfl, rfl, rfl⟩)))) (hb hby own_d7_32) (by decide) (by decide) ?_
  show ∃ b : Nat, _ ∧ Fr n0 _ ∧ Keep h0 T3.heap [] ∧ _ ∧ _ ∧ own_A Z T3.heap b .int k _
  rw [e3]
  exact ⟨b1, rfl, N3, (((Keep.refl _ _).ext E1).trans K3 (allS (Or.inr sz_b1) all0)), ge_b1, sz_b1, (A3).congr fun i hi => (apply_ite Value.int _ _ _).symm⟩
set_option maxRecDepth 65536 in
set_option maxHeartbeats 40000000 in
theorem own_addf (l : Launch) (Z : State) (a0 : Array Value) (hw : ∀ d ∈ tables_1, d.before a0 Z = true) (ws : List Jvm.Cond) (a len cap : Nat) (x1 : Int32) (g : Nat → Int32) (h0 : Heap) (n0 : Nat) (Z0 : n0 ≤ h0.size) (h7 : len ≤ 7) (hF : own_few n0 Z h0 a len cap g) (S_ad : Sta Z h0 "java/util/BitSet" "$assertionsDisabled" "Z" (.int (1 : Int32))) :
    own_Met l Z (⟨"com/example/kunci/kunci/NumberSet", "add", "(I)Z"⟩ : MethodName) prog_3_method_2_code 3 (some .boolean) ws ({ frames := 2, cells := 1, slots := 8, locals := 33 } : Room) #[(.ref a), (.int x1)] h0 (fun v h L => ∃ (r : Int32) (len' cap' : Nat) (g' : Nat → Int32), v = some (.int r) ∧ (r = 1 ∧ ¬ own_mem len g x1 ∧ len' = len + 1 ∨ r = 0 ∧ own_mem len g x1 ∧ len' = len) ∧ Fr n0 L ∧ own_few n0 Z h a len' cap' g' ∧ (∀ v, own_mem len' g' v ↔ own_mem len g v ∨ x1 = v) ∧ h0.size ≤ h.size ∧ Sta Z h "java/util/BitSet" "$assertionsDisabled" "Z" (.int (1 : Int32))) := by
  refine own_body own_pn5 (fun m => mkF m 0 #[rv a, iv x1, .unset] []) (fun m => own_ef_own_addf m a x1) ?_
  intro p e s m below meth c T0 hx hby hml hlk hrt hZ hown hnm X0 e0
  have hown : s.vm.findClass "com/example/kunci/kunci/NumberSet" = some m.cls := hown
  have N0 := Fr.nil n0
  have hF0 := hF
  obtain ⟨aN, sz, ga, gN, naN, hsz, hlc, hc8, hcc, Ea, Fs, Fb, Fn, AN⟩ := hF
  refine own_g (own_F T0 m 1 #[rv a, iv x1, .unset] [(.ref a)]) (fun _ z_ => XS.aloadN X0.here hx rfl (hb hby own_d3_0) rfl rfl z_) ?_
  refine own_g (own_F T0 m 2 #[rv a, iv x1, .unset] [(.int x1), (.ref a)]) (fun _ z_ => XS.iloadN X0.here hx rfl (hb hby own_d3_1) rfl z_) ?_
  refine own_callV (C := "com/example/kunci/kunci/NumberSet") (y := (⟨"com/example/kunci/kunci/NumberSet", "contains", "(I)Z"⟩ : MethodName)) (b := a) X0 hx hZ hown (own_w hw 19) (own_w hw 20) (own_w hw 22) (own_w hw 21) (own_w hw 23) (own_w hw 4) (by decide) e0 Ea (hM := own_conf l Z a0 hw [] a len cap x1 g h0 n0 Z0 hF0) (W := 0) (pc := 2) (Ls := #[rv a, iv x1, .unset]) (argsL := [(.int x1)]) (rest := []) (st0 := [(.int x1), (.ref a)]) (by rw [hml]; rfl) (lenOf own_pd0 rfl) rfl (Nat.le_of_eq rfl) (hb hby own_d3_2) (by decide) (by decide) (by decide) (by decide) ?_
  intro v1 T1 L1 X1 hQ1
  obtain ⟨r1, rfl, hr1, Nq1, hh1⟩ := hQ1
  have N1 := Fr.app N0 Nq1
  show own_Ends p e below s _ _ _ (own_F T1 m 5 #[rv a, iv x1, .unset] [(.int r1)])
  rcases hr1 with ⟨rfl, hm1⟩ | ⟨rfl, hm1⟩
  ·
   show own_Ends p e below s _ _ _ (own_F T1 m 5 #[rv a, iv x1, .unset] [(.int 1)])
   refine own_g (own_F T1 m 8 #[rv a, iv x1, .unset] []) (fun _ z_ => XS.ifNo X1.here hx rfl (hb hby own_d3_5) rfl ((if0 _ _).trans (feq (by decide : ¬ ((1 : Int32) = (0 : Int32)))).1) z_) ?_
   refine own_g (own_F T1 m 9 #[rv a, iv x1, .unset] [(.int 0)]) (fun _ z_ => XS.iconst X1.here hx rfl (hb hby own_d3_8) z_) ?_
   refine own_ret (t := .boolean) X1 hx hlk hrt rfl (Or.inl ⟨rfl, by simp, _, rfl⟩) (hb hby own_d3_9) (by decide) (by decide) ?_
   exact ⟨0, len, cap, g, rfl, Or.inr ⟨rfl, hm1, rfl⟩, N1, by rw [show T1.heap = h0 from hh1]; exact hF0, own_mem_self hm1, by rw [show T1.heap = h0 from hh1]; exact ⟨Nat.le_refl _, S_ad⟩⟩
  ·
   show own_Ends p e below s _ _ _ (own_F T1 m 5 #[rv a, iv x1, .unset] [(.int 0)])
   refine own_g (own_F T1 m 10 #[rv a, iv x1, .unset] []) (fun _ z_ => XS.ifYes X1.here hx rfl (pc0 := 5) (pc' := 10) rfl (hb hby own_d3_5) rfl ((if0 _ _).trans (teq (by decide : ((0 : Int32) = (0 : Int32)))).1) (by decide) (by decide) z_) ?_
   refine own_g (own_F T1 m 11 #[rv a, iv x1, .unset] [(.ref a)]) (fun _ z_ => XS.aloadN X1.here hx rfl (hb hby own_d3_10) rfl rfl z_) ?_
   obtain ⟨T2, X2, e2, st2⟩ := getF X1 hx hZ hown (host := "") (Or.inl (own_w hw 24)) Via.refl hh1 Fb (g := (mkF m 11 #[rv a, iv x1, .unset] [(.ref a)])) rfl rfl (hb hby own_d3_11)
   refine own_pre (S' := (own_F T2 m 14 #[rv a, iv x1, .unset] [.null])) st2 ?_
   refine own_g (own_F T2 m 28 #[rv a, iv x1, .unset] []) (fun _ z_ => XS.ifnullYes X2.here hx rfl (pc0 := 14) (pc' := 28) rfl (hb hby own_d3_14) rfl (by decide) (by decide) z_) ?_
   refine own_g (own_F T2 m 29 #[rv a, iv x1, .unset] [(.ref a)]) (fun _ z_ => XS.aloadN X2.here hx rfl (hb hby own_d3_28) rfl rfl z_) ?_
   obtain ⟨T3, X3, e3, st3⟩ := getF X2 hx hZ hown (host := "") (Or.inl (own_w hw 30)) Via.refl e2 Fs (g := (mkF m 29 #[rv a, iv x1, .unset] [(.ref a)])) rfl rfl (hb hby own_d3_29)
   refine own_pre (S' := (own_F T3 m 32 #[rv a, iv x1, .unset] [(.int sz)])) st3 ?_
   refine own_g (own_F T3 m 34 #[rv a, iv x1, .unset] [(.int 8), (.int sz)]) (fun _ z_ => XS.bipush X3.here hx rfl (hb hby own_d3_32) z_) ?_
   refine own_g (own_F T3 m 37 #[rv a, iv x1, .unset] []) (fun _ z_ => XS.icmpNo X3.here hx rfl (hb hby own_d3_34) rfl (tlt (own_lt8 hsz h7)).2.1 z_) ?_
   refine own_g (own_F T3 m 38 #[rv a, iv x1, .unset] [(.ref a)]) (fun _ z_ => XS.aloadN X3.here hx rfl (hb hby own_d3_37) rfl rfl z_) ?_
   obtain ⟨T4, X4, e4, st4⟩ := getF X3 hx hZ hown (host := "") (Or.inl (own_w hw 30)) Via.refl e3 Fs (g := (mkF m 38 #[rv a, iv x1, .unset] [(.ref a)])) rfl rfl (hb hby own_d3_38)
   refine own_pre (S' := (own_F T4 m 41 #[rv a, iv x1, .unset] [(.int sz)])) st4 ?_
   refine own_g (own_F T4 m 42 #[rv a, iv x1, .unset] [(.ref a), (.int sz)]) (fun _ z_ => XS.aloadN X4.here hx rfl (hb hby own_d3_41) rfl rfl z_) ?_
   obtain ⟨T5, X5, e5, st5⟩ := getF X4 hx hZ hown (host := "") (Or.inl (own_w hw 12)) Via.refl e4 Fn (g := (mkF m 42 #[rv a, iv x1, .unset] [(.ref a), (.int sz)])) rfl rfl (hb hby own_d3_42)
   refine own_pre (S' := (own_F T5 m 45 #[rv a, iv x1, .unset] [(.ref aN), (.int sz)])) st5 ?_
   refine own_alen X5 hx hZ e5 AN (hb hby own_d3_45) ?_
   show own_Ends p e below s _ _ _ (own_F T5 m 46 #[rv a, iv x1, .unset] [(.int (Nat.toInt32 cap)), (.int sz)])
   by_cases c46 : sz = (Nat.toInt32 cap)
   · -- pc 46: sz = (Nat.toInt32 cap)
    refine own_g (own_F T5 m 49 #[rv a, iv x1, .unset] []) (fun _ z_ => XS.icmpNo X5.here hx rfl (hb hby own_d3_46) rfl (teq c46).2 z_) ?_
    refine own_g (own_F T5 m 50 #[rv a, iv x1, .unset] [(.ref a)]) (fun _ z_ => XS.aloadN X5.here hx rfl (hb hby own_d3_49) rfl rfl z_) ?_
    refine own_g (own_F T5 m 51 #[rv a, iv x1, .unset] [(.ref a), (.ref a)]) (fun _ z_ => XS.aloadN X5.here hx rfl (hb hby own_d3_50) rfl rfl z_) ?_
    obtain ⟨T6, X6, e6, st6⟩ := getF X5 hx hZ hown (host := "") (Or.inl (own_w hw 12)) Via.refl e5 Fn (g := (mkF m 51 #[rv a, iv x1, .unset] [(.ref a), (.ref a)])) rfl rfl (hb hby own_d3_51)
    refine own_pre (S' := (own_F T6 m 54 #[rv a, iv x1, .unset] [(.ref aN), (.ref a)])) st6 ?_
    refine own_g (own_F T6 m 55 #[rv a, iv x1, .unset] [(.int 2), (.ref aN), (.ref a)]) (fun _ z_ => XS.iconst X6.here hx rfl (hb hby own_d3_54) z_) ?_
    refine own_g (own_F T6 m 56 #[rv a, iv x1, .unset] [(.int 2), (.int 2), (.ref aN), (.ref a)]) (fun _ z_ => XS.iconst X6.here hx rfl (hb hby own_d3_55) z_) ?_
    refine own_g (own_F T6 m 57 #[rv a, iv x1, .unset] [(.ref a), (.int 2), (.int 2), (.ref aN), (.ref a)]) (fun _ z_ => XS.aloadN X6.here hx rfl (hb hby own_d3_56) rfl rfl z_) ?_
    obtain ⟨T7, X7, e7, st7⟩ := getF X6 hx hZ hown (host := "") (Or.inl (own_w hw 30)) Via.refl e6 Fs (g := (mkF m 57 #[rv a, iv x1, .unset] [(.ref a), (.int 2), (.int 2), (.ref aN), (.ref a)])) rfl rfl (hb hby own_d3_57)
    refine own_pre (S' := (own_F T7 m 60 #[rv a, iv x1, .unset] [(.int sz), (.int 2), (.int 2), (.ref aN), (.ref a)])) st7 ?_
    refine own_g (own_F T7 m 61 #[rv a, iv x1, .unset] [(.int ((2 : Int32) * sz)), (.int 2), (.ref aN), (.ref a)]) (fun _ z_ => XS.imul X7.here hx rfl (hb hby own_d3_60) rfl z_) ?_
    have ecap := own_eqc hsz hc8 c46
    obtain ⟨mm, hmm, hmk⟩ := own_mm hsz hcc ecap
    obtain ⟨hg1, hg2, hg3⟩ := own_grow hcc ecap h7
    refine own_callS (y := (⟨"java/lang/Math", "max", "(II)I"⟩ : MethodName)) X7 hx hZ hown (own_w hw 32) (own_w hw 33) (own_w hw 34) (own_w hw 35) (by decide) e7 (hM := own_max l Z a0 hw [] (2 : Int32) ((2 : Int32) * sz) mm h0 n0 Z0 hmm) (W := 2) (pc := 61) (Ls := #[rv a, iv x1, .unset]) (argsL := [(.int 2), (.int ((2 : Int32) * sz))]) (rest := [(.ref aN), (.ref a)]) (st0 := [(.int ((2 : Int32) * sz)), (.int 2), (.ref aN), (.ref a)]) (by rw [hml]; rfl) (lenOf own_pd1 rfl) rfl (Nat.le_of_eq rfl) (hb hby own_d3_61) (by decide) (by decide) (by decide) (by decide) ?_
    intro v8 T8 L8 X8 hQ8
    obtain ⟨rfl, Nq8, hh8⟩ := hQ8
    have N8 := Fr.app N1 Nq8
    show own_Ends p e below s _ _ _ (own_F T8 m 64 #[rv a, iv x1, .unset] [(.int mm), (.ref aN), (.ref a)])
    refine own_callS (y := (⟨"java/util/Arrays", "copyOf", "([II)[I"⟩ : MethodName)) X8 hx hZ hown (own_w hw 36) (own_w hw 37) (own_w hw 38) (own_w hw 39) (by decide) hh8 (hM := own_cpy l Z a0 hw [] aN len (own_gk len) sz mm g h0 n0 Z0 hsz hmk hg1 hg2 (ecap ▸ AN)) (W := 1) (pc := 64) (Ls := #[rv a, iv x1, .unset]) (argsL := [(.ref aN), (.int mm)]) (rest := [(.ref a)]) (st0 := [(.int mm), (.ref aN), (.ref a)]) (by rw [hml]; rfl) (lenOf own_pd2 rfl) rfl (Nat.le_of_eq rfl) (hb hby own_d3_64) (by decide) (by decide) (by decide) (by decide) ?_
    intro v9 T9 L9 X9 hQ9
    obtain ⟨bq, rfl, Nq9, K9, ge_bq, gz9, Ab9⟩ := hQ9
    have N9 := Fr.app N8 Nq9
    show own_Ends p e below s _ _ _ (own_F T9 m 67 #[rv a, iv x1, .unset] [(.ref bq), (.ref a)])
    have ne_a_bq : a ≠ bq := Nat.ne_of_lt (Nat.lt_of_lt_of_le Ea.lt gz9)
    obtain ⟨T10, h10, X10, e10, W10, st10⟩ := putF X9 hx hZ hown (host := "") (Or.inl (own_w hw 12)) Via.refl (rfl : T9.heap = T9.heap) (Fn.keep K9 nin0) (Ea.keep K9) (Or.inl (own_w hw 13)) (own_w hw 3) (ty := (.array .int)) (by decide) rfl rfl (g := (mkF m 67 #[rv a, iv x1, .unset] [(.ref bq), (.ref a)])) rfl rfl (hb hby own_d3_67)
    have N10 := Fr.snoc X10 N9 ga
    have Fw10 := (Fn.keep K9 nin0).same W10
    refine own_pre (S' := (own_F T10 m 70 #[rv a, iv x1, .unset] [])) st10 ?_
    refine own_g (own_F T10 m 71 #[rv a, iv x1, .unset] [(.ref a)]) (fun _ z_ => XS.aloadN X10.here hx rfl (hb hby own_d3_70) rfl rfl z_) ?_
    obtain ⟨T11, X11, e11, st11⟩ := getF X10 hx hZ hown (host := "") (Or.inl (own_w hw 12)) Via.refl e10 Fw10 (g := (mkF m 71 #[rv a, iv x1, .unset] [(.ref a)])) rfl rfl (hb hby own_d3_71)
    refine own_pre (S' := (own_F T11 m 74 #[rv a, iv x1, .unset] [(.ref bq)])) st11 ?_
    refine own_g (own_F T11 m 75 #[rv a, iv x1, .unset] [(.ref a), (.ref bq)]) (fun _ z_ => XS.aloadN X11.here hx rfl (hb hby own_d3_74) rfl rfl z_) ?_
    obtain ⟨T12, X12, e12, st12⟩ := getF X11 hx hZ hown (host := "") (Or.inl (own_w hw 30)) Via.refl e11 ((Fs.keep K9 nin0).other W10 (Or.inr (slot_ne (C := "com/example/kunci/kunci/NumberSet") (Or.inl (own_w hw 31)) (Or.inl (own_w hw 13)) (by decide) (t := .int) (t' := (.array .int)) (by decide) (by decide)))) (g := (mkF m 75 #[rv a, iv x1, .unset] [(.ref a), (.ref bq)])) rfl rfl (hb hby own_d3_75)
    refine own_pre (S' := (own_F T12 m 78 #[rv a, iv x1, .unset] [(.int sz), (.ref bq)])) st12 ?_
    refine own_g (own_F T12 m 79 #[rv a, iv x1, .unset] [(.int x1), (.int sz), (.ref bq)]) (fun _ z_ => XS.iloadN X12.here hx rfl (hb hby own_d3_78) rfl z_) ?_
    refine own_iast X12 hx hZ e12 (Ab9.other W10 (Ne.symm ne_a_bq)) len hsz hg1 (hb hby own_d3_79) ?_
    intro T13 h13 X13 e13 W13 A13
    have N13 := Fr.snoc X13 N10 ge_bq
    obtain ⟨g13, hg13⟩ : ∃ gq_ : Nat → Int32, gq_ = fun q_ => if q_ = len then x1 else (fun i => if i < len then g i else 0) q_ := ⟨_, rfl⟩
    have A13 : own_A Z h13 bq .int (own_gk len) (fun q_ => .int (g13 q_)) := by rw [hg13]; exact A13
    show own_Ends p e below s _ _ _ (own_F T13 m 80 #[rv a, iv x1, .unset] [])
    refine own_g (own_F T13 m 136 #[rv a, iv x1, .unset] []) (fun _ z_ => XS.goto X13.here hx rfl (pc0 := 80) (pc' := 136) rfl (hb hby own_d3_80) (by decide) (by decide) z_) ?_
    refine own_g (own_F T13 m 137 #[rv a, iv x1, .unset] [(.ref a)]) (fun _ z_ => XS.aloadN X13.here hx rfl (hb hby own_d3_136) rfl rfl z_) ?_
    refine own_g (own_F T13 m 138 #[rv a, iv x1, .unset] [(.ref a), (.ref a)]) (fun _ z_ => XS.dup X13.here hx rfl (hb hby own_d3_137) rfl rfl z_) ?_
    obtain ⟨T14, X14, e14, st14⟩ := getF X13 hx hZ hown (host := "") (Or.inl (own_w hw 30)) Via.refl e13 (((Fs.keep K9 nin0).other W10 (Or.inr (slot_ne (C := "com/example/kunci/kunci/NumberSet") (Or.inl (own_w hw 31)) (Or.inl (own_w hw 13)) (by decide) (t := .int) (t' := (.array .int)) (by decide) (by decide)))).other W13 (Or.inl ne_a_bq)) (g := (mkF m 138 #[rv a, iv x1, .unset] [(.ref a), (.ref a)])) rfl rfl (hb hby own_d3_138)
    refine own_pre (S' := (own_F T14 m 141 #[rv a, iv x1, .unset] [(.int sz), (.ref a)])) st14 ?_
    refine own_g (own_F T14 m 142 #[rv a, iv x1, .unset] [(.int 1), (.int sz), (.ref a)]) (fun _ z_ => XS.iconst X14.here hx rfl (hb hby own_d3_141) z_) ?_
    refine own_g (own_F T14 m 143 #[rv a, iv x1, .unset] [(.int (sz + (1 : Int32))), (.ref a)]) (fun _ z_ => XS.iadd X14.here hx rfl (hb hby own_d3_142) rfl z_) ?_
    obtain ⟨T15, h15, X15, e15, W15, st15⟩ := putF X14 hx hZ hown (host := "") (Or.inl (own_w hw 30)) Via.refl e14 (((Fs.keep K9 nin0).other W10 (Or.inr (slot_ne (C := "com/example/kunci/kunci/NumberSet") (Or.inl (own_w hw 31)) (Or.inl (own_w hw 13)) (by decide) (t := .int) (t' := (.array .int)) (by decide) (by decide)))).other W13 (Or.inl ne_a_bq)) (((Ea.keep K9).wr W10).wr W13) (Or.inl (own_w hw 31)) (own_w hw 3) (ty := .int) (by decide) rfl rfl (g := (mkF m 143 #[rv a, iv x1, .unset] [(.int (sz + (1 : Int32))), (.ref a)])) rfl rfl (hb hby own_d3_143)
    have N15 := Fr.snoc X15 N13 ga
    have Fw15 := (((Fs.keep K9 nin0).other W10 (Or.inr (slot_ne (C := "com/example/kunci/kunci/NumberSet") (Or.inl (own_w hw 31)) (Or.inl (own_w hw 13)) (by decide) (t := .int) (t' := (.array .int)) (by decide) (by decide)))).other W13 (Or.inl ne_a_bq)).same W15
    refine own_pre (S' := (own_F T15 m 146 #[rv a, iv x1, .unset] [])) st15 ?_
    refine own_g (own_F T15 m 147 #[rv a, iv x1, .unset] [(.int 1)]) (fun _ z_ => XS.iconst X15.here hx rfl (hb hby own_d3_146) z_) ?_
    refine own_ret (t := .boolean) X15 hx hlk hrt rfl (Or.inl ⟨rfl, by simp, _, rfl⟩) (hb hby own_d3_147) (by decide) (by decide) ?_
    show ∃ (r : Int32) (len' cap' : Nat) (g' : Nat → Int32), _ ∧ _ ∧ Fr n0 _ ∧ own_few n0 Z T15.heap a len' cap' g' ∧ _ ∧ _ ≤ T15.heap.size ∧ Sta Z T15.heap _ _ _ _
    rw [e15]
    refine ⟨1, len + 1, (own_gk len), g13, rfl, Or.inl ⟨rfl, hm1, rfl⟩, N15, ⟨bq, _, ga, ge_bq, ne_a_bq, own_s1 hsz (by omega), hg1, hg2, hg3, ((((Ea.keep K9).wr W10).wr W13).wr W15), Fw15, ((((Fb.keep K9 nin0).other W10 (Or.inr (slot_ne (C := "com/example/kunci/kunci/NumberSet") (Or.inl (own_w hw 25)) (Or.inl (own_w hw 13)) (by decide) (t := (.object "java/util/BitSet")) (t' := (.array .int)) (by decide) (by decide)))).other W13 (Or.inl ne_a_bq)).other W15 (Or.inr (slot_ne (C := "com/example/kunci/kunci/NumberSet") (Or.inl (own_w hw 25)) (Or.inl (own_w hw 31)) (by decide) (t := (.object "java/util/BitSet")) (t' := .int) (by decide) (by decide)))), ((Fw10.other W13 (Or.inl ne_a_bq)).other W15 (Or.inr (slot_ne (C := "com/example/kunci/kunci/NumberSet") (Or.inl (own_w hw 13)) (Or.inl (own_w hw 31)) (by decide) (t := (.array .int)) (t' := .int) (by decide) (by decide)))), (A13.other W15 (Ne.symm ne_a_bq))⟩, fun v => own_mem_upd (own_updB hg13) v, (Nat.le_trans (Nat.le_trans (Nat.le_trans (Nat.le_trans (Nat.le_refl h0.size) K9.1) (Nat.le_of_eq W10.size.symm)) (Nat.le_of_eq W13.size.symm)) (Nat.le_of_eq W15.size.symm)), ((((own_sta_keep S_ad K9 all0).wr W10).wr W13).wr W15)⟩
   · -- pc 46: not sz = (Nat.toInt32 cap)
    refine own_g (own_F T5 m 70 #[rv a, iv x1, .unset] []) (fun _ z_ => XS.icmpYes X5.here hx rfl (pc0 := 46) (pc' := 70) rfl (hb hby own_d3_46) rfl (feq c46).2 (by decide) (by decide) z_) ?_
    refine own_g (own_F T5 m 71 #[rv a, iv x1, .unset] [(.ref a)]) (fun _ z_ => XS.aloadN X5.here hx rfl (hb hby own_d3_70) rfl rfl z_) ?_
    obtain ⟨T16, X16, e16, st16⟩ := getF X5 hx hZ hown (host := "") (Or.inl (own_w hw 12)) Via.refl e5 Fn (g := (mkF m 71 #[rv a, iv x1, .unset] [(.ref a)])) rfl rfl (hb hby own_d3_71)
    refine own_pre (S' := (own_F T16 m 74 #[rv a, iv x1, .unset] [(.ref aN)])) st16 ?_
    refine own_g (own_F T16 m 75 #[rv a, iv x1, .unset] [(.ref a), (.ref aN)]) (fun _ z_ => XS.aloadN X16.here hx rfl (hb hby own_d3_74) rfl rfl z_) ?_
    obtain ⟨T17, X17, e17, st17⟩ := getF X16 hx hZ hown (host := "") (Or.inl (own_w hw 30)) Via.refl e16 Fs (g := (mkF m 75 #[rv a, iv x1, .unset] [(.ref a), (.ref aN)])) rfl rfl (hb hby own_d3_75)
    refine own_pre (S' := (own_F T17 m 78 #[rv a, iv x1, .unset] [(.int sz), (.ref aN)])) st17 ?_
    refine own_g (own_F T17 m 79 #[rv a, iv x1, .unset] [(.int x1), (.int sz), (.ref aN)]) (fun _ z_ => XS.iloadN X17.here hx rfl (hb hby own_d3_78) rfl z_) ?_
    refine own_iast X17 hx hZ e17 AN len hsz (own_nec hsz hc8 hlc c46) (hb hby own_d3_79) ?_
    intro T18 h18 X18 e18 W18 A18
    have N18 := Fr.snoc X18 N1 gN
    obtain ⟨g18, hg18⟩ : ∃ gq_ : Nat → Int32, gq_ = fun q_ => if q_ = len then x1 else g q_ := ⟨_, rfl⟩
    have A18 : own_A Z h18 aN .int cap (fun q_ => .int (g18 q_)) := by rw [hg18]; exact A18
    show own_Ends p e below s _ _ _ (own_F T18 m 80 #[rv a, iv x1, .unset] [])
    refine own_g (own_F T18 m 136 #[rv a, iv x1, .unset] []) (fun _ z_ => XS.goto X18.here hx rfl (pc0 := 80) (pc' := 136) rfl (hb hby own_d3_80) (by decide) (by decide) z_) ?_
    refine own_g (own_F T18 m 137 #[rv a, iv x1, .unset] [(.ref a)]) (fun _ z_ => XS.aloadN X18.here hx rfl (hb hby own_d3_136) rfl rfl z_) ?_
    refine own_g (own_F T18 m 138 #[rv a, iv x1, .unset] [(.ref a), (.ref a)]) (fun _ z_ => XS.dup X18.here hx rfl (hb hby own_d3_137) rfl rfl z_) ?_
    obtain ⟨T19, X19, e19, st19⟩ := getF X18 hx hZ hown (host := "") (Or.inl (own_w hw 30)) Via.refl e18 (Fs.other W18 (Or.inl naN)) (g := (mkF m 138 #[rv a, iv x1, .unset] [(.ref a), (.ref a)])) rfl rfl (hb hby own_d3_138)
    refine own_pre (S' := (own_F T19 m 141 #[rv a, iv x1, .unset] [(.int sz), (.ref a)])) st19 ?_
    refine own_g (own_F T19 m 142 #[rv a, iv x1, .unset] [(.int 1), (.int sz), (.ref a)]) (fun _ z_ => XS.iconst X19.here hx rfl (hb hby own_d3_141) z_) ?_
    refine own_g (own_F T19 m 143 #[rv a, iv x1, .unset] [(.int (sz + (1 : Int32))), (.ref a)]) (fun _ z_ => XS.iadd X19.here hx rfl (hb hby own_d3_142) rfl z_) ?_
    obtain ⟨T20, h20, X20, e20, W20, st20⟩ := putF X19 hx hZ hown (host := "") (Or.inl (own_w hw 30)) Via.refl e19 (Fs.other W18 (Or.inl naN)) (Ea.wr W18) (Or.inl (own_w hw 31)) (own_w hw 3) (ty := .int) (by decide) rfl rfl (g := (mkF m 143 #[rv a, iv x1, .unset] [(.int (sz + (1 : Int32))), (.ref a)])) rfl rfl (hb hby own_d3_143)
    have N20 := Fr.snoc X20 N18 ga
    have Fw20 := (Fs.other W18 (Or.inl naN)).same W20
    refine own_pre (S' := (own_F T20 m 146 #[rv a, iv x1, .unset] [])) st20 ?_
    refine own_g (own_F T20 m 147 #[rv a, iv x1, .unset] [(.int 1)]) (fun _ z_ => XS.iconst X20.here hx rfl (hb hby own_d3_146) z_) ?_
    refine own_ret (t := .boolean) X20 hx hlk hrt rfl (Or.inl ⟨rfl, by simp, _, rfl⟩) (hb hby own_d3_147) (by decide) (by decide) ?_
    show ∃ (r : Int32) (len' cap' : Nat) (g' : Nat → Int32), _ ∧ _ ∧ Fr n0 _ ∧ own_few n0 Z T20.heap a len' cap' g' ∧ _ ∧ _ ≤ T20.heap.size ∧ Sta Z T20.heap _ _ _ _
    rw [e20]
    refine ⟨1, len + 1, cap, g18, rfl, Or.inl ⟨rfl, hm1, rfl⟩, N20, ⟨aN, _, ga, gN, naN, own_s1 hsz (by omega), (own_nec hsz hc8 hlc c46), hc8, hcc, ((Ea.wr W18).wr W20), Fw20, ((Fb.other W18 (Or.inl naN)).other W20 (Or.inr (slot_ne (C := "com/example/kunci/kunci/NumberSet") (Or.inl (own_w hw 25)) (Or.inl (own_w hw 31)) (by decide) (t := (.object "java/util/BitSet")) (t' := .int) (by decide) (by decide)))), ((Fn.other W18 (Or.inl naN)).other W20 (Or.inr (slot_ne (C := "com/example/kunci/kunci/NumberSet") (Or.inl (own_w hw 13)) (Or.inl (own_w hw 31)) (by decide) (t := (.array .int)) (t' := .int) (by decide) (by decide)))), (A18.other W20 (Ne.symm naN))⟩, fun v => own_mem_upd (own_updA hg18) v, (Nat.le_trans (Nat.le_trans (Nat.le_refl h0.size) (Nat.le_of_eq W18.size.symm)) (Nat.le_of_eq W20.size.symm)), ((S_ad.wr W18).wr W20)⟩
set_option maxRecDepth 65536 in
set_option maxHeartbeats 40000000 in
theorem own_wi (l : Launch) (Z : State) (a0 : Array Value) (hw : ∀ d ∈ tables_1, d.before a0 Z = true) (ws : List Jvm.Cond) (i r : Int32) (h0 : Heap) (n0 : Nat) (Z0 : n0 ≤ h0.size) (hr : (i >>> ((6 : Int32) &&& 31)) = r) :
    own_Met l Z (⟨"java/util/BitSet", "wordIndex", "(I)I"⟩ : MethodName) jdk_92_method_1_code 1 (some .int) ws ({ frames := 0, cells := 0, slots := 0, locals := 0 } : Room) #[(.int i)] h0 (fun v h L => v = some (.int r) ∧ Fr n0 L ∧ h = h0) := by
  refine own_body own_pn6 (fun m => mkF m 0 #[iv i] []) (fun m => own_ef_own_wi m i) ?_
  intro p e s m below meth c T0 hx hby hml hlk hrt hZ hown hnm X0 e0
  have hown : s.vm.findClass "java/util/BitSet" = some m.cls := hown
  have N0 := Fr.nil n0
  refine own_g (own_F T0 m 1 #[iv i] [(.int i)]) (fun _ z_ => XS.iloadN X0.here hx rfl (hb hby own_d13_0) rfl z_) ?_
  refine own_g (own_F T0 m 3 #[iv i] [(.int 6), (.int i)]) (fun _ z_ => XS.bipush X0.here hx rfl (hb hby own_d13_1) z_) ?_
  refine own_g (own_F T0 m 4 #[iv i] [(.int (i >>> ((6 : Int32) &&& 31)))]) (fun _ z_ => XS.ishr X0.here hx rfl (hb hby own_d13_3) rfl z_) ?_
  refine own_ret (t := .int) X0 hx hlk hrt rfl (Or.inl ⟨rfl, by simp, _, rfl⟩) (hb hby own_d13_4) (by decide) (by decide) ?_
  exact ⟨by rw [← hr], N0, e0⟩
set_option maxRecDepth 65536 in
set_option maxHeartbeats 40000000 in
theorem own_ci (l : Launch) (Z : State) (a0 : Array Value) (hw : ∀ d ∈ tables_1, d.before a0 Z = true) (ws : List Jvm.Cond) (b : Nat) (h0 : Heap) (n0 : Nat) (Z0 : n0 ≤ h0.size) (S_ad : Sta Z h0 "java/util/BitSet" "$assertionsDisabled" "Z" (.int (1 : Int32))) :
    own_Met l Z (⟨"java/util/BitSet", "checkInvariants", "()V"⟩ : MethodName) jdk_92_method_2_code 1 none ws ({ frames := 0, cells := 0, slots := 0, locals := 0 } : Room) #[(.ref b)] h0 (fun v h L => v = none ∧ Fr n0 L ∧ h = h0) := by
  refine own_body own_pn7 (fun m => mkF m 0 #[rv b] []) (fun m => own_ef_own_ci m b) ?_
  intro p e s m below meth c T0 hx hby hml hlk hrt hZ hown hnm X0 e0
  have hown : s.vm.findClass "java/util/BitSet" = some m.cls := hown
  have N0 := Fr.nil n0
  obtain ⟨T1, X1, e1, st1⟩ := getS2 X0 hx hZ hown (host := "") (Or.inl (own_w hw 100)) Via.refl e0 S_ad (g := (mkF m 0 #[rv b] [])) rfl (hb hby own_d17_0)
  refine own_pre (S' := (own_F T1 m 3 #[rv b] [(.int 1)])) st1 ?_
  refine own_g (own_F T1 m 37 #[rv b] []) (fun _ z_ => XS.ifYes X1.here hx rfl (pc0 := 3) (pc' := 37) rfl (hb hby own_d17_3) rfl ((if0 _ _).trans (feq (by decide : ¬ ((1 : Int32) = (0 : Int32)))).2) (by decide) (by decide) z_) ?_
  obtain ⟨T2, X2, e2, st2⟩ := getS2 X1 hx hZ hown (host := "") (Or.inl (own_w hw 100)) Via.refl e1 S_ad (g := (mkF m 37 #[rv b] [])) rfl (hb hby own_d17_37)
  refine own_pre (S' := (own_F T2 m 40 #[rv b] [(.int 1)])) st2 ?_
  refine own_g (own_F T2 m 70 #[rv b] []) (fun _ z_ => XS.ifYes X2.here hx rfl (pc0 := 40) (pc' := 70) rfl (hb hby own_d17_40) rfl ((if0 _ _).trans (feq (by decide : ¬ ((1 : Int32) = (0 : Int32)))).2) (by decide) (by decide) z_) ?_
  obtain ⟨T3, X3, e3, st3⟩ := getS2 X2 hx hZ hown (host := "") (Or.inl (own_w hw 100)) Via.refl e2 S_ad (g := (mkF m 70 #[rv b] [])) rfl (hb hby own_d17_70)
  refine own_pre (S' := (own_F T3 m 73 #[rv b] [(.int 1)])) st3 ?_
  refine own_g (own_F T3 m 110 #[rv b] []) (fun _ z_ => XS.ifYes X3.here hx rfl (pc0 := 73) (pc' := 110) rfl (hb hby own_d17_73) rfl ((if0 _ _).trans (feq (by decide : ¬ ((1 : Int32) = (0 : Int32)))).2) (by decide) (by decide) z_) ?_
  refine own_retV X3 hx hlk hrt (hb hby own_d17_110) (by decide) (by decide) ?_
  exact ⟨rfl, N0, e3⟩
set_option maxRecDepth 65536 in
set_option maxHeartbeats 40000000 in
theorem own_iw (l : Launch) (Z : State) (a0 : Array Value) (hw : ∀ d ∈ tables_1, d.before a0 Z = true) (ws : List Jvm.Cond) (b : Nat) (h0 : Heap) (n0 : Nat) (Z0 : n0 ≤ h0.size) (Eb : Exa Z h0 b "java/util/BitSet") (Fw : Fld Z h0 b "java/util/BitSet" "words" "[J" .null) (gb : n0 ≤ b) (Fu : Fld Z h0 b "java/util/BitSet" "wordsInUse" "I" (.int (0 : Int32))) (Fs : Fld Z h0 b "java/util/BitSet" "sizeIsSticky" "Z" (.int (0 : Int32))) :
    own_Met l Z (⟨"java/util/BitSet", "initWords", "(I)V"⟩ : MethodName) jdk_92_method_6_code 2 none ws ({ frames := 1, cells := 1, slots := 1, locals := 13 } : Room) #[(.ref b), (.int 64)] h0 (fun v h L => v = none ∧ Fr n0 L ∧ Keep h0 h [b] ∧ ∃ w : Nat, n0 ≤ w ∧ h0.size ≤ w ∧ Fld Z h b "java/util/BitSet" "words" "[J" (.ref w) ∧ own_A Z h w .long 1 (fun i => .long ((fun _ => 0) i)) ∧ Fld Z h b "java/util/BitSet" "wordsInUse" "I" (.int (0 : Int32)) ∧ Fld Z h b "java/util/BitSet" "sizeIsSticky" "Z" (.int (0 : Int32))) := by
  refine own_body own_pn8 (fun m => mkF m 0 #[rv b, iv 64] []) (fun m => own_ef_own_iw m b (64 : Int32)) ?_
  intro p e s m below meth c T0 hx hby hml hlk hrt hZ hown hnm X0 e0
  have hown : s.vm.findClass "java/util/BitSet" = some m.cls := hown
  have N0 := Fr.nil n0
  refine own_g (own_F T0 m 1 #[rv b, iv 64] [(.ref b)]) (fun _ z_ => XS.aloadN X0.here hx rfl (hb hby own_d12_0) rfl rfl z_) ?_
  refine own_g (own_F T0 m 2 #[rv b, iv 64] [(.int 64), (.ref b)]) (fun _ z_ => XS.iloadN X0.here hx rfl (hb hby own_d12_1) rfl z_) ?_
  refine own_g (own_F T0 m 3 #[rv b, iv 64] [(.int 1), (.int 64), (.ref b)]) (fun _ z_ => XS.iconst X0.here hx rfl (hb hby own_d12_2) z_) ?_
  refine own_g (own_F T0 m 4 #[rv b, iv 64] [(.int 63), (.ref b)]) (fun _ z_ => XS.isub X0.here hx rfl (hb hby own_d12_3) rfl z_) ?_
  refine own_callS (y := (⟨"java/util/BitSet", "wordIndex", "(I)I"⟩ : MethodName)) X0 hx hZ hown (own_w hw 74) (own_w hw 75) (own_w hw 60) (own_w hw 76) (by decide) e0 (hM := own_wi l Z a0 hw [] (63 : Int32) (0 : Int32) h0 n0 Z0 (by decide)) (W := 1) (pc := 4) (Ls := #[rv b, iv 64]) (argsL := [(.int 63)]) (rest := [(.ref b)]) (st0 := [(.int 63), (.ref b)]) (by rw [hml]; rfl) (lenOf own_pd3 rfl) rfl (Nat.le_of_eq rfl) (hb hby own_d12_4) (by decide) (by decide) (by decide) (by decide) ?_
  intro v1 T1 L1 X1 hQ1
  obtain ⟨rfl, Nq1, hh1⟩ := hQ1
  have N1 := Fr.app N0 Nq1
  show own_Ends p e below s _ _ _ (own_F T1 m 7 #[rv b, iv 64] [(.int 0), (.ref b)])
  refine own_g (own_F T1 m 8 #[rv b, iv 64] [(.int 1), (.int 0), (.ref b)]) (fun _ z_ => XS.iconst X1.here hx rfl (hb hby own_d12_7) z_) ?_
  refine own_g (own_F T1 m 9 #[rv b, iv 64] [(.int 1), (.ref b)]) (fun _ z_ => XS.iadd X1.here hx rfl (hb hby own_d12_8) rfl z_) ?_
  refine own_newA X1 hx hZ .long rfl (own_w hw 77) hh1 (hb hby own_d12_9) 1 rfl 1 (by decide) (by decide) (by decide) (by decide) ?_
  intro T2 h2 b2 X2 e2 E2 g2 A2
  have sz_b2 : h0.size ≤ b2 := Nat.le_trans (Nat.le_refl h0.size) (Nat.le_of_eq g2.symm)
  have ge_b2 : n0 ≤ b2 := Nat.le_trans Z0 (Nat.le_of_eq g2.symm)
  have ne_b_b2 : b ≠ b2 := Nat.ne_of_lt (Nat.lt_of_lt_of_le Eb.lt (Nat.le_of_eq g2.symm))
  have A2 : own_A Z h2 b2 .long 1 (fun q_ => .long ((fun _ => (0 : Int64)) q_)) := A2
  show own_Ends p e below s _ _ _ (own_F T2 m 11 #[rv b, iv 64] [(.ref b2), (.ref b)])
  obtain ⟨T3, h3, X3, e3, W3, st3⟩ := putF X2 hx hZ hown (host := "") (Or.inl (own_w hw 78)) Via.refl e2 (Fw.ext E2) (Eb.ext E2) (Or.inl (own_w hw 79)) (own_w hw 59) (ty := (.array .long)) (by decide) rfl rfl (g := (mkF m 11 #[rv b, iv 64] [(.ref b2), (.ref b)])) rfl rfl (hb hby own_d12_11)
  have N3 := Fr.snoc X3 N1 gb
  have Fw3 := (Fw.ext E2).same W3
  refine own_pre (S' := (own_F T3 m 14 #[rv b, iv 64] [])) st3 ?_
  refine own_retV X3 hx hlk hrt (hb hby own_d12_14) (by decide) (by decide) ?_
  show _ ∧ Fr n0 _ ∧ Keep h0 T3.heap [b] ∧ _
  rw [e3]
  exact ⟨rfl, N3, (((Keep.refl _ _).ext E2).wr W3 (Or.inl (List.mem_of_getElem? (i := 0) rfl))), b2, ge_b2, sz_b2, Fw3, (A2.other W3 (Ne.symm ne_b_b2)), ((Fu.ext E2).other W3 (Or.inr (slot_ne (C := "java/util/BitSet") (Or.inl (own_w hw 66)) (Or.inl (own_w hw 79)) (by decide) (t := .int) (t' := (.array .long)) (by decide) (by decide)))), ((Fs.ext E2).other W3 (Or.inr (slot_ne (C := "java/util/BitSet") (Or.inl (own_w hw 68)) (Or.inl (own_w hw 79)) (by decide) (t := .boolean) (t' := (.array .long)) (by decide) (by decide))))⟩
set_option maxRecDepth 65536 in
set_option maxHeartbeats 40000000 in
theorem own_bsi (l : Launch) (Z : State) (a0 : Array Value) (hw : ∀ d ∈ tables_1, d.before a0 Z = true) (ws : List Jvm.Cond) (b : Nat) (h0 : Heap) (n0 : Nat) (Z0 : n0 ≤ h0.size) (Eb : Exa Z h0 b "java/util/BitSet") (gb : n0 ≤ b) (Fw : Fld Z h0 b "java/util/BitSet" "words" "[J" .null) (Fu : Fld Z h0 b "java/util/BitSet" "wordsInUse" "I" (.int (0 : Int32))) (Fs : Fld Z h0 b "java/util/BitSet" "sizeIsSticky" "Z" (.int (0 : Int32))) :
    own_Met l Z (⟨"java/util/BitSet", "<init>", "()V"⟩ : MethodName) jdk_92_method_4_code 1 none ws ({ frames := 2, cells := 1, slots := 1, locals := 26 } : Room) #[(.ref b)] h0 (fun v h L => v = none ∧ Fr n0 L ∧ Keep h0 h [b] ∧ ∃ w : Nat, n0 ≤ w ∧ h0.size ≤ w ∧ Fld Z h b "java/util/BitSet" "words" "[J" (.ref w) ∧ Fld Z h b "java/util/BitSet" "wordsInUse" "I" (.int (0 : Int32)) ∧ Fld Z h b "java/util/BitSet" "sizeIsSticky" "Z" (.int (0 : Int32)) ∧ own_A Z h w .long 1 (fun i => .long 0)) := by
  refine own_body own_pn9 (fun m => mkF m 0 #[rv b] []) (fun m => own_ef_own_bsi m b) ?_
  intro p e s m below meth c T0 hx hby hml hlk hrt hZ hown hnm X0 e0
  have hown : s.vm.findClass "java/util/BitSet" = some m.cls := hown
  have N0 := Fr.nil n0
  refine own_g (own_F T0 m 1 #[rv b] [(.ref b)]) (fun _ z_ => XS.aloadN X0.here hx rfl (hb hby own_d11_0) rfl rfl z_) ?_
  obtain ⟨T1, X1, e1, st1⟩ := initO X0 hx hZ hown (own_w hw 64) (own_w hw 9) (own_w hw 10) e0 (g := (mkF m 1 #[rv b] [(.ref b)])) rfl (by rw [hml]; rfl) rfl (hb hby own_d11_1) (by decide) (W := 0) (by show 2 * 0 + _ ≤ _; exact Nat.le_of_eq rfl) (by decide)
  refine own_pre (S' := (own_F T1 m 4 #[rv b] [])) st1 ?_
  refine own_g (own_F T1 m 5 #[rv b] [(.ref b)]) (fun _ z_ => XS.aloadN X1.here hx rfl (hb hby own_d11_4) rfl rfl z_) ?_
  refine own_g (own_F T1 m 6 #[rv b] [(.int 0), (.ref b)]) (fun _ z_ => XS.iconst X1.here hx rfl (hb hby own_d11_5) z_) ?_
  obtain ⟨T2, h2, X2, e2, W2, st2⟩ := putF X1 hx hZ hown (host := "") (Or.inl (own_w hw 65)) Via.refl e1 Fu Eb (Or.inl (own_w hw 66)) (own_w hw 59) (ty := .int) (by decide) rfl rfl (g := (mkF m 6 #[rv b] [(.int 0), (.ref b)])) rfl rfl (hb hby own_d11_6)
  have N2 := Fr.snoc X2 N0 gb
  have Fw2 := Fu.same W2
  refine own_pre (S' := (own_F T2 m 9 #[rv b] [])) st2 ?_
  refine own_g (own_F T2 m 10 #[rv b] [(.ref b)]) (fun _ z_ => XS.aloadN X2.here hx rfl (hb hby own_d11_9) rfl rfl z_) ?_
  refine own_g (own_F T2 m 11 #[rv b] [(.int 0), (.ref b)]) (fun _ z_ => XS.iconst X2.here hx rfl (hb hby own_d11_10) z_) ?_
  obtain ⟨T3, h3, X3, e3, W3, st3⟩ := putF X2 hx hZ hown (host := "") (Or.inl (own_w hw 67)) Via.refl e2 (Fs.other W2 (Or.inr (slot_ne (C := "java/util/BitSet") (Or.inl (own_w hw 68)) (Or.inl (own_w hw 66)) (by decide) (t := .boolean) (t' := .int) (by decide) (by decide)))) (Eb.wr W2) (Or.inl (own_w hw 68)) (own_w hw 59) (ty := .boolean) (by decide) rfl rfl (g := (mkF m 11 #[rv b] [(.int 0), (.ref b)])) rfl rfl (hb hby own_d11_11)
  have N3 := Fr.snoc X3 N2 gb
  have Fw3 := (Fs.other W2 (Or.inr (slot_ne (C := "java/util/BitSet") (Or.inl (own_w hw 68)) (Or.inl (own_w hw 66)) (by decide) (t := .boolean) (t' := .int) (by decide) (by decide)))).same W3
  refine own_pre (S' := (own_F T3 m 14 #[rv b] [])) st3 ?_
  refine own_g (own_F T3 m 15 #[rv b] [(.ref b)]) (fun _ z_ => XS.aloadN X3.here hx rfl (hb hby own_d11_14) rfl rfl z_) ?_
  refine own_g (own_F T3 m 17 #[rv b] [(.int 64), (.ref b)]) (fun _ z_ => XS.bipush X3.here hx rfl (hb hby own_d11_15) z_) ?_
  refine own_callP (C := "java/util/BitSet") (y := (⟨"java/util/BitSet", "initWords", "(I)V"⟩ : MethodName)) (b := b) X3 hx hZ hown (own_w hw 69) (own_w hw 70) (own_w hw 72) (own_w hw 71) (own_w hw 73) (own_w hw 60) (by decide) e3 ((Eb.wr W2).wr W3) (hM := own_iw l Z a0 hw [] b h3 n0 (Nat.le_trans (Nat.le_trans Z0 (Nat.le_of_eq W2.size.symm)) (Nat.le_of_eq W3.size.symm)) ((Eb.wr W2).wr W3) ((Fw.other W2 (Or.inr (slot_ne (C := "java/util/BitSet") (Or.inl (own_w hw 79)) (Or.inl (own_w hw 66)) (by decide) (t := (.array .long)) (t' := .int) (by decide) (by decide)))).other W3 (Or.inr (slot_ne (C := "java/util/BitSet") (Or.inl (own_w hw 79)) (Or.inl (own_w hw 68)) (by decide) (t := (.array .long)) (t' := .boolean) (by decide) (by decide)))) gb (Fw2.other W3 (Or.inr (slot_ne (C := "java/util/BitSet") (Or.inl (own_w hw 66)) (Or.inl (own_w hw 68)) (by decide) (t := .int) (t' := .boolean) (by decide) (by decide)))) Fw3) (W := 0) (pc := 17) (Ls := #[rv b]) (argsL := [(.int 64)]) (rest := []) (st0 := [(.int 64), (.ref b)]) (by rw [hml]; rfl) (lenOf own_pd4 rfl) rfl (Nat.le_of_eq rfl) (hb hby own_d11_17) (by decide) (by decide) (by decide) (by decide) ?_
  intro v4 T4 L4 X4 hQ4
  obtain ⟨rfl, Nq4, K4, w4, gw4, gz4, Fw4, Aw4, Fu4, Fs4⟩ := hQ4
  have N4 := Fr.app N3 Nq4
  show own_Ends p e below s _ _ _ (own_F T4 m 20 #[rv b] [])
  have sz_w4 : h0.size ≤ w4 := Nat.le_trans (Nat.le_trans (Nat.le_trans (Nat.le_refl h0.size) (Nat.le_of_eq W2.size.symm)) (Nat.le_of_eq W3.size.symm)) gz4
  have ne_b_w4 : b ≠ w4 := Nat.ne_of_lt (Nat.lt_of_lt_of_le Eb.lt sz_w4)
  refine own_g (own_F T4 m 21 #[rv b] [(.ref b)]) (fun _ z_ => XS.aloadN X4.here hx rfl (hb hby own_d11_20) rfl rfl z_) ?_
  refine own_g (own_F T4 m 22 #[rv b] [(.int 0), (.ref b)]) (fun _ z_ => XS.iconst X4.here hx rfl (hb hby own_d11_21) z_) ?_
  obtain ⟨T5, h5, X5, e5, W5, st5⟩ := putF X4 hx hZ hown (host := "") (Or.inl (own_w hw 67)) Via.refl (rfl : T4.heap = T4.heap) Fs4 (((Eb.wr W2).wr W3).keep K4) (Or.inl (own_w hw 68)) (own_w hw 59) (ty := .boolean) (by decide) rfl rfl (g := (mkF m 22 #[rv b] [(.int 0), (.ref b)])) rfl rfl (hb hby own_d11_22)
  have N5 := Fr.snoc X5 N4 gb
  have Fw5 := Fs4.same W5
  refine own_pre (S' := (own_F T5 m 25 #[rv b] [])) st5 ?_
  refine own_retV X5 hx hlk hrt (hb hby own_d11_25) (by decide) (by decide) ?_
  show _ ∧ Fr n0 _ ∧ Keep h0 T5.heap [b] ∧ _
  rw [e5]
  exact ⟨rfl, N5, (((((Keep.refl _ _).wr W2 (Or.inl (List.mem_of_getElem? (i := 0) rfl))).wr W3 (Or.inl (List.mem_of_getElem? (i := 0) rfl))).trans K4 (allS (Or.inl (List.mem_of_getElem? (i := 0) rfl)) all0)).wr W5 (Or.inl (List.mem_of_getElem? (i := 0) rfl))), w4, gw4, sz_w4, (Fw4.other W5 (Or.inr (slot_ne (C := "java/util/BitSet") (Or.inl (own_w hw 79)) (Or.inl (own_w hw 68)) (by decide) (t := (.array .long)) (t' := .boolean) (by decide) (by decide)))), (Fu4.other W5 (Or.inr (slot_ne (C := "java/util/BitSet") (Or.inl (own_w hw 66)) (Or.inl (own_w hw 68)) (by decide) (t := .int) (t' := .boolean) (by decide) (by decide)))), Fw5, (Aw4.other W5 (Ne.symm ne_b_w4))⟩
set_option maxRecDepth 65536 in
set_option maxHeartbeats 40000000 in
theorem own_nsi (l : Launch) (Z : State) (a0 : Array Value) (hw : ∀ d ∈ tables_1, d.before a0 Z = true) (ws : List Jvm.Cond) (a : Nat) (h0 : Heap) (n0 : Nat) (Z0 : n0 ≤ h0.size) (Ea : Exa Z h0 a "com/example/kunci/kunci/NumberSet") (ga : n0 ≤ a) (Fs : Fld Z h0 a "com/example/kunci/kunci/NumberSet" "size" "I" (.int (0 : Int32))) (Fb : Fld Z h0 a "com/example/kunci/kunci/NumberSet" "bits" "Ljava/util/BitSet;" .null) (Fn : Fld Z h0 a "com/example/kunci/kunci/NumberSet" "numbers" "[I" .null) (S_ad : Sta Z h0 "java/util/BitSet" "$assertionsDisabled" "Z" (.int (1 : Int32))) :
    own_Met l Z (⟨"com/example/kunci/kunci/NumberSet", "<init>", "()V"⟩ : MethodName) prog_3_method_1_code 1 none ws ({ frames := 1, cells := 1, slots := 0, locals := 12 } : Room) #[(.ref a)] h0 (fun v h L => v = none ∧ Fr n0 L ∧ h0.size ≤ h.size ∧ Sta Z h "java/util/BitSet" "$assertionsDisabled" "Z" (.int (1 : Int32)) ∧ own_few n0 Z h a 0 0 (fun _ => 0)) := by
  refine own_body own_pn10 (fun m => mkF m 0 #[rv a] []) (fun m => own_ef_own_nsi m a) ?_
  intro p e s m below meth c T0 hx hby hml hlk hrt hZ hown hnm X0 e0
  have hown : s.vm.findClass "com/example/kunci/kunci/NumberSet" = some m.cls := hown
  have N0 := Fr.nil n0
  refine own_g (own_F T0 m 1 #[rv a] [(.ref a)]) (fun _ z_ => XS.aloadN X0.here hx rfl (hb hby own_d1_0) rfl rfl z_) ?_
  obtain ⟨T1, X1, e1, st1⟩ := initO X0 hx hZ hown (own_w hw 8) (own_w hw 9) (own_w hw 10) e0 (g := (mkF m 1 #[rv a] [(.ref a)])) rfl (by rw [hml]; rfl) rfl (hb hby own_d1_1) (by decide) (W := 0) (by show 2 * 0 + _ ≤ _; exact Nat.le_of_eq rfl) (by decide)
  refine own_pre (S' := (own_F T1 m 4 #[rv a] [])) st1 ?_
  refine own_g (own_F T1 m 5 #[rv a] [(.ref a)]) (fun _ z_ => XS.aloadN X1.here hx rfl (hb hby own_d1_4) rfl rfl z_) ?_
  refine own_g (own_F T1 m 6 #[rv a] [(.int 0), (.ref a)]) (fun _ z_ => XS.iconst X1.here hx rfl (hb hby own_d1_5) z_) ?_
  refine own_newA X1 hx hZ .int rfl (own_w hw 11) e1 (hb hby own_d1_6) 0 rfl 0 (by decide) (by decide) (by decide) (by decide) ?_
  intro T2 h2 b2 X2 e2 E2 g2 A2
  have sz_b2 : h0.size ≤ b2 := Nat.le_trans (Nat.le_refl h0.size) (Nat.le_of_eq g2.symm)
  have ge_b2 : n0 ≤ b2 := Nat.le_trans Z0 (Nat.le_of_eq g2.symm)
  have ne_a_b2 : a ≠ b2 := Nat.ne_of_lt (Nat.lt_of_lt_of_le Ea.lt (Nat.le_of_eq g2.symm))
  have A2 : own_A Z h2 b2 .int 0 (fun q_ => .int ((fun _ => (0 : Int32)) q_)) := A2
  show own_Ends p e below s _ _ _ (own_F T2 m 8 #[rv a] [(.ref b2), (.ref a)])
  obtain ⟨T3, h3, X3, e3, W3, st3⟩ := putF X2 hx hZ hown (host := "") (Or.inl (own_w hw 12)) Via.refl e2 (Fn.ext E2) (Ea.ext E2) (Or.inl (own_w hw 13)) (own_w hw 3) (ty := (.array .int)) (by decide) rfl rfl (g := (mkF m 8 #[rv a] [(.ref b2), (.ref a)])) rfl rfl (hb hby own_d1_8)
  have N3 := Fr.snoc X3 N0 ga
  have Fw3 := (Fn.ext E2).same W3
  refine own_pre (S' := (own_F T3 m 11 #[rv a] [])) st3 ?_
  refine own_retV X3 hx hlk hrt (hb hby own_d1_11) (by decide) (by decide) ?_
  show _ ∧ Fr n0 _ ∧ _ ≤ T3.heap.size ∧ Sta Z T3.heap _ _ _ _ ∧ own_few n0 Z T3.heap a 0 0 _
  rw [e3]
  exact ⟨rfl, N3, (Nat.le_trans (Nat.le_trans (Nat.le_refl h0.size) E2.1) (Nat.le_of_eq W3.size.symm)), ((S_ad.ext E2).wr W3), ⟨b2, 0, ga, ge_b2, ne_a_b2, rfl, Nat.le_refl _, by decide, Or.inl rfl, ((Ea.ext E2).wr W3), ((Fs.ext E2).other W3 (Or.inr (slot_ne (C := "com/example/kunci/kunci/NumberSet") (Or.inl (own_w hw 31)) (Or.inl (own_w hw 13)) (by decide) (t := .int) (t' := (.array .int)) (by decide) (by decide)))), ((Fb.ext E2).other W3 (Or.inr (slot_ne (C := "com/example/kunci/kunci/NumberSet") (Or.inl (own_w hw 25)) (Or.inl (own_w hw 13)) (by decide) (t := (.object "java/util/BitSet")) (t' := (.array .int)) (by decide) (by decide)))), Fw3, (A2.other W3 (Ne.symm ne_a_b2))⟩⟩
set_option maxRecDepth 65536 in
set_option maxHeartbeats 40000000 in
theorem own_cpj (l : Launch) (Z : State) (a0 : Array Value) (hw : ∀ d ∈ tables_1, d.before a0 Z = true) (ws : List Jvm.Cond) (x n k : Nat) (nn mm : Int32) (U : Nat → Int64) (h0 : Heap) (n0 : Nat) (Z0 : n0 ≤ h0.size) (hn : nn.toInt = (n : Int)) (hm : mm.toInt = (k : Int)) (hlt : n < k) (hk : k ≤ 34048) (hz : ∀ i, n ≤ i → U i = 0) (Ax : own_A Z h0 x .long n (fun i => .long (U i))) :
    own_Met l Z (⟨"java/util/Arrays", "copyOf", "([JI)[J"⟩ : MethodName) jdk_65_method_124_code 3 (some (.array .long)) ws ({ frames := 1, cells := 1, slots := k, locals := 18 } : Room) #[(.ref x), (.int mm)] h0 (fun v h L => ∃ b : Nat, v = some (.ref b) ∧ Fr n0 L ∧ Keep h0 h [] ∧ n0 ≤ b ∧ h0.size ≤ b ∧ own_A Z h b .long k (fun i => .long (U i))) := by
  refine own_body own_pn11 (fun m => mkF m 0 #[rv x, iv mm, .unset] []) (fun m => own_ef_own_cpj m x mm) ?_
  intro p e s m below meth c T0 hx hby hml hlk hrt hZ hown hnm X0 e0
  have hown : s.vm.findClass "java/util/Arrays" = some m.cls := hown
  have N0 := Fr.nil n0
  refine own_g (own_F T0 m 1 #[rv x, iv mm, .unset] [(.int mm)]) (fun _ z_ => XS.iloadN X0.here hx rfl (hb hby own_d18_0) rfl z_) ?_
  refine own_g (own_F T0 m 2 #[rv x, iv mm, .unset] [(.ref x), (.int mm)]) (fun _ z_ => XS.aloadN X0.here hx rfl (hb hby own_d18_1) rfl rfl z_) ?_
  refine own_alen X0 hx hZ e0 Ax (hb hby own_d18_2) ?_
  rw [own_n32 hn]
  show own_Ends p e below s _ _ _ (own_F T0 m 3 #[rv x, iv mm, .unset] [(.int nn), (.int mm)])
  refine own_g (own_F T0 m 14 #[rv x, iv mm, .unset] []) (fun _ z_ => XS.icmpYes X0.here hx rfl (pc0 := 3) (pc' := 14) rfl (hb hby own_d18_3) rfl (feq (own_jn hm hn hlt)).2 (by decide) (by decide) z_) ?_
  refine own_g (own_F T0 m 15 #[rv x, iv mm, .unset] [(.int mm)]) (fun _ z_ => XS.iloadN X0.here hx rfl (hb hby own_d18_14) rfl z_) ?_
  refine own_newA X0 hx hZ .long rfl (own_w hw 77) e0 (hb hby own_d18_15) k hm k (Nat.le_refl _) (by first | decide | omega | (dsimp only; omega) | (dsimp only; done)) (by first | decide | omega | (dsimp only; omega) | (dsimp only; done)) (by first | decide | omega | (dsimp only; omega) | (dsimp only; done)) ?_
  intro T1 h1 b1 X1 e1 E1 g1 A1
  have sz_b1 : h0.size ≤ b1 := Nat.le_trans (Nat.le_refl h0.size) (Nat.le_of_eq g1.symm)
  have ge_b1 : n0 ≤ b1 := Nat.le_trans Z0 (Nat.le_of_eq g1.symm)
  have ne_x_b1 : x ≠ b1 := Nat.ne_of_lt (Nat.lt_of_lt_of_le Ax.lt (Nat.le_of_eq g1.symm))
  have A1 : own_A Z h1 b1 .long k (fun q_ => .long ((fun _ => (0 : Int64)) q_)) := A1
  show own_Ends p e below s _ _ _ (own_F T1 m 17 #[rv x, iv mm, .unset] [(.ref b1)])
  refine own_g (own_F T1 m 18 #[rv x, iv mm, rv b1] []) (fun _ z_ => XS.astoreN X1.here hx rfl (hb hby own_d18_17) rfl rfl (l' := #[rv x, iv mm, rv b1]) rfl z_) ?_
  refine own_g (own_F T1 m 19 #[rv x, iv mm, rv b1] [(.ref x)]) (fun _ z_ => XS.aloadN X1.here hx rfl (hb hby own_d18_18) rfl rfl z_) ?_
  refine own_g (own_F T1 m 20 #[rv x, iv mm, rv b1] [(.int 0), (.ref x)]) (fun _ z_ => XS.iconst X1.here hx rfl (hb hby own_d18_19) z_) ?_
  refine own_g (own_F T1 m 21 #[rv x, iv mm, rv b1] [(.ref b1), (.int 0), (.ref x)]) (fun _ z_ => XS.aloadN X1.here hx rfl (hb hby own_d18_20) rfl rfl z_) ?_
  refine own_g (own_F T1 m 22 #[rv x, iv mm, rv b1] [(.int 0), (.ref b1), (.int 0), (.ref x)]) (fun _ z_ => XS.iconst X1.here hx rfl (hb hby own_d18_21) z_) ?_
  refine own_g (own_F T1 m 23 #[rv x, iv mm, rv b1] [(.ref x), (.int 0), (.ref b1), (.int 0), (.ref x)]) (fun _ z_ => XS.aloadN X1.here hx rfl (hb hby own_d18_22) rfl rfl z_) ?_
  refine own_alen X1 hx hZ e1 (Ax.ext E1) (hb hby own_d18_23) ?_
  rw [own_n32 hn]
  show own_Ends p e below s _ _ _ (own_F T1 m 24 #[rv x, iv mm, rv b1] [(.int nn), (.int 0), (.ref b1), (.int 0), (.ref x)])
  refine own_g (own_F T1 m 25 #[rv x, iv mm, rv b1] [(.int mm), (.int nn), (.int 0), (.ref b1), (.int 0), (.ref x)]) (fun _ z_ => XS.iloadN X1.here hx rfl (hb hby own_d18_24) rfl z_) ?_
  refine own_callS (y := (⟨"java/lang/Math", "min", "(II)I"⟩ : MethodName)) X1 hx hZ hown (own_w hw 40) (own_w hw 41) (own_w hw 34) (own_w hw 42) (by decide) e1 (hM := own_min l Z a0 hw [] nn mm nn h1 n0 (Nat.le_trans Z0 E1.1) (if_neg (own_jge hm hn (Nat.le_of_lt hlt)))) (W := 4) (pc := 25) (Ls := #[rv x, iv mm, rv b1]) (argsL := [(.int nn), (.int mm)]) (rest := [(.int 0), (.ref b1), (.int 0), (.ref x)]) (st0 := [(.int mm), (.int nn), (.int 0), (.ref b1), (.int 0), (.ref x)]) (by rw [hml]; rfl) (lenOf own_pd1 rfl) rfl (Nat.le_of_eq rfl) (hb hby own_d18_25) (by first | decide | omega | (dsimp only; omega) | (dsimp only; done)) (by first | decide | omega | (dsimp only; omega) | (dsimp only; done)) (by first | decide | omega | (dsimp only; omega) | (dsimp only; done)) (by first | decide | omega | (dsimp only; omega) | (dsimp only; done)) ?_
  intro v2 T2 L2 X2 hQ2
  obtain ⟨rfl, Nq2, hh2⟩ := hQ2
  have N2 := Fr.app N0 Nq2
  show own_Ends p e below s _ _ _ (own_F T2 m 28 #[rv x, iv mm, rv b1] [(.int nn), (.int 0), (.ref b1), (.int 0), (.ref x)])
  refine own_cp X2 hx hZ hown (own_w hw 43) (own_w hw 46) (own_w hw 44) (own_w hw 45) hh2 (Ax.ext E1) A1 (fun _ => rfl) (fun _ => rfl) rfl n hn (Nat.le_refl _) (Nat.le_of_lt hlt) N2 ge_b1 (pc := 28) (Ls := #[rv x, iv mm, rv b1]) (by rw [hml]; rfl) (rest := []) (hb hby own_d18_28) (by first | decide | omega | (dsimp only; omega) | (dsimp only; done)) (W := 0) (Nat.le_refl _) (by first | decide | omega | (dsimp only; omega) | (dsimp only; done)) ?_
  intro T3 h3 L3 X3 e3 N3 K3 A3
  show own_Ends p e below s _ _ _ (own_F T3 m 31 #[rv x, iv mm, rv b1] [])
  refine own_g (own_F T3 m 32 #[rv x, iv mm, rv b1] [(.ref b1)]) (fun _ z_ => XS.aloadN X3.here hx rfl (hb hby own_d18_31) rfl rfl z_) ?_
  refine own_ret (t := (.array .long)) X3 hx hlk hrt rfl (Or.inr (Or.inr (Or.inr (Or.inr ⟨rfl, rfl, rfl⟩)))) (hb hby own_d18_32) (by first | decide | omega | (dsimp only; omega) | (dsimp only; done)) (by first | decide | omega | (dsimp only; omega) | (dsimp only; done)) ?_
  show ∃ b : Nat, _ ∧ Fr n0 _ ∧ Keep h0 T3.heap [] ∧ _ ∧ _ ∧ own_A Z T3.heap b .long k _
  rw [e3]
  exact ⟨b1, rfl, N3, (((Keep.refl _ _).ext E1).trans K3 (allS (Or.inr sz_b1) all0)), ge_b1, sz_b1, (A3).congr fun i hi => by by_cases q : i < n; simp [q]; simp [q, hz i (by omega)]⟩
set_option maxRecDepth 65536 in
set_option maxHeartbeats 40000000 in
theorem own_ecG (l : Launch) (Z : State) (a0 : Array Value) (hw : ∀ d ∈ tables_1, d.before a0 Z = true) (ws : List Jvm.Cond) (b w cp c' r kk : Nat) (rq cc : Int32) (U : Nat → Int64) (wu : Int32) (h0 : Heap) (n0 : Nat) (Z0 : n0 ≤ h0.size) (hrq : rq.toInt = (r : Int)) (hr8 : r ≤ 17024) (hst : own_step cp r kk c') (hcc : cc.toInt = (cp : Int)) (hc8 : cp ≤ 34048) (hz : ∀ i, cp ≤ i → U i = 0) (Eb : Exa Z h0 b "java/util/BitSet") (gb : n0 ≤ b) (gw : n0 ≤ w) (nbw : b ≠ w) (Fw : Fld Z h0 b "java/util/BitSet" "words" "[J" (.ref w)) (Fu : Fld Z h0 b "java/util/BitSet" "wordsInUse" "I" (.int wu)) (Fs : Fld Z h0 b "java/util/BitSet" "sizeIsSticky" "Z" (.int (0 : Int32))) (Aw : own_A Z h0 w .long cp (fun i => .long (U i))) :
    own_Met l Z (⟨"java/util/BitSet", "ensureCapacity", "(I)V"⟩ : MethodName) jdk_92_method_14_code 3 none ws ({ frames := 2, cells := 1, slots := kk, locals := 33 } : Room) #[(.ref b), (.int rq)] h0 (fun v h L => v = none ∧ Fr n0 L ∧ Keep h0 h [b] ∧ ∃ w' : Nat, (w = w' ∨ h0.size ≤ w') ∧ n0 ≤ w' ∧ b ≠ w' ∧ Fld Z h b "java/util/BitSet" "words" "[J" (.ref w') ∧ Fld Z h b "java/util/BitSet" "wordsInUse" "I" (.int wu) ∧ Fld Z h b "java/util/BitSet" "sizeIsSticky" "Z" (.int (0 : Int32)) ∧ own_A Z h w' .long c' (fun i => .long (U i))) := by
  refine own_body own_pn12 (fun m => mkF m 0 #[rv b, iv rq, .unset] []) (fun m => own_ef_own_ecG m b rq) ?_
  intro p e s m below meth c T0 hx hby hml hlk hrt hZ hown hnm X0 e0
  have hown : s.vm.findClass "java/util/BitSet" = some m.cls := hown
  have N0 := Fr.nil n0
  rcases hst with ⟨hs1, hs2, hs3⟩ | ⟨hs1, hs2, hs3⟩
  ·
   refine own_g (own_F T0 m 1 #[rv b, iv rq, .unset] [(.ref b)]) (fun _ z_ => XS.aloadN X0.here hx rfl (hb hby own_d16_0) rfl rfl z_) ?_
   obtain ⟨T1, X1, e1, st1⟩ := getF X0 hx hZ hown (host := "") (Or.inl (own_w hw 78)) Via.refl e0 Fw (g := (mkF m 1 #[rv b, iv rq, .unset] [(.ref b)])) rfl rfl (hb hby own_d16_1)
   refine own_pre (S' := (own_F T1 m 4 #[rv b, iv rq, .unset] [(.ref w)])) st1 ?_
   refine own_alen X1 hx hZ e1 Aw (hb hby own_d16_4) ?_
   rw [own_n32 hcc]
   show own_Ends p e below s _ _ _ (own_F T1 m 5 #[rv b, iv rq, .unset] [(.int cc)])
   refine own_g (own_F T1 m 6 #[rv b, iv rq, .unset] [(.int rq), (.int cc)]) (fun _ z_ => XS.iloadN X1.here hx rfl (hb hby own_d16_5) rfl z_) ?_
   refine own_g (own_F T1 m 38 #[rv b, iv rq, .unset] []) (fun _ z_ => XS.icmpYes X1.here hx rfl (pc0 := 6) (pc' := 38) rfl (hb hby own_d16_6) rfl (flt (own_jge hcc hrq hs1)).2.1 (by decide) (by decide) z_) ?_
   refine own_retV X1 hx hlk hrt (hb hby own_d16_38) (by first | decide | omega | (dsimp only; omega) | (dsimp only; done)) (by first | decide | omega | (dsimp only; omega) | (dsimp only; done)) ?_
   show _ ∧ Fr n0 _ ∧ Keep h0 T1.heap [b] ∧ _
   rw [e1]
   exact ⟨rfl, N0, (Keep.refl _ _), w, Or.inl rfl, gw, nbw, Fw, Fu, Fs, (by rw [hs3]; exact Aw)⟩
  ·
   refine own_g (own_F T0 m 1 #[rv b, iv rq, .unset] [(.ref b)]) (fun _ z_ => XS.aloadN X0.here hx rfl (hb hby own_d16_0) rfl rfl z_) ?_
   obtain ⟨T2, X2, e2, st2⟩ := getF X0 hx hZ hown (host := "") (Or.inl (own_w hw 78)) Via.refl e0 Fw (g := (mkF m 1 #[rv b, iv rq, .unset] [(.ref b)])) rfl rfl (hb hby own_d16_1)
   refine own_pre (S' := (own_F T2 m 4 #[rv b, iv rq, .unset] [(.ref w)])) st2 ?_
   refine own_alen X2 hx hZ e2 Aw (hb hby own_d16_4) ?_
   rw [own_n32 hcc]
   show own_Ends p e below s _ _ _ (own_F T2 m 5 #[rv b, iv rq, .unset] [(.int cc)])
   refine own_g (own_F T2 m 6 #[rv b, iv rq, .unset] [(.int rq), (.int cc)]) (fun _ z_ => XS.iloadN X2.here hx rfl (hb hby own_d16_5) rfl z_) ?_
   refine own_g (own_F T2 m 9 #[rv b, iv rq, .unset] []) (fun _ z_ => XS.icmpNo X2.here hx rfl (hb hby own_d16_6) rfl (tlt (own_jlt hcc hrq hs1)).2.1 z_) ?_
   refine own_g (own_F T2 m 10 #[rv b, iv rq, .unset] [(.int 2)]) (fun _ z_ => XS.iconst X2.here hx rfl (hb hby own_d16_9) z_) ?_
   refine own_g (own_F T2 m 11 #[rv b, iv rq, .unset] [(.ref b), (.int 2)]) (fun _ z_ => XS.aloadN X2.here hx rfl (hb hby own_d16_10) rfl rfl z_) ?_
   obtain ⟨T3, X3, e3, st3⟩ := getF X2 hx hZ hown (host := "") (Or.inl (own_w hw 78)) Via.refl e2 Fw (g := (mkF m 11 #[rv b, iv rq, .unset] [(.ref b), (.int 2)])) rfl rfl (hb hby own_d16_11)
   refine own_pre (S' := (own_F T3 m 14 #[rv b, iv rq, .unset] [(.ref w), (.int 2)])) st3 ?_
   refine own_alen X3 hx hZ e3 Aw (hb hby own_d16_14) ?_
   rw [own_n32 hcc]
   show own_Ends p e below s _ _ _ (own_F T3 m 15 #[rv b, iv rq, .unset] [(.int cc), (.int 2)])
   refine own_g (own_F T3 m 16 #[rv b, iv rq, .unset] [(.int ((2 : Int32) * cc))]) (fun _ z_ => XS.imul X3.here hx rfl (hb hby own_d16_15) rfl z_) ?_
   refine own_g (own_F T3 m 17 #[rv b, iv rq, .unset] [(.int rq), (.int ((2 : Int32) * cc))]) (fun _ z_ => XS.iloadN X3.here hx rfl (hb hby own_d16_16) rfl z_) ?_
   obtain ⟨mm, hmm, hmc⟩ := own_mmG hcc hrq hc8 hs2
   refine own_callS (y := (⟨"java/lang/Math", "max", "(II)I"⟩ : MethodName)) X3 hx hZ hown (own_w hw 101) (own_w hw 33) (own_w hw 34) (own_w hw 35) (by decide) e3 (hM := own_max l Z a0 hw [] ((2 : Int32) * cc) rq mm h0 n0 Z0 hmm) (W := 0) (pc := 17) (Ls := #[rv b, iv rq, .unset]) (argsL := [(.int ((2 : Int32) * cc)), (.int rq)]) (rest := []) (st0 := [(.int rq), (.int ((2 : Int32) * cc))]) (by rw [hml]; rfl) (lenOf own_pd1 rfl) rfl (Nat.le_of_eq rfl) (hb hby own_d16_17) (by first | decide | omega | (dsimp only; omega) | (dsimp only; done)) (by first | decide | omega | (dsimp only; omega) | (dsimp only; done)) (by first | decide | omega | (dsimp only; omega) | (dsimp only; done)) (by first | decide | omega | (dsimp only; omega) | (dsimp only; done)) ?_
   intro v4 T4 L4 X4 hQ4
   obtain ⟨rfl, Nq4, hh4⟩ := hQ4
   have N4 := Fr.app N0 Nq4
   show own_Ends p e below s _ _ _ (own_F T4 m 20 #[rv b, iv rq, .unset] [(.int mm)])
   refine own_g (own_F T4 m 21 #[rv b, iv rq, iv mm] []) (fun _ z_ => XS.istoreN X4.here hx rfl (hb hby own_d16_20) rfl (l' := #[rv b, iv rq, iv mm]) rfl z_) ?_
   refine own_g (own_F T4 m 22 #[rv b, iv rq, iv mm] [(.ref b)]) (fun _ z_ => XS.aloadN X4.here hx rfl (hb hby own_d16_21) rfl rfl z_) ?_
   refine own_g (own_F T4 m 23 #[rv b, iv rq, iv mm] [(.ref b), (.ref b)]) (fun _ z_ => XS.aloadN X4.here hx rfl (hb hby own_d16_22) rfl rfl z_) ?_
   obtain ⟨T5, X5, e5, st5⟩ := getF X4 hx hZ hown (host := "") (Or.inl (own_w hw 78)) Via.refl hh4 Fw (g := (mkF m 23 #[rv b, iv rq, iv mm] [(.ref b), (.ref b)])) rfl rfl (hb hby own_d16_23)
   refine own_pre (S' := (own_F T5 m 26 #[rv b, iv rq, iv mm] [(.ref w), (.ref b)])) st5 ?_
   refine own_g (own_F T5 m 27 #[rv b, iv rq, iv mm] [(.int mm), (.ref w), (.ref b)]) (fun _ z_ => XS.iloadN X5.here hx rfl (hb hby own_d16_26) rfl z_) ?_
   refine own_callS (y := (⟨"java/util/Arrays", "copyOf", "([JI)[J"⟩ : MethodName)) X5 hx hZ hown (own_w hw 102) (own_w hw 103) (own_w hw 38) (own_w hw 104) (by decide) e5 (hM := own_cpj l Z a0 hw [] w cp c' cc mm U h0 n0 Z0 hcc hmc (by by_cases q_ : 2 * cp < r; rw [if_pos q_] at hs2; omega; rw [if_neg q_] at hs2; omega) (by by_cases q_ : 2 * cp < r; rw [if_pos q_] at hs2; omega; rw [if_neg q_] at hs2; omega) hz Aw) (W := 1) (pc := 27) (Ls := #[rv b, iv rq, iv mm]) (argsL := [(.ref w), (.int mm)]) (rest := [(.ref b)]) (st0 := [(.int mm), (.ref w), (.ref b)]) (by rw [hml]; rfl) (lenOf own_pd5 rfl) rfl (Nat.le_of_eq rfl) (hb hby own_d16_27) (by first | decide | omega | (dsimp only; omega) | (dsimp only; done)) (by first | decide | omega | (dsimp only; omega) | (dsimp only; done)) (by first | decide | omega | (dsimp only; omega) | (dsimp only; done)) (by first | decide | omega | (dsimp only; omega) | (dsimp only; done)) ?_
   intro v6 T6 L6 X6 hQ6
   obtain ⟨w6, rfl, Nq6, K6, ge_w6, gz6, Aw6⟩ := hQ6
   have N6 := Fr.app N4 Nq6
   show own_Ends p e below s _ _ _ (own_F T6 m 30 #[rv b, iv rq, iv mm] [(.ref w6), (.ref b)])
   have sz_w6 : h0.size ≤ w6 := Nat.le_trans (Nat.le_refl h0.size) gz6
   have ne_b_w6 : b ≠ w6 := Nat.ne_of_lt (Nat.lt_of_lt_of_le Eb.lt sz_w6)
   obtain ⟨T7, h7, X7, e7, W7, st7⟩ := putF X6 hx hZ hown (host := "") (Or.inl (own_w hw 78)) Via.refl (rfl : T6.heap = T6.heap) (Fw.keep K6 nin0) (Eb.keep K6) (Or.inl (own_w hw 79)) (own_w hw 59) (ty := (.array .long)) (by decide) rfl rfl (g := (mkF m 30 #[rv b, iv rq, iv mm] [(.ref w6), (.ref b)])) rfl rfl (hb hby own_d16_30)
   have N7 := Fr.snoc X7 N6 gb
   have Fw7 := (Fw.keep K6 nin0).same W7
   refine own_pre (S' := (own_F T7 m 33 #[rv b, iv rq, iv mm] [])) st7 ?_
   refine own_g (own_F T7 m 34 #[rv b, iv rq, iv mm] [(.ref b)]) (fun _ z_ => XS.aloadN X7.here hx rfl (hb hby own_d16_33) rfl rfl z_) ?_
   refine own_g (own_F T7 m 35 #[rv b, iv rq, iv mm] [(.int 0), (.ref b)]) (fun _ z_ => XS.iconst X7.here hx rfl (hb hby own_d16_34) z_) ?_
   obtain ⟨T8, h8, X8, e8, W8, st8⟩ := putF X7 hx hZ hown (host := "") (Or.inl (own_w hw 67)) Via.refl e7 ((Fs.keep K6 nin0).other W7 (Or.inr (slot_ne (C := "java/util/BitSet") (Or.inl (own_w hw 68)) (Or.inl (own_w hw 79)) (by decide) (t := .boolean) (t' := (.array .long)) (by decide) (by decide)))) ((Eb.keep K6).wr W7) (Or.inl (own_w hw 68)) (own_w hw 59) (ty := .boolean) (by decide) rfl rfl (g := (mkF m 35 #[rv b, iv rq, iv mm] [(.int 0), (.ref b)])) rfl rfl (hb hby own_d16_35)
   have N8 := Fr.snoc X8 N7 gb
   have Fw8 := ((Fs.keep K6 nin0).other W7 (Or.inr (slot_ne (C := "java/util/BitSet") (Or.inl (own_w hw 68)) (Or.inl (own_w hw 79)) (by decide) (t := .boolean) (t' := (.array .long)) (by decide) (by decide)))).same W8
   refine own_pre (S' := (own_F T8 m 38 #[rv b, iv rq, iv mm] [])) st8 ?_
   refine own_retV X8 hx hlk hrt (hb hby own_d16_38) (by first | decide | omega | (dsimp only; omega) | (dsimp only; done)) (by first | decide | omega | (dsimp only; omega) | (dsimp only; done)) ?_
   show _ ∧ Fr n0 _ ∧ Keep h0 T8.heap [b] ∧ _
   rw [e8]
   exact ⟨rfl, N8, ((((Keep.refl _ _).trans K6 all0).wr W7 (Or.inl (List.mem_of_getElem? (i := 0) rfl))).wr W8 (Or.inl (List.mem_of_getElem? (i := 0) rfl))), w6, Or.inr sz_w6, ge_w6, ne_b_w6, (Fw7.other W8 (Or.inr (slot_ne (C := "java/util/BitSet") (Or.inl (own_w hw 79)) (Or.inl (own_w hw 68)) (by decide) (t := (.array .long)) (t' := .boolean) (by decide) (by decide)))), (((Fu.keep K6 nin0).other W7 (Or.inr (slot_ne (C := "java/util/BitSet") (Or.inl (own_w hw 66)) (Or.inl (own_w hw 79)) (by decide) (t := .int) (t' := (.array .long)) (by decide) (by decide)))).other W8 (Or.inr (slot_ne (C := "java/util/BitSet") (Or.inl (own_w hw 66)) (Or.inl (own_w hw 68)) (by decide) (t := .int) (t' := .boolean) (by decide) (by decide)))), Fw8, ((Aw6.other W7 (Ne.symm ne_b_w6)).other W8 (Ne.symm ne_b_w6))⟩
set_option maxRecDepth 65536 in
set_option maxHeartbeats 40000000 in
theorem own_etG (l : Launch) (Z : State) (a0 : Array Value) (hw : ∀ d ∈ tables_1, d.before a0 Z = true) (ws : List Jvm.Cond) (b w cp c' r kk : Nat) (rq cc : Int32) (U : Nat → Int64) (wu : Int32) (wn : Nat) (h0 : Heap) (n0 : Nat) (Z0 : n0 ≤ h0.size) (hrq : rq.toInt = (r : Int)) (hr8 : r + 1 ≤ 17024) (hwu : wu.toInt = (wn : Int)) (hwc : wn ≤ cp) (hst : own_step cp (r + 1) kk c') (hcc : cc.toInt = (cp : Int)) (hc8 : cp ≤ 34048) (hz : ∀ i, cp ≤ i → U i = 0) (Eb : Exa Z h0 b "java/util/BitSet") (gb : n0 ≤ b) (gw : n0 ≤ w) (nbw : b ≠ w) (Fw : Fld Z h0 b "java/util/BitSet" "words" "[J" (.ref w)) (Fu : Fld Z h0 b "java/util/BitSet" "wordsInUse" "I" (.int wu)) (Fs : Fld Z h0 b "java/util/BitSet" "sizeIsSticky" "Z" (.int (0 : Int32))) (Aw : own_A Z h0 w .long cp (fun i => .long (U i))) :
    own_Met l Z (⟨"java/util/BitSet", "expandTo", "(I)V"⟩ : MethodName) jdk_92_method_15_code 3 none ws ({ frames := 3, cells := 1, slots := kk, locals := 47 } : Room) #[(.ref b), (.int rq)] h0 (fun v h L => v = none ∧ Fr n0 L ∧ Keep h0 h [b] ∧ ∃ w' : Nat, (w = w' ∨ h0.size ≤ w') ∧ n0 ≤ w' ∧ b ≠ w' ∧ Fld Z h b "java/util/BitSet" "words" "[J" (.ref w') ∧ (∃ wu' : Int32, wu'.toInt = ((max wn (r + 1) : Nat) : Int) ∧ Fld Z h b "java/util/BitSet" "wordsInUse" "I" (.int wu')) ∧ Fld Z h b "java/util/BitSet" "sizeIsSticky" "Z" (.int (0 : Int32)) ∧ own_A Z h w' .long c' (fun i => .long (U i))) := by
  refine own_body own_pn13 (fun m => mkF m 0 #[rv b, iv rq, .unset] []) (fun m => own_ef_own_etG m b rq) ?_
  intro p e s m below meth c T0 hx hby hml hlk hrt hZ hown hnm X0 e0
  have hown : s.vm.findClass "java/util/BitSet" = some m.cls := hown
  have N0 := Fr.nil n0
  have hr1 := own_w1x hrq (by omega)
  have hwi := own_ltI hwu hr1
  refine own_g (own_F T0 m 1 #[rv b, iv rq, .unset] [(.int rq)]) (fun _ z_ => XS.iloadN X0.here hx rfl (hb hby own_d15_0) rfl z_) ?_
  refine own_g (own_F T0 m 2 #[rv b, iv rq, .unset] [(.int 1), (.int rq)]) (fun _ z_ => XS.iconst X0.here hx rfl (hb hby own_d15_1) z_) ?_
  refine own_g (own_F T0 m 3 #[rv b, iv rq, .unset] [(.int (rq + (1 : Int32)))]) (fun _ z_ => XS.iadd X0.here hx rfl (hb hby own_d15_2) rfl z_) ?_
  refine own_g (own_F T0 m 4 #[rv b, iv rq, iv (rq + (1 : Int32))] []) (fun _ z_ => XS.istoreN X0.here hx rfl (hb hby own_d15_3) rfl (l' := #[rv b, iv rq, iv (rq + (1 : Int32))]) rfl z_) ?_
  refine own_g (own_F T0 m 5 #[rv b, iv rq, iv (rq + (1 : Int32))] [(.ref b)]) (fun _ z_ => XS.aloadN X0.here hx rfl (hb hby own_d15_4) rfl rfl z_) ?_
  obtain ⟨T1, X1, e1, st1⟩ := getF X0 hx hZ hown (host := "") (Or.inl (own_w hw 65)) Via.refl e0 Fu (g := (mkF m 5 #[rv b, iv rq, iv (rq + (1 : Int32))] [(.ref b)])) rfl rfl (hb hby own_d15_5)
  refine own_pre (S' := (own_F T1 m 8 #[rv b, iv rq, iv (rq + (1 : Int32))] [(.int wu)])) st1 ?_
  refine own_g (own_F T1 m 9 #[rv b, iv rq, iv (rq + (1 : Int32))] [(.int (rq + (1 : Int32))), (.int wu)]) (fun _ z_ => XS.iloadN X1.here hx rfl (hb hby own_d15_8) rfl z_) ?_
  by_cases c9 : wu < (rq + (1 : Int32))
  · -- pc 9: wu < (rq + (1 : Int32))
   refine own_g (own_F T1 m 12 #[rv b, iv rq, iv (rq + (1 : Int32))] []) (fun _ z_ => XS.icmpNo X1.here hx rfl (hb hby own_d15_9) rfl (tlt c9).2.1 z_) ?_
   refine own_g (own_F T1 m 13 #[rv b, iv rq, iv (rq + (1 : Int32))] [(.ref b)]) (fun _ z_ => XS.aloadN X1.here hx rfl (hb hby own_d15_12) rfl rfl z_) ?_
   refine own_g (own_F T1 m 14 #[rv b, iv rq, iv (rq + (1 : Int32))] [(.int (rq + (1 : Int32))), (.ref b)]) (fun _ z_ => XS.iloadN X1.here hx rfl (hb hby own_d15_13) rfl z_) ?_
   refine own_callP (C := "java/util/BitSet") (y := (⟨"java/util/BitSet", "ensureCapacity", "(I)V"⟩ : MethodName)) (b := b) X1 hx hZ hown (own_w hw 90) (own_w hw 91) (own_w hw 93) (own_w hw 92) (own_w hw 94) (own_w hw 60) (by decide) e1 Eb (hM := own_ecG l Z a0 hw [] b w cp c' (r + 1) kk (rq + (1 : Int32)) cc U wu h0 n0 Z0 hr1 hr8 hst hcc hc8 hz Eb gb gw nbw Fw Fu Fs Aw) (W := 0) (pc := 14) (Ls := #[rv b, iv rq, iv (rq + (1 : Int32))]) (argsL := [(.int (rq + (1 : Int32)))]) (rest := []) (st0 := [(.int (rq + (1 : Int32))), (.ref b)]) (by rw [hml]; rfl) (lenOf own_pd4 rfl) rfl (Nat.le_of_eq rfl) (hb hby own_d15_14) (by first | decide | omega | (dsimp only; omega) | (dsimp only; done)) (by first | decide | omega | (dsimp only; omega) | (dsimp only; done)) (by first | decide | omega | (dsimp only; omega) | (dsimp only; done)) (by first | decide | omega | (dsimp only; omega) | (dsimp only; done)) ?_
   intro v2 T2 L2 X2 hQ2
   obtain ⟨rfl, Nq2, K2, w2, hw2, gw2, nb2, Fw2, Fu2, Fs2, Aw2⟩ := hQ2
   have N2 := Fr.app N0 Nq2
   show own_Ends p e below s _ _ _ (own_F T2 m 17 #[rv b, iv rq, iv (rq + (1 : Int32))] [])
   refine own_g (own_F T2 m 18 #[rv b, iv rq, iv (rq + (1 : Int32))] [(.ref b)]) (fun _ z_ => XS.aloadN X2.here hx rfl (hb hby own_d15_17) rfl rfl z_) ?_
   refine own_g (own_F T2 m 19 #[rv b, iv rq, iv (rq + (1 : Int32))] [(.int (rq + (1 : Int32))), (.ref b)]) (fun _ z_ => XS.iloadN X2.here hx rfl (hb hby own_d15_18) rfl z_) ?_
   obtain ⟨T3, h3, X3, e3, W3, st3⟩ := putF X2 hx hZ hown (host := "") (Or.inl (own_w hw 65)) Via.refl (rfl : T2.heap = T2.heap) Fu2 (Eb.keep K2) (Or.inl (own_w hw 66)) (own_w hw 59) (ty := .int) (by decide) rfl rfl (g := (mkF m 19 #[rv b, iv rq, iv (rq + (1 : Int32))] [(.int (rq + (1 : Int32))), (.ref b)])) rfl rfl (hb hby own_d15_19)
   have N3 := Fr.snoc X3 N2 gb
   have Fw3 := Fu2.same W3
   refine own_pre (S' := (own_F T3 m 22 #[rv b, iv rq, iv (rq + (1 : Int32))] [])) st3 ?_
   refine own_retV X3 hx hlk hrt (hb hby own_d15_22) (by first | decide | omega | (dsimp only; omega) | (dsimp only; done)) (by first | decide | omega | (dsimp only; omega) | (dsimp only; done)) ?_
   show _ ∧ Fr n0 _ ∧ Keep h0 T3.heap [b] ∧ _
   rw [e3]
   exact ⟨rfl, N3, (((Keep.refl _ _).trans K2 (allS (Or.inl (List.mem_of_getElem? (i := 0) rfl)) all0)).wr W3 (Or.inl (List.mem_of_getElem? (i := 0) rfl))), w2, hw2, gw2, nb2, (Fw2.other W3 (Or.inr (slot_ne (C := "java/util/BitSet") (Or.inl (own_w hw 79)) (Or.inl (own_w hw 66)) (by decide) (t := (.array .long)) (t' := .int) (by decide) (by decide)))), ⟨(rq + (1 : Int32)), (by rw [hr1]; have := hwi.mp c9; omega), Fw3⟩, (Fs2.other W3 (Or.inr (slot_ne (C := "java/util/BitSet") (Or.inl (own_w hw 68)) (Or.inl (own_w hw 66)) (by decide) (t := .boolean) (t' := .int) (by decide) (by decide)))), (Aw2.other W3 (Ne.symm nb2))⟩
  · -- pc 9: not wu < (rq + (1 : Int32))
   refine own_g (own_F T1 m 22 #[rv b, iv rq, iv (rq + (1 : Int32))] []) (fun _ z_ => XS.icmpYes X1.here hx rfl (pc0 := 9) (pc' := 22) rfl (hb hby own_d15_9) rfl (flt c9).2.1 (by decide) (by decide) z_) ?_
   refine own_retV X1 hx hlk hrt (hb hby own_d15_22) (by first | decide | omega | (dsimp only; omega) | (dsimp only; done)) (by first | decide | omega | (dsimp only; omega) | (dsimp only; done)) ?_
   show _ ∧ Fr n0 _ ∧ Keep h0 T1.heap [b] ∧ _
   rw [e1]
   have hcw : c' = cp := by rcases hst with ⟨_, _, h3⟩ | ⟨h1, _, _⟩; exact h3; exact absurd h1 (by have := (mt hwi.mpr c9); omega)
   exact ⟨rfl, N0, (Keep.refl _ _), w, Or.inl rfl, gw, nbw, Fw, ⟨wu, (by rw [hwu]; have := (mt hwi.mpr c9); omega), Fu⟩, Fs, (by rw [hcw]; exact Aw)⟩
set_option maxRecDepth 65536 in
set_option maxHeartbeats 40000000 in
theorem own_setG (l : Launch) (Z : State) (a0 : Array Value) (hw : ∀ d ∈ tables_1, d.before a0 Z = true) (ws : List Jvm.Cond) (b w cp c' kk : Nat) (x1 cc : Int32) (U : Nat → Int64) (wu : Int32) (wn : Nat) (h0 : Heap) (n0 : Nat) (Z0 : n0 ≤ h0.size) (hx1 : 0 ≤ x1.toInt ∧ x1.toInt ≤ 1089535) (hwu : wu.toInt = (wn : Int)) (hwc : wn ≤ cp) (hst : own_step cp ((x1.toInt.toNat / 64) + 1) kk c') (hcc : cc.toInt = (cp : Int)) (hc8 : cp ≤ 34048) (hz : ∀ i, wn ≤ i → U i = 0) (Eb : Exa Z h0 b "java/util/BitSet") (gb : n0 ≤ b) (gw : n0 ≤ w) (nbw : b ≠ w) (Fw : Fld Z h0 b "java/util/BitSet" "words" "[J" (.ref w)) (Fu : Fld Z h0 b "java/util/BitSet" "wordsInUse" "I" (.int wu)) (Fs : Fld Z h0 b "java/util/BitSet" "sizeIsSticky" "Z" (.int (0 : Int32))) (Aw : own_A Z h0 w .long cp (fun i => .long (U i))) (S_ad : Sta Z h0 "java/util/BitSet" "$assertionsDisabled" "Z" (.int (1 : Int32))) :
    own_Met l Z (⟨"java/util/BitSet", "set", "(I)V"⟩ : MethodName) jdk_92_method_19_code 3 none ws ({ frames := 4, cells := 1, slots := kk, locals := 61 } : Room) #[(.ref b), (.int x1)] h0 (fun v h L => v = none ∧ Fr n0 L ∧ Keep h0 h [b, w] ∧ ∃ w' : Nat, (w = w' ∨ h0.size ≤ w') ∧ n0 ≤ w' ∧ b ≠ w' ∧ Fld Z h b "java/util/BitSet" "words" "[J" (.ref w') ∧ (∃ wu' : Int32, wu'.toInt = ((max wn ((x1.toInt.toNat / 64) + 1) : Nat) : Int) ∧ Fld Z h b "java/util/BitSet" "wordsInUse" "I" (.int wu')) ∧ Fld Z h b "java/util/BitSet" "sizeIsSticky" "Z" (.int (0 : Int32)) ∧ own_A Z h w' .long c' (fun i => .long (own_up U x1 i))) := by
  refine own_body own_pn14 (fun m => mkF m 0 #[rv b, iv x1, .unset] []) (fun m => own_ef_own_setG m b x1) ?_
  intro p e s m below meth c T0 hx hby hml hlk hrt hZ hown hnm X0 e0
  have hown : s.vm.findClass "java/util/BitSet" = some m.cls := hown
  have N0 := Fr.nil n0
  have hwx := own_wsh hx1.1
  have hr8 : (x1.toInt.toNat / 64) + 1 ≤ 17024 := by omega
  have hsb := own_stepB hst hr8 hc8
  refine own_g (own_F T0 m 1 #[rv b, iv x1, .unset] [(.int x1)]) (fun _ z_ => XS.iloadN X0.here hx rfl (hb hby own_d14_0) rfl z_) ?_
  refine own_g (own_F T0 m 31 #[rv b, iv x1, .unset] []) (fun _ z_ => XS.ifYes X0.here hx rfl (pc0 := 1) (pc' := 31) rfl (hb hby own_d14_1) rfl ((if0 _ _).trans (flt (own_nn hx1.1)).2.1) (by decide) (by decide) z_) ?_
  refine own_g (own_F T0 m 32 #[rv b, iv x1, .unset] [(.int x1)]) (fun _ z_ => XS.iloadN X0.here hx rfl (hb hby own_d14_31) rfl z_) ?_
  refine own_callS (y := (⟨"java/util/BitSet", "wordIndex", "(I)I"⟩ : MethodName)) X0 hx hZ hown (own_w hw 74) (own_w hw 75) (own_w hw 60) (own_w hw 76) (by decide) e0 (hM := own_wi l Z a0 hw [] x1 _ h0 n0 Z0 rfl) (W := 0) (pc := 32) (Ls := #[rv b, iv x1, .unset]) (argsL := [(.int x1)]) (rest := []) (st0 := [(.int x1)]) (by rw [hml]; rfl) (lenOf own_pd3 rfl) rfl (Nat.le_of_eq rfl) (hb hby own_d14_32) (by first | decide | omega | (dsimp only; omega) | (dsimp only; done)) (by first | decide | omega | (dsimp only; omega) | (dsimp only; done)) (by first | decide | omega | (dsimp only; omega) | (dsimp only; done)) (by first | decide | omega | (dsimp only; omega) | (dsimp only; done)) ?_
  intro v1 T1 L1 X1 hQ1
  obtain ⟨rfl, Nq1, hh1⟩ := hQ1
  have N1 := Fr.app N0 Nq1
  show own_Ends p e below s _ _ _ (own_F T1 m 35 #[rv b, iv x1, .unset] [(.int (x1 >>> ((6 : Int32) &&& 31)))])
  refine own_g (own_F T1 m 36 #[rv b, iv x1, iv (x1 >>> ((6 : Int32) &&& 31))] []) (fun _ z_ => XS.istoreN X1.here hx rfl (hb hby own_d14_35) rfl (l' := #[rv b, iv x1, iv (x1 >>> ((6 : Int32) &&& 31))]) rfl z_) ?_
  refine own_g (own_F T1 m 37 #[rv b, iv x1, iv (x1 >>> ((6 : Int32) &&& 31))] [(.ref b)]) (fun _ z_ => XS.aloadN X1.here hx rfl (hb hby own_d14_36) rfl rfl z_) ?_
  refine own_g (own_F T1 m 38 #[rv b, iv x1, iv (x1 >>> ((6 : Int32) &&& 31))] [(.int (x1 >>> ((6 : Int32) &&& 31))), (.ref b)]) (fun _ z_ => XS.iloadN X1.here hx rfl (hb hby own_d14_37) rfl z_) ?_
  refine own_callP (C := "java/util/BitSet") (y := (⟨"java/util/BitSet", "expandTo", "(I)V"⟩ : MethodName)) (b := b) X1 hx hZ hown (own_w hw 85) (own_w hw 86) (own_w hw 88) (own_w hw 87) (own_w hw 89) (own_w hw 60) (by decide) hh1 Eb (hM := own_etG l Z a0 hw [] b w cp c' (x1.toInt.toNat / 64) kk (x1 >>> ((6 : Int32) &&& 31)) cc U wu wn h0 n0 Z0 hwx hr8 hwu hwc hst hcc hc8 (own_zmono hz hwc) Eb gb gw nbw Fw Fu Fs Aw) (W := 0) (pc := 38) (Ls := #[rv b, iv x1, iv (x1 >>> ((6 : Int32) &&& 31))]) (argsL := [(.int (x1 >>> ((6 : Int32) &&& 31)))]) (rest := []) (st0 := [(.int (x1 >>> ((6 : Int32) &&& 31))), (.ref b)]) (by rw [hml]; rfl) (lenOf own_pd4 rfl) rfl (Nat.le_of_eq rfl) (hb hby own_d14_38) (by first | decide | omega | (dsimp only; omega) | (dsimp only; done)) (by first | decide | omega | (dsimp only; omega) | (dsimp only; done)) (by first | decide | omega | (dsimp only; omega) | (dsimp only; done)) (by first | decide | omega | (dsimp only; omega) | (dsimp only; done)) ?_
  intro v2 T2 L2 X2 hQ2
  obtain ⟨rfl, Nq2, K2, w2, hw2, gw2, nb2, Fw2, ⟨wu2, hwu2, Fu2⟩, Fs2, Aw2⟩ := hQ2
  have N2 := Fr.app N1 Nq2
  show own_Ends p e below s _ _ _ (own_F T2 m 41 #[rv b, iv x1, iv (x1 >>> ((6 : Int32) &&& 31))] [])
  have mw : w2 ∈ [b, w] ∨ h0.size ≤ w2 := by rcases hw2 with q_ | q_; rw [← q_]; simp; exact Or.inr q_
  refine own_g (own_F T2 m 42 #[rv b, iv x1, iv (x1 >>> ((6 : Int32) &&& 31))] [(.ref b)]) (fun _ z_ => XS.aloadN X2.here hx rfl (hb hby own_d14_41) rfl rfl z_) ?_
  obtain ⟨T3, X3, e3, st3⟩ := getF X2 hx hZ hown (host := "") (Or.inl (own_w hw 78)) Via.refl (rfl : T2.heap = T2.heap) Fw2 (g := (mkF m 42 #[rv b, iv x1, iv (x1 >>> ((6 : Int32) &&& 31))] [(.ref b)])) rfl rfl (hb hby own_d14_42)
  refine own_pre (S' := (own_F T3 m 45 #[rv b, iv x1, iv (x1 >>> ((6 : Int32) &&& 31))] [(.ref w2)])) st3 ?_
  refine own_g (own_F T3 m 46 #[rv b, iv x1, iv (x1 >>> ((6 : Int32) &&& 31))] [(.int (x1 >>> ((6 : Int32) &&& 31))), (.ref w2)]) (fun _ z_ => XS.iloadN X3.here hx rfl (hb hby own_d14_45) rfl z_) ?_
  refine own_g (own_F T3 m 47 #[rv b, iv x1, iv (x1 >>> ((6 : Int32) &&& 31))] [(.int (x1 >>> ((6 : Int32) &&& 31))), (.ref w2), (.int (x1 >>> ((6 : Int32) &&& 31))), (.ref w2)]) (fun _ z_ => Jvm.Free.XT.dup2 X3.here hx rfl (hb hby own_d14_46) rfl rfl rfl z_) ?_
  refine own_lald X3 hx hZ e3 Aw2 (x1.toInt.toNat / 64) hwx (by omega) (hb hby own_d14_47) ?_
  show own_Ends p e below s _ _ _ (own_F T3 m 48 #[rv b, iv x1, iv (x1 >>> ((6 : Int32) &&& 31))] [(.long (U (x1.toInt.toNat / 64))), (.int (x1 >>> ((6 : Int32) &&& 31))), (.ref w2)])
  refine own_g (own_F T3 m 49 #[rv b, iv x1, iv (x1 >>> ((6 : Int32) &&& 31))] [(.long 1), (.long (U (x1.toInt.toNat / 64))), (.int (x1 >>> ((6 : Int32) &&& 31))), (.ref w2)]) (fun _ z_ => XS.lconst X3.here hx rfl (hb hby own_d14_48) z_) ?_
  refine own_g (own_F T3 m 50 #[rv b, iv x1, iv (x1 >>> ((6 : Int32) &&& 31))] [(.int x1), (.long 1), (.long (U (x1.toInt.toNat / 64))), (.int (x1 >>> ((6 : Int32) &&& 31))), (.ref w2)]) (fun _ z_ => XS.iloadN X3.here hx rfl (hb hby own_d14_49) rfl z_) ?_
  refine own_g (own_F T3 m 51 #[rv b, iv x1, iv (x1 >>> ((6 : Int32) &&& 31))] [(.long ((1 : Int64) <<< (x1 &&& 0x3f).toInt64)), (.long (U (x1.toInt.toNat / 64))), (.int (x1 >>> ((6 : Int32) &&& 31))), (.ref w2)]) (fun _ z_ => XS.lshl X3.here hx rfl (hb hby own_d14_50) rfl z_) ?_
  refine own_g (own_F T3 m 52 #[rv b, iv x1, iv (x1 >>> ((6 : Int32) &&& 31))] [(.long ((U (x1.toInt.toNat / 64)) ||| ((1 : Int64) <<< (x1 &&& 0x3f).toInt64))), (.int (x1 >>> ((6 : Int32) &&& 31))), (.ref w2)]) (fun _ z_ => XS.lor X3.here hx rfl (hb hby own_d14_51) rfl z_) ?_
  refine own_last X3 hx hZ e3 Aw2 (x1.toInt.toNat / 64) hwx (by omega) (hb hby own_d14_52) ?_
  intro T4 h4 X4 e4 W4 A4
  have N4 := Fr.snoc X4 N2 gw2
  obtain ⟨g4, hg4⟩ : ∃ gq_ : Nat → Int64, gq_ = fun q_ => if q_ = (x1.toInt.toNat / 64) then ((U (x1.toInt.toNat / 64)) ||| ((1 : Int64) <<< (x1 &&& 0x3f).toInt64)) else U q_ := ⟨_, rfl⟩
  have A4 : own_A Z h4 w2 .long c' (fun q_ => .long (g4 q_)) := by rw [hg4]; exact A4
  show own_Ends p e below s _ _ _ (own_F T4 m 53 #[rv b, iv x1, iv (x1 >>> ((6 : Int32) &&& 31))] [])
  refine own_g (own_F T4 m 54 #[rv b, iv x1, iv (x1 >>> ((6 : Int32) &&& 31))] [(.ref b)]) (fun _ z_ => XS.aloadN X4.here hx rfl (hb hby own_d14_53) rfl rfl z_) ?_
  refine own_callP (C := "java/util/BitSet") (y := (⟨"java/util/BitSet", "checkInvariants", "()V"⟩ : MethodName)) (b := b) X4 hx hZ hown (own_w hw 95) (own_w hw 96) (own_w hw 98) (own_w hw 97) (own_w hw 99) (own_w hw 60) (by decide) e4 ((Eb.keep K2).wr W4) (hM := own_ci l Z a0 hw [] b h4 n0 (Nat.le_trans (Nat.le_trans Z0 K2.1) (Nat.le_of_eq W4.size.symm)) ((own_sta_keep S_ad K2 (allS (own_plainE Eb) all0)).wr W4)) (W := 0) (pc := 54) (Ls := #[rv b, iv x1, iv (x1 >>> ((6 : Int32) &&& 31))]) (argsL := []) (rest := []) (st0 := [(.ref b)]) (by rw [hml]; rfl) (lenOf own_pd6 rfl) rfl (Nat.le_of_eq rfl) (hb hby own_d14_54) (by first | decide | omega | (dsimp only; omega) | (dsimp only; done)) (by first | decide | omega | (dsimp only; omega) | (dsimp only; done)) (by first | decide | omega | (dsimp only; omega) | (dsimp only; done)) (by first | decide | omega | (dsimp only; omega) | (dsimp only; done)) ?_
  intro v5 T5 L5 X5 hQ5
  obtain ⟨rfl, Nq5, hh5⟩ := hQ5
  have N5 := Fr.app N4 Nq5
  show own_Ends p e below s _ _ _ (own_F T5 m 57 #[rv b, iv x1, iv (x1 >>> ((6 : Int32) &&& 31))] [])
  refine own_retV X5 hx hlk hrt (hb hby own_d14_57) (by first | decide | omega | (dsimp only; omega) | (dsimp only; done)) (by first | decide | omega | (dsimp only; omega) | (dsimp only; done)) ?_
  show _ ∧ Fr n0 _ ∧ Keep h0 T5.heap [b, w] ∧ _
  rw [hh5]
  exact ⟨rfl, N5, (((Keep.refl _ _).trans K2 (allS (Or.inl (List.mem_of_getElem? (i := 0) rfl)) all0)).wr W4 mw), w2, hw2, gw2, nb2, (Fw2.other W4 (Or.inl nb2)), ⟨wu2, hwu2, (Fu2.other W4 (Or.inl nb2))⟩, (Fs2.other W4 (Or.inl nb2)), (A4).congr fun i hi => by rw [hg4]; show Value.long (ite _ _ _) = Value.long (ite _ _ _); by_cases q_ : i = x1.toInt.toNat / 64; rw [if_pos q_, if_pos q_, q_]; rw [if_neg q_, if_neg q_]⟩
set_option maxRecDepth 65536 in
set_option maxHeartbeats 40000000 in
theorem own_getG (l : Launch) (Z : State) (a0 : Array Value) (hw : ∀ d ∈ tables_1, d.before a0 Z = true) (ws : List Jvm.Cond) (b w cp : Nat) (q wu : Int32) (wn : Nat) (U : Nat → Int64) (h0 : Heap) (n0 : Nat) (Z0 : n0 ≤ h0.size) (hq : 0 ≤ q.toInt) (hwu : wu.toInt = (wn : Int)) (hwc : wn ≤ cp) (hz : ∀ i, wn ≤ i → U i = 0) (Eb : Exa Z h0 b "java/util/BitSet") (Fw : Fld Z h0 b "java/util/BitSet" "words" "[J" (.ref w)) (Fu : Fld Z h0 b "java/util/BitSet" "wordsInUse" "I" (.int wu)) (Aw : own_A Z h0 w .long cp (fun i => .long (U i))) (S_ad : Sta Z h0 "java/util/BitSet" "$assertionsDisabled" "Z" (.int (1 : Int32))) :
    own_Met l Z (⟨"java/util/BitSet", "get", "(I)Z"⟩ : MethodName) jdk_92_method_26_code 3 (some .boolean) ws ({ frames := 1, cells := 0, slots := 0, locals := 12 } : Room) #[(.ref b), (.int q)] h0 (fun v h L => ∃ r : Int32, v = some (.int r) ∧ (r = 1 ∧ own_bt U q ∨ r = 0 ∧ ¬ own_bt U q) ∧ Fr n0 L ∧ h = h0) := by
  refine own_body own_pn15 (fun m => mkF m 0 #[rv b, iv q, .unset] []) (fun m => own_ef_own_getG m b q) ?_
  intro p e s m below meth c T0 hx hby hml hlk hrt hZ hown hnm X0 e0
  have hown : s.vm.findClass "java/util/BitSet" = some m.cls := hown
  have N0 := Fr.nil n0
  have hwx := own_wsh hq
  have hwi := own_ltI hwx hwu
  refine own_g (own_F T0 m 1 #[rv b, iv q, .unset] [(.int q)]) (fun _ z_ => XS.iloadN X0.here hx rfl (hb hby own_d19_0) rfl z_) ?_
  refine own_g (own_F T0 m 31 #[rv b, iv q, .unset] []) (fun _ z_ => XS.ifYes X0.here hx rfl (pc0 := 1) (pc' := 31) rfl (hb hby own_d19_1) rfl ((if0 _ _).trans (flt (own_nn hq)).2.1) (by decide) (by decide) z_) ?_
  refine own_g (own_F T0 m 32 #[rv b, iv q, .unset] [(.ref b)]) (fun _ z_ => XS.aloadN X0.here hx rfl (hb hby own_d19_31) rfl rfl z_) ?_
  refine own_callP (C := "java/util/BitSet") (y := (⟨"java/util/BitSet", "checkInvariants", "()V"⟩ : MethodName)) (b := b) X0 hx hZ hown (own_w hw 95) (own_w hw 96) (own_w hw 98) (own_w hw 97) (own_w hw 99) (own_w hw 60) (by decide) e0 Eb (hM := own_ci l Z a0 hw [] b h0 n0 Z0 S_ad) (W := 0) (pc := 32) (Ls := #[rv b, iv q, .unset]) (argsL := []) (rest := []) (st0 := [(.ref b)]) (by rw [hml]; rfl) (lenOf own_pd6 rfl) rfl (Nat.le_of_eq rfl) (hb hby own_d19_32) (by decide) (by decide) (by decide) (by decide) ?_
  intro v1 T1 L1 X1 hQ1
  obtain ⟨rfl, Nq1, hh1⟩ := hQ1
  have N1 := Fr.app N0 Nq1
  show own_Ends p e below s _ _ _ (own_F T1 m 35 #[rv b, iv q, .unset] [])
  refine own_g (own_F T1 m 36 #[rv b, iv q, .unset] [(.int q)]) (fun _ z_ => XS.iloadN X1.here hx rfl (hb hby own_d19_35) rfl z_) ?_
  refine own_callS (y := (⟨"java/util/BitSet", "wordIndex", "(I)I"⟩ : MethodName)) X1 hx hZ hown (own_w hw 74) (own_w hw 75) (own_w hw 60) (own_w hw 76) (by decide) hh1 (hM := own_wi l Z a0 hw [] q _ h0 n0 Z0 rfl) (W := 0) (pc := 36) (Ls := #[rv b, iv q, .unset]) (argsL := [(.int q)]) (rest := []) (st0 := [(.int q)]) (by rw [hml]; rfl) (lenOf own_pd3 rfl) rfl (Nat.le_of_eq rfl) (hb hby own_d19_36) (by decide) (by decide) (by decide) (by decide) ?_
  intro v2 T2 L2 X2 hQ2
  obtain ⟨rfl, Nq2, hh2⟩ := hQ2
  have N2 := Fr.app N1 Nq2
  show own_Ends p e below s _ _ _ (own_F T2 m 39 #[rv b, iv q, .unset] [(.int (q >>> ((6 : Int32) &&& 31)))])
  refine own_g (own_F T2 m 40 #[rv b, iv q, iv (q >>> ((6 : Int32) &&& 31))] []) (fun _ z_ => XS.istoreN X2.here hx rfl (hb hby own_d19_39) rfl (l' := #[rv b, iv q, iv (q >>> ((6 : Int32) &&& 31))]) rfl z_) ?_
  refine own_g (own_F T2 m 41 #[rv b, iv q, iv (q >>> ((6 : Int32) &&& 31))] [(.int (q >>> ((6 : Int32) &&& 31)))]) (fun _ z_ => XS.iloadN X2.here hx rfl (hb hby own_d19_40) rfl z_) ?_
  refine own_g (own_F T2 m 42 #[rv b, iv q, iv (q >>> ((6 : Int32) &&& 31))] [(.ref b), (.int (q >>> ((6 : Int32) &&& 31)))]) (fun _ z_ => XS.aloadN X2.here hx rfl (hb hby own_d19_41) rfl rfl z_) ?_
  obtain ⟨T3, X3, e3, st3⟩ := getF X2 hx hZ hown (host := "") (Or.inl (own_w hw 65)) Via.refl hh2 Fu (g := (mkF m 42 #[rv b, iv q, iv (q >>> ((6 : Int32) &&& 31))] [(.ref b), (.int (q >>> ((6 : Int32) &&& 31)))])) rfl rfl (hb hby own_d19_42)
  refine own_pre (S' := (own_F T3 m 45 #[rv b, iv q, iv (q >>> ((6 : Int32) &&& 31))] [(.int wu), (.int (q >>> ((6 : Int32) &&& 31)))])) st3 ?_
  by_cases c45 : (q >>> ((6 : Int32) &&& 31)) < wu
  · -- pc 45: (q >>> ((6 : Int32) &&& 31)) < wu
   refine own_g (own_F T3 m 48 #[rv b, iv q, iv (q >>> ((6 : Int32) &&& 31))] []) (fun _ z_ => XS.icmpNo X3.here hx rfl (hb hby own_d19_45) rfl (tlt c45).2.1 z_) ?_
   refine own_g (own_F T3 m 49 #[rv b, iv q, iv (q >>> ((6 : Int32) &&& 31))] [(.ref b)]) (fun _ z_ => XS.aloadN X3.here hx rfl (hb hby own_d19_48) rfl rfl z_) ?_
   obtain ⟨T4, X4, e4, st4⟩ := getF X3 hx hZ hown (host := "") (Or.inl (own_w hw 78)) Via.refl e3 Fw (g := (mkF m 49 #[rv b, iv q, iv (q >>> ((6 : Int32) &&& 31))] [(.ref b)])) rfl rfl (hb hby own_d19_49)
   refine own_pre (S' := (own_F T4 m 52 #[rv b, iv q, iv (q >>> ((6 : Int32) &&& 31))] [(.ref w)])) st4 ?_
   refine own_g (own_F T4 m 53 #[rv b, iv q, iv (q >>> ((6 : Int32) &&& 31))] [(.int (q >>> ((6 : Int32) &&& 31))), (.ref w)]) (fun _ z_ => XS.iloadN X4.here hx rfl (hb hby own_d19_52) rfl z_) ?_
   refine own_lald X4 hx hZ e4 Aw (q.toInt.toNat / 64) hwx (by have := hwi.mp c45; omega) (hb hby own_d19_53) ?_
   show own_Ends p e below s _ _ _ (own_F T4 m 54 #[rv b, iv q, iv (q >>> ((6 : Int32) &&& 31))] [(.long (U (q.toInt.toNat / 64)))])
   refine own_g (own_F T4 m 55 #[rv b, iv q, iv (q >>> ((6 : Int32) &&& 31))] [(.long 1), (.long (U (q.toInt.toNat / 64)))]) (fun _ z_ => XS.lconst X4.here hx rfl (hb hby own_d19_54) z_) ?_
   refine own_g (own_F T4 m 56 #[rv b, iv q, iv (q >>> ((6 : Int32) &&& 31))] [(.int q), (.long 1), (.long (U (q.toInt.toNat / 64)))]) (fun _ z_ => XS.iloadN X4.here hx rfl (hb hby own_d19_55) rfl z_) ?_
   refine own_g (own_F T4 m 57 #[rv b, iv q, iv (q >>> ((6 : Int32) &&& 31))] [(.long ((1 : Int64) <<< (q &&& 0x3f).toInt64)), (.long (U (q.toInt.toNat / 64)))]) (fun _ z_ => XS.lshl X4.here hx rfl (hb hby own_d19_56) rfl z_) ?_
   refine own_g (own_F T4 m 58 #[rv b, iv q, iv (q >>> ((6 : Int32) &&& 31))] [(.long ((U (q.toInt.toNat / 64)) &&& ((1 : Int64) <<< (q &&& 0x3f).toInt64)))]) (fun _ z_ => XS.land X4.here hx rfl (hb hby own_d19_57) rfl z_) ?_
   refine own_g (own_F T4 m 59 #[rv b, iv q, iv (q >>> ((6 : Int32) &&& 31))] [(.long 0), (.long ((U (q.toInt.toNat / 64)) &&& ((1 : Int64) <<< (q &&& 0x3f).toInt64)))]) (fun _ z_ => XS.lconst X4.here hx rfl (hb hby own_d19_58) z_) ?_
   refine own_g (own_F T4 m 60 #[rv b, iv q, iv (q >>> ((6 : Int32) &&& 31))] [(.int (lcmpW ((U (q.toInt.toNat / 64)) &&& ((1 : Int64) <<< (q &&& 0x3f).toInt64)) (0 : Int64)))]) (fun _ z_ => XS.lcmp X4.here hx rfl (hb hby own_d19_59) rfl z_) ?_
   by_cases c60 : (lcmpW ((U (q.toInt.toNat / 64)) &&& ((1 : Int64) <<< (q &&& 0x3f).toInt64)) (0 : Int64)) = (0 : Int32)
   · -- pc 60: (lcmpW ((U (q.toInt.toNat / 64)) &&& ((1 : Int64) <<< (q &&& 0x3f).toInt64)) (0 : Int64)) = (0 : Int32)
    refine own_g (own_F T4 m 67 #[rv b, iv q, iv (q >>> ((6 : Int32) &&& 31))] []) (fun _ z_ => XS.ifYes X4.here hx rfl (pc0 := 60) (pc' := 67) rfl (hb hby own_d19_60) rfl ((if0 _ _).trans (teq c60).1) (by decide) (by decide) z_) ?_
    refine own_g (own_F T4 m 68 #[rv b, iv q, iv (q >>> ((6 : Int32) &&& 31))] [(.int 0)]) (fun _ z_ => XS.iconst X4.here hx rfl (hb hby own_d19_67) z_) ?_
    refine own_ret (t := .boolean) X4 hx hlk hrt rfl (Or.inl ⟨rfl, by simp, _, rfl⟩) (hb hby own_d19_68) (by decide) (by decide) ?_
    exact ⟨_, rfl, Or.inr ⟨rfl, fun z => z ((lw_eq _ _).mp c60)⟩, N2, e4⟩
   · -- pc 60: not (lcmpW ((U (q.toInt.toNat / 64)) &&& ((1 : Int64) <<< (q &&& 0x3f).toInt64)) (0 : Int64)) = (0 : Int32)
    refine own_g (own_F T4 m 63 #[rv b, iv q, iv (q >>> ((6 : Int32) &&& 31))] []) (fun _ z_ => XS.ifNo X4.here hx rfl (hb hby own_d19_60) rfl ((if0 _ _).trans (feq c60).1) z_) ?_
    refine own_g (own_F T4 m 64 #[rv b, iv q, iv (q >>> ((6 : Int32) &&& 31))] [(.int 1)]) (fun _ z_ => XS.iconst X4.here hx rfl (hb hby own_d19_63) z_) ?_
    refine own_g (own_F T4 m 68 #[rv b, iv q, iv (q >>> ((6 : Int32) &&& 31))] [(.int 1)]) (fun _ z_ => XS.goto X4.here hx rfl (pc0 := 64) (pc' := 68) rfl (hb hby own_d19_64) (by decide) (by decide) z_) ?_
    refine own_ret (t := .boolean) X4 hx hlk hrt rfl (Or.inl ⟨rfl, by simp, _, rfl⟩) (hb hby own_d19_68) (by decide) (by decide) ?_
    exact ⟨_, rfl, Or.inl ⟨rfl, fun z => c60 ((lw_eq _ _).mpr z)⟩, N2, e4⟩
  · -- pc 45: not (q >>> ((6 : Int32) &&& 31)) < wu
   refine own_g (own_F T3 m 67 #[rv b, iv q, iv (q >>> ((6 : Int32) &&& 31))] []) (fun _ z_ => XS.icmpYes X3.here hx rfl (pc0 := 45) (pc' := 67) rfl (hb hby own_d19_45) rfl (flt c45).2.1 (by decide) (by decide) z_) ?_
   refine own_g (own_F T3 m 68 #[rv b, iv q, iv (q >>> ((6 : Int32) &&& 31))] [(.int 0)]) (fun _ z_ => XS.iconst X3.here hx rfl (hb hby own_d19_67) z_) ?_
   refine own_ret (t := .boolean) X3 hx hlk hrt rfl (Or.inl ⟨rfl, by simp, _, rfl⟩) (hb hby own_d19_68) (by decide) (by decide) ?_
   exact ⟨_, rfl, Or.inr ⟨rfl, own_btz (hz _ (by have := (mt hwi.mpr c45); omega))⟩, N2, e3⟩
set_option maxRecDepth 65536 in
set_option maxHeartbeats 40000000 in
theorem own_conG (l : Launch) (Z : State) (a0 : Array Value) (hw : ∀ d ∈ tables_1, d.before a0 Z = true) (ws : List Jvm.Cond) (a len cap : Nat) (q : Int32) (U : Nat → Int64) (h0 : Heap) (n0 : Nat) (Z0 : n0 ≤ h0.size) (hq : 0 ≤ q.toInt) (hF : own_bw n0 Z h0 a len cap U) (S_ad : Sta Z h0 "java/util/BitSet" "$assertionsDisabled" "Z" (.int (1 : Int32))) :
    own_Met l Z (⟨"com/example/kunci/kunci/NumberSet", "contains", "(I)Z"⟩ : MethodName) prog_3_method_3_code 2 (some .boolean) ws ({ frames := 2, cells := 0, slots := 0, locals := 26 } : Room) #[(.ref a), (.int q)] h0 (fun v h L => ∃ r : Int32, v = some (.int r) ∧ (r = 1 ∧ own_bt U q ∨ r = 0 ∧ ¬ own_bt U q) ∧ Fr n0 L ∧ h = h0) := by
  refine own_body own_pn1 (fun m => mkF m 0 #[rv a, iv q] []) (fun m => own_ef_own_conG m a q) ?_
  intro p e s m below meth c T0 hx hby hml hlk hrt hZ hown hnm X0 e0
  have hown : s.vm.findClass "com/example/kunci/kunci/NumberSet" = some m.cls := hown
  have N0 := Fr.nil n0
  obtain ⟨b, w, sz, wu, wn, ga, gb, gw, nab, naw, nbw, hsz, hwu, hwc, hz, hc1, Ea, Fsz, Fb, Eb, Fw, Fu, Fs, Aw⟩ := hF
  refine own_g (own_F T0 m 1 #[rv a, iv q] [(.ref a)]) (fun _ z_ => XS.aloadN X0.here hx rfl (hb hby own_d4_0) rfl rfl z_) ?_
  obtain ⟨T1, X1, e1, st1⟩ := getF X0 hx hZ hown (host := "") (Or.inl (own_w hw 24)) Via.refl e0 Fb (g := (mkF m 1 #[rv a, iv q] [(.ref a)])) rfl rfl (hb hby own_d4_1)
  refine own_pre (S' := (own_F T1 m 4 #[rv a, iv q] [(.ref b)])) st1 ?_
  refine own_g (own_F T1 m 15 #[rv a, iv q] []) (fun _ z_ => XS.ifnonnullYes X1.here hx rfl (pc0 := 4) (pc' := 15) rfl (hb hby own_d4_4) rfl (by decide) (by decide) z_) ?_
  refine own_g (own_F T1 m 16 #[rv a, iv q] [(.ref a)]) (fun _ z_ => XS.aloadN X1.here hx rfl (hb hby own_d4_15) rfl rfl z_) ?_
  obtain ⟨T2, X2, e2, st2⟩ := getF X1 hx hZ hown (host := "") (Or.inl (own_w hw 24)) Via.refl e1 Fb (g := (mkF m 16 #[rv a, iv q] [(.ref a)])) rfl rfl (hb hby own_d4_16)
  refine own_pre (S' := (own_F T2 m 19 #[rv a, iv q] [(.ref b)])) st2 ?_
  refine own_g (own_F T2 m 20 #[rv a, iv q] [(.int q), (.ref b)]) (fun _ z_ => XS.iloadN X2.here hx rfl (hb hby own_d4_19) rfl z_) ?_
  refine own_callV (C := "java/util/BitSet") (y := (⟨"java/util/BitSet", "get", "(I)Z"⟩ : MethodName)) (b := b) X2 hx hZ hown (own_w hw 105) (own_w hw 106) (own_w hw 108) (own_w hw 107) (own_w hw 109) (own_w hw 60) (by decide) e2 Eb (hM := own_getG l Z a0 hw [] b w cap q wu wn U h0 n0 Z0 hq hwu hwc hz Eb Fw Fu Aw S_ad) (W := 0) (pc := 20) (Ls := #[rv a, iv q]) (argsL := [(.int q)]) (rest := []) (st0 := [(.int q), (.ref b)]) (by rw [hml]; rfl) (lenOf own_pd0 rfl) rfl (Nat.le_of_eq rfl) (hb hby own_d4_20) (by decide) (by decide) (by decide) (by decide) ?_
  intro v3 T3 L3 X3 hQ3
  obtain ⟨r3, rfl, hr3, Nq3, hh3⟩ := hQ3
  have N3 := Fr.app N0 Nq3
  show own_Ends p e below s _ _ _ (own_F T3 m 23 #[rv a, iv q] [(.int r3)])
  refine own_ret (t := .boolean) X3 hx hlk hrt (own_narZ (own_01 hr3)) (Or.inl ⟨rfl, by simp, _, rfl⟩) (hb hby own_d4_23) (by decide) (by decide) ?_
  exact ⟨_, rfl, hr3, N3, hh3⟩
set_option maxRecDepth 65536 in
set_option maxHeartbeats 40000000 in
theorem own_sizeC (l : Launch) (Z : State) (a0 : Array Value) (hw : ∀ d ∈ tables_1, d.before a0 Z = true) (ws : List Jvm.Cond) (a : Nat) (sz : Int32) (h0 : Heap) (n0 : Nat) (Z0 : n0 ≤ h0.size) (Fsz : Fld Z h0 a "com/example/kunci/kunci/NumberSet" "size" "I" (.int sz)) :
    own_Met l Z (⟨"com/example/kunci/kunci/NumberSet", "size", "()I"⟩ : MethodName) prog_3_method_4_code 1 (some .int) ws ({ frames := 0, cells := 0, slots := 0, locals := 0 } : Room) #[(.ref a)] h0 (fun v h L => v = some (.int sz) ∧ Fr n0 L ∧ h = h0) := by
  refine own_body own_pn16 (fun m => mkF m 0 #[rv a] []) (fun m => own_ef_own_sizeC m a) ?_
  intro p e s m below meth c T0 hx hby hml hlk hrt hZ hown hnm X0 e0
  have hown : s.vm.findClass "com/example/kunci/kunci/NumberSet" = some m.cls := hown
  have N0 := Fr.nil n0
  refine own_g (own_F T0 m 1 #[rv a] [(.ref a)]) (fun _ z_ => XS.aloadN X0.here hx rfl (hb hby own_d10_0) rfl rfl z_) ?_
  obtain ⟨T1, X1, e1, st1⟩ := getF X0 hx hZ hown (host := "") (Or.inl (own_w hw 30)) Via.refl e0 Fsz (g := (mkF m 1 #[rv a] [(.ref a)])) rfl rfl (hb hby own_d10_1)
  refine own_pre (S' := (own_F T1 m 4 #[rv a] [(.int sz)])) st1 ?_
  refine own_ret (t := .int) X1 hx hlk hrt rfl (Or.inl ⟨rfl, by simp, _, rfl⟩) (hb hby own_d10_4) (by decide) (by decide) ?_
  exact ⟨rfl, N0, e1⟩
set_option maxRecDepth 65536 in
set_option maxHeartbeats 40000000 in
theorem own_addb (l : Launch) (Z : State) (a0 : Array Value) (hw : ∀ d ∈ tables_1, d.before a0 Z = true) (ws : List Jvm.Cond) (a len cap c' kk : Nat) (x1 : Int32) (U : Nat → Int64) (h0 : Heap) (n0 : Nat) (Z0 : n0 ≤ h0.size) (hx1 : 0 ≤ x1.toInt ∧ x1.toInt ≤ 1089535) (hl8 : len ≤ 100) (hst : own_step cap ((x1.toInt.toNat / 64) + 1) kk c') (hc8 : cap ≤ 34048) (hF : own_bw n0 Z h0 a len cap U) (S_ad : Sta Z h0 "java/util/BitSet" "$assertionsDisabled" "Z" (.int (1 : Int32))) :
    own_Met l Z (⟨"com/example/kunci/kunci/NumberSet", "add", "(I)Z"⟩ : MethodName) prog_3_method_2_code 3 (some .boolean) ws ({ frames := 5, cells := 1, slots := kk, locals := 75 } : Room) #[(.ref a), (.int x1)] h0 (fun v h L => ∃ (r : Int32) (len' c2 : Nat) (U' : Nat → Int64), v = some (.int r) ∧ (r = 1 ∧ ¬ own_bt U x1 ∧ len' = len + 1 ∧ c2 = c' ∧ U' = own_up U x1 ∨ r = 0 ∧ own_bt U x1 ∧ len' = len ∧ c2 = cap ∧ U' = U) ∧ Fr n0 L ∧ h0.size ≤ h.size ∧ Sta Z h "java/util/BitSet" "$assertionsDisabled" "Z" (.int (1 : Int32)) ∧ own_bw n0 Z h a len' c2 U') := by
  refine own_body own_pn5 (fun m => mkF m 0 #[rv a, iv x1, .unset] []) (fun m => own_ef_own_addb m a x1) ?_
  intro p e s m below meth c T0 hx hby hml hlk hrt hZ hown hnm X0 e0
  have hown : s.vm.findClass "com/example/kunci/kunci/NumberSet" = some m.cls := hown
  have N0 := Fr.nil n0
  have hF0 := hF
  obtain ⟨b, w, sz, wu, wn, ga, gb, gw, nab, naw, nbw, hsz, hwu, hwc, hz, hc1, Ea, Fsz, Fb, Eb, Fw, Fu, Fs, Aw⟩ := hF
  refine own_g (own_F T0 m 1 #[rv a, iv x1, .unset] [(.ref a)]) (fun _ z_ => XS.aloadN X0.here hx rfl (hb hby own_d3_0) rfl rfl z_) ?_
  refine own_g (own_F T0 m 2 #[rv a, iv x1, .unset] [(.int x1), (.ref a)]) (fun _ z_ => XS.iloadN X0.here hx rfl (hb hby own_d3_1) rfl z_) ?_
  refine own_callV (C := "com/example/kunci/kunci/NumberSet") (y := (⟨"com/example/kunci/kunci/NumberSet", "contains", "(I)Z"⟩ : MethodName)) (b := a) X0 hx hZ hown (own_w hw 19) (own_w hw 20) (own_w hw 22) (own_w hw 21) (own_w hw 23) (own_w hw 4) (by decide) e0 Ea (hM := own_conG l Z a0 hw [] a len cap x1 U h0 n0 Z0 hx1.1 hF0 S_ad) (W := 0) (pc := 2) (Ls := #[rv a, iv x1, .unset]) (argsL := [(.int x1)]) (rest := []) (st0 := [(.int x1), (.ref a)]) (by rw [hml]; rfl) (lenOf own_pd0 rfl) rfl (Nat.le_of_eq rfl) (hb hby own_d3_2) (by first | decide | omega | (dsimp only; omega) | (dsimp only; done)) (by first | decide | omega | (dsimp only; omega) | (dsimp only; done)) (by first | decide | omega | (dsimp only; omega) | (dsimp only; done)) (by first | decide | omega | (dsimp only; omega) | (dsimp only; done)) ?_
  intro v1 T1 L1 X1 hQ1
  obtain ⟨r1, rfl, hr1, Nq1, hh1⟩ := hQ1
  have N1 := Fr.app N0 Nq1
  show own_Ends p e below s _ _ _ (own_F T1 m 5 #[rv a, iv x1, .unset] [(.int r1)])
  rcases hr1 with ⟨rfl, hm1⟩ | ⟨rfl, hm1⟩
  ·
   show own_Ends p e below s _ _ _ (own_F T1 m 5 #[rv a, iv x1, .unset] [(.int 1)])
   refine own_g (own_F T1 m 8 #[rv a, iv x1, .unset] []) (fun _ z_ => XS.ifNo X1.here hx rfl (hb hby own_d3_5) rfl ((if0 _ _).trans (feq (by decide : ¬ ((1 : Int32) = (0 : Int32)))).1) z_) ?_
   refine own_g (own_F T1 m 9 #[rv a, iv x1, .unset] [(.int 0)]) (fun _ z_ => XS.iconst X1.here hx rfl (hb hby own_d3_8) z_) ?_
   refine own_ret (t := .boolean) X1 hx hlk hrt rfl (Or.inl ⟨rfl, by simp, _, rfl⟩) (hb hby own_d3_9) (by first | decide | omega | (dsimp only; omega) | (dsimp only; done)) (by first | decide | omega | (dsimp only; omega) | (dsimp only; done)) ?_
   exact ⟨0, len, cap, U, rfl, Or.inr ⟨rfl, hm1, rfl, rfl, rfl⟩, N1, by rw [show T1.heap = h0 from hh1]; exact ⟨Nat.le_refl _, S_ad, hF0⟩⟩
  ·
   show own_Ends p e below s _ _ _ (own_F T1 m 5 #[rv a, iv x1, .unset] [(.int 0)])
   refine own_g (own_F T1 m 10 #[rv a, iv x1, .unset] []) (fun _ z_ => XS.ifYes X1.here hx rfl (pc0 := 5) (pc' := 10) rfl (hb hby own_d3_5) rfl ((if0 _ _).trans (teq (by decide : ((0 : Int32) = (0 : Int32)))).1) (by decide) (by decide) z_) ?_
   refine own_g (own_F T1 m 11 #[rv a, iv x1, .unset] [(.ref a)]) (fun _ z_ => XS.aloadN X1.here hx rfl (hb hby own_d3_10) rfl rfl z_) ?_
   obtain ⟨T2, X2, e2, st2⟩ := getF X1 hx hZ hown (host := "") (Or.inl (own_w hw 24)) Via.refl hh1 Fb (g := (mkF m 11 #[rv a, iv x1, .unset] [(.ref a)])) rfl rfl (hb hby own_d3_11)
   refine own_pre (S' := (own_F T2 m 14 #[rv a, iv x1, .unset] [(.ref b)])) st2 ?_
   refine own_g (own_F T2 m 17 #[rv a, iv x1, .unset] []) (fun _ z_ => XS.ifnullNo X2.here hx rfl (hb hby own_d3_14) rfl z_) ?_
   refine own_g (own_F T2 m 18 #[rv a, iv x1, .unset] [(.ref a)]) (fun _ z_ => XS.aloadN X2.here hx rfl (hb hby own_d3_17) rfl rfl z_) ?_
   obtain ⟨T3, X3, e3, st3⟩ := getF X2 hx hZ hown (host := "") (Or.inl (own_w hw 24)) Via.refl e2 Fb (g := (mkF m 18 #[rv a, iv x1, .unset] [(.ref a)])) rfl rfl (hb hby own_d3_18)
   refine own_pre (S' := (own_F T3 m 21 #[rv a, iv x1, .unset] [(.ref b)])) st3 ?_
   refine own_g (own_F T3 m 22 #[rv a, iv x1, .unset] [(.int x1), (.ref b)]) (fun _ z_ => XS.iloadN X3.here hx rfl (hb hby own_d3_21) rfl z_) ?_
   refine own_callV (C := "java/util/BitSet") (y := (⟨"java/util/BitSet", "set", "(I)V"⟩ : MethodName)) (b := b) X3 hx hZ hown (own_w hw 80) (own_w hw 81) (own_w hw 83) (own_w hw 82) (own_w hw 84) (own_w hw 60) (by decide) e3 Eb (hM := own_setG l Z a0 hw [] b w cap c' kk x1 (Nat.toInt32 cap) U wu wn h0 n0 Z0 hx1 hwu hwc hst (len_toInt (by omega)) hc8 hz Eb gb gw nbw Fw Fu Fs Aw S_ad) (W := 0) (pc := 22) (Ls := #[rv a, iv x1, .unset]) (argsL := [(.int x1)]) (rest := []) (st0 := [(.int x1), (.ref b)]) (by rw [hml]; rfl) (lenOf own_pd4 rfl) rfl (Nat.le_of_eq rfl) (hb hby own_d3_22) (by first | decide | omega | (dsimp only; omega) | (dsimp only; done)) (by first | decide | omega | (dsimp only; omega) | (dsimp only; done)) (by first | decide | omega | (dsimp only; omega) | (dsimp only; done)) (by first | decide | omega | (dsimp only; omega) | (dsimp only; done)) ?_
   intro v4 T4 L4 X4 hQ4
   obtain ⟨rfl, Nq4, K4, w4, hw4, gw4, nb4, Fw4, ⟨wu4, hwu4, Fu4⟩, Fs4, Aw4⟩ := hQ4
   have N4 := Fr.app N1 Nq4
   show own_Ends p e below s _ _ _ (own_F T4 m 25 #[rv a, iv x1, .unset] [])
   have ne_a_w4 : a ≠ w4 := by rcases hw4 with q_ | q_; rw [← q_]; exact naw; exact Nat.ne_of_lt (Nat.lt_of_lt_of_le Ea.lt q_)
   refine own_g (own_F T4 m 136 #[rv a, iv x1, .unset] []) (fun _ z_ => XS.goto X4.here hx rfl (pc0 := 25) (pc' := 136) rfl (hb hby own_d3_25) (by decide) (by decide) z_) ?_
   refine own_g (own_F T4 m 137 #[rv a, iv x1, .unset] [(.ref a)]) (fun _ z_ => XS.aloadN X4.here hx rfl (hb hby own_d3_136) rfl rfl z_) ?_
   refine own_g (own_F T4 m 138 #[rv a, iv x1, .unset] [(.ref a), (.ref a)]) (fun _ z_ => XS.dup X4.here hx rfl (hb hby own_d3_137) rfl rfl z_) ?_
   obtain ⟨T5, X5, e5, st5⟩ := getF X4 hx hZ hown (host := "") (Or.inl (own_w hw 30)) Via.refl (rfl : T4.heap = T4.heap) (Fsz.keep K4 (ninS nab (ninS naw nin0))) (g := (mkF m 138 #[rv a, iv x1, .unset] [(.ref a), (.ref a)])) rfl rfl (hb hby own_d3_138)
   refine own_pre (S' := (own_F T5 m 141 #[rv a, iv x1, .unset] [(.int sz), (.ref a)])) st5 ?_
   refine own_g (own_F T5 m 142 #[rv a, iv x1, .unset] [(.int 1), (.int sz), (.ref a)]) (fun _ z_ => XS.iconst X5.here hx rfl (hb hby own_d3_141) z_) ?_
   refine own_g (own_F T5 m 143 #[rv a, iv x1, .unset] [(.int (sz + (1 : Int32))), (.ref a)]) (fun _ z_ => XS.iadd X5.here hx rfl (hb hby own_d3_142) rfl z_) ?_
   obtain ⟨T6, h6, X6, e6, W6, st6⟩ := putF X5 hx hZ hown (host := "") (Or.inl (own_w hw 30)) Via.refl e5 (Fsz.keep K4 (ninS nab (ninS naw nin0))) (Ea.keep K4) (Or.inl (own_w hw 31)) (own_w hw 3) (ty := .int) (by decide) rfl rfl (g := (mkF m 143 #[rv a, iv x1, .unset] [(.int (sz + (1 : Int32))), (.ref a)])) rfl rfl (hb hby own_d3_143)
   have N6 := Fr.snoc X6 N4 ga
   have Fw6 := (Fsz.keep K4 (ninS nab (ninS naw nin0))).same W6
   refine own_pre (S' := (own_F T6 m 146 #[rv a, iv x1, .unset] [])) st6 ?_
   refine own_g (own_F T6 m 147 #[rv a, iv x1, .unset] [(.int 1)]) (fun _ z_ => XS.iconst X6.here hx rfl (hb hby own_d3_146) z_) ?_
   refine own_ret (t := .boolean) X6 hx hlk hrt rfl (Or.inl ⟨rfl, by simp, _, rfl⟩) (hb hby own_d3_147) (by first | decide | omega | (dsimp only; omega) | (dsimp only; done)) (by first | decide | omega | (dsimp only; omega) | (dsimp only; done)) ?_
   show ∃ (r : Int32) (len' c2 : Nat) (U' : Nat → Int64), _ ∧ _ ∧ Fr n0 _ ∧ _ ≤ T6.heap.size ∧ Sta Z T6.heap _ _ _ _ ∧ own_bw n0 Z T6.heap a len' c2 U'
   rw [e6]
   have hsb := own_stepB hst (by omega) hc8
   exact ⟨1, len + 1, c', own_up U x1, rfl, Or.inl ⟨rfl, hm1, rfl, rfl, rfl⟩, N6, (Nat.le_trans (Nat.le_trans (Nat.le_refl h0.size) K4.1) (Nat.le_of_eq W6.size.symm)), ((own_sta_keep S_ad K4 (allS (own_plainE Eb) (allS (own_plainA Aw) all0))).wr W6), ⟨b, w4, _, wu4, _, ga, gb, gw4, nab, ne_a_w4, nb4, own_succ hsz (Nat.lt_succ_self _) (by omega), hwu4, (by omega), own_upz (own_zmono hz (by omega)) (by omega), (by omega), ((Ea.keep K4).wr W6), Fw6, ((Fb.keep K4 (ninS nab (ninS naw nin0))).other W6 (Or.inr (slot_ne (C := "com/example/kunci/kunci/NumberSet") (Or.inl (own_w hw 25)) (Or.inl (own_w hw 31)) (by decide) (t := (.object "java/util/BitSet")) (t' := .int) (by decide) (by decide)))), ((Eb.keep K4).wr W6), (Fw4.other W6 (Or.inl (Ne.symm nab))), (Fu4.other W6 (Or.inl (Ne.symm nab))), (Fs4.other W6 (Or.inl (Ne.symm nab))), (Aw4.other W6 (Ne.symm ne_a_w4))⟩⟩
set_option maxRecDepth 65536 in
set_option maxHeartbeats 40000000 in
theorem own_addc (l : Launch) (Z : State) (a0 : Array Value) (hw : ∀ d ∈ tables_1, d.before a0 Z = true) (ws : List Jvm.Cond) (a : Nat) (x1 : Int32) (g : Nat → Int32) (k1 k2 k3 k4 k5 k6 k7 k8 k9 c1 c2 c3 c4 c5 c6 c7 c8 c9 : Nat) (h0 : Heap) (n0 : Nat) (Z0 : n0 ≤ h0.size) (hF : own_few n0 Z h0 a 8 8 g) (hx1 : 0 ≤ x1.toInt ∧ x1.toInt ≤ 1089535) (hgi : ∀ i, i < 8 → 0 ≤ (g i).toInt ∧ (g i).toInt ≤ 1089535) (hst1 : own_step 1 ((g 0).toInt.toNat / 64 + 1) k1 c1) (hst2 : own_step c1 ((g 1).toInt.toNat / 64 + 1) k2 c2) (hst3 : own_step c2 ((g 2).toInt.toNat / 64 + 1) k3 c3) (hst4 : own_step c3 ((g 3).toInt.toNat / 64 + 1) k4 c4) (hst5 : own_step c4 ((g 4).toInt.toNat / 64 + 1) k5 c5) (hst6 : own_step c5 ((g 5).toInt.toNat / 64 + 1) k6 c6) (hst7 : own_step c6 ((g 6).toInt.toNat / 64 + 1) k7 c7) (hst8 : own_step c7 ((g 7).toInt.toNat / 64 + 1) k8 c8) (hst9 : own_step c8 ((x1).toInt.toNat / 64 + 1) k9 c9) (S_ad : Sta Z h0 "java/util/BitSet" "$assertionsDisabled" "Z" (.int (1 : Int32))) :
    own_Met l Z (⟨"com/example/kunci/kunci/NumberSet", "add", "(I)Z"⟩ : MethodName) prog_3_method_2_code 3 (some .boolean) ws ({ frames := 5, cells := 11, slots := (8 + (k1 + k2 + k3 + k4 + k5 + k6 + k7 + k8 + k9)), locals := 75 } : Room) #[(.ref a), (.int x1)] h0 (fun v h L => ∃ r : Int32, v = some (.int r) ∧ Fr n0 L ∧ h0.size ≤ h.size ∧ Sta Z h "java/util/BitSet" "$assertionsDisabled" "Z" (.int (1 : Int32)) ∧ ((r = 0 ∧ own_mem 8 g x1 ∧ own_few n0 Z h a 8 8 g) ∨ (r = 1 ∧ ¬ own_mem 8 g x1 ∧ ∃ U' : Nat → Int64, own_bw n0 Z h a 9 c9 U' ∧ ∀ v : Int32, 0 ≤ v.toInt → (own_bt U' v ↔ own_mem 8 g v ∨ x1 = v)))) := by
  refine own_body own_pn5 (fun m => mkF m 0 #[rv a, iv x1, .unset] []) (fun m => own_ef_own_addc m a x1) ?_
  intro p e s m below meth c T0 hx hby hml hlk hrt hZ hown hnm X0 e0
  have hown : s.vm.findClass "com/example/kunci/kunci/NumberSet" = some m.cls := hown
  have N0 := Fr.nil n0
  have hF0 := hF
  obtain ⟨aN, sz, ga, gN, naN, hsz, hlc, hc8, hcc, Ea, Fs, Fb, Fn, AN⟩ := hF
  obtain rfl := own_sz8 hsz
  refine own_g (own_F T0 m 1 #[rv a, iv x1, .unset] [(.ref a)]) (fun _ z_ => XS.aloadN X0.here hx rfl (hb hby own_d3_0) rfl rfl z_) ?_
  refine own_g (own_F T0 m 2 #[rv a, iv x1, .unset] [(.int x1), (.ref a)]) (fun _ z_ => XS.iloadN X0.here hx rfl (hb hby own_d3_1) rfl z_) ?_
  refine own_callV (C := "com/example/kunci/kunci/NumberSet") (y := (⟨"com/example/kunci/kunci/NumberSet", "contains", "(I)Z"⟩ : MethodName)) (b := a) X0 hx hZ hown (own_w hw 19) (own_w hw 20) (own_w hw 22) (own_w hw 21) (own_w hw 23) (own_w hw 4) (by decide) e0 Ea (hM := own_conf l Z a0 hw [] a 8 8 x1 g h0 n0 Z0 hF0) (W := 0) (pc := 2) (Ls := #[rv a, iv x1, .unset]) (argsL := [(.int x1)]) (rest := []) (st0 := [(.int x1), (.ref a)]) (by rw [hml]; rfl) (lenOf own_pd0 rfl) rfl (Nat.le_of_eq rfl) (hb hby own_d3_2) (by first | decide | omega | (dsimp only; omega) | (dsimp only; done)) (by first | decide | omega | (dsimp only; omega) | (dsimp only; done)) (by first | decide | omega | (dsimp only; omega) | (dsimp only; done)) (by first | decide | omega | (dsimp only; omega) | (dsimp only; done)) ?_
  intro v1 T1 L1 X1 hQ1
  obtain ⟨r1, rfl, hr1, Nq1, hh1⟩ := hQ1
  have N1 := Fr.app N0 Nq1
  show own_Ends p e below s _ _ _ (own_F T1 m 5 #[rv a, iv x1, .unset] [(.int r1)])
  rcases hr1 with ⟨rfl, hm1⟩ | ⟨rfl, hm1⟩
  ·
   show own_Ends p e below s _ _ _ (own_F T1 m 5 #[rv a, iv x1, .unset] [(.int 1)])
   refine own_g (own_F T1 m 8 #[rv a, iv x1, .unset] []) (fun _ z_ => XS.ifNo X1.here hx rfl (hb hby own_d3_5) rfl ((if0 _ _).trans (feq (by decide : ¬ ((1 : Int32) = (0 : Int32)))).1) z_) ?_
   refine own_g (own_F T1 m 9 #[rv a, iv x1, .unset] [(.int 0)]) (fun _ z_ => XS.iconst X1.here hx rfl (hb hby own_d3_8) z_) ?_
   refine own_ret (t := .boolean) X1 hx hlk hrt rfl (Or.inl ⟨rfl, by simp, _, rfl⟩) (hb hby own_d3_9) (by first | decide | omega | (dsimp only; omega) | (dsimp only; done)) (by first | decide | omega | (dsimp only; omega) | (dsimp only; done)) ?_
   exact ⟨0, rfl, N1, by rw [show T1.heap = h0 from hh1]; exact ⟨Nat.le_refl _, S_ad, Or.inl ⟨rfl, hm1, hF0⟩⟩⟩
  ·
   show own_Ends p e below s _ _ _ (own_F T1 m 5 #[rv a, iv x1, .unset] [(.int 0)])
   refine own_g (own_F T1 m 10 #[rv a, iv x1, .unset] []) (fun _ z_ => XS.ifYes X1.here hx rfl (pc0 := 5) (pc' := 10) rfl (hb hby own_d3_5) rfl ((if0 _ _).trans (teq (by decide : ((0 : Int32) = (0 : Int32)))).1) (by decide) (by decide) z_) ?_
   refine own_g (own_F T1 m 11 #[rv a, iv x1, .unset] [(.ref a)]) (fun _ z_ => XS.aloadN X1.here hx rfl (hb hby own_d3_10) rfl rfl z_) ?_
   obtain ⟨T2, X2, e2, st2⟩ := getF X1 hx hZ hown (host := "") (Or.inl (own_w hw 24)) Via.refl hh1 Fb (g := (mkF m 11 #[rv a, iv x1, .unset] [(.ref a)])) rfl rfl (hb hby own_d3_11)
   refine own_pre (S' := (own_F T2 m 14 #[rv a, iv x1, .unset] [.null])) st2 ?_
   refine own_g (own_F T2 m 28 #[rv a, iv x1, .unset] []) (fun _ z_ => XS.ifnullYes X2.here hx rfl (pc0 := 14) (pc' := 28) rfl (hb hby own_d3_14) rfl (by decide) (by decide) z_) ?_
   refine own_g (own_F T2 m 29 #[rv a, iv x1, .unset] [(.ref a)]) (fun _ z_ => XS.aloadN X2.here hx rfl (hb hby own_d3_28) rfl rfl z_) ?_
   obtain ⟨T3, X3, e3, st3⟩ := getF X2 hx hZ hown (host := "") (Or.inl (own_w hw 30)) Via.refl e2 Fs (g := (mkF m 29 #[rv a, iv x1, .unset] [(.ref a)])) rfl rfl (hb hby own_d3_29)
   refine own_pre (S' := (own_F T3 m 32 #[rv a, iv x1, .unset] [(.int 8)])) st3 ?_
   refine own_g (own_F T3 m 34 #[rv a, iv x1, .unset] [(.int 8), (.int 8)]) (fun _ z_ => XS.bipush X3.here hx rfl (hb hby own_d3_32) z_) ?_
   refine own_g (own_F T3 m 83 #[rv a, iv x1, .unset] []) (fun _ z_ => XS.icmpYes X3.here hx rfl (pc0 := 34) (pc' := 83) rfl (hb hby own_d3_34) rfl (flt (by decide : ¬ ((8 : Int32) < (8 : Int32)))).2.1 (by decide) (by decide) z_) ?_
   refine own_g (own_F T3 m 84 #[rv a, iv x1, .unset] [(.ref a)]) (fun _ z_ => XS.aloadN X3.here hx rfl (hb hby own_d3_83) rfl rfl z_) ?_
   obtain ⟨T4, h4, X4, e4, E4, A4, D4, -, st4⟩ := newO X3 hx hZ hown (own_w hw 58) (own_w hw 59) (own_w hw 60) e3 (g := (mkF m 84 #[rv a, iv x1, .unset] [(.ref a)])) rfl (hb hby own_d3_84) (by first | decide | omega | (dsimp only; omega) | (dsimp only; done)) (by first | decide | omega | (dsimp only; omega) | (dsimp only; done))
   obtain ⟨b4, g4⟩ : ∃ z, z = h0.size := ⟨_, rfl⟩
   rw [← g4] at A4 D4 st4
   have sz_b4 : h0.size ≤ b4 := Nat.le_trans (Nat.le_refl h0.size) (Nat.le_of_eq g4.symm)
   have ge_b4 : n0 ≤ b4 := Nat.le_trans Z0 (Nat.le_of_eq g4.symm)
   have ne_a_b4 : a ≠ b4 := Nat.ne_of_lt (Nat.lt_of_lt_of_le Ea.lt (Nat.le_of_eq g4.symm))
   have ne_aN_b4 : aN ≠ b4 := Nat.ne_of_lt (Nat.lt_of_lt_of_le AN.lt (Nat.le_of_eq g4.symm))
   have F4_wordsInUse : Fld Z h4 b4 "java/util/BitSet" "wordsInUse" "I" (.int 0) := D4 (Or.inl (own_w hw 66)) (ty := .int) (by decide)
   have F4_sizeIsSticky : Fld Z h4 b4 "java/util/BitSet" "sizeIsSticky" "Z" (.int 0) := D4 (Or.inl (own_w hw 68)) (ty := .boolean) (by decide)
   have F4_words : Fld Z h4 b4 "java/util/BitSet" "words" "[J" .null := D4 (Or.inl (own_w hw 79)) (ty := (.array .long)) (by decide)
   refine own_pre (S' := (own_F T4 m 87 #[rv a, iv x1, .unset] [(.ref b4), (.ref a)])) st4 ?_
   refine own_g (own_F T4 m 88 #[rv a, iv x1, .unset] [(.ref b4), (.ref b4), (.ref a)]) (fun _ z_ => XS.dup X4.here hx rfl (hb hby own_d3_87) rfl rfl z_) ?_
   refine own_callI (y := (⟨"java/util/BitSet", "<init>", "()V"⟩ : MethodName)) (b := b4) X4 hx hZ hown rfl (own_w hw 61) (own_w hw 62) (own_w hw 63) (own_w hw 60) (by decide) e4 (hM := own_bsi l Z a0 hw [] b4 h4 n0 (Nat.le_trans Z0 E4.1) A4 ge_b4 F4_words F4_wordsInUse F4_sizeIsSticky) (W := 2) (pc := 88) (Ls := #[rv a, iv x1, .unset]) (argsL := []) (rest := [(.ref b4), (.ref a)]) (st0 := [(.ref b4), (.ref b4), (.ref a)]) (by rw [hml]; rfl) (lenOf own_pd6 rfl) rfl (Nat.le_of_eq rfl) (hb hby own_d3_88) (by first | decide | omega | (dsimp only; omega) | (dsimp only; done)) (by first | decide | omega | (dsimp only; omega) | (dsimp only; done)) (by first | decide | omega | (dsimp only; omega) | (dsimp only; done)) (by first | decide | omega | (dsimp only; omega) | (dsimp only; done)) ?_
   intro v5 T5 L5 X5 hQ5
   obtain ⟨rfl, Nq5, K5, w5, gw5, gz5, Fw5, Fu5, Fk5, Aw5⟩ := hQ5
   have N5 := Fr.app N1 Nq5
   show own_Ends p e below s _ _ _ (own_F T5 m 91 #[rv a, iv x1, .unset] [(.ref b4), (.ref a)])
   have ne_a_w5 : a ≠ w5 := Nat.ne_of_lt (Nat.lt_of_lt_of_le (Ea.ext E4).lt gz5)
   have ne_aN_w5 : aN ≠ w5 := Nat.ne_of_lt (Nat.lt_of_lt_of_le (AN.ext E4).lt gz5)
   have ne_b4_w5 : b4 ≠ w5 := Nat.ne_of_lt (Nat.lt_of_lt_of_le A4.lt gz5)
   have hs0 : 1 ≤ 34048 := by decide
   obtain ⟨T6, h6, X6, e6, W6, st6⟩ := putF X5 hx hZ hown (host := "") (Or.inl (own_w hw 24)) Via.refl (rfl : T5.heap = T5.heap) ((Fb.ext E4).keep K5 (ninS ne_a_b4 nin0)) ((Ea.ext E4).keep K5) (Or.inl (own_w hw 25)) (own_w hw 3) (ty := (.object "java/util/BitSet")) (by decide) rfl rfl (g := (mkF m 91 #[rv a, iv x1, .unset] [(.ref b4), (.ref a)])) rfl rfl (hb hby own_d3_91)
   have N6 := Fr.snoc X6 N5 ga
   have Fw6 := ((Fb.ext E4).keep K5 (ninS ne_a_b4 nin0)).same W6
   refine own_pre (S' := (own_F T6 m 94 #[rv a, iv x1, .unset] [])) st6 ?_
   refine own_g (own_F T6 m 95 #[rv a, iv x1, .unset] [(.int 0)]) (fun _ z_ => XS.iconst X6.here hx rfl (hb hby own_d3_94) z_) ?_
   refine own_g (own_F T6 m 96 #[rv a, iv x1, iv 0] []) (fun _ z_ => XS.istoreN X6.here hx rfl (hb hby own_d3_95) rfl (l' := #[rv a, iv x1, iv 0]) rfl z_) ?_
   refine own_g (own_F T6 m 97 #[rv a, iv x1, iv 0] [(.int 0)]) (fun _ z_ => XS.iloadN X6.here hx rfl (hb hby own_d3_96) rfl z_) ?_
   refine own_g (own_F T6 m 98 #[rv a, iv x1, iv 0] [(.ref a), (.int 0)]) (fun _ z_ => XS.aloadN X6.here hx rfl (hb hby own_d3_97) rfl rfl z_) ?_
   obtain ⟨T7, X7, e7, st7⟩ := getF X6 hx hZ hown (host := "") (Or.inl (own_w hw 30)) Via.refl e6 (((Fs.ext E4).keep K5 (ninS ne_a_b4 nin0)).other W6 (Or.inr (slot_ne (C := "com/example/kunci/kunci/NumberSet") (Or.inl (own_w hw 31)) (Or.inl (own_w hw 25)) (by decide) (t := .int) (t' := (.object "java/util/BitSet")) (by decide) (by decide)))) (g := (mkF m 98 #[rv a, iv x1, iv 0] [(.ref a), (.int 0)])) rfl rfl (hb hby own_d3_98)
   refine own_pre (S' := (own_F T7 m 101 #[rv a, iv x1, iv 0] [(.int 8), (.int 0)])) st7 ?_
   refine own_g (own_F T7 m 104 #[rv a, iv x1, iv 0] []) (fun _ z_ => XS.icmpNo X7.here hx rfl (hb hby own_d3_101) rfl (tlt (by decide : ((0 : Int32) < (8 : Int32)))).2.1 z_) ?_
   refine own_g (own_F T7 m 105 #[rv a, iv x1, iv 0] [(.ref a)]) (fun _ z_ => XS.aloadN X7.here hx rfl (hb hby own_d3_104) rfl rfl z_) ?_
   obtain ⟨T8, X8, e8, st8⟩ := getF X7 hx hZ hown (host := "") (Or.inl (own_w hw 24)) Via.refl e7 Fw6 (g := (mkF m 105 #[rv a, iv x1, iv 0] [(.ref a)])) rfl rfl (hb hby own_d3_105)
   refine own_pre (S' := (own_F T8 m 108 #[rv a, iv x1, iv 0] [(.ref b4)])) st8 ?_
   refine own_g (own_F T8 m 109 #[rv a, iv x1, iv 0] [(.ref a), (.ref b4)]) (fun _ z_ => XS.aloadN X8.here hx rfl (hb hby own_d3_108) rfl rfl z_) ?_
   obtain ⟨T9, X9, e9, st9⟩ := getF X8 hx hZ hown (host := "") (Or.inl (own_w hw 12)) Via.refl e8 (((Fn.ext E4).keep K5 (ninS ne_a_b4 nin0)).other W6 (Or.inr (slot_ne (C := "com/example/kunci/kunci/NumberSet") (Or.inl (own_w hw 13)) (Or.inl (own_w hw 25)) (by decide) (t := (.array .int)) (t' := (.object "java/util/BitSet")) (by decide) (by decide)))) (g := (mkF m 109 #[rv a, iv x1, iv 0] [(.ref a), (.ref b4)])) rfl rfl (hb hby own_d3_109)
   refine own_pre (S' := (own_F T9 m 112 #[rv a, iv x1, iv 0] [(.ref aN), (.ref b4)])) st9 ?_
   refine own_g (own_F T9 m 113 #[rv a, iv x1, iv 0] [(.int 0), (.ref aN), (.ref b4)]) (fun _ z_ => XS.iloadN X9.here hx rfl (hb hby own_d3_112) rfl z_) ?_
   refine own_iald X9 hx hZ e9 (((AN.ext E4).keep K5 (ninS ne_aN_b4 nin0)).other W6 (Ne.symm naN)) 0 rfl (by decide) (hb hby own_d3_113) ?_
   show own_Ends p e below s _ _ _ (own_F T9 m 114 #[rv a, iv x1, iv 0] [(.int (g 0)), (.ref b4)])
   refine own_callV (C := "java/util/BitSet") (y := (⟨"java/util/BitSet", "set", "(I)V"⟩ : MethodName)) (b := b4) X9 hx hZ hown (own_w hw 80) (own_w hw 81) (own_w hw 83) (own_w hw 82) (own_w hw 84) (own_w hw 60) (by decide) e9 ((A4.keep K5).wr W6) (hM := own_setG l Z a0 hw [] b4 w5 1 c1 k1 (g 0) (Nat.toInt32 1) (fun _ => (0 : Int64)) (0 : Int32) 0 h6 n0 (Nat.le_trans (Nat.le_trans (Nat.le_trans Z0 E4.1) K5.1) (Nat.le_of_eq W6.size.symm)) (hgi 0 (by decide)) rfl (by decide) hst1 (len_toInt (by omega)) hs0 (show ∀ i : Nat, 0 ≤ i → (fun _ : Nat => (0 : Int64)) i = 0 from fun _ _ => rfl) ((A4.keep K5).wr W6) ge_b4 gw5 ne_b4_w5 (Fw5.other W6 (Or.inl (Ne.symm ne_a_b4))) (Fu5.other W6 (Or.inl (Ne.symm ne_a_b4))) (Fk5.other W6 (Or.inl (Ne.symm ne_a_b4))) (Aw5.other W6 (Ne.symm ne_a_w5)) ((own_sta_keep (S_ad.ext E4) K5 (allS (own_plainE A4) all0)).wr W6)) (W := 0) (pc := 114) (Ls := #[rv a, iv x1, iv 0]) (argsL := [(.int (g 0))]) (rest := []) (st0 := [(.int (g 0)), (.ref b4)]) (by rw [hml]; rfl) (lenOf own_pd4 rfl) rfl (Nat.le_of_eq rfl) (hb hby own_d3_114) (by first | decide | omega | (dsimp only; omega) | (dsimp only; done)) (by first | decide | omega | (dsimp only; omega) | (dsimp only; done)) (by first | decide | omega | (dsimp only; omega) | (dsimp only; done)) (by first | decide | omega | (dsimp only; omega) | (dsimp only; done)) ?_
   intro v10 T10 L10 X10 hQ10
   obtain ⟨rfl, Nq10, K10, w10, hw10, gw10, nb10, Fw10, ⟨wu10, hwu10, Fu10⟩, Fs10, Aw10⟩ := hQ10
   have N10 := Fr.app N6 Nq10
   show own_Ends p e below s _ _ _ (own_F T10 m 117 #[rv a, iv x1, iv 0] [])
   have ne_a_w10 : a ≠ w10 := by rcases hw10 with q_ | q_; rw [← q_]; exact ne_a_w5; exact Nat.ne_of_lt (Nat.lt_of_lt_of_le (((Ea.ext E4).keep K5).wr W6).lt q_)
   have ne_aN_w10 : aN ≠ w10 := by rcases hw10 with q_ | q_; rw [← q_]; exact ne_aN_w5; exact Nat.ne_of_lt (Nat.lt_of_lt_of_le (((AN.ext E4).keep K5 (ninS ne_aN_b4 nin0)).other W6 (Ne.symm naN)).lt q_)
   obtain ⟨hb1, hs1, hq1, -⟩ := own_stepB hst1 (by have := (hgi 0 (by decide)); omega) hs0
   obtain ⟨wn1, hwn1⟩ : ∃ z : Nat, z = max 0 ((g 0).toInt.toNat / 64 + 1) := ⟨_, rfl⟩
   rw [← hwn1] at hwu10
   have hwc1 : wn1 ≤ c1 := by omega
   obtain ⟨U1, hU1⟩ : ∃ z : Nat → Int64, z = own_up (fun _ => (0 : Int64)) (g 0) := ⟨_, rfl⟩
   rw [← hU1] at Aw10
   have hz1 : ∀ i, wn1 ≤ i → U1 i = 0 := by rw [hU1]; exact own_upz (own_zmono (show ∀ i : Nat, 0 ≤ i → (fun _ : Nat => (0 : Int64)) i = 0 from fun _ _ => rfl) (by omega)) (by omega)
   refine own_g (own_F T10 m 120 #[rv a, iv x1, iv 1] []) (fun _ z_ => XS.iinc X10.here hx rfl (hb hby own_d3_117) rfl (l' := #[rv a, iv x1, iv 1]) rfl z_) ?_
   refine own_g (own_F T10 m 96 #[rv a, iv x1, iv 1] []) (fun _ z_ => XS.goto X10.here hx rfl (pc0 := 120) (pc' := 96) rfl (hb hby own_d3_120) (by decide) (by decide) z_) ?_
   refine own_g (own_F T10 m 97 #[rv a, iv x1, iv 1] [(.int 1)]) (fun _ z_ => XS.iloadN X10.here hx rfl (hb hby own_d3_96) rfl z_) ?_
   refine own_g (own_F T10 m 98 #[rv a, iv x1, iv 1] [(.ref a), (.int 1)]) (fun _ z_ => XS.aloadN X10.here hx rfl (hb hby own_d3_97) rfl rfl z_) ?_
   obtain ⟨T11, X11, e11, st11⟩ := getF X10 hx hZ hown (host := "") (Or.inl (own_w hw 30)) Via.refl (rfl : T10.heap = T10.heap) ((((Fs.ext E4).keep K5 (ninS ne_a_b4 nin0)).other W6 (Or.inr (slot_ne (C := "com/example/kunci/kunci/NumberSet") (Or.inl (own_w hw 31)) (Or.inl (own_w hw 25)) (by decide) (t := .int) (t' := (.object "java/util/BitSet")) (by decide) (by decide)))).keep K10 (ninS ne_a_b4 (ninS ne_a_w5 nin0))) (g := (mkF m 98 #[rv a, iv x1, iv 1] [(.ref a), (.int 1)])) rfl rfl (hb hby own_d3_98)
   refine own_pre (S' := (own_F T11 m 101 #[rv a, iv x1, iv 1] [(.int 8), (.int 1)])) st11 ?_
   refine own_g (own_F T11 m 104 #[rv a, iv x1, iv 1] []) (fun _ z_ => XS.icmpNo X11.here hx rfl (hb hby own_d3_101) rfl (tlt (by decide : ((1 : Int32) < (8 : Int32)))).2.1 z_) ?_
   refine own_g (own_F T11 m 105 #[rv a, iv x1, iv 1] [(.ref a)]) (fun _ z_ => XS.aloadN X11.here hx rfl (hb hby own_d3_104) rfl rfl z_) ?_
   obtain ⟨T12, X12, e12, st12⟩ := getF X11 hx hZ hown (host := "") (Or.inl (own_w hw 24)) Via.refl e11 (Fw6.keep K10 (ninS ne_a_b4 (ninS ne_a_w5 nin0))) (g := (mkF m 105 #[rv a, iv x1, iv 1] [(.ref a)])) rfl rfl (hb hby own_d3_105)
   refine own_pre (S' := (own_F T12 m 108 #[rv a, iv x1, iv 1] [(.ref b4)])) st12 ?_
   refine own_g (own_F T12 m 109 #[rv a, iv x1, iv 1] [(.ref a), (.ref b4)]) (fun _ z_ => XS.aloadN X12.here hx rfl (hb hby own_d3_108) rfl rfl z_) ?_
   obtain ⟨T13, X13, e13, st13⟩ := getF X12 hx hZ hown (host := "") (Or.inl (own_w hw 12)) Via.refl e12 ((((Fn.ext E4).keep K5 (ninS ne_a_b4 nin0)).other W6 (Or.inr (slot_ne (C := "com/example/kunci/kunci/NumberSet") (Or.inl (own_w hw 13)) (Or.inl (own_w hw 25)) (by decide) (t := (.array .int)) (t' := (.object "java/util/BitSet")) (by decide) (by decide)))).keep K10 (ninS ne_a_b4 (ninS ne_a_w5 nin0))) (g := (mkF m 109 #[rv a, iv x1, iv 1] [(.ref a), (.ref b4)])) rfl rfl (hb hby own_d3_109)
   refine own_pre (S' := (own_F T13 m 112 #[rv a, iv x1, iv 1] [(.ref aN), (.ref b4)])) st13 ?_
   refine own_g (own_F T13 m 113 #[rv a, iv x1, iv 1] [(.int 1), (.ref aN), (.ref b4)]) (fun _ z_ => XS.iloadN X13.here hx rfl (hb hby own_d3_112) rfl z_) ?_
   refine own_iald X13 hx hZ e13 ((((AN.ext E4).keep K5 (ninS ne_aN_b4 nin0)).other W6 (Ne.symm naN)).keep K10 (ninS ne_aN_b4 (ninS ne_aN_w5 nin0))) 1 rfl (by decide) (hb hby own_d3_113) ?_
   show own_Ends p e below s _ _ _ (own_F T13 m 114 #[rv a, iv x1, iv 1] [(.int (g 1)), (.ref b4)])
   refine own_callV (C := "java/util/BitSet") (y := (⟨"java/util/BitSet", "set", "(I)V"⟩ : MethodName)) (b := b4) X13 hx hZ hown (own_w hw 80) (own_w hw 81) (own_w hw 83) (own_w hw 82) (own_w hw 84) (own_w hw 60) (by decide) e13 (((A4.keep K5).wr W6).keep K10) (hM := own_setG l Z a0 hw [] b4 w10 c1 c2 k2 (g 1) (Nat.toInt32 c1) U1 wu10 wn1 T10.heap n0 (Nat.le_trans (Nat.le_trans (Nat.le_trans (Nat.le_trans Z0 E4.1) K5.1) (Nat.le_of_eq W6.size.symm)) K10.1) (hgi 1 (by decide)) hwu10 hwc1 hst2 (len_toInt (by omega)) hs1 hz1 (((A4.keep K5).wr W6).keep K10) ge_b4 gw10 nb10 Fw10 Fu10 Fs10 Aw10 (own_sta_keep ((own_sta_keep (S_ad.ext E4) K5 (allS (own_plainE A4) all0)).wr W6) K10 (allS (own_plainE ((A4.keep K5).wr W6)) (allS (own_plainA (Aw5.other W6 (Ne.symm ne_a_w5))) all0)))) (W := 0) (pc := 114) (Ls := #[rv a, iv x1, iv 1]) (argsL := [(.int (g 1))]) (rest := []) (st0 := [(.int (g 1)), (.ref b4)]) (by rw [hml]; rfl) (lenOf own_pd4 rfl) rfl (Nat.le_of_eq rfl) (hb hby own_d3_114) (by first | decide | omega | (dsimp only; omega) | (dsimp only; done)) (by first | decide | omega | (dsimp only; omega) | (dsimp only; done)) (by first | decide | omega | (dsimp only; omega) | (dsimp only; done)) (by first | decide | omega | (dsimp only; omega) | (dsimp only; done)) ?_
   intro v14 T14 L14 X14 hQ14
   obtain ⟨rfl, Nq14, K14, w14, hw14, gw14, nb14, Fw14, ⟨wu14, hwu14, Fu14⟩, Fs14, Aw14⟩ := hQ14
   have N14 := Fr.app N10 Nq14
   show own_Ends p e below s _ _ _ (own_F T14 m 117 #[rv a, iv x1, iv 1] [])
   have ne_a_w14 : a ≠ w14 := by rcases hw14 with q_ | q_; rw [← q_]; exact ne_a_w10; exact Nat.ne_of_lt (Nat.lt_of_lt_of_le ((((Ea.ext E4).keep K5).wr W6).keep K10).lt q_)
   have ne_aN_w14 : aN ≠ w14 := by rcases hw14 with q_ | q_; rw [← q_]; exact ne_aN_w10; exact Nat.ne_of_lt (Nat.lt_of_lt_of_le ((((AN.ext E4).keep K5 (ninS ne_aN_b4 nin0)).other W6 (Ne.symm naN)).keep K10 (ninS ne_aN_b4 (ninS ne_aN_w5 nin0))).lt q_)
   obtain ⟨hb2, hs2, hq2, -⟩ := own_stepB hst2 (by have := (hgi 1 (by decide)); omega) hs1
   obtain ⟨wn2, hwn2⟩ : ∃ z : Nat, z = max wn1 ((g 1).toInt.toNat / 64 + 1) := ⟨_, rfl⟩
   rw [← hwn2] at hwu14
   have hwc2 : wn2 ≤ c2 := by have := hwc1; omega
   obtain ⟨U2, hU2⟩ : ∃ z : Nat → Int64, z = own_up U1 (g 1) := ⟨_, rfl⟩
   rw [← hU2] at Aw14
   have hz2 : ∀ i, wn2 ≤ i → U2 i = 0 := by rw [hU2]; exact own_upz (own_zmono hz1 (by omega)) (by omega)
   refine own_g (own_F T14 m 120 #[rv a, iv x1, iv 2] []) (fun _ z_ => XS.iinc X14.here hx rfl (hb hby own_d3_117) rfl (l' := #[rv a, iv x1, iv 2]) rfl z_) ?_
   refine own_g (own_F T14 m 96 #[rv a, iv x1, iv 2] []) (fun _ z_ => XS.goto X14.here hx rfl (pc0 := 120) (pc' := 96) rfl (hb hby own_d3_120) (by decide) (by decide) z_) ?_
   refine own_g (own_F T14 m 97 #[rv a, iv x1, iv 2] [(.int 2)]) (fun _ z_ => XS.iloadN X14.here hx rfl (hb hby own_d3_96) rfl z_) ?_
   refine own_g (own_F T14 m 98 #[rv a, iv x1, iv 2] [(.ref a), (.int 2)]) (fun _ z_ => XS.aloadN X14.here hx rfl (hb hby own_d3_97) rfl rfl z_) ?_
   obtain ⟨T15, X15, e15, st15⟩ := getF X14 hx hZ hown (host := "") (Or.inl (own_w hw 30)) Via.refl (rfl : T14.heap = T14.heap) (((((Fs.ext E4).keep K5 (ninS ne_a_b4 nin0)).other W6 (Or.inr (slot_ne (C := "com/example/kunci/kunci/NumberSet") (Or.inl (own_w hw 31)) (Or.inl (own_w hw 25)) (by decide) (t := .int) (t' := (.object "java/util/BitSet")) (by decide) (by decide)))).keep K10 (ninS ne_a_b4 (ninS ne_a_w5 nin0))).keep K14 (ninS ne_a_b4 (ninS ne_a_w10 nin0))) (g := (mkF m 98 #[rv a, iv x1, iv 2] [(.ref a), (.int 2)])) rfl rfl (hb hby own_d3_98)
   refine own_pre (S' := (own_F T15 m 101 #[rv a, iv x1, iv 2] [(.int 8), (.int 2)])) st15 ?_
   refine own_g (own_F T15 m 104 #[rv a, iv x1, iv 2] []) (fun _ z_ => XS.icmpNo X15.here hx rfl (hb hby own_d3_101) rfl (tlt (by decide : ((2 : Int32) < (8 : Int32)))).2.1 z_) ?_
   refine own_g (own_F T15 m 105 #[rv a, iv x1, iv 2] [(.ref a)]) (fun _ z_ => XS.aloadN X15.here hx rfl (hb hby own_d3_104) rfl rfl z_) ?_
   obtain ⟨T16, X16, e16, st16⟩ := getF X15 hx hZ hown (host := "") (Or.inl (own_w hw 24)) Via.refl e15 ((Fw6.keep K10 (ninS ne_a_b4 (ninS ne_a_w5 nin0))).keep K14 (ninS ne_a_b4 (ninS ne_a_w10 nin0))) (g := (mkF m 105 #[rv a, iv x1, iv 2] [(.ref a)])) rfl rfl (hb hby own_d3_105)
   refine own_pre (S' := (own_F T16 m 108 #[rv a, iv x1, iv 2] [(.ref b4)])) st16 ?_
   refine own_g (own_F T16 m 109 #[rv a, iv x1, iv 2] [(.ref a), (.ref b4)]) (fun _ z_ => XS.aloadN X16.here hx rfl (hb hby own_d3_108) rfl rfl z_) ?_
   obtain ⟨T17, X17, e17, st17⟩ := getF X16 hx hZ hown (host := "") (Or.inl (own_w hw 12)) Via.refl e16 (((((Fn.ext E4).keep K5 (ninS ne_a_b4 nin0)).other W6 (Or.inr (slot_ne (C := "com/example/kunci/kunci/NumberSet") (Or.inl (own_w hw 13)) (Or.inl (own_w hw 25)) (by decide) (t := (.array .int)) (t' := (.object "java/util/BitSet")) (by decide) (by decide)))).keep K10 (ninS ne_a_b4 (ninS ne_a_w5 nin0))).keep K14 (ninS ne_a_b4 (ninS ne_a_w10 nin0))) (g := (mkF m 109 #[rv a, iv x1, iv 2] [(.ref a), (.ref b4)])) rfl rfl (hb hby own_d3_109)
   refine own_pre (S' := (own_F T17 m 112 #[rv a, iv x1, iv 2] [(.ref aN), (.ref b4)])) st17 ?_
   refine own_g (own_F T17 m 113 #[rv a, iv x1, iv 2] [(.int 2), (.ref aN), (.ref b4)]) (fun _ z_ => XS.iloadN X17.here hx rfl (hb hby own_d3_112) rfl z_) ?_
   refine own_iald X17 hx hZ e17 (((((AN.ext E4).keep K5 (ninS ne_aN_b4 nin0)).other W6 (Ne.symm naN)).keep K10 (ninS ne_aN_b4 (ninS ne_aN_w5 nin0))).keep K14 (ninS ne_aN_b4 (ninS ne_aN_w10 nin0))) 2 rfl (by decide) (hb hby own_d3_113) ?_
   show own_Ends p e below s _ _ _ (own_F T17 m 114 #[rv a, iv x1, iv 2] [(.int (g 2)), (.ref b4)])
   refine own_callV (C := "java/util/BitSet") (y := (⟨"java/util/BitSet", "set", "(I)V"⟩ : MethodName)) (b := b4) X17 hx hZ hown (own_w hw 80) (own_w hw 81) (own_w hw 83) (own_w hw 82) (own_w hw 84) (own_w hw 60) (by decide) e17 ((((A4.keep K5).wr W6).keep K10).keep K14) (hM := own_setG l Z a0 hw [] b4 w14 c2 c3 k3 (g 2) (Nat.toInt32 c2) U2 wu14 wn2 T14.heap n0 (Nat.le_trans (Nat.le_trans (Nat.le_trans (Nat.le_trans (Nat.le_trans Z0 E4.1) K5.1) (Nat.le_of_eq W6.size.symm)) K10.1) K14.1) (hgi 2 (by decide)) hwu14 hwc2 hst3 (len_toInt (by omega)) hs2 hz2 ((((A4.keep K5).wr W6).keep K10).keep K14) ge_b4 gw14 nb14 Fw14 Fu14 Fs14 Aw14 (own_sta_keep (own_sta_keep ((own_sta_keep (S_ad.ext E4) K5 (allS (own_plainE A4) all0)).wr W6) K10 (allS (own_plainE ((A4.keep K5).wr W6)) (allS (own_plainA (Aw5.other W6 (Ne.symm ne_a_w5))) all0))) K14 (allS (own_plainE (((A4.keep K5).wr W6).keep K10)) (allS (own_plainA Aw10) all0)))) (W := 0) (pc := 114) (Ls := #[rv a, iv x1, iv 2]) (argsL := [(.int (g 2))]) (rest := []) (st0 := [(.int (g 2)), (.ref b4)]) (by rw [hml]; rfl) (lenOf own_pd4 rfl) rfl (Nat.le_of_eq rfl) (hb hby own_d3_114) (by first | decide | omega | (dsimp only; omega) | (dsimp only; done)) (by first | decide | omega | (dsimp only; omega) | (dsimp only; done)) (by first | decide | omega | (dsimp only; omega) | (dsimp only; done)) (by first | decide | omega | (dsimp only; omega) | (dsimp only; done)) ?_
   intro v18 T18 L18 X18 hQ18
   obtain ⟨rfl, Nq18, K18, w18, hw18, gw18, nb18, Fw18, ⟨wu18, hwu18, Fu18⟩, Fs18, Aw18⟩ := hQ18
   have N18 := Fr.app N14 Nq18
   show own_Ends p e below s _ _ _ (own_F T18 m 117 #[rv a, iv x1, iv 2] [])
   have ne_a_w18 : a ≠ w18 := by rcases hw18 with q_ | q_; rw [← q_]; exact ne_a_w14; exact Nat.ne_of_lt (Nat.lt_of_lt_of_le (((((Ea.ext E4).keep K5).wr W6).keep K10).keep K14).lt q_)
   have ne_aN_w18 : aN ≠ w18 := by rcases hw18 with q_ | q_; rw [← q_]; exact ne_aN_w14; exact Nat.ne_of_lt (Nat.lt_of_lt_of_le (((((AN.ext E4).keep K5 (ninS ne_aN_b4 nin0)).other W6 (Ne.symm naN)).keep K10 (ninS ne_aN_b4 (ninS ne_aN_w5 nin0))).keep K14 (ninS ne_aN_b4 (ninS ne_aN_w10 nin0))).lt q_)
   obtain ⟨hb3, hs3, hq3, -⟩ := own_stepB hst3 (by have := (hgi 2 (by decide)); omega) hs2
   obtain ⟨wn3, hwn3⟩ : ∃ z : Nat, z = max wn2 ((g 2).toInt.toNat / 64 + 1) := ⟨_, rfl⟩
   rw [← hwn3] at hwu18
   have hwc3 : wn3 ≤ c3 := by have := hwc2; omega
   obtain ⟨U3, hU3⟩ : ∃ z : Nat → Int64, z = own_up U2 (g 2) := ⟨_, rfl⟩
   rw [← hU3] at Aw18
   have hz3 : ∀ i, wn3 ≤ i → U3 i = 0 := by rw [hU3]; exact own_upz (own_zmono hz2 (by omega)) (by omega)
   refine own_g (own_F T18 m 120 #[rv a, iv x1, iv 3] []) (fun _ z_ => XS.iinc X18.here hx rfl (hb hby own_d3_117) rfl (l' := #[rv a, iv x1, iv 3]) rfl z_) ?_
   refine own_g (own_F T18 m 96 #[rv a, iv x1, iv 3] []) (fun _ z_ => XS.goto X18.here hx rfl (pc0 := 120) (pc' := 96) rfl (hb hby own_d3_120) (by decide) (by decide) z_) ?_
   refine own_g (own_F T18 m 97 #[rv a, iv x1, iv 3] [(.int 3)]) (fun _ z_ => XS.iloadN X18.here hx rfl (hb hby own_d3_96) rfl z_) ?_
   refine own_g (own_F T18 m 98 #[rv a, iv x1, iv 3] [(.ref a), (.int 3)]) (fun _ z_ => XS.aloadN X18.here hx rfl (hb hby own_d3_97) rfl rfl z_) ?_
   obtain ⟨T19, X19, e19, st19⟩ := getF X18 hx hZ hown (host := "") (Or.inl (own_w hw 30)) Via.refl (rfl : T18.heap = T18.heap) ((((((Fs.ext E4).keep K5 (ninS ne_a_b4 nin0)).other W6 (Or.inr (slot_ne (C := "com/example/kunci/kunci/NumberSet") (Or.inl (own_w hw 31)) (Or.inl (own_w hw 25)) (by decide) (t := .int) (t' := (.object "java/util/BitSet")) (by decide) (by decide)))).keep K10 (ninS ne_a_b4 (ninS ne_a_w5 nin0))).keep K14 (ninS ne_a_b4 (ninS ne_a_w10 nin0))).keep K18 (ninS ne_a_b4 (ninS ne_a_w14 nin0))) (g := (mkF m 98 #[rv a, iv x1, iv 3] [(.ref a), (.int 3)])) rfl rfl (hb hby own_d3_98)
   refine own_pre (S' := (own_F T19 m 101 #[rv a, iv x1, iv 3] [(.int 8), (.int 3)])) st19 ?_
   refine own_g (own_F T19 m 104 #[rv a, iv x1, iv 3] []) (fun _ z_ => XS.icmpNo X19.here hx rfl (hb hby own_d3_101) rfl (tlt (by decide : ((3 : Int32) < (8 : Int32)))).2.1 z_) ?_
   refine own_g (own_F T19 m 105 #[rv a, iv x1, iv 3] [(.ref a)]) (fun _ z_ => XS.aloadN X19.here hx rfl (hb hby own_d3_104) rfl rfl z_) ?_
   obtain ⟨T20, X20, e20, st20⟩ := getF X19 hx hZ hown (host := "") (Or.inl (own_w hw 24)) Via.refl e19 (((Fw6.keep K10 (ninS ne_a_b4 (ninS ne_a_w5 nin0))).keep K14 (ninS ne_a_b4 (ninS ne_a_w10 nin0))).keep K18 (ninS ne_a_b4 (ninS ne_a_w14 nin0))) (g := (mkF m 105 #[rv a, iv x1, iv 3] [(.ref a)])) rfl rfl (hb hby own_d3_105)
   refine own_pre (S' := (own_F T20 m 108 #[rv a, iv x1, iv 3] [(.ref b4)])) st20 ?_
   refine own_g (own_F T20 m 109 #[rv a, iv x1, iv 3] [(.ref a), (.ref b4)]) (fun _ z_ => XS.aloadN X20.here hx rfl (hb hby own_d3_108) rfl rfl z_) ?_
   obtain ⟨T21, X21, e21, st21⟩ := getF X20 hx hZ hown (host := "") (Or.inl (own_w hw 12)) Via.refl e20 ((((((Fn.ext E4).keep K5 (ninS ne_a_b4 nin0)).other W6 (Or.inr (slot_ne (C := "com/example/kunci/kunci/NumberSet") (Or.inl (own_w hw 13)) (Or.inl (own_w hw 25)) (by decide) (t := (.array .int)) (t' := (.object "java/util/BitSet")) (by decide) (by decide)))).keep K10 (ninS ne_a_b4 (ninS ne_a_w5 nin0))).keep K14 (ninS ne_a_b4 (ninS ne_a_w10 nin0))).keep K18 (ninS ne_a_b4 (ninS ne_a_w14 nin0))) (g := (mkF m 109 #[rv a, iv x1, iv 3] [(.ref a), (.ref b4)])) rfl rfl (hb hby own_d3_109)
   refine own_pre (S' := (own_F T21 m 112 #[rv a, iv x1, iv 3] [(.ref aN), (.ref b4)])) st21 ?_
   refine own_g (own_F T21 m 113 #[rv a, iv x1, iv 3] [(.int 3), (.ref aN), (.ref b4)]) (fun _ z_ => XS.iloadN X21.here hx rfl (hb hby own_d3_112) rfl z_) ?_
   refine own_iald X21 hx hZ e21 ((((((AN.ext E4).keep K5 (ninS ne_aN_b4 nin0)).other W6 (Ne.symm naN)).keep K10 (ninS ne_aN_b4 (ninS ne_aN_w5 nin0))).keep K14 (ninS ne_aN_b4 (ninS ne_aN_w10 nin0))).keep K18 (ninS ne_aN_b4 (ninS ne_aN_w14 nin0))) 3 rfl (by decide) (hb hby own_d3_113) ?_
   show own_Ends p e below s _ _ _ (own_F T21 m 114 #[rv a, iv x1, iv 3] [(.int (g 3)), (.ref b4)])
   refine own_callV (C := "java/util/BitSet") (y := (⟨"java/util/BitSet", "set", "(I)V"⟩ : MethodName)) (b := b4) X21 hx hZ hown (own_w hw 80) (own_w hw 81) (own_w hw 83) (own_w hw 82) (own_w hw 84) (own_w hw 60) (by decide) e21 (((((A4.keep K5).wr W6).keep K10).keep K14).keep K18) (hM := own_setG l Z a0 hw [] b4 w18 c3 c4 k4 (g 3) (Nat.toInt32 c3) U3 wu18 wn3 T18.heap n0 (Nat.le_trans (Nat.le_trans (Nat.le_trans (Nat.le_trans (Nat.le_trans (Nat.le_trans Z0 E4.1) K5.1) (Nat.le_of_eq W6.size.symm)) K10.1) K14.1) K18.1) (hgi 3 (by decide)) hwu18 hwc3 hst4 (len_toInt (by omega)) hs3 hz3 (((((A4.keep K5).wr W6).keep K10).keep K14).keep K18) ge_b4 gw18 nb18 Fw18 Fu18 Fs18 Aw18 (own_sta_keep (own_sta_keep (own_sta_keep ((own_sta_keep (S_ad.ext E4) K5 (allS (own_plainE A4) all0)).wr W6) K10 (allS (own_plainE ((A4.keep K5).wr W6)) (allS (own_plainA (Aw5.other W6 (Ne.symm ne_a_w5))) all0))) K14 (allS (own_plainE (((A4.keep K5).wr W6).keep K10)) (allS (own_plainA Aw10) all0))) K18 (allS (own_plainE ((((A4.keep K5).wr W6).keep K10).keep K14)) (allS (own_plainA Aw14) all0)))) (W := 0) (pc := 114) (Ls := #[rv a, iv x1, iv 3]) (argsL := [(.int (g 3))]) (rest := []) (st0 := [(.int (g 3)), (.ref b4)]) (by rw [hml]; rfl) (lenOf own_pd4 rfl) rfl (Nat.le_of_eq rfl) (hb hby own_d3_114) (by first | decide | omega | (dsimp only; omega) | (dsimp only; done)) (by first | decide | omega | (dsimp only; omega) | (dsimp only; done)) (by first | decide | omega | (dsimp only; omega) | (dsimp only; done)) (by first | decide | omega | (dsimp only; omega) | (dsimp only; done)) ?_
   intro v22 T22 L22 X22 hQ22
   obtain ⟨rfl, Nq22, K22, w22, hw22, gw22, nb22, Fw22, ⟨wu22, hwu22, Fu22⟩, Fs22, Aw22⟩ := hQ22
   have N22 := Fr.app N18 Nq22
   show own_Ends p e below s _ _ _ (own_F T22 m 117 #[rv a, iv x1, iv 3] [])
   have ne_a_w22 : a ≠ w22 := by rcases hw22 with q_ | q_; rw [← q_]; exact ne_a_w18; exact Nat.ne_of_lt (Nat.lt_of_lt_of_le ((((((Ea.ext E4).keep K5).wr W6).keep K10).keep K14).keep K18).lt q_)
   have ne_aN_w22 : aN ≠ w22 := by rcases hw22 with q_ | q_; rw [← q_]; exact ne_aN_w18; exact Nat.ne_of_lt (Nat.lt_of_lt_of_le ((((((AN.ext E4).keep K5 (ninS ne_aN_b4 nin0)).other W6 (Ne.symm naN)).keep K10 (ninS ne_aN_b4 (ninS ne_aN_w5 nin0))).keep K14 (ninS ne_aN_b4 (ninS ne_aN_w10 nin0))).keep K18 (ninS ne_aN_b4 (ninS ne_aN_w14 nin0))).lt q_)
   obtain ⟨hb4, hs4, hq4, -⟩ := own_stepB hst4 (by have := (hgi 3 (by decide)); omega) hs3
   obtain ⟨wn4, hwn4⟩ : ∃ z : Nat, z = max wn3 ((g 3).toInt.toNat / 64 + 1) := ⟨_, rfl⟩
   rw [← hwn4] at hwu22
   have hwc4 : wn4 ≤ c4 := by have := hwc3; omega
   obtain ⟨U4, hU4⟩ : ∃ z : Nat → Int64, z = own_up U3 (g 3) := ⟨_, rfl⟩
   rw [← hU4] at Aw22
   have hz4 : ∀ i, wn4 ≤ i → U4 i = 0 := by rw [hU4]; exact own_upz (own_zmono hz3 (by omega)) (by omega)
   refine own_g (own_F T22 m 120 #[rv a, iv x1, iv 4] []) (fun _ z_ => XS.iinc X22.here hx rfl (hb hby own_d3_117) rfl (l' := #[rv a, iv x1, iv 4]) rfl z_) ?_
   refine own_g (own_F T22 m 96 #[rv a, iv x1, iv 4] []) (fun _ z_ => XS.goto X22.here hx rfl (pc0 := 120) (pc' := 96) rfl (hb hby own_d3_120) (by decide) (by decide) z_) ?_
   refine own_g (own_F T22 m 97 #[rv a, iv x1, iv 4] [(.int 4)]) (fun _ z_ => XS.iloadN X22.here hx rfl (hb hby own_d3_96) rfl z_) ?_
   refine own_g (own_F T22 m 98 #[rv a, iv x1, iv 4] [(.ref a), (.int 4)]) (fun _ z_ => XS.aloadN X22.here hx rfl (hb hby own_d3_97) rfl rfl z_) ?_
   obtain ⟨T23, X23, e23, st23⟩ := getF X22 hx hZ hown (host := "") (Or.inl (own_w hw 30)) Via.refl (rfl : T22.heap = T22.heap) (((((((Fs.ext E4).keep K5 (ninS ne_a_b4 nin0)).other W6 (Or.inr (slot_ne (C := "com/example/kunci/kunci/NumberSet") (Or.inl (own_w hw 31)) (Or.inl (own_w hw 25)) (by decide) (t := .int) (t' := (.object "java/util/BitSet")) (by decide) (by decide)))).keep K10 (ninS ne_a_b4 (ninS ne_a_w5 nin0))).keep K14 (ninS ne_a_b4 (ninS ne_a_w10 nin0))).keep K18 (ninS ne_a_b4 (ninS ne_a_w14 nin0))).keep K22 (ninS ne_a_b4 (ninS ne_a_w18 nin0))) (g := (mkF m 98 #[rv a, iv x1, iv 4] [(.ref a), (.int 4)])) rfl rfl (hb hby own_d3_98)
   refine own_pre (S' := (own_F T23 m 101 #[rv a, iv x1, iv 4] [(.int 8), (.int 4)])) st23 ?_
   refine own_g (own_F T23 m 104 #[rv a, iv x1, iv 4] []) (fun _ z_ => XS.icmpNo X23.here hx rfl (hb hby own_d3_101) rfl (tlt (by decide : ((4 : Int32) < (8 : Int32)))).2.1 z_) ?_
   refine own_g (own_F T23 m 105 #[rv a, iv x1, iv 4] [(.ref a)]) (fun _ z_ => XS.aloadN X23.here hx rfl (hb hby own_d3_104) rfl rfl z_) ?_
   obtain ⟨T24, X24, e24, st24⟩ := getF X23 hx hZ hown (host := "") (Or.inl (own_w hw 24)) Via.refl e23 ((((Fw6.keep K10 (ninS ne_a_b4 (ninS ne_a_w5 nin0))).keep K14 (ninS ne_a_b4 (ninS ne_a_w10 nin0))).keep K18 (ninS ne_a_b4 (ninS ne_a_w14 nin0))).keep K22 (ninS ne_a_b4 (ninS ne_a_w18 nin0))) (g := (mkF m 105 #[rv a, iv x1, iv 4] [(.ref a)])) rfl rfl (hb hby own_d3_105)
   refine own_pre (S' := (own_F T24 m 108 #[rv a, iv x1, iv 4] [(.ref b4)])) st24 ?_
   refine own_g (own_F T24 m 109 #[rv a, iv x1, iv 4] [(.ref a), (.ref b4)]) (fun _ z_ => XS.aloadN X24.here hx rfl (hb hby own_d3_108) rfl rfl z_) ?_
   obtain ⟨T25, X25, e25, st25⟩ := getF X24 hx hZ hown (host := "") (Or.inl (own_w hw 12)) Via.refl e24 (((((((Fn.ext E4).keep K5 (ninS ne_a_b4 nin0)).other W6 (Or.inr (slot_ne (C := "com/example/kunci/kunci/NumberSet") (Or.inl (own_w hw 13)) (Or.inl (own_w hw 25)) (by decide) (t := (.array .int)) (t' := (.object "java/util/BitSet")) (by decide) (by decide)))).keep K10 (ninS ne_a_b4 (ninS ne_a_w5 nin0))).keep K14 (ninS ne_a_b4 (ninS ne_a_w10 nin0))).keep K18 (ninS ne_a_b4 (ninS ne_a_w14 nin0))).keep K22 (ninS ne_a_b4 (ninS ne_a_w18 nin0))) (g := (mkF m 109 #[rv a, iv x1, iv 4] [(.ref a), (.ref b4)])) rfl rfl (hb hby own_d3_109)
   refine own_pre (S' := (own_F T25 m 112 #[rv a, iv x1, iv 4] [(.ref aN), (.ref b4)])) st25 ?_
   refine own_g (own_F T25 m 113 #[rv a, iv x1, iv 4] [(.int 4), (.ref aN), (.ref b4)]) (fun _ z_ => XS.iloadN X25.here hx rfl (hb hby own_d3_112) rfl z_) ?_
   refine own_iald X25 hx hZ e25 (((((((AN.ext E4).keep K5 (ninS ne_aN_b4 nin0)).other W6 (Ne.symm naN)).keep K10 (ninS ne_aN_b4 (ninS ne_aN_w5 nin0))).keep K14 (ninS ne_aN_b4 (ninS ne_aN_w10 nin0))).keep K18 (ninS ne_aN_b4 (ninS ne_aN_w14 nin0))).keep K22 (ninS ne_aN_b4 (ninS ne_aN_w18 nin0))) 4 rfl (by decide) (hb hby own_d3_113) ?_
   show own_Ends p e below s _ _ _ (own_F T25 m 114 #[rv a, iv x1, iv 4] [(.int (g 4)), (.ref b4)])
   refine own_callV (C := "java/util/BitSet") (y := (⟨"java/util/BitSet", "set", "(I)V"⟩ : MethodName)) (b := b4) X25 hx hZ hown (own_w hw 80) (own_w hw 81) (own_w hw 83) (own_w hw 82) (own_w hw 84) (own_w hw 60) (by decide) e25 ((((((A4.keep K5).wr W6).keep K10).keep K14).keep K18).keep K22) (hM := own_setG l Z a0 hw [] b4 w22 c4 c5 k5 (g 4) (Nat.toInt32 c4) U4 wu22 wn4 T22.heap n0 (Nat.le_trans (Nat.le_trans (Nat.le_trans (Nat.le_trans (Nat.le_trans (Nat.le_trans (Nat.le_trans Z0 E4.1) K5.1) (Nat.le_of_eq W6.size.symm)) K10.1) K14.1) K18.1) K22.1) (hgi 4 (by decide)) hwu22 hwc4 hst5 (len_toInt (by omega)) hs4 hz4 ((((((A4.keep K5).wr W6).keep K10).keep K14).keep K18).keep K22) ge_b4 gw22 nb22 Fw22 Fu22 Fs22 Aw22 (own_sta_keep (own_sta_keep (own_sta_keep (own_sta_keep ((own_sta_keep (S_ad.ext E4) K5 (allS (own_plainE A4) all0)).wr W6) K10 (allS (own_plainE ((A4.keep K5).wr W6)) (allS (own_plainA (Aw5.other W6 (Ne.symm ne_a_w5))) all0))) K14 (allS (own_plainE (((A4.keep K5).wr W6).keep K10)) (allS (own_plainA Aw10) all0))) K18 (allS (own_plainE ((((A4.keep K5).wr W6).keep K10).keep K14)) (allS (own_plainA Aw14) all0))) K22 (allS (own_plainE (((((A4.keep K5).wr W6).keep K10).keep K14).keep K18)) (allS (own_plainA Aw18) all0)))) (W := 0) (pc := 114) (Ls := #[rv a, iv x1, iv 4]) (argsL := [(.int (g 4))]) (rest := []) (st0 := [(.int (g 4)), (.ref b4)]) (by rw [hml]; rfl) (lenOf own_pd4 rfl) rfl (Nat.le_of_eq rfl) (hb hby own_d3_114) (by first | decide | omega | (dsimp only; omega) | (dsimp only; done)) (by first | decide | omega | (dsimp only; omega) | (dsimp only; done)) (by first | decide | omega | (dsimp only; omega) | (dsimp only; done)) (by first | decide | omega | (dsimp only; omega) | (dsimp only; done)) ?_
   intro v26 T26 L26 X26 hQ26
   obtain ⟨rfl, Nq26, K26, w26, hw26, gw26, nb26, Fw26, ⟨wu26, hwu26, Fu26⟩, Fs26, Aw26⟩ := hQ26
   have N26 := Fr.app N22 Nq26
   show own_Ends p e below s _ _ _ (own_F T26 m 117 #[rv a, iv x1, iv 4] [])
   have ne_a_w26 : a ≠ w26 := by rcases hw26 with q_ | q_; rw [← q_]; exact ne_a_w22; exact Nat.ne_of_lt (Nat.lt_of_lt_of_le (((((((Ea.ext E4).keep K5).wr W6).keep K10).keep K14).keep K18).keep K22).lt q_)
   have ne_aN_w26 : aN ≠ w26 := by rcases hw26 with q_ | q_; rw [← q_]; exact ne_aN_w22; exact Nat.ne_of_lt (Nat.lt_of_lt_of_le (((((((AN.ext E4).keep K5 (ninS ne_aN_b4 nin0)).other W6 (Ne.symm naN)).keep K10 (ninS ne_aN_b4 (ninS ne_aN_w5 nin0))).keep K14 (ninS ne_aN_b4 (ninS ne_aN_w10 nin0))).keep K18 (ninS ne_aN_b4 (ninS ne_aN_w14 nin0))).keep K22 (ninS ne_aN_b4 (ninS ne_aN_w18 nin0))).lt q_)
   obtain ⟨hb5, hs5, hq5, -⟩ := own_stepB hst5 (by have := (hgi 4 (by decide)); omega) hs4
   obtain ⟨wn5, hwn5⟩ : ∃ z : Nat, z = max wn4 ((g 4).toInt.toNat / 64 + 1) := ⟨_, rfl⟩
   rw [← hwn5] at hwu26
   have hwc5 : wn5 ≤ c5 := by have := hwc4; omega
   obtain ⟨U5, hU5⟩ : ∃ z : Nat → Int64, z = own_up U4 (g 4) := ⟨_, rfl⟩
   rw [← hU5] at Aw26
   have hz5 : ∀ i, wn5 ≤ i → U5 i = 0 := by rw [hU5]; exact own_upz (own_zmono hz4 (by omega)) (by omega)
   refine own_g (own_F T26 m 120 #[rv a, iv x1, iv 5] []) (fun _ z_ => XS.iinc X26.here hx rfl (hb hby own_d3_117) rfl (l' := #[rv a, iv x1, iv 5]) rfl z_) ?_
   refine own_g (own_F T26 m 96 #[rv a, iv x1, iv 5] []) (fun _ z_ => XS.goto X26.here hx rfl (pc0 := 120) (pc' := 96) rfl (hb hby own_d3_120) (by decide) (by decide) z_) ?_
   refine own_g (own_F T26 m 97 #[rv a, iv x1, iv 5] [(.int 5)]) (fun _ z_ => XS.iloadN X26.here hx rfl (hb hby own_d3_96) rfl z_) ?_
   refine own_g (own_F T26 m 98 #[rv a, iv x1, iv 5] [(.ref a), (.int 5)]) (fun _ z_ => XS.aloadN X26.here hx rfl (hb hby own_d3_97) rfl rfl z_) ?_
   obtain ⟨T27, X27, e27, st27⟩ := getF X26 hx hZ hown (host := "") (Or.inl (own_w hw 30)) Via.refl (rfl : T26.heap = T26.heap) ((((((((Fs.ext E4).keep K5 (ninS ne_a_b4 nin0)).other W6 (Or.inr (slot_ne (C := "com/example/kunci/kunci/NumberSet") (Or.inl (own_w hw 31)) (Or.inl (own_w hw 25)) (by decide) (t := .int) (t' := (.object "java/util/BitSet")) (by decide) (by decide)))).keep K10 (ninS ne_a_b4 (ninS ne_a_w5 nin0))).keep K14 (ninS ne_a_b4 (ninS ne_a_w10 nin0))).keep K18 (ninS ne_a_b4 (ninS ne_a_w14 nin0))).keep K22 (ninS ne_a_b4 (ninS ne_a_w18 nin0))).keep K26 (ninS ne_a_b4 (ninS ne_a_w22 nin0))) (g := (mkF m 98 #[rv a, iv x1, iv 5] [(.ref a), (.int 5)])) rfl rfl (hb hby own_d3_98)
   refine own_pre (S' := (own_F T27 m 101 #[rv a, iv x1, iv 5] [(.int 8), (.int 5)])) st27 ?_
   refine own_g (own_F T27 m 104 #[rv a, iv x1, iv 5] []) (fun _ z_ => XS.icmpNo X27.here hx rfl (hb hby own_d3_101) rfl (tlt (by decide : ((5 : Int32) < (8 : Int32)))).2.1 z_) ?_
   refine own_g (own_F T27 m 105 #[rv a, iv x1, iv 5] [(.ref a)]) (fun _ z_ => XS.aloadN X27.here hx rfl (hb hby own_d3_104) rfl rfl z_) ?_
   obtain ⟨T28, X28, e28, st28⟩ := getF X27 hx hZ hown (host := "") (Or.inl (own_w hw 24)) Via.refl e27 (((((Fw6.keep K10 (ninS ne_a_b4 (ninS ne_a_w5 nin0))).keep K14 (ninS ne_a_b4 (ninS ne_a_w10 nin0))).keep K18 (ninS ne_a_b4 (ninS ne_a_w14 nin0))).keep K22 (ninS ne_a_b4 (ninS ne_a_w18 nin0))).keep K26 (ninS ne_a_b4 (ninS ne_a_w22 nin0))) (g := (mkF m 105 #[rv a, iv x1, iv 5] [(.ref a)])) rfl rfl (hb hby own_d3_105)
   refine own_pre (S' := (own_F T28 m 108 #[rv a, iv x1, iv 5] [(.ref b4)])) st28 ?_
   refine own_g (own_F T28 m 109 #[rv a, iv x1, iv 5] [(.ref a), (.ref b4)]) (fun _ z_ => XS.aloadN X28.here hx rfl (hb hby own_d3_108) rfl rfl z_) ?_
   obtain ⟨T29, X29, e29, st29⟩ := getF X28 hx hZ hown (host := "") (Or.inl (own_w hw 12)) Via.refl e28 ((((((((Fn.ext E4).keep K5 (ninS ne_a_b4 nin0)).other W6 (Or.inr (slot_ne (C := "com/example/kunci/kunci/NumberSet") (Or.inl (own_w hw 13)) (Or.inl (own_w hw 25)) (by decide) (t := (.array .int)) (t' := (.object "java/util/BitSet")) (by decide) (by decide)))).keep K10 (ninS ne_a_b4 (ninS ne_a_w5 nin0))).keep K14 (ninS ne_a_b4 (ninS ne_a_w10 nin0))).keep K18 (ninS ne_a_b4 (ninS ne_a_w14 nin0))).keep K22 (ninS ne_a_b4 (ninS ne_a_w18 nin0))).keep K26 (ninS ne_a_b4 (ninS ne_a_w22 nin0))) (g := (mkF m 109 #[rv a, iv x1, iv 5] [(.ref a), (.ref b4)])) rfl rfl (hb hby own_d3_109)
   refine own_pre (S' := (own_F T29 m 112 #[rv a, iv x1, iv 5] [(.ref aN), (.ref b4)])) st29 ?_
   refine own_g (own_F T29 m 113 #[rv a, iv x1, iv 5] [(.int 5), (.ref aN), (.ref b4)]) (fun _ z_ => XS.iloadN X29.here hx rfl (hb hby own_d3_112) rfl z_) ?_
   refine own_iald X29 hx hZ e29 ((((((((AN.ext E4).keep K5 (ninS ne_aN_b4 nin0)).other W6 (Ne.symm naN)).keep K10 (ninS ne_aN_b4 (ninS ne_aN_w5 nin0))).keep K14 (ninS ne_aN_b4 (ninS ne_aN_w10 nin0))).keep K18 (ninS ne_aN_b4 (ninS ne_aN_w14 nin0))).keep K22 (ninS ne_aN_b4 (ninS ne_aN_w18 nin0))).keep K26 (ninS ne_aN_b4 (ninS ne_aN_w22 nin0))) 5 rfl (by decide) (hb hby own_d3_113) ?_
   show own_Ends p e below s _ _ _ (own_F T29 m 114 #[rv a, iv x1, iv 5] [(.int (g 5)), (.ref b4)])
   refine own_callV (C := "java/util/BitSet") (y := (⟨"java/util/BitSet", "set", "(I)V"⟩ : MethodName)) (b := b4) X29 hx hZ hown (own_w hw 80) (own_w hw 81) (own_w hw 83) (own_w hw 82) (own_w hw 84) (own_w hw 60) (by decide) e29 (((((((A4.keep K5).wr W6).keep K10).keep K14).keep K18).keep K22).keep K26) (hM := own_setG l Z a0 hw [] b4 w26 c5 c6 k6 (g 5) (Nat.toInt32 c5) U5 wu26 wn5 T26.heap n0 (Nat.le_trans (Nat.le_trans (Nat.le_trans (Nat.le_trans (Nat.le_trans (Nat.le_trans (Nat.le_trans (Nat.le_trans Z0 E4.1) K5.1) (Nat.le_of_eq W6.size.symm)) K10.1) K14.1) K18.1) K22.1) K26.1) (hgi 5 (by decide)) hwu26 hwc5 hst6 (len_toInt (by omega)) hs5 hz5 (((((((A4.keep K5).wr W6).keep K10).keep K14).keep K18).keep K22).keep K26) ge_b4 gw26 nb26 Fw26 Fu26 Fs26 Aw26 (own_sta_keep (own_sta_keep (own_sta_keep (own_sta_keep (own_sta_keep ((own_sta_keep (S_ad.ext E4) K5 (allS (own_plainE A4) all0)).wr W6) K10 (allS (own_plainE ((A4.keep K5).wr W6)) (allS (own_plainA (Aw5.other W6 (Ne.symm ne_a_w5))) all0))) K14 (allS (own_plainE (((A4.keep K5).wr W6).keep K10)) (allS (own_plainA Aw10) all0))) K18 (allS (own_plainE ((((A4.keep K5).wr W6).keep K10).keep K14)) (allS (own_plainA Aw14) all0))) K22 (allS (own_plainE (((((A4.keep K5).wr W6).keep K10).keep K14).keep K18)) (allS (own_plainA Aw18) all0))) K26 (allS (own_plainE ((((((A4.keep K5).wr W6).keep K10).keep K14).keep K18).keep K22)) (allS (own_plainA Aw22) all0)))) (W := 0) (pc := 114) (Ls := #[rv a, iv x1, iv 5]) (argsL := [(.int (g 5))]) (rest := []) (st0 := [(.int (g 5)), (.ref b4)]) (by rw [hml]; rfl) (lenOf own_pd4 rfl) rfl (Nat.le_of_eq rfl) (hb hby own_d3_114) (by first | decide | omega | (dsimp only; omega) | (dsimp only; done)) (by first | decide | omega | (dsimp only; omega) | (dsimp only; done)) (by first | decide | omega | (dsimp only; omega) | (dsimp only; done)) (by first | decide | omega | (dsimp only; omega) | (dsimp only; done)) ?_
   intro v30 T30 L30 X30 hQ30
   obtain ⟨rfl, Nq30, K30, w30, hw30, gw30, nb30, Fw30, ⟨wu30, hwu30, Fu30⟩, Fs30, Aw30⟩ := hQ30
   have N30 := Fr.app N26 Nq30
   show own_Ends p e below s _ _ _ (own_F T30 m 117 #[rv a, iv x1, iv 5] [])
   have ne_a_w30 : a ≠ w30 := by rcases hw30 with q_ | q_; rw [← q_]; exact ne_a_w26; exact Nat.ne_of_lt (Nat.lt_of_lt_of_le ((((((((Ea.ext E4).keep K5).wr W6).keep K10).keep K14).keep K18).keep K22).keep K26).lt q_)
   have ne_aN_w30 : aN ≠ w30 := by rcases hw30 with q_ | q_; rw [← q_]; exact ne_aN_w26; exact Nat.ne_of_lt (Nat.lt_of_lt_of_le ((((((((AN.ext E4).keep K5 (ninS ne_aN_b4 nin0)).other W6 (Ne.symm naN)).keep K10 (ninS ne_aN_b4 (ninS ne_aN_w5 nin0))).keep K14 (ninS ne_aN_b4 (ninS ne_aN_w10 nin0))).keep K18 (ninS ne_aN_b4 (ninS ne_aN_w14 nin0))).keep K22 (ninS ne_aN_b4 (ninS ne_aN_w18 nin0))).keep K26 (ninS ne_aN_b4 (ninS ne_aN_w22 nin0))).lt q_)
   obtain ⟨hb6, hs6, hq6, -⟩ := own_stepB hst6 (by have := (hgi 5 (by decide)); omega) hs5
   obtain ⟨wn6, hwn6⟩ : ∃ z : Nat, z = max wn5 ((g 5).toInt.toNat / 64 + 1) := ⟨_, rfl⟩
   rw [← hwn6] at hwu30
   have hwc6 : wn6 ≤ c6 := by have := hwc5; omega
   obtain ⟨U6, hU6⟩ : ∃ z : Nat → Int64, z = own_up U5 (g 5) := ⟨_, rfl⟩
   rw [← hU6] at Aw30
   have hz6 : ∀ i, wn6 ≤ i → U6 i = 0 := by rw [hU6]; exact own_upz (own_zmono hz5 (by omega)) (by omega)
   refine own_g (own_F T30 m 120 #[rv a, iv x1, iv 6] []) (fun _ z_ => XS.iinc X30.here hx rfl (hb hby own_d3_117) rfl (l' := #[rv a, iv x1, iv 6]) rfl z_) ?_
   refine own_g (own_F T30 m 96 #[rv a, iv x1, iv 6] []) (fun _ z_ => XS.goto X30.here hx rfl (pc0 := 120) (pc' := 96) rfl (hb hby own_d3_120) (by decide) (by decide) z_) ?_
   refine own_g (own_F T30 m 97 #[rv a, iv x1, iv 6] [(.int 6)]) (fun _ z_ => XS.iloadN X30.here hx rfl (hb hby own_d3_96) rfl z_) ?_
   refine own_g (own_F T30 m 98 #[rv a, iv x1, iv 6] [(.ref a), (.int 6)]) (fun _ z_ => XS.aloadN X30.here hx rfl (hb hby own_d3_97) rfl rfl z_) ?_
   obtain ⟨T31, X31, e31, st31⟩ := getF X30 hx hZ hown (host := "") (Or.inl (own_w hw 30)) Via.refl (rfl : T30.heap = T30.heap) (((((((((Fs.ext E4).keep K5 (ninS ne_a_b4 nin0)).other W6 (Or.inr (slot_ne (C := "com/example/kunci/kunci/NumberSet") (Or.inl (own_w hw 31)) (Or.inl (own_w hw 25)) (by decide) (t := .int) (t' := (.object "java/util/BitSet")) (by decide) (by decide)))).keep K10 (ninS ne_a_b4 (ninS ne_a_w5 nin0))).keep K14 (ninS ne_a_b4 (ninS ne_a_w10 nin0))).keep K18 (ninS ne_a_b4 (ninS ne_a_w14 nin0))).keep K22 (ninS ne_a_b4 (ninS ne_a_w18 nin0))).keep K26 (ninS ne_a_b4 (ninS ne_a_w22 nin0))).keep K30 (ninS ne_a_b4 (ninS ne_a_w26 nin0))) (g := (mkF m 98 #[rv a, iv x1, iv 6] [(.ref a), (.int 6)])) rfl rfl (hb hby own_d3_98)
   refine own_pre (S' := (own_F T31 m 101 #[rv a, iv x1, iv 6] [(.int 8), (.int 6)])) st31 ?_
   refine own_g (own_F T31 m 104 #[rv a, iv x1, iv 6] []) (fun _ z_ => XS.icmpNo X31.here hx rfl (hb hby own_d3_101) rfl (tlt (by decide : ((6 : Int32) < (8 : Int32)))).2.1 z_) ?_
   refine own_g (own_F T31 m 105 #[rv a, iv x1, iv 6] [(.ref a)]) (fun _ z_ => XS.aloadN X31.here hx rfl (hb hby own_d3_104) rfl rfl z_) ?_
   obtain ⟨T32, X32, e32, st32⟩ := getF X31 hx hZ hown (host := "") (Or.inl (own_w hw 24)) Via.refl e31 ((((((Fw6.keep K10 (ninS ne_a_b4 (ninS ne_a_w5 nin0))).keep K14 (ninS ne_a_b4 (ninS ne_a_w10 nin0))).keep K18 (ninS ne_a_b4 (ninS ne_a_w14 nin0))).keep K22 (ninS ne_a_b4 (ninS ne_a_w18 nin0))).keep K26 (ninS ne_a_b4 (ninS ne_a_w22 nin0))).keep K30 (ninS ne_a_b4 (ninS ne_a_w26 nin0))) (g := (mkF m 105 #[rv a, iv x1, iv 6] [(.ref a)])) rfl rfl (hb hby own_d3_105)
   refine own_pre (S' := (own_F T32 m 108 #[rv a, iv x1, iv 6] [(.ref b4)])) st32 ?_
   refine own_g (own_F T32 m 109 #[rv a, iv x1, iv 6] [(.ref a), (.ref b4)]) (fun _ z_ => XS.aloadN X32.here hx rfl (hb hby own_d3_108) rfl rfl z_) ?_
   obtain ⟨T33, X33, e33, st33⟩ := getF X32 hx hZ hown (host := "") (Or.inl (own_w hw 12)) Via.refl e32 (((((((((Fn.ext E4).keep K5 (ninS ne_a_b4 nin0)).other W6 (Or.inr (slot_ne (C := "com/example/kunci/kunci/NumberSet") (Or.inl (own_w hw 13)) (Or.inl (own_w hw 25)) (by decide) (t := (.array .int)) (t' := (.object "java/util/BitSet")) (by decide) (by decide)))).keep K10 (ninS ne_a_b4 (ninS ne_a_w5 nin0))).keep K14 (ninS ne_a_b4 (ninS ne_a_w10 nin0))).keep K18 (ninS ne_a_b4 (ninS ne_a_w14 nin0))).keep K22 (ninS ne_a_b4 (ninS ne_a_w18 nin0))).keep K26 (ninS ne_a_b4 (ninS ne_a_w22 nin0))).keep K30 (ninS ne_a_b4 (ninS ne_a_w26 nin0))) (g := (mkF m 109 #[rv a, iv x1, iv 6] [(.ref a), (.ref b4)])) rfl rfl (hb hby own_d3_109)
   refine own_pre (S' := (own_F T33 m 112 #[rv a, iv x1, iv 6] [(.ref aN), (.ref b4)])) st33 ?_
   refine own_g (own_F T33 m 113 #[rv a, iv x1, iv 6] [(.int 6), (.ref aN), (.ref b4)]) (fun _ z_ => XS.iloadN X33.here hx rfl (hb hby own_d3_112) rfl z_) ?_
   refine own_iald X33 hx hZ e33 (((((((((AN.ext E4).keep K5 (ninS ne_aN_b4 nin0)).other W6 (Ne.symm naN)).keep K10 (ninS ne_aN_b4 (ninS ne_aN_w5 nin0))).keep K14 (ninS ne_aN_b4 (ninS ne_aN_w10 nin0))).keep K18 (ninS ne_aN_b4 (ninS ne_aN_w14 nin0))).keep K22 (ninS ne_aN_b4 (ninS ne_aN_w18 nin0))).keep K26 (ninS ne_aN_b4 (ninS ne_aN_w22 nin0))).keep K30 (ninS ne_aN_b4 (ninS ne_aN_w26 nin0))) 6 rfl (by decide) (hb hby own_d3_113) ?_
   show own_Ends p e below s _ _ _ (own_F T33 m 114 #[rv a, iv x1, iv 6] [(.int (g 6)), (.ref b4)])
   refine own_callV (C := "java/util/BitSet") (y := (⟨"java/util/BitSet", "set", "(I)V"⟩ : MethodName)) (b := b4) X33 hx hZ hown (own_w hw 80) (own_w hw 81) (own_w hw 83) (own_w hw 82) (own_w hw 84) (own_w hw 60) (by decide) e33 ((((((((A4.keep K5).wr W6).keep K10).keep K14).keep K18).keep K22).keep K26).keep K30) (hM := own_setG l Z a0 hw [] b4 w30 c6 c7 k7 (g 6) (Nat.toInt32 c6) U6 wu30 wn6 T30.heap n0 (Nat.le_trans (Nat.le_trans (Nat.le_trans (Nat.le_trans (Nat.le_trans (Nat.le_trans (Nat.le_trans (Nat.le_trans (Nat.le_trans Z0 E4.1) K5.1) (Nat.le_of_eq W6.size.symm)) K10.1) K14.1) K18.1) K22.1) K26.1) K30.1) (hgi 6 (by decide)) hwu30 hwc6 hst7 (len_toInt (by omega)) hs6 hz6 ((((((((A4.keep K5).wr W6).keep K10).keep K14).keep K18).keep K22).keep K26).keep K30) ge_b4 gw30 nb30 Fw30 Fu30 Fs30 Aw30 (own_sta_keep (own_sta_keep (own_sta_keep (own_sta_keep (own_sta_keep (own_sta_keep ((own_sta_keep (S_ad.ext E4) K5 (allS (own_plainE A4) all0)).wr W6) K10 (allS (own_plainE ((A4.keep K5).wr W6)) (allS (own_plainA (Aw5.other W6 (Ne.symm ne_a_w5))) all0))) K14 (allS (own_plainE (((A4.keep K5).wr W6).keep K10)) (allS (own_plainA Aw10) all0))) K18 (allS (own_plainE ((((A4.keep K5).wr W6).keep K10).keep K14)) (allS (own_plainA Aw14) all0))) K22 (allS (own_plainE (((((A4.keep K5).wr W6).keep K10).keep K14).keep K18)) (allS (own_plainA Aw18) all0))) K26 (allS (own_plainE ((((((A4.keep K5).wr W6).keep K10).keep K14).keep K18).keep K22)) (allS (own_plainA Aw22) all0))) K30 (allS (own_plainE (((((((A4.keep K5).wr W6).keep K10).keep K14).keep K18).keep K22).keep K26)) (allS (own_plainA Aw26) all0)))) (W := 0) (pc := 114) (Ls := #[rv a, iv x1, iv 6]) (argsL := [(.int (g 6))]) (rest := []) (st0 := [(.int (g 6)), (.ref b4)]) (by rw [hml]; rfl) (lenOf own_pd4 rfl) rfl (Nat.le_of_eq rfl) (hb hby own_d3_114) (by first | decide | omega | (dsimp only; omega) | (dsimp only; done)) (by first | decide | omega | (dsimp only; omega) | (dsimp only; done)) (by first | decide | omega | (dsimp only; omega) | (dsimp only; done)) (by first | decide | omega | (dsimp only; omega) | (dsimp only; done)) ?_
   intro v34 T34 L34 X34 hQ34
   obtain ⟨rfl, Nq34, K34, w34, hw34, gw34, nb34, Fw34, ⟨wu34, hwu34, Fu34⟩, Fs34, Aw34⟩ := hQ34
   have N34 := Fr.app N30 Nq34
   show own_Ends p e below s _ _ _ (own_F T34 m 117 #[rv a, iv x1, iv 6] [])
   have ne_a_w34 : a ≠ w34 := by rcases hw34 with q_ | q_; rw [← q_]; exact ne_a_w30; exact Nat.ne_of_lt (Nat.lt_of_lt_of_le (((((((((Ea.ext E4).keep K5).wr W6).keep K10).keep K14).keep K18).keep K22).keep K26).keep K30).lt q_)
   have ne_aN_w34 : aN ≠ w34 := by rcases hw34 with q_ | q_; rw [← q_]; exact ne_aN_w30; exact Nat.ne_of_lt (Nat.lt_of_lt_of_le (((((((((AN.ext E4).keep K5 (ninS ne_aN_b4 nin0)).other W6 (Ne.symm naN)).keep K10 (ninS ne_aN_b4 (ninS ne_aN_w5 nin0))).keep K14 (ninS ne_aN_b4 (ninS ne_aN_w10 nin0))).keep K18 (ninS ne_aN_b4 (ninS ne_aN_w14 nin0))).keep K22 (ninS ne_aN_b4 (ninS ne_aN_w18 nin0))).keep K26 (ninS ne_aN_b4 (ninS ne_aN_w22 nin0))).keep K30 (ninS ne_aN_b4 (ninS ne_aN_w26 nin0))).lt q_)
   obtain ⟨hb7, hs7, hq7, -⟩ := own_stepB hst7 (by have := (hgi 6 (by decide)); omega) hs6
   obtain ⟨wn7, hwn7⟩ : ∃ z : Nat, z = max wn6 ((g 6).toInt.toNat / 64 + 1) := ⟨_, rfl⟩
   rw [← hwn7] at hwu34
   have hwc7 : wn7 ≤ c7 := by have := hwc6; omega
   obtain ⟨U7, hU7⟩ : ∃ z : Nat → Int64, z = own_up U6 (g 6) := ⟨_, rfl⟩
   rw [← hU7] at Aw34
   have hz7 : ∀ i, wn7 ≤ i → U7 i = 0 := by rw [hU7]; exact own_upz (own_zmono hz6 (by omega)) (by omega)
   refine own_g (own_F T34 m 120 #[rv a, iv x1, iv 7] []) (fun _ z_ => XS.iinc X34.here hx rfl (hb hby own_d3_117) rfl (l' := #[rv a, iv x1, iv 7]) rfl z_) ?_
   refine own_g (own_F T34 m 96 #[rv a, iv x1, iv 7] []) (fun _ z_ => XS.goto X34.here hx rfl (pc0 := 120) (pc' := 96) rfl (hb hby own_d3_120) (by decide) (by decide) z_) ?_
   refine own_g (own_F T34 m 97 #[rv a, iv x1, iv 7] [(.int 7)]) (fun _ z_ => XS.iloadN X34.here hx rfl (hb hby own_d3_96) rfl z_) ?_
   refine own_g (own_F T34 m 98 #[rv a, iv x1, iv 7] [(.ref a), (.int 7)]) (fun _ z_ => XS.aloadN X34.here hx rfl (hb hby own_d3_97) rfl rfl z_) ?_
   obtain ⟨T35, X35, e35, st35⟩ := getF X34 hx hZ hown (host := "") (Or.inl (own_w hw 30)) Via.refl (rfl : T34.heap = T34.heap) ((((((((((Fs.ext E4).keep K5 (ninS ne_a_b4 nin0)).other W6 (Or.inr (slot_ne (C := "com/example/kunci/kunci/NumberSet") (Or.inl (own_w hw 31)) (Or.inl (own_w hw 25)) (by decide) (t := .int) (t' := (.object "java/util/BitSet")) (by decide) (by decide)))).keep K10 (ninS ne_a_b4 (ninS ne_a_w5 nin0))).keep K14 (ninS ne_a_b4 (ninS ne_a_w10 nin0))).keep K18 (ninS ne_a_b4 (ninS ne_a_w14 nin0))).keep K22 (ninS ne_a_b4 (ninS ne_a_w18 nin0))).keep K26 (ninS ne_a_b4 (ninS ne_a_w22 nin0))).keep K30 (ninS ne_a_b4 (ninS ne_a_w26 nin0))).keep K34 (ninS ne_a_b4 (ninS ne_a_w30 nin0))) (g := (mkF m 98 #[rv a, iv x1, iv 7] [(.ref a), (.int 7)])) rfl rfl (hb hby own_d3_98)
   refine own_pre (S' := (own_F T35 m 101 #[rv a, iv x1, iv 7] [(.int 8), (.int 7)])) st35 ?_
   refine own_g (own_F T35 m 104 #[rv a, iv x1, iv 7] []) (fun _ z_ => XS.icmpNo X35.here hx rfl (hb hby own_d3_101) rfl (tlt (by decide : ((7 : Int32) < (8 : Int32)))).2.1 z_) ?_
   refine own_g (own_F T35 m 105 #[rv a, iv x1, iv 7] [(.ref a)]) (fun _ z_ => XS.aloadN X35.here hx rfl (hb hby own_d3_104) rfl rfl z_) ?_
   obtain ⟨T36, X36, e36, st36⟩ := getF X35 hx hZ hown (host := "") (Or.inl (own_w hw 24)) Via.refl e35 (((((((Fw6.keep K10 (ninS ne_a_b4 (ninS ne_a_w5 nin0))).keep K14 (ninS ne_a_b4 (ninS ne_a_w10 nin0))).keep K18 (ninS ne_a_b4 (ninS ne_a_w14 nin0))).keep K22 (ninS ne_a_b4 (ninS ne_a_w18 nin0))).keep K26 (ninS ne_a_b4 (ninS ne_a_w22 nin0))).keep K30 (ninS ne_a_b4 (ninS ne_a_w26 nin0))).keep K34 (ninS ne_a_b4 (ninS ne_a_w30 nin0))) (g := (mkF m 105 #[rv a, iv x1, iv 7] [(.ref a)])) rfl rfl (hb hby own_d3_105)
   refine own_pre (S' := (own_F T36 m 108 #[rv a, iv x1, iv 7] [(.ref b4)])) st36 ?_
   refine own_g (own_F T36 m 109 #[rv a, iv x1, iv 7] [(.ref a), (.ref b4)]) (fun _ z_ => XS.aloadN X36.here hx rfl (hb hby own_d3_108) rfl rfl z_) ?_
   obtain ⟨T37, X37, e37, st37⟩ := getF X36 hx hZ hown (host := "") (Or.inl (own_w hw 12)) Via.refl e36 ((((((((((Fn.ext E4).keep K5 (ninS ne_a_b4 nin0)).other W6 (Or.inr (slot_ne (C := "com/example/kunci/kunci/NumberSet") (Or.inl (own_w hw 13)) (Or.inl (own_w hw 25)) (by decide) (t := (.array .int)) (t' := (.object "java/util/BitSet")) (by decide) (by decide)))).keep K10 (ninS ne_a_b4 (ninS ne_a_w5 nin0))).keep K14 (ninS ne_a_b4 (ninS ne_a_w10 nin0))).keep K18 (ninS ne_a_b4 (ninS ne_a_w14 nin0))).keep K22 (ninS ne_a_b4 (ninS ne_a_w18 nin0))).keep K26 (ninS ne_a_b4 (ninS ne_a_w22 nin0))).keep K30 (ninS ne_a_b4 (ninS ne_a_w26 nin0))).keep K34 (ninS ne_a_b4 (ninS ne_a_w30 nin0))) (g := (mkF m 109 #[rv a, iv x1, iv 7] [(.ref a), (.ref b4)])) rfl rfl (hb hby own_d3_109)
   refine own_pre (S' := (own_F T37 m 112 #[rv a, iv x1, iv 7] [(.ref aN), (.ref b4)])) st37 ?_
   refine own_g (own_F T37 m 113 #[rv a, iv x1, iv 7] [(.int 7), (.ref aN), (.ref b4)]) (fun _ z_ => XS.iloadN X37.here hx rfl (hb hby own_d3_112) rfl z_) ?_
   refine own_iald X37 hx hZ e37 ((((((((((AN.ext E4).keep K5 (ninS ne_aN_b4 nin0)).other W6 (Ne.symm naN)).keep K10 (ninS ne_aN_b4 (ninS ne_aN_w5 nin0))).keep K14 (ninS ne_aN_b4 (ninS ne_aN_w10 nin0))).keep K18 (ninS ne_aN_b4 (ninS ne_aN_w14 nin0))).keep K22 (ninS ne_aN_b4 (ninS ne_aN_w18 nin0))).keep K26 (ninS ne_aN_b4 (ninS ne_aN_w22 nin0))).keep K30 (ninS ne_aN_b4 (ninS ne_aN_w26 nin0))).keep K34 (ninS ne_aN_b4 (ninS ne_aN_w30 nin0))) 7 rfl (by decide) (hb hby own_d3_113) ?_
   show own_Ends p e below s _ _ _ (own_F T37 m 114 #[rv a, iv x1, iv 7] [(.int (g 7)), (.ref b4)])
   refine own_callV (C := "java/util/BitSet") (y := (⟨"java/util/BitSet", "set", "(I)V"⟩ : MethodName)) (b := b4) X37 hx hZ hown (own_w hw 80) (own_w hw 81) (own_w hw 83) (own_w hw 82) (own_w hw 84) (own_w hw 60) (by decide) e37 (((((((((A4.keep K5).wr W6).keep K10).keep K14).keep K18).keep K22).keep K26).keep K30).keep K34) (hM := own_setG l Z a0 hw [] b4 w34 c7 c8 k8 (g 7) (Nat.toInt32 c7) U7 wu34 wn7 T34.heap n0 (Nat.le_trans (Nat.le_trans (Nat.le_trans (Nat.le_trans (Nat.le_trans (Nat.le_trans (Nat.le_trans (Nat.le_trans (Nat.le_trans (Nat.le_trans Z0 E4.1) K5.1) (Nat.le_of_eq W6.size.symm)) K10.1) K14.1) K18.1) K22.1) K26.1) K30.1) K34.1) (hgi 7 (by decide)) hwu34 hwc7 hst8 (len_toInt (by omega)) hs7 hz7 (((((((((A4.keep K5).wr W6).keep K10).keep K14).keep K18).keep K22).keep K26).keep K30).keep K34) ge_b4 gw34 nb34 Fw34 Fu34 Fs34 Aw34 (own_sta_keep (own_sta_keep (own_sta_keep (own_sta_keep (own_sta_keep (own_sta_keep (own_sta_keep ((own_sta_keep (S_ad.ext E4) K5 (allS (own_plainE A4) all0)).wr W6) K10 (allS (own_plainE ((A4.keep K5).wr W6)) (allS (own_plainA (Aw5.other W6 (Ne.symm ne_a_w5))) all0))) K14 (allS (own_plainE (((A4.keep K5).wr W6).keep K10)) (allS (own_plainA Aw10) all0))) K18 (allS (own_plainE ((((A4.keep K5).wr W6).keep K10).keep K14)) (allS (own_plainA Aw14) all0))) K22 (allS (own_plainE (((((A4.keep K5).wr W6).keep K10).keep K14).keep K18)) (allS (own_plainA Aw18) all0))) K26 (allS (own_plainE ((((((A4.keep K5).wr W6).keep K10).keep K14).keep K18).keep K22)) (allS (own_plainA Aw22) all0))) K30 (allS (own_plainE (((((((A4.keep K5).wr W6).keep K10).keep K14).keep K18).keep K22).keep K26)) (allS (own_plainA Aw26) all0))) K34 (allS (own_plainE ((((((((A4.keep K5).wr W6).keep K10).keep K14).keep K18).keep K22).keep K26).keep K30)) (allS (own_plainA Aw30) all0)))) (W := 0) (pc := 114) (Ls := #[rv a, iv x1, iv 7]) (argsL := [(.int (g 7))]) (rest := []) (st0 := [(.int (g 7)), (.ref b4)]) (by rw [hml]; rfl) (lenOf own_pd4 rfl) rfl (Nat.le_of_eq rfl) (hb hby own_d3_114) (by first | decide | omega | (dsimp only; omega) | (dsimp only; done)) (by first | decide | omega | (dsimp only; omega) | (dsimp only; done)) (by first | decide | omega | (dsimp only; omega) | (dsimp only; done)) (by first | decide | omega | (dsimp only; omega) | (dsimp only; done)) ?_
   intro v38 T38 L38 X38 hQ38
   obtain ⟨rfl, Nq38, K38, w38, hw38, gw38, nb38, Fw38, ⟨wu38, hwu38, Fu38⟩, Fs38, Aw38⟩ := hQ38
   have N38 := Fr.app N34 Nq38
   show own_Ends p e below s _ _ _ (own_F T38 m 117 #[rv a, iv x1, iv 7] [])
   have ne_a_w38 : a ≠ w38 := by rcases hw38 with q_ | q_; rw [← q_]; exact ne_a_w34; exact Nat.ne_of_lt (Nat.lt_of_lt_of_le ((((((((((Ea.ext E4).keep K5).wr W6).keep K10).keep K14).keep K18).keep K22).keep K26).keep K30).keep K34).lt q_)
   have ne_aN_w38 : aN ≠ w38 := by rcases hw38 with q_ | q_; rw [← q_]; exact ne_aN_w34; exact Nat.ne_of_lt (Nat.lt_of_lt_of_le ((((((((((AN.ext E4).keep K5 (ninS ne_aN_b4 nin0)).other W6 (Ne.symm naN)).keep K10 (ninS ne_aN_b4 (ninS ne_aN_w5 nin0))).keep K14 (ninS ne_aN_b4 (ninS ne_aN_w10 nin0))).keep K18 (ninS ne_aN_b4 (ninS ne_aN_w14 nin0))).keep K22 (ninS ne_aN_b4 (ninS ne_aN_w18 nin0))).keep K26 (ninS ne_aN_b4 (ninS ne_aN_w22 nin0))).keep K30 (ninS ne_aN_b4 (ninS ne_aN_w26 nin0))).keep K34 (ninS ne_aN_b4 (ninS ne_aN_w30 nin0))).lt q_)
   obtain ⟨hb8, hs8, hq8, -⟩ := own_stepB hst8 (by have := (hgi 7 (by decide)); omega) hs7
   obtain ⟨wn8, hwn8⟩ : ∃ z : Nat, z = max wn7 ((g 7).toInt.toNat / 64 + 1) := ⟨_, rfl⟩
   rw [← hwn8] at hwu38
   have hwc8 : wn8 ≤ c8 := by have := hwc7; omega
   obtain ⟨U8, hU8⟩ : ∃ z : Nat → Int64, z = own_up U7 (g 7) := ⟨_, rfl⟩
   rw [← hU8] at Aw38
   have hz8 : ∀ i, wn8 ≤ i → U8 i = 0 := by rw [hU8]; exact own_upz (own_zmono hz7 (by omega)) (by omega)
   refine own_g (own_F T38 m 120 #[rv a, iv x1, iv 8] []) (fun _ z_ => XS.iinc X38.here hx rfl (hb hby own_d3_117) rfl (l' := #[rv a, iv x1, iv 8]) rfl z_) ?_
   refine own_g (own_F T38 m 96 #[rv a, iv x1, iv 8] []) (fun _ z_ => XS.goto X38.here hx rfl (pc0 := 120) (pc' := 96) rfl (hb hby own_d3_120) (by decide) (by decide) z_) ?_
   refine own_g (own_F T38 m 97 #[rv a, iv x1, iv 8] [(.int 8)]) (fun _ z_ => XS.iloadN X38.here hx rfl (hb hby own_d3_96) rfl z_) ?_
   refine own_g (own_F T38 m 98 #[rv a, iv x1, iv 8] [(.ref a), (.int 8)]) (fun _ z_ => XS.aloadN X38.here hx rfl (hb hby own_d3_97) rfl rfl z_) ?_
   obtain ⟨T39, X39, e39, st39⟩ := getF X38 hx hZ hown (host := "") (Or.inl (own_w hw 30)) Via.refl (rfl : T38.heap = T38.heap) (((((((((((Fs.ext E4).keep K5 (ninS ne_a_b4 nin0)).other W6 (Or.inr (slot_ne (C := "com/example/kunci/kunci/NumberSet") (Or.inl (own_w hw 31)) (Or.inl (own_w hw 25)) (by decide) (t := .int) (t' := (.object "java/util/BitSet")) (by decide) (by decide)))).keep K10 (ninS ne_a_b4 (ninS ne_a_w5 nin0))).keep K14 (ninS ne_a_b4 (ninS ne_a_w10 nin0))).keep K18 (ninS ne_a_b4 (ninS ne_a_w14 nin0))).keep K22 (ninS ne_a_b4 (ninS ne_a_w18 nin0))).keep K26 (ninS ne_a_b4 (ninS ne_a_w22 nin0))).keep K30 (ninS ne_a_b4 (ninS ne_a_w26 nin0))).keep K34 (ninS ne_a_b4 (ninS ne_a_w30 nin0))).keep K38 (ninS ne_a_b4 (ninS ne_a_w34 nin0))) (g := (mkF m 98 #[rv a, iv x1, iv 8] [(.ref a), (.int 8)])) rfl rfl (hb hby own_d3_98)
   refine own_pre (S' := (own_F T39 m 101 #[rv a, iv x1, iv 8] [(.int 8), (.int 8)])) st39 ?_
   refine own_g (own_F T39 m 123 #[rv a, iv x1, iv 8] []) (fun _ z_ => XS.icmpYes X39.here hx rfl (pc0 := 101) (pc' := 123) rfl (hb hby own_d3_101) rfl (flt (by decide : ¬ ((8 : Int32) < (8 : Int32)))).2.1 (by decide) (by decide) z_) ?_
   refine own_g (own_F T39 m 124 #[rv a, iv x1, iv 8] [(.ref a)]) (fun _ z_ => XS.aloadN X39.here hx rfl (hb hby own_d3_123) rfl rfl z_) ?_
   obtain ⟨T40, X40, e40, st40⟩ := getF X39 hx hZ hown (host := "") (Or.inl (own_w hw 24)) Via.refl e39 ((((((((Fw6.keep K10 (ninS ne_a_b4 (ninS ne_a_w5 nin0))).keep K14 (ninS ne_a_b4 (ninS ne_a_w10 nin0))).keep K18 (ninS ne_a_b4 (ninS ne_a_w14 nin0))).keep K22 (ninS ne_a_b4 (ninS ne_a_w18 nin0))).keep K26 (ninS ne_a_b4 (ninS ne_a_w22 nin0))).keep K30 (ninS ne_a_b4 (ninS ne_a_w26 nin0))).keep K34 (ninS ne_a_b4 (ninS ne_a_w30 nin0))).keep K38 (ninS ne_a_b4 (ninS ne_a_w34 nin0))) (g := (mkF m 124 #[rv a, iv x1, iv 8] [(.ref a)])) rfl rfl (hb hby own_d3_124)
   refine own_pre (S' := (own_F T40 m 127 #[rv a, iv x1, iv 8] [(.ref b4)])) st40 ?_
   refine own_g (own_F T40 m 128 #[rv a, iv x1, iv 8] [(.int x1), (.ref b4)]) (fun _ z_ => XS.iloadN X40.here hx rfl (hb hby own_d3_127) rfl z_) ?_
   refine own_callV (C := "java/util/BitSet") (y := (⟨"java/util/BitSet", "set", "(I)V"⟩ : MethodName)) (b := b4) X40 hx hZ hown (own_w hw 80) (own_w hw 81) (own_w hw 83) (own_w hw 82) (own_w hw 84) (own_w hw 60) (by decide) e40 ((((((((((A4.keep K5).wr W6).keep K10).keep K14).keep K18).keep K22).keep K26).keep K30).keep K34).keep K38) (hM := own_setG l Z a0 hw [] b4 w38 c8 c9 k9 x1 (Nat.toInt32 c8) U8 wu38 wn8 T38.heap n0 (Nat.le_trans (Nat.le_trans (Nat.le_trans (Nat.le_trans (Nat.le_trans (Nat.le_trans (Nat.le_trans (Nat.le_trans (Nat.le_trans (Nat.le_trans (Nat.le_trans Z0 E4.1) K5.1) (Nat.le_of_eq W6.size.symm)) K10.1) K14.1) K18.1) K22.1) K26.1) K30.1) K34.1) K38.1) hx1 hwu38 hwc8 hst9 (len_toInt (by omega)) hs8 hz8 ((((((((((A4.keep K5).wr W6).keep K10).keep K14).keep K18).keep K22).keep K26).keep K30).keep K34).keep K38) ge_b4 gw38 nb38 Fw38 Fu38 Fs38 Aw38 (own_sta_keep (own_sta_keep (own_sta_keep (own_sta_keep (own_sta_keep (own_sta_keep (own_sta_keep (own_sta_keep ((own_sta_keep (S_ad.ext E4) K5 (allS (own_plainE A4) all0)).wr W6) K10 (allS (own_plainE ((A4.keep K5).wr W6)) (allS (own_plainA (Aw5.other W6 (Ne.symm ne_a_w5))) all0))) K14 (allS (own_plainE (((A4.keep K5).wr W6).keep K10)) (allS (own_plainA Aw10) all0))) K18 (allS (own_plainE ((((A4.keep K5).wr W6).keep K10).keep K14)) (allS (own_plainA Aw14) all0))) K22 (allS (own_plainE (((((A4.keep K5).wr W6).keep K10).keep K14).keep K18)) (allS (own_plainA Aw18) all0))) K26 (allS (own_plainE ((((((A4.keep K5).wr W6).keep K10).keep K14).keep K18).keep K22)) (allS (own_plainA Aw22) all0))) K30 (allS (own_plainE (((((((A4.keep K5).wr W6).keep K10).keep K14).keep K18).keep K22).keep K26)) (allS (own_plainA Aw26) all0))) K34 (allS (own_plainE ((((((((A4.keep K5).wr W6).keep K10).keep K14).keep K18).keep K22).keep K26).keep K30)) (allS (own_plainA Aw30) all0))) K38 (allS (own_plainE (((((((((A4.keep K5).wr W6).keep K10).keep K14).keep K18).keep K22).keep K26).keep K30).keep K34)) (allS (own_plainA Aw34) all0)))) (W := 0) (pc := 128) (Ls := #[rv a, iv x1, iv 8]) (argsL := [(.int x1)]) (rest := []) (st0 := [(.int x1), (.ref b4)]) (by rw [hml]; rfl) (lenOf own_pd4 rfl) rfl (Nat.le_of_eq rfl) (hb hby own_d3_128) (by first | decide | omega | (dsimp only; omega) | (dsimp only; done)) (by first | decide | omega | (dsimp only; omega) | (dsimp only; done)) (by first | decide | omega | (dsimp only; omega) | (dsimp only; done)) (by first | decide | omega | (dsimp only; omega) | (dsimp only; done)) ?_
   intro v41 T41 L41 X41 hQ41
   obtain ⟨rfl, Nq41, K41, w41, hw41, gw41, nb41, Fw41, ⟨wu41, hwu41, Fu41⟩, Fs41, Aw41⟩ := hQ41
   have N41 := Fr.app N38 Nq41
   show own_Ends p e below s _ _ _ (own_F T41 m 131 #[rv a, iv x1, iv 8] [])
   have ne_a_w41 : a ≠ w41 := by rcases hw41 with q_ | q_; rw [← q_]; exact ne_a_w38; exact Nat.ne_of_lt (Nat.lt_of_lt_of_le (((((((((((Ea.ext E4).keep K5).wr W6).keep K10).keep K14).keep K18).keep K22).keep K26).keep K30).keep K34).keep K38).lt q_)
   have ne_aN_w41 : aN ≠ w41 := by rcases hw41 with q_ | q_; rw [← q_]; exact ne_aN_w38; exact Nat.ne_of_lt (Nat.lt_of_lt_of_le (((((((((((AN.ext E4).keep K5 (ninS ne_aN_b4 nin0)).other W6 (Ne.symm naN)).keep K10 (ninS ne_aN_b4 (ninS ne_aN_w5 nin0))).keep K14 (ninS ne_aN_b4 (ninS ne_aN_w10 nin0))).keep K18 (ninS ne_aN_b4 (ninS ne_aN_w14 nin0))).keep K22 (ninS ne_aN_b4 (ninS ne_aN_w18 nin0))).keep K26 (ninS ne_aN_b4 (ninS ne_aN_w22 nin0))).keep K30 (ninS ne_aN_b4 (ninS ne_aN_w26 nin0))).keep K34 (ninS ne_aN_b4 (ninS ne_aN_w30 nin0))).keep K38 (ninS ne_aN_b4 (ninS ne_aN_w34 nin0))).lt q_)
   obtain ⟨hb9, hs9, hq9, -⟩ := own_stepB hst9 (by have := hx1; omega) hs8
   obtain ⟨wn9, hwn9⟩ : ∃ z : Nat, z = max wn8 (x1.toInt.toNat / 64 + 1) := ⟨_, rfl⟩
   rw [← hwn9] at hwu41
   have hwc9 : wn9 ≤ c9 := by have := hwc8; omega
   obtain ⟨U9, hU9⟩ : ∃ z : Nat → Int64, z = own_up U8 x1 := ⟨_, rfl⟩
   rw [← hU9] at Aw41
   have hz9 : ∀ i, wn9 ≤ i → U9 i = 0 := by rw [hU9]; exact own_upz (own_zmono hz8 (by omega)) (by omega)
   refine own_g (own_F T41 m 132 #[rv a, iv x1, iv 8] [(.ref a)]) (fun _ z_ => XS.aloadN X41.here hx rfl (hb hby own_d3_131) rfl rfl z_) ?_
   refine own_g (own_F T41 m 133 #[rv a, iv x1, iv 8] [.null, (.ref a)]) (fun _ z_ => XS.aconstNull X41.here hx rfl (hb hby own_d3_132) z_) ?_
   obtain ⟨T42, h42, X42, e42, W42, st42⟩ := putF X41 hx hZ hown (host := "") (Or.inl (own_w hw 12)) Via.refl (rfl : T41.heap = T41.heap) ((((((((((((Fn.ext E4).keep K5 (ninS ne_a_b4 nin0)).other W6 (Or.inr (slot_ne (C := "com/example/kunci/kunci/NumberSet") (Or.inl (own_w hw 13)) (Or.inl (own_w hw 25)) (by decide) (t := (.array .int)) (t' := (.object "java/util/BitSet")) (by decide) (by decide)))).keep K10 (ninS ne_a_b4 (ninS ne_a_w5 nin0))).keep K14 (ninS ne_a_b4 (ninS ne_a_w10 nin0))).keep K18 (ninS ne_a_b4 (ninS ne_a_w14 nin0))).keep K22 (ninS ne_a_b4 (ninS ne_a_w18 nin0))).keep K26 (ninS ne_a_b4 (ninS ne_a_w22 nin0))).keep K30 (ninS ne_a_b4 (ninS ne_a_w26 nin0))).keep K34 (ninS ne_a_b4 (ninS ne_a_w30 nin0))).keep K38 (ninS ne_a_b4 (ninS ne_a_w34 nin0))).keep K41 (ninS ne_a_b4 (ninS ne_a_w38 nin0))) ((((((((((((Ea.ext E4).keep K5).wr W6).keep K10).keep K14).keep K18).keep K22).keep K26).keep K30).keep K34).keep K38).keep K41) (Or.inl (own_w hw 13)) (own_w hw 3) (ty := (.array .int)) (by decide) rfl rfl (g := (mkF m 133 #[rv a, iv x1, iv 8] [.null, (.ref a)])) rfl rfl (hb hby own_d3_133)
   have N42 := Fr.snoc X42 N41 ga
   have Fw42 := ((((((((((((Fn.ext E4).keep K5 (ninS ne_a_b4 nin0)).other W6 (Or.inr (slot_ne (C := "com/example/kunci/kunci/NumberSet") (Or.inl (own_w hw 13)) (Or.inl (own_w hw 25)) (by decide) (t := (.array .int)) (t' := (.object "java/util/BitSet")) (by decide) (by decide)))).keep K10 (ninS ne_a_b4 (ninS ne_a_w5 nin0))).keep K14 (ninS ne_a_b4 (ninS ne_a_w10 nin0))).keep K18 (ninS ne_a_b4 (ninS ne_a_w14 nin0))).keep K22 (ninS ne_a_b4 (ninS ne_a_w18 nin0))).keep K26 (ninS ne_a_b4 (ninS ne_a_w22 nin0))).keep K30 (ninS ne_a_b4 (ninS ne_a_w26 nin0))).keep K34 (ninS ne_a_b4 (ninS ne_a_w30 nin0))).keep K38 (ninS ne_a_b4 (ninS ne_a_w34 nin0))).keep K41 (ninS ne_a_b4 (ninS ne_a_w38 nin0))).same W42
   refine own_pre (S' := (own_F T42 m 136 #[rv a, iv x1, iv 8] [])) st42 ?_
   refine own_g (own_F T42 m 137 #[rv a, iv x1, iv 8] [(.ref a)]) (fun _ z_ => XS.aloadN X42.here hx rfl (hb hby own_d3_136) rfl rfl z_) ?_
   refine own_g (own_F T42 m 138 #[rv a, iv x1, iv 8] [(.ref a), (.ref a)]) (fun _ z_ => XS.dup X42.here hx rfl (hb hby own_d3_137) rfl rfl z_) ?_
   obtain ⟨T43, X43, e43, st43⟩ := getF X42 hx hZ hown (host := "") (Or.inl (own_w hw 30)) Via.refl e42 (((((((((((((Fs.ext E4).keep K5 (ninS ne_a_b4 nin0)).other W6 (Or.inr (slot_ne (C := "com/example/kunci/kunci/NumberSet") (Or.inl (own_w hw 31)) (Or.inl (own_w hw 25)) (by decide) (t := .int) (t' := (.object "java/util/BitSet")) (by decide) (by decide)))).keep K10 (ninS ne_a_b4 (ninS ne_a_w5 nin0))).keep K14 (ninS ne_a_b4 (ninS ne_a_w10 nin0))).keep K18 (ninS ne_a_b4 (ninS ne_a_w14 nin0))).keep K22 (ninS ne_a_b4 (ninS ne_a_w18 nin0))).keep K26 (ninS ne_a_b4 (ninS ne_a_w22 nin0))).keep K30 (ninS ne_a_b4 (ninS ne_a_w26 nin0))).keep K34 (ninS ne_a_b4 (ninS ne_a_w30 nin0))).keep K38 (ninS ne_a_b4 (ninS ne_a_w34 nin0))).keep K41 (ninS ne_a_b4 (ninS ne_a_w38 nin0))).other W42 (Or.inr (slot_ne (C := "com/example/kunci/kunci/NumberSet") (Or.inl (own_w hw 31)) (Or.inl (own_w hw 13)) (by decide) (t := .int) (t' := (.array .int)) (by decide) (by decide)))) (g := (mkF m 138 #[rv a, iv x1, iv 8] [(.ref a), (.ref a)])) rfl rfl (hb hby own_d3_138)
   refine own_pre (S' := (own_F T43 m 141 #[rv a, iv x1, iv 8] [(.int 8), (.ref a)])) st43 ?_
   refine own_g (own_F T43 m 142 #[rv a, iv x1, iv 8] [(.int 1), (.int 8), (.ref a)]) (fun _ z_ => XS.iconst X43.here hx rfl (hb hby own_d3_141) z_) ?_
   refine own_g (own_F T43 m 143 #[rv a, iv x1, iv 8] [(.int 9), (.ref a)]) (fun _ z_ => XS.iadd X43.here hx rfl (hb hby own_d3_142) rfl z_) ?_
   obtain ⟨T44, h44, X44, e44, W44, st44⟩ := putF X43 hx hZ hown (host := "") (Or.inl (own_w hw 30)) Via.refl e43 (((((((((((((Fs.ext E4).keep K5 (ninS ne_a_b4 nin0)).other W6 (Or.inr (slot_ne (C := "com/example/kunci/kunci/NumberSet") (Or.inl (own_w hw 31)) (Or.inl (own_w hw 25)) (by decide) (t := .int) (t' := (.object "java/util/BitSet")) (by decide) (by decide)))).keep K10 (ninS ne_a_b4 (ninS ne_a_w5 nin0))).keep K14 (ninS ne_a_b4 (ninS ne_a_w10 nin0))).keep K18 (ninS ne_a_b4 (ninS ne_a_w14 nin0))).keep K22 (ninS ne_a_b4 (ninS ne_a_w18 nin0))).keep K26 (ninS ne_a_b4 (ninS ne_a_w22 nin0))).keep K30 (ninS ne_a_b4 (ninS ne_a_w26 nin0))).keep K34 (ninS ne_a_b4 (ninS ne_a_w30 nin0))).keep K38 (ninS ne_a_b4 (ninS ne_a_w34 nin0))).keep K41 (ninS ne_a_b4 (ninS ne_a_w38 nin0))).other W42 (Or.inr (slot_ne (C := "com/example/kunci/kunci/NumberSet") (Or.inl (own_w hw 31)) (Or.inl (own_w hw 13)) (by decide) (t := .int) (t' := (.array .int)) (by decide) (by decide)))) (((((((((((((Ea.ext E4).keep K5).wr W6).keep K10).keep K14).keep K18).keep K22).keep K26).keep K30).keep K34).keep K38).keep K41).wr W42) (Or.inl (own_w hw 31)) (own_w hw 3) (ty := .int) (by decide) rfl rfl (g := (mkF m 143 #[rv a, iv x1, iv 8] [(.int 9), (.ref a)])) rfl rfl (hb hby own_d3_143)
   have N44 := Fr.snoc X44 N42 ga
   have Fw44 := (((((((((((((Fs.ext E4).keep K5 (ninS ne_a_b4 nin0)).other W6 (Or.inr (slot_ne (C := "com/example/kunci/kunci/NumberSet") (Or.inl (own_w hw 31)) (Or.inl (own_w hw 25)) (by decide) (t := .int) (t' := (.object "java/util/BitSet")) (by decide) (by decide)))).keep K10 (ninS ne_a_b4 (ninS ne_a_w5 nin0))).keep K14 (ninS ne_a_b4 (ninS ne_a_w10 nin0))).keep K18 (ninS ne_a_b4 (ninS ne_a_w14 nin0))).keep K22 (ninS ne_a_b4 (ninS ne_a_w18 nin0))).keep K26 (ninS ne_a_b4 (ninS ne_a_w22 nin0))).keep K30 (ninS ne_a_b4 (ninS ne_a_w26 nin0))).keep K34 (ninS ne_a_b4 (ninS ne_a_w30 nin0))).keep K38 (ninS ne_a_b4 (ninS ne_a_w34 nin0))).keep K41 (ninS ne_a_b4 (ninS ne_a_w38 nin0))).other W42 (Or.inr (slot_ne (C := "com/example/kunci/kunci/NumberSet") (Or.inl (own_w hw 31)) (Or.inl (own_w hw 13)) (by decide) (t := .int) (t' := (.array .int)) (by decide) (by decide)))).same W44
   refine own_pre (S' := (own_F T44 m 146 #[rv a, iv x1, iv 8] [])) st44 ?_
   refine own_g (own_F T44 m 147 #[rv a, iv x1, iv 8] [(.int 1)]) (fun _ z_ => XS.iconst X44.here hx rfl (hb hby own_d3_146) z_) ?_
   refine own_ret (t := .boolean) X44 hx hlk hrt rfl (Or.inl ⟨rfl, by simp, _, rfl⟩) (hb hby own_d3_147) (by first | decide | omega | (dsimp only; omega) | (dsimp only; done)) (by first | decide | omega | (dsimp only; omega) | (dsimp only; done)) ?_
   show ∃ r : Int32, _ ∧ Fr n0 _ ∧ _ ≤ T44.heap.size ∧ Sta Z T44.heap _ _ _ _ ∧ (_ ∨ (_ ∧ _ ∧ ∃ U', own_bw n0 Z T44.heap a 9 c9 U' ∧ _))
   rw [e44]
   exact ⟨1, rfl, N44, (Nat.le_trans (Nat.le_trans (Nat.le_trans (Nat.le_trans (Nat.le_trans (Nat.le_trans (Nat.le_trans (Nat.le_trans (Nat.le_trans (Nat.le_trans (Nat.le_trans (Nat.le_trans (Nat.le_trans (Nat.le_trans (Nat.le_refl h0.size) E4.1) K5.1) (Nat.le_of_eq W6.size.symm)) K10.1) K14.1) K18.1) K22.1) K26.1) K30.1) K34.1) K38.1) K41.1) (Nat.le_of_eq W42.size.symm)) (Nat.le_of_eq W44.size.symm)), (((own_sta_keep (own_sta_keep (own_sta_keep (own_sta_keep (own_sta_keep (own_sta_keep (own_sta_keep (own_sta_keep (own_sta_keep ((own_sta_keep (S_ad.ext E4) K5 (allS (own_plainE A4) all0)).wr W6) K10 (allS (own_plainE ((A4.keep K5).wr W6)) (allS (own_plainA (Aw5.other W6 (Ne.symm ne_a_w5))) all0))) K14 (allS (own_plainE (((A4.keep K5).wr W6).keep K10)) (allS (own_plainA Aw10) all0))) K18 (allS (own_plainE ((((A4.keep K5).wr W6).keep K10).keep K14)) (allS (own_plainA Aw14) all0))) K22 (allS (own_plainE (((((A4.keep K5).wr W6).keep K10).keep K14).keep K18)) (allS (own_plainA Aw18) all0))) K26 (allS (own_plainE ((((((A4.keep K5).wr W6).keep K10).keep K14).keep K18).keep K22)) (allS (own_plainA Aw22) all0))) K30 (allS (own_plainE (((((((A4.keep K5).wr W6).keep K10).keep K14).keep K18).keep K22).keep K26)) (allS (own_plainA Aw26) all0))) K34 (allS (own_plainE ((((((((A4.keep K5).wr W6).keep K10).keep K14).keep K18).keep K22).keep K26).keep K30)) (allS (own_plainA Aw30) all0))) K38 (allS (own_plainE (((((((((A4.keep K5).wr W6).keep K10).keep K14).keep K18).keep K22).keep K26).keep K30).keep K34)) (allS (own_plainA Aw34) all0))) K41 (allS (own_plainE ((((((((((A4.keep K5).wr W6).keep K10).keep K14).keep K18).keep K22).keep K26).keep K30).keep K34).keep K38)) (allS (own_plainA Aw38) all0))).wr W42).wr W44), Or.inr ⟨rfl, hm1, U9, ⟨b4, w41, _, wu41, _, ga, ge_b4, gw41, ne_a_b4, ne_a_w41, nb41, rfl, hwu41, hwc9, hz9, (by omega), ((((((((((((((Ea.ext E4).keep K5).wr W6).keep K10).keep K14).keep K18).keep K22).keep K26).keep K30).keep K34).keep K38).keep K41).wr W42).wr W44), Fw44, (((((((((((Fw6.keep K10 (ninS ne_a_b4 (ninS ne_a_w5 nin0))).keep K14 (ninS ne_a_b4 (ninS ne_a_w10 nin0))).keep K18 (ninS ne_a_b4 (ninS ne_a_w14 nin0))).keep K22 (ninS ne_a_b4 (ninS ne_a_w18 nin0))).keep K26 (ninS ne_a_b4 (ninS ne_a_w22 nin0))).keep K30 (ninS ne_a_b4 (ninS ne_a_w26 nin0))).keep K34 (ninS ne_a_b4 (ninS ne_a_w30 nin0))).keep K38 (ninS ne_a_b4 (ninS ne_a_w34 nin0))).keep K41 (ninS ne_a_b4 (ninS ne_a_w38 nin0))).other W42 (Or.inr (slot_ne (C := "com/example/kunci/kunci/NumberSet") (Or.inl (own_w hw 25)) (Or.inl (own_w hw 13)) (by decide) (t := (.object "java/util/BitSet")) (t' := (.array .int)) (by decide) (by decide)))).other W44 (Or.inr (slot_ne (C := "com/example/kunci/kunci/NumberSet") (Or.inl (own_w hw 25)) (Or.inl (own_w hw 31)) (by decide) (t := (.object "java/util/BitSet")) (t' := .int) (by decide) (by decide)))), (((((((((((((A4.keep K5).wr W6).keep K10).keep K14).keep K18).keep K22).keep K26).keep K30).keep K34).keep K38).keep K41).wr W42).wr W44), ((Fw41.other W42 (Or.inl (Ne.symm ne_a_b4))).other W44 (Or.inl (Ne.symm ne_a_b4))), ((Fu41.other W42 (Or.inl (Ne.symm ne_a_b4))).other W44 (Or.inl (Ne.symm ne_a_b4))), ((Fs41.other W42 (Or.inl (Ne.symm ne_a_b4))).other W44 (Or.inl (Ne.symm ne_a_b4))), ((Aw41.other W42 (Ne.symm ne_a_w41)).other W44 (Ne.symm ne_a_w41))⟩, own_conv hgi hx1 hU1 hU2 hU3 hU4 hU5 hU6 hU7 hU8 hU9⟩⟩
set_option maxRecDepth 65536 in
set_option maxHeartbeats 40000000 in
theorem own_inRun (l : Launch) (Z : State) (a0 : Array Value) (hw : ∀ d ∈ tables_1, d.before a0 Z = true) (ws : List Jvm.Cond) (vq a sq n : Int32) (h0 : Heap) (n0 : Nat) (Z0 : n0 ≤ h0.size) (hv : 0 ≤ vq.toInt) (ha : 0 ≤ a.toInt) (hs : 0 < sq.toInt) (hn : 0 ≤ n.toInt) :
    own_Met l Z (⟨"com/example/kunci/kunci/NumberSetAddPinLaw", "inRun", "(IIII)Z"⟩ : MethodName) method_3_code 5 (some .boolean) ws ({ frames := 0, cells := 0, slots := 0, locals := 0 } : Room) #[(.int vq), (.int a), (.int sq), (.int n)] h0 (fun v h L => ∃ r : Int32, v = some (.int r) ∧ (r = 1 ∧ own_run a sq n.toInt.toNat vq ∨ r = 0 ∧ ¬ own_run a sq n.toInt.toNat vq) ∧ Fr n0 L ∧ h = h0) := by
  refine own_body own_pn17 (fun m => mkF m 0 #[iv vq, iv a, iv sq, iv n, .unset] []) (fun m => own_ef_own_inRun m vq a sq n) ?_
  intro p e s m below meth c T0 hx hby hml hlk hrt hZ hown hnm X0 e0
  have hown : s.vm.findClass "com/example/kunci/kunci/NumberSetAddPinLaw" = some m.cls := hown
  have N0 := Fr.nil n0
  refine own_g (own_F T0 m 1 #[iv vq, iv a, iv sq, iv n, .unset] [(.int vq)]) (fun _ z_ => XS.iloadN X0.here hx rfl (hb hby own_d9_0) rfl z_) ?_
  refine own_g (own_F T0 m 2 #[iv vq, iv a, iv sq, iv n, .unset] [(.int a), (.int vq)]) (fun _ z_ => XS.iloadN X0.here hx rfl (hb hby own_d9_1) rfl z_) ?_
  by_cases c2 : vq < a
  · -- pc 2: vq < a
   refine own_g (own_F T0 m 5 #[iv vq, iv a, iv sq, iv n, .unset] []) (fun _ z_ => XS.icmpNo X0.here hx rfl (hb hby own_d9_2) rfl (tlt c2).2.1 z_) ?_
   refine own_g (own_F T0 m 6 #[iv vq, iv a, iv sq, iv n, .unset] [(.int 0)]) (fun _ z_ => XS.iconst X0.here hx rfl (hb hby own_d9_5) z_) ?_
   refine own_ret (t := .boolean) X0 hx hlk hrt rfl (Or.inl ⟨rfl, by simp, _, rfl⟩) (hb hby own_d9_6) (by decide) (by decide) ?_
   exact ⟨_, rfl, Or.inr ⟨rfl, own_rlt c2 hs⟩, N0, e0⟩
  · -- pc 2: not vq < a
   refine own_g (own_F T0 m 7 #[iv vq, iv a, iv sq, iv n, .unset] []) (fun _ z_ => XS.icmpYes X0.here hx rfl (pc0 := 2) (pc' := 7) rfl (hb hby own_d9_2) rfl (flt c2).2.1 (by decide) (by decide) z_) ?_
   refine own_g (own_F T0 m 8 #[iv vq, iv a, iv sq, iv n, .unset] [(.int vq)]) (fun _ z_ => XS.iloadN X0.here hx rfl (hb hby own_d9_7) rfl z_) ?_
   refine own_g (own_F T0 m 9 #[iv vq, iv a, iv sq, iv n, .unset] [(.int a), (.int vq)]) (fun _ z_ => XS.iloadN X0.here hx rfl (hb hby own_d9_8) rfl z_) ?_
   refine own_g (own_F T0 m 10 #[iv vq, iv a, iv sq, iv n, .unset] [(.int (vq - a))]) (fun _ z_ => XS.isub X0.here hx rfl (hb hby own_d9_9) rfl z_) ?_
   refine own_g (own_F T0 m 12 #[iv vq, iv a, iv sq, iv n, iv (vq - a)] []) (fun _ z_ => XS.istore X0.here hx rfl (hb hby own_d9_10) rfl (l' := #[iv vq, iv a, iv sq, iv n, iv (vq - a)]) rfl z_) ?_
   generalize gd : (vq - a) = d
   have hd : d.toInt = vq.toInt - a.toInt ∧ 0 ≤ d.toInt := by rw [← gd]; have h1 := c_isub vq a; have h2 := rng32 (vq - a); have h3 := rng32 vq; have h4 := rng32 a; rw [Int32.lt_iff_toInt_lt] at c2; omega
   have hix := own_irx hd.1 hd.2 hs hn
   refine own_g (own_F T0 m 14 #[iv vq, iv a, iv sq, iv n, iv d] [(.int d)]) (fun _ z_ => XS.iload X0.here hx rfl (hb hby own_d9_12) rfl z_) ?_
   refine own_g (own_F T0 m 15 #[iv vq, iv a, iv sq, iv n, iv d] [(.int sq), (.int d)]) (fun _ z_ => XS.iloadN X0.here hx rfl (hb hby own_d9_14) rfl z_) ?_
   refine own_g (own_F T0 m 16 #[iv vq, iv a, iv sq, iv n, iv d] [(.int (d % sq))]) (fun _ z_ => iremM X0 hx rfl (hb hby own_d9_15) rfl (fun q => by rw [q] at hs; revert hs; decide) z_) ?_
   by_cases c16 : (d % sq) = (0 : Int32)
   · -- pc 16: (d % sq) = (0 : Int32)
    refine own_g (own_F T0 m 19 #[iv vq, iv a, iv sq, iv n, iv d] []) (fun _ z_ => XS.ifNo X0.here hx rfl (hb hby own_d9_16) rfl ((if0 _ _).trans (teq c16).2) z_) ?_
    refine own_g (own_F T0 m 21 #[iv vq, iv a, iv sq, iv n, iv d] [(.int d)]) (fun _ z_ => XS.iload X0.here hx rfl (hb hby own_d9_19) rfl z_) ?_
    refine own_g (own_F T0 m 22 #[iv vq, iv a, iv sq, iv n, iv d] [(.int sq), (.int d)]) (fun _ z_ => XS.iloadN X0.here hx rfl (hb hby own_d9_21) rfl z_) ?_
    refine own_g (own_F T0 m 23 #[iv vq, iv a, iv sq, iv n, iv d] [(.int (d / sq))]) (fun _ z_ => XS.idiv X0.here hx rfl (hb hby own_d9_22) rfl (fun q => by rw [q] at hs; revert hs; decide) z_) ?_
    refine own_g (own_F T0 m 24 #[iv vq, iv a, iv sq, iv n, iv d] [(.int n), (.int (d / sq))]) (fun _ z_ => XS.iloadN X0.here hx rfl (hb hby own_d9_23) rfl z_) ?_
    by_cases c24 : (d / sq) < n
    · -- pc 24: (d / sq) < n
     refine own_g (own_F T0 m 27 #[iv vq, iv a, iv sq, iv n, iv d] []) (fun _ z_ => XS.icmpNo X0.here hx rfl (hb hby own_d9_24) rfl (tlt c24).2.1 z_) ?_
     refine own_g (own_F T0 m 28 #[iv vq, iv a, iv sq, iv n, iv d] [(.int 1)]) (fun _ z_ => XS.iconst X0.here hx rfl (hb hby own_d9_27) z_) ?_
     refine own_g (own_F T0 m 32 #[iv vq, iv a, iv sq, iv n, iv d] [(.int 1)]) (fun _ z_ => XS.goto X0.here hx rfl (pc0 := 28) (pc' := 32) rfl (hb hby own_d9_28) (by decide) (by decide) z_) ?_
     refine own_ret (t := .boolean) X0 hx hlk hrt rfl (Or.inl ⟨rfl, by simp, _, rfl⟩) (hb hby own_d9_32) (by decide) (by decide) ?_
     exact ⟨_, rfl, Or.inl ⟨rfl, hix.mp ⟨c16, c24⟩⟩, N0, e0⟩
    · -- pc 24: not (d / sq) < n
     refine own_g (own_F T0 m 31 #[iv vq, iv a, iv sq, iv n, iv d] []) (fun _ z_ => XS.icmpYes X0.here hx rfl (pc0 := 24) (pc' := 31) rfl (hb hby own_d9_24) rfl (flt c24).2.1 (by decide) (by decide) z_) ?_
     refine own_g (own_F T0 m 32 #[iv vq, iv a, iv sq, iv n, iv d] [(.int 0)]) (fun _ z_ => XS.iconst X0.here hx rfl (hb hby own_d9_31) z_) ?_
     refine own_ret (t := .boolean) X0 hx hlk hrt rfl (Or.inl ⟨rfl, by simp, _, rfl⟩) (hb hby own_d9_32) (by decide) (by decide) ?_
     exact ⟨_, rfl, Or.inr ⟨rfl, fun z => c24 (hix.mpr z).2⟩, N0, e0⟩
   · -- pc 16: not (d % sq) = (0 : Int32)
    refine own_g (own_F T0 m 31 #[iv vq, iv a, iv sq, iv n, iv d] []) (fun _ z_ => XS.ifYes X0.here hx rfl (pc0 := 16) (pc' := 31) rfl (hb hby own_d9_16) rfl ((if0 _ _).trans (feq c16).2) (by decide) (by decide) z_) ?_
    refine own_g (own_F T0 m 32 #[iv vq, iv a, iv sq, iv n, iv d] [(.int 0)]) (fun _ z_ => XS.iconst X0.here hx rfl (hb hby own_d9_31) z_) ?_
    refine own_ret (t := .boolean) X0 hx hlk hrt rfl (Or.inl ⟨rfl, by simp, _, rfl⟩) (hb hby own_d9_32) (by decide) (by decide) ?_
    exact ⟨_, rfl, Or.inr ⟨rfl, fun z => c16 (hix.mpr z).1⟩, N0, e0⟩
set_option maxRecDepth 65536 in
set_option maxHeartbeats 40000000 in
theorem own_law (l : Launch) (Z : State) (a0 : Array Value) (hw : ∀ d ∈ tables_1, d.before a0 Z = true) (ws : List Jvm.Cond) (i0 i1 i2 i3 i4 : Int32) (h0 : Heap) (n0 : Nat) (Z0 : n0 ≤ h0.size) (S_ad : Sta Z h0 "java/util/BitSet" "$assertionsDisabled" "Z" (.int (1 : Int32))) :
    own_Met l Z x code maxLocals ret ws room_1 #[(.int i0), (.int i1), (.int i2), (.int i3), (.int i4)] h0 (fun v h L => v = some (.int 1) ∧ Fr n0 L) := by
  refine own_body own_pn18 (fun m => mkF m 0 #[iv i0, iv i1, iv i2, iv i3, iv i4, .unset, .unset, .unset, .unset, .unset, .unset, .unset, .unset, .unset, .unset, .unset, .unset] []) (fun m => own_ef_own_law m i0 i1 i2 i3 i4) ?_
  intro p e s m below meth c T0 hx hby hml hlk hrt hZ hown hnm X0 e0
  have hown : s.vm.findClass "com/example/kunci/kunci/NumberSetAddPinLaw" = some m.cls := hown
  have N0 := Fr.nil n0
  have J162 : ∀ (nq sq : Int32) (hnq : 0 ≤ nq.toInt ∧ nq.toInt ≤ 9) (hs : 0 < sq.toInt ∧ sq.toInt ≤ 4096) (bg hi aq : Int32) (hbg : (bg = 0 ∧ nq.toInt < 8) ∨ (bg = 1 ∧ 8 ≤ nq.toInt)) (ha : 0 ≤ aq.toInt ∧ aq.toInt + 40960 < 2147483648) (ha8 : 8 ≤ nq.toInt → aq.toInt ≤ 1048575) (wq : Int32) (hwq : 0 ≤ wq.toInt) (hw8 : 8 ≤ nq.toInt → wq.toInt ≤ 1089535) (rq : Int32) (hrq : 0 ≤ rq.toInt), own_Ends p e below s (fun v h L => v = some (.int 1) ∧ Fr n0 L) room_1.cells room_1.slots (own_F T0 m 162 #[iv i0, iv i1, iv i2, iv i3, iv i4, iv nq, iv bg, iv sq, iv hi, iv aq, iv wq, iv (i4 &&& (3 : Int32)), iv ((i4.toUInt32 >>> ((2 : Int32) &&& 31).toUInt32).toInt32), iv rq, .unset, .unset, .unset] []) := by
   intro nq sq hnq hs bg hi aq hbg ha ha8 wq hwq hw8 rq hrq
   obtain ⟨T1, h1, X1, e1, E1, A1, D1, -, st1⟩ := newO X0 hx hZ hown (own_w hw 2) (own_w hw 3) (own_w hw 4) e0 (g := (mkF m 162 #[iv i0, iv i1, iv i2, iv i3, iv i4, iv nq, iv bg, iv sq, iv hi, iv aq, iv wq, iv (i4 &&& (3 : Int32)), iv ((i4.toUInt32 >>> ((2 : Int32) &&& 31).toUInt32).toInt32), iv rq, .unset, .unset, .unset] [])) rfl (hb hby at_162) (by first | decide | omega | (simp only [room_1]; omega) | (simp only [room_1]; done) | (dsimp only; omega) | (dsimp only; done)) (by first | decide | omega | (simp only [room_1]; omega) | (simp only [room_1]; done) | (dsimp only; omega) | (dsimp only; done))
   obtain ⟨b1, g1⟩ : ∃ z, z = h0.size := ⟨_, rfl⟩
   rw [← g1] at A1 D1 st1
   have sz_b1 : h0.size ≤ b1 := Nat.le_trans (Nat.le_refl h0.size) (Nat.le_of_eq g1.symm)
   have ge_b1 : n0 ≤ b1 := Nat.le_trans Z0 (Nat.le_of_eq g1.symm)
   have F1_numbers : Fld Z h1 b1 "com/example/kunci/kunci/NumberSet" "numbers" "[I" .null := D1 (Or.inl (own_w hw 13)) (ty := (.array .int)) (by decide)
   have F1_bits : Fld Z h1 b1 "com/example/kunci/kunci/NumberSet" "bits" "Ljava/util/BitSet;" .null := D1 (Or.inl (own_w hw 25)) (ty := (.object "java/util/BitSet")) (by decide)
   have F1_size : Fld Z h1 b1 "com/example/kunci/kunci/NumberSet" "size" "I" (.int 0) := D1 (Or.inl (own_w hw 31)) (ty := .int) (by decide)
   refine own_pre (S' := (own_F T1 m 165 #[iv i0, iv i1, iv i2, iv i3, iv i4, iv nq, iv bg, iv sq, iv hi, iv aq, iv wq, iv (i4 &&& (3 : Int32)), iv ((i4.toUInt32 >>> ((2 : Int32) &&& 31).toUInt32).toInt32), iv rq, .unset, .unset, .unset] [(.ref b1)])) st1 ?_
   refine own_g (own_F T1 m 166 #[iv i0, iv i1, iv i2, iv i3, iv i4, iv nq, iv bg, iv sq, iv hi, iv aq, iv wq, iv (i4 &&& (3 : Int32)), iv ((i4.toUInt32 >>> ((2 : Int32) &&& 31).toUInt32).toInt32), iv rq, .unset, .unset, .unset] [(.ref b1), (.ref b1)]) (fun _ z_ => XS.dup X1.here hx rfl (hb hby at_165) rfl rfl z_) ?_
   refine own_callI (y := (⟨"com/example/kunci/kunci/NumberSet", "<init>", "()V"⟩ : MethodName)) (b := b1) X1 hx hZ hown rfl (own_w hw 5) (own_w hw 6) (own_w hw 7) (own_w hw 4) (by decide) e1 (hM := own_nsi l Z a0 hw [] b1 h1 n0 (Nat.le_trans Z0 E1.1) A1 ge_b1 F1_size F1_bits F1_numbers (S_ad.ext E1)) (W := 1) (pc := 166) (Ls := #[iv i0, iv i1, iv i2, iv i3, iv i4, iv nq, iv bg, iv sq, iv hi, iv aq, iv wq, iv (i4 &&& (3 : Int32)), iv ((i4.toUInt32 >>> ((2 : Int32) &&& 31).toUInt32).toInt32), iv rq, .unset, .unset, .unset]) (argsL := []) (rest := [(.ref b1)]) (st0 := [(.ref b1), (.ref b1)]) (by rw [hml]; rfl) (lenOf own_pd6 rfl) rfl (Nat.le_of_eq rfl) (hb hby at_166) (by first | decide | omega | (simp only [room_1]; omega) | (simp only [room_1]; done) | (dsimp only; omega) | (dsimp only; done)) (by first | decide | omega | (simp only [room_1]; omega) | (simp only [room_1]; done) | (dsimp only; omega) | (dsimp only; done)) (by first | decide | omega | (simp only [room_1]; omega) | (simp only [room_1]; done) | (dsimp only; omega) | (dsimp only; done)) (by first | decide | omega | (simp only [room_1]; omega) | (simp only [room_1]; done) | (dsimp only; omega) | (dsimp only; done)) ?_
   intro v2 T2 L2 X2 hQ2
   obtain ⟨rfl, Nq2, gz2, ad2, hF2⟩ := hQ2
   have N2 := Fr.app N0 Nq2
   show own_Ends p e below s _ _ _ (own_F T2 m 169 #[iv i0, iv i1, iv i2, iv i3, iv i4, iv nq, iv bg, iv sq, iv hi, iv aq, iv wq, iv (i4 &&& (3 : Int32)), iv ((i4.toUInt32 >>> ((2 : Int32) &&& 31).toUInt32).toInt32), iv rq, .unset, .unset, .unset] [(.ref b1)])
   have zs2 := Nat.le_trans (Nat.le_trans Z0 E1.1) gz2
   have zz2 := Nat.le_trans (Nat.le_trans (Nat.le_refl h0.size) E1.1) gz2
   have hm0 : ∀ v, own_mem 0 (fun _ => 0) v ↔ own_run aq sq 0 v := fun v => ⟨fun ⟨i, hi, _⟩ => absurd hi (Nat.not_lt_zero i), fun z => absurd z own_run0⟩
   refine own_g (own_F T2 m 171 #[iv i0, iv i1, iv i2, iv i3, iv i4, iv nq, iv bg, iv sq, iv hi, iv aq, iv wq, iv (i4 &&& (3 : Int32)), iv ((i4.toUInt32 >>> ((2 : Int32) &&& 31).toUInt32).toInt32), iv rq, rv b1, .unset, .unset] []) (fun _ z_ => XS.astore X2.here hx rfl (hb hby at_169) rfl rfl (l' := #[iv i0, iv i1, iv i2, iv i3, iv i4, iv nq, iv bg, iv sq, iv hi, iv aq, iv wq, iv (i4 &&& (3 : Int32)), iv ((i4.toUInt32 >>> ((2 : Int32) &&& 31).toUInt32).toInt32), iv rq, rv b1, .unset, .unset]) rfl z_) ?_
   refine own_g (own_F T2 m 172 #[iv i0, iv i1, iv i2, iv i3, iv i4, iv nq, iv bg, iv sq, iv hi, iv aq, iv wq, iv (i4 &&& (3 : Int32)), iv ((i4.toUInt32 >>> ((2 : Int32) &&& 31).toUInt32).toInt32), iv rq, rv b1, .unset, .unset] [(.int 1)]) (fun _ z_ => XS.iconst X2.here hx rfl (hb hby at_171) z_) ?_
   refine own_g (own_F T2 m 174 #[iv i0, iv i1, iv i2, iv i3, iv i4, iv nq, iv bg, iv sq, iv hi, iv aq, iv wq, iv (i4 &&& (3 : Int32)), iv ((i4.toUInt32 >>> ((2 : Int32) &&& 31).toUInt32).toInt32), iv rq, rv b1, iv 1, .unset] []) (fun _ z_ => XS.istore X2.here hx rfl (hb hby at_172) rfl (l' := #[iv i0, iv i1, iv i2, iv i3, iv i4, iv nq, iv bg, iv sq, iv hi, iv aq, iv wq, iv (i4 &&& (3 : Int32)), iv ((i4.toUInt32 >>> ((2 : Int32) &&& 31).toUInt32).toInt32), iv rq, rv b1, iv 1, .unset]) rfl z_) ?_
   have JZ1 : ∀ (len : Nat) (T3 : State) (lc3 : List Loc) (hp3 : Heap) (X3 : Stand p l e room_1 s m #[(.int i0), (.int i1), (.int i2), (.int i3), (.int i4)] below meth c T3 lc3 32 98432) (e3 : T3.heap = hp3) (N3 : Fr n0 lc3) (zs3 : n0 ≤ hp3.size) (zz3 : h0.size ≤ hp3.size) (f3_0 : Sta Z hp3 "java/util/BitSet" "$assertionsDisabled" "Z" (.int (1 : Int32))) (hD : (∃ (cap : Nat) (g : Nat → Int32), own_few n0 Z hp3 b1 len cap g ∧ ∀ v, own_mem len g v ↔ own_M aq sq nq.toInt.toNat wq v) ∨ (∃ (cap : Nat) (U : Nat → Int64), own_bw n0 Z hp3 b1 len cap U ∧ ∀ v : Int32, 0 ≤ v.toInt → (own_bt U v ↔ own_M aq sq nq.toInt.toNat wq v))) (hlen : len = nq.toInt.toNat + 1), own_Ends p e below s (fun v h L => v = some (.int 1) ∧ Fr n0 L) room_1.cells room_1.slots (own_F T3 m 422 #[iv i0, iv i1, iv i2, iv i3, iv i4, iv nq, iv bg, iv sq, iv hi, iv aq, iv wq, iv (i4 &&& (3 : Int32)), iv ((i4.toUInt32 >>> ((2 : Int32) &&& 31).toUInt32).toInt32), iv rq, rv b1, iv 1, iv 1] []) := by
    intro len T3 lc3 hp3 X3 e3 N3 zs3 zz3 f3_0 hD hlen
    rcases hD with ⟨cap, g, hF, hm⟩ | ⟨cap, U, hF, hm⟩
    ·
     obtain ⟨sz, hsz, Fsz⟩ := hF.size
     refine own_g (own_F T3 m 424 #[iv i0, iv i1, iv i2, iv i3, iv i4, iv nq, iv bg, iv sq, iv hi, iv aq, iv wq, iv (i4 &&& (3 : Int32)), iv ((i4.toUInt32 >>> ((2 : Int32) &&& 31).toUInt32).toInt32), iv rq, rv b1, iv 1, iv 1] [(.int 1)]) (fun _ z_ => XS.iload X3.here hx rfl (hb hby at_422) rfl z_) ?_
     refine own_g (own_F T3 m 426 #[iv i0, iv i1, iv i2, iv i3, iv i4, iv nq, iv bg, iv sq, iv hi, iv aq, iv wq, iv (i4 &&& (3 : Int32)), iv ((i4.toUInt32 >>> ((2 : Int32) &&& 31).toUInt32).toInt32), iv rq, rv b1, iv 1, iv 1] [(.ref b1), (.int 1)]) (fun _ z_ => XS.aload X3.here hx rfl (hb hby at_424) rfl rfl z_) ?_
     refine own_callV (C := "com/example/kunci/kunci/NumberSet") (y := (⟨"com/example/kunci/kunci/NumberSet", "size", "()I"⟩ : MethodName)) (b := b1) X3 hx hZ hown (own_w hw 51) (own_w hw 52) (own_w hw 54) (own_w hw 53) (own_w hw 55) (own_w hw 4) (by decide) e3 hF.exa (hM := own_sizeC l Z a0 hw [] b1 sz hp3 n0 zs3 Fsz) (W := 1) (pc := 426) (Ls := #[iv i0, iv i1, iv i2, iv i3, iv i4, iv nq, iv bg, iv sq, iv hi, iv aq, iv wq, iv (i4 &&& (3 : Int32)), iv ((i4.toUInt32 >>> ((2 : Int32) &&& 31).toUInt32).toInt32), iv rq, rv b1, iv 1, iv 1]) (argsL := []) (rest := [(.int 1)]) (st0 := [(.ref b1), (.int 1)]) (by rw [hml]; rfl) (lenOf own_pd7 rfl) rfl (Nat.le_of_eq rfl) (hb hby at_426) (by first | decide | omega | (simp only [room_1]; omega) | (simp only [room_1]; done) | (dsimp only; omega) | (dsimp only; done)) (by first | decide | omega | (simp only [room_1]; omega) | (simp only [room_1]; done) | (dsimp only; omega) | (dsimp only; done)) (by first | decide | omega | (simp only [room_1]; omega) | (simp only [room_1]; done) | (dsimp only; omega) | (dsimp only; done)) (by first | decide | omega | (simp only [room_1]; omega) | (simp only [room_1]; done) | (dsimp only; omega) | (dsimp only; done)) ?_
     intro v4 T4 L4 X4 hQ4
     obtain ⟨rfl, Nq4, hh4⟩ := hQ4
     have N4 := Fr.app N3 Nq4
     show own_Ends p e below s _ _ _ (own_F T4 m 429 #[iv i0, iv i1, iv i2, iv i3, iv i4, iv nq, iv bg, iv sq, iv hi, iv aq, iv wq, iv (i4 &&& (3 : Int32)), iv ((i4.toUInt32 >>> ((2 : Int32) &&& 31).toUInt32).toInt32), iv rq, rv b1, iv 1, iv 1] [(.int sz), (.int 1)])
     refine own_g (own_F T4 m 431 #[iv i0, iv i1, iv i2, iv i3, iv i4, iv nq, iv bg, iv sq, iv hi, iv aq, iv wq, iv (i4 &&& (3 : Int32)), iv ((i4.toUInt32 >>> ((2 : Int32) &&& 31).toUInt32).toInt32), iv rq, rv b1, iv 1, iv 1] [(.int nq), (.int sz), (.int 1)]) (fun _ z_ => XS.iload X4.here hx rfl (hb hby at_429) rfl z_) ?_
     refine own_g (own_F T4 m 433 #[iv i0, iv i1, iv i2, iv i3, iv i4, iv nq, iv bg, iv sq, iv hi, iv aq, iv wq, iv (i4 &&& (3 : Int32)), iv ((i4.toUInt32 >>> ((2 : Int32) &&& 31).toUInt32).toInt32), iv rq, rv b1, iv 1, iv 1] [(.int 1), (.int nq), (.int sz), (.int 1)]) (fun _ z_ => XS.iload X4.here hx rfl (hb hby at_431) rfl z_) ?_
     refine own_g (own_F T4 m 436 #[iv i0, iv i1, iv i2, iv i3, iv i4, iv nq, iv bg, iv sq, iv hi, iv aq, iv wq, iv (i4 &&& (3 : Int32)), iv ((i4.toUInt32 >>> ((2 : Int32) &&& 31).toUInt32).toInt32), iv rq, rv b1, iv 1, iv 1] [(.int nq), (.int sz), (.int 1)]) (fun _ z_ => XS.ifNo X4.here hx rfl (hb hby at_433) rfl ((if0 _ _).trans (feq (by decide : ¬ ((1 : Int32) = (0 : Int32)))).1) z_) ?_
     refine own_g (own_F T4 m 437 #[iv i0, iv i1, iv i2, iv i3, iv i4, iv nq, iv bg, iv sq, iv hi, iv aq, iv wq, iv (i4 &&& (3 : Int32)), iv ((i4.toUInt32 >>> ((2 : Int32) &&& 31).toUInt32).toInt32), iv rq, rv b1, iv 1, iv 1] [(.int 1), (.int nq), (.int sz), (.int 1)]) (fun _ z_ => XS.iconst X4.here hx rfl (hb hby at_436) z_) ?_
     refine own_g (own_F T4 m 441 #[iv i0, iv i1, iv i2, iv i3, iv i4, iv nq, iv bg, iv sq, iv hi, iv aq, iv wq, iv (i4 &&& (3 : Int32)), iv ((i4.toUInt32 >>> ((2 : Int32) &&& 31).toUInt32).toInt32), iv rq, rv b1, iv 1, iv 1] [(.int 1), (.int nq), (.int sz), (.int 1)]) (fun _ z_ => XS.goto X4.here hx rfl (pc0 := 437) (pc' := 441) rfl (hb hby at_437) (by decide) (by decide) z_) ?_
     refine own_g (own_F T4 m 442 #[iv i0, iv i1, iv i2, iv i3, iv i4, iv nq, iv bg, iv sq, iv hi, iv aq, iv wq, iv (i4 &&& (3 : Int32)), iv ((i4.toUInt32 >>> ((2 : Int32) &&& 31).toUInt32).toInt32), iv rq, rv b1, iv 1, iv 1] [(.int (nq + (1 : Int32))), (.int sz), (.int 1)]) (fun _ z_ => XS.iadd X4.here hx rfl (hb hby at_441) rfl z_) ?_
     refine own_g (own_F T4 m 445 #[iv i0, iv i1, iv i2, iv i3, iv i4, iv nq, iv bg, iv sq, iv hi, iv aq, iv wq, iv (i4 &&& (3 : Int32)), iv ((i4.toUInt32 >>> ((2 : Int32) &&& 31).toUInt32).toInt32), iv rq, rv b1, iv 1, iv 1] [(.int 1)]) (fun _ z_ => XS.icmpNo X4.here hx rfl (hb hby at_442) rfl (teq (by rw [← Int32.toInt_inj, hsz, hlen]; have h1 := c_iadd nq 1; have h2 := rng32 (nq + 1); simp only [Int32.reduceToInt] at h1; omega)).2 z_) ?_
     refine own_g (own_F T4 m 446 #[iv i0, iv i1, iv i2, iv i3, iv i4, iv nq, iv bg, iv sq, iv hi, iv aq, iv wq, iv (i4 &&& (3 : Int32)), iv ((i4.toUInt32 >>> ((2 : Int32) &&& 31).toUInt32).toInt32), iv rq, rv b1, iv 1, iv 1] [(.int 1), (.int 1)]) (fun _ z_ => XS.iconst X4.here hx rfl (hb hby at_445) z_) ?_
     refine own_g (own_F T4 m 450 #[iv i0, iv i1, iv i2, iv i3, iv i4, iv nq, iv bg, iv sq, iv hi, iv aq, iv wq, iv (i4 &&& (3 : Int32)), iv ((i4.toUInt32 >>> ((2 : Int32) &&& 31).toUInt32).toInt32), iv rq, rv b1, iv 1, iv 1] [(.int 1), (.int 1)]) (fun _ z_ => XS.goto X4.here hx rfl (pc0 := 446) (pc' := 450) rfl (hb hby at_446) (by decide) (by decide) z_) ?_
     refine own_g (own_F T4 m 451 #[iv i0, iv i1, iv i2, iv i3, iv i4, iv nq, iv bg, iv sq, iv hi, iv aq, iv wq, iv (i4 &&& (3 : Int32)), iv ((i4.toUInt32 >>> ((2 : Int32) &&& 31).toUInt32).toInt32), iv rq, rv b1, iv 1, iv 1] [(.int 1)]) (fun _ z_ => XS.iand X4.here hx rfl (hb hby at_450) rfl z_) ?_
     refine own_g (own_F T4 m 453 #[iv i0, iv i1, iv i2, iv i3, iv i4, iv nq, iv bg, iv sq, iv hi, iv aq, iv wq, iv (i4 &&& (3 : Int32)), iv ((i4.toUInt32 >>> ((2 : Int32) &&& 31).toUInt32).toInt32), iv rq, rv b1, iv 1, iv 1] []) (fun _ z_ => XS.istore X4.here hx rfl (hb hby at_451) rfl (l' := #[iv i0, iv i1, iv i2, iv i3, iv i4, iv nq, iv bg, iv sq, iv hi, iv aq, iv wq, iv (i4 &&& (3 : Int32)), iv ((i4.toUInt32 >>> ((2 : Int32) &&& 31).toUInt32).toInt32), iv rq, rv b1, iv 1, iv 1]) rfl z_) ?_
     refine own_g (own_F T4 m 455 #[iv i0, iv i1, iv i2, iv i3, iv i4, iv nq, iv bg, iv sq, iv hi, iv aq, iv wq, iv (i4 &&& (3 : Int32)), iv ((i4.toUInt32 >>> ((2 : Int32) &&& 31).toUInt32).toInt32), iv rq, rv b1, iv 1, iv 1] [(.int 1)]) (fun _ z_ => XS.iload X4.here hx rfl (hb hby at_453) rfl z_) ?_
     refine own_g (own_F T4 m 457 #[iv i0, iv i1, iv i2, iv i3, iv i4, iv nq, iv bg, iv sq, iv hi, iv aq, iv wq, iv (i4 &&& (3 : Int32)), iv ((i4.toUInt32 >>> ((2 : Int32) &&& 31).toUInt32).toInt32), iv rq, rv b1, iv 1, iv 1] [(.ref b1), (.int 1)]) (fun _ z_ => XS.aload X4.here hx rfl (hb hby at_455) rfl rfl z_) ?_
     refine own_g (own_F T4 m 459 #[iv i0, iv i1, iv i2, iv i3, iv i4, iv nq, iv bg, iv sq, iv hi, iv aq, iv wq, iv (i4 &&& (3 : Int32)), iv ((i4.toUInt32 >>> ((2 : Int32) &&& 31).toUInt32).toInt32), iv rq, rv b1, iv 1, iv 1] [(.int rq), (.ref b1), (.int 1)]) (fun _ z_ => XS.iload X4.here hx rfl (hb hby at_457) rfl z_) ?_
     refine own_callV (C := "com/example/kunci/kunci/NumberSet") (y := (⟨"com/example/kunci/kunci/NumberSet", "contains", "(I)Z"⟩ : MethodName)) (b := b1) X4 hx hZ hown (own_w hw 56) (own_w hw 20) (own_w hw 22) (own_w hw 21) (own_w hw 23) (own_w hw 4) (by decide) hh4 hF.exa (hM := own_conf l Z a0 hw [] b1 len cap rq g hp3 n0 zs3 hF) (W := 1) (pc := 459) (Ls := #[iv i0, iv i1, iv i2, iv i3, iv i4, iv nq, iv bg, iv sq, iv hi, iv aq, iv wq, iv (i4 &&& (3 : Int32)), iv ((i4.toUInt32 >>> ((2 : Int32) &&& 31).toUInt32).toInt32), iv rq, rv b1, iv 1, iv 1]) (argsL := [(.int rq)]) (rest := [(.int 1)]) (st0 := [(.int rq), (.ref b1), (.int 1)]) (by rw [hml]; rfl) (lenOf own_pd0 rfl) rfl (Nat.le_of_eq rfl) (hb hby at_459) (by first | decide | omega | (simp only [room_1]; omega) | (simp only [room_1]; done) | (dsimp only; omega) | (dsimp only; done)) (by first | decide | omega | (simp only [room_1]; omega) | (simp only [room_1]; done) | (dsimp only; omega) | (dsimp only; done)) (by first | decide | omega | (simp only [room_1]; omega) | (simp only [room_1]; done) | (dsimp only; omega) | (dsimp only; done)) (by first | decide | omega | (simp only [room_1]; omega) | (simp only [room_1]; done) | (dsimp only; omega) | (dsimp only; done)) ?_
     intro v5 T5 L5 X5 hQ5
     obtain ⟨r5, rfl, hr5, Nq5, hh5⟩ := hQ5
     have N5 := Fr.app N4 Nq5
     show own_Ends p e below s _ _ _ (own_F T5 m 462 #[iv i0, iv i1, iv i2, iv i3, iv i4, iv nq, iv bg, iv sq, iv hi, iv aq, iv wq, iv (i4 &&& (3 : Int32)), iv ((i4.toUInt32 >>> ((2 : Int32) &&& 31).toUInt32).toInt32), iv rq, rv b1, iv 1, iv 1] [(.int r5), (.int 1)])
     refine own_g (own_F T5 m 464 #[iv i0, iv i1, iv i2, iv i3, iv i4, iv nq, iv bg, iv sq, iv hi, iv aq, iv wq, iv (i4 &&& (3 : Int32)), iv ((i4.toUInt32 >>> ((2 : Int32) &&& 31).toUInt32).toInt32), iv rq, rv b1, iv 1, iv 1] [(.int rq), (.int r5), (.int 1)]) (fun _ z_ => XS.iload X5.here hx rfl (hb hby at_462) rfl z_) ?_
     refine own_g (own_F T5 m 466 #[iv i0, iv i1, iv i2, iv i3, iv i4, iv nq, iv bg, iv sq, iv hi, iv aq, iv wq, iv (i4 &&& (3 : Int32)), iv ((i4.toUInt32 >>> ((2 : Int32) &&& 31).toUInt32).toInt32), iv rq, rv b1, iv 1, iv 1] [(.int wq), (.int rq), (.int r5), (.int 1)]) (fun _ z_ => XS.iload X5.here hx rfl (hb hby at_464) rfl z_) ?_
     by_cases c466 : rq = wq
     · -- pc 466: rq = wq
      refine own_g (own_F T5 m 483 #[iv i0, iv i1, iv i2, iv i3, iv i4, iv nq, iv bg, iv sq, iv hi, iv aq, iv wq, iv (i4 &&& (3 : Int32)), iv ((i4.toUInt32 >>> ((2 : Int32) &&& 31).toUInt32).toInt32), iv rq, rv b1, iv 1, iv 1] [(.int r5), (.int 1)]) (fun _ z_ => XS.icmpYes X5.here hx rfl (pc0 := 466) (pc' := 483) rfl (hb hby at_466) rfl (teq c466).1 (by decide) (by decide) z_) ?_
      refine own_g (own_F T5 m 484 #[iv i0, iv i1, iv i2, iv i3, iv i4, iv nq, iv bg, iv sq, iv hi, iv aq, iv wq, iv (i4 &&& (3 : Int32)), iv ((i4.toUInt32 >>> ((2 : Int32) &&& 31).toUInt32).toInt32), iv rq, rv b1, iv 1, iv 1] [(.int 1), (.int r5), (.int 1)]) (fun _ z_ => XS.iconst X5.here hx rfl (hb hby at_483) z_) ?_
      refine own_g (own_F T5 m 488 #[iv i0, iv i1, iv i2, iv i3, iv i4, iv nq, iv bg, iv sq, iv hi, iv aq, iv wq, iv (i4 &&& (3 : Int32)), iv ((i4.toUInt32 >>> ((2 : Int32) &&& 31).toUInt32).toInt32), iv rq, rv b1, iv 1, iv 1] [(.int 1), (.int r5), (.int 1)]) (fun _ z_ => XS.goto X5.here hx rfl (pc0 := 484) (pc' := 488) rfl (hb hby at_484) (by decide) (by decide) z_) ?_
      refine own_g (own_F T5 m 491 #[iv i0, iv i1, iv i2, iv i3, iv i4, iv nq, iv bg, iv sq, iv hi, iv aq, iv wq, iv (i4 &&& (3 : Int32)), iv ((i4.toUInt32 >>> ((2 : Int32) &&& 31).toUInt32).toInt32), iv rq, rv b1, iv 1, iv 1] [(.int 1)]) (fun _ z_ => XS.icmpNo X5.here hx rfl (hb hby at_488) rfl (teq (own_eqb (P := own_M aq sq nq.toInt.toNat wq rq) (own_iff1 (hm rq) hr5) (Or.inl ⟨rfl, Or.inr c466.symm⟩))).2 z_) ?_
      refine own_g (own_F T5 m 492 #[iv i0, iv i1, iv i2, iv i3, iv i4, iv nq, iv bg, iv sq, iv hi, iv aq, iv wq, iv (i4 &&& (3 : Int32)), iv ((i4.toUInt32 >>> ((2 : Int32) &&& 31).toUInt32).toInt32), iv rq, rv b1, iv 1, iv 1] [(.int 1), (.int 1)]) (fun _ z_ => XS.iconst X5.here hx rfl (hb hby at_491) z_) ?_
      refine own_g (own_F T5 m 496 #[iv i0, iv i1, iv i2, iv i3, iv i4, iv nq, iv bg, iv sq, iv hi, iv aq, iv wq, iv (i4 &&& (3 : Int32)), iv ((i4.toUInt32 >>> ((2 : Int32) &&& 31).toUInt32).toInt32), iv rq, rv b1, iv 1, iv 1] [(.int 1), (.int 1)]) (fun _ z_ => XS.goto X5.here hx rfl (pc0 := 492) (pc' := 496) rfl (hb hby at_492) (by decide) (by decide) z_) ?_
      refine own_g (own_F T5 m 497 #[iv i0, iv i1, iv i2, iv i3, iv i4, iv nq, iv bg, iv sq, iv hi, iv aq, iv wq, iv (i4 &&& (3 : Int32)), iv ((i4.toUInt32 >>> ((2 : Int32) &&& 31).toUInt32).toInt32), iv rq, rv b1, iv 1, iv 1] [(.int 1)]) (fun _ z_ => XS.iand X5.here hx rfl (hb hby at_496) rfl z_) ?_
      refine own_g (own_F T5 m 499 #[iv i0, iv i1, iv i2, iv i3, iv i4, iv nq, iv bg, iv sq, iv hi, iv aq, iv wq, iv (i4 &&& (3 : Int32)), iv ((i4.toUInt32 >>> ((2 : Int32) &&& 31).toUInt32).toInt32), iv rq, rv b1, iv 1, iv 1] []) (fun _ z_ => XS.istore X5.here hx rfl (hb hby at_497) rfl (l' := #[iv i0, iv i1, iv i2, iv i3, iv i4, iv nq, iv bg, iv sq, iv hi, iv aq, iv wq, iv (i4 &&& (3 : Int32)), iv ((i4.toUInt32 >>> ((2 : Int32) &&& 31).toUInt32).toInt32), iv rq, rv b1, iv 1, iv 1]) rfl z_) ?_
      refine own_g (own_F T5 m 501 #[iv i0, iv i1, iv i2, iv i3, iv i4, iv nq, iv bg, iv sq, iv hi, iv aq, iv wq, iv (i4 &&& (3 : Int32)), iv ((i4.toUInt32 >>> ((2 : Int32) &&& 31).toUInt32).toInt32), iv rq, rv b1, iv 1, iv 1] [(.int 1)]) (fun _ z_ => XS.iload X5.here hx rfl (hb hby at_499) rfl z_) ?_
      refine own_ret (t := .boolean) X5 hx hlk hrt rfl (Or.inl ⟨rfl, by simp, _, rfl⟩) (hb hby at_501) (by first | decide | omega | (simp only [room_1]; omega) | (simp only [room_1]; done) | (dsimp only; omega) | (dsimp only; done)) (by first | decide | omega | (simp only [room_1]; omega) | (simp only [room_1]; done) | (dsimp only; omega) | (dsimp only; done)) ?_
      exact ⟨rfl, N5⟩
     · -- pc 466: not rq = wq
      refine own_g (own_F T5 m 469 #[iv i0, iv i1, iv i2, iv i3, iv i4, iv nq, iv bg, iv sq, iv hi, iv aq, iv wq, iv (i4 &&& (3 : Int32)), iv ((i4.toUInt32 >>> ((2 : Int32) &&& 31).toUInt32).toInt32), iv rq, rv b1, iv 1, iv 1] [(.int r5), (.int 1)]) (fun _ z_ => XS.icmpNo X5.here hx rfl (hb hby at_466) rfl (feq c466).1 z_) ?_
      refine own_g (own_F T5 m 471 #[iv i0, iv i1, iv i2, iv i3, iv i4, iv nq, iv bg, iv sq, iv hi, iv aq, iv wq, iv (i4 &&& (3 : Int32)), iv ((i4.toUInt32 >>> ((2 : Int32) &&& 31).toUInt32).toInt32), iv rq, rv b1, iv 1, iv 1] [(.int rq), (.int r5), (.int 1)]) (fun _ z_ => XS.iload X5.here hx rfl (hb hby at_469) rfl z_) ?_
      refine own_g (own_F T5 m 473 #[iv i0, iv i1, iv i2, iv i3, iv i4, iv nq, iv bg, iv sq, iv hi, iv aq, iv wq, iv (i4 &&& (3 : Int32)), iv ((i4.toUInt32 >>> ((2 : Int32) &&& 31).toUInt32).toInt32), iv rq, rv b1, iv 1, iv 1] [(.int aq), (.int rq), (.int r5), (.int 1)]) (fun _ z_ => XS.iload X5.here hx rfl (hb hby at_471) rfl z_) ?_
      refine own_g (own_F T5 m 475 #[iv i0, iv i1, iv i2, iv i3, iv i4, iv nq, iv bg, iv sq, iv hi, iv aq, iv wq, iv (i4 &&& (3 : Int32)), iv ((i4.toUInt32 >>> ((2 : Int32) &&& 31).toUInt32).toInt32), iv rq, rv b1, iv 1, iv 1] [(.int sq), (.int aq), (.int rq), (.int r5), (.int 1)]) (fun _ z_ => XS.iload X5.here hx rfl (hb hby at_473) rfl z_) ?_
      refine own_g (own_F T5 m 477 #[iv i0, iv i1, iv i2, iv i3, iv i4, iv nq, iv bg, iv sq, iv hi, iv aq, iv wq, iv (i4 &&& (3 : Int32)), iv ((i4.toUInt32 >>> ((2 : Int32) &&& 31).toUInt32).toInt32), iv rq, rv b1, iv 1, iv 1] [(.int nq), (.int sq), (.int aq), (.int rq), (.int r5), (.int 1)]) (fun _ z_ => XS.iload X5.here hx rfl (hb hby at_475) rfl z_) ?_
      refine own_callS (y := (⟨"com/example/kunci/kunci/NumberSetAddPinLaw", "inRun", "(IIII)Z"⟩ : MethodName)) X5 hx hZ hown (own_w hw 47) (own_w hw 48) (own_w hw 49) (own_w hw 50) (by decide) hh5 (hM := own_inRun l Z a0 hw [] rq aq sq nq hp3 n0 zs3 hrq ha.1 hs.1 hnq.1) (W := 2) (pc := 477) (Ls := #[iv i0, iv i1, iv i2, iv i3, iv i4, iv nq, iv bg, iv sq, iv hi, iv aq, iv wq, iv (i4 &&& (3 : Int32)), iv ((i4.toUInt32 >>> ((2 : Int32) &&& 31).toUInt32).toInt32), iv rq, rv b1, iv 1, iv 1]) (argsL := [(.int rq), (.int aq), (.int sq), (.int nq)]) (rest := [(.int r5), (.int 1)]) (st0 := [(.int nq), (.int sq), (.int aq), (.int rq), (.int r5), (.int 1)]) (by rw [hml]; rfl) (lenOf own_pd8 rfl) rfl (Nat.le_of_eq rfl) (hb hby at_477) (by first | decide | omega | (simp only [room_1]; omega) | (simp only [room_1]; done) | (dsimp only; omega) | (dsimp only; done)) (by first | decide | omega | (simp only [room_1]; omega) | (simp only [room_1]; done) | (dsimp only; omega) | (dsimp only; done)) (by first | decide | omega | (simp only [room_1]; omega) | (simp only [room_1]; done) | (dsimp only; omega) | (dsimp only; done)) (by first | decide | omega | (simp only [room_1]; omega) | (simp only [room_1]; done) | (dsimp only; omega) | (dsimp only; done)) ?_
      intro v6 T6 L6 X6 hQ6
      obtain ⟨r6, rfl, hr6, Nq6, hh6⟩ := hQ6
      have N6 := Fr.app N5 Nq6
      show own_Ends p e below s _ _ _ (own_F T6 m 480 #[iv i0, iv i1, iv i2, iv i3, iv i4, iv nq, iv bg, iv sq, iv hi, iv aq, iv wq, iv (i4 &&& (3 : Int32)), iv ((i4.toUInt32 >>> ((2 : Int32) &&& 31).toUInt32).toInt32), iv rq, rv b1, iv 1, iv 1] [(.int r6), (.int r5), (.int 1)])
      rcases hr6 with ⟨rfl, hi_⟩ | ⟨rfl, hi_⟩
      ·
       show own_Ends p e below s _ _ _ (own_F T6 m 480 #[iv i0, iv i1, iv i2, iv i3, iv i4, iv nq, iv bg, iv sq, iv hi, iv aq, iv wq, iv (i4 &&& (3 : Int32)), iv ((i4.toUInt32 >>> ((2 : Int32) &&& 31).toUInt32).toInt32), iv rq, rv b1, iv 1, iv 1] [(.int 1), (.int r5), (.int 1)])
       refine own_g (own_F T6 m 483 #[iv i0, iv i1, iv i2, iv i3, iv i4, iv nq, iv bg, iv sq, iv hi, iv aq, iv wq, iv (i4 &&& (3 : Int32)), iv ((i4.toUInt32 >>> ((2 : Int32) &&& 31).toUInt32).toInt32), iv rq, rv b1, iv 1, iv 1] [(.int r5), (.int 1)]) (fun _ z_ => XS.ifNo X6.here hx rfl (hb hby at_480) rfl ((if0 _ _).trans (feq (by decide : ¬ ((1 : Int32) = (0 : Int32)))).1) z_) ?_
       refine own_g (own_F T6 m 484 #[iv i0, iv i1, iv i2, iv i3, iv i4, iv nq, iv bg, iv sq, iv hi, iv aq, iv wq, iv (i4 &&& (3 : Int32)), iv ((i4.toUInt32 >>> ((2 : Int32) &&& 31).toUInt32).toInt32), iv rq, rv b1, iv 1, iv 1] [(.int 1), (.int r5), (.int 1)]) (fun _ z_ => XS.iconst X6.here hx rfl (hb hby at_483) z_) ?_
       refine own_g (own_F T6 m 488 #[iv i0, iv i1, iv i2, iv i3, iv i4, iv nq, iv bg, iv sq, iv hi, iv aq, iv wq, iv (i4 &&& (3 : Int32)), iv ((i4.toUInt32 >>> ((2 : Int32) &&& 31).toUInt32).toInt32), iv rq, rv b1, iv 1, iv 1] [(.int 1), (.int r5), (.int 1)]) (fun _ z_ => XS.goto X6.here hx rfl (pc0 := 484) (pc' := 488) rfl (hb hby at_484) (by decide) (by decide) z_) ?_
       refine own_g (own_F T6 m 491 #[iv i0, iv i1, iv i2, iv i3, iv i4, iv nq, iv bg, iv sq, iv hi, iv aq, iv wq, iv (i4 &&& (3 : Int32)), iv ((i4.toUInt32 >>> ((2 : Int32) &&& 31).toUInt32).toInt32), iv rq, rv b1, iv 1, iv 1] [(.int 1)]) (fun _ z_ => XS.icmpNo X6.here hx rfl (hb hby at_488) rfl (teq (own_eqb (P := own_M aq sq nq.toInt.toNat wq rq) (own_iff1 (hm rq) hr5) (Or.inl ⟨rfl, Or.inl hi_⟩))).2 z_) ?_
       refine own_g (own_F T6 m 492 #[iv i0, iv i1, iv i2, iv i3, iv i4, iv nq, iv bg, iv sq, iv hi, iv aq, iv wq, iv (i4 &&& (3 : Int32)), iv ((i4.toUInt32 >>> ((2 : Int32) &&& 31).toUInt32).toInt32), iv rq, rv b1, iv 1, iv 1] [(.int 1), (.int 1)]) (fun _ z_ => XS.iconst X6.here hx rfl (hb hby at_491) z_) ?_
       refine own_g (own_F T6 m 496 #[iv i0, iv i1, iv i2, iv i3, iv i4, iv nq, iv bg, iv sq, iv hi, iv aq, iv wq, iv (i4 &&& (3 : Int32)), iv ((i4.toUInt32 >>> ((2 : Int32) &&& 31).toUInt32).toInt32), iv rq, rv b1, iv 1, iv 1] [(.int 1), (.int 1)]) (fun _ z_ => XS.goto X6.here hx rfl (pc0 := 492) (pc' := 496) rfl (hb hby at_492) (by decide) (by decide) z_) ?_
       refine own_g (own_F T6 m 497 #[iv i0, iv i1, iv i2, iv i3, iv i4, iv nq, iv bg, iv sq, iv hi, iv aq, iv wq, iv (i4 &&& (3 : Int32)), iv ((i4.toUInt32 >>> ((2 : Int32) &&& 31).toUInt32).toInt32), iv rq, rv b1, iv 1, iv 1] [(.int 1)]) (fun _ z_ => XS.iand X6.here hx rfl (hb hby at_496) rfl z_) ?_
       refine own_g (own_F T6 m 499 #[iv i0, iv i1, iv i2, iv i3, iv i4, iv nq, iv bg, iv sq, iv hi, iv aq, iv wq, iv (i4 &&& (3 : Int32)), iv ((i4.toUInt32 >>> ((2 : Int32) &&& 31).toUInt32).toInt32), iv rq, rv b1, iv 1, iv 1] []) (fun _ z_ => XS.istore X6.here hx rfl (hb hby at_497) rfl (l' := #[iv i0, iv i1, iv i2, iv i3, iv i4, iv nq, iv bg, iv sq, iv hi, iv aq, iv wq, iv (i4 &&& (3 : Int32)), iv ((i4.toUInt32 >>> ((2 : Int32) &&& 31).toUInt32).toInt32), iv rq, rv b1, iv 1, iv 1]) rfl z_) ?_
       refine own_g (own_F T6 m 501 #[iv i0, iv i1, iv i2, iv i3, iv i4, iv nq, iv bg, iv sq, iv hi, iv aq, iv wq, iv (i4 &&& (3 : Int32)), iv ((i4.toUInt32 >>> ((2 : Int32) &&& 31).toUInt32).toInt32), iv rq, rv b1, iv 1, iv 1] [(.int 1)]) (fun _ z_ => XS.iload X6.here hx rfl (hb hby at_499) rfl z_) ?_
       refine own_ret (t := .boolean) X6 hx hlk hrt rfl (Or.inl ⟨rfl, by simp, _, rfl⟩) (hb hby at_501) (by first | decide | omega | (simp only [room_1]; omega) | (simp only [room_1]; done) | (dsimp only; omega) | (dsimp only; done)) (by first | decide | omega | (simp only [room_1]; omega) | (simp only [room_1]; done) | (dsimp only; omega) | (dsimp only; done)) ?_
       exact ⟨rfl, N6⟩
      ·
       show own_Ends p e below s _ _ _ (own_F T6 m 480 #[iv i0, iv i1, iv i2, iv i3, iv i4, iv nq, iv bg, iv sq, iv hi, iv aq, iv wq, iv (i4 &&& (3 : Int32)), iv ((i4.toUInt32 >>> ((2 : Int32) &&& 31).toUInt32).toInt32), iv rq, rv b1, iv 1, iv 1] [(.int 0), (.int r5), (.int 1)])
       refine own_g (own_F T6 m 487 #[iv i0, iv i1, iv i2, iv i3, iv i4, iv nq, iv bg, iv sq, iv hi, iv aq, iv wq, iv (i4 &&& (3 : Int32)), iv ((i4.toUInt32 >>> ((2 : Int32) &&& 31).toUInt32).toInt32), iv rq, rv b1, iv 1, iv 1] [(.int r5), (.int 1)]) (fun _ z_ => XS.ifYes X6.here hx rfl (pc0 := 480) (pc' := 487) rfl (hb hby at_480) rfl ((if0 _ _).trans (teq (by decide : ((0 : Int32) = (0 : Int32)))).1) (by decide) (by decide) z_) ?_
       refine own_g (own_F T6 m 488 #[iv i0, iv i1, iv i2, iv i3, iv i4, iv nq, iv bg, iv sq, iv hi, iv aq, iv wq, iv (i4 &&& (3 : Int32)), iv ((i4.toUInt32 >>> ((2 : Int32) &&& 31).toUInt32).toInt32), iv rq, rv b1, iv 1, iv 1] [(.int 0), (.int r5), (.int 1)]) (fun _ z_ => XS.iconst X6.here hx rfl (hb hby at_487) z_) ?_
       refine own_g (own_F T6 m 491 #[iv i0, iv i1, iv i2, iv i3, iv i4, iv nq, iv bg, iv sq, iv hi, iv aq, iv wq, iv (i4 &&& (3 : Int32)), iv ((i4.toUInt32 >>> ((2 : Int32) &&& 31).toUInt32).toInt32), iv rq, rv b1, iv 1, iv 1] [(.int 1)]) (fun _ z_ => XS.icmpNo X6.here hx rfl (hb hby at_488) rfl (teq (own_eqb (P := own_M aq sq nq.toInt.toNat wq rq) (own_iff1 (hm rq) hr5) (Or.inr ⟨rfl, fun z => z.elim hi_ (fun z => c466 z.symm)⟩))).2 z_) ?_
       refine own_g (own_F T6 m 492 #[iv i0, iv i1, iv i2, iv i3, iv i4, iv nq, iv bg, iv sq, iv hi, iv aq, iv wq, iv (i4 &&& (3 : Int32)), iv ((i4.toUInt32 >>> ((2 : Int32) &&& 31).toUInt32).toInt32), iv rq, rv b1, iv 1, iv 1] [(.int 1), (.int 1)]) (fun _ z_ => XS.iconst X6.here hx rfl (hb hby at_491) z_) ?_
       refine own_g (own_F T6 m 496 #[iv i0, iv i1, iv i2, iv i3, iv i4, iv nq, iv bg, iv sq, iv hi, iv aq, iv wq, iv (i4 &&& (3 : Int32)), iv ((i4.toUInt32 >>> ((2 : Int32) &&& 31).toUInt32).toInt32), iv rq, rv b1, iv 1, iv 1] [(.int 1), (.int 1)]) (fun _ z_ => XS.goto X6.here hx rfl (pc0 := 492) (pc' := 496) rfl (hb hby at_492) (by decide) (by decide) z_) ?_
       refine own_g (own_F T6 m 497 #[iv i0, iv i1, iv i2, iv i3, iv i4, iv nq, iv bg, iv sq, iv hi, iv aq, iv wq, iv (i4 &&& (3 : Int32)), iv ((i4.toUInt32 >>> ((2 : Int32) &&& 31).toUInt32).toInt32), iv rq, rv b1, iv 1, iv 1] [(.int 1)]) (fun _ z_ => XS.iand X6.here hx rfl (hb hby at_496) rfl z_) ?_
       refine own_g (own_F T6 m 499 #[iv i0, iv i1, iv i2, iv i3, iv i4, iv nq, iv bg, iv sq, iv hi, iv aq, iv wq, iv (i4 &&& (3 : Int32)), iv ((i4.toUInt32 >>> ((2 : Int32) &&& 31).toUInt32).toInt32), iv rq, rv b1, iv 1, iv 1] []) (fun _ z_ => XS.istore X6.here hx rfl (hb hby at_497) rfl (l' := #[iv i0, iv i1, iv i2, iv i3, iv i4, iv nq, iv bg, iv sq, iv hi, iv aq, iv wq, iv (i4 &&& (3 : Int32)), iv ((i4.toUInt32 >>> ((2 : Int32) &&& 31).toUInt32).toInt32), iv rq, rv b1, iv 1, iv 1]) rfl z_) ?_
       refine own_g (own_F T6 m 501 #[iv i0, iv i1, iv i2, iv i3, iv i4, iv nq, iv bg, iv sq, iv hi, iv aq, iv wq, iv (i4 &&& (3 : Int32)), iv ((i4.toUInt32 >>> ((2 : Int32) &&& 31).toUInt32).toInt32), iv rq, rv b1, iv 1, iv 1] [(.int 1)]) (fun _ z_ => XS.iload X6.here hx rfl (hb hby at_499) rfl z_) ?_
       refine own_ret (t := .boolean) X6 hx hlk hrt rfl (Or.inl ⟨rfl, by simp, _, rfl⟩) (hb hby at_501) (by first | decide | omega | (simp only [room_1]; omega) | (simp only [room_1]; done) | (dsimp only; omega) | (dsimp only; done)) (by first | decide | omega | (simp only [room_1]; omega) | (simp only [room_1]; done) | (dsimp only; omega) | (dsimp only; done)) ?_
       exact ⟨rfl, N6⟩
    ·
     obtain ⟨sz, hsz, Fsz⟩ := hF.size
     refine own_g (own_F T3 m 424 #[iv i0, iv i1, iv i2, iv i3, iv i4, iv nq, iv bg, iv sq, iv hi, iv aq, iv wq, iv (i4 &&& (3 : Int32)), iv ((i4.toUInt32 >>> ((2 : Int32) &&& 31).toUInt32).toInt32), iv rq, rv b1, iv 1, iv 1] [(.int 1)]) (fun _ z_ => XS.iload X3.here hx rfl (hb hby at_422) rfl z_) ?_
     refine own_g (own_F T3 m 426 #[iv i0, iv i1, iv i2, iv i3, iv i4, iv nq, iv bg, iv sq, iv hi, iv aq, iv wq, iv (i4 &&& (3 : Int32)), iv ((i4.toUInt32 >>> ((2 : Int32) &&& 31).toUInt32).toInt32), iv rq, rv b1, iv 1, iv 1] [(.ref b1), (.int 1)]) (fun _ z_ => XS.aload X3.here hx rfl (hb hby at_424) rfl rfl z_) ?_
     refine own_callV (C := "com/example/kunci/kunci/NumberSet") (y := (⟨"com/example/kunci/kunci/NumberSet", "size", "()I"⟩ : MethodName)) (b := b1) X3 hx hZ hown (own_w hw 51) (own_w hw 52) (own_w hw 54) (own_w hw 53) (own_w hw 55) (own_w hw 4) (by decide) e3 hF.exa (hM := own_sizeC l Z a0 hw [] b1 sz hp3 n0 zs3 Fsz) (W := 1) (pc := 426) (Ls := #[iv i0, iv i1, iv i2, iv i3, iv i4, iv nq, iv bg, iv sq, iv hi, iv aq, iv wq, iv (i4 &&& (3 : Int32)), iv ((i4.toUInt32 >>> ((2 : Int32) &&& 31).toUInt32).toInt32), iv rq, rv b1, iv 1, iv 1]) (argsL := []) (rest := [(.int 1)]) (st0 := [(.ref b1), (.int 1)]) (by rw [hml]; rfl) (lenOf own_pd7 rfl) rfl (Nat.le_of_eq rfl) (hb hby at_426) (by first | decide | omega | (simp only [room_1]; omega) | (simp only [room_1]; done) | (dsimp only; omega) | (dsimp only; done)) (by first | decide | omega | (simp only [room_1]; omega) | (simp only [room_1]; done) | (dsimp only; omega) | (dsimp only; done)) (by first | decide | omega | (simp only [room_1]; omega) | (simp only [room_1]; done) | (dsimp only; omega) | (dsimp only; done)) (by first | decide | omega | (simp only [room_1]; omega) | (simp only [room_1]; done) | (dsimp only; omega) | (dsimp only; done)) ?_
     intro v7 T7 L7 X7 hQ7
     obtain ⟨rfl, Nq7, hh7⟩ := hQ7
     have N7 := Fr.app N3 Nq7
     show own_Ends p e below s _ _ _ (own_F T7 m 429 #[iv i0, iv i1, iv i2, iv i3, iv i4, iv nq, iv bg, iv sq, iv hi, iv aq, iv wq, iv (i4 &&& (3 : Int32)), iv ((i4.toUInt32 >>> ((2 : Int32) &&& 31).toUInt32).toInt32), iv rq, rv b1, iv 1, iv 1] [(.int sz), (.int 1)])
     refine own_g (own_F T7 m 431 #[iv i0, iv i1, iv i2, iv i3, iv i4, iv nq, iv bg, iv sq, iv hi, iv aq, iv wq, iv (i4 &&& (3 : Int32)), iv ((i4.toUInt32 >>> ((2 : Int32) &&& 31).toUInt32).toInt32), iv rq, rv b1, iv 1, iv 1] [(.int nq), (.int sz), (.int 1)]) (fun _ z_ => XS.iload X7.here hx rfl (hb hby at_429) rfl z_) ?_
     refine own_g (own_F T7 m 433 #[iv i0, iv i1, iv i2, iv i3, iv i4, iv nq, iv bg, iv sq, iv hi, iv aq, iv wq, iv (i4 &&& (3 : Int32)), iv ((i4.toUInt32 >>> ((2 : Int32) &&& 31).toUInt32).toInt32), iv rq, rv b1, iv 1, iv 1] [(.int 1), (.int nq), (.int sz), (.int 1)]) (fun _ z_ => XS.iload X7.here hx rfl (hb hby at_431) rfl z_) ?_
     refine own_g (own_F T7 m 436 #[iv i0, iv i1, iv i2, iv i3, iv i4, iv nq, iv bg, iv sq, iv hi, iv aq, iv wq, iv (i4 &&& (3 : Int32)), iv ((i4.toUInt32 >>> ((2 : Int32) &&& 31).toUInt32).toInt32), iv rq, rv b1, iv 1, iv 1] [(.int nq), (.int sz), (.int 1)]) (fun _ z_ => XS.ifNo X7.here hx rfl (hb hby at_433) rfl ((if0 _ _).trans (feq (by decide : ¬ ((1 : Int32) = (0 : Int32)))).1) z_) ?_
     refine own_g (own_F T7 m 437 #[iv i0, iv i1, iv i2, iv i3, iv i4, iv nq, iv bg, iv sq, iv hi, iv aq, iv wq, iv (i4 &&& (3 : Int32)), iv ((i4.toUInt32 >>> ((2 : Int32) &&& 31).toUInt32).toInt32), iv rq, rv b1, iv 1, iv 1] [(.int 1), (.int nq), (.int sz), (.int 1)]) (fun _ z_ => XS.iconst X7.here hx rfl (hb hby at_436) z_) ?_
     refine own_g (own_F T7 m 441 #[iv i0, iv i1, iv i2, iv i3, iv i4, iv nq, iv bg, iv sq, iv hi, iv aq, iv wq, iv (i4 &&& (3 : Int32)), iv ((i4.toUInt32 >>> ((2 : Int32) &&& 31).toUInt32).toInt32), iv rq, rv b1, iv 1, iv 1] [(.int 1), (.int nq), (.int sz), (.int 1)]) (fun _ z_ => XS.goto X7.here hx rfl (pc0 := 437) (pc' := 441) rfl (hb hby at_437) (by decide) (by decide) z_) ?_
     refine own_g (own_F T7 m 442 #[iv i0, iv i1, iv i2, iv i3, iv i4, iv nq, iv bg, iv sq, iv hi, iv aq, iv wq, iv (i4 &&& (3 : Int32)), iv ((i4.toUInt32 >>> ((2 : Int32) &&& 31).toUInt32).toInt32), iv rq, rv b1, iv 1, iv 1] [(.int (nq + (1 : Int32))), (.int sz), (.int 1)]) (fun _ z_ => XS.iadd X7.here hx rfl (hb hby at_441) rfl z_) ?_
     refine own_g (own_F T7 m 445 #[iv i0, iv i1, iv i2, iv i3, iv i4, iv nq, iv bg, iv sq, iv hi, iv aq, iv wq, iv (i4 &&& (3 : Int32)), iv ((i4.toUInt32 >>> ((2 : Int32) &&& 31).toUInt32).toInt32), iv rq, rv b1, iv 1, iv 1] [(.int 1)]) (fun _ z_ => XS.icmpNo X7.here hx rfl (hb hby at_442) rfl (teq (by rw [← Int32.toInt_inj, hsz, hlen]; have h1 := c_iadd nq 1; have h2 := rng32 (nq + 1); simp only [Int32.reduceToInt] at h1; omega)).2 z_) ?_
     refine own_g (own_F T7 m 446 #[iv i0, iv i1, iv i2, iv i3, iv i4, iv nq, iv bg, iv sq, iv hi, iv aq, iv wq, iv (i4 &&& (3 : Int32)), iv ((i4.toUInt32 >>> ((2 : Int32) &&& 31).toUInt32).toInt32), iv rq, rv b1, iv 1, iv 1] [(.int 1), (.int 1)]) (fun _ z_ => XS.iconst X7.here hx rfl (hb hby at_445) z_) ?_
     refine own_g (own_F T7 m 450 #[iv i0, iv i1, iv i2, iv i3, iv i4, iv nq, iv bg, iv sq, iv hi, iv aq, iv wq, iv (i4 &&& (3 : Int32)), iv ((i4.toUInt32 >>> ((2 : Int32) &&& 31).toUInt32).toInt32), iv rq, rv b1, iv 1, iv 1] [(.int 1), (.int 1)]) (fun _ z_ => XS.goto X7.here hx rfl (pc0 := 446) (pc' := 450) rfl (hb hby at_446) (by decide) (by decide) z_) ?_
     refine own_g (own_F T7 m 451 #[iv i0, iv i1, iv i2, iv i3, iv i4, iv nq, iv bg, iv sq, iv hi, iv aq, iv wq, iv (i4 &&& (3 : Int32)), iv ((i4.toUInt32 >>> ((2 : Int32) &&& 31).toUInt32).toInt32), iv rq, rv b1, iv 1, iv 1] [(.int 1)]) (fun _ z_ => XS.iand X7.here hx rfl (hb hby at_450) rfl z_) ?_
     refine own_g (own_F T7 m 453 #[iv i0, iv i1, iv i2, iv i3, iv i4, iv nq, iv bg, iv sq, iv hi, iv aq, iv wq, iv (i4 &&& (3 : Int32)), iv ((i4.toUInt32 >>> ((2 : Int32) &&& 31).toUInt32).toInt32), iv rq, rv b1, iv 1, iv 1] []) (fun _ z_ => XS.istore X7.here hx rfl (hb hby at_451) rfl (l' := #[iv i0, iv i1, iv i2, iv i3, iv i4, iv nq, iv bg, iv sq, iv hi, iv aq, iv wq, iv (i4 &&& (3 : Int32)), iv ((i4.toUInt32 >>> ((2 : Int32) &&& 31).toUInt32).toInt32), iv rq, rv b1, iv 1, iv 1]) rfl z_) ?_
     refine own_g (own_F T7 m 455 #[iv i0, iv i1, iv i2, iv i3, iv i4, iv nq, iv bg, iv sq, iv hi, iv aq, iv wq, iv (i4 &&& (3 : Int32)), iv ((i4.toUInt32 >>> ((2 : Int32) &&& 31).toUInt32).toInt32), iv rq, rv b1, iv 1, iv 1] [(.int 1)]) (fun _ z_ => XS.iload X7.here hx rfl (hb hby at_453) rfl z_) ?_
     refine own_g (own_F T7 m 457 #[iv i0, iv i1, iv i2, iv i3, iv i4, iv nq, iv bg, iv sq, iv hi, iv aq, iv wq, iv (i4 &&& (3 : Int32)), iv ((i4.toUInt32 >>> ((2 : Int32) &&& 31).toUInt32).toInt32), iv rq, rv b1, iv 1, iv 1] [(.ref b1), (.int 1)]) (fun _ z_ => XS.aload X7.here hx rfl (hb hby at_455) rfl rfl z_) ?_
     refine own_g (own_F T7 m 459 #[iv i0, iv i1, iv i2, iv i3, iv i4, iv nq, iv bg, iv sq, iv hi, iv aq, iv wq, iv (i4 &&& (3 : Int32)), iv ((i4.toUInt32 >>> ((2 : Int32) &&& 31).toUInt32).toInt32), iv rq, rv b1, iv 1, iv 1] [(.int rq), (.ref b1), (.int 1)]) (fun _ z_ => XS.iload X7.here hx rfl (hb hby at_457) rfl z_) ?_
     refine own_callV (C := "com/example/kunci/kunci/NumberSet") (y := (⟨"com/example/kunci/kunci/NumberSet", "contains", "(I)Z"⟩ : MethodName)) (b := b1) X7 hx hZ hown (own_w hw 56) (own_w hw 20) (own_w hw 22) (own_w hw 21) (own_w hw 23) (own_w hw 4) (by decide) hh7 hF.exa (hM := own_conG l Z a0 hw [] b1 len cap rq U hp3 n0 zs3 hrq hF f3_0) (W := 1) (pc := 459) (Ls := #[iv i0, iv i1, iv i2, iv i3, iv i4, iv nq, iv bg, iv sq, iv hi, iv aq, iv wq, iv (i4 &&& (3 : Int32)), iv ((i4.toUInt32 >>> ((2 : Int32) &&& 31).toUInt32).toInt32), iv rq, rv b1, iv 1, iv 1]) (argsL := [(.int rq)]) (rest := [(.int 1)]) (st0 := [(.int rq), (.ref b1), (.int 1)]) (by rw [hml]; rfl) (lenOf own_pd0 rfl) rfl (Nat.le_of_eq rfl) (hb hby at_459) (by first | decide | omega | (simp only [room_1]; omega) | (simp only [room_1]; done) | (dsimp only; omega) | (dsimp only; done)) (by first | decide | omega | (simp only [room_1]; omega) | (simp only [room_1]; done) | (dsimp only; omega) | (dsimp only; done)) (by first | decide | omega | (simp only [room_1]; omega) | (simp only [room_1]; done) | (dsimp only; omega) | (dsimp only; done)) (by first | decide | omega | (simp only [room_1]; omega) | (simp only [room_1]; done) | (dsimp only; omega) | (dsimp only; done)) ?_
     intro v8 T8 L8 X8 hQ8
     obtain ⟨r8, rfl, hr8, Nq8, hh8⟩ := hQ8
     have N8 := Fr.app N7 Nq8
     show own_Ends p e below s _ _ _ (own_F T8 m 462 #[iv i0, iv i1, iv i2, iv i3, iv i4, iv nq, iv bg, iv sq, iv hi, iv aq, iv wq, iv (i4 &&& (3 : Int32)), iv ((i4.toUInt32 >>> ((2 : Int32) &&& 31).toUInt32).toInt32), iv rq, rv b1, iv 1, iv 1] [(.int r8), (.int 1)])
     refine own_g (own_F T8 m 464 #[iv i0, iv i1, iv i2, iv i3, iv i4, iv nq, iv bg, iv sq, iv hi, iv aq, iv wq, iv (i4 &&& (3 : Int32)), iv ((i4.toUInt32 >>> ((2 : Int32) &&& 31).toUInt32).toInt32), iv rq, rv b1, iv 1, iv 1] [(.int rq), (.int r8), (.int 1)]) (fun _ z_ => XS.iload X8.here hx rfl (hb hby at_462) rfl z_) ?_
     refine own_g (own_F T8 m 466 #[iv i0, iv i1, iv i2, iv i3, iv i4, iv nq, iv bg, iv sq, iv hi, iv aq, iv wq, iv (i4 &&& (3 : Int32)), iv ((i4.toUInt32 >>> ((2 : Int32) &&& 31).toUInt32).toInt32), iv rq, rv b1, iv 1, iv 1] [(.int wq), (.int rq), (.int r8), (.int 1)]) (fun _ z_ => XS.iload X8.here hx rfl (hb hby at_464) rfl z_) ?_
     by_cases c466 : rq = wq
     · -- pc 466: rq = wq
      refine own_g (own_F T8 m 483 #[iv i0, iv i1, iv i2, iv i3, iv i4, iv nq, iv bg, iv sq, iv hi, iv aq, iv wq, iv (i4 &&& (3 : Int32)), iv ((i4.toUInt32 >>> ((2 : Int32) &&& 31).toUInt32).toInt32), iv rq, rv b1, iv 1, iv 1] [(.int r8), (.int 1)]) (fun _ z_ => XS.icmpYes X8.here hx rfl (pc0 := 466) (pc' := 483) rfl (hb hby at_466) rfl (teq c466).1 (by decide) (by decide) z_) ?_
      refine own_g (own_F T8 m 484 #[iv i0, iv i1, iv i2, iv i3, iv i4, iv nq, iv bg, iv sq, iv hi, iv aq, iv wq, iv (i4 &&& (3 : Int32)), iv ((i4.toUInt32 >>> ((2 : Int32) &&& 31).toUInt32).toInt32), iv rq, rv b1, iv 1, iv 1] [(.int 1), (.int r8), (.int 1)]) (fun _ z_ => XS.iconst X8.here hx rfl (hb hby at_483) z_) ?_
      refine own_g (own_F T8 m 488 #[iv i0, iv i1, iv i2, iv i3, iv i4, iv nq, iv bg, iv sq, iv hi, iv aq, iv wq, iv (i4 &&& (3 : Int32)), iv ((i4.toUInt32 >>> ((2 : Int32) &&& 31).toUInt32).toInt32), iv rq, rv b1, iv 1, iv 1] [(.int 1), (.int r8), (.int 1)]) (fun _ z_ => XS.goto X8.here hx rfl (pc0 := 484) (pc' := 488) rfl (hb hby at_484) (by decide) (by decide) z_) ?_
      refine own_g (own_F T8 m 491 #[iv i0, iv i1, iv i2, iv i3, iv i4, iv nq, iv bg, iv sq, iv hi, iv aq, iv wq, iv (i4 &&& (3 : Int32)), iv ((i4.toUInt32 >>> ((2 : Int32) &&& 31).toUInt32).toInt32), iv rq, rv b1, iv 1, iv 1] [(.int 1)]) (fun _ z_ => XS.icmpNo X8.here hx rfl (hb hby at_488) rfl (teq (own_eqb (P := own_M aq sq nq.toInt.toNat wq rq) (own_iff1 (hm rq hrq) hr8) (Or.inl ⟨rfl, Or.inr c466.symm⟩))).2 z_) ?_
      refine own_g (own_F T8 m 492 #[iv i0, iv i1, iv i2, iv i3, iv i4, iv nq, iv bg, iv sq, iv hi, iv aq, iv wq, iv (i4 &&& (3 : Int32)), iv ((i4.toUInt32 >>> ((2 : Int32) &&& 31).toUInt32).toInt32), iv rq, rv b1, iv 1, iv 1] [(.int 1), (.int 1)]) (fun _ z_ => XS.iconst X8.here hx rfl (hb hby at_491) z_) ?_
      refine own_g (own_F T8 m 496 #[iv i0, iv i1, iv i2, iv i3, iv i4, iv nq, iv bg, iv sq, iv hi, iv aq, iv wq, iv (i4 &&& (3 : Int32)), iv ((i4.toUInt32 >>> ((2 : Int32) &&& 31).toUInt32).toInt32), iv rq, rv b1, iv 1, iv 1] [(.int 1), (.int 1)]) (fun _ z_ => XS.goto X8.here hx rfl (pc0 := 492) (pc' := 496) rfl (hb hby at_492) (by decide) (by decide) z_) ?_
      refine own_g (own_F T8 m 497 #[iv i0, iv i1, iv i2, iv i3, iv i4, iv nq, iv bg, iv sq, iv hi, iv aq, iv wq, iv (i4 &&& (3 : Int32)), iv ((i4.toUInt32 >>> ((2 : Int32) &&& 31).toUInt32).toInt32), iv rq, rv b1, iv 1, iv 1] [(.int 1)]) (fun _ z_ => XS.iand X8.here hx rfl (hb hby at_496) rfl z_) ?_
      refine own_g (own_F T8 m 499 #[iv i0, iv i1, iv i2, iv i3, iv i4, iv nq, iv bg, iv sq, iv hi, iv aq, iv wq, iv (i4 &&& (3 : Int32)), iv ((i4.toUInt32 >>> ((2 : Int32) &&& 31).toUInt32).toInt32), iv rq, rv b1, iv 1, iv 1] []) (fun _ z_ => XS.istore X8.here hx rfl (hb hby at_497) rfl (l' := #[iv i0, iv i1, iv i2, iv i3, iv i4, iv nq, iv bg, iv sq, iv hi, iv aq, iv wq, iv (i4 &&& (3 : Int32)), iv ((i4.toUInt32 >>> ((2 : Int32) &&& 31).toUInt32).toInt32), iv rq, rv b1, iv 1, iv 1]) rfl z_) ?_
      refine own_g (own_F T8 m 501 #[iv i0, iv i1, iv i2, iv i3, iv i4, iv nq, iv bg, iv sq, iv hi, iv aq, iv wq, iv (i4 &&& (3 : Int32)), iv ((i4.toUInt32 >>> ((2 : Int32) &&& 31).toUInt32).toInt32), iv rq, rv b1, iv 1, iv 1] [(.int 1)]) (fun _ z_ => XS.iload X8.here hx rfl (hb hby at_499) rfl z_) ?_
      refine own_ret (t := .boolean) X8 hx hlk hrt rfl (Or.inl ⟨rfl, by simp, _, rfl⟩) (hb hby at_501) (by first | decide | omega | (simp only [room_1]; omega) | (simp only [room_1]; done) | (dsimp only; omega) | (dsimp only; done)) (by first | decide | omega | (simp only [room_1]; omega) | (simp only [room_1]; done) | (dsimp only; omega) | (dsimp only; done)) ?_
      exact ⟨rfl, N8⟩
     · -- pc 466: not rq = wq
      refine own_g (own_F T8 m 469 #[iv i0, iv i1, iv i2, iv i3, iv i4, iv nq, iv bg, iv sq, iv hi, iv aq, iv wq, iv (i4 &&& (3 : Int32)), iv ((i4.toUInt32 >>> ((2 : Int32) &&& 31).toUInt32).toInt32), iv rq, rv b1, iv 1, iv 1] [(.int r8), (.int 1)]) (fun _ z_ => XS.icmpNo X8.here hx rfl (hb hby at_466) rfl (feq c466).1 z_) ?_
      refine own_g (own_F T8 m 471 #[iv i0, iv i1, iv i2, iv i3, iv i4, iv nq, iv bg, iv sq, iv hi, iv aq, iv wq, iv (i4 &&& (3 : Int32)), iv ((i4.toUInt32 >>> ((2 : Int32) &&& 31).toUInt32).toInt32), iv rq, rv b1, iv 1, iv 1] [(.int rq), (.int r8), (.int 1)]) (fun _ z_ => XS.iload X8.here hx rfl (hb hby at_469) rfl z_) ?_
      refine own_g (own_F T8 m 473 #[iv i0, iv i1, iv i2, iv i3, iv i4, iv nq, iv bg, iv sq, iv hi, iv aq, iv wq, iv (i4 &&& (3 : Int32)), iv ((i4.toUInt32 >>> ((2 : Int32) &&& 31).toUInt32).toInt32), iv rq, rv b1, iv 1, iv 1] [(.int aq), (.int rq), (.int r8), (.int 1)]) (fun _ z_ => XS.iload X8.here hx rfl (hb hby at_471) rfl z_) ?_
      refine own_g (own_F T8 m 475 #[iv i0, iv i1, iv i2, iv i3, iv i4, iv nq, iv bg, iv sq, iv hi, iv aq, iv wq, iv (i4 &&& (3 : Int32)), iv ((i4.toUInt32 >>> ((2 : Int32) &&& 31).toUInt32).toInt32), iv rq, rv b1, iv 1, iv 1] [(.int sq), (.int aq), (.int rq), (.int r8), (.int 1)]) (fun _ z_ => XS.iload X8.here hx rfl (hb hby at_473) rfl z_) ?_
      refine own_g (own_F T8 m 477 #[iv i0, iv i1, iv i2, iv i3, iv i4, iv nq, iv bg, iv sq, iv hi, iv aq, iv wq, iv (i4 &&& (3 : Int32)), iv ((i4.toUInt32 >>> ((2 : Int32) &&& 31).toUInt32).toInt32), iv rq, rv b1, iv 1, iv 1] [(.int nq), (.int sq), (.int aq), (.int rq), (.int r8), (.int 1)]) (fun _ z_ => XS.iload X8.here hx rfl (hb hby at_475) rfl z_) ?_
      refine own_callS (y := (⟨"com/example/kunci/kunci/NumberSetAddPinLaw", "inRun", "(IIII)Z"⟩ : MethodName)) X8 hx hZ hown (own_w hw 47) (own_w hw 48) (own_w hw 49) (own_w hw 50) (by decide) hh8 (hM := own_inRun l Z a0 hw [] rq aq sq nq hp3 n0 zs3 hrq ha.1 hs.1 hnq.1) (W := 2) (pc := 477) (Ls := #[iv i0, iv i1, iv i2, iv i3, iv i4, iv nq, iv bg, iv sq, iv hi, iv aq, iv wq, iv (i4 &&& (3 : Int32)), iv ((i4.toUInt32 >>> ((2 : Int32) &&& 31).toUInt32).toInt32), iv rq, rv b1, iv 1, iv 1]) (argsL := [(.int rq), (.int aq), (.int sq), (.int nq)]) (rest := [(.int r8), (.int 1)]) (st0 := [(.int nq), (.int sq), (.int aq), (.int rq), (.int r8), (.int 1)]) (by rw [hml]; rfl) (lenOf own_pd8 rfl) rfl (Nat.le_of_eq rfl) (hb hby at_477) (by first | decide | omega | (simp only [room_1]; omega) | (simp only [room_1]; done) | (dsimp only; omega) | (dsimp only; done)) (by first | decide | omega | (simp only [room_1]; omega) | (simp only [room_1]; done) | (dsimp only; omega) | (dsimp only; done)) (by first | decide | omega | (simp only [room_1]; omega) | (simp only [room_1]; done) | (dsimp only; omega) | (dsimp only; done)) (by first | decide | omega | (simp only [room_1]; omega) | (simp only [room_1]; done) | (dsimp only; omega) | (dsimp only; done)) ?_
      intro v9 T9 L9 X9 hQ9
      obtain ⟨r9, rfl, hr9, Nq9, hh9⟩ := hQ9
      have N9 := Fr.app N8 Nq9
      show own_Ends p e below s _ _ _ (own_F T9 m 480 #[iv i0, iv i1, iv i2, iv i3, iv i4, iv nq, iv bg, iv sq, iv hi, iv aq, iv wq, iv (i4 &&& (3 : Int32)), iv ((i4.toUInt32 >>> ((2 : Int32) &&& 31).toUInt32).toInt32), iv rq, rv b1, iv 1, iv 1] [(.int r9), (.int r8), (.int 1)])
      rcases hr9 with ⟨rfl, hi_⟩ | ⟨rfl, hi_⟩
      ·
       show own_Ends p e below s _ _ _ (own_F T9 m 480 #[iv i0, iv i1, iv i2, iv i3, iv i4, iv nq, iv bg, iv sq, iv hi, iv aq, iv wq, iv (i4 &&& (3 : Int32)), iv ((i4.toUInt32 >>> ((2 : Int32) &&& 31).toUInt32).toInt32), iv rq, rv b1, iv 1, iv 1] [(.int 1), (.int r8), (.int 1)])
       refine own_g (own_F T9 m 483 #[iv i0, iv i1, iv i2, iv i3, iv i4, iv nq, iv bg, iv sq, iv hi, iv aq, iv wq, iv (i4 &&& (3 : Int32)), iv ((i4.toUInt32 >>> ((2 : Int32) &&& 31).toUInt32).toInt32), iv rq, rv b1, iv 1, iv 1] [(.int r8), (.int 1)]) (fun _ z_ => XS.ifNo X9.here hx rfl (hb hby at_480) rfl ((if0 _ _).trans (feq (by decide : ¬ ((1 : Int32) = (0 : Int32)))).1) z_) ?_
       refine own_g (own_F T9 m 484 #[iv i0, iv i1, iv i2, iv i3, iv i4, iv nq, iv bg, iv sq, iv hi, iv aq, iv wq, iv (i4 &&& (3 : Int32)), iv ((i4.toUInt32 >>> ((2 : Int32) &&& 31).toUInt32).toInt32), iv rq, rv b1, iv 1, iv 1] [(.int 1), (.int r8), (.int 1)]) (fun _ z_ => XS.iconst X9.here hx rfl (hb hby at_483) z_) ?_
       refine own_g (own_F T9 m 488 #[iv i0, iv i1, iv i2, iv i3, iv i4, iv nq, iv bg, iv sq, iv hi, iv aq, iv wq, iv (i4 &&& (3 : Int32)), iv ((i4.toUInt32 >>> ((2 : Int32) &&& 31).toUInt32).toInt32), iv rq, rv b1, iv 1, iv 1] [(.int 1), (.int r8), (.int 1)]) (fun _ z_ => XS.goto X9.here hx rfl (pc0 := 484) (pc' := 488) rfl (hb hby at_484) (by decide) (by decide) z_) ?_
       refine own_g (own_F T9 m 491 #[iv i0, iv i1, iv i2, iv i3, iv i4, iv nq, iv bg, iv sq, iv hi, iv aq, iv wq, iv (i4 &&& (3 : Int32)), iv ((i4.toUInt32 >>> ((2 : Int32) &&& 31).toUInt32).toInt32), iv rq, rv b1, iv 1, iv 1] [(.int 1)]) (fun _ z_ => XS.icmpNo X9.here hx rfl (hb hby at_488) rfl (teq (own_eqb (P := own_M aq sq nq.toInt.toNat wq rq) (own_iff1 (hm rq hrq) hr8) (Or.inl ⟨rfl, Or.inl hi_⟩))).2 z_) ?_
       refine own_g (own_F T9 m 492 #[iv i0, iv i1, iv i2, iv i3, iv i4, iv nq, iv bg, iv sq, iv hi, iv aq, iv wq, iv (i4 &&& (3 : Int32)), iv ((i4.toUInt32 >>> ((2 : Int32) &&& 31).toUInt32).toInt32), iv rq, rv b1, iv 1, iv 1] [(.int 1), (.int 1)]) (fun _ z_ => XS.iconst X9.here hx rfl (hb hby at_491) z_) ?_
       refine own_g (own_F T9 m 496 #[iv i0, iv i1, iv i2, iv i3, iv i4, iv nq, iv bg, iv sq, iv hi, iv aq, iv wq, iv (i4 &&& (3 : Int32)), iv ((i4.toUInt32 >>> ((2 : Int32) &&& 31).toUInt32).toInt32), iv rq, rv b1, iv 1, iv 1] [(.int 1), (.int 1)]) (fun _ z_ => XS.goto X9.here hx rfl (pc0 := 492) (pc' := 496) rfl (hb hby at_492) (by decide) (by decide) z_) ?_
       refine own_g (own_F T9 m 497 #[iv i0, iv i1, iv i2, iv i3, iv i4, iv nq, iv bg, iv sq, iv hi, iv aq, iv wq, iv (i4 &&& (3 : Int32)), iv ((i4.toUInt32 >>> ((2 : Int32) &&& 31).toUInt32).toInt32), iv rq, rv b1, iv 1, iv 1] [(.int 1)]) (fun _ z_ => XS.iand X9.here hx rfl (hb hby at_496) rfl z_) ?_
       refine own_g (own_F T9 m 499 #[iv i0, iv i1, iv i2, iv i3, iv i4, iv nq, iv bg, iv sq, iv hi, iv aq, iv wq, iv (i4 &&& (3 : Int32)), iv ((i4.toUInt32 >>> ((2 : Int32) &&& 31).toUInt32).toInt32), iv rq, rv b1, iv 1, iv 1] []) (fun _ z_ => XS.istore X9.here hx rfl (hb hby at_497) rfl (l' := #[iv i0, iv i1, iv i2, iv i3, iv i4, iv nq, iv bg, iv sq, iv hi, iv aq, iv wq, iv (i4 &&& (3 : Int32)), iv ((i4.toUInt32 >>> ((2 : Int32) &&& 31).toUInt32).toInt32), iv rq, rv b1, iv 1, iv 1]) rfl z_) ?_
       refine own_g (own_F T9 m 501 #[iv i0, iv i1, iv i2, iv i3, iv i4, iv nq, iv bg, iv sq, iv hi, iv aq, iv wq, iv (i4 &&& (3 : Int32)), iv ((i4.toUInt32 >>> ((2 : Int32) &&& 31).toUInt32).toInt32), iv rq, rv b1, iv 1, iv 1] [(.int 1)]) (fun _ z_ => XS.iload X9.here hx rfl (hb hby at_499) rfl z_) ?_
       refine own_ret (t := .boolean) X9 hx hlk hrt rfl (Or.inl ⟨rfl, by simp, _, rfl⟩) (hb hby at_501) (by first | decide | omega | (simp only [room_1]; omega) | (simp only [room_1]; done) | (dsimp only; omega) | (dsimp only; done)) (by first | decide | omega | (simp only [room_1]; omega) | (simp only [room_1]; done) | (dsimp only; omega) | (dsimp only; done)) ?_
       exact ⟨rfl, N9⟩
      ·
       show own_Ends p e below s _ _ _ (own_F T9 m 480 #[iv i0, iv i1, iv i2, iv i3, iv i4, iv nq, iv bg, iv sq, iv hi, iv aq, iv wq, iv (i4 &&& (3 : Int32)), iv ((i4.toUInt32 >>> ((2 : Int32) &&& 31).toUInt32).toInt32), iv rq, rv b1, iv 1, iv 1] [(.int 0), (.int r8), (.int 1)])
       refine own_g (own_F T9 m 487 #[iv i0, iv i1, iv i2, iv i3, iv i4, iv nq, iv bg, iv sq, iv hi, iv aq, iv wq, iv (i4 &&& (3 : Int32)), iv ((i4.toUInt32 >>> ((2 : Int32) &&& 31).toUInt32).toInt32), iv rq, rv b1, iv 1, iv 1] [(.int r8), (.int 1)]) (fun _ z_ => XS.ifYes X9.here hx rfl (pc0 := 480) (pc' := 487) rfl (hb hby at_480) rfl ((if0 _ _).trans (teq (by decide : ((0 : Int32) = (0 : Int32)))).1) (by decide) (by decide) z_) ?_
       refine own_g (own_F T9 m 488 #[iv i0, iv i1, iv i2, iv i3, iv i4, iv nq, iv bg, iv sq, iv hi, iv aq, iv wq, iv (i4 &&& (3 : Int32)), iv ((i4.toUInt32 >>> ((2 : Int32) &&& 31).toUInt32).toInt32), iv rq, rv b1, iv 1, iv 1] [(.int 0), (.int r8), (.int 1)]) (fun _ z_ => XS.iconst X9.here hx rfl (hb hby at_487) z_) ?_
       refine own_g (own_F T9 m 491 #[iv i0, iv i1, iv i2, iv i3, iv i4, iv nq, iv bg, iv sq, iv hi, iv aq, iv wq, iv (i4 &&& (3 : Int32)), iv ((i4.toUInt32 >>> ((2 : Int32) &&& 31).toUInt32).toInt32), iv rq, rv b1, iv 1, iv 1] [(.int 1)]) (fun _ z_ => XS.icmpNo X9.here hx rfl (hb hby at_488) rfl (teq (own_eqb (P := own_M aq sq nq.toInt.toNat wq rq) (own_iff1 (hm rq hrq) hr8) (Or.inr ⟨rfl, fun z => z.elim hi_ (fun z => c466 z.symm)⟩))).2 z_) ?_
       refine own_g (own_F T9 m 492 #[iv i0, iv i1, iv i2, iv i3, iv i4, iv nq, iv bg, iv sq, iv hi, iv aq, iv wq, iv (i4 &&& (3 : Int32)), iv ((i4.toUInt32 >>> ((2 : Int32) &&& 31).toUInt32).toInt32), iv rq, rv b1, iv 1, iv 1] [(.int 1), (.int 1)]) (fun _ z_ => XS.iconst X9.here hx rfl (hb hby at_491) z_) ?_
       refine own_g (own_F T9 m 496 #[iv i0, iv i1, iv i2, iv i3, iv i4, iv nq, iv bg, iv sq, iv hi, iv aq, iv wq, iv (i4 &&& (3 : Int32)), iv ((i4.toUInt32 >>> ((2 : Int32) &&& 31).toUInt32).toInt32), iv rq, rv b1, iv 1, iv 1] [(.int 1), (.int 1)]) (fun _ z_ => XS.goto X9.here hx rfl (pc0 := 492) (pc' := 496) rfl (hb hby at_492) (by decide) (by decide) z_) ?_
       refine own_g (own_F T9 m 497 #[iv i0, iv i1, iv i2, iv i3, iv i4, iv nq, iv bg, iv sq, iv hi, iv aq, iv wq, iv (i4 &&& (3 : Int32)), iv ((i4.toUInt32 >>> ((2 : Int32) &&& 31).toUInt32).toInt32), iv rq, rv b1, iv 1, iv 1] [(.int 1)]) (fun _ z_ => XS.iand X9.here hx rfl (hb hby at_496) rfl z_) ?_
       refine own_g (own_F T9 m 499 #[iv i0, iv i1, iv i2, iv i3, iv i4, iv nq, iv bg, iv sq, iv hi, iv aq, iv wq, iv (i4 &&& (3 : Int32)), iv ((i4.toUInt32 >>> ((2 : Int32) &&& 31).toUInt32).toInt32), iv rq, rv b1, iv 1, iv 1] []) (fun _ z_ => XS.istore X9.here hx rfl (hb hby at_497) rfl (l' := #[iv i0, iv i1, iv i2, iv i3, iv i4, iv nq, iv bg, iv sq, iv hi, iv aq, iv wq, iv (i4 &&& (3 : Int32)), iv ((i4.toUInt32 >>> ((2 : Int32) &&& 31).toUInt32).toInt32), iv rq, rv b1, iv 1, iv 1]) rfl z_) ?_
       refine own_g (own_F T9 m 501 #[iv i0, iv i1, iv i2, iv i3, iv i4, iv nq, iv bg, iv sq, iv hi, iv aq, iv wq, iv (i4 &&& (3 : Int32)), iv ((i4.toUInt32 >>> ((2 : Int32) &&& 31).toUInt32).toInt32), iv rq, rv b1, iv 1, iv 1] [(.int 1)]) (fun _ z_ => XS.iload X9.here hx rfl (hb hby at_499) rfl z_) ?_
       refine own_ret (t := .boolean) X9 hx hlk hrt rfl (Or.inl ⟨rfl, by simp, _, rfl⟩) (hb hby at_501) (by first | decide | omega | (simp only [room_1]; omega) | (simp only [room_1]; done) | (dsimp only; omega) | (dsimp only; done)) (by first | decide | omega | (simp only [room_1]; omega) | (simp only [room_1]; done) | (dsimp only; omega) | (dsimp only; done)) ?_
       exact ⟨rfl, N9⟩
   have JZ0 : ∀ (len : Nat) (T10 : State) (lc10 : List Loc) (hp10 : Heap) (X10 : Stand p l e room_1 s m #[(.int i0), (.int i1), (.int i2), (.int i3), (.int i4)] below meth c T10 lc10 32 98432) (e10 : T10.heap = hp10) (N10 : Fr n0 lc10) (zs10 : n0 ≤ hp10.size) (zz10 : h0.size ≤ hp10.size) (f10_0 : Sta Z hp10 "java/util/BitSet" "$assertionsDisabled" "Z" (.int (1 : Int32))) (hD : (∃ (cap : Nat) (g : Nat → Int32), own_few n0 Z hp10 b1 len cap g ∧ ∀ v, own_mem len g v ↔ own_M aq sq nq.toInt.toNat wq v) ∨ (∃ (cap : Nat) (U : Nat → Int64), own_bw n0 Z hp10 b1 len cap U ∧ ∀ v : Int32, 0 ≤ v.toInt → (own_bt U v ↔ own_M aq sq nq.toInt.toNat wq v))) (hlen : len = nq.toInt.toNat + 0), own_Ends p e below s (fun v h L => v = some (.int 1) ∧ Fr n0 L) room_1.cells room_1.slots (own_F T10 m 422 #[iv i0, iv i1, iv i2, iv i3, iv i4, iv nq, iv bg, iv sq, iv hi, iv aq, iv wq, iv (i4 &&& (3 : Int32)), iv ((i4.toUInt32 >>> ((2 : Int32) &&& 31).toUInt32).toInt32), iv rq, rv b1, iv 1, iv 0] []) := by
    intro len T10 lc10 hp10 X10 e10 N10 zs10 zz10 f10_0 hD hlen
    rcases hD with ⟨cap, g, hF, hm⟩ | ⟨cap, U, hF, hm⟩
    ·
     obtain ⟨sz, hsz, Fsz⟩ := hF.size
     refine own_g (own_F T10 m 424 #[iv i0, iv i1, iv i2, iv i3, iv i4, iv nq, iv bg, iv sq, iv hi, iv aq, iv wq, iv (i4 &&& (3 : Int32)), iv ((i4.toUInt32 >>> ((2 : Int32) &&& 31).toUInt32).toInt32), iv rq, rv b1, iv 1, iv 0] [(.int 1)]) (fun _ z_ => XS.iload X10.here hx rfl (hb hby at_422) rfl z_) ?_
     refine own_g (own_F T10 m 426 #[iv i0, iv i1, iv i2, iv i3, iv i4, iv nq, iv bg, iv sq, iv hi, iv aq, iv wq, iv (i4 &&& (3 : Int32)), iv ((i4.toUInt32 >>> ((2 : Int32) &&& 31).toUInt32).toInt32), iv rq, rv b1, iv 1, iv 0] [(.ref b1), (.int 1)]) (fun _ z_ => XS.aload X10.here hx rfl (hb hby at_424) rfl rfl z_) ?_
     refine own_callV (C := "com/example/kunci/kunci/NumberSet") (y := (⟨"com/example/kunci/kunci/NumberSet", "size", "()I"⟩ : MethodName)) (b := b1) X10 hx hZ hown (own_w hw 51) (own_w hw 52) (own_w hw 54) (own_w hw 53) (own_w hw 55) (own_w hw 4) (by decide) e10 hF.exa (hM := own_sizeC l Z a0 hw [] b1 sz hp10 n0 zs10 Fsz) (W := 1) (pc := 426) (Ls := #[iv i0, iv i1, iv i2, iv i3, iv i4, iv nq, iv bg, iv sq, iv hi, iv aq, iv wq, iv (i4 &&& (3 : Int32)), iv ((i4.toUInt32 >>> ((2 : Int32) &&& 31).toUInt32).toInt32), iv rq, rv b1, iv 1, iv 0]) (argsL := []) (rest := [(.int 1)]) (st0 := [(.ref b1), (.int 1)]) (by rw [hml]; rfl) (lenOf own_pd7 rfl) rfl (Nat.le_of_eq rfl) (hb hby at_426) (by first | decide | omega | (simp only [room_1]; omega) | (simp only [room_1]; done) | (dsimp only; omega) | (dsimp only; done)) (by first | decide | omega | (simp only [room_1]; omega) | (simp only [room_1]; done) | (dsimp only; omega) | (dsimp only; done)) (by first | decide | omega | (simp only [room_1]; omega) | (simp only [room_1]; done) | (dsimp only; omega) | (dsimp only; done)) (by first | decide | omega | (simp only [room_1]; omega) | (simp only [room_1]; done) | (dsimp only; omega) | (dsimp only; done)) ?_
     intro v11 T11 L11 X11 hQ11
     obtain ⟨rfl, Nq11, hh11⟩ := hQ11
     have N11 := Fr.app N10 Nq11
     show own_Ends p e below s _ _ _ (own_F T11 m 429 #[iv i0, iv i1, iv i2, iv i3, iv i4, iv nq, iv bg, iv sq, iv hi, iv aq, iv wq, iv (i4 &&& (3 : Int32)), iv ((i4.toUInt32 >>> ((2 : Int32) &&& 31).toUInt32).toInt32), iv rq, rv b1, iv 1, iv 0] [(.int sz), (.int 1)])
     refine own_g (own_F T11 m 431 #[iv i0, iv i1, iv i2, iv i3, iv i4, iv nq, iv bg, iv sq, iv hi, iv aq, iv wq, iv (i4 &&& (3 : Int32)), iv ((i4.toUInt32 >>> ((2 : Int32) &&& 31).toUInt32).toInt32), iv rq, rv b1, iv 1, iv 0] [(.int nq), (.int sz), (.int 1)]) (fun _ z_ => XS.iload X11.here hx rfl (hb hby at_429) rfl z_) ?_
     refine own_g (own_F T11 m 433 #[iv i0, iv i1, iv i2, iv i3, iv i4, iv nq, iv bg, iv sq, iv hi, iv aq, iv wq, iv (i4 &&& (3 : Int32)), iv ((i4.toUInt32 >>> ((2 : Int32) &&& 31).toUInt32).toInt32), iv rq, rv b1, iv 1, iv 0] [(.int 0), (.int nq), (.int sz), (.int 1)]) (fun _ z_ => XS.iload X11.here hx rfl (hb hby at_431) rfl z_) ?_
     refine own_g (own_F T11 m 440 #[iv i0, iv i1, iv i2, iv i3, iv i4, iv nq, iv bg, iv sq, iv hi, iv aq, iv wq, iv (i4 &&& (3 : Int32)), iv ((i4.toUInt32 >>> ((2 : Int32) &&& 31).toUInt32).toInt32), iv rq, rv b1, iv 1, iv 0] [(.int nq), (.int sz), (.int 1)]) (fun _ z_ => XS.ifYes X11.here hx rfl (pc0 := 433) (pc' := 440) rfl (hb hby at_433) rfl ((if0 _ _).trans (teq (by decide : ((0 : Int32) = (0 : Int32)))).1) (by decide) (by decide) z_) ?_
     refine own_g (own_F T11 m 441 #[iv i0, iv i1, iv i2, iv i3, iv i4, iv nq, iv bg, iv sq, iv hi, iv aq, iv wq, iv (i4 &&& (3 : Int32)), iv ((i4.toUInt32 >>> ((2 : Int32) &&& 31).toUInt32).toInt32), iv rq, rv b1, iv 1, iv 0] [(.int 0), (.int nq), (.int sz), (.int 1)]) (fun _ z_ => XS.iconst X11.here hx rfl (hb hby at_440) z_) ?_
     refine own_g (own_F T11 m 442 #[iv i0, iv i1, iv i2, iv i3, iv i4, iv nq, iv bg, iv sq, iv hi, iv aq, iv wq, iv (i4 &&& (3 : Int32)), iv ((i4.toUInt32 >>> ((2 : Int32) &&& 31).toUInt32).toInt32), iv rq, rv b1, iv 1, iv 0] [(.int (nq + (0 : Int32))), (.int sz), (.int 1)]) (fun _ z_ => XS.iadd X11.here hx rfl (hb hby at_441) rfl z_) ?_
     refine own_g (own_F T11 m 445 #[iv i0, iv i1, iv i2, iv i3, iv i4, iv nq, iv bg, iv sq, iv hi, iv aq, iv wq, iv (i4 &&& (3 : Int32)), iv ((i4.toUInt32 >>> ((2 : Int32) &&& 31).toUInt32).toInt32), iv rq, rv b1, iv 1, iv 0] [(.int 1)]) (fun _ z_ => XS.icmpNo X11.here hx rfl (hb hby at_442) rfl (teq (by rw [← Int32.toInt_inj, hsz, hlen]; have h1 := c_iadd nq 0; have h2 := rng32 (nq + 0); simp only [Int32.reduceToInt] at h1; omega)).2 z_) ?_
     refine own_g (own_F T11 m 446 #[iv i0, iv i1, iv i2, iv i3, iv i4, iv nq, iv bg, iv sq, iv hi, iv aq, iv wq, iv (i4 &&& (3 : Int32)), iv ((i4.toUInt32 >>> ((2 : Int32) &&& 31).toUInt32).toInt32), iv rq, rv b1, iv 1, iv 0] [(.int 1), (.int 1)]) (fun _ z_ => XS.iconst X11.here hx rfl (hb hby at_445) z_) ?_
     refine own_g (own_F T11 m 450 #[iv i0, iv i1, iv i2, iv i3, iv i4, iv nq, iv bg, iv sq, iv hi, iv aq, iv wq, iv (i4 &&& (3 : Int32)), iv ((i4.toUInt32 >>> ((2 : Int32) &&& 31).toUInt32).toInt32), iv rq, rv b1, iv 1, iv 0] [(.int 1), (.int 1)]) (fun _ z_ => XS.goto X11.here hx rfl (pc0 := 446) (pc' := 450) rfl (hb hby at_446) (by decide) (by decide) z_) ?_
     refine own_g (own_F T11 m 451 #[iv i0, iv i1, iv i2, iv i3, iv i4, iv nq, iv bg, iv sq, iv hi, iv aq, iv wq, iv (i4 &&& (3 : Int32)), iv ((i4.toUInt32 >>> ((2 : Int32) &&& 31).toUInt32).toInt32), iv rq, rv b1, iv 1, iv 0] [(.int 1)]) (fun _ z_ => XS.iand X11.here hx rfl (hb hby at_450) rfl z_) ?_
     refine own_g (own_F T11 m 453 #[iv i0, iv i1, iv i2, iv i3, iv i4, iv nq, iv bg, iv sq, iv hi, iv aq, iv wq, iv (i4 &&& (3 : Int32)), iv ((i4.toUInt32 >>> ((2 : Int32) &&& 31).toUInt32).toInt32), iv rq, rv b1, iv 1, iv 0] []) (fun _ z_ => XS.istore X11.here hx rfl (hb hby at_451) rfl (l' := #[iv i0, iv i1, iv i2, iv i3, iv i4, iv nq, iv bg, iv sq, iv hi, iv aq, iv wq, iv (i4 &&& (3 : Int32)), iv ((i4.toUInt32 >>> ((2 : Int32) &&& 31).toUInt32).toInt32), iv rq, rv b1, iv 1, iv 0]) rfl z_) ?_
     refine own_g (own_F T11 m 455 #[iv i0, iv i1, iv i2, iv i3, iv i4, iv nq, iv bg, iv sq, iv hi, iv aq, iv wq, iv (i4 &&& (3 : Int32)), iv ((i4.toUInt32 >>> ((2 : Int32) &&& 31).toUInt32).toInt32), iv rq, rv b1, iv 1, iv 0] [(.int 1)]) (fun _ z_ => XS.iload X11.here hx rfl (hb hby at_453) rfl z_) ?_
     refine own_g (own_F T11 m 457 #[iv i0, iv i1, iv i2, iv i3, iv i4, iv nq, iv bg, iv sq, iv hi, iv aq, iv wq, iv (i4 &&& (3 : Int32)), iv ((i4.toUInt32 >>> ((2 : Int32) &&& 31).toUInt32).toInt32), iv rq, rv b1, iv 1, iv 0] [(.ref b1), (.int 1)]) (fun _ z_ => XS.aload X11.here hx rfl (hb hby at_455) rfl rfl z_) ?_
     refine own_g (own_F T11 m 459 #[iv i0, iv i1, iv i2, iv i3, iv i4, iv nq, iv bg, iv sq, iv hi, iv aq, iv wq, iv (i4 &&& (3 : Int32)), iv ((i4.toUInt32 >>> ((2 : Int32) &&& 31).toUInt32).toInt32), iv rq, rv b1, iv 1, iv 0] [(.int rq), (.ref b1), (.int 1)]) (fun _ z_ => XS.iload X11.here hx rfl (hb hby at_457) rfl z_) ?_
     refine own_callV (C := "com/example/kunci/kunci/NumberSet") (y := (⟨"com/example/kunci/kunci/NumberSet", "contains", "(I)Z"⟩ : MethodName)) (b := b1) X11 hx hZ hown (own_w hw 56) (own_w hw 20) (own_w hw 22) (own_w hw 21) (own_w hw 23) (own_w hw 4) (by decide) hh11 hF.exa (hM := own_conf l Z a0 hw [] b1 len cap rq g hp10 n0 zs10 hF) (W := 1) (pc := 459) (Ls := #[iv i0, iv i1, iv i2, iv i3, iv i4, iv nq, iv bg, iv sq, iv hi, iv aq, iv wq, iv (i4 &&& (3 : Int32)), iv ((i4.toUInt32 >>> ((2 : Int32) &&& 31).toUInt32).toInt32), iv rq, rv b1, iv 1, iv 0]) (argsL := [(.int rq)]) (rest := [(.int 1)]) (st0 := [(.int rq), (.ref b1), (.int 1)]) (by rw [hml]; rfl) (lenOf own_pd0 rfl) rfl (Nat.le_of_eq rfl) (hb hby at_459) (by first | decide | omega | (simp only [room_1]; omega) | (simp only [room_1]; done) | (dsimp only; omega) | (dsimp only; done)) (by first | decide | omega | (simp only [room_1]; omega) | (simp only [room_1]; done) | (dsimp only; omega) | (dsimp only; done)) (by first | decide | omega | (simp only [room_1]; omega) | (simp only [room_1]; done) | (dsimp only; omega) | (dsimp only; done)) (by first | decide | omega | (simp only [room_1]; omega) | (simp only [room_1]; done) | (dsimp only; omega) | (dsimp only; done)) ?_
     intro v12 T12 L12 X12 hQ12
     obtain ⟨r12, rfl, hr12, Nq12, hh12⟩ := hQ12
     have N12 := Fr.app N11 Nq12
     show own_Ends p e below s _ _ _ (own_F T12 m 462 #[iv i0, iv i1, iv i2, iv i3, iv i4, iv nq, iv bg, iv sq, iv hi, iv aq, iv wq, iv (i4 &&& (3 : Int32)), iv ((i4.toUInt32 >>> ((2 : Int32) &&& 31).toUInt32).toInt32), iv rq, rv b1, iv 1, iv 0] [(.int r12), (.int 1)])
     refine own_g (own_F T12 m 464 #[iv i0, iv i1, iv i2, iv i3, iv i4, iv nq, iv bg, iv sq, iv hi, iv aq, iv wq, iv (i4 &&& (3 : Int32)), iv ((i4.toUInt32 >>> ((2 : Int32) &&& 31).toUInt32).toInt32), iv rq, rv b1, iv 1, iv 0] [(.int rq), (.int r12), (.int 1)]) (fun _ z_ => XS.iload X12.here hx rfl (hb hby at_462) rfl z_) ?_
     refine own_g (own_F T12 m 466 #[iv i0, iv i1, iv i2, iv i3, iv i4, iv nq, iv bg, iv sq, iv hi, iv aq, iv wq, iv (i4 &&& (3 : Int32)), iv ((i4.toUInt32 >>> ((2 : Int32) &&& 31).toUInt32).toInt32), iv rq, rv b1, iv 1, iv 0] [(.int wq), (.int rq), (.int r12), (.int 1)]) (fun _ z_ => XS.iload X12.here hx rfl (hb hby at_464) rfl z_) ?_
     by_cases c466 : rq = wq
     · -- pc 466: rq = wq
      refine own_g (own_F T12 m 483 #[iv i0, iv i1, iv i2, iv i3, iv i4, iv nq, iv bg, iv sq, iv hi, iv aq, iv wq, iv (i4 &&& (3 : Int32)), iv ((i4.toUInt32 >>> ((2 : Int32) &&& 31).toUInt32).toInt32), iv rq, rv b1, iv 1, iv 0] [(.int r12), (.int 1)]) (fun _ z_ => XS.icmpYes X12.here hx rfl (pc0 := 466) (pc' := 483) rfl (hb hby at_466) rfl (teq c466).1 (by decide) (by decide) z_) ?_
      refine own_g (own_F T12 m 484 #[iv i0, iv i1, iv i2, iv i3, iv i4, iv nq, iv bg, iv sq, iv hi, iv aq, iv wq, iv (i4 &&& (3 : Int32)), iv ((i4.toUInt32 >>> ((2 : Int32) &&& 31).toUInt32).toInt32), iv rq, rv b1, iv 1, iv 0] [(.int 1), (.int r12), (.int 1)]) (fun _ z_ => XS.iconst X12.here hx rfl (hb hby at_483) z_) ?_
      refine own_g (own_F T12 m 488 #[iv i0, iv i1, iv i2, iv i3, iv i4, iv nq, iv bg, iv sq, iv hi, iv aq, iv wq, iv (i4 &&& (3 : Int32)), iv ((i4.toUInt32 >>> ((2 : Int32) &&& 31).toUInt32).toInt32), iv rq, rv b1, iv 1, iv 0] [(.int 1), (.int r12), (.int 1)]) (fun _ z_ => XS.goto X12.here hx rfl (pc0 := 484) (pc' := 488) rfl (hb hby at_484) (by decide) (by decide) z_) ?_
      refine own_g (own_F T12 m 491 #[iv i0, iv i1, iv i2, iv i3, iv i4, iv nq, iv bg, iv sq, iv hi, iv aq, iv wq, iv (i4 &&& (3 : Int32)), iv ((i4.toUInt32 >>> ((2 : Int32) &&& 31).toUInt32).toInt32), iv rq, rv b1, iv 1, iv 0] [(.int 1)]) (fun _ z_ => XS.icmpNo X12.here hx rfl (hb hby at_488) rfl (teq (own_eqb (P := own_M aq sq nq.toInt.toNat wq rq) (own_iff1 (hm rq) hr12) (Or.inl ⟨rfl, Or.inr c466.symm⟩))).2 z_) ?_
      refine own_g (own_F T12 m 492 #[iv i0, iv i1, iv i2, iv i3, iv i4, iv nq, iv bg, iv sq, iv hi, iv aq, iv wq, iv (i4 &&& (3 : Int32)), iv ((i4.toUInt32 >>> ((2 : Int32) &&& 31).toUInt32).toInt32), iv rq, rv b1, iv 1, iv 0] [(.int 1), (.int 1)]) (fun _ z_ => XS.iconst X12.here hx rfl (hb hby at_491) z_) ?_
      refine own_g (own_F T12 m 496 #[iv i0, iv i1, iv i2, iv i3, iv i4, iv nq, iv bg, iv sq, iv hi, iv aq, iv wq, iv (i4 &&& (3 : Int32)), iv ((i4.toUInt32 >>> ((2 : Int32) &&& 31).toUInt32).toInt32), iv rq, rv b1, iv 1, iv 0] [(.int 1), (.int 1)]) (fun _ z_ => XS.goto X12.here hx rfl (pc0 := 492) (pc' := 496) rfl (hb hby at_492) (by decide) (by decide) z_) ?_
      refine own_g (own_F T12 m 497 #[iv i0, iv i1, iv i2, iv i3, iv i4, iv nq, iv bg, iv sq, iv hi, iv aq, iv wq, iv (i4 &&& (3 : Int32)), iv ((i4.toUInt32 >>> ((2 : Int32) &&& 31).toUInt32).toInt32), iv rq, rv b1, iv 1, iv 0] [(.int 1)]) (fun _ z_ => XS.iand X12.here hx rfl (hb hby at_496) rfl z_) ?_
      refine own_g (own_F T12 m 499 #[iv i0, iv i1, iv i2, iv i3, iv i4, iv nq, iv bg, iv sq, iv hi, iv aq, iv wq, iv (i4 &&& (3 : Int32)), iv ((i4.toUInt32 >>> ((2 : Int32) &&& 31).toUInt32).toInt32), iv rq, rv b1, iv 1, iv 0] []) (fun _ z_ => XS.istore X12.here hx rfl (hb hby at_497) rfl (l' := #[iv i0, iv i1, iv i2, iv i3, iv i4, iv nq, iv bg, iv sq, iv hi, iv aq, iv wq, iv (i4 &&& (3 : Int32)), iv ((i4.toUInt32 >>> ((2 : Int32) &&& 31).toUInt32).toInt32), iv rq, rv b1, iv 1, iv 0]) rfl z_) ?_
      refine own_g (own_F T12 m 501 #[iv i0, iv i1, iv i2, iv i3, iv i4, iv nq, iv bg, iv sq, iv hi, iv aq, iv wq, iv (i4 &&& (3 : Int32)), iv ((i4.toUInt32 >>> ((2 : Int32) &&& 31).toUInt32).toInt32), iv rq, rv b1, iv 1, iv 0] [(.int 1)]) (fun _ z_ => XS.iload X12.here hx rfl (hb hby at_499) rfl z_) ?_
      refine own_ret (t := .boolean) X12 hx hlk hrt rfl (Or.inl ⟨rfl, by simp, _, rfl⟩) (hb hby at_501) (by first | decide | omega | (simp only [room_1]; omega) | (simp only [room_1]; done) | (dsimp only; omega) | (dsimp only; done)) (by first | decide | omega | (simp only [room_1]; omega) | (simp only [room_1]; done) | (dsimp only; omega) | (dsimp only; done)) ?_
      exact ⟨rfl, N12⟩
     · -- pc 466: not rq = wq
      refine own_g (own_F T12 m 469 #[iv i0, iv i1, iv i2, iv i3, iv i4, iv nq, iv bg, iv sq, iv hi, iv aq, iv wq, iv (i4 &&& (3 : Int32)), iv ((i4.toUInt32 >>> ((2 : Int32) &&& 31).toUInt32).toInt32), iv rq, rv b1, iv 1, iv 0] [(.int r12), (.int 1)]) (fun _ z_ => XS.icmpNo X12.here hx rfl (hb hby at_466) rfl (feq c466).1 z_) ?_
      refine own_g (own_F T12 m 471 #[iv i0, iv i1, iv i2, iv i3, iv i4, iv nq, iv bg, iv sq, iv hi, iv aq, iv wq, iv (i4 &&& (3 : Int32)), iv ((i4.toUInt32 >>> ((2 : Int32) &&& 31).toUInt32).toInt32), iv rq, rv b1, iv 1, iv 0] [(.int rq), (.int r12), (.int 1)]) (fun _ z_ => XS.iload X12.here hx rfl (hb hby at_469) rfl z_) ?_
      refine own_g (own_F T12 m 473 #[iv i0, iv i1, iv i2, iv i3, iv i4, iv nq, iv bg, iv sq, iv hi, iv aq, iv wq, iv (i4 &&& (3 : Int32)), iv ((i4.toUInt32 >>> ((2 : Int32) &&& 31).toUInt32).toInt32), iv rq, rv b1, iv 1, iv 0] [(.int aq), (.int rq), (.int r12), (.int 1)]) (fun _ z_ => XS.iload X12.here hx rfl (hb hby at_471) rfl z_) ?_
      refine own_g (own_F T12 m 475 #[iv i0, iv i1, iv i2, iv i3, iv i4, iv nq, iv bg, iv sq, iv hi, iv aq, iv wq, iv (i4 &&& (3 : Int32)), iv ((i4.toUInt32 >>> ((2 : Int32) &&& 31).toUInt32).toInt32), iv rq, rv b1, iv 1, iv 0] [(.int sq), (.int aq), (.int rq), (.int r12), (.int 1)]) (fun _ z_ => XS.iload X12.here hx rfl (hb hby at_473) rfl z_) ?_
      refine own_g (own_F T12 m 477 #[iv i0, iv i1, iv i2, iv i3, iv i4, iv nq, iv bg, iv sq, iv hi, iv aq, iv wq, iv (i4 &&& (3 : Int32)), iv ((i4.toUInt32 >>> ((2 : Int32) &&& 31).toUInt32).toInt32), iv rq, rv b1, iv 1, iv 0] [(.int nq), (.int sq), (.int aq), (.int rq), (.int r12), (.int 1)]) (fun _ z_ => XS.iload X12.here hx rfl (hb hby at_475) rfl z_) ?_
      refine own_callS (y := (⟨"com/example/kunci/kunci/NumberSetAddPinLaw", "inRun", "(IIII)Z"⟩ : MethodName)) X12 hx hZ hown (own_w hw 47) (own_w hw 48) (own_w hw 49) (own_w hw 50) (by decide) hh12 (hM := own_inRun l Z a0 hw [] rq aq sq nq hp10 n0 zs10 hrq ha.1 hs.1 hnq.1) (W := 2) (pc := 477) (Ls := #[iv i0, iv i1, iv i2, iv i3, iv i4, iv nq, iv bg, iv sq, iv hi, iv aq, iv wq, iv (i4 &&& (3 : Int32)), iv ((i4.toUInt32 >>> ((2 : Int32) &&& 31).toUInt32).toInt32), iv rq, rv b1, iv 1, iv 0]) (argsL := [(.int rq), (.int aq), (.int sq), (.int nq)]) (rest := [(.int r12), (.int 1)]) (st0 := [(.int nq), (.int sq), (.int aq), (.int rq), (.int r12), (.int 1)]) (by rw [hml]; rfl) (lenOf own_pd8 rfl) rfl (Nat.le_of_eq rfl) (hb hby at_477) (by first | decide | omega | (simp only [room_1]; omega) | (simp only [room_1]; done) | (dsimp only; omega) | (dsimp only; done)) (by first | decide | omega | (simp only [room_1]; omega) | (simp only [room_1]; done) | (dsimp only; omega) | (dsimp only; done)) (by first | decide | omega | (simp only [room_1]; omega) | (simp only [room_1]; done) | (dsimp only; omega) | (dsimp only; done)) (by first | decide | omega | (simp only [room_1]; omega) | (simp only [room_1]; done) | (dsimp only; omega) | (dsimp only; done)) ?_
      intro v13 T13 L13 X13 hQ13
      obtain ⟨r13, rfl, hr13, Nq13, hh13⟩ := hQ13
      have N13 := Fr.app N12 Nq13
      show own_Ends p e below s _ _ _ (own_F T13 m 480 #[iv i0, iv i1, iv i2, iv i3, iv i4, iv nq, iv bg, iv sq, iv hi, iv aq, iv wq, iv (i4 &&& (3 : Int32)), iv ((i4.toUInt32 >>> ((2 : Int32) &&& 31).toUInt32).toInt32), iv rq, rv b1, iv 1, iv 0] [(.int r13), (.int r12), (.int 1)])
      rcases hr13 with ⟨rfl, hi_⟩ | ⟨rfl, hi_⟩
      ·
       show own_Ends p e below s _ _ _ (own_F T13 m 480 #[iv i0, iv i1, iv i2, iv i3, iv i4, iv nq, iv bg, iv sq, iv hi, iv aq, iv wq, iv (i4 &&& (3 : Int32)), iv ((i4.toUInt32 >>> ((2 : Int32) &&& 31).toUInt32).toInt32), iv rq, rv b1, iv 1, iv 0] [(.int 1), (.int r12), (.int 1)])
       refine own_g (own_F T13 m 483 #[iv i0, iv i1, iv i2, iv i3, iv i4, iv nq, iv bg, iv sq, iv hi, iv aq, iv wq, iv (i4 &&& (3 : Int32)), iv ((i4.toUInt32 >>> ((2 : Int32) &&& 31).toUInt32).toInt32), iv rq, rv b1, iv 1, iv 0] [(.int r12), (.int 1)]) (fun _ z_ => XS.ifNo X13.here hx rfl (hb hby at_480) rfl ((if0 _ _).trans (feq (by decide : ¬ ((1 : Int32) = (0 : Int32)))).1) z_) ?_
       refine own_g (own_F T13 m 484 #[iv i0, iv i1, iv i2, iv i3, iv i4, iv nq, iv bg, iv sq, iv hi, iv aq, iv wq, iv (i4 &&& (3 : Int32)), iv ((i4.toUInt32 >>> ((2 : Int32) &&& 31).toUInt32).toInt32), iv rq, rv b1, iv 1, iv 0] [(.int 1), (.int r12), (.int 1)]) (fun _ z_ => XS.iconst X13.here hx rfl (hb hby at_483) z_) ?_
       refine own_g (own_F T13 m 488 #[iv i0, iv i1, iv i2, iv i3, iv i4, iv nq, iv bg, iv sq, iv hi, iv aq, iv wq, iv (i4 &&& (3 : Int32)), iv ((i4.toUInt32 >>> ((2 : Int32) &&& 31).toUInt32).toInt32), iv rq, rv b1, iv 1, iv 0] [(.int 1), (.int r12), (.int 1)]) (fun _ z_ => XS.goto X13.here hx rfl (pc0 := 484) (pc' := 488) rfl (hb hby at_484) (by decide) (by decide) z_) ?_
       refine own_g (own_F T13 m 491 #[iv i0, iv i1, iv i2, iv i3, iv i4, iv nq, iv bg, iv sq, iv hi, iv aq, iv wq, iv (i4 &&& (3 : Int32)), iv ((i4.toUInt32 >>> ((2 : Int32) &&& 31).toUInt32).toInt32), iv rq, rv b1, iv 1, iv 0] [(.int 1)]) (fun _ z_ => XS.icmpNo X13.here hx rfl (hb hby at_488) rfl (teq (own_eqb (P := own_M aq sq nq.toInt.toNat wq rq) (own_iff1 (hm rq) hr12) (Or.inl ⟨rfl, Or.inl hi_⟩))).2 z_) ?_
       refine own_g (own_F T13 m 492 #[iv i0, iv i1, iv i2, iv i3, iv i4, iv nq, iv bg, iv sq, iv hi, iv aq, iv wq, iv (i4 &&& (3 : Int32)), iv ((i4.toUInt32 >>> ((2 : Int32) &&& 31).toUInt32).toInt32), iv rq, rv b1, iv 1, iv 0] [(.int 1), (.int 1)]) (fun _ z_ => XS.iconst X13.here hx rfl (hb hby at_491) z_) ?_
       refine own_g (own_F T13 m 496 #[iv i0, iv i1, iv i2, iv i3, iv i4, iv nq, iv bg, iv sq, iv hi, iv aq, iv wq, iv (i4 &&& (3 : Int32)), iv ((i4.toUInt32 >>> ((2 : Int32) &&& 31).toUInt32).toInt32), iv rq, rv b1, iv 1, iv 0] [(.int 1), (.int 1)]) (fun _ z_ => XS.goto X13.here hx rfl (pc0 := 492) (pc' := 496) rfl (hb hby at_492) (by decide) (by decide) z_) ?_
       refine own_g (own_F T13 m 497 #[iv i0, iv i1, iv i2, iv i3, iv i4, iv nq, iv bg, iv sq, iv hi, iv aq, iv wq, iv (i4 &&& (3 : Int32)), iv ((i4.toUInt32 >>> ((2 : Int32) &&& 31).toUInt32).toInt32), iv rq, rv b1, iv 1, iv 0] [(.int 1)]) (fun _ z_ => XS.iand X13.here hx rfl (hb hby at_496) rfl z_) ?_
       refine own_g (own_F T13 m 499 #[iv i0, iv i1, iv i2, iv i3, iv i4, iv nq, iv bg, iv sq, iv hi, iv aq, iv wq, iv (i4 &&& (3 : Int32)), iv ((i4.toUInt32 >>> ((2 : Int32) &&& 31).toUInt32).toInt32), iv rq, rv b1, iv 1, iv 0] []) (fun _ z_ => XS.istore X13.here hx rfl (hb hby at_497) rfl (l' := #[iv i0, iv i1, iv i2, iv i3, iv i4, iv nq, iv bg, iv sq, iv hi, iv aq, iv wq, iv (i4 &&& (3 : Int32)), iv ((i4.toUInt32 >>> ((2 : Int32) &&& 31).toUInt32).toInt32), iv rq, rv b1, iv 1, iv 0]) rfl z_) ?_
       refine own_g (own_F T13 m 501 #[iv i0, iv i1, iv i2, iv i3, iv i4, iv nq, iv bg, iv sq, iv hi, iv aq, iv wq, iv (i4 &&& (3 : Int32)), iv ((i4.toUInt32 >>> ((2 : Int32) &&& 31).toUInt32).toInt32), iv rq, rv b1, iv 1, iv 0] [(.int 1)]) (fun _ z_ => XS.iload X13.here hx rfl (hb hby at_499) rfl z_) ?_
       refine own_ret (t := .boolean) X13 hx hlk hrt rfl (Or.inl ⟨rfl, by simp, _, rfl⟩) (hb hby at_501) (by first | decide | omega | (simp only [room_1]; omega) | (simp only [room_1]; done) | (dsimp only; omega) | (dsimp only; done)) (by first | decide | omega | (simp only [room_1]; omega) | (simp only [room_1]; done) | (dsimp only; omega) | (dsimp only; done)) ?_
       exact ⟨rfl, N13⟩
      ·
       show own_Ends p e below s _ _ _ (own_F T13 m 480 #[iv i0, iv i1, iv i2, iv i3, iv i4, iv nq, iv bg, iv sq, iv hi, iv aq, iv wq, iv (i4 &&& (3 : Int32)), iv ((i4.toUInt32 >>> ((2 : Int32) &&& 31).toUInt32).toInt32), iv rq, rv b1, iv 1, iv 0] [(.int 0), (.int r12), (.int 1)])
       refine own_g (own_F T13 m 487 #[iv i0, iv i1, iv i2, iv i3, iv i4, iv nq, iv bg, iv sq, iv hi, iv aq, iv wq, iv (i4 &&& (3 : Int32)), iv ((i4.toUInt32 >>> ((2 : Int32) &&& 31).toUInt32).toInt32), iv rq, rv b1, iv 1, iv 0] [(.int r12), (.int 1)]) (fun _ z_ => XS.ifYes X13.here hx rfl (pc0 := 480) (pc' := 487) rfl (hb hby at_480) rfl ((if0 _ _).trans (teq (by decide : ((0 : Int32) = (0 : Int32)))).1) (by decide) (by decide) z_) ?_
       refine own_g (own_F T13 m 488 #[iv i0, iv i1, iv i2, iv i3, iv i4, iv nq, iv bg, iv sq, iv hi, iv aq, iv wq, iv (i4 &&& (3 : Int32)), iv ((i4.toUInt32 >>> ((2 : Int32) &&& 31).toUInt32).toInt32), iv rq, rv b1, iv 1, iv 0] [(.int 0), (.int r12), (.int 1)]) (fun _ z_ => XS.iconst X13.here hx rfl (hb hby at_487) z_) ?_
       refine own_g (own_F T13 m 491 #[iv i0, iv i1, iv i2, iv i3, iv i4, iv nq, iv bg, iv sq, iv hi, iv aq, iv wq, iv (i4 &&& (3 : Int32)), iv ((i4.toUInt32 >>> ((2 : Int32) &&& 31).toUInt32).toInt32), iv rq, rv b1, iv 1, iv 0] [(.int 1)]) (fun _ z_ => XS.icmpNo X13.here hx rfl (hb hby at_488) rfl (teq (own_eqb (P := own_M aq sq nq.toInt.toNat wq rq) (own_iff1 (hm rq) hr12) (Or.inr ⟨rfl, fun z => z.elim hi_ (fun z => c466 z.symm)⟩))).2 z_) ?_
       refine own_g (own_F T13 m 492 #[iv i0, iv i1, iv i2, iv i3, iv i4, iv nq, iv bg, iv sq, iv hi, iv aq, iv wq, iv (i4 &&& (3 : Int32)), iv ((i4.toUInt32 >>> ((2 : Int32) &&& 31).toUInt32).toInt32), iv rq, rv b1, iv 1, iv 0] [(.int 1), (.int 1)]) (fun _ z_ => XS.iconst X13.here hx rfl (hb hby at_491) z_) ?_
       refine own_g (own_F T13 m 496 #[iv i0, iv i1, iv i2, iv i3, iv i4, iv nq, iv bg, iv sq, iv hi, iv aq, iv wq, iv (i4 &&& (3 : Int32)), iv ((i4.toUInt32 >>> ((2 : Int32) &&& 31).toUInt32).toInt32), iv rq, rv b1, iv 1, iv 0] [(.int 1), (.int 1)]) (fun _ z_ => XS.goto X13.here hx rfl (pc0 := 492) (pc' := 496) rfl (hb hby at_492) (by decide) (by decide) z_) ?_
       refine own_g (own_F T13 m 497 #[iv i0, iv i1, iv i2, iv i3, iv i4, iv nq, iv bg, iv sq, iv hi, iv aq, iv wq, iv (i4 &&& (3 : Int32)), iv ((i4.toUInt32 >>> ((2 : Int32) &&& 31).toUInt32).toInt32), iv rq, rv b1, iv 1, iv 0] [(.int 1)]) (fun _ z_ => XS.iand X13.here hx rfl (hb hby at_496) rfl z_) ?_
       refine own_g (own_F T13 m 499 #[iv i0, iv i1, iv i2, iv i3, iv i4, iv nq, iv bg, iv sq, iv hi, iv aq, iv wq, iv (i4 &&& (3 : Int32)), iv ((i4.toUInt32 >>> ((2 : Int32) &&& 31).toUInt32).toInt32), iv rq, rv b1, iv 1, iv 0] []) (fun _ z_ => XS.istore X13.here hx rfl (hb hby at_497) rfl (l' := #[iv i0, iv i1, iv i2, iv i3, iv i4, iv nq, iv bg, iv sq, iv hi, iv aq, iv wq, iv (i4 &&& (3 : Int32)), iv ((i4.toUInt32 >>> ((2 : Int32) &&& 31).toUInt32).toInt32), iv rq, rv b1, iv 1, iv 0]) rfl z_) ?_
       refine own_g (own_F T13 m 501 #[iv i0, iv i1, iv i2, iv i3, iv i4, iv nq, iv bg, iv sq, iv hi, iv aq, iv wq, iv (i4 &&& (3 : Int32)), iv ((i4.toUInt32 >>> ((2 : Int32) &&& 31).toUInt32).toInt32), iv rq, rv b1, iv 1, iv 0] [(.int 1)]) (fun _ z_ => XS.iload X13.here hx rfl (hb hby at_499) rfl z_) ?_
       refine own_ret (t := .boolean) X13 hx hlk hrt rfl (Or.inl ⟨rfl, by simp, _, rfl⟩) (hb hby at_501) (by first | decide | omega | (simp only [room_1]; omega) | (simp only [room_1]; done) | (dsimp only; omega) | (dsimp only; done)) (by first | decide | omega | (simp only [room_1]; omega) | (simp only [room_1]; done) | (dsimp only; omega) | (dsimp only; done)) ?_
       exact ⟨rfl, N13⟩
    ·
     obtain ⟨sz, hsz, Fsz⟩ := hF.size
     refine own_g (own_F T10 m 424 #[iv i0, iv i1, iv i2, iv i3, iv i4, iv nq, iv bg, iv sq, iv hi, iv aq, iv wq, iv (i4 &&& (3 : Int32)), iv ((i4.toUInt32 >>> ((2 : Int32) &&& 31).toUInt32).toInt32), iv rq, rv b1, iv 1, iv 0] [(.int 1)]) (fun _ z_ => XS.iload X10.here hx rfl (hb hby at_422) rfl z_) ?_
     refine own_g (own_F T10 m 426 #[iv i0, iv i1, iv i2, iv i3, iv i4, iv nq, iv bg, iv sq, iv hi, iv aq, iv wq, iv (i4 &&& (3 : Int32)), iv ((i4.toUInt32 >>> ((2 : Int32) &&& 31).toUInt32).toInt32), iv rq, rv b1, iv 1, iv 0] [(.ref b1), (.int 1)]) (fun _ z_ => XS.aload X10.here hx rfl (hb hby at_424) rfl rfl z_) ?_
     refine own_callV (C := "com/example/kunci/kunci/NumberSet") (y := (⟨"com/example/kunci/kunci/NumberSet", "size", "()I"⟩ : MethodName)) (b := b1) X10 hx hZ hown (own_w hw 51) (own_w hw 52) (own_w hw 54) (own_w hw 53) (own_w hw 55) (own_w hw 4) (by decide) e10 hF.exa (hM := own_sizeC l Z a0 hw [] b1 sz hp10 n0 zs10 Fsz) (W := 1) (pc := 426) (Ls := #[iv i0, iv i1, iv i2, iv i3, iv i4, iv nq, iv bg, iv sq, iv hi, iv aq, iv wq, iv (i4 &&& (3 : Int32)), iv ((i4.toUInt32 >>> ((2 : Int32) &&& 31).toUInt32).toInt32), iv rq, rv b1, iv 1, iv 0]) (argsL := []) (rest := [(.int 1)]) (st0 := [(.ref b1), (.int 1)]) (by rw [hml]; rfl) (lenOf own_pd7 rfl) rfl (Nat.le_of_eq rfl) (hb hby at_426) (by first | decide | omega | (simp only [room_1]; omega) | (simp only [room_1]; done) | (dsimp only; omega) | (dsimp only; done)) (by first | decide | omega | (simp only [room_1]; omega) | (simp only [room_1]; done) | (dsimp only; omega) | (dsimp only; done)) (by first | decide | omega | (simp only [room_1]; omega) | (simp only [room_1]; done) | (dsimp only; omega) | (dsimp only; done)) (by first | decide | omega | (simp only [room_1]; omega) | (simp only [room_1]; done) | (dsimp only; omega) | (dsimp only; done)) ?_
     intro v14 T14 L14 X14 hQ14
     obtain ⟨rfl, Nq14, hh14⟩ := hQ14
     have N14 := Fr.app N10 Nq14
     show own_Ends p e below s _ _ _ (own_F T14 m 429 #[iv i0, iv i1, iv i2, iv i3, iv i4, iv nq, iv bg, iv sq, iv hi, iv aq, iv wq, iv (i4 &&& (3 : Int32)), iv ((i4.toUInt32 >>> ((2 : Int32) &&& 31).toUInt32).toInt32), iv rq, rv b1, iv 1, iv 0] [(.int sz), (.int 1)])
     refine own_g (own_F T14 m 431 #[iv i0, iv i1, iv i2, iv i3, iv i4, iv nq, iv bg, iv sq, iv hi, iv aq, iv wq, iv (i4 &&& (3 : Int32)), iv ((i4.toUInt32 >>> ((2 : Int32) &&& 31).toUInt32).toInt32), iv rq, rv b1, iv 1, iv 0] [(.int nq), (.int sz), (.int 1)]) (fun _ z_ => XS.iload X14.here hx rfl (hb hby at_429) rfl z_) ?_
     refine own_g (own_F T14 m 433 #[iv i0, iv i1, iv i2, iv i3, iv i4, iv nq, iv bg, iv sq, iv hi, iv aq, iv wq, iv (i4 &&& (3 : Int32)), iv ((i4.toUInt32 >>> ((2 : Int32) &&& 31).toUInt32).toInt32), iv rq, rv b1, iv 1, iv 0] [(.int 0), (.int nq), (.int sz), (.int 1)]) (fun _ z_ => XS.iload X14.here hx rfl (hb hby at_431) rfl z_) ?_
     refine own_g (own_F T14 m 440 #[iv i0, iv i1, iv i2, iv i3, iv i4, iv nq, iv bg, iv sq, iv hi, iv aq, iv wq, iv (i4 &&& (3 : Int32)), iv ((i4.toUInt32 >>> ((2 : Int32) &&& 31).toUInt32).toInt32), iv rq, rv b1, iv 1, iv 0] [(.int nq), (.int sz), (.int 1)]) (fun _ z_ => XS.ifYes X14.here hx rfl (pc0 := 433) (pc' := 440) rfl (hb hby at_433) rfl ((if0 _ _).trans (teq (by decide : ((0 : Int32) = (0 : Int32)))).1) (by decide) (by decide) z_) ?_
     refine own_g (own_F T14 m 441 #[iv i0, iv i1, iv i2, iv i3, iv i4, iv nq, iv bg, iv sq, iv hi, iv aq, iv wq, iv (i4 &&& (3 : Int32)), iv ((i4.toUInt32 >>> ((2 : Int32) &&& 31).toUInt32).toInt32), iv rq, rv b1, iv 1, iv 0] [(.int 0), (.int nq), (.int sz), (.int 1)]) (fun _ z_ => XS.iconst X14.here hx rfl (hb hby at_440) z_) ?_
     refine own_g (own_F T14 m 442 #[iv i0, iv i1, iv i2, iv i3, iv i4, iv nq, iv bg, iv sq, iv hi, iv aq, iv wq, iv (i4 &&& (3 : Int32)), iv ((i4.toUInt32 >>> ((2 : Int32) &&& 31).toUInt32).toInt32), iv rq, rv b1, iv 1, iv 0] [(.int (nq + (0 : Int32))), (.int sz), (.int 1)]) (fun _ z_ => XS.iadd X14.here hx rfl (hb hby at_441) rfl z_) ?_
     refine own_g (own_F T14 m 445 #[iv i0, iv i1, iv i2, iv i3, iv i4, iv nq, iv bg, iv sq, iv hi, iv aq, iv wq, iv (i4 &&& (3 : Int32)), iv ((i4.toUInt32 >>> ((2 : Int32) &&& 31).toUInt32).toInt32), iv rq, rv b1, iv 1, iv 0] [(.int 1)]) (fun _ z_ => XS.icmpNo X14.here hx rfl (hb hby at_442) rfl (teq (by rw [← Int32.toInt_inj, hsz, hlen]; have h1 := c_iadd nq 0; have h2 := rng32 (nq + 0); simp only [Int32.reduceToInt] at h1; omega)).2 z_) ?_
     refine own_g (own_F T14 m 446 #[iv i0, iv i1, iv i2, iv i3, iv i4, iv nq, iv bg, iv sq, iv hi, iv aq, iv wq, iv (i4 &&& (3 : Int32)), iv ((i4.toUInt32 >>> ((2 : Int32) &&& 31).toUInt32).toInt32), iv rq, rv b1, iv 1, iv 0] [(.int 1), (.int 1)]) (fun _ z_ => XS.iconst X14.here hx rfl (hb hby at_445) z_) ?_
     refine own_g (own_F T14 m 450 #[iv i0, iv i1, iv i2, iv i3, iv i4, iv nq, iv bg, iv sq, iv hi, iv aq, iv wq, iv (i4 &&& (3 : Int32)), iv ((i4.toUInt32 >>> ((2 : Int32) &&& 31).toUInt32).toInt32), iv rq, rv b1, iv 1, iv 0] [(.int 1), (.int 1)]) (fun _ z_ => XS.goto X14.here hx rfl (pc0 := 446) (pc' := 450) rfl (hb hby at_446) (by decide) (by decide) z_) ?_
     refine own_g (own_F T14 m 451 #[iv i0, iv i1, iv i2, iv i3, iv i4, iv nq, iv bg, iv sq, iv hi, iv aq, iv wq, iv (i4 &&& (3 : Int32)), iv ((i4.toUInt32 >>> ((2 : Int32) &&& 31).toUInt32).toInt32), iv rq, rv b1, iv 1, iv 0] [(.int 1)]) (fun _ z_ => XS.iand X14.here hx rfl (hb hby at_450) rfl z_) ?_
     refine own_g (own_F T14 m 453 #[iv i0, iv i1, iv i2, iv i3, iv i4, iv nq, iv bg, iv sq, iv hi, iv aq, iv wq, iv (i4 &&& (3 : Int32)), iv ((i4.toUInt32 >>> ((2 : Int32) &&& 31).toUInt32).toInt32), iv rq, rv b1, iv 1, iv 0] []) (fun _ z_ => XS.istore X14.here hx rfl (hb hby at_451) rfl (l' := #[iv i0, iv i1, iv i2, iv i3, iv i4, iv nq, iv bg, iv sq, iv hi, iv aq, iv wq, iv (i4 &&& (3 : Int32)), iv ((i4.toUInt32 >>> ((2 : Int32) &&& 31).toUInt32).toInt32), iv rq, rv b1, iv 1, iv 0]) rfl z_) ?_
     refine own_g (own_F T14 m 455 #[iv i0, iv i1, iv i2, iv i3, iv i4, iv nq, iv bg, iv sq, iv hi, iv aq, iv wq, iv (i4 &&& (3 : Int32)), iv ((i4.toUInt32 >>> ((2 : Int32) &&& 31).toUInt32).toInt32), iv rq, rv b1, iv 1, iv 0] [(.int 1)]) (fun _ z_ => XS.iload X14.here hx rfl (hb hby at_453) rfl z_) ?_
     refine own_g (own_F T14 m 457 #[iv i0, iv i1, iv i2, iv i3, iv i4, iv nq, iv bg, iv sq, iv hi, iv aq, iv wq, iv (i4 &&& (3 : Int32)), iv ((i4.toUInt32 >>> ((2 : Int32) &&& 31).toUInt32).toInt32), iv rq, rv b1, iv 1, iv 0] [(.ref b1), (.int 1)]) (fun _ z_ => XS.aload X14.here hx rfl (hb hby at_455) rfl rfl z_) ?_
     refine own_g (own_F T14 m 459 #[iv i0, iv i1, iv i2, iv i3, iv i4, iv nq, iv bg, iv sq, iv hi, iv aq, iv wq, iv (i4 &&& (3 : Int32)), iv ((i4.toUInt32 >>> ((2 : Int32) &&& 31).toUInt32).toInt32), iv rq, rv b1, iv 1, iv 0] [(.int rq), (.ref b1), (.int 1)]) (fun _ z_ => XS.iload X14.here hx rfl (hb hby at_457) rfl z_) ?_
     refine own_callV (C := "com/example/kunci/kunci/NumberSet") (y := (⟨"com/example/kunci/kunci/NumberSet", "contains", "(I)Z"⟩ : MethodName)) (b := b1) X14 hx hZ hown (own_w hw 56) (own_w hw 20) (own_w hw 22) (own_w hw 21) (own_w hw 23) (own_w hw 4) (by decide) hh14 hF.exa (hM := own_conG l Z a0 hw [] b1 len cap rq U hp10 n0 zs10 hrq hF f10_0) (W := 1) (pc := 459) (Ls := #[iv i0, iv i1, iv i2, iv i3, iv i4, iv nq, iv bg, iv sq, iv hi, iv aq, iv wq, iv (i4 &&& (3 : Int32)), iv ((i4.toUInt32 >>> ((2 : Int32) &&& 31).toUInt32).toInt32), iv rq, rv b1, iv 1, iv 0]) (argsL := [(.int rq)]) (rest := [(.int 1)]) (st0 := [(.int rq), (.ref b1), (.int 1)]) (by rw [hml]; rfl) (lenOf own_pd0 rfl) rfl (Nat.le_of_eq rfl) (hb hby at_459) (by first | decide | omega | (simp only [room_1]; omega) | (simp only [room_1]; done) | (dsimp only; omega) | (dsimp only; done)) (by first | decide | omega | (simp only [room_1]; omega) | (simp only [room_1]; done) | (dsimp only; omega) | (dsimp only; done)) (by first | decide | omega | (simp only [room_1]; omega) | (simp only [room_1]; done) | (dsimp only; omega) | (dsimp only; done)) (by first | decide | omega | (simp only [room_1]; omega) | (simp only [room_1]; done) | (dsimp only; omega) | (dsimp only; done)) ?_
     intro v15 T15 L15 X15 hQ15
     obtain ⟨r15, rfl, hr15, Nq15, hh15⟩ := hQ15
     have N15 := Fr.app N14 Nq15
     show own_Ends p e below s _ _ _ (own_F T15 m 462 #[iv i0, iv i1, iv i2, iv i3, iv i4, iv nq, iv bg, iv sq, iv hi, iv aq, iv wq, iv (i4 &&& (3 : Int32)), iv ((i4.toUInt32 >>> ((2 : Int32) &&& 31).toUInt32).toInt32), iv rq, rv b1, iv 1, iv 0] [(.int r15), (.int 1)])
     refine own_g (own_F T15 m 464 #[iv i0, iv i1, iv i2, iv i3, iv i4, iv nq, iv bg, iv sq, iv hi, iv aq, iv wq, iv (i4 &&& (3 : Int32)), iv ((i4.toUInt32 >>> ((2 : Int32) &&& 31).toUInt32).toInt32), iv rq, rv b1, iv 1, iv 0] [(.int rq), (.int r15), (.int 1)]) (fun _ z_ => XS.iload X15.here hx rfl (hb hby at_462) rfl z_) ?_
     refine own_g (own_F T15 m 466 #[iv i0, iv i1, iv i2, iv i3, iv i4, iv nq, iv bg, iv sq, iv hi, iv aq, iv wq, iv (i4 &&& (3 : Int32)), iv ((i4.toUInt32 >>> ((2 : Int32) &&& 31).toUInt32).toInt32), iv rq, rv b1, iv 1, iv 0] [(.int wq), (.int rq), (.int r15), (.int 1)]) (fun _ z_ => XS.iload X15.here hx rfl (hb hby at_464) rfl z_) ?_
     by_cases c466 : rq = wq
     · -- pc 466: rq = wq
      refine own_g (own_F T15 m 483 #[iv i0, iv i1, iv i2, iv i3, iv i4, iv nq, iv bg, iv sq, iv hi, iv aq, iv wq, iv (i4 &&& (3 : Int32)), iv ((i4.toUInt32 >>> ((2 : Int32) &&& 31).toUInt32).toInt32), iv rq, rv b1, iv 1, iv 0] [(.int r15), (.int 1)]) (fun _ z_ => XS.icmpYes X15.here hx rfl (pc0 := 466) (pc' := 483) rfl (hb hby at_466) rfl (teq c466).1 (by decide) (by decide) z_) ?_
      refine own_g (own_F T15 m 484 #[iv i0, iv i1, iv i2, iv i3, iv i4, iv nq, iv bg, iv sq, iv hi, iv aq, iv wq, iv (i4 &&& (3 : Int32)), iv ((i4.toUInt32 >>> ((2 : Int32) &&& 31).toUInt32).toInt32), iv rq, rv b1, iv 1, iv 0] [(.int 1), (.int r15), (.int 1)]) (fun _ z_ => XS.iconst X15.here hx rfl (hb hby at_483) z_) ?_
      refine own_g (own_F T15 m 488 #[iv i0, iv i1, iv i2, iv i3, iv i4, iv nq, iv bg, iv sq, iv hi, iv aq, iv wq, iv (i4 &&& (3 : Int32)), iv ((i4.toUInt32 >>> ((2 : Int32) &&& 31).toUInt32).toInt32), iv rq, rv b1, iv 1, iv 0] [(.int 1), (.int r15), (.int 1)]) (fun _ z_ => XS.goto X15.here hx rfl (pc0 := 484) (pc' := 488) rfl (hb hby at_484) (by decide) (by decide) z_) ?_
      refine own_g (own_F T15 m 491 #[iv i0, iv i1, iv i2, iv i3, iv i4, iv nq, iv bg, iv sq, iv hi, iv aq, iv wq, iv (i4 &&& (3 : Int32)), iv ((i4.toUInt32 >>> ((2 : Int32) &&& 31).toUInt32).toInt32), iv rq, rv b1, iv 1, iv 0] [(.int 1)]) (fun _ z_ => XS.icmpNo X15.here hx rfl (hb hby at_488) rfl (teq (own_eqb (P := own_M aq sq nq.toInt.toNat wq rq) (own_iff1 (hm rq hrq) hr15) (Or.inl ⟨rfl, Or.inr c466.symm⟩))).2 z_) ?_
      refine own_g (own_F T15 m 492 #[iv i0, iv i1, iv i2, iv i3, iv i4, iv nq, iv bg, iv sq, iv hi, iv aq, iv wq, iv (i4 &&& (3 : Int32)), iv ((i4.toUInt32 >>> ((2 : Int32) &&& 31).toUInt32).toInt32), iv rq, rv b1, iv 1, iv 0] [(.int 1), (.int 1)]) (fun _ z_ => XS.iconst X15.here hx rfl (hb hby at_491) z_) ?_
      refine own_g (own_F T15 m 496 #[iv i0, iv i1, iv i2, iv i3, iv i4, iv nq, iv bg, iv sq, iv hi, iv aq, iv wq, iv (i4 &&& (3 : Int32)), iv ((i4.toUInt32 >>> ((2 : Int32) &&& 31).toUInt32).toInt32), iv rq, rv b1, iv 1, iv 0] [(.int 1), (.int 1)]) (fun _ z_ => XS.goto X15.here hx rfl (pc0 := 492) (pc' := 496) rfl (hb hby at_492) (by decide) (by decide) z_) ?_
      refine own_g (own_F T15 m 497 #[iv i0, iv i1, iv i2, iv i3, iv i4, iv nq, iv bg, iv sq, iv hi, iv aq, iv wq, iv (i4 &&& (3 : Int32)), iv ((i4.toUInt32 >>> ((2 : Int32) &&& 31).toUInt32).toInt32), iv rq, rv b1, iv 1, iv 0] [(.int 1)]) (fun _ z_ => XS.iand X15.here hx rfl (hb hby at_496) rfl z_) ?_
      refine own_g (own_F T15 m 499 #[iv i0, iv i1, iv i2, iv i3, iv i4, iv nq, iv bg, iv sq, iv hi, iv aq, iv wq, iv (i4 &&& (3 : Int32)), iv ((i4.toUInt32 >>> ((2 : Int32) &&& 31).toUInt32).toInt32), iv rq, rv b1, iv 1, iv 0] []) (fun _ z_ => XS.istore X15.here hx rfl (hb hby at_497) rfl (l' := #[iv i0, iv i1, iv i2, iv i3, iv i4, iv nq, iv bg, iv sq, iv hi, iv aq, iv wq, iv (i4 &&& (3 : Int32)), iv ((i4.toUInt32 >>> ((2 : Int32) &&& 31).toUInt32).toInt32), iv rq, rv b1, iv 1, iv 0]) rfl z_) ?_
      refine own_g (own_F T15 m 501 #[iv i0, iv i1, iv i2, iv i3, iv i4, iv nq, iv bg, iv sq, iv hi, iv aq, iv wq, iv (i4 &&& (3 : Int32)), iv ((i4.toUInt32 >>> ((2 : Int32) &&& 31).toUInt32).toInt32), iv rq, rv b1, iv 1, iv 0] [(.int 1)]) (fun _ z_ => XS.iload X15.here hx rfl (hb hby at_499) rfl z_) ?_
      refine own_ret (t := .boolean) X15 hx hlk hrt rfl (Or.inl ⟨rfl, by simp, _, rfl⟩) (hb hby at_501) (by first | decide | omega | (simp only [room_1]; omega) | (simp only [room_1]; done) | (dsimp only; omega) | (dsimp only; done)) (by first | decide | omega | (simp only [room_1]; omega) | (simp only [room_1]; done) | (dsimp only; omega) | (dsimp only; done)) ?_
      exact ⟨rfl, N15⟩
     · -- pc 466: not rq = wq
      refine own_g (own_F T15 m 469 #[iv i0, iv i1, iv i2, iv i3, iv i4, iv nq, iv bg, iv sq, iv hi, iv aq, iv wq, iv (i4 &&& (3 : Int32)), iv ((i4.toUInt32 >>> ((2 : Int32) &&& 31).toUInt32).toInt32), iv rq, rv b1, iv 1, iv 0] [(.int r15), (.int 1)]) (fun _ z_ => XS.icmpNo X15.here hx rfl (hb hby at_466) rfl (feq c466).1 z_) ?_
      refine own_g (own_F T15 m 471 #[iv i0, iv i1, iv i2, iv i3, iv i4, iv nq, iv bg, iv sq, iv hi, iv aq, iv wq, iv (i4 &&& (3 : Int32)), iv ((i4.toUInt32 >>> ((2 : Int32) &&& 31).toUInt32).toInt32), iv rq, rv b1, iv 1, iv 0] [(.int rq), (.int r15), (.int 1)]) (fun _ z_ => XS.iload X15.here hx rfl (hb hby at_469) rfl z_) ?_
      refine own_g (own_F T15 m 473 #[iv i0, iv i1, iv i2, iv i3, iv i4, iv nq, iv bg, iv sq, iv hi, iv aq, iv wq, iv (i4 &&& (3 : Int32)), iv ((i4.toUInt32 >>> ((2 : Int32) &&& 31).toUInt32).toInt32), iv rq, rv b1, iv 1, iv 0] [(.int aq), (.int rq), (.int r15), (.int 1)]) (fun _ z_ => XS.iload X15.here hx rfl (hb hby at_471) rfl z_) ?_
      refine own_g (own_F T15 m 475 #[iv i0, iv i1, iv i2, iv i3, iv i4, iv nq, iv bg, iv sq, iv hi, iv aq, iv wq, iv (i4 &&& (3 : Int32)), iv ((i4.toUInt32 >>> ((2 : Int32) &&& 31).toUInt32).toInt32), iv rq, rv b1, iv 1, iv 0] [(.int sq), (.int aq), (.int rq), (.int r15), (.int 1)]) (fun _ z_ => XS.iload X15.here hx rfl (hb hby at_473) rfl z_) ?_
      refine own_g (own_F T15 m 477 #[iv i0, iv i1, iv i2, iv i3, iv i4, iv nq, iv bg, iv sq, iv hi, iv aq, iv wq, iv (i4 &&& (3 : Int32)), iv ((i4.toUInt32 >>> ((2 : Int32) &&& 31).toUInt32).toInt32), iv rq, rv b1, iv 1, iv 0] [(.int nq), (.int sq), (.int aq), (.int rq), (.int r15), (.int 1)]) (fun _ z_ => XS.iload X15.here hx rfl (hb hby at_475) rfl z_) ?_
      refine own_callS (y := (⟨"com/example/kunci/kunci/NumberSetAddPinLaw", "inRun", "(IIII)Z"⟩ : MethodName)) X15 hx hZ hown (own_w hw 47) (own_w hw 48) (own_w hw 49) (own_w hw 50) (by decide) hh15 (hM := own_inRun l Z a0 hw [] rq aq sq nq hp10 n0 zs10 hrq ha.1 hs.1 hnq.1) (W := 2) (pc := 477) (Ls := #[iv i0, iv i1, iv i2, iv i3, iv i4, iv nq, iv bg, iv sq, iv hi, iv aq, iv wq, iv (i4 &&& (3 : Int32)), iv ((i4.toUInt32 >>> ((2 : Int32) &&& 31).toUInt32).toInt32), iv rq, rv b1, iv 1, iv 0]) (argsL := [(.int rq), (.int aq), (.int sq), (.int nq)]) (rest := [(.int r15), (.int 1)]) (st0 := [(.int nq), (.int sq), (.int aq), (.int rq), (.int r15), (.int 1)]) (by rw [hml]; rfl) (lenOf own_pd8 rfl) rfl (Nat.le_of_eq rfl) (hb hby at_477) (by first | decide | omega | (simp only [room_1]; omega) | (simp only [room_1]; done) | (dsimp only; omega) | (dsimp only; done)) (by first | decide | omega | (simp only [room_1]; omega) | (simp only [room_1]; done) | (dsimp only; omega) | (dsimp only; done)) (by first | decide | omega | (simp only [room_1]; omega) | (simp only [room_1]; done) | (dsimp only; omega) | (dsimp only; done)) (by first | decide | omega | (simp only [room_1]; omega) | (simp only [room_1]; done) | (dsimp only; omega) | (dsimp only; done)) ?_
      intro v16 T16 L16 X16 hQ16
      obtain ⟨r16, rfl, hr16, Nq16, hh16⟩ := hQ16
      have N16 := Fr.app N15 Nq16
      show own_Ends p e below s _ _ _ (own_F T16 m 480 #[iv i0, iv i1, iv i2, iv i3, iv i4, iv nq, iv bg, iv sq, iv hi, iv aq, iv wq, iv (i4 &&& (3 : Int32)), iv ((i4.toUInt32 >>> ((2 : Int32) &&& 31).toUInt32).toInt32), iv rq, rv b1, iv 1, iv 0] [(.int r16), (.int r15), (.int 1)])
      rcases hr16 with ⟨rfl, hi_⟩ | ⟨rfl, hi_⟩
      ·
       show own_Ends p e below s _ _ _ (own_F T16 m 480 #[iv i0, iv i1, iv i2, iv i3, iv i4, iv nq, iv bg, iv sq, iv hi, iv aq, iv wq, iv (i4 &&& (3 : Int32)), iv ((i4.toUInt32 >>> ((2 : Int32) &&& 31).toUInt32).toInt32), iv rq, rv b1, iv 1, iv 0] [(.int 1), (.int r15), (.int 1)])
       refine own_g (own_F T16 m 483 #[iv i0, iv i1, iv i2, iv i3, iv i4, iv nq, iv bg, iv sq, iv hi, iv aq, iv wq, iv (i4 &&& (3 : Int32)), iv ((i4.toUInt32 >>> ((2 : Int32) &&& 31).toUInt32).toInt32), iv rq, rv b1, iv 1, iv 0] [(.int r15), (.int 1)]) (fun _ z_ => XS.ifNo X16.here hx rfl (hb hby at_480) rfl ((if0 _ _).trans (feq (by decide : ¬ ((1 : Int32) = (0 : Int32)))).1) z_) ?_
       refine own_g (own_F T16 m 484 #[iv i0, iv i1, iv i2, iv i3, iv i4, iv nq, iv bg, iv sq, iv hi, iv aq, iv wq, iv (i4 &&& (3 : Int32)), iv ((i4.toUInt32 >>> ((2 : Int32) &&& 31).toUInt32).toInt32), iv rq, rv b1, iv 1, iv 0] [(.int 1), (.int r15), (.int 1)]) (fun _ z_ => XS.iconst X16.here hx rfl (hb hby at_483) z_) ?_
       refine own_g (own_F T16 m 488 #[iv i0, iv i1, iv i2, iv i3, iv i4, iv nq, iv bg, iv sq, iv hi, iv aq, iv wq, iv (i4 &&& (3 : Int32)), iv ((i4.toUInt32 >>> ((2 : Int32) &&& 31).toUInt32).toInt32), iv rq, rv b1, iv 1, iv 0] [(.int 1), (.int r15), (.int 1)]) (fun _ z_ => XS.goto X16.here hx rfl (pc0 := 484) (pc' := 488) rfl (hb hby at_484) (by decide) (by decide) z_) ?_
       refine own_g (own_F T16 m 491 #[iv i0, iv i1, iv i2, iv i3, iv i4, iv nq, iv bg, iv sq, iv hi, iv aq, iv wq, iv (i4 &&& (3 : Int32)), iv ((i4.toUInt32 >>> ((2 : Int32) &&& 31).toUInt32).toInt32), iv rq, rv b1, iv 1, iv 0] [(.int 1)]) (fun _ z_ => XS.icmpNo X16.here hx rfl (hb hby at_488) rfl (teq (own_eqb (P := own_M aq sq nq.toInt.toNat wq rq) (own_iff1 (hm rq hrq) hr15) (Or.inl ⟨rfl, Or.inl hi_⟩))).2 z_) ?_
       refine own_g (own_F T16 m 492 #[iv i0, iv i1, iv i2, iv i3, iv i4, iv nq, iv bg, iv sq, iv hi, iv aq, iv wq, iv (i4 &&& (3 : Int32)), iv ((i4.toUInt32 >>> ((2 : Int32) &&& 31).toUInt32).toInt32), iv rq, rv b1, iv 1, iv 0] [(.int 1), (.int 1)]) (fun _ z_ => XS.iconst X16.here hx rfl (hb hby at_491) z_) ?_
       refine own_g (own_F T16 m 496 #[iv i0, iv i1, iv i2, iv i3, iv i4, iv nq, iv bg, iv sq, iv hi, iv aq, iv wq, iv (i4 &&& (3 : Int32)), iv ((i4.toUInt32 >>> ((2 : Int32) &&& 31).toUInt32).toInt32), iv rq, rv b1, iv 1, iv 0] [(.int 1), (.int 1)]) (fun _ z_ => XS.goto X16.here hx rfl (pc0 := 492) (pc' := 496) rfl (hb hby at_492) (by decide) (by decide) z_) ?_
       refine own_g (own_F T16 m 497 #[iv i0, iv i1, iv i2, iv i3, iv i4, iv nq, iv bg, iv sq, iv hi, iv aq, iv wq, iv (i4 &&& (3 : Int32)), iv ((i4.toUInt32 >>> ((2 : Int32) &&& 31).toUInt32).toInt32), iv rq, rv b1, iv 1, iv 0] [(.int 1)]) (fun _ z_ => XS.iand X16.here hx rfl (hb hby at_496) rfl z_) ?_
       refine own_g (own_F T16 m 499 #[iv i0, iv i1, iv i2, iv i3, iv i4, iv nq, iv bg, iv sq, iv hi, iv aq, iv wq, iv (i4 &&& (3 : Int32)), iv ((i4.toUInt32 >>> ((2 : Int32) &&& 31).toUInt32).toInt32), iv rq, rv b1, iv 1, iv 0] []) (fun _ z_ => XS.istore X16.here hx rfl (hb hby at_497) rfl (l' := #[iv i0, iv i1, iv i2, iv i3, iv i4, iv nq, iv bg, iv sq, iv hi, iv aq, iv wq, iv (i4 &&& (3 : Int32)), iv ((i4.toUInt32 >>> ((2 : Int32) &&& 31).toUInt32).toInt32), iv rq, rv b1, iv 1, iv 0]) rfl z_) ?_
       refine own_g (own_F T16 m 501 #[iv i0, iv i1, iv i2, iv i3, iv i4, iv nq, iv bg, iv sq, iv hi, iv aq, iv wq, iv (i4 &&& (3 : Int32)), iv ((i4.toUInt32 >>> ((2 : Int32) &&& 31).toUInt32).toInt32), iv rq, rv b1, iv 1, iv 0] [(.int 1)]) (fun _ z_ => XS.iload X16.here hx rfl (hb hby at_499) rfl z_) ?_
       refine own_ret (t := .boolean) X16 hx hlk hrt rfl (Or.inl ⟨rfl, by simp, _, rfl⟩) (hb hby at_501) (by first | decide | omega | (simp only [room_1]; omega) | (simp only [room_1]; done) | (dsimp only; omega) | (dsimp only; done)) (by first | decide | omega | (simp only [room_1]; omega) | (simp only [room_1]; done) | (dsimp only; omega) | (dsimp only; done)) ?_
       exact ⟨rfl, N16⟩
      ·
       show own_Ends p e below s _ _ _ (own_F T16 m 480 #[iv i0, iv i1, iv i2, iv i3, iv i4, iv nq, iv bg, iv sq, iv hi, iv aq, iv wq, iv (i4 &&& (3 : Int32)), iv ((i4.toUInt32 >>> ((2 : Int32) &&& 31).toUInt32).toInt32), iv rq, rv b1, iv 1, iv 0] [(.int 0), (.int r15), (.int 1)])
       refine own_g (own_F T16 m 487 #[iv i0, iv i1, iv i2, iv i3, iv i4, iv nq, iv bg, iv sq, iv hi, iv aq, iv wq, iv (i4 &&& (3 : Int32)), iv ((i4.toUInt32 >>> ((2 : Int32) &&& 31).toUInt32).toInt32), iv rq, rv b1, iv 1, iv 0] [(.int r15), (.int 1)]) (fun _ z_ => XS.ifYes X16.here hx rfl (pc0 := 480) (pc' := 487) rfl (hb hby at_480) rfl ((if0 _ _).trans (teq (by decide : ((0 : Int32) = (0 : Int32)))).1) (by decide) (by decide) z_) ?_
       refine own_g (own_F T16 m 488 #[iv i0, iv i1, iv i2, iv i3, iv i4, iv nq, iv bg, iv sq, iv hi, iv aq, iv wq, iv (i4 &&& (3 : Int32)), iv ((i4.toUInt32 >>> ((2 : Int32) &&& 31).toUInt32).toInt32), iv rq, rv b1, iv 1, iv 0] [(.int 0), (.int r15), (.int 1)]) (fun _ z_ => XS.iconst X16.here hx rfl (hb hby at_487) z_) ?_
       refine own_g (own_F T16 m 491 #[iv i0, iv i1, iv i2, iv i3, iv i4, iv nq, iv bg, iv sq, iv hi, iv aq, iv wq, iv (i4 &&& (3 : Int32)), iv ((i4.toUInt32 >>> ((2 : Int32) &&& 31).toUInt32).toInt32), iv rq, rv b1, iv 1, iv 0] [(.int 1)]) (fun _ z_ => XS.icmpNo X16.here hx rfl (hb hby at_488) rfl (teq (own_eqb (P := own_M aq sq nq.toInt.toNat wq rq) (own_iff1 (hm rq hrq) hr15) (Or.inr ⟨rfl, fun z => z.elim hi_ (fun z => c466 z.symm)⟩))).2 z_) ?_
       refine own_g (own_F T16 m 492 #[iv i0, iv i1, iv i2, iv i3, iv i4, iv nq, iv bg, iv sq, iv hi, iv aq, iv wq, iv (i4 &&& (3 : Int32)), iv ((i4.toUInt32 >>> ((2 : Int32) &&& 31).toUInt32).toInt32), iv rq, rv b1, iv 1, iv 0] [(.int 1), (.int 1)]) (fun _ z_ => XS.iconst X16.here hx rfl (hb hby at_491) z_) ?_
       refine own_g (own_F T16 m 496 #[iv i0, iv i1, iv i2, iv i3, iv i4, iv nq, iv bg, iv sq, iv hi, iv aq, iv wq, iv (i4 &&& (3 : Int32)), iv ((i4.toUInt32 >>> ((2 : Int32) &&& 31).toUInt32).toInt32), iv rq, rv b1, iv 1, iv 0] [(.int 1), (.int 1)]) (fun _ z_ => XS.goto X16.here hx rfl (pc0 := 492) (pc' := 496) rfl (hb hby at_492) (by decide) (by decide) z_) ?_
       refine own_g (own_F T16 m 497 #[iv i0, iv i1, iv i2, iv i3, iv i4, iv nq, iv bg, iv sq, iv hi, iv aq, iv wq, iv (i4 &&& (3 : Int32)), iv ((i4.toUInt32 >>> ((2 : Int32) &&& 31).toUInt32).toInt32), iv rq, rv b1, iv 1, iv 0] [(.int 1)]) (fun _ z_ => XS.iand X16.here hx rfl (hb hby at_496) rfl z_) ?_
       refine own_g (own_F T16 m 499 #[iv i0, iv i1, iv i2, iv i3, iv i4, iv nq, iv bg, iv sq, iv hi, iv aq, iv wq, iv (i4 &&& (3 : Int32)), iv ((i4.toUInt32 >>> ((2 : Int32) &&& 31).toUInt32).toInt32), iv rq, rv b1, iv 1, iv 0] []) (fun _ z_ => XS.istore X16.here hx rfl (hb hby at_497) rfl (l' := #[iv i0, iv i1, iv i2, iv i3, iv i4, iv nq, iv bg, iv sq, iv hi, iv aq, iv wq, iv (i4 &&& (3 : Int32)), iv ((i4.toUInt32 >>> ((2 : Int32) &&& 31).toUInt32).toInt32), iv rq, rv b1, iv 1, iv 0]) rfl z_) ?_
       refine own_g (own_F T16 m 501 #[iv i0, iv i1, iv i2, iv i3, iv i4, iv nq, iv bg, iv sq, iv hi, iv aq, iv wq, iv (i4 &&& (3 : Int32)), iv ((i4.toUInt32 >>> ((2 : Int32) &&& 31).toUInt32).toInt32), iv rq, rv b1, iv 1, iv 0] [(.int 1)]) (fun _ z_ => XS.iload X16.here hx rfl (hb hby at_499) rfl z_) ?_
       refine own_ret (t := .boolean) X16 hx hlk hrt rfl (Or.inl ⟨rfl, by simp, _, rfl⟩) (hb hby at_501) (by first | decide | omega | (simp only [room_1]; omega) | (simp only [room_1]; done) | (dsimp only; omega) | (dsimp only; done)) (by first | decide | omega | (simp only [room_1]; omega) | (simp only [room_1]; done) | (dsimp only; omega) | (dsimp only; done)) ?_
       exact ⟨rfl, N16⟩
   have J9b : ∀ (sl : Nat) (cap : Nat) (U : Nat → Int64) (T17 : State) (lc17 : List Loc) (hp17 : Heap) (X17 : Stand p l e room_1 s m #[(.int i0), (.int i1), (.int i2), (.int i3), (.int i4)] below meth c T17 lc17 25 sl) (e17 : T17.heap = hp17) (N17 : Fr n0 lc17) (zs17 : n0 ≤ hp17.size) (zz17 : h0.size ≤ hp17.size) (f17_0 : Sta Z hp17 "java/util/BitSet" "$assertionsDisabled" "Z" (.int (1 : Int32))) (hF : own_bw n0 Z hp17 b1 9 cap U) (hm : ∀ v : Int32, 0 ≤ v.toInt → (own_bt U v ↔ own_run aq sq 9 v)) (hc8 : cap ≤ 34048) (hsl : sl ≤ 2 * cap + 200) (hn9 : nq.toInt.toNat = 9), own_Ends p e below s (fun v h L => v = some (.int 1) ∧ Fr n0 L) room_1.cells room_1.slots (own_F T17 m 379 #[iv i0, iv i1, iv i2, iv i3, iv i4, iv nq, iv bg, iv sq, iv hi, iv aq, iv wq, iv (i4 &&& (3 : Int32)), iv ((i4.toUInt32 >>> ((2 : Int32) &&& 31).toUInt32).toInt32), iv rq, rv b1, iv 1, .unset] []) := by
    intro sl cap U T17 lc17 hp17 X17 e17 N17 zs17 zz17 f17_0 hF hm hc8 hsl hn9
    refine own_g (own_F T17 m 381 #[iv i0, iv i1, iv i2, iv i3, iv i4, iv nq, iv bg, iv sq, iv hi, iv aq, iv wq, iv (i4 &&& (3 : Int32)), iv ((i4.toUInt32 >>> ((2 : Int32) &&& 31).toUInt32).toInt32), iv rq, rv b1, iv 1, .unset] [(.int wq)]) (fun _ z_ => XS.iload X17.here hx rfl (hb hby at_379) rfl z_) ?_
    refine own_g (own_F T17 m 383 #[iv i0, iv i1, iv i2, iv i3, iv i4, iv nq, iv bg, iv sq, iv hi, iv aq, iv wq, iv (i4 &&& (3 : Int32)), iv ((i4.toUInt32 >>> ((2 : Int32) &&& 31).toUInt32).toInt32), iv rq, rv b1, iv 1, .unset] [(.int aq), (.int wq)]) (fun _ z_ => XS.iload X17.here hx rfl (hb hby at_381) rfl z_) ?_
    refine own_g (own_F T17 m 385 #[iv i0, iv i1, iv i2, iv i3, iv i4, iv nq, iv bg, iv sq, iv hi, iv aq, iv wq, iv (i4 &&& (3 : Int32)), iv ((i4.toUInt32 >>> ((2 : Int32) &&& 31).toUInt32).toInt32), iv rq, rv b1, iv 1, .unset] [(.int sq), (.int aq), (.int wq)]) (fun _ z_ => XS.iload X17.here hx rfl (hb hby at_383) rfl z_) ?_
    refine own_g (own_F T17 m 387 #[iv i0, iv i1, iv i2, iv i3, iv i4, iv nq, iv bg, iv sq, iv hi, iv aq, iv wq, iv (i4 &&& (3 : Int32)), iv ((i4.toUInt32 >>> ((2 : Int32) &&& 31).toUInt32).toInt32), iv rq, rv b1, iv 1, .unset] [(.int nq), (.int sq), (.int aq), (.int wq)]) (fun _ z_ => XS.iload X17.here hx rfl (hb hby at_385) rfl z_) ?_
    refine own_callS (y := (⟨"com/example/kunci/kunci/NumberSetAddPinLaw", "inRun", "(IIII)Z"⟩ : MethodName)) X17 hx hZ hown (own_w hw 47) (own_w hw 48) (own_w hw 49) (own_w hw 50) (by decide) e17 (hM := own_inRun l Z a0 hw [] wq aq sq nq hp17 n0 zs17 hwq ha.1 hs.1 hnq.1) (W := 0) (pc := 387) (Ls := #[iv i0, iv i1, iv i2, iv i3, iv i4, iv nq, iv bg, iv sq, iv hi, iv aq, iv wq, iv (i4 &&& (3 : Int32)), iv ((i4.toUInt32 >>> ((2 : Int32) &&& 31).toUInt32).toInt32), iv rq, rv b1, iv 1, .unset]) (argsL := [(.int wq), (.int aq), (.int sq), (.int nq)]) (rest := []) (st0 := [(.int nq), (.int sq), (.int aq), (.int wq)]) (by rw [hml]; rfl) (lenOf own_pd8 rfl) rfl (Nat.le_of_eq rfl) (hb hby at_387) (by first | decide | omega | (simp only [room_1]; omega) | (simp only [room_1]; done) | (dsimp only; omega) | (dsimp only; done)) (by first | decide | omega | (simp only [room_1]; omega) | (simp only [room_1]; done) | (dsimp only; omega) | (dsimp only; done)) (by first | decide | omega | (simp only [room_1]; omega) | (simp only [room_1]; done) | (dsimp only; omega) | (dsimp only; done)) (by first | decide | omega | (simp only [room_1]; omega) | (simp only [room_1]; done) | (dsimp only; omega) | (dsimp only; done)) ?_
    intro v18 T18 L18 X18 hQ18
    obtain ⟨r18, rfl, hr18, Nq18, hh18⟩ := hQ18
    have N18 := Fr.app N17 Nq18
    show own_Ends p e below s _ _ _ (own_F T18 m 390 #[iv i0, iv i1, iv i2, iv i3, iv i4, iv nq, iv bg, iv sq, iv hi, iv aq, iv wq, iv (i4 &&& (3 : Int32)), iv ((i4.toUInt32 >>> ((2 : Int32) &&& 31).toUInt32).toInt32), iv rq, rv b1, iv 1, .unset] [(.int r18)])
    rcases hr18 with ⟨rfl, hi_⟩ | ⟨rfl, hi_⟩
    ·
     show own_Ends p e below s _ _ _ (own_F T18 m 390 #[iv i0, iv i1, iv i2, iv i3, iv i4, iv nq, iv bg, iv sq, iv hi, iv aq, iv wq, iv (i4 &&& (3 : Int32)), iv ((i4.toUInt32 >>> ((2 : Int32) &&& 31).toUInt32).toInt32), iv rq, rv b1, iv 1, .unset] [(.int 1)])
     refine own_g (own_F T18 m 397 #[iv i0, iv i1, iv i2, iv i3, iv i4, iv nq, iv bg, iv sq, iv hi, iv aq, iv wq, iv (i4 &&& (3 : Int32)), iv ((i4.toUInt32 >>> ((2 : Int32) &&& 31).toUInt32).toInt32), iv rq, rv b1, iv 1, .unset] []) (fun _ z_ => XS.ifYes X18.here hx rfl (pc0 := 390) (pc' := 397) rfl (hb hby at_390) rfl ((if0 _ _).trans (feq (by decide : ¬ ((1 : Int32) = (0 : Int32)))).2) (by decide) (by decide) z_) ?_
     refine own_g (own_F T18 m 398 #[iv i0, iv i1, iv i2, iv i3, iv i4, iv nq, iv bg, iv sq, iv hi, iv aq, iv wq, iv (i4 &&& (3 : Int32)), iv ((i4.toUInt32 >>> ((2 : Int32) &&& 31).toUInt32).toInt32), iv rq, rv b1, iv 1, .unset] [(.int 0)]) (fun _ z_ => XS.iconst X18.here hx rfl (hb hby at_397) z_) ?_
     refine own_g (own_F T18 m 400 #[iv i0, iv i1, iv i2, iv i3, iv i4, iv nq, iv bg, iv sq, iv hi, iv aq, iv wq, iv (i4 &&& (3 : Int32)), iv ((i4.toUInt32 >>> ((2 : Int32) &&& 31).toUInt32).toInt32), iv rq, rv b1, iv 1, iv 0] []) (fun _ z_ => XS.istore X18.here hx rfl (hb hby at_398) rfl (l' := #[iv i0, iv i1, iv i2, iv i3, iv i4, iv nq, iv bg, iv sq, iv hi, iv aq, iv wq, iv (i4 &&& (3 : Int32)), iv ((i4.toUInt32 >>> ((2 : Int32) &&& 31).toUInt32).toInt32), iv rq, rv b1, iv 1, iv 0]) rfl z_) ?_
     refine own_g (own_F T18 m 402 #[iv i0, iv i1, iv i2, iv i3, iv i4, iv nq, iv bg, iv sq, iv hi, iv aq, iv wq, iv (i4 &&& (3 : Int32)), iv ((i4.toUInt32 >>> ((2 : Int32) &&& 31).toUInt32).toInt32), iv rq, rv b1, iv 1, iv 0] [(.int 1)]) (fun _ z_ => XS.iload X18.here hx rfl (hb hby at_400) rfl z_) ?_
     refine own_g (own_F T18 m 404 #[iv i0, iv i1, iv i2, iv i3, iv i4, iv nq, iv bg, iv sq, iv hi, iv aq, iv wq, iv (i4 &&& (3 : Int32)), iv ((i4.toUInt32 >>> ((2 : Int32) &&& 31).toUInt32).toInt32), iv rq, rv b1, iv 1, iv 0] [(.ref b1), (.int 1)]) (fun _ z_ => XS.aload X18.here hx rfl (hb hby at_402) rfl rfl z_) ?_
     refine own_g (own_F T18 m 406 #[iv i0, iv i1, iv i2, iv i3, iv i4, iv nq, iv bg, iv sq, iv hi, iv aq, iv wq, iv (i4 &&& (3 : Int32)), iv ((i4.toUInt32 >>> ((2 : Int32) &&& 31).toUInt32).toInt32), iv rq, rv b1, iv 1, iv 0] [(.int wq), (.ref b1), (.int 1)]) (fun _ z_ => XS.iload X18.here hx rfl (hb hby at_404) rfl z_) ?_
     obtain ⟨kk, c', hst⟩ := own_stepX cap (wq.toInt.toNat / 64 + 1)
     have hwr : 0 ≤ wq.toInt ∧ wq.toInt ≤ 1089535 := ⟨hwq, hw8 (by omega)⟩
     obtain ⟨hb1, hb2, hb3, hb4⟩ := own_stepB hst (by omega) hc8
     refine own_callV (C := "com/example/kunci/kunci/NumberSet") (y := (⟨"com/example/kunci/kunci/NumberSet", "add", "(I)Z"⟩ : MethodName)) (b := b1) X18 hx hZ hown (own_w hw 14) (own_w hw 15) (own_w hw 17) (own_w hw 16) (own_w hw 18) (own_w hw 4) (by decide) hh18 hF.exa (hM := own_addb l Z a0 hw [] b1 9 cap c' kk wq U hp17 n0 zs17 hwr (by decide) hst hc8 hF f17_0) (W := 1) (pc := 406) (Ls := #[iv i0, iv i1, iv i2, iv i3, iv i4, iv nq, iv bg, iv sq, iv hi, iv aq, iv wq, iv (i4 &&& (3 : Int32)), iv ((i4.toUInt32 >>> ((2 : Int32) &&& 31).toUInt32).toInt32), iv rq, rv b1, iv 1, iv 0]) (argsL := [(.int wq)]) (rest := [(.int 1)]) (st0 := [(.int wq), (.ref b1), (.int 1)]) (by rw [hml]; rfl) (lenOf own_pd0 rfl) rfl (Nat.le_of_eq rfl) (hb hby at_406) (by first | decide | omega | (simp only [room_1]; omega) | (simp only [room_1]; done) | (dsimp only; omega) | (dsimp only; done)) (by first | decide | omega | (simp only [room_1]; omega) | (simp only [room_1]; done) | (dsimp only; omega) | (dsimp only; done)) (by first | decide | omega | (simp only [room_1]; omega) | (simp only [room_1]; done) | (dsimp only; omega) | (dsimp only; done)) (by first | decide | omega | (simp only [room_1]; omega) | (simp only [room_1]; done) | (dsimp only; omega) | (dsimp only; done)) ?_
     intro v19 T19 L19 X19 hQ19
     obtain ⟨r19, l19, c19, U19, rfl, hr19, Nq19, gz19, ad19, hF19⟩ := hQ19
     have N19 := Fr.app N18 Nq19
     show own_Ends p e below s _ _ _ (own_F T19 m 409 #[iv i0, iv i1, iv i2, iv i3, iv i4, iv nq, iv bg, iv sq, iv hi, iv aq, iv wq, iv (i4 &&& (3 : Int32)), iv ((i4.toUInt32 >>> ((2 : Int32) &&& 31).toUInt32).toInt32), iv rq, rv b1, iv 1, iv 0] [(.int r19), (.int 1)])
     have zs19 := Nat.le_trans zs17 gz19
     have zz19 := Nat.le_trans zz17 gz19
     obtain ⟨rfl, -, hl19, hc19, hU19⟩ := hr19.resolve_left (fun z => z.2.1 ((hm wq hwq).mpr (hn9 ▸ hi_)))
     rw [hU19] at hF19
     have hE : ∀ v : Int32, 0 ≤ v.toInt → (own_bt U v ↔ own_M aq sq nq.toInt.toNat wq v) := fun v hv => by rw [hm v hv, hn9]; exact ⟨Or.inl, fun z => z.elim id fun z => z ▸ (hn9 ▸ hi_)⟩
     show own_Ends p e below s _ _ _ (own_F T19 m 409 #[iv i0, iv i1, iv i2, iv i3, iv i4, iv nq, iv bg, iv sq, iv hi, iv aq, iv wq, iv (i4 &&& (3 : Int32)), iv ((i4.toUInt32 >>> ((2 : Int32) &&& 31).toUInt32).toInt32), iv rq, rv b1, iv 1, iv 0] [(.int 0), (.int 1)])
     refine own_g (own_F T19 m 411 #[iv i0, iv i1, iv i2, iv i3, iv i4, iv nq, iv bg, iv sq, iv hi, iv aq, iv wq, iv (i4 &&& (3 : Int32)), iv ((i4.toUInt32 >>> ((2 : Int32) &&& 31).toUInt32).toInt32), iv rq, rv b1, iv 1, iv 0] [(.int 0), (.int 0), (.int 1)]) (fun _ z_ => XS.iload X19.here hx rfl (hb hby at_409) rfl z_) ?_
     refine own_g (own_F T19 m 414 #[iv i0, iv i1, iv i2, iv i3, iv i4, iv nq, iv bg, iv sq, iv hi, iv aq, iv wq, iv (i4 &&& (3 : Int32)), iv ((i4.toUInt32 >>> ((2 : Int32) &&& 31).toUInt32).toInt32), iv rq, rv b1, iv 1, iv 0] [(.int 1)]) (fun _ z_ => XS.icmpNo X19.here hx rfl (hb hby at_411) rfl (teq (by decide : ((0 : Int32) = (0 : Int32)))).2 z_) ?_
     refine own_g (own_F T19 m 415 #[iv i0, iv i1, iv i2, iv i3, iv i4, iv nq, iv bg, iv sq, iv hi, iv aq, iv wq, iv (i4 &&& (3 : Int32)), iv ((i4.toUInt32 >>> ((2 : Int32) &&& 31).toUInt32).toInt32), iv rq, rv b1, iv 1, iv 0] [(.int 1), (.int 1)]) (fun _ z_ => XS.iconst X19.here hx rfl (hb hby at_414) z_) ?_
     refine own_g (own_F T19 m 419 #[iv i0, iv i1, iv i2, iv i3, iv i4, iv nq, iv bg, iv sq, iv hi, iv aq, iv wq, iv (i4 &&& (3 : Int32)), iv ((i4.toUInt32 >>> ((2 : Int32) &&& 31).toUInt32).toInt32), iv rq, rv b1, iv 1, iv 0] [(.int 1), (.int 1)]) (fun _ z_ => XS.goto X19.here hx rfl (pc0 := 415) (pc' := 419) rfl (hb hby at_415) (by decide) (by decide) z_) ?_
     refine own_g (own_F T19 m 420 #[iv i0, iv i1, iv i2, iv i3, iv i4, iv nq, iv bg, iv sq, iv hi, iv aq, iv wq, iv (i4 &&& (3 : Int32)), iv ((i4.toUInt32 >>> ((2 : Int32) &&& 31).toUInt32).toInt32), iv rq, rv b1, iv 1, iv 0] [(.int 1)]) (fun _ z_ => XS.iand X19.here hx rfl (hb hby at_419) rfl z_) ?_
     refine own_g (own_F T19 m 422 #[iv i0, iv i1, iv i2, iv i3, iv i4, iv nq, iv bg, iv sq, iv hi, iv aq, iv wq, iv (i4 &&& (3 : Int32)), iv ((i4.toUInt32 >>> ((2 : Int32) &&& 31).toUInt32).toInt32), iv rq, rv b1, iv 1, iv 0] []) (fun _ z_ => XS.istore X19.here hx rfl (hb hby at_420) rfl (l' := #[iv i0, iv i1, iv i2, iv i3, iv i4, iv nq, iv bg, iv sq, iv hi, iv aq, iv wq, iv (i4 &&& (3 : Int32)), iv ((i4.toUInt32 >>> ((2 : Int32) &&& 31).toUInt32).toInt32), iv rq, rv b1, iv 1, iv 0]) rfl z_) ?_
     exact JZ0 l19 T19 _ _ (own_Smono X19 (by first | decide | omega | (simp only [room_1]; omega) | (simp only [room_1]; done) | (dsimp only; omega) | (dsimp only; done)) (by first | decide | omega | (simp only [room_1]; omega) | (simp only [room_1]; done) | (dsimp only; omega) | (dsimp only; done))) (rfl : T19.heap = T19.heap) N19 zs19 zz19 ad19 (Or.inr ⟨_, _, hF19, hE⟩) (by omega)
    ·
     show own_Ends p e below s _ _ _ (own_F T18 m 390 #[iv i0, iv i1, iv i2, iv i3, iv i4, iv nq, iv bg, iv sq, iv hi, iv aq, iv wq, iv (i4 &&& (3 : Int32)), iv ((i4.toUInt32 >>> ((2 : Int32) &&& 31).toUInt32).toInt32), iv rq, rv b1, iv 1, .unset] [(.int 0)])
     refine own_g (own_F T18 m 393 #[iv i0, iv i1, iv i2, iv i3, iv i4, iv nq, iv bg, iv sq, iv hi, iv aq, iv wq, iv (i4 &&& (3 : Int32)), iv ((i4.toUInt32 >>> ((2 : Int32) &&& 31).toUInt32).toInt32), iv rq, rv b1, iv 1, .unset] []) (fun _ z_ => XS.ifNo X18.here hx rfl (hb hby at_390) rfl ((if0 _ _).trans (teq (by decide : ((0 : Int32) = (0 : Int32)))).2) z_) ?_
     refine own_g (own_F T18 m 394 #[iv i0, iv i1, iv i2, iv i3, iv i4, iv nq, iv bg, iv sq, iv hi, iv aq, iv wq, iv (i4 &&& (3 : Int32)), iv ((i4.toUInt32 >>> ((2 : Int32) &&& 31).toUInt32).toInt32), iv rq, rv b1, iv 1, .unset] [(.int 1)]) (fun _ z_ => XS.iconst X18.here hx rfl (hb hby at_393) z_) ?_
     refine own_g (own_F T18 m 398 #[iv i0, iv i1, iv i2, iv i3, iv i4, iv nq, iv bg, iv sq, iv hi, iv aq, iv wq, iv (i4 &&& (3 : Int32)), iv ((i4.toUInt32 >>> ((2 : Int32) &&& 31).toUInt32).toInt32), iv rq, rv b1, iv 1, .unset] [(.int 1)]) (fun _ z_ => XS.goto X18.here hx rfl (pc0 := 394) (pc' := 398) rfl (hb hby at_394) (by decide) (by decide) z_) ?_
     refine own_g (own_F T18 m 400 #[iv i0, iv i1, iv i2, iv i3, iv i4, iv nq, iv bg, iv sq, iv hi, iv aq, iv wq, iv (i4 &&& (3 : Int32)), iv ((i4.toUInt32 >>> ((2 : Int32) &&& 31).toUInt32).toInt32), iv rq, rv b1, iv 1, iv 1] []) (fun _ z_ => XS.istore X18.here hx rfl (hb hby at_398) rfl (l' := #[iv i0, iv i1, iv i2, iv i3, iv i4, iv nq, iv bg, iv sq, iv hi, iv aq, iv wq, iv (i4 &&& (3 : Int32)), iv ((i4.toUInt32 >>> ((2 : Int32) &&& 31).toUInt32).toInt32), iv rq, rv b1, iv 1, iv 1]) rfl z_) ?_
     refine own_g (own_F T18 m 402 #[iv i0, iv i1, iv i2, iv i3, iv i4, iv nq, iv bg, iv sq, iv hi, iv aq, iv wq, iv (i4 &&& (3 : Int32)), iv ((i4.toUInt32 >>> ((2 : Int32) &&& 31).toUInt32).toInt32), iv rq, rv b1, iv 1, iv 1] [(.int 1)]) (fun _ z_ => XS.iload X18.here hx rfl (hb hby at_400) rfl z_) ?_
     refine own_g (own_F T18 m 404 #[iv i0, iv i1, iv i2, iv i3, iv i4, iv nq, iv bg, iv sq, iv hi, iv aq, iv wq, iv (i4 &&& (3 : Int32)), iv ((i4.toUInt32 >>> ((2 : Int32) &&& 31).toUInt32).toInt32), iv rq, rv b1, iv 1, iv 1] [(.ref b1), (.int 1)]) (fun _ z_ => XS.aload X18.here hx rfl (hb hby at_402) rfl rfl z_) ?_
     refine own_g (own_F T18 m 406 #[iv i0, iv i1, iv i2, iv i3, iv i4, iv nq, iv bg, iv sq, iv hi, iv aq, iv wq, iv (i4 &&& (3 : Int32)), iv ((i4.toUInt32 >>> ((2 : Int32) &&& 31).toUInt32).toInt32), iv rq, rv b1, iv 1, iv 1] [(.int wq), (.ref b1), (.int 1)]) (fun _ z_ => XS.iload X18.here hx rfl (hb hby at_404) rfl z_) ?_
     obtain ⟨kk, c', hst⟩ := own_stepX cap (wq.toInt.toNat / 64 + 1)
     have hwr : 0 ≤ wq.toInt ∧ wq.toInt ≤ 1089535 := ⟨hwq, hw8 (by omega)⟩
     obtain ⟨hb1, hb2, hb3, hb4⟩ := own_stepB hst (by omega) hc8
     refine own_callV (C := "com/example/kunci/kunci/NumberSet") (y := (⟨"com/example/kunci/kunci/NumberSet", "add", "(I)Z"⟩ : MethodName)) (b := b1) X18 hx hZ hown (own_w hw 14) (own_w hw 15) (own_w hw 17) (own_w hw 16) (own_w hw 18) (own_w hw 4) (by decide) hh18 hF.exa (hM := own_addb l Z a0 hw [] b1 9 cap c' kk wq U hp17 n0 zs17 hwr (by decide) hst hc8 hF f17_0) (W := 1) (pc := 406) (Ls := #[iv i0, iv i1, iv i2, iv i3, iv i4, iv nq, iv bg, iv sq, iv hi, iv aq, iv wq, iv (i4 &&& (3 : Int32)), iv ((i4.toUInt32 >>> ((2 : Int32) &&& 31).toUInt32).toInt32), iv rq, rv b1, iv 1, iv 1]) (argsL := [(.int wq)]) (rest := [(.int 1)]) (st0 := [(.int wq), (.ref b1), (.int 1)]) (by rw [hml]; rfl) (lenOf own_pd0 rfl) rfl (Nat.le_of_eq rfl) (hb hby at_406) (by first | decide | omega | (simp only [room_1]; omega) | (simp only [room_1]; done) | (dsimp only; omega) | (dsimp only; done)) (by first | decide | omega | (simp only [room_1]; omega) | (simp only [room_1]; done) | (dsimp only; omega) | (dsimp only; done)) (by first | decide | omega | (simp only [room_1]; omega) | (simp only [room_1]; done) | (dsimp only; omega) | (dsimp only; done)) (by first | decide | omega | (simp only [room_1]; omega) | (simp only [room_1]; done) | (dsimp only; omega) | (dsimp only; done)) ?_
     intro v20 T20 L20 X20 hQ20
     obtain ⟨r20, l20, c20, U20, rfl, hr20, Nq20, gz20, ad20, hF20⟩ := hQ20
     have N20 := Fr.app N18 Nq20
     show own_Ends p e below s _ _ _ (own_F T20 m 409 #[iv i0, iv i1, iv i2, iv i3, iv i4, iv nq, iv bg, iv sq, iv hi, iv aq, iv wq, iv (i4 &&& (3 : Int32)), iv ((i4.toUInt32 >>> ((2 : Int32) &&& 31).toUInt32).toInt32), iv rq, rv b1, iv 1, iv 1] [(.int r20), (.int 1)])
     have zs20 := Nat.le_trans zs17 gz20
     have zz20 := Nat.le_trans zz17 gz20
     obtain ⟨rfl, -, hl20, hc20, hU20⟩ := hr20.resolve_right (fun z => hi_ (hn9 ▸ (hm wq hwq).mp z.2.1))
     subst hU20
     have hE : ∀ v : Int32, 0 ≤ v.toInt → (own_bt (own_up U wq) v ↔ own_M aq sq nq.toInt.toNat wq v) := fun v hv => by rw [own_btU U wq v hwq hv, hm v hv, hn9]; rfl
     show own_Ends p e below s _ _ _ (own_F T20 m 409 #[iv i0, iv i1, iv i2, iv i3, iv i4, iv nq, iv bg, iv sq, iv hi, iv aq, iv wq, iv (i4 &&& (3 : Int32)), iv ((i4.toUInt32 >>> ((2 : Int32) &&& 31).toUInt32).toInt32), iv rq, rv b1, iv 1, iv 1] [(.int 1), (.int 1)])
     refine own_g (own_F T20 m 411 #[iv i0, iv i1, iv i2, iv i3, iv i4, iv nq, iv bg, iv sq, iv hi, iv aq, iv wq, iv (i4 &&& (3 : Int32)), iv ((i4.toUInt32 >>> ((2 : Int32) &&& 31).toUInt32).toInt32), iv rq, rv b1, iv 1, iv 1] [(.int 1), (.int 1), (.int 1)]) (fun _ z_ => XS.iload X20.here hx rfl (hb hby at_409) rfl z_) ?_
     refine own_g (own_F T20 m 414 #[iv i0, iv i1, iv i2, iv i3, iv i4, iv nq, iv bg, iv sq, iv hi, iv aq, iv wq, iv (i4 &&& (3 : Int32)), iv ((i4.toUInt32 >>> ((2 : Int32) &&& 31).toUInt32).toInt32), iv rq, rv b1, iv 1, iv 1] [(.int 1)]) (fun _ z_ => XS.icmpNo X20.here hx rfl (hb hby at_411) rfl (teq (by decide : ((1 : Int32) = (1 : Int32)))).2 z_) ?_
     refine own_g (own_F T20 m 415 #[iv i0, iv i1, iv i2, iv i3, iv i4, iv nq, iv bg, iv sq, iv hi, iv aq, iv wq, iv (i4 &&& (3 : Int32)), iv ((i4.toUInt32 >>> ((2 : Int32) &&& 31).toUInt32).toInt32), iv rq, rv b1, iv 1, iv 1] [(.int 1), (.int 1)]) (fun _ z_ => XS.iconst X20.here hx rfl (hb hby at_414) z_) ?_
     refine own_g (own_F T20 m 419 #[iv i0, iv i1, iv i2, iv i3, iv i4, iv nq, iv bg, iv sq, iv hi, iv aq, iv wq, iv (i4 &&& (3 : Int32)), iv ((i4.toUInt32 >>> ((2 : Int32) &&& 31).toUInt32).toInt32), iv rq, rv b1, iv 1, iv 1] [(.int 1), (.int 1)]) (fun _ z_ => XS.goto X20.here hx rfl (pc0 := 415) (pc' := 419) rfl (hb hby at_415) (by decide) (by decide) z_) ?_
     refine own_g (own_F T20 m 420 #[iv i0, iv i1, iv i2, iv i3, iv i4, iv nq, iv bg, iv sq, iv hi, iv aq, iv wq, iv (i4 &&& (3 : Int32)), iv ((i4.toUInt32 >>> ((2 : Int32) &&& 31).toUInt32).toInt32), iv rq, rv b1, iv 1, iv 1] [(.int 1)]) (fun _ z_ => XS.iand X20.here hx rfl (hb hby at_419) rfl z_) ?_
     refine own_g (own_F T20 m 422 #[iv i0, iv i1, iv i2, iv i3, iv i4, iv nq, iv bg, iv sq, iv hi, iv aq, iv wq, iv (i4 &&& (3 : Int32)), iv ((i4.toUInt32 >>> ((2 : Int32) &&& 31).toUInt32).toInt32), iv rq, rv b1, iv 1, iv 1] []) (fun _ z_ => XS.istore X20.here hx rfl (hb hby at_420) rfl (l' := #[iv i0, iv i1, iv i2, iv i3, iv i4, iv nq, iv bg, iv sq, iv hi, iv aq, iv wq, iv (i4 &&& (3 : Int32)), iv ((i4.toUInt32 >>> ((2 : Int32) &&& 31).toUInt32).toInt32), iv rq, rv b1, iv 1, iv 1]) rfl z_) ?_
     exact JZ1 l20 T20 _ _ (own_Smono X20 (by first | decide | omega | (simp only [room_1]; omega) | (simp only [room_1]; done) | (dsimp only; omega) | (dsimp only; done)) (by first | decide | omega | (simp only [room_1]; omega) | (simp only [room_1]; done) | (dsimp only; omega) | (dsimp only; done))) (rfl : T20.heap = T20.heap) N20 zs20 zz20 ad20 (Or.inr ⟨_, _, hF20, hE⟩) (by omega)
   have J9 : ∀ (len : Nat) (cap : Nat) (g : Nat → Int32) (T21 : State) (lc21 : List Loc) (hp21 : Heap) (X21 : Stand p l e room_1 s m #[(.int i0), (.int i1), (.int i2), (.int i3), (.int i4)] below meth c T21 lc21 11 75) (e21 : T21.heap = hp21) (N21 : Fr n0 lc21) (zs21 : n0 ≤ hp21.size) (zz21 : h0.size ≤ hp21.size) (f21_0 : Sta Z hp21 "java/util/BitSet" "$assertionsDisabled" "Z" (.int (1 : Int32))) (hF : own_few n0 Z hp21 b1 len cap g) (hl : len = min 9 nq.toInt.toNat) (hm : ∀ v, own_mem len g v ↔ own_run aq sq len v) (hle : len ≤ 8), own_Ends p e below s (fun v h L => v = some (.int 1) ∧ Fr n0 L) room_1.cells room_1.slots (own_F T21 m 379 #[iv i0, iv i1, iv i2, iv i3, iv i4, iv nq, iv bg, iv sq, iv hi, iv aq, iv wq, iv (i4 &&& (3 : Int32)), iv ((i4.toUInt32 >>> ((2 : Int32) &&& 31).toUInt32).toInt32), iv rq, rv b1, iv 1, .unset] []) := by
    intro len cap g T21 lc21 hp21 X21 e21 N21 zs21 zz21 f21_0 hF hl hm hle
    have hln : len = nq.toInt.toNat := by omega
    refine own_g (own_F T21 m 381 #[iv i0, iv i1, iv i2, iv i3, iv i4, iv nq, iv bg, iv sq, iv hi, iv aq, iv wq, iv (i4 &&& (3 : Int32)), iv ((i4.toUInt32 >>> ((2 : Int32) &&& 31).toUInt32).toInt32), iv rq, rv b1, iv 1, .unset] [(.int wq)]) (fun _ z_ => XS.iload X21.here hx rfl (hb hby at_379) rfl z_) ?_
    refine own_g (own_F T21 m 383 #[iv i0, iv i1, iv i2, iv i3, iv i4, iv nq, iv bg, iv sq, iv hi, iv aq, iv wq, iv (i4 &&& (3 : Int32)), iv ((i4.toUInt32 >>> ((2 : Int32) &&& 31).toUInt32).toInt32), iv rq, rv b1, iv 1, .unset] [(.int aq), (.int wq)]) (fun _ z_ => XS.iload X21.here hx rfl (hb hby at_381) rfl z_) ?_
    refine own_g (own_F T21 m 385 #[iv i0, iv i1, iv i2, iv i3, iv i4, iv nq, iv bg, iv sq, iv hi, iv aq, iv wq, iv (i4 &&& (3 : Int32)), iv ((i4.toUInt32 >>> ((2 : Int32) &&& 31).toUInt32).toInt32), iv rq, rv b1, iv 1, .unset] [(.int sq), (.int aq), (.int wq)]) (fun _ z_ => XS.iload X21.here hx rfl (hb hby at_383) rfl z_) ?_
    refine own_g (own_F T21 m 387 #[iv i0, iv i1, iv i2, iv i3, iv i4, iv nq, iv bg, iv sq, iv hi, iv aq, iv wq, iv (i4 &&& (3 : Int32)), iv ((i4.toUInt32 >>> ((2 : Int32) &&& 31).toUInt32).toInt32), iv rq, rv b1, iv 1, .unset] [(.int nq), (.int sq), (.int aq), (.int wq)]) (fun _ z_ => XS.iload X21.here hx rfl (hb hby at_385) rfl z_) ?_
    refine own_callS (y := (⟨"com/example/kunci/kunci/NumberSetAddPinLaw", "inRun", "(IIII)Z"⟩ : MethodName)) X21 hx hZ hown (own_w hw 47) (own_w hw 48) (own_w hw 49) (own_w hw 50) (by decide) e21 (hM := own_inRun l Z a0 hw [] wq aq sq nq hp21 n0 zs21 hwq ha.1 hs.1 hnq.1) (W := 0) (pc := 387) (Ls := #[iv i0, iv i1, iv i2, iv i3, iv i4, iv nq, iv bg, iv sq, iv hi, iv aq, iv wq, iv (i4 &&& (3 : Int32)), iv ((i4.toUInt32 >>> ((2 : Int32) &&& 31).toUInt32).toInt32), iv rq, rv b1, iv 1, .unset]) (argsL := [(.int wq), (.int aq), (.int sq), (.int nq)]) (rest := []) (st0 := [(.int nq), (.int sq), (.int aq), (.int wq)]) (by rw [hml]; rfl) (lenOf own_pd8 rfl) rfl (Nat.le_of_eq rfl) (hb hby at_387) (by first | decide | omega | (simp only [room_1]; omega) | (simp only [room_1]; done) | (dsimp only; omega) | (dsimp only; done)) (by first | decide | omega | (simp only [room_1]; omega) | (simp only [room_1]; done) | (dsimp only; omega) | (dsimp only; done)) (by first | decide | omega | (simp only [room_1]; omega) | (simp only [room_1]; done) | (dsimp only; omega) | (dsimp only; done)) (by first | decide | omega | (simp only [room_1]; omega) | (simp only [room_1]; done) | (dsimp only; omega) | (dsimp only; done)) ?_
    intro v22 T22 L22 X22 hQ22
    obtain ⟨r22, rfl, hr22, Nq22, hh22⟩ := hQ22
    have N22 := Fr.app N21 Nq22
    show own_Ends p e below s _ _ _ (own_F T22 m 390 #[iv i0, iv i1, iv i2, iv i3, iv i4, iv nq, iv bg, iv sq, iv hi, iv aq, iv wq, iv (i4 &&& (3 : Int32)), iv ((i4.toUInt32 >>> ((2 : Int32) &&& 31).toUInt32).toInt32), iv rq, rv b1, iv 1, .unset] [(.int r22)])
    rcases hr22 with ⟨rfl, hi_⟩ | ⟨rfl, hi_⟩
    ·
     show own_Ends p e below s _ _ _ (own_F T22 m 390 #[iv i0, iv i1, iv i2, iv i3, iv i4, iv nq, iv bg, iv sq, iv hi, iv aq, iv wq, iv (i4 &&& (3 : Int32)), iv ((i4.toUInt32 >>> ((2 : Int32) &&& 31).toUInt32).toInt32), iv rq, rv b1, iv 1, .unset] [(.int 1)])
     refine own_g (own_F T22 m 397 #[iv i0, iv i1, iv i2, iv i3, iv i4, iv nq, iv bg, iv sq, iv hi, iv aq, iv wq, iv (i4 &&& (3 : Int32)), iv ((i4.toUInt32 >>> ((2 : Int32) &&& 31).toUInt32).toInt32), iv rq, rv b1, iv 1, .unset] []) (fun _ z_ => XS.ifYes X22.here hx rfl (pc0 := 390) (pc' := 397) rfl (hb hby at_390) rfl ((if0 _ _).trans (feq (by decide : ¬ ((1 : Int32) = (0 : Int32)))).2) (by decide) (by decide) z_) ?_
     refine own_g (own_F T22 m 398 #[iv i0, iv i1, iv i2, iv i3, iv i4, iv nq, iv bg, iv sq, iv hi, iv aq, iv wq, iv (i4 &&& (3 : Int32)), iv ((i4.toUInt32 >>> ((2 : Int32) &&& 31).toUInt32).toInt32), iv rq, rv b1, iv 1, .unset] [(.int 0)]) (fun _ z_ => XS.iconst X22.here hx rfl (hb hby at_397) z_) ?_
     refine own_g (own_F T22 m 400 #[iv i0, iv i1, iv i2, iv i3, iv i4, iv nq, iv bg, iv sq, iv hi, iv aq, iv wq, iv (i4 &&& (3 : Int32)), iv ((i4.toUInt32 >>> ((2 : Int32) &&& 31).toUInt32).toInt32), iv rq, rv b1, iv 1, iv 0] []) (fun _ z_ => XS.istore X22.here hx rfl (hb hby at_398) rfl (l' := #[iv i0, iv i1, iv i2, iv i3, iv i4, iv nq, iv bg, iv sq, iv hi, iv aq, iv wq, iv (i4 &&& (3 : Int32)), iv ((i4.toUInt32 >>> ((2 : Int32) &&& 31).toUInt32).toInt32), iv rq, rv b1, iv 1, iv 0]) rfl z_) ?_
     refine own_g (own_F T22 m 402 #[iv i0, iv i1, iv i2, iv i3, iv i4, iv nq, iv bg, iv sq, iv hi, iv aq, iv wq, iv (i4 &&& (3 : Int32)), iv ((i4.toUInt32 >>> ((2 : Int32) &&& 31).toUInt32).toInt32), iv rq, rv b1, iv 1, iv 0] [(.int 1)]) (fun _ z_ => XS.iload X22.here hx rfl (hb hby at_400) rfl z_) ?_
     refine own_g (own_F T22 m 404 #[iv i0, iv i1, iv i2, iv i3, iv i4, iv nq, iv bg, iv sq, iv hi, iv aq, iv wq, iv (i4 &&& (3 : Int32)), iv ((i4.toUInt32 >>> ((2 : Int32) &&& 31).toUInt32).toInt32), iv rq, rv b1, iv 1, iv 0] [(.ref b1), (.int 1)]) (fun _ z_ => XS.aload X22.here hx rfl (hb hby at_402) rfl rfl z_) ?_
     refine own_g (own_F T22 m 406 #[iv i0, iv i1, iv i2, iv i3, iv i4, iv nq, iv bg, iv sq, iv hi, iv aq, iv wq, iv (i4 &&& (3 : Int32)), iv ((i4.toUInt32 >>> ((2 : Int32) &&& 31).toUInt32).toInt32), iv rq, rv b1, iv 1, iv 0] [(.int wq), (.ref b1), (.int 1)]) (fun _ z_ => XS.iload X22.here hx rfl (hb hby at_404) rfl z_) ?_
     rcases Nat.lt_or_ge len 8 with h7 | h8
     ·
      refine own_callV (C := "com/example/kunci/kunci/NumberSet") (y := (⟨"com/example/kunci/kunci/NumberSet", "add", "(I)Z"⟩ : MethodName)) (b := b1) X22 hx hZ hown (own_w hw 14) (own_w hw 15) (own_w hw 17) (own_w hw 16) (own_w hw 18) (own_w hw 4) (by decide) hh22 hF.exa (hM := own_addf l Z a0 hw [] b1 len cap wq g hp21 n0 zs21 (by omega) hF f21_0) (W := 1) (pc := 406) (Ls := #[iv i0, iv i1, iv i2, iv i3, iv i4, iv nq, iv bg, iv sq, iv hi, iv aq, iv wq, iv (i4 &&& (3 : Int32)), iv ((i4.toUInt32 >>> ((2 : Int32) &&& 31).toUInt32).toInt32), iv rq, rv b1, iv 1, iv 0]) (argsL := [(.int wq)]) (rest := [(.int 1)]) (st0 := [(.int wq), (.ref b1), (.int 1)]) (by rw [hml]; rfl) (lenOf own_pd0 rfl) rfl (Nat.le_of_eq rfl) (hb hby at_406) (by first | decide | omega | (simp only [room_1]; omega) | (simp only [room_1]; done) | (dsimp only; omega) | (dsimp only; done)) (by first | decide | omega | (simp only [room_1]; omega) | (simp only [room_1]; done) | (dsimp only; omega) | (dsimp only; done)) (by first | decide | omega | (simp only [room_1]; omega) | (simp only [room_1]; done) | (dsimp only; omega) | (dsimp only; done)) (by first | decide | omega | (simp only [room_1]; omega) | (simp only [room_1]; done) | (dsimp only; omega) | (dsimp only; done)) ?_
      intro v23 T23 L23 X23 hQ23
      obtain ⟨r23, l23, k23, g23, rfl, hr23, Nq23, hF23, hm23, gz23, ad23⟩ := hQ23
      have N23 := Fr.app N22 Nq23
      show own_Ends p e below s _ _ _ (own_F T23 m 409 #[iv i0, iv i1, iv i2, iv i3, iv i4, iv nq, iv bg, iv sq, iv hi, iv aq, iv wq, iv (i4 &&& (3 : Int32)), iv ((i4.toUInt32 >>> ((2 : Int32) &&& 31).toUInt32).toInt32), iv rq, rv b1, iv 1, iv 0] [(.int r23), (.int 1)])
      have zs23 := Nat.le_trans zs21 gz23
      have zz23 := Nat.le_trans zz21 gz23
      obtain ⟨rfl, -, hl23⟩ := hr23.resolve_left (fun z => z.2.1 ((hm wq).mpr (hln ▸ hi_)))
      have hE : ∀ v, own_mem l23 g23 v ↔ own_M aq sq nq.toInt.toNat wq v := fun v => by rw [hm23 v, hm v, hln]; rfl
      show own_Ends p e below s _ _ _ (own_F T23 m 409 #[iv i0, iv i1, iv i2, iv i3, iv i4, iv nq, iv bg, iv sq, iv hi, iv aq, iv wq, iv (i4 &&& (3 : Int32)), iv ((i4.toUInt32 >>> ((2 : Int32) &&& 31).toUInt32).toInt32), iv rq, rv b1, iv 1, iv 0] [(.int 0), (.int 1)])
      refine own_g (own_F T23 m 411 #[iv i0, iv i1, iv i2, iv i3, iv i4, iv nq, iv bg, iv sq, iv hi, iv aq, iv wq, iv (i4 &&& (3 : Int32)), iv ((i4.toUInt32 >>> ((2 : Int32) &&& 31).toUInt32).toInt32), iv rq, rv b1, iv 1, iv 0] [(.int 0), (.int 0), (.int 1)]) (fun _ z_ => XS.iload X23.here hx rfl (hb hby at_409) rfl z_) ?_
      refine own_g (own_F T23 m 414 #[iv i0, iv i1, iv i2, iv i3, iv i4, iv nq, iv bg, iv sq, iv hi, iv aq, iv wq, iv (i4 &&& (3 : Int32)), iv ((i4.toUInt32 >>> ((2 : Int32) &&& 31).toUInt32).toInt32), iv rq, rv b1, iv 1, iv 0] [(.int 1)]) (fun _ z_ => XS.icmpNo X23.here hx rfl (hb hby at_411) rfl (teq (by decide : ((0 : Int32) = (0 : Int32)))).2 z_) ?_
      refine own_g (own_F T23 m 415 #[iv i0, iv i1, iv i2, iv i3, iv i4, iv nq, iv bg, iv sq, iv hi, iv aq, iv wq, iv (i4 &&& (3 : Int32)), iv ((i4.toUInt32 >>> ((2 : Int32) &&& 31).toUInt32).toInt32), iv rq, rv b1, iv 1, iv 0] [(.int 1), (.int 1)]) (fun _ z_ => XS.iconst X23.here hx rfl (hb hby at_414) z_) ?_
      refine own_g (own_F T23 m 419 #[iv i0, iv i1, iv i2, iv i3, iv i4, iv nq, iv bg, iv sq, iv hi, iv aq, iv wq, iv (i4 &&& (3 : Int32)), iv ((i4.toUInt32 >>> ((2 : Int32) &&& 31).toUInt32).toInt32), iv rq, rv b1, iv 1, iv 0] [(.int 1), (.int 1)]) (fun _ z_ => XS.goto X23.here hx rfl (pc0 := 415) (pc' := 419) rfl (hb hby at_415) (by decide) (by decide) z_) ?_
      refine own_g (own_F T23 m 420 #[iv i0, iv i1, iv i2, iv i3, iv i4, iv nq, iv bg, iv sq, iv hi, iv aq, iv wq, iv (i4 &&& (3 : Int32)), iv ((i4.toUInt32 >>> ((2 : Int32) &&& 31).toUInt32).toInt32), iv rq, rv b1, iv 1, iv 0] [(.int 1)]) (fun _ z_ => XS.iand X23.here hx rfl (hb hby at_419) rfl z_) ?_
      refine own_g (own_F T23 m 422 #[iv i0, iv i1, iv i2, iv i3, iv i4, iv nq, iv bg, iv sq, iv hi, iv aq, iv wq, iv (i4 &&& (3 : Int32)), iv ((i4.toUInt32 >>> ((2 : Int32) &&& 31).toUInt32).toInt32), iv rq, rv b1, iv 1, iv 0] []) (fun _ z_ => XS.istore X23.here hx rfl (hb hby at_420) rfl (l' := #[iv i0, iv i1, iv i2, iv i3, iv i4, iv nq, iv bg, iv sq, iv hi, iv aq, iv wq, iv (i4 &&& (3 : Int32)), iv ((i4.toUInt32 >>> ((2 : Int32) &&& 31).toUInt32).toInt32), iv rq, rv b1, iv 1, iv 0]) rfl z_) ?_
      exact JZ0 l23 T23 _ _ (own_Smono X23 (by first | decide | omega | (simp only [room_1]; omega) | (simp only [room_1]; done) | (dsimp only; omega) | (dsimp only; done)) (by first | decide | omega | (simp only [room_1]; omega) | (simp only [room_1]; done) | (dsimp only; omega) | (dsimp only; done))) (rfl : T23.heap = T23.heap) N23 zs23 zz23 ad23 (Or.inl ⟨_, _, hF23, hE⟩) (by omega)
     ·
      obtain rfl : len = 8 := by omega
      obtain rfl := hF.cap8 rfl
      have hwr : 0 ≤ wq.toInt ∧ wq.toInt ≤ 1089535 := ⟨hwq, hw8 (by omega)⟩
      have ha9 := ha8 (by omega)
      have hgi : ∀ i, i < 8 → 0 ≤ (g i).toInt ∧ (g i).toInt ≤ 1089535 := fun i hi => by have := own_rr (by decide) hs ha ((hm (g i)).mp ⟨i, hi, rfl⟩); omega
      obtain ⟨k1, c1, hst1⟩ := own_stepX 1 ((g 0).toInt.toNat / 64 + 1)
      obtain ⟨k2, c2, hst2⟩ := own_stepX c1 ((g 1).toInt.toNat / 64 + 1)
      obtain ⟨k3, c3, hst3⟩ := own_stepX c2 ((g 2).toInt.toNat / 64 + 1)
      obtain ⟨k4, c4, hst4⟩ := own_stepX c3 ((g 3).toInt.toNat / 64 + 1)
      obtain ⟨k5, c5, hst5⟩ := own_stepX c4 ((g 4).toInt.toNat / 64 + 1)
      obtain ⟨k6, c6, hst6⟩ := own_stepX c5 ((g 5).toInt.toNat / 64 + 1)
      obtain ⟨k7, c7, hst7⟩ := own_stepX c6 ((g 6).toInt.toNat / 64 + 1)
      obtain ⟨k8, c8, hst8⟩ := own_stepX c7 ((g 7).toInt.toNat / 64 + 1)
      obtain ⟨k9, c9, hst9⟩ := own_stepX c8 ((wq).toInt.toNat / 64 + 1)
      have hs0_ : 1 ≤ 34048 := by decide
      obtain ⟨hb1, hs1_, -, -⟩ := own_stepB hst1 (by have := hgi 0 (by decide); omega) hs0_
      obtain ⟨hb2, hs2_, -, -⟩ := own_stepB hst2 (by have := hgi 1 (by decide); omega) hs1_
      obtain ⟨hb3, hs3_, -, -⟩ := own_stepB hst3 (by have := hgi 2 (by decide); omega) hs2_
      obtain ⟨hb4, hs4_, -, -⟩ := own_stepB hst4 (by have := hgi 3 (by decide); omega) hs3_
      obtain ⟨hb5, hs5_, -, -⟩ := own_stepB hst5 (by have := hgi 4 (by decide); omega) hs4_
      obtain ⟨hb6, hs6_, -, -⟩ := own_stepB hst6 (by have := hgi 5 (by decide); omega) hs5_
      obtain ⟨hb7, hs7_, -, -⟩ := own_stepB hst7 (by have := hgi 6 (by decide); omega) hs6_
      obtain ⟨hb8, hs8_, -, -⟩ := own_stepB hst8 (by have := hgi 7 (by decide); omega) hs7_
      obtain ⟨hb9, hs9_, -, -⟩ := own_stepB hst9 (by have := hwr; omega) hs8_
      refine own_callV (C := "com/example/kunci/kunci/NumberSet") (y := (⟨"com/example/kunci/kunci/NumberSet", "add", "(I)Z"⟩ : MethodName)) (b := b1) X22 hx hZ hown (own_w hw 14) (own_w hw 15) (own_w hw 17) (own_w hw 16) (own_w hw 18) (own_w hw 4) (by decide) hh22 hF.exa (hM := own_addc l Z a0 hw [] b1 wq g k1 k2 k3 k4 k5 k6 k7 k8 k9 c1 c2 c3 c4 c5 c6 c7 c8 c9 hp21 n0 zs21 hF hwr hgi hst1 hst2 hst3 hst4 hst5 hst6 hst7 hst8 hst9 f21_0) (W := 1) (pc := 406) (Ls := #[iv i0, iv i1, iv i2, iv i3, iv i4, iv nq, iv bg, iv sq, iv hi, iv aq, iv wq, iv (i4 &&& (3 : Int32)), iv ((i4.toUInt32 >>> ((2 : Int32) &&& 31).toUInt32).toInt32), iv rq, rv b1, iv 1, iv 0]) (argsL := [(.int wq)]) (rest := [(.int 1)]) (st0 := [(.int wq), (.ref b1), (.int 1)]) (by rw [hml]; rfl) (lenOf own_pd0 rfl) rfl (Nat.le_of_eq rfl) (hb hby at_406) (by first | decide | omega | (simp only [room_1]; omega) | (simp only [room_1]; done) | (dsimp only; omega) | (dsimp only; done)) (by first | decide | omega | (simp only [room_1]; omega) | (simp only [room_1]; done) | (dsimp only; omega) | (dsimp only; done)) (by first | decide | omega | (simp only [room_1]; omega) | (simp only [room_1]; done) | (dsimp only; omega) | (dsimp only; done)) (by first | decide | omega | (simp only [room_1]; omega) | (simp only [room_1]; done) | (dsimp only; omega) | (dsimp only; done)) ?_
      intro v24 T24 L24 X24 hQ24
      obtain ⟨r24, rfl, Nq24, gz24, ad24, hD24⟩ := hQ24
      have N24 := Fr.app N22 Nq24
      show own_Ends p e below s _ _ _ (own_F T24 m 409 #[iv i0, iv i1, iv i2, iv i3, iv i4, iv nq, iv bg, iv sq, iv hi, iv aq, iv wq, iv (i4 &&& (3 : Int32)), iv ((i4.toUInt32 >>> ((2 : Int32) &&& 31).toUInt32).toInt32), iv rq, rv b1, iv 1, iv 0] [(.int r24), (.int 1)])
      have zs24 := Nat.le_trans zs21 gz24
      have zz24 := Nat.le_trans zz21 gz24
      obtain ⟨rfl, -, hF24⟩ := hD24.resolve_right (fun z => z.2.1 ((hm wq).mpr (hln ▸ hi_)))
      have hE : ∀ v, own_mem 8 g v ↔ own_M aq sq nq.toInt.toNat wq v := fun v => by rw [hm v, hln]; exact ⟨Or.inl, fun z => z.elim id fun z => z ▸ hi_⟩
      show own_Ends p e below s _ _ _ (own_F T24 m 409 #[iv i0, iv i1, iv i2, iv i3, iv i4, iv nq, iv bg, iv sq, iv hi, iv aq, iv wq, iv (i4 &&& (3 : Int32)), iv ((i4.toUInt32 >>> ((2 : Int32) &&& 31).toUInt32).toInt32), iv rq, rv b1, iv 1, iv 0] [(.int 0), (.int 1)])
      refine own_g (own_F T24 m 411 #[iv i0, iv i1, iv i2, iv i3, iv i4, iv nq, iv bg, iv sq, iv hi, iv aq, iv wq, iv (i4 &&& (3 : Int32)), iv ((i4.toUInt32 >>> ((2 : Int32) &&& 31).toUInt32).toInt32), iv rq, rv b1, iv 1, iv 0] [(.int 0), (.int 0), (.int 1)]) (fun _ z_ => XS.iload X24.here hx rfl (hb hby at_409) rfl z_) ?_
      refine own_g (own_F T24 m 414 #[iv i0, iv i1, iv i2, iv i3, iv i4, iv nq, iv bg, iv sq, iv hi, iv aq, iv wq, iv (i4 &&& (3 : Int32)), iv ((i4.toUInt32 >>> ((2 : Int32) &&& 31).toUInt32).toInt32), iv rq, rv b1, iv 1, iv 0] [(.int 1)]) (fun _ z_ => XS.icmpNo X24.here hx rfl (hb hby at_411) rfl (teq (by decide : ((0 : Int32) = (0 : Int32)))).2 z_) ?_
      refine own_g (own_F T24 m 415 #[iv i0, iv i1, iv i2, iv i3, iv i4, iv nq, iv bg, iv sq, iv hi, iv aq, iv wq, iv (i4 &&& (3 : Int32)), iv ((i4.toUInt32 >>> ((2 : Int32) &&& 31).toUInt32).toInt32), iv rq, rv b1, iv 1, iv 0] [(.int 1), (.int 1)]) (fun _ z_ => XS.iconst X24.here hx rfl (hb hby at_414) z_) ?_
      refine own_g (own_F T24 m 419 #[iv i0, iv i1, iv i2, iv i3, iv i4, iv nq, iv bg, iv sq, iv hi, iv aq, iv wq, iv (i4 &&& (3 : Int32)), iv ((i4.toUInt32 >>> ((2 : Int32) &&& 31).toUInt32).toInt32), iv rq, rv b1, iv 1, iv 0] [(.int 1), (.int 1)]) (fun _ z_ => XS.goto X24.here hx rfl (pc0 := 415) (pc' := 419) rfl (hb hby at_415) (by decide) (by decide) z_) ?_
      refine own_g (own_F T24 m 420 #[iv i0, iv i1, iv i2, iv i3, iv i4, iv nq, iv bg, iv sq, iv hi, iv aq, iv wq, iv (i4 &&& (3 : Int32)), iv ((i4.toUInt32 >>> ((2 : Int32) &&& 31).toUInt32).toInt32), iv rq, rv b1, iv 1, iv 0] [(.int 1)]) (fun _ z_ => XS.iand X24.here hx rfl (hb hby at_419) rfl z_) ?_
      refine own_g (own_F T24 m 422 #[iv i0, iv i1, iv i2, iv i3, iv i4, iv nq, iv bg, iv sq, iv hi, iv aq, iv wq, iv (i4 &&& (3 : Int32)), iv ((i4.toUInt32 >>> ((2 : Int32) &&& 31).toUInt32).toInt32), iv rq, rv b1, iv 1, iv 0] []) (fun _ z_ => XS.istore X24.here hx rfl (hb hby at_420) rfl (l' := #[iv i0, iv i1, iv i2, iv i3, iv i4, iv nq, iv bg, iv sq, iv hi, iv aq, iv wq, iv (i4 &&& (3 : Int32)), iv ((i4.toUInt32 >>> ((2 : Int32) &&& 31).toUInt32).toInt32), iv rq, rv b1, iv 1, iv 0]) rfl z_) ?_
      exact JZ0 8 T24 _ _ (own_Smono X24 (by first | decide | omega | (simp only [room_1]; omega) | (simp only [room_1]; done) | (dsimp only; omega) | (dsimp only; done)) (by first | decide | omega | (simp only [room_1]; omega) | (simp only [room_1]; done) | (dsimp only; omega) | (dsimp only; done))) (rfl : T24.heap = T24.heap) N24 zs24 zz24 ad24 (Or.inl ⟨_, _, hF24, hE⟩) (by omega)
    ·
     show own_Ends p e below s _ _ _ (own_F T22 m 390 #[iv i0, iv i1, iv i2, iv i3, iv i4, iv nq, iv bg, iv sq, iv hi, iv aq, iv wq, iv (i4 &&& (3 : Int32)), iv ((i4.toUInt32 >>> ((2 : Int32) &&& 31).toUInt32).toInt32), iv rq, rv b1, iv 1, .unset] [(.int 0)])
     refine own_g (own_F T22 m 393 #[iv i0, iv i1, iv i2, iv i3, iv i4, iv nq, iv bg, iv sq, iv hi, iv aq, iv wq, iv (i4 &&& (3 : Int32)), iv ((i4.toUInt32 >>> ((2 : Int32) &&& 31).toUInt32).toInt32), iv rq, rv b1, iv 1, .unset] []) (fun _ z_ => XS.ifNo X22.here hx rfl (hb hby at_390) rfl ((if0 _ _).trans (teq (by decide : ((0 : Int32) = (0 : Int32)))).2) z_) ?_
     refine own_g (own_F T22 m 394 #[iv i0, iv i1, iv i2, iv i3, iv i4, iv nq, iv bg, iv sq, iv hi, iv aq, iv wq, iv (i4 &&& (3 : Int32)), iv ((i4.toUInt32 >>> ((2 : Int32) &&& 31).toUInt32).toInt32), iv rq, rv b1, iv 1, .unset] [(.int 1)]) (fun _ z_ => XS.iconst X22.here hx rfl (hb hby at_393) z_) ?_
     refine own_g (own_F T22 m 398 #[iv i0, iv i1, iv i2, iv i3, iv i4, iv nq, iv bg, iv sq, iv hi, iv aq, iv wq, iv (i4 &&& (3 : Int32)), iv ((i4.toUInt32 >>> ((2 : Int32) &&& 31).toUInt32).toInt32), iv rq, rv b1, iv 1, .unset] [(.int 1)]) (fun _ z_ => XS.goto X22.here hx rfl (pc0 := 394) (pc' := 398) rfl (hb hby at_394) (by decide) (by decide) z_) ?_
     refine own_g (own_F T22 m 400 #[iv i0, iv i1, iv i2, iv i3, iv i4, iv nq, iv bg, iv sq, iv hi, iv aq, iv wq, iv (i4 &&& (3 : Int32)), iv ((i4.toUInt32 >>> ((2 : Int32) &&& 31).toUInt32).toInt32), iv rq, rv b1, iv 1, iv 1] []) (fun _ z_ => XS.istore X22.here hx rfl (hb hby at_398) rfl (l' := #[iv i0, iv i1, iv i2, iv i3, iv i4, iv nq, iv bg, iv sq, iv hi, iv aq, iv wq, iv (i4 &&& (3 : Int32)), iv ((i4.toUInt32 >>> ((2 : Int32) &&& 31).toUInt32).toInt32), iv rq, rv b1, iv 1, iv 1]) rfl z_) ?_
     refine own_g (own_F T22 m 402 #[iv i0, iv i1, iv i2, iv i3, iv i4, iv nq, iv bg, iv sq, iv hi, iv aq, iv wq, iv (i4 &&& (3 : Int32)), iv ((i4.toUInt32 >>> ((2 : Int32) &&& 31).toUInt32).toInt32), iv rq, rv b1, iv 1, iv 1] [(.int 1)]) (fun _ z_ => XS.iload X22.here hx rfl (hb hby at_400) rfl z_) ?_
     refine own_g (own_F T22 m 404 #[iv i0, iv i1, iv i2, iv i3, iv i4, iv nq, iv bg, iv sq, iv hi, iv aq, iv wq, iv (i4 &&& (3 : Int32)), iv ((i4.toUInt32 >>> ((2 : Int32) &&& 31).toUInt32).toInt32), iv rq, rv b1, iv 1, iv 1] [(.ref b1), (.int 1)]) (fun _ z_ => XS.aload X22.here hx rfl (hb hby at_402) rfl rfl z_) ?_
     refine own_g (own_F T22 m 406 #[iv i0, iv i1, iv i2, iv i3, iv i4, iv nq, iv bg, iv sq, iv hi, iv aq, iv wq, iv (i4 &&& (3 : Int32)), iv ((i4.toUInt32 >>> ((2 : Int32) &&& 31).toUInt32).toInt32), iv rq, rv b1, iv 1, iv 1] [(.int wq), (.ref b1), (.int 1)]) (fun _ z_ => XS.iload X22.here hx rfl (hb hby at_404) rfl z_) ?_
     rcases Nat.lt_or_ge len 8 with h7 | h8
     ·
      refine own_callV (C := "com/example/kunci/kunci/NumberSet") (y := (⟨"com/example/kunci/kunci/NumberSet", "add", "(I)Z"⟩ : MethodName)) (b := b1) X22 hx hZ hown (own_w hw 14) (own_w hw 15) (own_w hw 17) (own_w hw 16) (own_w hw 18) (own_w hw 4) (by decide) hh22 hF.exa (hM := own_addf l Z a0 hw [] b1 len cap wq g hp21 n0 zs21 (by omega) hF f21_0) (W := 1) (pc := 406) (Ls := #[iv i0, iv i1, iv i2, iv i3, iv i4, iv nq, iv bg, iv sq, iv hi, iv aq, iv wq, iv (i4 &&& (3 : Int32)), iv ((i4.toUInt32 >>> ((2 : Int32) &&& 31).toUInt32).toInt32), iv rq, rv b1, iv 1, iv 1]) (argsL := [(.int wq)]) (rest := [(.int 1)]) (st0 := [(.int wq), (.ref b1), (.int 1)]) (by rw [hml]; rfl) (lenOf own_pd0 rfl) rfl (Nat.le_of_eq rfl) (hb hby at_406) (by first | decide | omega | (simp only [room_1]; omega) | (simp only [room_1]; done) | (dsimp only; omega) | (dsimp only; done)) (by first | decide | omega | (simp only [room_1]; omega) | (simp only [room_1]; done) | (dsimp only; omega) | (dsimp only; done)) (by first | decide | omega | (simp only [room_1]; omega) | (simp only [room_1]; done) | (dsimp only; omega) | (dsimp only; done)) (by first | decide | omega | (simp only [room_1]; omega) | (simp only [room_1]; done) | (dsimp only; omega) | (dsimp only; done)) ?_
      intro v25 T25 L25 X25 hQ25
      obtain ⟨r25, l25, k25, g25, rfl, hr25, Nq25, hF25, hm25, gz25, ad25⟩ := hQ25
      have N25 := Fr.app N22 Nq25
      show own_Ends p e below s _ _ _ (own_F T25 m 409 #[iv i0, iv i1, iv i2, iv i3, iv i4, iv nq, iv bg, iv sq, iv hi, iv aq, iv wq, iv (i4 &&& (3 : Int32)), iv ((i4.toUInt32 >>> ((2 : Int32) &&& 31).toUInt32).toInt32), iv rq, rv b1, iv 1, iv 1] [(.int r25), (.int 1)])
      have zs25 := Nat.le_trans zs21 gz25
      have zz25 := Nat.le_trans zz21 gz25
      obtain ⟨rfl, -, hl25⟩ := hr25.resolve_right (fun z => hi_ (hln ▸ (hm wq).mp z.2.1))
      have hE : ∀ v, own_mem l25 g25 v ↔ own_M aq sq nq.toInt.toNat wq v := fun v => by rw [hm25 v, hm v, hln]; rfl
      show own_Ends p e below s _ _ _ (own_F T25 m 409 #[iv i0, iv i1, iv i2, iv i3, iv i4, iv nq, iv bg, iv sq, iv hi, iv aq, iv wq, iv (i4 &&& (3 : Int32)), iv ((i4.toUInt32 >>> ((2 : Int32) &&& 31).toUInt32).toInt32), iv rq, rv b1, iv 1, iv 1] [(.int 1), (.int 1)])
      refine own_g (own_F T25 m 411 #[iv i0, iv i1, iv i2, iv i3, iv i4, iv nq, iv bg, iv sq, iv hi, iv aq, iv wq, iv (i4 &&& (3 : Int32)), iv ((i4.toUInt32 >>> ((2 : Int32) &&& 31).toUInt32).toInt32), iv rq, rv b1, iv 1, iv 1] [(.int 1), (.int 1), (.int 1)]) (fun _ z_ => XS.iload X25.here hx rfl (hb hby at_409) rfl z_) ?_
      refine own_g (own_F T25 m 414 #[iv i0, iv i1, iv i2, iv i3, iv i4, iv nq, iv bg, iv sq, iv hi, iv aq, iv wq, iv (i4 &&& (3 : Int32)), iv ((i4.toUInt32 >>> ((2 : Int32) &&& 31).toUInt32).toInt32), iv rq, rv b1, iv 1, iv 1] [(.int 1)]) (fun _ z_ => XS.icmpNo X25.here hx rfl (hb hby at_411) rfl (teq (by decide : ((1 : Int32) = (1 : Int32)))).2 z_) ?_
      refine own_g (own_F T25 m 415 #[iv i0, iv i1, iv i2, iv i3, iv i4, iv nq, iv bg, iv sq, iv hi, iv aq, iv wq, iv (i4 &&& (3 : Int32)), iv ((i4.toUInt32 >>> ((2 : Int32) &&& 31).toUInt32).toInt32), iv rq, rv b1, iv 1, iv 1] [(.int 1), (.int 1)]) (fun _ z_ => XS.iconst X25.here hx rfl (hb hby at_414) z_) ?_
      refine own_g (own_F T25 m 419 #[iv i0, iv i1, iv i2, iv i3, iv i4, iv nq, iv bg, iv sq, iv hi, iv aq, iv wq, iv (i4 &&& (3 : Int32)), iv ((i4.toUInt32 >>> ((2 : Int32) &&& 31).toUInt32).toInt32), iv rq, rv b1, iv 1, iv 1] [(.int 1), (.int 1)]) (fun _ z_ => XS.goto X25.here hx rfl (pc0 := 415) (pc' := 419) rfl (hb hby at_415) (by decide) (by decide) z_) ?_
      refine own_g (own_F T25 m 420 #[iv i0, iv i1, iv i2, iv i3, iv i4, iv nq, iv bg, iv sq, iv hi, iv aq, iv wq, iv (i4 &&& (3 : Int32)), iv ((i4.toUInt32 >>> ((2 : Int32) &&& 31).toUInt32).toInt32), iv rq, rv b1, iv 1, iv 1] [(.int 1)]) (fun _ z_ => XS.iand X25.here hx rfl (hb hby at_419) rfl z_) ?_
      refine own_g (own_F T25 m 422 #[iv i0, iv i1, iv i2, iv i3, iv i4, iv nq, iv bg, iv sq, iv hi, iv aq, iv wq, iv (i4 &&& (3 : Int32)), iv ((i4.toUInt32 >>> ((2 : Int32) &&& 31).toUInt32).toInt32), iv rq, rv b1, iv 1, iv 1] []) (fun _ z_ => XS.istore X25.here hx rfl (hb hby at_420) rfl (l' := #[iv i0, iv i1, iv i2, iv i3, iv i4, iv nq, iv bg, iv sq, iv hi, iv aq, iv wq, iv (i4 &&& (3 : Int32)), iv ((i4.toUInt32 >>> ((2 : Int32) &&& 31).toUInt32).toInt32), iv rq, rv b1, iv 1, iv 1]) rfl z_) ?_
      exact JZ1 l25 T25 _ _ (own_Smono X25 (by first | decide | omega | (simp only [room_1]; omega) | (simp only [room_1]; done) | (dsimp only; omega) | (dsimp only; done)) (by first | decide | omega | (simp only [room_1]; omega) | (simp only [room_1]; done) | (dsimp only; omega) | (dsimp only; done))) (rfl : T25.heap = T25.heap) N25 zs25 zz25 ad25 (Or.inl ⟨_, _, hF25, hE⟩) (by omega)
     ·
      obtain rfl : len = 8 := by omega
      obtain rfl := hF.cap8 rfl
      have hwr : 0 ≤ wq.toInt ∧ wq.toInt ≤ 1089535 := ⟨hwq, hw8 (by omega)⟩
      have ha9 := ha8 (by omega)
      have hgi : ∀ i, i < 8 → 0 ≤ (g i).toInt ∧ (g i).toInt ≤ 1089535 := fun i hi => by have := own_rr (by decide) hs ha ((hm (g i)).mp ⟨i, hi, rfl⟩); omega
      obtain ⟨k1, c1, hst1⟩ := own_stepX 1 ((g 0).toInt.toNat / 64 + 1)
      obtain ⟨k2, c2, hst2⟩ := own_stepX c1 ((g 1).toInt.toNat / 64 + 1)
      obtain ⟨k3, c3, hst3⟩ := own_stepX c2 ((g 2).toInt.toNat / 64 + 1)
      obtain ⟨k4, c4, hst4⟩ := own_stepX c3 ((g 3).toInt.toNat / 64 + 1)
      obtain ⟨k5, c5, hst5⟩ := own_stepX c4 ((g 4).toInt.toNat / 64 + 1)
      obtain ⟨k6, c6, hst6⟩ := own_stepX c5 ((g 5).toInt.toNat / 64 + 1)
      obtain ⟨k7, c7, hst7⟩ := own_stepX c6 ((g 6).toInt.toNat / 64 + 1)
      obtain ⟨k8, c8, hst8⟩ := own_stepX c7 ((g 7).toInt.toNat / 64 + 1)
      obtain ⟨k9, c9, hst9⟩ := own_stepX c8 ((wq).toInt.toNat / 64 + 1)
      have hs0_ : 1 ≤ 34048 := by decide
      obtain ⟨hb1, hs1_, -, -⟩ := own_stepB hst1 (by have := hgi 0 (by decide); omega) hs0_
      obtain ⟨hb2, hs2_, -, -⟩ := own_stepB hst2 (by have := hgi 1 (by decide); omega) hs1_
      obtain ⟨hb3, hs3_, -, -⟩ := own_stepB hst3 (by have := hgi 2 (by decide); omega) hs2_
      obtain ⟨hb4, hs4_, -, -⟩ := own_stepB hst4 (by have := hgi 3 (by decide); omega) hs3_
      obtain ⟨hb5, hs5_, -, -⟩ := own_stepB hst5 (by have := hgi 4 (by decide); omega) hs4_
      obtain ⟨hb6, hs6_, -, -⟩ := own_stepB hst6 (by have := hgi 5 (by decide); omega) hs5_
      obtain ⟨hb7, hs7_, -, -⟩ := own_stepB hst7 (by have := hgi 6 (by decide); omega) hs6_
      obtain ⟨hb8, hs8_, -, -⟩ := own_stepB hst8 (by have := hgi 7 (by decide); omega) hs7_
      obtain ⟨hb9, hs9_, -, -⟩ := own_stepB hst9 (by have := hwr; omega) hs8_
      refine own_callV (C := "com/example/kunci/kunci/NumberSet") (y := (⟨"com/example/kunci/kunci/NumberSet", "add", "(I)Z"⟩ : MethodName)) (b := b1) X22 hx hZ hown (own_w hw 14) (own_w hw 15) (own_w hw 17) (own_w hw 16) (own_w hw 18) (own_w hw 4) (by decide) hh22 hF.exa (hM := own_addc l Z a0 hw [] b1 wq g k1 k2 k3 k4 k5 k6 k7 k8 k9 c1 c2 c3 c4 c5 c6 c7 c8 c9 hp21 n0 zs21 hF hwr hgi hst1 hst2 hst3 hst4 hst5 hst6 hst7 hst8 hst9 f21_0) (W := 1) (pc := 406) (Ls := #[iv i0, iv i1, iv i2, iv i3, iv i4, iv nq, iv bg, iv sq, iv hi, iv aq, iv wq, iv (i4 &&& (3 : Int32)), iv ((i4.toUInt32 >>> ((2 : Int32) &&& 31).toUInt32).toInt32), iv rq, rv b1, iv 1, iv 1]) (argsL := [(.int wq)]) (rest := [(.int 1)]) (st0 := [(.int wq), (.ref b1), (.int 1)]) (by rw [hml]; rfl) (lenOf own_pd0 rfl) rfl (Nat.le_of_eq rfl) (hb hby at_406) (by first | decide | omega | (simp only [room_1]; omega) | (simp only [room_1]; done) | (dsimp only; omega) | (dsimp only; done)) (by first | decide | omega | (simp only [room_1]; omega) | (simp only [room_1]; done) | (dsimp only; omega) | (dsimp only; done)) (by first | decide | omega | (simp only [room_1]; omega) | (simp only [room_1]; done) | (dsimp only; omega) | (dsimp only; done)) (by first | decide | omega | (simp only [room_1]; omega) | (simp only [room_1]; done) | (dsimp only; omega) | (dsimp only; done)) ?_
      intro v26 T26 L26 X26 hQ26
      obtain ⟨r26, rfl, Nq26, gz26, ad26, hD26⟩ := hQ26
      have N26 := Fr.app N22 Nq26
      show own_Ends p e below s _ _ _ (own_F T26 m 409 #[iv i0, iv i1, iv i2, iv i3, iv i4, iv nq, iv bg, iv sq, iv hi, iv aq, iv wq, iv (i4 &&& (3 : Int32)), iv ((i4.toUInt32 >>> ((2 : Int32) &&& 31).toUInt32).toInt32), iv rq, rv b1, iv 1, iv 1] [(.int r26), (.int 1)])
      have zs26 := Nat.le_trans zs21 gz26
      have zz26 := Nat.le_trans zz21 gz26
      obtain ⟨rfl, -, Uq, hF26, hb_⟩ := hD26.resolve_left (fun z => hi_ (hln ▸ (hm wq).mp z.2.1))
      have hE : ∀ v : Int32, 0 ≤ v.toInt → (own_bt Uq v ↔ own_M aq sq nq.toInt.toNat wq v) := fun v hv => by rw [hb_ v hv, hm v, hln]; rfl
      show own_Ends p e below s _ _ _ (own_F T26 m 409 #[iv i0, iv i1, iv i2, iv i3, iv i4, iv nq, iv bg, iv sq, iv hi, iv aq, iv wq, iv (i4 &&& (3 : Int32)), iv ((i4.toUInt32 >>> ((2 : Int32) &&& 31).toUInt32).toInt32), iv rq, rv b1, iv 1, iv 1] [(.int 1), (.int 1)])
      refine own_g (own_F T26 m 411 #[iv i0, iv i1, iv i2, iv i3, iv i4, iv nq, iv bg, iv sq, iv hi, iv aq, iv wq, iv (i4 &&& (3 : Int32)), iv ((i4.toUInt32 >>> ((2 : Int32) &&& 31).toUInt32).toInt32), iv rq, rv b1, iv 1, iv 1] [(.int 1), (.int 1), (.int 1)]) (fun _ z_ => XS.iload X26.here hx rfl (hb hby at_409) rfl z_) ?_
      refine own_g (own_F T26 m 414 #[iv i0, iv i1, iv i2, iv i3, iv i4, iv nq, iv bg, iv sq, iv hi, iv aq, iv wq, iv (i4 &&& (3 : Int32)), iv ((i4.toUInt32 >>> ((2 : Int32) &&& 31).toUInt32).toInt32), iv rq, rv b1, iv 1, iv 1] [(.int 1)]) (fun _ z_ => XS.icmpNo X26.here hx rfl (hb hby at_411) rfl (teq (by decide : ((1 : Int32) = (1 : Int32)))).2 z_) ?_
      refine own_g (own_F T26 m 415 #[iv i0, iv i1, iv i2, iv i3, iv i4, iv nq, iv bg, iv sq, iv hi, iv aq, iv wq, iv (i4 &&& (3 : Int32)), iv ((i4.toUInt32 >>> ((2 : Int32) &&& 31).toUInt32).toInt32), iv rq, rv b1, iv 1, iv 1] [(.int 1), (.int 1)]) (fun _ z_ => XS.iconst X26.here hx rfl (hb hby at_414) z_) ?_
      refine own_g (own_F T26 m 419 #[iv i0, iv i1, iv i2, iv i3, iv i4, iv nq, iv bg, iv sq, iv hi, iv aq, iv wq, iv (i4 &&& (3 : Int32)), iv ((i4.toUInt32 >>> ((2 : Int32) &&& 31).toUInt32).toInt32), iv rq, rv b1, iv 1, iv 1] [(.int 1), (.int 1)]) (fun _ z_ => XS.goto X26.here hx rfl (pc0 := 415) (pc' := 419) rfl (hb hby at_415) (by decide) (by decide) z_) ?_
      refine own_g (own_F T26 m 420 #[iv i0, iv i1, iv i2, iv i3, iv i4, iv nq, iv bg, iv sq, iv hi, iv aq, iv wq, iv (i4 &&& (3 : Int32)), iv ((i4.toUInt32 >>> ((2 : Int32) &&& 31).toUInt32).toInt32), iv rq, rv b1, iv 1, iv 1] [(.int 1)]) (fun _ z_ => XS.iand X26.here hx rfl (hb hby at_419) rfl z_) ?_
      refine own_g (own_F T26 m 422 #[iv i0, iv i1, iv i2, iv i3, iv i4, iv nq, iv bg, iv sq, iv hi, iv aq, iv wq, iv (i4 &&& (3 : Int32)), iv ((i4.toUInt32 >>> ((2 : Int32) &&& 31).toUInt32).toInt32), iv rq, rv b1, iv 1, iv 1] []) (fun _ z_ => XS.istore X26.here hx rfl (hb hby at_420) rfl (l' := #[iv i0, iv i1, iv i2, iv i3, iv i4, iv nq, iv bg, iv sq, iv hi, iv aq, iv wq, iv (i4 &&& (3 : Int32)), iv ((i4.toUInt32 >>> ((2 : Int32) &&& 31).toUInt32).toInt32), iv rq, rv b1, iv 1, iv 1]) rfl z_) ?_
      exact JZ1 9 T26 _ _ (own_Smono X26 (by first | decide | omega | (simp only [room_1]; omega) | (simp only [room_1]; done) | (dsimp only; omega) | (dsimp only; done)) (by first | decide | omega | (simp only [room_1]; omega) | (simp only [room_1]; done) | (dsimp only; omega) | (dsimp only; done))) (rfl : T26.heap = T26.heap) N26 zs26 zz26 ad26 (Or.inr ⟨_, _, hF26, hE⟩) (by omega)
   have J8 : ∀ (len : Nat) (cap : Nat) (g : Nat → Int32) (T27 : State) (lc27 : List Loc) (hp27 : Heap) (X27 : Stand p l e room_1 s m #[(.int i0), (.int i1), (.int i2), (.int i3), (.int i4)] below meth c T27 lc27 10 67) (e27 : T27.heap = hp27) (N27 : Fr n0 lc27) (zs27 : n0 ≤ hp27.size) (zz27 : h0.size ≤ hp27.size) (f27_0 : Sta Z hp27 "java/util/BitSet" "$assertionsDisabled" "Z" (.int (1 : Int32))) (hF : own_few n0 Z hp27 b1 len cap g) (hl : len = min 8 nq.toInt.toNat) (hm : ∀ v, own_mem len g v ↔ own_run aq sq len v), own_Ends p e below s (fun v h L => v = some (.int 1) ∧ Fr n0 L) room_1.cells room_1.slots (own_F T27 m 354 #[iv i0, iv i1, iv i2, iv i3, iv i4, iv nq, iv bg, iv sq, iv hi, iv aq, iv wq, iv (i4 &&& (3 : Int32)), iv ((i4.toUInt32 >>> ((2 : Int32) &&& 31).toUInt32).toInt32), iv rq, rv b1, iv 1, .unset] []) := by
    intro len cap g T27 lc27 hp27 X27 e27 N27 zs27 zz27 f27_0 hF hl hm
    refine own_g (own_F T27 m 356 #[iv i0, iv i1, iv i2, iv i3, iv i4, iv nq, iv bg, iv sq, iv hi, iv aq, iv wq, iv (i4 &&& (3 : Int32)), iv ((i4.toUInt32 >>> ((2 : Int32) &&& 31).toUInt32).toInt32), iv rq, rv b1, iv 1, .unset] [(.int nq)]) (fun _ z_ => XS.iload X27.here hx rfl (hb hby at_354) rfl z_) ?_
    refine own_g (own_F T27 m 358 #[iv i0, iv i1, iv i2, iv i3, iv i4, iv nq, iv bg, iv sq, iv hi, iv aq, iv wq, iv (i4 &&& (3 : Int32)), iv ((i4.toUInt32 >>> ((2 : Int32) &&& 31).toUInt32).toInt32), iv rq, rv b1, iv 1, .unset] [(.int 8), (.int nq)]) (fun _ z_ => XS.bipush X27.here hx rfl (hb hby at_356) z_) ?_
    by_cases c358 : (8 : Int32) < nq
    · -- pc 358: (8 : Int32) < nq
     refine own_g (own_F T27 m 361 #[iv i0, iv i1, iv i2, iv i3, iv i4, iv nq, iv bg, iv sq, iv hi, iv aq, iv wq, iv (i4 &&& (3 : Int32)), iv ((i4.toUInt32 >>> ((2 : Int32) &&& 31).toUInt32).toInt32), iv rq, rv b1, iv 1, .unset] []) (fun _ z_ => XS.icmpNo X27.here hx rfl (hb hby at_358) rfl (tlt c358).2.2.2 z_) ?_
     refine own_g (own_F T27 m 363 #[iv i0, iv i1, iv i2, iv i3, iv i4, iv nq, iv bg, iv sq, iv hi, iv aq, iv wq, iv (i4 &&& (3 : Int32)), iv ((i4.toUInt32 >>> ((2 : Int32) &&& 31).toUInt32).toInt32), iv rq, rv b1, iv 1, .unset] [(.int 1)]) (fun _ z_ => XS.iload X27.here hx rfl (hb hby at_361) rfl z_) ?_
     refine own_g (own_F T27 m 365 #[iv i0, iv i1, iv i2, iv i3, iv i4, iv nq, iv bg, iv sq, iv hi, iv aq, iv wq, iv (i4 &&& (3 : Int32)), iv ((i4.toUInt32 >>> ((2 : Int32) &&& 31).toUInt32).toInt32), iv rq, rv b1, iv 1, .unset] [(.ref b1), (.int 1)]) (fun _ z_ => XS.aload X27.here hx rfl (hb hby at_363) rfl rfl z_) ?_
     refine own_g (own_F T27 m 367 #[iv i0, iv i1, iv i2, iv i3, iv i4, iv nq, iv bg, iv sq, iv hi, iv aq, iv wq, iv (i4 &&& (3 : Int32)), iv ((i4.toUInt32 >>> ((2 : Int32) &&& 31).toUInt32).toInt32), iv rq, rv b1, iv 1, .unset] [(.int aq), (.ref b1), (.int 1)]) (fun _ z_ => XS.iload X27.here hx rfl (hb hby at_365) rfl z_) ?_
     refine own_g (own_F T27 m 369 #[iv i0, iv i1, iv i2, iv i3, iv i4, iv nq, iv bg, iv sq, iv hi, iv aq, iv wq, iv (i4 &&& (3 : Int32)), iv ((i4.toUInt32 >>> ((2 : Int32) &&& 31).toUInt32).toInt32), iv rq, rv b1, iv 1, .unset] [(.int 8), (.int aq), (.ref b1), (.int 1)]) (fun _ z_ => XS.bipush X27.here hx rfl (hb hby at_367) z_) ?_
     refine own_g (own_F T27 m 371 #[iv i0, iv i1, iv i2, iv i3, iv i4, iv nq, iv bg, iv sq, iv hi, iv aq, iv wq, iv (i4 &&& (3 : Int32)), iv ((i4.toUInt32 >>> ((2 : Int32) &&& 31).toUInt32).toInt32), iv rq, rv b1, iv 1, .unset] [(.int sq), (.int 8), (.int aq), (.ref b1), (.int 1)]) (fun _ z_ => XS.iload X27.here hx rfl (hb hby at_369) rfl z_) ?_
     refine own_g (own_F T27 m 372 #[iv i0, iv i1, iv i2, iv i3, iv i4, iv nq, iv bg, iv sq, iv hi, iv aq, iv wq, iv (i4 &&& (3 : Int32)), iv ((i4.toUInt32 >>> ((2 : Int32) &&& 31).toUInt32).toInt32), iv rq, rv b1, iv 1, .unset] [(.int ((8 : Int32) * sq)), (.int aq), (.ref b1), (.int 1)]) (fun _ z_ => XS.imul X27.here hx rfl (hb hby at_371) rfl z_) ?_
     refine own_g (own_F T27 m 373 #[iv i0, iv i1, iv i2, iv i3, iv i4, iv nq, iv bg, iv sq, iv hi, iv aq, iv wq, iv (i4 &&& (3 : Int32)), iv ((i4.toUInt32 >>> ((2 : Int32) &&& 31).toUInt32).toInt32), iv rq, rv b1, iv 1, .unset] [(.int (aq + ((8 : Int32) * sq))), (.ref b1), (.int 1)]) (fun _ z_ => XS.iadd X27.here hx rfl (hb hby at_372) rfl z_) ?_
     have hni : 8 < nq.toInt.toNat := by rw [Int32.lt_iff_toInt_lt] at c358; simp only [Int32.reduceToInt] at c358; omega
     have hli : len = 8 := by have := hl; omega
     have hxx := (own_xk (c := (8 : Int32)) (k := 8) rfl (by decide) hs ha rfl)
     have hxl : ((aq + ((8 : Int32) * sq))).toInt = aq.toInt + ((len : Nat) : Int) * sq.toInt := by rw [hli]; exact hxx.1
     have hnm : ¬ own_mem len g (aq + ((8 : Int32) * sq)) := fun z => own_runN hxl hs.1 ((hm _).mp z)
     obtain rfl : len = 8 := hli
     obtain rfl := hF.cap8 rfl
     have ha9 := ha8 (by omega)
     have hgi : ∀ i, i < 8 → 0 ≤ (g i).toInt ∧ (g i).toInt ≤ 1089535 := fun i hi => by have := own_rr (by decide) hs ha ((hm (g i)).mp ⟨i, hi, rfl⟩); omega
     have hxr : 0 ≤ ((aq + ((8 : Int32) * sq))).toInt ∧ ((aq + ((8 : Int32) * sq))).toInt ≤ 1089535 := by omega
     obtain ⟨k1, c1, hst1⟩ := own_stepX 1 ((g 0).toInt.toNat / 64 + 1)
     obtain ⟨k2, c2, hst2⟩ := own_stepX c1 ((g 1).toInt.toNat / 64 + 1)
     obtain ⟨k3, c3, hst3⟩ := own_stepX c2 ((g 2).toInt.toNat / 64 + 1)
     obtain ⟨k4, c4, hst4⟩ := own_stepX c3 ((g 3).toInt.toNat / 64 + 1)
     obtain ⟨k5, c5, hst5⟩ := own_stepX c4 ((g 4).toInt.toNat / 64 + 1)
     obtain ⟨k6, c6, hst6⟩ := own_stepX c5 ((g 5).toInt.toNat / 64 + 1)
     obtain ⟨k7, c7, hst7⟩ := own_stepX c6 ((g 6).toInt.toNat / 64 + 1)
     obtain ⟨k8, c8, hst8⟩ := own_stepX c7 ((g 7).toInt.toNat / 64 + 1)
     obtain ⟨k9, c9, hst9⟩ := own_stepX c8 (((aq + ((8 : Int32) * sq))).toInt.toNat / 64 + 1)
     have hs0_ : 1 ≤ 34048 := by decide
     obtain ⟨hb1, hs1_, -, -⟩ := own_stepB hst1 (by have := hgi 0 (by decide); omega) hs0_
     obtain ⟨hb2, hs2_, -, -⟩ := own_stepB hst2 (by have := hgi 1 (by decide); omega) hs1_
     obtain ⟨hb3, hs3_, -, -⟩ := own_stepB hst3 (by have := hgi 2 (by decide); omega) hs2_
     obtain ⟨hb4, hs4_, -, -⟩ := own_stepB hst4 (by have := hgi 3 (by decide); omega) hs3_
     obtain ⟨hb5, hs5_, -, -⟩ := own_stepB hst5 (by have := hgi 4 (by decide); omega) hs4_
     obtain ⟨hb6, hs6_, -, -⟩ := own_stepB hst6 (by have := hgi 5 (by decide); omega) hs5_
     obtain ⟨hb7, hs7_, -, -⟩ := own_stepB hst7 (by have := hgi 6 (by decide); omega) hs6_
     obtain ⟨hb8, hs8_, -, -⟩ := own_stepB hst8 (by have := hgi 7 (by decide); omega) hs7_
     obtain ⟨hb9, hs9_, -, -⟩ := own_stepB hst9 (by have := hxr; omega) hs8_
     refine own_callV (C := "com/example/kunci/kunci/NumberSet") (y := (⟨"com/example/kunci/kunci/NumberSet", "add", "(I)Z"⟩ : MethodName)) (b := b1) X27 hx hZ hown (own_w hw 14) (own_w hw 15) (own_w hw 17) (own_w hw 16) (own_w hw 18) (own_w hw 4) (by decide) e27 hF.exa (hM := own_addc l Z a0 hw [] b1 (aq + ((8 : Int32) * sq)) g k1 k2 k3 k4 k5 k6 k7 k8 k9 c1 c2 c3 c4 c5 c6 c7 c8 c9 hp27 n0 zs27 hF hxr hgi hst1 hst2 hst3 hst4 hst5 hst6 hst7 hst8 hst9 f27_0) (W := 1) (pc := 373) (Ls := #[iv i0, iv i1, iv i2, iv i3, iv i4, iv nq, iv bg, iv sq, iv hi, iv aq, iv wq, iv (i4 &&& (3 : Int32)), iv ((i4.toUInt32 >>> ((2 : Int32) &&& 31).toUInt32).toInt32), iv rq, rv b1, iv 1, .unset]) (argsL := [(.int (aq + ((8 : Int32) * sq)))]) (rest := [(.int 1)]) (st0 := [(.int (aq + ((8 : Int32) * sq))), (.ref b1), (.int 1)]) (by rw [hml]; rfl) (lenOf own_pd0 rfl) rfl (Nat.le_of_eq rfl) (hb hby at_373) (by first | decide | omega | (simp only [room_1]; omega) | (simp only [room_1]; done) | (dsimp only; omega) | (dsimp only; done)) (by first | decide | omega | (simp only [room_1]; omega) | (simp only [room_1]; done) | (dsimp only; omega) | (dsimp only; done)) (by first | decide | omega | (simp only [room_1]; omega) | (simp only [room_1]; done) | (dsimp only; omega) | (dsimp only; done)) (by first | decide | omega | (simp only [room_1]; omega) | (simp only [room_1]; done) | (dsimp only; omega) | (dsimp only; done)) ?_
     intro v28 T28 L28 X28 hQ28
     obtain ⟨r28, rfl, Nq28, gz28, ad28, hD28⟩ := hQ28
     have N28 := Fr.app N27 Nq28
     show own_Ends p e below s _ _ _ (own_F T28 m 376 #[iv i0, iv i1, iv i2, iv i3, iv i4, iv nq, iv bg, iv sq, iv hi, iv aq, iv wq, iv (i4 &&& (3 : Int32)), iv ((i4.toUInt32 >>> ((2 : Int32) &&& 31).toUInt32).toInt32), iv rq, rv b1, iv 1, .unset] [(.int r28), (.int 1)])
     have zs28 := Nat.le_trans zs27 gz28
     have zz28 := Nat.le_trans zz27 gz28
     obtain ⟨rfl, -, Uq, hF28, hb_⟩ := hD28.resolve_left (fun z => hnm z.2.1)
     have hE : ∀ v : Int32, 0 ≤ v.toInt → (own_bt Uq v ↔ own_run aq sq 9 v) := fun v hv => by rw [hb_ v hv, hm v, ← own_runS hxl v]
     show own_Ends p e below s _ _ _ (own_F T28 m 376 #[iv i0, iv i1, iv i2, iv i3, iv i4, iv nq, iv bg, iv sq, iv hi, iv aq, iv wq, iv (i4 &&& (3 : Int32)), iv ((i4.toUInt32 >>> ((2 : Int32) &&& 31).toUInt32).toInt32), iv rq, rv b1, iv 1, .unset] [(.int 1), (.int 1)])
     refine own_g (own_F T28 m 377 #[iv i0, iv i1, iv i2, iv i3, iv i4, iv nq, iv bg, iv sq, iv hi, iv aq, iv wq, iv (i4 &&& (3 : Int32)), iv ((i4.toUInt32 >>> ((2 : Int32) &&& 31).toUInt32).toInt32), iv rq, rv b1, iv 1, .unset] [(.int 1)]) (fun _ z_ => XS.iand X28.here hx rfl (hb hby at_376) rfl z_) ?_
     refine own_g (own_F T28 m 379 #[iv i0, iv i1, iv i2, iv i3, iv i4, iv nq, iv bg, iv sq, iv hi, iv aq, iv wq, iv (i4 &&& (3 : Int32)), iv ((i4.toUInt32 >>> ((2 : Int32) &&& 31).toUInt32).toInt32), iv rq, rv b1, iv 1, .unset] []) (fun _ z_ => XS.istore X28.here hx rfl (hb hby at_377) rfl (l' := #[iv i0, iv i1, iv i2, iv i3, iv i4, iv nq, iv bg, iv sq, iv hi, iv aq, iv wq, iv (i4 &&& (3 : Int32)), iv ((i4.toUInt32 >>> ((2 : Int32) &&& 31).toUInt32).toInt32), iv rq, rv b1, iv 1, .unset]) rfl z_) ?_
     exact J9b _ c9 Uq T28 _ _ (own_Smono X28 (by first | decide | omega | (simp only [room_1]; omega) | (simp only [room_1]; done) | (dsimp only; omega) | (dsimp only; done)) (Nat.le_refl _)) (rfl : T28.heap = T28.heap) N28 zs28 zz28 ad28 hF28 hE hs9_ (by first | omega | (dsimp only; omega)) (by omega)
    · -- pc 358: not (8 : Int32) < nq
     refine own_g (own_F T27 m 379 #[iv i0, iv i1, iv i2, iv i3, iv i4, iv nq, iv bg, iv sq, iv hi, iv aq, iv wq, iv (i4 &&& (3 : Int32)), iv ((i4.toUInt32 >>> ((2 : Int32) &&& 31).toUInt32).toInt32), iv rq, rv b1, iv 1, .unset] []) (fun _ z_ => XS.icmpYes X27.here hx rfl (pc0 := 358) (pc' := 379) rfl (hb hby at_358) rfl (flt c358).2.2.2 (by decide) (by decide) z_) ?_
     have hno : len = min 9 nq.toInt.toNat := by have := c358; rw [Int32.lt_iff_toInt_lt] at this; simp only [Int32.reduceToInt] at this; omega
     exact J9 len cap g T27 _ _ (own_Smono X27 (by first | decide | omega | (simp only [room_1]; omega) | (simp only [room_1]; done) | (dsimp only; omega) | (dsimp only; done)) (by first | decide | omega | (simp only [room_1]; omega) | (simp only [room_1]; done) | (dsimp only; omega) | (dsimp only; done))) e27 N27 zs27 zz27 f27_0 hF hno hm (by omega)
   have J7 : ∀ (len : Nat) (cap : Nat) (g : Nat → Int32) (T29 : State) (lc29 : List Loc) (hp29 : Heap) (X29 : Stand p l e room_1 s m #[(.int i0), (.int i1), (.int i2), (.int i3), (.int i4)] below meth c T29 lc29 9 59) (e29 : T29.heap = hp29) (N29 : Fr n0 lc29) (zs29 : n0 ≤ hp29.size) (zz29 : h0.size ≤ hp29.size) (f29_0 : Sta Z hp29 "java/util/BitSet" "$assertionsDisabled" "Z" (.int (1 : Int32))) (hF : own_few n0 Z hp29 b1 len cap g) (hl : len = min 7 nq.toInt.toNat) (hm : ∀ v, own_mem len g v ↔ own_run aq sq len v), own_Ends p e below s (fun v h L => v = some (.int 1) ∧ Fr n0 L) room_1.cells room_1.slots (own_F T29 m 329 #[iv i0, iv i1, iv i2, iv i3, iv i4, iv nq, iv bg, iv sq, iv hi, iv aq, iv wq, iv (i4 &&& (3 : Int32)), iv ((i4.toUInt32 >>> ((2 : Int32) &&& 31).toUInt32).toInt32), iv rq, rv b1, iv 1, .unset] []) := by
    intro len cap g T29 lc29 hp29 X29 e29 N29 zs29 zz29 f29_0 hF hl hm
    refine own_g (own_F T29 m 331 #[iv i0, iv i1, iv i2, iv i3, iv i4, iv nq, iv bg, iv sq, iv hi, iv aq, iv wq, iv (i4 &&& (3 : Int32)), iv ((i4.toUInt32 >>> ((2 : Int32) &&& 31).toUInt32).toInt32), iv rq, rv b1, iv 1, .unset] [(.int nq)]) (fun _ z_ => XS.iload X29.here hx rfl (hb hby at_329) rfl z_) ?_
    refine own_g (own_F T29 m 333 #[iv i0, iv i1, iv i2, iv i3, iv i4, iv nq, iv bg, iv sq, iv hi, iv aq, iv wq, iv (i4 &&& (3 : Int32)), iv ((i4.toUInt32 >>> ((2 : Int32) &&& 31).toUInt32).toInt32), iv rq, rv b1, iv 1, .unset] [(.int 7), (.int nq)]) (fun _ z_ => XS.bipush X29.here hx rfl (hb hby at_331) z_) ?_
    by_cases c333 : (7 : Int32) < nq
    · -- pc 333: (7 : Int32) < nq
     refine own_g (own_F T29 m 336 #[iv i0, iv i1, iv i2, iv i3, iv i4, iv nq, iv bg, iv sq, iv hi, iv aq, iv wq, iv (i4 &&& (3 : Int32)), iv ((i4.toUInt32 >>> ((2 : Int32) &&& 31).toUInt32).toInt32), iv rq, rv b1, iv 1, .unset] []) (fun _ z_ => XS.icmpNo X29.here hx rfl (hb hby at_333) rfl (tlt c333).2.2.2 z_) ?_
     refine own_g (own_F T29 m 338 #[iv i0, iv i1, iv i2, iv i3, iv i4, iv nq, iv bg, iv sq, iv hi, iv aq, iv wq, iv (i4 &&& (3 : Int32)), iv ((i4.toUInt32 >>> ((2 : Int32) &&& 31).toUInt32).toInt32), iv rq, rv b1, iv 1, .unset] [(.int 1)]) (fun _ z_ => XS.iload X29.here hx rfl (hb hby at_336) rfl z_) ?_
     refine own_g (own_F T29 m 340 #[iv i0, iv i1, iv i2, iv i3, iv i4, iv nq, iv bg, iv sq, iv hi, iv aq, iv wq, iv (i4 &&& (3 : Int32)), iv ((i4.toUInt32 >>> ((2 : Int32) &&& 31).toUInt32).toInt32), iv rq, rv b1, iv 1, .unset] [(.ref b1), (.int 1)]) (fun _ z_ => XS.aload X29.here hx rfl (hb hby at_338) rfl rfl z_) ?_
     refine own_g (own_F T29 m 342 #[iv i0, iv i1, iv i2, iv i3, iv i4, iv nq, iv bg, iv sq, iv hi, iv aq, iv wq, iv (i4 &&& (3 : Int32)), iv ((i4.toUInt32 >>> ((2 : Int32) &&& 31).toUInt32).toInt32), iv rq, rv b1, iv 1, .unset] [(.int aq), (.ref b1), (.int 1)]) (fun _ z_ => XS.iload X29.here hx rfl (hb hby at_340) rfl z_) ?_
     refine own_g (own_F T29 m 344 #[iv i0, iv i1, iv i2, iv i3, iv i4, iv nq, iv bg, iv sq, iv hi, iv aq, iv wq, iv (i4 &&& (3 : Int32)), iv ((i4.toUInt32 >>> ((2 : Int32) &&& 31).toUInt32).toInt32), iv rq, rv b1, iv 1, .unset] [(.int 7), (.int aq), (.ref b1), (.int 1)]) (fun _ z_ => XS.bipush X29.here hx rfl (hb hby at_342) z_) ?_
     refine own_g (own_F T29 m 346 #[iv i0, iv i1, iv i2, iv i3, iv i4, iv nq, iv bg, iv sq, iv hi, iv aq, iv wq, iv (i4 &&& (3 : Int32)), iv ((i4.toUInt32 >>> ((2 : Int32) &&& 31).toUInt32).toInt32), iv rq, rv b1, iv 1, .unset] [(.int sq), (.int 7), (.int aq), (.ref b1), (.int 1)]) (fun _ z_ => XS.iload X29.here hx rfl (hb hby at_344) rfl z_) ?_
     refine own_g (own_F T29 m 347 #[iv i0, iv i1, iv i2, iv i3, iv i4, iv nq, iv bg, iv sq, iv hi, iv aq, iv wq, iv (i4 &&& (3 : Int32)), iv ((i4.toUInt32 >>> ((2 : Int32) &&& 31).toUInt32).toInt32), iv rq, rv b1, iv 1, .unset] [(.int ((7 : Int32) * sq)), (.int aq), (.ref b1), (.int 1)]) (fun _ z_ => XS.imul X29.here hx rfl (hb hby at_346) rfl z_) ?_
     refine own_g (own_F T29 m 348 #[iv i0, iv i1, iv i2, iv i3, iv i4, iv nq, iv bg, iv sq, iv hi, iv aq, iv wq, iv (i4 &&& (3 : Int32)), iv ((i4.toUInt32 >>> ((2 : Int32) &&& 31).toUInt32).toInt32), iv rq, rv b1, iv 1, .unset] [(.int (aq + ((7 : Int32) * sq))), (.ref b1), (.int 1)]) (fun _ z_ => XS.iadd X29.here hx rfl (hb hby at_347) rfl z_) ?_
     have hni : 7 < nq.toInt.toNat := by rw [Int32.lt_iff_toInt_lt] at c333; simp only [Int32.reduceToInt] at c333; omega
     have hli : len = 7 := by have := hl; omega
     have hxx := (own_xk (c := (7 : Int32)) (k := 7) rfl (by decide) hs ha rfl)
     have hxl : ((aq + ((7 : Int32) * sq))).toInt = aq.toInt + ((len : Nat) : Int) * sq.toInt := by rw [hli]; exact hxx.1
     have hnm : ¬ own_mem len g (aq + ((7 : Int32) * sq)) := fun z => own_runN hxl hs.1 ((hm _).mp z)
     refine own_callV (C := "com/example/kunci/kunci/NumberSet") (y := (⟨"com/example/kunci/kunci/NumberSet", "add", "(I)Z"⟩ : MethodName)) (b := b1) X29 hx hZ hown (own_w hw 14) (own_w hw 15) (own_w hw 17) (own_w hw 16) (own_w hw 18) (own_w hw 4) (by decide) e29 hF.exa (hM := own_addf l Z a0 hw [] b1 len cap (aq + ((7 : Int32) * sq)) g hp29 n0 zs29 (by omega) hF f29_0) (W := 1) (pc := 348) (Ls := #[iv i0, iv i1, iv i2, iv i3, iv i4, iv nq, iv bg, iv sq, iv hi, iv aq, iv wq, iv (i4 &&& (3 : Int32)), iv ((i4.toUInt32 >>> ((2 : Int32) &&& 31).toUInt32).toInt32), iv rq, rv b1, iv 1, .unset]) (argsL := [(.int (aq + ((7 : Int32) * sq)))]) (rest := [(.int 1)]) (st0 := [(.int (aq + ((7 : Int32) * sq))), (.ref b1), (.int 1)]) (by rw [hml]; rfl) (lenOf own_pd0 rfl) rfl (Nat.le_of_eq rfl) (hb hby at_348) (by first | decide | omega | (simp only [room_1]; omega) | (simp only [room_1]; done) | (dsimp only; omega) | (dsimp only; done)) (by first | decide | omega | (simp only [room_1]; omega) | (simp only [room_1]; done) | (dsimp only; omega) | (dsimp only; done)) (by first | decide | omega | (simp only [room_1]; omega) | (simp only [room_1]; done) | (dsimp only; omega) | (dsimp only; done)) (by first | decide | omega | (simp only [room_1]; omega) | (simp only [room_1]; done) | (dsimp only; omega) | (dsimp only; done)) ?_
     intro v30 T30 L30 X30 hQ30
     obtain ⟨r30, l30, k30, g30, rfl, hr30, Nq30, hF30, hm30, gz30, ad30⟩ := hQ30
     have N30 := Fr.app N29 Nq30
     show own_Ends p e below s _ _ _ (own_F T30 m 351 #[iv i0, iv i1, iv i2, iv i3, iv i4, iv nq, iv bg, iv sq, iv hi, iv aq, iv wq, iv (i4 &&& (3 : Int32)), iv ((i4.toUInt32 >>> ((2 : Int32) &&& 31).toUInt32).toInt32), iv rq, rv b1, iv 1, .unset] [(.int r30), (.int 1)])
     have zs30 := Nat.le_trans zs29 gz30
     have zz30 := Nat.le_trans zz29 gz30
     obtain ⟨rfl, -, hl30⟩ := hr30.resolve_right (fun z => hnm z.2.1)
     have hn30 : ∀ v, own_mem l30 g30 v ↔ own_run aq sq l30 v := fun v => by rw [hm30 v, hm v, hl30, own_runS hxl v]
     show own_Ends p e below s _ _ _ (own_F T30 m 351 #[iv i0, iv i1, iv i2, iv i3, iv i4, iv nq, iv bg, iv sq, iv hi, iv aq, iv wq, iv (i4 &&& (3 : Int32)), iv ((i4.toUInt32 >>> ((2 : Int32) &&& 31).toUInt32).toInt32), iv rq, rv b1, iv 1, .unset] [(.int 1), (.int 1)])
     refine own_g (own_F T30 m 352 #[iv i0, iv i1, iv i2, iv i3, iv i4, iv nq, iv bg, iv sq, iv hi, iv aq, iv wq, iv (i4 &&& (3 : Int32)), iv ((i4.toUInt32 >>> ((2 : Int32) &&& 31).toUInt32).toInt32), iv rq, rv b1, iv 1, .unset] [(.int 1)]) (fun _ z_ => XS.iand X30.here hx rfl (hb hby at_351) rfl z_) ?_
     refine own_g (own_F T30 m 354 #[iv i0, iv i1, iv i2, iv i3, iv i4, iv nq, iv bg, iv sq, iv hi, iv aq, iv wq, iv (i4 &&& (3 : Int32)), iv ((i4.toUInt32 >>> ((2 : Int32) &&& 31).toUInt32).toInt32), iv rq, rv b1, iv 1, .unset] []) (fun _ z_ => XS.istore X30.here hx rfl (hb hby at_352) rfl (l' := #[iv i0, iv i1, iv i2, iv i3, iv i4, iv nq, iv bg, iv sq, iv hi, iv aq, iv wq, iv (i4 &&& (3 : Int32)), iv ((i4.toUInt32 >>> ((2 : Int32) &&& 31).toUInt32).toInt32), iv rq, rv b1, iv 1, .unset]) rfl z_) ?_
     exact J8 l30 k30 g30 T30 _ _ (own_Smono X30 (by first | decide | omega | (simp only [room_1]; omega) | (simp only [room_1]; done) | (dsimp only; omega) | (dsimp only; done)) (by first | decide | omega | (simp only [room_1]; omega) | (simp only [room_1]; done) | (dsimp only; omega) | (dsimp only; done))) (rfl : T30.heap = T30.heap) N30 zs30 zz30 ad30 hF30 (by omega) hn30
    · -- pc 333: not (7 : Int32) < nq
     refine own_g (own_F T29 m 354 #[iv i0, iv i1, iv i2, iv i3, iv i4, iv nq, iv bg, iv sq, iv hi, iv aq, iv wq, iv (i4 &&& (3 : Int32)), iv ((i4.toUInt32 >>> ((2 : Int32) &&& 31).toUInt32).toInt32), iv rq, rv b1, iv 1, .unset] []) (fun _ z_ => XS.icmpYes X29.here hx rfl (pc0 := 333) (pc' := 354) rfl (hb hby at_333) rfl (flt c333).2.2.2 (by decide) (by decide) z_) ?_
     have hno : len = min 8 nq.toInt.toNat := by have := c333; rw [Int32.lt_iff_toInt_lt] at this; simp only [Int32.reduceToInt] at this; omega
     exact J8 len cap g T29 _ _ (own_Smono X29 (by first | decide | omega | (simp only [room_1]; omega) | (simp only [room_1]; done) | (dsimp only; omega) | (dsimp only; done)) (by first | decide | omega | (simp only [room_1]; omega) | (simp only [room_1]; done) | (dsimp only; omega) | (dsimp only; done))) e29 N29 zs29 zz29 f29_0 hF hno hm
   have J6 : ∀ (len : Nat) (cap : Nat) (g : Nat → Int32) (T31 : State) (lc31 : List Loc) (hp31 : Heap) (X31 : Stand p l e room_1 s m #[(.int i0), (.int i1), (.int i2), (.int i3), (.int i4)] below meth c T31 lc31 8 51) (e31 : T31.heap = hp31) (N31 : Fr n0 lc31) (zs31 : n0 ≤ hp31.size) (zz31 : h0.size ≤ hp31.size) (f31_0 : Sta Z hp31 "java/util/BitSet" "$assertionsDisabled" "Z" (.int (1 : Int32))) (hF : own_few n0 Z hp31 b1 len cap g) (hl : len = min 6 nq.toInt.toNat) (hm : ∀ v, own_mem len g v ↔ own_run aq sq len v), own_Ends p e below s (fun v h L => v = some (.int 1) ∧ Fr n0 L) room_1.cells room_1.slots (own_F T31 m 304 #[iv i0, iv i1, iv i2, iv i3, iv i4, iv nq, iv bg, iv sq, iv hi, iv aq, iv wq, iv (i4 &&& (3 : Int32)), iv ((i4.toUInt32 >>> ((2 : Int32) &&& 31).toUInt32).toInt32), iv rq, rv b1, iv 1, .unset] []) := by
    intro len cap g T31 lc31 hp31 X31 e31 N31 zs31 zz31 f31_0 hF hl hm
    refine own_g (own_F T31 m 306 #[iv i0, iv i1, iv i2, iv i3, iv i4, iv nq, iv bg, iv sq, iv hi, iv aq, iv wq, iv (i4 &&& (3 : Int32)), iv ((i4.toUInt32 >>> ((2 : Int32) &&& 31).toUInt32).toInt32), iv rq, rv b1, iv 1, .unset] [(.int nq)]) (fun _ z_ => XS.iload X31.here hx rfl (hb hby at_304) rfl z_) ?_
    refine own_g (own_F T31 m 308 #[iv i0, iv i1, iv i2, iv i3, iv i4, iv nq, iv bg, iv sq, iv hi, iv aq, iv wq, iv (i4 &&& (3 : Int32)), iv ((i4.toUInt32 >>> ((2 : Int32) &&& 31).toUInt32).toInt32), iv rq, rv b1, iv 1, .unset] [(.int 6), (.int nq)]) (fun _ z_ => XS.bipush X31.here hx rfl (hb hby at_306) z_) ?_
    by_cases c308 : (6 : Int32) < nq
    · -- pc 308: (6 : Int32) < nq
     refine own_g (own_F T31 m 311 #[iv i0, iv i1, iv i2, iv i3, iv i4, iv nq, iv bg, iv sq, iv hi, iv aq, iv wq, iv (i4 &&& (3 : Int32)), iv ((i4.toUInt32 >>> ((2 : Int32) &&& 31).toUInt32).toInt32), iv rq, rv b1, iv 1, .unset] []) (fun _ z_ => XS.icmpNo X31.here hx rfl (hb hby at_308) rfl (tlt c308).2.2.2 z_) ?_
     refine own_g (own_F T31 m 313 #[iv i0, iv i1, iv i2, iv i3, iv i4, iv nq, iv bg, iv sq, iv hi, iv aq, iv wq, iv (i4 &&& (3 : Int32)), iv ((i4.toUInt32 >>> ((2 : Int32) &&& 31).toUInt32).toInt32), iv rq, rv b1, iv 1, .unset] [(.int 1)]) (fun _ z_ => XS.iload X31.here hx rfl (hb hby at_311) rfl z_) ?_
     refine own_g (own_F T31 m 315 #[iv i0, iv i1, iv i2, iv i3, iv i4, iv nq, iv bg, iv sq, iv hi, iv aq, iv wq, iv (i4 &&& (3 : Int32)), iv ((i4.toUInt32 >>> ((2 : Int32) &&& 31).toUInt32).toInt32), iv rq, rv b1, iv 1, .unset] [(.ref b1), (.int 1)]) (fun _ z_ => XS.aload X31.here hx rfl (hb hby at_313) rfl rfl z_) ?_
     refine own_g (own_F T31 m 317 #[iv i0, iv i1, iv i2, iv i3, iv i4, iv nq, iv bg, iv sq, iv hi, iv aq, iv wq, iv (i4 &&& (3 : Int32)), iv ((i4.toUInt32 >>> ((2 : Int32) &&& 31).toUInt32).toInt32), iv rq, rv b1, iv 1, .unset] [(.int aq), (.ref b1), (.int 1)]) (fun _ z_ => XS.iload X31.here hx rfl (hb hby at_315) rfl z_) ?_
     refine own_g (own_F T31 m 319 #[iv i0, iv i1, iv i2, iv i3, iv i4, iv nq, iv bg, iv sq, iv hi, iv aq, iv wq, iv (i4 &&& (3 : Int32)), iv ((i4.toUInt32 >>> ((2 : Int32) &&& 31).toUInt32).toInt32), iv rq, rv b1, iv 1, .unset] [(.int 6), (.int aq), (.ref b1), (.int 1)]) (fun _ z_ => XS.bipush X31.here hx rfl (hb hby at_317) z_) ?_
     refine own_g (own_F T31 m 321 #[iv i0, iv i1, iv i2, iv i3, iv i4, iv nq, iv bg, iv sq, iv hi, iv aq, iv wq, iv (i4 &&& (3 : Int32)), iv ((i4.toUInt32 >>> ((2 : Int32) &&& 31).toUInt32).toInt32), iv rq, rv b1, iv 1, .unset] [(.int sq), (.int 6), (.int aq), (.ref b1), (.int 1)]) (fun _ z_ => XS.iload X31.here hx rfl (hb hby at_319) rfl z_) ?_
     refine own_g (own_F T31 m 322 #[iv i0, iv i1, iv i2, iv i3, iv i4, iv nq, iv bg, iv sq, iv hi, iv aq, iv wq, iv (i4 &&& (3 : Int32)), iv ((i4.toUInt32 >>> ((2 : Int32) &&& 31).toUInt32).toInt32), iv rq, rv b1, iv 1, .unset] [(.int ((6 : Int32) * sq)), (.int aq), (.ref b1), (.int 1)]) (fun _ z_ => XS.imul X31.here hx rfl (hb hby at_321) rfl z_) ?_
     refine own_g (own_F T31 m 323 #[iv i0, iv i1, iv i2, iv i3, iv i4, iv nq, iv bg, iv sq, iv hi, iv aq, iv wq, iv (i4 &&& (3 : Int32)), iv ((i4.toUInt32 >>> ((2 : Int32) &&& 31).toUInt32).toInt32), iv rq, rv b1, iv 1, .unset] [(.int (aq + ((6 : Int32) * sq))), (.ref b1), (.int 1)]) (fun _ z_ => XS.iadd X31.here hx rfl (hb hby at_322) rfl z_) ?_
     have hni : 6 < nq.toInt.toNat := by rw [Int32.lt_iff_toInt_lt] at c308; simp only [Int32.reduceToInt] at c308; omega
     have hli : len = 6 := by have := hl; omega
     have hxx := (own_xk (c := (6 : Int32)) (k := 6) rfl (by decide) hs ha rfl)
     have hxl : ((aq + ((6 : Int32) * sq))).toInt = aq.toInt + ((len : Nat) : Int) * sq.toInt := by rw [hli]; exact hxx.1
     have hnm : ¬ own_mem len g (aq + ((6 : Int32) * sq)) := fun z => own_runN hxl hs.1 ((hm _).mp z)
     refine own_callV (C := "com/example/kunci/kunci/NumberSet") (y := (⟨"com/example/kunci/kunci/NumberSet", "add", "(I)Z"⟩ : MethodName)) (b := b1) X31 hx hZ hown (own_w hw 14) (own_w hw 15) (own_w hw 17) (own_w hw 16) (own_w hw 18) (own_w hw 4) (by decide) e31 hF.exa (hM := own_addf l Z a0 hw [] b1 len cap (aq + ((6 : Int32) * sq)) g hp31 n0 zs31 (by omega) hF f31_0) (W := 1) (pc := 323) (Ls := #[iv i0, iv i1, iv i2, iv i3, iv i4, iv nq, iv bg, iv sq, iv hi, iv aq, iv wq, iv (i4 &&& (3 : Int32)), iv ((i4.toUInt32 >>> ((2 : Int32) &&& 31).toUInt32).toInt32), iv rq, rv b1, iv 1, .unset]) (argsL := [(.int (aq + ((6 : Int32) * sq)))]) (rest := [(.int 1)]) (st0 := [(.int (aq + ((6 : Int32) * sq))), (.ref b1), (.int 1)]) (by rw [hml]; rfl) (lenOf own_pd0 rfl) rfl (Nat.le_of_eq rfl) (hb hby at_323) (by first | decide | omega | (simp only [room_1]; omega) | (simp only [room_1]; done) | (dsimp only; omega) | (dsimp only; done)) (by first | decide | omega | (simp only [room_1]; omega) | (simp only [room_1]; done) | (dsimp only; omega) | (dsimp only; done)) (by first | decide | omega | (simp only [room_1]; omega) | (simp only [room_1]; done) | (dsimp only; omega) | (dsimp only; done)) (by first | decide | omega | (simp only [room_1]; omega) | (simp only [room_1]; done) | (dsimp only; omega) | (dsimp only; done)) ?_
     intro v32 T32 L32 X32 hQ32
     obtain ⟨r32, l32, k32, g32, rfl, hr32, Nq32, hF32, hm32, gz32, ad32⟩ := hQ32
     have N32 := Fr.app N31 Nq32
     show own_Ends p e below s _ _ _ (own_F T32 m 326 #[iv i0, iv i1, iv i2, iv i3, iv i4, iv nq, iv bg, iv sq, iv hi, iv aq, iv wq, iv (i4 &&& (3 : Int32)), iv ((i4.toUInt32 >>> ((2 : Int32) &&& 31).toUInt32).toInt32), iv rq, rv b1, iv 1, .unset] [(.int r32), (.int 1)])
     have zs32 := Nat.le_trans zs31 gz32
     have zz32 := Nat.le_trans zz31 gz32
     obtain ⟨rfl, -, hl32⟩ := hr32.resolve_right (fun z => hnm z.2.1)
     have hn32 : ∀ v, own_mem l32 g32 v ↔ own_run aq sq l32 v := fun v => by rw [hm32 v, hm v, hl32, own_runS hxl v]
     show own_Ends p e below s _ _ _ (own_F T32 m 326 #[iv i0, iv i1, iv i2, iv i3, iv i4, iv nq, iv bg, iv sq, iv hi, iv aq, iv wq, iv (i4 &&& (3 : Int32)), iv ((i4.toUInt32 >>> ((2 : Int32) &&& 31).toUInt32).toInt32), iv rq, rv b1, iv 1, .unset] [(.int 1), (.int 1)])
     refine own_g (own_F T32 m 327 #[iv i0, iv i1, iv i2, iv i3, iv i4, iv nq, iv bg, iv sq, iv hi, iv aq, iv wq, iv (i4 &&& (3 : Int32)), iv ((i4.toUInt32 >>> ((2 : Int32) &&& 31).toUInt32).toInt32), iv rq, rv b1, iv 1, .unset] [(.int 1)]) (fun _ z_ => XS.iand X32.here hx rfl (hb hby at_326) rfl z_) ?_
     refine own_g (own_F T32 m 329 #[iv i0, iv i1, iv i2, iv i3, iv i4, iv nq, iv bg, iv sq, iv hi, iv aq, iv wq, iv (i4 &&& (3 : Int32)), iv ((i4.toUInt32 >>> ((2 : Int32) &&& 31).toUInt32).toInt32), iv rq, rv b1, iv 1, .unset] []) (fun _ z_ => XS.istore X32.here hx rfl (hb hby at_327) rfl (l' := #[iv i0, iv i1, iv i2, iv i3, iv i4, iv nq, iv bg, iv sq, iv hi, iv aq, iv wq, iv (i4 &&& (3 : Int32)), iv ((i4.toUInt32 >>> ((2 : Int32) &&& 31).toUInt32).toInt32), iv rq, rv b1, iv 1, .unset]) rfl z_) ?_
     exact J7 l32 k32 g32 T32 _ _ (own_Smono X32 (by first | decide | omega | (simp only [room_1]; omega) | (simp only [room_1]; done) | (dsimp only; omega) | (dsimp only; done)) (by first | decide | omega | (simp only [room_1]; omega) | (simp only [room_1]; done) | (dsimp only; omega) | (dsimp only; done))) (rfl : T32.heap = T32.heap) N32 zs32 zz32 ad32 hF32 (by omega) hn32
    · -- pc 308: not (6 : Int32) < nq
     refine own_g (own_F T31 m 329 #[iv i0, iv i1, iv i2, iv i3, iv i4, iv nq, iv bg, iv sq, iv hi, iv aq, iv wq, iv (i4 &&& (3 : Int32)), iv ((i4.toUInt32 >>> ((2 : Int32) &&& 31).toUInt32).toInt32), iv rq, rv b1, iv 1, .unset] []) (fun _ z_ => XS.icmpYes X31.here hx rfl (pc0 := 308) (pc' := 329) rfl (hb hby at_308) rfl (flt c308).2.2.2 (by decide) (by decide) z_) ?_
     have hno : len = min 7 nq.toInt.toNat := by have := c308; rw [Int32.lt_iff_toInt_lt] at this; simp only [Int32.reduceToInt] at this; omega
     exact J7 len cap g T31 _ _ (own_Smono X31 (by first | decide | omega | (simp only [room_1]; omega) | (simp only [room_1]; done) | (dsimp only; omega) | (dsimp only; done)) (by first | decide | omega | (simp only [room_1]; omega) | (simp only [room_1]; done) | (dsimp only; omega) | (dsimp only; done))) e31 N31 zs31 zz31 f31_0 hF hno hm
   have J5 : ∀ (len : Nat) (cap : Nat) (g : Nat → Int32) (T33 : State) (lc33 : List Loc) (hp33 : Heap) (X33 : Stand p l e room_1 s m #[(.int i0), (.int i1), (.int i2), (.int i3), (.int i4)] below meth c T33 lc33 7 43) (e33 : T33.heap = hp33) (N33 : Fr n0 lc33) (zs33 : n0 ≤ hp33.size) (zz33 : h0.size ≤ hp33.size) (f33_0 : Sta Z hp33 "java/util/BitSet" "$assertionsDisabled" "Z" (.int (1 : Int32))) (hF : own_few n0 Z hp33 b1 len cap g) (hl : len = min 5 nq.toInt.toNat) (hm : ∀ v, own_mem len g v ↔ own_run aq sq len v), own_Ends p e below s (fun v h L => v = some (.int 1) ∧ Fr n0 L) room_1.cells room_1.slots (own_F T33 m 281 #[iv i0, iv i1, iv i2, iv i3, iv i4, iv nq, iv bg, iv sq, iv hi, iv aq, iv wq, iv (i4 &&& (3 : Int32)), iv ((i4.toUInt32 >>> ((2 : Int32) &&& 31).toUInt32).toInt32), iv rq, rv b1, iv 1, .unset] []) := by
    intro len cap g T33 lc33 hp33 X33 e33 N33 zs33 zz33 f33_0 hF hl hm
    refine own_g (own_F T33 m 283 #[iv i0, iv i1, iv i2, iv i3, iv i4, iv nq, iv bg, iv sq, iv hi, iv aq, iv wq, iv (i4 &&& (3 : Int32)), iv ((i4.toUInt32 >>> ((2 : Int32) &&& 31).toUInt32).toInt32), iv rq, rv b1, iv 1, .unset] [(.int nq)]) (fun _ z_ => XS.iload X33.here hx rfl (hb hby at_281) rfl z_) ?_
    refine own_g (own_F T33 m 284 #[iv i0, iv i1, iv i2, iv i3, iv i4, iv nq, iv bg, iv sq, iv hi, iv aq, iv wq, iv (i4 &&& (3 : Int32)), iv ((i4.toUInt32 >>> ((2 : Int32) &&& 31).toUInt32).toInt32), iv rq, rv b1, iv 1, .unset] [(.int 5), (.int nq)]) (fun _ z_ => XS.iconst X33.here hx rfl (hb hby at_283) z_) ?_
    by_cases c284 : (5 : Int32) < nq
    · -- pc 284: (5 : Int32) < nq
     refine own_g (own_F T33 m 287 #[iv i0, iv i1, iv i2, iv i3, iv i4, iv nq, iv bg, iv sq, iv hi, iv aq, iv wq, iv (i4 &&& (3 : Int32)), iv ((i4.toUInt32 >>> ((2 : Int32) &&& 31).toUInt32).toInt32), iv rq, rv b1, iv 1, .unset] []) (fun _ z_ => XS.icmpNo X33.here hx rfl (hb hby at_284) rfl (tlt c284).2.2.2 z_) ?_
     refine own_g (own_F T33 m 289 #[iv i0, iv i1, iv i2, iv i3, iv i4, iv nq, iv bg, iv sq, iv hi, iv aq, iv wq, iv (i4 &&& (3 : Int32)), iv ((i4.toUInt32 >>> ((2 : Int32) &&& 31).toUInt32).toInt32), iv rq, rv b1, iv 1, .unset] [(.int 1)]) (fun _ z_ => XS.iload X33.here hx rfl (hb hby at_287) rfl z_) ?_
     refine own_g (own_F T33 m 291 #[iv i0, iv i1, iv i2, iv i3, iv i4, iv nq, iv bg, iv sq, iv hi, iv aq, iv wq, iv (i4 &&& (3 : Int32)), iv ((i4.toUInt32 >>> ((2 : Int32) &&& 31).toUInt32).toInt32), iv rq, rv b1, iv 1, .unset] [(.ref b1), (.int 1)]) (fun _ z_ => XS.aload X33.here hx rfl (hb hby at_289) rfl rfl z_) ?_
     refine own_g (own_F T33 m 293 #[iv i0, iv i1, iv i2, iv i3, iv i4, iv nq, iv bg, iv sq, iv hi, iv aq, iv wq, iv (i4 &&& (3 : Int32)), iv ((i4.toUInt32 >>> ((2 : Int32) &&& 31).toUInt32).toInt32), iv rq, rv b1, iv 1, .unset] [(.int aq), (.ref b1), (.int 1)]) (fun _ z_ => XS.iload X33.here hx rfl (hb hby at_291) rfl z_) ?_
     refine own_g (own_F T33 m 294 #[iv i0, iv i1, iv i2, iv i3, iv i4, iv nq, iv bg, iv sq, iv hi, iv aq, iv wq, iv (i4 &&& (3 : Int32)), iv ((i4.toUInt32 >>> ((2 : Int32) &&& 31).toUInt32).toInt32), iv rq, rv b1, iv 1, .unset] [(.int 5), (.int aq), (.ref b1), (.int 1)]) (fun _ z_ => XS.iconst X33.here hx rfl (hb hby at_293) z_) ?_
     refine own_g (own_F T33 m 296 #[iv i0, iv i1, iv i2, iv i3, iv i4, iv nq, iv bg, iv sq, iv hi, iv aq, iv wq, iv (i4 &&& (3 : Int32)), iv ((i4.toUInt32 >>> ((2 : Int32) &&& 31).toUInt32).toInt32), iv rq, rv b1, iv 1, .unset] [(.int sq), (.int 5), (.int aq), (.ref b1), (.int 1)]) (fun _ z_ => XS.iload X33.here hx rfl (hb hby at_294) rfl z_) ?_
     refine own_g (own_F T33 m 297 #[iv i0, iv i1, iv i2, iv i3, iv i4, iv nq, iv bg, iv sq, iv hi, iv aq, iv wq, iv (i4 &&& (3 : Int32)), iv ((i4.toUInt32 >>> ((2 : Int32) &&& 31).toUInt32).toInt32), iv rq, rv b1, iv 1, .unset] [(.int ((5 : Int32) * sq)), (.int aq), (.ref b1), (.int 1)]) (fun _ z_ => XS.imul X33.here hx rfl (hb hby at_296) rfl z_) ?_
     refine own_g (own_F T33 m 298 #[iv i0, iv i1, iv i2, iv i3, iv i4, iv nq, iv bg, iv sq, iv hi, iv aq, iv wq, iv (i4 &&& (3 : Int32)), iv ((i4.toUInt32 >>> ((2 : Int32) &&& 31).toUInt32).toInt32), iv rq, rv b1, iv 1, .unset] [(.int (aq + ((5 : Int32) * sq))), (.ref b1), (.int 1)]) (fun _ z_ => XS.iadd X33.here hx rfl (hb hby at_297) rfl z_) ?_
     have hni : 5 < nq.toInt.toNat := by rw [Int32.lt_iff_toInt_lt] at c284; simp only [Int32.reduceToInt] at c284; omega
     have hli : len = 5 := by have := hl; omega
     have hxx := (own_xk (c := (5 : Int32)) (k := 5) rfl (by decide) hs ha rfl)
     have hxl : ((aq + ((5 : Int32) * sq))).toInt = aq.toInt + ((len : Nat) : Int) * sq.toInt := by rw [hli]; exact hxx.1
     have hnm : ¬ own_mem len g (aq + ((5 : Int32) * sq)) := fun z => own_runN hxl hs.1 ((hm _).mp z)
     refine own_callV (C := "com/example/kunci/kunci/NumberSet") (y := (⟨"com/example/kunci/kunci/NumberSet", "add", "(I)Z"⟩ : MethodName)) (b := b1) X33 hx hZ hown (own_w hw 14) (own_w hw 15) (own_w hw 17) (own_w hw 16) (own_w hw 18) (own_w hw 4) (by decide) e33 hF.exa (hM := own_addf l Z a0 hw [] b1 len cap (aq + ((5 : Int32) * sq)) g hp33 n0 zs33 (by omega) hF f33_0) (W := 1) (pc := 298) (Ls := #[iv i0, iv i1, iv i2, iv i3, iv i4, iv nq, iv bg, iv sq, iv hi, iv aq, iv wq, iv (i4 &&& (3 : Int32)), iv ((i4.toUInt32 >>> ((2 : Int32) &&& 31).toUInt32).toInt32), iv rq, rv b1, iv 1, .unset]) (argsL := [(.int (aq + ((5 : Int32) * sq)))]) (rest := [(.int 1)]) (st0 := [(.int (aq + ((5 : Int32) * sq))), (.ref b1), (.int 1)]) (by rw [hml]; rfl) (lenOf own_pd0 rfl) rfl (Nat.le_of_eq rfl) (hb hby at_298) (by first | decide | omega | (simp only [room_1]; omega) | (simp only [room_1]; done) | (dsimp only; omega) | (dsimp only; done)) (by first | decide | omega | (simp only [room_1]; omega) | (simp only [room_1]; done) | (dsimp only; omega) | (dsimp only; done)) (by first | decide | omega | (simp only [room_1]; omega) | (simp only [room_1]; done) | (dsimp only; omega) | (dsimp only; done)) (by first | decide | omega | (simp only [room_1]; omega) | (simp only [room_1]; done) | (dsimp only; omega) | (dsimp only; done)) ?_
     intro v34 T34 L34 X34 hQ34
     obtain ⟨r34, l34, k34, g34, rfl, hr34, Nq34, hF34, hm34, gz34, ad34⟩ := hQ34
     have N34 := Fr.app N33 Nq34
     show own_Ends p e below s _ _ _ (own_F T34 m 301 #[iv i0, iv i1, iv i2, iv i3, iv i4, iv nq, iv bg, iv sq, iv hi, iv aq, iv wq, iv (i4 &&& (3 : Int32)), iv ((i4.toUInt32 >>> ((2 : Int32) &&& 31).toUInt32).toInt32), iv rq, rv b1, iv 1, .unset] [(.int r34), (.int 1)])
     have zs34 := Nat.le_trans zs33 gz34
     have zz34 := Nat.le_trans zz33 gz34
     obtain ⟨rfl, -, hl34⟩ := hr34.resolve_right (fun z => hnm z.2.1)
     have hn34 : ∀ v, own_mem l34 g34 v ↔ own_run aq sq l34 v := fun v => by rw [hm34 v, hm v, hl34, own_runS hxl v]
     show own_Ends p e below s _ _ _ (own_F T34 m 301 #[iv i0, iv i1, iv i2, iv i3, iv i4, iv nq, iv bg, iv sq, iv hi, iv aq, iv wq, iv (i4 &&& (3 : Int32)), iv ((i4.toUInt32 >>> ((2 : Int32) &&& 31).toUInt32).toInt32), iv rq, rv b1, iv 1, .unset] [(.int 1), (.int 1)])
     refine own_g (own_F T34 m 302 #[iv i0, iv i1, iv i2, iv i3, iv i4, iv nq, iv bg, iv sq, iv hi, iv aq, iv wq, iv (i4 &&& (3 : Int32)), iv ((i4.toUInt32 >>> ((2 : Int32) &&& 31).toUInt32).toInt32), iv rq, rv b1, iv 1, .unset] [(.int 1)]) (fun _ z_ => XS.iand X34.here hx rfl (hb hby at_301) rfl z_) ?_
     refine own_g (own_F T34 m 304 #[iv i0, iv i1, iv i2, iv i3, iv i4, iv nq, iv bg, iv sq, iv hi, iv aq, iv wq, iv (i4 &&& (3 : Int32)), iv ((i4.toUInt32 >>> ((2 : Int32) &&& 31).toUInt32).toInt32), iv rq, rv b1, iv 1, .unset] []) (fun _ z_ => XS.istore X34.here hx rfl (hb hby at_302) rfl (l' := #[iv i0, iv i1, iv i2, iv i3, iv i4, iv nq, iv bg, iv sq, iv hi, iv aq, iv wq, iv (i4 &&& (3 : Int32)), iv ((i4.toUInt32 >>> ((2 : Int32) &&& 31).toUInt32).toInt32), iv rq, rv b1, iv 1, .unset]) rfl z_) ?_
     exact J6 l34 k34 g34 T34 _ _ (own_Smono X34 (by first | decide | omega | (simp only [room_1]; omega) | (simp only [room_1]; done) | (dsimp only; omega) | (dsimp only; done)) (by first | decide | omega | (simp only [room_1]; omega) | (simp only [room_1]; done) | (dsimp only; omega) | (dsimp only; done))) (rfl : T34.heap = T34.heap) N34 zs34 zz34 ad34 hF34 (by omega) hn34
    · -- pc 284: not (5 : Int32) < nq
     refine own_g (own_F T33 m 304 #[iv i0, iv i1, iv i2, iv i3, iv i4, iv nq, iv bg, iv sq, iv hi, iv aq, iv wq, iv (i4 &&& (3 : Int32)), iv ((i4.toUInt32 >>> ((2 : Int32) &&& 31).toUInt32).toInt32), iv rq, rv b1, iv 1, .unset] []) (fun _ z_ => XS.icmpYes X33.here hx rfl (pc0 := 284) (pc' := 304) rfl (hb hby at_284) rfl (flt c284).2.2.2 (by decide) (by decide) z_) ?_
     have hno : len = min 6 nq.toInt.toNat := by have := c284; rw [Int32.lt_iff_toInt_lt] at this; simp only [Int32.reduceToInt] at this; omega
     exact J6 len cap g T33 _ _ (own_Smono X33 (by first | decide | omega | (simp only [room_1]; omega) | (simp only [room_1]; done) | (dsimp only; omega) | (dsimp only; done)) (by first | decide | omega | (simp only [room_1]; omega) | (simp only [room_1]; done) | (dsimp only; omega) | (dsimp only; done))) e33 N33 zs33 zz33 f33_0 hF hno hm
   have J4 : ∀ (len : Nat) (cap : Nat) (g : Nat → Int32) (T35 : State) (lc35 : List Loc) (hp35 : Heap) (X35 : Stand p l e room_1 s m #[(.int i0), (.int i1), (.int i2), (.int i3), (.int i4)] below meth c T35 lc35 6 35) (e35 : T35.heap = hp35) (N35 : Fr n0 lc35) (zs35 : n0 ≤ hp35.size) (zz35 : h0.size ≤ hp35.size) (f35_0 : Sta Z hp35 "java/util/BitSet" "$assertionsDisabled" "Z" (.int (1 : Int32))) (hF : own_few n0 Z hp35 b1 len cap g) (hl : len = min 4 nq.toInt.toNat) (hm : ∀ v, own_mem len g v ↔ own_run aq sq len v), own_Ends p e below s (fun v h L => v = some (.int 1) ∧ Fr n0 L) room_1.cells room_1.slots (own_F T35 m 258 #[iv i0, iv i1, iv i2, iv i3, iv i4, iv nq, iv bg, iv sq, iv hi, iv aq, iv wq, iv (i4 &&& (3 : Int32)), iv ((i4.toUInt32 >>> ((2 : Int32) &&& 31).toUInt32).toInt32), iv rq, rv b1, iv 1, .unset] []) := by
    intro len cap g T35 lc35 hp35 X35 e35 N35 zs35 zz35 f35_0 hF hl hm
    refine own_g (own_F T35 m 260 #[iv i0, iv i1, iv i2, iv i3, iv i4, iv nq, iv bg, iv sq, iv hi, iv aq, iv wq, iv (i4 &&& (3 : Int32)), iv ((i4.toUInt32 >>> ((2 : Int32) &&& 31).toUInt32).toInt32), iv rq, rv b1, iv 1, .unset] [(.int nq)]) (fun _ z_ => XS.iload X35.here hx rfl (hb hby at_258) rfl z_) ?_
    refine own_g (own_F T35 m 261 #[iv i0, iv i1, iv i2, iv i3, iv i4, iv nq, iv bg, iv sq, iv hi, iv aq, iv wq, iv (i4 &&& (3 : Int32)), iv ((i4.toUInt32 >>> ((2 : Int32) &&& 31).toUInt32).toInt32), iv rq, rv b1, iv 1, .unset] [(.int 4), (.int nq)]) (fun _ z_ => XS.iconst X35.here hx rfl (hb hby at_260) z_) ?_
    by_cases c261 : (4 : Int32) < nq
    · -- pc 261: (4 : Int32) < nq
     refine own_g (own_F T35 m 264 #[iv i0, iv i1, iv i2, iv i3, iv i4, iv nq, iv bg, iv sq, iv hi, iv aq, iv wq, iv (i4 &&& (3 : Int32)), iv ((i4.toUInt32 >>> ((2 : Int32) &&& 31).toUInt32).toInt32), iv rq, rv b1, iv 1, .unset] []) (fun _ z_ => XS.icmpNo X35.here hx rfl (hb hby at_261) rfl (tlt c261).2.2.2 z_) ?_
     refine own_g (own_F T35 m 266 #[iv i0, iv i1, iv i2, iv i3, iv i4, iv nq, iv bg, iv sq, iv hi, iv aq, iv wq, iv (i4 &&& (3 : Int32)), iv ((i4.toUInt32 >>> ((2 : Int32) &&& 31).toUInt32).toInt32), iv rq, rv b1, iv 1, .unset] [(.int 1)]) (fun _ z_ => XS.iload X35.here hx rfl (hb hby at_264) rfl z_) ?_
     refine own_g (own_F T35 m 268 #[iv i0, iv i1, iv i2, iv i3, iv i4, iv nq, iv bg, iv sq, iv hi, iv aq, iv wq, iv (i4 &&& (3 : Int32)), iv ((i4.toUInt32 >>> ((2 : Int32) &&& 31).toUInt32).toInt32), iv rq, rv b1, iv 1, .unset] [(.ref b1), (.int 1)]) (fun _ z_ => XS.aload X35.here hx rfl (hb hby at_266) rfl rfl z_) ?_
     refine own_g (own_F T35 m 270 #[iv i0, iv i1, iv i2, iv i3, iv i4, iv nq, iv bg, iv sq, iv hi, iv aq, iv wq, iv (i4 &&& (3 : Int32)), iv ((i4.toUInt32 >>> ((2 : Int32) &&& 31).toUInt32).toInt32), iv rq, rv b1, iv 1, .unset] [(.int aq), (.ref b1), (.int 1)]) (fun _ z_ => XS.iload X35.here hx rfl (hb hby at_268) rfl z_) ?_
     refine own_g (own_F T35 m 271 #[iv i0, iv i1, iv i2, iv i3, iv i4, iv nq, iv bg, iv sq, iv hi, iv aq, iv wq, iv (i4 &&& (3 : Int32)), iv ((i4.toUInt32 >>> ((2 : Int32) &&& 31).toUInt32).toInt32), iv rq, rv b1, iv 1, .unset] [(.int 4), (.int aq), (.ref b1), (.int 1)]) (fun _ z_ => XS.iconst X35.here hx rfl (hb hby at_270) z_) ?_
     refine own_g (own_F T35 m 273 #[iv i0, iv i1, iv i2, iv i3, iv i4, iv nq, iv bg, iv sq, iv hi, iv aq, iv wq, iv (i4 &&& (3 : Int32)), iv ((i4.toUInt32 >>> ((2 : Int32) &&& 31).toUInt32).toInt32), iv rq, rv b1, iv 1, .unset] [(.int sq), (.int 4), (.int aq), (.ref b1), (.int 1)]) (fun _ z_ => XS.iload X35.here hx rfl (hb hby at_271) rfl z_) ?_
     refine own_g (own_F T35 m 274 #[iv i0, iv i1, iv i2, iv i3, iv i4, iv nq, iv bg, iv sq, iv hi, iv aq, iv wq, iv (i4 &&& (3 : Int32)), iv ((i4.toUInt32 >>> ((2 : Int32) &&& 31).toUInt32).toInt32), iv rq, rv b1, iv 1, .unset] [(.int ((4 : Int32) * sq)), (.int aq), (.ref b1), (.int 1)]) (fun _ z_ => XS.imul X35.here hx rfl (hb hby at_273) rfl z_) ?_
     refine own_g (own_F T35 m 275 #[iv i0, iv i1, iv i2, iv i3, iv i4, iv nq, iv bg, iv sq, iv hi, iv aq, iv wq, iv (i4 &&& (3 : Int32)), iv ((i4.toUInt32 >>> ((2 : Int32) &&& 31).toUInt32).toInt32), iv rq, rv b1, iv 1, .unset] [(.int (aq + ((4 : Int32) * sq))), (.ref b1), (.int 1)]) (fun _ z_ => XS.iadd X35.here hx rfl (hb hby at_274) rfl z_) ?_
     have hni : 4 < nq.toInt.toNat := by rw [Int32.lt_iff_toInt_lt] at c261; simp only [Int32.reduceToInt] at c261; omega
     have hli : len = 4 := by have := hl; omega
     have hxx := (own_xk (c := (4 : Int32)) (k := 4) rfl (by decide) hs ha rfl)
     have hxl : ((aq + ((4 : Int32) * sq))).toInt = aq.toInt + ((len : Nat) : Int) * sq.toInt := by rw [hli]; exact hxx.1
     have hnm : ¬ own_mem len g (aq + ((4 : Int32) * sq)) := fun z => own_runN hxl hs.1 ((hm _).mp z)
     refine own_callV (C := "com/example/kunci/kunci/NumberSet") (y := (⟨"com/example/kunci/kunci/NumberSet", "add", "(I)Z"⟩ : MethodName)) (b := b1) X35 hx hZ hown (own_w hw 14) (own_w hw 15) (own_w hw 17) (own_w hw 16) (own_w hw 18) (own_w hw 4) (by decide) e35 hF.exa (hM := own_addf l Z a0 hw [] b1 len cap (aq + ((4 : Int32) * sq)) g hp35 n0 zs35 (by omega) hF f35_0) (W := 1) (pc := 275) (Ls := #[iv i0, iv i1, iv i2, iv i3, iv i4, iv nq, iv bg, iv sq, iv hi, iv aq, iv wq, iv (i4 &&& (3 : Int32)), iv ((i4.toUInt32 >>> ((2 : Int32) &&& 31).toUInt32).toInt32), iv rq, rv b1, iv 1, .unset]) (argsL := [(.int (aq + ((4 : Int32) * sq)))]) (rest := [(.int 1)]) (st0 := [(.int (aq + ((4 : Int32) * sq))), (.ref b1), (.int 1)]) (by rw [hml]; rfl) (lenOf own_pd0 rfl) rfl (Nat.le_of_eq rfl) (hb hby at_275) (by first | decide | omega | (simp only [room_1]; omega) | (simp only [room_1]; done) | (dsimp only; omega) | (dsimp only; done)) (by first | decide | omega | (simp only [room_1]; omega) | (simp only [room_1]; done) | (dsimp only; omega) | (dsimp only; done)) (by first | decide | omega | (simp only [room_1]; omega) | (simp only [room_1]; done) | (dsimp only; omega) | (dsimp only; done)) (by first | decide | omega | (simp only [room_1]; omega) | (simp only [room_1]; done) | (dsimp only; omega) | (dsimp only; done)) ?_
     intro v36 T36 L36 X36 hQ36
     obtain ⟨r36, l36, k36, g36, rfl, hr36, Nq36, hF36, hm36, gz36, ad36⟩ := hQ36
     have N36 := Fr.app N35 Nq36
     show own_Ends p e below s _ _ _ (own_F T36 m 278 #[iv i0, iv i1, iv i2, iv i3, iv i4, iv nq, iv bg, iv sq, iv hi, iv aq, iv wq, iv (i4 &&& (3 : Int32)), iv ((i4.toUInt32 >>> ((2 : Int32) &&& 31).toUInt32).toInt32), iv rq, rv b1, iv 1, .unset] [(.int r36), (.int 1)])
     have zs36 := Nat.le_trans zs35 gz36
     have zz36 := Nat.le_trans zz35 gz36
     obtain ⟨rfl, -, hl36⟩ := hr36.resolve_right (fun z => hnm z.2.1)
     have hn36 : ∀ v, own_mem l36 g36 v ↔ own_run aq sq l36 v := fun v => by rw [hm36 v, hm v, hl36, own_runS hxl v]
     show own_Ends p e below s _ _ _ (own_F T36 m 278 #[iv i0, iv i1, iv i2, iv i3, iv i4, iv nq, iv bg, iv sq, iv hi, iv aq, iv wq, iv (i4 &&& (3 : Int32)), iv ((i4.toUInt32 >>> ((2 : Int32) &&& 31).toUInt32).toInt32), iv rq, rv b1, iv 1, .unset] [(.int 1), (.int 1)])
     refine own_g (own_F T36 m 279 #[iv i0, iv i1, iv i2, iv i3, iv i4, iv nq, iv bg, iv sq, iv hi, iv aq, iv wq, iv (i4 &&& (3 : Int32)), iv ((i4.toUInt32 >>> ((2 : Int32) &&& 31).toUInt32).toInt32), iv rq, rv b1, iv 1, .unset] [(.int 1)]) (fun _ z_ => XS.iand X36.here hx rfl (hb hby at_278) rfl z_) ?_
     refine own_g (own_F T36 m 281 #[iv i0, iv i1, iv i2, iv i3, iv i4, iv nq, iv bg, iv sq, iv hi, iv aq, iv wq, iv (i4 &&& (3 : Int32)), iv ((i4.toUInt32 >>> ((2 : Int32) &&& 31).toUInt32).toInt32), iv rq, rv b1, iv 1, .unset] []) (fun _ z_ => XS.istore X36.here hx rfl (hb hby at_279) rfl (l' := #[iv i0, iv i1, iv i2, iv i3, iv i4, iv nq, iv bg, iv sq, iv hi, iv aq, iv wq, iv (i4 &&& (3 : Int32)), iv ((i4.toUInt32 >>> ((2 : Int32) &&& 31).toUInt32).toInt32), iv rq, rv b1, iv 1, .unset]) rfl z_) ?_
     exact J5 l36 k36 g36 T36 _ _ (own_Smono X36 (by first | decide | omega | (simp only [room_1]; omega) | (simp only [room_1]; done) | (dsimp only; omega) | (dsimp only; done)) (by first | decide | omega | (simp only [room_1]; omega) | (simp only [room_1]; done) | (dsimp only; omega) | (dsimp only; done))) (rfl : T36.heap = T36.heap) N36 zs36 zz36 ad36 hF36 (by omega) hn36
    · -- pc 261: not (4 : Int32) < nq
     refine own_g (own_F T35 m 281 #[iv i0, iv i1, iv i2, iv i3, iv i4, iv nq, iv bg, iv sq, iv hi, iv aq, iv wq, iv (i4 &&& (3 : Int32)), iv ((i4.toUInt32 >>> ((2 : Int32) &&& 31).toUInt32).toInt32), iv rq, rv b1, iv 1, .unset] []) (fun _ z_ => XS.icmpYes X35.here hx rfl (pc0 := 261) (pc' := 281) rfl (hb hby at_261) rfl (flt c261).2.2.2 (by decide) (by decide) z_) ?_
     have hno : len = min 5 nq.toInt.toNat := by have := c261; rw [Int32.lt_iff_toInt_lt] at this; simp only [Int32.reduceToInt] at this; omega
     exact J5 len cap g T35 _ _ (own_Smono X35 (by first | decide | omega | (simp only [room_1]; omega) | (simp only [room_1]; done) | (dsimp only; omega) | (dsimp only; done)) (by first | decide | omega | (simp only [room_1]; omega) | (simp only [room_1]; done) | (dsimp only; omega) | (dsimp only; done))) e35 N35 zs35 zz35 f35_0 hF hno hm
   have J3 : ∀ (len : Nat) (cap : Nat) (g : Nat → Int32) (T37 : State) (lc37 : List Loc) (hp37 : Heap) (X37 : Stand p l e room_1 s m #[(.int i0), (.int i1), (.int i2), (.int i3), (.int i4)] below meth c T37 lc37 5 27) (e37 : T37.heap = hp37) (N37 : Fr n0 lc37) (zs37 : n0 ≤ hp37.size) (zz37 : h0.size ≤ hp37.size) (f37_0 : Sta Z hp37 "java/util/BitSet" "$assertionsDisabled" "Z" (.int (1 : Int32))) (hF : own_few n0 Z hp37 b1 len cap g) (hl : len = min 3 nq.toInt.toNat) (hm : ∀ v, own_mem len g v ↔ own_run aq sq len v), own_Ends p e below s (fun v h L => v = some (.int 1) ∧ Fr n0 L) room_1.cells room_1.slots (own_F T37 m 235 #[iv i0, iv i1, iv i2, iv i3, iv i4, iv nq, iv bg, iv sq, iv hi, iv aq, iv wq, iv (i4 &&& (3 : Int32)), iv ((i4.toUInt32 >>> ((2 : Int32) &&& 31).toUInt32).toInt32), iv rq, rv b1, iv 1, .unset] []) := by
    intro len cap g T37 lc37 hp37 X37 e37 N37 zs37 zz37 f37_0 hF hl hm
    refine own_g (own_F T37 m 237 #[iv i0, iv i1, iv i2, iv i3, iv i4, iv nq, iv bg, iv sq, iv hi, iv aq, iv wq, iv (i4 &&& (3 : Int32)), iv ((i4.toUInt32 >>> ((2 : Int32) &&& 31).toUInt32).toInt32), iv rq, rv b1, iv 1, .unset] [(.int nq)]) (fun _ z_ => XS.iload X37.here hx rfl (hb hby at_235) rfl z_) ?_
    refine own_g (own_F T37 m 238 #[iv i0, iv i1, iv i2, iv i3, iv i4, iv nq, iv bg, iv sq, iv hi, iv aq, iv wq, iv (i4 &&& (3 : Int32)), iv ((i4.toUInt32 >>> ((2 : Int32) &&& 31).toUInt32).toInt32), iv rq, rv b1, iv 1, .unset] [(.int 3), (.int nq)]) (fun _ z_ => XS.iconst X37.here hx rfl (hb hby at_237) z_) ?_
    by_cases c238 : (3 : Int32) < nq
    · -- pc 238: (3 : Int32) < nq
     refine own_g (own_F T37 m 241 #[iv i0, iv i1, iv i2, iv i3, iv i4, iv nq, iv bg, iv sq, iv hi, iv aq, iv wq, iv (i4 &&& (3 : Int32)), iv ((i4.toUInt32 >>> ((2 : Int32) &&& 31).toUInt32).toInt32), iv rq, rv b1, iv 1, .unset] []) (fun _ z_ => XS.icmpNo X37.here hx rfl (hb hby at_238) rfl (tlt c238).2.2.2 z_) ?_
     refine own_g (own_F T37 m 243 #[iv i0, iv i1, iv i2, iv i3, iv i4, iv nq, iv bg, iv sq, iv hi, iv aq, iv wq, iv (i4 &&& (3 : Int32)), iv ((i4.toUInt32 >>> ((2 : Int32) &&& 31).toUInt32).toInt32), iv rq, rv b1, iv 1, .unset] [(.int 1)]) (fun _ z_ => XS.iload X37.here hx rfl (hb hby at_241) rfl z_) ?_
     refine own_g (own_F T37 m 245 #[iv i0, iv i1, iv i2, iv i3, iv i4, iv nq, iv bg, iv sq, iv hi, iv aq, iv wq, iv (i4 &&& (3 : Int32)), iv ((i4.toUInt32 >>> ((2 : Int32) &&& 31).toUInt32).toInt32), iv rq, rv b1, iv 1, .unset] [(.ref b1), (.int 1)]) (fun _ z_ => XS.aload X37.here hx rfl (hb hby at_243) rfl rfl z_) ?_
     refine own_g (own_F T37 m 247 #[iv i0, iv i1, iv i2, iv i3, iv i4, iv nq, iv bg, iv sq, iv hi, iv aq, iv wq, iv (i4 &&& (3 : Int32)), iv ((i4.toUInt32 >>> ((2 : Int32) &&& 31).toUInt32).toInt32), iv rq, rv b1, iv 1, .unset] [(.int aq), (.ref b1), (.int 1)]) (fun _ z_ => XS.iload X37.here hx rfl (hb hby at_245) rfl z_) ?_
     refine own_g (own_F T37 m 248 #[iv i0, iv i1, iv i2, iv i3, iv i4, iv nq, iv bg, iv sq, iv hi, iv aq, iv wq, iv (i4 &&& (3 : Int32)), iv ((i4.toUInt32 >>> ((2 : Int32) &&& 31).toUInt32).toInt32), iv rq, rv b1, iv 1, .unset] [(.int 3), (.int aq), (.ref b1), (.int 1)]) (fun _ z_ => XS.iconst X37.here hx rfl (hb hby at_247) z_) ?_
     refine own_g (own_F T37 m 250 #[iv i0, iv i1, iv i2, iv i3, iv i4, iv nq, iv bg, iv sq, iv hi, iv aq, iv wq, iv (i4 &&& (3 : Int32)), iv ((i4.toUInt32 >>> ((2 : Int32) &&& 31).toUInt32).toInt32), iv rq, rv b1, iv 1, .unset] [(.int sq), (.int 3), (.int aq), (.ref b1), (.int 1)]) (fun _ z_ => XS.iload X37.here hx rfl (hb hby at_248) rfl z_) ?_
     refine own_g (own_F T37 m 251 #[iv i0, iv i1, iv i2, iv i3, iv i4, iv nq, iv bg, iv sq, iv hi, iv aq, iv wq, iv (i4 &&& (3 : Int32)), iv ((i4.toUInt32 >>> ((2 : Int32) &&& 31).toUInt32).toInt32), iv rq, rv b1, iv 1, .unset] [(.int ((3 : Int32) * sq)), (.int aq), (.ref b1), (.int 1)]) (fun _ z_ => XS.imul X37.here hx rfl (hb hby at_250) rfl z_) ?_
     refine own_g (own_F T37 m 252 #[iv i0, iv i1, iv i2, iv i3, iv i4, iv nq, iv bg, iv sq, iv hi, iv aq, iv wq, iv (i4 &&& (3 : Int32)), iv ((i4.toUInt32 >>> ((2 : Int32) &&& 31).toUInt32).toInt32), iv rq, rv b1, iv 1, .unset] [(.int (aq + ((3 : Int32) * sq))), (.ref b1), (.int 1)]) (fun _ z_ => XS.iadd X37.here hx rfl (hb hby at_251) rfl z_) ?_
     have hni : 3 < nq.toInt.toNat := by rw [Int32.lt_iff_toInt_lt] at c238; simp only [Int32.reduceToInt] at c238; omega
     have hli : len = 3 := by have := hl; omega
     have hxx := (own_xk (c := (3 : Int32)) (k := 3) rfl (by decide) hs ha rfl)
     have hxl : ((aq + ((3 : Int32) * sq))).toInt = aq.toInt + ((len : Nat) : Int) * sq.toInt := by rw [hli]; exact hxx.1
     have hnm : ¬ own_mem len g (aq + ((3 : Int32) * sq)) := fun z => own_runN hxl hs.1 ((hm _).mp z)
     refine own_callV (C := "com/example/kunci/kunci/NumberSet") (y := (⟨"com/example/kunci/kunci/NumberSet", "add", "(I)Z"⟩ : MethodName)) (b := b1) X37 hx hZ hown (own_w hw 14) (own_w hw 15) (own_w hw 17) (own_w hw 16) (own_w hw 18) (own_w hw 4) (by decide) e37 hF.exa (hM := own_addf l Z a0 hw [] b1 len cap (aq + ((3 : Int32) * sq)) g hp37 n0 zs37 (by omega) hF f37_0) (W := 1) (pc := 252) (Ls := #[iv i0, iv i1, iv i2, iv i3, iv i4, iv nq, iv bg, iv sq, iv hi, iv aq, iv wq, iv (i4 &&& (3 : Int32)), iv ((i4.toUInt32 >>> ((2 : Int32) &&& 31).toUInt32).toInt32), iv rq, rv b1, iv 1, .unset]) (argsL := [(.int (aq + ((3 : Int32) * sq)))]) (rest := [(.int 1)]) (st0 := [(.int (aq + ((3 : Int32) * sq))), (.ref b1), (.int 1)]) (by rw [hml]; rfl) (lenOf own_pd0 rfl) rfl (Nat.le_of_eq rfl) (hb hby at_252) (by first | decide | omega | (simp only [room_1]; omega) | (simp only [room_1]; done) | (dsimp only; omega) | (dsimp only; done)) (by first | decide | omega | (simp only [room_1]; omega) | (simp only [room_1]; done) | (dsimp only; omega) | (dsimp only; done)) (by first | decide | omega | (simp only [room_1]; omega) | (simp only [room_1]; done) | (dsimp only; omega) | (dsimp only; done)) (by first | decide | omega | (simp only [room_1]; omega) | (simp only [room_1]; done) | (dsimp only; omega) | (dsimp only; done)) ?_
     intro v38 T38 L38 X38 hQ38
     obtain ⟨r38, l38, k38, g38, rfl, hr38, Nq38, hF38, hm38, gz38, ad38⟩ := hQ38
     have N38 := Fr.app N37 Nq38
     show own_Ends p e below s _ _ _ (own_F T38 m 255 #[iv i0, iv i1, iv i2, iv i3, iv i4, iv nq, iv bg, iv sq, iv hi, iv aq, iv wq, iv (i4 &&& (3 : Int32)), iv ((i4.toUInt32 >>> ((2 : Int32) &&& 31).toUInt32).toInt32), iv rq, rv b1, iv 1, .unset] [(.int r38), (.int 1)])
     have zs38 := Nat.le_trans zs37 gz38
     have zz38 := Nat.le_trans zz37 gz38
     obtain ⟨rfl, -, hl38⟩ := hr38.resolve_right (fun z => hnm z.2.1)
     have hn38 : ∀ v, own_mem l38 g38 v ↔ own_run aq sq l38 v := fun v => by rw [hm38 v, hm v, hl38, own_runS hxl v]
     show own_Ends p e below s _ _ _ (own_F T38 m 255 #[iv i0, iv i1, iv i2, iv i3, iv i4, iv nq, iv bg, iv sq, iv hi, iv aq, iv wq, iv (i4 &&& (3 : Int32)), iv ((i4.toUInt32 >>> ((2 : Int32) &&& 31).toUInt32).toInt32), iv rq, rv b1, iv 1, .unset] [(.int 1), (.int 1)])
     refine own_g (own_F T38 m 256 #[iv i0, iv i1, iv i2, iv i3, iv i4, iv nq, iv bg, iv sq, iv hi, iv aq, iv wq, iv (i4 &&& (3 : Int32)), iv ((i4.toUInt32 >>> ((2 : Int32) &&& 31).toUInt32).toInt32), iv rq, rv b1, iv 1, .unset] [(.int 1)]) (fun _ z_ => XS.iand X38.here hx rfl (hb hby at_255) rfl z_) ?_
     refine own_g (own_F T38 m 258 #[iv i0, iv i1, iv i2, iv i3, iv i4, iv nq, iv bg, iv sq, iv hi, iv aq, iv wq, iv (i4 &&& (3 : Int32)), iv ((i4.toUInt32 >>> ((2 : Int32) &&& 31).toUInt32).toInt32), iv rq, rv b1, iv 1, .unset] []) (fun _ z_ => XS.istore X38.here hx rfl (hb hby at_256) rfl (l' := #[iv i0, iv i1, iv i2, iv i3, iv i4, iv nq, iv bg, iv sq, iv hi, iv aq, iv wq, iv (i4 &&& (3 : Int32)), iv ((i4.toUInt32 >>> ((2 : Int32) &&& 31).toUInt32).toInt32), iv rq, rv b1, iv 1, .unset]) rfl z_) ?_
     exact J4 l38 k38 g38 T38 _ _ (own_Smono X38 (by first | decide | omega | (simp only [room_1]; omega) | (simp only [room_1]; done) | (dsimp only; omega) | (dsimp only; done)) (by first | decide | omega | (simp only [room_1]; omega) | (simp only [room_1]; done) | (dsimp only; omega) | (dsimp only; done))) (rfl : T38.heap = T38.heap) N38 zs38 zz38 ad38 hF38 (by omega) hn38
    · -- pc 238: not (3 : Int32) < nq
     refine own_g (own_F T37 m 258 #[iv i0, iv i1, iv i2, iv i3, iv i4, iv nq, iv bg, iv sq, iv hi, iv aq, iv wq, iv (i4 &&& (3 : Int32)), iv ((i4.toUInt32 >>> ((2 : Int32) &&& 31).toUInt32).toInt32), iv rq, rv b1, iv 1, .unset] []) (fun _ z_ => XS.icmpYes X37.here hx rfl (pc0 := 238) (pc' := 258) rfl (hb hby at_238) rfl (flt c238).2.2.2 (by decide) (by decide) z_) ?_
     have hno : len = min 4 nq.toInt.toNat := by have := c238; rw [Int32.lt_iff_toInt_lt] at this; simp only [Int32.reduceToInt] at this; omega
     exact J4 len cap g T37 _ _ (own_Smono X37 (by first | decide | omega | (simp only [room_1]; omega) | (simp only [room_1]; done) | (dsimp only; omega) | (dsimp only; done)) (by first | decide | omega | (simp only [room_1]; omega) | (simp only [room_1]; done) | (dsimp only; omega) | (dsimp only; done))) e37 N37 zs37 zz37 f37_0 hF hno hm
   have J2 : ∀ (len : Nat) (cap : Nat) (g : Nat → Int32) (T39 : State) (lc39 : List Loc) (hp39 : Heap) (X39 : Stand p l e room_1 s m #[(.int i0), (.int i1), (.int i2), (.int i3), (.int i4)] below meth c T39 lc39 4 19) (e39 : T39.heap = hp39) (N39 : Fr n0 lc39) (zs39 : n0 ≤ hp39.size) (zz39 : h0.size ≤ hp39.size) (f39_0 : Sta Z hp39 "java/util/BitSet" "$assertionsDisabled" "Z" (.int (1 : Int32))) (hF : own_few n0 Z hp39 b1 len cap g) (hl : len = min 2 nq.toInt.toNat) (hm : ∀ v, own_mem len g v ↔ own_run aq sq len v), own_Ends p e below s (fun v h L => v = some (.int 1) ∧ Fr n0 L) room_1.cells room_1.slots (own_F T39 m 212 #[iv i0, iv i1, iv i2, iv i3, iv i4, iv nq, iv bg, iv sq, iv hi, iv aq, iv wq, iv (i4 &&& (3 : Int32)), iv ((i4.toUInt32 >>> ((2 : Int32) &&& 31).toUInt32).toInt32), iv rq, rv b1, iv 1, .unset] []) := by
    intro len cap g T39 lc39 hp39 X39 e39 N39 zs39 zz39 f39_0 hF hl hm
    refine own_g (own_F T39 m 214 #[iv i0, iv i1, iv i2, iv i3, iv i4, iv nq, iv bg, iv sq, iv hi, iv aq, iv wq, iv (i4 &&& (3 : Int32)), iv ((i4.toUInt32 >>> ((2 : Int32) &&& 31).toUInt32).toInt32), iv rq, rv b1, iv 1, .unset] [(.int nq)]) (fun _ z_ => XS.iload X39.here hx rfl (hb hby at_212) rfl z_) ?_
    refine own_g (own_F T39 m 215 #[iv i0, iv i1, iv i2, iv i3, iv i4, iv nq, iv bg, iv sq, iv hi, iv aq, iv wq, iv (i4 &&& (3 : Int32)), iv ((i4.toUInt32 >>> ((2 : Int32) &&& 31).toUInt32).toInt32), iv rq, rv b1, iv 1, .unset] [(.int 2), (.int nq)]) (fun _ z_ => XS.iconst X39.here hx rfl (hb hby at_214) z_) ?_
    by_cases c215 : (2 : Int32) < nq
    · -- pc 215: (2 : Int32) < nq
     refine own_g (own_F T39 m 218 #[iv i0, iv i1, iv i2, iv i3, iv i4, iv nq, iv bg, iv sq, iv hi, iv aq, iv wq, iv (i4 &&& (3 : Int32)), iv ((i4.toUInt32 >>> ((2 : Int32) &&& 31).toUInt32).toInt32), iv rq, rv b1, iv 1, .unset] []) (fun _ z_ => XS.icmpNo X39.here hx rfl (hb hby at_215) rfl (tlt c215).2.2.2 z_) ?_
     refine own_g (own_F T39 m 220 #[iv i0, iv i1, iv i2, iv i3, iv i4, iv nq, iv bg, iv sq, iv hi, iv aq, iv wq, iv (i4 &&& (3 : Int32)), iv ((i4.toUInt32 >>> ((2 : Int32) &&& 31).toUInt32).toInt32), iv rq, rv b1, iv 1, .unset] [(.int 1)]) (fun _ z_ => XS.iload X39.here hx rfl (hb hby at_218) rfl z_) ?_
     refine own_g (own_F T39 m 222 #[iv i0, iv i1, iv i2, iv i3, iv i4, iv nq, iv bg, iv sq, iv hi, iv aq, iv wq, iv (i4 &&& (3 : Int32)), iv ((i4.toUInt32 >>> ((2 : Int32) &&& 31).toUInt32).toInt32), iv rq, rv b1, iv 1, .unset] [(.ref b1), (.int 1)]) (fun _ z_ => XS.aload X39.here hx rfl (hb hby at_220) rfl rfl z_) ?_
     refine own_g (own_F T39 m 224 #[iv i0, iv i1, iv i2, iv i3, iv i4, iv nq, iv bg, iv sq, iv hi, iv aq, iv wq, iv (i4 &&& (3 : Int32)), iv ((i4.toUInt32 >>> ((2 : Int32) &&& 31).toUInt32).toInt32), iv rq, rv b1, iv 1, .unset] [(.int aq), (.ref b1), (.int 1)]) (fun _ z_ => XS.iload X39.here hx rfl (hb hby at_222) rfl z_) ?_
     refine own_g (own_F T39 m 225 #[iv i0, iv i1, iv i2, iv i3, iv i4, iv nq, iv bg, iv sq, iv hi, iv aq, iv wq, iv (i4 &&& (3 : Int32)), iv ((i4.toUInt32 >>> ((2 : Int32) &&& 31).toUInt32).toInt32), iv rq, rv b1, iv 1, .unset] [(.int 2), (.int aq), (.ref b1), (.int 1)]) (fun _ z_ => XS.iconst X39.here hx rfl (hb hby at_224) z_) ?_
     refine own_g (own_F T39 m 227 #[iv i0, iv i1, iv i2, iv i3, iv i4, iv nq, iv bg, iv sq, iv hi, iv aq, iv wq, iv (i4 &&& (3 : Int32)), iv ((i4.toUInt32 >>> ((2 : Int32) &&& 31).toUInt32).toInt32), iv rq, rv b1, iv 1, .unset] [(.int sq), (.int 2), (.int aq), (.ref b1), (.int 1)]) (fun _ z_ => XS.iload X39.here hx rfl (hb hby at_225) rfl z_) ?_
     refine own_g (own_F T39 m 228 #[iv i0, iv i1, iv i2, iv i3, iv i4, iv nq, iv bg, iv sq, iv hi, iv aq, iv wq, iv (i4 &&& (3 : Int32)), iv ((i4.toUInt32 >>> ((2 : Int32) &&& 31).toUInt32).toInt32), iv rq, rv b1, iv 1, .unset] [(.int ((2 : Int32) * sq)), (.int aq), (.ref b1), (.int 1)]) (fun _ z_ => XS.imul X39.here hx rfl (hb hby at_227) rfl z_) ?_
     refine own_g (own_F T39 m 229 #[iv i0, iv i1, iv i2, iv i3, iv i4, iv nq, iv bg, iv sq, iv hi, iv aq, iv wq, iv (i4 &&& (3 : Int32)), iv ((i4.toUInt32 >>> ((2 : Int32) &&& 31).toUInt32).toInt32), iv rq, rv b1, iv 1, .unset] [(.int (aq + ((2 : Int32) * sq))), (.ref b1), (.int 1)]) (fun _ z_ => XS.iadd X39.here hx rfl (hb hby at_228) rfl z_) ?_
     have hni : 2 < nq.toInt.toNat := by rw [Int32.lt_iff_toInt_lt] at c215; simp only [Int32.reduceToInt] at c215; omega
     have hli : len = 2 := by have := hl; omega
     have hxx := (own_xk (c := (2 : Int32)) (k := 2) rfl (by decide) hs ha rfl)
     have hxl : ((aq + ((2 : Int32) * sq))).toInt = aq.toInt + ((len : Nat) : Int) * sq.toInt := by rw [hli]; exact hxx.1
     have hnm : ¬ own_mem len g (aq + ((2 : Int32) * sq)) := fun z => own_runN hxl hs.1 ((hm _).mp z)
     refine own_callV (C := "com/example/kunci/kunci/NumberSet") (y := (⟨"com/example/kunci/kunci/NumberSet", "add", "(I)Z"⟩ : MethodName)) (b := b1) X39 hx hZ hown (own_w hw 14) (own_w hw 15) (own_w hw 17) (own_w hw 16) (own_w hw 18) (own_w hw 4) (by decide) e39 hF.exa (hM := own_addf l Z a0 hw [] b1 len cap (aq + ((2 : Int32) * sq)) g hp39 n0 zs39 (by omega) hF f39_0) (W := 1) (pc := 229) (Ls := #[iv i0, iv i1, iv i2, iv i3, iv i4, iv nq, iv bg, iv sq, iv hi, iv aq, iv wq, iv (i4 &&& (3 : Int32)), iv ((i4.toUInt32 >>> ((2 : Int32) &&& 31).toUInt32).toInt32), iv rq, rv b1, iv 1, .unset]) (argsL := [(.int (aq + ((2 : Int32) * sq)))]) (rest := [(.int 1)]) (st0 := [(.int (aq + ((2 : Int32) * sq))), (.ref b1), (.int 1)]) (by rw [hml]; rfl) (lenOf own_pd0 rfl) rfl (Nat.le_of_eq rfl) (hb hby at_229) (by first | decide | omega | (simp only [room_1]; omega) | (simp only [room_1]; done) | (dsimp only; omega) | (dsimp only; done)) (by first | decide | omega | (simp only [room_1]; omega) | (simp only [room_1]; done) | (dsimp only; omega) | (dsimp only; done)) (by first | decide | omega | (simp only [room_1]; omega) | (simp only [room_1]; done) | (dsimp only; omega) | (dsimp only; done)) (by first | decide | omega | (simp only [room_1]; omega) | (simp only [room_1]; done) | (dsimp only; omega) | (dsimp only; done)) ?_
     intro v40 T40 L40 X40 hQ40
     obtain ⟨r40, l40, k40, g40, rfl, hr40, Nq40, hF40, hm40, gz40, ad40⟩ := hQ40
     have N40 := Fr.app N39 Nq40
     show own_Ends p e below s _ _ _ (own_F T40 m 232 #[iv i0, iv i1, iv i2, iv i3, iv i4, iv nq, iv bg, iv sq, iv hi, iv aq, iv wq, iv (i4 &&& (3 : Int32)), iv ((i4.toUInt32 >>> ((2 : Int32) &&& 31).toUInt32).toInt32), iv rq, rv b1, iv 1, .unset] [(.int r40), (.int 1)])
     have zs40 := Nat.le_trans zs39 gz40
     have zz40 := Nat.le_trans zz39 gz40
     obtain ⟨rfl, -, hl40⟩ := hr40.resolve_right (fun z => hnm z.2.1)
     have hn40 : ∀ v, own_mem l40 g40 v ↔ own_run aq sq l40 v := fun v => by rw [hm40 v, hm v, hl40, own_runS hxl v]
     show own_Ends p e below s _ _ _ (own_F T40 m 232 #[iv i0, iv i1, iv i2, iv i3, iv i4, iv nq, iv bg, iv sq, iv hi, iv aq, iv wq, iv (i4 &&& (3 : Int32)), iv ((i4.toUInt32 >>> ((2 : Int32) &&& 31).toUInt32).toInt32), iv rq, rv b1, iv 1, .unset] [(.int 1), (.int 1)])
     refine own_g (own_F T40 m 233 #[iv i0, iv i1, iv i2, iv i3, iv i4, iv nq, iv bg, iv sq, iv hi, iv aq, iv wq, iv (i4 &&& (3 : Int32)), iv ((i4.toUInt32 >>> ((2 : Int32) &&& 31).toUInt32).toInt32), iv rq, rv b1, iv 1, .unset] [(.int 1)]) (fun _ z_ => XS.iand X40.here hx rfl (hb hby at_232) rfl z_) ?_
     refine own_g (own_F T40 m 235 #[iv i0, iv i1, iv i2, iv i3, iv i4, iv nq, iv bg, iv sq, iv hi, iv aq, iv wq, iv (i4 &&& (3 : Int32)), iv ((i4.toUInt32 >>> ((2 : Int32) &&& 31).toUInt32).toInt32), iv rq, rv b1, iv 1, .unset] []) (fun _ z_ => XS.istore X40.here hx rfl (hb hby at_233) rfl (l' := #[iv i0, iv i1, iv i2, iv i3, iv i4, iv nq, iv bg, iv sq, iv hi, iv aq, iv wq, iv (i4 &&& (3 : Int32)), iv ((i4.toUInt32 >>> ((2 : Int32) &&& 31).toUInt32).toInt32), iv rq, rv b1, iv 1, .unset]) rfl z_) ?_
     exact J3 l40 k40 g40 T40 _ _ (own_Smono X40 (by first | decide | omega | (simp only [room_1]; omega) | (simp only [room_1]; done) | (dsimp only; omega) | (dsimp only; done)) (by first | decide | omega | (simp only [room_1]; omega) | (simp only [room_1]; done) | (dsimp only; omega) | (dsimp only; done))) (rfl : T40.heap = T40.heap) N40 zs40 zz40 ad40 hF40 (by omega) hn40
    · -- pc 215: not (2 : Int32) < nq
     refine own_g (own_F T39 m 235 #[iv i0, iv i1, iv i2, iv i3, iv i4, iv nq, iv bg, iv sq, iv hi, iv aq, iv wq, iv (i4 &&& (3 : Int32)), iv ((i4.toUInt32 >>> ((2 : Int32) &&& 31).toUInt32).toInt32), iv rq, rv b1, iv 1, .unset] []) (fun _ z_ => XS.icmpYes X39.here hx rfl (pc0 := 215) (pc' := 235) rfl (hb hby at_215) rfl (flt c215).2.2.2 (by decide) (by decide) z_) ?_
     have hno : len = min 3 nq.toInt.toNat := by have := c215; rw [Int32.lt_iff_toInt_lt] at this; simp only [Int32.reduceToInt] at this; omega
     exact J3 len cap g T39 _ _ (own_Smono X39 (by first | decide | omega | (simp only [room_1]; omega) | (simp only [room_1]; done) | (dsimp only; omega) | (dsimp only; done)) (by first | decide | omega | (simp only [room_1]; omega) | (simp only [room_1]; done) | (dsimp only; omega) | (dsimp only; done))) e39 N39 zs39 zz39 f39_0 hF hno hm
   have J1 : ∀ (len : Nat) (cap : Nat) (g : Nat → Int32) (T41 : State) (lc41 : List Loc) (hp41 : Heap) (X41 : Stand p l e room_1 s m #[(.int i0), (.int i1), (.int i2), (.int i3), (.int i4)] below meth c T41 lc41 3 11) (e41 : T41.heap = hp41) (N41 : Fr n0 lc41) (zs41 : n0 ≤ hp41.size) (zz41 : h0.size ≤ hp41.size) (f41_0 : Sta Z hp41 "java/util/BitSet" "$assertionsDisabled" "Z" (.int (1 : Int32))) (hF : own_few n0 Z hp41 b1 len cap g) (hl : len = min 1 nq.toInt.toNat) (hm : ∀ v, own_mem len g v ↔ own_run aq sq len v), own_Ends p e below s (fun v h L => v = some (.int 1) ∧ Fr n0 L) room_1.cells room_1.slots (own_F T41 m 191 #[iv i0, iv i1, iv i2, iv i3, iv i4, iv nq, iv bg, iv sq, iv hi, iv aq, iv wq, iv (i4 &&& (3 : Int32)), iv ((i4.toUInt32 >>> ((2 : Int32) &&& 31).toUInt32).toInt32), iv rq, rv b1, iv 1, .unset] []) := by
    intro len cap g T41 lc41 hp41 X41 e41 N41 zs41 zz41 f41_0 hF hl hm
    refine own_g (own_F T41 m 193 #[iv i0, iv i1, iv i2, iv i3, iv i4, iv nq, iv bg, iv sq, iv hi, iv aq, iv wq, iv (i4 &&& (3 : Int32)), iv ((i4.toUInt32 >>> ((2 : Int32) &&& 31).toUInt32).toInt32), iv rq, rv b1, iv 1, .unset] [(.int nq)]) (fun _ z_ => XS.iload X41.here hx rfl (hb hby at_191) rfl z_) ?_
    refine own_g (own_F T41 m 194 #[iv i0, iv i1, iv i2, iv i3, iv i4, iv nq, iv bg, iv sq, iv hi, iv aq, iv wq, iv (i4 &&& (3 : Int32)), iv ((i4.toUInt32 >>> ((2 : Int32) &&& 31).toUInt32).toInt32), iv rq, rv b1, iv 1, .unset] [(.int 1), (.int nq)]) (fun _ z_ => XS.iconst X41.here hx rfl (hb hby at_193) z_) ?_
    by_cases c194 : (1 : Int32) < nq
    · -- pc 194: (1 : Int32) < nq
     refine own_g (own_F T41 m 197 #[iv i0, iv i1, iv i2, iv i3, iv i4, iv nq, iv bg, iv sq, iv hi, iv aq, iv wq, iv (i4 &&& (3 : Int32)), iv ((i4.toUInt32 >>> ((2 : Int32) &&& 31).toUInt32).toInt32), iv rq, rv b1, iv 1, .unset] []) (fun _ z_ => XS.icmpNo X41.here hx rfl (hb hby at_194) rfl (tlt c194).2.2.2 z_) ?_
     refine own_g (own_F T41 m 199 #[iv i0, iv i1, iv i2, iv i3, iv i4, iv nq, iv bg, iv sq, iv hi, iv aq, iv wq, iv (i4 &&& (3 : Int32)), iv ((i4.toUInt32 >>> ((2 : Int32) &&& 31).toUInt32).toInt32), iv rq, rv b1, iv 1, .unset] [(.int 1)]) (fun _ z_ => XS.iload X41.here hx rfl (hb hby at_197) rfl z_) ?_
     refine own_g (own_F T41 m 201 #[iv i0, iv i1, iv i2, iv i3, iv i4, iv nq, iv bg, iv sq, iv hi, iv aq, iv wq, iv (i4 &&& (3 : Int32)), iv ((i4.toUInt32 >>> ((2 : Int32) &&& 31).toUInt32).toInt32), iv rq, rv b1, iv 1, .unset] [(.ref b1), (.int 1)]) (fun _ z_ => XS.aload X41.here hx rfl (hb hby at_199) rfl rfl z_) ?_
     refine own_g (own_F T41 m 203 #[iv i0, iv i1, iv i2, iv i3, iv i4, iv nq, iv bg, iv sq, iv hi, iv aq, iv wq, iv (i4 &&& (3 : Int32)), iv ((i4.toUInt32 >>> ((2 : Int32) &&& 31).toUInt32).toInt32), iv rq, rv b1, iv 1, .unset] [(.int aq), (.ref b1), (.int 1)]) (fun _ z_ => XS.iload X41.here hx rfl (hb hby at_201) rfl z_) ?_
     refine own_g (own_F T41 m 205 #[iv i0, iv i1, iv i2, iv i3, iv i4, iv nq, iv bg, iv sq, iv hi, iv aq, iv wq, iv (i4 &&& (3 : Int32)), iv ((i4.toUInt32 >>> ((2 : Int32) &&& 31).toUInt32).toInt32), iv rq, rv b1, iv 1, .unset] [(.int sq), (.int aq), (.ref b1), (.int 1)]) (fun _ z_ => XS.iload X41.here hx rfl (hb hby at_203) rfl z_) ?_
     refine own_g (own_F T41 m 206 #[iv i0, iv i1, iv i2, iv i3, iv i4, iv nq, iv bg, iv sq, iv hi, iv aq, iv wq, iv (i4 &&& (3 : Int32)), iv ((i4.toUInt32 >>> ((2 : Int32) &&& 31).toUInt32).toInt32), iv rq, rv b1, iv 1, .unset] [(.int (aq + sq)), (.ref b1), (.int 1)]) (fun _ z_ => XS.iadd X41.here hx rfl (hb hby at_205) rfl z_) ?_
     have hni : 1 < nq.toInt.toNat := by rw [Int32.lt_iff_toInt_lt] at c194; simp only [Int32.reduceToInt] at c194; omega
     have hli : len = 1 := by have := hl; omega
     have hxx := (own_x1 hs ha)
     have hxl : ((aq + sq)).toInt = aq.toInt + ((len : Nat) : Int) * sq.toInt := by rw [hli]; exact hxx.1
     have hnm : ¬ own_mem len g (aq + sq) := fun z => own_runN hxl hs.1 ((hm _).mp z)
     refine own_callV (C := "com/example/kunci/kunci/NumberSet") (y := (⟨"com/example/kunci/kunci/NumberSet", "add", "(I)Z"⟩ : MethodName)) (b := b1) X41 hx hZ hown (own_w hw 14) (own_w hw 15) (own_w hw 17) (own_w hw 16) (own_w hw 18) (own_w hw 4) (by decide) e41 hF.exa (hM := own_addf l Z a0 hw [] b1 len cap (aq + sq) g hp41 n0 zs41 (by omega) hF f41_0) (W := 1) (pc := 206) (Ls := #[iv i0, iv i1, iv i2, iv i3, iv i4, iv nq, iv bg, iv sq, iv hi, iv aq, iv wq, iv (i4 &&& (3 : Int32)), iv ((i4.toUInt32 >>> ((2 : Int32) &&& 31).toUInt32).toInt32), iv rq, rv b1, iv 1, .unset]) (argsL := [(.int (aq + sq))]) (rest := [(.int 1)]) (st0 := [(.int (aq + sq)), (.ref b1), (.int 1)]) (by rw [hml]; rfl) (lenOf own_pd0 rfl) rfl (Nat.le_of_eq rfl) (hb hby at_206) (by first | decide | omega | (simp only [room_1]; omega) | (simp only [room_1]; done) | (dsimp only; omega) | (dsimp only; done)) (by first | decide | omega | (simp only [room_1]; omega) | (simp only [room_1]; done) | (dsimp only; omega) | (dsimp only; done)) (by first | decide | omega | (simp only [room_1]; omega) | (simp only [room_1]; done) | (dsimp only; omega) | (dsimp only; done)) (by first | decide | omega | (simp only [room_1]; omega) | (simp only [room_1]; done) | (dsimp only; omega) | (dsimp only; done)) ?_
     intro v42 T42 L42 X42 hQ42
     obtain ⟨r42, l42, k42, g42, rfl, hr42, Nq42, hF42, hm42, gz42, ad42⟩ := hQ42
     have N42 := Fr.app N41 Nq42
     show own_Ends p e below s _ _ _ (own_F T42 m 209 #[iv i0, iv i1, iv i2, iv i3, iv i4, iv nq, iv bg, iv sq, iv hi, iv aq, iv wq, iv (i4 &&& (3 : Int32)), iv ((i4.toUInt32 >>> ((2 : Int32) &&& 31).toUInt32).toInt32), iv rq, rv b1, iv 1, .unset] [(.int r42), (.int 1)])
     have zs42 := Nat.le_trans zs41 gz42
     have zz42 := Nat.le_trans zz41 gz42
     obtain ⟨rfl, -, hl42⟩ := hr42.resolve_right (fun z => hnm z.2.1)
     have hn42 : ∀ v, own_mem l42 g42 v ↔ own_run aq sq l42 v := fun v => by rw [hm42 v, hm v, hl42, own_runS hxl v]
     show own_Ends p e below s _ _ _ (own_F T42 m 209 #[iv i0, iv i1, iv i2, iv i3, iv i4, iv nq, iv bg, iv sq, iv hi, iv aq, iv wq, iv (i4 &&& (3 : Int32)), iv ((i4.toUInt32 >>> ((2 : Int32) &&& 31).toUInt32).toInt32), iv rq, rv b1, iv 1, .unset] [(.int 1), (.int 1)])
     refine own_g (own_F T42 m 210 #[iv i0, iv i1, iv i2, iv i3, iv i4, iv nq, iv bg, iv sq, iv hi, iv aq, iv wq, iv (i4 &&& (3 : Int32)), iv ((i4.toUInt32 >>> ((2 : Int32) &&& 31).toUInt32).toInt32), iv rq, rv b1, iv 1, .unset] [(.int 1)]) (fun _ z_ => XS.iand X42.here hx rfl (hb hby at_209) rfl z_) ?_
     refine own_g (own_F T42 m 212 #[iv i0, iv i1, iv i2, iv i3, iv i4, iv nq, iv bg, iv sq, iv hi, iv aq, iv wq, iv (i4 &&& (3 : Int32)), iv ((i4.toUInt32 >>> ((2 : Int32) &&& 31).toUInt32).toInt32), iv rq, rv b1, iv 1, .unset] []) (fun _ z_ => XS.istore X42.here hx rfl (hb hby at_210) rfl (l' := #[iv i0, iv i1, iv i2, iv i3, iv i4, iv nq, iv bg, iv sq, iv hi, iv aq, iv wq, iv (i4 &&& (3 : Int32)), iv ((i4.toUInt32 >>> ((2 : Int32) &&& 31).toUInt32).toInt32), iv rq, rv b1, iv 1, .unset]) rfl z_) ?_
     exact J2 l42 k42 g42 T42 _ _ (own_Smono X42 (by first | decide | omega | (simp only [room_1]; omega) | (simp only [room_1]; done) | (dsimp only; omega) | (dsimp only; done)) (by first | decide | omega | (simp only [room_1]; omega) | (simp only [room_1]; done) | (dsimp only; omega) | (dsimp only; done))) (rfl : T42.heap = T42.heap) N42 zs42 zz42 ad42 hF42 (by omega) hn42
    · -- pc 194: not (1 : Int32) < nq
     refine own_g (own_F T41 m 212 #[iv i0, iv i1, iv i2, iv i3, iv i4, iv nq, iv bg, iv sq, iv hi, iv aq, iv wq, iv (i4 &&& (3 : Int32)), iv ((i4.toUInt32 >>> ((2 : Int32) &&& 31).toUInt32).toInt32), iv rq, rv b1, iv 1, .unset] []) (fun _ z_ => XS.icmpYes X41.here hx rfl (pc0 := 194) (pc' := 212) rfl (hb hby at_194) rfl (flt c194).2.2.2 (by decide) (by decide) z_) ?_
     have hno : len = min 2 nq.toInt.toNat := by have := c194; rw [Int32.lt_iff_toInt_lt] at this; simp only [Int32.reduceToInt] at this; omega
     exact J2 len cap g T41 _ _ (own_Smono X41 (by first | decide | omega | (simp only [room_1]; omega) | (simp only [room_1]; done) | (dsimp only; omega) | (dsimp only; done)) (by first | decide | omega | (simp only [room_1]; omega) | (simp only [room_1]; done) | (dsimp only; omega) | (dsimp only; done))) e41 N41 zs41 zz41 f41_0 hF hno hm
   refine own_g (own_F T2 m 176 #[iv i0, iv i1, iv i2, iv i3, iv i4, iv nq, iv bg, iv sq, iv hi, iv aq, iv wq, iv (i4 &&& (3 : Int32)), iv ((i4.toUInt32 >>> ((2 : Int32) &&& 31).toUInt32).toInt32), iv rq, rv b1, iv 1, .unset] [(.int nq)]) (fun _ z_ => XS.iload X2.here hx rfl (hb hby at_174) rfl z_) ?_
   by_cases c176 : (0 : Int32) < nq
   · -- pc 176: (0 : Int32) < nq
    refine own_g (own_F T2 m 179 #[iv i0, iv i1, iv i2, iv i3, iv i4, iv nq, iv bg, iv sq, iv hi, iv aq, iv wq, iv (i4 &&& (3 : Int32)), iv ((i4.toUInt32 >>> ((2 : Int32) &&& 31).toUInt32).toInt32), iv rq, rv b1, iv 1, .unset] []) (fun _ z_ => XS.ifNo X2.here hx rfl (hb hby at_176) rfl ((if0 _ _).trans (tlt c176).2.2.2) z_) ?_
    refine own_g (own_F T2 m 181 #[iv i0, iv i1, iv i2, iv i3, iv i4, iv nq, iv bg, iv sq, iv hi, iv aq, iv wq, iv (i4 &&& (3 : Int32)), iv ((i4.toUInt32 >>> ((2 : Int32) &&& 31).toUInt32).toInt32), iv rq, rv b1, iv 1, .unset] [(.int 1)]) (fun _ z_ => XS.iload X2.here hx rfl (hb hby at_179) rfl z_) ?_
    refine own_g (own_F T2 m 183 #[iv i0, iv i1, iv i2, iv i3, iv i4, iv nq, iv bg, iv sq, iv hi, iv aq, iv wq, iv (i4 &&& (3 : Int32)), iv ((i4.toUInt32 >>> ((2 : Int32) &&& 31).toUInt32).toInt32), iv rq, rv b1, iv 1, .unset] [(.ref b1), (.int 1)]) (fun _ z_ => XS.aload X2.here hx rfl (hb hby at_181) rfl rfl z_) ?_
    refine own_g (own_F T2 m 185 #[iv i0, iv i1, iv i2, iv i3, iv i4, iv nq, iv bg, iv sq, iv hi, iv aq, iv wq, iv (i4 &&& (3 : Int32)), iv ((i4.toUInt32 >>> ((2 : Int32) &&& 31).toUInt32).toInt32), iv rq, rv b1, iv 1, .unset] [(.int aq), (.ref b1), (.int 1)]) (fun _ z_ => XS.iload X2.here hx rfl (hb hby at_183) rfl z_) ?_
    have hni : 0 < nq.toInt.toNat := by rw [Int32.lt_iff_toInt_lt] at c176; simp only [Int32.reduceToInt] at c176; omega
    have hli : (0 : Nat) = 0 := rfl
    have hxx := (own_x0 hs ha)
    have hxl : (aq).toInt = aq.toInt + ((0 : Nat) : Int) * sq.toInt := by rw [hli]; exact hxx.1
    have hnm : ¬ own_mem 0 (fun _ => 0) aq := fun z => own_runN hxl hs.1 ((hm0 _).mp z)
    refine own_callV (C := "com/example/kunci/kunci/NumberSet") (y := (⟨"com/example/kunci/kunci/NumberSet", "add", "(I)Z"⟩ : MethodName)) (b := b1) X2 hx hZ hown (own_w hw 14) (own_w hw 15) (own_w hw 17) (own_w hw 16) (own_w hw 18) (own_w hw 4) (by decide) (rfl : T2.heap = T2.heap) hF2.exa (hM := own_addf l Z a0 hw [] b1 0 0 aq (fun _ => 0) T2.heap n0 zs2 (by omega) hF2 ad2) (W := 1) (pc := 185) (Ls := #[iv i0, iv i1, iv i2, iv i3, iv i4, iv nq, iv bg, iv sq, iv hi, iv aq, iv wq, iv (i4 &&& (3 : Int32)), iv ((i4.toUInt32 >>> ((2 : Int32) &&& 31).toUInt32).toInt32), iv rq, rv b1, iv 1, .unset]) (argsL := [(.int aq)]) (rest := [(.int 1)]) (st0 := [(.int aq), (.ref b1), (.int 1)]) (by rw [hml]; rfl) (lenOf own_pd0 rfl) rfl (Nat.le_of_eq rfl) (hb hby at_185) (by first | decide | omega | (simp only [room_1]; omega) | (simp only [room_1]; done) | (dsimp only; omega) | (dsimp only; done)) (by first | decide | omega | (simp only [room_1]; omega) | (simp only [room_1]; done) | (dsimp only; omega) | (dsimp only; done)) (by first | decide | omega | (simp only [room_1]; omega) | (simp only [room_1]; done) | (dsimp only; omega) | (dsimp only; done)) (by first | decide | omega | (simp only [room_1]; omega) | (simp only [room_1]; done) | (dsimp only; omega) | (dsimp only; done)) ?_
    intro v43 T43 L43 X43 hQ43
    obtain ⟨r43, l43, k43, g43, rfl, hr43, Nq43, hF43, hm43, gz43, ad43⟩ := hQ43
    have N43 := Fr.app N2 Nq43
    show own_Ends p e below s _ _ _ (own_F T43 m 188 #[iv i0, iv i1, iv i2, iv i3, iv i4, iv nq, iv bg, iv sq, iv hi, iv aq, iv wq, iv (i4 &&& (3 : Int32)), iv ((i4.toUInt32 >>> ((2 : Int32) &&& 31).toUInt32).toInt32), iv rq, rv b1, iv 1, .unset] [(.int r43), (.int 1)])
    have zs43 := Nat.le_trans zs2 gz43
    have zz43 := Nat.le_trans zz2 gz43
    obtain ⟨rfl, -, hl43⟩ := hr43.resolve_right (fun z => hnm z.2.1)
    have hn43 : ∀ v, own_mem l43 g43 v ↔ own_run aq sq l43 v := fun v => by rw [hm43 v, hm0 v, hl43, own_runS hxl v]
    show own_Ends p e below s _ _ _ (own_F T43 m 188 #[iv i0, iv i1, iv i2, iv i3, iv i4, iv nq, iv bg, iv sq, iv hi, iv aq, iv wq, iv (i4 &&& (3 : Int32)), iv ((i4.toUInt32 >>> ((2 : Int32) &&& 31).toUInt32).toInt32), iv rq, rv b1, iv 1, .unset] [(.int 1), (.int 1)])
    refine own_g (own_F T43 m 189 #[iv i0, iv i1, iv i2, iv i3, iv i4, iv nq, iv bg, iv sq, iv hi, iv aq, iv wq, iv (i4 &&& (3 : Int32)), iv ((i4.toUInt32 >>> ((2 : Int32) &&& 31).toUInt32).toInt32), iv rq, rv b1, iv 1, .unset] [(.int 1)]) (fun _ z_ => XS.iand X43.here hx rfl (hb hby at_188) rfl z_) ?_
    refine own_g (own_F T43 m 191 #[iv i0, iv i1, iv i2, iv i3, iv i4, iv nq, iv bg, iv sq, iv hi, iv aq, iv wq, iv (i4 &&& (3 : Int32)), iv ((i4.toUInt32 >>> ((2 : Int32) &&& 31).toUInt32).toInt32), iv rq, rv b1, iv 1, .unset] []) (fun _ z_ => XS.istore X43.here hx rfl (hb hby at_189) rfl (l' := #[iv i0, iv i1, iv i2, iv i3, iv i4, iv nq, iv bg, iv sq, iv hi, iv aq, iv wq, iv (i4 &&& (3 : Int32)), iv ((i4.toUInt32 >>> ((2 : Int32) &&& 31).toUInt32).toInt32), iv rq, rv b1, iv 1, .unset]) rfl z_) ?_
    exact J1 l43 k43 g43 T43 _ _ (own_Smono X43 (by first | decide | omega | (simp only [room_1]; omega) | (simp only [room_1]; done) | (dsimp only; omega) | (dsimp only; done)) (by first | decide | omega | (simp only [room_1]; omega) | (simp only [room_1]; done) | (dsimp only; omega) | (dsimp only; done))) (rfl : T43.heap = T43.heap) N43 zs43 zz43 ad43 hF43 (by omega) hn43
   · -- pc 176: not (0 : Int32) < nq
    refine own_g (own_F T2 m 191 #[iv i0, iv i1, iv i2, iv i3, iv i4, iv nq, iv bg, iv sq, iv hi, iv aq, iv wq, iv (i4 &&& (3 : Int32)), iv ((i4.toUInt32 >>> ((2 : Int32) &&& 31).toUInt32).toInt32), iv rq, rv b1, iv 1, .unset] []) (fun _ z_ => XS.ifYes X2.here hx rfl (pc0 := 176) (pc' := 191) rfl (hb hby at_176) rfl ((if0 _ _).trans (flt c176).2.2.2) (by decide) (by decide) z_) ?_
    have hno : 0 = min 1 nq.toInt.toNat := by have := c176; rw [Int32.lt_iff_toInt_lt] at this; simp only [Int32.reduceToInt] at this; omega
    exact J1 0 0 (fun _ => 0) T2 _ _ (own_Smono X2 (by first | decide | omega | (simp only [room_1]; omega) | (simp only [room_1]; done) | (dsimp only; omega) | (dsimp only; done)) (by first | decide | omega | (simp only [room_1]; omega) | (simp only [room_1]; done) | (dsimp only; omega) | (dsimp only; done))) (rfl : T2.heap = T2.heap) N2 zs2 zz2 ad2 hF2 hno hm0
  have J112 : ∀ (nq sq : Int32) (hnq : 0 ≤ nq.toInt ∧ nq.toInt ≤ 9) (hs : 0 < sq.toInt ∧ sq.toInt ≤ 4096) (bg hi aq : Int32) (hbg : (bg = 0 ∧ nq.toInt < 8) ∨ (bg = 1 ∧ 8 ≤ nq.toInt)) (ha : 0 ≤ aq.toInt ∧ aq.toInt + 40960 < 2147483648) (ha8 : 8 ≤ nq.toInt → aq.toInt ≤ 1048575) (wq : Int32) (hwq : 0 ≤ wq.toInt) (hw8 : 8 ≤ nq.toInt → wq.toInt ≤ 1089535), own_Ends p e below s (fun v h L => v = some (.int 1) ∧ Fr n0 L) room_1.cells room_1.slots (own_F T0 m 112 #[iv i0, iv i1, iv i2, iv i3, iv i4, iv nq, iv bg, iv sq, iv hi, iv aq, iv wq, .unset, .unset, .unset, .unset, .unset, .unset] []) := by
   intro nq sq hnq hs bg hi aq hbg ha ha8 wq hwq hw8
   refine own_g (own_F T0 m 114 #[iv i0, iv i1, iv i2, iv i3, iv i4, iv nq, iv bg, iv sq, iv hi, iv aq, iv wq, .unset, .unset, .unset, .unset, .unset, .unset] [(.int i4)]) (fun _ z_ => XS.iload X0.here hx rfl (hb hby at_112) rfl z_) ?_
   refine own_g (own_F T0 m 115 #[iv i0, iv i1, iv i2, iv i3, iv i4, iv nq, iv bg, iv sq, iv hi, iv aq, iv wq, .unset, .unset, .unset, .unset, .unset, .unset] [(.int 3), (.int i4)]) (fun _ z_ => XS.iconst X0.here hx rfl (hb hby at_114) z_) ?_
   refine own_g (own_F T0 m 116 #[iv i0, iv i1, iv i2, iv i3, iv i4, iv nq, iv bg, iv sq, iv hi, iv aq, iv wq, .unset, .unset, .unset, .unset, .unset, .unset] [(.int (i4 &&& (3 : Int32)))]) (fun _ z_ => XS.iand X0.here hx rfl (hb hby at_115) rfl z_) ?_
   refine own_g (own_F T0 m 118 #[iv i0, iv i1, iv i2, iv i3, iv i4, iv nq, iv bg, iv sq, iv hi, iv aq, iv wq, iv (i4 &&& (3 : Int32)), .unset, .unset, .unset, .unset, .unset] []) (fun _ z_ => XS.istore X0.here hx rfl (hb hby at_116) rfl (l' := #[iv i0, iv i1, iv i2, iv i3, iv i4, iv nq, iv bg, iv sq, iv hi, iv aq, iv wq, iv (i4 &&& (3 : Int32)), .unset, .unset, .unset, .unset, .unset]) rfl z_) ?_
   refine own_g (own_F T0 m 120 #[iv i0, iv i1, iv i2, iv i3, iv i4, iv nq, iv bg, iv sq, iv hi, iv aq, iv wq, iv (i4 &&& (3 : Int32)), .unset, .unset, .unset, .unset, .unset] [(.int i4)]) (fun _ z_ => XS.iload X0.here hx rfl (hb hby at_118) rfl z_) ?_
   refine own_g (own_F T0 m 121 #[iv i0, iv i1, iv i2, iv i3, iv i4, iv nq, iv bg, iv sq, iv hi, iv aq, iv wq, iv (i4 &&& (3 : Int32)), .unset, .unset, .unset, .unset, .unset] [(.int 2), (.int i4)]) (fun _ z_ => XS.iconst X0.here hx rfl (hb hby at_120) z_) ?_
   refine own_g (own_F T0 m 122 #[iv i0, iv i1, iv i2, iv i3, iv i4, iv nq, iv bg, iv sq, iv hi, iv aq, iv wq, iv (i4 &&& (3 : Int32)), .unset, .unset, .unset, .unset, .unset] [(.int ((i4.toUInt32 >>> ((2 : Int32) &&& 31).toUInt32).toInt32))]) (fun _ z_ => XS.iushr X0.here hx rfl (hb hby at_121) rfl z_) ?_
   refine own_g (own_F T0 m 124 #[iv i0, iv i1, iv i2, iv i3, iv i4, iv nq, iv bg, iv sq, iv hi, iv aq, iv wq, iv (i4 &&& (3 : Int32)), iv ((i4.toUInt32 >>> ((2 : Int32) &&& 31).toUInt32).toInt32), .unset, .unset, .unset, .unset] []) (fun _ z_ => XS.istore X0.here hx rfl (hb hby at_122) rfl (l' := #[iv i0, iv i1, iv i2, iv i3, iv i4, iv nq, iv bg, iv sq, iv hi, iv aq, iv wq, iv (i4 &&& (3 : Int32)), iv ((i4.toUInt32 >>> ((2 : Int32) &&& 31).toUInt32).toInt32), .unset, .unset, .unset, .unset]) rfl z_) ?_
   refine own_g (own_F T0 m 126 #[iv i0, iv i1, iv i2, iv i3, iv i4, iv nq, iv bg, iv sq, iv hi, iv aq, iv wq, iv (i4 &&& (3 : Int32)), iv ((i4.toUInt32 >>> ((2 : Int32) &&& 31).toUInt32).toInt32), .unset, .unset, .unset, .unset] [(.int (i4 &&& (3 : Int32)))]) (fun _ z_ => XS.iload X0.here hx rfl (hb hby at_124) rfl z_) ?_
   by_cases c126 : (i4 &&& (3 : Int32)) = (0 : Int32)
   · -- pc 126: (i4 &&& (3 : Int32)) = (0 : Int32)
    refine own_g (own_F T0 m 129 #[iv i0, iv i1, iv i2, iv i3, iv i4, iv nq, iv bg, iv sq, iv hi, iv aq, iv wq, iv (i4 &&& (3 : Int32)), iv ((i4.toUInt32 >>> ((2 : Int32) &&& 31).toUInt32).toInt32), .unset, .unset, .unset, .unset] []) (fun _ z_ => XS.ifNo X0.here hx rfl (hb hby at_126) rfl ((if0 _ _).trans (teq c126).2) z_) ?_
    refine own_g (own_F T0 m 131 #[iv i0, iv i1, iv i2, iv i3, iv i4, iv nq, iv bg, iv sq, iv hi, iv aq, iv wq, iv (i4 &&& (3 : Int32)), iv ((i4.toUInt32 >>> ((2 : Int32) &&& 31).toUInt32).toInt32), .unset, .unset, .unset, .unset] [(.int wq)]) (fun _ z_ => XS.iload X0.here hx rfl (hb hby at_129) rfl z_) ?_
    refine own_g (own_F T0 m 133 #[iv i0, iv i1, iv i2, iv i3, iv i4, iv nq, iv bg, iv sq, iv hi, iv aq, iv wq, iv (i4 &&& (3 : Int32)), iv ((i4.toUInt32 >>> ((2 : Int32) &&& 31).toUInt32).toInt32), iv wq, .unset, .unset, .unset] []) (fun _ z_ => XS.istore X0.here hx rfl (hb hby at_131) rfl (l' := #[iv i0, iv i1, iv i2, iv i3, iv i4, iv nq, iv bg, iv sq, iv hi, iv aq, iv wq, iv (i4 &&& (3 : Int32)), iv ((i4.toUInt32 >>> ((2 : Int32) &&& 31).toUInt32).toInt32), iv wq, .unset, .unset, .unset]) rfl z_) ?_
    refine own_g (own_F T0 m 162 #[iv i0, iv i1, iv i2, iv i3, iv i4, iv nq, iv bg, iv sq, iv hi, iv aq, iv wq, iv (i4 &&& (3 : Int32)), iv ((i4.toUInt32 >>> ((2 : Int32) &&& 31).toUInt32).toInt32), iv wq, .unset, .unset, .unset] []) (fun _ z_ => XS.goto X0.here hx rfl (pc0 := 133) (pc' := 162) rfl (hb hby at_133) (by decide) (by decide) z_) ?_
    exact J162 nq sq hnq hs bg hi aq hbg ha ha8 wq hwq hw8 _ hwq
   · -- pc 126: not (i4 &&& (3 : Int32)) = (0 : Int32)
    refine own_g (own_F T0 m 136 #[iv i0, iv i1, iv i2, iv i3, iv i4, iv nq, iv bg, iv sq, iv hi, iv aq, iv wq, iv (i4 &&& (3 : Int32)), iv ((i4.toUInt32 >>> ((2 : Int32) &&& 31).toUInt32).toInt32), .unset, .unset, .unset, .unset] []) (fun _ z_ => XS.ifYes X0.here hx rfl (pc0 := 126) (pc' := 136) rfl (hb hby at_126) rfl ((if0 _ _).trans (feq c126).2) (by decide) (by decide) z_) ?_
    refine own_g (own_F T0 m 138 #[iv i0, iv i1, iv i2, iv i3, iv i4, iv nq, iv bg, iv sq, iv hi, iv aq, iv wq, iv (i4 &&& (3 : Int32)), iv ((i4.toUInt32 >>> ((2 : Int32) &&& 31).toUInt32).toInt32), .unset, .unset, .unset, .unset] [(.int (i4 &&& (3 : Int32)))]) (fun _ z_ => XS.iload X0.here hx rfl (hb hby at_136) rfl z_) ?_
    refine own_g (own_F T0 m 139 #[iv i0, iv i1, iv i2, iv i3, iv i4, iv nq, iv bg, iv sq, iv hi, iv aq, iv wq, iv (i4 &&& (3 : Int32)), iv ((i4.toUInt32 >>> ((2 : Int32) &&& 31).toUInt32).toInt32), .unset, .unset, .unset, .unset] [(.int 3), (.int (i4 &&& (3 : Int32)))]) (fun _ z_ => XS.iconst X0.here hx rfl (hb hby at_138) z_) ?_
    by_cases c139 : (i4 &&& (3 : Int32)) = (3 : Int32)
    · -- pc 139: (i4 &&& (3 : Int32)) = (3 : Int32)
     refine own_g (own_F T0 m 142 #[iv i0, iv i1, iv i2, iv i3, iv i4, iv nq, iv bg, iv sq, iv hi, iv aq, iv wq, iv (i4 &&& (3 : Int32)), iv ((i4.toUInt32 >>> ((2 : Int32) &&& 31).toUInt32).toInt32), .unset, .unset, .unset, .unset] []) (fun _ z_ => XS.icmpNo X0.here hx rfl (hb hby at_139) rfl (teq c139).2 z_) ?_
     refine own_g (own_F T0 m 144 #[iv i0, iv i1, iv i2, iv i3, iv i4, iv nq, iv bg, iv sq, iv hi, iv aq, iv wq, iv (i4 &&& (3 : Int32)), iv ((i4.toUInt32 >>> ((2 : Int32) &&& 31).toUInt32).toInt32), .unset, .unset, .unset, .unset] [(.int ((i4.toUInt32 >>> ((2 : Int32) &&& 31).toUInt32).toInt32))]) (fun _ z_ => XS.iload X0.here hx rfl (hb hby at_142) rfl z_) ?_
     refine own_g (own_F T0 m 146 #[iv i0, iv i1, iv i2, iv i3, iv i4, iv nq, iv bg, iv sq, iv hi, iv aq, iv wq, iv (i4 &&& (3 : Int32)), iv ((i4.toUInt32 >>> ((2 : Int32) &&& 31).toUInt32).toInt32), iv ((i4.toUInt32 >>> ((2 : Int32) &&& 31).toUInt32).toInt32), .unset, .unset, .unset] []) (fun _ z_ => XS.istore X0.here hx rfl (hb hby at_144) rfl (l' := #[iv i0, iv i1, iv i2, iv i3, iv i4, iv nq, iv bg, iv sq, iv hi, iv aq, iv wq, iv (i4 &&& (3 : Int32)), iv ((i4.toUInt32 >>> ((2 : Int32) &&& 31).toUInt32).toInt32), iv ((i4.toUInt32 >>> ((2 : Int32) &&& 31).toUInt32).toInt32), .unset, .unset, .unset]) rfl z_) ?_
     refine own_g (own_F T0 m 162 #[iv i0, iv i1, iv i2, iv i3, iv i4, iv nq, iv bg, iv sq, iv hi, iv aq, iv wq, iv (i4 &&& (3 : Int32)), iv ((i4.toUInt32 >>> ((2 : Int32) &&& 31).toUInt32).toInt32), iv ((i4.toUInt32 >>> ((2 : Int32) &&& 31).toUInt32).toInt32), .unset, .unset, .unset] []) (fun _ z_ => XS.goto X0.here hx rfl (pc0 := 146) (pc' := 162) rfl (hb hby at_146) (by decide) (by decide) z_) ?_
     exact J162 nq sq hnq hs bg hi aq hbg ha ha8 wq hwq hw8 _ (own_sh2 i4)
    · -- pc 139: not (i4 &&& (3 : Int32)) = (3 : Int32)
     refine own_g (own_F T0 m 149 #[iv i0, iv i1, iv i2, iv i3, iv i4, iv nq, iv bg, iv sq, iv hi, iv aq, iv wq, iv (i4 &&& (3 : Int32)), iv ((i4.toUInt32 >>> ((2 : Int32) &&& 31).toUInt32).toInt32), .unset, .unset, .unset, .unset] []) (fun _ z_ => XS.icmpYes X0.here hx rfl (pc0 := 139) (pc' := 149) rfl (hb hby at_139) rfl (feq c139).2 (by decide) (by decide) z_) ?_
     refine own_g (own_F T0 m 151 #[iv i0, iv i1, iv i2, iv i3, iv i4, iv nq, iv bg, iv sq, iv hi, iv aq, iv wq, iv (i4 &&& (3 : Int32)), iv ((i4.toUInt32 >>> ((2 : Int32) &&& 31).toUInt32).toInt32), .unset, .unset, .unset, .unset] [(.int aq)]) (fun _ z_ => XS.iload X0.here hx rfl (hb hby at_149) rfl z_) ?_
     refine own_g (own_F T0 m 153 #[iv i0, iv i1, iv i2, iv i3, iv i4, iv nq, iv bg, iv sq, iv hi, iv aq, iv wq, iv (i4 &&& (3 : Int32)), iv ((i4.toUInt32 >>> ((2 : Int32) &&& 31).toUInt32).toInt32), .unset, .unset, .unset, .unset] [(.int ((i4.toUInt32 >>> ((2 : Int32) &&& 31).toUInt32).toInt32)), (.int aq)]) (fun _ z_ => XS.iload X0.here hx rfl (hb hby at_151) rfl z_) ?_
     refine own_g (own_F T0 m 155 #[iv i0, iv i1, iv i2, iv i3, iv i4, iv nq, iv bg, iv sq, iv hi, iv aq, iv wq, iv (i4 &&& (3 : Int32)), iv ((i4.toUInt32 >>> ((2 : Int32) &&& 31).toUInt32).toInt32), .unset, .unset, .unset, .unset] [(.int 11), (.int ((i4.toUInt32 >>> ((2 : Int32) &&& 31).toUInt32).toInt32)), (.int aq)]) (fun _ z_ => XS.bipush X0.here hx rfl (hb hby at_153) z_) ?_
     refine own_g (own_F T0 m 156 #[iv i0, iv i1, iv i2, iv i3, iv i4, iv nq, iv bg, iv sq, iv hi, iv aq, iv wq, iv (i4 &&& (3 : Int32)), iv ((i4.toUInt32 >>> ((2 : Int32) &&& 31).toUInt32).toInt32), .unset, .unset, .unset, .unset] [(.int (((i4.toUInt32 >>> ((2 : Int32) &&& 31).toUInt32).toInt32) % (11 : Int32))), (.int aq)]) (fun _ z_ => iremM X0 hx rfl (hb hby at_155) rfl (by decide) z_) ?_
     refine own_g (own_F T0 m 158 #[iv i0, iv i1, iv i2, iv i3, iv i4, iv nq, iv bg, iv sq, iv hi, iv aq, iv wq, iv (i4 &&& (3 : Int32)), iv ((i4.toUInt32 >>> ((2 : Int32) &&& 31).toUInt32).toInt32), .unset, .unset, .unset, .unset] [(.int sq), (.int (((i4.toUInt32 >>> ((2 : Int32) &&& 31).toUInt32).toInt32) % (11 : Int32))), (.int aq)]) (fun _ z_ => XS.iload X0.here hx rfl (hb hby at_156) rfl z_) ?_
     refine own_g (own_F T0 m 159 #[iv i0, iv i1, iv i2, iv i3, iv i4, iv nq, iv bg, iv sq, iv hi, iv aq, iv wq, iv (i4 &&& (3 : Int32)), iv ((i4.toUInt32 >>> ((2 : Int32) &&& 31).toUInt32).toInt32), .unset, .unset, .unset, .unset] [(.int ((((i4.toUInt32 >>> ((2 : Int32) &&& 31).toUInt32).toInt32) % (11 : Int32)) * sq)), (.int aq)]) (fun _ z_ => XS.imul X0.here hx rfl (hb hby at_158) rfl z_) ?_
     refine own_g (own_F T0 m 160 #[iv i0, iv i1, iv i2, iv i3, iv i4, iv nq, iv bg, iv sq, iv hi, iv aq, iv wq, iv (i4 &&& (3 : Int32)), iv ((i4.toUInt32 >>> ((2 : Int32) &&& 31).toUInt32).toInt32), .unset, .unset, .unset, .unset] [(.int (aq + ((((i4.toUInt32 >>> ((2 : Int32) &&& 31).toUInt32).toInt32) % (11 : Int32)) * sq)))]) (fun _ z_ => XS.iadd X0.here hx rfl (hb hby at_159) rfl z_) ?_
     refine own_g (own_F T0 m 162 #[iv i0, iv i1, iv i2, iv i3, iv i4, iv nq, iv bg, iv sq, iv hi, iv aq, iv wq, iv (i4 &&& (3 : Int32)), iv ((i4.toUInt32 >>> ((2 : Int32) &&& 31).toUInt32).toInt32), iv (aq + ((((i4.toUInt32 >>> ((2 : Int32) &&& 31).toUInt32).toInt32) % (11 : Int32)) * sq)), .unset, .unset, .unset] []) (fun _ z_ => XS.istore X0.here hx rfl (hb hby at_160) rfl (l' := #[iv i0, iv i1, iv i2, iv i3, iv i4, iv nq, iv bg, iv sq, iv hi, iv aq, iv wq, iv (i4 &&& (3 : Int32)), iv ((i4.toUInt32 >>> ((2 : Int32) &&& 31).toUInt32).toInt32), iv (aq + ((((i4.toUInt32 >>> ((2 : Int32) &&& 31).toUInt32).toInt32) % (11 : Int32)) * sq)), .unset, .unset, .unset]) rfl z_) ?_
     exact J162 nq sq hnq hs bg hi aq hbg ha ha8 wq hwq hw8 _ (own_x11 (own_sh2 i4) hs ha).1
  have J70 : ∀ (nq sq : Int32) (hnq : 0 ≤ nq.toInt ∧ nq.toInt ≤ 9) (hs : 0 < sq.toInt ∧ sq.toInt ≤ 4096) (bg hi aq : Int32) (hbg : (bg = 0 ∧ nq.toInt < 8) ∨ (bg = 1 ∧ 8 ≤ nq.toInt)) (ha : 0 ≤ aq.toInt ∧ aq.toInt + 40960 < 2147483648) (ha8 : 8 ≤ nq.toInt → aq.toInt ≤ 1048575), own_Ends p e below s (fun v h L => v = some (.int 1) ∧ Fr n0 L) room_1.cells room_1.slots (own_F T0 m 70 #[iv i0, iv i1, iv i2, iv i3, iv i4, iv nq, iv bg, iv sq, iv hi, iv aq, .unset, .unset, .unset, .unset, .unset, .unset, .unset] []) := by
   intro nq sq hnq hs bg hi aq hbg ha ha8
   refine own_g (own_F T0 m 71 #[iv i0, iv i1, iv i2, iv i3, iv i4, iv nq, iv bg, iv sq, iv hi, iv aq, .unset, .unset, .unset, .unset, .unset, .unset, .unset] [(.int i3)]) (fun _ z_ => XS.iloadN X0.here hx rfl (hb hby at_70) rfl z_) ?_
   refine own_g (own_F T0 m 72 #[iv i0, iv i1, iv i2, iv i3, iv i4, iv nq, iv bg, iv sq, iv hi, iv aq, .unset, .unset, .unset, .unset, .unset, .unset, .unset] [(.int 1), (.int i3)]) (fun _ z_ => XS.iconst X0.here hx rfl (hb hby at_71) z_) ?_
   refine own_g (own_F T0 m 73 #[iv i0, iv i1, iv i2, iv i3, iv i4, iv nq, iv bg, iv sq, iv hi, iv aq, .unset, .unset, .unset, .unset, .unset, .unset, .unset] [(.int (i3 &&& (1 : Int32)))]) (fun _ z_ => XS.iand X0.here hx rfl (hb hby at_72) rfl z_) ?_
   by_cases c73 : (i3 &&& (1 : Int32)) = (0 : Int32)
   · -- pc 73: (i3 &&& (1 : Int32)) = (0 : Int32)
    refine own_g (own_F T0 m 76 #[iv i0, iv i1, iv i2, iv i3, iv i4, iv nq, iv bg, iv sq, iv hi, iv aq, .unset, .unset, .unset, .unset, .unset, .unset, .unset] []) (fun _ z_ => XS.ifNo X0.here hx rfl (hb hby at_73) rfl ((if0 _ _).trans (teq c73).2) z_) ?_
    refine own_g (own_F T0 m 78 #[iv i0, iv i1, iv i2, iv i3, iv i4, iv nq, iv bg, iv sq, iv hi, iv aq, .unset, .unset, .unset, .unset, .unset, .unset, .unset] [(.int aq)]) (fun _ z_ => XS.iload X0.here hx rfl (hb hby at_76) rfl z_) ?_
    refine own_g (own_F T0 m 79 #[iv i0, iv i1, iv i2, iv i3, iv i4, iv nq, iv bg, iv sq, iv hi, iv aq, .unset, .unset, .unset, .unset, .unset, .unset, .unset] [(.int i3), (.int aq)]) (fun _ z_ => XS.iloadN X0.here hx rfl (hb hby at_78) rfl z_) ?_
    refine own_g (own_F T0 m 80 #[iv i0, iv i1, iv i2, iv i3, iv i4, iv nq, iv bg, iv sq, iv hi, iv aq, .unset, .unset, .unset, .unset, .unset, .unset, .unset] [(.int 1), (.int i3), (.int aq)]) (fun _ z_ => XS.iconst X0.here hx rfl (hb hby at_79) z_) ?_
    refine own_g (own_F T0 m 81 #[iv i0, iv i1, iv i2, iv i3, iv i4, iv nq, iv bg, iv sq, iv hi, iv aq, .unset, .unset, .unset, .unset, .unset, .unset, .unset] [(.int ((i3.toUInt32 >>> ((1 : Int32) &&& 31).toUInt32).toInt32)), (.int aq)]) (fun _ z_ => XS.iushr X0.here hx rfl (hb hby at_80) rfl z_) ?_
    refine own_g (own_F T0 m 83 #[iv i0, iv i1, iv i2, iv i3, iv i4, iv nq, iv bg, iv sq, iv hi, iv aq, .unset, .unset, .unset, .unset, .unset, .unset, .unset] [(.int 11), (.int ((i3.toUInt32 >>> ((1 : Int32) &&& 31).toUInt32).toInt32)), (.int aq)]) (fun _ z_ => XS.bipush X0.here hx rfl (hb hby at_81) z_) ?_
    refine own_g (own_F T0 m 84 #[iv i0, iv i1, iv i2, iv i3, iv i4, iv nq, iv bg, iv sq, iv hi, iv aq, .unset, .unset, .unset, .unset, .unset, .unset, .unset] [(.int (((i3.toUInt32 >>> ((1 : Int32) &&& 31).toUInt32).toInt32) % (11 : Int32))), (.int aq)]) (fun _ z_ => iremM X0 hx rfl (hb hby at_83) rfl (by decide) z_) ?_
    refine own_g (own_F T0 m 86 #[iv i0, iv i1, iv i2, iv i3, iv i4, iv nq, iv bg, iv sq, iv hi, iv aq, .unset, .unset, .unset, .unset, .unset, .unset, .unset] [(.int sq), (.int (((i3.toUInt32 >>> ((1 : Int32) &&& 31).toUInt32).toInt32) % (11 : Int32))), (.int aq)]) (fun _ z_ => XS.iload X0.here hx rfl (hb hby at_84) rfl z_) ?_
    refine own_g (own_F T0 m 87 #[iv i0, iv i1, iv i2, iv i3, iv i4, iv nq, iv bg, iv sq, iv hi, iv aq, .unset, .unset, .unset, .unset, .unset, .unset, .unset] [(.int ((((i3.toUInt32 >>> ((1 : Int32) &&& 31).toUInt32).toInt32) % (11 : Int32)) * sq)), (.int aq)]) (fun _ z_ => XS.imul X0.here hx rfl (hb hby at_86) rfl z_) ?_
    refine own_g (own_F T0 m 88 #[iv i0, iv i1, iv i2, iv i3, iv i4, iv nq, iv bg, iv sq, iv hi, iv aq, .unset, .unset, .unset, .unset, .unset, .unset, .unset] [(.int (aq + ((((i3.toUInt32 >>> ((1 : Int32) &&& 31).toUInt32).toInt32) % (11 : Int32)) * sq)))]) (fun _ z_ => XS.iadd X0.here hx rfl (hb hby at_87) rfl z_) ?_
    refine own_g (own_F T0 m 90 #[iv i0, iv i1, iv i2, iv i3, iv i4, iv nq, iv bg, iv sq, iv hi, iv aq, iv (aq + ((((i3.toUInt32 >>> ((1 : Int32) &&& 31).toUInt32).toInt32) % (11 : Int32)) * sq)), .unset, .unset, .unset, .unset, .unset, .unset] []) (fun _ z_ => XS.istore X0.here hx rfl (hb hby at_88) rfl (l' := #[iv i0, iv i1, iv i2, iv i3, iv i4, iv nq, iv bg, iv sq, iv hi, iv aq, iv (aq + ((((i3.toUInt32 >>> ((1 : Int32) &&& 31).toUInt32).toInt32) % (11 : Int32)) * sq)), .unset, .unset, .unset, .unset, .unset, .unset]) rfl z_) ?_
    refine own_g (own_F T0 m 112 #[iv i0, iv i1, iv i2, iv i3, iv i4, iv nq, iv bg, iv sq, iv hi, iv aq, iv (aq + ((((i3.toUInt32 >>> ((1 : Int32) &&& 31).toUInt32).toInt32) % (11 : Int32)) * sq)), .unset, .unset, .unset, .unset, .unset, .unset] []) (fun _ z_ => XS.goto X0.here hx rfl (pc0 := 90) (pc' := 112) rfl (hb hby at_90) (by decide) (by decide) z_) ?_
    exact J112 nq sq hnq hs bg hi aq hbg ha ha8 _ (own_x11 (own_sh1 i3) hs ha).1 (fun z => by have h1 := ha8 z; have h2 := (own_x11 (own_sh1 i3) hs ha).2; omega)
   · -- pc 73: not (i3 &&& (1 : Int32)) = (0 : Int32)
    refine own_g (own_F T0 m 93 #[iv i0, iv i1, iv i2, iv i3, iv i4, iv nq, iv bg, iv sq, iv hi, iv aq, .unset, .unset, .unset, .unset, .unset, .unset, .unset] []) (fun _ z_ => XS.ifYes X0.here hx rfl (pc0 := 73) (pc' := 93) rfl (hb hby at_73) rfl ((if0 _ _).trans (feq c73).2) (by decide) (by decide) z_) ?_
    refine own_g (own_F T0 m 95 #[iv i0, iv i1, iv i2, iv i3, iv i4, iv nq, iv bg, iv sq, iv hi, iv aq, .unset, .unset, .unset, .unset, .unset, .unset, .unset] [(.int bg)]) (fun _ z_ => XS.iload X0.here hx rfl (hb hby at_93) rfl z_) ?_
    by_cases c95 : bg = (0 : Int32)
    · -- pc 95: bg = (0 : Int32)
     refine own_g (own_F T0 m 107 #[iv i0, iv i1, iv i2, iv i3, iv i4, iv nq, iv bg, iv sq, iv hi, iv aq, .unset, .unset, .unset, .unset, .unset, .unset, .unset] []) (fun _ z_ => XS.ifYes X0.here hx rfl (pc0 := 95) (pc' := 107) rfl (hb hby at_95) rfl ((if0 _ _).trans (teq c95).1) (by decide) (by decide) z_) ?_
     refine own_g (own_F T0 m 108 #[iv i0, iv i1, iv i2, iv i3, iv i4, iv nq, iv bg, iv sq, iv hi, iv aq, .unset, .unset, .unset, .unset, .unset, .unset, .unset] [(.int i3)]) (fun _ z_ => XS.iloadN X0.here hx rfl (hb hby at_107) rfl z_) ?_
     refine own_g (own_F T0 m 109 #[iv i0, iv i1, iv i2, iv i3, iv i4, iv nq, iv bg, iv sq, iv hi, iv aq, .unset, .unset, .unset, .unset, .unset, .unset, .unset] [(.int 1), (.int i3)]) (fun _ z_ => XS.iconst X0.here hx rfl (hb hby at_108) z_) ?_
     refine own_g (own_F T0 m 110 #[iv i0, iv i1, iv i2, iv i3, iv i4, iv nq, iv bg, iv sq, iv hi, iv aq, .unset, .unset, .unset, .unset, .unset, .unset, .unset] [(.int ((i3.toUInt32 >>> ((1 : Int32) &&& 31).toUInt32).toInt32))]) (fun _ z_ => XS.iushr X0.here hx rfl (hb hby at_109) rfl z_) ?_
     refine own_g (own_F T0 m 112 #[iv i0, iv i1, iv i2, iv i3, iv i4, iv nq, iv bg, iv sq, iv hi, iv aq, iv ((i3.toUInt32 >>> ((1 : Int32) &&& 31).toUInt32).toInt32), .unset, .unset, .unset, .unset, .unset, .unset] []) (fun _ z_ => XS.istore X0.here hx rfl (hb hby at_110) rfl (l' := #[iv i0, iv i1, iv i2, iv i3, iv i4, iv nq, iv bg, iv sq, iv hi, iv aq, iv ((i3.toUInt32 >>> ((1 : Int32) &&& 31).toUInt32).toInt32), .unset, .unset, .unset, .unset, .unset, .unset]) rfl z_) ?_
     exact J112 nq sq hnq hs bg hi aq hbg ha ha8 _ (own_sh1 i3) (fun z => by rcases hbg with h | h; omega; exact absurd h.1 (by rw [c95]; decide))
    · -- pc 95: not bg = (0 : Int32)
     refine own_g (own_F T0 m 98 #[iv i0, iv i1, iv i2, iv i3, iv i4, iv nq, iv bg, iv sq, iv hi, iv aq, .unset, .unset, .unset, .unset, .unset, .unset, .unset] []) (fun _ z_ => XS.ifNo X0.here hx rfl (hb hby at_95) rfl ((if0 _ _).trans (feq c95).1) z_) ?_
     refine own_g (own_F T0 m 99 #[iv i0, iv i1, iv i2, iv i3, iv i4, iv nq, iv bg, iv sq, iv hi, iv aq, .unset, .unset, .unset, .unset, .unset, .unset, .unset] [(.int i3)]) (fun _ z_ => XS.iloadN X0.here hx rfl (hb hby at_98) rfl z_) ?_
     refine own_g (own_F T0 m 100 #[iv i0, iv i1, iv i2, iv i3, iv i4, iv nq, iv bg, iv sq, iv hi, iv aq, .unset, .unset, .unset, .unset, .unset, .unset, .unset] [(.int 1), (.int i3)]) (fun _ z_ => XS.iconst X0.here hx rfl (hb hby at_99) z_) ?_
     refine own_g (own_F T0 m 101 #[iv i0, iv i1, iv i2, iv i3, iv i4, iv nq, iv bg, iv sq, iv hi, iv aq, .unset, .unset, .unset, .unset, .unset, .unset, .unset] [(.int ((i3.toUInt32 >>> ((1 : Int32) &&& 31).toUInt32).toInt32))]) (fun _ z_ => XS.iushr X0.here hx rfl (hb hby at_100) rfl z_) ?_
     refine own_pre (S' := (own_F T0 m 103 #[iv i0, iv i1, iv i2, iv i3, iv i4, iv nq, iv bg, iv sq, iv hi, iv aq, .unset, .unset, .unset, .unset, .unset, .unset, .unset] [(.int 1048575), (.int ((i3.toUInt32 >>> ((1 : Int32) &&& 31).toUInt32).toInt32))])) (X0.ldcInt hx hown (mvT hZ (own_w hw 57)) (g := (mkF m 101 #[iv i0, iv i1, iv i2, iv i3, iv i4, iv nq, iv bg, iv sq, iv hi, iv aq, .unset, .unset, .unset, .unset, .unset, .unset, .unset] [(.int ((i3.toUInt32 >>> ((1 : Int32) &&& 31).toUInt32).toInt32))])) rfl (hb hby at_101)) ?_
     refine own_g (own_F T0 m 104 #[iv i0, iv i1, iv i2, iv i3, iv i4, iv nq, iv bg, iv sq, iv hi, iv aq, .unset, .unset, .unset, .unset, .unset, .unset, .unset] [(.int (((i3.toUInt32 >>> ((1 : Int32) &&& 31).toUInt32).toInt32) &&& (1048575 : Int32)))]) (fun _ z_ => XS.iand X0.here hx rfl (hb hby at_103) rfl z_) ?_
     refine own_g (own_F T0 m 110 #[iv i0, iv i1, iv i2, iv i3, iv i4, iv nq, iv bg, iv sq, iv hi, iv aq, .unset, .unset, .unset, .unset, .unset, .unset, .unset] [(.int (((i3.toUInt32 >>> ((1 : Int32) &&& 31).toUInt32).toInt32) &&& (1048575 : Int32)))]) (fun _ z_ => XS.goto X0.here hx rfl (pc0 := 104) (pc' := 110) rfl (hb hby at_104) (by decide) (by decide) z_) ?_
     refine own_g (own_F T0 m 112 #[iv i0, iv i1, iv i2, iv i3, iv i4, iv nq, iv bg, iv sq, iv hi, iv aq, iv (((i3.toUInt32 >>> ((1 : Int32) &&& 31).toUInt32).toInt32) &&& (1048575 : Int32)), .unset, .unset, .unset, .unset, .unset, .unset] []) (fun _ z_ => XS.istore X0.here hx rfl (hb hby at_110) rfl (l' := #[iv i0, iv i1, iv i2, iv i3, iv i4, iv nq, iv bg, iv sq, iv hi, iv aq, iv (((i3.toUInt32 >>> ((1 : Int32) &&& 31).toUInt32).toInt32) &&& (1048575 : Int32)), .unset, .unset, .unset, .unset, .unset, .unset]) rfl z_) ?_
     exact J112 nq sq hnq hs bg hi aq hbg ha ha8 _ (c_and _ 1048575 (by decide)).1 (fun _ => by have := (c_and ((i3.toUInt32 >>> ((1 : Int32) &&& 31).toUInt32).toInt32) 1048575 (by decide)).2; simp only [Int32.reduceToInt] at this; omega)
  refine own_g (own_F T0 m 1 #[iv i0, iv i1, iv i2, iv i3, iv i4, .unset, .unset, .unset, .unset, .unset, .unset, .unset, .unset, .unset, .unset, .unset, .unset] [(.int i2)]) (fun _ z_ => XS.iloadN X0.here hx rfl (hb hby at_0) rfl z_) ?_
  refine own_pre (S' := (own_F T0 m 3 #[iv i0, iv i1, iv i2, iv i3, iv i4, .unset, .unset, .unset, .unset, .unset, .unset, .unset, .unset, .unset, .unset, .unset, .unset] [(.int 2147483647), (.int i2)])) (X0.ldcInt hx hown (mvT hZ (own_w hw 0)) (g := (mkF m 1 #[iv i0, iv i1, iv i2, iv i3, iv i4, .unset, .unset, .unset, .unset, .unset, .unset, .unset, .unset, .unset, .unset, .unset, .unset] [(.int i2)])) rfl (hb hby at_1)) ?_
  refine own_g (own_F T0 m 4 #[iv i0, iv i1, iv i2, iv i3, iv i4, .unset, .unset, .unset, .unset, .unset, .unset, .unset, .unset, .unset, .unset, .unset, .unset] [(.int (i2 &&& (2147483647 : Int32)))]) (fun _ z_ => XS.iand X0.here hx rfl (hb hby at_3) rfl z_) ?_
  refine own_g (own_F T0 m 6 #[iv i0, iv i1, iv i2, iv i3, iv i4, .unset, .unset, .unset, .unset, .unset, .unset, .unset, .unset, .unset, .unset, .unset, .unset] [(.int 10), (.int (i2 &&& (2147483647 : Int32)))]) (fun _ z_ => XS.bipush X0.here hx rfl (hb hby at_4) z_) ?_
  refine own_g (own_F T0 m 7 #[iv i0, iv i1, iv i2, iv i3, iv i4, .unset, .unset, .unset, .unset, .unset, .unset, .unset, .unset, .unset, .unset, .unset, .unset] [(.int ((i2 &&& (2147483647 : Int32)) % (10 : Int32)))]) (fun _ z_ => iremM X0 hx rfl (hb hby at_6) rfl (by decide) z_) ?_
  generalize gn : ((i2 &&& (2147483647 : Int32)) % (10 : Int32)) = nq
  have hnq : 0 ≤ nq.toInt ∧ nq.toInt ≤ 9 := by rw [← gn]; exact own_nrem i2
  refine own_g (own_F T0 m 9 #[iv i0, iv i1, iv i2, iv i3, iv i4, iv nq, .unset, .unset, .unset, .unset, .unset, .unset, .unset, .unset, .unset, .unset, .unset] []) (fun _ z_ => XS.istore X0.here hx rfl (hb hby at_7) rfl (l' := #[iv i0, iv i1, iv i2, iv i3, iv i4, iv nq, .unset, .unset, .unset, .unset, .unset, .unset, .unset, .unset, .unset, .unset, .unset]) rfl z_) ?_
  refine own_g (own_F T0 m 11 #[iv i0, iv i1, iv i2, iv i3, iv i4, iv nq, .unset, .unset, .unset, .unset, .unset, .unset, .unset, .unset, .unset, .unset, .unset] [(.int nq)]) (fun _ z_ => XS.iload X0.here hx rfl (hb hby at_9) rfl z_) ?_
  refine own_g (own_F T0 m 13 #[iv i0, iv i1, iv i2, iv i3, iv i4, iv nq, .unset, .unset, .unset, .unset, .unset, .unset, .unset, .unset, .unset, .unset, .unset] [(.int 8), (.int nq)]) (fun _ z_ => XS.bipush X0.here hx rfl (hb hby at_11) z_) ?_
  by_cases c13 : nq < (8 : Int32)
  · -- pc 13: nq < (8 : Int32)
   refine own_g (own_F T0 m 20 #[iv i0, iv i1, iv i2, iv i3, iv i4, iv nq, .unset, .unset, .unset, .unset, .unset, .unset, .unset, .unset, .unset, .unset, .unset] []) (fun _ z_ => XS.icmpYes X0.here hx rfl (pc0 := 13) (pc' := 20) rfl (hb hby at_13) rfl (tlt c13).1 (by decide) (by decide) z_) ?_
   refine own_g (own_F T0 m 21 #[iv i0, iv i1, iv i2, iv i3, iv i4, iv nq, .unset, .unset, .unset, .unset, .unset, .unset, .unset, .unset, .unset, .unset, .unset] [(.int 0)]) (fun _ z_ => XS.iconst X0.here hx rfl (hb hby at_20) z_) ?_
   refine own_g (own_F T0 m 23 #[iv i0, iv i1, iv i2, iv i3, iv i4, iv nq, iv 0, .unset, .unset, .unset, .unset, .unset, .unset, .unset, .unset, .unset, .unset] []) (fun _ z_ => XS.istore X0.here hx rfl (hb hby at_21) rfl (l' := #[iv i0, iv i1, iv i2, iv i3, iv i4, iv nq, iv 0, .unset, .unset, .unset, .unset, .unset, .unset, .unset, .unset, .unset, .unset]) rfl z_) ?_
   refine own_g (own_F T0 m 24 #[iv i0, iv i1, iv i2, iv i3, iv i4, iv nq, iv 0, .unset, .unset, .unset, .unset, .unset, .unset, .unset, .unset, .unset, .unset] [(.int i1)]) (fun _ z_ => XS.iloadN X0.here hx rfl (hb hby at_23) rfl z_) ?_
   refine own_g (own_F T0 m 27 #[iv i0, iv i1, iv i2, iv i3, iv i4, iv nq, iv 0, .unset, .unset, .unset, .unset, .unset, .unset, .unset, .unset, .unset, .unset] [(.int 4095), (.int i1)]) (fun _ z_ => XS.sipush X0.here hx rfl (hb hby at_24) z_) ?_
   refine own_g (own_F T0 m 28 #[iv i0, iv i1, iv i2, iv i3, iv i4, iv nq, iv 0, .unset, .unset, .unset, .unset, .unset, .unset, .unset, .unset, .unset, .unset] [(.int (i1 &&& (4095 : Int32)))]) (fun _ z_ => XS.iand X0.here hx rfl (hb hby at_27) rfl z_) ?_
   refine own_g (own_F T0 m 29 #[iv i0, iv i1, iv i2, iv i3, iv i4, iv nq, iv 0, .unset, .unset, .unset, .unset, .unset, .unset, .unset, .unset, .unset, .unset] [(.int 1), (.int (i1 &&& (4095 : Int32)))]) (fun _ z_ => XS.iconst X0.here hx rfl (hb hby at_28) z_) ?_
   refine own_g (own_F T0 m 30 #[iv i0, iv i1, iv i2, iv i3, iv i4, iv nq, iv 0, .unset, .unset, .unset, .unset, .unset, .unset, .unset, .unset, .unset, .unset] [(.int ((i1 &&& (4095 : Int32)) + (1 : Int32)))]) (fun _ z_ => XS.iadd X0.here hx rfl (hb hby at_29) rfl z_) ?_
   generalize gs : ((i1 &&& (4095 : Int32)) + (1 : Int32)) = sq
   have hs : 0 < sq.toInt ∧ sq.toInt ≤ 4096 := by rw [← gs]; exact own_sq i1
   refine own_g (own_F T0 m 32 #[iv i0, iv i1, iv i2, iv i3, iv i4, iv nq, iv 0, iv sq, .unset, .unset, .unset, .unset, .unset, .unset, .unset, .unset, .unset] []) (fun _ z_ => XS.istore X0.here hx rfl (hb hby at_30) rfl (l' := #[iv i0, iv i1, iv i2, iv i3, iv i4, iv nq, iv 0, iv sq, .unset, .unset, .unset, .unset, .unset, .unset, .unset, .unset, .unset]) rfl z_) ?_
   refine own_g (own_F T0 m 33 #[iv i0, iv i1, iv i2, iv i3, iv i4, iv nq, iv 0, iv sq, .unset, .unset, .unset, .unset, .unset, .unset, .unset, .unset, .unset] [(.int i0)]) (fun _ z_ => XS.iloadN X0.here hx rfl (hb hby at_32) rfl z_) ?_
   refine own_pre (S' := (own_F T0 m 35 #[iv i0, iv i1, iv i2, iv i3, iv i4, iv nq, iv 0, iv sq, .unset, .unset, .unset, .unset, .unset, .unset, .unset, .unset, .unset] [(.int 2147483647), (.int i0)])) (X0.ldcInt hx hown (mvT hZ (own_w hw 0)) (g := (mkF m 33 #[iv i0, iv i1, iv i2, iv i3, iv i4, iv nq, iv 0, iv sq, .unset, .unset, .unset, .unset, .unset, .unset, .unset, .unset, .unset] [(.int i0)])) rfl (hb hby at_33)) ?_
   refine own_g (own_F T0 m 36 #[iv i0, iv i1, iv i2, iv i3, iv i4, iv nq, iv 0, iv sq, .unset, .unset, .unset, .unset, .unset, .unset, .unset, .unset, .unset] [(.int (i0 &&& (2147483647 : Int32)))]) (fun _ z_ => XS.iand X0.here hx rfl (hb hby at_35) rfl z_) ?_
   generalize gh : (i0 &&& (2147483647 : Int32)) = hi
   have hhi : 0 ≤ hi.toInt := by rw [← gh]; exact (c_and i0 2147483647 (by decide)).1
   refine own_g (own_F T0 m 38 #[iv i0, iv i1, iv i2, iv i3, iv i4, iv nq, iv 0, iv sq, iv hi, .unset, .unset, .unset, .unset, .unset, .unset, .unset, .unset] []) (fun _ z_ => XS.istore X0.here hx rfl (hb hby at_36) rfl (l' := #[iv i0, iv i1, iv i2, iv i3, iv i4, iv nq, iv 0, iv sq, iv hi, .unset, .unset, .unset, .unset, .unset, .unset, .unset, .unset]) rfl z_) ?_
   refine own_g (own_F T0 m 40 #[iv i0, iv i1, iv i2, iv i3, iv i4, iv nq, iv 0, iv sq, iv hi, .unset, .unset, .unset, .unset, .unset, .unset, .unset, .unset] [(.int 0)]) (fun _ z_ => XS.iload X0.here hx rfl (hb hby at_38) rfl z_) ?_
   refine own_g (own_F T0 m 51 #[iv i0, iv i1, iv i2, iv i3, iv i4, iv nq, iv 0, iv sq, iv hi, .unset, .unset, .unset, .unset, .unset, .unset, .unset, .unset] []) (fun _ z_ => XS.ifYes X0.here hx rfl (pc0 := 40) (pc' := 51) rfl (hb hby at_40) rfl ((if0 _ _).trans (teq (by decide : ((0 : Int32) = (0 : Int32)))).1) (by decide) (by decide) z_) ?_
   refine own_g (own_F T0 m 53 #[iv i0, iv i1, iv i2, iv i3, iv i4, iv nq, iv 0, iv sq, iv hi, .unset, .unset, .unset, .unset, .unset, .unset, .unset, .unset] [(.int hi)]) (fun _ z_ => XS.iload X0.here hx rfl (hb hby at_51) rfl z_) ?_
   refine own_pre (S' := (own_F T0 m 55 #[iv i0, iv i1, iv i2, iv i3, iv i4, iv nq, iv 0, iv sq, iv hi, .unset, .unset, .unset, .unset, .unset, .unset, .unset, .unset] [(.int 2147418112), (.int hi)])) (X0.ldcInt hx hown (mvT hZ (own_w hw 1)) (g := (mkF m 53 #[iv i0, iv i1, iv i2, iv i3, iv i4, iv nq, iv 0, iv sq, iv hi, .unset, .unset, .unset, .unset, .unset, .unset, .unset, .unset] [(.int hi)])) rfl (hb hby at_53)) ?_
   by_cases c55 : hi < (2147418112 : Int32)
   · -- pc 55: hi < (2147418112 : Int32)
    refine own_g (own_F T0 m 66 #[iv i0, iv i1, iv i2, iv i3, iv i4, iv nq, iv 0, iv sq, iv hi, .unset, .unset, .unset, .unset, .unset, .unset, .unset, .unset] []) (fun _ z_ => XS.icmpYes X0.here hx rfl (pc0 := 55) (pc' := 66) rfl (hb hby at_55) rfl (tlt c55).1 (by decide) (by decide) z_) ?_
    refine own_g (own_F T0 m 68 #[iv i0, iv i1, iv i2, iv i3, iv i4, iv nq, iv 0, iv sq, iv hi, .unset, .unset, .unset, .unset, .unset, .unset, .unset, .unset] [(.int hi)]) (fun _ z_ => XS.iload X0.here hx rfl (hb hby at_66) rfl z_) ?_
    refine own_g (own_F T0 m 70 #[iv i0, iv i1, iv i2, iv i3, iv i4, iv nq, iv 0, iv sq, iv hi, iv hi, .unset, .unset, .unset, .unset, .unset, .unset, .unset] []) (fun _ z_ => XS.istore X0.here hx rfl (hb hby at_68) rfl (l' := #[iv i0, iv i1, iv i2, iv i3, iv i4, iv nq, iv 0, iv sq, iv hi, iv hi, .unset, .unset, .unset, .unset, .unset, .unset, .unset]) rfl z_) ?_
    have hb13 :  nq.toInt < 8 := by simpa only [Int32.lt_iff_toInt_lt, Int32.reduceToInt] using c13
    have h55 := c55
    simp only [Int32.lt_iff_toInt_lt, Int32.reduceToInt] at h55
    exact J70 nq sq hnq hs _ hi _ (Or.inl ⟨rfl, hb13⟩) (by omega) (fun z => absurd z (by omega))
   · -- pc 55: not hi < (2147418112 : Int32)
    refine own_g (own_F T0 m 58 #[iv i0, iv i1, iv i2, iv i3, iv i4, iv nq, iv 0, iv sq, iv hi, .unset, .unset, .unset, .unset, .unset, .unset, .unset, .unset] []) (fun _ z_ => XS.icmpNo X0.here hx rfl (hb hby at_55) rfl (flt c55).1 z_) ?_
    refine own_g (own_F T0 m 60 #[iv i0, iv i1, iv i2, iv i3, iv i4, iv nq, iv 0, iv sq, iv hi, .unset, .unset, .unset, .unset, .unset, .unset, .unset, .unset] [(.int hi)]) (fun _ z_ => XS.iload X0.here hx rfl (hb hby at_58) rfl z_) ?_
    refine own_pre (S' := (own_F T0 m 62 #[iv i0, iv i1, iv i2, iv i3, iv i4, iv nq, iv 0, iv sq, iv hi, .unset, .unset, .unset, .unset, .unset, .unset, .unset, .unset] [(.int 65536), (.int hi)])) (X0.ldcInt hx hown (mvT hZ (own_w hw 110)) (g := (mkF m 60 #[iv i0, iv i1, iv i2, iv i3, iv i4, iv nq, iv 0, iv sq, iv hi, .unset, .unset, .unset, .unset, .unset, .unset, .unset, .unset] [(.int hi)])) rfl (hb hby at_60)) ?_
    refine own_g (own_F T0 m 63 #[iv i0, iv i1, iv i2, iv i3, iv i4, iv nq, iv 0, iv sq, iv hi, .unset, .unset, .unset, .unset, .unset, .unset, .unset, .unset] [(.int (hi - (65536 : Int32)))]) (fun _ z_ => XS.isub X0.here hx rfl (hb hby at_62) rfl z_) ?_
    refine own_g (own_F T0 m 68 #[iv i0, iv i1, iv i2, iv i3, iv i4, iv nq, iv 0, iv sq, iv hi, .unset, .unset, .unset, .unset, .unset, .unset, .unset, .unset] [(.int (hi - (65536 : Int32)))]) (fun _ z_ => XS.goto X0.here hx rfl (pc0 := 63) (pc' := 68) rfl (hb hby at_63) (by decide) (by decide) z_) ?_
    refine own_g (own_F T0 m 70 #[iv i0, iv i1, iv i2, iv i3, iv i4, iv nq, iv 0, iv sq, iv hi, iv (hi - (65536 : Int32)), .unset, .unset, .unset, .unset, .unset, .unset, .unset] []) (fun _ z_ => XS.istore X0.here hx rfl (hb hby at_68) rfl (l' := #[iv i0, iv i1, iv i2, iv i3, iv i4, iv nq, iv 0, iv sq, iv hi, iv (hi - (65536 : Int32)), .unset, .unset, .unset, .unset, .unset, .unset, .unset]) rfl z_) ?_
    have hb13 :  nq.toInt < 8 := by simpa only [Int32.lt_iff_toInt_lt, Int32.reduceToInt] using c13
    have h55 := c55
    simp only [Int32.lt_iff_toInt_lt, Int32.reduceToInt] at h55
    have hsub := c_isub hi 65536
    have rsub := rng32 (hi - 65536)
    have rhi := rng32 hi
    simp only [Int32.reduceToInt] at hsub
    exact J70 nq sq hnq hs _ hi _ (Or.inl ⟨rfl, hb13⟩) (by omega) (fun z => absurd z (by omega))
  · -- pc 13: not nq < (8 : Int32)
   refine own_g (own_F T0 m 16 #[iv i0, iv i1, iv i2, iv i3, iv i4, iv nq, .unset, .unset, .unset, .unset, .unset, .unset, .unset, .unset, .unset, .unset, .unset] []) (fun _ z_ => XS.icmpNo X0.here hx rfl (hb hby at_13) rfl (flt c13).1 z_) ?_
   refine own_g (own_F T0 m 17 #[iv i0, iv i1, iv i2, iv i3, iv i4, iv nq, .unset, .unset, .unset, .unset, .unset, .unset, .unset, .unset, .unset, .unset, .unset] [(.int 1)]) (fun _ z_ => XS.iconst X0.here hx rfl (hb hby at_16) z_) ?_
   refine own_g (own_F T0 m 21 #[iv i0, iv i1, iv i2, iv i3, iv i4, iv nq, .unset, .unset, .unset, .unset, .unset, .unset, .unset, .unset, .unset, .unset, .unset] [(.int 1)]) (fun _ z_ => XS.goto X0.here hx rfl (pc0 := 17) (pc' := 21) rfl (hb hby at_17) (by decide) (by decide) z_) ?_
   refine own_g (own_F T0 m 23 #[iv i0, iv i1, iv i2, iv i3, iv i4, iv nq, iv 1, .unset, .unset, .unset, .unset, .unset, .unset, .unset, .unset, .unset, .unset] []) (fun _ z_ => XS.istore X0.here hx rfl (hb hby at_21) rfl (l' := #[iv i0, iv i1, iv i2, iv i3, iv i4, iv nq, iv 1, .unset, .unset, .unset, .unset, .unset, .unset, .unset, .unset, .unset, .unset]) rfl z_) ?_
   refine own_g (own_F T0 m 24 #[iv i0, iv i1, iv i2, iv i3, iv i4, iv nq, iv 1, .unset, .unset, .unset, .unset, .unset, .unset, .unset, .unset, .unset, .unset] [(.int i1)]) (fun _ z_ => XS.iloadN X0.here hx rfl (hb hby at_23) rfl z_) ?_
   refine own_g (own_F T0 m 27 #[iv i0, iv i1, iv i2, iv i3, iv i4, iv nq, iv 1, .unset, .unset, .unset, .unset, .unset, .unset, .unset, .unset, .unset, .unset] [(.int 4095), (.int i1)]) (fun _ z_ => XS.sipush X0.here hx rfl (hb hby at_24) z_) ?_
   refine own_g (own_F T0 m 28 #[iv i0, iv i1, iv i2, iv i3, iv i4, iv nq, iv 1, .unset, .unset, .unset, .unset, .unset, .unset, .unset, .unset, .unset, .unset] [(.int (i1 &&& (4095 : Int32)))]) (fun _ z_ => XS.iand X0.here hx rfl (hb hby at_27) rfl z_) ?_
   refine own_g (own_F T0 m 29 #[iv i0, iv i1, iv i2, iv i3, iv i4, iv nq, iv 1, .unset, .unset, .unset, .unset, .unset, .unset, .unset, .unset, .unset, .unset] [(.int 1), (.int (i1 &&& (4095 : Int32)))]) (fun _ z_ => XS.iconst X0.here hx rfl (hb hby at_28) z_) ?_
   refine own_g (own_F T0 m 30 #[iv i0, iv i1, iv i2, iv i3, iv i4, iv nq, iv 1, .unset, .unset, .unset, .unset, .unset, .unset, .unset, .unset, .unset, .unset] [(.int ((i1 &&& (4095 : Int32)) + (1 : Int32)))]) (fun _ z_ => XS.iadd X0.here hx rfl (hb hby at_29) rfl z_) ?_
   generalize gs : ((i1 &&& (4095 : Int32)) + (1 : Int32)) = sq
   have hs : 0 < sq.toInt ∧ sq.toInt ≤ 4096 := by rw [← gs]; exact own_sq i1
   refine own_g (own_F T0 m 32 #[iv i0, iv i1, iv i2, iv i3, iv i4, iv nq, iv 1, iv sq, .unset, .unset, .unset, .unset, .unset, .unset, .unset, .unset, .unset] []) (fun _ z_ => XS.istore X0.here hx rfl (hb hby at_30) rfl (l' := #[iv i0, iv i1, iv i2, iv i3, iv i4, iv nq, iv 1, iv sq, .unset, .unset, .unset, .unset, .unset, .unset, .unset, .unset, .unset]) rfl z_) ?_
   refine own_g (own_F T0 m 33 #[iv i0, iv i1, iv i2, iv i3, iv i4, iv nq, iv 1, iv sq, .unset, .unset, .unset, .unset, .unset, .unset, .unset, .unset, .unset] [(.int i0)]) (fun _ z_ => XS.iloadN X0.here hx rfl (hb hby at_32) rfl z_) ?_
   refine own_pre (S' := (own_F T0 m 35 #[iv i0, iv i1, iv i2, iv i3, iv i4, iv nq, iv 1, iv sq, .unset, .unset, .unset, .unset, .unset, .unset, .unset, .unset, .unset] [(.int 2147483647), (.int i0)])) (X0.ldcInt hx hown (mvT hZ (own_w hw 0)) (g := (mkF m 33 #[iv i0, iv i1, iv i2, iv i3, iv i4, iv nq, iv 1, iv sq, .unset, .unset, .unset, .unset, .unset, .unset, .unset, .unset, .unset] [(.int i0)])) rfl (hb hby at_33)) ?_
   refine own_g (own_F T0 m 36 #[iv i0, iv i1, iv i2, iv i3, iv i4, iv nq, iv 1, iv sq, .unset, .unset, .unset, .unset, .unset, .unset, .unset, .unset, .unset] [(.int (i0 &&& (2147483647 : Int32)))]) (fun _ z_ => XS.iand X0.here hx rfl (hb hby at_35) rfl z_) ?_
   generalize gh : (i0 &&& (2147483647 : Int32)) = hi
   have hhi : 0 ≤ hi.toInt := by rw [← gh]; exact (c_and i0 2147483647 (by decide)).1
   refine own_g (own_F T0 m 38 #[iv i0, iv i1, iv i2, iv i3, iv i4, iv nq, iv 1, iv sq, iv hi, .unset, .unset, .unset, .unset, .unset, .unset, .unset, .unset] []) (fun _ z_ => XS.istore X0.here hx rfl (hb hby at_36) rfl (l' := #[iv i0, iv i1, iv i2, iv i3, iv i4, iv nq, iv 1, iv sq, iv hi, .unset, .unset, .unset, .unset, .unset, .unset, .unset, .unset]) rfl z_) ?_
   refine own_g (own_F T0 m 40 #[iv i0, iv i1, iv i2, iv i3, iv i4, iv nq, iv 1, iv sq, iv hi, .unset, .unset, .unset, .unset, .unset, .unset, .unset, .unset] [(.int 1)]) (fun _ z_ => XS.iload X0.here hx rfl (hb hby at_38) rfl z_) ?_
   refine own_g (own_F T0 m 43 #[iv i0, iv i1, iv i2, iv i3, iv i4, iv nq, iv 1, iv sq, iv hi, .unset, .unset, .unset, .unset, .unset, .unset, .unset, .unset] []) (fun _ z_ => XS.ifNo X0.here hx rfl (hb hby at_40) rfl ((if0 _ _).trans (feq (by decide : ¬ ((1 : Int32) = (0 : Int32)))).1) z_) ?_
   refine own_g (own_F T0 m 45 #[iv i0, iv i1, iv i2, iv i3, iv i4, iv nq, iv 1, iv sq, iv hi, .unset, .unset, .unset, .unset, .unset, .unset, .unset, .unset] [(.int hi)]) (fun _ z_ => XS.iload X0.here hx rfl (hb hby at_43) rfl z_) ?_
   refine own_pre (S' := (own_F T0 m 47 #[iv i0, iv i1, iv i2, iv i3, iv i4, iv nq, iv 1, iv sq, iv hi, .unset, .unset, .unset, .unset, .unset, .unset, .unset, .unset] [(.int 1048575), (.int hi)])) (X0.ldcInt hx hown (mvT hZ (own_w hw 57)) (g := (mkF m 45 #[iv i0, iv i1, iv i2, iv i3, iv i4, iv nq, iv 1, iv sq, iv hi, .unset, .unset, .unset, .unset, .unset, .unset, .unset, .unset] [(.int hi)])) rfl (hb hby at_45)) ?_
   refine own_g (own_F T0 m 48 #[iv i0, iv i1, iv i2, iv i3, iv i4, iv nq, iv 1, iv sq, iv hi, .unset, .unset, .unset, .unset, .unset, .unset, .unset, .unset] [(.int (hi &&& (1048575 : Int32)))]) (fun _ z_ => XS.iand X0.here hx rfl (hb hby at_47) rfl z_) ?_
   refine own_g (own_F T0 m 68 #[iv i0, iv i1, iv i2, iv i3, iv i4, iv nq, iv 1, iv sq, iv hi, .unset, .unset, .unset, .unset, .unset, .unset, .unset, .unset] [(.int (hi &&& (1048575 : Int32)))]) (fun _ z_ => XS.goto X0.here hx rfl (pc0 := 48) (pc' := 68) rfl (hb hby at_48) (by decide) (by decide) z_) ?_
   refine own_g (own_F T0 m 70 #[iv i0, iv i1, iv i2, iv i3, iv i4, iv nq, iv 1, iv sq, iv hi, iv (hi &&& (1048575 : Int32)), .unset, .unset, .unset, .unset, .unset, .unset, .unset] []) (fun _ z_ => XS.istore X0.here hx rfl (hb hby at_68) rfl (l' := #[iv i0, iv i1, iv i2, iv i3, iv i4, iv nq, iv 1, iv sq, iv hi, iv (hi &&& (1048575 : Int32)), .unset, .unset, .unset, .unset, .unset, .unset, .unset]) rfl z_) ?_
   have hb13 : ¬ nq.toInt < 8 := by simpa only [Int32.lt_iff_toInt_lt, Int32.reduceToInt] using c13
   have hand := c_and hi 1048575 (by decide)
   simp only [Int32.reduceToInt] at hand
   exact J70 nq sq hnq hs _ hi _ (Or.inr ⟨rfl, by omega⟩) (by omega) (fun _ => hand.2)
set_option maxRecDepth 65536 in
set_option maxHeartbeats 40000000 in
theorem comes_1 {Post : Tables → Env → Array Value → State → Outcome → State → Prop} (hpost : ∀ tb e args s v u, (limb_1_1.after args s (.returned v) u = true ∧ limb_1_2.after args s (.returned v) u = true ∧ True) → FrameEnd s (.returned v) u (Jvm.fieldLocs frame_1_writes args s ++ Jvm.arrayLocs frame_1_arrays args s ++ Jvm.staticLocs frame_1_statics s) 32 98432 → Post tb e args s (.returned v) u) :
    ArmFor flags0 classFile x code maxLocals ret World_1 tables_1 room_1 Calls_1 rest_1 Pre_1 Post := by
  intro l hfl _ _ p e ha hc hk s m args below hf hA hF happ hP
  obtain ⟨hcalls, hrest, hpre⟩ := hP
  obtain ⟨-, -, -, hnamed, -, -, -, hat⟩ := (Spec.applies_iff hf).mp happ
  obtain ⟨hg, hn⟩ := and_e (Cond.before_iff.mp (show (Jvm.Cond.and given_1 narrow_1).before args s = true from hpre))
  obtain ⟨hcount, hgg⟩ := and_e hg
  obtain ⟨hk0, hgg0⟩ := and_e hgg
  obtain ⟨hk1, hgg1⟩ := and_e hgg0
  obtain ⟨hk2, hgg2⟩ := and_e hgg1
  obtain ⟨hk3, hk4⟩ := and_e hgg2
  obtain ⟨w0, w1, w2, w3, w4, rfl⟩ : ∃ w0 w1 w2 w3 w4 : Value, args = #[w0, w1, w2, w3, w4] := by
    have hs : args.size = 5 := by simpa [Cond.value, given_1] using hcount
    obtain ⟨L⟩ := args
    match L, hs with
    | [w0, w1, w2, w3, w4], _ => exact ⟨w0, w1, w2, w3, w4, rfl⟩
  have hw := fun d (hd : d ∈ tables_1) => atoms_spec (ws := Jvm.Cond.code x code maxLocals ret :: tables_1) hat d (List.mem_cons_of_mem _ hd)
  have hfit : Fit s := fun {y c} hc i hi => by
    obtain ⟨ha, rfl⟩ := Array.getElem?_eq_some_iff.mp hc
    have q := List.all_eq_true.mp ((Array.all_eq_true_iff_forall_mem.mp hF) _ (Array.getElem_mem ha)) i (List.mem_range.mpr hi)
    simpa [Array.getElem?_eq_getElem hi] using q
  obtain ⟨i0, ei0⟩ := is_v hk0
  obtain rfl : w0 = (.int i0) := Option.some.inj ei0
  obtain ⟨i1, ei1⟩ := is_v hk1
  obtain rfl : w1 = (.int i1) := Option.some.inj ei1
  obtain ⟨i2, ei2⟩ := is_v hk2
  obtain rfl : w2 = (.int i2) := Option.some.inj ei2
  obtain ⟨i3, ei3⟩ := is_v hk3
  obtain rfl : w3 = (.int i3) := Option.some.inj ei3
  obtain ⟨i4, ei4⟩ := is_v hk4
  obtain rfl : w4 = (.int i4) := Option.some.inj ei4
  obtain ⟨hsets, -⟩ := atoms_of jdkStatics_1 (by rw [← rest_1_c_eq]; exact hrest)
  have S_ad := Sta.start (own_eqi (Cond.before_iff.mp (hsets _ (List.mem_of_getElem? (i := 2) rfl)))) (Or.inl (hsets _ (List.mem_of_getElem? (i := 1) rfl)))
  obtain ⟨n, o, h1, h2, h3, _, L, rfl, ⟨rfl, N⟩, hq⟩ := own_law l s _ hw tables_1 i0 i1 i2 i3 i4 s.heap s.heap.size (Nat.le_refl _) S_ad p e ha hc hk s m _ below hf ((Spec.applies_iff_loose hf).mp happ).1 ⟨rfl, State.Warmed39.refl s, rfl⟩ trivial
  refine ⟨n, _, h1, h2, h3, hpost _ _ _ _ _ _ ⟨Cond.after_iff.mpr rfl, Cond.after_iff.mpr (eq_i res_at (Term.int_eval (1)) rfl), trivial⟩ ⟨hq.1, hq.2.1, (hq.2.2.sift fun y hy => Or.inr (N y hy)).mono (by decide) (by decide)⟩⟩
theorem main_1_1 : Claimed_1_1 := comes_1 fun _ _ _ _ _ _ h hF => ⟨h.1, hF⟩
theorem main_1_2 : Claimed_1_2 := comes_1 fun _ _ _ _ _ _ h hF => ⟨h.2.1, hF⟩
end Jvm.Pilot.@@N@@
namespace Jvm.Pilot.@@N@@
open Jvm Jvm.ClassFile Sem Op Lib Jvm.Free Jvm.Stand Jvm.Pilot.@@N@@.Jvm.D
/-! MADE BY PROGRAM (witnessworld.py) out of the Statement's table words and the real class files: 15 classes; the members and pool entries that the words name. The judged class is class 1, her method 1. -/
namespace start1
open Jvm.ClassFile
def u (s : String) : CpInfo := .utf8 (stringToUtf16 s)
/-- a pool by its gaps: so many unusable entries, then the entry; so many at the end -/
def gap : Nat → List CpInfo → List CpInfo
  | 0, r => r
  | n + 1, r => .unusable :: gap n r
def poolList (es : List (Nat × CpInfo)) (last : Nat) : List CpInfo := es.foldr (fun e r => gap e.1 (e.2 :: r)) (gap last [])
def pool (es : List (Nat × CpInfo)) (last : Nat) : Array CpInfo := ⟨poolList es last⟩
def fileOf (pool : Array CpInfo) (this : Nat) (attrs : Array Attribute := #[]) (ms : Array MethodInfo := #[]) (fl : Nat := 33) (sup : Nat := 0) (ifs : Array Nat := #[]) (fds : Array FieldInfo := #[]) : ClassFile where
  minorVersion := 0
  majorVersion := 65
  constantPool := pool
  accessFlags := fl
  thisClass := this
  superClass := sup
  interfaces := ifs
  fields := fds
  methods := ms
  attributes := attrs
def plain (name : String) (sup : Option ClassId) : Class where
  name := name
  kind := .ordinary
  loader := none
  accessFlags := 33
  super := sup
  interfaces := #[]
  cf := none
  fields := #[]
  methods := #[]
  instanceTypes := #[]
  staticTypes := #[]
  resolved := #[]
  callSites := []
  init := .initialized
  statics := none
  mirror := none

def pool0 : Array CpInfo := pool [(5, u "<init>"), (0, u "()V"), (1, .class_ 10), (1, u "java/lang/Object")] 113

def k0c0 : Code := { maxStack := 0, maxLocals := 1, code := object_method_1_code, exceptionTable := #[], attributes := #[] }
def k0m0 : Method := { name := "<init>", desc := "()V", sig := { parameters := [], returnType := none }, accessFlags := 1, code := some k0c0 }
/-- java/lang/Object -/
def k0 : Class := { plain "java/lang/Object" none with
  accessFlags := 33
  interfaces := #[]
  cf := some (fileOf pool0 8 #[] #[{ accessFlags := 1, nameIndex := 5, descriptorIndex := 6, attributes := #[] }] 33 0 #[] #[])
  fields := #[]
  methods := #[k0m0]
  instanceTypes := #[]
  staticTypes := #[]
  resolved := Array.replicate 124 none
  statics := none }

def pool1 : Array CpInfo := pool [(2, .class_ 4), (0, .nameAndType 5 6), (0, u "java/lang/Object"), (0, u "<init>"), (0, u "()V"), (0, .integer 2147483647), (0, .integer 1048575), (0, .integer 2147418112), (0, .integer 65536), (0, .class_ 12), (0, u "com/example/kunci/kunci/NumberSet"), (0, .methodref 11 3), (0, .methodref 11 15), (0, .nameAndType 16 17), (0, u "add"), (0, u "(I)Z"), (0, .methodref 19 20), (0, .class_ 21), (0, .nameAndType 22 23), (0, u "com/example/kunci/kunci/NumberSetAddPinLaw"), (0, u "inRun"), (0, u "(IIII)Z"), (0, .methodref 11 25), (0, .nameAndType 26 27), (0, u "size"), (0, u "()I"), (0, .methodref 11 29), (0, .nameAndType 30 17), (0, u "contains"), (2, u "law"), (0, u "(IIIII)Z")] 3

def k1m0 : Method := { name := "<init>", desc := "()V", sig := { parameters := [], returnType := none }, accessFlags := 1, code := none }
def k1c1 : Code := { maxStack := 6, maxLocals := 17, code := code, exceptionTable := #[], attributes := #[] }
def k1m1 : Method := { name := "law", desc := "(IIIII)Z", sig := { parameters := [.int, .int, .int, .int, .int], returnType := some .boolean }, accessFlags := 9, code := some k1c1 }
def k1c2 : Code := { maxStack := 2, maxLocals := 5, code := method_3_code, exceptionTable := #[], attributes := #[] }
def k1m2 : Method := { name := "inRun", desc := "(IIII)Z", sig := { parameters := [.int, .int, .int, .int], returnType := some .boolean }, accessFlags := 10, code := some k1c2 }
/-- com/example/kunci/kunci/NumberSetAddPinLaw -/
def k1 : Class := { plain "com/example/kunci/kunci/NumberSetAddPinLaw" (some 0) with
  accessFlags := 49
  interfaces := #[]
  cf := some (fileOf pool1 19 #[] #[{ accessFlags := 1, nameIndex := 5, descriptorIndex := 6, attributes := #[] }, { accessFlags := 9, nameIndex := 33, descriptorIndex := 34, attributes := #[] }, { accessFlags := 10, nameIndex := 22, descriptorIndex := 23, attributes := #[] }] 49 2 #[] #[])
  fields := #[]
  methods := #[k1m0, k1m1, k1m2]
  instanceTypes := #[]
  staticTypes := #[]
  resolved := Array.replicate 38 none
  statics := none }

def pool2 : Array CpInfo := pool [(1, .methodref 2 3), (0, .class_ 4), (0, .nameAndType 5 6), (0, u "java/lang/Object"), (0, u "<init>"), (0, u "()V"), (0, .fieldref 8 9), (0, .class_ 10), (0, .nameAndType 11 12), (0, u "com/example/kunci/kunci/NumberSet"), (0, u "numbers"), (0, u "[I"), (0, .methodref 8 14), (0, .nameAndType 15 16), (0, u "contains"), (0, u "(I)Z"), (0, .fieldref 8 18), (0, .nameAndType 19 20), (0, u "bits"), (0, u "Ljava/util/BitSet;"), (0, .methodref 22 23), (0, .class_ 24), (0, .nameAndType 25 26), (0, u "java/util/BitSet"), (0, u "set"), (0, u "(I)V"), (0, .fieldref 8 28), (0, .nameAndType 29 30), (0, u "size"), (0, u "I"), (0, .methodref 32 33), (0, .class_ 34), (0, .nameAndType 35 36), (0, u "java/lang/Math"), (0, u "max"), (0, u "(II)I"), (0, .methodref 38 39), (0, .class_ 40), (0, .nameAndType 41 42), (0, u "java/util/Arrays"), (0, u "copyOf"), (0, u "([II)[I"), (0, .methodref 22 3), (0, .methodref 8 45), (0, .nameAndType 46 16), (0, u "holdsAmongFew"), (0, .methodref 22 48), (0, .nameAndType 49 16), (0, u "get"), (19, u "FEW"), (4, u "add"), (1, u "()I")] 5

def k2c0 : Code := { maxStack := 2, maxLocals := 1, code := prog_3_method_1_code, exceptionTable := #[], attributes := #[] }
def k2m0 : Method := { name := "<init>", desc := "()V", sig := { parameters := [], returnType := none }, accessFlags := 0, code := some k2c0 }
def k2c1 : Code := { maxStack := 5, maxLocals := 3, code := prog_3_method_2_code, exceptionTable := #[], attributes := #[] }
def k2m1 : Method := { name := "add", desc := "(I)Z", sig := { parameters := [.int], returnType := some .boolean }, accessFlags := 0, code := some k2c1 }
def k2c2 : Code := { maxStack := 2, maxLocals := 2, code := prog_3_method_3_code, exceptionTable := #[], attributes := #[] }
def k2m2 : Method := { name := "contains", desc := "(I)Z", sig := { parameters := [.int], returnType := some .boolean }, accessFlags := 0, code := some k2c2 }
def k2c3 : Code := { maxStack := 1, maxLocals := 1, code := prog_3_method_4_code, exceptionTable := #[], attributes := #[] }
def k2m3 : Method := { name := "size", desc := "()I", sig := { parameters := [], returnType := some .int }, accessFlags := 0, code := some k2c3 }
def k2c4 : Code := { maxStack := 2, maxLocals := 3, code := prog_3_method_7_code, exceptionTable := #[], attributes := #[] }
def k2m4 : Method := { name := "holdsAmongFew", desc := "(I)Z", sig := { parameters := [.int], returnType := some .boolean }, accessFlags := 2, code := some k2c4 }
/-- com/example/kunci/kunci/NumberSet -/
def k2 : Class := { plain "com/example/kunci/kunci/NumberSet" (some 0) with
  accessFlags := 32
  interfaces := #[]
  cf := some (fileOf pool2 8 #[] #[{ accessFlags := 0, nameIndex := 5, descriptorIndex := 6, attributes := #[] }, { accessFlags := 0, nameIndex := 74, descriptorIndex := 16, attributes := #[] }, { accessFlags := 0, nameIndex := 15, descriptorIndex := 16, attributes := #[] }, { accessFlags := 0, nameIndex := 29, descriptorIndex := 76, attributes := #[] }, { accessFlags := 2, nameIndex := 46, descriptorIndex := 16, attributes := #[] }] 32 2 #[] #[{ accessFlags := 26, nameIndex := 69, descriptorIndex := 30, attributes := #[] }, { accessFlags := 2, nameIndex := 11, descriptorIndex := 12, attributes := #[] }, { accessFlags := 2, nameIndex := 29, descriptorIndex := 30, attributes := #[] }, { accessFlags := 2, nameIndex := 19, descriptorIndex := 20, attributes := #[] }])
  fields := #[{ name := "FEW", type := .int, accessFlags := 26, slot := 0, constantValue := 0 }, { name := "numbers", type := (.array .int), accessFlags := 2, slot := 0, constantValue := 0 }, { name := "size", type := .int, accessFlags := 2, slot := 1, constantValue := 0 }, { name := "bits", type := (.object "java/util/BitSet"), accessFlags := 2, slot := 2, constantValue := 0 }]
  methods := #[k2m0, k2m1, k2m2, k2m3, k2m4]
  instanceTypes := #[(.array .int), .int, (.object "java/util/BitSet")]
  staticTypes := #[.int]
  resolved := Array.replicate 82 none
  statics := none }

def pool3 : Array CpInfo := pool [(1, .class_ 2), (0, u "java/lang/Math"), (1, .class_ 6), (1, u "java/lang/Object"), (0, u "<init>"), (0, u "()V"), (89, .class_ 100), (1, u "java/lang/Math$RandomNumberGeneratorHolder"), (71, u "negativeZeroFloatBits"), (0, u "J"), (2, u "negativeZeroDoubleBits"), (21, u "max"), (2, u "min"), (43, u "$assertionsDisabled"), (0, u "Z"), (88, u "(II)I"), (2, u "twoToTheDoubleScaleDown"), (0, u "D"), (4, u "twoToTheDoubleScaleUp"), (9, u "E"), (3, u "PI"), (2, u "TAU"), (2, u "DEGREES_TO_RADIANS"), (0, u "RADIANS_TO_DEGREES")] 94

def k3m0 : Method := { name := "<init>", desc := "()V", sig := { parameters := [], returnType := none }, accessFlags := 2, code := none }
def k3c1 : Code := { maxStack := 2, maxLocals := 2, code := jdk_29_method_65_code, exceptionTable := #[], attributes := #[] }
def k3m1 : Method := { name := "max", desc := "(II)I", sig := { parameters := [.int, .int], returnType := some .int }, accessFlags := 9, code := some k3c1 }
def k3c2 : Code := { maxStack := 2, maxLocals := 2, code := jdk_29_method_69_code, exceptionTable := #[], attributes := #[] }
def k3m2 : Method := { name := "min", desc := "(II)I", sig := { parameters := [.int, .int], returnType := some .int }, accessFlags := 9, code := some k3c2 }
/-- java/lang/Math -/
def k3 : Class := { plain "java/lang/Math" (some 0) with
  accessFlags := 49
  interfaces := #[]
  cf := some (fileOf pool3 1 #[.nestMembers #[98]] #[{ accessFlags := 2, nameIndex := 7, descriptorIndex := 8, attributes := #[] }, { accessFlags := 9, nameIndex := 198, descriptorIndex := 335, attributes := #[] }, { accessFlags := 9, nameIndex := 201, descriptorIndex := 335, attributes := #[] }] 49 4 #[] #[{ accessFlags := 25, nameIndex := 354, descriptorIndex := 339, attributes := #[] }, { accessFlags := 25, nameIndex := 358, descriptorIndex := 339, attributes := #[] }, { accessFlags := 25, nameIndex := 361, descriptorIndex := 339, attributes := #[] }, { accessFlags := 26, nameIndex := 364, descriptorIndex := 339, attributes := #[] }, { accessFlags := 26, nameIndex := 365, descriptorIndex := 339, attributes := #[] }, { accessFlags := 26, nameIndex := 172, descriptorIndex := 173, attributes := #[] }, { accessFlags := 26, nameIndex := 176, descriptorIndex := 173, attributes := #[] }, { accessFlags := 8, nameIndex := 344, descriptorIndex := 339, attributes := #[] }, { accessFlags := 8, nameIndex := 338, descriptorIndex := 339, attributes := #[] }, { accessFlags := 4120, nameIndex := 245, descriptorIndex := 246, attributes := #[] }])
  fields := #[{ name := "E", type := .double, accessFlags := 25, slot := 0, constantValue := 0 }, { name := "PI", type := .double, accessFlags := 25, slot := 1, constantValue := 0 }, { name := "TAU", type := .double, accessFlags := 25, slot := 2, constantValue := 0 }, { name := "DEGREES_TO_RADIANS", type := .double, accessFlags := 26, slot := 3, constantValue := 0 }, { name := "RADIANS_TO_DEGREES", type := .double, accessFlags := 26, slot := 4, constantValue := 0 }, { name := "negativeZeroFloatBits", type := .long, accessFlags := 26, slot := 5, constantValue := 0 }, { name := "negativeZeroDoubleBits", type := .long, accessFlags := 26, slot := 6, constantValue := 0 }, { name := "twoToTheDoubleScaleUp", type := .double, accessFlags := 8, slot := 7, constantValue := 0 }, { name := "twoToTheDoubleScaleDown", type := .double, accessFlags := 8, slot := 8, constantValue := 0 }, { name := "$assertionsDisabled", type := .boolean, accessFlags := 4120, slot := 9, constantValue := 0 }]
  methods := #[k3m0, k3m1, k3m2]
  instanceTypes := #[]
  staticTypes := #[.double, .double, .double, .double, .double, .long, .long, .double, .double, .boolean]
  resolved := Array.replicate 460 none
  statics := none }

def pool4 : Array CpInfo := pool [(2, .class_ 4), (1, u "java/lang/Object"), (0, u "<init>"), (0, u "()V"), (7, .class_ 16), (1, u "java/util/Arrays"), (57, .class_ 76), (1, u "java/util/Arrays$NaturalOrder"), (36, .class_ 115), (1, u "java/util/Arrays$LegacyMergeSort"), (1, u "Z"), (32, .methodref 151 152), (0, .class_ 153), (0, .nameAndType 154 155), (0, u "java/lang/System"), (0, u "arraycopy"), (0, u "(Ljava/lang/Object;ILjava/lang/Object;II)V"), (146, u "copyOf"), (1, .methodref 305 306), (0, .class_ 307), (0, .nameAndType 308 309), (0, u "java/lang/Math"), (0, u "min"), (0, u "(II)I"), (65, .class_ 376), (0, u "java/util/Arrays$ArrayList"), (68, u "$assertionsDisabled"), (269, u "MIN_ARRAY_SORT_GRAN"), (0, u "I"), (2, u "INSERTIONSORT_THRESHOLD"), (151, u "([II)[I"), (0, u "([JI)[J"), (102, .class_ 976), (0, u "java/util/Arrays$ArrayItr")] 52

def k4m0 : Method := { name := "<init>", desc := "()V", sig := { parameters := [], returnType := none }, accessFlags := 2, code := none }
def k4c1 : Code := { maxStack := 6, maxLocals := 3, code := jdk_65_method_123_code, exceptionTable := #[], attributes := #[] }
def k4m1 : Method := { name := "copyOf", desc := "([II)[I", sig := { parameters := [(.array .int), .int], returnType := some (.array .int) }, accessFlags := 9, code := some k4c1 }
def k4c2 : Code := { maxStack := 6, maxLocals := 3, code := jdk_65_method_124_code, exceptionTable := #[], attributes := #[] }
def k4m2 : Method := { name := "copyOf", desc := "([JI)[J", sig := { parameters := [(.array .long), .int], returnType := some (.array .long) }, accessFlags := 9, code := some k4c2 }
/-- java/util/Arrays -/
def k4 : Class := { plain "java/util/Arrays" (some 0) with
  accessFlags := 49
  interfaces := #[]
  cf := some (fileOf pool4 14 #[.nestMembers #[975, 375, 113, 74]] #[{ accessFlags := 2, nameIndex := 5, descriptorIndex := 6, attributes := #[] }, { accessFlags := 9, nameIndex := 302, descriptorIndex := 871, attributes := #[] }, { accessFlags := 9, nameIndex := 302, descriptorIndex := 872, attributes := #[] }] 49 2 #[] #[{ accessFlags := 26, nameIndex := 715, descriptorIndex := 716, attributes := #[] }, { accessFlags := 26, nameIndex := 719, descriptorIndex := 716, attributes := #[] }, { accessFlags := 4120, nameIndex := 445, descriptorIndex := 117, attributes := #[] }])
  fields := #[{ name := "MIN_ARRAY_SORT_GRAN", type := .int, accessFlags := 26, slot := 0, constantValue := 0 }, { name := "INSERTIONSORT_THRESHOLD", type := .int, accessFlags := 26, slot := 1, constantValue := 0 }, { name := "$assertionsDisabled", type := .boolean, accessFlags := 4120, slot := 2, constantValue := 0 }]
  methods := #[k4m0, k4m1, k4m2]
  instanceTypes := #[]
  staticTypes := #[.int, .int, .boolean]
  resolved := Array.replicate 1029 none
  statics := none }

def pool5 : Array CpInfo := pool [(2, .class_ 4), (1, u "java/lang/Object"), (0, u "<init>"), (0, u "()V"), (1, .class_ 10), (1, u "java/lang/System"), (0, u "allowSecurityManager"), (0, u "I"), (16, u "cons"), (0, u "Ljava/io/Console;"), (77, .class_ 110), (1, u "java/lang/System$CallersHolder"), (43, u "initialErrStream"), (0, u "Ljava/io/PrintStream;"), (19, u "security"), (0, u "Ljava/lang/SecurityManager;"), (31, .class_ 209), (0, u "java/lang/System$1"), (7, u "props"), (0, u "Ljava/util/Properties;"), (2, u "lineSeparator"), (0, u "Ljava/lang/String;"), (96, .class_ 321), (1, u "java/lang/System$LoggerFinder"), (5, .class_ 328), (0, u "java/lang/System$Logger"), (67, u "err"), (2, u "out"), (91, u "notSupportedJnuEncoding"), (15, u "in"), (17, u "initialIn"), (0, u "Ljava/io/InputStream;"), (35, u "bootLayer"), (0, u "Ljava/lang/ModuleLayer;"), (99, .class_ 664), (0, u "java/lang/System$2"), (9, u "NEVER"), (2, u "MAYBE"), (49, u "arraycopy"), (0, u "(Ljava/lang/Object;ILjava/lang/Object;II)V"), (72, .class_ 802), (0, u "java/lang/System$Logger$Level")] 31

def k5m0 : Method := { name := "<init>", desc := "()V", sig := { parameters := [], returnType := none }, accessFlags := 2, code := none }
def k5m1 : Method := { name := "arraycopy", desc := "(Ljava/lang/Object;ILjava/lang/Object;II)V", sig := { parameters := [(.object "java/lang/Object"), .int, (.object "java/lang/Object"), .int, .int], returnType := none }, accessFlags := 265, code := none }
/-- java/lang/System -/
def k5 : Class := { plain "java/lang/System" (some 0) with
  accessFlags := 49
  interfaces := #[]
  cf := some (fileOf pool5 8 #[.nestMembers #[319, 327, 801, 108, 663, 208]] #[{ accessFlags := 2, nameIndex := 5, descriptorIndex := 6, attributes := #[] }, { accessFlags := 265, nameIndex := 727, descriptorIndex := 728, attributes := #[] }] 49 2 #[] #[{ accessFlags := 25, nameIndex := 507, descriptorIndex := 526, attributes := #[] }, { accessFlags := 25, nameIndex := 399, descriptorIndex := 155, attributes := #[] }, { accessFlags := 25, nameIndex := 396, descriptorIndex := 155, attributes := #[] }, { accessFlags := 10, nameIndex := 525, descriptorIndex := 526, attributes := #[] }, { accessFlags := 26, nameIndex := 674, descriptorIndex := 12, attributes := #[] }, { accessFlags := 26, nameIndex := 677, descriptorIndex := 12, attributes := #[] }, { accessFlags := 10, nameIndex := 11, descriptorIndex := 12, attributes := #[] }, { accessFlags := 74, nameIndex := 175, descriptorIndex := 176, attributes := #[] }, { accessFlags := 10, nameIndex := 491, descriptorIndex := 222, attributes := #[] }, { accessFlags := 74, nameIndex := 29, descriptorIndex := 30, attributes := #[] }, { accessFlags := 74, nameIndex := 154, descriptorIndex := 155, attributes := #[] }, { accessFlags := 10, nameIndex := 217, descriptorIndex := 218, attributes := #[] }, { accessFlags := 10, nameIndex := 221, descriptorIndex := 222, attributes := #[] }, { accessFlags := 8, nameIndex := 562, descriptorIndex := 563, attributes := #[] }])
  fields := #[{ name := "in", type := (.object "java/io/InputStream"), accessFlags := 25, slot := 0, constantValue := 0 }, { name := "out", type := (.object "java/io/PrintStream"), accessFlags := 25, slot := 1, constantValue := 0 }, { name := "err", type := (.object "java/io/PrintStream"), accessFlags := 25, slot := 2, constantValue := 0 }, { name := "initialIn", type := (.object "java/io/InputStream"), accessFlags := 10, slot := 3, constantValue := 0 }, { name := "NEVER", type := .int, accessFlags := 26, slot := 4, constantValue := 0 }, { name := "MAYBE", type := .int, accessFlags := 26, slot := 5, constantValue := 0 }, { name := "allowSecurityManager", type := .int, accessFlags := 10, slot := 6, constantValue := 0 }, { name := "security", type := (.object "java/lang/SecurityManager"), accessFlags := 74, slot := 7, constantValue := 0 }, { name := "notSupportedJnuEncoding", type := (.object "java/lang/String"), accessFlags := 10, slot := 8, constantValue := 0 }, { name := "cons", type := (.object "java/io/Console"), accessFlags := 74, slot := 9, constantValue := 0 }, { name := "initialErrStream", type := (.object "java/io/PrintStream"), accessFlags := 74, slot := 10, constantValue := 0 }, { name := "props", type := (.object "java/util/Properties"), accessFlags := 10, slot := 11, constantValue := 0 }, { name := "lineSeparator", type := (.object "java/lang/String"), accessFlags := 10, slot := 12, constantValue := 0 }, { name := "bootLayer", type := (.object "java/lang/ModuleLayer"), accessFlags := 8, slot := 13, constantValue := 0 }]
  methods := #[k5m0, k5m1]
  instanceTypes := #[]
  staticTypes := #[(.object "java/io/InputStream"), (.object "java/io/PrintStream"), (.object "java/io/PrintStream"), (.object "java/io/InputStream"), .int, .int, .int, (.object "java/lang/SecurityManager"), (.object "java/lang/String"), (.object "java/io/Console"), (.object "java/io/PrintStream"), (.object "java/util/Properties"), (.object "java/lang/String"), (.object "java/lang/ModuleLayer")]
  resolved := Array.replicate 834 none
  statics := none }

def pool6 : Array CpInfo := pool [(1, .class_ 2), (0, u "java/lang/Cloneable"), (0, .class_ 4), (0, u "java/lang/Object")] 2

/-- java/lang/Cloneable -/
def k6 : Class := { plain "java/lang/Cloneable" (some 0) with
  accessFlags := 1537
  interfaces := #[]
  cf := some (fileOf pool6 1 #[] #[] 1537 3 #[] #[])
  fields := #[]
  methods := #[]
  instanceTypes := #[]
  staticTypes := #[]
  resolved := Array.replicate 7 none
  statics := none }

def pool7 : Array CpInfo := pool [(1, .class_ 2), (0, u "java/io/Serializable"), (0, .class_ 4), (0, u "java/lang/Object")] 2

/-- java/io/Serializable -/
def k7 : Class := { plain "java/io/Serializable" (some 0) with
  accessFlags := 1537
  interfaces := #[]
  cf := some (fileOf pool7 1 #[] #[] 1537 3 #[] #[])
  fields := #[]
  methods := #[]
  instanceTypes := #[]
  staticTypes := #[]
  resolved := Array.replicate 7 none
  statics := none }

def pool8 : Array CpInfo := pool [(1, .class_ 2), (0, u "java/util/BitSet"), (0, .fieldref 1 4), (0, .nameAndType 5 6), (0, u "$assertionsDisabled"), (0, u "Z"), (0, .fieldref 1 8), (0, .nameAndType 9 10), (0, u "wordsInUse"), (0, u "I"), (0, .fieldref 1 12), (0, .nameAndType 13 14), (0, u "words"), (0, u "[J"), (3, .nameAndType 19 20), (0, u "<init>"), (0, u "()V"), (0, .methodref 22 18), (0, .class_ 23), (0, u "java/lang/Object"), (0, .fieldref 1 25), (0, .nameAndType 26 6), (0, u "sizeIsSticky"), (0, .methodref 1 28), (0, .nameAndType 29 30), (0, u "initWords"), (0, u "(I)V"), (21, .methodref 1 53), (0, .nameAndType 54 55), (0, u "wordIndex"), (0, u "(I)I"), (0, .methodref 1 57), (0, .nameAndType 58 20), (0, u "checkInvariants"), (0, .methodref 60 61), (0, .class_ 62), (0, .nameAndType 63 64), (0, u "java/util/Arrays"), (0, u "copyOf"), (0, u "([JI)[J"), (15, u "get"), (52, .methodref 134 135), (0, .class_ 136), (0, .nameAndType 137 138), (0, u "java/lang/Math"), (0, u "max"), (0, u "(II)I"), (0, .methodref 1 140), (0, .nameAndType 141 30), (0, u "ensureCapacity"), (13, .methodref 1 156), (0, .nameAndType 157 30), (0, u "expandTo"), (11, u "set"), (99, .class_ 270), (0, u "java/util/BitSet$1BitSetSpliterator"), (22, u "serialPersistentFields"), (0, u "[Ljava/io/ObjectStreamField;"), (0, .class_ 296), (0, u "java/lang/Cloneable"), (0, .class_ 298), (0, u "java/io/Serializable"), (0, u "ADDRESS_BITS_PER_WORD"), (2, u "BITS_PER_WORD"), (1, u "BIT_INDEX_MASK"), (1, u "WORD_MASK"), (0, u "J"), (0, u "serialVersionUID"), (42, u "(I)Z")] 65

def k8c0 : Code := { maxStack := 2, maxLocals := 1, code := jdk_92_method_1_code, exceptionTable := #[], attributes := #[] }
def k8m0 : Method := { name := "wordIndex", desc := "(I)I", sig := { parameters := [.int], returnType := some .int }, accessFlags := 10, code := some k8c0 }
def k8c1 : Code := { maxStack := 4, maxLocals := 1, code := jdk_92_method_2_code, exceptionTable := #[], attributes := #[] }
def k8m1 : Method := { name := "checkInvariants", desc := "()V", sig := { parameters := [], returnType := none }, accessFlags := 2, code := some k8c1 }
def k8c2 : Code := { maxStack := 2, maxLocals := 1, code := jdk_92_method_4_code, exceptionTable := #[], attributes := #[] }
def k8m2 : Method := { name := "<init>", desc := "()V", sig := { parameters := [], returnType := none }, accessFlags := 1, code := some k8c2 }
def k8c3 : Code := { maxStack := 3, maxLocals := 2, code := jdk_92_method_6_code, exceptionTable := #[], attributes := #[] }
def k8m3 : Method := { name := "initWords", desc := "(I)V", sig := { parameters := [.int], returnType := none }, accessFlags := 2, code := some k8c3 }
def k8c4 : Code := { maxStack := 3, maxLocals := 3, code := jdk_92_method_14_code, exceptionTable := #[], attributes := #[] }
def k8m4 : Method := { name := "ensureCapacity", desc := "(I)V", sig := { parameters := [.int], returnType := none }, accessFlags := 2, code := some k8c4 }
def k8c5 : Code := { maxStack := 2, maxLocals := 3, code := jdk_92_method_15_code, exceptionTable := #[], attributes := #[] }
def k8m5 : Method := { name := "expandTo", desc := "(I)V", sig := { parameters := [.int], returnType := none }, accessFlags := 2, code := some k8c5 }
def k8c6 : Code := { maxStack := 7, maxLocals := 3, code := jdk_92_method_19_code, exceptionTable := #[], attributes := #[] }
def k8m6 : Method := { name := "set", desc := "(I)V", sig := { parameters := [.int], returnType := none }, accessFlags := 1, code := some k8c6 }
def k8c7 : Code := { maxStack := 5, maxLocals := 3, code := jdk_92_method_26_code, exceptionTable := #[], attributes := #[] }
def k8m7 : Method := { name := "get", desc := "(I)Z", sig := { parameters := [.int], returnType := some .boolean }, accessFlags := 1, code := some k8c7 }
/-- java/util/BitSet -/
def k8 : Class := { plain "java/util/BitSet" (some 0) with
  accessFlags := 33
  interfaces := #[6, 7]
  cf := some (fileOf pool8 1 #[.nestMembers #[269]] #[{ accessFlags := 10, nameIndex := 54, descriptorIndex := 55, attributes := #[] }, { accessFlags := 2, nameIndex := 58, descriptorIndex := 20, attributes := #[] }, { accessFlags := 1, nameIndex := 19, descriptorIndex := 20, attributes := #[] }, { accessFlags := 2, nameIndex := 29, descriptorIndex := 30, attributes := #[] }, { accessFlags := 2, nameIndex := 141, descriptorIndex := 30, attributes := #[] }, { accessFlags := 2, nameIndex := 157, descriptorIndex := 30, attributes := #[] }, { accessFlags := 1, nameIndex := 169, descriptorIndex := 30, attributes := #[] }, { accessFlags := 1, nameIndex := 80, descriptorIndex := 351, attributes := #[] }] 33 22 #[295, 297] #[{ accessFlags := 26, nameIndex := 299, descriptorIndex := 10, attributes := #[] }, { accessFlags := 26, nameIndex := 302, descriptorIndex := 10, attributes := #[] }, { accessFlags := 26, nameIndex := 304, descriptorIndex := 10, attributes := #[] }, { accessFlags := 26, nameIndex := 306, descriptorIndex := 307, attributes := #[] }, { accessFlags := 26, nameIndex := 293, descriptorIndex := 294, attributes := #[] }, { accessFlags := 2, nameIndex := 13, descriptorIndex := 14, attributes := #[] }, { accessFlags := 130, nameIndex := 9, descriptorIndex := 10, attributes := #[] }, { accessFlags := 130, nameIndex := 26, descriptorIndex := 6, attributes := #[] }, { accessFlags := 26, nameIndex := 308, descriptorIndex := 307, attributes := #[] }, { accessFlags := 4120, nameIndex := 5, descriptorIndex := 6, attributes := #[] }])
  fields := #[{ name := "ADDRESS_BITS_PER_WORD", type := .int, accessFlags := 26, slot := 0, constantValue := 0 }, { name := "BITS_PER_WORD", type := .int, accessFlags := 26, slot := 1, constantValue := 0 }, { name := "BIT_INDEX_MASK", type := .int, accessFlags := 26, slot := 2, constantValue := 0 }, { name := "WORD_MASK", type := .long, accessFlags := 26, slot := 3, constantValue := 0 }, { name := "serialPersistentFields", type := (.array (.object "java/io/ObjectStreamField")), accessFlags := 26, slot := 4, constantValue := 0 }, { name := "words", type := (.array .long), accessFlags := 2, slot := 0, constantValue := 0 }, { name := "wordsInUse", type := .int, accessFlags := 130, slot := 1, constantValue := 0 }, { name := "sizeIsSticky", type := .boolean, accessFlags := 130, slot := 2, constantValue := 0 }, { name := "serialVersionUID", type := .long, accessFlags := 26, slot := 5, constantValue := 0 }, { name := "$assertionsDisabled", type := .boolean, accessFlags := 4120, slot := 6, constantValue := 0 }]
  methods := #[k8m0, k8m1, k8m2, k8m3, k8m4, k8m5, k8m6, k8m7]
  instanceTypes := #[(.array .long), .int, .boolean]
  staticTypes := #[.int, .int, .int, .long, (.array (.object "java/io/ObjectStreamField")), .long, .boolean]
  resolved := Array.replicate 417 none
  statics := some 0 }

/-- the primitive byte -/
def k9 : Class := { plain "byte" none with kind := .primitive 'B', accessFlags := 0x411 }
/-- [B -/
def k10 : Class := { plain "[B" (some 0) with kind := .array 9 .byte, interfaces := #[6, 7], accessFlags := 1041 }

/-- the primitive int -/
def k11 : Class := { plain "int" none with kind := .primitive 'I', accessFlags := 0x411 }
/-- [I -/
def k12 : Class := { plain "[I" (some 0) with kind := .array 11 .int, interfaces := #[6, 7], accessFlags := 1041 }

/-- the primitive long -/
def k13 : Class := { plain "long" none with kind := .primitive 'J', accessFlags := 0x411 }
/-- [J -/
def k14 : Class := { plain "[J" (some 0) with kind := .array 13 .long, interfaces := #[6, 7], accessFlags := 1041 }

def heap : Heap := #[{ cls := 8, slots := #[.int 0, .int 0, .int 0, .long 0, .null, .long 0, .int 1], vm := .statics 8 }]
def classes : Array Class := #[k0, k1, k2, k3, k4, k5, k6, k7, k8, k9, k10, k11, k12, k13, k14]
def interned : List (Array UInt16 × Addr) := []
def slotsUsed : Nat := 7
def theMethod : MethodId := ⟨1, 1⟩
def args0 : Array Value := #[.int 5, .int 6, .int 7, .int 8, .int 9]
def aboutOver (below : List Frame) : State where
  vm := { classes := classes, interned := interned.toArray }
  heap := heap
  slotsUsed := slotsUsed
  threads := #[{ frames := .invoking theMethod args0 :: below }]
def below0 : List Frame := [.native { method := ⟨0, 0⟩, args := #[] }]
def about1 : State := aboutOver below0
def p0 : Program := .bare "" "" ""
def e0 : Env := launch0.env 0 0 0
theorem w_frames : about1.frames = Frame.invoking theMethod args0 :: below0 := rfl
set_option maxRecDepth 65536 in
theorem w_args : argsFit about1.vm theMethod args0 = true := by decide +kernel
set_option maxRecDepth 65536 in
theorem w_heap : heapFits about1 = true := by decide +kernel
set_option maxRecDepth 65536 in
theorem w_runnable : about1.curStatus? = some .runnable := by decide +kernel
set_option maxRecDepth 65536 in
theorem w_alone : about1.alone = true := by decide +kernel
set_option maxRecDepth 65536 in
theorem w_named : about1.methodNamed? x = some theMethod := by decide +kernel
set_option maxRecDepth 65536 in
theorem w_hears : about1.hears theMethod below0 = true := by decide +kernel
set_option maxRecDepth 65536 in
theorem w_ripe : about1.ripe theMethod args0 below0 = true := by decide +kernel
theorem w_running : about1.status = .running := rfl
set_option maxRecDepth 65536 in
theorem w_room : about1.hasRoom e0.platform room_1 = true :=
  launch0.hasRoom_least _ room_1 (by decide +kernel) (by decide +kernel) (by decide +kernel) (by decide +kernel) (by decide +kernel) (by decide +kernel)
theorem allAtoms_all (ts : List Jvm.Cond) (a : Array Jvm.Value) (st : Jvm.State) : (allAtoms ts).before a st = ts.all (fun c => c.before a st) := by
  induction ts with
  | nil => rfl
  | cons c t ih =>
    show (Jvm.Cond.and c (allAtoms t)).before a st = _
    rw [Jvm.Cond.before_and, ih, List.all_cons]
def words1 : List Jvm.Cond := Jvm.Cond.code x code maxLocals ret :: tables_1
/-- a 'code' word, met by the world's own term for the bytes: nothing is compared byte by byte -/
theorem code_word {y : MethodName} {bytes : ByteArray} {mx : Nat} {rt : Option FieldType} {a : Array Value} {s : State} {m : MethodId} {meth : Method} {c : Code} (h1 : s.methodNamed? y = some m) (h2 : s.vm.method? m = some meth) (h3 : meth.code = some c) (h4 : c.code = bytes)
    (h5 : (c.maxLocals == mx && c.exceptionTable.isEmpty && decide (c.maxStack ≤ mostOperands) && decide (meth.sig.returnType = rt) && !meth.locks && decide (parseMethodDescriptor y.desc = some meth.sig)) = true) : (Jvm.Cond.code y bytes mx rt).before a s = true := by
  simp only [Bool.and_eq_true, beq_iff_eq, Bool.not_eq_true', decide_eq_true_eq] at h5
  obtain ⟨⟨⟨⟨⟨g1, g2⟩, g3⟩, g4⟩, g5⟩, g6⟩ := h5
  simp [Cond.before, Cond.holds, Cond.value, h1, h2, h3, h4, g1, g2, g3, g4, g5, g6]
def isCode : Jvm.Cond → Bool
  | .code _ _ _ _ => true
  | _ => false
theorem all_split {L : List Jvm.Cond} {P : Jvm.Cond → Bool} (h1 : L.all (fun c => isCode c || P c) = true) (h2 : ∀ c ∈ L.filter isCode, P c = true) : L.all P = true := by
  refine List.all_eq_true.mpr fun c hc => ?_
  have h := List.all_eq_true.mp h1 c hc
  rcases Bool.eq_false_or_eq_true (isCode c) with hi | hi
  · exact h2 c (List.mem_filter.mpr ⟨hc, hi⟩)
  · simpa [hi] using h
set_option maxRecDepth 65536 in
theorem w_c0 : (Jvm.Cond.code x code maxLocals ret).before args0 about1 = true := code_word (m := ⟨1, 1⟩) (meth := k1m1) (c := k1c1) (by decide +kernel) rfl rfl rfl (by decide +kernel)
set_option maxRecDepth 65536 in
theorem w_c1 : (Jvm.Cond.code ({ cls := "com/example/kunci/kunci/NumberSet", name := "<init>", desc := "()V" } : Jvm.MethodName) prog_3_method_1_code (1 : Nat) (Option.none : Option Jvm.ClassFile.FieldType)).before args0 about1 = true := code_word (m := ⟨2, 0⟩) (meth := k2m0) (c := k2c0) (by decide +kernel) rfl rfl rfl (by decide +kernel)
set_option maxRecDepth 65536 in
theorem w_c2 : (Jvm.Cond.code ({ cls := "java/lang/Object", name := "<init>", desc := "()V" } : Jvm.MethodName) object_method_1_code (1 : Nat) (Option.none : Option Jvm.ClassFile.FieldType)).before args0 about1 = true := code_word (m := ⟨0, 0⟩) (meth := k0m0) (c := k0c0) (by decide +kernel) rfl rfl rfl (by decide +kernel)
set_option maxRecDepth 65536 in
theorem w_c3 : (Jvm.Cond.code ({ cls := "com/example/kunci/kunci/NumberSet", name := "add", desc := "(I)Z" } : Jvm.MethodName) prog_3_method_2_code (3 : Nat) (Option.some Jvm.ClassFile.FieldType.boolean)).before args0 about1 = true := code_word (m := ⟨2, 1⟩) (meth := k2m1) (c := k2c1) (by decide +kernel) rfl rfl rfl (by decide +kernel)
set_option maxRecDepth 65536 in
theorem w_c4 : (Jvm.Cond.code ({ cls := "com/example/kunci/kunci/NumberSet", name := "contains", desc := "(I)Z" } : Jvm.MethodName) prog_3_method_3_code (2 : Nat) (Option.some Jvm.ClassFile.FieldType.boolean)).before args0 about1 = true := code_word (m := ⟨2, 2⟩) (meth := k2m2) (c := k2c2) (by decide +kernel) rfl rfl rfl (by decide +kernel)
set_option maxRecDepth 65536 in
theorem w_c5 : (Jvm.Cond.code ({ cls := "com/example/kunci/kunci/NumberSet", name := "holdsAmongFew", desc := "(I)Z" } : Jvm.MethodName) prog_3_method_7_code (3 : Nat) (Option.some Jvm.ClassFile.FieldType.boolean)).before args0 about1 = true := code_word (m := ⟨2, 4⟩) (meth := k2m4) (c := k2c4) (by decide +kernel) rfl rfl rfl (by decide +kernel)
set_option maxRecDepth 65536 in
theorem w_c6 : (Jvm.Cond.code ({ cls := "java/lang/Math", name := "max", desc := "(II)I" } : Jvm.MethodName) jdk_29_method_65_code (2 : Nat) (Option.some Jvm.ClassFile.FieldType.int)).before args0 about1 = true := code_word (m := ⟨3, 1⟩) (meth := k3m1) (c := k3c1) (by decide +kernel) rfl rfl rfl (by decide +kernel)
set_option maxRecDepth 65536 in
theorem w_c7 : (Jvm.Cond.code ({ cls := "java/util/Arrays", name := "copyOf", desc := "([II)[I" } : Jvm.MethodName) jdk_65_method_123_code (3 : Nat) (Option.some (Jvm.ClassFile.FieldType.array Jvm.ClassFile.FieldType.int))).before args0 about1 = true := code_word (m := ⟨4, 1⟩) (meth := k4m1) (c := k4c1) (by decide +kernel) rfl rfl rfl (by decide +kernel)
set_option maxRecDepth 65536 in
theorem w_c8 : (Jvm.Cond.code ({ cls := "java/lang/Math", name := "min", desc := "(II)I" } : Jvm.MethodName) jdk_29_method_69_code (2 : Nat) (Option.some Jvm.ClassFile.FieldType.int)).before args0 about1 = true := code_word (m := ⟨3, 2⟩) (meth := k3m2) (c := k3c2) (by decide +kernel) rfl rfl rfl (by decide +kernel)
set_option maxRecDepth 65536 in
theorem w_c9 : (Jvm.Cond.code ({ cls := "com/example/kunci/kunci/NumberSetAddPinLaw", name := "inRun", desc := "(IIII)Z" } : Jvm.MethodName) method_3_code (5 : Nat) (Option.some Jvm.ClassFile.FieldType.boolean)).before args0 about1 = true := code_word (m := ⟨1, 2⟩) (meth := k1m2) (c := k1c2) (by decide +kernel) rfl rfl rfl (by decide +kernel)
set_option maxRecDepth 65536 in
theorem w_c10 : (Jvm.Cond.code ({ cls := "com/example/kunci/kunci/NumberSet", name := "size", desc := "()I" } : Jvm.MethodName) prog_3_method_4_code (1 : Nat) (Option.some Jvm.ClassFile.FieldType.int)).before args0 about1 = true := code_word (m := ⟨2, 3⟩) (meth := k2m3) (c := k2c3) (by decide +kernel) rfl rfl rfl (by decide +kernel)
set_option maxRecDepth 65536 in
theorem w_c11 : (Jvm.Cond.code ({ cls := "java/util/BitSet", name := "<init>", desc := "()V" } : Jvm.MethodName) jdk_92_method_4_code (1 : Nat) (Option.none : Option Jvm.ClassFile.FieldType)).before args0 about1 = true := code_word (m := ⟨8, 2⟩) (meth := k8m2) (c := k8c2) (by decide +kernel) rfl rfl rfl (by decide +kernel)
set_option maxRecDepth 65536 in
theorem w_c12 : (Jvm.Cond.code ({ cls := "java/util/BitSet", name := "initWords", desc := "(I)V" } : Jvm.MethodName) jdk_92_method_6_code (2 : Nat) (Option.none : Option Jvm.ClassFile.FieldType)).before args0 about1 = true := code_word (m := ⟨8, 3⟩) (meth := k8m3) (c := k8c3) (by decide +kernel) rfl rfl rfl (by decide +kernel)
set_option maxRecDepth 65536 in
theorem w_c13 : (Jvm.Cond.code ({ cls := "java/util/BitSet", name := "wordIndex", desc := "(I)I" } : Jvm.MethodName) jdk_92_method_1_code (1 : Nat) (Option.some Jvm.ClassFile.FieldType.int)).before args0 about1 = true := code_word (m := ⟨8, 0⟩) (meth := k8m0) (c := k8c0) (by decide +kernel) rfl rfl rfl (by decide +kernel)
set_option maxRecDepth 65536 in
theorem w_c14 : (Jvm.Cond.code ({ cls := "java/util/BitSet", name := "set", desc := "(I)V" } : Jvm.MethodName) jdk_92_method_19_code (3 : Nat) (Option.none : Option Jvm.ClassFile.FieldType)).before args0 about1 = true := code_word (m := ⟨8, 6⟩) (meth := k8m6) (c := k8c6) (by decide +kernel) rfl rfl rfl (by decide +kernel)
set_option maxRecDepth 65536 in
theorem w_c15 : (Jvm.Cond.code ({ cls := "java/util/BitSet", name := "expandTo", desc := "(I)V" } : Jvm.MethodName) jdk_92_method_15_code (3 : Nat) (Option.none : Option Jvm.ClassFile.FieldType)).before args0 about1 = true := code_word (m := ⟨8, 5⟩) (meth := k8m5) (c := k8c5) (by decide +kernel) rfl rfl rfl (by decide +kernel)
set_option maxRecDepth 65536 in
theorem w_c16 : (Jvm.Cond.code ({ cls := "java/util/BitSet", name := "ensureCapacity", desc := "(I)V" } : Jvm.MethodName) jdk_92_method_14_code (3 : Nat) (Option.none : Option Jvm.ClassFile.FieldType)).before args0 about1 = true := code_word (m := ⟨8, 4⟩) (meth := k8m4) (c := k8c4) (by decide +kernel) rfl rfl rfl (by decide +kernel)
set_option maxRecDepth 65536 in
theorem w_c17 : (Jvm.Cond.code ({ cls := "java/util/BitSet", name := "checkInvariants", desc := "()V" } : Jvm.MethodName) jdk_92_method_2_code (1 : Nat) (Option.none : Option Jvm.ClassFile.FieldType)).before args0 about1 = true := code_word (m := ⟨8, 1⟩) (meth := k8m1) (c := k8c1) (by decide +kernel) rfl rfl rfl (by decide +kernel)
set_option maxRecDepth 65536 in
theorem w_c18 : (Jvm.Cond.code ({ cls := "java/util/Arrays", name := "copyOf", desc := "([JI)[J" } : Jvm.MethodName) jdk_65_method_124_code (3 : Nat) (Option.some (Jvm.ClassFile.FieldType.array Jvm.ClassFile.FieldType.long))).before args0 about1 = true := code_word (m := ⟨4, 2⟩) (meth := k4m2) (c := k4c2) (by decide +kernel) rfl rfl rfl (by decide +kernel)
set_option maxRecDepth 65536 in
theorem w_c19 : (Jvm.Cond.code ({ cls := "java/util/BitSet", name := "get", desc := "(I)Z" } : Jvm.MethodName) jdk_92_method_26_code (3 : Nat) (Option.some Jvm.ClassFile.FieldType.boolean)).before args0 about1 = true := code_word (m := ⟨8, 7⟩) (meth := k8m7) (c := k8c7) (by decide +kernel) rfl rfl rfl (by decide +kernel)
def codes1 : List Jvm.Cond := [Jvm.Cond.code x code maxLocals ret, Jvm.Cond.code ({ cls := "com/example/kunci/kunci/NumberSet", name := "<init>", desc := "()V" } : Jvm.MethodName) prog_3_method_1_code (1 : Nat) (Option.none : Option Jvm.ClassFile.FieldType), Jvm.Cond.code ({ cls := "java/lang/Object", name := "<init>", desc := "()V" } : Jvm.MethodName) object_method_1_code (1 : Nat) (Option.none : Option Jvm.ClassFile.FieldType), Jvm.Cond.code ({ cls := "com/example/kunci/kunci/NumberSet", name := "add", desc := "(I)Z" } : Jvm.MethodName) prog_3_method_2_code (3 : Nat) (Option.some Jvm.ClassFile.FieldType.boolean), Jvm.Cond.code ({ cls := "com/example/kunci/kunci/NumberSet", name := "contains", desc := "(I)Z" } : Jvm.MethodName) prog_3_method_3_code (2 : Nat) (Option.some Jvm.ClassFile.FieldType.boolean), Jvm.Cond.code ({ cls := "com/example/kunci/kunci/NumberSet", name := "holdsAmongFew", desc := "(I)Z" } : Jvm.MethodName) prog_3_method_7_code (3 : Nat) (Option.some Jvm.ClassFile.FieldType.boolean), Jvm.Cond.code ({ cls := "java/lang/Math", name := "max", desc := "(II)I" } : Jvm.MethodName) jdk_29_method_65_code (2 : Nat) (Option.some Jvm.ClassFile.FieldType.int), Jvm.Cond.code ({ cls := "java/util/Arrays", name := "copyOf", desc := "([II)[I" } : Jvm.MethodName) jdk_65_method_123_code (3 : Nat) (Option.some (Jvm.ClassFile.FieldType.array Jvm.ClassFile.FieldType.int)), Jvm.Cond.code ({ cls := "java/lang/Math", name := "min", desc := "(II)I" } : Jvm.MethodName) jdk_29_method_69_code (2 : Nat) (Option.some Jvm.ClassFile.FieldType.int), Jvm.Cond.code ({ cls := "com/example/kunci/kunci/NumberSetAddPinLaw", name := "inRun", desc := "(IIII)Z" } : Jvm.MethodName) method_3_code (5 : Nat) (Option.some Jvm.ClassFile.FieldType.boolean), Jvm.Cond.code ({ cls := "com/example/kunci/kunci/NumberSet", name := "size", desc := "()I" } : Jvm.MethodName) prog_3_method_4_code (1 : Nat) (Option.some Jvm.ClassFile.FieldType.int), Jvm.Cond.code ({ cls := "java/util/BitSet", name := "<init>", desc := "()V" } : Jvm.MethodName) jdk_92_method_4_code (1 : Nat) (Option.none : Option Jvm.ClassFile.FieldType), Jvm.Cond.code ({ cls := "java/util/BitSet", name := "initWords", desc := "(I)V" } : Jvm.MethodName) jdk_92_method_6_code (2 : Nat) (Option.none : Option Jvm.ClassFile.FieldType), Jvm.Cond.code ({ cls := "java/util/BitSet", name := "wordIndex", desc := "(I)I" } : Jvm.MethodName) jdk_92_method_1_code (1 : Nat) (Option.some Jvm.ClassFile.FieldType.int), Jvm.Cond.code ({ cls := "java/util/BitSet", name := "set", desc := "(I)V" } : Jvm.MethodName) jdk_92_method_19_code (3 : Nat) (Option.none : Option Jvm.ClassFile.FieldType), Jvm.Cond.code ({ cls := "java/util/BitSet", name := "expandTo", desc := "(I)V" } : Jvm.MethodName) jdk_92_method_15_code (3 : Nat) (Option.none : Option Jvm.ClassFile.FieldType), Jvm.Cond.code ({ cls := "java/util/BitSet", name := "ensureCapacity", desc := "(I)V" } : Jvm.MethodName) jdk_92_method_14_code (3 : Nat) (Option.none : Option Jvm.ClassFile.FieldType), Jvm.Cond.code ({ cls := "java/util/BitSet", name := "checkInvariants", desc := "()V" } : Jvm.MethodName) jdk_92_method_2_code (1 : Nat) (Option.none : Option Jvm.ClassFile.FieldType), Jvm.Cond.code ({ cls := "java/util/Arrays", name := "copyOf", desc := "([JI)[J" } : Jvm.MethodName) jdk_65_method_124_code (3 : Nat) (Option.some (Jvm.ClassFile.FieldType.array Jvm.ClassFile.FieldType.long)), Jvm.Cond.code ({ cls := "java/util/BitSet", name := "get", desc := "(I)Z" } : Jvm.MethodName) jdk_92_method_26_code (3 : Nat) (Option.some Jvm.ClassFile.FieldType.boolean)]
set_option maxRecDepth 65536 in
theorem codes_eq : words1.filter isCode = codes1 := rfl
theorem w_codes : ∀ c ∈ words1.filter isCode, c.before args0 about1 = true := by
  rw [codes_eq]
  intro c hc
  simp only [codes1, List.mem_cons, List.not_mem_nil, or_false] at hc
  rcases hc with rfl | rfl | rfl | rfl | rfl | rfl | rfl | rfl | rfl | rfl | rfl | rfl | rfl | rfl | rfl | rfl | rfl | rfl | rfl | rfl
  · exact w_c0
  · exact w_c1
  · exact w_c2
  · exact w_c3
  · exact w_c4
  · exact w_c5
  · exact w_c6
  · exact w_c7
  · exact w_c8
  · exact w_c9
  · exact w_c10
  · exact w_c11
  · exact w_c12
  · exact w_c13
  · exact w_c14
  · exact w_c15
  · exact w_c16
  · exact w_c17
  · exact w_c18
  · exact w_c19
set_option maxRecDepth 65536 in
theorem w_t1 : (words1.take 24).all (fun c => isCode c || c.before args0 about1) = true := by decide +kernel
set_option maxRecDepth 65536 in
theorem w_t2 : ((words1.drop 24).take 24).all (fun c => isCode c || c.before args0 about1) = true := by decide +kernel
set_option maxRecDepth 65536 in
theorem w_t3 : (((words1.drop 24).drop 24).take 24).all (fun c => isCode c || c.before args0 about1) = true := by decide +kernel
set_option maxRecDepth 65536 in
theorem w_t4 : ((((words1.drop 24).drop 24).drop 24).take 24).all (fun c => isCode c || c.before args0 about1) = true := by decide +kernel
set_option maxRecDepth 65536 in
theorem w_t5 : ((((words1.drop 24).drop 24).drop 24).drop 24).all (fun c => isCode c || c.before args0 about1) = true := by decide +kernel
theorem w_tables : (allAtoms (Jvm.Cond.code x code maxLocals ret :: tables_1)).before args0 about1 = true := by
  rw [allAtoms_all]
  show words1.all (fun c => c.before args0 about1) = true
  refine all_split ?_ w_codes
  rw [← List.take_append_drop 24 words1, List.all_append, w_t1, ← List.take_append_drop 24 (words1.drop 24), List.all_append, w_t2, ← List.take_append_drop 24 ((words1.drop 24).drop 24), List.all_append, w_t3, ← List.take_append_drop 24 (((words1.drop 24).drop 24).drop 24), List.all_append, w_t4, w_t5]
  rfl
set_option maxRecDepth 65536 in
theorem w_rest : rest_1_c.before args0 about1 = true := by decide +kernel
set_option maxRecDepth 65536 in
theorem w_case : (Jvm.Cond.and given_1 narrow_1).before args0 about1 = true := by decide +kernel
theorem w_applies : (headSpec (Jvm.Cond.code x code maxLocals ret :: tables_1) room_1).applies x e0.platform about1 = true :=
  (Spec.applies_iff w_frames).mpr ⟨w_running, w_runnable, w_alone, w_named, w_hears, w_ripe, w_room, w_tables⟩
theorem atStart : AtStart classFile x code maxLocals ret World_1 tables_1 room_1 Calls_1 rest_1 Pre_1 launch0 p0 e0 about1 theMethod args0 below0 :=
  ⟨lists_1, trivial, launch0.admits_env _ _ _, launch0.least_env, fairChoices_fair.cas, fairChoices_fair.clock, w_frames, w_args, w_heap, w_applies, trivial, w_rest, w_case⟩
end start1
theorem witness_1 : WitnessClaimed_1 := ⟨start1.p0, start1.e0, start1.about1, start1.theMethod, start1.args0, start1.below0, start1.atStart⟩
end Jvm.Pilot.@@N@@
