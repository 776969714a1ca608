import JvmDerived
import JvmDerived.Pilot.@@N@@Statement
import JvmDerived.Pilot.@@N@@Code
set_option linter.unusedVariables false
set_option linter.unusedSimpArgs false
namespace Jvm.Pilot.@@N@@
open Jvm Jvm.ClassFile Sem Op Lib Jvm.Free Jvm.Stand Jvm.LawKit Jvm.RoadKit Bundle Jvm.Pilot.@@N@@.Jvm.D
section Own
variable {p : Program} {l : Launch} {e : Env} {R : Room} {s : State} {m : MethodId} {args : Array Value} {below : List Frame} {meth : Method} {c : Code} {T : State} {locs : List Loc} {cells slots : Nat} {Z : State} {a0 : Array Value} {h : Heap} {Q : Option Value → Heap → List Loc → Prop} {kc kn : Nat}
/-- from S the method comes to its end, and what it leaves answers to Q -/
def own_Ends (p : Program) (e : Env) (below : List Frame) (s : State) (Q : Option Value → Heap → List Loc → Prop) (kc kn : Nat) (S : State) : Prop :=
  ∃ s₂ o, Steps p.tables e below S s₂ ∧ s₂.status = .running ∧ Ended s₂ below o ∧ ∃ v L, o = .returned v ∧ Q v s₂.heap L ∧ FrameEnd s o s₂ L kc kn
theorem own_pre {S S' : State} (st : ∀ t, Steps p.tables e below S' t → Steps p.tables e below S t) (k : own_Ends p e below s Q kc kn S') : own_Ends p e below s Q kc kn S := by
  obtain ⟨s₂, o, h1, r⟩ := k
  exact ⟨s₂, o, st _ h1, r⟩
theorem own_ret (X : Stand p l e R s m args below meth c T locs cells slots) (hx : p.tables.exec = Jvm.exec) (hlk : meth.locks = false) {pc : Nat} {Ls : Array Slot} {w : Value} {t : FieldType} {i : Instr} {rest : List Value} (hret : meth.sig.returnType = some t) (hn : narrow t w = w)
    (hi : (i = .ireturn ∧ (t = .int ∨ t = .boolean ∨ t = .byte ∨ t = .char ∨ t = .short) ∧ ∃ z, w = .int z) ∨ (i = .lreturn ∧ t = .long ∧ ∃ z, w = .long z) ∨ (i = .dreturn ∧ t = .double ∧ ∃ z, w = .double z) ∨ (i = .freturn ∧ t = .float ∧ ∃ z, w = .float z) ∨ (i = .areturn ∧ t.isReference = true ∧ w.isRef = true))
    (hd : decode c.code pc = .ok (i, 1)) (h1 : cells ≤ kc) (h2 : slots ≤ kn) (hQ : Q (some w) T.heap locs) : own_Ends p e below s Q kc kn (T.setTop (mkF m pc Ls (w :: rest))) := by
  obtain ⟨fs, hr, hrun, hended, hW, hsame⟩ := X.leave (v := some w) (fun h => by rw [hret] at h; cases h) hlk
  exact ⟨_, _, retOut X hx hret hn hi hd hr, hrun, hended, _, _, rfl, hQ, ⟨_, rfl⟩, hW, hsame.mono h1 h2⟩
theorem own_retV (X : Stand p l e R s m args below meth c T locs cells slots) (hx : p.tables.exec = Jvm.exec) (hlk : meth.locks = false) {pc : Nat} {Ls : Array Slot} (hret : meth.sig.returnType = none)
    (hd : decode c.code pc = .ok (.return_, 1)) (h1 : cells ≤ kc) (h2 : slots ≤ kn) (hQ : Q none T.heap locs) : own_Ends p e below s Q kc kn (T.setTop (mkF m pc Ls [])) := by
  obtain ⟨fs, hr, hrun, hended, hW, hsame⟩ := X.leave (v := none) (fun _ => rfl) hlk
  exact ⟨_, _, X.returnOut hx hret hd hr, hrun, hended, _, _, rfl, hQ, ⟨_, rfl⟩, hW, hsame.mono h1 h2⟩
/-- a contract: called with these arguments over this heap it returns, and Q says what it left -/
abbrev own_Met (l : Launch) (Z : State) (y : MethodName) (bytes : ByteArray) (maxL : Nat) (ret : Option FieldType) (ws : List Jvm.Cond) (rm : Room) (as' : Array Value) (h0 : Heap) (Q : Option Value → Heap → List Loc → Prop) : Prop :=
  MetFree l y (head1 (Jvm.Cond.code y bytes maxL ret :: ws) rm) (fun a U => a = as' ∧ Z.Warmed39 U.vm ∧ U.heap = h0) (fun _ _ _ _ _ => True) (fun _ U o U' => ∃ v L, o = .returned v ∧ Q v U'.heap L ∧ FrameEnd U o U' L rm.cells rm.slots)
theorem own_body {y : MethodName} {bytes : ByteArray} {maxL : Nat} {ret : Option FieldType} {ws : List Jvm.Cond} {rm : Room} {as' : Array Value} {h0 : Heap} (pn : plainFor y = true) (F : MethodId → JFrame) (hF : ∀ m, entryFrame m as' maxL = F m)
    (body : ∀ (p : Program) (e : Env) (s : State) (m : MethodId) (below : List Frame) (meth : Method) (c : Code) (T : State), p.tables.exec = Jvm.exec → c.code = bytes → c.maxLocals = maxL → meth.locks = false → meth.sig.returnType = ret → Z.Warmed39 s.vm → s.vm.findClass y.cls = some m.cls → meth.name = y.name →
      Stand p l e rm s m as' below meth c T [] 0 0 → T.heap = h0 → own_Ends p e below s Q rm.cells rm.slots (T.setTop (F m))) : own_Met l Z y bytes maxL ret ws rm as' h0 Q := by
  refine MetFree.of_bodySF pn hisR ?_
  intro p e s m args below meth c s₁ Bd hml0 hP hK
  obtain ⟨rfl, hZ, hh⟩ := hP
  have := body p e s m below meth c s₁ Bd.exec Bd.bytes hml0 (BodyLoose.notSynchronized Bd) Bd.returns hZ (findClass_of_methodNamed Bd.named) (name_of_methodNamed Bd.named Bd.method).1 (Stand.of_body Bd) (by rw [← hh, Bd.state]; rfl)
  rw [← hF m] at this
  exact this
theorem own_callS (X : Stand p l e R s m args below meth c T locs cells slots) (hx : p.tables.exec = Jvm.exec) (hZ : Z.Warmed39 s.vm) {own : String} {index : Nat} {y : MethodName} {bytes : ByteArray} {maxL : Nat} {ret : Option FieldType} {rm : Room} {Qc : Option Value → Heap → List Loc → Prop}
    (hown : s.vm.findClass own = some m.cls) (w1 : (Cond.methodLink own index y).before a0 Z = true) (w2 : (Cond.static y).before a0 Z = true) (w3 : (Cond.initialized y.cls).before a0 Z = true) (w4 : (Cond.code y bytes maxL ret).before a0 Z = true)
    (hy : y.cls ≠ "java/lang/invoke/MethodHandle" ∧ y.cls ≠ "java/lang/invoke/VarHandle") (eT : T.heap = h) {argsL rest st0 : List Value} (hM : own_Met l Z y bytes maxL ret [] rm argsL.toArray h Qc) {W pc : Nat} {Ls : Array Slot}
    (hsz : Ls.size = c.maxLocals) (hlen : ∀ sig, parseMethodDescriptor y.desc = some sig → argsL.length = sig.parameters.length) (hst : st0 = argsL.reverse ++ rest) (hW : (rest.map fun v => v.category).sum ≤ W) (hd : decode c.code pc = .ok (.invokestatic index, 3))
    (hf : rm.frames + 1 ≤ R.frames) (hl : W + (maxL + 11) + rm.locals ≤ R.locals) (hc : cells + rm.cells ≤ R.cells) (hs : slots + rm.slots ≤ R.slots)
    (k : ∀ v T' L, Stand p l e R s m args below meth c T' (locs ++ L) (cells + rm.cells) (slots + rm.slots) → Qc v T'.heap L → own_Ends p e below s Q kc kn (T'.setTop (mkF m (pc + 3) Ls (v.toList ++ rest)))) :
    own_Ends p e below s Q kc kn (T.setTop (mkF m pc Ls st0)) := by
  obtain ⟨v, _, ⟨T', L', k', n'⟩, -, X', ⟨Lc, hQ, l1, y1, z1⟩, st⟩ := Jvm.LawKit.callS X hx (y := y) hown (mvT hZ w1) (mvT hZ w2) (mvT hZ w3) (mvT hZ w4) hy (backOf (W := W) hM hZ w4 w3 hf hl) (g := mkF m pc Ls st0) rfl hsz (argsL := argsL) (rest := rest) hlen hst (by show 2 * 0 + _ ≤ _; simpa using hW) hd (fun _ _ => ⟨rfl, eT, hc, hs⟩)
  dsimp only [Pt.U, Pt.locs, Pt.cells, Pt.slots] at X' l1 y1 z1 st hQ
  subst l1 y1 z1
  exact own_pre st (k v T' Lc X' hQ)
theorem own_callI (X : Stand p l e R s m args below meth c T locs cells slots) (hx : p.tables.exec = Jvm.exec) (hZ : Z.Warmed39 s.vm) {own : String} {index : Nat} {y : MethodName} {bytes : ByteArray} {maxL : Nat} {rm : Room} {Qc : Option Value → Heap → List Loc → Prop} {b : Addr}
    (hown : s.vm.findClass own = some m.cls) (hy1 : y.name = "<init>") (w1 : (Cond.methodLink own index y).before a0 Z = true) (w2 : (Cond.instanceMethod y).before a0 Z = true) (w4 : (Cond.code y bytes maxL none).before a0 Z = true) (w3 : (Cond.initialized y.cls).before a0 Z = true)
    (hy : y.cls ≠ "java/lang/invoke/MethodHandle" ∧ y.cls ≠ "java/lang/invoke/VarHandle") (eT : T.heap = h) {argsL rest st0 : List Value} (hM : own_Met l Z y bytes maxL none [] rm (.ref b :: argsL).toArray h Qc) {W pc : Nat} {Ls : Array Slot}
    (hsz : Ls.size = c.maxLocals) (hlen : ∀ sig, parseMethodDescriptor y.desc = some sig → argsL.length = sig.parameters.length) (hst : st0 = argsL.reverse ++ .ref b :: rest) (hW : (rest.map fun v => v.category).sum ≤ W) (hd : decode c.code pc = .ok (.invokespecial index, 3))
    (hf : rm.frames + 1 ≤ R.frames) (hl : W + (maxL + 11) + rm.locals ≤ R.locals) (hc : cells + rm.cells ≤ R.cells) (hs : slots + rm.slots ≤ R.slots)
    (k : ∀ v T' L, Stand p l e R s m args below meth c T' (locs ++ L) (cells + rm.cells) (slots + rm.slots) → Qc v T'.heap L → own_Ends p e below s Q kc kn (T'.setTop (mkF m (pc + 3) Ls (v.toList ++ rest)))) :
    own_Ends p e below s Q kc kn (T.setTop (mkF m pc Ls st0)) := by
  obtain ⟨v, _, ⟨T', L', k', n'⟩, -, X', ⟨Lc, hQ, l1, y1, z1⟩, st⟩ := X.specialBack hx (y := y) hy1 hown (mvT hZ w1) (mvT hZ w2) (mvT hZ w4) hy (backOf (W := W) hM hZ w4 w3 hf hl) (g := mkF m pc Ls st0) rfl hsz (Steps.refl _) (a := b) (argsL := argsL) (rest := rest) hlen hst (by show 2 * 0 + _ ≤ _; simpa using hW) hd (fun _ _ => ⟨rfl, eT, hc, hs⟩)
  dsimp only [Pt.U, Pt.locs, Pt.cells, Pt.slots] at X' l1 y1 z1 st hQ
  subst l1 y1 z1
  exact own_pre (fun t k => st.trans k) (k v T' Lc X' hQ)
theorem own_callV (X : Stand p l e R s m args below meth c T locs cells slots) (hx : p.tables.exec = Jvm.exec) (hZ : Z.Warmed39 s.vm) {own C : String} {index : Nat} {y : MethodName} {bytes : ByteArray} {maxL : Nat} {ret : Option FieldType} {rm : Room} {Qc : Option Value → Heap → List Loc → Prop} {b : Addr}
    (hown : s.vm.findClass own = some m.cls) (w1 : (Cond.methodLink own index y).before a0 Z = true) (w2 : (Cond.declares y).before a0 Z = true) (w3 : (Cond.selects C y y).before a0 Z = true) (w4 : (Cond.instanceMethod y).before a0 Z = true) (w5 : (Cond.code y bytes maxL ret).before a0 Z = true) (w6 : (Cond.initialized y.cls).before a0 Z = true)
    (hy : y.cls ≠ "java/lang/invoke/MethodHandle" ∧ y.cls ≠ "java/lang/invoke/VarHandle") (eT : T.heap = h) (E : Exa Z h b C) {argsL rest st0 : List Value} (hM : own_Met l Z y bytes maxL ret [] rm (.ref b :: argsL).toArray h Qc) {W pc : Nat} {Ls : Array Slot}
    (hsz : Ls.size = c.maxLocals) (hlen : ∀ sig, parseMethodDescriptor y.desc = some sig → argsL.length = sig.parameters.length) (hst : st0 = argsL.reverse ++ .ref b :: rest) (hW : (rest.map fun v => v.category).sum ≤ W) (hd : decode c.code pc = .ok (.invokevirtual index, 3))
    (hf : rm.frames + 1 ≤ R.frames) (hl : W + (maxL + 11) + rm.locals ≤ R.locals) (hc : cells + rm.cells ≤ R.cells) (hs : slots + rm.slots ≤ R.slots)
    (k : ∀ v T' L, Stand p l e R s m args below meth c T' (locs ++ L) (cells + rm.cells) (slots + rm.slots) → Qc v T'.heap L → own_Ends p e below s Q kc kn (T'.setTop (mkF m (pc + 3) Ls (v.toList ++ rest)))) :
    own_Ends p e below s Q kc kn (T.setTop (mkF m pc Ls st0)) := by
  obtain ⟨cq, kq, qa, qb, qc⟩ := isOf hZ eT E
  obtain ⟨v, _, ⟨T', L', k', n'⟩, -, X', ⟨Lc, hQ, l1, y1, z1⟩, st⟩ := X.virtualBack hx (y := y) (z := y) hown (mvT hZ w1) (mvT hZ w2) (notFace_of_selects (args := #[]) (mvT hZ w3)) (mvT hZ w3) (mvT hZ w4) hy (backOf (W := W) hM hZ w5 w6 hf hl) qa qc (g := mkF m pc Ls st0) rfl hsz (Steps.refl _) (argsL := argsL) (rest := rest) hlen hst (by show 2 * 0 + _ ≤ _; simpa using hW) hd (fun _ _ => ⟨rfl, eT, hc, hs⟩)
  dsimp only [Pt.U, Pt.locs, Pt.cells, Pt.slots] at X' l1 y1 z1 st hQ
  subst l1 y1 z1
  exact own_pre (fun t k => st.trans k) (k v T' Lc X' hQ)
theorem own_eqi {t : Term} {k : Int32} {args : Array Value} {s : State} (h : (Jvm.Cond.eq t (Term.int k)).value args s none s [] = some true) : t.eval args s none [] s = some (.int k) := by
  obtain ⟨x, y, h1, h2, -, h3⟩ := cmp_v (Or.inl h)
  have h4 : y = .int k := (Option.some.inj ((Term.int_eval k).symm.trans h2)).symm
  subst h4
  obtain ⟨z, rfl⟩ := h3
  have h5 : (Jvm.Cond.eq t (Term.int k)).value args s none s [] = some (decide (z = k)) := by simp [Cond.value, h1, h2]
  rw [h1, gotT h5 h]
theorem own_fieldOf {t : Term} {C n d : String} {k : Int32} {a : Addr} {args : Array Value} {s : State} (ht : t.eval args s none [] s = some (.ref a)) (h : (Jvm.Cond.eq (Term.field t C n d) (Term.int k)).value args s none s [] = some true) : Fld s s.heap a C n d (.int k) :=
  Fld.start ((fld_at ht).symm.trans (own_eqi h))
theorem own_st1 {Ls Ls' : Array Slot} {k : Nat} {o : Slot} {v : Value} (hold : Ls[k]? = some o) (ho : One o) (hv : v.category = 1) (he : Ls.setIfInBounds k (.val v) = Ls') : storeLocals Ls k v = some Ls' := he ▸ XS.store1 hold ho hv
theorem own_catV {v : Value} (hv : v.isRef = true) : v.category = 1 := by rcases ref_cases hv with rfl | ⟨_, rfl⟩ <;> rfl
theorem own_narV {v : Value} {t : FieldType} (hv : v.isRef = true) (ht : t.isReference = true) : narrow t v = v := by
  rcases ref_cases hv with rfl | ⟨_, rfl⟩ <;> cases t <;> first | rfl | (cases ht; done)
theorem own_narC {x : Int32} (h : 0 ≤ x.toInt ∧ x.toInt ≤ 65535) : nar .char x = x := by
  have q := c_i2c x
  rw [← Int32.toInt_inj]
  show (x.toUInt32.toUInt16.toUInt32.toInt32).toInt = x.toInt
  omega
theorem own_narZ {x : Int32} (h : x = 0 ∨ x = 1) : narrow .boolean (.int x) = .int x := by rcases h with rfl | rfl <;> rfl
def own_plain (h : Heap) (x : Addr) : Prop := ∃ c : Cell, h[x]? = some c ∧ c.vm.isStatics = false
theorem own_plainE {a : Addr} {C : String} (F : Exa Z h a C) : own_plain h a := by obtain ⟨c, k, h1, -, -, h4, -⟩ := F; exact ⟨c, h1, h4⟩
theorem own_sta_keep {h' : Heap} {ws : List Addr} {C n d : String} {v : Value} (F : Sta Z h C n d v) (K : Keep h h' ws) (q : ∀ x ∈ ws, own_plain h x) : Sta Z h' C n d v := by
  obtain ⟨cf, i, k, f, st, cell, h1, h2, h3, h4, h5, h6, h7⟩ := F
  refine ⟨cf, i, k, f, st, cell, h1, h2, h3, h4, K.2.1 _ _ h5 fun y => ?_, h6, h7⟩
  obtain ⟨c, z1, z2⟩ := q _ y
  cases h5.symm.trans z1
  rw [z2] at h6; cases h6
end Own
abbrev own_F (T : State) (m : MethodId) (pc : Nat) (Ls : Array Slot) (st : List Value) : State := T.setTop (mkF m pc Ls st)
theorem own_g {p : Program} {e : Env} {s : State} {below : List Frame} {Q : Option Value → Heap → List Loc → Prop} {kc kn : Nat} {S : State} (S' : State) (st : ∀ t, Steps p.tables e below S' t → Steps p.tables e below S t) (k : own_Ends p e below s Q kc kn S') : own_Ends p e below s Q kc kn S := own_pre st k
theorem own_w {a0 : Array Value} {Z : State} (hw : ∀ d ∈ tables_1, d.before a0 Z = true) (i : Nat) {d : Jvm.Cond} (h : tables_1[i]? = some d := by rfl) : d.before a0 Z = true := hw _ (List.mem_of_getElem? h)
section OwnArr
variable {p : Program} {l : Launch} {e : Env} {R : Room} {s : State} {m : MethodId} {args : Array Value} {below : List Frame} {meth : Method} {c : Code} {T : State} {locs : List Loc} {cells slots : Nat} {Z : State} {a0 : Array Value} {h h' : Heap} {Q : Option Value → Heap → List Loc → Prop} {kc kn : Nat} {a b : Addr} {ty : FieldType} {n : Nat} {f : Nat → Value}
/-- in h there lies at a an array of n components of the kind ty, the i-th is f i -/
def own_A (Z : State) (h : Heap) (a : Addr) (ty : FieldType) (n : Nat) (f : Nat → Value) : Prop := n < 2 ^ 31 ∧ ∃ cl : Cell, Arr Z h a cl ty ∧ cl.slots.size = n ∧ ∀ i, i < n → cl.slots[i]? = some (f i)
theorem own_A.lt (F : own_A Z h a ty n f) : a < h.size := by obtain ⟨_, c, A, -⟩ := F; exact A.lt
theorem own_A.ext (F : own_A Z h a ty n f) (E : Ext h h') : own_A Z h' a ty n f := by obtain ⟨q, c, A, r⟩ := F; exact ⟨q, c, A.ext E, r⟩
theorem own_A.other {sl : Nat} {v : Value} (F : own_A Z h b ty n f) (W : Wr h h' a sl v) (q : b ≠ a) : own_A Z h' b ty n f := by obtain ⟨r0, c, A, r⟩ := F; exact ⟨r0, c, A.other W q, r⟩
theorem own_A.keep {ws : List Addr} (F : own_A Z h a ty n f) (K : Keep h h' ws) (q : a ∉ ws) : own_A Z h' a ty n f := by obtain ⟨r0, c, A, r⟩ := F; exact ⟨r0, c, ⟨K.2.1 a c A.1 q, A.2⟩, r⟩
theorem own_A.congr {g : Nat → Value} (F : own_A Z h a ty n f) (q : ∀ i, i < n → f i = g i) : own_A Z h a ty n g := by obtain ⟨r0, c, A, r1, r2⟩ := F; exact ⟨r0, c, A, r1, fun i hi => by rw [r2 i hi, q i hi]⟩
theorem own_clamp {j : Int32} {i : Nat} (hj : j.toInt = (i : Int)) : ¬ j < 0 ∧ j.toNatClampNeg = i := by
  refine ⟨fun q => ?_, ?_⟩
  · rw [Int32.lt_iff_toInt_lt, hj, Int32.toInt_zero] at q; omega
  · show j.toInt.toNat = i
    rw [hj]; exact Int.toNat_natCast i
theorem own_in {j : Int32} {i : Nat} {cl : Cell} (hj : j.toInt = (i : Int)) (hi : i < cl.slots.size) : ¬ (j < 0 ∨ cl.slots.size ≤ j.toNatClampNeg) := by
  obtain ⟨q1, q2⟩ := own_clamp hj
  rw [q2]
  intro q
  rcases q with q | q
  · exact q1 q
  · omega
theorem own_alen (X : Stand p l e R s m args below meth c T locs cells slots) (hx : p.tables.exec = Jvm.exec) (hZ : Z.Warmed39 s.vm) (eT : T.heap = h) (A : own_A Z h a ty n f) {pc : Nat} {Ls : Array Slot} {rest : List Value} (hd : decode c.code pc = .ok (.arraylength, 1))
    (k : own_Ends p e below s Q kc kn (T.setTop (mkF m (pc + 1) Ls (.int n.toInt32 :: rest)))) : own_Ends p e below s Q kc kn (T.setTop (mkF m pc Ls (.ref a :: rest))) := by
  obtain ⟨-, cl, Ar, rfl, -⟩ := A
  exact own_pre (X.arraylength hx (by rw [eT]; exact Ar.1) (State.isArrayOf_alike hZ.alike Ar.2.1) (g := mkF m pc Ls (.ref a :: rest)) rfl rfl hd) k
theorem own_iald (X : Stand p l e R s m args below meth c T locs cells slots) (hx : p.tables.exec = Jvm.exec) (hZ : Z.Warmed39 s.vm) (eT : T.heap = h) {g : Nat → Int32} (A : own_A Z h a .int n (fun i => .int (g i))) {pc : Nat} {Ls : Array Slot} {rest : List Value} {j : Int32} (i : Nat) (hj : j.toInt = (i : Int)) (hi : i < n) (hd : decode c.code pc = .ok (.iaload, 1))
    (k : own_Ends p e below s Q kc kn (T.setTop (mkF m (pc + 1) Ls (.int (g i) :: rest)))) : own_Ends p e below s Q kc kn (T.setTop (mkF m pc Ls (.int j :: .ref a :: rest))) := by
  obtain ⟨-, cl, Ar, rfl, hv⟩ := A
  exact own_pre (X.iaload hx (j := j) (v := .int (g i)) (by rw [eT]; exact Ar.1) (State.isArrayOf_alike hZ.alike Ar.2.1) Ar.2.2 (own_in hj hi) (by rw [(own_clamp hj).2]; exact hv i hi) (g := mkF m pc Ls (.int j :: .ref a :: rest)) rfl rfl hd) k
theorem own_cald (X : Stand p l e R s m args below meth c T locs cells slots) (hx : p.tables.exec = Jvm.exec) (hZ : Z.Warmed39 s.vm) (eT : T.heap = h) {g : Nat → Int32} (A : own_A Z h a .char n (fun i => .int (g i))) {pc : Nat} {Ls : Array Slot} {rest : List Value} {j : Int32} (i : Nat) (hj : j.toInt = (i : Int)) (hi : i < n) (hd : decode c.code pc = .ok (.caload, 1))
    (k : own_Ends p e below s Q kc kn (T.setTop (mkF m (pc + 1) Ls (.int (g i) :: rest)))) : own_Ends p e below s Q kc kn (T.setTop (mkF m pc Ls (.int j :: .ref a :: rest))) := by
  obtain ⟨-, cl, Ar, rfl, hv⟩ := A
  exact own_pre (X.caload hx (j := j) (v := .int (g i)) (by rw [eT]; exact Ar.1) (State.isArrayOf_alike hZ.alike Ar.2.1) Ar.2.2 (own_in hj hi) (by rw [(own_clamp hj).2]; exact hv i hi) (g := mkF m pc Ls (.int j :: .ref a :: rest)) rfl rfl hd) k
theorem own_bald (X : Stand p l e R s m args below meth c T locs cells slots) (hx : p.tables.exec = Jvm.exec) (hZ : Z.Warmed39 s.vm) (eT : T.heap = h) {g : Nat → Int32} (A : own_A Z h a .byte n (fun i => .int (g i))) {pc : Nat} {Ls : Array Slot} {rest : List Value} {j : Int32} (i : Nat) (hj : j.toInt = (i : Int)) (hi : i < n) (hd : decode c.code pc = .ok (.baload, 1))
    (k : own_Ends p e below s Q kc kn (T.setTop (mkF m (pc + 1) Ls (.int (g i) :: rest)))) : own_Ends p e below s Q kc kn (T.setTop (mkF m pc Ls (.int j :: .ref a :: rest))) := by
  obtain ⟨-, cl, Ar, rfl, hv⟩ := A
  exact own_pre (X.baloadBytes hx (j := j) (v := .int (g i)) (by rw [eT]; exact Ar.1) (State.isArrayOf_alike hZ.alike Ar.2.1) Ar.2.2 (own_in hj hi) (by rw [(own_clamp hj).2]; exact hv i hi) (g := mkF m pc Ls (.int j :: .ref a :: rest)) rfl rfl hd) k
theorem own_lald (X : Stand p l e R s m args below meth c T locs cells slots) (hx : p.tables.exec = Jvm.exec) (hZ : Z.Warmed39 s.vm) (eT : T.heap = h) {g : Nat → Int64} (A : own_A Z h a .long n (fun i => .long (g i))) {pc : Nat} {Ls : Array Slot} {rest : List Value} {j : Int32} (i : Nat) (hj : j.toInt = (i : Int)) (hi : i < n) (hd : decode c.code pc = .ok (.laload, 1))
    (k : own_Ends p e below s Q kc kn (T.setTop (mkF m (pc + 1) Ls (.long (g i) :: rest)))) : own_Ends p e below s Q kc kn (T.setTop (mkF m pc Ls (.int j :: .ref a :: rest))) := by
  obtain ⟨-, cl, Ar, rfl, hv⟩ := A
  exact own_pre (X.laload hx (j := j) (v := .long (g i)) (by rw [eT]; exact Ar.1) (State.isArrayOf_alike hZ.alike Ar.2.1) Ar.2.2 (own_in hj hi) (by rw [(own_clamp hj).2]; exact hv i hi) (g := mkF m pc Ls (.int j :: .ref a :: rest)) rfl rfl hd) k
theorem own_aald (X : Stand p l e R s m args below meth c T locs cells slots) (hx : p.tables.exec = Jvm.exec) (hZ : Z.Warmed39 s.vm) (eT : T.heap = h) (hty : ty.isReference = true) (A : own_A Z h a ty n f) {pc : Nat} {Ls : Array Slot} {rest : List Value} {j : Int32} (i : Nat) (hj : j.toInt = (i : Int)) (hi : i < n) (hd : decode c.code pc = .ok (.aaload, 1))
    (k : own_Ends p e below s Q kc kn (T.setTop (mkF m (pc + 1) Ls (f i :: rest)))) : own_Ends p e below s Q kc kn (T.setTop (mkF m pc Ls (.int j :: .ref a :: rest))) := by
  obtain ⟨-, cl, Ar, rfl, hv⟩ := A
  exact own_pre (X.aaload hx (j := j) (v := f i) (by rw [eT]; exact Ar.1) (State.isArrayOf_alike hZ.alike Ar.2.1) hty Ar.2.2 (own_in hj hi) (by rw [(own_clamp hj).2]; exact hv i hi) (g := mkF m pc Ls (.int j :: .ref a :: rest)) rfl rfl hd) k
/-- the array behind a store -/
theorem own_A.set {cl : Cell} {i : Nat} {v : Value} (q : n < 2 ^ 31) (Ar : Arr Z h a cl ty) (hn : cl.slots.size = n) (hv : ∀ i, i < n → cl.slots[i]? = some (f i)) (W : Wr h h' a i v) (hi : i < n) : own_A Z h' a ty n (fun k => if k = i then v else f k) := by
  refine ⟨q, _, Ar.same W, by rw [sz_set, hn], fun k hk => ?_⟩
  by_cases e : k = i
  · subst e; simp [Cell.setSlot, hn, hk]
  · have := hv k hk
    simp only [e, if_false]
    rw [← this]
    exact Array.getElem?_setIfInBounds_ne (Ne.symm e)
theorem own_iast (X : Stand p l e R s m args below meth c T locs cells slots) (hx : p.tables.exec = Jvm.exec) (hZ : Z.Warmed39 s.vm) (eT : T.heap = h) {g : Nat → Int32} (A : own_A Z h a .int n (fun i => .int (g i))) {pc : Nat} {Ls : Array Slot} {rest : List Value} {j x : Int32} (i : Nat) (hj : j.toInt = (i : Int)) (hi : i < n) (hd : decode c.code pc = .ok (.iastore, 1))
    (k : ∀ T' h', Stand p l e R s m args below meth c T' (locs ++ [⟨a, i⟩]) cells slots → T'.heap = h' → Wr h h' a i (.int x) → own_A Z h' a .int n (fun k => .int (if k = i then x else g k)) → own_Ends p e below s Q kc kn (T'.setTop (mkF m (pc + 1) Ls rest))) :
    own_Ends p e below s Q kc kn (T.setTop (mkF m pc Ls (.int x :: .int j :: .ref a :: rest))) := by
  obtain ⟨q, cl, Ar, hn, hv⟩ := A
  obtain ⟨T', h', X', e', W, st⟩ := stI X hx hZ eT Ar (j := j) (x := x) (own_in hj (by rw [hn]; exact hi)) (g := mkF m pc Ls (.int x :: .int j :: .ref a :: rest)) rfl rfl hd
  rw [(own_clamp hj).2] at X' W
  exact own_pre st (k T' h' X' e' W ((own_A.set q Ar hn hv W hi).congr fun k _ => by by_cases z : k = i <;> simp [z]))
theorem own_last (X : Stand p l e R s m args below meth c T locs cells slots) (hx : p.tables.exec = Jvm.exec) (hZ : Z.Warmed39 s.vm) (eT : T.heap = h) {g : Nat → Int64} (A : own_A Z h a .long n (fun i => .long (g i))) {pc : Nat} {Ls : Array Slot} {rest : List Value} {j : Int32} {x : Int64} (i : Nat) (hj : j.toInt = (i : Int)) (hi : i < n) (hd : decode c.code pc = .ok (.lastore, 1))
    (k : ∀ T' h', Stand p l e R s m args below meth c T' (locs ++ [⟨a, i⟩]) cells slots → T'.heap = h' → Wr h h' a i (.long x) → own_A Z h' a .long n (fun k => .long (if k = i then x else g k)) → own_Ends p e below s Q kc kn (T'.setTop (mkF m (pc + 1) Ls rest))) :
    own_Ends p e below s Q kc kn (T.setTop (mkF m pc Ls (.long x :: .int j :: .ref a :: rest))) := by
  obtain ⟨q, cl, Ar, hn, hv⟩ := A
  obtain ⟨T', h', X', e', W, st⟩ := stJ X hx hZ eT Ar (j := j) (x := x) (own_in hj (by rw [hn]; exact hi)) (g := mkF m pc Ls (.long x :: .int j :: .ref a :: rest)) rfl rfl hd
  rw [(own_clamp hj).2] at X' W
  exact own_pre st (k T' h' X' e' W ((own_A.set q Ar hn hv W hi).congr fun k _ => by by_cases z : k = i <;> simp [z]))
theorem own_cast (X : Stand p l e R s m args below meth c T locs cells slots) (hx : p.tables.exec = Jvm.exec) (hZ : Z.Warmed39 s.vm) (eT : T.heap = h) {g : Nat → Int32} (A : own_A Z h a .char n (fun i => .int (g i))) {pc : Nat} {Ls : Array Slot} {rest : List Value} {j x : Int32} (i : Nat) (hj : j.toInt = (i : Int)) (hi : i < n) (x' : Int32) (hx' : nar .char x = x') (hd : decode c.code pc = .ok (.castore, 1))
    (k : ∀ T' h', Stand p l e R s m args below meth c T' (locs ++ [⟨a, i⟩]) cells slots → T'.heap = h' → Wr h h' a i (.int x') → own_A Z h' a .char n (fun k => .int (if k = i then x' else g k)) → own_Ends p e below s Q kc kn (T'.setTop (mkF m (pc + 1) Ls rest))) :
    own_Ends p e below s Q kc kn (T.setTop (mkF m pc Ls (.int x :: .int j :: .ref a :: rest))) := by
  subst hx'
  obtain ⟨q, cl, Ar, hn, hv⟩ := A
  obtain ⟨T', h', X', e', W, st⟩ := stC X hx hZ eT Ar (j := j) (x := x) (own_in hj (by rw [hn]; exact hi)) (g := mkF m pc Ls (.int x :: .int j :: .ref a :: rest)) rfl rfl hd
  rw [(own_clamp hj).2] at X' W
  exact own_pre st (k T' h' X' e' W ((own_A.set q Ar hn hv W hi).congr fun k _ => by by_cases z : k = i <;> simp [z]))
theorem own_bast (X : Stand p l e R s m args below meth c T locs cells slots) (hx : p.tables.exec = Jvm.exec) (hZ : Z.Warmed39 s.vm) (eT : T.heap = h) {g : Nat → Int32} (A : own_A Z h a .byte n (fun i => .int (g i))) {pc : Nat} {Ls : Array Slot} {rest : List Value} {j x : Int32} (i : Nat) (hj : j.toInt = (i : Int)) (hi : i < n) (x' : Int32) (hx' : nar .byte x = x') (hd : decode c.code pc = .ok (.bastore, 1))
    (k : ∀ T' h', Stand p l e R s m args below meth c T' (locs ++ [⟨a, i⟩]) cells slots → T'.heap = h' → Wr h h' a i (.int x') → own_A Z h' a .byte n (fun k => .int (if k = i then x' else g k)) → own_Ends p e below s Q kc kn (T'.setTop (mkF m (pc + 1) Ls rest))) :
    own_Ends p e below s Q kc kn (T.setTop (mkF m pc Ls (.int x :: .int j :: .ref a :: rest))) := by
  subst hx'
  obtain ⟨q, cl, Ar, hn, hv⟩ := A
  obtain ⟨T', h', X', e', W, st⟩ := stB X hx hZ eT Ar (j := j) (x := x) (own_in hj (by rw [hn]; exact hi)) (g := mkF m pc Ls (.int x :: .int j :: .ref a :: rest)) rfl rfl hd
  rw [(own_clamp hj).2] at X' W
  exact own_pre st (k T' h' X' e' W ((own_A.set q Ar hn hv W hi).congr fun k _ => by by_cases z : k = i <;> simp [z]))
theorem own_newA (X : Stand p l e R s m args below meth c T locs cells slots) (hx : p.tables.exec = Jvm.exec) (hZ : Z.Warmed39 s.vm) {aty : ArrayType} (ty : FieldType) (hty : newarray.typeOf aty = ty) (w : (Cond.arrayClass ty).before a0 Z = true) (eT : T.heap = h) {pc : Nat} {Ls : Array Slot} {rest : List Value} {j : Int32} (hd : decode c.code pc = .ok (.newarray aty, 2))
    (n : Nat) (hj : j.toInt = (n : Int)) (cap : Nat) (hcap : n ≤ cap) (hb : cap * 8 ≤ 536870912) (hc : cells + 1 ≤ R.cells) (hl : slots + cap ≤ R.slots)
    (k : ∀ T' h' (b : Addr), Stand p l e R s m args below meth c T' locs (cells + 1) (slots + cap) → T'.heap = h' → Ext h h' → b = h.size → own_A Z h' b ty n (fun _ => defaultValue ty) → own_Ends p e below s Q kc kn (T'.setTop (mkF m (pc + 2) Ls (.ref b :: rest)))) :
    own_Ends p e below s Q kc kn (T.setTop (mkF m pc Ls (.int j :: rest))) := by
  subst hty
  obtain ⟨q1, q2⟩ := own_clamp hj
  obtain ⟨T', h', cA, X', e', E, A, st⟩ := newP X hx hZ w eT (g := mkF m pc Ls (.int j :: rest)) rfl hd rfl q1 (cap := cap) (by rw [q2]; exact hcap) hb hc hl
  refine own_pre st (k T' h' _ X' e' E rfl ⟨by omega, _, A, by rw [sz_new, q2], fun i hi => ?_⟩)
  simp [newA, q2, hi]
theorem own_lenS {t : Term} {k : Int32} {args : Array Value} {s : State} {cl : Cell} (ht : t.eval args s none [] s = some (.ref a)) (A : Arr s s.heap a cl ty) (h : (Jvm.Cond.eq (Term.length t) (Term.int k)).value args s none s [] = some true) : cl.slots.size.toInt32 = k ∧ cl.slots.size < 2 ^ 31 := by
  have h1 := own_eqi h
  have h2 : s.arrayAt? a = some cl := Arr.fin (Vm.Alike.refl _) A
  by_cases q : cl.slots.size < 2 ^ 31
  · rw [len_f ht h2 q] at h1
    exact ⟨Value.int.inj (Option.some.inj h1), q⟩
  · simp [Term.eval, ht, h2, q] at h1
theorem own_plainA (F : own_A Z h a ty n f) : own_plain h a := by obtain ⟨_, c, A, -⟩ := F; exact ⟨c, A.1, A.plain⟩
theorem own_sz {k : Int32} (h : n.toInt32 = k) (q : n < 2 ^ 31) : (n : Int) = k.toInt := by rw [← h, len_toInt q]
theorem own_sz0 (h : n.toInt32 = 0) (q : n < 2 ^ 31) : n = 0 := by
  have := own_sz h q
  rw [Int32.toInt_zero] at this; omega
end OwnArr
def own_Lat (Z : State) (h : Heap) (x t : Addr) (n : Nat) (f : Nat → Int32) : Prop := Exa Z h x "java/lang/String" ∧ Fld Z h x "java/lang/String" "value" "[B" (.ref t) ∧ Fld Z h x "java/lang/String" "coder" "B" (.int 0) ∧ own_A Z h t .byte n (fun i => .int ((f i).toInt8.toInt32)) ∧ ∀ i, i < n → 0 ≤ (f i).toInt ∧ (f i).toInt ≤ 255
theorem own_succ {j : Int32} {k n : Nat} (hj : j.toInt = (k : Int)) (hk : k < n) (hn : n < 2 ^ 31) : (j + (1 : Int32)).toInt = ((k + 1 : Nat) : Int) := by
  have h := c_iadd j 1
  have r := rng32 (j + 1)
  simp only [Int32.reduceToInt] at h
  omega
theorem own_jlt {j nn : Int32} {k n : Nat} (hj : j.toInt = (k : Int)) (hn : nn.toInt = (n : Int)) (h : k < n) : j < nn := by rw [Int32.lt_iff_toInt_lt]; omega
theorem own_jge {j nn : Int32} {k n : Nat} (hj : j.toInt = (k : Int)) (hn : nn.toInt = (n : Int)) (h : n ≤ k) : ¬ j < nn := by rw [Int32.lt_iff_toInt_lt]; omega
theorem own_sub31 (x : Int32) : (((x - x).toUInt32 >>> ((31 : Int32) &&& 31).toUInt32).toInt32).toInt8.toInt32 = (0 : Int32) := by rw [Int32.sub_self]; decide
theorem own_gstep {k : Nat} {g g' : Nat → Int32} {B : Nat → Int32} {x : Int32} (hg : ∀ i, i < k → g i = B i) (hg' : g' = fun q => if q = k then x else g q) (hx : x = B k) : ∀ i, i < k + 1 → g' i = B i := by
  intro i hi
  rw [hg']
  by_cases q : i = k
  · simp only [q, if_true]; exact hx
  · simp only [q, if_false]; exact hg i (by omega)
theorem own_i2b (x : Int32) : narrow .byte (.int x.toInt8.toInt32) = .int x.toInt8.toInt32 := by
  show Value.int (x.toInt8.toInt32).toInt8.toInt32 = _
  simp
theorem own_c255 {x : Int32} (h : x.toInt ≤ 255) : ¬ (255 : Int32) < x := by rw [Int32.lt_iff_toInt_lt]; simp only [Int32.reduceToInt]; omega
theorem own_narB (x : Int32) : nar .byte x.toInt8.toInt32 = x.toInt8.toInt32 := by
  show (x.toInt8.toInt32).toInt8.toInt32 = _
  simp
theorem own_n32 {n : Nat} {nn : Int32} (hn : nn.toInt = (n : Int)) : n.toInt32 = nn := by
  have r := rng32 nn
  rw [← Int32.toInt_inj, len_toInt (by omega), hn]
def own_ub (f : Nat → Int32) (j : Nat) : Int32 := if j % 2 = 0 then (((f (j / 2)) >>> ((0 : Int32) &&& 31)).toInt8.toInt32) else (((f (j / 2)) >>> ((8 : Int32) &&& 31)).toInt8.toInt32)
def own_Str (Z : State) (h : Heap) (x : Addr) (n : Nat) (f : Nat → Int32) : Prop := ∃ t : Nat, Exa Z h x "java/lang/String" ∧ Fld Z h x "java/lang/String" "value" "[B" (.ref t) ∧ (∀ i, i < n → 0 ≤ (f i).toInt ∧ (f i).toInt ≤ 65535) ∧
  ((Fld Z h x "java/lang/String" "coder" "B" (.int 0) ∧ own_A Z h t .byte n (fun i => .int ((f i).toInt8.toInt32)) ∧ ∀ i, i < n → 0 ≤ (f i).toInt ∧ (f i).toInt ≤ 255) ∨ (Fld Z h x "java/lang/String" "coder" "B" (.int 1) ∧ own_A Z h t .byte (2 * n) (fun i => .int (own_ub f i))))
theorem own_Str.keep {Z : State} {h h' : Heap} {x : Addr} {n : Nat} {f : Nat → Int32} {ws : List Addr} (F : own_Str Z h x n f) (K : Keep h h' ws) (q : ∀ y ∈ ws, h.size ≤ y) : own_Str Z h' x n f := by
  obtain ⟨t, E, V, B, C⟩ := F
  have nx : ∀ {z : Addr}, z < h.size → z ∉ ws := fun {z} hz hm => absurd hz (Nat.not_lt.mpr (q z hm))
  refine ⟨t, E.keep K, V.keep K (nx E.lt), B, ?_⟩
  rcases C with ⟨c, A, r⟩ | ⟨c, A⟩
  · exact Or.inl ⟨c.keep K (nx E.lt), A.keep K (nx A.lt), r⟩
  · exact Or.inr ⟨c.keep K (nx E.lt), A.keep K (nx A.lt)⟩
theorem own_get16 {c : Int32} (h : 0 ≤ c.toInt ∧ c.toInt ≤ 65535) : (((((c >>> ((0 : Int32) &&& 31)).toInt8.toInt32 &&& (255 : Int32)) <<< ((0 : Int32) &&& 31)) ||| (((c >>> ((8 : Int32) &&& 31)).toInt8.toInt32 &&& (255 : Int32)) <<< ((8 : Int32) &&& 31))).toUInt32.toUInt16.toUInt32.toInt32) = c := by
  have a1 := c_ishr c 0 0 (by decide)
  have a2 := c_i2b (c >>> ((0 : Int32) &&& 31))
  have a3 := c_mask (c >>> ((0 : Int32) &&& 31)).toInt8.toInt32 255 8 (by decide) (by decide)
  have a4 := c_ishl ((c >>> ((0 : Int32) &&& 31)).toInt8.toInt32 &&& (255 : Int32)) 0 0 (by decide)
  have b1 := c_ishr c 8 8 (by decide)
  have b2 := c_i2b (c >>> ((8 : Int32) &&& 31))
  have b3 := c_mask (c >>> ((8 : Int32) &&& 31)).toInt8.toInt32 255 8 (by decide) (by decide)
  have b4 := c_ishl ((c >>> ((8 : Int32) &&& 31)).toInt8.toInt32 &&& (255 : Int32)) 8 8 (by decide)
  generalize (c >>> ((0 : Int32) &&& 31)).toInt8.toInt32 &&& (255 : Int32) = p0 at *
  generalize (c >>> ((8 : Int32) &&& 31)).toInt8.toInt32 &&& (255 : Int32) = p1 at *
  have r0 := rng32 (p0 <<< ((0 : Int32) &&& 31))
  have r1 := rng32 (p1 <<< ((8 : Int32) &&& 31))
  generalize p0 <<< ((0 : Int32) &&& 31) = q0 at *
  generalize p1 <<< ((8 : Int32) &&& 31) = q1 at *
  simp only [Nat.reducePow] at a1 a3 a4 b1 b3 b4
  have o := c_or' q0 q1 8 (by decide) 256 (by decide) (by omega) (by omega) (by omega)
  have ro := rng32 (q0 ||| q1)
  have e := c_i2c (q0 ||| q1)
  rw [← Int32.toInt_inj]
  omega
theorem own_ub0 (f : Nat → Int32) (i : Nat) : own_ub f (2 * i) = (((f i) >>> ((0 : Int32) &&& 31)).toInt8.toInt32) := by
  have q1 : 2 * i % 2 = 0 := by omega
  have q2 : 2 * i / 2 = i := by omega
  simp only [own_ub, q1, q2, if_true]
theorem own_ub1 (f : Nat → Int32) (i : Nat) : own_ub f (2 * i + 1) = (((f i) >>> ((8 : Int32) &&& 31)).toInt8.toInt32) := by
  have q1 : ¬ (2 * i + 1) % 2 = 0 := by omega
  have q2 : (2 * i + 1) / 2 = i := by omega
  simp only [own_ub, q1, q2, if_false]
theorem own_shl1 {j : Int32} {k n : Nat} (hj : j.toInt = (k : Int)) (hk : k < n) (hn : 2 * n < 2 ^ 31) : (j <<< ((1 : Int32) &&& 31)).toInt = ((2 * k : Nat) : Int) := by
  have h := c_ishl j 1 1 (by decide)
  have r := rng32 (j <<< ((1 : Int32) &&& 31))
  simp only [Nat.reducePow] at h
  omega
theorem own_shl1' {j : Int32} {n : Nat} (hj : j.toInt = (n : Int)) (hn : 2 * n < 2 ^ 31) : (j <<< ((1 : Int32) &&& 31)).toInt = ((2 * n : Nat) : Int) := by
  have h := c_ishl j 1 1 (by decide)
  have r := rng32 (j <<< ((1 : Int32) &&& 31))
  simp only [Nat.reducePow] at h
  omega
theorem own_add1 {j : Int32} {k : Nat} (hj : j.toInt = (k : Int)) (hn : k + 1 < 2 ^ 31) : (j + (1 : Int32)).toInt = ((k + 1 : Nat) : Int) := by
  have h := c_iadd j 1
  have r := rng32 (j + 1)
  simp only [Int32.reduceToInt] at h
  omega
theorem own_half {n : Nat} {nn : Int32} (hn : nn.toInt = (n : Int)) (h2 : 2 * n < 2 ^ 31) : ((2 * n).toInt32 >>> ((1 : Int32) &&& 31)) = nn := by
  have h := c_ishr (2 * n).toInt32 1 1 (by decide)
  rw [len_toInt h2] at h
  rw [← Int32.toInt_inj, h, hn]
  simp only [Nat.reducePow]
  omega
theorem own_neg31 {n : Nat} {nn : Int32} (hn : nn.toInt = (n : Int)) (h1 : 0 < n) (h2 : 2 * n < 2 ^ 31) : (((nn - (2 * n).toInt32).toUInt32 >>> ((31 : Int32) &&& 31).toUInt32).toInt32).toInt8.toInt32 = (1 : Int32) := by
  have a := c_isub nn (2 * n).toInt32
  have r := rng32 (nn - (2 * n).toInt32)
  rw [len_toInt h2, hn] at a
  have b := c_iushr (nn - (2 * n).toInt32) 31 31 (by decide) (by decide)
  generalize nn - (2 * n).toInt32 = d at *
  simp only [Nat.reducePow] at b
  have e : ((d.toUInt32 >>> ((31 : Int32) &&& 31).toUInt32).toInt32) = 1 := by
    rw [← Int32.toInt_inj, b]
    simp only [Int32.reduceToInt]
    omega
  rw [e]; decide
theorem own_lat {x : Int32} (h : 0 ≤ x.toInt ∧ x.toInt ≤ 255) : ((x.toInt8.toInt32 &&& (255 : Int32)).toUInt32.toUInt16.toUInt32.toInt32) = x := by
  have a := c_i2b x
  have b := c_mask x.toInt8.toInt32 255 8 (by decide) (by decide)
  generalize x.toInt8.toInt32 &&& (255 : Int32) = y at *
  have e := c_i2c y
  simp only [Nat.reducePow] at b
  rw [← Int32.toInt_inj]
  omega
theorem own_narR {x : Int32} (h : 0 ≤ x.toInt ∧ x.toInt ≤ 65535) : narrow .char (.int x) = .int x := congrArg Value.int (own_narC h)
theorem own_narI (x : Int32) : narrow .char (.int x.toUInt32.toUInt16.toUInt32.toInt32) = .int x.toUInt32.toUInt16.toUInt32.toInt32 := own_narR (by have := c_i2c x; omega)
theorem own_put {g g1 g2 : Nat → Int32} {k : Nat} {x y : Int32} (h1 : g1 = fun q => if q = 2 * k then x else g q) (h2 : g2 = fun q => if q = 2 * k + 1 then y else g1 q) : ∀ i, g2 i = if i = 2 * k + 1 then y else if i = 2 * k then x else g i := by
  intro i; rw [h2, h1]
theorem own_n0 {nn : Int32} {n : Nat} (hn : nn.toInt = (n : Int)) : ¬ nn < (0 : Int32) := by rw [Int32.lt_iff_toInt_lt, Int32.toInt_zero]; omega
theorem own_n1 {nn : Int32} {n : Nat} (hn : nn.toInt = (n : Int)) (h : n < 1000000) : nn < (1073741823 : Int32) := by rw [Int32.lt_iff_toInt_lt]; simp only [Int32.reduceToInt]; omega
theorem own_ubs {f g g2 : Nat → Int32} {k : Nat} (hg : ∀ i, i < 2 * k → g i = own_ub f i) (h2 : ∀ i, g2 i = if i = 2 * k + 1 then (((f k) >>> ((8 : Int32) &&& 31)).toInt8.toInt32) else if i = 2 * k then (((f k) >>> ((0 : Int32) &&& 31)).toInt8.toInt32) else g i) : ∀ i, i < 2 * (k + 1) → g2 i = own_ub f i := by
  intro i hi
  rw [h2]
  by_cases q1 : i = 2 * k + 1
  · rw [if_pos q1, q1, own_ub1]
  · rw [if_neg q1]
    by_cases q2 : i = 2 * k
    · rw [if_pos q2, q2, own_ub0]
    · rw [if_neg q2]; exact hg i (by omega)
theorem own_gt255 {x : Int32} (h : (255 : Int32) < x) : 255 < x.toInt := by rw [Int32.lt_iff_toInt_lt] at h; simpa only [Int32.reduceToInt] using h
theorem own_lstep {f : Nat → Int32} {k : Nat} (hl : ∀ i, i < k → (f i).toInt ≤ 255) (h : ¬ (255 : Int32) < f k) : ∀ i, i < k + 1 → (f i).toInt ≤ 255 := by
  intro i hi
  by_cases q : i = k
  · subst q; rw [Int32.lt_iff_toInt_lt] at h; simp only [Int32.reduceToInt] at h; omega
  · exact hl i (by omega)
theorem own_jne {j nn : Int32} {k n : Nat} (hj : j.toInt = (k : Int)) (hn : nn.toInt = (n : Int)) (h : k < n) : ¬ j = nn := by rw [← Int32.toInt_inj]; omega
theorem own_jeq {j nn : Int32} {n : Nat} (hj : j.toInt = (n : Int)) (hn : nn.toInt = (n : Int)) : j = nn := by rw [← Int32.toInt_inj]; omega
theorem own_255 {x : Int32} (h : 255 < x.toInt) : (255 : Int32) < x := by rw [Int32.lt_iff_toInt_lt]; simpa only [Int32.reduceToInt] using h
theorem own_nz {nn : Int32} {n : Nat} (hn : nn.toInt = (n : Int)) (hp : 0 < n) : ¬ nn = (0 : Int32) := by rw [← Int32.toInt_inj, Int32.toInt_zero]; omega
def own_sym (c x : Int32) : Prop := (0 ≤ x.toInt ∧ x.toInt < 26 ∧ c.toInt = 65 + x.toInt) ∨ (26 ≤ x.toInt ∧ x.toInt < 52 ∧ c.toInt = 71 + x.toInt) ∨ (52 ≤ x.toInt ∧ x.toInt < 62 ∧ c.toInt = x.toInt - 4) ∨ (x.toInt = 62 ∧ c.toInt = 45) ∨ (x.toInt = 63 ∧ c.toInt = 95)
theorem own_sym_rng {c x : Int32} (h : own_sym c x) : (0 ≤ c.toInt ∧ c.toInt ≤ 65535) ∧ 0 ≤ x.toInt ∧ x.toInt ≤ 63 := by unfold own_sym at h; omega
theorem own_rngs {g g' : Nat → Int32} {k : Nat} {x : Int32} (hg : g' = fun q => if q = k then x else g q) (hr : ∀ i, 0 ≤ (g i).toInt ∧ (g i).toInt ≤ 65535) (hx : 0 ≤ x.toInt ∧ x.toInt ≤ 65535) : ∀ i, 0 ≤ (g' i).toInt ∧ (g' i).toInt ≤ 65535 := by
  intro i; rw [hg]
  by_cases q : i = k
  · simp only [q, if_true]; exact hx
  · simp only [q, if_false]; exact hr i
theorem own_rngi (x : Int32) : 0 ≤ (x.toUInt32.toUInt16.toUInt32.toInt32).toInt ∧ (x.toUInt32.toUInt16.toUInt32.toInt32).toInt ≤ 65535 := by have := c_i2c x; omega
theorem own_narI' (x : Int32) : nar .char x.toUInt32.toUInt16.toUInt32.toInt32 = x.toUInt32.toUInt16.toUInt32.toInt32 := own_narC (own_rngi x)
theorem own_h6 {a v : Int32} (ha : 0 ≤ a.toInt ∧ a.toInt < 64) (hv : 0 ≤ v.toInt ∧ v.toInt ≤ 63) : ((a <<< ((6 : Int32) &&& 31)) ||| v).toInt = a.toInt * 64 + v.toInt := by
  have h := c_ishl a 6 6 (by decide)
  have r := rng32 (a <<< ((6 : Int32) &&& 31))
  simp only [Nat.reducePow] at h
  generalize a <<< ((6 : Int32) &&& 31) = b at *
  have o := c_or b v 6 (by decide) 64 (by decide) (by omega) (by omega) (by omega)
  have q := rng32 (b ||| v)
  omega
theorem own_six {y : Int32} : ((((y.toUInt32 >>> ((8 : Int32) &&& 31).toUInt32).toInt32) &&& (32767 : Int32)) % (6 : Int32)) = 0 ∨ ((((y.toUInt32 >>> ((8 : Int32) &&& 31).toUInt32).toInt32) &&& (32767 : Int32)) % (6 : Int32)) = 1 ∨ ((((y.toUInt32 >>> ((8 : Int32) &&& 31).toUInt32).toInt32) &&& (32767 : Int32)) % (6 : Int32)) = 2 ∨ ((((y.toUInt32 >>> ((8 : Int32) &&& 31).toUInt32).toInt32) &&& (32767 : Int32)) % (6 : Int32)) = 3 ∨ ((((y.toUInt32 >>> ((8 : Int32) &&& 31).toUInt32).toInt32) &&& (32767 : Int32)) % (6 : Int32)) = 4 ∨ ((((y.toUInt32 >>> ((8 : Int32) &&& 31).toUInt32).toInt32) &&& (32767 : Int32)) % (6 : Int32)) = 5 := by
  have q := c_mask ((y.toUInt32 >>> ((8 : Int32) &&& 31).toUInt32).toInt32) 32767 15 (by decide) (by decide)
  generalize ((y.toUInt32 >>> ((8 : Int32) &&& 31).toUInt32).toInt32) &&& (32767 : Int32) = z at *
  simp only [Nat.reducePow] at q
  have r := (c_irem z 6 6 (by decide)).1 (by omega)
  simp only [← Int32.toInt_inj, Int32.reduceToInt]
  omega
theorem own_m255 (x : Int32) : 0 ≤ (x &&& (255 : Int32)).toInt ∧ (x &&& (255 : Int32)).toInt ≤ 255 := by
  have h := c_mask x 255 8 (by decide) (by decide)
  simp only [Nat.reducePow] at h; omega
theorem own_m3 (x : Int32) : 0 ≤ (x &&& (3 : Int32)).toInt ∧ (x &&& (3 : Int32)).toInt ≤ 3 := by
  have h := c_mask x 3 2 (by decide) (by decide)
  simp only [Nat.reducePow] at h; omega
theorem own_padd {p : Int32} {P : Nat} (hp : p.toInt = (P : Int)) (h3 : P ≤ 3) (i : Int32) (k : Nat) (hi : i.toInt = (k : Int)) (hk : k ≤ 7) : (p + i).toInt = ((P + k : Nat) : Int) := by
  have a := c_iadd p i
  have r := rng32 (p + i)
  omega
theorem own_o4 {a b : Int32} (ha : 0 ≤ a.toInt ∧ a.toInt ≤ 255) (hb : 0 ≤ b.toInt ∧ b.toInt ≤ 255) : (((a &&& (3 : Int32)) <<< ((4 : Int32) &&& 31)) ||| (b >>> ((4 : Int32) &&& 31))).toInt = (a.toInt % 4) * 16 + b.toInt / 16 := by
  have h1 := c_mask a 3 2 (by decide) (by decide)
  have h2 := c_ishl (a &&& (3 : Int32)) 4 4 (by decide)
  have h3 := c_ishr b 4 4 (by decide)
  have r := rng32 ((a &&& (3 : Int32)) <<< ((4 : Int32) &&& 31))
  simp only [Nat.reducePow] at h1 h2 h3
  generalize (a &&& (3 : Int32)) <<< ((4 : Int32) &&& 31) = u at *
  generalize b >>> ((4 : Int32) &&& 31) = w at *
  have o := c_or u w 4 (by decide) 16 (by decide) (by omega) (by omega) (by omega)
  have q := rng32 (u ||| w)
  omega
theorem own_o2 {a b : Int32} (ha : 0 ≤ a.toInt ∧ a.toInt ≤ 255) (hb : 0 ≤ b.toInt ∧ b.toInt ≤ 255) : (((a &&& (15 : Int32)) <<< ((2 : Int32) &&& 31)) ||| (b >>> ((6 : Int32) &&& 31))).toInt = (a.toInt % 16) * 4 + b.toInt / 64 := by
  have h1 := c_mask a 15 4 (by decide) (by decide)
  have h2 := c_ishl (a &&& (15 : Int32)) 2 2 (by decide)
  have h3 := c_ishr b 6 6 (by decide)
  have r := rng32 ((a &&& (15 : Int32)) <<< ((2 : Int32) &&& 31))
  simp only [Nat.reducePow] at h1 h2 h3
  generalize (a &&& (15 : Int32)) <<< ((2 : Int32) &&& 31) = u at *
  generalize b >>> ((6 : Int32) &&& 31) = w at *
  have o := c_or u w 2 (by decide) 4 (by decide) (by omega) (by omega) (by omega)
  have q := rng32 (u ||| w)
  omega
theorem own_s2 {b : Int32} : (b >>> ((2 : Int32) &&& 31)).toInt = b.toInt / 4 := by
  have h3 := c_ishr b 2 2 (by decide)
  simp only [Nat.reducePow] at h3; omega
theorem own_m63 {b : Int32} : (b &&& (63 : Int32)).toInt = b.toInt % 64 := by
  have h3 := c_mask b 63 6 (by decide) (by decide)
  simp only [Nat.reducePow] at h3; omega
theorem own_l2 {a : Int32} : ((a &&& (15 : Int32)) <<< ((2 : Int32) &&& 31)).toInt = (a.toInt % 16) * 4 := by
  have h1 := c_mask a 15 4 (by decide) (by decide)
  have h2 := c_ishl (a &&& (15 : Int32)) 2 2 (by decide)
  have r := rng32 ((a &&& (15 : Int32)) <<< ((2 : Int32) &&& 31))
  simp only [Nat.reducePow] at h1 h2
  omega
theorem own_ltn {j : Int32} {k n : Nat} (hj : j.toInt = (k : Int)) (hn : n < 2 ^ 31) (h : j < n.toInt32) : k < n := by
  rw [Int32.lt_iff_toInt_lt, len_toInt hn, hj] at h; omega
theorem own_pl {P : Nat} (hP : P ≤ 3) (q : Nat) (hq : q ≤ 7 := by decide) : P + q < 11 := by omega
theorem own_pl2 {P : Nat} (hP : P ≤ 3) (q : Nat) (hq : q ≤ 7 := by decide) : P + (q - 1) + 1 < 2 ^ 31 := by omega
theorem own_r4 {a : Int32} {y : Int} (h : a.toInt = y / 4) (hy : 0 ≤ y ∧ y ≤ 255) : 0 ≤ a.toInt ∧ a.toInt < 64 := by omega
theorem own_r16 {a : Int32} {y B : Int} (h : a.toInt = y / 16) (hy : 0 ≤ y ∧ y ≤ B) (hB : B ≤ 255 := by decide) : 0 ≤ a.toInt ∧ a.toInt < 64 := by omega
theorem own_r64 {a : Int32} {y B : Int} (h : a.toInt = y / 64) (hy : 0 ≤ y ∧ y ≤ B) (hB : B ≤ 255 := by decide) : 0 ≤ a.toInt ∧ a.toInt < 64 := by omega
theorem own_rz {a : Int32} (h : a.toInt = 0) : 0 ≤ a.toInt ∧ a.toInt < 64 := by omega
theorem own_q1 {y z B : Int} (hy : 0 ≤ y ∧ y ≤ B) : y / 4 * 64 + (y % 4 * 16 + z / 16) = y * 16 + z / 16 := by omega
theorem own_q2 {y z B : Int} (hy : 0 ≤ y ∧ y ≤ B) : y / 16 * 64 + (y % 16 * 4 + z / 64) = y * 4 + z / 64 := by omega
theorem own_q3 (y : Int) : y / 64 * 64 + y % 64 = y := by omega
theorem own_q6 {y B : Int} (hy : 0 ≤ y ∧ y ≤ B) : y / 16 * 64 + y % 16 * 4 = y * 4 := by omega
theorem own_sh {H r y : Int32} {k : Nat} {E : Int} (h : r.toInt = H.toInt / (2 ^ k : Nat)) (hE : H.toInt = E) (hd : E / (2 ^ k : Nat) = y.toInt) : r = y := by rw [← Int32.toInt_inj, h, hE]; exact hd
theorem own_mk {H r : Int32} {k : Nat} {E G : Int} (h : r.toInt = H.toInt % (2 ^ k : Nat)) (hE : H.toInt = E) (hd : E % (2 ^ k : Nat) = G) : r.toInt = G := by rw [h, hE]; exact hd
theorem own_d1 {y z A B : Int} (hy : 0 ≤ y ∧ y ≤ A) (hz : 0 ≤ z ∧ z ≤ B) (hB : B ≤ 255 := by decide) : (y * 16 + z / 16) / (2 ^ 4 : Nat) = y := by show _ / (16 : Int) = _; omega
theorem own_d2 {y z A B : Int} (hy : 0 ≤ y ∧ y ≤ A) (hz : 0 ≤ z ∧ z ≤ B) (hB : B ≤ 255 := by decide) : (y * 4 + z / 64) / (2 ^ 2 : Nat) = y := by show _ / (4 : Int) = _; omega
theorem own_d3 (y : Int) : y / (2 ^ 0 : Nat) = y := by show _ / (1 : Int) = _; omega
theorem own_d6 (y : Int) : (y * 4) / (2 ^ 2 : Nat) = y := by show _ / (4 : Int) = _; omega
theorem own_e1 {y z B : Int} (hz : 0 ≤ z ∧ z ≤ B) (hB : B ≤ 255 := by decide) : (y * 16 + z / 16) % (2 ^ 4 : Nat) = z / 16 := by show _ % (16 : Int) = _; omega
theorem own_e2 {y z B : Int} (hz : 0 ≤ z ∧ z ≤ B) (hB : B ≤ 255 := by decide) : (y * 4 + z / 64) % (2 ^ 2 : Nat) = z / 64 := by show _ % (4 : Int) = _; omega
theorem own_e3 (y : Int) : y % (2 ^ 0 : Nat) = 0 := by show _ % (1 : Int) = _; omega
theorem own_e6 (y : Int) : (y * 4) % (2 ^ 2 : Nat) = 0 := by show _ % (4 : Int) = _; omega
theorem own_zz16 {a : Int32} {y : Int} (h : a.toInt = y / 16) (hy : 0 ≤ y ∧ y ≤ 0) : a.toInt = 0 := by omega
theorem own_zz64 {a : Int32} {y : Int} (h : a.toInt = y / 64) (hy : 0 ≤ y ∧ y ≤ 0) : a.toInt = 0 := by omega
theorem own_Str.exa {Z : State} {h : Heap} {x : Addr} {n : Nat} {f : Nat → Int32} (F : own_Str Z h x n f) : Exa Z h x "java/lang/String" := by obtain ⟨t, E, -⟩ := F; exact E
theorem own_len {p t k : Int32} {P K : Nat} (hp : p.toInt = (P : Int)) (ht : t.toInt = ((P + K : Nat) : Int)) (hk : k.toInt = (K : Int) := by decide) : (t - p) = k := by
  have h := c_isub t p
  have r := rng32 (t - p)
  have r2 := rng32 k
  rw [← Int32.toInt_inj]; omega
theorem own_lt3 {i t : Int32} {P Q : Nat} (hi : i.toInt = (P : Int)) (ht : t.toInt = (Q : Int)) (h : P < Q) : i < t := by rw [Int32.lt_iff_toInt_lt]; omega
theorem own_ge3 {i t : Int32} {P Q : Nat} (hi : i.toInt = (P : Int)) (ht : t.toInt = (Q : Int)) (h : Q ≤ P) : ¬ i < t := by rw [Int32.lt_iff_toInt_lt]; omega
theorem own_vn {x : Int32} (h : 0 ≤ x.toInt) : ¬ x < (0 : Int32) := by rw [Int32.lt_iff_toInt_lt, Int32.toInt_zero]; omega
theorem own_z0 {x : Int32} (h : x.toInt = 0) : x = (0 : Int32) := by rw [← Int32.toInt_inj, Int32.toInt_zero]; exact h
theorem own_b0 {y : Int32} (h : 0 ≤ y.toInt ∧ y.toInt ≤ 0) : 0 ≤ y.toInt ∧ y.toInt ≤ 255 := by omega
theorem own_k4 {v : Int32} {y : Int} (h : v.toInt = y / 4) (hy : 0 ≤ y ∧ y ≤ 255) : 0 ≤ v.toInt ∧ v.toInt ≤ 63 := by omega
theorem own_k16 {v : Int32} {y z : Int} (h : v.toInt = (y % 4) * 16 + z / 16) (hy : 0 ≤ y ∧ y ≤ 255) (hz : 0 ≤ z ∧ z ≤ 255) : 0 ≤ v.toInt ∧ v.toInt ≤ 63 := by omega
theorem own_k64 {v : Int32} {y z : Int} (h : v.toInt = (y % 16) * 4 + z / 64) (hy : 0 ≤ y ∧ y ≤ 255) (hz : 0 ≤ z ∧ z ≤ 255) : 0 ≤ v.toInt ∧ v.toInt ≤ 63 := by omega
theorem own_k3 {v : Int32} {y : Int} (h : v.toInt = y % 64) : 0 ≤ v.toInt ∧ v.toInt ≤ 63 := by omega
theorem own_k6 {v : Int32} {y : Int} (h : v.toInt = (y % 16) * 4) : 0 ≤ v.toInt ∧ v.toInt ≤ 63 := by omega
theorem own_d1_0 : decode method_2_code 0 = .ok (.iload_n 0, 1) := by decide +kernel
theorem own_d1_1 : decode method_2_code 1 = .ok (.bipush 26, 2) := by decide +kernel
theorem own_d1_3 : decode method_2_code 3 = .ok (.if_icmp .ge 9, 3) := by decide +kernel
theorem own_d1_6 : decode method_2_code 6 = .ok (.bipush 65, 2) := by decide +kernel
theorem own_d1_8 : decode method_2_code 8 = .ok (.iload_n 0, 1) := by decide +kernel
theorem own_d1_9 : decode method_2_code 9 = .ok (.iadd, 1) := by decide +kernel
theorem own_d1_10 : decode method_2_code 10 = .ok (.i2c, 1) := by decide +kernel
theorem own_d1_11 : decode method_2_code 11 = .ok (.ireturn, 1) := by decide +kernel
theorem own_d1_12 : decode method_2_code 12 = .ok (.iload_n 0, 1) := by decide +kernel
theorem own_d1_13 : decode method_2_code 13 = .ok (.bipush 52, 2) := by decide +kernel
theorem own_d1_15 : decode method_2_code 15 = .ok (.if_icmp .ge 12, 3) := by decide +kernel
theorem own_d1_18 : decode method_2_code 18 = .ok (.bipush 97, 2) := by decide +kernel
theorem own_d1_20 : decode method_2_code 20 = .ok (.iload_n 0, 1) := by decide +kernel
theorem own_d1_21 : decode method_2_code 21 = .ok (.bipush 26, 2) := by decide +kernel
theorem own_d1_23 : decode method_2_code 23 = .ok (.isub, 1) := by decide +kernel
theorem own_d1_24 : decode method_2_code 24 = .ok (.iadd, 1) := by decide +kernel
theorem own_d1_25 : decode method_2_code 25 = .ok (.i2c, 1) := by decide +kernel
theorem own_d1_26 : decode method_2_code 26 = .ok (.ireturn, 1) := by decide +kernel
theorem own_d1_27 : decode method_2_code 27 = .ok (.iload_n 0, 1) := by decide +kernel
theorem own_d1_28 : decode method_2_code 28 = .ok (.bipush 62, 2) := by decide +kernel
theorem own_d1_30 : decode method_2_code 30 = .ok (.if_icmp .ge 12, 3) := by decide +kernel
theorem own_d1_33 : decode method_2_code 33 = .ok (.bipush 48, 2) := by decide +kernel
theorem own_d1_35 : decode method_2_code 35 = .ok (.iload_n 0, 1) := by decide +kernel
theorem own_d1_36 : decode method_2_code 36 = .ok (.bipush 52, 2) := by decide +kernel
theorem own_d1_38 : decode method_2_code 38 = .ok (.isub, 1) := by decide +kernel
theorem own_d1_39 : decode method_2_code 39 = .ok (.iadd, 1) := by decide +kernel
theorem own_d1_40 : decode method_2_code 40 = .ok (.i2c, 1) := by decide +kernel
theorem own_d1_41 : decode method_2_code 41 = .ok (.ireturn, 1) := by decide +kernel
theorem own_d1_42 : decode method_2_code 42 = .ok (.iload_n 0, 1) := by decide +kernel
theorem own_d1_43 : decode method_2_code 43 = .ok (.bipush 62, 2) := by decide +kernel
theorem own_d1_45 : decode method_2_code 45 = .ok (.if_icmp .ne 8, 3) := by decide +kernel
theorem own_d1_48 : decode method_2_code 48 = .ok (.bipush 45, 2) := by decide +kernel
theorem own_d1_50 : decode method_2_code 50 = .ok (.goto 5, 3) := by decide +kernel
theorem own_d1_53 : decode method_2_code 53 = .ok (.bipush 95, 2) := by decide +kernel
theorem own_d1_55 : decode method_2_code 55 = .ok (.ireturn, 1) := by decide +kernel
theorem own_d2_0 : decode jdk_42_method_3_code 0 = .ok (.aload_n 0, 1) := by decide +kernel
theorem own_d2_1 : decode jdk_42_method_3_code 1 = .ok (.aload_n 1, 1) := by decide +kernel
theorem own_d2_2 : decode jdk_42_method_3_code 2 = .ok (.iconst 0, 1) := by decide +kernel
theorem own_d2_3 : decode jdk_42_method_3_code 3 = .ok (.aload_n 1, 1) := by decide +kernel
theorem own_d2_4 : decode jdk_42_method_3_code 4 = .ok (.arraylength, 1) := by decide +kernel
theorem own_d2_5 : decode jdk_42_method_3_code 5 = .ok (.aconst_null, 1) := by decide +kernel
theorem own_d2_6 : decode jdk_42_method_3_code 6 = .ok (.invokespecial 27, 3) := by decide +kernel
theorem own_d2_9 : decode jdk_42_method_3_code 9 = .ok (.return_, 1) := by decide +kernel
theorem own_d3_0 : decode jdk_42_method_149_code 0 = .ok (.aload_n 0, 1) := by decide +kernel
theorem own_d3_1 : decode jdk_42_method_149_code 1 = .ok (.invokespecial 1, 3) := by decide +kernel
theorem own_d3_4 : decode jdk_42_method_149_code 4 = .ok (.iload_n 3, 1) := by decide +kernel
theorem own_d3_5 : decode jdk_42_method_149_code 5 = .ok (.ifCond .ne 22, 3) := by decide +kernel
theorem own_d3_27 : decode jdk_42_method_149_code 27 = .ok (.getstatic 38, 3) := by decide +kernel
theorem own_d3_30 : decode jdk_42_method_149_code 30 = .ok (.ifCond .eq 28, 3) := by decide +kernel
theorem own_d3_33 : decode jdk_42_method_149_code 33 = .ok (.aload_n 1, 1) := by decide +kernel
theorem own_d3_34 : decode jdk_42_method_149_code 34 = .ok (.iload_n 2, 1) := by decide +kernel
theorem own_d3_35 : decode jdk_42_method_149_code 35 = .ok (.iload_n 3, 1) := by decide +kernel
theorem own_d3_36 : decode jdk_42_method_149_code 36 = .ok (.invokestatic 177, 3) := by decide +kernel
theorem own_d3_39 : decode jdk_42_method_149_code 39 = .ok (.astore 5, 2) := by decide +kernel
theorem own_d3_41 : decode jdk_42_method_149_code 41 = .ok (.aload_n 0, 1) := by decide +kernel
theorem own_d3_42 : decode jdk_42_method_149_code 42 = .ok (.aload 5, 2) := by decide +kernel
theorem own_d3_44 : decode jdk_42_method_149_code 44 = .ok (.iload_n 3, 1) := by decide +kernel
theorem own_d3_45 : decode jdk_42_method_149_code 45 = .ok (.invokestatic 47, 3) := by decide +kernel
theorem own_d3_48 : decode jdk_42_method_149_code 48 = .ok (.putfield 15, 3) := by decide +kernel
theorem own_d3_51 : decode jdk_42_method_149_code 51 = .ok (.aload_n 0, 1) := by decide +kernel
theorem own_d3_52 : decode jdk_42_method_149_code 52 = .ok (.aload 5, 2) := by decide +kernel
theorem own_d3_54 : decode jdk_42_method_149_code 54 = .ok (.putfield 9, 3) := by decide +kernel
theorem own_d3_57 : decode jdk_42_method_149_code 57 = .ok (.return_, 1) := by decide +kernel
theorem own_d5_0 : decode jdk_52_method_16_code 0 = .ok (.iload_n 2, 1) := by decide +kernel
theorem own_d5_1 : decode jdk_52_method_16_code 1 = .ok (.newarray .byte, 2) := by decide +kernel
theorem own_d5_3 : decode jdk_52_method_16_code 3 = .ok (.astore_n 3, 1) := by decide +kernel
theorem own_d5_4 : decode jdk_52_method_16_code 4 = .ok (.aload_n 0, 1) := by decide +kernel
theorem own_d5_5 : decode jdk_52_method_16_code 5 = .ok (.iload_n 1, 1) := by decide +kernel
theorem own_d5_6 : decode jdk_52_method_16_code 6 = .ok (.aload_n 3, 1) := by decide +kernel
theorem own_d5_7 : decode jdk_52_method_16_code 7 = .ok (.iconst 0, 1) := by decide +kernel
theorem own_d5_8 : decode jdk_52_method_16_code 8 = .ok (.iload_n 2, 1) := by decide +kernel
theorem own_d5_9 : decode jdk_52_method_16_code 9 = .ok (.invokestatic 115, 3) := by decide +kernel
theorem own_d5_12 : decode jdk_52_method_16_code 12 = .ok (.istore 4, 2) := by decide +kernel
theorem own_d5_14 : decode jdk_52_method_16_code 14 = .ok (.iload 4, 2) := by decide +kernel
theorem own_d5_16 : decode jdk_52_method_16_code 16 = .ok (.iload_n 2, 1) := by decide +kernel
theorem own_d5_17 : decode jdk_52_method_16_code 17 = .ok (.if_icmp .eq 40, 3) := by decide +kernel
theorem own_d5_20 : decode jdk_52_method_16_code 20 = .ok (.aload_n 0, 1) := by decide +kernel
theorem own_d5_21 : decode jdk_52_method_16_code 21 = .ok (.iload_n 1, 1) := by decide +kernel
theorem own_d5_22 : decode jdk_52_method_16_code 22 = .ok (.iload_n 2, 1) := by decide +kernel
theorem own_d5_23 : decode jdk_52_method_16_code 23 = .ok (.invokestatic 119, 3) := by decide +kernel
theorem own_d5_26 : decode jdk_52_method_16_code 26 = .ok (.astore 5, 2) := by decide +kernel
theorem own_d5_28 : decode jdk_52_method_16_code 28 = .ok (.aload 5, 2) := by decide +kernel
theorem own_d5_30 : decode jdk_52_method_16_code 30 = .ok (.iload 4, 2) := by decide +kernel
theorem own_d5_32 : decode jdk_52_method_16_code 32 = .ok (.invokestatic 71, 3) := by decide +kernel
theorem own_d5_35 : decode jdk_52_method_16_code 35 = .ok (.sipush 255, 3) := by decide +kernel
theorem own_d5_38 : decode jdk_52_method_16_code 38 = .ok (.if_icmp .gt 16, 3) := by decide +kernel
theorem own_d5_54 : decode jdk_52_method_16_code 54 = .ok (.aload 5, 2) := by decide +kernel
theorem own_d5_56 : decode jdk_52_method_16_code 56 = .ok (.areturn, 1) := by decide +kernel
theorem own_d5_57 : decode jdk_52_method_16_code 57 = .ok (.aload_n 3, 1) := by decide +kernel
theorem own_d5_58 : decode jdk_52_method_16_code 58 = .ok (.areturn, 1) := by decide +kernel
theorem own_d6_0 : decode jdk_52_method_21_code 0 = .ok (.iconst 0, 1) := by decide +kernel
theorem own_d6_1 : decode jdk_52_method_21_code 1 = .ok (.istore 5, 2) := by decide +kernel
theorem own_d6_3 : decode jdk_52_method_21_code 3 = .ok (.iload 5, 2) := by decide +kernel
theorem own_d6_5 : decode jdk_52_method_21_code 5 = .ok (.iload 4, 2) := by decide +kernel
theorem own_d6_7 : decode jdk_52_method_21_code 7 = .ok (.if_icmp .ge 37, 3) := by decide +kernel
theorem own_d6_10 : decode jdk_52_method_21_code 10 = .ok (.aload_n 0, 1) := by decide +kernel
theorem own_d6_11 : decode jdk_52_method_21_code 11 = .ok (.iload_n 1, 1) := by decide +kernel
theorem own_d6_12 : decode jdk_52_method_21_code 12 = .ok (.caload, 1) := by decide +kernel
theorem own_d6_13 : decode jdk_52_method_21_code 13 = .ok (.istore 6, 2) := by decide +kernel
theorem own_d6_15 : decode jdk_52_method_21_code 15 = .ok (.iload 6, 2) := by decide +kernel
theorem own_d6_17 : decode jdk_52_method_21_code 17 = .ok (.sipush 255, 3) := by decide +kernel
theorem own_d6_20 : decode jdk_52_method_21_code 20 = .ok (.if_icmp .le 6, 3) := by decide +kernel
theorem own_d6_23 : decode jdk_52_method_21_code 23 = .ok (.iload 5, 2) := by decide +kernel
theorem own_d6_25 : decode jdk_52_method_21_code 25 = .ok (.ireturn, 1) := by decide +kernel
theorem own_d6_26 : decode jdk_52_method_21_code 26 = .ok (.aload_n 2, 1) := by decide +kernel
theorem own_d6_27 : decode jdk_52_method_21_code 27 = .ok (.iload_n 3, 1) := by decide +kernel
theorem own_d6_28 : decode jdk_52_method_21_code 28 = .ok (.iload 6, 2) := by decide +kernel
theorem own_d6_30 : decode jdk_52_method_21_code 30 = .ok (.i2b, 1) := by decide +kernel
theorem own_d6_31 : decode jdk_52_method_21_code 31 = .ok (.bastore, 1) := by decide +kernel
theorem own_d6_32 : decode jdk_52_method_21_code 32 = .ok (.iinc 1 1, 3) := by decide +kernel
theorem own_d6_35 : decode jdk_52_method_21_code 35 = .ok (.iinc 3 1, 3) := by decide +kernel
theorem own_d6_38 : decode jdk_52_method_21_code 38 = .ok (.iinc 5 1, 3) := by decide +kernel
theorem own_d6_41 : decode jdk_52_method_21_code 41 = .ok (.goto (-38), 3) := by decide +kernel
theorem own_d6_44 : decode jdk_52_method_21_code 44 = .ok (.iload 4, 2) := by decide +kernel
theorem own_d6_46 : decode jdk_52_method_21_code 46 = .ok (.ireturn, 1) := by decide +kernel
theorem own_d7_0 : decode jdk_52_method_15_code 0 = .ok (.iload_n 1, 1) := by decide +kernel
theorem own_d7_1 : decode jdk_52_method_15_code 1 = .ok (.aload_n 0, 1) := by decide +kernel
theorem own_d7_2 : decode jdk_52_method_15_code 2 = .ok (.arraylength, 1) := by decide +kernel
theorem own_d7_3 : decode jdk_52_method_15_code 3 = .ok (.isub, 1) := by decide +kernel
theorem own_d7_4 : decode jdk_52_method_15_code 4 = .ok (.bipush 31, 2) := by decide +kernel
theorem own_d7_6 : decode jdk_52_method_15_code 6 = .ok (.iushr, 1) := by decide +kernel
theorem own_d7_7 : decode jdk_52_method_15_code 7 = .ok (.i2b, 1) := by decide +kernel
theorem own_d7_8 : decode jdk_52_method_15_code 8 = .ok (.ireturn, 1) := by decide +kernel
theorem own_d8_0 : decode prog_23_method_3_code 0 = .ok (.iload_n 2, 1) := by decide +kernel
theorem own_d8_1 : decode prog_23_method_3_code 1 = .ok (.iload_n 1, 1) := by decide +kernel
theorem own_d8_2 : decode prog_23_method_3_code 2 = .ok (.isub, 1) := by decide +kernel
theorem own_d8_3 : decode prog_23_method_3_code 3 = .ok (.istore_n 3, 1) := by decide +kernel
theorem own_d8_4 : decode prog_23_method_3_code 4 = .ok (.iload_n 3, 1) := by decide +kernel
theorem own_d8_5 : decode prog_23_method_3_code 5 = .ok (.iconst 4, 1) := by decide +kernel
theorem own_d8_6 : decode prog_23_method_3_code 6 = .ok (.irem, 1) := by decide +kernel
theorem own_d8_7 : decode prog_23_method_3_code 7 = .ok (.iconst 1, 1) := by decide +kernel
theorem own_d8_8 : decode prog_23_method_3_code 8 = .ok (.if_icmp .ne 13, 3) := by decide +kernel
theorem own_d8_21 : decode prog_23_method_3_code 21 = .ok (.iload_n 3, 1) := by decide +kernel
theorem own_d8_22 : decode prog_23_method_3_code 22 = .ok (.bipush 6, 2) := by decide +kernel
theorem own_d8_24 : decode prog_23_method_3_code 24 = .ok (.imul, 1) := by decide +kernel
theorem own_d8_25 : decode prog_23_method_3_code 25 = .ok (.bipush 8, 2) := by decide +kernel
theorem own_d8_27 : decode prog_23_method_3_code 27 = .ok (.idiv, 1) := by decide +kernel
theorem own_d8_28 : decode prog_23_method_3_code 28 = .ok (.newarray .byte, 2) := by decide +kernel
theorem own_d8_30 : decode prog_23_method_3_code 30 = .ok (.astore 4, 2) := by decide +kernel
theorem own_d8_32 : decode prog_23_method_3_code 32 = .ok (.iconst 0, 1) := by decide +kernel
theorem own_d8_33 : decode prog_23_method_3_code 33 = .ok (.istore 5, 2) := by decide +kernel
theorem own_d8_35 : decode prog_23_method_3_code 35 = .ok (.iconst 0, 1) := by decide +kernel
theorem own_d8_36 : decode prog_23_method_3_code 36 = .ok (.istore 6, 2) := by decide +kernel
theorem own_d8_38 : decode prog_23_method_3_code 38 = .ok (.iconst 0, 1) := by decide +kernel
theorem own_d8_39 : decode prog_23_method_3_code 39 = .ok (.istore 7, 2) := by decide +kernel
theorem own_d8_41 : decode prog_23_method_3_code 41 = .ok (.iload_n 1, 1) := by decide +kernel
theorem own_d8_42 : decode prog_23_method_3_code 42 = .ok (.istore 8, 2) := by decide +kernel
theorem own_d8_44 : decode prog_23_method_3_code 44 = .ok (.iload 8, 2) := by decide +kernel
theorem own_d8_46 : decode prog_23_method_3_code 46 = .ok (.iload_n 2, 1) := by decide +kernel
theorem own_d8_47 : decode prog_23_method_3_code 47 = .ok (.if_icmp .ge 83, 3) := by decide +kernel
theorem own_d8_50 : decode prog_23_method_3_code 50 = .ok (.aload_n 0, 1) := by decide +kernel
theorem own_d8_51 : decode prog_23_method_3_code 51 = .ok (.iload 8, 2) := by decide +kernel
theorem own_d8_53 : decode prog_23_method_3_code 53 = .ok (.invokevirtual 26, 3) := by decide +kernel
theorem own_d8_56 : decode prog_23_method_3_code 56 = .ok (.invokestatic 30, 3) := by decide +kernel
theorem own_d8_59 : decode prog_23_method_3_code 59 = .ok (.istore 9, 2) := by decide +kernel
theorem own_d8_61 : decode prog_23_method_3_code 61 = .ok (.iload 9, 2) := by decide +kernel
theorem own_d8_63 : decode prog_23_method_3_code 63 = .ok (.ifCond .ge 13, 3) := by decide +kernel
theorem own_d8_76 : decode prog_23_method_3_code 76 = .ok (.iload 5, 2) := by decide +kernel
theorem own_d8_78 : decode prog_23_method_3_code 78 = .ok (.bipush 6, 2) := by decide +kernel
theorem own_d8_80 : decode prog_23_method_3_code 80 = .ok (.ishl, 1) := by decide +kernel
theorem own_d8_81 : decode prog_23_method_3_code 81 = .ok (.iload 9, 2) := by decide +kernel
theorem own_d8_83 : decode prog_23_method_3_code 83 = .ok (.ior, 1) := by decide +kernel
theorem own_d8_84 : decode prog_23_method_3_code 84 = .ok (.istore 5, 2) := by decide +kernel
theorem own_d8_86 : decode prog_23_method_3_code 86 = .ok (.iinc 6 6, 3) := by decide +kernel
theorem own_d8_89 : decode prog_23_method_3_code 89 = .ok (.iload 6, 2) := by decide +kernel
theorem own_d8_91 : decode prog_23_method_3_code 91 = .ok (.bipush 8, 2) := by decide +kernel
theorem own_d8_93 : decode prog_23_method_3_code 93 = .ok (.if_icmp .lt 31, 3) := by decide +kernel
theorem own_d8_96 : decode prog_23_method_3_code 96 = .ok (.iinc 6 (-8), 3) := by decide +kernel
theorem own_d8_99 : decode prog_23_method_3_code 99 = .ok (.aload 4, 2) := by decide +kernel
theorem own_d8_101 : decode prog_23_method_3_code 101 = .ok (.iload 7, 2) := by decide +kernel
theorem own_d8_103 : decode prog_23_method_3_code 103 = .ok (.iinc 7 1, 3) := by decide +kernel
theorem own_d8_106 : decode prog_23_method_3_code 106 = .ok (.iload 5, 2) := by decide +kernel
theorem own_d8_108 : decode prog_23_method_3_code 108 = .ok (.iload 6, 2) := by decide +kernel
theorem own_d8_110 : decode prog_23_method_3_code 110 = .ok (.ishr, 1) := by decide +kernel
theorem own_d8_111 : decode prog_23_method_3_code 111 = .ok (.i2b, 1) := by decide +kernel
theorem own_d8_112 : decode prog_23_method_3_code 112 = .ok (.bastore, 1) := by decide +kernel
theorem own_d8_113 : decode prog_23_method_3_code 113 = .ok (.iload 5, 2) := by decide +kernel
theorem own_d8_115 : decode prog_23_method_3_code 115 = .ok (.iconst 1, 1) := by decide +kernel
theorem own_d8_116 : decode prog_23_method_3_code 116 = .ok (.iload 6, 2) := by decide +kernel
theorem own_d8_118 : decode prog_23_method_3_code 118 = .ok (.ishl, 1) := by decide +kernel
theorem own_d8_119 : decode prog_23_method_3_code 119 = .ok (.iconst 1, 1) := by decide +kernel
theorem own_d8_120 : decode prog_23_method_3_code 120 = .ok (.isub, 1) := by decide +kernel
theorem own_d8_121 : decode prog_23_method_3_code 121 = .ok (.iand, 1) := by decide +kernel
theorem own_d8_122 : decode prog_23_method_3_code 122 = .ok (.istore 5, 2) := by decide +kernel
theorem own_d8_124 : decode prog_23_method_3_code 124 = .ok (.iinc 8 1, 3) := by decide +kernel
theorem own_d8_127 : decode prog_23_method_3_code 127 = .ok (.goto (-83), 3) := by decide +kernel
theorem own_d8_130 : decode prog_23_method_3_code 130 = .ok (.iload 5, 2) := by decide +kernel
theorem own_d8_132 : decode prog_23_method_3_code 132 = .ok (.ifCond .eq 13, 3) := by decide +kernel
theorem own_d8_145 : decode prog_23_method_3_code 145 = .ok (.aload 4, 2) := by decide +kernel
theorem own_d8_147 : decode prog_23_method_3_code 147 = .ok (.areturn, 1) := by decide +kernel
theorem own_d9_0 : decode method_3_code 0 = .ok (.iload_n 1, 1) := by decide +kernel
theorem own_d9_1 : decode method_3_code 1 = .ok (.aload_n 0, 1) := by decide +kernel
theorem own_d9_2 : decode method_3_code 2 = .ok (.arraylength, 1) := by decide +kernel
theorem own_d9_3 : decode method_3_code 3 = .ok (.if_icmp .ge 11, 3) := by decide +kernel
theorem own_d9_6 : decode method_3_code 6 = .ok (.aload_n 0, 1) := by decide +kernel
theorem own_d9_7 : decode method_3_code 7 = .ok (.iload_n 1, 1) := by decide +kernel
theorem own_d9_8 : decode method_3_code 8 = .ok (.baload, 1) := by decide +kernel
theorem own_d9_9 : decode method_3_code 9 = .ok (.iload_n 2, 1) := by decide +kernel
theorem own_d9_10 : decode method_3_code 10 = .ok (.i2b, 1) := by decide +kernel
theorem own_d9_11 : decode method_3_code 11 = .ok (.if_icmp .ne 7, 3) := by decide +kernel
theorem own_d9_14 : decode method_3_code 14 = .ok (.iconst 1, 1) := by decide +kernel
theorem own_d9_15 : decode method_3_code 15 = .ok (.goto 4, 3) := by decide +kernel
theorem own_d9_19 : decode method_3_code 19 = .ok (.ireturn, 1) := by decide +kernel
theorem own_d10_0 : decode jdk_52_method_14_code 0 = .ok (.iload_n 2, 1) := by decide +kernel
theorem own_d10_1 : decode jdk_52_method_14_code 1 = .ok (.invokestatic 107, 3) := by decide +kernel
theorem own_d10_4 : decode jdk_52_method_14_code 4 = .ok (.astore_n 3, 1) := by decide +kernel
theorem own_d10_5 : decode jdk_52_method_14_code 5 = .ok (.iconst 0, 1) := by decide +kernel
theorem own_d10_6 : decode jdk_52_method_14_code 6 = .ok (.istore 4, 2) := by decide +kernel
theorem own_d10_8 : decode jdk_52_method_14_code 8 = .ok (.iload 4, 2) := by decide +kernel
theorem own_d10_10 : decode jdk_52_method_14_code 10 = .ok (.iload_n 2, 1) := by decide +kernel
theorem own_d10_11 : decode jdk_52_method_14_code 11 = .ok (.if_icmp .ge 21, 3) := by decide +kernel
theorem own_d10_14 : decode jdk_52_method_14_code 14 = .ok (.aload_n 3, 1) := by decide +kernel
theorem own_d10_15 : decode jdk_52_method_14_code 15 = .ok (.iload 4, 2) := by decide +kernel
theorem own_d10_17 : decode jdk_52_method_14_code 17 = .ok (.aload_n 0, 1) := by decide +kernel
theorem own_d10_18 : decode jdk_52_method_14_code 18 = .ok (.iload_n 1, 1) := by decide +kernel
theorem own_d10_19 : decode jdk_52_method_14_code 19 = .ok (.caload, 1) := by decide +kernel
theorem own_d10_20 : decode jdk_52_method_14_code 20 = .ok (.invokestatic 111, 3) := by decide +kernel
theorem own_d10_23 : decode jdk_52_method_14_code 23 = .ok (.iinc 1 1, 3) := by decide +kernel
theorem own_d10_26 : decode jdk_52_method_14_code 26 = .ok (.iinc 4 1, 3) := by decide +kernel
theorem own_d10_29 : decode jdk_52_method_14_code 29 = .ok (.goto (-21), 3) := by decide +kernel
theorem own_d10_32 : decode jdk_52_method_14_code 32 = .ok (.aload_n 3, 1) := by decide +kernel
theorem own_d10_33 : decode jdk_52_method_14_code 33 = .ok (.areturn, 1) := by decide +kernel
theorem own_d11_0 : decode jdk_52_method_2_code 0 = .ok (.iload_n 0, 1) := by decide +kernel
theorem own_d11_1 : decode jdk_52_method_2_code 1 = .ok (.invokestatic 11, 3) := by decide +kernel
theorem own_d11_4 : decode jdk_52_method_2_code 4 = .ok (.newarray .byte, 2) := by decide +kernel
theorem own_d11_6 : decode jdk_52_method_2_code 6 = .ok (.areturn, 1) := by decide +kernel
theorem own_d12_0 : decode jdk_52_method_3_code 0 = .ok (.iload_n 0, 1) := by decide +kernel
theorem own_d12_1 : decode jdk_52_method_3_code 1 = .ok (.ifCond .ge 11, 3) := by decide +kernel
theorem own_d12_12 : decode jdk_52_method_3_code 12 = .ok (.iload_n 0, 1) := by decide +kernel
theorem own_d12_13 : decode jdk_52_method_3_code 13 = .ok (.ldc 20, 2) := by decide +kernel
theorem own_d12_15 : decode jdk_52_method_3_code 15 = .ok (.if_icmp .lt 40, 3) := by decide +kernel
theorem own_d12_55 : decode jdk_52_method_3_code 55 = .ok (.iload_n 0, 1) := by decide +kernel
theorem own_d12_56 : decode jdk_52_method_3_code 56 = .ok (.iconst 1, 1) := by decide +kernel
theorem own_d12_57 : decode jdk_52_method_3_code 57 = .ok (.ishl, 1) := by decide +kernel
theorem own_d12_58 : decode jdk_52_method_3_code 58 = .ok (.ireturn, 1) := by decide +kernel
theorem own_d13_0 : decode jdk_52_method_4_code 0 = .ok (.getstatic 44, 3) := by decide +kernel
theorem own_d13_3 : decode jdk_52_method_4_code 3 = .ok (.ifCond .ne 25, 3) := by decide +kernel
theorem own_d13_28 : decode jdk_52_method_4_code 28 = .ok (.iload_n 1, 1) := by decide +kernel
theorem own_d13_29 : decode jdk_52_method_4_code 29 = .ok (.iconst 1, 1) := by decide +kernel
theorem own_d13_30 : decode jdk_52_method_4_code 30 = .ok (.ishl, 1) := by decide +kernel
theorem own_d13_31 : decode jdk_52_method_4_code 31 = .ok (.istore_n 1, 1) := by decide +kernel
theorem own_d13_32 : decode jdk_52_method_4_code 32 = .ok (.aload_n 0, 1) := by decide +kernel
theorem own_d13_33 : decode jdk_52_method_4_code 33 = .ok (.iload_n 1, 1) := by decide +kernel
theorem own_d13_34 : decode jdk_52_method_4_code 34 = .ok (.iinc 1 1, 3) := by decide +kernel
theorem own_d13_37 : decode jdk_52_method_4_code 37 = .ok (.iload_n 2, 1) := by decide +kernel
theorem own_d13_38 : decode jdk_52_method_4_code 38 = .ok (.getstatic 59, 3) := by decide +kernel
theorem own_d13_41 : decode jdk_52_method_4_code 41 = .ok (.ishr, 1) := by decide +kernel
theorem own_d13_42 : decode jdk_52_method_4_code 42 = .ok (.i2b, 1) := by decide +kernel
theorem own_d13_43 : decode jdk_52_method_4_code 43 = .ok (.bastore, 1) := by decide +kernel
theorem own_d13_44 : decode jdk_52_method_4_code 44 = .ok (.aload_n 0, 1) := by decide +kernel
theorem own_d13_45 : decode jdk_52_method_4_code 45 = .ok (.iload_n 1, 1) := by decide +kernel
theorem own_d13_46 : decode jdk_52_method_4_code 46 = .ok (.iload_n 2, 1) := by decide +kernel
theorem own_d13_47 : decode jdk_52_method_4_code 47 = .ok (.getstatic 63, 3) := by decide +kernel
theorem own_d13_50 : decode jdk_52_method_4_code 50 = .ok (.ishr, 1) := by decide +kernel
theorem own_d13_51 : decode jdk_52_method_4_code 51 = .ok (.i2b, 1) := by decide +kernel
theorem own_d13_52 : decode jdk_52_method_4_code 52 = .ok (.bastore, 1) := by decide +kernel
theorem own_d13_53 : decode jdk_52_method_4_code 53 = .ok (.return_, 1) := by decide +kernel
theorem own_d14_0 : decode jdk_52_method_5_code 0 = .ok (.getstatic 44, 3) := by decide +kernel
theorem own_d14_3 : decode jdk_52_method_5_code 3 = .ok (.ifCond .ne 25, 3) := by decide +kernel
theorem own_d14_28 : decode jdk_52_method_5_code 28 = .ok (.iload_n 1, 1) := by decide +kernel
theorem own_d14_29 : decode jdk_52_method_5_code 29 = .ok (.iconst 1, 1) := by decide +kernel
theorem own_d14_30 : decode jdk_52_method_5_code 30 = .ok (.ishl, 1) := by decide +kernel
theorem own_d14_31 : decode jdk_52_method_5_code 31 = .ok (.istore_n 1, 1) := by decide +kernel
theorem own_d14_32 : decode jdk_52_method_5_code 32 = .ok (.aload_n 0, 1) := by decide +kernel
theorem own_d14_33 : decode jdk_52_method_5_code 33 = .ok (.iload_n 1, 1) := by decide +kernel
theorem own_d14_34 : decode jdk_52_method_5_code 34 = .ok (.iinc 1 1, 3) := by decide +kernel
theorem own_d14_37 : decode jdk_52_method_5_code 37 = .ok (.baload, 1) := by decide +kernel
theorem own_d14_38 : decode jdk_52_method_5_code 38 = .ok (.sipush 255, 3) := by decide +kernel
theorem own_d14_41 : decode jdk_52_method_5_code 41 = .ok (.iand, 1) := by decide +kernel
theorem own_d14_42 : decode jdk_52_method_5_code 42 = .ok (.getstatic 59, 3) := by decide +kernel
theorem own_d14_45 : decode jdk_52_method_5_code 45 = .ok (.ishl, 1) := by decide +kernel
theorem own_d14_46 : decode jdk_52_method_5_code 46 = .ok (.aload_n 0, 1) := by decide +kernel
theorem own_d14_47 : decode jdk_52_method_5_code 47 = .ok (.iload_n 1, 1) := by decide +kernel
theorem own_d14_48 : decode jdk_52_method_5_code 48 = .ok (.baload, 1) := by decide +kernel
theorem own_d14_49 : decode jdk_52_method_5_code 49 = .ok (.sipush 255, 3) := by decide +kernel
theorem own_d14_52 : decode jdk_52_method_5_code 52 = .ok (.iand, 1) := by decide +kernel
theorem own_d14_53 : decode jdk_52_method_5_code 53 = .ok (.getstatic 63, 3) := by decide +kernel
theorem own_d14_56 : decode jdk_52_method_5_code 56 = .ok (.ishl, 1) := by decide +kernel
theorem own_d14_57 : decode jdk_52_method_5_code 57 = .ok (.ior, 1) := by decide +kernel
theorem own_d14_58 : decode jdk_52_method_5_code 58 = .ok (.i2c, 1) := by decide +kernel
theorem own_d14_59 : decode jdk_52_method_5_code 59 = .ok (.ireturn, 1) := by decide +kernel
theorem own_d15_0 : decode jdk_42_method_56_code 0 = .ok (.aload_n 0, 1) := by decide +kernel
theorem own_d15_1 : decode jdk_42_method_56_code 1 = .ok (.invokevirtual 492, 3) := by decide +kernel
theorem own_d15_4 : decode jdk_42_method_56_code 4 = .ok (.ifCond .eq 12, 3) := by decide +kernel
theorem own_d15_7 : decode jdk_42_method_56_code 7 = .ok (.aload_n 0, 1) := by decide +kernel
theorem own_d15_8 : decode jdk_42_method_56_code 8 = .ok (.getfield 9, 3) := by decide +kernel
theorem own_d15_11 : decode jdk_42_method_56_code 11 = .ok (.iload_n 1, 1) := by decide +kernel
theorem own_d15_12 : decode jdk_42_method_56_code 12 = .ok (.invokestatic 495, 3) := by decide +kernel
theorem own_d15_15 : decode jdk_42_method_56_code 15 = .ok (.ireturn, 1) := by decide +kernel
theorem own_d15_16 : decode jdk_42_method_56_code 16 = .ok (.aload_n 0, 1) := by decide +kernel
theorem own_d15_17 : decode jdk_42_method_56_code 17 = .ok (.getfield 9, 3) := by decide +kernel
theorem own_d15_20 : decode jdk_42_method_56_code 20 = .ok (.iload_n 1, 1) := by decide +kernel
theorem own_d15_21 : decode jdk_42_method_56_code 21 = .ok (.invokestatic 498, 3) := by decide +kernel
theorem own_d15_24 : decode jdk_42_method_56_code 24 = .ok (.ireturn, 1) := by decide +kernel
theorem own_d16_0 : decode jdk_42_method_154_code 0 = .ok (.getstatic 38, 3) := by decide +kernel
theorem own_d16_3 : decode jdk_42_method_154_code 3 = .ok (.ifCond .eq 14, 3) := by decide +kernel
theorem own_d16_6 : decode jdk_42_method_154_code 6 = .ok (.aload_n 0, 1) := by decide +kernel
theorem own_d16_7 : decode jdk_42_method_154_code 7 = .ok (.getfield 15, 3) := by decide +kernel
theorem own_d16_10 : decode jdk_42_method_154_code 10 = .ok (.ifCond .ne 7, 3) := by decide +kernel
theorem own_d16_13 : decode jdk_42_method_154_code 13 = .ok (.iconst 1, 1) := by decide +kernel
theorem own_d16_14 : decode jdk_42_method_154_code 14 = .ok (.goto 4, 3) := by decide +kernel
theorem own_d16_17 : decode jdk_42_method_154_code 17 = .ok (.iconst 0, 1) := by decide +kernel
theorem own_d16_18 : decode jdk_42_method_154_code 18 = .ok (.ireturn, 1) := by decide +kernel
theorem own_d17_0 : decode jdk_52_method_83_code 0 = .ok (.iload_n 1, 1) := by decide +kernel
theorem own_d17_1 : decode jdk_52_method_83_code 1 = .ok (.aload_n 0, 1) := by decide +kernel
theorem own_d17_2 : decode jdk_52_method_83_code 2 = .ok (.invokestatic 67, 3) := by decide +kernel
theorem own_d17_5 : decode jdk_52_method_83_code 5 = .ok (.aload_n 0, 1) := by decide +kernel
theorem own_d17_6 : decode jdk_52_method_83_code 6 = .ok (.iload_n 1, 1) := by decide +kernel
theorem own_d17_7 : decode jdk_52_method_83_code 7 = .ok (.invokestatic 71, 3) := by decide +kernel
theorem own_d17_10 : decode jdk_52_method_83_code 10 = .ok (.ireturn, 1) := by decide +kernel
theorem own_d18_0 : decode jdk_52_method_91_code 0 = .ok (.iload_n 0, 1) := by decide +kernel
theorem own_d18_1 : decode jdk_52_method_91_code 1 = .ok (.aload_n 1, 1) := by decide +kernel
theorem own_d18_2 : decode jdk_52_method_91_code 2 = .ok (.invokestatic 48, 3) := by decide +kernel
theorem own_d18_5 : decode jdk_52_method_91_code 5 = .ok (.invokestatic 414, 3) := by decide +kernel
theorem own_d18_8 : decode jdk_52_method_91_code 8 = .ok (.return_, 1) := by decide +kernel
theorem own_d19_0 : decode jdk_52_method_6_code 0 = .ok (.aload_n 0, 1) := by decide +kernel
theorem own_d19_1 : decode jdk_52_method_6_code 1 = .ok (.arraylength, 1) := by decide +kernel
theorem own_d19_2 : decode jdk_52_method_6_code 2 = .ok (.iconst 1, 1) := by decide +kernel
theorem own_d19_3 : decode jdk_52_method_6_code 3 = .ok (.ishr, 1) := by decide +kernel
theorem own_d19_4 : decode jdk_52_method_6_code 4 = .ok (.ireturn, 1) := by decide +kernel
theorem own_d20_0 : decode jdk_42_method_155_code 0 = .ok (.iload_n 0, 1) := by decide +kernel
theorem own_d20_1 : decode jdk_42_method_155_code 1 = .ok (.iload_n 1, 1) := by decide +kernel
theorem own_d20_2 : decode jdk_42_method_155_code 2 = .ok (.getstatic 1053, 3) := by decide +kernel
theorem own_d20_5 : decode jdk_42_method_155_code 5 = .ok (.invokestatic 1059, 3) := by decide +kernel
theorem own_d20_8 : decode jdk_42_method_155_code 8 = .ok (.pop, 1) := by decide +kernel
theorem own_d20_9 : decode jdk_42_method_155_code 9 = .ok (.return_, 1) := by decide +kernel
theorem own_d21_0 : decode jdk_41_method_11_code 0 = .ok (.iload_n 0, 1) := by decide +kernel
theorem own_d21_1 : decode jdk_41_method_11_code 1 = .ok (.ifCond .lt 8, 3) := by decide +kernel
theorem own_d21_4 : decode jdk_41_method_11_code 4 = .ok (.iload_n 0, 1) := by decide +kernel
theorem own_d21_5 : decode jdk_41_method_11_code 5 = .ok (.iload_n 1, 1) := by decide +kernel
theorem own_d21_6 : decode jdk_41_method_11_code 6 = .ok (.if_icmp .lt 10, 3) := by decide +kernel
theorem own_d21_16 : decode jdk_41_method_11_code 16 = .ok (.iload_n 0, 1) := by decide +kernel
theorem own_d21_17 : decode jdk_41_method_11_code 17 = .ok (.ireturn, 1) := by decide +kernel
theorem own_d22_0 : decode prog_23_method_4_code 0 = .ok (.iload_n 0, 1) := by decide +kernel
theorem own_d22_1 : decode prog_23_method_4_code 1 = .ok (.bipush 65, 2) := by decide +kernel
theorem own_d22_3 : decode prog_23_method_4_code 3 = .ok (.if_icmp .lt 14, 3) := by decide +kernel
theorem own_d22_6 : decode prog_23_method_4_code 6 = .ok (.iload_n 0, 1) := by decide +kernel
theorem own_d22_7 : decode prog_23_method_4_code 7 = .ok (.bipush 90, 2) := by decide +kernel
theorem own_d22_9 : decode prog_23_method_4_code 9 = .ok (.if_icmp .gt 8, 3) := by decide +kernel
theorem own_d22_12 : decode prog_23_method_4_code 12 = .ok (.iload_n 0, 1) := by decide +kernel
theorem own_d22_13 : decode prog_23_method_4_code 13 = .ok (.bipush 65, 2) := by decide +kernel
theorem own_d22_15 : decode prog_23_method_4_code 15 = .ok (.isub, 1) := by decide +kernel
theorem own_d22_16 : decode prog_23_method_4_code 16 = .ok (.ireturn, 1) := by decide +kernel
theorem own_d22_17 : decode prog_23_method_4_code 17 = .ok (.iload_n 0, 1) := by decide +kernel
theorem own_d22_18 : decode prog_23_method_4_code 18 = .ok (.bipush 97, 2) := by decide +kernel
theorem own_d22_20 : decode prog_23_method_4_code 20 = .ok (.if_icmp .lt 17, 3) := by decide +kernel
theorem own_d22_23 : decode prog_23_method_4_code 23 = .ok (.iload_n 0, 1) := by decide +kernel
theorem own_d22_24 : decode prog_23_method_4_code 24 = .ok (.bipush 122, 2) := by decide +kernel
theorem own_d22_26 : decode prog_23_method_4_code 26 = .ok (.if_icmp .gt 11, 3) := by decide +kernel
theorem own_d22_29 : decode prog_23_method_4_code 29 = .ok (.iload_n 0, 1) := by decide +kernel
theorem own_d22_30 : decode prog_23_method_4_code 30 = .ok (.bipush 97, 2) := by decide +kernel
theorem own_d22_32 : decode prog_23_method_4_code 32 = .ok (.isub, 1) := by decide +kernel
theorem own_d22_33 : decode prog_23_method_4_code 33 = .ok (.bipush 26, 2) := by decide +kernel
theorem own_d22_35 : decode prog_23_method_4_code 35 = .ok (.iadd, 1) := by decide +kernel
theorem own_d22_36 : decode prog_23_method_4_code 36 = .ok (.ireturn, 1) := by decide +kernel
theorem own_d22_37 : decode prog_23_method_4_code 37 = .ok (.iload_n 0, 1) := by decide +kernel
theorem own_d22_38 : decode prog_23_method_4_code 38 = .ok (.bipush 48, 2) := by decide +kernel
theorem own_d22_40 : decode prog_23_method_4_code 40 = .ok (.if_icmp .lt 17, 3) := by decide +kernel
theorem own_d22_43 : decode prog_23_method_4_code 43 = .ok (.iload_n 0, 1) := by decide +kernel
theorem own_d22_44 : decode prog_23_method_4_code 44 = .ok (.bipush 57, 2) := by decide +kernel
theorem own_d22_46 : decode prog_23_method_4_code 46 = .ok (.if_icmp .gt 11, 3) := by decide +kernel
theorem own_d22_49 : decode prog_23_method_4_code 49 = .ok (.iload_n 0, 1) := by decide +kernel
theorem own_d22_50 : decode prog_23_method_4_code 50 = .ok (.bipush 48, 2) := by decide +kernel
theorem own_d22_52 : decode prog_23_method_4_code 52 = .ok (.isub, 1) := by decide +kernel
theorem own_d22_53 : decode prog_23_method_4_code 53 = .ok (.bipush 52, 2) := by decide +kernel
theorem own_d22_55 : decode prog_23_method_4_code 55 = .ok (.iadd, 1) := by decide +kernel
theorem own_d22_56 : decode prog_23_method_4_code 56 = .ok (.ireturn, 1) := by decide +kernel
theorem own_d22_57 : decode prog_23_method_4_code 57 = .ok (.iload_n 0, 1) := by decide +kernel
theorem own_d22_58 : decode prog_23_method_4_code 58 = .ok (.bipush 45, 2) := by decide +kernel
theorem own_d22_60 : decode prog_23_method_4_code 60 = .ok (.if_icmp .ne 6, 3) := by decide +kernel
theorem own_d22_63 : decode prog_23_method_4_code 63 = .ok (.bipush 62, 2) := by decide +kernel
theorem own_d22_65 : decode prog_23_method_4_code 65 = .ok (.ireturn, 1) := by decide +kernel
theorem own_d22_66 : decode prog_23_method_4_code 66 = .ok (.iload_n 0, 1) := by decide +kernel
theorem own_d22_67 : decode prog_23_method_4_code 67 = .ok (.bipush 95, 2) := by decide +kernel
theorem own_d22_69 : decode prog_23_method_4_code 69 = .ok (.if_icmp .ne 8, 3) := by decide +kernel
theorem own_d22_72 : decode prog_23_method_4_code 72 = .ok (.bipush 63, 2) := by decide +kernel
theorem own_d22_74 : decode prog_23_method_4_code 74 = .ok (.goto 4, 3) := by decide +kernel
theorem own_d22_77 : decode prog_23_method_4_code 77 = .ok (.iconst (-1), 1) := by decide +kernel
theorem own_d22_78 : decode prog_23_method_4_code 78 = .ok (.ireturn, 1) := by decide +kernel
theorem own_d23_0 : decode jdk_43_method_2_code 0 = .ok (.iload_n 1, 1) := by decide +kernel
theorem own_d23_1 : decode jdk_43_method_2_code 1 = .ok (.aload_n 0, 1) := by decide +kernel
theorem own_d23_2 : decode jdk_43_method_2_code 2 = .ok (.arraylength, 1) := by decide +kernel
theorem own_d23_3 : decode jdk_43_method_2_code 3 = .ok (.invokestatic 9, 3) := by decide +kernel
theorem own_d23_6 : decode jdk_43_method_2_code 6 = .ok (.aload_n 0, 1) := by decide +kernel
theorem own_d23_7 : decode jdk_43_method_2_code 7 = .ok (.iload_n 1, 1) := by decide +kernel
theorem own_d23_8 : decode jdk_43_method_2_code 8 = .ok (.baload, 1) := by decide +kernel
theorem own_d23_9 : decode jdk_43_method_2_code 9 = .ok (.sipush 255, 3) := by decide +kernel
theorem own_d23_12 : decode jdk_43_method_2_code 12 = .ok (.iand, 1) := by decide +kernel
theorem own_d23_13 : decode jdk_43_method_2_code 13 = .ok (.i2c, 1) := by decide +kernel
theorem own_d23_14 : decode jdk_43_method_2_code 14 = .ok (.ireturn, 1) := by decide +kernel
theorem own_pn0 : plainFor (⟨"java/lang/StringUTF16", "putChar", "([BII)V"⟩ : MethodName) = true := by first | exact plainFor_of_name (by first | (simp [plainName, overriddenIn]; done) | decide +kernel) | decide +kernel
theorem own_pn1 : plainFor (⟨"java/lang/StringUTF16", "getChar", "([BI)C"⟩ : MethodName) = true := by first | exact plainFor_of_name (by first | (simp [plainName, overriddenIn]; done) | decide +kernel) | decide +kernel
theorem own_pn2 : plainFor (⟨"java/lang/StringUTF16", "newBytesLength", "(I)I"⟩ : MethodName) = true := by first | exact plainFor_of_name (by first | (simp [plainName, overriddenIn]; done) | decide +kernel) | decide +kernel
theorem own_pn3 : plainFor (⟨"java/lang/StringUTF16", "newBytesFor", "(I)[B"⟩ : MethodName) = true := by first | exact plainFor_of_name (by first | (simp [plainName, overriddenIn]; done) | decide +kernel) | decide +kernel
theorem own_pn4 : plainFor (⟨"java/lang/StringUTF16", "toBytes", "([CII)[B"⟩ : MethodName) = true := by first | exact plainFor_of_name (by first | (simp [plainName, overriddenIn]; done) | decide +kernel) | decide +kernel
theorem own_pn5 : plainFor (⟨"java/lang/StringUTF16", "compress", "([CI[BII)I"⟩ : MethodName) = true := by first | exact plainFor_of_name (by first | (simp [plainName, overriddenIn]; done) | decide +kernel) | decide +kernel
theorem own_pn6 : plainFor (⟨"java/lang/StringUTF16", "compress", "([CII)[B"⟩ : MethodName) = true := by first | exact plainFor_of_name (by first | (simp [plainName, overriddenIn]; done) | decide +kernel) | decide +kernel
theorem own_pn7 : plainFor (⟨"java/lang/StringUTF16", "coderFromArrayLen", "([BI)B"⟩ : MethodName) = true := by first | exact plainFor_of_name (by first | (simp [plainName, overriddenIn]; done) | decide +kernel) | decide +kernel
theorem own_pn8 : plainFor (⟨"java/lang/String", "<init>", "([CIILjava/lang/Void;)V"⟩ : MethodName) = true := by first | exact plainFor_of_name (by first | (simp [plainName, overriddenIn]; done) | decide +kernel) | decide +kernel
theorem own_pn9 : plainFor (⟨"java/lang/String", "<init>", "([C)V"⟩ : MethodName) = true := by first | exact plainFor_of_name (by first | (simp [plainName, overriddenIn]; done) | decide +kernel) | decide +kernel
theorem own_pn10 : plainFor (⟨"jdk/internal/util/Preconditions", "checkIndex", "(IILjava/util/function/BiFunction;)I"⟩ : MethodName) = true := by first | exact plainFor_of_name (by first | (simp [plainName, overriddenIn]; done) | decide +kernel) | decide +kernel
theorem own_pn11 : plainFor (⟨"java/lang/String", "checkIndex", "(II)V"⟩ : MethodName) = true := by first | exact plainFor_of_name (by first | (simp [plainName, overriddenIn]; done) | decide +kernel) | decide +kernel
theorem own_pn12 : plainFor (⟨"java/lang/StringLatin1", "charAt", "([BI)C"⟩ : MethodName) = true := by first | exact plainFor_of_name (by first | (simp [plainName, overriddenIn]; done) | decide +kernel) | decide +kernel
theorem own_pn13 : plainFor (⟨"java/lang/StringUTF16", "length", "([B)I"⟩ : MethodName) = true := by first | exact plainFor_of_name (by first | (simp [plainName, overriddenIn]; done) | decide +kernel) | decide +kernel
theorem own_pn14 : plainFor (⟨"java/lang/StringUTF16", "checkIndex", "(I[B)V"⟩ : MethodName) = true := by first | exact plainFor_of_name (by first | (simp [plainName, overriddenIn]; done) | decide +kernel) | decide +kernel
theorem own_pn15 : plainFor (⟨"java/lang/StringUTF16", "charAt", "([BI)C"⟩ : MethodName) = true := by first | exact plainFor_of_name (by first | (simp [plainName, overriddenIn]; done) | decide +kernel) | decide +kernel
theorem own_pn16 : plainFor (⟨"java/lang/String", "isLatin1", "()Z"⟩ : MethodName) = true := by first | exact plainFor_of_name (by first | (simp [plainName, overriddenIn]; done) | decide +kernel) | decide +kernel
theorem own_pn17 : plainFor (⟨"java/lang/String", "charAt", "(I)C"⟩ : MethodName) = true := by first | exact plainFor_of_name (by first | (simp [plainName, overriddenIn]; done) | decide +kernel) | decide +kernel
theorem own_pn18 : plainFor (⟨"com/example/claimgate/claimgate/jose/Base64UrlDecodePinLaw", "sym", "(I)C"⟩ : MethodName) = true := by first | exact plainFor_of_name (by first | (simp [plainName, overriddenIn]; done) | decide +kernel) | decide +kernel
theorem own_pn19 : plainFor (⟨"com/example/claimgate/claimgate/jose/Base64Url", "value", "(C)I"⟩ : MethodName) = true := by first | exact plainFor_of_name (by first | (simp [plainName, overriddenIn]; done) | decide +kernel) | decide +kernel
theorem own_pn20 : plainFor (⟨"com/example/claimgate/claimgate/jose/Base64UrlDecodePinLaw", "at", "([BII)Z"⟩ : MethodName) = true := by first | exact plainFor_of_name (by first | (simp [plainName, overriddenIn]; done) | decide +kernel) | decide +kernel
theorem own_pn21 : plainFor (⟨"com/example/claimgate/claimgate/jose/Base64Url", "decode", "(Ljava/lang/String;II)[B"⟩ : MethodName) = true := by first | exact plainFor_of_name (by first | (simp [plainName, overriddenIn]; done) | decide +kernel) | decide +kernel
theorem own_pn22 : plainFor (⟨"com/example/claimgate/claimgate/jose/Base64UrlDecodePinLaw", "law", "(IIII)Z"⟩ : MethodName) = true := by first | exact plainFor_of_name (by first | (simp [plainName, overriddenIn]; done) | decide +kernel) | decide +kernel
theorem own_pd0 : parseMethodDescriptor "(I)I" = some ⟨[.int], some .int⟩ := by decide +kernel
theorem own_pd1 : parseMethodDescriptor "(I)[B" = some ⟨[.int], some (.array .byte)⟩ := by decide +kernel
theorem own_pd2 : parseMethodDescriptor "([BII)V" = some ⟨[(.array .byte), .int, .int], none⟩ := by decide +kernel
theorem own_pd3 : parseMethodDescriptor "([CI[BII)I" = some ⟨[(.array .char), .int, (.array .byte), .int, .int], some .int⟩ := by decide +kernel
theorem own_pd4 : parseMethodDescriptor "([CII)[B" = some ⟨[(.array .char), .int, .int], some (.array .byte)⟩ := by decide +kernel
theorem own_pd5 : parseMethodDescriptor "([BI)C" = some ⟨[(.array .byte), .int], some .char⟩ := by decide +kernel
theorem own_pd6 : parseMethodDescriptor "([BI)B" = some ⟨[(.array .byte), .int], some .byte⟩ := by decide +kernel
theorem own_pd7 : parseMethodDescriptor "([CIILjava/lang/Void;)V" = some ⟨[(.array .char), .int, .int, (.object "java/lang/Void")], none⟩ := by decide +kernel
theorem own_pd8 : parseMethodDescriptor "(IILjava/util/function/BiFunction;)I" = some ⟨[.int, .int, (.object "java/util/function/BiFunction")], some .int⟩ := by decide +kernel
theorem own_pd9 : parseMethodDescriptor "(II)V" = some ⟨[.int, .int], none⟩ := by decide +kernel
theorem own_pd10 : parseMethodDescriptor "([B)I" = some ⟨[(.array .byte)], some .int⟩ := by decide +kernel
theorem own_pd11 : parseMethodDescriptor "(I[B)V" = some ⟨[.int, (.array .byte)], none⟩ := by decide +kernel
theorem own_pd12 : parseMethodDescriptor "()Z" = some ⟨[], some .boolean⟩ := by decide +kernel
theorem own_pd13 : parseMethodDescriptor "(I)C" = some ⟨[.int], some .char⟩ := by decide +kernel
theorem own_pd14 : parseMethodDescriptor "(C)I" = some ⟨[.char], some .int⟩ := by decide +kernel
theorem own_pd15 : parseMethodDescriptor "([C)V" = some ⟨[(.array .char)], none⟩ := by decide +kernel
theorem own_pd16 : parseMethodDescriptor "(Ljava/lang/String;II)[B" = some ⟨[(.object "java/lang/String"), .int, .int], some (.array .byte)⟩ := by decide +kernel
theorem own_pd17 : parseMethodDescriptor "([BII)Z" = some ⟨[(.array .byte), .int, .int], some .boolean⟩ := by decide +kernel
theorem own_ef_own_putc (m : MethodId) (x0 : Addr) (x1 : Int32) (x2 : Int32) : entryFrame m #[(.ref x0), (.int x1), (.int x2)] 3 = mkF m 0 #[rv x0, iv x1, iv x2] [] := by first | (simp [entryFrame, mkF, argsToLocals, Value.category]; done) | rfl
theorem own_ef_own_getc (m : MethodId) (x0 : Addr) (x1 : Int32) : entryFrame m #[(.ref x0), (.int x1)] 2 = mkF m 0 #[rv x0, iv x1] [] := by first | (simp [entryFrame, mkF, argsToLocals, Value.category]; done) | rfl
theorem own_ef_own_nbl (m : MethodId) (x0 : Int32) : entryFrame m #[(.int x0)] 1 = mkF m 0 #[iv x0] [] := by first | (simp [entryFrame, mkF, argsToLocals, Value.category]; done) | rfl
theorem own_ef_own_nbf (m : MethodId) (x0 : Int32) : entryFrame m #[(.int x0)] 1 = mkF m 0 #[iv x0] [] := by first | (simp [entryFrame, mkF, argsToLocals, Value.category]; done) | rfl
theorem own_ef_own_tob (m : MethodId) (x0 : Addr) (x1 : Int32) (x2 : Int32) : entryFrame m #[(.ref x0), (.int x1), (.int x2)] 5 = mkF m 0 #[rv x0, iv x1, iv x2, .unset, .unset] [] := by first | (simp [entryFrame, mkF, argsToLocals, Value.category]; done) | rfl
theorem own_ef_own_cmp2 (m : MethodId) (x0 : Addr) (x1 : Int32) (x2 : Addr) (x3 : Int32) (x4 : Int32) : entryFrame m #[(.ref x0), (.int x1), (.ref x2), (.int x3), (.int x4)] 7 = mkF m 0 #[rv x0, iv x1, rv x2, iv x3, iv x4, .unset, .unset] [] := by first | (simp [entryFrame, mkF, argsToLocals, Value.category]; done) | rfl
theorem own_ef_own_cmp1 (m : MethodId) (x0 : Addr) (x1 : Int32) (x2 : Int32) : entryFrame m #[(.ref x0), (.int x1), (.int x2)] 6 = mkF m 0 #[rv x0, iv x1, iv x2, .unset, .unset, .unset] [] := by first | (simp [entryFrame, mkF, argsToLocals, Value.category]; done) | rfl
theorem own_ef_own_cfl (m : MethodId) (x0 : Addr) (x1 : Int32) : entryFrame m #[(.ref x0), (.int x1)] 2 = mkF m 0 #[rv x0, iv x1] [] := by first | (simp [entryFrame, mkF, argsToLocals, Value.category]; done) | rfl
theorem own_ef_own_cfu (m : MethodId) (x0 : Addr) (x1 : Int32) : entryFrame m #[(.ref x0), (.int x1)] 2 = mkF m 0 #[rv x0, iv x1] [] := by first | (simp [entryFrame, mkF, argsToLocals, Value.category]; done) | rfl
theorem own_ef_own_si4 (m : MethodId) (x0 : Addr) (x1 : Addr) (x2 : Int32) (x3 : Int32) : entryFrame m #[(.ref x0), (.ref x1), (.int x2), (.int x3), .null] 6 = mkF m 0 #[rv x0, rv x1, iv x2, iv x3, .val .null, .unset] [] := by first | (simp [entryFrame, mkF, argsToLocals, Value.category]; done) | rfl
theorem own_ef_own_si (m : MethodId) (x0 : Addr) (x1 : Addr) : entryFrame m #[(.ref x0), (.ref x1)] 2 = mkF m 0 #[rv x0, rv x1] [] := by first | (simp [entryFrame, mkF, argsToLocals, Value.category]; done) | rfl
theorem own_ef_own_pci (m : MethodId) (x0 : Int32) (x1 : Int32) (x2 : Value) (hx2 : x2.isRef = true) : entryFrame m #[(.int x0), (.int x1), x2] 3 = mkF m 0 #[iv x0, iv x1, .val x2] [] := by
  rcases ref_cases hx2 with rfl | ⟨_, rfl⟩
  all_goals first | (simp [entryFrame, mkF, argsToLocals, Value.category]; done) | rfl
theorem own_ef_own_sci (m : MethodId) (x0 : Int32) (x1 : Int32) : entryFrame m #[(.int x0), (.int x1)] 2 = mkF m 0 #[iv x0, iv x1] [] := by first | (simp [entryFrame, mkF, argsToLocals, Value.category]; done) | rfl
theorem own_ef_own_lca (m : MethodId) (x0 : Addr) (x1 : Int32) : entryFrame m #[(.ref x0), (.int x1)] 2 = mkF m 0 #[rv x0, iv x1] [] := by first | (simp [entryFrame, mkF, argsToLocals, Value.category]; done) | rfl
theorem own_ef_own_ulen (m : MethodId) (x0 : Addr) : entryFrame m #[(.ref x0)] 1 = mkF m 0 #[rv x0] [] := by first | (simp [entryFrame, mkF, argsToLocals, Value.category]; done) | rfl
theorem own_ef_own_uci (m : MethodId) (x0 : Int32) (x1 : Addr) : entryFrame m #[(.int x0), (.ref x1)] 2 = mkF m 0 #[iv x0, rv x1] [] := by first | (simp [entryFrame, mkF, argsToLocals, Value.category]; done) | rfl
theorem own_ef_own_uca (m : MethodId) (x0 : Addr) (x1 : Int32) : entryFrame m #[(.ref x0), (.int x1)] 2 = mkF m 0 #[rv x0, iv x1] [] := by first | (simp [entryFrame, mkF, argsToLocals, Value.category]; done) | rfl
theorem own_ef_own_isl (m : MethodId) (x0 : Addr) : entryFrame m #[(.ref x0)] 1 = mkF m 0 #[rv x0] [] := by first | (simp [entryFrame, mkF, argsToLocals, Value.category]; done) | rfl
theorem own_ef_own_charAt (m : MethodId) (x0 : Addr) (x1 : Int32) : entryFrame m #[(.ref x0), (.int x1)] 2 = mkF m 0 #[rv x0, iv x1] [] := by first | (simp [entryFrame, mkF, argsToLocals, Value.category]; done) | rfl
theorem own_ef_own_symc (m : MethodId) (x0 : Int32) : entryFrame m #[(.int x0)] 1 = mkF m 0 #[iv x0] [] := by first | (simp [entryFrame, mkF, argsToLocals, Value.category]; done) | rfl
theorem own_ef_own_val (m : MethodId) (x0 : Int32) : entryFrame m #[(.int x0)] 1 = mkF m 0 #[iv x0] [] := by first | (simp [entryFrame, mkF, argsToLocals, Value.category]; done) | rfl
theorem own_ef_own_at (m : MethodId) (x0 : Addr) (x1 : Int32) (x2 : Int32) : entryFrame m #[(.ref x0), (.int x1), (.int x2)] 3 = mkF m 0 #[rv x0, iv x1, iv x2] [] := by first | (simp [entryFrame, mkF, argsToLocals, Value.category]; done) | rfl
theorem own_ef_own_dec0 (m : MethodId) (x0 : Addr) (x1 : Int32) (x2 : Int32) : entryFrame m #[(.ref x0), (.int x1), (.int x2)] 10 = mkF m 0 #[rv x0, iv x1, iv x2, .unset, .unset, .unset, .unset, .unset, .unset, .unset] [] := by first | (simp [entryFrame, mkF, argsToLocals, Value.category]; done) | rfl
theorem own_ef_own_dec1 (m : MethodId) (x0 : Addr) (x1 : Int32) (x2 : Int32) : entryFrame m #[(.ref x0), (.int x1), (.int x2)] 10 = mkF m 0 #[rv x0, iv x1, iv x2, .unset, .unset, .unset, .unset, .unset, .unset, .unset] [] := by first | (simp [entryFrame, mkF, argsToLocals, Value.category]; done) | rfl
theorem own_ef_own_dec2 (m : MethodId) (x0 : Addr) (x1 : Int32) (x2 : Int32) : entryFrame m #[(.ref x0), (.int x1), (.int x2)] 10 = mkF m 0 #[rv x0, iv x1, iv x2, .unset, .unset, .unset, .unset, .unset, .unset, .unset] [] := by first | (simp [entryFrame, mkF, argsToLocals, Value.category]; done) | rfl
theorem own_ef_own_dec3 (m : MethodId) (x0 : Addr) (x1 : Int32) (x2 : Int32) : entryFrame m #[(.ref x0), (.int x1), (.int x2)] 10 = mkF m 0 #[rv x0, iv x1, iv x2, .unset, .unset, .unset, .unset, .unset, .unset, .unset] [] := by first | (simp [entryFrame, mkF, argsToLocals, Value.category]; done) | rfl
theorem own_ef_own_dec4 (m : MethodId) (x0 : Addr) (x1 : Int32) (x2 : Int32) : entryFrame m #[(.ref x0), (.int x1), (.int x2)] 10 = mkF m 0 #[rv x0, iv x1, iv x2, .unset, .unset, .unset, .unset, .unset, .unset, .unset] [] := by first | (simp [entryFrame, mkF, argsToLocals, Value.category]; done) | rfl
theorem own_ef_own_dec5 (m : MethodId) (x0 : Addr) (x1 : Int32) (x2 : Int32) : entryFrame m #[(.ref x0), (.int x1), (.int x2)] 10 = mkF m 0 #[rv x0, iv x1, iv x2, .unset, .unset, .unset, .unset, .unset, .unset, .unset] [] := by first | (simp [entryFrame, mkF, argsToLocals, Value.category]; done) | rfl
theorem own_ef_own_law (m : MethodId) (x0 : Int32) (x1 : Int32) (x2 : Int32) (x3 : Int32) : entryFrame m #[(.int x0), (.int x1), (.int x2), (.int x3)] maxLocals = mkF m 0 #[iv x0, iv x1, iv x2, iv x3, .unset, .unset, .unset, .unset, .unset, .unset, .unset, .unset, .unset, .unset, .unset] [] := by first | (simp [entryFrame, mkF, argsToLocals, Value.category, maxLocals]; done) | rfl
set_option maxRecDepth 65536 in
set_option maxHeartbeats 40000000 in
theorem own_putc (l : Launch) (Z : State) (a0 : Array Value) (hw : ∀ d ∈ tables_1, d.before a0 Z = true) (ws : List Jvm.Cond) (a : Addr) (n k : Nat) (j ch : Int32) (g : Nat → Int32) (h0 : Heap) (n0 : Nat) (Z0 : n0 ≤ h0.size) (hj : j.toInt = (k : Int)) (hk : k < n) (hn : 2 * n < 2 ^ 31) (Aa : own_A Z h0 a .byte (2 * n) (fun i => .int (g i))) (g_a : n0 ≤ a) (S_ad : Sta Z h0 "java/lang/StringUTF16" "$assertionsDisabled" "Z" (.int (1 : Int32))) (S_hi : Sta Z h0 "java/lang/StringUTF16" "HI_BYTE_SHIFT" "I" (.int (0 : Int32))) (S_lo : Sta Z h0 "java/lang/StringUTF16" "LO_BYTE_SHIFT" "I" (.int (8 : Int32))) :
    own_Met l Z (⟨"java/lang/StringUTF16", "putChar", "([BII)V"⟩ : MethodName) jdk_52_method_4_code 3 none ws ({ frames := 0, cells := 0, slots := 0, locals := 0 } : Room) #[(.ref a), (.int j), (.int ch)] h0 (fun v h L => v = none ∧ Fr n0 L ∧ Keep h0 h [a] ∧ ∃ g2 : Nat → Int32, own_A Z h a .byte (2 * n) (fun i => .int (g2 i)) ∧ (∀ i, g2 i = if i = 2 * k + 1 then ((ch >>> ((8 : Int32) &&& 31)).toInt8.toInt32) else if i = 2 * k then ((ch >>> ((0 : Int32) &&& 31)).toInt8.toInt32) else g i)) := by
  refine own_body own_pn0 (fun m => mkF m 0 #[rv a, iv j, iv ch] []) (fun m => own_ef_own_putc m a j ch) ?_
  intro p e s m below meth c T0 hx hby hml hlk hrt hZ hown hnm X0 e0
  have hown : s.vm.findClass "java/lang/StringUTF16" = some m.cls := hown
  have N0 := Fr.nil n0
  obtain ⟨T1, X1, e1, st1⟩ := getS2 X0 hx hZ hown (host := "") (Or.inl (own_w hw 54)) Via.refl e0 S_ad (g := (mkF m 0 #[rv a, iv j, iv ch] [])) rfl (hb hby own_d13_0)
  refine own_pre (S' := (own_F T1 m 3 #[rv a, iv j, iv ch] [(.int 1)])) st1 ?_
  refine own_g (own_F T1 m 28 #[rv a, iv j, iv ch] []) (fun _ z_ => XS.ifYes X1.here hx rfl (pc0 := 3) (pc' := 28) rfl (hb hby own_d13_3) rfl ((if0 _ _).trans (feq (by decide : ¬ ((1 : Int32) = (0 : Int32)))).2) (by decide) (by decide) z_) ?_
  refine own_g (own_F T1 m 29 #[rv a, iv j, iv ch] [(.int j)]) (fun _ z_ => XS.iloadN X1.here hx rfl (hb hby own_d13_28) rfl z_) ?_
  refine own_g (own_F T1 m 30 #[rv a, iv j, iv ch] [(.int 1), (.int j)]) (fun _ z_ => XS.iconst X1.here hx rfl (hb hby own_d13_29) z_) ?_
  refine own_g (own_F T1 m 31 #[rv a, iv j, iv ch] [(.int (j <<< ((1 : Int32) &&& 31)))]) (fun _ z_ => XS.ishl X1.here hx rfl (hb hby own_d13_30) rfl z_) ?_
  refine own_g (own_F T1 m 32 #[rv a, iv (j <<< ((1 : Int32) &&& 31)), iv ch] []) (fun _ z_ => XS.istoreN X1.here hx rfl (hb hby own_d13_31) rfl (l' := #[rv a, iv (j <<< ((1 : Int32) &&& 31)), iv ch]) rfl z_) ?_
  refine own_g (own_F T1 m 33 #[rv a, iv (j <<< ((1 : Int32) &&& 31)), iv ch] [(.ref a)]) (fun _ z_ => XS.aloadN X1.here hx rfl (hb hby own_d13_32) rfl rfl z_) ?_
  refine own_g (own_F T1 m 34 #[rv a, iv (j <<< ((1 : Int32) &&& 31)), iv ch] [(.int (j <<< ((1 : Int32) &&& 31))), (.ref a)]) (fun _ z_ => XS.iloadN X1.here hx rfl (hb hby own_d13_33) rfl z_) ?_
  refine own_g (own_F T1 m 37 #[rv a, iv ((j <<< ((1 : Int32) &&& 31)) + (1 : Int32)), iv ch] [(.int (j <<< ((1 : Int32) &&& 31))), (.ref a)]) (fun _ z_ => XS.iinc X1.here hx rfl (hb hby own_d13_34) rfl (l' := #[rv a, iv ((j <<< ((1 : Int32) &&& 31)) + (1 : Int32)), iv ch]) rfl z_) ?_
  refine own_g (own_F T1 m 38 #[rv a, iv ((j <<< ((1 : Int32) &&& 31)) + (1 : Int32)), iv ch] [(.int ch), (.int (j <<< ((1 : Int32) &&& 31))), (.ref a)]) (fun _ z_ => XS.iloadN X1.here hx rfl (hb hby own_d13_37) rfl z_) ?_
  obtain ⟨T2, X2, e2, st2⟩ := getS2 X1 hx hZ hown (host := "") (Or.inl (own_w hw 55)) Via.refl e1 S_hi (g := (mkF m 38 #[rv a, iv ((j <<< ((1 : Int32) &&& 31)) + (1 : Int32)), iv ch] [(.int ch), (.int (j <<< ((1 : Int32) &&& 31))), (.ref a)])) rfl (hb hby own_d13_38)
  refine own_pre (S' := (own_F T2 m 41 #[rv a, iv ((j <<< ((1 : Int32) &&& 31)) + (1 : Int32)), iv ch] [(.int 0), (.int ch), (.int (j <<< ((1 : Int32) &&& 31))), (.ref a)])) st2 ?_
  refine own_g (own_F T2 m 42 #[rv a, iv ((j <<< ((1 : Int32) &&& 31)) + (1 : Int32)), iv ch] [(.int (ch >>> ((0 : Int32) &&& 31))), (.int (j <<< ((1 : Int32) &&& 31))), (.ref a)]) (fun _ z_ => XS.ishr X2.here hx rfl (hb hby own_d13_41) rfl z_) ?_
  refine own_g (own_F T2 m 43 #[rv a, iv ((j <<< ((1 : Int32) &&& 31)) + (1 : Int32)), iv ch] [(.int ((ch >>> ((0 : Int32) &&& 31)).toInt8.toInt32)), (.int (j <<< ((1 : Int32) &&& 31))), (.ref a)]) (fun _ z_ => XS.i2b X2.here hx rfl (hb hby own_d13_42) rfl z_) ?_
  refine own_bast X2 hx hZ e2 Aa (2 * k) (own_shl1 hj hk hn) (by omega) ((ch >>> ((0 : Int32) &&& 31)).toInt8.toInt32) (own_narB _) (hb hby own_d13_43) ?_
  intro T3 h3 X3 e3 W3 A3
  have N3 := Fr.snoc X3 N0 g_a
  obtain ⟨g3, hg3⟩ : ∃ gq_ : Nat → Int32, gq_ = fun q_ => if q_ = (2 * k) then ((ch >>> ((0 : Int32) &&& 31)).toInt8.toInt32) else g q_ := ⟨_, rfl⟩
  have A3 : own_A Z h3 a .byte (2 * n) (fun q_ => .int (g3 q_)) := by rw [hg3]; exact A3
  show own_Ends p e below s _ _ _ (own_F T3 m 44 #[rv a, iv ((j <<< ((1 : Int32) &&& 31)) + (1 : Int32)), iv ch] [])
  refine own_g (own_F T3 m 45 #[rv a, iv ((j <<< ((1 : Int32) &&& 31)) + (1 : Int32)), iv ch] [(.ref a)]) (fun _ z_ => XS.aloadN X3.here hx rfl (hb hby own_d13_44) rfl rfl z_) ?_
  refine own_g (own_F T3 m 46 #[rv a, iv ((j <<< ((1 : Int32) &&& 31)) + (1 : Int32)), iv ch] [(.int ((j <<< ((1 : Int32) &&& 31)) + (1 : Int32))), (.ref a)]) (fun _ z_ => XS.iloadN X3.here hx rfl (hb hby own_d13_45) rfl z_) ?_
  refine own_g (own_F T3 m 47 #[rv a, iv ((j <<< ((1 : Int32) &&& 31)) + (1 : Int32)), iv ch] [(.int ch), (.int ((j <<< ((1 : Int32) &&& 31)) + (1 : Int32))), (.ref a)]) (fun _ z_ => XS.iloadN X3.here hx rfl (hb hby own_d13_46) rfl z_) ?_
  obtain ⟨T4, X4, e4, st4⟩ := getS2 X3 hx hZ hown (host := "") (Or.inl (own_w hw 56)) Via.refl e3 (S_lo.wr W3) (g := (mkF m 47 #[rv a, iv ((j <<< ((1 : Int32) &&& 31)) + (1 : Int32)), iv ch] [(.int ch), (.int ((j <<< ((1 : Int32) &&& 31)) + (1 : Int32))), (.ref a)])) rfl (hb hby own_d13_47)
  refine own_pre (S' := (own_F T4 m 50 #[rv a, iv ((j <<< ((1 : Int32) &&& 31)) + (1 : Int32)), iv ch] [(.int 8), (.int ch), (.int ((j <<< ((1 : Int32) &&& 31)) + (1 : Int32))), (.ref a)])) st4 ?_
  refine own_g (own_F T4 m 51 #[rv a, iv ((j <<< ((1 : Int32) &&& 31)) + (1 : Int32)), iv ch] [(.int (ch >>> ((8 : Int32) &&& 31))), (.int ((j <<< ((1 : Int32) &&& 31)) + (1 : Int32))), (.ref a)]) (fun _ z_ => XS.ishr X4.here hx rfl (hb hby own_d13_50) rfl z_) ?_
  refine own_g (own_F T4 m 52 #[rv a, iv ((j <<< ((1 : Int32) &&& 31)) + (1 : Int32)), iv ch] [(.int ((ch >>> ((8 : Int32) &&& 31)).toInt8.toInt32)), (.int ((j <<< ((1 : Int32) &&& 31)) + (1 : Int32))), (.ref a)]) (fun _ z_ => XS.i2b X4.here hx rfl (hb hby own_d13_51) rfl z_) ?_
  refine own_bast X4 hx hZ e4 A3 (2 * k + 1) (own_add1 (own_shl1 hj hk hn) (by omega)) (by omega) ((ch >>> ((8 : Int32) &&& 31)).toInt8.toInt32) (own_narB _) (hb hby own_d13_52) ?_
  intro T5 h5 X5 e5 W5 A5
  have N5 := Fr.snoc X5 N3 g_a
  obtain ⟨g5, hg5⟩ : ∃ gq_ : Nat → Int32, gq_ = fun q_ => if q_ = (2 * k + 1) then ((ch >>> ((8 : Int32) &&& 31)).toInt8.toInt32) else g3 q_ := ⟨_, rfl⟩
  have A5 : own_A Z h5 a .byte (2 * n) (fun q_ => .int (g5 q_)) := by rw [hg5]; exact A5
  show own_Ends p e below s _ _ _ (own_F T5 m 53 #[rv a, iv ((j <<< ((1 : Int32) &&& 31)) + (1 : Int32)), iv ch] [])
  refine own_retV X5 hx hlk hrt (hb hby own_d13_53) (by decide) (by decide) ?_
  show _ ∧ Fr n0 _ ∧ Keep h0 T5.heap [a] ∧ ∃ g2 : Nat → Int32, own_A Z T5.heap a .byte (2 * n) (fun i => .int (g2 i)) ∧ _
  rw [e5]
  exact ⟨rfl, N5, (((Keep.refl _ _).wr W3 (Or.inl (List.mem_of_getElem? (i := 0) rfl))).wr W5 (Or.inl (List.mem_of_getElem? (i := 0) rfl))), _, A5, (own_put hg3 hg5)⟩
set_option maxRecDepth 65536 in
set_option maxHeartbeats 40000000 in
theorem own_getc (l : Launch) (Z : State) (a0 : Array Value) (hw : ∀ d ∈ tables_1, d.before a0 Z = true) (ws : List Jvm.Cond) (a : Addr) (n k : Nat) (j : Int32) (f : Nat → Int32) (h0 : Heap) (n0 : Nat) (Z0 : n0 ≤ h0.size) (hj : j.toInt = (k : Int)) (hk : k < n) (hn : 2 * n < 2 ^ 31) (hc : 0 ≤ (f k).toInt ∧ (f k).toInt ≤ 65535) (Aa : own_A Z h0 a .byte (2 * n) (fun i => .int (own_ub f i))) (S_ad : Sta Z h0 "java/lang/StringUTF16" "$assertionsDisabled" "Z" (.int (1 : Int32))) (S_hi : Sta Z h0 "java/lang/StringUTF16" "HI_BYTE_SHIFT" "I" (.int (0 : Int32))) (S_lo : Sta Z h0 "java/lang/StringUTF16" "LO_BYTE_SHIFT" "I" (.int (8 : Int32))) :
    own_Met l Z (⟨"java/lang/StringUTF16", "getChar", "([BI)C"⟩ : MethodName) jdk_52_method_5_code 2 (some .char) ws ({ frames := 0, cells := 0, slots := 0, locals := 0 } : Room) #[(.ref a), (.int j)] h0 (fun v h L => v = some (.int (f k)) ∧ Fr n0 L ∧ h = h0) := by
  refine own_body own_pn1 (fun m => mkF m 0 #[rv a, iv j] []) (fun m => own_ef_own_getc m a j) ?_
  intro p e s m below meth c T0 hx hby hml hlk hrt hZ hown hnm X0 e0
  have hown : s.vm.findClass "java/lang/StringUTF16" = some m.cls := hown
  have N0 := Fr.nil n0
  obtain ⟨T1, X1, e1, st1⟩ := getS2 X0 hx hZ hown (host := "") (Or.inl (own_w hw 54)) Via.refl e0 S_ad (g := (mkF m 0 #[rv a, iv j] [])) rfl (hb hby own_d14_0)
  refine own_pre (S' := (own_F T1 m 3 #[rv a, iv j] [(.int 1)])) st1 ?_
  refine own_g (own_F T1 m 28 #[rv a, iv j] []) (fun _ z_ => XS.ifYes X1.here hx rfl (pc0 := 3) (pc' := 28) rfl (hb hby own_d14_3) rfl ((if0 _ _).trans (feq (by decide : ¬ ((1 : Int32) = (0 : Int32)))).2) (by decide) (by decide) z_) ?_
  refine own_g (own_F T1 m 29 #[rv a, iv j] [(.int j)]) (fun _ z_ => XS.iloadN X1.here hx rfl (hb hby own_d14_28) rfl z_) ?_
  refine own_g (own_F T1 m 30 #[rv a, iv j] [(.int 1), (.int j)]) (fun _ z_ => XS.iconst X1.here hx rfl (hb hby own_d14_29) z_) ?_
  refine own_g (own_F T1 m 31 #[rv a, iv j] [(.int (j <<< ((1 : Int32) &&& 31)))]) (fun _ z_ => XS.ishl X1.here hx rfl (hb hby own_d14_30) rfl z_) ?_
  refine own_g (own_F T1 m 32 #[rv a, iv (j <<< ((1 : Int32) &&& 31))] []) (fun _ z_ => XS.istoreN X1.here hx rfl (hb hby own_d14_31) rfl (l' := #[rv a, iv (j <<< ((1 : Int32) &&& 31))]) rfl z_) ?_
  refine own_g (own_F T1 m 33 #[rv a, iv (j <<< ((1 : Int32) &&& 31))] [(.ref a)]) (fun _ z_ => XS.aloadN X1.here hx rfl (hb hby own_d14_32) rfl rfl z_) ?_
  refine own_g (own_F T1 m 34 #[rv a, iv (j <<< ((1 : Int32) &&& 31))] [(.int (j <<< ((1 : Int32) &&& 31))), (.ref a)]) (fun _ z_ => XS.iloadN X1.here hx rfl (hb hby own_d14_33) rfl z_) ?_
  refine own_g (own_F T1 m 37 #[rv a, iv ((j <<< ((1 : Int32) &&& 31)) + (1 : Int32))] [(.int (j <<< ((1 : Int32) &&& 31))), (.ref a)]) (fun _ z_ => XS.iinc X1.here hx rfl (hb hby own_d14_34) rfl (l' := #[rv a, iv ((j <<< ((1 : Int32) &&& 31)) + (1 : Int32))]) rfl z_) ?_
  refine own_bald X1 hx hZ e1 Aa (2 * k) (own_shl1 hj hk hn) (by omega) (hb hby own_d14_37) ?_
  show own_Ends p e below s _ _ _ (own_F T1 m 38 #[rv a, iv ((j <<< ((1 : Int32) &&& 31)) + (1 : Int32))] [(.int ((own_ub f) (2 * k)))])
  refine own_g (own_F T1 m 41 #[rv a, iv ((j <<< ((1 : Int32) &&& 31)) + (1 : Int32))] [(.int 255), (.int ((own_ub f) (2 * k)))]) (fun _ z_ => XS.sipush X1.here hx rfl (hb hby own_d14_38) z_) ?_
  refine own_g (own_F T1 m 42 #[rv a, iv ((j <<< ((1 : Int32) &&& 31)) + (1 : Int32))] [(.int (((own_ub f) (2 * k)) &&& (255 : Int32)))]) (fun _ z_ => XS.iand X1.here hx rfl (hb hby own_d14_41) rfl z_) ?_
  obtain ⟨T2, X2, e2, st2⟩ := getS2 X1 hx hZ hown (host := "") (Or.inl (own_w hw 55)) Via.refl e1 S_hi (g := (mkF m 42 #[rv a, iv ((j <<< ((1 : Int32) &&& 31)) + (1 : Int32))] [(.int (((own_ub f) (2 * k)) &&& (255 : Int32)))])) rfl (hb hby own_d14_42)
  refine own_pre (S' := (own_F T2 m 45 #[rv a, iv ((j <<< ((1 : Int32) &&& 31)) + (1 : Int32))] [(.int 0), (.int (((own_ub f) (2 * k)) &&& (255 : Int32)))])) st2 ?_
  refine own_g (own_F T2 m 46 #[rv a, iv ((j <<< ((1 : Int32) &&& 31)) + (1 : Int32))] [(.int ((((own_ub f) (2 * k)) &&& (255 : Int32)) <<< ((0 : Int32) &&& 31)))]) (fun _ z_ => XS.ishl X2.here hx rfl (hb hby own_d14_45) rfl z_) ?_
  refine own_g (own_F T2 m 47 #[rv a, iv ((j <<< ((1 : Int32) &&& 31)) + (1 : Int32))] [(.ref a), (.int ((((own_ub f) (2 * k)) &&& (255 : Int32)) <<< ((0 : Int32) &&& 31)))]) (fun _ z_ => XS.aloadN X2.here hx rfl (hb hby own_d14_46) rfl rfl z_) ?_
  refine own_g (own_F T2 m 48 #[rv a, iv ((j <<< ((1 : Int32) &&& 31)) + (1 : Int32))] [(.int ((j <<< ((1 : Int32) &&& 31)) + (1 : Int32))), (.ref a), (.int ((((own_ub f) (2 * k)) &&& (255 : Int32)) <<< ((0 : Int32) &&& 31)))]) (fun _ z_ => XS.iloadN X2.here hx rfl (hb hby own_d14_47) rfl z_) ?_
  refine own_bald X2 hx hZ e2 Aa (2 * k + 1) (own_add1 (own_shl1 hj hk hn) (by omega)) (by omega) (hb hby own_d14_48) ?_
  show own_Ends p e below s _ _ _ (own_F T2 m 49 #[rv a, iv ((j <<< ((1 : Int32) &&& 31)) + (1 : Int32))] [(.int ((own_ub f) (2 * k + 1))), (.int ((((own_ub f) (2 * k)) &&& (255 : Int32)) <<< ((0 : Int32) &&& 31)))])
  refine own_g (own_F T2 m 52 #[rv a, iv ((j <<< ((1 : Int32) &&& 31)) + (1 : Int32))] [(.int 255), (.int ((own_ub f) (2 * k + 1))), (.int ((((own_ub f) (2 * k)) &&& (255 : Int32)) <<< ((0 : Int32) &&& 31)))]) (fun _ z_ => XS.sipush X2.here hx rfl (hb hby own_d14_49) z_) ?_
  refine own_g (own_F T2 m 53 #[rv a, iv ((j <<< ((1 : Int32) &&& 31)) + (1 : Int32))] [(.int (((own_ub f) (2 * k + 1)) &&& (255 : Int32))), (.int ((((own_ub f) (2 * k)) &&& (255 : Int32)) <<< ((0 : Int32) &&& 31)))]) (fun _ z_ => XS.iand X2.here hx rfl (hb hby own_d14_52) rfl z_) ?_
  obtain ⟨T3, X3, e3, st3⟩ := getS2 X2 hx hZ hown (host := "") (Or.inl (own_w hw 56)) Via.refl e2 S_lo (g := (mkF m 53 #[rv a, iv ((j <<< ((1 : Int32) &&& 31)) + (1 : Int32))] [(.int (((own_ub f) (2 * k + 1)) &&& (255 : Int32))), (.int ((((own_ub f) (2 * k)) &&& (255 : Int32)) <<< ((0 : Int32) &&& 31)))])) rfl (hb hby own_d14_53)
  refine own_pre (S' := (own_F T3 m 56 #[rv a, iv ((j <<< ((1 : Int32) &&& 31)) + (1 : Int32))] [(.int 8), (.int (((own_ub f) (2 * k + 1)) &&& (255 : Int32))), (.int ((((own_ub f) (2 * k)) &&& (255 : Int32)) <<< ((0 : Int32) &&& 31)))])) st3 ?_
  refine own_g (own_F T3 m 57 #[rv a, iv ((j <<< ((1 : Int32) &&& 31)) + (1 : Int32))] [(.int ((((own_ub f) (2 * k + 1)) &&& (255 : Int32)) <<< ((8 : Int32) &&& 31))), (.int ((((own_ub f) (2 * k)) &&& (255 : Int32)) <<< ((0 : Int32) &&& 31)))]) (fun _ z_ => XS.ishl X3.here hx rfl (hb hby own_d14_56) rfl z_) ?_
  refine own_g (own_F T3 m 58 #[rv a, iv ((j <<< ((1 : Int32) &&& 31)) + (1 : Int32))] [(.int (((((own_ub f) (2 * k)) &&& (255 : Int32)) <<< ((0 : Int32) &&& 31)) ||| ((((own_ub f) (2 * k + 1)) &&& (255 : Int32)) <<< ((8 : Int32) &&& 31))))]) (fun _ z_ => XS.ior X3.here hx rfl (hb hby own_d14_57) rfl z_) ?_
  refine own_g (own_F T3 m 59 #[rv a, iv ((j <<< ((1 : Int32) &&& 31)) + (1 : Int32))] [(.int ((((((own_ub f) (2 * k)) &&& (255 : Int32)) <<< ((0 : Int32) &&& 31)) ||| ((((own_ub f) (2 * k + 1)) &&& (255 : Int32)) <<< ((8 : Int32) &&& 31))).toUInt32.toUInt16.toUInt32.toInt32))]) (fun _ z_ => XS.i2c X3.here hx rfl (hb hby own_d14_58) rfl z_) ?_
  refine own_ret (t := .char) X3 hx hlk hrt (own_narI _) (Or.inl ⟨rfl, by simp, _, rfl⟩) (hb hby own_d14_59) (by decide) (by decide) ?_
  exact ⟨congrArg (fun z => some (Value.int z)) (by rw [own_ub0, own_ub1]; exact own_get16 hc), N0, e3⟩
set_option maxRecDepth 65536 in
set_option maxHeartbeats 40000000 in
theorem own_nbl (l : Launch) (Z : State) (a0 : Array Value) (hw : ∀ d ∈ tables_1, d.before a0 Z = true) (ws : List Jvm.Cond) (n : Nat) (nn : Int32) (h0 : Heap) (n0 : Nat) (Z0 : n0 ≤ h0.size) (hn : nn.toInt = (n : Int)) (h2 : n < 1000000) :
    own_Met l Z (⟨"java/lang/StringUTF16", "newBytesLength", "(I)I"⟩ : MethodName) jdk_52_method_3_code 1 (some .int) ws ({ frames := 0, cells := 0, slots := 0, locals := 0 } : Room) #[(.int nn)] h0 (fun v h L => v = some (.int (nn <<< ((1 : Int32) &&& 31))) ∧ Fr n0 L ∧ h = h0) := by
  refine own_body own_pn2 (fun m => mkF m 0 #[iv nn] []) (fun m => own_ef_own_nbl m nn) ?_
  intro p e s m below meth c T0 hx hby hml hlk hrt hZ hown hnm X0 e0
  have hown : s.vm.findClass "java/lang/StringUTF16" = some m.cls := hown
  have N0 := Fr.nil n0
  refine own_g (own_F T0 m 1 #[iv nn] [(.int nn)]) (fun _ z_ => XS.iloadN X0.here hx rfl (hb hby own_d12_0) rfl z_) ?_
  refine own_g (own_F T0 m 12 #[iv nn] []) (fun _ z_ => XS.ifYes X0.here hx rfl (pc0 := 1) (pc' := 12) rfl (hb hby own_d12_1) rfl ((if0 _ _).trans (flt (own_n0 hn)).2.1) (by decide) (by decide) z_) ?_
  refine own_g (own_F T0 m 13 #[iv nn] [(.int nn)]) (fun _ z_ => XS.iloadN X0.here hx rfl (hb hby own_d12_12) rfl z_) ?_
  refine own_pre (S' := (own_F T0 m 15 #[iv nn] [(.int 1073741823), (.int nn)])) (X0.ldcInt hx hown (mvT hZ (own_w hw 50)) (g := (mkF m 13 #[iv nn] [(.int nn)])) rfl (hb hby own_d12_13)) ?_
  refine own_g (own_F T0 m 55 #[iv nn] []) (fun _ z_ => XS.icmpYes X0.here hx rfl (pc0 := 15) (pc' := 55) rfl (hb hby own_d12_15) rfl (tlt (own_n1 hn h2)).1 (by decide) (by decide) z_) ?_
  refine own_g (own_F T0 m 56 #[iv nn] [(.int nn)]) (fun _ z_ => XS.iloadN X0.here hx rfl (hb hby own_d12_55) rfl z_) ?_
  refine own_g (own_F T0 m 57 #[iv nn] [(.int 1), (.int nn)]) (fun _ z_ => XS.iconst X0.here hx rfl (hb hby own_d12_56) z_) ?_
  refine own_g (own_F T0 m 58 #[iv nn] [(.int (nn <<< ((1 : Int32) &&& 31)))]) (fun _ z_ => XS.ishl X0.here hx rfl (hb hby own_d12_57) rfl z_) ?_
  refine own_ret (t := .int) X0 hx hlk hrt rfl (Or.inl ⟨rfl, by simp, _, rfl⟩) (hb hby own_d12_58) (by decide) (by decide) ?_
  exact ⟨rfl, N0, e0⟩
set_option maxRecDepth 65536 in
set_option maxHeartbeats 40000000 in
theorem own_nbf (l : Launch) (Z : State) (a0 : Array Value) (hw : ∀ d ∈ tables_1, d.before a0 Z = true) (ws : List Jvm.Cond) (n : Nat) (nn : Int32) (h0 : Heap) (n0 : Nat) (Z0 : n0 ≤ h0.size) (hn : nn.toInt = (n : Int)) (hcap : 2 * n ≤ 22) :
    own_Met l Z (⟨"java/lang/StringUTF16", "newBytesFor", "(I)[B"⟩ : MethodName) jdk_52_method_2_code 1 (some (.array .byte)) ws ({ frames := 1, cells := 1, slots := 22, locals := 12 } : Room) #[(.int nn)] h0 (fun v h L => ∃ b : Addr, v = some (.ref b) ∧ Fr n0 L ∧ Keep h0 h [] ∧ n0 ≤ b ∧ h0.size ≤ b ∧ own_A Z h b .byte (2 * n) (fun i => .int ((fun _ => 0) i))) := by
  refine own_body own_pn3 (fun m => mkF m 0 #[iv nn] []) (fun m => own_ef_own_nbf m nn) ?_
  intro p e s m below meth c T0 hx hby hml hlk hrt hZ hown hnm X0 e0
  have hown : s.vm.findClass "java/lang/StringUTF16" = some m.cls := hown
  have N0 := Fr.nil n0
  refine own_g (own_F T0 m 1 #[iv nn] [(.int nn)]) (fun _ z_ => XS.iloadN X0.here hx rfl (hb hby own_d11_0) rfl z_) ?_
  refine own_callS (y := (⟨"java/lang/StringUTF16", "newBytesLength", "(I)I"⟩ : MethodName)) X0 hx hZ hown (own_w hw 47) (own_w hw 48) (own_w hw 21) (own_w hw 49) (by decide) e0 (hM := own_nbl l Z a0 hw [] n nn h0 n0 Z0 hn (by omega)) (W := 0) (pc := 1) (Ls := #[iv nn]) (argsL := [(.int nn)]) (rest := []) (st0 := [(.int nn)]) (by rw [hml]; rfl) (lenOf own_pd0 rfl) rfl (Nat.le_of_eq rfl) (hb hby own_d11_1) (by decide) (by decide) (by decide) (by decide) ?_
  intro v1 T1 L1 X1 hQ1
  obtain ⟨rfl, Nq1, hh1⟩ := hQ1
  have N1 := Fr.app N0 Nq1
  show own_Ends p e below s _ _ _ (own_F T1 m 4 #[iv nn] [(.int (nn <<< ((1 : Int32) &&& 31)))])
  refine own_newA X1 hx hZ .byte rfl (own_w hw 23) hh1 (hb hby own_d11_4) (2 * n) (own_shl1' hn (by omega)) 22 (by omega) (by decide) (by decide) (by decide) ?_
  intro T2 h2 b2 X2 e2 E2 g2 A2
  have sz_b2 : h0.size ≤ b2 := Nat.le_trans (Nat.le_refl h0.size) (Nat.le_of_eq g2.symm)
  have ge_b2 : n0 ≤ b2 := Nat.le_trans Z0 (Nat.le_of_eq g2.symm)
  have A2 : own_A Z h2 b2 .byte (2 * n) (fun q_ => .int ((fun _ => (0 : Int32)) q_)) := A2
  show own_Ends p e below s _ _ _ (own_F T2 m 6 #[iv nn] [(.ref b2)])
  refine own_ret (t := (.array .byte)) X2 hx hlk hrt rfl (Or.inr (Or.inr (Or.inr (Or.inr ⟨rfl, rfl, rfl⟩)))) (hb hby own_d11_6) (by decide) (by decide) ?_
  exact ⟨b2, rfl, N1, (e2.symm ▸ ((Keep.refl _ _).ext E2)), ge_b2, sz_b2, (e2.symm ▸ A2)⟩
set_option maxRecDepth 65536 in
set_option maxHeartbeats 40000000 in
theorem own_tob (l : Launch) (Z : State) (a0 : Array Value) (hw : ∀ d ∈ tables_1, d.before a0 Z = true) (ws : List Jvm.Cond) (a : Addr) (n : Nat) (nn : Int32) (f : Nat → Int32) (h0 : Heap) (n0 : Nat) (Z0 : n0 ≤ h0.size) (hn : nn.toInt = (n : Int)) (hcap : 2 * n ≤ 22) (Aa : own_A Z h0 a .char n (fun i => .int (f i))) (S_ad : Sta Z h0 "java/lang/StringUTF16" "$assertionsDisabled" "Z" (.int (1 : Int32))) (S_hi : Sta Z h0 "java/lang/StringUTF16" "HI_BYTE_SHIFT" "I" (.int (0 : Int32))) (S_lo : Sta Z h0 "java/lang/StringUTF16" "LO_BYTE_SHIFT" "I" (.int (8 : Int32))) :
    own_Met l Z (⟨"java/lang/StringUTF16", "toBytes", "([CII)[B"⟩ : MethodName) jdk_52_method_14_code 5 (some (.array .byte)) ws ({ frames := 2, cells := 1, slots := 22, locals := 24 } : Room) #[(.ref a), (.int 0), (.int nn)] h0 (fun v h L => ∃ b : Addr, v = some (.ref b) ∧ Fr n0 L ∧ Keep h0 h [] ∧ n0 ≤ b ∧ h0.size ≤ b ∧ own_A Z h b .byte (2 * n) (fun i => .int (own_ub f i))) := by
  refine own_body own_pn4 (fun m => mkF m 0 #[rv a, iv 0, iv nn, .unset, .unset] []) (fun m => own_ef_own_tob m a (0 : Int32) nn) ?_
  intro p e s m below meth c T0 hx hby hml hlk hrt hZ hown hnm X0 e0
  have hown : s.vm.findClass "java/lang/StringUTF16" = some m.cls := hown
  have N0 := Fr.nil n0
  refine own_g (own_F T0 m 1 #[rv a, iv 0, iv nn, .unset, .unset] [(.int nn)]) (fun _ z_ => XS.iloadN X0.here hx rfl (hb hby own_d10_0) rfl z_) ?_
  refine own_callS (y := (⟨"java/lang/StringUTF16", "newBytesFor", "(I)[B"⟩ : MethodName)) X0 hx hZ hown (own_w hw 44) (own_w hw 45) (own_w hw 21) (own_w hw 46) (by decide) e0 (hM := own_nbf l Z a0 hw [] n nn h0 n0 Z0 hn hcap) (W := 0) (pc := 1) (Ls := #[rv a, iv 0, iv nn, .unset, .unset]) (argsL := [(.int nn)]) (rest := []) (st0 := [(.int nn)]) (by rw [hml]; rfl) (lenOf own_pd1 rfl) rfl (Nat.le_of_eq rfl) (hb hby own_d10_1) (by decide) (by decide) (by decide) (by decide) ?_
  intro v1 T1 L1 X1 hQ1
  obtain ⟨b1, rfl, Nq1, K1, ge_b1, sz_b1, Ab1⟩ := hQ1
  have N1 := Fr.app N0 Nq1
  show own_Ends p e below s _ _ _ (own_F T1 m 4 #[rv a, iv 0, iv nn, .unset, .unset] [(.ref b1)])
  have ne_ab1 : a ≠ b1 := Nat.ne_of_lt (Nat.lt_of_lt_of_le Aa.lt sz_b1)
  refine own_g (own_F T1 m 5 #[rv a, iv 0, iv nn, rv b1, .unset] []) (fun _ z_ => XS.astoreN X1.here hx rfl (hb hby own_d10_4) rfl rfl (l' := #[rv a, iv 0, iv nn, rv b1, .unset]) rfl z_) ?_
  refine own_g (own_F T1 m 6 #[rv a, iv 0, iv nn, rv b1, .unset] [(.int 0)]) (fun _ z_ => XS.iconst X1.here hx rfl (hb hby own_d10_5) z_) ?_
  refine own_g (own_F T1 m 8 #[rv a, iv 0, iv nn, rv b1, iv 0] []) (fun _ z_ => XS.istore X1.here hx rfl (hb hby own_d10_6) rfl (l' := #[rv a, iv 0, iv nn, rv b1, iv 0]) rfl z_) ?_
  have J : ∀ (r : Nat) (k : Nat) (j : Int32) (g : Nat → Int32) (T2 : State) (lc2 : List Loc) (hp2 : Heap) (X2 : Stand p l e ({ frames := 2, cells := 1, slots := 22, locals := 24 } : Room) s m #[(.ref a), (.int 0), (.int nn)] below meth c T2 lc2 1 22) (e2 : T2.heap = hp2) (N2 : Fr n0 lc2) (zs2 : n0 ≤ hp2.size) (zz2 : h0.size ≤ hp2.size) (K2 : Keep h0 hp2 []) (f2_0 : own_A Z hp2 a .char n (fun i => .int (f i))) (f2_1 : own_A Z hp2 b1 .byte (2 * n) (fun i => .int (g i))) (f2_2 : Sta Z hp2 "java/lang/StringUTF16" "$assertionsDisabled" "Z" (.int (1 : Int32))) (f2_3 : Sta Z hp2 "java/lang/StringUTF16" "HI_BYTE_SHIFT" "I" (.int (0 : Int32))) (f2_4 : Sta Z hp2 "java/lang/StringUTF16" "LO_BYTE_SHIFT" "I" (.int (8 : Int32))) (hkr : k + r = n) (hj : j.toInt = (k : Int)) (hg : ∀ i, i < 2 * k → g i = own_ub f i), own_Ends p e below s (fun v h L => ∃ b : Addr, v = some (.ref b) ∧ Fr n0 L ∧ Keep h0 h [] ∧ n0 ≤ b ∧ h0.size ≤ b ∧ own_A Z h b .byte (2 * n) (fun i => .int (own_ub f i))) ({ frames := 2, cells := 1, slots := 22, locals := 24 } : Room).cells ({ frames := 2, cells := 1, slots := 22, locals := 24 } : Room).slots (own_F T2 m 8 #[rv a, iv j, iv nn, rv b1, iv j] []) := by
   intro r
   induction r with
   | zero =>
    intro k j g T2 lc2 hp2 X2 e2 N2 zs2 zz2 K2 f2_0 f2_1 f2_2 f2_3 f2_4 hkr hj hg
    refine own_g (own_F T2 m 10 #[rv a, iv j, iv nn, rv b1, iv j] [(.int j)]) (fun _ z_ => XS.iload X2.here hx rfl (hb hby own_d10_8) rfl z_) ?_
    refine own_g (own_F T2 m 11 #[rv a, iv j, iv nn, rv b1, iv j] [(.int nn), (.int j)]) (fun _ z_ => XS.iloadN X2.here hx rfl (hb hby own_d10_10) rfl z_) ?_
    refine own_g (own_F T2 m 32 #[rv a, iv j, iv nn, rv b1, iv j] []) (fun _ z_ => XS.icmpYes X2.here hx rfl (pc0 := 11) (pc' := 32) rfl (hb hby own_d10_11) rfl (flt (own_jge hj hn (by omega))).2.1 (by decide) (by decide) z_) ?_
    refine own_g (own_F T2 m 33 #[rv a, iv j, iv nn, rv b1, iv j] [(.ref b1)]) (fun _ z_ => XS.aloadN X2.here hx rfl (hb hby own_d10_32) rfl rfl z_) ?_
    refine own_ret (t := (.array .byte)) X2 hx hlk hrt rfl (Or.inr (Or.inr (Or.inr (Or.inr ⟨rfl, rfl, rfl⟩)))) (hb hby own_d10_33) (by decide) (by decide) ?_
    show ∃ b : Addr, _ ∧ Fr n0 _ ∧ Keep h0 T2.heap [] ∧ _ ∧ _ ∧ own_A Z T2.heap b .byte (2 * n) _
    rw [e2]
    exact ⟨b1, rfl, N2, K2, ge_b1, sz_b1, (f2_1).congr fun i hi => congrArg Value.int (hg i (by omega))⟩
   | succ r ih =>
    intro k j g T2 lc2 hp2 X2 e2 N2 zs2 zz2 K2 f2_0 f2_1 f2_2 f2_3 f2_4 hkr hj hg
    have hkn : k < n := by omega
    refine own_g (own_F T2 m 10 #[rv a, iv j, iv nn, rv b1, iv j] [(.int j)]) (fun _ z_ => XS.iload X2.here hx rfl (hb hby own_d10_8) rfl z_) ?_
    refine own_g (own_F T2 m 11 #[rv a, iv j, iv nn, rv b1, iv j] [(.int nn), (.int j)]) (fun _ z_ => XS.iloadN X2.here hx rfl (hb hby own_d10_10) rfl z_) ?_
    refine own_g (own_F T2 m 14 #[rv a, iv j, iv nn, rv b1, iv j] []) (fun _ z_ => XS.icmpNo X2.here hx rfl (hb hby own_d10_11) rfl (tlt (own_jlt hj hn hkn)).2.1 z_) ?_
    refine own_g (own_F T2 m 15 #[rv a, iv j, iv nn, rv b1, iv j] [(.ref b1)]) (fun _ z_ => XS.aloadN X2.here hx rfl (hb hby own_d10_14) rfl rfl z_) ?_
    refine own_g (own_F T2 m 17 #[rv a, iv j, iv nn, rv b1, iv j] [(.int j), (.ref b1)]) (fun _ z_ => XS.iload X2.here hx rfl (hb hby own_d10_15) rfl z_) ?_
    refine own_g (own_F T2 m 18 #[rv a, iv j, iv nn, rv b1, iv j] [(.ref a), (.int j), (.ref b1)]) (fun _ z_ => XS.aloadN X2.here hx rfl (hb hby own_d10_17) rfl rfl z_) ?_
    refine own_g (own_F T2 m 19 #[rv a, iv j, iv nn, rv b1, iv j] [(.int j), (.ref a), (.int j), (.ref b1)]) (fun _ z_ => XS.iloadN X2.here hx rfl (hb hby own_d10_18) rfl z_) ?_
    refine own_cald X2 hx hZ e2 f2_0 k hj hkn (hb hby own_d10_19) ?_
    show own_Ends p e below s _ _ _ (own_F T2 m 20 #[rv a, iv j, iv nn, rv b1, iv j] [(.int (f k)), (.int j), (.ref b1)])
    refine own_callS (y := (⟨"java/lang/StringUTF16", "putChar", "([BII)V"⟩ : MethodName)) X2 hx hZ hown (own_w hw 51) (own_w hw 52) (own_w hw 21) (own_w hw 53) (by decide) e2 (hM := own_putc l Z a0 hw [] b1 n k j (f k) g hp2 n0 zs2 hj hkn (by omega) f2_1 ge_b1 f2_2 f2_3 f2_4) (W := 0) (pc := 20) (Ls := #[rv a, iv j, iv nn, rv b1, iv j]) (argsL := [(.ref b1), (.int j), (.int (f k))]) (rest := []) (st0 := [(.int (f k)), (.int j), (.ref b1)]) (by rw [hml]; rfl) (lenOf own_pd2 rfl) rfl (Nat.le_of_eq rfl) (hb hby own_d10_20) (by decide) (by decide) (by decide) (by decide) ?_
    intro v3 T3 L3 X3 hQ3
    obtain ⟨rfl, Nq3, K3, g3, Ab3, hg3⟩ := hQ3
    have N3 := Fr.app N2 Nq3
    show own_Ends p e below s _ _ _ (own_F T3 m 23 #[rv a, iv j, iv nn, rv b1, iv j] [])
    refine own_g (own_F T3 m 26 #[rv a, iv (j + (1 : Int32)), iv nn, rv b1, iv j] []) (fun _ z_ => XS.iinc X3.here hx rfl (hb hby own_d10_23) rfl (l' := #[rv a, iv (j + (1 : Int32)), iv nn, rv b1, iv j]) rfl z_) ?_
    refine own_g (own_F T3 m 29 #[rv a, iv (j + (1 : Int32)), iv nn, rv b1, iv (j + (1 : Int32))] []) (fun _ z_ => XS.iinc X3.here hx rfl (hb hby own_d10_26) rfl (l' := #[rv a, iv (j + (1 : Int32)), iv nn, rv b1, iv (j + (1 : Int32))]) rfl z_) ?_
    refine own_g (own_F T3 m 8 #[rv a, iv (j + (1 : Int32)), iv nn, rv b1, iv (j + (1 : Int32))] []) (fun _ z_ => XS.goto X3.here hx rfl (pc0 := 29) (pc' := 8) rfl (hb hby own_d10_29) (by decide) (by decide) z_) ?_
    exact ih (k + 1) (j + (1 : Int32)) g3 T3 _ _ X3 (rfl : T3.heap = T3.heap) N3 (Nat.le_trans zs2 K3.1) (Nat.le_trans zz2 K3.1) (K2.trans K3 (allS (Or.inr sz_b1) all0)) (f2_0.keep K3 (ninS ne_ab1 nin0)) Ab3 (own_sta_keep f2_2 K3 (allS (own_plainA f2_1) all0)) (own_sta_keep f2_3 K3 (allS (own_plainA f2_1) all0)) (own_sta_keep f2_4 K3 (allS (own_plainA f2_1) all0)) (by omega) (own_succ hj hkn (by omega)) (own_ubs hg hg3)
  exact J n 0 (0 : Int32) (fun _ => 0) T1 _ _ X1 (rfl : T1.heap = T1.heap) N1 (Nat.le_trans Z0 K1.1) (Nat.le_trans (Nat.le_refl h0.size) K1.1) ((Keep.refl _ _).trans K1 all0) (Aa.keep K1 nin0) Ab1 (own_sta_keep S_ad K1 all0) (own_sta_keep S_hi K1 all0) (own_sta_keep S_lo K1 all0) (by omega) rfl (fun i hi => absurd hi (by omega))
set_option maxRecDepth 65536 in
set_option maxHeartbeats 40000000 in
theorem own_cmp2 (l : Launch) (Z : State) (a0 : Array Value) (hw : ∀ d ∈ tables_1, d.before a0 Z = true) (ws : List Jvm.Cond) (a b : Addr) (n : Nat) (nn : Int32) (f g : Nat → Int32) (h0 : Heap) (n0 : Nat) (Z0 : n0 ≤ h0.size) (hn : nn.toInt = (n : Int)) (hn31 : n < 2 ^ 31) (Aa : own_A Z h0 a .char n (fun i => .int (f i))) (Ab : own_A Z h0 b .byte n (fun i => .int (g i))) (g_b : n0 ≤ b) (ne_ab : a ≠ b) :
    own_Met l Z (⟨"java/lang/StringUTF16", "compress", "([CI[BII)I"⟩ : MethodName) jdk_52_method_21_code 7 (some .int) ws ({ frames := 0, cells := 0, slots := 0, locals := 0 } : Room) #[(.ref a), (.int 0), (.ref b), (.int 0), (.int nn)] h0 (fun v h L => ∃ rr : Nat, (∃ jj : Int32, v = some (.int jj) ∧ jj.toInt = (rr : Int)) ∧ Fr n0 L ∧ Keep h0 h [b] ∧ (rr = n ∧ (∀ i, i < n → (f i).toInt ≤ 255) ∧ own_A Z h b .byte n (fun i => .int ((f i).toInt8.toInt32)) ∨ rr < n ∧ 255 < (f rr).toInt ∧ ∃ g' : Nat → Int32, own_A Z h b .byte n (fun i => .int (g' i)))) := by
  refine own_body own_pn5 (fun m => mkF m 0 #[rv a, iv 0, rv b, iv 0, iv nn, .unset, .unset] []) (fun m => own_ef_own_cmp2 m a (0 : Int32) b (0 : Int32) nn) ?_
  intro p e s m below meth c T0 hx hby hml hlk hrt hZ hown hnm X0 e0
  have hown : s.vm.findClass "java/lang/StringUTF16" = some m.cls := hown
  have N0 := Fr.nil n0
  have J : ∀ (r : Nat) (k : Nat) (j : Int32) (s6 : Slot) (g : Nat → Int32) (T1 : State) (lc1 : List Loc) (hp1 : Heap) (X1 : Stand p l e ({ frames := 0, cells := 0, slots := 0, locals := 0 } : Room) s m #[(.ref a), (.int 0), (.ref b), (.int 0), (.int nn)] below meth c T1 lc1 0 0) (e1 : T1.heap = hp1) (N1 : Fr n0 lc1) (zs1 : n0 ≤ hp1.size) (zz1 : h0.size ≤ hp1.size) (K1 : Keep h0 hp1 [b]) (f1_0 : own_A Z hp1 a .char n (fun i => .int (f i))) (f1_1 : own_A Z hp1 b .byte n (fun i => .int (g i))) (hkr : k + r = n) (hj : j.toInt = (k : Int)) (hs6 : One s6) (hg : ∀ i, i < k → g i = (f i).toInt8.toInt32) (hl : ∀ i, i < k → (f i).toInt ≤ 255), own_Ends p e below s (fun v h L => ∃ rr : Nat, (∃ jj : Int32, v = some (.int jj) ∧ jj.toInt = (rr : Int)) ∧ Fr n0 L ∧ Keep h0 h [b] ∧ (rr = n ∧ (∀ i, i < n → (f i).toInt ≤ 255) ∧ own_A Z h b .byte n (fun i => .int ((f i).toInt8.toInt32)) ∨ rr < n ∧ 255 < (f rr).toInt ∧ ∃ g' : Nat → Int32, own_A Z h b .byte n (fun i => .int (g' i)))) ({ frames := 0, cells := 0, slots := 0, locals := 0 } : Room).cells ({ frames := 0, cells := 0, slots := 0, locals := 0 } : Room).slots (own_F T1 m 3 #[rv a, iv j, rv b, iv j, iv nn, iv j, s6] []) := by
   intro r
   induction r with
   | zero =>
    intro k j s6 g T1 lc1 hp1 X1 e1 N1 zs1 zz1 K1 f1_0 f1_1 hkr hj hs6 hg hl
    refine own_g (own_F T1 m 5 #[rv a, iv j, rv b, iv j, iv nn, iv j, s6] [(.int j)]) (fun _ z_ => XS.iload X1.here hx rfl (hb hby own_d6_3) rfl z_) ?_
    refine own_g (own_F T1 m 7 #[rv a, iv j, rv b, iv j, iv nn, iv j, s6] [(.int nn), (.int j)]) (fun _ z_ => XS.iload X1.here hx rfl (hb hby own_d6_5) rfl z_) ?_
    refine own_g (own_F T1 m 44 #[rv a, iv j, rv b, iv j, iv nn, iv j, s6] []) (fun _ z_ => XS.icmpYes X1.here hx rfl (pc0 := 7) (pc' := 44) rfl (hb hby own_d6_7) rfl (flt (own_jge hj hn (by omega))).2.1 (by decide) (by decide) z_) ?_
    refine own_g (own_F T1 m 46 #[rv a, iv j, rv b, iv j, iv nn, iv j, s6] [(.int nn)]) (fun _ z_ => XS.iload X1.here hx rfl (hb hby own_d6_44) rfl z_) ?_
    refine own_ret (t := .int) X1 hx hlk hrt rfl (Or.inl ⟨rfl, by simp, _, rfl⟩) (hb hby own_d6_46) (by decide) (by decide) ?_
    show ∃ (rr : Nat), _ ∧ Fr n0 _ ∧ Keep h0 T1.heap [b] ∧ (_ ∧ _ ∧ own_A Z T1.heap b .byte n _ ∨ _ ∧ _ ∧ ∃ g', own_A Z T1.heap b .byte n _)
    rw [e1]
    exact ⟨n, ⟨nn, rfl, hn⟩, N1, K1, Or.inl ⟨rfl, fun i hi => hl i (by omega), (f1_1).congr fun i hi => congrArg Value.int (hg i (by omega))⟩⟩
   | succ r ih =>
    intro k j s6 g T1 lc1 hp1 X1 e1 N1 zs1 zz1 K1 f1_0 f1_1 hkr hj hs6 hg hl
    have hkn : k < n := by omega
    refine own_g (own_F T1 m 5 #[rv a, iv j, rv b, iv j, iv nn, iv j, s6] [(.int j)]) (fun _ z_ => XS.iload X1.here hx rfl (hb hby own_d6_3) rfl z_) ?_
    refine own_g (own_F T1 m 7 #[rv a, iv j, rv b, iv j, iv nn, iv j, s6] [(.int nn), (.int j)]) (fun _ z_ => XS.iload X1.here hx rfl (hb hby own_d6_5) rfl z_) ?_
    refine own_g (own_F T1 m 10 #[rv a, iv j, rv b, iv j, iv nn, iv j, s6] []) (fun _ z_ => XS.icmpNo X1.here hx rfl (hb hby own_d6_7) rfl (tlt (own_jlt hj hn hkn)).2.1 z_) ?_
    refine own_g (own_F T1 m 11 #[rv a, iv j, rv b, iv j, iv nn, iv j, s6] [(.ref a)]) (fun _ z_ => XS.aloadN X1.here hx rfl (hb hby own_d6_10) rfl rfl z_) ?_
    refine own_g (own_F T1 m 12 #[rv a, iv j, rv b, iv j, iv nn, iv j, s6] [(.int j), (.ref a)]) (fun _ z_ => XS.iloadN X1.here hx rfl (hb hby own_d6_11) rfl z_) ?_
    refine own_cald X1 hx hZ e1 f1_0 k hj hkn (hb hby own_d6_12) ?_
    show own_Ends p e below s _ _ _ (own_F T1 m 13 #[rv a, iv j, rv b, iv j, iv nn, iv j, s6] [(.int (f k))])
    refine own_g (own_F T1 m 15 #[rv a, iv j, rv b, iv j, iv nn, iv j, iv (f k)] []) (fun _ z_ => XS.istore X1.here hx rfl (hb hby own_d6_13) rfl (l' := #[rv a, iv j, rv b, iv j, iv nn, iv j, iv (f k)]) (own_st1 rfl hs6 rfl rfl) z_) ?_
    refine own_g (own_F T1 m 17 #[rv a, iv j, rv b, iv j, iv nn, iv j, iv (f k)] [(.int (f k))]) (fun _ z_ => XS.iload X1.here hx rfl (hb hby own_d6_15) rfl z_) ?_
    refine own_g (own_F T1 m 20 #[rv a, iv j, rv b, iv j, iv nn, iv j, iv (f k)] [(.int 255), (.int (f k))]) (fun _ z_ => XS.sipush X1.here hx rfl (hb hby own_d6_17) z_) ?_
    by_cases c20 : (255 : Int32) < (f k)
    · -- pc 20: (255 : Int32) < (f k)
     refine own_g (own_F T1 m 23 #[rv a, iv j, rv b, iv j, iv nn, iv j, iv (f k)] []) (fun _ z_ => XS.icmpNo X1.here hx rfl (hb hby own_d6_20) rfl (tlt c20).2.2.2 z_) ?_
     refine own_g (own_F T1 m 25 #[rv a, iv j, rv b, iv j, iv nn, iv j, iv (f k)] [(.int j)]) (fun _ z_ => XS.iload X1.here hx rfl (hb hby own_d6_23) rfl z_) ?_
     refine own_ret (t := .int) X1 hx hlk hrt rfl (Or.inl ⟨rfl, by simp, _, rfl⟩) (hb hby own_d6_25) (by decide) (by decide) ?_
     show ∃ (rr : Nat), _ ∧ Fr n0 _ ∧ Keep h0 T1.heap [b] ∧ (_ ∧ _ ∧ own_A Z T1.heap b .byte n _ ∨ _ ∧ _ ∧ ∃ g', own_A Z T1.heap b .byte n _)
     rw [e1]
     exact ⟨k, ⟨j, rfl, hj⟩, N1, K1, Or.inr ⟨hkn, own_gt255 c20, g, f1_1⟩⟩
    · -- pc 20: not (255 : Int32) < (f k)
     refine own_g (own_F T1 m 26 #[rv a, iv j, rv b, iv j, iv nn, iv j, iv (f k)] []) (fun _ z_ => XS.icmpYes X1.here hx rfl (pc0 := 20) (pc' := 26) rfl (hb hby own_d6_20) rfl (flt c20).2.2.2 (by decide) (by decide) z_) ?_
     refine own_g (own_F T1 m 27 #[rv a, iv j, rv b, iv j, iv nn, iv j, iv (f k)] [(.ref b)]) (fun _ z_ => XS.aloadN X1.here hx rfl (hb hby own_d6_26) rfl rfl z_) ?_
     refine own_g (own_F T1 m 28 #[rv a, iv j, rv b, iv j, iv nn, iv j, iv (f k)] [(.int j), (.ref b)]) (fun _ z_ => XS.iloadN X1.here hx rfl (hb hby own_d6_27) rfl z_) ?_
     refine own_g (own_F T1 m 30 #[rv a, iv j, rv b, iv j, iv nn, iv j, iv (f k)] [(.int (f k)), (.int j), (.ref b)]) (fun _ z_ => XS.iload X1.here hx rfl (hb hby own_d6_28) rfl z_) ?_
     refine own_g (own_F T1 m 31 #[rv a, iv j, rv b, iv j, iv nn, iv j, iv (f k)] [(.int ((f k).toInt8.toInt32)), (.int j), (.ref b)]) (fun _ z_ => XS.i2b X1.here hx rfl (hb hby own_d6_30) rfl z_) ?_
     refine own_bast X1 hx hZ e1 f1_1 k hj hkn ((f k).toInt8.toInt32) (own_narB _) (hb hby own_d6_31) ?_
     intro T2 h2 X2 e2 W2 A2
     have N2 := Fr.snoc X2 N1 g_b
     obtain ⟨g2, hg2⟩ : ∃ gq_ : Nat → Int32, gq_ = fun q_ => if q_ = k then ((f k).toInt8.toInt32) else g q_ := ⟨_, rfl⟩
     have A2 : own_A Z h2 b .byte n (fun q_ => .int (g2 q_)) := by rw [hg2]; exact A2
     show own_Ends p e below s _ _ _ (own_F T2 m 32 #[rv a, iv j, rv b, iv j, iv nn, iv j, iv (f k)] [])
     refine own_g (own_F T2 m 35 #[rv a, iv (j + (1 : Int32)), rv b, iv j, iv nn, iv j, iv (f k)] []) (fun _ z_ => XS.iinc X2.here hx rfl (hb hby own_d6_32) rfl (l' := #[rv a, iv (j + (1 : Int32)), rv b, iv j, iv nn, iv j, iv (f k)]) rfl z_) ?_
     refine own_g (own_F T2 m 38 #[rv a, iv (j + (1 : Int32)), rv b, iv (j + (1 : Int32)), iv nn, iv j, iv (f k)] []) (fun _ z_ => XS.iinc X2.here hx rfl (hb hby own_d6_35) rfl (l' := #[rv a, iv (j + (1 : Int32)), rv b, iv (j + (1 : Int32)), iv nn, iv j, iv (f k)]) rfl z_) ?_
     refine own_g (own_F T2 m 41 #[rv a, iv (j + (1 : Int32)), rv b, iv (j + (1 : Int32)), iv nn, iv (j + (1 : Int32)), iv (f k)] []) (fun _ z_ => XS.iinc X2.here hx rfl (hb hby own_d6_38) rfl (l' := #[rv a, iv (j + (1 : Int32)), rv b, iv (j + (1 : Int32)), iv nn, iv (j + (1 : Int32)), iv (f k)]) rfl z_) ?_
     refine own_g (own_F T2 m 3 #[rv a, iv (j + (1 : Int32)), rv b, iv (j + (1 : Int32)), iv nn, iv (j + (1 : Int32)), iv (f k)] []) (fun _ z_ => XS.goto X2.here hx rfl (pc0 := 41) (pc' := 3) rfl (hb hby own_d6_41) (by decide) (by decide) z_) ?_
     exact ih (k + 1) (j + (1 : Int32)) _ g2 T2 _ _ X2 e2 N2 (Nat.le_trans zs1 (Nat.le_of_eq W2.size.symm)) (Nat.le_trans zz1 (Nat.le_of_eq W2.size.symm)) (K1.wr W2 (Or.inl (List.mem_of_getElem? (i := 0) rfl))) (f1_0.other W2 ne_ab) A2 (by omega) (own_succ hj hkn hn31) (One.val rfl) (own_gstep hg hg2 rfl) (own_lstep hl c20)
  refine own_g (own_F T0 m 1 #[rv a, iv 0, rv b, iv 0, iv nn, .unset, .unset] [(.int 0)]) (fun _ z_ => XS.iconst X0.here hx rfl (hb hby own_d6_0) z_) ?_
  refine own_g (own_F T0 m 3 #[rv a, iv 0, rv b, iv 0, iv nn, iv 0, .unset] []) (fun _ z_ => XS.istore X0.here hx rfl (hb hby own_d6_1) rfl (l' := #[rv a, iv 0, rv b, iv 0, iv nn, iv 0, .unset]) rfl z_) ?_
  exact J n 0 (0 : Int32) _ g T0 _ _ X0 e0 N0 Z0 (Nat.le_refl h0.size) (Keep.refl _ _) Aa Ab (by omega) rfl (One.u) (fun i hi => absurd hi (Nat.not_lt_zero i)) (fun i hi => absurd hi (Nat.not_lt_zero i))
set_option maxRecDepth 65536 in
set_option maxHeartbeats 40000000 in
theorem own_cmp1 (l : Launch) (Z : State) (a0 : Array Value) (hw : ∀ d ∈ tables_1, d.before a0 Z = true) (ws : List Jvm.Cond) (a : Addr) (n : Nat) (nn : Int32) (f : Nat → Int32) (h0 : Heap) (n0 : Nat) (Z0 : n0 ≤ h0.size) (hn : nn.toInt = (n : Int)) (hcap : 2 * n ≤ 22) (Aa : own_A Z h0 a .char n (fun i => .int (f i))) (hf : ∀ i, i < n → 0 ≤ (f i).toInt ∧ (f i).toInt ≤ 65535) (S_ad : Sta Z h0 "java/lang/StringUTF16" "$assertionsDisabled" "Z" (.int (1 : Int32))) (S_hi : Sta Z h0 "java/lang/StringUTF16" "HI_BYTE_SHIFT" "I" (.int (0 : Int32))) (S_lo : Sta Z h0 "java/lang/StringUTF16" "LO_BYTE_SHIFT" "I" (.int (8 : Int32))) :
    own_Met l Z (⟨"java/lang/StringUTF16", "compress", "([CII)[B"⟩ : MethodName) jdk_52_method_16_code 6 (some (.array .byte)) ws ({ frames := 3, cells := 2, slots := 44, locals := 40 } : Room) #[(.ref a), (.int 0), (.int nn)] h0 (fun v h L => ∃ b : Addr, v = some (.ref b) ∧ Fr n0 L ∧ Keep h0 h [] ∧ n0 ≤ b ∧ h0.size ≤ b ∧ ((∀ i, i < n → (f i).toInt ≤ 255) ∧ own_A Z h b .byte n (fun i => .int ((f i).toInt8.toInt32)) ∨ own_A Z h b .byte (2 * n) (fun i => .int (own_ub f i)))) := by
  refine own_body own_pn6 (fun m => mkF m 0 #[rv a, iv 0, iv nn, .unset, .unset, .unset] []) (fun m => own_ef_own_cmp1 m a (0 : Int32) nn) ?_
  intro p e s m below meth c T0 hx hby hml hlk hrt hZ hown hnm X0 e0
  have hown : s.vm.findClass "java/lang/StringUTF16" = some m.cls := hown
  have N0 := Fr.nil n0
  refine own_g (own_F T0 m 1 #[rv a, iv 0, iv nn, .unset, .unset, .unset] [(.int nn)]) (fun _ z_ => XS.iloadN X0.here hx rfl (hb hby own_d5_0) rfl z_) ?_
  refine own_newA X0 hx hZ .byte rfl (own_w hw 23) e0 (hb hby own_d5_1) n hn 22 (by omega) (by decide) (by decide) (by decide) ?_
  intro T1 h1 b1 X1 e1 E1 g1 A1
  have sz_b1 : h0.size ≤ b1 := Nat.le_trans (Nat.le_refl h0.size) (Nat.le_of_eq g1.symm)
  have ge_b1 : n0 ≤ b1 := Nat.le_trans Z0 (Nat.le_of_eq g1.symm)
  have ne_a_b1 : a ≠ b1 := Nat.ne_of_lt (Nat.lt_of_lt_of_le Aa.lt (Nat.le_of_eq g1.symm))
  have A1 : own_A Z h1 b1 .byte n (fun q_ => .int ((fun _ => (0 : Int32)) q_)) := A1
  show own_Ends p e below s _ _ _ (own_F T1 m 3 #[rv a, iv 0, iv nn, .unset, .unset, .unset] [(.ref b1)])
  refine own_g (own_F T1 m 4 #[rv a, iv 0, iv nn, rv b1, .unset, .unset] []) (fun _ z_ => XS.astoreN X1.here hx rfl (hb hby own_d5_3) rfl rfl (l' := #[rv a, iv 0, iv nn, rv b1, .unset, .unset]) rfl z_) ?_
  refine own_g (own_F T1 m 5 #[rv a, iv 0, iv nn, rv b1, .unset, .unset] [(.ref a)]) (fun _ z_ => XS.aloadN X1.here hx rfl (hb hby own_d5_4) rfl rfl z_) ?_
  refine own_g (own_F T1 m 6 #[rv a, iv 0, iv nn, rv b1, .unset, .unset] [(.int 0), (.ref a)]) (fun _ z_ => XS.iloadN X1.here hx rfl (hb hby own_d5_5) rfl z_) ?_
  refine own_g (own_F T1 m 7 #[rv a, iv 0, iv nn, rv b1, .unset, .unset] [(.ref b1), (.int 0), (.ref a)]) (fun _ z_ => XS.aloadN X1.here hx rfl (hb hby own_d5_6) rfl rfl z_) ?_
  refine own_g (own_F T1 m 8 #[rv a, iv 0, iv nn, rv b1, .unset, .unset] [(.int 0), (.ref b1), (.int 0), (.ref a)]) (fun _ z_ => XS.iconst X1.here hx rfl (hb hby own_d5_7) z_) ?_
  refine own_g (own_F T1 m 9 #[rv a, iv 0, iv nn, rv b1, .unset, .unset] [(.int nn), (.int 0), (.ref b1), (.int 0), (.ref a)]) (fun _ z_ => XS.iloadN X1.here hx rfl (hb hby own_d5_8) rfl z_) ?_
  refine own_callS (y := (⟨"java/lang/StringUTF16", "compress", "([CI[BII)I"⟩ : MethodName)) X1 hx hZ hown (own_w hw 24) (own_w hw 25) (own_w hw 21) (own_w hw 26) (by decide) e1 (hM := own_cmp2 l Z a0 hw [] a b1 n nn f (fun _ => 0) h1 n0 (Nat.le_trans Z0 E1.1) hn (by omega) (Aa.ext E1) A1 ge_b1 ne_a_b1) (W := 0) (pc := 9) (Ls := #[rv a, iv 0, iv nn, rv b1, .unset, .unset]) (argsL := [(.ref a), (.int 0), (.ref b1), (.int 0), (.int nn)]) (rest := []) (st0 := [(.int nn), (.int 0), (.ref b1), (.int 0), (.ref a)]) (by rw [hml]; rfl) (lenOf own_pd3 rfl) rfl (Nat.le_of_eq rfl) (hb hby own_d5_9) (by decide) (by decide) (by decide) (by decide) ?_
  intro v2 T2 L2 X2 hQ2
  obtain ⟨rr2, ⟨jj2, rfl, hj2⟩, Nq2, K2, C2⟩ := hQ2
  have N2 := Fr.app N0 Nq2
  show own_Ends p e below s _ _ _ (own_F T2 m 12 #[rv a, iv 0, iv nn, rv b1, .unset, .unset] [(.int jj2)])
  rcases C2 with ⟨er2, hl2, Ab2⟩ | ⟨er2, hl2, g2, Ab2⟩
  ·
   rw [er2] at hj2
   refine own_g (own_F T2 m 14 #[rv a, iv 0, iv nn, rv b1, iv jj2, .unset] []) (fun _ z_ => XS.istore X2.here hx rfl (hb hby own_d5_12) rfl (l' := #[rv a, iv 0, iv nn, rv b1, iv jj2, .unset]) rfl z_) ?_
   refine own_g (own_F T2 m 16 #[rv a, iv 0, iv nn, rv b1, iv jj2, .unset] [(.int jj2)]) (fun _ z_ => XS.iload X2.here hx rfl (hb hby own_d5_14) rfl z_) ?_
   refine own_g (own_F T2 m 17 #[rv a, iv 0, iv nn, rv b1, iv jj2, .unset] [(.int nn), (.int jj2)]) (fun _ z_ => XS.iloadN X2.here hx rfl (hb hby own_d5_16) rfl z_) ?_
   refine own_g (own_F T2 m 57 #[rv a, iv 0, iv nn, rv b1, iv jj2, .unset] []) (fun _ z_ => XS.icmpYes X2.here hx rfl (pc0 := 17) (pc' := 57) rfl (hb hby own_d5_17) rfl (teq (own_jeq hj2 hn)).1 (by decide) (by decide) z_) ?_
   refine own_g (own_F T2 m 58 #[rv a, iv 0, iv nn, rv b1, iv jj2, .unset] [(.ref b1)]) (fun _ z_ => XS.aloadN X2.here hx rfl (hb hby own_d5_57) rfl rfl z_) ?_
   refine own_ret (t := (.array .byte)) X2 hx hlk hrt rfl (Or.inr (Or.inr (Or.inr (Or.inr ⟨rfl, rfl, rfl⟩)))) (hb hby own_d5_58) (by decide) (by decide) ?_
   show ∃ b : Addr, _ ∧ Fr n0 _ ∧ Keep h0 T2.heap [] ∧ _ ∧ _ ∧ ((∀ i, i < n → (f i).toInt ≤ 255) ∧ own_A Z T2.heap b .byte n (fun i => .int ((f i).toInt8.toInt32)) ∨ own_A Z T2.heap b .byte (2 * n) (fun i => .int (own_ub f i)))
   rw [(rfl : T2.heap = T2.heap)]
   exact ⟨b1, rfl, N2, (((Keep.refl _ _).ext E1).trans K2 (allS (Or.inr sz_b1) all0)), ge_b1, sz_b1, Or.inl ⟨hl2, Ab2⟩⟩
  ·
   refine own_g (own_F T2 m 14 #[rv a, iv 0, iv nn, rv b1, iv jj2, .unset] []) (fun _ z_ => XS.istore X2.here hx rfl (hb hby own_d5_12) rfl (l' := #[rv a, iv 0, iv nn, rv b1, iv jj2, .unset]) rfl z_) ?_
   refine own_g (own_F T2 m 16 #[rv a, iv 0, iv nn, rv b1, iv jj2, .unset] [(.int jj2)]) (fun _ z_ => XS.iload X2.here hx rfl (hb hby own_d5_14) rfl z_) ?_
   refine own_g (own_F T2 m 17 #[rv a, iv 0, iv nn, rv b1, iv jj2, .unset] [(.int nn), (.int jj2)]) (fun _ z_ => XS.iloadN X2.here hx rfl (hb hby own_d5_16) rfl z_) ?_
   refine own_g (own_F T2 m 20 #[rv a, iv 0, iv nn, rv b1, iv jj2, .unset] []) (fun _ z_ => XS.icmpNo X2.here hx rfl (hb hby own_d5_17) rfl (feq (own_jne hj2 hn er2)).1 z_) ?_
   refine own_g (own_F T2 m 21 #[rv a, iv 0, iv nn, rv b1, iv jj2, .unset] [(.ref a)]) (fun _ z_ => XS.aloadN X2.here hx rfl (hb hby own_d5_20) rfl rfl z_) ?_
   refine own_g (own_F T2 m 22 #[rv a, iv 0, iv nn, rv b1, iv jj2, .unset] [(.int 0), (.ref a)]) (fun _ z_ => XS.iloadN X2.here hx rfl (hb hby own_d5_21) rfl z_) ?_
   refine own_g (own_F T2 m 23 #[rv a, iv 0, iv nn, rv b1, iv jj2, .unset] [(.int nn), (.int 0), (.ref a)]) (fun _ z_ => XS.iloadN X2.here hx rfl (hb hby own_d5_22) rfl z_) ?_
   refine own_callS (y := (⟨"java/lang/StringUTF16", "toBytes", "([CII)[B"⟩ : MethodName)) X2 hx hZ hown (own_w hw 41) (own_w hw 42) (own_w hw 21) (own_w hw 43) (by decide) (rfl : T2.heap = T2.heap) (hM := own_tob l Z a0 hw [] a n nn f T2.heap n0 (Nat.le_trans (Nat.le_trans Z0 E1.1) K2.1) hn hcap ((Aa.ext E1).keep K2 (ninS ne_a_b1 nin0)) (own_sta_keep (S_ad.ext E1) K2 (allS (own_plainA A1) all0)) (own_sta_keep (S_hi.ext E1) K2 (allS (own_plainA A1) all0)) (own_sta_keep (S_lo.ext E1) K2 (allS (own_plainA A1) all0))) (W := 0) (pc := 23) (Ls := #[rv a, iv 0, iv nn, rv b1, iv jj2, .unset]) (argsL := [(.ref a), (.int 0), (.int nn)]) (rest := []) (st0 := [(.int nn), (.int 0), (.ref a)]) (by rw [hml]; rfl) (lenOf own_pd4 rfl) rfl (Nat.le_of_eq rfl) (hb hby own_d5_23) (by decide) (by decide) (by decide) (by decide) ?_
   intro v3 T3 L3 X3 hQ3
   obtain ⟨b3, rfl, Nq3, K3, ge_b3, gz3, Ab3⟩ := hQ3
   have N3 := Fr.app N2 Nq3
   show own_Ends p e below s _ _ _ (own_F T3 m 26 #[rv a, iv 0, iv nn, rv b1, iv jj2, .unset] [(.ref b3)])
   have sz_b3 : h0.size ≤ b3 := Nat.le_trans (Nat.le_trans (Nat.le_trans (Nat.le_refl h0.size) E1.1) K2.1) gz3
   refine own_g (own_F T3 m 28 #[rv a, iv 0, iv nn, rv b1, iv jj2, rv b3] []) (fun _ z_ => XS.astore X3.here hx rfl (hb hby own_d5_26) rfl rfl (l' := #[rv a, iv 0, iv nn, rv b1, iv jj2, rv b3]) rfl z_) ?_
   refine own_g (own_F T3 m 30 #[rv a, iv 0, iv nn, rv b1, iv jj2, rv b3] [(.ref b3)]) (fun _ z_ => XS.aload X3.here hx rfl (hb hby own_d5_28) rfl rfl z_) ?_
   refine own_g (own_F T3 m 32 #[rv a, iv 0, iv nn, rv b1, iv jj2, rv b3] [(.int jj2), (.ref b3)]) (fun _ z_ => XS.iload X3.here hx rfl (hb hby own_d5_30) rfl z_) ?_
   refine own_callS (y := (⟨"java/lang/StringUTF16", "getChar", "([BI)C"⟩ : MethodName)) X3 hx hZ hown (own_w hw 57) (own_w hw 58) (own_w hw 21) (own_w hw 59) (by decide) (rfl : T3.heap = T3.heap) (hM := own_getc l Z a0 hw [] b3 n rr2 jj2 f T3.heap n0 (Nat.le_trans (Nat.le_trans (Nat.le_trans Z0 E1.1) K2.1) K3.1) hj2 er2 (by omega) (hf _ er2) Ab3 (own_sta_keep (own_sta_keep (S_ad.ext E1) K2 (allS (own_plainA A1) all0)) K3 all0) (own_sta_keep (own_sta_keep (S_hi.ext E1) K2 (allS (own_plainA A1) all0)) K3 all0) (own_sta_keep (own_sta_keep (S_lo.ext E1) K2 (allS (own_plainA A1) all0)) K3 all0)) (W := 0) (pc := 32) (Ls := #[rv a, iv 0, iv nn, rv b1, iv jj2, rv b3]) (argsL := [(.ref b3), (.int jj2)]) (rest := []) (st0 := [(.int jj2), (.ref b3)]) (by rw [hml]; rfl) (lenOf own_pd5 rfl) rfl (Nat.le_of_eq rfl) (hb hby own_d5_32) (by decide) (by decide) (by decide) (by decide) ?_
   intro v4 T4 L4 X4 hQ4
   obtain ⟨rfl, Nq4, hh4⟩ := hQ4
   have N4 := Fr.app N3 Nq4
   show own_Ends p e below s _ _ _ (own_F T4 m 35 #[rv a, iv 0, iv nn, rv b1, iv jj2, rv b3] [(.int (f rr2))])
   refine own_g (own_F T4 m 38 #[rv a, iv 0, iv nn, rv b1, iv jj2, rv b3] [(.int 255), (.int (f rr2))]) (fun _ z_ => XS.sipush X4.here hx rfl (hb hby own_d5_35) z_) ?_
   refine own_g (own_F T4 m 54 #[rv a, iv 0, iv nn, rv b1, iv jj2, rv b3] []) (fun _ z_ => XS.icmpYes X4.here hx rfl (pc0 := 38) (pc' := 54) rfl (hb hby own_d5_38) rfl (tlt (own_255 hl2)).2.2.1 (by decide) (by decide) z_) ?_
   refine own_g (own_F T4 m 56 #[rv a, iv 0, iv nn, rv b1, iv jj2, rv b3] [(.ref b3)]) (fun _ z_ => XS.aload X4.here hx rfl (hb hby own_d5_54) rfl rfl z_) ?_
   refine own_ret (t := (.array .byte)) X4 hx hlk hrt rfl (Or.inr (Or.inr (Or.inr (Or.inr ⟨rfl, rfl, rfl⟩)))) (hb hby own_d5_56) (by decide) (by decide) ?_
   show ∃ b : Addr, _ ∧ Fr n0 _ ∧ Keep h0 T4.heap [] ∧ _ ∧ _ ∧ ((∀ i, i < n → (f i).toInt ≤ 255) ∧ own_A Z T4.heap b .byte n (fun i => .int ((f i).toInt8.toInt32)) ∨ own_A Z T4.heap b .byte (2 * n) (fun i => .int (own_ub f i)))
   rw [hh4]
   exact ⟨b3, rfl, N4, ((((Keep.refl _ _).ext E1).trans K2 (allS (Or.inr sz_b1) all0)).trans K3 all0), ge_b3, sz_b3, Or.inr Ab3⟩
set_option maxRecDepth 65536 in
set_option maxHeartbeats 40000000 in
theorem own_cfl (l : Launch) (Z : State) (a0 : Array Value) (hw : ∀ d ∈ tables_1, d.before a0 Z = true) (ws : List Jvm.Cond) (a : Addr) (n : Nat) (nn : Int32) (g : Nat → Int32) (h0 : Heap) (n0 : Nat) (Z0 : n0 ≤ h0.size) (hn : nn.toInt = (n : Int)) (Aa : own_A Z h0 a .byte n (fun i => .int (g i))) :
    own_Met l Z (⟨"java/lang/StringUTF16", "coderFromArrayLen", "([BI)B"⟩ : MethodName) jdk_52_method_15_code 2 (some .byte) ws ({ frames := 0, cells := 0, slots := 0, locals := 0 } : Room) #[(.ref a), (.int nn)] h0 (fun v h L => v = some (.int (0 : Int32)) ∧ Fr n0 L ∧ h = h0) := by
  refine own_body own_pn7 (fun m => mkF m 0 #[rv a, iv nn] []) (fun m => own_ef_own_cfl m a nn) ?_
  intro p e s m below meth c T0 hx hby hml hlk hrt hZ hown hnm X0 e0
  have hown : s.vm.findClass "java/lang/StringUTF16" = some m.cls := hown
  have N0 := Fr.nil n0
  refine own_g (own_F T0 m 1 #[rv a, iv nn] [(.int nn)]) (fun _ z_ => XS.iloadN X0.here hx rfl (hb hby own_d7_0) rfl z_) ?_
  refine own_g (own_F T0 m 2 #[rv a, iv nn] [(.ref a), (.int nn)]) (fun _ z_ => XS.aloadN X0.here hx rfl (hb hby own_d7_1) rfl rfl z_) ?_
  refine own_alen X0 hx hZ e0 Aa (hb hby own_d7_2) ?_
  rw [own_n32 hn]
  show own_Ends p e below s _ _ _ (own_F T0 m 3 #[rv a, iv nn] [(.int nn), (.int nn)])
  refine own_g (own_F T0 m 4 #[rv a, iv nn] [(.int (nn - nn))]) (fun _ z_ => XS.isub X0.here hx rfl (hb hby own_d7_3) rfl z_) ?_
  refine own_g (own_F T0 m 6 #[rv a, iv nn] [(.int 31), (.int (nn - nn))]) (fun _ z_ => XS.bipush X0.here hx rfl (hb hby own_d7_4) z_) ?_
  refine own_g (own_F T0 m 7 #[rv a, iv nn] [(.int (((nn - nn).toUInt32 >>> ((31 : Int32) &&& 31).toUInt32).toInt32))]) (fun _ z_ => XS.iushr X0.here hx rfl (hb hby own_d7_6) rfl z_) ?_
  refine own_g (own_F T0 m 8 #[rv a, iv nn] [(.int ((((nn - nn).toUInt32 >>> ((31 : Int32) &&& 31).toUInt32).toInt32).toInt8.toInt32))]) (fun _ z_ => XS.i2b X0.here hx rfl (hb hby own_d7_7) rfl z_) ?_
  refine own_ret (t := .byte) X0 hx hlk hrt (own_i2b _) (Or.inl ⟨rfl, by simp, _, rfl⟩) (hb hby own_d7_8) (by decide) (by decide) ?_
  exact ⟨congrArg (fun z => some (Value.int z)) (own_sub31 nn), N0, e0⟩
set_option maxRecDepth 65536 in
set_option maxHeartbeats 40000000 in
theorem own_cfu (l : Launch) (Z : State) (a0 : Array Value) (hw : ∀ d ∈ tables_1, d.before a0 Z = true) (ws : List Jvm.Cond) (a : Addr) (n : Nat) (nn : Int32) (g : Nat → Int32) (h0 : Heap) (n0 : Nat) (Z0 : n0 ≤ h0.size) (hn : nn.toInt = (n : Int)) (hp : 0 < n) (h2 : 2 * n < 2 ^ 31) (Aa : own_A Z h0 a .byte (2 * n) (fun i => .int (g i))) :
    own_Met l Z (⟨"java/lang/StringUTF16", "coderFromArrayLen", "([BI)B"⟩ : MethodName) jdk_52_method_15_code 2 (some .byte) ws ({ frames := 0, cells := 0, slots := 0, locals := 0 } : Room) #[(.ref a), (.int nn)] h0 (fun v h L => v = some (.int (1 : Int32)) ∧ Fr n0 L ∧ h = h0) := by
  refine own_body own_pn7 (fun m => mkF m 0 #[rv a, iv nn] []) (fun m => own_ef_own_cfu m a nn) ?_
  intro p e s m below meth c T0 hx hby hml hlk hrt hZ hown hnm X0 e0
  have hown : s.vm.findClass "java/lang/StringUTF16" = some m.cls := hown
  have N0 := Fr.nil n0
  refine own_g (own_F T0 m 1 #[rv a, iv nn] [(.int nn)]) (fun _ z_ => XS.iloadN X0.here hx rfl (hb hby own_d7_0) rfl z_) ?_
  refine own_g (own_F T0 m 2 #[rv a, iv nn] [(.ref a), (.int nn)]) (fun _ z_ => XS.aloadN X0.here hx rfl (hb hby own_d7_1) rfl rfl z_) ?_
  refine own_alen X0 hx hZ e0 Aa (hb hby own_d7_2) ?_
  show own_Ends p e below s _ _ _ (own_F T0 m 3 #[rv a, iv nn] [(.int (Nat.toInt32 (2 * n))), (.int nn)])
  refine own_g (own_F T0 m 4 #[rv a, iv nn] [(.int (nn - (Nat.toInt32 (2 * n))))]) (fun _ z_ => XS.isub X0.here hx rfl (hb hby own_d7_3) rfl z_) ?_
  refine own_g (own_F T0 m 6 #[rv a, iv nn] [(.int 31), (.int (nn - (Nat.toInt32 (2 * n))))]) (fun _ z_ => XS.bipush X0.here hx rfl (hb hby own_d7_4) z_) ?_
  refine own_g (own_F T0 m 7 #[rv a, iv nn] [(.int (((nn - (Nat.toInt32 (2 * n))).toUInt32 >>> ((31 : Int32) &&& 31).toUInt32).toInt32))]) (fun _ z_ => XS.iushr X0.here hx rfl (hb hby own_d7_6) rfl z_) ?_
  refine own_g (own_F T0 m 8 #[rv a, iv nn] [(.int ((((nn - (Nat.toInt32 (2 * n))).toUInt32 >>> ((31 : Int32) &&& 31).toUInt32).toInt32).toInt8.toInt32))]) (fun _ z_ => XS.i2b X0.here hx rfl (hb hby own_d7_7) rfl z_) ?_
  refine own_ret (t := .byte) X0 hx hlk hrt (own_i2b _) (Or.inl ⟨rfl, by simp, _, rfl⟩) (hb hby own_d7_8) (by decide) (by decide) ?_
  exact ⟨congrArg (fun z => some (Value.int z)) (own_neg31 hn hp (by omega)), N0, e0⟩
set_option maxRecDepth 65536 in
set_option maxHeartbeats 40000000 in
theorem own_si4 (l : Launch) (Z : State) (a0 : Array Value) (hw : ∀ d ∈ tables_1, d.before a0 Z = true) (ws : List Jvm.Cond) (x a : Addr) (n : Nat) (nn zc : Int32) (f : Nat → Int32) (h0 : Heap) (n0 : Nat) (Z0 : n0 ≤ h0.size) (hn : nn.toInt = (n : Int)) (hcap : 2 * n ≤ 22) (hp : 0 < n) (hzc : ¬ zc = (0 : Int32)) (Aa : own_A Z h0 a .char n (fun i => .int (f i))) (hf : ∀ i, i < n → 0 ≤ (f i).toInt ∧ (f i).toInt ≤ 65535) (E_x : Exa Z h0 x "java/lang/String") (F_v : Fld Z h0 x "java/lang/String" "value" "[B" .null) (F_c : Fld Z h0 x "java/lang/String" "coder" "B" (.int (0 : Int32))) (S_cs : Sta Z h0 "java/lang/String" "COMPACT_STRINGS" "Z" (.int zc)) (S_ad : Sta Z h0 "java/lang/StringUTF16" "$assertionsDisabled" "Z" (.int (1 : Int32))) (S_hi : Sta Z h0 "java/lang/StringUTF16" "HI_BYTE_SHIFT" "I" (.int (0 : Int32))) (S_lo : Sta Z h0 "java/lang/StringUTF16" "LO_BYTE_SHIFT" "I" (.int (8 : Int32))) (g_x : n0 ≤ x) (ne_xa : x ≠ a) :
    own_Met l Z (⟨"java/lang/String", "<init>", "([CIILjava/lang/Void;)V"⟩ : MethodName) jdk_42_method_149_code 6 none ws ({ frames := 4, cells := 2, slots := 44, locals := 57 } : Room) #[(.ref x), (.ref a), (.int 0), (.int nn), .null] h0 (fun v h L => v = none ∧ Fr n0 L ∧ Keep h0 h [x] ∧ own_Str Z h x n f) := by
  refine own_body own_pn8 (fun m => mkF m 0 #[rv x, rv a, iv 0, iv nn, .val .null, .unset] []) (fun m => own_ef_own_si4 m x a (0 : Int32) nn) ?_
  intro p e s m below meth c T0 hx hby hml hlk hrt hZ hown hnm X0 e0
  have hown : s.vm.findClass "java/lang/String" = some m.cls := hown
  have N0 := Fr.nil n0
  refine own_g (own_F T0 m 1 #[rv x, rv a, iv 0, iv nn, .val .null, .unset] [(.ref x)]) (fun _ z_ => XS.aloadN X0.here hx rfl (hb hby own_d3_0) rfl rfl z_) ?_
  obtain ⟨T1, X1, e1, st1⟩ := initO X0 hx hZ hown (own_w hw 15) (own_w hw 16) (own_w hw 17) e0 (g := (mkF m 1 #[rv x, rv a, iv 0, iv nn, .val .null, .unset] [(.ref x)])) rfl (by rw [hml]; rfl) rfl (hb hby own_d3_1) (by decide) (W := 0) (by show 2 * 0 + _ ≤ _; exact Nat.le_of_eq rfl) (by decide)
  refine own_pre (S' := (own_F T1 m 4 #[rv x, rv a, iv 0, iv nn, .val .null, .unset] [])) st1 ?_
  refine own_g (own_F T1 m 5 #[rv x, rv a, iv 0, iv nn, .val .null, .unset] [(.int nn)]) (fun _ z_ => XS.iloadN X1.here hx rfl (hb hby own_d3_4) rfl z_) ?_
  refine own_g (own_F T1 m 27 #[rv x, rv a, iv 0, iv nn, .val .null, .unset] []) (fun _ z_ => XS.ifYes X1.here hx rfl (pc0 := 5) (pc' := 27) rfl (hb hby own_d3_5) rfl ((if0 _ _).trans (feq (own_nz hn hp)).2) (by decide) (by decide) z_) ?_
  obtain ⟨T2, X2, e2, st2⟩ := getS2 X1 hx hZ hown (host := "") (Or.inl (own_w hw 18)) Via.refl e1 S_cs (g := (mkF m 27 #[rv x, rv a, iv 0, iv nn, .val .null, .unset] [])) rfl (hb hby own_d3_27)
  refine own_pre (S' := (own_F T2 m 30 #[rv x, rv a, iv 0, iv nn, .val .null, .unset] [(.int zc)])) st2 ?_
  refine own_g (own_F T2 m 33 #[rv x, rv a, iv 0, iv nn, .val .null, .unset] []) (fun _ z_ => XS.ifNo X2.here hx rfl (hb hby own_d3_30) rfl ((if0 _ _).trans (feq hzc).1) z_) ?_
  refine own_g (own_F T2 m 34 #[rv x, rv a, iv 0, iv nn, .val .null, .unset] [(.ref a)]) (fun _ z_ => XS.aloadN X2.here hx rfl (hb hby own_d3_33) rfl rfl z_) ?_
  refine own_g (own_F T2 m 35 #[rv x, rv a, iv 0, iv nn, .val .null, .unset] [(.int 0), (.ref a)]) (fun _ z_ => XS.iloadN X2.here hx rfl (hb hby own_d3_34) rfl z_) ?_
  refine own_g (own_F T2 m 36 #[rv x, rv a, iv 0, iv nn, .val .null, .unset] [(.int nn), (.int 0), (.ref a)]) (fun _ z_ => XS.iloadN X2.here hx rfl (hb hby own_d3_35) rfl z_) ?_
  refine own_callS (y := (⟨"java/lang/StringUTF16", "compress", "([CII)[B"⟩ : MethodName)) X2 hx hZ hown (own_w hw 19) (own_w hw 20) (own_w hw 21) (own_w hw 22) (by decide) e2 (hM := own_cmp1 l Z a0 hw [] a n nn f h0 n0 Z0 hn hcap Aa hf S_ad S_hi S_lo) (W := 0) (pc := 36) (Ls := #[rv x, rv a, iv 0, iv nn, .val .null, .unset]) (argsL := [(.ref a), (.int 0), (.int nn)]) (rest := []) (st0 := [(.int nn), (.int 0), (.ref a)]) (by rw [hml]; rfl) (lenOf own_pd4 rfl) rfl (Nat.le_of_eq rfl) (hb hby own_d3_36) (by decide) (by decide) (by decide) (by decide) ?_
  intro v3 T3 L3 X3 hQ3
  obtain ⟨t3, rfl, Nq3, K3, gt3, gz3, C3⟩ := hQ3
  have N3 := Fr.app N0 Nq3
  show own_Ends p e below s _ _ _ (own_F T3 m 39 #[rv x, rv a, iv 0, iv nn, .val .null, .unset] [(.ref t3)])
  have ne_xt3 : x ≠ t3 := Nat.ne_of_lt (Nat.lt_of_lt_of_le E_x.lt gz3)
  rcases C3 with ⟨hl3, At3⟩ | At3
  ·
   refine own_g (own_F T3 m 41 #[rv x, rv a, iv 0, iv nn, .val .null, rv t3] []) (fun _ z_ => XS.astore X3.here hx rfl (hb hby own_d3_39) rfl rfl (l' := #[rv x, rv a, iv 0, iv nn, .val .null, rv t3]) rfl z_) ?_
   refine own_g (own_F T3 m 42 #[rv x, rv a, iv 0, iv nn, .val .null, rv t3] [(.ref x)]) (fun _ z_ => XS.aloadN X3.here hx rfl (hb hby own_d3_41) rfl rfl z_) ?_
   refine own_g (own_F T3 m 44 #[rv x, rv a, iv 0, iv nn, .val .null, rv t3] [(.ref t3), (.ref x)]) (fun _ z_ => XS.aload X3.here hx rfl (hb hby own_d3_42) rfl rfl z_) ?_
   refine own_g (own_F T3 m 45 #[rv x, rv a, iv 0, iv nn, .val .null, rv t3] [(.int nn), (.ref t3), (.ref x)]) (fun _ z_ => XS.iloadN X3.here hx rfl (hb hby own_d3_44) rfl z_) ?_
   refine own_callS (y := (⟨"java/lang/StringUTF16", "coderFromArrayLen", "([BI)B"⟩ : MethodName)) X3 hx hZ hown (own_w hw 27) (own_w hw 28) (own_w hw 21) (own_w hw 29) (by decide) (rfl : T3.heap = T3.heap) (hM := own_cfl l Z a0 hw [] t3 n nn _ T3.heap n0 (Nat.le_trans Z0 K3.1) hn At3) (W := 1) (pc := 45) (Ls := #[rv x, rv a, iv 0, iv nn, .val .null, rv t3]) (argsL := [(.ref t3), (.int nn)]) (rest := [(.ref x)]) (st0 := [(.int nn), (.ref t3), (.ref x)]) (by rw [hml]; rfl) (lenOf own_pd6 rfl) rfl (Nat.le_of_eq rfl) (hb hby own_d3_45) (by decide) (by decide) (by decide) (by decide) ?_
   intro v4 T4 L4 X4 hQ4
   obtain ⟨rfl, Nq4, hh4⟩ := hQ4
   have N4 := Fr.app N3 Nq4
   show own_Ends p e below s _ _ _ (own_F T4 m 48 #[rv x, rv a, iv 0, iv nn, .val .null, rv t3] [(.int 0), (.ref x)])
   obtain ⟨T5, h5, X5, e5, W5, st5⟩ := putF X4 hx hZ hown (host := "") (Or.inl (own_w hw 30)) Via.refl hh4 (F_c.keep K3 nin0) (E_x.keep K3) (Or.inr ⟨(own_w hw 31), rfl, hnm⟩) (own_w hw 6) (ty := .byte) (by decide) rfl rfl (g := (mkF m 48 #[rv x, rv a, iv 0, iv nn, .val .null, rv t3] [(.int 0), (.ref x)])) rfl rfl (hb hby own_d3_48)
   have N5 := Fr.snoc X5 N4 g_x
   have Fw5 := (F_c.keep K3 nin0).same W5
   refine own_pre (S' := (own_F T5 m 51 #[rv x, rv a, iv 0, iv nn, .val .null, rv t3] [])) st5 ?_
   refine own_g (own_F T5 m 52 #[rv x, rv a, iv 0, iv nn, .val .null, rv t3] [(.ref x)]) (fun _ z_ => XS.aloadN X5.here hx rfl (hb hby own_d3_51) rfl rfl z_) ?_
   refine own_g (own_F T5 m 54 #[rv x, rv a, iv 0, iv nn, .val .null, rv t3] [(.ref t3), (.ref x)]) (fun _ z_ => XS.aload X5.here hx rfl (hb hby own_d3_52) rfl rfl z_) ?_
   obtain ⟨T6, h6, X6, e6, W6, st6⟩ := putF X5 hx hZ hown (host := "") (Or.inl (own_w hw 32)) Via.refl e5 ((F_v.keep K3 nin0).other W5 (Or.inr (slot_ne (C := "java/lang/String") (Or.inr (own_w hw 33)) (Or.inr (own_w hw 31)) (by decide) (t := (.array .byte)) (t' := .byte) (by decide) (by decide)))) ((E_x.keep K3).wr W5) (Or.inr ⟨(own_w hw 33), rfl, hnm⟩) (own_w hw 6) (ty := (.array .byte)) (by decide) rfl rfl (g := (mkF m 54 #[rv x, rv a, iv 0, iv nn, .val .null, rv t3] [(.ref t3), (.ref x)])) rfl rfl (hb hby own_d3_54)
   have N6 := Fr.snoc X6 N5 g_x
   have Fw6 := ((F_v.keep K3 nin0).other W5 (Or.inr (slot_ne (C := "java/lang/String") (Or.inr (own_w hw 33)) (Or.inr (own_w hw 31)) (by decide) (t := (.array .byte)) (t' := .byte) (by decide) (by decide)))).same W6
   refine own_pre (S' := (own_F T6 m 57 #[rv x, rv a, iv 0, iv nn, .val .null, rv t3] [])) st6 ?_
   refine own_retV X6 hx hlk hrt (hb hby own_d3_57) (by decide) (by decide) ?_
   show _ ∧ Fr n0 _ ∧ Keep h0 T6.heap [x] ∧ own_Str Z T6.heap x n f
   rw [e6]
   exact ⟨rfl, N6, ((((Keep.refl _ _).trans K3 all0).wr W5 (Or.inl (List.mem_of_getElem? (i := 0) rfl))).wr W6 (Or.inl (List.mem_of_getElem? (i := 0) rfl))), t3, (((E_x.keep K3).wr W5).wr W6), Fw6, hf, Or.inl ⟨(Fw5.other W6 (Or.inr (slot_ne (C := "java/lang/String") (Or.inr (own_w hw 31)) (Or.inr (own_w hw 33)) (by decide) (t := .byte) (t' := (.array .byte)) (by decide) (by decide)))), ((At3.other W5 (Ne.symm ne_xt3)).other W6 (Ne.symm ne_xt3)), fun i hi => ⟨(hf i hi).1, hl3 i hi⟩⟩⟩
  ·
   refine own_g (own_F T3 m 41 #[rv x, rv a, iv 0, iv nn, .val .null, rv t3] []) (fun _ z_ => XS.astore X3.here hx rfl (hb hby own_d3_39) rfl rfl (l' := #[rv x, rv a, iv 0, iv nn, .val .null, rv t3]) rfl z_) ?_
   refine own_g (own_F T3 m 42 #[rv x, rv a, iv 0, iv nn, .val .null, rv t3] [(.ref x)]) (fun _ z_ => XS.aloadN X3.here hx rfl (hb hby own_d3_41) rfl rfl z_) ?_
   refine own_g (own_F T3 m 44 #[rv x, rv a, iv 0, iv nn, .val .null, rv t3] [(.ref t3), (.ref x)]) (fun _ z_ => XS.aload X3.here hx rfl (hb hby own_d3_42) rfl rfl z_) ?_
   refine own_g (own_F T3 m 45 #[rv x, rv a, iv 0, iv nn, .val .null, rv t3] [(.int nn), (.ref t3), (.ref x)]) (fun _ z_ => XS.iloadN X3.here hx rfl (hb hby own_d3_44) rfl z_) ?_
   refine own_callS (y := (⟨"java/lang/StringUTF16", "coderFromArrayLen", "([BI)B"⟩ : MethodName)) X3 hx hZ hown (own_w hw 27) (own_w hw 28) (own_w hw 21) (own_w hw 29) (by decide) (rfl : T3.heap = T3.heap) (hM := own_cfu l Z a0 hw [] t3 n nn _ T3.heap n0 (Nat.le_trans Z0 K3.1) hn hp (by omega) At3) (W := 1) (pc := 45) (Ls := #[rv x, rv a, iv 0, iv nn, .val .null, rv t3]) (argsL := [(.ref t3), (.int nn)]) (rest := [(.ref x)]) (st0 := [(.int nn), (.ref t3), (.ref x)]) (by rw [hml]; rfl) (lenOf own_pd6 rfl) rfl (Nat.le_of_eq rfl) (hb hby own_d3_45) (by decide) (by decide) (by decide) (by decide) ?_
   intro v7 T7 L7 X7 hQ7
   obtain ⟨rfl, Nq7, hh7⟩ := hQ7
   have N7 := Fr.app N3 Nq7
   show own_Ends p e below s _ _ _ (own_F T7 m 48 #[rv x, rv a, iv 0, iv nn, .val .null, rv t3] [(.int 1), (.ref x)])
   obtain ⟨T8, h8, X8, e8, W8, st8⟩ := putF X7 hx hZ hown (host := "") (Or.inl (own_w hw 30)) Via.refl hh7 (F_c.keep K3 nin0) (E_x.keep K3) (Or.inr ⟨(own_w hw 31), rfl, hnm⟩) (own_w hw 6) (ty := .byte) (by decide) rfl rfl (g := (mkF m 48 #[rv x, rv a, iv 0, iv nn, .val .null, rv t3] [(.int 1), (.ref x)])) rfl rfl (hb hby own_d3_48)
   have N8 := Fr.snoc X8 N7 g_x
   have Fw8 := (F_c.keep K3 nin0).same W8
   refine own_pre (S' := (own_F T8 m 51 #[rv x, rv a, iv 0, iv nn, .val .null, rv t3] [])) st8 ?_
   refine own_g (own_F T8 m 52 #[rv x, rv a, iv 0, iv nn, .val .null, rv t3] [(.ref x)]) (fun _ z_ => XS.aloadN X8.here hx rfl (hb hby own_d3_51) rfl rfl z_) ?_
   refine own_g (own_F T8 m 54 #[rv x, rv a, iv 0, iv nn, .val .null, rv t3] [(.ref t3), (.ref x)]) (fun _ z_ => XS.aload X8.here hx rfl (hb hby own_d3_52) rfl rfl z_) ?_
   obtain ⟨T9, h9, X9, e9, W9, st9⟩ := putF X8 hx hZ hown (host := "") (Or.inl (own_w hw 32)) Via.refl e8 ((F_v.keep K3 nin0).other W8 (Or.inr (slot_ne (C := "java/lang/String") (Or.inr (own_w hw 33)) (Or.inr (own_w hw 31)) (by decide) (t := (.array .byte)) (t' := .byte) (by decide) (by decide)))) ((E_x.keep K3).wr W8) (Or.inr ⟨(own_w hw 33), rfl, hnm⟩) (own_w hw 6) (ty := (.array .byte)) (by decide) rfl rfl (g := (mkF m 54 #[rv x, rv a, iv 0, iv nn, .val .null, rv t3] [(.ref t3), (.ref x)])) rfl rfl (hb hby own_d3_54)
   have N9 := Fr.snoc X9 N8 g_x
   have Fw9 := ((F_v.keep K3 nin0).other W8 (Or.inr (slot_ne (C := "java/lang/String") (Or.inr (own_w hw 33)) (Or.inr (own_w hw 31)) (by decide) (t := (.array .byte)) (t' := .byte) (by decide) (by decide)))).same W9
   refine own_pre (S' := (own_F T9 m 57 #[rv x, rv a, iv 0, iv nn, .val .null, rv t3] [])) st9 ?_
   refine own_retV X9 hx hlk hrt (hb hby own_d3_57) (by decide) (by decide) ?_
   show _ ∧ Fr n0 _ ∧ Keep h0 T9.heap [x] ∧ own_Str Z T9.heap x n f
   rw [e9]
   exact ⟨rfl, N9, ((((Keep.refl _ _).trans K3 all0).wr W8 (Or.inl (List.mem_of_getElem? (i := 0) rfl))).wr W9 (Or.inl (List.mem_of_getElem? (i := 0) rfl))), t3, (((E_x.keep K3).wr W8).wr W9), Fw9, hf, Or.inr ⟨(Fw8.other W9 (Or.inr (slot_ne (C := "java/lang/String") (Or.inr (own_w hw 31)) (Or.inr (own_w hw 33)) (by decide) (t := .byte) (t' := (.array .byte)) (by decide) (by decide)))), ((At3.other W8 (Ne.symm ne_xt3)).other W9 (Ne.symm ne_xt3))⟩⟩
set_option maxRecDepth 65536 in
set_option maxHeartbeats 40000000 in
theorem own_si (l : Launch) (Z : State) (a0 : Array Value) (hw : ∀ d ∈ tables_1, d.before a0 Z = true) (ws : List Jvm.Cond) (x a : Addr) (n : Nat) (nn zc : Int32) (f : Nat → Int32) (h0 : Heap) (n0 : Nat) (Z0 : n0 ≤ h0.size) (hn : nn.toInt = (n : Int)) (hcap : 2 * n ≤ 22) (hp : 0 < n) (hzc : ¬ zc = (0 : Int32)) (Aa : own_A Z h0 a .char n (fun i => .int (f i))) (hf : ∀ i, i < n → 0 ≤ (f i).toInt ∧ (f i).toInt ≤ 65535) (E_x : Exa Z h0 x "java/lang/String") (F_v : Fld Z h0 x "java/lang/String" "value" "[B" .null) (F_c : Fld Z h0 x "java/lang/String" "coder" "B" (.int (0 : Int32))) (S_cs : Sta Z h0 "java/lang/String" "COMPACT_STRINGS" "Z" (.int zc)) (S_ad : Sta Z h0 "java/lang/StringUTF16" "$assertionsDisabled" "Z" (.int (1 : Int32))) (S_hi : Sta Z h0 "java/lang/StringUTF16" "HI_BYTE_SHIFT" "I" (.int (0 : Int32))) (S_lo : Sta Z h0 "java/lang/StringUTF16" "LO_BYTE_SHIFT" "I" (.int (8 : Int32))) (g_x : n0 ≤ x) (ne_xa : x ≠ a) :
    own_Met l Z (⟨"java/lang/String", "<init>", "([C)V"⟩ : MethodName) jdk_42_method_3_code 2 none ws ({ frames := 5, cells := 2, slots := 44, locals := 74 } : Room) #[(.ref x), (.ref a)] h0 (fun v h L => v = none ∧ Fr n0 L ∧ Keep h0 h [x] ∧ own_Str Z h x n f) := by
  refine own_body own_pn9 (fun m => mkF m 0 #[rv x, rv a] []) (fun m => own_ef_own_si m x a) ?_
  intro p e s m below meth c T0 hx hby hml hlk hrt hZ hown hnm X0 e0
  have hown : s.vm.findClass "java/lang/String" = some m.cls := hown
  have N0 := Fr.nil n0
  refine own_g (own_F T0 m 1 #[rv x, rv a] [(.ref x)]) (fun _ z_ => XS.aloadN X0.here hx rfl (hb hby own_d2_0) rfl rfl z_) ?_
  refine own_g (own_F T0 m 2 #[rv x, rv a] [(.ref a), (.ref x)]) (fun _ z_ => XS.aloadN X0.here hx rfl (hb hby own_d2_1) rfl rfl z_) ?_
  refine own_g (own_F T0 m 3 #[rv x, rv a] [(.int 0), (.ref a), (.ref x)]) (fun _ z_ => XS.iconst X0.here hx rfl (hb hby own_d2_2) z_) ?_
  refine own_g (own_F T0 m 4 #[rv x, rv a] [(.ref a), (.int 0), (.ref a), (.ref x)]) (fun _ z_ => XS.aloadN X0.here hx rfl (hb hby own_d2_3) rfl rfl z_) ?_
  refine own_alen X0 hx hZ e0 Aa (hb hby own_d2_4) ?_
  rw [own_n32 hn]
  show own_Ends p e below s _ _ _ (own_F T0 m 5 #[rv x, rv a] [(.int nn), (.int 0), (.ref a), (.ref x)])
  refine own_g (own_F T0 m 6 #[rv x, rv a] [.null, (.int nn), (.int 0), (.ref a), (.ref x)]) (fun _ z_ => XS.aconstNull X0.here hx rfl (hb hby own_d2_5) z_) ?_
  refine own_callI (y := (⟨"java/lang/String", "<init>", "([CIILjava/lang/Void;)V"⟩ : MethodName)) (b := x) X0 hx hZ hown rfl (own_w hw 11) (own_w hw 12) (own_w hw 14) (own_w hw 7) (by decide) e0 (hM := own_si4 l Z a0 hw [] x a n nn zc f h0 n0 Z0 hn hcap hp hzc Aa hf E_x F_v F_c S_cs S_ad S_hi S_lo g_x ne_xa) (W := 0) (pc := 6) (Ls := #[rv x, rv a]) (argsL := [(.ref a), (.int 0), (.int nn), .null]) (rest := []) (st0 := [.null, (.int nn), (.int 0), (.ref a), (.ref x)]) (by rw [hml]; rfl) (lenOf own_pd7 rfl) rfl (Nat.le_of_eq rfl) (hb hby own_d2_6) (by decide) (by decide) (by decide) (by decide) ?_
  intro v1 T1 L1 X1 hQ1
  obtain ⟨rfl, Nq1, K1, Sx1⟩ := hQ1
  have N1 := Fr.app N0 Nq1
  show own_Ends p e below s _ _ _ (own_F T1 m 9 #[rv x, rv a] [])
  refine own_retV X1 hx hlk hrt (hb hby own_d2_9) (by decide) (by decide) ?_
  exact ⟨rfl, N1, K1, Sx1⟩
set_option maxRecDepth 65536 in
set_option maxHeartbeats 40000000 in
theorem own_pci (l : Launch) (Z : State) (a0 : Array Value) (hw : ∀ d ∈ tables_1, d.before a0 Z = true) (ws : List Jvm.Cond) (j nn : Int32) (k n : Nat) (sv : Value) (hsv : sv.isRef = true) (h0 : Heap) (n0 : Nat) (Z0 : n0 ≤ h0.size) (hj : j.toInt = (k : Int)) (hn : nn.toInt = (n : Int)) (hk : k < n) :
    own_Met l Z (⟨"jdk/internal/util/Preconditions", "checkIndex", "(IILjava/util/function/BiFunction;)I"⟩ : MethodName) jdk_41_method_11_code 3 (some .int) ws ({ frames := 0, cells := 0, slots := 0, locals := 0 } : Room) #[(.int j), (.int nn), sv] h0 (fun v h L => v = some (.int j) ∧ Fr n0 L ∧ h = h0) := by
  refine own_body own_pn10 (fun m => mkF m 0 #[iv j, iv nn, .val sv] []) (fun m => own_ef_own_pci m j nn sv hsv) ?_
  intro p e s m below meth c T0 hx hby hml hlk hrt hZ hown hnm X0 e0
  have hown : s.vm.findClass "jdk/internal/util/Preconditions" = some m.cls := hown
  have N0 := Fr.nil n0
  refine own_g (own_F T0 m 1 #[iv j, iv nn, .val sv] [(.int j)]) (fun _ z_ => XS.iloadN X0.here hx rfl (hb hby own_d21_0) rfl z_) ?_
  refine own_g (own_F T0 m 4 #[iv j, iv nn, .val sv] []) (fun _ z_ => XS.ifNo X0.here hx rfl (hb hby own_d21_1) rfl ((if0 _ _).trans (flt (own_n0 hj)).1) z_) ?_
  refine own_g (own_F T0 m 5 #[iv j, iv nn, .val sv] [(.int j)]) (fun _ z_ => XS.iloadN X0.here hx rfl (hb hby own_d21_4) rfl z_) ?_
  refine own_g (own_F T0 m 6 #[iv j, iv nn, .val sv] [(.int nn), (.int j)]) (fun _ z_ => XS.iloadN X0.here hx rfl (hb hby own_d21_5) rfl z_) ?_
  refine own_g (own_F T0 m 16 #[iv j, iv nn, .val sv] []) (fun _ z_ => XS.icmpYes X0.here hx rfl (pc0 := 6) (pc' := 16) rfl (hb hby own_d21_6) rfl (tlt (own_jlt hj hn hk)).1 (by decide) (by decide) z_) ?_
  refine own_g (own_F T0 m 17 #[iv j, iv nn, .val sv] [(.int j)]) (fun _ z_ => XS.iloadN X0.here hx rfl (hb hby own_d21_16) rfl z_) ?_
  refine own_ret (t := .int) X0 hx hlk hrt rfl (Or.inl ⟨rfl, by simp, _, rfl⟩) (hb hby own_d21_17) (by decide) (by decide) ?_
  exact ⟨rfl, N0, e0⟩
set_option maxRecDepth 65536 in
set_option maxHeartbeats 40000000 in
theorem own_sci (l : Launch) (Z : State) (a0 : Array Value) (hw : ∀ d ∈ tables_1, d.before a0 Z = true) (ws : List Jvm.Cond) (j nn : Int32) (k n : Nat) (sv : Value) (hsv : sv.isRef = true) (h0 : Heap) (n0 : Nat) (Z0 : n0 ≤ h0.size) (hj : j.toInt = (k : Int)) (hn : nn.toInt = (n : Int)) (hk : k < n) (S_sf : Sta Z h0 "jdk/internal/util/Preconditions" "SIOOBE_FORMATTER" "Ljava/util/function/BiFunction;" sv) :
    own_Met l Z (⟨"java/lang/String", "checkIndex", "(II)V"⟩ : MethodName) jdk_42_method_155_code 2 none ws ({ frames := 1, cells := 0, slots := 0, locals := 14 } : Room) #[(.int j), (.int nn)] h0 (fun v h L => v = none ∧ Fr n0 L ∧ h = h0) := by
  refine own_body own_pn11 (fun m => mkF m 0 #[iv j, iv nn] []) (fun m => own_ef_own_sci m j nn) ?_
  intro p e s m below meth c T0 hx hby hml hlk hrt hZ hown hnm X0 e0
  have hown : s.vm.findClass "java/lang/String" = some m.cls := hown
  have N0 := Fr.nil n0
  refine own_g (own_F T0 m 1 #[iv j, iv nn] [(.int j)]) (fun _ z_ => XS.iloadN X0.here hx rfl (hb hby own_d20_0) rfl z_) ?_
  refine own_g (own_F T0 m 2 #[iv j, iv nn] [(.int nn), (.int j)]) (fun _ z_ => XS.iloadN X0.here hx rfl (hb hby own_d20_1) rfl z_) ?_
  obtain ⟨T1, X1, e1, st1⟩ := getS2 X0 hx hZ hown (host := "") (Or.inl (own_w hw 82)) Via.refl e0 S_sf (g := (mkF m 2 #[iv j, iv nn] [(.int nn), (.int j)])) rfl (hb hby own_d20_2)
  refine own_pre (S' := (own_F T1 m 5 #[iv j, iv nn] [sv, (.int nn), (.int j)])) st1 ?_
  refine own_callS (y := (⟨"jdk/internal/util/Preconditions", "checkIndex", "(IILjava/util/function/BiFunction;)I"⟩ : MethodName)) X1 hx hZ hown (own_w hw 84) (own_w hw 85) (own_w hw 83) (own_w hw 86) (by decide) e1 (hM := own_pci l Z a0 hw [] j nn k n sv hsv h0 n0 Z0 hj hn hk) (W := 0) (pc := 5) (Ls := #[iv j, iv nn]) (argsL := [(.int j), (.int nn), sv]) (rest := []) (st0 := [sv, (.int nn), (.int j)]) (by rw [hml]; rfl) (lenOf own_pd8 rfl) rfl (Nat.le_of_eq rfl) (hb hby own_d20_5) (by decide) (by decide) (by decide) (by decide) ?_
  intro v2 T2 L2 X2 hQ2
  obtain ⟨rfl, Nq2, hh2⟩ := hQ2
  have N2 := Fr.app N0 Nq2
  show own_Ends p e below s _ _ _ (own_F T2 m 8 #[iv j, iv nn] [(.int j)])
  refine own_g (own_F T2 m 9 #[iv j, iv nn] []) (fun _ z_ => XS.pop X2.here hx rfl (hb hby own_d20_8) rfl rfl z_) ?_
  refine own_retV X2 hx hlk hrt (hb hby own_d20_9) (by decide) (by decide) ?_
  exact ⟨rfl, N2, hh2⟩
set_option maxRecDepth 65536 in
set_option maxHeartbeats 40000000 in
theorem own_lca (l : Launch) (Z : State) (a0 : Array Value) (hw : ∀ d ∈ tables_1, d.before a0 Z = true) (ws : List Jvm.Cond) (t : Addr) (j : Int32) (k n : Nat) (f : Nat → Int32) (sv : Value) (hsv : sv.isRef = true) (h0 : Heap) (n0 : Nat) (Z0 : n0 ≤ h0.size) (hj : j.toInt = (k : Int)) (hk : k < n) (hc : 0 ≤ (f k).toInt ∧ (f k).toInt ≤ 255) (At : own_A Z h0 t .byte n (fun i => .int ((f i).toInt8.toInt32))) (S_sf : Sta Z h0 "jdk/internal/util/Preconditions" "SIOOBE_FORMATTER" "Ljava/util/function/BiFunction;" sv) :
    own_Met l Z (⟨"java/lang/StringLatin1", "charAt", "([BI)C"⟩ : MethodName) jdk_43_method_2_code 2 (some .char) ws ({ frames := 2, cells := 0, slots := 0, locals := 27 } : Room) #[(.ref t), (.int j)] h0 (fun v h L => v = some (.int (f k)) ∧ Fr n0 L ∧ h = h0) := by
  refine own_body own_pn12 (fun m => mkF m 0 #[rv t, iv j] []) (fun m => own_ef_own_lca m t j) ?_
  intro p e s m below meth c T0 hx hby hml hlk hrt hZ hown hnm X0 e0
  have hown : s.vm.findClass "java/lang/StringLatin1" = some m.cls := hown
  have N0 := Fr.nil n0
  refine own_g (own_F T0 m 1 #[rv t, iv j] [(.int j)]) (fun _ z_ => XS.iloadN X0.here hx rfl (hb hby own_d23_0) rfl z_) ?_
  refine own_g (own_F T0 m 2 #[rv t, iv j] [(.ref t), (.int j)]) (fun _ z_ => XS.aloadN X0.here hx rfl (hb hby own_d23_1) rfl rfl z_) ?_
  refine own_alen X0 hx hZ e0 At (hb hby own_d23_2) ?_
  show own_Ends p e below s _ _ _ (own_F T0 m 3 #[rv t, iv j] [(.int (Nat.toInt32 n)), (.int j)])
  refine own_callS (y := (⟨"java/lang/String", "checkIndex", "(II)V"⟩ : MethodName)) X0 hx hZ hown (own_w hw 94) (own_w hw 80) (own_w hw 7) (own_w hw 81) (by decide) e0 (hM := own_sci l Z a0 hw [] j (Nat.toInt32 n) k n sv hsv h0 n0 Z0 hj (len_toInt At.1) hk S_sf) (W := 0) (pc := 3) (Ls := #[rv t, iv j]) (argsL := [(.int j), (.int (Nat.toInt32 n))]) (rest := []) (st0 := [(.int (Nat.toInt32 n)), (.int j)]) (by rw [hml]; rfl) (lenOf own_pd9 rfl) rfl (Nat.le_of_eq rfl) (hb hby own_d23_3) (by decide) (by decide) (by decide) (by decide) ?_
  intro v1 T1 L1 X1 hQ1
  obtain ⟨rfl, Nq1, hh1⟩ := hQ1
  have N1 := Fr.app N0 Nq1
  show own_Ends p e below s _ _ _ (own_F T1 m 6 #[rv t, iv j] [])
  refine own_g (own_F T1 m 7 #[rv t, iv j] [(.ref t)]) (fun _ z_ => XS.aloadN X1.here hx rfl (hb hby own_d23_6) rfl rfl z_) ?_
  refine own_g (own_F T1 m 8 #[rv t, iv j] [(.int j), (.ref t)]) (fun _ z_ => XS.iloadN X1.here hx rfl (hb hby own_d23_7) rfl z_) ?_
  refine own_bald X1 hx hZ hh1 At k hj hk (hb hby own_d23_8) ?_
  show own_Ends p e below s _ _ _ (own_F T1 m 9 #[rv t, iv j] [(.int ((f k).toInt8.toInt32))])
  refine own_g (own_F T1 m 12 #[rv t, iv j] [(.int 255), (.int ((f k).toInt8.toInt32))]) (fun _ z_ => XS.sipush X1.here hx rfl (hb hby own_d23_9) z_) ?_
  refine own_g (own_F T1 m 13 #[rv t, iv j] [(.int (((f k).toInt8.toInt32) &&& (255 : Int32)))]) (fun _ z_ => XS.iand X1.here hx rfl (hb hby own_d23_12) rfl z_) ?_
  refine own_g (own_F T1 m 14 #[rv t, iv j] [(.int ((((f k).toInt8.toInt32) &&& (255 : Int32)).toUInt32.toUInt16.toUInt32.toInt32))]) (fun _ z_ => XS.i2c X1.here hx rfl (hb hby own_d23_13) rfl z_) ?_
  refine own_ret (t := .char) X1 hx hlk hrt (own_narI _) (Or.inl ⟨rfl, by simp, _, rfl⟩) (hb hby own_d23_14) (by decide) (by decide) ?_
  exact ⟨congrArg (fun z => some (Value.int z)) (own_lat hc), N1, hh1⟩
set_option maxRecDepth 65536 in
set_option maxHeartbeats 40000000 in
theorem own_ulen (l : Launch) (Z : State) (a0 : Array Value) (hw : ∀ d ∈ tables_1, d.before a0 Z = true) (ws : List Jvm.Cond) (t : Addr) (n : Nat) (f : Nat → Int32) (h0 : Heap) (n0 : Nat) (Z0 : n0 ≤ h0.size) (At : own_A Z h0 t .byte (2 * n) (fun i => .int (own_ub f i))) :
    own_Met l Z (⟨"java/lang/StringUTF16", "length", "([B)I"⟩ : MethodName) jdk_52_method_6_code 1 (some .int) ws ({ frames := 0, cells := 0, slots := 0, locals := 0 } : Room) #[(.ref t)] h0 (fun v h L => v = some (.int n.toInt32) ∧ Fr n0 L ∧ h = h0) := by
  refine own_body own_pn13 (fun m => mkF m 0 #[rv t] []) (fun m => own_ef_own_ulen m t) ?_
  intro p e s m below meth c T0 hx hby hml hlk hrt hZ hown hnm X0 e0
  have hown : s.vm.findClass "java/lang/StringUTF16" = some m.cls := hown
  have N0 := Fr.nil n0
  refine own_g (own_F T0 m 1 #[rv t] [(.ref t)]) (fun _ z_ => XS.aloadN X0.here hx rfl (hb hby own_d19_0) rfl rfl z_) ?_
  refine own_alen X0 hx hZ e0 At (hb hby own_d19_1) ?_
  show own_Ends p e below s _ _ _ (own_F T0 m 2 #[rv t] [(.int (Nat.toInt32 (2 * n)))])
  refine own_g (own_F T0 m 3 #[rv t] [(.int 1), (.int (Nat.toInt32 (2 * n)))]) (fun _ z_ => XS.iconst X0.here hx rfl (hb hby own_d19_2) z_) ?_
  refine own_g (own_F T0 m 4 #[rv t] [(.int ((Nat.toInt32 (2 * n)) >>> ((1 : Int32) &&& 31)))]) (fun _ z_ => XS.ishr X0.here hx rfl (hb hby own_d19_3) rfl z_) ?_
  refine own_ret (t := .int) X0 hx hlk hrt rfl (Or.inl ⟨rfl, by simp, _, rfl⟩) (hb hby own_d19_4) (by decide) (by decide) ?_
  exact ⟨congrArg (fun z => some (Value.int z)) (own_half (len_toInt (by have := At.1; omega)) At.1), N0, e0⟩
set_option maxRecDepth 65536 in
set_option maxHeartbeats 40000000 in
theorem own_uci (l : Launch) (Z : State) (a0 : Array Value) (hw : ∀ d ∈ tables_1, d.before a0 Z = true) (ws : List Jvm.Cond) (t : Addr) (j : Int32) (k n : Nat) (f : Nat → Int32) (sv : Value) (hsv : sv.isRef = true) (h0 : Heap) (n0 : Nat) (Z0 : n0 ≤ h0.size) (hj : j.toInt = (k : Int)) (hk : k < n) (At : own_A Z h0 t .byte (2 * n) (fun i => .int (own_ub f i))) (S_sf : Sta Z h0 "jdk/internal/util/Preconditions" "SIOOBE_FORMATTER" "Ljava/util/function/BiFunction;" sv) :
    own_Met l Z (⟨"java/lang/StringUTF16", "checkIndex", "(I[B)V"⟩ : MethodName) jdk_52_method_91_code 2 none ws ({ frames := 2, cells := 0, slots := 0, locals := 27 } : Room) #[(.int j), (.ref t)] h0 (fun v h L => v = none ∧ Fr n0 L ∧ h = h0) := by
  refine own_body own_pn14 (fun m => mkF m 0 #[iv j, rv t] []) (fun m => own_ef_own_uci m j t) ?_
  intro p e s m below meth c T0 hx hby hml hlk hrt hZ hown hnm X0 e0
  have hown : s.vm.findClass "java/lang/StringUTF16" = some m.cls := hown
  have N0 := Fr.nil n0
  refine own_g (own_F T0 m 1 #[iv j, rv t] [(.int j)]) (fun _ z_ => XS.iloadN X0.here hx rfl (hb hby own_d18_0) rfl z_) ?_
  refine own_g (own_F T0 m 2 #[iv j, rv t] [(.ref t), (.int j)]) (fun _ z_ => XS.aloadN X0.here hx rfl (hb hby own_d18_1) rfl rfl z_) ?_
  refine own_callS (y := (⟨"java/lang/StringUTF16", "length", "([B)I"⟩ : MethodName)) X0 hx hZ hown (own_w hw 76) (own_w hw 77) (own_w hw 21) (own_w hw 78) (by decide) e0 (hM := own_ulen l Z a0 hw [] t n f h0 n0 Z0 At) (W := 1) (pc := 2) (Ls := #[iv j, rv t]) (argsL := [(.ref t)]) (rest := [(.int j)]) (st0 := [(.ref t), (.int j)]) (by rw [hml]; rfl) (lenOf own_pd10 rfl) rfl (Nat.le_of_eq rfl) (hb hby own_d18_2) (by decide) (by decide) (by decide) (by decide) ?_
  intro v1 T1 L1 X1 hQ1
  obtain ⟨rfl, Nq1, hh1⟩ := hQ1
  have N1 := Fr.app N0 Nq1
  show own_Ends p e below s _ _ _ (own_F T1 m 5 #[iv j, rv t] [(.int (Nat.toInt32 n)), (.int j)])
  refine own_callS (y := (⟨"java/lang/String", "checkIndex", "(II)V"⟩ : MethodName)) X1 hx hZ hown (own_w hw 79) (own_w hw 80) (own_w hw 7) (own_w hw 81) (by decide) hh1 (hM := own_sci l Z a0 hw [] j (Nat.toInt32 n) k n sv hsv h0 n0 Z0 hj (len_toInt (by have := At.1; omega)) hk S_sf) (W := 0) (pc := 5) (Ls := #[iv j, rv t]) (argsL := [(.int j), (.int (Nat.toInt32 n))]) (rest := []) (st0 := [(.int (Nat.toInt32 n)), (.int j)]) (by rw [hml]; rfl) (lenOf own_pd9 rfl) rfl (Nat.le_of_eq rfl) (hb hby own_d18_5) (by decide) (by decide) (by decide) (by decide) ?_
  intro v2 T2 L2 X2 hQ2
  obtain ⟨rfl, Nq2, hh2⟩ := hQ2
  have N2 := Fr.app N1 Nq2
  show own_Ends p e below s _ _ _ (own_F T2 m 8 #[iv j, rv t] [])
  refine own_retV X2 hx hlk hrt (hb hby own_d18_8) (by decide) (by decide) ?_
  exact ⟨rfl, N2, hh2⟩
set_option maxRecDepth 65536 in
set_option maxHeartbeats 40000000 in
theorem own_uca (l : Launch) (Z : State) (a0 : Array Value) (hw : ∀ d ∈ tables_1, d.before a0 Z = true) (ws : List Jvm.Cond) (t : Addr) (j : Int32) (k n : Nat) (f : Nat → Int32) (sv : Value) (hsv : sv.isRef = true) (h0 : Heap) (n0 : Nat) (Z0 : n0 ≤ h0.size) (hj : j.toInt = (k : Int)) (hk : k < n) (hc : 0 ≤ (f k).toInt ∧ (f k).toInt ≤ 65535) (At : own_A Z h0 t .byte (2 * n) (fun i => .int (own_ub f i))) (S_sf : Sta Z h0 "jdk/internal/util/Preconditions" "SIOOBE_FORMATTER" "Ljava/util/function/BiFunction;" sv) (S_ad : Sta Z h0 "java/lang/StringUTF16" "$assertionsDisabled" "Z" (.int (1 : Int32))) (S_hi : Sta Z h0 "java/lang/StringUTF16" "HI_BYTE_SHIFT" "I" (.int (0 : Int32))) (S_lo : Sta Z h0 "java/lang/StringUTF16" "LO_BYTE_SHIFT" "I" (.int (8 : Int32))) :
    own_Met l Z (⟨"java/lang/StringUTF16", "charAt", "([BI)C"⟩ : MethodName) jdk_52_method_83_code 2 (some .char) ws ({ frames := 3, cells := 0, slots := 0, locals := 40 } : Room) #[(.ref t), (.int j)] h0 (fun v h L => v = some (.int (f k)) ∧ Fr n0 L ∧ h = h0) := by
  refine own_body own_pn15 (fun m => mkF m 0 #[rv t, iv j] []) (fun m => own_ef_own_uca m t j) ?_
  intro p e s m below meth c T0 hx hby hml hlk hrt hZ hown hnm X0 e0
  have hown : s.vm.findClass "java/lang/StringUTF16" = some m.cls := hown
  have N0 := Fr.nil n0
  refine own_g (own_F T0 m 1 #[rv t, iv j] [(.int j)]) (fun _ z_ => XS.iloadN X0.here hx rfl (hb hby own_d17_0) rfl z_) ?_
  refine own_g (own_F T0 m 2 #[rv t, iv j] [(.ref t), (.int j)]) (fun _ z_ => XS.aloadN X0.here hx rfl (hb hby own_d17_1) rfl rfl z_) ?_
  refine own_callS (y := (⟨"java/lang/StringUTF16", "checkIndex", "(I[B)V"⟩ : MethodName)) X0 hx hZ hown (own_w hw 73) (own_w hw 74) (own_w hw 21) (own_w hw 75) (by decide) e0 (hM := own_uci l Z a0 hw [] t j k n f sv hsv h0 n0 Z0 hj hk At S_sf) (W := 0) (pc := 2) (Ls := #[rv t, iv j]) (argsL := [(.int j), (.ref t)]) (rest := []) (st0 := [(.ref t), (.int j)]) (by rw [hml]; rfl) (lenOf own_pd11 rfl) rfl (Nat.le_of_eq rfl) (hb hby own_d17_2) (by decide) (by decide) (by decide) (by decide) ?_
  intro v1 T1 L1 X1 hQ1
  obtain ⟨rfl, Nq1, hh1⟩ := hQ1
  have N1 := Fr.app N0 Nq1
  show own_Ends p e below s _ _ _ (own_F T1 m 5 #[rv t, iv j] [])
  refine own_g (own_F T1 m 6 #[rv t, iv j] [(.ref t)]) (fun _ z_ => XS.aloadN X1.here hx rfl (hb hby own_d17_5) rfl rfl z_) ?_
  refine own_g (own_F T1 m 7 #[rv t, iv j] [(.int j), (.ref t)]) (fun _ z_ => XS.iloadN X1.here hx rfl (hb hby own_d17_6) rfl z_) ?_
  refine own_callS (y := (⟨"java/lang/StringUTF16", "getChar", "([BI)C"⟩ : MethodName)) X1 hx hZ hown (own_w hw 57) (own_w hw 58) (own_w hw 21) (own_w hw 59) (by decide) hh1 (hM := own_getc l Z a0 hw [] t n k j f h0 n0 Z0 hj hk At.1 hc At S_ad S_hi S_lo) (W := 0) (pc := 7) (Ls := #[rv t, iv j]) (argsL := [(.ref t), (.int j)]) (rest := []) (st0 := [(.int j), (.ref t)]) (by rw [hml]; rfl) (lenOf own_pd5 rfl) rfl (Nat.le_of_eq rfl) (hb hby own_d17_7) (by decide) (by decide) (by decide) (by decide) ?_
  intro v2 T2 L2 X2 hQ2
  obtain ⟨rfl, Nq2, hh2⟩ := hQ2
  have N2 := Fr.app N1 Nq2
  show own_Ends p e below s _ _ _ (own_F T2 m 10 #[rv t, iv j] [(.int (f k))])
  refine own_ret (t := .char) X2 hx hlk hrt (own_narR hc) (Or.inl ⟨rfl, by simp, _, rfl⟩) (hb hby own_d17_10) (by decide) (by decide) ?_
  exact ⟨rfl, N2, hh2⟩
set_option maxRecDepth 65536 in
set_option maxHeartbeats 40000000 in
theorem own_isl (l : Launch) (Z : State) (a0 : Array Value) (hw : ∀ d ∈ tables_1, d.before a0 Z = true) (ws : List Jvm.Cond) (x : Addr) (cd zc r : Int32) (h0 : Heap) (n0 : Nat) (Z0 : n0 ≤ h0.size) (hr : (if cd = (0 : Int32) then (1 : Int32) else 0) = r) (hzc : ¬ zc = (0 : Int32)) (F_c : Fld Z h0 x "java/lang/String" "coder" "B" (.int cd)) (S_cs : Sta Z h0 "java/lang/String" "COMPACT_STRINGS" "Z" (.int zc)) :
    own_Met l Z (⟨"java/lang/String", "isLatin1", "()Z"⟩ : MethodName) jdk_42_method_154_code 1 (some .boolean) ws ({ frames := 0, cells := 0, slots := 0, locals := 0 } : Room) #[(.ref x)] h0 (fun v h L => v = some (.int r) ∧ Fr n0 L ∧ h = h0) := by
  refine own_body own_pn16 (fun m => mkF m 0 #[rv x] []) (fun m => own_ef_own_isl m x) ?_
  intro p e s m below meth c T0 hx hby hml hlk hrt hZ hown hnm X0 e0
  have hown : s.vm.findClass "java/lang/String" = some m.cls := hown
  have N0 := Fr.nil n0
  obtain ⟨T1, X1, e1, st1⟩ := getS2 X0 hx hZ hown (host := "") (Or.inl (own_w hw 18)) Via.refl e0 S_cs (g := (mkF m 0 #[rv x] [])) rfl (hb hby own_d16_0)
  refine own_pre (S' := (own_F T1 m 3 #[rv x] [(.int zc)])) st1 ?_
  refine own_g (own_F T1 m 6 #[rv x] []) (fun _ z_ => XS.ifNo X1.here hx rfl (hb hby own_d16_3) rfl ((if0 _ _).trans (feq hzc).1) z_) ?_
  refine own_g (own_F T1 m 7 #[rv x] [(.ref x)]) (fun _ z_ => XS.aloadN X1.here hx rfl (hb hby own_d16_6) rfl rfl z_) ?_
  obtain ⟨T2, X2, e2, st2⟩ := getF X1 hx hZ hown (host := "") (Or.inl (own_w hw 30)) Via.refl e1 F_c (g := (mkF m 7 #[rv x] [(.ref x)])) rfl rfl (hb hby own_d16_7)
  refine own_pre (S' := (own_F T2 m 10 #[rv x] [(.int cd)])) st2 ?_
  by_cases c10 : cd = (0 : Int32)
  · -- pc 10: cd = (0 : Int32)
   refine own_g (own_F T2 m 13 #[rv x] []) (fun _ z_ => XS.ifNo X2.here hx rfl (hb hby own_d16_10) rfl ((if0 _ _).trans (teq c10).2) z_) ?_
   refine own_g (own_F T2 m 14 #[rv x] [(.int 1)]) (fun _ z_ => XS.iconst X2.here hx rfl (hb hby own_d16_13) z_) ?_
   refine own_g (own_F T2 m 18 #[rv x] [(.int 1)]) (fun _ z_ => XS.goto X2.here hx rfl (pc0 := 14) (pc' := 18) rfl (hb hby own_d16_14) (by decide) (by decide) z_) ?_
   refine own_ret (t := .boolean) X2 hx hlk hrt rfl (Or.inl ⟨rfl, by simp, _, rfl⟩) (hb hby own_d16_18) (by decide) (by decide) ?_
   exact ⟨by rw [← hr]; simp [c10], N0, e2⟩
  · -- pc 10: not cd = (0 : Int32)
   refine own_g (own_F T2 m 17 #[rv x] []) (fun _ z_ => XS.ifYes X2.here hx rfl (pc0 := 10) (pc' := 17) rfl (hb hby own_d16_10) rfl ((if0 _ _).trans (feq c10).2) (by decide) (by decide) z_) ?_
   refine own_g (own_F T2 m 18 #[rv x] [(.int 0)]) (fun _ z_ => XS.iconst X2.here hx rfl (hb hby own_d16_17) z_) ?_
   refine own_ret (t := .boolean) X2 hx hlk hrt rfl (Or.inl ⟨rfl, by simp, _, rfl⟩) (hb hby own_d16_18) (by decide) (by decide) ?_
   exact ⟨by rw [← hr]; simp [c10], N0, e2⟩
set_option maxRecDepth 65536 in
set_option maxHeartbeats 40000000 in
theorem own_charAt (l : Launch) (Z : State) (a0 : Array Value) (hw : ∀ d ∈ tables_1, d.before a0 Z = true) (ws : List Jvm.Cond) (x : Addr) (j zc : Int32) (k n : Nat) (f : Nat → Int32) (sv : Value) (hsv : sv.isRef = true) (h0 : Heap) (n0 : Nat) (Z0 : n0 ≤ h0.size) (hj : j.toInt = (k : Int)) (hk : k < n) (hzc : ¬ zc = (0 : Int32)) (hS : own_Str Z h0 x n f) (S_cs : Sta Z h0 "java/lang/String" "COMPACT_STRINGS" "Z" (.int zc)) (S_sf : Sta Z h0 "jdk/internal/util/Preconditions" "SIOOBE_FORMATTER" "Ljava/util/function/BiFunction;" sv) (S_ad : Sta Z h0 "java/lang/StringUTF16" "$assertionsDisabled" "Z" (.int (1 : Int32))) (S_hi : Sta Z h0 "java/lang/StringUTF16" "HI_BYTE_SHIFT" "I" (.int (0 : Int32))) (S_lo : Sta Z h0 "java/lang/StringUTF16" "LO_BYTE_SHIFT" "I" (.int (8 : Int32))) :
    own_Met l Z (⟨"java/lang/String", "charAt", "(I)C"⟩ : MethodName) jdk_42_method_56_code 2 (some .char) ws ({ frames := 4, cells := 0, slots := 0, locals := 53 } : Room) #[(.ref x), (.int j)] h0 (fun v h L => v = some (.int (f k)) ∧ Fr n0 L ∧ h = h0) := by
  refine own_body own_pn17 (fun m => mkF m 0 #[rv x, iv j] []) (fun m => own_ef_own_charAt m x j) ?_
  intro p e s m below meth c T0 hx hby hml hlk hrt hZ hown hnm X0 e0
  have hown : s.vm.findClass "java/lang/String" = some m.cls := hown
  have N0 := Fr.nil n0
  obtain ⟨t, E_x, F_v, hf, CC⟩ := hS
  rcases CC with ⟨F_c, At, hl⟩ | ⟨F_c, At⟩
  ·
   refine own_g (own_F T0 m 1 #[rv x, iv j] [(.ref x)]) (fun _ z_ => XS.aloadN X0.here hx rfl (hb hby own_d15_0) rfl rfl z_) ?_
   refine own_callV (C := "java/lang/String") (y := (⟨"java/lang/String", "isLatin1", "()Z"⟩ : MethodName)) (b := x) X0 hx hZ hown (own_w hw 65) (own_w hw 66) (own_w hw 68) (own_w hw 67) (own_w hw 69) (own_w hw 7) (by decide) e0 E_x (hM := own_isl l Z a0 hw [] x (0 : Int32) zc (1 : Int32) h0 n0 Z0 (by decide) hzc F_c S_cs) (W := 0) (pc := 1) (Ls := #[rv x, iv j]) (argsL := []) (rest := []) (st0 := [(.ref x)]) (by rw [hml]; rfl) (lenOf own_pd12 rfl) rfl (Nat.le_of_eq rfl) (hb hby own_d15_1) (by decide) (by decide) (by decide) (by decide) ?_
   intro v1 T1 L1 X1 hQ1
   obtain ⟨rfl, Nq1, hh1⟩ := hQ1
   have N1 := Fr.app N0 Nq1
   show own_Ends p e below s _ _ _ (own_F T1 m 4 #[rv x, iv j] [(.int 1)])
   refine own_g (own_F T1 m 7 #[rv x, iv j] []) (fun _ z_ => XS.ifNo X1.here hx rfl (hb hby own_d15_4) rfl ((if0 _ _).trans (feq (by decide : ¬ ((1 : Int32) = (0 : Int32)))).1) z_) ?_
   refine own_g (own_F T1 m 8 #[rv x, iv j] [(.ref x)]) (fun _ z_ => XS.aloadN X1.here hx rfl (hb hby own_d15_7) rfl rfl z_) ?_
   obtain ⟨T2, X2, e2, st2⟩ := getF X1 hx hZ hown (host := "") (Or.inl (own_w hw 32)) Via.refl hh1 F_v (g := (mkF m 8 #[rv x, iv j] [(.ref x)])) rfl rfl (hb hby own_d15_8)
   refine own_pre (S' := (own_F T2 m 11 #[rv x, iv j] [(.ref t)])) st2 ?_
   refine own_g (own_F T2 m 12 #[rv x, iv j] [(.int j), (.ref t)]) (fun _ z_ => XS.iloadN X2.here hx rfl (hb hby own_d15_11) rfl z_) ?_
   refine own_callS (y := (⟨"java/lang/StringLatin1", "charAt", "([BI)C"⟩ : MethodName)) X2 hx hZ hown (own_w hw 90) (own_w hw 91) (own_w hw 92) (own_w hw 93) (by decide) e2 (hM := own_lca l Z a0 hw [] t j k n f sv hsv h0 n0 Z0 hj hk (hl k hk) At S_sf) (W := 0) (pc := 12) (Ls := #[rv x, iv j]) (argsL := [(.ref t), (.int j)]) (rest := []) (st0 := [(.int j), (.ref t)]) (by rw [hml]; rfl) (lenOf own_pd5 rfl) rfl (Nat.le_of_eq rfl) (hb hby own_d15_12) (by decide) (by decide) (by decide) (by decide) ?_
   intro v3 T3 L3 X3 hQ3
   obtain ⟨rfl, Nq3, hh3⟩ := hQ3
   have N3 := Fr.app N1 Nq3
   show own_Ends p e below s _ _ _ (own_F T3 m 15 #[rv x, iv j] [(.int (f k))])
   refine own_ret (t := .char) X3 hx hlk hrt (own_narR (hf k hk)) (Or.inl ⟨rfl, by simp, _, rfl⟩) (hb hby own_d15_15) (by decide) (by decide) ?_
   exact ⟨rfl, N3, hh3⟩
  ·
   refine own_g (own_F T0 m 1 #[rv x, iv j] [(.ref x)]) (fun _ z_ => XS.aloadN X0.here hx rfl (hb hby own_d15_0) rfl rfl z_) ?_
   refine own_callV (C := "java/lang/String") (y := (⟨"java/lang/String", "isLatin1", "()Z"⟩ : MethodName)) (b := x) X0 hx hZ hown (own_w hw 65) (own_w hw 66) (own_w hw 68) (own_w hw 67) (own_w hw 69) (own_w hw 7) (by decide) e0 E_x (hM := own_isl l Z a0 hw [] x (1 : Int32) zc (0 : Int32) h0 n0 Z0 (by decide) hzc F_c S_cs) (W := 0) (pc := 1) (Ls := #[rv x, iv j]) (argsL := []) (rest := []) (st0 := [(.ref x)]) (by rw [hml]; rfl) (lenOf own_pd12 rfl) rfl (Nat.le_of_eq rfl) (hb hby own_d15_1) (by decide) (by decide) (by decide) (by decide) ?_
   intro v4 T4 L4 X4 hQ4
   obtain ⟨rfl, Nq4, hh4⟩ := hQ4
   have N4 := Fr.app N0 Nq4
   show own_Ends p e below s _ _ _ (own_F T4 m 4 #[rv x, iv j] [(.int 0)])
   refine own_g (own_F T4 m 16 #[rv x, iv j] []) (fun _ z_ => XS.ifYes X4.here hx rfl (pc0 := 4) (pc' := 16) rfl (hb hby own_d15_4) rfl ((if0 _ _).trans (teq (by decide : ((0 : Int32) = (0 : Int32)))).1) (by decide) (by decide) z_) ?_
   refine own_g (own_F T4 m 17 #[rv x, iv j] [(.ref x)]) (fun _ z_ => XS.aloadN X4.here hx rfl (hb hby own_d15_16) rfl rfl z_) ?_
   obtain ⟨T5, X5, e5, st5⟩ := getF X4 hx hZ hown (host := "") (Or.inl (own_w hw 32)) Via.refl hh4 F_v (g := (mkF m 17 #[rv x, iv j] [(.ref x)])) rfl rfl (hb hby own_d15_17)
   refine own_pre (S' := (own_F T5 m 20 #[rv x, iv j] [(.ref t)])) st5 ?_
   refine own_g (own_F T5 m 21 #[rv x, iv j] [(.int j), (.ref t)]) (fun _ z_ => XS.iloadN X5.here hx rfl (hb hby own_d15_20) rfl z_) ?_
   refine own_callS (y := (⟨"java/lang/StringUTF16", "charAt", "([BI)C"⟩ : MethodName)) X5 hx hZ hown (own_w hw 70) (own_w hw 71) (own_w hw 21) (own_w hw 72) (by decide) e5 (hM := own_uca l Z a0 hw [] t j k n f sv hsv h0 n0 Z0 hj hk (hf k hk) At S_sf S_ad S_hi S_lo) (W := 0) (pc := 21) (Ls := #[rv x, iv j]) (argsL := [(.ref t), (.int j)]) (rest := []) (st0 := [(.int j), (.ref t)]) (by rw [hml]; rfl) (lenOf own_pd5 rfl) rfl (Nat.le_of_eq rfl) (hb hby own_d15_21) (by decide) (by decide) (by decide) (by decide) ?_
   intro v6 T6 L6 X6 hQ6
   obtain ⟨rfl, Nq6, hh6⟩ := hQ6
   have N6 := Fr.app N4 Nq6
   show own_Ends p e below s _ _ _ (own_F T6 m 24 #[rv x, iv j] [(.int (f k))])
   refine own_ret (t := .char) X6 hx hlk hrt (own_narR (hf k hk)) (Or.inl ⟨rfl, by simp, _, rfl⟩) (hb hby own_d15_24) (by decide) (by decide) ?_
   exact ⟨rfl, N6, hh6⟩
set_option maxRecDepth 65536 in
set_option maxHeartbeats 40000000 in
theorem own_symc (l : Launch) (Z : State) (a0 : Array Value) (hw : ∀ d ∈ tables_1, d.before a0 Z = true) (ws : List Jvm.Cond) (x : Int32) (h0 : Heap) (n0 : Nat) (Z0 : n0 ≤ h0.size) (hx1 : 0 ≤ x.toInt ∧ x.toInt ≤ 63) :
    own_Met l Z (⟨"com/example/claimgate/claimgate/jose/Base64UrlDecodePinLaw", "sym", "(I)C"⟩ : MethodName) method_2_code 1 (some .char) ws ({ frames := 0, cells := 0, slots := 0, locals := 0 } : Room) #[(.int x)] h0 (fun v h L => ∃ c : Int32, v = some (.int c) ∧ own_sym c x ∧ Fr n0 L ∧ h = h0) := by
  refine own_body own_pn18 (fun m => mkF m 0 #[iv x] []) (fun m => own_ef_own_symc m x) ?_
  intro p e s m below meth c T0 hx hby hml hlk hrt hZ hown hnm X0 e0
  have hown : s.vm.findClass "com/example/claimgate/claimgate/jose/Base64UrlDecodePinLaw" = some m.cls := hown
  have N0 := Fr.nil n0
  refine own_g (own_F T0 m 1 #[iv x] [(.int x)]) (fun _ z_ => XS.iloadN X0.here hx rfl (hb hby own_d1_0) rfl z_) ?_
  refine own_g (own_F T0 m 3 #[iv x] [(.int 26), (.int x)]) (fun _ z_ => XS.bipush X0.here hx rfl (hb hby own_d1_1) z_) ?_
  by_cases c3 : x < (26 : Int32)
  · -- pc 3: x < (26 : Int32)
   refine own_g (own_F T0 m 6 #[iv x] []) (fun _ z_ => XS.icmpNo X0.here hx rfl (hb hby own_d1_3) rfl (tlt c3).2.1 z_) ?_
   refine own_g (own_F T0 m 8 #[iv x] [(.int 65)]) (fun _ z_ => XS.bipush X0.here hx rfl (hb hby own_d1_6) z_) ?_
   refine own_g (own_F T0 m 9 #[iv x] [(.int x), (.int 65)]) (fun _ z_ => XS.iloadN X0.here hx rfl (hb hby own_d1_8) rfl z_) ?_
   refine own_g (own_F T0 m 10 #[iv x] [(.int ((65 : Int32) + x))]) (fun _ z_ => XS.iadd X0.here hx rfl (hb hby own_d1_9) rfl z_) ?_
   refine own_g (own_F T0 m 11 #[iv x] [(.int (((65 : Int32) + x).toUInt32.toUInt16.toUInt32.toInt32))]) (fun _ z_ => XS.i2c X0.here hx rfl (hb hby own_d1_10) rfl z_) ?_
   refine own_ret (t := .char) X0 hx hlk hrt (own_narI _) (Or.inl ⟨rfl, by simp, _, rfl⟩) (hb hby own_d1_11) (by decide) (by decide) ?_
   refine ⟨_, rfl, ?_, N0, e0⟩
   simp only [Int32.lt_iff_toInt_lt, ← Int32.toInt_inj, Int32.reduceToInt] at c3
   have h2 := c_iadd (65 : Int32) x
   have h3 := c_i2c ((65 : Int32) + x)
   have h5 := rng32 ((65 : Int32) + x)
   simp only [Int32.reduceToInt] at *
   unfold own_sym
   omega
  · -- pc 3: not x < (26 : Int32)
   refine own_g (own_F T0 m 12 #[iv x] []) (fun _ z_ => XS.icmpYes X0.here hx rfl (pc0 := 3) (pc' := 12) rfl (hb hby own_d1_3) rfl (flt c3).2.1 (by decide) (by decide) z_) ?_
   refine own_g (own_F T0 m 13 #[iv x] [(.int x)]) (fun _ z_ => XS.iloadN X0.here hx rfl (hb hby own_d1_12) rfl z_) ?_
   refine own_g (own_F T0 m 15 #[iv x] [(.int 52), (.int x)]) (fun _ z_ => XS.bipush X0.here hx rfl (hb hby own_d1_13) z_) ?_
   by_cases c15 : x < (52 : Int32)
   · -- pc 15: x < (52 : Int32)
    refine own_g (own_F T0 m 18 #[iv x] []) (fun _ z_ => XS.icmpNo X0.here hx rfl (hb hby own_d1_15) rfl (tlt c15).2.1 z_) ?_
    refine own_g (own_F T0 m 20 #[iv x] [(.int 97)]) (fun _ z_ => XS.bipush X0.here hx rfl (hb hby own_d1_18) z_) ?_
    refine own_g (own_F T0 m 21 #[iv x] [(.int x), (.int 97)]) (fun _ z_ => XS.iloadN X0.here hx rfl (hb hby own_d1_20) rfl z_) ?_
    refine own_g (own_F T0 m 23 #[iv x] [(.int 26), (.int x), (.int 97)]) (fun _ z_ => XS.bipush X0.here hx rfl (hb hby own_d1_21) z_) ?_
    refine own_g (own_F T0 m 24 #[iv x] [(.int (x - (26 : Int32))), (.int 97)]) (fun _ z_ => XS.isub X0.here hx rfl (hb hby own_d1_23) rfl z_) ?_
    refine own_g (own_F T0 m 25 #[iv x] [(.int ((97 : Int32) + (x - (26 : Int32))))]) (fun _ z_ => XS.iadd X0.here hx rfl (hb hby own_d1_24) rfl z_) ?_
    refine own_g (own_F T0 m 26 #[iv x] [(.int (((97 : Int32) + (x - (26 : Int32))).toUInt32.toUInt16.toUInt32.toInt32))]) (fun _ z_ => XS.i2c X0.here hx rfl (hb hby own_d1_25) rfl z_) ?_
    refine own_ret (t := .char) X0 hx hlk hrt (own_narI _) (Or.inl ⟨rfl, by simp, _, rfl⟩) (hb hby own_d1_26) (by decide) (by decide) ?_
    refine ⟨_, rfl, ?_, N0, e0⟩
    simp only [Int32.lt_iff_toInt_lt, ← Int32.toInt_inj, Int32.reduceToInt] at c3 c15
    have h1 := c_isub x (26 : Int32)
    have h2 := c_iadd (97 : Int32) (x - (26 : Int32))
    have h4 := rng32 (x - (26 : Int32))
    have h3 := c_i2c ((97 : Int32) + (x - (26 : Int32)))
    have h5 := rng32 ((97 : Int32) + (x - (26 : Int32)))
    simp only [Int32.reduceToInt] at *
    unfold own_sym
    omega
   · -- pc 15: not x < (52 : Int32)
    refine own_g (own_F T0 m 27 #[iv x] []) (fun _ z_ => XS.icmpYes X0.here hx rfl (pc0 := 15) (pc' := 27) rfl (hb hby own_d1_15) rfl (flt c15).2.1 (by decide) (by decide) z_) ?_
    refine own_g (own_F T0 m 28 #[iv x] [(.int x)]) (fun _ z_ => XS.iloadN X0.here hx rfl (hb hby own_d1_27) rfl z_) ?_
    refine own_g (own_F T0 m 30 #[iv x] [(.int 62), (.int x)]) (fun _ z_ => XS.bipush X0.here hx rfl (hb hby own_d1_28) z_) ?_
    by_cases c30 : x < (62 : Int32)
    · -- pc 30: x < (62 : Int32)
     refine own_g (own_F T0 m 33 #[iv x] []) (fun _ z_ => XS.icmpNo X0.here hx rfl (hb hby own_d1_30) rfl (tlt c30).2.1 z_) ?_
     refine own_g (own_F T0 m 35 #[iv x] [(.int 48)]) (fun _ z_ => XS.bipush X0.here hx rfl (hb hby own_d1_33) z_) ?_
     refine own_g (own_F T0 m 36 #[iv x] [(.int x), (.int 48)]) (fun _ z_ => XS.iloadN X0.here hx rfl (hb hby own_d1_35) rfl z_) ?_
     refine own_g (own_F T0 m 38 #[iv x] [(.int 52), (.int x), (.int 48)]) (fun _ z_ => XS.bipush X0.here hx rfl (hb hby own_d1_36) z_) ?_
     refine own_g (own_F T0 m 39 #[iv x] [(.int (x - (52 : Int32))), (.int 48)]) (fun _ z_ => XS.isub X0.here hx rfl (hb hby own_d1_38) rfl z_) ?_
     refine own_g (own_F T0 m 40 #[iv x] [(.int ((48 : Int32) + (x - (52 : Int32))))]) (fun _ z_ => XS.iadd X0.here hx rfl (hb hby own_d1_39) rfl z_) ?_
     refine own_g (own_F T0 m 41 #[iv x] [(.int (((48 : Int32) + (x - (52 : Int32))).toUInt32.toUInt16.toUInt32.toInt32))]) (fun _ z_ => XS.i2c X0.here hx rfl (hb hby own_d1_40) rfl z_) ?_
     refine own_ret (t := .char) X0 hx hlk hrt (own_narI _) (Or.inl ⟨rfl, by simp, _, rfl⟩) (hb hby own_d1_41) (by decide) (by decide) ?_
     refine ⟨_, rfl, ?_, N0, e0⟩
     simp only [Int32.lt_iff_toInt_lt, ← Int32.toInt_inj, Int32.reduceToInt] at c3 c15 c30
     have h1 := c_isub x (52 : Int32)
     have h2 := c_iadd (48 : Int32) (x - (52 : Int32))
     have h4 := rng32 (x - (52 : Int32))
     have h3 := c_i2c ((48 : Int32) + (x - (52 : Int32)))
     have h5 := rng32 ((48 : Int32) + (x - (52 : Int32)))
     simp only [Int32.reduceToInt] at *
     unfold own_sym
     omega
    · -- pc 30: not x < (62 : Int32)
     refine own_g (own_F T0 m 42 #[iv x] []) (fun _ z_ => XS.icmpYes X0.here hx rfl (pc0 := 30) (pc' := 42) rfl (hb hby own_d1_30) rfl (flt c30).2.1 (by decide) (by decide) z_) ?_
     refine own_g (own_F T0 m 43 #[iv x] [(.int x)]) (fun _ z_ => XS.iloadN X0.here hx rfl (hb hby own_d1_42) rfl z_) ?_
     refine own_g (own_F T0 m 45 #[iv x] [(.int 62), (.int x)]) (fun _ z_ => XS.bipush X0.here hx rfl (hb hby own_d1_43) z_) ?_
     by_cases c45 : x = (62 : Int32)
     · -- pc 45: x = (62 : Int32)
      refine own_g (own_F T0 m 48 #[iv x] []) (fun _ z_ => XS.icmpNo X0.here hx rfl (hb hby own_d1_45) rfl (teq c45).2 z_) ?_
      refine own_g (own_F T0 m 50 #[iv x] [(.int 45)]) (fun _ z_ => XS.bipush X0.here hx rfl (hb hby own_d1_48) z_) ?_
      refine own_g (own_F T0 m 55 #[iv x] [(.int 45)]) (fun _ z_ => XS.goto X0.here hx rfl (pc0 := 50) (pc' := 55) rfl (hb hby own_d1_50) (by decide) (by decide) z_) ?_
      refine own_ret (t := .char) X0 hx hlk hrt rfl (Or.inl ⟨rfl, by simp, _, rfl⟩) (hb hby own_d1_55) (by decide) (by decide) ?_
      refine ⟨_, rfl, ?_, N0, e0⟩
      simp only [Int32.lt_iff_toInt_lt, ← Int32.toInt_inj, Int32.reduceToInt] at c3 c15 c30 c45
      exact Or.inr (Or.inr (Or.inr (Or.inl ⟨c45, by decide⟩)))
     · -- pc 45: not x = (62 : Int32)
      refine own_g (own_F T0 m 53 #[iv x] []) (fun _ z_ => XS.icmpYes X0.here hx rfl (pc0 := 45) (pc' := 53) rfl (hb hby own_d1_45) rfl (feq c45).2 (by decide) (by decide) z_) ?_
      refine own_g (own_F T0 m 55 #[iv x] [(.int 95)]) (fun _ z_ => XS.bipush X0.here hx rfl (hb hby own_d1_53) z_) ?_
      refine own_ret (t := .char) X0 hx hlk hrt rfl (Or.inl ⟨rfl, by simp, _, rfl⟩) (hb hby own_d1_55) (by decide) (by decide) ?_
      refine ⟨_, rfl, ?_, N0, e0⟩
      simp only [Int32.lt_iff_toInt_lt, ← Int32.toInt_inj, Int32.reduceToInt] at c3 c15 c30 c45
      exact Or.inr (Or.inr (Or.inr (Or.inr ⟨by omega, by decide⟩)))
set_option maxRecDepth 65536 in
set_option maxHeartbeats 40000000 in
theorem own_val (l : Launch) (Z : State) (a0 : Array Value) (hw : ∀ d ∈ tables_1, d.before a0 Z = true) (ws : List Jvm.Cond) (ch x : Int32) (h0 : Heap) (n0 : Nat) (Z0 : n0 ≤ h0.size) (hs : own_sym ch x) :
    own_Met l Z (⟨"com/example/claimgate/claimgate/jose/Base64Url", "value", "(C)I"⟩ : MethodName) prog_23_method_4_code 1 (some .int) ws ({ frames := 0, cells := 0, slots := 0, locals := 0 } : Room) #[(.int ch)] h0 (fun v h L => v = some (.int x) ∧ Fr n0 L ∧ h = h0) := by
  refine own_body own_pn19 (fun m => mkF m 0 #[iv ch] []) (fun m => own_ef_own_val m ch) ?_
  intro p e s m below meth c T0 hx hby hml hlk hrt hZ hown hnm X0 e0
  have hown : s.vm.findClass "com/example/claimgate/claimgate/jose/Base64Url" = some m.cls := hown
  have N0 := Fr.nil n0
  refine own_g (own_F T0 m 1 #[iv ch] [(.int ch)]) (fun _ z_ => XS.iloadN X0.here hx rfl (hb hby own_d22_0) rfl z_) ?_
  refine own_g (own_F T0 m 3 #[iv ch] [(.int 65), (.int ch)]) (fun _ z_ => XS.bipush X0.here hx rfl (hb hby own_d22_1) z_) ?_
  by_cases c3 : ch < (65 : Int32)
  · -- pc 3: ch < (65 : Int32)
   refine own_g (own_F T0 m 17 #[iv ch] []) (fun _ z_ => XS.icmpYes X0.here hx rfl (pc0 := 3) (pc' := 17) rfl (hb hby own_d22_3) rfl (tlt c3).1 (by decide) (by decide) z_) ?_
   refine own_g (own_F T0 m 18 #[iv ch] [(.int ch)]) (fun _ z_ => XS.iloadN X0.here hx rfl (hb hby own_d22_17) rfl z_) ?_
   refine own_g (own_F T0 m 20 #[iv ch] [(.int 97), (.int ch)]) (fun _ z_ => XS.bipush X0.here hx rfl (hb hby own_d22_18) z_) ?_
   by_cases c20 : ch < (97 : Int32)
   · -- pc 20: ch < (97 : Int32)
    refine own_g (own_F T0 m 37 #[iv ch] []) (fun _ z_ => XS.icmpYes X0.here hx rfl (pc0 := 20) (pc' := 37) rfl (hb hby own_d22_20) rfl (tlt c20).1 (by decide) (by decide) z_) ?_
    refine own_g (own_F T0 m 38 #[iv ch] [(.int ch)]) (fun _ z_ => XS.iloadN X0.here hx rfl (hb hby own_d22_37) rfl z_) ?_
    refine own_g (own_F T0 m 40 #[iv ch] [(.int 48), (.int ch)]) (fun _ z_ => XS.bipush X0.here hx rfl (hb hby own_d22_38) z_) ?_
    by_cases c40 : ch < (48 : Int32)
    · -- pc 40: ch < (48 : Int32)
     refine own_g (own_F T0 m 57 #[iv ch] []) (fun _ z_ => XS.icmpYes X0.here hx rfl (pc0 := 40) (pc' := 57) rfl (hb hby own_d22_40) rfl (tlt c40).1 (by decide) (by decide) z_) ?_
     refine own_g (own_F T0 m 58 #[iv ch] [(.int ch)]) (fun _ z_ => XS.iloadN X0.here hx rfl (hb hby own_d22_57) rfl z_) ?_
     refine own_g (own_F T0 m 60 #[iv ch] [(.int 45), (.int ch)]) (fun _ z_ => XS.bipush X0.here hx rfl (hb hby own_d22_58) z_) ?_
     by_cases c60 : ch = (45 : Int32)
     · -- pc 60: ch = (45 : Int32)
      refine own_g (own_F T0 m 63 #[iv ch] []) (fun _ z_ => XS.icmpNo X0.here hx rfl (hb hby own_d22_60) rfl (teq c60).2 z_) ?_
      refine own_g (own_F T0 m 65 #[iv ch] [(.int 62)]) (fun _ z_ => XS.bipush X0.here hx rfl (hb hby own_d22_63) z_) ?_
      refine own_ret (t := .int) X0 hx hlk hrt rfl (Or.inl ⟨rfl, by simp, _, rfl⟩) (hb hby own_d22_65) (by decide) (by decide) ?_
      refine ⟨congrArg (fun z => some (Value.int z)) ?_, N0, e0⟩
      unfold own_sym at hs
      simp only [Int32.lt_iff_toInt_lt, ← Int32.toInt_inj, Int32.reduceToInt] at c3 c20 c40 c60
      rw [← Int32.toInt_inj]
      simp only [Int32.reduceToInt] at *
      omega
     · -- pc 60: not ch = (45 : Int32)
      refine own_g (own_F T0 m 66 #[iv ch] []) (fun _ z_ => XS.icmpYes X0.here hx rfl (pc0 := 60) (pc' := 66) rfl (hb hby own_d22_60) rfl (feq c60).2 (by decide) (by decide) z_) ?_
      refine own_g (own_F T0 m 67 #[iv ch] [(.int ch)]) (fun _ z_ => XS.iloadN X0.here hx rfl (hb hby own_d22_66) rfl z_) ?_
      refine own_g (own_F T0 m 69 #[iv ch] [(.int 95), (.int ch)]) (fun _ z_ => XS.bipush X0.here hx rfl (hb hby own_d22_67) z_) ?_
      by_cases c69 : ch = (95 : Int32)
      · -- pc 69: ch = (95 : Int32)
       refine own_g (own_F T0 m 72 #[iv ch] []) (fun _ z_ => XS.icmpNo X0.here hx rfl (hb hby own_d22_69) rfl (teq c69).2 z_) ?_
       refine own_g (own_F T0 m 74 #[iv ch] [(.int 63)]) (fun _ z_ => XS.bipush X0.here hx rfl (hb hby own_d22_72) z_) ?_
       refine own_g (own_F T0 m 78 #[iv ch] [(.int 63)]) (fun _ z_ => XS.goto X0.here hx rfl (pc0 := 74) (pc' := 78) rfl (hb hby own_d22_74) (by decide) (by decide) z_) ?_
       refine own_ret (t := .int) X0 hx hlk hrt rfl (Or.inl ⟨rfl, by simp, _, rfl⟩) (hb hby own_d22_78) (by decide) (by decide) ?_
       refine ⟨congrArg (fun z => some (Value.int z)) ?_, N0, e0⟩
       unfold own_sym at hs
       simp only [Int32.lt_iff_toInt_lt, ← Int32.toInt_inj, Int32.reduceToInt] at c3 c20 c40 c60 c69
       rw [← Int32.toInt_inj]
       simp only [Int32.reduceToInt] at *
       omega
      · -- pc 69: not ch = (95 : Int32)
       refine own_g (own_F T0 m 77 #[iv ch] []) (fun _ z_ => XS.icmpYes X0.here hx rfl (pc0 := 69) (pc' := 77) rfl (hb hby own_d22_69) rfl (feq c69).2 (by decide) (by decide) z_) ?_
       refine own_g (own_F T0 m 78 #[iv ch] [(.int (-1))]) (fun _ z_ => XS.iconst X0.here hx rfl (hb hby own_d22_77) z_) ?_
       refine own_ret (t := .int) X0 hx hlk hrt rfl (Or.inl ⟨rfl, by simp, _, rfl⟩) (hb hby own_d22_78) (by decide) (by decide) ?_
       refine ⟨congrArg (fun z => some (Value.int z)) ?_, N0, e0⟩
       unfold own_sym at hs
       simp only [Int32.lt_iff_toInt_lt, ← Int32.toInt_inj, Int32.reduceToInt] at c3 c20 c40 c60 c69
       rw [← Int32.toInt_inj]
       simp only [Int32.reduceToInt] at *
       omega
    · -- pc 40: not ch < (48 : Int32)
     refine own_g (own_F T0 m 43 #[iv ch] []) (fun _ z_ => XS.icmpNo X0.here hx rfl (hb hby own_d22_40) rfl (flt c40).1 z_) ?_
     refine own_g (own_F T0 m 44 #[iv ch] [(.int ch)]) (fun _ z_ => XS.iloadN X0.here hx rfl (hb hby own_d22_43) rfl z_) ?_
     refine own_g (own_F T0 m 46 #[iv ch] [(.int 57), (.int ch)]) (fun _ z_ => XS.bipush X0.here hx rfl (hb hby own_d22_44) z_) ?_
     by_cases c46 : (57 : Int32) < ch
     · -- pc 46: (57 : Int32) < ch
      refine own_g (own_F T0 m 57 #[iv ch] []) (fun _ z_ => XS.icmpYes X0.here hx rfl (pc0 := 46) (pc' := 57) rfl (hb hby own_d22_46) rfl (tlt c46).2.2.1 (by decide) (by decide) z_) ?_
      refine own_g (own_F T0 m 58 #[iv ch] [(.int ch)]) (fun _ z_ => XS.iloadN X0.here hx rfl (hb hby own_d22_57) rfl z_) ?_
      refine own_g (own_F T0 m 60 #[iv ch] [(.int 45), (.int ch)]) (fun _ z_ => XS.bipush X0.here hx rfl (hb hby own_d22_58) z_) ?_
      by_cases c60 : ch = (45 : Int32)
      · -- pc 60: ch = (45 : Int32)
       refine own_g (own_F T0 m 63 #[iv ch] []) (fun _ z_ => XS.icmpNo X0.here hx rfl (hb hby own_d22_60) rfl (teq c60).2 z_) ?_
       refine own_g (own_F T0 m 65 #[iv ch] [(.int 62)]) (fun _ z_ => XS.bipush X0.here hx rfl (hb hby own_d22_63) z_) ?_
       refine own_ret (t := .int) X0 hx hlk hrt rfl (Or.inl ⟨rfl, by simp, _, rfl⟩) (hb hby own_d22_65) (by decide) (by decide) ?_
       refine ⟨congrArg (fun z => some (Value.int z)) ?_, N0, e0⟩
       unfold own_sym at hs
       simp only [Int32.lt_iff_toInt_lt, ← Int32.toInt_inj, Int32.reduceToInt] at c3 c20 c40 c46 c60
       rw [← Int32.toInt_inj]
       simp only [Int32.reduceToInt] at *
       omega
      · -- pc 60: not ch = (45 : Int32)
       refine own_g (own_F T0 m 66 #[iv ch] []) (fun _ z_ => XS.icmpYes X0.here hx rfl (pc0 := 60) (pc' := 66) rfl (hb hby own_d22_60) rfl (feq c60).2 (by decide) (by decide) z_) ?_
       refine own_g (own_F T0 m 67 #[iv ch] [(.int ch)]) (fun _ z_ => XS.iloadN X0.here hx rfl (hb hby own_d22_66) rfl z_) ?_
       refine own_g (own_F T0 m 69 #[iv ch] [(.int 95), (.int ch)]) (fun _ z_ => XS.bipush X0.here hx rfl (hb hby own_d22_67) z_) ?_
       by_cases c69 : ch = (95 : Int32)
       · -- pc 69: ch = (95 : Int32)
        refine own_g (own_F T0 m 72 #[iv ch] []) (fun _ z_ => XS.icmpNo X0.here hx rfl (hb hby own_d22_69) rfl (teq c69).2 z_) ?_
        refine own_g (own_F T0 m 74 #[iv ch] [(.int 63)]) (fun _ z_ => XS.bipush X0.here hx rfl (hb hby own_d22_72) z_) ?_
        refine own_g (own_F T0 m 78 #[iv ch] [(.int 63)]) (fun _ z_ => XS.goto X0.here hx rfl (pc0 := 74) (pc' := 78) rfl (hb hby own_d22_74) (by decide) (by decide) z_) ?_
        refine own_ret (t := .int) X0 hx hlk hrt rfl (Or.inl ⟨rfl, by simp, _, rfl⟩) (hb hby own_d22_78) (by decide) (by decide) ?_
        refine ⟨congrArg (fun z => some (Value.int z)) ?_, N0, e0⟩
        unfold own_sym at hs
        simp only [Int32.lt_iff_toInt_lt, ← Int32.toInt_inj, Int32.reduceToInt] at c3 c20 c40 c46 c60 c69
        rw [← Int32.toInt_inj]
        simp only [Int32.reduceToInt] at *
        omega
       · -- pc 69: not ch = (95 : Int32)
        refine own_g (own_F T0 m 77 #[iv ch] []) (fun _ z_ => XS.icmpYes X0.here hx rfl (pc0 := 69) (pc' := 77) rfl (hb hby own_d22_69) rfl (feq c69).2 (by decide) (by decide) z_) ?_
        refine own_g (own_F T0 m 78 #[iv ch] [(.int (-1))]) (fun _ z_ => XS.iconst X0.here hx rfl (hb hby own_d22_77) z_) ?_
        refine own_ret (t := .int) X0 hx hlk hrt rfl (Or.inl ⟨rfl, by simp, _, rfl⟩) (hb hby own_d22_78) (by decide) (by decide) ?_
        refine ⟨congrArg (fun z => some (Value.int z)) ?_, N0, e0⟩
        unfold own_sym at hs
        simp only [Int32.lt_iff_toInt_lt, ← Int32.toInt_inj, Int32.reduceToInt] at c3 c20 c40 c46 c60 c69
        rw [← Int32.toInt_inj]
        simp only [Int32.reduceToInt] at *
        omega
     · -- pc 46: not (57 : Int32) < ch
      refine own_g (own_F T0 m 49 #[iv ch] []) (fun _ z_ => XS.icmpNo X0.here hx rfl (hb hby own_d22_46) rfl (flt c46).2.2.1 z_) ?_
      refine own_g (own_F T0 m 50 #[iv ch] [(.int ch)]) (fun _ z_ => XS.iloadN X0.here hx rfl (hb hby own_d22_49) rfl z_) ?_
      refine own_g (own_F T0 m 52 #[iv ch] [(.int 48), (.int ch)]) (fun _ z_ => XS.bipush X0.here hx rfl (hb hby own_d22_50) z_) ?_
      refine own_g (own_F T0 m 53 #[iv ch] [(.int (ch - (48 : Int32)))]) (fun _ z_ => XS.isub X0.here hx rfl (hb hby own_d22_52) rfl z_) ?_
      refine own_g (own_F T0 m 55 #[iv ch] [(.int 52), (.int (ch - (48 : Int32)))]) (fun _ z_ => XS.bipush X0.here hx rfl (hb hby own_d22_53) z_) ?_
      refine own_g (own_F T0 m 56 #[iv ch] [(.int ((ch - (48 : Int32)) + (52 : Int32)))]) (fun _ z_ => XS.iadd X0.here hx rfl (hb hby own_d22_55) rfl z_) ?_
      refine own_ret (t := .int) X0 hx hlk hrt rfl (Or.inl ⟨rfl, by simp, _, rfl⟩) (hb hby own_d22_56) (by decide) (by decide) ?_
      refine ⟨congrArg (fun z => some (Value.int z)) ?_, N0, e0⟩
      unfold own_sym at hs
      simp only [Int32.lt_iff_toInt_lt, ← Int32.toInt_inj, Int32.reduceToInt] at c3 c20 c40 c46
      have h1 := c_isub ch (48 : Int32)
      have h3 := rng32 (ch - (48 : Int32))
      have h2 := c_iadd (ch - (48 : Int32)) (52 : Int32)
      have h4 := rng32 ((ch - (48 : Int32)) + (52 : Int32))
      rw [← Int32.toInt_inj]
      simp only [Int32.reduceToInt] at *
      omega
   · -- pc 20: not ch < (97 : Int32)
    refine own_g (own_F T0 m 23 #[iv ch] []) (fun _ z_ => XS.icmpNo X0.here hx rfl (hb hby own_d22_20) rfl (flt c20).1 z_) ?_
    refine own_g (own_F T0 m 24 #[iv ch] [(.int ch)]) (fun _ z_ => XS.iloadN X0.here hx rfl (hb hby own_d22_23) rfl z_) ?_
    refine own_g (own_F T0 m 26 #[iv ch] [(.int 122), (.int ch)]) (fun _ z_ => XS.bipush X0.here hx rfl (hb hby own_d22_24) z_) ?_
    by_cases c26 : (122 : Int32) < ch
    · -- pc 26: (122 : Int32) < ch
     refine own_g (own_F T0 m 37 #[iv ch] []) (fun _ z_ => XS.icmpYes X0.here hx rfl (pc0 := 26) (pc' := 37) rfl (hb hby own_d22_26) rfl (tlt c26).2.2.1 (by decide) (by decide) z_) ?_
     refine own_g (own_F T0 m 38 #[iv ch] [(.int ch)]) (fun _ z_ => XS.iloadN X0.here hx rfl (hb hby own_d22_37) rfl z_) ?_
     refine own_g (own_F T0 m 40 #[iv ch] [(.int 48), (.int ch)]) (fun _ z_ => XS.bipush X0.here hx rfl (hb hby own_d22_38) z_) ?_
     by_cases c40 : ch < (48 : Int32)
     · -- pc 40: ch < (48 : Int32)
      refine own_g (own_F T0 m 57 #[iv ch] []) (fun _ z_ => XS.icmpYes X0.here hx rfl (pc0 := 40) (pc' := 57) rfl (hb hby own_d22_40) rfl (tlt c40).1 (by decide) (by decide) z_) ?_
      refine own_g (own_F T0 m 58 #[iv ch] [(.int ch)]) (fun _ z_ => XS.iloadN X0.here hx rfl (hb hby own_d22_57) rfl z_) ?_
      refine own_g (own_F T0 m 60 #[iv ch] [(.int 45), (.int ch)]) (fun _ z_ => XS.bipush X0.here hx rfl (hb hby own_d22_58) z_) ?_
      by_cases c60 : ch = (45 : Int32)
      · -- pc 60: ch = (45 : Int32)
       refine own_g (own_F T0 m 63 #[iv ch] []) (fun _ z_ => XS.icmpNo X0.here hx rfl (hb hby own_d22_60) rfl (teq c60).2 z_) ?_
       refine own_g (own_F T0 m 65 #[iv ch] [(.int 62)]) (fun _ z_ => XS.bipush X0.here hx rfl (hb hby own_d22_63) z_) ?_
       refine own_ret (t := .int) X0 hx hlk hrt rfl (Or.inl ⟨rfl, by simp, _, rfl⟩) (hb hby own_d22_65) (by decide) (by decide) ?_
       refine ⟨congrArg (fun z => some (Value.int z)) ?_, N0, e0⟩
       unfold own_sym at hs
       simp only [Int32.lt_iff_toInt_lt, ← Int32.toInt_inj, Int32.reduceToInt] at c3 c20 c26 c40 c60
       rw [← Int32.toInt_inj]
       simp only [Int32.reduceToInt] at *
       omega
      · -- pc 60: not ch = (45 : Int32)
       refine own_g (own_F T0 m 66 #[iv ch] []) (fun _ z_ => XS.icmpYes X0.here hx rfl (pc0 := 60) (pc' := 66) rfl (hb hby own_d22_60) rfl (feq c60).2 (by decide) (by decide) z_) ?_
       refine own_g (own_F T0 m 67 #[iv ch] [(.int ch)]) (fun _ z_ => XS.iloadN X0.here hx rfl (hb hby own_d22_66) rfl z_) ?_
       refine own_g (own_F T0 m 69 #[iv ch] [(.int 95), (.int ch)]) (fun _ z_ => XS.bipush X0.here hx rfl (hb hby own_d22_67) z_) ?_
       by_cases c69 : ch = (95 : Int32)
       · -- pc 69: ch = (95 : Int32)
        refine own_g (own_F T0 m 72 #[iv ch] []) (fun _ z_ => XS.icmpNo X0.here hx rfl (hb hby own_d22_69) rfl (teq c69).2 z_) ?_
        refine own_g (own_F T0 m 74 #[iv ch] [(.int 63)]) (fun _ z_ => XS.bipush X0.here hx rfl (hb hby own_d22_72) z_) ?_
        refine own_g (own_F T0 m 78 #[iv ch] [(.int 63)]) (fun _ z_ => XS.goto X0.here hx rfl (pc0 := 74) (pc' := 78) rfl (hb hby own_d22_74) (by decide) (by decide) z_) ?_
        refine own_ret (t := .int) X0 hx hlk hrt rfl (Or.inl ⟨rfl, by simp, _, rfl⟩) (hb hby own_d22_78) (by decide) (by decide) ?_
        refine ⟨congrArg (fun z => some (Value.int z)) ?_, N0, e0⟩
        unfold own_sym at hs
        simp only [Int32.lt_iff_toInt_lt, ← Int32.toInt_inj, Int32.reduceToInt] at c3 c20 c26 c40 c60 c69
        rw [← Int32.toInt_inj]
        simp only [Int32.reduceToInt] at *
        omega
       · -- pc 69: not ch = (95 : Int32)
        refine own_g (own_F T0 m 77 #[iv ch] []) (fun _ z_ => XS.icmpYes X0.here hx rfl (pc0 := 69) (pc' := 77) rfl (hb hby own_d22_69) rfl (feq c69).2 (by decide) (by decide) z_) ?_
        refine own_g (own_F T0 m 78 #[iv ch] [(.int (-1))]) (fun _ z_ => XS.iconst X0.here hx rfl (hb hby own_d22_77) z_) ?_
        refine own_ret (t := .int) X0 hx hlk hrt rfl (Or.inl ⟨rfl, by simp, _, rfl⟩) (hb hby own_d22_78) (by decide) (by decide) ?_
        refine ⟨congrArg (fun z => some (Value.int z)) ?_, N0, e0⟩
        unfold own_sym at hs
        simp only [Int32.lt_iff_toInt_lt, ← Int32.toInt_inj, Int32.reduceToInt] at c3 c20 c26 c40 c60 c69
        rw [← Int32.toInt_inj]
        simp only [Int32.reduceToInt] at *
        omega
     · -- pc 40: not ch < (48 : Int32)
      refine own_g (own_F T0 m 43 #[iv ch] []) (fun _ z_ => XS.icmpNo X0.here hx rfl (hb hby own_d22_40) rfl (flt c40).1 z_) ?_
      refine own_g (own_F T0 m 44 #[iv ch] [(.int ch)]) (fun _ z_ => XS.iloadN X0.here hx rfl (hb hby own_d22_43) rfl z_) ?_
      refine own_g (own_F T0 m 46 #[iv ch] [(.int 57), (.int ch)]) (fun _ z_ => XS.bipush X0.here hx rfl (hb hby own_d22_44) z_) ?_
      by_cases c46 : (57 : Int32) < ch
      · -- pc 46: (57 : Int32) < ch
       refine own_g (own_F T0 m 57 #[iv ch] []) (fun _ z_ => XS.icmpYes X0.here hx rfl (pc0 := 46) (pc' := 57) rfl (hb hby own_d22_46) rfl (tlt c46).2.2.1 (by decide) (by decide) z_) ?_
       refine own_g (own_F T0 m 58 #[iv ch] [(.int ch)]) (fun _ z_ => XS.iloadN X0.here hx rfl (hb hby own_d22_57) rfl z_) ?_
       refine own_g (own_F T0 m 60 #[iv ch] [(.int 45), (.int ch)]) (fun _ z_ => XS.bipush X0.here hx rfl (hb hby own_d22_58) z_) ?_
       by_cases c60 : ch = (45 : Int32)
       · -- pc 60: ch = (45 : Int32)
        refine own_g (own_F T0 m 63 #[iv ch] []) (fun _ z_ => XS.icmpNo X0.here hx rfl (hb hby own_d22_60) rfl (teq c60).2 z_) ?_
        refine own_g (own_F T0 m 65 #[iv ch] [(.int 62)]) (fun _ z_ => XS.bipush X0.here hx rfl (hb hby own_d22_63) z_) ?_
        refine own_ret (t := .int) X0 hx hlk hrt rfl (Or.inl ⟨rfl, by simp, _, rfl⟩) (hb hby own_d22_65) (by decide) (by decide) ?_
        refine ⟨congrArg (fun z => some (Value.int z)) ?_, N0, e0⟩
        unfold own_sym at hs
        simp only [Int32.lt_iff_toInt_lt, ← Int32.toInt_inj, Int32.reduceToInt] at c3 c20 c26 c40 c46 c60
        rw [← Int32.toInt_inj]
        simp only [Int32.reduceToInt] at *
        omega
       · -- pc 60: not ch = (45 : Int32)
        refine own_g (own_F T0 m 66 #[iv ch] []) (fun _ z_ => XS.icmpYes X0.here hx rfl (pc0 := 60) (pc' := 66) rfl (hb hby own_d22_60) rfl (feq c60).2 (by decide) (by decide) z_) ?_
        refine own_g (own_F T0 m 67 #[iv ch] [(.int ch)]) (fun _ z_ => XS.iloadN X0.here hx rfl (hb hby own_d22_66) rfl z_) ?_
        refine own_g (own_F T0 m 69 #[iv ch] [(.int 95), (.int ch)]) (fun _ z_ => XS.bipush X0.here hx rfl (hb hby own_d22_67) z_) ?_
        by_cases c69 : ch = (95 : Int32)
        · -- pc 69: ch = (95 : Int32)
         refine own_g (own_F T0 m 72 #[iv ch] []) (fun _ z_ => XS.icmpNo X0.here hx rfl (hb hby own_d22_69) rfl (teq c69).2 z_) ?_
         refine own_g (own_F T0 m 74 #[iv ch] [(.int 63)]) (fun _ z_ => XS.bipush X0.here hx rfl (hb hby own_d22_72) z_) ?_
         refine own_g (own_F T0 m 78 #[iv ch] [(.int 63)]) (fun _ z_ => XS.goto X0.here hx rfl (pc0 := 74) (pc' := 78) rfl (hb hby own_d22_74) (by decide) (by decide) z_) ?_
         refine own_ret (t := .int) X0 hx hlk hrt rfl (Or.inl ⟨rfl, by simp, _, rfl⟩) (hb hby own_d22_78) (by decide) (by decide) ?_
         refine ⟨congrArg (fun z => some (Value.int z)) ?_, N0, e0⟩
         unfold own_sym at hs
         simp only [Int32.lt_iff_toInt_lt, ← Int32.toInt_inj, Int32.reduceToInt] at c3 c20 c26 c40 c46 c60 c69
         rw [← Int32.toInt_inj]
         simp only [Int32.reduceToInt] at *
         omega
        · -- pc 69: not ch = (95 : Int32)
         refine own_g (own_F T0 m 77 #[iv ch] []) (fun _ z_ => XS.icmpYes X0.here hx rfl (pc0 := 69) (pc' := 77) rfl (hb hby own_d22_69) rfl (feq c69).2 (by decide) (by decide) z_) ?_
         refine own_g (own_F T0 m 78 #[iv ch] [(.int (-1))]) (fun _ z_ => XS.iconst X0.here hx rfl (hb hby own_d22_77) z_) ?_
         refine own_ret (t := .int) X0 hx hlk hrt rfl (Or.inl ⟨rfl, by simp, _, rfl⟩) (hb hby own_d22_78) (by decide) (by decide) ?_
         refine ⟨congrArg (fun z => some (Value.int z)) ?_, N0, e0⟩
         unfold own_sym at hs
         simp only [Int32.lt_iff_toInt_lt, ← Int32.toInt_inj, Int32.reduceToInt] at c3 c20 c26 c40 c46 c60 c69
         rw [← Int32.toInt_inj]
         simp only [Int32.reduceToInt] at *
         omega
      · -- pc 46: not (57 : Int32) < ch
       refine own_g (own_F T0 m 49 #[iv ch] []) (fun _ z_ => XS.icmpNo X0.here hx rfl (hb hby own_d22_46) rfl (flt c46).2.2.1 z_) ?_
       refine own_g (own_F T0 m 50 #[iv ch] [(.int ch)]) (fun _ z_ => XS.iloadN X0.here hx rfl (hb hby own_d22_49) rfl z_) ?_
       refine own_g (own_F T0 m 52 #[iv ch] [(.int 48), (.int ch)]) (fun _ z_ => XS.bipush X0.here hx rfl (hb hby own_d22_50) z_) ?_
       refine own_g (own_F T0 m 53 #[iv ch] [(.int (ch - (48 : Int32)))]) (fun _ z_ => XS.isub X0.here hx rfl (hb hby own_d22_52) rfl z_) ?_
       refine own_g (own_F T0 m 55 #[iv ch] [(.int 52), (.int (ch - (48 : Int32)))]) (fun _ z_ => XS.bipush X0.here hx rfl (hb hby own_d22_53) z_) ?_
       refine own_g (own_F T0 m 56 #[iv ch] [(.int ((ch - (48 : Int32)) + (52 : Int32)))]) (fun _ z_ => XS.iadd X0.here hx rfl (hb hby own_d22_55) rfl z_) ?_
       refine own_ret (t := .int) X0 hx hlk hrt rfl (Or.inl ⟨rfl, by simp, _, rfl⟩) (hb hby own_d22_56) (by decide) (by decide) ?_
       refine ⟨congrArg (fun z => some (Value.int z)) ?_, N0, e0⟩
       unfold own_sym at hs
       simp only [Int32.lt_iff_toInt_lt, ← Int32.toInt_inj, Int32.reduceToInt] at c3 c20 c26 c40 c46
       have h1 := c_isub ch (48 : Int32)
       have h3 := rng32 (ch - (48 : Int32))
       have h2 := c_iadd (ch - (48 : Int32)) (52 : Int32)
       have h4 := rng32 ((ch - (48 : Int32)) + (52 : Int32))
       rw [← Int32.toInt_inj]
       simp only [Int32.reduceToInt] at *
       omega
    · -- pc 26: not (122 : Int32) < ch
     refine own_g (own_F T0 m 29 #[iv ch] []) (fun _ z_ => XS.icmpNo X0.here hx rfl (hb hby own_d22_26) rfl (flt c26).2.2.1 z_) ?_
     refine own_g (own_F T0 m 30 #[iv ch] [(.int ch)]) (fun _ z_ => XS.iloadN X0.here hx rfl (hb hby own_d22_29) rfl z_) ?_
     refine own_g (own_F T0 m 32 #[iv ch] [(.int 97), (.int ch)]) (fun _ z_ => XS.bipush X0.here hx rfl (hb hby own_d22_30) z_) ?_
     refine own_g (own_F T0 m 33 #[iv ch] [(.int (ch - (97 : Int32)))]) (fun _ z_ => XS.isub X0.here hx rfl (hb hby own_d22_32) rfl z_) ?_
     refine own_g (own_F T0 m 35 #[iv ch] [(.int 26), (.int (ch - (97 : Int32)))]) (fun _ z_ => XS.bipush X0.here hx rfl (hb hby own_d22_33) z_) ?_
     refine own_g (own_F T0 m 36 #[iv ch] [(.int ((ch - (97 : Int32)) + (26 : Int32)))]) (fun _ z_ => XS.iadd X0.here hx rfl (hb hby own_d22_35) rfl z_) ?_
     refine own_ret (t := .int) X0 hx hlk hrt rfl (Or.inl ⟨rfl, by simp, _, rfl⟩) (hb hby own_d22_36) (by decide) (by decide) ?_
     refine ⟨congrArg (fun z => some (Value.int z)) ?_, N0, e0⟩
     unfold own_sym at hs
     simp only [Int32.lt_iff_toInt_lt, ← Int32.toInt_inj, Int32.reduceToInt] at c3 c20 c26
     have h1 := c_isub ch (97 : Int32)
     have h3 := rng32 (ch - (97 : Int32))
     have h2 := c_iadd (ch - (97 : Int32)) (26 : Int32)
     have h4 := rng32 ((ch - (97 : Int32)) + (26 : Int32))
     rw [← Int32.toInt_inj]
     simp only [Int32.reduceToInt] at *
     omega
  · -- pc 3: not ch < (65 : Int32)
   refine own_g (own_F T0 m 6 #[iv ch] []) (fun _ z_ => XS.icmpNo X0.here hx rfl (hb hby own_d22_3) rfl (flt c3).1 z_) ?_
   refine own_g (own_F T0 m 7 #[iv ch] [(.int ch)]) (fun _ z_ => XS.iloadN X0.here hx rfl (hb hby own_d22_6) rfl z_) ?_
   refine own_g (own_F T0 m 9 #[iv ch] [(.int 90), (.int ch)]) (fun _ z_ => XS.bipush X0.here hx rfl (hb hby own_d22_7) z_) ?_
   by_cases c9 : (90 : Int32) < ch
   · -- pc 9: (90 : Int32) < ch
    refine own_g (own_F T0 m 17 #[iv ch] []) (fun _ z_ => XS.icmpYes X0.here hx rfl (pc0 := 9) (pc' := 17) rfl (hb hby own_d22_9) rfl (tlt c9).2.2.1 (by decide) (by decide) z_) ?_
    refine own_g (own_F T0 m 18 #[iv ch] [(.int ch)]) (fun _ z_ => XS.iloadN X0.here hx rfl (hb hby own_d22_17) rfl z_) ?_
    refine own_g (own_F T0 m 20 #[iv ch] [(.int 97), (.int ch)]) (fun _ z_ => XS.bipush X0.here hx rfl (hb hby own_d22_18) z_) ?_
    by_cases c20 : ch < (97 : Int32)
    · -- pc 20: ch < (97 : Int32)
     refine own_g (own_F T0 m 37 #[iv ch] []) (fun _ z_ => XS.icmpYes X0.here hx rfl (pc0 := 20) (pc' := 37) rfl (hb hby own_d22_20) rfl (tlt c20).1 (by decide) (by decide) z_) ?_
     refine own_g (own_F T0 m 38 #[iv ch] [(.int ch)]) (fun _ z_ => XS.iloadN X0.here hx rfl (hb hby own_d22_37) rfl z_) ?_
     refine own_g (own_F T0 m 40 #[iv ch] [(.int 48), (.int ch)]) (fun _ z_ => XS.bipush X0.here hx rfl (hb hby own_d22_38) z_) ?_
     by_cases c40 : ch < (48 : Int32)
     · -- pc 40: ch < (48 : Int32)
      refine own_g (own_F T0 m 57 #[iv ch] []) (fun _ z_ => XS.icmpYes X0.here hx rfl (pc0 := 40) (pc' := 57) rfl (hb hby own_d22_40) rfl (tlt c40).1 (by decide) (by decide) z_) ?_
      refine own_g (own_F T0 m 58 #[iv ch] [(.int ch)]) (fun _ z_ => XS.iloadN X0.here hx rfl (hb hby own_d22_57) rfl z_) ?_
      refine own_g (own_F T0 m 60 #[iv ch] [(.int 45), (.int ch)]) (fun _ z_ => XS.bipush X0.here hx rfl (hb hby own_d22_58) z_) ?_
      by_cases c60 : ch = (45 : Int32)
      · -- pc 60: ch = (45 : Int32)
       refine own_g (own_F T0 m 63 #[iv ch] []) (fun _ z_ => XS.icmpNo X0.here hx rfl (hb hby own_d22_60) rfl (teq c60).2 z_) ?_
       refine own_g (own_F T0 m 65 #[iv ch] [(.int 62)]) (fun _ z_ => XS.bipush X0.here hx rfl (hb hby own_d22_63) z_) ?_
       refine own_ret (t := .int) X0 hx hlk hrt rfl (Or.inl ⟨rfl, by simp, _, rfl⟩) (hb hby own_d22_65) (by decide) (by decide) ?_
       refine ⟨congrArg (fun z => some (Value.int z)) ?_, N0, e0⟩
       unfold own_sym at hs
       simp only [Int32.lt_iff_toInt_lt, ← Int32.toInt_inj, Int32.reduceToInt] at c3 c9 c20 c40 c60
       rw [← Int32.toInt_inj]
       simp only [Int32.reduceToInt] at *
       omega
      · -- pc 60: not ch = (45 : Int32)
       refine own_g (own_F T0 m 66 #[iv ch] []) (fun _ z_ => XS.icmpYes X0.here hx rfl (pc0 := 60) (pc' := 66) rfl (hb hby own_d22_60) rfl (feq c60).2 (by decide) (by decide) z_) ?_
       refine own_g (own_F T0 m 67 #[iv ch] [(.int ch)]) (fun _ z_ => XS.iloadN X0.here hx rfl (hb hby own_d22_66) rfl z_) ?_
       refine own_g (own_F T0 m 69 #[iv ch] [(.int 95), (.int ch)]) (fun _ z_ => XS.bipush X0.here hx rfl (hb hby own_d22_67) z_) ?_
       by_cases c69 : ch = (95 : Int32)
       · -- pc 69: ch = (95 : Int32)
        refine own_g (own_F T0 m 72 #[iv ch] []) (fun _ z_ => XS.icmpNo X0.here hx rfl (hb hby own_d22_69) rfl (teq c69).2 z_) ?_
        refine own_g (own_F T0 m 74 #[iv ch] [(.int 63)]) (fun _ z_ => XS.bipush X0.here hx rfl (hb hby own_d22_72) z_) ?_
        refine own_g (own_F T0 m 78 #[iv ch] [(.int 63)]) (fun _ z_ => XS.goto X0.here hx rfl (pc0 := 74) (pc' := 78) rfl (hb hby own_d22_74) (by decide) (by decide) z_) ?_
        refine own_ret (t := .int) X0 hx hlk hrt rfl (Or.inl ⟨rfl, by simp, _, rfl⟩) (hb hby own_d22_78) (by decide) (by decide) ?_
        refine ⟨congrArg (fun z => some (Value.int z)) ?_, N0, e0⟩
        unfold own_sym at hs
        simp only [Int32.lt_iff_toInt_lt, ← Int32.toInt_inj, Int32.reduceToInt] at c3 c9 c20 c40 c60 c69
        rw [← Int32.toInt_inj]
        simp only [Int32.reduceToInt] at *
        omega
       · -- pc 69: not ch = (95 : Int32)
        refine own_g (own_F T0 m 77 #[iv ch] []) (fun _ z_ => XS.icmpYes X0.here hx rfl (pc0 := 69) (pc' := 77) rfl (hb hby own_d22_69) rfl (feq c69).2 (by decide) (by decide) z_) ?_
        refine own_g (own_F T0 m 78 #[iv ch] [(.int (-1))]) (fun _ z_ => XS.iconst X0.here hx rfl (hb hby own_d22_77) z_) ?_
        refine own_ret (t := .int) X0 hx hlk hrt rfl (Or.inl ⟨rfl, by simp, _, rfl⟩) (hb hby own_d22_78) (by decide) (by decide) ?_
        refine ⟨congrArg (fun z => some (Value.int z)) ?_, N0, e0⟩
        unfold own_sym at hs
        simp only [Int32.lt_iff_toInt_lt, ← Int32.toInt_inj, Int32.reduceToInt] at c3 c9 c20 c40 c60 c69
        rw [← Int32.toInt_inj]
        simp only [Int32.reduceToInt] at *
        omega
     · -- pc 40: not ch < (48 : Int32)
      refine own_g (own_F T0 m 43 #[iv ch] []) (fun _ z_ => XS.icmpNo X0.here hx rfl (hb hby own_d22_40) rfl (flt c40).1 z_) ?_
      refine own_g (own_F T0 m 44 #[iv ch] [(.int ch)]) (fun _ z_ => XS.iloadN X0.here hx rfl (hb hby own_d22_43) rfl z_) ?_
      refine own_g (own_F T0 m 46 #[iv ch] [(.int 57), (.int ch)]) (fun _ z_ => XS.bipush X0.here hx rfl (hb hby own_d22_44) z_) ?_
      by_cases c46 : (57 : Int32) < ch
      · -- pc 46: (57 : Int32) < ch
       refine own_g (own_F T0 m 57 #[iv ch] []) (fun _ z_ => XS.icmpYes X0.here hx rfl (pc0 := 46) (pc' := 57) rfl (hb hby own_d22_46) rfl (tlt c46).2.2.1 (by decide) (by decide) z_) ?_
       refine own_g (own_F T0 m 58 #[iv ch] [(.int ch)]) (fun _ z_ => XS.iloadN X0.here hx rfl (hb hby own_d22_57) rfl z_) ?_
       refine own_g (own_F T0 m 60 #[iv ch] [(.int 45), (.int ch)]) (fun _ z_ => XS.bipush X0.here hx rfl (hb hby own_d22_58) z_) ?_
       by_cases c60 : ch = (45 : Int32)
       · -- pc 60: ch = (45 : Int32)
        refine own_g (own_F T0 m 63 #[iv ch] []) (fun _ z_ => XS.icmpNo X0.here hx rfl (hb hby own_d22_60) rfl (teq c60).2 z_) ?_
        refine own_g (own_F T0 m 65 #[iv ch] [(.int 62)]) (fun _ z_ => XS.bipush X0.here hx rfl (hb hby own_d22_63) z_) ?_
        refine own_ret (t := .int) X0 hx hlk hrt rfl (Or.inl ⟨rfl, by simp, _, rfl⟩) (hb hby own_d22_65) (by decide) (by decide) ?_
        refine ⟨congrArg (fun z => some (Value.int z)) ?_, N0, e0⟩
        unfold own_sym at hs
        simp only [Int32.lt_iff_toInt_lt, ← Int32.toInt_inj, Int32.reduceToInt] at c3 c9 c20 c40 c46 c60
        rw [← Int32.toInt_inj]
        simp only [Int32.reduceToInt] at *
        omega
       · -- pc 60: not ch = (45 : Int32)
        refine own_g (own_F T0 m 66 #[iv ch] []) (fun _ z_ => XS.icmpYes X0.here hx rfl (pc0 := 60) (pc' := 66) rfl (hb hby own_d22_60) rfl (feq c60).2 (by decide) (by decide) z_) ?_
        refine own_g (own_F T0 m 67 #[iv ch] [(.int ch)]) (fun _ z_ => XS.iloadN X0.here hx rfl (hb hby own_d22_66) rfl z_) ?_
        refine own_g (own_F T0 m 69 #[iv ch] [(.int 95), (.int ch)]) (fun _ z_ => XS.bipush X0.here hx rfl (hb hby own_d22_67) z_) ?_
        by_cases c69 : ch = (95 : Int32)
        · -- pc 69: ch = (95 : Int32)
         refine own_g (own_F T0 m 72 #[iv ch] []) (fun _ z_ => XS.icmpNo X0.here hx rfl (hb hby own_d22_69) rfl (teq c69).2 z_) ?_
         refine own_g (own_F T0 m 74 #[iv ch] [(.int 63)]) (fun _ z_ => XS.bipush X0.here hx rfl (hb hby own_d22_72) z_) ?_
         refine own_g (own_F T0 m 78 #[iv ch] [(.int 63)]) (fun _ z_ => XS.goto X0.here hx rfl (pc0 := 74) (pc' := 78) rfl (hb hby own_d22_74) (by decide) (by decide) z_) ?_
         refine own_ret (t := .int) X0 hx hlk hrt rfl (Or.inl ⟨rfl, by simp, _, rfl⟩) (hb hby own_d22_78) (by decide) (by decide) ?_
         refine ⟨congrArg (fun z => some (Value.int z)) ?_, N0, e0⟩
         unfold own_sym at hs
         simp only [Int32.lt_iff_toInt_lt, ← Int32.toInt_inj, Int32.reduceToInt] at c3 c9 c20 c40 c46 c60 c69
         rw [← Int32.toInt_inj]
         simp only [Int32.reduceToInt] at *
         omega
        · -- pc 69: not ch = (95 : Int32)
         refine own_g (own_F T0 m 77 #[iv ch] []) (fun _ z_ => XS.icmpYes X0.here hx rfl (pc0 := 69) (pc' := 77) rfl (hb hby own_d22_69) rfl (feq c69).2 (by decide) (by decide) z_) ?_
         refine own_g (own_F T0 m 78 #[iv ch] [(.int (-1))]) (fun _ z_ => XS.iconst X0.here hx rfl (hb hby own_d22_77) z_) ?_
         refine own_ret (t := .int) X0 hx hlk hrt rfl (Or.inl ⟨rfl, by simp, _, rfl⟩) (hb hby own_d22_78) (by decide) (by decide) ?_
         refine ⟨congrArg (fun z => some (Value.int z)) ?_, N0, e0⟩
         unfold own_sym at hs
         simp only [Int32.lt_iff_toInt_lt, ← Int32.toInt_inj, Int32.reduceToInt] at c3 c9 c20 c40 c46 c60 c69
         rw [← Int32.toInt_inj]
         simp only [Int32.reduceToInt] at *
         omega
      · -- pc 46: not (57 : Int32) < ch
       refine own_g (own_F T0 m 49 #[iv ch] []) (fun _ z_ => XS.icmpNo X0.here hx rfl (hb hby own_d22_46) rfl (flt c46).2.2.1 z_) ?_
       refine own_g (own_F T0 m 50 #[iv ch] [(.int ch)]) (fun _ z_ => XS.iloadN X0.here hx rfl (hb hby own_d22_49) rfl z_) ?_
       refine own_g (own_F T0 m 52 #[iv ch] [(.int 48), (.int ch)]) (fun _ z_ => XS.bipush X0.here hx rfl (hb hby own_d22_50) z_) ?_
       refine own_g (own_F T0 m 53 #[iv ch] [(.int (ch - (48 : Int32)))]) (fun _ z_ => XS.isub X0.here hx rfl (hb hby own_d22_52) rfl z_) ?_
       refine own_g (own_F T0 m 55 #[iv ch] [(.int 52), (.int (ch - (48 : Int32)))]) (fun _ z_ => XS.bipush X0.here hx rfl (hb hby own_d22_53) z_) ?_
       refine own_g (own_F T0 m 56 #[iv ch] [(.int ((ch - (48 : Int32)) + (52 : Int32)))]) (fun _ z_ => XS.iadd X0.here hx rfl (hb hby own_d22_55) rfl z_) ?_
       refine own_ret (t := .int) X0 hx hlk hrt rfl (Or.inl ⟨rfl, by simp, _, rfl⟩) (hb hby own_d22_56) (by decide) (by decide) ?_
       refine ⟨congrArg (fun z => some (Value.int z)) ?_, N0, e0⟩
       unfold own_sym at hs
       simp only [Int32.lt_iff_toInt_lt, ← Int32.toInt_inj, Int32.reduceToInt] at c3 c9 c20 c40 c46
       have h1 := c_isub ch (48 : Int32)
       have h3 := rng32 (ch - (48 : Int32))
       have h2 := c_iadd (ch - (48 : Int32)) (52 : Int32)
       have h4 := rng32 ((ch - (48 : Int32)) + (52 : Int32))
       rw [← Int32.toInt_inj]
       simp only [Int32.reduceToInt] at *
       omega
    · -- pc 20: not ch < (97 : Int32)
     refine own_g (own_F T0 m 23 #[iv ch] []) (fun _ z_ => XS.icmpNo X0.here hx rfl (hb hby own_d22_20) rfl (flt c20).1 z_) ?_
     refine own_g (own_F T0 m 24 #[iv ch] [(.int ch)]) (fun _ z_ => XS.iloadN X0.here hx rfl (hb hby own_d22_23) rfl z_) ?_
     refine own_g (own_F T0 m 26 #[iv ch] [(.int 122), (.int ch)]) (fun _ z_ => XS.bipush X0.here hx rfl (hb hby own_d22_24) z_) ?_
     by_cases c26 : (122 : Int32) < ch
     · -- pc 26: (122 : Int32) < ch
      refine own_g (own_F T0 m 37 #[iv ch] []) (fun _ z_ => XS.icmpYes X0.here hx rfl (pc0 := 26) (pc' := 37) rfl (hb hby own_d22_26) rfl (tlt c26).2.2.1 (by decide) (by decide) z_) ?_
      refine own_g (own_F T0 m 38 #[iv ch] [(.int ch)]) (fun _ z_ => XS.iloadN X0.here hx rfl (hb hby own_d22_37) rfl z_) ?_
      refine own_g (own_F T0 m 40 #[iv ch] [(.int 48), (.int ch)]) (fun _ z_ => XS.bipush X0.here hx rfl (hb hby own_d22_38) z_) ?_
      by_cases c40 : ch < (48 : Int32)
      · -- pc 40: ch < (48 : Int32)
       refine own_g (own_F T0 m 57 #[iv ch] []) (fun _ z_ => XS.icmpYes X0.here hx rfl (pc0 := 40) (pc' := 57) rfl (hb hby own_d22_40) rfl (tlt c40).1 (by decide) (by decide) z_) ?_
       refine own_g (own_F T0 m 58 #[iv ch] [(.int ch)]) (fun _ z_ => XS.iloadN X0.here hx rfl (hb hby own_d22_57) rfl z_) ?_
       refine own_g (own_F T0 m 60 #[iv ch] [(.int 45), (.int ch)]) (fun _ z_ => XS.bipush X0.here hx rfl (hb hby own_d22_58) z_) ?_
       by_cases c60 : ch = (45 : Int32)
       · -- pc 60: ch = (45 : Int32)
        refine own_g (own_F T0 m 63 #[iv ch] []) (fun _ z_ => XS.icmpNo X0.here hx rfl (hb hby own_d22_60) rfl (teq c60).2 z_) ?_
        refine own_g (own_F T0 m 65 #[iv ch] [(.int 62)]) (fun _ z_ => XS.bipush X0.here hx rfl (hb hby own_d22_63) z_) ?_
        refine own_ret (t := .int) X0 hx hlk hrt rfl (Or.inl ⟨rfl, by simp, _, rfl⟩) (hb hby own_d22_65) (by decide) (by decide) ?_
        refine ⟨congrArg (fun z => some (Value.int z)) ?_, N0, e0⟩
        unfold own_sym at hs
        simp only [Int32.lt_iff_toInt_lt, ← Int32.toInt_inj, Int32.reduceToInt] at c3 c9 c20 c26 c40 c60
        rw [← Int32.toInt_inj]
        simp only [Int32.reduceToInt] at *
        omega
       · -- pc 60: not ch = (45 : Int32)
        refine own_g (own_F T0 m 66 #[iv ch] []) (fun _ z_ => XS.icmpYes X0.here hx rfl (pc0 := 60) (pc' := 66) rfl (hb hby own_d22_60) rfl (feq c60).2 (by decide) (by decide) z_) ?_
        refine own_g (own_F T0 m 67 #[iv ch] [(.int ch)]) (fun _ z_ => XS.iloadN X0.here hx rfl (hb hby own_d22_66) rfl z_) ?_
        refine own_g (own_F T0 m 69 #[iv ch] [(.int 95), (.int ch)]) (fun _ z_ => XS.bipush X0.here hx rfl (hb hby own_d22_67) z_) ?_
        by_cases c69 : ch = (95 : Int32)
        · -- pc 69: ch = (95 : Int32)
         refine own_g (own_F T0 m 72 #[iv ch] []) (fun _ z_ => XS.icmpNo X0.here hx rfl (hb hby own_d22_69) rfl (teq c69).2 z_) ?_
         refine own_g (own_F T0 m 74 #[iv ch] [(.int 63)]) (fun _ z_ => XS.bipush X0.here hx rfl (hb hby own_d22_72) z_) ?_
         refine own_g (own_F T0 m 78 #[iv ch] [(.int 63)]) (fun _ z_ => XS.goto X0.here hx rfl (pc0 := 74) (pc' := 78) rfl (hb hby own_d22_74) (by decide) (by decide) z_) ?_
         refine own_ret (t := .int) X0 hx hlk hrt rfl (Or.inl ⟨rfl, by simp, _, rfl⟩) (hb hby own_d22_78) (by decide) (by decide) ?_
         refine ⟨congrArg (fun z => some (Value.int z)) ?_, N0, e0⟩
         unfold own_sym at hs
         simp only [Int32.lt_iff_toInt_lt, ← Int32.toInt_inj, Int32.reduceToInt] at c3 c9 c20 c26 c40 c60 c69
         rw [← Int32.toInt_inj]
         simp only [Int32.reduceToInt] at *
         omega
        · -- pc 69: not ch = (95 : Int32)
         refine own_g (own_F T0 m 77 #[iv ch] []) (fun _ z_ => XS.icmpYes X0.here hx rfl (pc0 := 69) (pc' := 77) rfl (hb hby own_d22_69) rfl (feq c69).2 (by decide) (by decide) z_) ?_
         refine own_g (own_F T0 m 78 #[iv ch] [(.int (-1))]) (fun _ z_ => XS.iconst X0.here hx rfl (hb hby own_d22_77) z_) ?_
         refine own_ret (t := .int) X0 hx hlk hrt rfl (Or.inl ⟨rfl, by simp, _, rfl⟩) (hb hby own_d22_78) (by decide) (by decide) ?_
         refine ⟨congrArg (fun z => some (Value.int z)) ?_, N0, e0⟩
         unfold own_sym at hs
         simp only [Int32.lt_iff_toInt_lt, ← Int32.toInt_inj, Int32.reduceToInt] at c3 c9 c20 c26 c40 c60 c69
         rw [← Int32.toInt_inj]
         simp only [Int32.reduceToInt] at *
         omega
      · -- pc 40: not ch < (48 : Int32)
       refine own_g (own_F T0 m 43 #[iv ch] []) (fun _ z_ => XS.icmpNo X0.here hx rfl (hb hby own_d22_40) rfl (flt c40).1 z_) ?_
       refine own_g (own_F T0 m 44 #[iv ch] [(.int ch)]) (fun _ z_ => XS.iloadN X0.here hx rfl (hb hby own_d22_43) rfl z_) ?_
       refine own_g (own_F T0 m 46 #[iv ch] [(.int 57), (.int ch)]) (fun _ z_ => XS.bipush X0.here hx rfl (hb hby own_d22_44) z_) ?_
       by_cases c46 : (57 : Int32) < ch
       · -- pc 46: (57 : Int32) < ch
        refine own_g (own_F T0 m 57 #[iv ch] []) (fun _ z_ => XS.icmpYes X0.here hx rfl (pc0 := 46) (pc' := 57) rfl (hb hby own_d22_46) rfl (tlt c46).2.2.1 (by decide) (by decide) z_) ?_
        refine own_g (own_F T0 m 58 #[iv ch] [(.int ch)]) (fun _ z_ => XS.iloadN X0.here hx rfl (hb hby own_d22_57) rfl z_) ?_
        refine own_g (own_F T0 m 60 #[iv ch] [(.int 45), (.int ch)]) (fun _ z_ => XS.bipush X0.here hx rfl (hb hby own_d22_58) z_) ?_
        by_cases c60 : ch = (45 : Int32)
        · -- pc 60: ch = (45 : Int32)
         refine own_g (own_F T0 m 63 #[iv ch] []) (fun _ z_ => XS.icmpNo X0.here hx rfl (hb hby own_d22_60) rfl (teq c60).2 z_) ?_
         refine own_g (own_F T0 m 65 #[iv ch] [(.int 62)]) (fun _ z_ => XS.bipush X0.here hx rfl (hb hby own_d22_63) z_) ?_
         refine own_ret (t := .int) X0 hx hlk hrt rfl (Or.inl ⟨rfl, by simp, _, rfl⟩) (hb hby own_d22_65) (by decide) (by decide) ?_
         refine ⟨congrArg (fun z => some (Value.int z)) ?_, N0, e0⟩
         unfold own_sym at hs
         simp only [Int32.lt_iff_toInt_lt, ← Int32.toInt_inj, Int32.reduceToInt] at c3 c9 c20 c26 c40 c46 c60
         rw [← Int32.toInt_inj]
         simp only [Int32.reduceToInt] at *
         omega
        · -- pc 60: not ch = (45 : Int32)
         refine own_g (own_F T0 m 66 #[iv ch] []) (fun _ z_ => XS.icmpYes X0.here hx rfl (pc0 := 60) (pc' := 66) rfl (hb hby own_d22_60) rfl (feq c60).2 (by decide) (by decide) z_) ?_
         refine own_g (own_F T0 m 67 #[iv ch] [(.int ch)]) (fun _ z_ => XS.iloadN X0.here hx rfl (hb hby own_d22_66) rfl z_) ?_
         refine own_g (own_F T0 m 69 #[iv ch] [(.int 95), (.int ch)]) (fun _ z_ => XS.bipush X0.here hx rfl (hb hby own_d22_67) z_) ?_
         by_cases c69 : ch = (95 : Int32)
         · -- pc 69: ch = (95 : Int32)
          refine own_g (own_F T0 m 72 #[iv ch] []) (fun _ z_ => XS.icmpNo X0.here hx rfl (hb hby own_d22_69) rfl (teq c69).2 z_) ?_
          refine own_g (own_F T0 m 74 #[iv ch] [(.int 63)]) (fun _ z_ => XS.bipush X0.here hx rfl (hb hby own_d22_72) z_) ?_
          refine own_g (own_F T0 m 78 #[iv ch] [(.int 63)]) (fun _ z_ => XS.goto X0.here hx rfl (pc0 := 74) (pc' := 78) rfl (hb hby own_d22_74) (by decide) (by decide) z_) ?_
          refine own_ret (t := .int) X0 hx hlk hrt rfl (Or.inl ⟨rfl, by simp, _, rfl⟩) (hb hby own_d22_78) (by decide) (by decide) ?_
          refine ⟨congrArg (fun z => some (Value.int z)) ?_, N0, e0⟩
          unfold own_sym at hs
          simp only [Int32.lt_iff_toInt_lt, ← Int32.toInt_inj, Int32.reduceToInt] at c3 c9 c20 c26 c40 c46 c60 c69
          rw [← Int32.toInt_inj]
          simp only [Int32.reduceToInt] at *
          omega
         · -- pc 69: not ch = (95 : Int32)
          refine own_g (own_F T0 m 77 #[iv ch] []) (fun _ z_ => XS.icmpYes X0.here hx rfl (pc0 := 69) (pc' := 77) rfl (hb hby own_d22_69) rfl (feq c69).2 (by decide) (by decide) z_) ?_
          refine own_g (own_F T0 m 78 #[iv ch] [(.int (-1))]) (fun _ z_ => XS.iconst X0.here hx rfl (hb hby own_d22_77) z_) ?_
          refine own_ret (t := .int) X0 hx hlk hrt rfl (Or.inl ⟨rfl, by simp, _, rfl⟩) (hb hby own_d22_78) (by decide) (by decide) ?_
          refine ⟨congrArg (fun z => some (Value.int z)) ?_, N0, e0⟩
          unfold own_sym at hs
          simp only [Int32.lt_iff_toInt_lt, ← Int32.toInt_inj, Int32.reduceToInt] at c3 c9 c20 c26 c40 c46 c60 c69
          rw [← Int32.toInt_inj]
          simp only [Int32.reduceToInt] at *
          omega
       · -- pc 46: not (57 : Int32) < ch
        refine own_g (own_F T0 m 49 #[iv ch] []) (fun _ z_ => XS.icmpNo X0.here hx rfl (hb hby own_d22_46) rfl (flt c46).2.2.1 z_) ?_
        refine own_g (own_F T0 m 50 #[iv ch] [(.int ch)]) (fun _ z_ => XS.iloadN X0.here hx rfl (hb hby own_d22_49) rfl z_) ?_
        refine own_g (own_F T0 m 52 #[iv ch] [(.int 48), (.int ch)]) (fun _ z_ => XS.bipush X0.here hx rfl (hb hby own_d22_50) z_) ?_
        refine own_g (own_F T0 m 53 #[iv ch] [(.int (ch - (48 : Int32)))]) (fun _ z_ => XS.isub X0.here hx rfl (hb hby own_d22_52) rfl z_) ?_
        refine own_g (own_F T0 m 55 #[iv ch] [(.int 52), (.int (ch - (48 : Int32)))]) (fun _ z_ => XS.bipush X0.here hx rfl (hb hby own_d22_53) z_) ?_
        refine own_g (own_F T0 m 56 #[iv ch] [(.int ((ch - (48 : Int32)) + (52 : Int32)))]) (fun _ z_ => XS.iadd X0.here hx rfl (hb hby own_d22_55) rfl z_) ?_
        refine own_ret (t := .int) X0 hx hlk hrt rfl (Or.inl ⟨rfl, by simp, _, rfl⟩) (hb hby own_d22_56) (by decide) (by decide) ?_
        refine ⟨congrArg (fun z => some (Value.int z)) ?_, N0, e0⟩
        unfold own_sym at hs
        simp only [Int32.lt_iff_toInt_lt, ← Int32.toInt_inj, Int32.reduceToInt] at c3 c9 c20 c26 c40 c46
        have h1 := c_isub ch (48 : Int32)
        have h3 := rng32 (ch - (48 : Int32))
        have h2 := c_iadd (ch - (48 : Int32)) (52 : Int32)
        have h4 := rng32 ((ch - (48 : Int32)) + (52 : Int32))
        rw [← Int32.toInt_inj]
        simp only [Int32.reduceToInt] at *
        omega
     · -- pc 26: not (122 : Int32) < ch
      refine own_g (own_F T0 m 29 #[iv ch] []) (fun _ z_ => XS.icmpNo X0.here hx rfl (hb hby own_d22_26) rfl (flt c26).2.2.1 z_) ?_
      refine own_g (own_F T0 m 30 #[iv ch] [(.int ch)]) (fun _ z_ => XS.iloadN X0.here hx rfl (hb hby own_d22_29) rfl z_) ?_
      refine own_g (own_F T0 m 32 #[iv ch] [(.int 97), (.int ch)]) (fun _ z_ => XS.bipush X0.here hx rfl (hb hby own_d22_30) z_) ?_
      refine own_g (own_F T0 m 33 #[iv ch] [(.int (ch - (97 : Int32)))]) (fun _ z_ => XS.isub X0.here hx rfl (hb hby own_d22_32) rfl z_) ?_
      refine own_g (own_F T0 m 35 #[iv ch] [(.int 26), (.int (ch - (97 : Int32)))]) (fun _ z_ => XS.bipush X0.here hx rfl (hb hby own_d22_33) z_) ?_
      refine own_g (own_F T0 m 36 #[iv ch] [(.int ((ch - (97 : Int32)) + (26 : Int32)))]) (fun _ z_ => XS.iadd X0.here hx rfl (hb hby own_d22_35) rfl z_) ?_
      refine own_ret (t := .int) X0 hx hlk hrt rfl (Or.inl ⟨rfl, by simp, _, rfl⟩) (hb hby own_d22_36) (by decide) (by decide) ?_
      refine ⟨congrArg (fun z => some (Value.int z)) ?_, N0, e0⟩
      unfold own_sym at hs
      simp only [Int32.lt_iff_toInt_lt, ← Int32.toInt_inj, Int32.reduceToInt] at c3 c9 c20 c26
      have h1 := c_isub ch (97 : Int32)
      have h3 := rng32 (ch - (97 : Int32))
      have h2 := c_iadd (ch - (97 : Int32)) (26 : Int32)
      have h4 := rng32 ((ch - (97 : Int32)) + (26 : Int32))
      rw [← Int32.toInt_inj]
      simp only [Int32.reduceToInt] at *
      omega
   · -- pc 9: not (90 : Int32) < ch
    refine own_g (own_F T0 m 12 #[iv ch] []) (fun _ z_ => XS.icmpNo X0.here hx rfl (hb hby own_d22_9) rfl (flt c9).2.2.1 z_) ?_
    refine own_g (own_F T0 m 13 #[iv ch] [(.int ch)]) (fun _ z_ => XS.iloadN X0.here hx rfl (hb hby own_d22_12) rfl z_) ?_
    refine own_g (own_F T0 m 15 #[iv ch] [(.int 65), (.int ch)]) (fun _ z_ => XS.bipush X0.here hx rfl (hb hby own_d22_13) z_) ?_
    refine own_g (own_F T0 m 16 #[iv ch] [(.int (ch - (65 : Int32)))]) (fun _ z_ => XS.isub X0.here hx rfl (hb hby own_d22_15) rfl z_) ?_
    refine own_ret (t := .int) X0 hx hlk hrt rfl (Or.inl ⟨rfl, by simp, _, rfl⟩) (hb hby own_d22_16) (by decide) (by decide) ?_
    refine ⟨congrArg (fun z => some (Value.int z)) ?_, N0, e0⟩
    unfold own_sym at hs
    simp only [Int32.lt_iff_toInt_lt, ← Int32.toInt_inj, Int32.reduceToInt] at c3 c9
    have h1 := c_isub ch (65 : Int32)
    have h3 := rng32 (ch - (65 : Int32))
    rw [← Int32.toInt_inj]
    simp only [Int32.reduceToInt] at *
    omega
set_option maxRecDepth 65536 in
set_option maxHeartbeats 40000000 in
theorem own_at (l : Launch) (Z : State) (a0 : Array Value) (hw : ∀ d ∈ tables_1, d.before a0 Z = true) (ws : List Jvm.Cond) (r : Addr) (n k : Nat) (j e1 : Int32) (g : Nat → Int32) (h0 : Heap) (n0 : Nat) (Z0 : n0 ≤ h0.size) (hj : j.toInt = (k : Int)) (hg : k < n → g k = e1.toInt8.toInt32) (Ar : own_A Z h0 r .byte n (fun i => .int (g i))) :
    own_Met l Z (⟨"com/example/claimgate/claimgate/jose/Base64UrlDecodePinLaw", "at", "([BII)Z"⟩ : MethodName) method_3_code 3 (some .boolean) ws ({ frames := 0, cells := 0, slots := 0, locals := 0 } : Room) #[(.ref r), (.int j), (.int e1)] h0 (fun v h L => v = some (.int (1 : Int32)) ∧ Fr n0 L ∧ h = h0) := by
  refine own_body own_pn20 (fun m => mkF m 0 #[rv r, iv j, iv e1] []) (fun m => own_ef_own_at m r j e1) ?_
  intro p e s m below meth c T0 hx hby hml hlk hrt hZ hown hnm X0 e0
  have hown : s.vm.findClass "com/example/claimgate/claimgate/jose/Base64UrlDecodePinLaw" = some m.cls := hown
  have N0 := Fr.nil n0
  refine own_g (own_F T0 m 1 #[rv r, iv j, iv e1] [(.int j)]) (fun _ z_ => XS.iloadN X0.here hx rfl (hb hby own_d9_0) rfl z_) ?_
  refine own_g (own_F T0 m 2 #[rv r, iv j, iv e1] [(.ref r), (.int j)]) (fun _ z_ => XS.aloadN X0.here hx rfl (hb hby own_d9_1) rfl rfl z_) ?_
  refine own_alen X0 hx hZ e0 Ar (hb hby own_d9_2) ?_
  show own_Ends p e below s _ _ _ (own_F T0 m 3 #[rv r, iv j, iv e1] [(.int (Nat.toInt32 n)), (.int j)])
  by_cases c3 : j < (Nat.toInt32 n)
  · -- pc 3: j < (Nat.toInt32 n)
   refine own_g (own_F T0 m 6 #[rv r, iv j, iv e1] []) (fun _ z_ => XS.icmpNo X0.here hx rfl (hb hby own_d9_3) rfl (tlt c3).2.1 z_) ?_
   have hk : k < n := own_ltn hj Ar.1 c3
   refine own_g (own_F T0 m 7 #[rv r, iv j, iv e1] [(.ref r)]) (fun _ z_ => XS.aloadN X0.here hx rfl (hb hby own_d9_6) rfl rfl z_) ?_
   refine own_g (own_F T0 m 8 #[rv r, iv j, iv e1] [(.int j), (.ref r)]) (fun _ z_ => XS.iloadN X0.here hx rfl (hb hby own_d9_7) rfl z_) ?_
   refine own_bald X0 hx hZ e0 Ar k hj hk (hb hby own_d9_8) ?_
   show own_Ends p e below s _ _ _ (own_F T0 m 9 #[rv r, iv j, iv e1] [(.int (g k))])
   refine own_g (own_F T0 m 10 #[rv r, iv j, iv e1] [(.int e1), (.int (g k))]) (fun _ z_ => XS.iloadN X0.here hx rfl (hb hby own_d9_9) rfl z_) ?_
   refine own_g (own_F T0 m 11 #[rv r, iv j, iv e1] [(.int (e1.toInt8.toInt32)), (.int (g k))]) (fun _ z_ => XS.i2b X0.here hx rfl (hb hby own_d9_10) rfl z_) ?_
   refine own_g (own_F T0 m 14 #[rv r, iv j, iv e1] []) (fun _ z_ => XS.icmpNo X0.here hx rfl (hb hby own_d9_11) rfl (teq (hg hk)).2 z_) ?_
   refine own_g (own_F T0 m 15 #[rv r, iv j, iv e1] [(.int 1)]) (fun _ z_ => XS.iconst X0.here hx rfl (hb hby own_d9_14) z_) ?_
   refine own_g (own_F T0 m 19 #[rv r, iv j, iv e1] [(.int 1)]) (fun _ z_ => XS.goto X0.here hx rfl (pc0 := 15) (pc' := 19) rfl (hb hby own_d9_15) (by decide) (by decide) z_) ?_
   refine own_ret (t := .boolean) X0 hx hlk hrt rfl (Or.inl ⟨rfl, by simp, _, rfl⟩) (hb hby own_d9_19) (by decide) (by decide) ?_
   exact ⟨rfl, N0, e0⟩
  · -- pc 3: not j < (Nat.toInt32 n)
   refine own_g (own_F T0 m 14 #[rv r, iv j, iv e1] []) (fun _ z_ => XS.icmpYes X0.here hx rfl (pc0 := 3) (pc' := 14) rfl (hb hby own_d9_3) rfl (flt c3).2.1 (by decide) (by decide) z_) ?_
   refine own_g (own_F T0 m 15 #[rv r, iv j, iv e1] [(.int 1)]) (fun _ z_ => XS.iconst X0.here hx rfl (hb hby own_d9_14) z_) ?_
   refine own_g (own_F T0 m 19 #[rv r, iv j, iv e1] [(.int 1)]) (fun _ z_ => XS.goto X0.here hx rfl (pc0 := 15) (pc' := 19) rfl (hb hby own_d9_15) (by decide) (by decide) z_) ?_
   refine own_ret (t := .boolean) X0 hx hlk hrt rfl (Or.inl ⟨rfl, by simp, _, rfl⟩) (hb hby own_d9_19) (by decide) (by decide) ?_
   exact ⟨rfl, N0, e0⟩
set_option maxRecDepth 65536 in
set_option maxHeartbeats 40000000 in
theorem own_dec0 (l : Launch) (Z : State) (a0 : Array Value) (hw : ∀ d ∈ tables_1, d.before a0 Z = true) (ws : List Jvm.Cond) (x : Addr) (p1 tt zc : Int32) (P : Nat) (f : Nat → Int32) (sv : Value) (hsv : sv.isRef = true) (y0 y1 y2 y3 y4 : Int32) (h0 : Heap) (n0 : Nat) (Z0 : n0 ≤ h0.size) (hp : p1.toInt = (P : Int)) (hP : P ≤ 3) (ht : tt.toInt = ((P + 0 : Nat) : Int)) (hzc : ¬ zc = (0 : Int32)) (hS : own_Str Z h0 x 11 f) (S_cs : Sta Z h0 "java/lang/String" "COMPACT_STRINGS" "Z" (.int zc)) (S_sf : Sta Z h0 "jdk/internal/util/Preconditions" "SIOOBE_FORMATTER" "Ljava/util/function/BiFunction;" sv) (S_ad : Sta Z h0 "java/lang/StringUTF16" "$assertionsDisabled" "Z" (.int (1 : Int32))) (S_hi : Sta Z h0 "java/lang/StringUTF16" "HI_BYTE_SHIFT" "I" (.int (0 : Int32))) (S_lo : Sta Z h0 "java/lang/StringUTF16" "LO_BYTE_SHIFT" "I" (.int (8 : Int32))) (hb0 : 0 ≤ y0.toInt ∧ y0.toInt ≤ 0) (hb1 : 0 ≤ y1.toInt ∧ y1.toInt ≤ 0) (hb2 : 0 ≤ y2.toInt ∧ y2.toInt ≤ 0) (hb3 : 0 ≤ y3.toInt ∧ y3.toInt ≤ 0) (hb4 : 0 ≤ y4.toInt ∧ y4.toInt ≤ 0) :
    own_Met l Z (⟨"com/example/claimgate/claimgate/jose/Base64Url", "decode", "(Ljava/lang/String;II)[B"⟩ : MethodName) prog_23_method_3_code 10 (some (.array .byte)) ws ({ frames := 0, cells := 1, slots := 0, locals := 0 } : Room) #[(.ref x), (.int p1), (.int tt)] h0 (fun v h L => ∃ (r : Addr) (g : Nat → Int32), v = some (.ref r) ∧ Fr n0 L ∧ Keep h0 h [] ∧ n0 ≤ r ∧ own_A Z h r .byte 0 (fun i => .int (g i))) := by
  refine own_body own_pn21 (fun m => mkF m 0 #[rv x, iv p1, iv tt, .unset, .unset, .unset, .unset, .unset, .unset, .unset] []) (fun m => own_ef_own_dec0 m x p1 tt) ?_
  intro p e s m below meth c T0 hx hby hml hlk hrt hZ hown hnm X0 e0
  have hown : s.vm.findClass "com/example/claimgate/claimgate/jose/Base64Url" = some m.cls := hown
  have N0 := Fr.nil n0
  have hES := own_Str.exa hS
  refine own_g (own_F T0 m 1 #[rv x, iv p1, iv tt, .unset, .unset, .unset, .unset, .unset, .unset, .unset] [(.int tt)]) (fun _ z_ => XS.iloadN X0.here hx rfl (hb hby own_d8_0) rfl z_) ?_
  refine own_g (own_F T0 m 2 #[rv x, iv p1, iv tt, .unset, .unset, .unset, .unset, .unset, .unset, .unset] [(.int p1), (.int tt)]) (fun _ z_ => XS.iloadN X0.here hx rfl (hb hby own_d8_1) rfl z_) ?_
  refine own_g (own_F T0 m 3 #[rv x, iv p1, iv tt, .unset, .unset, .unset, .unset, .unset, .unset, .unset] [(.int (tt - p1))]) (fun _ z_ => XS.isub X0.here hx rfl (hb hby own_d8_2) rfl z_) ?_
  rw [(own_len hp ht : (tt - p1) = (0 : Int32))]
  refine own_g (own_F T0 m 4 #[rv x, iv p1, iv tt, iv 0, .unset, .unset, .unset, .unset, .unset, .unset] []) (fun _ z_ => XS.istoreN X0.here hx rfl (hb hby own_d8_3) rfl (l' := #[rv x, iv p1, iv tt, iv 0, .unset, .unset, .unset, .unset, .unset, .unset]) rfl z_) ?_
  refine own_g (own_F T0 m 5 #[rv x, iv p1, iv tt, iv 0, .unset, .unset, .unset, .unset, .unset, .unset] [(.int 0)]) (fun _ z_ => XS.iloadN X0.here hx rfl (hb hby own_d8_4) rfl z_) ?_
  refine own_g (own_F T0 m 6 #[rv x, iv p1, iv tt, iv 0, .unset, .unset, .unset, .unset, .unset, .unset] [(.int 4), (.int 0)]) (fun _ z_ => XS.iconst X0.here hx rfl (hb hby own_d8_5) z_) ?_
  refine own_g (own_F T0 m 7 #[rv x, iv p1, iv tt, iv 0, .unset, .unset, .unset, .unset, .unset, .unset] [(.int 0)]) (fun _ z_ => iremM X0 hx rfl (hb hby own_d8_6) rfl (by decide) z_) ?_
  refine own_g (own_F T0 m 8 #[rv x, iv p1, iv tt, iv 0, .unset, .unset, .unset, .unset, .unset, .unset] [(.int 1), (.int 0)]) (fun _ z_ => XS.iconst X0.here hx rfl (hb hby own_d8_7) z_) ?_
  refine own_g (own_F T0 m 21 #[rv x, iv p1, iv tt, iv 0, .unset, .unset, .unset, .unset, .unset, .unset] []) (fun _ z_ => XS.icmpYes X0.here hx rfl (pc0 := 8) (pc' := 21) rfl (hb hby own_d8_8) rfl (feq (by decide : ¬ ((0 : Int32) = (1 : Int32)))).2 (by decide) (by decide) z_) ?_
  refine own_g (own_F T0 m 22 #[rv x, iv p1, iv tt, iv 0, .unset, .unset, .unset, .unset, .unset, .unset] [(.int 0)]) (fun _ z_ => XS.iloadN X0.here hx rfl (hb hby own_d8_21) rfl z_) ?_
  refine own_g (own_F T0 m 24 #[rv x, iv p1, iv tt, iv 0, .unset, .unset, .unset, .unset, .unset, .unset] [(.int 6), (.int 0)]) (fun _ z_ => XS.bipush X0.here hx rfl (hb hby own_d8_22) z_) ?_
  refine own_g (own_F T0 m 25 #[rv x, iv p1, iv tt, iv 0, .unset, .unset, .unset, .unset, .unset, .unset] [(.int 0)]) (fun _ z_ => XS.imul X0.here hx rfl (hb hby own_d8_24) rfl z_) ?_
  refine own_g (own_F T0 m 27 #[rv x, iv p1, iv tt, iv 0, .unset, .unset, .unset, .unset, .unset, .unset] [(.int 8), (.int 0)]) (fun _ z_ => XS.bipush X0.here hx rfl (hb hby own_d8_25) z_) ?_
  refine own_g (own_F T0 m 28 #[rv x, iv p1, iv tt, iv 0, .unset, .unset, .unset, .unset, .unset, .unset] [(.int 0)]) (fun _ z_ => XS.idiv X0.here hx rfl (hb hby own_d8_27) rfl (by decide) z_) ?_
  refine own_newA X0 hx hZ .byte rfl (own_w hw 23) e0 (hb hby own_d8_28) 0 rfl 0 (by decide) (by decide) (by decide) (by decide) ?_
  intro T1 h1 b1 X1 e1 E1 g1 A1
  have sz_b1 : h0.size ≤ b1 := Nat.le_trans (Nat.le_refl h0.size) (Nat.le_of_eq g1.symm)
  have ge_b1 : n0 ≤ b1 := Nat.le_trans Z0 (Nat.le_of_eq g1.symm)
  have ne_x_b1 : x ≠ b1 := Nat.ne_of_lt (Nat.lt_of_lt_of_le hES.lt (Nat.le_of_eq g1.symm))
  have A1 : own_A Z h1 b1 .byte 0 (fun q_ => .int ((fun _ => (0 : Int32)) q_)) := A1
  show own_Ends p e below s _ _ _ (own_F T1 m 30 #[rv x, iv p1, iv tt, iv 0, .unset, .unset, .unset, .unset, .unset, .unset] [(.ref b1)])
  refine own_g (own_F T1 m 32 #[rv x, iv p1, iv tt, iv 0, rv b1, .unset, .unset, .unset, .unset, .unset] []) (fun _ z_ => XS.astore X1.here hx rfl (hb hby own_d8_30) rfl rfl (l' := #[rv x, iv p1, iv tt, iv 0, rv b1, .unset, .unset, .unset, .unset, .unset]) rfl z_) ?_
  refine own_g (own_F T1 m 33 #[rv x, iv p1, iv tt, iv 0, rv b1, .unset, .unset, .unset, .unset, .unset] [(.int 0)]) (fun _ z_ => XS.iconst X1.here hx rfl (hb hby own_d8_32) z_) ?_
  refine own_g (own_F T1 m 35 #[rv x, iv p1, iv tt, iv 0, rv b1, iv 0, .unset, .unset, .unset, .unset] []) (fun _ z_ => XS.istore X1.here hx rfl (hb hby own_d8_33) rfl (l' := #[rv x, iv p1, iv tt, iv 0, rv b1, iv 0, .unset, .unset, .unset, .unset]) rfl z_) ?_
  refine own_g (own_F T1 m 36 #[rv x, iv p1, iv tt, iv 0, rv b1, iv 0, .unset, .unset, .unset, .unset] [(.int 0)]) (fun _ z_ => XS.iconst X1.here hx rfl (hb hby own_d8_35) z_) ?_
  refine own_g (own_F T1 m 38 #[rv x, iv p1, iv tt, iv 0, rv b1, iv 0, iv 0, .unset, .unset, .unset] []) (fun _ z_ => XS.istore X1.here hx rfl (hb hby own_d8_36) rfl (l' := #[rv x, iv p1, iv tt, iv 0, rv b1, iv 0, iv 0, .unset, .unset, .unset]) rfl z_) ?_
  refine own_g (own_F T1 m 39 #[rv x, iv p1, iv tt, iv 0, rv b1, iv 0, iv 0, .unset, .unset, .unset] [(.int 0)]) (fun _ z_ => XS.iconst X1.here hx rfl (hb hby own_d8_38) z_) ?_
  refine own_g (own_F T1 m 41 #[rv x, iv p1, iv tt, iv 0, rv b1, iv 0, iv 0, iv 0, .unset, .unset] []) (fun _ z_ => XS.istore X1.here hx rfl (hb hby own_d8_39) rfl (l' := #[rv x, iv p1, iv tt, iv 0, rv b1, iv 0, iv 0, iv 0, .unset, .unset]) rfl z_) ?_
  refine own_g (own_F T1 m 42 #[rv x, iv p1, iv tt, iv 0, rv b1, iv 0, iv 0, iv 0, .unset, .unset] [(.int p1)]) (fun _ z_ => XS.iloadN X1.here hx rfl (hb hby own_d8_41) rfl z_) ?_
  refine own_g (own_F T1 m 44 #[rv x, iv p1, iv tt, iv 0, rv b1, iv 0, iv 0, iv 0, iv p1, .unset] []) (fun _ z_ => XS.istore X1.here hx rfl (hb hby own_d8_42) rfl (l' := #[rv x, iv p1, iv tt, iv 0, rv b1, iv 0, iv 0, iv 0, iv p1, .unset]) rfl z_) ?_
  have hi0 : p1.toInt = ((P + 0 : Nat) : Int) := hp
  refine own_g (own_F T1 m 46 #[rv x, iv p1, iv tt, iv 0, rv b1, iv 0, iv 0, iv 0, iv p1, .unset] [(.int p1)]) (fun _ z_ => XS.iload X1.here hx rfl (hb hby own_d8_44) rfl z_) ?_
  refine own_g (own_F T1 m 47 #[rv x, iv p1, iv tt, iv 0, rv b1, iv 0, iv 0, iv 0, iv p1, .unset] [(.int tt), (.int p1)]) (fun _ z_ => XS.iloadN X1.here hx rfl (hb hby own_d8_46) rfl z_) ?_
  refine own_g (own_F T1 m 130 #[rv x, iv p1, iv tt, iv 0, rv b1, iv 0, iv 0, iv 0, iv p1, .unset] []) (fun _ z_ => XS.icmpYes X1.here hx rfl (pc0 := 47) (pc' := 130) rfl (hb hby own_d8_47) rfl (flt (own_ge3 hi0 ht (Nat.le_refl _))).2.1 (by decide) (by decide) z_) ?_
  refine own_g (own_F T1 m 132 #[rv x, iv p1, iv tt, iv 0, rv b1, iv 0, iv 0, iv 0, iv p1, .unset] [(.int 0)]) (fun _ z_ => XS.iload X1.here hx rfl (hb hby own_d8_130) rfl z_) ?_
  refine own_g (own_F T1 m 145 #[rv x, iv p1, iv tt, iv 0, rv b1, iv 0, iv 0, iv 0, iv p1, .unset] []) (fun _ z_ => XS.ifYes X1.here hx rfl (pc0 := 132) (pc' := 145) rfl (hb hby own_d8_132) rfl ((if0 _ _).trans (teq (by decide : ((0 : Int32) = (0 : Int32)))).1) (by decide) (by decide) z_) ?_
  refine own_g (own_F T1 m 147 #[rv x, iv p1, iv tt, iv 0, rv b1, iv 0, iv 0, iv 0, iv p1, .unset] [(.ref b1)]) (fun _ z_ => XS.aload X1.here hx rfl (hb hby own_d8_145) rfl rfl z_) ?_
  refine own_ret (t := (.array .byte)) X1 hx hlk hrt rfl (Or.inr (Or.inr (Or.inr (Or.inr ⟨rfl, rfl, rfl⟩)))) (hb hby own_d8_147) (by decide) (by decide) ?_
  show ∃ (r : Addr) (g : Nat → Int32), _ ∧ Fr n0 _ ∧ Keep h0 T1.heap [] ∧ n0 ≤ r ∧ own_A Z T1.heap r .byte 0 (fun i => .int (g i))
  rw [e1]
  exact ⟨b1, _, rfl, N0, ((Keep.refl _ _).ext E1), ge_b1, A1⟩
set_option maxRecDepth 65536 in
set_option maxHeartbeats 40000000 in
theorem own_dec1 (l : Launch) (Z : State) (a0 : Array Value) (hw : ∀ d ∈ tables_1, d.before a0 Z = true) (ws : List Jvm.Cond) (x : Addr) (p1 tt zc : Int32) (P : Nat) (f : Nat → Int32) (sv : Value) (hsv : sv.isRef = true) (y0 y1 y2 y3 y4 v0 v1 : Int32) (h0 : Heap) (n0 : Nat) (Z0 : n0 ≤ h0.size) (hp : p1.toInt = (P : Int)) (hP : P ≤ 3) (ht : tt.toInt = ((P + 2 : Nat) : Int)) (hzc : ¬ zc = (0 : Int32)) (hS : own_Str Z h0 x 11 f) (S_cs : Sta Z h0 "java/lang/String" "COMPACT_STRINGS" "Z" (.int zc)) (S_sf : Sta Z h0 "jdk/internal/util/Preconditions" "SIOOBE_FORMATTER" "Ljava/util/function/BiFunction;" sv) (S_ad : Sta Z h0 "java/lang/StringUTF16" "$assertionsDisabled" "Z" (.int (1 : Int32))) (S_hi : Sta Z h0 "java/lang/StringUTF16" "HI_BYTE_SHIFT" "I" (.int (0 : Int32))) (S_lo : Sta Z h0 "java/lang/StringUTF16" "LO_BYTE_SHIFT" "I" (.int (8 : Int32))) (hs0 : own_sym (f (P + 0)) v0) (hs1 : own_sym (f (P + 1)) v1) (hr0 : v0.toInt = y0.toInt / 4) (hr1 : v1.toInt = (y0.toInt % 4) * 16 + y1.toInt / 16) (hb0 : 0 ≤ y0.toInt ∧ y0.toInt ≤ 255) (hb1 : 0 ≤ y1.toInt ∧ y1.toInt ≤ 0) (hb2 : 0 ≤ y2.toInt ∧ y2.toInt ≤ 0) (hb3 : 0 ≤ y3.toInt ∧ y3.toInt ≤ 0) (hb4 : 0 ≤ y4.toInt ∧ y4.toInt ≤ 0) :
    own_Met l Z (⟨"com/example/claimgate/claimgate/jose/Base64Url", "decode", "(Ljava/lang/String;II)[B"⟩ : MethodName) prog_23_method_3_code 10 (some (.array .byte)) ws ({ frames := 5, cells := 1, slots := 1, locals := 66 } : Room) #[(.ref x), (.int p1), (.int tt)] h0 (fun v h L => ∃ (r : Addr) (g : Nat → Int32), v = some (.ref r) ∧ Fr n0 L ∧ Keep h0 h [] ∧ n0 ≤ r ∧ own_A Z h r .byte 1 (fun i => .int (g i)) ∧ g 0 = y0.toInt8.toInt32) := by
  refine own_body own_pn21 (fun m => mkF m 0 #[rv x, iv p1, iv tt, .unset, .unset, .unset, .unset, .unset, .unset, .unset] []) (fun m => own_ef_own_dec1 m x p1 tt) ?_
  intro p e s m below meth c T0 hx hby hml hlk hrt hZ hown hnm X0 e0
  have hown : s.vm.findClass "com/example/claimgate/claimgate/jose/Base64Url" = some m.cls := hown
  have N0 := Fr.nil n0
  have hES := own_Str.exa hS
  refine own_g (own_F T0 m 1 #[rv x, iv p1, iv tt, .unset, .unset, .unset, .unset, .unset, .unset, .unset] [(.int tt)]) (fun _ z_ => XS.iloadN X0.here hx rfl (hb hby own_d8_0) rfl z_) ?_
  refine own_g (own_F T0 m 2 #[rv x, iv p1, iv tt, .unset, .unset, .unset, .unset, .unset, .unset, .unset] [(.int p1), (.int tt)]) (fun _ z_ => XS.iloadN X0.here hx rfl (hb hby own_d8_1) rfl z_) ?_
  refine own_g (own_F T0 m 3 #[rv x, iv p1, iv tt, .unset, .unset, .unset, .unset, .unset, .unset, .unset] [(.int (tt - p1))]) (fun _ z_ => XS.isub X0.here hx rfl (hb hby own_d8_2) rfl z_) ?_
  rw [(own_len hp ht : (tt - p1) = (2 : Int32))]
  refine own_g (own_F T0 m 4 #[rv x, iv p1, iv tt, iv 2, .unset, .unset, .unset, .unset, .unset, .unset] []) (fun _ z_ => XS.istoreN X0.here hx rfl (hb hby own_d8_3) rfl (l' := #[rv x, iv p1, iv tt, iv 2, .unset, .unset, .unset, .unset, .unset, .unset]) rfl z_) ?_
  refine own_g (own_F T0 m 5 #[rv x, iv p1, iv tt, iv 2, .unset, .unset, .unset, .unset, .unset, .unset] [(.int 2)]) (fun _ z_ => XS.iloadN X0.here hx rfl (hb hby own_d8_4) rfl z_) ?_
  refine own_g (own_F T0 m 6 #[rv x, iv p1, iv tt, iv 2, .unset, .unset, .unset, .unset, .unset, .unset] [(.int 4), (.int 2)]) (fun _ z_ => XS.iconst X0.here hx rfl (hb hby own_d8_5) z_) ?_
  refine own_g (own_F T0 m 7 #[rv x, iv p1, iv tt, iv 2, .unset, .unset, .unset, .unset, .unset, .unset] [(.int 2)]) (fun _ z_ => iremM X0 hx rfl (hb hby own_d8_6) rfl (by decide) z_) ?_
  refine own_g (own_F T0 m 8 #[rv x, iv p1, iv tt, iv 2, .unset, .unset, .unset, .unset, .unset, .unset] [(.int 1), (.int 2)]) (fun _ z_ => XS.iconst X0.here hx rfl (hb hby own_d8_7) z_) ?_
  refine own_g (own_F T0 m 21 #[rv x, iv p1, iv tt, iv 2, .unset, .unset, .unset, .unset, .unset, .unset] []) (fun _ z_ => XS.icmpYes X0.here hx rfl (pc0 := 8) (pc' := 21) rfl (hb hby own_d8_8) rfl (feq (by decide : ¬ ((2 : Int32) = (1 : Int32)))).2 (by decide) (by decide) z_) ?_
  refine own_g (own_F T0 m 22 #[rv x, iv p1, iv tt, iv 2, .unset, .unset, .unset, .unset, .unset, .unset] [(.int 2)]) (fun _ z_ => XS.iloadN X0.here hx rfl (hb hby own_d8_21) rfl z_) ?_
  refine own_g (own_F T0 m 24 #[rv x, iv p1, iv tt, iv 2, .unset, .unset, .unset, .unset, .unset, .unset] [(.int 6), (.int 2)]) (fun _ z_ => XS.bipush X0.here hx rfl (hb hby own_d8_22) z_) ?_
  refine own_g (own_F T0 m 25 #[rv x, iv p1, iv tt, iv 2, .unset, .unset, .unset, .unset, .unset, .unset] [(.int 12)]) (fun _ z_ => XS.imul X0.here hx rfl (hb hby own_d8_24) rfl z_) ?_
  refine own_g (own_F T0 m 27 #[rv x, iv p1, iv tt, iv 2, .unset, .unset, .unset, .unset, .unset, .unset] [(.int 8), (.int 12)]) (fun _ z_ => XS.bipush X0.here hx rfl (hb hby own_d8_25) z_) ?_
  refine own_g (own_F T0 m 28 #[rv x, iv p1, iv tt, iv 2, .unset, .unset, .unset, .unset, .unset, .unset] [(.int 1)]) (fun _ z_ => XS.idiv X0.here hx rfl (hb hby own_d8_27) rfl (by decide) z_) ?_
  refine own_newA X0 hx hZ .byte rfl (own_w hw 23) e0 (hb hby own_d8_28) 1 rfl 1 (by decide) (by decide) (by decide) (by decide) ?_
  intro T1 h1 b1 X1 e1 E1 g1 A1
  have sz_b1 : h0.size ≤ b1 := Nat.le_trans (Nat.le_refl h0.size) (Nat.le_of_eq g1.symm)
  have ge_b1 : n0 ≤ b1 := Nat.le_trans Z0 (Nat.le_of_eq g1.symm)
  have ne_x_b1 : x ≠ b1 := Nat.ne_of_lt (Nat.lt_of_lt_of_le hES.lt (Nat.le_of_eq g1.symm))
  have A1 : own_A Z h1 b1 .byte 1 (fun q_ => .int ((fun _ => (0 : Int32)) q_)) := A1
  show own_Ends p e below s _ _ _ (own_F T1 m 30 #[rv x, iv p1, iv tt, iv 2, .unset, .unset, .unset, .unset, .unset, .unset] [(.ref b1)])
  refine own_g (own_F T1 m 32 #[rv x, iv p1, iv tt, iv 2, rv b1, .unset, .unset, .unset, .unset, .unset] []) (fun _ z_ => XS.astore X1.here hx rfl (hb hby own_d8_30) rfl rfl (l' := #[rv x, iv p1, iv tt, iv 2, rv b1, .unset, .unset, .unset, .unset, .unset]) rfl z_) ?_
  refine own_g (own_F T1 m 33 #[rv x, iv p1, iv tt, iv 2, rv b1, .unset, .unset, .unset, .unset, .unset] [(.int 0)]) (fun _ z_ => XS.iconst X1.here hx rfl (hb hby own_d8_32) z_) ?_
  refine own_g (own_F T1 m 35 #[rv x, iv p1, iv tt, iv 2, rv b1, iv 0, .unset, .unset, .unset, .unset] []) (fun _ z_ => XS.istore X1.here hx rfl (hb hby own_d8_33) rfl (l' := #[rv x, iv p1, iv tt, iv 2, rv b1, iv 0, .unset, .unset, .unset, .unset]) rfl z_) ?_
  refine own_g (own_F T1 m 36 #[rv x, iv p1, iv tt, iv 2, rv b1, iv 0, .unset, .unset, .unset, .unset] [(.int 0)]) (fun _ z_ => XS.iconst X1.here hx rfl (hb hby own_d8_35) z_) ?_
  refine own_g (own_F T1 m 38 #[rv x, iv p1, iv tt, iv 2, rv b1, iv 0, iv 0, .unset, .unset, .unset] []) (fun _ z_ => XS.istore X1.here hx rfl (hb hby own_d8_36) rfl (l' := #[rv x, iv p1, iv tt, iv 2, rv b1, iv 0, iv 0, .unset, .unset, .unset]) rfl z_) ?_
  refine own_g (own_F T1 m 39 #[rv x, iv p1, iv tt, iv 2, rv b1, iv 0, iv 0, .unset, .unset, .unset] [(.int 0)]) (fun _ z_ => XS.iconst X1.here hx rfl (hb hby own_d8_38) z_) ?_
  refine own_g (own_F T1 m 41 #[rv x, iv p1, iv tt, iv 2, rv b1, iv 0, iv 0, iv 0, .unset, .unset] []) (fun _ z_ => XS.istore X1.here hx rfl (hb hby own_d8_39) rfl (l' := #[rv x, iv p1, iv tt, iv 2, rv b1, iv 0, iv 0, iv 0, .unset, .unset]) rfl z_) ?_
  refine own_g (own_F T1 m 42 #[rv x, iv p1, iv tt, iv 2, rv b1, iv 0, iv 0, iv 0, .unset, .unset] [(.int p1)]) (fun _ z_ => XS.iloadN X1.here hx rfl (hb hby own_d8_41) rfl z_) ?_
  refine own_g (own_F T1 m 44 #[rv x, iv p1, iv tt, iv 2, rv b1, iv 0, iv 0, iv 0, iv p1, .unset] []) (fun _ z_ => XS.istore X1.here hx rfl (hb hby own_d8_42) rfl (l' := #[rv x, iv p1, iv tt, iv 2, rv b1, iv 0, iv 0, iv 0, iv p1, .unset]) rfl z_) ?_
  have hi0 : p1.toInt = ((P + 0 : Nat) : Int) := hp
  refine own_g (own_F T1 m 46 #[rv x, iv p1, iv tt, iv 2, rv b1, iv 0, iv 0, iv 0, iv p1, .unset] [(.int p1)]) (fun _ z_ => XS.iload X1.here hx rfl (hb hby own_d8_44) rfl z_) ?_
  refine own_g (own_F T1 m 47 #[rv x, iv p1, iv tt, iv 2, rv b1, iv 0, iv 0, iv 0, iv p1, .unset] [(.int tt), (.int p1)]) (fun _ z_ => XS.iloadN X1.here hx rfl (hb hby own_d8_46) rfl z_) ?_
  refine own_g (own_F T1 m 50 #[rv x, iv p1, iv tt, iv 2, rv b1, iv 0, iv 0, iv 0, iv p1, .unset] []) (fun _ z_ => XS.icmpNo X1.here hx rfl (hb hby own_d8_47) rfl (tlt (own_lt3 hi0 ht (Nat.add_lt_add_left (by decide) P))).2.1 z_) ?_
  refine own_g (own_F T1 m 51 #[rv x, iv p1, iv tt, iv 2, rv b1, iv 0, iv 0, iv 0, iv p1, .unset] [(.ref x)]) (fun _ z_ => XS.aloadN X1.here hx rfl (hb hby own_d8_50) rfl rfl z_) ?_
  refine own_g (own_F T1 m 53 #[rv x, iv p1, iv tt, iv 2, rv b1, iv 0, iv 0, iv 0, iv p1, .unset] [(.int p1), (.ref x)]) (fun _ z_ => XS.iload X1.here hx rfl (hb hby own_d8_51) rfl z_) ?_
  refine own_callV (C := "java/lang/String") (y := (⟨"java/lang/String", "charAt", "(I)C"⟩ : MethodName)) (b := x) X1 hx hZ hown (own_w hw 60) (own_w hw 61) (own_w hw 63) (own_w hw 62) (own_w hw 64) (own_w hw 7) (by decide) e1 (hES.ext E1) (hM := own_charAt l Z a0 hw [] x p1 zc (P + 0) 11 f sv hsv h1 n0 (Nat.le_trans Z0 E1.1) hi0 (own_pl hP 0) hzc (hS.keep ((Keep.refl _ _).ext E1) all0) (S_cs.ext E1) (S_sf.ext E1) (S_ad.ext E1) (S_hi.ext E1) (S_lo.ext E1)) (W := 0) (pc := 53) (Ls := #[rv x, iv p1, iv tt, iv 2, rv b1, iv 0, iv 0, iv 0, iv p1, .unset]) (argsL := [(.int p1)]) (rest := []) (st0 := [(.int p1), (.ref x)]) (by rw [hml]; rfl) (lenOf own_pd13 rfl) rfl (Nat.le_of_eq rfl) (hb hby own_d8_53) (by decide) (by decide) (by decide) (by decide) ?_
  intro v2 T2 L2 X2 hQ2
  obtain ⟨rfl, Nq2, hh2⟩ := hQ2
  have N2 := Fr.app N0 Nq2
  show own_Ends p e below s _ _ _ (own_F T2 m 56 #[rv x, iv p1, iv tt, iv 2, rv b1, iv 0, iv 0, iv 0, iv p1, .unset] [(.int (f (P + 0)))])
  refine own_callS (y := (⟨"com/example/claimgate/claimgate/jose/Base64Url", "value", "(C)I"⟩ : MethodName)) X2 hx hZ hown (own_w hw 87) (own_w hw 88) (own_w hw 36) (own_w hw 89) (by decide) hh2 (hM := own_val l Z a0 hw [] _ v0 h1 n0 (Nat.le_trans Z0 E1.1) hs0) (W := 0) (pc := 56) (Ls := #[rv x, iv p1, iv tt, iv 2, rv b1, iv 0, iv 0, iv 0, iv p1, .unset]) (argsL := [(.int (f (P + 0)))]) (rest := []) (st0 := [(.int (f (P + 0)))]) (by rw [hml]; rfl) (lenOf own_pd14 rfl) rfl (Nat.le_of_eq rfl) (hb hby own_d8_56) (by decide) (by decide) (by decide) (by decide) ?_
  intro v3 T3 L3 X3 hQ3
  obtain ⟨rfl, Nq3, hh3⟩ := hQ3
  have N3 := Fr.app N2 Nq3
  show own_Ends p e below s _ _ _ (own_F T3 m 59 #[rv x, iv p1, iv tt, iv 2, rv b1, iv 0, iv 0, iv 0, iv p1, .unset] [(.int v0)])
  refine own_g (own_F T3 m 61 #[rv x, iv p1, iv tt, iv 2, rv b1, iv 0, iv 0, iv 0, iv p1, iv v0] []) (fun _ z_ => XS.istore X3.here hx rfl (hb hby own_d8_59) rfl (l' := #[rv x, iv p1, iv tt, iv 2, rv b1, iv 0, iv 0, iv 0, iv p1, iv v0]) rfl z_) ?_
  refine own_g (own_F T3 m 63 #[rv x, iv p1, iv tt, iv 2, rv b1, iv 0, iv 0, iv 0, iv p1, iv v0] [(.int v0)]) (fun _ z_ => XS.iload X3.here hx rfl (hb hby own_d8_61) rfl z_) ?_
  refine own_g (own_F T3 m 76 #[rv x, iv p1, iv tt, iv 2, rv b1, iv 0, iv 0, iv 0, iv p1, iv v0] []) (fun _ z_ => XS.ifYes X3.here hx rfl (pc0 := 63) (pc' := 76) rfl (hb hby own_d8_63) rfl ((if0 _ _).trans (flt (own_vn (own_sym_rng hs0).2.1)).2.1) (by decide) (by decide) z_) ?_
  refine own_g (own_F T3 m 78 #[rv x, iv p1, iv tt, iv 2, rv b1, iv 0, iv 0, iv 0, iv p1, iv v0] [(.int 0)]) (fun _ z_ => XS.iload X3.here hx rfl (hb hby own_d8_76) rfl z_) ?_
  refine own_g (own_F T3 m 80 #[rv x, iv p1, iv tt, iv 2, rv b1, iv 0, iv 0, iv 0, iv p1, iv v0] [(.int 6), (.int 0)]) (fun _ z_ => XS.bipush X3.here hx rfl (hb hby own_d8_78) z_) ?_
  refine own_g (own_F T3 m 81 #[rv x, iv p1, iv tt, iv 2, rv b1, iv 0, iv 0, iv 0, iv p1, iv v0] [(.int ((0 : Int32) <<< ((6 : Int32) &&& 31)))]) (fun _ z_ => XS.ishl X3.here hx rfl (hb hby own_d8_80) rfl z_) ?_
  refine own_g (own_F T3 m 83 #[rv x, iv p1, iv tt, iv 2, rv b1, iv 0, iv 0, iv 0, iv p1, iv v0] [(.int v0), (.int ((0 : Int32) <<< ((6 : Int32) &&& 31)))]) (fun _ z_ => XS.iload X3.here hx rfl (hb hby own_d8_81) rfl z_) ?_
  refine own_g (own_F T3 m 84 #[rv x, iv p1, iv tt, iv 2, rv b1, iv 0, iv 0, iv 0, iv p1, iv v0] [(.int (((0 : Int32) <<< ((6 : Int32) &&& 31)) ||| v0))]) (fun _ z_ => XS.ior X3.here hx rfl (hb hby own_d8_83) rfl z_) ?_
  have hH0 : (((0 : Int32) <<< ((6 : Int32) &&& 31)) ||| v0).toInt = (0 : Int32).toInt * 64 + v0.toInt := own_h6 (by decide) (own_sym_rng hs0).2
  generalize (((0 : Int32) <<< ((6 : Int32) &&& 31)) ||| v0) = H0 at hH0 ⊢
  have hE0 : H0.toInt = y0.toInt / 4 := by rw [hH0, (show (0 : Int32).toInt = 0 from by decide), hr0]; exact Int.zero_add _
  refine own_g (own_F T3 m 86 #[rv x, iv p1, iv tt, iv 2, rv b1, iv H0, iv 0, iv 0, iv p1, iv v0] []) (fun _ z_ => XS.istore X3.here hx rfl (hb hby own_d8_84) rfl (l' := #[rv x, iv p1, iv tt, iv 2, rv b1, iv H0, iv 0, iv 0, iv p1, iv v0]) rfl z_) ?_
  refine own_g (own_F T3 m 89 #[rv x, iv p1, iv tt, iv 2, rv b1, iv H0, iv 6, iv 0, iv p1, iv v0] []) (fun _ z_ => XS.iinc X3.here hx rfl (hb hby own_d8_86) rfl (l' := #[rv x, iv p1, iv tt, iv 2, rv b1, iv H0, iv 6, iv 0, iv p1, iv v0]) rfl z_) ?_
  refine own_g (own_F T3 m 91 #[rv x, iv p1, iv tt, iv 2, rv b1, iv H0, iv 6, iv 0, iv p1, iv v0] [(.int 6)]) (fun _ z_ => XS.iload X3.here hx rfl (hb hby own_d8_89) rfl z_) ?_
  refine own_g (own_F T3 m 93 #[rv x, iv p1, iv tt, iv 2, rv b1, iv H0, iv 6, iv 0, iv p1, iv v0] [(.int 8), (.int 6)]) (fun _ z_ => XS.bipush X3.here hx rfl (hb hby own_d8_91) z_) ?_
  refine own_g (own_F T3 m 124 #[rv x, iv p1, iv tt, iv 2, rv b1, iv H0, iv 6, iv 0, iv p1, iv v0] []) (fun _ z_ => XS.icmpYes X3.here hx rfl (pc0 := 93) (pc' := 124) rfl (hb hby own_d8_93) rfl (tlt (by decide : ((6 : Int32) < (8 : Int32)))).1 (by decide) (by decide) z_) ?_
  refine own_g (own_F T3 m 127 #[rv x, iv p1, iv tt, iv 2, rv b1, iv H0, iv 6, iv 0, iv (p1 + (1 : Int32)), iv v0] []) (fun _ z_ => XS.iinc X3.here hx rfl (hb hby own_d8_124) rfl (l' := #[rv x, iv p1, iv tt, iv 2, rv b1, iv H0, iv 6, iv 0, iv (p1 + (1 : Int32)), iv v0]) rfl z_) ?_
  refine own_g (own_F T3 m 44 #[rv x, iv p1, iv tt, iv 2, rv b1, iv H0, iv 6, iv 0, iv (p1 + (1 : Int32)), iv v0] []) (fun _ z_ => XS.goto X3.here hx rfl (pc0 := 127) (pc' := 44) rfl (hb hby own_d8_127) (by decide) (by decide) z_) ?_
  have hi1 : (p1 + (1 : Int32)).toInt = ((P + 1 : Nat) : Int) := own_add1 hi0 (own_pl2 hP 1)
  generalize (p1 + (1 : Int32)) = i1 at hi1 ⊢
  refine own_g (own_F T3 m 46 #[rv x, iv p1, iv tt, iv 2, rv b1, iv H0, iv 6, iv 0, iv i1, iv v0] [(.int i1)]) (fun _ z_ => XS.iload X3.here hx rfl (hb hby own_d8_44) rfl z_) ?_
  refine own_g (own_F T3 m 47 #[rv x, iv p1, iv tt, iv 2, rv b1, iv H0, iv 6, iv 0, iv i1, iv v0] [(.int tt), (.int i1)]) (fun _ z_ => XS.iloadN X3.here hx rfl (hb hby own_d8_46) rfl z_) ?_
  refine own_g (own_F T3 m 50 #[rv x, iv p1, iv tt, iv 2, rv b1, iv H0, iv 6, iv 0, iv i1, iv v0] []) (fun _ z_ => XS.icmpNo X3.here hx rfl (hb hby own_d8_47) rfl (tlt (own_lt3 hi1 ht (Nat.add_lt_add_left (by decide) P))).2.1 z_) ?_
  refine own_g (own_F T3 m 51 #[rv x, iv p1, iv tt, iv 2, rv b1, iv H0, iv 6, iv 0, iv i1, iv v0] [(.ref x)]) (fun _ z_ => XS.aloadN X3.here hx rfl (hb hby own_d8_50) rfl rfl z_) ?_
  refine own_g (own_F T3 m 53 #[rv x, iv p1, iv tt, iv 2, rv b1, iv H0, iv 6, iv 0, iv i1, iv v0] [(.int i1), (.ref x)]) (fun _ z_ => XS.iload X3.here hx rfl (hb hby own_d8_51) rfl z_) ?_
  refine own_callV (C := "java/lang/String") (y := (⟨"java/lang/String", "charAt", "(I)C"⟩ : MethodName)) (b := x) X3 hx hZ hown (own_w hw 60) (own_w hw 61) (own_w hw 63) (own_w hw 62) (own_w hw 64) (own_w hw 7) (by decide) hh3 (hES.ext E1) (hM := own_charAt l Z a0 hw [] x i1 zc (P + 1) 11 f sv hsv h1 n0 (Nat.le_trans Z0 E1.1) hi1 (own_pl hP 1) hzc (hS.keep ((Keep.refl _ _).ext E1) all0) (S_cs.ext E1) (S_sf.ext E1) (S_ad.ext E1) (S_hi.ext E1) (S_lo.ext E1)) (W := 0) (pc := 53) (Ls := #[rv x, iv p1, iv tt, iv 2, rv b1, iv H0, iv 6, iv 0, iv i1, iv v0]) (argsL := [(.int i1)]) (rest := []) (st0 := [(.int i1), (.ref x)]) (by rw [hml]; rfl) (lenOf own_pd13 rfl) rfl (Nat.le_of_eq rfl) (hb hby own_d8_53) (by decide) (by decide) (by decide) (by decide) ?_
  intro v4 T4 L4 X4 hQ4
  obtain ⟨rfl, Nq4, hh4⟩ := hQ4
  have N4 := Fr.app N3 Nq4
  show own_Ends p e below s _ _ _ (own_F T4 m 56 #[rv x, iv p1, iv tt, iv 2, rv b1, iv H0, iv 6, iv 0, iv i1, iv v0] [(.int (f (P + 1)))])
  refine own_callS (y := (⟨"com/example/claimgate/claimgate/jose/Base64Url", "value", "(C)I"⟩ : MethodName)) X4 hx hZ hown (own_w hw 87) (own_w hw 88) (own_w hw 36) (own_w hw 89) (by decide) hh4 (hM := own_val l Z a0 hw [] _ v1 h1 n0 (Nat.le_trans Z0 E1.1) hs1) (W := 0) (pc := 56) (Ls := #[rv x, iv p1, iv tt, iv 2, rv b1, iv H0, iv 6, iv 0, iv i1, iv v0]) (argsL := [(.int (f (P + 1)))]) (rest := []) (st0 := [(.int (f (P + 1)))]) (by rw [hml]; rfl) (lenOf own_pd14 rfl) rfl (Nat.le_of_eq rfl) (hb hby own_d8_56) (by decide) (by decide) (by decide) (by decide) ?_
  intro v5 T5 L5 X5 hQ5
  obtain ⟨rfl, Nq5, hh5⟩ := hQ5
  have N5 := Fr.app N4 Nq5
  show own_Ends p e below s _ _ _ (own_F T5 m 59 #[rv x, iv p1, iv tt, iv 2, rv b1, iv H0, iv 6, iv 0, iv i1, iv v0] [(.int v1)])
  refine own_g (own_F T5 m 61 #[rv x, iv p1, iv tt, iv 2, rv b1, iv H0, iv 6, iv 0, iv i1, iv v1] []) (fun _ z_ => XS.istore X5.here hx rfl (hb hby own_d8_59) rfl (l' := #[rv x, iv p1, iv tt, iv 2, rv b1, iv H0, iv 6, iv 0, iv i1, iv v1]) rfl z_) ?_
  refine own_g (own_F T5 m 63 #[rv x, iv p1, iv tt, iv 2, rv b1, iv H0, iv 6, iv 0, iv i1, iv v1] [(.int v1)]) (fun _ z_ => XS.iload X5.here hx rfl (hb hby own_d8_61) rfl z_) ?_
  refine own_g (own_F T5 m 76 #[rv x, iv p1, iv tt, iv 2, rv b1, iv H0, iv 6, iv 0, iv i1, iv v1] []) (fun _ z_ => XS.ifYes X5.here hx rfl (pc0 := 63) (pc' := 76) rfl (hb hby own_d8_63) rfl ((if0 _ _).trans (flt (own_vn (own_sym_rng hs1).2.1)).2.1) (by decide) (by decide) z_) ?_
  refine own_g (own_F T5 m 78 #[rv x, iv p1, iv tt, iv 2, rv b1, iv H0, iv 6, iv 0, iv i1, iv v1] [(.int H0)]) (fun _ z_ => XS.iload X5.here hx rfl (hb hby own_d8_76) rfl z_) ?_
  refine own_g (own_F T5 m 80 #[rv x, iv p1, iv tt, iv 2, rv b1, iv H0, iv 6, iv 0, iv i1, iv v1] [(.int 6), (.int H0)]) (fun _ z_ => XS.bipush X5.here hx rfl (hb hby own_d8_78) z_) ?_
  refine own_g (own_F T5 m 81 #[rv x, iv p1, iv tt, iv 2, rv b1, iv H0, iv 6, iv 0, iv i1, iv v1] [(.int (H0 <<< ((6 : Int32) &&& 31)))]) (fun _ z_ => XS.ishl X5.here hx rfl (hb hby own_d8_80) rfl z_) ?_
  refine own_g (own_F T5 m 83 #[rv x, iv p1, iv tt, iv 2, rv b1, iv H0, iv 6, iv 0, iv i1, iv v1] [(.int v1), (.int (H0 <<< ((6 : Int32) &&& 31)))]) (fun _ z_ => XS.iload X5.here hx rfl (hb hby own_d8_81) rfl z_) ?_
  refine own_g (own_F T5 m 84 #[rv x, iv p1, iv tt, iv 2, rv b1, iv H0, iv 6, iv 0, iv i1, iv v1] [(.int ((H0 <<< ((6 : Int32) &&& 31)) ||| v1))]) (fun _ z_ => XS.ior X5.here hx rfl (hb hby own_d8_83) rfl z_) ?_
  have hH1 : ((H0 <<< ((6 : Int32) &&& 31)) ||| v1).toInt = H0.toInt * 64 + v1.toInt := own_h6 (own_r4 hE0 hb0) (own_sym_rng hs1).2
  generalize ((H0 <<< ((6 : Int32) &&& 31)) ||| v1) = H1 at hH1 ⊢
  have hE1 : H1.toInt = y0.toInt * 16 + y1.toInt / 16 := by rw [hH1, hE0, hr1]; exact own_q1 hb0
  refine own_g (own_F T5 m 86 #[rv x, iv p1, iv tt, iv 2, rv b1, iv H1, iv 6, iv 0, iv i1, iv v1] []) (fun _ z_ => XS.istore X5.here hx rfl (hb hby own_d8_84) rfl (l' := #[rv x, iv p1, iv tt, iv 2, rv b1, iv H1, iv 6, iv 0, iv i1, iv v1]) rfl z_) ?_
  refine own_g (own_F T5 m 89 #[rv x, iv p1, iv tt, iv 2, rv b1, iv H1, iv 12, iv 0, iv i1, iv v1] []) (fun _ z_ => XS.iinc X5.here hx rfl (hb hby own_d8_86) rfl (l' := #[rv x, iv p1, iv tt, iv 2, rv b1, iv H1, iv 12, iv 0, iv i1, iv v1]) rfl z_) ?_
  refine own_g (own_F T5 m 91 #[rv x, iv p1, iv tt, iv 2, rv b1, iv H1, iv 12, iv 0, iv i1, iv v1] [(.int 12)]) (fun _ z_ => XS.iload X5.here hx rfl (hb hby own_d8_89) rfl z_) ?_
  refine own_g (own_F T5 m 93 #[rv x, iv p1, iv tt, iv 2, rv b1, iv H1, iv 12, iv 0, iv i1, iv v1] [(.int 8), (.int 12)]) (fun _ z_ => XS.bipush X5.here hx rfl (hb hby own_d8_91) z_) ?_
  refine own_g (own_F T5 m 96 #[rv x, iv p1, iv tt, iv 2, rv b1, iv H1, iv 12, iv 0, iv i1, iv v1] []) (fun _ z_ => XS.icmpNo X5.here hx rfl (hb hby own_d8_93) rfl (flt (by decide : ¬ ((12 : Int32) < (8 : Int32)))).1 z_) ?_
  refine own_g (own_F T5 m 99 #[rv x, iv p1, iv tt, iv 2, rv b1, iv H1, iv 4, iv 0, iv i1, iv v1] []) (fun _ z_ => XS.iinc X5.here hx rfl (hb hby own_d8_96) rfl (l' := #[rv x, iv p1, iv tt, iv 2, rv b1, iv H1, iv 4, iv 0, iv i1, iv v1]) rfl z_) ?_
  refine own_g (own_F T5 m 101 #[rv x, iv p1, iv tt, iv 2, rv b1, iv H1, iv 4, iv 0, iv i1, iv v1] [(.ref b1)]) (fun _ z_ => XS.aload X5.here hx rfl (hb hby own_d8_99) rfl rfl z_) ?_
  refine own_g (own_F T5 m 103 #[rv x, iv p1, iv tt, iv 2, rv b1, iv H1, iv 4, iv 0, iv i1, iv v1] [(.int 0), (.ref b1)]) (fun _ z_ => XS.iload X5.here hx rfl (hb hby own_d8_101) rfl z_) ?_
  refine own_g (own_F T5 m 106 #[rv x, iv p1, iv tt, iv 2, rv b1, iv H1, iv 4, iv 1, iv i1, iv v1] [(.int 0), (.ref b1)]) (fun _ z_ => XS.iinc X5.here hx rfl (hb hby own_d8_103) rfl (l' := #[rv x, iv p1, iv tt, iv 2, rv b1, iv H1, iv 4, iv 1, iv i1, iv v1]) rfl z_) ?_
  refine own_g (own_F T5 m 108 #[rv x, iv p1, iv tt, iv 2, rv b1, iv H1, iv 4, iv 1, iv i1, iv v1] [(.int H1), (.int 0), (.ref b1)]) (fun _ z_ => XS.iload X5.here hx rfl (hb hby own_d8_106) rfl z_) ?_
  refine own_g (own_F T5 m 110 #[rv x, iv p1, iv tt, iv 2, rv b1, iv H1, iv 4, iv 1, iv i1, iv v1] [(.int 4), (.int H1), (.int 0), (.ref b1)]) (fun _ z_ => XS.iload X5.here hx rfl (hb hby own_d8_108) rfl z_) ?_
  refine own_g (own_F T5 m 111 #[rv x, iv p1, iv tt, iv 2, rv b1, iv H1, iv 4, iv 1, iv i1, iv v1] [(.int (H1 >>> ((4 : Int32) &&& 31))), (.int 0), (.ref b1)]) (fun _ z_ => XS.ishr X5.here hx rfl (hb hby own_d8_110) rfl z_) ?_
  have hB0 : (H1 >>> ((4 : Int32) &&& 31)) = y0 := own_sh (c_ishr H1 (4 : Int32) 4 (by decide)) hE1 (own_d1 hb0 hb1)
  rw [hB0]
  refine own_g (own_F T5 m 112 #[rv x, iv p1, iv tt, iv 2, rv b1, iv H1, iv 4, iv 1, iv i1, iv v1] [(.int (y0.toInt8.toInt32)), (.int 0), (.ref b1)]) (fun _ z_ => XS.i2b X5.here hx rfl (hb hby own_d8_111) rfl z_) ?_
  refine own_bast X5 hx hZ hh5 A1 0 rfl (by decide) (y0.toInt8.toInt32) (own_narB _) (hb hby own_d8_112) ?_
  intro T6 h6 X6 e6 W6 A6
  have N6 := Fr.snoc X6 N5 ge_b1
  obtain ⟨g6, A6, q6_0⟩ : ∃ gq_ : Nat → Int32, own_A Z h6 b1 .byte 1 (fun q_ => .int (gq_ q_)) ∧ gq_ 0 = (y0.toInt8.toInt32) := ⟨_, A6, rfl⟩
  show own_Ends p e below s _ _ _ (own_F T6 m 113 #[rv x, iv p1, iv tt, iv 2, rv b1, iv H1, iv 4, iv 1, iv i1, iv v1] [])
  refine own_g (own_F T6 m 115 #[rv x, iv p1, iv tt, iv 2, rv b1, iv H1, iv 4, iv 1, iv i1, iv v1] [(.int H1)]) (fun _ z_ => XS.iload X6.here hx rfl (hb hby own_d8_113) rfl z_) ?_
  refine own_g (own_F T6 m 116 #[rv x, iv p1, iv tt, iv 2, rv b1, iv H1, iv 4, iv 1, iv i1, iv v1] [(.int 1), (.int H1)]) (fun _ z_ => XS.iconst X6.here hx rfl (hb hby own_d8_115) z_) ?_
  refine own_g (own_F T6 m 118 #[rv x, iv p1, iv tt, iv 2, rv b1, iv H1, iv 4, iv 1, iv i1, iv v1] [(.int 4), (.int 1), (.int H1)]) (fun _ z_ => XS.iload X6.here hx rfl (hb hby own_d8_116) rfl z_) ?_
  refine own_g (own_F T6 m 119 #[rv x, iv p1, iv tt, iv 2, rv b1, iv H1, iv 4, iv 1, iv i1, iv v1] [(.int 16), (.int H1)]) (fun _ z_ => XS.ishl X6.here hx rfl (hb hby own_d8_118) rfl z_) ?_
  refine own_g (own_F T6 m 120 #[rv x, iv p1, iv tt, iv 2, rv b1, iv H1, iv 4, iv 1, iv i1, iv v1] [(.int 1), (.int 16), (.int H1)]) (fun _ z_ => XS.iconst X6.here hx rfl (hb hby own_d8_119) z_) ?_
  refine own_g (own_F T6 m 121 #[rv x, iv p1, iv tt, iv 2, rv b1, iv H1, iv 4, iv 1, iv i1, iv v1] [(.int 15), (.int H1)]) (fun _ z_ => XS.isub X6.here hx rfl (hb hby own_d8_120) rfl z_) ?_
  refine own_g (own_F T6 m 122 #[rv x, iv p1, iv tt, iv 2, rv b1, iv H1, iv 4, iv 1, iv i1, iv v1] [(.int (H1 &&& (15 : Int32)))]) (fun _ z_ => XS.iand X6.here hx rfl (hb hby own_d8_121) rfl z_) ?_
  have hG1 : (H1 &&& (15 : Int32)).toInt = y1.toInt / 16 := own_mk (c_mask H1 (15 : Int32) 4 (by decide) (by decide)) hE1 (own_e1 hb1)
  generalize (H1 &&& (15 : Int32)) = G1 at hG1 ⊢
  refine own_g (own_F T6 m 124 #[rv x, iv p1, iv tt, iv 2, rv b1, iv G1, iv 4, iv 1, iv i1, iv v1] []) (fun _ z_ => XS.istore X6.here hx rfl (hb hby own_d8_122) rfl (l' := #[rv x, iv p1, iv tt, iv 2, rv b1, iv G1, iv 4, iv 1, iv i1, iv v1]) rfl z_) ?_
  refine own_g (own_F T6 m 127 #[rv x, iv p1, iv tt, iv 2, rv b1, iv G1, iv 4, iv 1, iv (i1 + (1 : Int32)), iv v1] []) (fun _ z_ => XS.iinc X6.here hx rfl (hb hby own_d8_124) rfl (l' := #[rv x, iv p1, iv tt, iv 2, rv b1, iv G1, iv 4, iv 1, iv (i1 + (1 : Int32)), iv v1]) rfl z_) ?_
  refine own_g (own_F T6 m 44 #[rv x, iv p1, iv tt, iv 2, rv b1, iv G1, iv 4, iv 1, iv (i1 + (1 : Int32)), iv v1] []) (fun _ z_ => XS.goto X6.here hx rfl (pc0 := 127) (pc' := 44) rfl (hb hby own_d8_127) (by decide) (by decide) z_) ?_
  have hi2 : (i1 + (1 : Int32)).toInt = ((P + 2 : Nat) : Int) := own_add1 hi1 (own_pl2 hP 2)
  generalize (i1 + (1 : Int32)) = i2 at hi2 ⊢
  refine own_g (own_F T6 m 46 #[rv x, iv p1, iv tt, iv 2, rv b1, iv G1, iv 4, iv 1, iv i2, iv v1] [(.int i2)]) (fun _ z_ => XS.iload X6.here hx rfl (hb hby own_d8_44) rfl z_) ?_
  refine own_g (own_F T6 m 47 #[rv x, iv p1, iv tt, iv 2, rv b1, iv G1, iv 4, iv 1, iv i2, iv v1] [(.int tt), (.int i2)]) (fun _ z_ => XS.iloadN X6.here hx rfl (hb hby own_d8_46) rfl z_) ?_
  refine own_g (own_F T6 m 130 #[rv x, iv p1, iv tt, iv 2, rv b1, iv G1, iv 4, iv 1, iv i2, iv v1] []) (fun _ z_ => XS.icmpYes X6.here hx rfl (pc0 := 47) (pc' := 130) rfl (hb hby own_d8_47) rfl (flt (own_ge3 hi2 ht (Nat.le_refl _))).2.1 (by decide) (by decide) z_) ?_
  refine own_g (own_F T6 m 132 #[rv x, iv p1, iv tt, iv 2, rv b1, iv G1, iv 4, iv 1, iv i2, iv v1] [(.int G1)]) (fun _ z_ => XS.iload X6.here hx rfl (hb hby own_d8_130) rfl z_) ?_
  refine own_g (own_F T6 m 145 #[rv x, iv p1, iv tt, iv 2, rv b1, iv G1, iv 4, iv 1, iv i2, iv v1] []) (fun _ z_ => XS.ifYes X6.here hx rfl (pc0 := 132) (pc' := 145) rfl (hb hby own_d8_132) rfl ((if0 _ _).trans (teq (own_z0 (own_zz16 hG1 hb1))).1) (by decide) (by decide) z_) ?_
  refine own_g (own_F T6 m 147 #[rv x, iv p1, iv tt, iv 2, rv b1, iv G1, iv 4, iv 1, iv i2, iv v1] [(.ref b1)]) (fun _ z_ => XS.aload X6.here hx rfl (hb hby own_d8_145) rfl rfl z_) ?_
  refine own_ret (t := (.array .byte)) X6 hx hlk hrt rfl (Or.inr (Or.inr (Or.inr (Or.inr ⟨rfl, rfl, rfl⟩)))) (hb hby own_d8_147) (by decide) (by decide) ?_
  show ∃ (r : Addr) (g : Nat → Int32), _ ∧ Fr n0 _ ∧ Keep h0 T6.heap [] ∧ n0 ≤ r ∧ own_A Z T6.heap r .byte 1 (fun i => .int (g i)) ∧ _
  rw [e6]
  exact ⟨b1, _, rfl, N6, (((Keep.refl _ _).ext E1).wr W6 (Or.inr sz_b1)), ge_b1, A6, q6_0⟩
set_option maxRecDepth 65536 in
set_option maxHeartbeats 40000000 in
theorem own_dec2 (l : Launch) (Z : State) (a0 : Array Value) (hw : ∀ d ∈ tables_1, d.before a0 Z = true) (ws : List Jvm.Cond) (x : Addr) (p1 tt zc : Int32) (P : Nat) (f : Nat → Int32) (sv : Value) (hsv : sv.isRef = true) (y0 y1 y2 y3 y4 v0 v1 v2 : Int32) (h0 : Heap) (n0 : Nat) (Z0 : n0 ≤ h0.size) (hp : p1.toInt = (P : Int)) (hP : P ≤ 3) (ht : tt.toInt = ((P + 3 : Nat) : Int)) (hzc : ¬ zc = (0 : Int32)) (hS : own_Str Z h0 x 11 f) (S_cs : Sta Z h0 "java/lang/String" "COMPACT_STRINGS" "Z" (.int zc)) (S_sf : Sta Z h0 "jdk/internal/util/Preconditions" "SIOOBE_FORMATTER" "Ljava/util/function/BiFunction;" sv) (S_ad : Sta Z h0 "java/lang/StringUTF16" "$assertionsDisabled" "Z" (.int (1 : Int32))) (S_hi : Sta Z h0 "java/lang/StringUTF16" "HI_BYTE_SHIFT" "I" (.int (0 : Int32))) (S_lo : Sta Z h0 "java/lang/StringUTF16" "LO_BYTE_SHIFT" "I" (.int (8 : Int32))) (hs0 : own_sym (f (P + 0)) v0) (hs1 : own_sym (f (P + 1)) v1) (hs2 : own_sym (f (P + 2)) v2) (hr0 : v0.toInt = y0.toInt / 4) (hr1 : v1.toInt = (y0.toInt % 4) * 16 + y1.toInt / 16) (hr2 : v2.toInt = (y1.toInt % 16) * 4 + y2.toInt / 64) (hb0 : 0 ≤ y0.toInt ∧ y0.toInt ≤ 255) (hb1 : 0 ≤ y1.toInt ∧ y1.toInt ≤ 255) (hb2 : 0 ≤ y2.toInt ∧ y2.toInt ≤ 0) (hb3 : 0 ≤ y3.toInt ∧ y3.toInt ≤ 0) (hb4 : 0 ≤ y4.toInt ∧ y4.toInt ≤ 0) :
    own_Met l Z (⟨"com/example/claimgate/claimgate/jose/Base64Url", "decode", "(Ljava/lang/String;II)[B"⟩ : MethodName) prog_23_method_3_code 10 (some (.array .byte)) ws ({ frames := 5, cells := 1, slots := 2, locals := 66 } : Room) #[(.ref x), (.int p1), (.int tt)] h0 (fun v h L => ∃ (r : Addr) (g : Nat → Int32), v = some (.ref r) ∧ Fr n0 L ∧ Keep h0 h [] ∧ n0 ≤ r ∧ own_A Z h r .byte 2 (fun i => .int (g i)) ∧ g 0 = y0.toInt8.toInt32 ∧ g 1 = y1.toInt8.toInt32) := by
  refine own_body own_pn21 (fun m => mkF m 0 #[rv x, iv p1, iv tt, .unset, .unset, .unset, .unset, .unset, .unset, .unset] []) (fun m => own_ef_own_dec2 m x p1 tt) ?_
  intro p e s m below meth c T0 hx hby hml hlk hrt hZ hown hnm X0 e0
  have hown : s.vm.findClass "com/example/claimgate/claimgate/jose/Base64Url" = some m.cls := hown
  have N0 := Fr.nil n0
  have hES := own_Str.exa hS
  refine own_g (own_F T0 m 1 #[rv x, iv p1, iv tt, .unset, .unset, .unset, .unset, .unset, .unset, .unset] [(.int tt)]) (fun _ z_ => XS.iloadN X0.here hx rfl (hb hby own_d8_0) rfl z_) ?_
  refine own_g (own_F T0 m 2 #[rv x, iv p1, iv tt, .unset, .unset, .unset, .unset, .unset, .unset, .unset] [(.int p1), (.int tt)]) (fun _ z_ => XS.iloadN X0.here hx rfl (hb hby own_d8_1) rfl z_) ?_
  refine own_g (own_F T0 m 3 #[rv x, iv p1, iv tt, .unset, .unset, .unset, .unset, .unset, .unset, .unset] [(.int (tt - p1))]) (fun _ z_ => XS.isub X0.here hx rfl (hb hby own_d8_2) rfl z_) ?_
  rw [(own_len hp ht : (tt - p1) = (3 : Int32))]
  refine own_g (own_F T0 m 4 #[rv x, iv p1, iv tt, iv 3, .unset, .unset, .unset, .unset, .unset, .unset] []) (fun _ z_ => XS.istoreN X0.here hx rfl (hb hby own_d8_3) rfl (l' := #[rv x, iv p1, iv tt, iv 3, .unset, .unset, .unset, .unset, .unset, .unset]) rfl z_) ?_
  refine own_g (own_F T0 m 5 #[rv x, iv p1, iv tt, iv 3, .unset, .unset, .unset, .unset, .unset, .unset] [(.int 3)]) (fun _ z_ => XS.iloadN X0.here hx rfl (hb hby own_d8_4) rfl z_) ?_
  refine own_g (own_F T0 m 6 #[rv x, iv p1, iv tt, iv 3, .unset, .unset, .unset, .unset, .unset, .unset] [(.int 4), (.int 3)]) (fun _ z_ => XS.iconst X0.here hx rfl (hb hby own_d8_5) z_) ?_
  refine own_g (own_F T0 m 7 #[rv x, iv p1, iv tt, iv 3, .unset, .unset, .unset, .unset, .unset, .unset] [(.int 3)]) (fun _ z_ => iremM X0 hx rfl (hb hby own_d8_6) rfl (by decide) z_) ?_
  refine own_g (own_F T0 m 8 #[rv x, iv p1, iv tt, iv 3, .unset, .unset, .unset, .unset, .unset, .unset] [(.int 1), (.int 3)]) (fun _ z_ => XS.iconst X0.here hx rfl (hb hby own_d8_7) z_) ?_
  refine own_g (own_F T0 m 21 #[rv x, iv p1, iv tt, iv 3, .unset, .unset, .unset, .unset, .unset, .unset] []) (fun _ z_ => XS.icmpYes X0.here hx rfl (pc0 := 8) (pc' := 21) rfl (hb hby own_d8_8) rfl (feq (by decide : ¬ ((3 : Int32) = (1 : Int32)))).2 (by decide) (by decide) z_) ?_
  refine own_g (own_F T0 m 22 #[rv x, iv p1, iv tt, iv 3, .unset, .unset, .unset, .unset, .unset, .unset] [(.int 3)]) (fun _ z_ => XS.iloadN X0.here hx rfl (hb hby own_d8_21) rfl z_) ?_
  refine own_g (own_F T0 m 24 #[rv x, iv p1, iv tt, iv 3, .unset, .unset, .unset, .unset, .unset, .unset] [(.int 6), (.int 3)]) (fun _ z_ => XS.bipush X0.here hx rfl (hb hby own_d8_22) z_) ?_
  refine own_g (own_F T0 m 25 #[rv x, iv p1, iv tt, iv 3, .unset, .unset, .unset, .unset, .unset, .unset] [(.int 18)]) (fun _ z_ => XS.imul X0.here hx rfl (hb hby own_d8_24) rfl z_) ?_
  refine own_g (own_F T0 m 27 #[rv x, iv p1, iv tt, iv 3, .unset, .unset, .unset, .unset, .unset, .unset] [(.int 8), (.int 18)]) (fun _ z_ => XS.bipush X0.here hx rfl (hb hby own_d8_25) z_) ?_
  refine own_g (own_F T0 m 28 #[rv x, iv p1, iv tt, iv 3, .unset, .unset, .unset, .unset, .unset, .unset] [(.int 2)]) (fun _ z_ => XS.idiv X0.here hx rfl (hb hby own_d8_27) rfl (by decide) z_) ?_
  refine own_newA X0 hx hZ .byte rfl (own_w hw 23) e0 (hb hby own_d8_28) 2 rfl 2 (by decide) (by decide) (by decide) (by decide) ?_
  intro T1 h1 b1 X1 e1 E1 g1 A1
  have sz_b1 : h0.size ≤ b1 := Nat.le_trans (Nat.le_refl h0.size) (Nat.le_of_eq g1.symm)
  have ge_b1 : n0 ≤ b1 := Nat.le_trans Z0 (Nat.le_of_eq g1.symm)
  have ne_x_b1 : x ≠ b1 := Nat.ne_of_lt (Nat.lt_of_lt_of_le hES.lt (Nat.le_of_eq g1.symm))
  have A1 : own_A Z h1 b1 .byte 2 (fun q_ => .int ((fun _ => (0 : Int32)) q_)) := A1
  show own_Ends p e below s _ _ _ (own_F T1 m 30 #[rv x, iv p1, iv tt, iv 3, .unset, .unset, .unset, .unset, .unset, .unset] [(.ref b1)])
  refine own_g (own_F T1 m 32 #[rv x, iv p1, iv tt, iv 3, rv b1, .unset, .unset, .unset, .unset, .unset] []) (fun _ z_ => XS.astore X1.here hx rfl (hb hby own_d8_30) rfl rfl (l' := #[rv x, iv p1, iv tt, iv 3, rv b1, .unset, .unset, .unset, .unset, .unset]) rfl z_) ?_
  refine own_g (own_F T1 m 33 #[rv x, iv p1, iv tt, iv 3, rv b1, .unset, .unset, .unset, .unset, .unset] [(.int 0)]) (fun _ z_ => XS.iconst X1.here hx rfl (hb hby own_d8_32) z_) ?_
  refine own_g (own_F T1 m 35 #[rv x, iv p1, iv tt, iv 3, rv b1, iv 0, .unset, .unset, .unset, .unset] []) (fun _ z_ => XS.istore X1.here hx rfl (hb hby own_d8_33) rfl (l' := #[rv x, iv p1, iv tt, iv 3, rv b1, iv 0, .unset, .unset, .unset, .unset]) rfl z_) ?_
  refine own_g (own_F T1 m 36 #[rv x, iv p1, iv tt, iv 3, rv b1, iv 0, .unset, .unset, .unset, .unset] [(.int 0)]) (fun _ z_ => XS.iconst X1.here hx rfl (hb hby own_d8_35) z_) ?_
  refine own_g (own_F T1 m 38 #[rv x, iv p1, iv tt, iv 3, rv b1, iv 0, iv 0, .unset, .unset, .unset] []) (fun _ z_ => XS.istore X1.here hx rfl (hb hby own_d8_36) rfl (l' := #[rv x, iv p1, iv tt, iv 3, rv b1, iv 0, iv 0, .unset, .unset, .unset]) rfl z_) ?_
  refine own_g (own_F T1 m 39 #[rv x, iv p1, iv tt, iv 3, rv b1, iv 0, iv 0, .unset, .unset, .unset] [(.int 0)]) (fun _ z_ => XS.iconst X1.here hx rfl (hb hby own_d8_38) z_) ?_
  refine own_g (own_F T1 m 41 #[rv x, iv p1, iv tt, iv 3, rv b1, iv 0, iv 0, iv 0, .unset, .unset] []) (fun _ z_ => XS.istore X1.here hx rfl (hb hby own_d8_39) rfl (l' := #[rv x, iv p1, iv tt, iv 3, rv b1, iv 0, iv 0, iv 0, .unset, .unset]) rfl z_) ?_
  refine own_g (own_F T1 m 42 #[rv x, iv p1, iv tt, iv 3, rv b1, iv 0, iv 0, iv 0, .unset, .unset] [(.int p1)]) (fun _ z_ => XS.iloadN X1.here hx rfl (hb hby own_d8_41) rfl z_) ?_
  refine own_g (own_F T1 m 44 #[rv x, iv p1, iv tt, iv 3, rv b1, iv 0, iv 0, iv 0, iv p1, .unset] []) (fun _ z_ => XS.istore X1.here hx rfl (hb hby own_d8_42) rfl (l' := #[rv x, iv p1, iv tt, iv 3, rv b1, iv 0, iv 0, iv 0, iv p1, .unset]) rfl z_) ?_
  have hi0 : p1.toInt = ((P + 0 : Nat) : Int) := hp
  refine own_g (own_F T1 m 46 #[rv x, iv p1, iv tt, iv 3, rv b1, iv 0, iv 0, iv 0, iv p1, .unset] [(.int p1)]) (fun _ z_ => XS.iload X1.here hx rfl (hb hby own_d8_44) rfl z_) ?_
  refine own_g (own_F T1 m 47 #[rv x, iv p1, iv tt, iv 3, rv b1, iv 0, iv 0, iv 0, iv p1, .unset] [(.int tt), (.int p1)]) (fun _ z_ => XS.iloadN X1.here hx rfl (hb hby own_d8_46) rfl z_) ?_
  refine own_g (own_F T1 m 50 #[rv x, iv p1, iv tt, iv 3, rv b1, iv 0, iv 0, iv 0, iv p1, .unset] []) (fun _ z_ => XS.icmpNo X1.here hx rfl (hb hby own_d8_47) rfl (tlt (own_lt3 hi0 ht (Nat.add_lt_add_left (by decide) P))).2.1 z_) ?_
  refine own_g (own_F T1 m 51 #[rv x, iv p1, iv tt, iv 3, rv b1, iv 0, iv 0, iv 0, iv p1, .unset] [(.ref x)]) (fun _ z_ => XS.aloadN X1.here hx rfl (hb hby own_d8_50) rfl rfl z_) ?_
  refine own_g (own_F T1 m 53 #[rv x, iv p1, iv tt, iv 3, rv b1, iv 0, iv 0, iv 0, iv p1, .unset] [(.int p1), (.ref x)]) (fun _ z_ => XS.iload X1.here hx rfl (hb hby own_d8_51) rfl z_) ?_
  refine own_callV (C := "java/lang/String") (y := (⟨"java/lang/String", "charAt", "(I)C"⟩ : MethodName)) (b := x) X1 hx hZ hown (own_w hw 60) (own_w hw 61) (own_w hw 63) (own_w hw 62) (own_w hw 64) (own_w hw 7) (by decide) e1 (hES.ext E1) (hM := own_charAt l Z a0 hw [] x p1 zc (P + 0) 11 f sv hsv h1 n0 (Nat.le_trans Z0 E1.1) hi0 (own_pl hP 0) hzc (hS.keep ((Keep.refl _ _).ext E1) all0) (S_cs.ext E1) (S_sf.ext E1) (S_ad.ext E1) (S_hi.ext E1) (S_lo.ext E1)) (W := 0) (pc := 53) (Ls := #[rv x, iv p1, iv tt, iv 3, rv b1, iv 0, iv 0, iv 0, iv p1, .unset]) (argsL := [(.int p1)]) (rest := []) (st0 := [(.int p1), (.ref x)]) (by rw [hml]; rfl) (lenOf own_pd13 rfl) rfl (Nat.le_of_eq rfl) (hb hby own_d8_53) (by decide) (by decide) (by decide) (by decide) ?_
  intro v2 T2 L2 X2 hQ2
  obtain ⟨rfl, Nq2, hh2⟩ := hQ2
  have N2 := Fr.app N0 Nq2
  show own_Ends p e below s _ _ _ (own_F T2 m 56 #[rv x, iv p1, iv tt, iv 3, rv b1, iv 0, iv 0, iv 0, iv p1, .unset] [(.int (f (P + 0)))])
  refine own_callS (y := (⟨"com/example/claimgate/claimgate/jose/Base64Url", "value", "(C)I"⟩ : MethodName)) X2 hx hZ hown (own_w hw 87) (own_w hw 88) (own_w hw 36) (own_w hw 89) (by decide) hh2 (hM := own_val l Z a0 hw [] _ v0 h1 n0 (Nat.le_trans Z0 E1.1) hs0) (W := 0) (pc := 56) (Ls := #[rv x, iv p1, iv tt, iv 3, rv b1, iv 0, iv 0, iv 0, iv p1, .unset]) (argsL := [(.int (f (P + 0)))]) (rest := []) (st0 := [(.int (f (P + 0)))]) (by rw [hml]; rfl) (lenOf own_pd14 rfl) rfl (Nat.le_of_eq rfl) (hb hby own_d8_56) (by decide) (by decide) (by decide) (by decide) ?_
  intro v3 T3 L3 X3 hQ3
  obtain ⟨rfl, Nq3, hh3⟩ := hQ3
  have N3 := Fr.app N2 Nq3
  show own_Ends p e below s _ _ _ (own_F T3 m 59 #[rv x, iv p1, iv tt, iv 3, rv b1, iv 0, iv 0, iv 0, iv p1, .unset] [(.int v0)])
  refine own_g (own_F T3 m 61 #[rv x, iv p1, iv tt, iv 3, rv b1, iv 0, iv 0, iv 0, iv p1, iv v0] []) (fun _ z_ => XS.istore X3.here hx rfl (hb hby own_d8_59) rfl (l' := #[rv x, iv p1, iv tt, iv 3, rv b1, iv 0, iv 0, iv 0, iv p1, iv v0]) rfl z_) ?_
  refine own_g (own_F T3 m 63 #[rv x, iv p1, iv tt, iv 3, rv b1, iv 0, iv 0, iv 0, iv p1, iv v0] [(.int v0)]) (fun _ z_ => XS.iload X3.here hx rfl (hb hby own_d8_61) rfl z_) ?_
  refine own_g (own_F T3 m 76 #[rv x, iv p1, iv tt, iv 3, rv b1, iv 0, iv 0, iv 0, iv p1, iv v0] []) (fun _ z_ => XS.ifYes X3.here hx rfl (pc0 := 63) (pc' := 76) rfl (hb hby own_d8_63) rfl ((if0 _ _).trans (flt (own_vn (own_sym_rng hs0).2.1)).2.1) (by decide) (by decide) z_) ?_
  refine own_g (own_F T3 m 78 #[rv x, iv p1, iv tt, iv 3, rv b1, iv 0, iv 0, iv 0, iv p1, iv v0] [(.int 0)]) (fun _ z_ => XS.iload X3.here hx rfl (hb hby own_d8_76) rfl z_) ?_
  refine own_g (own_F T3 m 80 #[rv x, iv p1, iv tt, iv 3, rv b1, iv 0, iv 0, iv 0, iv p1, iv v0] [(.int 6), (.int 0)]) (fun _ z_ => XS.bipush X3.here hx rfl (hb hby own_d8_78) z_) ?_
  refine own_g (own_F T3 m 81 #[rv x, iv p1, iv tt, iv 3, rv b1, iv 0, iv 0, iv 0, iv p1, iv v0] [(.int ((0 : Int32) <<< ((6 : Int32) &&& 31)))]) (fun _ z_ => XS.ishl X3.here hx rfl (hb hby own_d8_80) rfl z_) ?_
  refine own_g (own_F T3 m 83 #[rv x, iv p1, iv tt, iv 3, rv b1, iv 0, iv 0, iv 0, iv p1, iv v0] [(.int v0), (.int ((0 : Int32) <<< ((6 : Int32) &&& 31)))]) (fun _ z_ => XS.iload X3.here hx rfl (hb hby own_d8_81) rfl z_) ?_
  refine own_g (own_F T3 m 84 #[rv x, iv p1, iv tt, iv 3, rv b1, iv 0, iv 0, iv 0, iv p1, iv v0] [(.int (((0 : Int32) <<< ((6 : Int32) &&& 31)) ||| v0))]) (fun _ z_ => XS.ior X3.here hx rfl (hb hby own_d8_83) rfl z_) ?_
  have hH0 : (((0 : Int32) <<< ((6 : Int32) &&& 31)) ||| v0).toInt = (0 : Int32).toInt * 64 + v0.toInt := own_h6 (by decide) (own_sym_rng hs0).2
  generalize (((0 : Int32) <<< ((6 : Int32) &&& 31)) ||| v0) = H0 at hH0 ⊢
  have hE0 : H0.toInt = y0.toInt / 4 := by rw [hH0, (show (0 : Int32).toInt = 0 from by decide), hr0]; exact Int.zero_add _
  refine own_g (own_F T3 m 86 #[rv x, iv p1, iv tt, iv 3, rv b1, iv H0, iv 0, iv 0, iv p1, iv v0] []) (fun _ z_ => XS.istore X3.here hx rfl (hb hby own_d8_84) rfl (l' := #[rv x, iv p1, iv tt, iv 3, rv b1, iv H0, iv 0, iv 0, iv p1, iv v0]) rfl z_) ?_
  refine own_g (own_F T3 m 89 #[rv x, iv p1, iv tt, iv 3, rv b1, iv H0, iv 6, iv 0, iv p1, iv v0] []) (fun _ z_ => XS.iinc X3.here hx rfl (hb hby own_d8_86) rfl (l' := #[rv x, iv p1, iv tt, iv 3, rv b1, iv H0, iv 6, iv 0, iv p1, iv v0]) rfl z_) ?_
  refine own_g (own_F T3 m 91 #[rv x, iv p1, iv tt, iv 3, rv b1, iv H0, iv 6, iv 0, iv p1, iv v0] [(.int 6)]) (fun _ z_ => XS.iload X3.here hx rfl (hb hby own_d8_89) rfl z_) ?_
  refine own_g (own_F T3 m 93 #[rv x, iv p1, iv tt, iv 3, rv b1, iv H0, iv 6, iv 0, iv p1, iv v0] [(.int 8), (.int 6)]) (fun _ z_ => XS.bipush X3.here hx rfl (hb hby own_d8_91) z_) ?_
  refine own_g (own_F T3 m 124 #[rv x, iv p1, iv tt, iv 3, rv b1, iv H0, iv 6, iv 0, iv p1, iv v0] []) (fun _ z_ => XS.icmpYes X3.here hx rfl (pc0 := 93) (pc' := 124) rfl (hb hby own_d8_93) rfl (tlt (by decide : ((6 : Int32) < (8 : Int32)))).1 (by decide) (by decide) z_) ?_
  refine own_g (own_F T3 m 127 #[rv x, iv p1, iv tt, iv 3, rv b1, iv H0, iv 6, iv 0, iv (p1 + (1 : Int32)), iv v0] []) (fun _ z_ => XS.iinc X3.here hx rfl (hb hby own_d8_124) rfl (l' := #[rv x, iv p1, iv tt, iv 3, rv b1, iv H0, iv 6, iv 0, iv (p1 + (1 : Int32)), iv v0]) rfl z_) ?_
  refine own_g (own_F T3 m 44 #[rv x, iv p1, iv tt, iv 3, rv b1, iv H0, iv 6, iv 0, iv (p1 + (1 : Int32)), iv v0] []) (fun _ z_ => XS.goto X3.here hx rfl (pc0 := 127) (pc' := 44) rfl (hb hby own_d8_127) (by decide) (by decide) z_) ?_
  have hi1 : (p1 + (1 : Int32)).toInt = ((P + 1 : Nat) : Int) := own_add1 hi0 (own_pl2 hP 1)
  generalize (p1 + (1 : Int32)) = i1 at hi1 ⊢
  refine own_g (own_F T3 m 46 #[rv x, iv p1, iv tt, iv 3, rv b1, iv H0, iv 6, iv 0, iv i1, iv v0] [(.int i1)]) (fun _ z_ => XS.iload X3.here hx rfl (hb hby own_d8_44) rfl z_) ?_
  refine own_g (own_F T3 m 47 #[rv x, iv p1, iv tt, iv 3, rv b1, iv H0, iv 6, iv 0, iv i1, iv v0] [(.int tt), (.int i1)]) (fun _ z_ => XS.iloadN X3.here hx rfl (hb hby own_d8_46) rfl z_) ?_
  refine own_g (own_F T3 m 50 #[rv x, iv p1, iv tt, iv 3, rv b1, iv H0, iv 6, iv 0, iv i1, iv v0] []) (fun _ z_ => XS.icmpNo X3.here hx rfl (hb hby own_d8_47) rfl (tlt (own_lt3 hi1 ht (Nat.add_lt_add_left (by decide) P))).2.1 z_) ?_
  refine own_g (own_F T3 m 51 #[rv x, iv p1, iv tt, iv 3, rv b1, iv H0, iv 6, iv 0, iv i1, iv v0] [(.ref x)]) (fun _ z_ => XS.aloadN X3.here hx rfl (hb hby own_d8_50) rfl rfl z_) ?_
  refine own_g (own_F T3 m 53 #[rv x, iv p1, iv tt, iv 3, rv b1, iv H0, iv 6, iv 0, iv i1, iv v0] [(.int i1), (.ref x)]) (fun _ z_ => XS.iload X3.here hx rfl (hb hby own_d8_51) rfl z_) ?_
  refine own_callV (C := "java/lang/String") (y := (⟨"java/lang/String", "charAt", "(I)C"⟩ : MethodName)) (b := x) X3 hx hZ hown (own_w hw 60) (own_w hw 61) (own_w hw 63) (own_w hw 62) (own_w hw 64) (own_w hw 7) (by decide) hh3 (hES.ext E1) (hM := own_charAt l Z a0 hw [] x i1 zc (P + 1) 11 f sv hsv h1 n0 (Nat.le_trans Z0 E1.1) hi1 (own_pl hP 1) hzc (hS.keep ((Keep.refl _ _).ext E1) all0) (S_cs.ext E1) (S_sf.ext E1) (S_ad.ext E1) (S_hi.ext E1) (S_lo.ext E1)) (W := 0) (pc := 53) (Ls := #[rv x, iv p1, iv tt, iv 3, rv b1, iv H0, iv 6, iv 0, iv i1, iv v0]) (argsL := [(.int i1)]) (rest := []) (st0 := [(.int i1), (.ref x)]) (by rw [hml]; rfl) (lenOf own_pd13 rfl) rfl (Nat.le_of_eq rfl) (hb hby own_d8_53) (by decide) (by decide) (by decide) (by decide) ?_
  intro v4 T4 L4 X4 hQ4
  obtain ⟨rfl, Nq4, hh4⟩ := hQ4
  have N4 := Fr.app N3 Nq4
  show own_Ends p e below s _ _ _ (own_F T4 m 56 #[rv x, iv p1, iv tt, iv 3, rv b1, iv H0, iv 6, iv 0, iv i1, iv v0] [(.int (f (P + 1)))])
  refine own_callS (y := (⟨"com/example/claimgate/claimgate/jose/Base64Url", "value", "(C)I"⟩ : MethodName)) X4 hx hZ hown (own_w hw 87) (own_w hw 88) (own_w hw 36) (own_w hw 89) (by decide) hh4 (hM := own_val l Z a0 hw [] _ v1 h1 n0 (Nat.le_trans Z0 E1.1) hs1) (W := 0) (pc := 56) (Ls := #[rv x, iv p1, iv tt, iv 3, rv b1, iv H0, iv 6, iv 0, iv i1, iv v0]) (argsL := [(.int (f (P + 1)))]) (rest := []) (st0 := [(.int (f (P + 1)))]) (by rw [hml]; rfl) (lenOf own_pd14 rfl) rfl (Nat.le_of_eq rfl) (hb hby own_d8_56) (by decide) (by decide) (by decide) (by decide) ?_
  intro v5 T5 L5 X5 hQ5
  obtain ⟨rfl, Nq5, hh5⟩ := hQ5
  have N5 := Fr.app N4 Nq5
  show own_Ends p e below s _ _ _ (own_F T5 m 59 #[rv x, iv p1, iv tt, iv 3, rv b1, iv H0, iv 6, iv 0, iv i1, iv v0] [(.int v1)])
  refine own_g (own_F T5 m 61 #[rv x, iv p1, iv tt, iv 3, rv b1, iv H0, iv 6, iv 0, iv i1, iv v1] []) (fun _ z_ => XS.istore X5.here hx rfl (hb hby own_d8_59) rfl (l' := #[rv x, iv p1, iv tt, iv 3, rv b1, iv H0, iv 6, iv 0, iv i1, iv v1]) rfl z_) ?_
  refine own_g (own_F T5 m 63 #[rv x, iv p1, iv tt, iv 3, rv b1, iv H0, iv 6, iv 0, iv i1, iv v1] [(.int v1)]) (fun _ z_ => XS.iload X5.here hx rfl (hb hby own_d8_61) rfl z_) ?_
  refine own_g (own_F T5 m 76 #[rv x, iv p1, iv tt, iv 3, rv b1, iv H0, iv 6, iv 0, iv i1, iv v1] []) (fun _ z_ => XS.ifYes X5.here hx rfl (pc0 := 63) (pc' := 76) rfl (hb hby own_d8_63) rfl ((if0 _ _).trans (flt (own_vn (own_sym_rng hs1).2.1)).2.1) (by decide) (by decide) z_) ?_
  refine own_g (own_F T5 m 78 #[rv x, iv p1, iv tt, iv 3, rv b1, iv H0, iv 6, iv 0, iv i1, iv v1] [(.int H0)]) (fun _ z_ => XS.iload X5.here hx rfl (hb hby own_d8_76) rfl z_) ?_
  refine own_g (own_F T5 m 80 #[rv x, iv p1, iv tt, iv 3, rv b1, iv H0, iv 6, iv 0, iv i1, iv v1] [(.int 6), (.int H0)]) (fun _ z_ => XS.bipush X5.here hx rfl (hb hby own_d8_78) z_) ?_
  refine own_g (own_F T5 m 81 #[rv x, iv p1, iv tt, iv 3, rv b1, iv H0, iv 6, iv 0, iv i1, iv v1] [(.int (H0 <<< ((6 : Int32) &&& 31)))]) (fun _ z_ => XS.ishl X5.here hx rfl (hb hby own_d8_80) rfl z_) ?_
  refine own_g (own_F T5 m 83 #[rv x, iv p1, iv tt, iv 3, rv b1, iv H0, iv 6, iv 0, iv i1, iv v1] [(.int v1), (.int (H0 <<< ((6 : Int32) &&& 31)))]) (fun _ z_ => XS.iload X5.here hx rfl (hb hby own_d8_81) rfl z_) ?_
  refine own_g (own_F T5 m 84 #[rv x, iv p1, iv tt, iv 3, rv b1, iv H0, iv 6, iv 0, iv i1, iv v1] [(.int ((H0 <<< ((6 : Int32) &&& 31)) ||| v1))]) (fun _ z_ => XS.ior X5.here hx rfl (hb hby own_d8_83) rfl z_) ?_
  have hH1 : ((H0 <<< ((6 : Int32) &&& 31)) ||| v1).toInt = H0.toInt * 64 + v1.toInt := own_h6 (own_r4 hE0 hb0) (own_sym_rng hs1).2
  generalize ((H0 <<< ((6 : Int32) &&& 31)) ||| v1) = H1 at hH1 ⊢
  have hE1 : H1.toInt = y0.toInt * 16 + y1.toInt / 16 := by rw [hH1, hE0, hr1]; exact own_q1 hb0
  refine own_g (own_F T5 m 86 #[rv x, iv p1, iv tt, iv 3, rv b1, iv H1, iv 6, iv 0, iv i1, iv v1] []) (fun _ z_ => XS.istore X5.here hx rfl (hb hby own_d8_84) rfl (l' := #[rv x, iv p1, iv tt, iv 3, rv b1, iv H1, iv 6, iv 0, iv i1, iv v1]) rfl z_) ?_
  refine own_g (own_F T5 m 89 #[rv x, iv p1, iv tt, iv 3, rv b1, iv H1, iv 12, iv 0, iv i1, iv v1] []) (fun _ z_ => XS.iinc X5.here hx rfl (hb hby own_d8_86) rfl (l' := #[rv x, iv p1, iv tt, iv 3, rv b1, iv H1, iv 12, iv 0, iv i1, iv v1]) rfl z_) ?_
  refine own_g (own_F T5 m 91 #[rv x, iv p1, iv tt, iv 3, rv b1, iv H1, iv 12, iv 0, iv i1, iv v1] [(.int 12)]) (fun _ z_ => XS.iload X5.here hx rfl (hb hby own_d8_89) rfl z_) ?_
  refine own_g (own_F T5 m 93 #[rv x, iv p1, iv tt, iv 3, rv b1, iv H1, iv 12, iv 0, iv i1, iv v1] [(.int 8), (.int 12)]) (fun _ z_ => XS.bipush X5.here hx rfl (hb hby own_d8_91) z_) ?_
  refine own_g (own_F T5 m 96 #[rv x, iv p1, iv tt, iv 3, rv b1, iv H1, iv 12, iv 0, iv i1, iv v1] []) (fun _ z_ => XS.icmpNo X5.here hx rfl (hb hby own_d8_93) rfl (flt (by decide : ¬ ((12 : Int32) < (8 : Int32)))).1 z_) ?_
  refine own_g (own_F T5 m 99 #[rv x, iv p1, iv tt, iv 3, rv b1, iv H1, iv 4, iv 0, iv i1, iv v1] []) (fun _ z_ => XS.iinc X5.here hx rfl (hb hby own_d8_96) rfl (l' := #[rv x, iv p1, iv tt, iv 3, rv b1, iv H1, iv 4, iv 0, iv i1, iv v1]) rfl z_) ?_
  refine own_g (own_F T5 m 101 #[rv x, iv p1, iv tt, iv 3, rv b1, iv H1, iv 4, iv 0, iv i1, iv v1] [(.ref b1)]) (fun _ z_ => XS.aload X5.here hx rfl (hb hby own_d8_99) rfl rfl z_) ?_
  refine own_g (own_F T5 m 103 #[rv x, iv p1, iv tt, iv 3, rv b1, iv H1, iv 4, iv 0, iv i1, iv v1] [(.int 0), (.ref b1)]) (fun _ z_ => XS.iload X5.here hx rfl (hb hby own_d8_101) rfl z_) ?_
  refine own_g (own_F T5 m 106 #[rv x, iv p1, iv tt, iv 3, rv b1, iv H1, iv 4, iv 1, iv i1, iv v1] [(.int 0), (.ref b1)]) (fun _ z_ => XS.iinc X5.here hx rfl (hb hby own_d8_103) rfl (l' := #[rv x, iv p1, iv tt, iv 3, rv b1, iv H1, iv 4, iv 1, iv i1, iv v1]) rfl z_) ?_
  refine own_g (own_F T5 m 108 #[rv x, iv p1, iv tt, iv 3, rv b1, iv H1, iv 4, iv 1, iv i1, iv v1] [(.int H1), (.int 0), (.ref b1)]) (fun _ z_ => XS.iload X5.here hx rfl (hb hby own_d8_106) rfl z_) ?_
  refine own_g (own_F T5 m 110 #[rv x, iv p1, iv tt, iv 3, rv b1, iv H1, iv 4, iv 1, iv i1, iv v1] [(.int 4), (.int H1), (.int 0), (.ref b1)]) (fun _ z_ => XS.iload X5.here hx rfl (hb hby own_d8_108) rfl z_) ?_
  refine own_g (own_F T5 m 111 #[rv x, iv p1, iv tt, iv 3, rv b1, iv H1, iv 4, iv 1, iv i1, iv v1] [(.int (H1 >>> ((4 : Int32) &&& 31))), (.int 0), (.ref b1)]) (fun _ z_ => XS.ishr X5.here hx rfl (hb hby own_d8_110) rfl z_) ?_
  have hB0 : (H1 >>> ((4 : Int32) &&& 31)) = y0 := own_sh (c_ishr H1 (4 : Int32) 4 (by decide)) hE1 (own_d1 hb0 hb1)
  rw [hB0]
  refine own_g (own_F T5 m 112 #[rv x, iv p1, iv tt, iv 3, rv b1, iv H1, iv 4, iv 1, iv i1, iv v1] [(.int (y0.toInt8.toInt32)), (.int 0), (.ref b1)]) (fun _ z_ => XS.i2b X5.here hx rfl (hb hby own_d8_111) rfl z_) ?_
  refine own_bast X5 hx hZ hh5 A1 0 rfl (by decide) (y0.toInt8.toInt32) (own_narB _) (hb hby own_d8_112) ?_
  intro T6 h6 X6 e6 W6 A6
  have N6 := Fr.snoc X6 N5 ge_b1
  obtain ⟨g6, A6, q6_0, q6_1⟩ : ∃ gq_ : Nat → Int32, own_A Z h6 b1 .byte 2 (fun q_ => .int (gq_ q_)) ∧ gq_ 0 = (y0.toInt8.toInt32) ∧ gq_ 1 = (0 : Int32) := ⟨_, A6, rfl, (show ite _ _ _ = _ from (if_neg (by decide)).trans rfl)⟩
  show own_Ends p e below s _ _ _ (own_F T6 m 113 #[rv x, iv p1, iv tt, iv 3, rv b1, iv H1, iv 4, iv 1, iv i1, iv v1] [])
  refine own_g (own_F T6 m 115 #[rv x, iv p1, iv tt, iv 3, rv b1, iv H1, iv 4, iv 1, iv i1, iv v1] [(.int H1)]) (fun _ z_ => XS.iload X6.here hx rfl (hb hby own_d8_113) rfl z_) ?_
  refine own_g (own_F T6 m 116 #[rv x, iv p1, iv tt, iv 3, rv b1, iv H1, iv 4, iv 1, iv i1, iv v1] [(.int 1), (.int H1)]) (fun _ z_ => XS.iconst X6.here hx rfl (hb hby own_d8_115) z_) ?_
  refine own_g (own_F T6 m 118 #[rv x, iv p1, iv tt, iv 3, rv b1, iv H1, iv 4, iv 1, iv i1, iv v1] [(.int 4), (.int 1), (.int H1)]) (fun _ z_ => XS.iload X6.here hx rfl (hb hby own_d8_116) rfl z_) ?_
  refine own_g (own_F T6 m 119 #[rv x, iv p1, iv tt, iv 3, rv b1, iv H1, iv 4, iv 1, iv i1, iv v1] [(.int 16), (.int H1)]) (fun _ z_ => XS.ishl X6.here hx rfl (hb hby own_d8_118) rfl z_) ?_
  refine own_g (own_F T6 m 120 #[rv x, iv p1, iv tt, iv 3, rv b1, iv H1, iv 4, iv 1, iv i1, iv v1] [(.int 1), (.int 16), (.int H1)]) (fun _ z_ => XS.iconst X6.here hx rfl (hb hby own_d8_119) z_) ?_
  refine own_g (own_F T6 m 121 #[rv x, iv p1, iv tt, iv 3, rv b1, iv H1, iv 4, iv 1, iv i1, iv v1] [(.int 15), (.int H1)]) (fun _ z_ => XS.isub X6.here hx rfl (hb hby own_d8_120) rfl z_) ?_
  refine own_g (own_F T6 m 122 #[rv x, iv p1, iv tt, iv 3, rv b1, iv H1, iv 4, iv 1, iv i1, iv v1] [(.int (H1 &&& (15 : Int32)))]) (fun _ z_ => XS.iand X6.here hx rfl (hb hby own_d8_121) rfl z_) ?_
  have hG1 : (H1 &&& (15 : Int32)).toInt = y1.toInt / 16 := own_mk (c_mask H1 (15 : Int32) 4 (by decide) (by decide)) hE1 (own_e1 hb1)
  generalize (H1 &&& (15 : Int32)) = G1 at hG1 ⊢
  refine own_g (own_F T6 m 124 #[rv x, iv p1, iv tt, iv 3, rv b1, iv G1, iv 4, iv 1, iv i1, iv v1] []) (fun _ z_ => XS.istore X6.here hx rfl (hb hby own_d8_122) rfl (l' := #[rv x, iv p1, iv tt, iv 3, rv b1, iv G1, iv 4, iv 1, iv i1, iv v1]) rfl z_) ?_
  refine own_g (own_F T6 m 127 #[rv x, iv p1, iv tt, iv 3, rv b1, iv G1, iv 4, iv 1, iv (i1 + (1 : Int32)), iv v1] []) (fun _ z_ => XS.iinc X6.here hx rfl (hb hby own_d8_124) rfl (l' := #[rv x, iv p1, iv tt, iv 3, rv b1, iv G1, iv 4, iv 1, iv (i1 + (1 : Int32)), iv v1]) rfl z_) ?_
  refine own_g (own_F T6 m 44 #[rv x, iv p1, iv tt, iv 3, rv b1, iv G1, iv 4, iv 1, iv (i1 + (1 : Int32)), iv v1] []) (fun _ z_ => XS.goto X6.here hx rfl (pc0 := 127) (pc' := 44) rfl (hb hby own_d8_127) (by decide) (by decide) z_) ?_
  have hi2 : (i1 + (1 : Int32)).toInt = ((P + 2 : Nat) : Int) := own_add1 hi1 (own_pl2 hP 2)
  generalize (i1 + (1 : Int32)) = i2 at hi2 ⊢
  refine own_g (own_F T6 m 46 #[rv x, iv p1, iv tt, iv 3, rv b1, iv G1, iv 4, iv 1, iv i2, iv v1] [(.int i2)]) (fun _ z_ => XS.iload X6.here hx rfl (hb hby own_d8_44) rfl z_) ?_
  refine own_g (own_F T6 m 47 #[rv x, iv p1, iv tt, iv 3, rv b1, iv G1, iv 4, iv 1, iv i2, iv v1] [(.int tt), (.int i2)]) (fun _ z_ => XS.iloadN X6.here hx rfl (hb hby own_d8_46) rfl z_) ?_
  refine own_g (own_F T6 m 50 #[rv x, iv p1, iv tt, iv 3, rv b1, iv G1, iv 4, iv 1, iv i2, iv v1] []) (fun _ z_ => XS.icmpNo X6.here hx rfl (hb hby own_d8_47) rfl (tlt (own_lt3 hi2 ht (Nat.add_lt_add_left (by decide) P))).2.1 z_) ?_
  refine own_g (own_F T6 m 51 #[rv x, iv p1, iv tt, iv 3, rv b1, iv G1, iv 4, iv 1, iv i2, iv v1] [(.ref x)]) (fun _ z_ => XS.aloadN X6.here hx rfl (hb hby own_d8_50) rfl rfl z_) ?_
  refine own_g (own_F T6 m 53 #[rv x, iv p1, iv tt, iv 3, rv b1, iv G1, iv 4, iv 1, iv i2, iv v1] [(.int i2), (.ref x)]) (fun _ z_ => XS.iload X6.here hx rfl (hb hby own_d8_51) rfl z_) ?_
  refine own_callV (C := "java/lang/String") (y := (⟨"java/lang/String", "charAt", "(I)C"⟩ : MethodName)) (b := x) X6 hx hZ hown (own_w hw 60) (own_w hw 61) (own_w hw 63) (own_w hw 62) (own_w hw 64) (own_w hw 7) (by decide) e6 ((hES.ext E1).wr W6) (hM := own_charAt l Z a0 hw [] x i2 zc (P + 2) 11 f sv hsv h6 n0 (Nat.le_trans (Nat.le_trans Z0 E1.1) (Nat.le_of_eq W6.size.symm)) hi2 (own_pl hP 2) hzc (hS.keep (((Keep.refl _ _).ext E1).wr W6 (Or.inr sz_b1)) all0) ((S_cs.ext E1).wr W6) ((S_sf.ext E1).wr W6) ((S_ad.ext E1).wr W6) ((S_hi.ext E1).wr W6) ((S_lo.ext E1).wr W6)) (W := 0) (pc := 53) (Ls := #[rv x, iv p1, iv tt, iv 3, rv b1, iv G1, iv 4, iv 1, iv i2, iv v1]) (argsL := [(.int i2)]) (rest := []) (st0 := [(.int i2), (.ref x)]) (by rw [hml]; rfl) (lenOf own_pd13 rfl) rfl (Nat.le_of_eq rfl) (hb hby own_d8_53) (by decide) (by decide) (by decide) (by decide) ?_
  intro v7 T7 L7 X7 hQ7
  obtain ⟨rfl, Nq7, hh7⟩ := hQ7
  have N7 := Fr.app N6 Nq7
  show own_Ends p e below s _ _ _ (own_F T7 m 56 #[rv x, iv p1, iv tt, iv 3, rv b1, iv G1, iv 4, iv 1, iv i2, iv v1] [(.int (f (P + 2)))])
  refine own_callS (y := (⟨"com/example/claimgate/claimgate/jose/Base64Url", "value", "(C)I"⟩ : MethodName)) X7 hx hZ hown (own_w hw 87) (own_w hw 88) (own_w hw 36) (own_w hw 89) (by decide) hh7 (hM := own_val l Z a0 hw [] _ v2 h6 n0 (Nat.le_trans (Nat.le_trans Z0 E1.1) (Nat.le_of_eq W6.size.symm)) hs2) (W := 0) (pc := 56) (Ls := #[rv x, iv p1, iv tt, iv 3, rv b1, iv G1, iv 4, iv 1, iv i2, iv v1]) (argsL := [(.int (f (P + 2)))]) (rest := []) (st0 := [(.int (f (P + 2)))]) (by rw [hml]; rfl) (lenOf own_pd14 rfl) rfl (Nat.le_of_eq rfl) (hb hby own_d8_56) (by decide) (by decide) (by decide) (by decide) ?_
  intro v8 T8 L8 X8 hQ8
  obtain ⟨rfl, Nq8, hh8⟩ := hQ8
  have N8 := Fr.app N7 Nq8
  show own_Ends p e below s _ _ _ (own_F T8 m 59 #[rv x, iv p1, iv tt, iv 3, rv b1, iv G1, iv 4, iv 1, iv i2, iv v1] [(.int v2)])
  refine own_g (own_F T8 m 61 #[rv x, iv p1, iv tt, iv 3, rv b1, iv G1, iv 4, iv 1, iv i2, iv v2] []) (fun _ z_ => XS.istore X8.here hx rfl (hb hby own_d8_59) rfl (l' := #[rv x, iv p1, iv tt, iv 3, rv b1, iv G1, iv 4, iv 1, iv i2, iv v2]) rfl z_) ?_
  refine own_g (own_F T8 m 63 #[rv x, iv p1, iv tt, iv 3, rv b1, iv G1, iv 4, iv 1, iv i2, iv v2] [(.int v2)]) (fun _ z_ => XS.iload X8.here hx rfl (hb hby own_d8_61) rfl z_) ?_
  refine own_g (own_F T8 m 76 #[rv x, iv p1, iv tt, iv 3, rv b1, iv G1, iv 4, iv 1, iv i2, iv v2] []) (fun _ z_ => XS.ifYes X8.here hx rfl (pc0 := 63) (pc' := 76) rfl (hb hby own_d8_63) rfl ((if0 _ _).trans (flt (own_vn (own_sym_rng hs2).2.1)).2.1) (by decide) (by decide) z_) ?_
  refine own_g (own_F T8 m 78 #[rv x, iv p1, iv tt, iv 3, rv b1, iv G1, iv 4, iv 1, iv i2, iv v2] [(.int G1)]) (fun _ z_ => XS.iload X8.here hx rfl (hb hby own_d8_76) rfl z_) ?_
  refine own_g (own_F T8 m 80 #[rv x, iv p1, iv tt, iv 3, rv b1, iv G1, iv 4, iv 1, iv i2, iv v2] [(.int 6), (.int G1)]) (fun _ z_ => XS.bipush X8.here hx rfl (hb hby own_d8_78) z_) ?_
  refine own_g (own_F T8 m 81 #[rv x, iv p1, iv tt, iv 3, rv b1, iv G1, iv 4, iv 1, iv i2, iv v2] [(.int (G1 <<< ((6 : Int32) &&& 31)))]) (fun _ z_ => XS.ishl X8.here hx rfl (hb hby own_d8_80) rfl z_) ?_
  refine own_g (own_F T8 m 83 #[rv x, iv p1, iv tt, iv 3, rv b1, iv G1, iv 4, iv 1, iv i2, iv v2] [(.int v2), (.int (G1 <<< ((6 : Int32) &&& 31)))]) (fun _ z_ => XS.iload X8.here hx rfl (hb hby own_d8_81) rfl z_) ?_
  refine own_g (own_F T8 m 84 #[rv x, iv p1, iv tt, iv 3, rv b1, iv G1, iv 4, iv 1, iv i2, iv v2] [(.int ((G1 <<< ((6 : Int32) &&& 31)) ||| v2))]) (fun _ z_ => XS.ior X8.here hx rfl (hb hby own_d8_83) rfl z_) ?_
  have hH2 : ((G1 <<< ((6 : Int32) &&& 31)) ||| v2).toInt = G1.toInt * 64 + v2.toInt := own_h6 (own_r16 hG1 hb1) (own_sym_rng hs2).2
  generalize ((G1 <<< ((6 : Int32) &&& 31)) ||| v2) = H2 at hH2 ⊢
  have hE2 : H2.toInt = y1.toInt * 4 + y2.toInt / 64 := by rw [hH2, hG1, hr2]; exact own_q2 hb1
  refine own_g (own_F T8 m 86 #[rv x, iv p1, iv tt, iv 3, rv b1, iv H2, iv 4, iv 1, iv i2, iv v2] []) (fun _ z_ => XS.istore X8.here hx rfl (hb hby own_d8_84) rfl (l' := #[rv x, iv p1, iv tt, iv 3, rv b1, iv H2, iv 4, iv 1, iv i2, iv v2]) rfl z_) ?_
  refine own_g (own_F T8 m 89 #[rv x, iv p1, iv tt, iv 3, rv b1, iv H2, iv 10, iv 1, iv i2, iv v2] []) (fun _ z_ => XS.iinc X8.here hx rfl (hb hby own_d8_86) rfl (l' := #[rv x, iv p1, iv tt, iv 3, rv b1, iv H2, iv 10, iv 1, iv i2, iv v2]) rfl z_) ?_
  refine own_g (own_F T8 m 91 #[rv x, iv p1, iv tt, iv 3, rv b1, iv H2, iv 10, iv 1, iv i2, iv v2] [(.int 10)]) (fun _ z_ => XS.iload X8.here hx rfl (hb hby own_d8_89) rfl z_) ?_
  refine own_g (own_F T8 m 93 #[rv x, iv p1, iv tt, iv 3, rv b1, iv H2, iv 10, iv 1, iv i2, iv v2] [(.int 8), (.int 10)]) (fun _ z_ => XS.bipush X8.here hx rfl (hb hby own_d8_91) z_) ?_
  refine own_g (own_F T8 m 96 #[rv x, iv p1, iv tt, iv 3, rv b1, iv H2, iv 10, iv 1, iv i2, iv v2] []) (fun _ z_ => XS.icmpNo X8.here hx rfl (hb hby own_d8_93) rfl (flt (by decide : ¬ ((10 : Int32) < (8 : Int32)))).1 z_) ?_
  refine own_g (own_F T8 m 99 #[rv x, iv p1, iv tt, iv 3, rv b1, iv H2, iv 2, iv 1, iv i2, iv v2] []) (fun _ z_ => XS.iinc X8.here hx rfl (hb hby own_d8_96) rfl (l' := #[rv x, iv p1, iv tt, iv 3, rv b1, iv H2, iv 2, iv 1, iv i2, iv v2]) rfl z_) ?_
  refine own_g (own_F T8 m 101 #[rv x, iv p1, iv tt, iv 3, rv b1, iv H2, iv 2, iv 1, iv i2, iv v2] [(.ref b1)]) (fun _ z_ => XS.aload X8.here hx rfl (hb hby own_d8_99) rfl rfl z_) ?_
  refine own_g (own_F T8 m 103 #[rv x, iv p1, iv tt, iv 3, rv b1, iv H2, iv 2, iv 1, iv i2, iv v2] [(.int 1), (.ref b1)]) (fun _ z_ => XS.iload X8.here hx rfl (hb hby own_d8_101) rfl z_) ?_
  refine own_g (own_F T8 m 106 #[rv x, iv p1, iv tt, iv 3, rv b1, iv H2, iv 2, iv 2, iv i2, iv v2] [(.int 1), (.ref b1)]) (fun _ z_ => XS.iinc X8.here hx rfl (hb hby own_d8_103) rfl (l' := #[rv x, iv p1, iv tt, iv 3, rv b1, iv H2, iv 2, iv 2, iv i2, iv v2]) rfl z_) ?_
  refine own_g (own_F T8 m 108 #[rv x, iv p1, iv tt, iv 3, rv b1, iv H2, iv 2, iv 2, iv i2, iv v2] [(.int H2), (.int 1), (.ref b1)]) (fun _ z_ => XS.iload X8.here hx rfl (hb hby own_d8_106) rfl z_) ?_
  refine own_g (own_F T8 m 110 #[rv x, iv p1, iv tt, iv 3, rv b1, iv H2, iv 2, iv 2, iv i2, iv v2] [(.int 2), (.int H2), (.int 1), (.ref b1)]) (fun _ z_ => XS.iload X8.here hx rfl (hb hby own_d8_108) rfl z_) ?_
  refine own_g (own_F T8 m 111 #[rv x, iv p1, iv tt, iv 3, rv b1, iv H2, iv 2, iv 2, iv i2, iv v2] [(.int (H2 >>> ((2 : Int32) &&& 31))), (.int 1), (.ref b1)]) (fun _ z_ => XS.ishr X8.here hx rfl (hb hby own_d8_110) rfl z_) ?_
  have hB1 : (H2 >>> ((2 : Int32) &&& 31)) = y1 := own_sh (c_ishr H2 (2 : Int32) 2 (by decide)) hE2 (own_d2 hb1 hb2)
  rw [hB1]
  refine own_g (own_F T8 m 112 #[rv x, iv p1, iv tt, iv 3, rv b1, iv H2, iv 2, iv 2, iv i2, iv v2] [(.int (y1.toInt8.toInt32)), (.int 1), (.ref b1)]) (fun _ z_ => XS.i2b X8.here hx rfl (hb hby own_d8_111) rfl z_) ?_
  refine own_bast X8 hx hZ hh8 A6 1 rfl (by decide) (y1.toInt8.toInt32) (own_narB _) (hb hby own_d8_112) ?_
  intro T9 h9 X9 e9 W9 A9
  have N9 := Fr.snoc X9 N8 ge_b1
  obtain ⟨g9, A9, q9_0, q9_1⟩ : ∃ gq_ : Nat → Int32, own_A Z h9 b1 .byte 2 (fun q_ => .int (gq_ q_)) ∧ gq_ 0 = (y0.toInt8.toInt32) ∧ gq_ 1 = (y1.toInt8.toInt32) := ⟨_, A9, (show ite _ _ _ = _ from (if_neg (by decide)).trans q6_0), rfl⟩
  show own_Ends p e below s _ _ _ (own_F T9 m 113 #[rv x, iv p1, iv tt, iv 3, rv b1, iv H2, iv 2, iv 2, iv i2, iv v2] [])
  refine own_g (own_F T9 m 115 #[rv x, iv p1, iv tt, iv 3, rv b1, iv H2, iv 2, iv 2, iv i2, iv v2] [(.int H2)]) (fun _ z_ => XS.iload X9.here hx rfl (hb hby own_d8_113) rfl z_) ?_
  refine own_g (own_F T9 m 116 #[rv x, iv p1, iv tt, iv 3, rv b1, iv H2, iv 2, iv 2, iv i2, iv v2] [(.int 1), (.int H2)]) (fun _ z_ => XS.iconst X9.here hx rfl (hb hby own_d8_115) z_) ?_
  refine own_g (own_F T9 m 118 #[rv x, iv p1, iv tt, iv 3, rv b1, iv H2, iv 2, iv 2, iv i2, iv v2] [(.int 2), (.int 1), (.int H2)]) (fun _ z_ => XS.iload X9.here hx rfl (hb hby own_d8_116) rfl z_) ?_
  refine own_g (own_F T9 m 119 #[rv x, iv p1, iv tt, iv 3, rv b1, iv H2, iv 2, iv 2, iv i2, iv v2] [(.int 4), (.int H2)]) (fun _ z_ => XS.ishl X9.here hx rfl (hb hby own_d8_118) rfl z_) ?_
  refine own_g (own_F T9 m 120 #[rv x, iv p1, iv tt, iv 3, rv b1, iv H2, iv 2, iv 2, iv i2, iv v2] [(.int 1), (.int 4), (.int H2)]) (fun _ z_ => XS.iconst X9.here hx rfl (hb hby own_d8_119) z_) ?_
  refine own_g (own_F T9 m 121 #[rv x, iv p1, iv tt, iv 3, rv b1, iv H2, iv 2, iv 2, iv i2, iv v2] [(.int 3), (.int H2)]) (fun _ z_ => XS.isub X9.here hx rfl (hb hby own_d8_120) rfl z_) ?_
  refine own_g (own_F T9 m 122 #[rv x, iv p1, iv tt, iv 3, rv b1, iv H2, iv 2, iv 2, iv i2, iv v2] [(.int (H2 &&& (3 : Int32)))]) (fun _ z_ => XS.iand X9.here hx rfl (hb hby own_d8_121) rfl z_) ?_
  have hG2 : (H2 &&& (3 : Int32)).toInt = y2.toInt / 64 := own_mk (c_mask H2 (3 : Int32) 2 (by decide) (by decide)) hE2 (own_e2 hb2)
  generalize (H2 &&& (3 : Int32)) = G2 at hG2 ⊢
  refine own_g (own_F T9 m 124 #[rv x, iv p1, iv tt, iv 3, rv b1, iv G2, iv 2, iv 2, iv i2, iv v2] []) (fun _ z_ => XS.istore X9.here hx rfl (hb hby own_d8_122) rfl (l' := #[rv x, iv p1, iv tt, iv 3, rv b1, iv G2, iv 2, iv 2, iv i2, iv v2]) rfl z_) ?_
  refine own_g (own_F T9 m 127 #[rv x, iv p1, iv tt, iv 3, rv b1, iv G2, iv 2, iv 2, iv (i2 + (1 : Int32)), iv v2] []) (fun _ z_ => XS.iinc X9.here hx rfl (hb hby own_d8_124) rfl (l' := #[rv x, iv p1, iv tt, iv 3, rv b1, iv G2, iv 2, iv 2, iv (i2 + (1 : Int32)), iv v2]) rfl z_) ?_
  refine own_g (own_F T9 m 44 #[rv x, iv p1, iv tt, iv 3, rv b1, iv G2, iv 2, iv 2, iv (i2 + (1 : Int32)), iv v2] []) (fun _ z_ => XS.goto X9.here hx rfl (pc0 := 127) (pc' := 44) rfl (hb hby own_d8_127) (by decide) (by decide) z_) ?_
  have hi3 : (i2 + (1 : Int32)).toInt = ((P + 3 : Nat) : Int) := own_add1 hi2 (own_pl2 hP 3)
  generalize (i2 + (1 : Int32)) = i3 at hi3 ⊢
  refine own_g (own_F T9 m 46 #[rv x, iv p1, iv tt, iv 3, rv b1, iv G2, iv 2, iv 2, iv i3, iv v2] [(.int i3)]) (fun _ z_ => XS.iload X9.here hx rfl (hb hby own_d8_44) rfl z_) ?_
  refine own_g (own_F T9 m 47 #[rv x, iv p1, iv tt, iv 3, rv b1, iv G2, iv 2, iv 2, iv i3, iv v2] [(.int tt), (.int i3)]) (fun _ z_ => XS.iloadN X9.here hx rfl (hb hby own_d8_46) rfl z_) ?_
  refine own_g (own_F T9 m 130 #[rv x, iv p1, iv tt, iv 3, rv b1, iv G2, iv 2, iv 2, iv i3, iv v2] []) (fun _ z_ => XS.icmpYes X9.here hx rfl (pc0 := 47) (pc' := 130) rfl (hb hby own_d8_47) rfl (flt (own_ge3 hi3 ht (Nat.le_refl _))).2.1 (by decide) (by decide) z_) ?_
  refine own_g (own_F T9 m 132 #[rv x, iv p1, iv tt, iv 3, rv b1, iv G2, iv 2, iv 2, iv i3, iv v2] [(.int G2)]) (fun _ z_ => XS.iload X9.here hx rfl (hb hby own_d8_130) rfl z_) ?_
  refine own_g (own_F T9 m 145 #[rv x, iv p1, iv tt, iv 3, rv b1, iv G2, iv 2, iv 2, iv i3, iv v2] []) (fun _ z_ => XS.ifYes X9.here hx rfl (pc0 := 132) (pc' := 145) rfl (hb hby own_d8_132) rfl ((if0 _ _).trans (teq (own_z0 (own_zz64 hG2 hb2))).1) (by decide) (by decide) z_) ?_
  refine own_g (own_F T9 m 147 #[rv x, iv p1, iv tt, iv 3, rv b1, iv G2, iv 2, iv 2, iv i3, iv v2] [(.ref b1)]) (fun _ z_ => XS.aload X9.here hx rfl (hb hby own_d8_145) rfl rfl z_) ?_
  refine own_ret (t := (.array .byte)) X9 hx hlk hrt rfl (Or.inr (Or.inr (Or.inr (Or.inr ⟨rfl, rfl, rfl⟩)))) (hb hby own_d8_147) (by decide) (by decide) ?_
  show ∃ (r : Addr) (g : Nat → Int32), _ ∧ Fr n0 _ ∧ Keep h0 T9.heap [] ∧ n0 ≤ r ∧ own_A Z T9.heap r .byte 2 (fun i => .int (g i)) ∧ _
  rw [e9]
  exact ⟨b1, _, rfl, N9, ((((Keep.refl _ _).ext E1).wr W6 (Or.inr sz_b1)).wr W9 (Or.inr sz_b1)), ge_b1, A9, q9_0, q9_1⟩
set_option maxRecDepth 65536 in
set_option maxHeartbeats 40000000 in
theorem own_dec3 (l : Launch) (Z : State) (a0 : Array Value) (hw : ∀ d ∈ tables_1, d.before a0 Z = true) (ws : List Jvm.Cond) (x : Addr) (p1 tt zc : Int32) (P : Nat) (f : Nat → Int32) (sv : Value) (hsv : sv.isRef = true) (y0 y1 y2 y3 y4 v0 v1 v2 v3 : Int32) (h0 : Heap) (n0 : Nat) (Z0 : n0 ≤ h0.size) (hp : p1.toInt = (P : Int)) (hP : P ≤ 3) (ht : tt.toInt = ((P + 4 : Nat) : Int)) (hzc : ¬ zc = (0 : Int32)) (hS : own_Str Z h0 x 11 f) (S_cs : Sta Z h0 "java/lang/String" "COMPACT_STRINGS" "Z" (.int zc)) (S_sf : Sta Z h0 "jdk/internal/util/Preconditions" "SIOOBE_FORMATTER" "Ljava/util/function/BiFunction;" sv) (S_ad : Sta Z h0 "java/lang/StringUTF16" "$assertionsDisabled" "Z" (.int (1 : Int32))) (S_hi : Sta Z h0 "java/lang/StringUTF16" "HI_BYTE_SHIFT" "I" (.int (0 : Int32))) (S_lo : Sta Z h0 "java/lang/StringUTF16" "LO_BYTE_SHIFT" "I" (.int (8 : Int32))) (hs0 : own_sym (f (P + 0)) v0) (hs1 : own_sym (f (P + 1)) v1) (hs2 : own_sym (f (P + 2)) v2) (hs3 : own_sym (f (P + 3)) v3) (hr0 : v0.toInt = y0.toInt / 4) (hr1 : v1.toInt = (y0.toInt % 4) * 16 + y1.toInt / 16) (hr2 : v2.toInt = (y1.toInt % 16) * 4 + y2.toInt / 64) (hr3 : v3.toInt = y2.toInt % 64) (hb0 : 0 ≤ y0.toInt ∧ y0.toInt ≤ 255) (hb1 : 0 ≤ y1.toInt ∧ y1.toInt ≤ 255) (hb2 : 0 ≤ y2.toInt ∧ y2.toInt ≤ 255) (hb3 : 0 ≤ y3.toInt ∧ y3.toInt ≤ 0) (hb4 : 0 ≤ y4.toInt ∧ y4.toInt ≤ 0) :
    own_Met l Z (⟨"com/example/claimgate/claimgate/jose/Base64Url", "decode", "(Ljava/lang/String;II)[B"⟩ : MethodName) prog_23_method_3_code 10 (some (.array .byte)) ws ({ frames := 5, cells := 1, slots := 3, locals := 66 } : Room) #[(.ref x), (.int p1), (.int tt)] h0 (fun v h L => ∃ (r : Addr) (g : Nat → Int32), v = some (.ref r) ∧ Fr n0 L ∧ Keep h0 h [] ∧ n0 ≤ r ∧ own_A Z h r .byte 3 (fun i => .int (g i)) ∧ g 0 = y0.toInt8.toInt32 ∧ g 1 = y1.toInt8.toInt32 ∧ g 2 = y2.toInt8.toInt32) := by
  refine own_body own_pn21 (fun m => mkF m 0 #[rv x, iv p1, iv tt, .unset, .unset, .unset, .unset, .unset, .unset, .unset] []) (fun m => own_ef_own_dec3 m x p1 tt) ?_
  intro p e s m below meth c T0 hx hby hml hlk hrt hZ hown hnm X0 e0
  have hown : s.vm.findClass "com/example/claimgate/claimgate/jose/Base64Url" = some m.cls := hown
  have N0 := Fr.nil n0
  have hES := own_Str.exa hS
  refine own_g (own_F T0 m 1 #[rv x, iv p1, iv tt, .unset, .unset, .unset, .unset, .unset, .unset, .unset] [(.int tt)]) (fun _ z_ => XS.iloadN X0.here hx rfl (hb hby own_d8_0) rfl z_) ?_
  refine own_g (own_F T0 m 2 #[rv x, iv p1, iv tt, .unset, .unset, .unset, .unset, .unset, .unset, .unset] [(.int p1), (.int tt)]) (fun _ z_ => XS.iloadN X0.here hx rfl (hb hby own_d8_1) rfl z_) ?_
  refine own_g (own_F T0 m 3 #[rv x, iv p1, iv tt, .unset, .unset, .unset, .unset, .unset, .unset, .unset] [(.int (tt - p1))]) (fun _ z_ => XS.isub X0.here hx rfl (hb hby own_d8_2) rfl z_) ?_
  rw [(own_len hp ht : (tt - p1) = (4 : Int32))]
  refine own_g (own_F T0 m 4 #[rv x, iv p1, iv tt, iv 4, .unset, .unset, .unset, .unset, .unset, .unset] []) (fun _ z_ => XS.istoreN X0.here hx rfl (hb hby own_d8_3) rfl (l' := #[rv x, iv p1, iv tt, iv 4, .unset, .unset, .unset, .unset, .unset, .unset]) rfl z_) ?_
  refine own_g (own_F T0 m 5 #[rv x, iv p1, iv tt, iv 4, .unset, .unset, .unset, .unset, .unset, .unset] [(.int 4)]) (fun _ z_ => XS.iloadN X0.here hx rfl (hb hby own_d8_4) rfl z_) ?_
  refine own_g (own_F T0 m 6 #[rv x, iv p1, iv tt, iv 4, .unset, .unset, .unset, .unset, .unset, .unset] [(.int 4), (.int 4)]) (fun _ z_ => XS.iconst X0.here hx rfl (hb hby own_d8_5) z_) ?_
  refine own_g (own_F T0 m 7 #[rv x, iv p1, iv tt, iv 4, .unset, .unset, .unset, .unset, .unset, .unset] [(.int 0)]) (fun _ z_ => iremM X0 hx rfl (hb hby own_d8_6) rfl (by decide) z_) ?_
  refine own_g (own_F T0 m 8 #[rv x, iv p1, iv tt, iv 4, .unset, .unset, .unset, .unset, .unset, .unset] [(.int 1), (.int 0)]) (fun _ z_ => XS.iconst X0.here hx rfl (hb hby own_d8_7) z_) ?_
  refine own_g (own_F T0 m 21 #[rv x, iv p1, iv tt, iv 4, .unset, .unset, .unset, .unset, .unset, .unset] []) (fun _ z_ => XS.icmpYes X0.here hx rfl (pc0 := 8) (pc' := 21) rfl (hb hby own_d8_8) rfl (feq (by decide : ¬ ((0 : Int32) = (1 : Int32)))).2 (by decide) (by decide) z_) ?_
  refine own_g (own_F T0 m 22 #[rv x, iv p1, iv tt, iv 4, .unset, .unset, .unset, .unset, .unset, .unset] [(.int 4)]) (fun _ z_ => XS.iloadN X0.here hx rfl (hb hby own_d8_21) rfl z_) ?_
  refine own_g (own_F T0 m 24 #[rv x, iv p1, iv tt, iv 4, .unset, .unset, .unset, .unset, .unset, .unset] [(.int 6), (.int 4)]) (fun _ z_ => XS.bipush X0.here hx rfl (hb hby own_d8_22) z_) ?_
  refine own_g (own_F T0 m 25 #[rv x, iv p1, iv tt, iv 4, .unset, .unset, .unset, .unset, .unset, .unset] [(.int 24)]) (fun _ z_ => XS.imul X0.here hx rfl (hb hby own_d8_24) rfl z_) ?_
  refine own_g (own_F T0 m 27 #[rv x, iv p1, iv tt, iv 4, .unset, .unset, .unset, .unset, .unset, .unset] [(.int 8), (.int 24)]) (fun _ z_ => XS.bipush X0.here hx rfl (hb hby own_d8_25) z_) ?_
  refine own_g (own_F T0 m 28 #[rv x, iv p1, iv tt, iv 4, .unset, .unset, .unset, .unset, .unset, .unset] [(.int 3)]) (fun _ z_ => XS.idiv X0.here hx rfl (hb hby own_d8_27) rfl (by decide) z_) ?_
  refine own_newA X0 hx hZ .byte rfl (own_w hw 23) e0 (hb hby own_d8_28) 3 rfl 3 (by decide) (by decide) (by decide) (by decide) ?_
  intro T1 h1 b1 X1 e1 E1 g1 A1
  have sz_b1 : h0.size ≤ b1 := Nat.le_trans (Nat.le_refl h0.size) (Nat.le_of_eq g1.symm)
  have ge_b1 : n0 ≤ b1 := Nat.le_trans Z0 (Nat.le_of_eq g1.symm)
  have ne_x_b1 : x ≠ b1 := Nat.ne_of_lt (Nat.lt_of_lt_of_le hES.lt (Nat.le_of_eq g1.symm))
  have A1 : own_A Z h1 b1 .byte 3 (fun q_ => .int ((fun _ => (0 : Int32)) q_)) := A1
  show own_Ends p e below s _ _ _ (own_F T1 m 30 #[rv x, iv p1, iv tt, iv 4, .unset, .unset, .unset, .unset, .unset, .unset] [(.ref b1)])
  refine own_g (own_F T1 m 32 #[rv x, iv p1, iv tt, iv 4, rv b1, .unset, .unset, .unset, .unset, .unset] []) (fun _ z_ => XS.astore X1.here hx rfl (hb hby own_d8_30) rfl rfl (l' := #[rv x, iv p1, iv tt, iv 4, rv b1, .unset, .unset, .unset, .unset, .unset]) rfl z_) ?_
  refine own_g (own_F T1 m 33 #[rv x, iv p1, iv tt, iv 4, rv b1, .unset, .unset, .unset, .unset, .unset] [(.int 0)]) (fun _ z_ => XS.iconst X1.here hx rfl (hb hby own_d8_32) z_) ?_
  refine own_g (own_F T1 m 35 #[rv x, iv p1, iv tt, iv 4, rv b1, iv 0, .unset, .unset, .unset, .unset] []) (fun _ z_ => XS.istore X1.here hx rfl (hb hby own_d8_33) rfl (l' := #[rv x, iv p1, iv tt, iv 4, rv b1, iv 0, .unset, .unset, .unset, .unset]) rfl z_) ?_
  refine own_g (own_F T1 m 36 #[rv x, iv p1, iv tt, iv 4, rv b1, iv 0, .unset, .unset, .unset, .unset] [(.int 0)]) (fun _ z_ => XS.iconst X1.here hx rfl (hb hby own_d8_35) z_) ?_
  refine own_g (own_F T1 m 38 #[rv x, iv p1, iv tt, iv 4, rv b1, iv 0, iv 0, .unset, .unset, .unset] []) (fun _ z_ => XS.istore X1.here hx rfl (hb hby own_d8_36) rfl (l' := #[rv x, iv p1, iv tt, iv 4, rv b1, iv 0, iv 0, .unset, .unset, .unset]) rfl z_) ?_
  refine own_g (own_F T1 m 39 #[rv x, iv p1, iv tt, iv 4, rv b1, iv 0, iv 0, .unset, .unset, .unset] [(.int 0)]) (fun _ z_ => XS.iconst X1.here hx rfl (hb hby own_d8_38) z_) ?_
  refine own_g (own_F T1 m 41 #[rv x, iv p1, iv tt, iv 4, rv b1, iv 0, iv 0, iv 0, .unset, .unset] []) (fun _ z_ => XS.istore X1.here hx rfl (hb hby own_d8_39) rfl (l' := #[rv x, iv p1, iv tt, iv 4, rv b1, iv 0, iv 0, iv 0, .unset, .unset]) rfl z_) ?_
  refine own_g (own_F T1 m 42 #[rv x, iv p1, iv tt, iv 4, rv b1, iv 0, iv 0, iv 0, .unset, .unset] [(.int p1)]) (fun _ z_ => XS.iloadN X1.here hx rfl (hb hby own_d8_41) rfl z_) ?_
  refine own_g (own_F T1 m 44 #[rv x, iv p1, iv tt, iv 4, rv b1, iv 0, iv 0, iv 0, iv p1, .unset] []) (fun _ z_ => XS.istore X1.here hx rfl (hb hby own_d8_42) rfl (l' := #[rv x, iv p1, iv tt, iv 4, rv b1, iv 0, iv 0, iv 0, iv p1, .unset]) rfl z_) ?_
  have hi0 : p1.toInt = ((P + 0 : Nat) : Int) := hp
  refine own_g (own_F T1 m 46 #[rv x, iv p1, iv tt, iv 4, rv b1, iv 0, iv 0, iv 0, iv p1, .unset] [(.int p1)]) (fun _ z_ => XS.iload X1.here hx rfl (hb hby own_d8_44) rfl z_) ?_
  refine own_g (own_F T1 m 47 #[rv x, iv p1, iv tt, iv 4, rv b1, iv 0, iv 0, iv 0, iv p1, .unset] [(.int tt), (.int p1)]) (fun _ z_ => XS.iloadN X1.here hx rfl (hb hby own_d8_46) rfl z_) ?_
  refine own_g (own_F T1 m 50 #[rv x, iv p1, iv tt, iv 4, rv b1, iv 0, iv 0, iv 0, iv p1, .unset] []) (fun _ z_ => XS.icmpNo X1.here hx rfl (hb hby own_d8_47) rfl (tlt (own_lt3 hi0 ht (Nat.add_lt_add_left (by decide) P))).2.1 z_) ?_
  refine own_g (own_F T1 m 51 #[rv x, iv p1, iv tt, iv 4, rv b1, iv 0, iv 0, iv 0, iv p1, .unset] [(.ref x)]) (fun _ z_ => XS.aloadN X1.here hx rfl (hb hby own_d8_50) rfl rfl z_) ?_
  refine own_g (own_F T1 m 53 #[rv x, iv p1, iv tt, iv 4, rv b1, iv 0, iv 0, iv 0, iv p1, .unset] [(.int p1), (.ref x)]) (fun _ z_ => XS.iload X1.here hx rfl (hb hby own_d8_51) rfl z_) ?_
  refine own_callV (C := "java/lang/String") (y := (⟨"java/lang/String", "charAt", "(I)C"⟩ : MethodName)) (b := x) X1 hx hZ hown (own_w hw 60) (own_w hw 61) (own_w hw 63) (own_w hw 62) (own_w hw 64) (own_w hw 7) (by decide) e1 (hES.ext E1) (hM := own_charAt l Z a0 hw [] x p1 zc (P + 0) 11 f sv hsv h1 n0 (Nat.le_trans Z0 E1.1) hi0 (own_pl hP 0) hzc (hS.keep ((Keep.refl _ _).ext E1) all0) (S_cs.ext E1) (S_sf.ext E1) (S_ad.ext E1) (S_hi.ext E1) (S_lo.ext E1)) (W := 0) (pc := 53) (Ls := #[rv x, iv p1, iv tt, iv 4, rv b1, iv 0, iv 0, iv 0, iv p1, .unset]) (argsL := [(.int p1)]) (rest := []) (st0 := [(.int p1), (.ref x)]) (by rw [hml]; rfl) (lenOf own_pd13 rfl) rfl (Nat.le_of_eq rfl) (hb hby own_d8_53) (by decide) (by decide) (by decide) (by decide) ?_
  intro v2 T2 L2 X2 hQ2
  obtain ⟨rfl, Nq2, hh2⟩ := hQ2
  have N2 := Fr.app N0 Nq2
  show own_Ends p e below s _ _ _ (own_F T2 m 56 #[rv x, iv p1, iv tt, iv 4, rv b1, iv 0, iv 0, iv 0, iv p1, .unset] [(.int (f (P + 0)))])
  refine own_callS (y := (⟨"com/example/claimgate/claimgate/jose/Base64Url", "value", "(C)I"⟩ : MethodName)) X2 hx hZ hown (own_w hw 87) (own_w hw 88) (own_w hw 36) (own_w hw 89) (by decide) hh2 (hM := own_val l Z a0 hw [] _ v0 h1 n0 (Nat.le_trans Z0 E1.1) hs0) (W := 0) (pc := 56) (Ls := #[rv x, iv p1, iv tt, iv 4, rv b1, iv 0, iv 0, iv 0, iv p1, .unset]) (argsL := [(.int (f (P + 0)))]) (rest := []) (st0 := [(.int (f (P + 0)))]) (by rw [hml]; rfl) (lenOf own_pd14 rfl) rfl (Nat.le_of_eq rfl) (hb hby own_d8_56) (by decide) (by decide) (by decide) (by decide) ?_
  intro v3 T3 L3 X3 hQ3
  obtain ⟨rfl, Nq3, hh3⟩ := hQ3
  have N3 := Fr.app N2 Nq3
  show own_Ends p e below s _ _ _ (own_F T3 m 59 #[rv x, iv p1, iv tt, iv 4, rv b1, iv 0, iv 0, iv 0, iv p1, .unset] [(.int v0)])
  refine own_g (own_F T3 m 61 #[rv x, iv p1, iv tt, iv 4, rv b1, iv 0, iv 0, iv 0, iv p1, iv v0] []) (fun _ z_ => XS.istore X3.here hx rfl (hb hby own_d8_59) rfl (l' := #[rv x, iv p1, iv tt, iv 4, rv b1, iv 0, iv 0, iv 0, iv p1, iv v0]) rfl z_) ?_
  refine own_g (own_F T3 m 63 #[rv x, iv p1, iv tt, iv 4, rv b1, iv 0, iv 0, iv 0, iv p1, iv v0] [(.int v0)]) (fun _ z_ => XS.iload X3.here hx rfl (hb hby own_d8_61) rfl z_) ?_
  refine own_g (own_F T3 m 76 #[rv x, iv p1, iv tt, iv 4, rv b1, iv 0, iv 0, iv 0, iv p1, iv v0] []) (fun _ z_ => XS.ifYes X3.here hx rfl (pc0 := 63) (pc' := 76) rfl (hb hby own_d8_63) rfl ((if0 _ _).trans (flt (own_vn (own_sym_rng hs0).2.1)).2.1) (by decide) (by decide) z_) ?_
  refine own_g (own_F T3 m 78 #[rv x, iv p1, iv tt, iv 4, rv b1, iv 0, iv 0, iv 0, iv p1, iv v0] [(.int 0)]) (fun _ z_ => XS.iload X3.here hx rfl (hb hby own_d8_76) rfl z_) ?_
  refine own_g (own_F T3 m 80 #[rv x, iv p1, iv tt, iv 4, rv b1, iv 0, iv 0, iv 0, iv p1, iv v0] [(.int 6), (.int 0)]) (fun _ z_ => XS.bipush X3.here hx rfl (hb hby own_d8_78) z_) ?_
  refine own_g (own_F T3 m 81 #[rv x, iv p1, iv tt, iv 4, rv b1, iv 0, iv 0, iv 0, iv p1, iv v0] [(.int ((0 : Int32) <<< ((6 : Int32) &&& 31)))]) (fun _ z_ => XS.ishl X3.here hx rfl (hb hby own_d8_80) rfl z_) ?_
  refine own_g (own_F T3 m 83 #[rv x, iv p1, iv tt, iv 4, rv b1, iv 0, iv 0, iv 0, iv p1, iv v0] [(.int v0), (.int ((0 : Int32) <<< ((6 : Int32) &&& 31)))]) (fun _ z_ => XS.iload X3.here hx rfl (hb hby own_d8_81) rfl z_) ?_
  refine own_g (own_F T3 m 84 #[rv x, iv p1, iv tt, iv 4, rv b1, iv 0, iv 0, iv 0, iv p1, iv v0] [(.int (((0 : Int32) <<< ((6 : Int32) &&& 31)) ||| v0))]) (fun _ z_ => XS.ior X3.here hx rfl (hb hby own_d8_83) rfl z_) ?_
  have hH0 : (((0 : Int32) <<< ((6 : Int32) &&& 31)) ||| v0).toInt = (0 : Int32).toInt * 64 + v0.toInt := own_h6 (by decide) (own_sym_rng hs0).2
  generalize (((0 : Int32) <<< ((6 : Int32) &&& 31)) ||| v0) = H0 at hH0 ⊢
  have hE0 : H0.toInt = y0.toInt / 4 := by rw [hH0, (show (0 : Int32).toInt = 0 from by decide), hr0]; exact Int.zero_add _
  refine own_g (own_F T3 m 86 #[rv x, iv p1, iv tt, iv 4, rv b1, iv H0, iv 0, iv 0, iv p1, iv v0] []) (fun _ z_ => XS.istore X3.here hx rfl (hb hby own_d8_84) rfl (l' := #[rv x, iv p1, iv tt, iv 4, rv b1, iv H0, iv 0, iv 0, iv p1, iv v0]) rfl z_) ?_
  refine own_g (own_F T3 m 89 #[rv x, iv p1, iv tt, iv 4, rv b1, iv H0, iv 6, iv 0, iv p1, iv v0] []) (fun _ z_ => XS.iinc X3.here hx rfl (hb hby own_d8_86) rfl (l' := #[rv x, iv p1, iv tt, iv 4, rv b1, iv H0, iv 6, iv 0, iv p1, iv v0]) rfl z_) ?_
  refine own_g (own_F T3 m 91 #[rv x, iv p1, iv tt, iv 4, rv b1, iv H0, iv 6, iv 0, iv p1, iv v0] [(.int 6)]) (fun _ z_ => XS.iload X3.here hx rfl (hb hby own_d8_89) rfl z_) ?_
  refine own_g (own_F T3 m 93 #[rv x, iv p1, iv tt, iv 4, rv b1, iv H0, iv 6, iv 0, iv p1, iv v0] [(.int 8), (.int 6)]) (fun _ z_ => XS.bipush X3.here hx rfl (hb hby own_d8_91) z_) ?_
  refine own_g (own_F T3 m 124 #[rv x, iv p1, iv tt, iv 4, rv b1, iv H0, iv 6, iv 0, iv p1, iv v0] []) (fun _ z_ => XS.icmpYes X3.here hx rfl (pc0 := 93) (pc' := 124) rfl (hb hby own_d8_93) rfl (tlt (by decide : ((6 : Int32) < (8 : Int32)))).1 (by decide) (by decide) z_) ?_
  refine own_g (own_F T3 m 127 #[rv x, iv p1, iv tt, iv 4, rv b1, iv H0, iv 6, iv 0, iv (p1 + (1 : Int32)), iv v0] []) (fun _ z_ => XS.iinc X3.here hx rfl (hb hby own_d8_124) rfl (l' := #[rv x, iv p1, iv tt, iv 4, rv b1, iv H0, iv 6, iv 0, iv (p1 + (1 : Int32)), iv v0]) rfl z_) ?_
  refine own_g (own_F T3 m 44 #[rv x, iv p1, iv tt, iv 4, rv b1, iv H0, iv 6, iv 0, iv (p1 + (1 : Int32)), iv v0] []) (fun _ z_ => XS.goto X3.here hx rfl (pc0 := 127) (pc' := 44) rfl (hb hby own_d8_127) (by decide) (by decide) z_) ?_
  have hi1 : (p1 + (1 : Int32)).toInt = ((P + 1 : Nat) : Int) := own_add1 hi0 (own_pl2 hP 1)
  generalize (p1 + (1 : Int32)) = i1 at hi1 ⊢
  refine own_g (own_F T3 m 46 #[rv x, iv p1, iv tt, iv 4, rv b1, iv H0, iv 6, iv 0, iv i1, iv v0] [(.int i1)]) (fun _ z_ => XS.iload X3.here hx rfl (hb hby own_d8_44) rfl z_) ?_
  refine own_g (own_F T3 m 47 #[rv x, iv p1, iv tt, iv 4, rv b1, iv H0, iv 6, iv 0, iv i1, iv v0] [(.int tt), (.int i1)]) (fun _ z_ => XS.iloadN X3.here hx rfl (hb hby own_d8_46) rfl z_) ?_
  refine own_g (own_F T3 m 50 #[rv x, iv p1, iv tt, iv 4, rv b1, iv H0, iv 6, iv 0, iv i1, iv v0] []) (fun _ z_ => XS.icmpNo X3.here hx rfl (hb hby own_d8_47) rfl (tlt (own_lt3 hi1 ht (Nat.add_lt_add_left (by decide) P))).2.1 z_) ?_
  refine own_g (own_F T3 m 51 #[rv x, iv p1, iv tt, iv 4, rv b1, iv H0, iv 6, iv 0, iv i1, iv v0] [(.ref x)]) (fun _ z_ => XS.aloadN X3.here hx rfl (hb hby own_d8_50) rfl rfl z_) ?_
  refine own_g (own_F T3 m 53 #[rv x, iv p1, iv tt, iv 4, rv b1, iv H0, iv 6, iv 0, iv i1, iv v0] [(.int i1), (.ref x)]) (fun _ z_ => XS.iload X3.here hx rfl (hb hby own_d8_51) rfl z_) ?_
  refine own_callV (C := "java/lang/String") (y := (⟨"java/lang/String", "charAt", "(I)C"⟩ : MethodName)) (b := x) X3 hx hZ hown (own_w hw 60) (own_w hw 61) (own_w hw 63) (own_w hw 62) (own_w hw 64) (own_w hw 7) (by decide) hh3 (hES.ext E1) (hM := own_charAt l Z a0 hw [] x i1 zc (P + 1) 11 f sv hsv h1 n0 (Nat.le_trans Z0 E1.1) hi1 (own_pl hP 1) hzc (hS.keep ((Keep.refl _ _).ext E1) all0) (S_cs.ext E1) (S_sf.ext E1) (S_ad.ext E1) (S_hi.ext E1) (S_lo.ext E1)) (W := 0) (pc := 53) (Ls := #[rv x, iv p1, iv tt, iv 4, rv b1, iv H0, iv 6, iv 0, iv i1, iv v0]) (argsL := [(.int i1)]) (rest := []) (st0 := [(.int i1), (.ref x)]) (by rw [hml]; rfl) (lenOf own_pd13 rfl) rfl (Nat.le_of_eq rfl) (hb hby own_d8_53) (by decide) (by decide) (by decide) (by decide) ?_
  intro v4 T4 L4 X4 hQ4
  obtain ⟨rfl, Nq4, hh4⟩ := hQ4
  have N4 := Fr.app N3 Nq4
  show own_Ends p e below s _ _ _ (own_F T4 m 56 #[rv x, iv p1, iv tt, iv 4, rv b1, iv H0, iv 6, iv 0, iv i1, iv v0] [(.int (f (P + 1)))])
  refine own_callS (y := (⟨"com/example/claimgate/claimgate/jose/Base64Url", "value", "(C)I"⟩ : MethodName)) X4 hx hZ hown (own_w hw 87) (own_w hw 88) (own_w hw 36) (own_w hw 89) (by decide) hh4 (hM := own_val l Z a0 hw [] _ v1 h1 n0 (Nat.le_trans Z0 E1.1) hs1) (W := 0) (pc := 56) (Ls := #[rv x, iv p1, iv tt, iv 4, rv b1, iv H0, iv 6, iv 0, iv i1, iv v0]) (argsL := [(.int (f (P + 1)))]) (rest := []) (st0 := [(.int (f (P + 1)))]) (by rw [hml]; rfl) (lenOf own_pd14 rfl) rfl (Nat.le_of_eq rfl) (hb hby own_d8_56) (by decide) (by decide) (by decide) (by decide) ?_
  intro v5 T5 L5 X5 hQ5
  obtain ⟨rfl, Nq5, hh5⟩ := hQ5
  have N5 := Fr.app N4 Nq5
  show own_Ends p e below s _ _ _ (own_F T5 m 59 #[rv x, iv p1, iv tt, iv 4, rv b1, iv H0, iv 6, iv 0, iv i1, iv v0] [(.int v1)])
  refine own_g (own_F T5 m 61 #[rv x, iv p1, iv tt, iv 4, rv b1, iv H0, iv 6, iv 0, iv i1, iv v1] []) (fun _ z_ => XS.istore X5.here hx rfl (hb hby own_d8_59) rfl (l' := #[rv x, iv p1, iv tt, iv 4, rv b1, iv H0, iv 6, iv 0, iv i1, iv v1]) rfl z_) ?_
  refine own_g (own_F T5 m 63 #[rv x, iv p1, iv tt, iv 4, rv b1, iv H0, iv 6, iv 0, iv i1, iv v1] [(.int v1)]) (fun _ z_ => XS.iload X5.here hx rfl (hb hby own_d8_61) rfl z_) ?_
  refine own_g (own_F T5 m 76 #[rv x, iv p1, iv tt, iv 4, rv b1, iv H0, iv 6, iv 0, iv i1, iv v1] []) (fun _ z_ => XS.ifYes X5.here hx rfl (pc0 := 63) (pc' := 76) rfl (hb hby own_d8_63) rfl ((if0 _ _).trans (flt (own_vn (own_sym_rng hs1).2.1)).2.1) (by decide) (by decide) z_) ?_
  refine own_g (own_F T5 m 78 #[rv x, iv p1, iv tt, iv 4, rv b1, iv H0, iv 6, iv 0, iv i1, iv v1] [(.int H0)]) (fun _ z_ => XS.iload X5.here hx rfl (hb hby own_d8_76) rfl z_) ?_
  refine own_g (own_F T5 m 80 #[rv x, iv p1, iv tt, iv 4, rv b1, iv H0, iv 6, iv 0, iv i1, iv v1] [(.int 6), (.int H0)]) (fun _ z_ => XS.bipush X5.here hx rfl (hb hby own_d8_78) z_) ?_
  refine own_g (own_F T5 m 81 #[rv x, iv p1, iv tt, iv 4, rv b1, iv H0, iv 6, iv 0, iv i1, iv v1] [(.int (H0 <<< ((6 : Int32) &&& 31)))]) (fun _ z_ => XS.ishl X5.here hx rfl (hb hby own_d8_80) rfl z_) ?_
  refine own_g (own_F T5 m 83 #[rv x, iv p1, iv tt, iv 4, rv b1, iv H0, iv 6, iv 0, iv i1, iv v1] [(.int v1), (.int (H0 <<< ((6 : Int32) &&& 31)))]) (fun _ z_ => XS.iload X5.here hx rfl (hb hby own_d8_81) rfl z_) ?_
  refine own_g (own_F T5 m 84 #[rv x, iv p1, iv tt, iv 4, rv b1, iv H0, iv 6, iv 0, iv i1, iv v1] [(.int ((H0 <<< ((6 : Int32) &&& 31)) ||| v1))]) (fun _ z_ => XS.ior X5.here hx rfl (hb hby own_d8_83) rfl z_) ?_
  have hH1 : ((H0 <<< ((6 : Int32) &&& 31)) ||| v1).toInt = H0.toInt * 64 + v1.toInt := own_h6 (own_r4 hE0 hb0) (own_sym_rng hs1).2
  generalize ((H0 <<< ((6 : Int32) &&& 31)) ||| v1) = H1 at hH1 ⊢
  have hE1 : H1.toInt = y0.toInt * 16 + y1.toInt / 16 := by rw [hH1, hE0, hr1]; exact own_q1 hb0
  refine own_g (own_F T5 m 86 #[rv x, iv p1, iv tt, iv 4, rv b1, iv H1, iv 6, iv 0, iv i1, iv v1] []) (fun _ z_ => XS.istore X5.here hx rfl (hb hby own_d8_84) rfl (l' := #[rv x, iv p1, iv tt, iv 4, rv b1, iv H1, iv 6, iv 0, iv i1, iv v1]) rfl z_) ?_
  refine own_g (own_F T5 m 89 #[rv x, iv p1, iv tt, iv 4, rv b1, iv H1, iv 12, iv 0, iv i1, iv v1] []) (fun _ z_ => XS.iinc X5.here hx rfl (hb hby own_d8_86) rfl (l' := #[rv x, iv p1, iv tt, iv 4, rv b1, iv H1, iv 12, iv 0, iv i1, iv v1]) rfl z_) ?_
  refine own_g (own_F T5 m 91 #[rv x, iv p1, iv tt, iv 4, rv b1, iv H1, iv 12, iv 0, iv i1, iv v1] [(.int 12)]) (fun _ z_ => XS.iload X5.here hx rfl (hb hby own_d8_89) rfl z_) ?_
  refine own_g (own_F T5 m 93 #[rv x, iv p1, iv tt, iv 4, rv b1, iv H1, iv 12, iv 0, iv i1, iv v1] [(.int 8), (.int 12)]) (fun _ z_ => XS.bipush X5.here hx rfl (hb hby own_d8_91) z_) ?_
  refine own_g (own_F T5 m 96 #[rv x, iv p1, iv tt, iv 4, rv b1, iv H1, iv 12, iv 0, iv i1, iv v1] []) (fun _ z_ => XS.icmpNo X5.here hx rfl (hb hby own_d8_93) rfl (flt (by decide : ¬ ((12 : Int32) < (8 : Int32)))).1 z_) ?_
  refine own_g (own_F T5 m 99 #[rv x, iv p1, iv tt, iv 4, rv b1, iv H1, iv 4, iv 0, iv i1, iv v1] []) (fun _ z_ => XS.iinc X5.here hx rfl (hb hby own_d8_96) rfl (l' := #[rv x, iv p1, iv tt, iv 4, rv b1, iv H1, iv 4, iv 0, iv i1, iv v1]) rfl z_) ?_
  refine own_g (own_F T5 m 101 #[rv x, iv p1, iv tt, iv 4, rv b1, iv H1, iv 4, iv 0, iv i1, iv v1] [(.ref b1)]) (fun _ z_ => XS.aload X5.here hx rfl (hb hby own_d8_99) rfl rfl z_) ?_
  refine own_g (own_F T5 m 103 #[rv x, iv p1, iv tt, iv 4, rv b1, iv H1, iv 4, iv 0, iv i1, iv v1] [(.int 0), (.ref b1)]) (fun _ z_ => XS.iload X5.here hx rfl (hb hby own_d8_101) rfl z_) ?_
  refine own_g (own_F T5 m 106 #[rv x, iv p1, iv tt, iv 4, rv b1, iv H1, iv 4, iv 1, iv i1, iv v1] [(.int 0), (.ref b1)]) (fun _ z_ => XS.iinc X5.here hx rfl (hb hby own_d8_103) rfl (l' := #[rv x, iv p1, iv tt, iv 4, rv b1, iv H1, iv 4, iv 1, iv i1, iv v1]) rfl z_) ?_
  refine own_g (own_F T5 m 108 #[rv x, iv p1, iv tt, iv 4, rv b1, iv H1, iv 4, iv 1, iv i1, iv v1] [(.int H1), (.int 0), (.ref b1)]) (fun _ z_ => XS.iload X5.here hx rfl (hb hby own_d8_106) rfl z_) ?_
  refine own_g (own_F T5 m 110 #[rv x, iv p1, iv tt, iv 4, rv b1, iv H1, iv 4, iv 1, iv i1, iv v1] [(.int 4), (.int H1), (.int 0), (.ref b1)]) (fun _ z_ => XS.iload X5.here hx rfl (hb hby own_d8_108) rfl z_) ?_
  refine own_g (own_F T5 m 111 #[rv x, iv p1, iv tt, iv 4, rv b1, iv H1, iv 4, iv 1, iv i1, iv v1] [(.int (H1 >>> ((4 : Int32) &&& 31))), (.int 0), (.ref b1)]) (fun _ z_ => XS.ishr X5.here hx rfl (hb hby own_d8_110) rfl z_) ?_
  have hB0 : (H1 >>> ((4 : Int32) &&& 31)) = y0 := own_sh (c_ishr H1 (4 : Int32) 4 (by decide)) hE1 (own_d1 hb0 hb1)
  rw [hB0]
  refine own_g (own_F T5 m 112 #[rv x, iv p1, iv tt, iv 4, rv b1, iv H1, iv 4, iv 1, iv i1, iv v1] [(.int (y0.toInt8.toInt32)), (.int 0), (.ref b1)]) (fun _ z_ => XS.i2b X5.here hx rfl (hb hby own_d8_111) rfl z_) ?_
  refine own_bast X5 hx hZ hh5 A1 0 rfl (by decide) (y0.toInt8.toInt32) (own_narB _) (hb hby own_d8_112) ?_
  intro T6 h6 X6 e6 W6 A6
  have N6 := Fr.snoc X6 N5 ge_b1
  obtain ⟨g6, A6, q6_0, q6_1, q6_2⟩ : ∃ gq_ : Nat → Int32, own_A Z h6 b1 .byte 3 (fun q_ => .int (gq_ q_)) ∧ gq_ 0 = (y0.toInt8.toInt32) ∧ gq_ 1 = (0 : Int32) ∧ gq_ 2 = (0 : Int32) := ⟨_, A6, rfl, (show ite _ _ _ = _ from (if_neg (by decide)).trans rfl), (show ite _ _ _ = _ from (if_neg (by decide)).trans rfl)⟩
  show own_Ends p e below s _ _ _ (own_F T6 m 113 #[rv x, iv p1, iv tt, iv 4, rv b1, iv H1, iv 4, iv 1, iv i1, iv v1] [])
  refine own_g (own_F T6 m 115 #[rv x, iv p1, iv tt, iv 4, rv b1, iv H1, iv 4, iv 1, iv i1, iv v1] [(.int H1)]) (fun _ z_ => XS.iload X6.here hx rfl (hb hby own_d8_113) rfl z_) ?_
  refine own_g (own_F T6 m 116 #[rv x, iv p1, iv tt, iv 4, rv b1, iv H1, iv 4, iv 1, iv i1, iv v1] [(.int 1), (.int H1)]) (fun _ z_ => XS.iconst X6.here hx rfl (hb hby own_d8_115) z_) ?_
  refine own_g (own_F T6 m 118 #[rv x, iv p1, iv tt, iv 4, rv b1, iv H1, iv 4, iv 1, iv i1, iv v1] [(.int 4), (.int 1), (.int H1)]) (fun _ z_ => XS.iload X6.here hx rfl (hb hby own_d8_116) rfl z_) ?_
  refine own_g (own_F T6 m 119 #[rv x, iv p1, iv tt, iv 4, rv b1, iv H1, iv 4, iv 1, iv i1, iv v1] [(.int 16), (.int H1)]) (fun _ z_ => XS.ishl X6.here hx rfl (hb hby own_d8_118) rfl z_) ?_
  refine own_g (own_F T6 m 120 #[rv x, iv p1, iv tt, iv 4, rv b1, iv H1, iv 4, iv 1, iv i1, iv v1] [(.int 1), (.int 16), (.int H1)]) (fun _ z_ => XS.iconst X6.here hx rfl (hb hby own_d8_119) z_) ?_
  refine own_g (own_F T6 m 121 #[rv x, iv p1, iv tt, iv 4, rv b1, iv H1, iv 4, iv 1, iv i1, iv v1] [(.int 15), (.int H1)]) (fun _ z_ => XS.isub X6.here hx rfl (hb hby own_d8_120) rfl z_) ?_
  refine own_g (own_F T6 m 122 #[rv x, iv p1, iv tt, iv 4, rv b1, iv H1, iv 4, iv 1, iv i1, iv v1] [(.int (H1 &&& (15 : Int32)))]) (fun _ z_ => XS.iand X6.here hx rfl (hb hby own_d8_121) rfl z_) ?_
  have hG1 : (H1 &&& (15 : Int32)).toInt = y1.toInt / 16 := own_mk (c_mask H1 (15 : Int32) 4 (by decide) (by decide)) hE1 (own_e1 hb1)
  generalize (H1 &&& (15 : Int32)) = G1 at hG1 ⊢
  refine own_g (own_F T6 m 124 #[rv x, iv p1, iv tt, iv 4, rv b1, iv G1, iv 4, iv 1, iv i1, iv v1] []) (fun _ z_ => XS.istore X6.here hx rfl (hb hby own_d8_122) rfl (l' := #[rv x, iv p1, iv tt, iv 4, rv b1, iv G1, iv 4, iv 1, iv i1, iv v1]) rfl z_) ?_
  refine own_g (own_F T6 m 127 #[rv x, iv p1, iv tt, iv 4, rv b1, iv G1, iv 4, iv 1, iv (i1 + (1 : Int32)), iv v1] []) (fun _ z_ => XS.iinc X6.here hx rfl (hb hby own_d8_124) rfl (l' := #[rv x, iv p1, iv tt, iv 4, rv b1, iv G1, iv 4, iv 1, iv (i1 + (1 : Int32)), iv v1]) rfl z_) ?_
  refine own_g (own_F T6 m 44 #[rv x, iv p1, iv tt, iv 4, rv b1, iv G1, iv 4, iv 1, iv (i1 + (1 : Int32)), iv v1] []) (fun _ z_ => XS.goto X6.here hx rfl (pc0 := 127) (pc' := 44) rfl (hb hby own_d8_127) (by decide) (by decide) z_) ?_
  have hi2 : (i1 + (1 : Int32)).toInt = ((P + 2 : Nat) : Int) := own_add1 hi1 (own_pl2 hP 2)
  generalize (i1 + (1 : Int32)) = i2 at hi2 ⊢
  refine own_g (own_F T6 m 46 #[rv x, iv p1, iv tt, iv 4, rv b1, iv G1, iv 4, iv 1, iv i2, iv v1] [(.int i2)]) (fun _ z_ => XS.iload X6.here hx rfl (hb hby own_d8_44) rfl z_) ?_
  refine own_g (own_F T6 m 47 #[rv x, iv p1, iv tt, iv 4, rv b1, iv G1, iv 4, iv 1, iv i2, iv v1] [(.int tt), (.int i2)]) (fun _ z_ => XS.iloadN X6.here hx rfl (hb hby own_d8_46) rfl z_) ?_
  refine own_g (own_F T6 m 50 #[rv x, iv p1, iv tt, iv 4, rv b1, iv G1, iv 4, iv 1, iv i2, iv v1] []) (fun _ z_ => XS.icmpNo X6.here hx rfl (hb hby own_d8_47) rfl (tlt (own_lt3 hi2 ht (Nat.add_lt_add_left (by decide) P))).2.1 z_) ?_
  refine own_g (own_F T6 m 51 #[rv x, iv p1, iv tt, iv 4, rv b1, iv G1, iv 4, iv 1, iv i2, iv v1] [(.ref x)]) (fun _ z_ => XS.aloadN X6.here hx rfl (hb hby own_d8_50) rfl rfl z_) ?_
  refine own_g (own_F T6 m 53 #[rv x, iv p1, iv tt, iv 4, rv b1, iv G1, iv 4, iv 1, iv i2, iv v1] [(.int i2), (.ref x)]) (fun _ z_ => XS.iload X6.here hx rfl (hb hby own_d8_51) rfl z_) ?_
  refine own_callV (C := "java/lang/String") (y := (⟨"java/lang/String", "charAt", "(I)C"⟩ : MethodName)) (b := x) X6 hx hZ hown (own_w hw 60) (own_w hw 61) (own_w hw 63) (own_w hw 62) (own_w hw 64) (own_w hw 7) (by decide) e6 ((hES.ext E1).wr W6) (hM := own_charAt l Z a0 hw [] x i2 zc (P + 2) 11 f sv hsv h6 n0 (Nat.le_trans (Nat.le_trans Z0 E1.1) (Nat.le_of_eq W6.size.symm)) hi2 (own_pl hP 2) hzc (hS.keep (((Keep.refl _ _).ext E1).wr W6 (Or.inr sz_b1)) all0) ((S_cs.ext E1).wr W6) ((S_sf.ext E1).wr W6) ((S_ad.ext E1).wr W6) ((S_hi.ext E1).wr W6) ((S_lo.ext E1).wr W6)) (W := 0) (pc := 53) (Ls := #[rv x, iv p1, iv tt, iv 4, rv b1, iv G1, iv 4, iv 1, iv i2, iv v1]) (argsL := [(.int i2)]) (rest := []) (st0 := [(.int i2), (.ref x)]) (by rw [hml]; rfl) (lenOf own_pd13 rfl) rfl (Nat.le_of_eq rfl) (hb hby own_d8_53) (by decide) (by decide) (by decide) (by decide) ?_
  intro v7 T7 L7 X7 hQ7
  obtain ⟨rfl, Nq7, hh7⟩ := hQ7
  have N7 := Fr.app N6 Nq7
  show own_Ends p e below s _ _ _ (own_F T7 m 56 #[rv x, iv p1, iv tt, iv 4, rv b1, iv G1, iv 4, iv 1, iv i2, iv v1] [(.int (f (P + 2)))])
  refine own_callS (y := (⟨"com/example/claimgate/claimgate/jose/Base64Url", "value", "(C)I"⟩ : MethodName)) X7 hx hZ hown (own_w hw 87) (own_w hw 88) (own_w hw 36) (own_w hw 89) (by decide) hh7 (hM := own_val l Z a0 hw [] _ v2 h6 n0 (Nat.le_trans (Nat.le_trans Z0 E1.1) (Nat.le_of_eq W6.size.symm)) hs2) (W := 0) (pc := 56) (Ls := #[rv x, iv p1, iv tt, iv 4, rv b1, iv G1, iv 4, iv 1, iv i2, iv v1]) (argsL := [(.int (f (P + 2)))]) (rest := []) (st0 := [(.int (f (P + 2)))]) (by rw [hml]; rfl) (lenOf own_pd14 rfl) rfl (Nat.le_of_eq rfl) (hb hby own_d8_56) (by decide) (by decide) (by decide) (by decide) ?_
  intro v8 T8 L8 X8 hQ8
  obtain ⟨rfl, Nq8, hh8⟩ := hQ8
  have N8 := Fr.app N7 Nq8
  show own_Ends p e below s _ _ _ (own_F T8 m 59 #[rv x, iv p1, iv tt, iv 4, rv b1, iv G1, iv 4, iv 1, iv i2, iv v1] [(.int v2)])
  refine own_g (own_F T8 m 61 #[rv x, iv p1, iv tt, iv 4, rv b1, iv G1, iv 4, iv 1, iv i2, iv v2] []) (fun _ z_ => XS.istore X8.here hx rfl (hb hby own_d8_59) rfl (l' := #[rv x, iv p1, iv tt, iv 4, rv b1, iv G1, iv 4, iv 1, iv i2, iv v2]) rfl z_) ?_
  refine own_g (own_F T8 m 63 #[rv x, iv p1, iv tt, iv 4, rv b1, iv G1, iv 4, iv 1, iv i2, iv v2] [(.int v2)]) (fun _ z_ => XS.iload X8.here hx rfl (hb hby own_d8_61) rfl z_) ?_
  refine own_g (own_F T8 m 76 #[rv x, iv p1, iv tt, iv 4, rv b1, iv G1, iv 4, iv 1, iv i2, iv v2] []) (fun _ z_ => XS.ifYes X8.here hx rfl (pc0 := 63) (pc' := 76) rfl (hb hby own_d8_63) rfl ((if0 _ _).trans (flt (own_vn (own_sym_rng hs2).2.1)).2.1) (by decide) (by decide) z_) ?_
  refine own_g (own_F T8 m 78 #[rv x, iv p1, iv tt, iv 4, rv b1, iv G1, iv 4, iv 1, iv i2, iv v2] [(.int G1)]) (fun _ z_ => XS.iload X8.here hx rfl (hb hby own_d8_76) rfl z_) ?_
  refine own_g (own_F T8 m 80 #[rv x, iv p1, iv tt, iv 4, rv b1, iv G1, iv 4, iv 1, iv i2, iv v2] [(.int 6), (.int G1)]) (fun _ z_ => XS.bipush X8.here hx rfl (hb hby own_d8_78) z_) ?_
  refine own_g (own_F T8 m 81 #[rv x, iv p1, iv tt, iv 4, rv b1, iv G1, iv 4, iv 1, iv i2, iv v2] [(.int (G1 <<< ((6 : Int32) &&& 31)))]) (fun _ z_ => XS.ishl X8.here hx rfl (hb hby own_d8_80) rfl z_) ?_
  refine own_g (own_F T8 m 83 #[rv x, iv p1, iv tt, iv 4, rv b1, iv G1, iv 4, iv 1, iv i2, iv v2] [(.int v2), (.int (G1 <<< ((6 : Int32) &&& 31)))]) (fun _ z_ => XS.iload X8.here hx rfl (hb hby own_d8_81) rfl z_) ?_
  refine own_g (own_F T8 m 84 #[rv x, iv p1, iv tt, iv 4, rv b1, iv G1, iv 4, iv 1, iv i2, iv v2] [(.int ((G1 <<< ((6 : Int32) &&& 31)) ||| v2))]) (fun _ z_ => XS.ior X8.here hx rfl (hb hby own_d8_83) rfl z_) ?_
  have hH2 : ((G1 <<< ((6 : Int32) &&& 31)) ||| v2).toInt = G1.toInt * 64 + v2.toInt := own_h6 (own_r16 hG1 hb1) (own_sym_rng hs2).2
  generalize ((G1 <<< ((6 : Int32) &&& 31)) ||| v2) = H2 at hH2 ⊢
  have hE2 : H2.toInt = y1.toInt * 4 + y2.toInt / 64 := by rw [hH2, hG1, hr2]; exact own_q2 hb1
  refine own_g (own_F T8 m 86 #[rv x, iv p1, iv tt, iv 4, rv b1, iv H2, iv 4, iv 1, iv i2, iv v2] []) (fun _ z_ => XS.istore X8.here hx rfl (hb hby own_d8_84) rfl (l' := #[rv x, iv p1, iv tt, iv 4, rv b1, iv H2, iv 4, iv 1, iv i2, iv v2]) rfl z_) ?_
  refine own_g (own_F T8 m 89 #[rv x, iv p1, iv tt, iv 4, rv b1, iv H2, iv 10, iv 1, iv i2, iv v2] []) (fun _ z_ => XS.iinc X8.here hx rfl (hb hby own_d8_86) rfl (l' := #[rv x, iv p1, iv tt, iv 4, rv b1, iv H2, iv 10, iv 1, iv i2, iv v2]) rfl z_) ?_
  refine own_g (own_F T8 m 91 #[rv x, iv p1, iv tt, iv 4, rv b1, iv H2, iv 10, iv 1, iv i2, iv v2] [(.int 10)]) (fun _ z_ => XS.iload X8.here hx rfl (hb hby own_d8_89) rfl z_) ?_
  refine own_g (own_F T8 m 93 #[rv x, iv p1, iv tt, iv 4, rv b1, iv H2, iv 10, iv 1, iv i2, iv v2] [(.int 8), (.int 10)]) (fun _ z_ => XS.bipush X8.here hx rfl (hb hby own_d8_91) z_) ?_
  refine own_g (own_F T8 m 96 #[rv x, iv p1, iv tt, iv 4, rv b1, iv H2, iv 10, iv 1, iv i2, iv v2] []) (fun _ z_ => XS.icmpNo X8.here hx rfl (hb hby own_d8_93) rfl (flt (by decide : ¬ ((10 : Int32) < (8 : Int32)))).1 z_) ?_
  refine own_g (own_F T8 m 99 #[rv x, iv p1, iv tt, iv 4, rv b1, iv H2, iv 2, iv 1, iv i2, iv v2] []) (fun _ z_ => XS.iinc X8.here hx rfl (hb hby own_d8_96) rfl (l' := #[rv x, iv p1, iv tt, iv 4, rv b1, iv H2, iv 2, iv 1, iv i2, iv v2]) rfl z_) ?_
  refine own_g (own_F T8 m 101 #[rv x, iv p1, iv tt, iv 4, rv b1, iv H2, iv 2, iv 1, iv i2, iv v2] [(.ref b1)]) (fun _ z_ => XS.aload X8.here hx rfl (hb hby own_d8_99) rfl rfl z_) ?_
  refine own_g (own_F T8 m 103 #[rv x, iv p1, iv tt, iv 4, rv b1, iv H2, iv 2, iv 1, iv i2, iv v2] [(.int 1), (.ref b1)]) (fun _ z_ => XS.iload X8.here hx rfl (hb hby own_d8_101) rfl z_) ?_
  refine own_g (own_F T8 m 106 #[rv x, iv p1, iv tt, iv 4, rv b1, iv H2, iv 2, iv 2, iv i2, iv v2] [(.int 1), (.ref b1)]) (fun _ z_ => XS.iinc X8.here hx rfl (hb hby own_d8_103) rfl (l' := #[rv x, iv p1, iv tt, iv 4, rv b1, iv H2, iv 2, iv 2, iv i2, iv v2]) rfl z_) ?_
  refine own_g (own_F T8 m 108 #[rv x, iv p1, iv tt, iv 4, rv b1, iv H2, iv 2, iv 2, iv i2, iv v2] [(.int H2), (.int 1), (.ref b1)]) (fun _ z_ => XS.iload X8.here hx rfl (hb hby own_d8_106) rfl z_) ?_
  refine own_g (own_F T8 m 110 #[rv x, iv p1, iv tt, iv 4, rv b1, iv H2, iv 2, iv 2, iv i2, iv v2] [(.int 2), (.int H2), (.int 1), (.ref b1)]) (fun _ z_ => XS.iload X8.here hx rfl (hb hby own_d8_108) rfl z_) ?_
  refine own_g (own_F T8 m 111 #[rv x, iv p1, iv tt, iv 4, rv b1, iv H2, iv 2, iv 2, iv i2, iv v2] [(.int (H2 >>> ((2 : Int32) &&& 31))), (.int 1), (.ref b1)]) (fun _ z_ => XS.ishr X8.here hx rfl (hb hby own_d8_110) rfl z_) ?_
  have hB1 : (H2 >>> ((2 : Int32) &&& 31)) = y1 := own_sh (c_ishr H2 (2 : Int32) 2 (by decide)) hE2 (own_d2 hb1 hb2)
  rw [hB1]
  refine own_g (own_F T8 m 112 #[rv x, iv p1, iv tt, iv 4, rv b1, iv H2, iv 2, iv 2, iv i2, iv v2] [(.int (y1.toInt8.toInt32)), (.int 1), (.ref b1)]) (fun _ z_ => XS.i2b X8.here hx rfl (hb hby own_d8_111) rfl z_) ?_
  refine own_bast X8 hx hZ hh8 A6 1 rfl (by decide) (y1.toInt8.toInt32) (own_narB _) (hb hby own_d8_112) ?_
  intro T9 h9 X9 e9 W9 A9
  have N9 := Fr.snoc X9 N8 ge_b1
  obtain ⟨g9, A9, q9_0, q9_1, q9_2⟩ : ∃ gq_ : Nat → Int32, own_A Z h9 b1 .byte 3 (fun q_ => .int (gq_ q_)) ∧ gq_ 0 = (y0.toInt8.toInt32) ∧ gq_ 1 = (y1.toInt8.toInt32) ∧ gq_ 2 = (0 : Int32) := ⟨_, A9, (show ite _ _ _ = _ from (if_neg (by decide)).trans q6_0), rfl, (show ite _ _ _ = _ from (if_neg (by decide)).trans q6_2)⟩
  show own_Ends p e below s _ _ _ (own_F T9 m 113 #[rv x, iv p1, iv tt, iv 4, rv b1, iv H2, iv 2, iv 2, iv i2, iv v2] [])
  refine own_g (own_F T9 m 115 #[rv x, iv p1, iv tt, iv 4, rv b1, iv H2, iv 2, iv 2, iv i2, iv v2] [(.int H2)]) (fun _ z_ => XS.iload X9.here hx rfl (hb hby own_d8_113) rfl z_) ?_
  refine own_g (own_F T9 m 116 #[rv x, iv p1, iv tt, iv 4, rv b1, iv H2, iv 2, iv 2, iv i2, iv v2] [(.int 1), (.int H2)]) (fun _ z_ => XS.iconst X9.here hx rfl (hb hby own_d8_115) z_) ?_
  refine own_g (own_F T9 m 118 #[rv x, iv p1, iv tt, iv 4, rv b1, iv H2, iv 2, iv 2, iv i2, iv v2] [(.int 2), (.int 1), (.int H2)]) (fun _ z_ => XS.iload X9.here hx rfl (hb hby own_d8_116) rfl z_) ?_
  refine own_g (own_F T9 m 119 #[rv x, iv p1, iv tt, iv 4, rv b1, iv H2, iv 2, iv 2, iv i2, iv v2] [(.int 4), (.int H2)]) (fun _ z_ => XS.ishl X9.here hx rfl (hb hby own_d8_118) rfl z_) ?_
  refine own_g (own_F T9 m 120 #[rv x, iv p1, iv tt, iv 4, rv b1, iv H2, iv 2, iv 2, iv i2, iv v2] [(.int 1), (.int 4), (.int H2)]) (fun _ z_ => XS.iconst X9.here hx rfl (hb hby own_d8_119) z_) ?_
  refine own_g (own_F T9 m 121 #[rv x, iv p1, iv tt, iv 4, rv b1, iv H2, iv 2, iv 2, iv i2, iv v2] [(.int 3), (.int H2)]) (fun _ z_ => XS.isub X9.here hx rfl (hb hby own_d8_120) rfl z_) ?_
  refine own_g (own_F T9 m 122 #[rv x, iv p1, iv tt, iv 4, rv b1, iv H2, iv 2, iv 2, iv i2, iv v2] [(.int (H2 &&& (3 : Int32)))]) (fun _ z_ => XS.iand X9.here hx rfl (hb hby own_d8_121) rfl z_) ?_
  have hG2 : (H2 &&& (3 : Int32)).toInt = y2.toInt / 64 := own_mk (c_mask H2 (3 : Int32) 2 (by decide) (by decide)) hE2 (own_e2 hb2)
  generalize (H2 &&& (3 : Int32)) = G2 at hG2 ⊢
  refine own_g (own_F T9 m 124 #[rv x, iv p1, iv tt, iv 4, rv b1, iv G2, iv 2, iv 2, iv i2, iv v2] []) (fun _ z_ => XS.istore X9.here hx rfl (hb hby own_d8_122) rfl (l' := #[rv x, iv p1, iv tt, iv 4, rv b1, iv G2, iv 2, iv 2, iv i2, iv v2]) rfl z_) ?_
  refine own_g (own_F T9 m 127 #[rv x, iv p1, iv tt, iv 4, rv b1, iv G2, iv 2, iv 2, iv (i2 + (1 : Int32)), iv v2] []) (fun _ z_ => XS.iinc X9.here hx rfl (hb hby own_d8_124) rfl (l' := #[rv x, iv p1, iv tt, iv 4, rv b1, iv G2, iv 2, iv 2, iv (i2 + (1 : Int32)), iv v2]) rfl z_) ?_
  refine own_g (own_F T9 m 44 #[rv x, iv p1, iv tt, iv 4, rv b1, iv G2, iv 2, iv 2, iv (i2 + (1 : Int32)), iv v2] []) (fun _ z_ => XS.goto X9.here hx rfl (pc0 := 127) (pc' := 44) rfl (hb hby own_d8_127) (by decide) (by decide) z_) ?_
  have hi3 : (i2 + (1 : Int32)).toInt = ((P + 3 : Nat) : Int) := own_add1 hi2 (own_pl2 hP 3)
  generalize (i2 + (1 : Int32)) = i3 at hi3 ⊢
  refine own_g (own_F T9 m 46 #[rv x, iv p1, iv tt, iv 4, rv b1, iv G2, iv 2, iv 2, iv i3, iv v2] [(.int i3)]) (fun _ z_ => XS.iload X9.here hx rfl (hb hby own_d8_44) rfl z_) ?_
  refine own_g (own_F T9 m 47 #[rv x, iv p1, iv tt, iv 4, rv b1, iv G2, iv 2, iv 2, iv i3, iv v2] [(.int tt), (.int i3)]) (fun _ z_ => XS.iloadN X9.here hx rfl (hb hby own_d8_46) rfl z_) ?_
  refine own_g (own_F T9 m 50 #[rv x, iv p1, iv tt, iv 4, rv b1, iv G2, iv 2, iv 2, iv i3, iv v2] []) (fun _ z_ => XS.icmpNo X9.here hx rfl (hb hby own_d8_47) rfl (tlt (own_lt3 hi3 ht (Nat.add_lt_add_left (by decide) P))).2.1 z_) ?_
  refine own_g (own_F T9 m 51 #[rv x, iv p1, iv tt, iv 4, rv b1, iv G2, iv 2, iv 2, iv i3, iv v2] [(.ref x)]) (fun _ z_ => XS.aloadN X9.here hx rfl (hb hby own_d8_50) rfl rfl z_) ?_
  refine own_g (own_F T9 m 53 #[rv x, iv p1, iv tt, iv 4, rv b1, iv G2, iv 2, iv 2, iv i3, iv v2] [(.int i3), (.ref x)]) (fun _ z_ => XS.iload X9.here hx rfl (hb hby own_d8_51) rfl z_) ?_
  refine own_callV (C := "java/lang/String") (y := (⟨"java/lang/String", "charAt", "(I)C"⟩ : MethodName)) (b := x) X9 hx hZ hown (own_w hw 60) (own_w hw 61) (own_w hw 63) (own_w hw 62) (own_w hw 64) (own_w hw 7) (by decide) e9 (((hES.ext E1).wr W6).wr W9) (hM := own_charAt l Z a0 hw [] x i3 zc (P + 3) 11 f sv hsv h9 n0 (Nat.le_trans (Nat.le_trans (Nat.le_trans Z0 E1.1) (Nat.le_of_eq W6.size.symm)) (Nat.le_of_eq W9.size.symm)) hi3 (own_pl hP 3) hzc (hS.keep ((((Keep.refl _ _).ext E1).wr W6 (Or.inr sz_b1)).wr W9 (Or.inr sz_b1)) all0) (((S_cs.ext E1).wr W6).wr W9) (((S_sf.ext E1).wr W6).wr W9) (((S_ad.ext E1).wr W6).wr W9) (((S_hi.ext E1).wr W6).wr W9) (((S_lo.ext E1).wr W6).wr W9)) (W := 0) (pc := 53) (Ls := #[rv x, iv p1, iv tt, iv 4, rv b1, iv G2, iv 2, iv 2, iv i3, iv v2]) (argsL := [(.int i3)]) (rest := []) (st0 := [(.int i3), (.ref x)]) (by rw [hml]; rfl) (lenOf own_pd13 rfl) rfl (Nat.le_of_eq rfl) (hb hby own_d8_53) (by decide) (by decide) (by decide) (by decide) ?_
  intro v10 T10 L10 X10 hQ10
  obtain ⟨rfl, Nq10, hh10⟩ := hQ10
  have N10 := Fr.app N9 Nq10
  show own_Ends p e below s _ _ _ (own_F T10 m 56 #[rv x, iv p1, iv tt, iv 4, rv b1, iv G2, iv 2, iv 2, iv i3, iv v2] [(.int (f (P + 3)))])
  refine own_callS (y := (⟨"com/example/claimgate/claimgate/jose/Base64Url", "value", "(C)I"⟩ : MethodName)) X10 hx hZ hown (own_w hw 87) (own_w hw 88) (own_w hw 36) (own_w hw 89) (by decide) hh10 (hM := own_val l Z a0 hw [] _ v3 h9 n0 (Nat.le_trans (Nat.le_trans (Nat.le_trans Z0 E1.1) (Nat.le_of_eq W6.size.symm)) (Nat.le_of_eq W9.size.symm)) hs3) (W := 0) (pc := 56) (Ls := #[rv x, iv p1, iv tt, iv 4, rv b1, iv G2, iv 2, iv 2, iv i3, iv v2]) (argsL := [(.int (f (P + 3)))]) (rest := []) (st0 := [(.int (f (P + 3)))]) (by rw [hml]; rfl) (lenOf own_pd14 rfl) rfl (Nat.le_of_eq rfl) (hb hby own_d8_56) (by decide) (by decide) (by decide) (by decide) ?_
  intro v11 T11 L11 X11 hQ11
  obtain ⟨rfl, Nq11, hh11⟩ := hQ11
  have N11 := Fr.app N10 Nq11
  show own_Ends p e below s _ _ _ (own_F T11 m 59 #[rv x, iv p1, iv tt, iv 4, rv b1, iv G2, iv 2, iv 2, iv i3, iv v2] [(.int v3)])
  refine own_g (own_F T11 m 61 #[rv x, iv p1, iv tt, iv 4, rv b1, iv G2, iv 2, iv 2, iv i3, iv v3] []) (fun _ z_ => XS.istore X11.here hx rfl (hb hby own_d8_59) rfl (l' := #[rv x, iv p1, iv tt, iv 4, rv b1, iv G2, iv 2, iv 2, iv i3, iv v3]) rfl z_) ?_
  refine own_g (own_F T11 m 63 #[rv x, iv p1, iv tt, iv 4, rv b1, iv G2, iv 2, iv 2, iv i3, iv v3] [(.int v3)]) (fun _ z_ => XS.iload X11.here hx rfl (hb hby own_d8_61) rfl z_) ?_
  refine own_g (own_F T11 m 76 #[rv x, iv p1, iv tt, iv 4, rv b1, iv G2, iv 2, iv 2, iv i3, iv v3] []) (fun _ z_ => XS.ifYes X11.here hx rfl (pc0 := 63) (pc' := 76) rfl (hb hby own_d8_63) rfl ((if0 _ _).trans (flt (own_vn (own_sym_rng hs3).2.1)).2.1) (by decide) (by decide) z_) ?_
  refine own_g (own_F T11 m 78 #[rv x, iv p1, iv tt, iv 4, rv b1, iv G2, iv 2, iv 2, iv i3, iv v3] [(.int G2)]) (fun _ z_ => XS.iload X11.here hx rfl (hb hby own_d8_76) rfl z_) ?_
  refine own_g (own_F T11 m 80 #[rv x, iv p1, iv tt, iv 4, rv b1, iv G2, iv 2, iv 2, iv i3, iv v3] [(.int 6), (.int G2)]) (fun _ z_ => XS.bipush X11.here hx rfl (hb hby own_d8_78) z_) ?_
  refine own_g (own_F T11 m 81 #[rv x, iv p1, iv tt, iv 4, rv b1, iv G2, iv 2, iv 2, iv i3, iv v3] [(.int (G2 <<< ((6 : Int32) &&& 31)))]) (fun _ z_ => XS.ishl X11.here hx rfl (hb hby own_d8_80) rfl z_) ?_
  refine own_g (own_F T11 m 83 #[rv x, iv p1, iv tt, iv 4, rv b1, iv G2, iv 2, iv 2, iv i3, iv v3] [(.int v3), (.int (G2 <<< ((6 : Int32) &&& 31)))]) (fun _ z_ => XS.iload X11.here hx rfl (hb hby own_d8_81) rfl z_) ?_
  refine own_g (own_F T11 m 84 #[rv x, iv p1, iv tt, iv 4, rv b1, iv G2, iv 2, iv 2, iv i3, iv v3] [(.int ((G2 <<< ((6 : Int32) &&& 31)) ||| v3))]) (fun _ z_ => XS.ior X11.here hx rfl (hb hby own_d8_83) rfl z_) ?_
  have hH3 : ((G2 <<< ((6 : Int32) &&& 31)) ||| v3).toInt = G2.toInt * 64 + v3.toInt := own_h6 (own_r64 hG2 hb2) (own_sym_rng hs3).2
  generalize ((G2 <<< ((6 : Int32) &&& 31)) ||| v3) = H3 at hH3 ⊢
  have hE3 : H3.toInt = y2.toInt := by rw [hH3, hG2, hr3]; exact own_q3 _
  refine own_g (own_F T11 m 86 #[rv x, iv p1, iv tt, iv 4, rv b1, iv H3, iv 2, iv 2, iv i3, iv v3] []) (fun _ z_ => XS.istore X11.here hx rfl (hb hby own_d8_84) rfl (l' := #[rv x, iv p1, iv tt, iv 4, rv b1, iv H3, iv 2, iv 2, iv i3, iv v3]) rfl z_) ?_
  refine own_g (own_F T11 m 89 #[rv x, iv p1, iv tt, iv 4, rv b1, iv H3, iv 8, iv 2, iv i3, iv v3] []) (fun _ z_ => XS.iinc X11.here hx rfl (hb hby own_d8_86) rfl (l' := #[rv x, iv p1, iv tt, iv 4, rv b1, iv H3, iv 8, iv 2, iv i3, iv v3]) rfl z_) ?_
  refine own_g (own_F T11 m 91 #[rv x, iv p1, iv tt, iv 4, rv b1, iv H3, iv 8, iv 2, iv i3, iv v3] [(.int 8)]) (fun _ z_ => XS.iload X11.here hx rfl (hb hby own_d8_89) rfl z_) ?_
  refine own_g (own_F T11 m 93 #[rv x, iv p1, iv tt, iv 4, rv b1, iv H3, iv 8, iv 2, iv i3, iv v3] [(.int 8), (.int 8)]) (fun _ z_ => XS.bipush X11.here hx rfl (hb hby own_d8_91) z_) ?_
  refine own_g (own_F T11 m 96 #[rv x, iv p1, iv tt, iv 4, rv b1, iv H3, iv 8, iv 2, iv i3, iv v3] []) (fun _ z_ => XS.icmpNo X11.here hx rfl (hb hby own_d8_93) rfl (flt (by decide : ¬ ((8 : Int32) < (8 : Int32)))).1 z_) ?_
  refine own_g (own_F T11 m 99 #[rv x, iv p1, iv tt, iv 4, rv b1, iv H3, iv 0, iv 2, iv i3, iv v3] []) (fun _ z_ => XS.iinc X11.here hx rfl (hb hby own_d8_96) rfl (l' := #[rv x, iv p1, iv tt, iv 4, rv b1, iv H3, iv 0, iv 2, iv i3, iv v3]) rfl z_) ?_
  refine own_g (own_F T11 m 101 #[rv x, iv p1, iv tt, iv 4, rv b1, iv H3, iv 0, iv 2, iv i3, iv v3] [(.ref b1)]) (fun _ z_ => XS.aload X11.here hx rfl (hb hby own_d8_99) rfl rfl z_) ?_
  refine own_g (own_F T11 m 103 #[rv x, iv p1, iv tt, iv 4, rv b1, iv H3, iv 0, iv 2, iv i3, iv v3] [(.int 2), (.ref b1)]) (fun _ z_ => XS.iload X11.here hx rfl (hb hby own_d8_101) rfl z_) ?_
  refine own_g (own_F T11 m 106 #[rv x, iv p1, iv tt, iv 4, rv b1, iv H3, iv 0, iv 3, iv i3, iv v3] [(.int 2), (.ref b1)]) (fun _ z_ => XS.iinc X11.here hx rfl (hb hby own_d8_103) rfl (l' := #[rv x, iv p1, iv tt, iv 4, rv b1, iv H3, iv 0, iv 3, iv i3, iv v3]) rfl z_) ?_
  refine own_g (own_F T11 m 108 #[rv x, iv p1, iv tt, iv 4, rv b1, iv H3, iv 0, iv 3, iv i3, iv v3] [(.int H3), (.int 2), (.ref b1)]) (fun _ z_ => XS.iload X11.here hx rfl (hb hby own_d8_106) rfl z_) ?_
  refine own_g (own_F T11 m 110 #[rv x, iv p1, iv tt, iv 4, rv b1, iv H3, iv 0, iv 3, iv i3, iv v3] [(.int 0), (.int H3), (.int 2), (.ref b1)]) (fun _ z_ => XS.iload X11.here hx rfl (hb hby own_d8_108) rfl z_) ?_
  refine own_g (own_F T11 m 111 #[rv x, iv p1, iv tt, iv 4, rv b1, iv H3, iv 0, iv 3, iv i3, iv v3] [(.int (H3 >>> ((0 : Int32) &&& 31))), (.int 2), (.ref b1)]) (fun _ z_ => XS.ishr X11.here hx rfl (hb hby own_d8_110) rfl z_) ?_
  have hB2 : (H3 >>> ((0 : Int32) &&& 31)) = y2 := own_sh (c_ishr H3 (0 : Int32) 0 (by decide)) hE3 (own_d3 _)
  rw [hB2]
  refine own_g (own_F T11 m 112 #[rv x, iv p1, iv tt, iv 4, rv b1, iv H3, iv 0, iv 3, iv i3, iv v3] [(.int (y2.toInt8.toInt32)), (.int 2), (.ref b1)]) (fun _ z_ => XS.i2b X11.here hx rfl (hb hby own_d8_111) rfl z_) ?_
  refine own_bast X11 hx hZ hh11 A9 2 rfl (by decide) (y2.toInt8.toInt32) (own_narB _) (hb hby own_d8_112) ?_
  intro T12 h12 X12 e12 W12 A12
  have N12 := Fr.snoc X12 N11 ge_b1
  obtain ⟨g12, A12, q12_0, q12_1, q12_2⟩ : ∃ gq_ : Nat → Int32, own_A Z h12 b1 .byte 3 (fun q_ => .int (gq_ q_)) ∧ gq_ 0 = (y0.toInt8.toInt32) ∧ gq_ 1 = (y1.toInt8.toInt32) ∧ gq_ 2 = (y2.toInt8.toInt32) := ⟨_, A12, (show ite _ _ _ = _ from (if_neg (by decide)).trans q9_0), (show ite _ _ _ = _ from (if_neg (by decide)).trans q9_1), rfl⟩
  show own_Ends p e below s _ _ _ (own_F T12 m 113 #[rv x, iv p1, iv tt, iv 4, rv b1, iv H3, iv 0, iv 3, iv i3, iv v3] [])
  refine own_g (own_F T12 m 115 #[rv x, iv p1, iv tt, iv 4, rv b1, iv H3, iv 0, iv 3, iv i3, iv v3] [(.int H3)]) (fun _ z_ => XS.iload X12.here hx rfl (hb hby own_d8_113) rfl z_) ?_
  refine own_g (own_F T12 m 116 #[rv x, iv p1, iv tt, iv 4, rv b1, iv H3, iv 0, iv 3, iv i3, iv v3] [(.int 1), (.int H3)]) (fun _ z_ => XS.iconst X12.here hx rfl (hb hby own_d8_115) z_) ?_
  refine own_g (own_F T12 m 118 #[rv x, iv p1, iv tt, iv 4, rv b1, iv H3, iv 0, iv 3, iv i3, iv v3] [(.int 0), (.int 1), (.int H3)]) (fun _ z_ => XS.iload X12.here hx rfl (hb hby own_d8_116) rfl z_) ?_
  refine own_g (own_F T12 m 119 #[rv x, iv p1, iv tt, iv 4, rv b1, iv H3, iv 0, iv 3, iv i3, iv v3] [(.int 1), (.int H3)]) (fun _ z_ => XS.ishl X12.here hx rfl (hb hby own_d8_118) rfl z_) ?_
  refine own_g (own_F T12 m 120 #[rv x, iv p1, iv tt, iv 4, rv b1, iv H3, iv 0, iv 3, iv i3, iv v3] [(.int 1), (.int 1), (.int H3)]) (fun _ z_ => XS.iconst X12.here hx rfl (hb hby own_d8_119) z_) ?_
  refine own_g (own_F T12 m 121 #[rv x, iv p1, iv tt, iv 4, rv b1, iv H3, iv 0, iv 3, iv i3, iv v3] [(.int 0), (.int H3)]) (fun _ z_ => XS.isub X12.here hx rfl (hb hby own_d8_120) rfl z_) ?_
  refine own_g (own_F T12 m 122 #[rv x, iv p1, iv tt, iv 4, rv b1, iv H3, iv 0, iv 3, iv i3, iv v3] [(.int (H3 &&& (0 : Int32)))]) (fun _ z_ => XS.iand X12.here hx rfl (hb hby own_d8_121) rfl z_) ?_
  have hG3 : (H3 &&& (0 : Int32)).toInt = 0 := own_mk (c_mask H3 (0 : Int32) 0 (by decide) (by decide)) hE3 (own_e3 _)
  generalize (H3 &&& (0 : Int32)) = G3 at hG3 ⊢
  refine own_g (own_F T12 m 124 #[rv x, iv p1, iv tt, iv 4, rv b1, iv G3, iv 0, iv 3, iv i3, iv v3] []) (fun _ z_ => XS.istore X12.here hx rfl (hb hby own_d8_122) rfl (l' := #[rv x, iv p1, iv tt, iv 4, rv b1, iv G3, iv 0, iv 3, iv i3, iv v3]) rfl z_) ?_
  refine own_g (own_F T12 m 127 #[rv x, iv p1, iv tt, iv 4, rv b1, iv G3, iv 0, iv 3, iv (i3 + (1 : Int32)), iv v3] []) (fun _ z_ => XS.iinc X12.here hx rfl (hb hby own_d8_124) rfl (l' := #[rv x, iv p1, iv tt, iv 4, rv b1, iv G3, iv 0, iv 3, iv (i3 + (1 : Int32)), iv v3]) rfl z_) ?_
  refine own_g (own_F T12 m 44 #[rv x, iv p1, iv tt, iv 4, rv b1, iv G3, iv 0, iv 3, iv (i3 + (1 : Int32)), iv v3] []) (fun _ z_ => XS.goto X12.here hx rfl (pc0 := 127) (pc' := 44) rfl (hb hby own_d8_127) (by decide) (by decide) z_) ?_
  have hi4 : (i3 + (1 : Int32)).toInt = ((P + 4 : Nat) : Int) := own_add1 hi3 (own_pl2 hP 4)
  generalize (i3 + (1 : Int32)) = i4 at hi4 ⊢
  refine own_g (own_F T12 m 46 #[rv x, iv p1, iv tt, iv 4, rv b1, iv G3, iv 0, iv 3, iv i4, iv v3] [(.int i4)]) (fun _ z_ => XS.iload X12.here hx rfl (hb hby own_d8_44) rfl z_) ?_
  refine own_g (own_F T12 m 47 #[rv x, iv p1, iv tt, iv 4, rv b1, iv G3, iv 0, iv 3, iv i4, iv v3] [(.int tt), (.int i4)]) (fun _ z_ => XS.iloadN X12.here hx rfl (hb hby own_d8_46) rfl z_) ?_
  refine own_g (own_F T12 m 130 #[rv x, iv p1, iv tt, iv 4, rv b1, iv G3, iv 0, iv 3, iv i4, iv v3] []) (fun _ z_ => XS.icmpYes X12.here hx rfl (pc0 := 47) (pc' := 130) rfl (hb hby own_d8_47) rfl (flt (own_ge3 hi4 ht (Nat.le_refl _))).2.1 (by decide) (by decide) z_) ?_
  refine own_g (own_F T12 m 132 #[rv x, iv p1, iv tt, iv 4, rv b1, iv G3, iv 0, iv 3, iv i4, iv v3] [(.int G3)]) (fun _ z_ => XS.iload X12.here hx rfl (hb hby own_d8_130) rfl z_) ?_
  refine own_g (own_F T12 m 145 #[rv x, iv p1, iv tt, iv 4, rv b1, iv G3, iv 0, iv 3, iv i4, iv v3] []) (fun _ z_ => XS.ifYes X12.here hx rfl (pc0 := 132) (pc' := 145) rfl (hb hby own_d8_132) rfl ((if0 _ _).trans (teq (own_z0 hG3)).1) (by decide) (by decide) z_) ?_
  refine own_g (own_F T12 m 147 #[rv x, iv p1, iv tt, iv 4, rv b1, iv G3, iv 0, iv 3, iv i4, iv v3] [(.ref b1)]) (fun _ z_ => XS.aload X12.here hx rfl (hb hby own_d8_145) rfl rfl z_) ?_
  refine own_ret (t := (.array .byte)) X12 hx hlk hrt rfl (Or.inr (Or.inr (Or.inr (Or.inr ⟨rfl, rfl, rfl⟩)))) (hb hby own_d8_147) (by decide) (by decide) ?_
  show ∃ (r : Addr) (g : Nat → Int32), _ ∧ Fr n0 _ ∧ Keep h0 T12.heap [] ∧ n0 ≤ r ∧ own_A Z T12.heap r .byte 3 (fun i => .int (g i)) ∧ _
  rw [e12]
  exact ⟨b1, _, rfl, N12, (((((Keep.refl _ _).ext E1).wr W6 (Or.inr sz_b1)).wr W9 (Or.inr sz_b1)).wr W12 (Or.inr sz_b1)), ge_b1, A12, q12_0, q12_1, q12_2⟩
set_option maxRecDepth 65536 in
set_option maxHeartbeats 40000000 in
theorem own_dec4 (l : Launch) (Z : State) (a0 : Array Value) (hw : ∀ d ∈ tables_1, d.before a0 Z = true) (ws : List Jvm.Cond) (x : Addr) (p1 tt zc : Int32) (P : Nat) (f : Nat → Int32) (sv : Value) (hsv : sv.isRef = true) (y0 y1 y2 y3 y4 v0 v1 v2 v3 v4 v5 : Int32) (h0 : Heap) (n0 : Nat) (Z0 : n0 ≤ h0.size) (hp : p1.toInt = (P : Int)) (hP : P ≤ 3) (ht : tt.toInt = ((P + 6 : Nat) : Int)) (hzc : ¬ zc = (0 : Int32)) (hS : own_Str Z h0 x 11 f) (S_cs : Sta Z h0 "java/lang/String" "COMPACT_STRINGS" "Z" (.int zc)) (S_sf : Sta Z h0 "jdk/internal/util/Preconditions" "SIOOBE_FORMATTER" "Ljava/util/function/BiFunction;" sv) (S_ad : Sta Z h0 "java/lang/StringUTF16" "$assertionsDisabled" "Z" (.int (1 : Int32))) (S_hi : Sta Z h0 "java/lang/StringUTF16" "HI_BYTE_SHIFT" "I" (.int (0 : Int32))) (S_lo : Sta Z h0 "java/lang/StringUTF16" "LO_BYTE_SHIFT" "I" (.int (8 : Int32))) (hs0 : own_sym (f (P + 0)) v0) (hs1 : own_sym (f (P + 1)) v1) (hs2 : own_sym (f (P + 2)) v2) (hs3 : own_sym (f (P + 3)) v3) (hs4 : own_sym (f (P + 4)) v4) (hs5 : own_sym (f (P + 5)) v5) (hr0 : v0.toInt = y0.toInt / 4) (hr1 : v1.toInt = (y0.toInt % 4) * 16 + y1.toInt / 16) (hr2 : v2.toInt = (y1.toInt % 16) * 4 + y2.toInt / 64) (hr3 : v3.toInt = y2.toInt % 64) (hr4 : v4.toInt = y3.toInt / 4) (hr5 : v5.toInt = (y3.toInt % 4) * 16 + y4.toInt / 16) (hb0 : 0 ≤ y0.toInt ∧ y0.toInt ≤ 255) (hb1 : 0 ≤ y1.toInt ∧ y1.toInt ≤ 255) (hb2 : 0 ≤ y2.toInt ∧ y2.toInt ≤ 255) (hb3 : 0 ≤ y3.toInt ∧ y3.toInt ≤ 255) (hb4 : 0 ≤ y4.toInt ∧ y4.toInt ≤ 0) :
    own_Met l Z (⟨"com/example/claimgate/claimgate/jose/Base64Url", "decode", "(Ljava/lang/String;II)[B"⟩ : MethodName) prog_23_method_3_code 10 (some (.array .byte)) ws ({ frames := 5, cells := 1, slots := 4, locals := 66 } : Room) #[(.ref x), (.int p1), (.int tt)] h0 (fun v h L => ∃ (r : Addr) (g : Nat → Int32), v = some (.ref r) ∧ Fr n0 L ∧ Keep h0 h [] ∧ n0 ≤ r ∧ own_A Z h r .byte 4 (fun i => .int (g i)) ∧ g 0 = y0.toInt8.toInt32 ∧ g 1 = y1.toInt8.toInt32 ∧ g 2 = y2.toInt8.toInt32 ∧ g 3 = y3.toInt8.toInt32) := by
  refine own_body own_pn21 (fun m => mkF m 0 #[rv x, iv p1, iv tt, .unset, .unset, .unset, .unset, .unset, .unset, .unset] []) (fun m => own_ef_own_dec4 m x p1 tt) ?_
  intro p e s m below meth c T0 hx hby hml hlk hrt hZ hown hnm X0 e0
  have hown : s.vm.findClass "com/example/claimgate/claimgate/jose/Base64Url" = some m.cls := hown
  have N0 := Fr.nil n0
  have hES := own_Str.exa hS
  refine own_g (own_F T0 m 1 #[rv x, iv p1, iv tt, .unset, .unset, .unset, .unset, .unset, .unset, .unset] [(.int tt)]) (fun _ z_ => XS.iloadN X0.here hx rfl (hb hby own_d8_0) rfl z_) ?_
  refine own_g (own_F T0 m 2 #[rv x, iv p1, iv tt, .unset, .unset, .unset, .unset, .unset, .unset, .unset] [(.int p1), (.int tt)]) (fun _ z_ => XS.iloadN X0.here hx rfl (hb hby own_d8_1) rfl z_) ?_
  refine own_g (own_F T0 m 3 #[rv x, iv p1, iv tt, .unset, .unset, .unset, .unset, .unset, .unset, .unset] [(.int (tt - p1))]) (fun _ z_ => XS.isub X0.here hx rfl (hb hby own_d8_2) rfl z_) ?_
  rw [(own_len hp ht : (tt - p1) = (6 : Int32))]
  refine own_g (own_F T0 m 4 #[rv x, iv p1, iv tt, iv 6, .unset, .unset, .unset, .unset, .unset, .unset] []) (fun _ z_ => XS.istoreN X0.here hx rfl (hb hby own_d8_3) rfl (l' := #[rv x, iv p1, iv tt, iv 6, .unset, .unset, .unset, .unset, .unset, .unset]) rfl z_) ?_
  refine own_g (own_F T0 m 5 #[rv x, iv p1, iv tt, iv 6, .unset, .unset, .unset, .unset, .unset, .unset] [(.int 6)]) (fun _ z_ => XS.iloadN X0.here hx rfl (hb hby own_d8_4) rfl z_) ?_
  refine own_g (own_F T0 m 6 #[rv x, iv p1, iv tt, iv 6, .unset, .unset, .unset, .unset, .unset, .unset] [(.int 4), (.int 6)]) (fun _ z_ => XS.iconst X0.here hx rfl (hb hby own_d8_5) z_) ?_
  refine own_g (own_F T0 m 7 #[rv x, iv p1, iv tt, iv 6, .unset, .unset, .unset, .unset, .unset, .unset] [(.int 2)]) (fun _ z_ => iremM X0 hx rfl (hb hby own_d8_6) rfl (by decide) z_) ?_
  refine own_g (own_F T0 m 8 #[rv x, iv p1, iv tt, iv 6, .unset, .unset, .unset, .unset, .unset, .unset] [(.int 1), (.int 2)]) (fun _ z_ => XS.iconst X0.here hx rfl (hb hby own_d8_7) z_) ?_
  refine own_g (own_F T0 m 21 #[rv x, iv p1, iv tt, iv 6, .unset, .unset, .unset, .unset, .unset, .unset] []) (fun _ z_ => XS.icmpYes X0.here hx rfl (pc0 := 8) (pc' := 21) rfl (hb hby own_d8_8) rfl (feq (by decide : ¬ ((2 : Int32) = (1 : Int32)))).2 (by decide) (by decide) z_) ?_
  refine own_g (own_F T0 m 22 #[rv x, iv p1, iv tt, iv 6, .unset, .unset, .unset, .unset, .unset, .unset] [(.int 6)]) (fun _ z_ => XS.iloadN X0.here hx rfl (hb hby own_d8_21) rfl z_) ?_
  refine own_g (own_F T0 m 24 #[rv x, iv p1, iv tt, iv 6, .unset, .unset, .unset, .unset, .unset, .unset] [(.int 6), (.int 6)]) (fun _ z_ => XS.bipush X0.here hx rfl (hb hby own_d8_22) z_) ?_
  refine own_g (own_F T0 m 25 #[rv x, iv p1, iv tt, iv 6, .unset, .unset, .unset, .unset, .unset, .unset] [(.int 36)]) (fun _ z_ => XS.imul X0.here hx rfl (hb hby own_d8_24) rfl z_) ?_
  refine own_g (own_F T0 m 27 #[rv x, iv p1, iv tt, iv 6, .unset, .unset, .unset, .unset, .unset, .unset] [(.int 8), (.int 36)]) (fun _ z_ => XS.bipush X0.here hx rfl (hb hby own_d8_25) z_) ?_
  refine own_g (own_F T0 m 28 #[rv x, iv p1, iv tt, iv 6, .unset, .unset, .unset, .unset, .unset, .unset] [(.int 4)]) (fun _ z_ => XS.idiv X0.here hx rfl (hb hby own_d8_27) rfl (by decide) z_) ?_
  refine own_newA X0 hx hZ .byte rfl (own_w hw 23) e0 (hb hby own_d8_28) 4 rfl 4 (by decide) (by decide) (by decide) (by decide) ?_
  intro T1 h1 b1 X1 e1 E1 g1 A1
  have sz_b1 : h0.size ≤ b1 := Nat.le_trans (Nat.le_refl h0.size) (Nat.le_of_eq g1.symm)
  have ge_b1 : n0 ≤ b1 := Nat.le_trans Z0 (Nat.le_of_eq g1.symm)
  have ne_x_b1 : x ≠ b1 := Nat.ne_of_lt (Nat.lt_of_lt_of_le hES.lt (Nat.le_of_eq g1.symm))
  have A1 : own_A Z h1 b1 .byte 4 (fun q_ => .int ((fun _ => (0 : Int32)) q_)) := A1
  show own_Ends p e below s _ _ _ (own_F T1 m 30 #[rv x, iv p1, iv tt, iv 6, .unset, .unset, .unset, .unset, .unset, .unset] [(.ref b1)])
  refine own_g (own_F T1 m 32 #[rv x, iv p1, iv tt, iv 6, rv b1, .unset, .unset, .unset, .unset, .unset] []) (fun _ z_ => XS.astore X1.here hx rfl (hb hby own_d8_30) rfl rfl (l' := #[rv x, iv p1, iv tt, iv 6, rv b1, .unset, .unset, .unset, .unset, .unset]) rfl z_) ?_
  refine own_g (own_F T1 m 33 #[rv x, iv p1, iv tt, iv 6, rv b1, .unset, .unset, .unset, .unset, .unset] [(.int 0)]) (fun _ z_ => XS.iconst X1.here hx rfl (hb hby own_d8_32) z_) ?_
  refine own_g (own_F T1 m 35 #[rv x, iv p1, iv tt, iv 6, rv b1, iv 0, .unset, .unset, .unset, .unset] []) (fun _ z_ => XS.istore X1.here hx rfl (hb hby own_d8_33) rfl (l' := #[rv x, iv p1, iv tt, iv 6, rv b1, iv 0, .unset, .unset, .unset, .unset]) rfl z_) ?_
  refine own_g (own_F T1 m 36 #[rv x, iv p1, iv tt, iv 6, rv b1, iv 0, .unset, .unset, .unset, .unset] [(.int 0)]) (fun _ z_ => XS.iconst X1.here hx rfl (hb hby own_d8_35) z_) ?_
  refine own_g (own_F T1 m 38 #[rv x, iv p1, iv tt, iv 6, rv b1, iv 0, iv 0, .unset, .unset, .unset] []) (fun _ z_ => XS.istore X1.here hx rfl (hb hby own_d8_36) rfl (l' := #[rv x, iv p1, iv tt, iv 6, rv b1, iv 0, iv 0, .unset, .unset, .unset]) rfl z_) ?_
  refine own_g (own_F T1 m 39 #[rv x, iv p1, iv tt, iv 6, rv b1, iv 0, iv 0, .unset, .unset, .unset] [(.int 0)]) (fun _ z_ => XS.iconst X1.here hx rfl (hb hby own_d8_38) z_) ?_
  refine own_g (own_F T1 m 41 #[rv x, iv p1, iv tt, iv 6, rv b1, iv 0, iv 0, iv 0, .unset, .unset] []) (fun _ z_ => XS.istore X1.here hx rfl (hb hby own_d8_39) rfl (l' := #[rv x, iv p1, iv tt, iv 6, rv b1, iv 0, iv 0, iv 0, .unset, .unset]) rfl z_) ?_
  refine own_g (own_F T1 m 42 #[rv x, iv p1, iv tt, iv 6, rv b1, iv 0, iv 0, iv 0, .unset, .unset] [(.int p1)]) (fun _ z_ => XS.iloadN X1.here hx rfl (hb hby own_d8_41) rfl z_) ?_
  refine own_g (own_F T1 m 44 #[rv x, iv p1, iv tt, iv 6, rv b1, iv 0, iv 0, iv 0, iv p1, .unset] []) (fun _ z_ => XS.istore X1.here hx rfl (hb hby own_d8_42) rfl (l' := #[rv x, iv p1, iv tt, iv 6, rv b1, iv 0, iv 0, iv 0, iv p1, .unset]) rfl z_) ?_
  have hi0 : p1.toInt = ((P + 0 : Nat) : Int) := hp
  refine own_g (own_F T1 m 46 #[rv x, iv p1, iv tt, iv 6, rv b1, iv 0, iv 0, iv 0, iv p1, .unset] [(.int p1)]) (fun _ z_ => XS.iload X1.here hx rfl (hb hby own_d8_44) rfl z_) ?_
  refine own_g (own_F T1 m 47 #[rv x, iv p1, iv tt, iv 6, rv b1, iv 0, iv 0, iv 0, iv p1, .unset] [(.int tt), (.int p1)]) (fun _ z_ => XS.iloadN X1.here hx rfl (hb hby own_d8_46) rfl z_) ?_
  refine own_g (own_F T1 m 50 #[rv x, iv p1, iv tt, iv 6, rv b1, iv 0, iv 0, iv 0, iv p1, .unset] []) (fun _ z_ => XS.icmpNo X1.here hx rfl (hb hby own_d8_47) rfl (tlt (own_lt3 hi0 ht (Nat.add_lt_add_left (by decide) P))).2.1 z_) ?_
  refine own_g (own_F T1 m 51 #[rv x, iv p1, iv tt, iv 6, rv b1, iv 0, iv 0, iv 0, iv p1, .unset] [(.ref x)]) (fun _ z_ => XS.aloadN X1.here hx rfl (hb hby own_d8_50) rfl rfl z_) ?_
  refine own_g (own_F T1 m 53 #[rv x, iv p1, iv tt, iv 6, rv b1, iv 0, iv 0, iv 0, iv p1, .unset] [(.int p1), (.ref x)]) (fun _ z_ => XS.iload X1.here hx rfl (hb hby own_d8_51) rfl z_) ?_
  refine own_callV (C := "java/lang/String") (y := (⟨"java/lang/String", "charAt", "(I)C"⟩ : MethodName)) (b := x) X1 hx hZ hown (own_w hw 60) (own_w hw 61) (own_w hw 63) (own_w hw 62) (own_w hw 64) (own_w hw 7) (by decide) e1 (hES.ext E1) (hM := own_charAt l Z a0 hw [] x p1 zc (P + 0) 11 f sv hsv h1 n0 (Nat.le_trans Z0 E1.1) hi0 (own_pl hP 0) hzc (hS.keep ((Keep.refl _ _).ext E1) all0) (S_cs.ext E1) (S_sf.ext E1) (S_ad.ext E1) (S_hi.ext E1) (S_lo.ext E1)) (W := 0) (pc := 53) (Ls := #[rv x, iv p1, iv tt, iv 6, rv b1, iv 0, iv 0, iv 0, iv p1, .unset]) (argsL := [(.int p1)]) (rest := []) (st0 := [(.int p1), (.ref x)]) (by rw [hml]; rfl) (lenOf own_pd13 rfl) rfl (Nat.le_of_eq rfl) (hb hby own_d8_53) (by decide) (by decide) (by decide) (by decide) ?_
  intro v2 T2 L2 X2 hQ2
  obtain ⟨rfl, Nq2, hh2⟩ := hQ2
  have N2 := Fr.app N0 Nq2
  show own_Ends p e below s _ _ _ (own_F T2 m 56 #[rv x, iv p1, iv tt, iv 6, rv b1, iv 0, iv 0, iv 0, iv p1, .unset] [(.int (f (P + 0)))])
  refine own_callS (y := (⟨"com/example/claimgate/claimgate/jose/Base64Url", "value", "(C)I"⟩ : MethodName)) X2 hx hZ hown (own_w hw 87) (own_w hw 88) (own_w hw 36) (own_w hw 89) (by decide) hh2 (hM := own_val l Z a0 hw [] _ v0 h1 n0 (Nat.le_trans Z0 E1.1) hs0) (W := 0) (pc := 56) (Ls := #[rv x, iv p1, iv tt, iv 6, rv b1, iv 0, iv 0, iv 0, iv p1, .unset]) (argsL := [(.int (f (P + 0)))]) (rest := []) (st0 := [(.int (f (P + 0)))]) (by rw [hml]; rfl) (lenOf own_pd14 rfl) rfl (Nat.le_of_eq rfl) (hb hby own_d8_56) (by decide) (by decide) (by decide) (by decide) ?_
  intro v3 T3 L3 X3 hQ3
  obtain ⟨rfl, Nq3, hh3⟩ := hQ3
  have N3 := Fr.app N2 Nq3
  show own_Ends p e below s _ _ _ (own_F T3 m 59 #[rv x, iv p1, iv tt, iv 6, rv b1, iv 0, iv 0, iv 0, iv p1, .unset] [(.int v0)])
  refine own_g (own_F T3 m 61 #[rv x, iv p1, iv tt, iv 6, rv b1, iv 0, iv 0, iv 0, iv p1, iv v0] []) (fun _ z_ => XS.istore X3.here hx rfl (hb hby own_d8_59) rfl (l' := #[rv x, iv p1, iv tt, iv 6, rv b1, iv 0, iv 0, iv 0, iv p1, iv v0]) rfl z_) ?_
  refine own_g (own_F T3 m 63 #[rv x, iv p1, iv tt, iv 6, rv b1, iv 0, iv 0, iv 0, iv p1, iv v0] [(.int v0)]) (fun _ z_ => XS.iload X3.here hx rfl (hb hby own_d8_61) rfl z_) ?_
  refine own_g (own_F T3 m 76 #[rv x, iv p1, iv tt, iv 6, rv b1, iv 0, iv 0, iv 0, iv p1, iv v0] []) (fun _ z_ => XS.ifYes X3.here hx rfl (pc0 := 63) (pc' := 76) rfl (hb hby own_d8_63) rfl ((if0 _ _).trans (flt (own_vn (own_sym_rng hs0).2.1)).2.1) (by decide) (by decide) z_) ?_
  refine own_g (own_F T3 m 78 #[rv x, iv p1, iv tt, iv 6, rv b1, iv 0, iv 0, iv 0, iv p1, iv v0] [(.int 0)]) (fun _ z_ => XS.iload X3.here hx rfl (hb hby own_d8_76) rfl z_) ?_
  refine own_g (own_F T3 m 80 #[rv x, iv p1, iv tt, iv 6, rv b1, iv 0, iv 0, iv 0, iv p1, iv v0] [(.int 6), (.int 0)]) (fun _ z_ => XS.bipush X3.here hx rfl (hb hby own_d8_78) z_) ?_
  refine own_g (own_F T3 m 81 #[rv x, iv p1, iv tt, iv 6, rv b1, iv 0, iv 0, iv 0, iv p1, iv v0] [(.int ((0 : Int32) <<< ((6 : Int32) &&& 31)))]) (fun _ z_ => XS.ishl X3.here hx rfl (hb hby own_d8_80) rfl z_) ?_
  refine own_g (own_F T3 m 83 #[rv x, iv p1, iv tt, iv 6, rv b1, iv 0, iv 0, iv 0, iv p1, iv v0] [(.int v0), (.int ((0 : Int32) <<< ((6 : Int32) &&& 31)))]) (fun _ z_ => XS.iload X3.here hx rfl (hb hby own_d8_81) rfl z_) ?_
  refine own_g (own_F T3 m 84 #[rv x, iv p1, iv tt, iv 6, rv b1, iv 0, iv 0, iv 0, iv p1, iv v0] [(.int (((0 : Int32) <<< ((6 : Int32) &&& 31)) ||| v0))]) (fun _ z_ => XS.ior X3.here hx rfl (hb hby own_d8_83) rfl z_) ?_
  have hH0 : (((0 : Int32) <<< ((6 : Int32) &&& 31)) ||| v0).toInt = (0 : Int32).toInt * 64 + v0.toInt := own_h6 (by decide) (own_sym_rng hs0).2
  generalize (((0 : Int32) <<< ((6 : Int32) &&& 31)) ||| v0) = H0 at hH0 ⊢
  have hE0 : H0.toInt = y0.toInt / 4 := by rw [hH0, (show (0 : Int32).toInt = 0 from by decide), hr0]; exact Int.zero_add _
  refine own_g (own_F T3 m 86 #[rv x, iv p1, iv tt, iv 6, rv b1, iv H0, iv 0, iv 0, iv p1, iv v0] []) (fun _ z_ => XS.istore X3.here hx rfl (hb hby own_d8_84) rfl (l' := #[rv x, iv p1, iv tt, iv 6, rv b1, iv H0, iv 0, iv 0, iv p1, iv v0]) rfl z_) ?_
  refine own_g (own_F T3 m 89 #[rv x, iv p1, iv tt, iv 6, rv b1, iv H0, iv 6, iv 0, iv p1, iv v0] []) (fun _ z_ => XS.iinc X3.here hx rfl (hb hby own_d8_86) rfl (l' := #[rv x, iv p1, iv tt, iv 6, rv b1, iv H0, iv 6, iv 0, iv p1, iv v0]) rfl z_) ?_
  refine own_g (own_F T3 m 91 #[rv x, iv p1, iv tt, iv 6, rv b1, iv H0, iv 6, iv 0, iv p1, iv v0] [(.int 6)]) (fun _ z_ => XS.iload X3.here hx rfl (hb hby own_d8_89) rfl z_) ?_
  refine own_g (own_F T3 m 93 #[rv x, iv p1, iv tt, iv 6, rv b1, iv H0, iv 6, iv 0, iv p1, iv v0] [(.int 8), (.int 6)]) (fun _ z_ => XS.bipush X3.here hx rfl (hb hby own_d8_91) z_) ?_
  refine own_g (own_F T3 m 124 #[rv x, iv p1, iv tt, iv 6, rv b1, iv H0, iv 6, iv 0, iv p1, iv v0] []) (fun _ z_ => XS.icmpYes X3.here hx rfl (pc0 := 93) (pc' := 124) rfl (hb hby own_d8_93) rfl (tlt (by decide : ((6 : Int32) < (8 : Int32)))).1 (by decide) (by decide) z_) ?_
  refine own_g (own_F T3 m 127 #[rv x, iv p1, iv tt, iv 6, rv b1, iv H0, iv 6, iv 0, iv (p1 + (1 : Int32)), iv v0] []) (fun _ z_ => XS.iinc X3.here hx rfl (hb hby own_d8_124) rfl (l' := #[rv x, iv p1, iv tt, iv 6, rv b1, iv H0, iv 6, iv 0, iv (p1 + (1 : Int32)), iv v0]) rfl z_) ?_
  refine own_g (own_F T3 m 44 #[rv x, iv p1, iv tt, iv 6, rv b1, iv H0, iv 6, iv 0, iv (p1 + (1 : Int32)), iv v0] []) (fun _ z_ => XS.goto X3.here hx rfl (pc0 := 127) (pc' := 44) rfl (hb hby own_d8_127) (by decide) (by decide) z_) ?_
  have hi1 : (p1 + (1 : Int32)).toInt = ((P + 1 : Nat) : Int) := own_add1 hi0 (own_pl2 hP 1)
  generalize (p1 + (1 : Int32)) = i1 at hi1 ⊢
  refine own_g (own_F T3 m 46 #[rv x, iv p1, iv tt, iv 6, rv b1, iv H0, iv 6, iv 0, iv i1, iv v0] [(.int i1)]) (fun _ z_ => XS.iload X3.here hx rfl (hb hby own_d8_44) rfl z_) ?_
  refine own_g (own_F T3 m 47 #[rv x, iv p1, iv tt, iv 6, rv b1, iv H0, iv 6, iv 0, iv i1, iv v0] [(.int tt), (.int i1)]) (fun _ z_ => XS.iloadN X3.here hx rfl (hb hby own_d8_46) rfl z_) ?_
  refine own_g (own_F T3 m 50 #[rv x, iv p1, iv tt, iv 6, rv b1, iv H0, iv 6, iv 0, iv i1, iv v0] []) (fun _ z_ => XS.icmpNo X3.here hx rfl (hb hby own_d8_47) rfl (tlt (own_lt3 hi1 ht (Nat.add_lt_add_left (by decide) P))).2.1 z_) ?_
  refine own_g (own_F T3 m 51 #[rv x, iv p1, iv tt, iv 6, rv b1, iv H0, iv 6, iv 0, iv i1, iv v0] [(.ref x)]) (fun _ z_ => XS.aloadN X3.here hx rfl (hb hby own_d8_50) rfl rfl z_) ?_
  refine own_g (own_F T3 m 53 #[rv x, iv p1, iv tt, iv 6, rv b1, iv H0, iv 6, iv 0, iv i1, iv v0] [(.int i1), (.ref x)]) (fun _ z_ => XS.iload X3.here hx rfl (hb hby own_d8_51) rfl z_) ?_
  refine own_callV (C := "java/lang/String") (y := (⟨"java/lang/String", "charAt", "(I)C"⟩ : MethodName)) (b := x) X3 hx hZ hown (own_w hw 60) (own_w hw 61) (own_w hw 63) (own_w hw 62) (own_w hw 64) (own_w hw 7) (by decide) hh3 (hES.ext E1) (hM := own_charAt l Z a0 hw [] x i1 zc (P + 1) 11 f sv hsv h1 n0 (Nat.le_trans Z0 E1.1) hi1 (own_pl hP 1) hzc (hS.keep ((Keep.refl _ _).ext E1) all0) (S_cs.ext E1) (S_sf.ext E1) (S_ad.ext E1) (S_hi.ext E1) (S_lo.ext E1)) (W := 0) (pc := 53) (Ls := #[rv x, iv p1, iv tt, iv 6, rv b1, iv H0, iv 6, iv 0, iv i1, iv v0]) (argsL := [(.int i1)]) (rest := []) (st0 := [(.int i1), (.ref x)]) (by rw [hml]; rfl) (lenOf own_pd13 rfl) rfl (Nat.le_of_eq rfl) (hb hby own_d8_53) (by decide) (by decide) (by decide) (by decide) ?_
  intro v4 T4 L4 X4 hQ4
  obtain ⟨rfl, Nq4, hh4⟩ := hQ4
  have N4 := Fr.app N3 Nq4
  show own_Ends p e below s _ _ _ (own_F T4 m 56 #[rv x, iv p1, iv tt, iv 6, rv b1, iv H0, iv 6, iv 0, iv i1, iv v0] [(.int (f (P + 1)))])
  refine own_callS (y := (⟨"com/example/claimgate/claimgate/jose/Base64Url", "value", "(C)I"⟩ : MethodName)) X4 hx hZ hown (own_w hw 87) (own_w hw 88) (own_w hw 36) (own_w hw 89) (by decide) hh4 (hM := own_val l Z a0 hw [] _ v1 h1 n0 (Nat.le_trans Z0 E1.1) hs1) (W := 0) (pc := 56) (Ls := #[rv x, iv p1, iv tt, iv 6, rv b1, iv H0, iv 6, iv 0, iv i1, iv v0]) (argsL := [(.int (f (P + 1)))]) (rest := []) (st0 := [(.int (f (P + 1)))]) (by rw [hml]; rfl) (lenOf own_pd14 rfl) rfl (Nat.le_of_eq rfl) (hb hby own_d8_56) (by decide) (by decide) (by decide) (by decide) ?_
  intro v5 T5 L5 X5 hQ5
  obtain ⟨rfl, Nq5, hh5⟩ := hQ5
  have N5 := Fr.app N4 Nq5
  show own_Ends p e below s _ _ _ (own_F T5 m 59 #[rv x, iv p1, iv tt, iv 6, rv b1, iv H0, iv 6, iv 0, iv i1, iv v0] [(.int v1)])
  refine own_g (own_F T5 m 61 #[rv x, iv p1, iv tt, iv 6, rv b1, iv H0, iv 6, iv 0, iv i1, iv v1] []) (fun _ z_ => XS.istore X5.here hx rfl (hb hby own_d8_59) rfl (l' := #[rv x, iv p1, iv tt, iv 6, rv b1, iv H0, iv 6, iv 0, iv i1, iv v1]) rfl z_) ?_
  refine own_g (own_F T5 m 63 #[rv x, iv p1, iv tt, iv 6, rv b1, iv H0, iv 6, iv 0, iv i1, iv v1] [(.int v1)]) (fun _ z_ => XS.iload X5.here hx rfl (hb hby own_d8_61) rfl z_) ?_
  refine own_g (own_F T5 m 76 #[rv x, iv p1, iv tt, iv 6, rv b1, iv H0, iv 6, iv 0, iv i1, iv v1] []) (fun _ z_ => XS.ifYes X5.here hx rfl (pc0 := 63) (pc' := 76) rfl (hb hby own_d8_63) rfl ((if0 _ _).trans (flt (own_vn (own_sym_rng hs1).2.1)).2.1) (by decide) (by decide) z_) ?_
  refine own_g (own_F T5 m 78 #[rv x, iv p1, iv tt, iv 6, rv b1, iv H0, iv 6, iv 0, iv i1, iv v1] [(.int H0)]) (fun _ z_ => XS.iload X5.here hx rfl (hb hby own_d8_76) rfl z_) ?_
  refine own_g (own_F T5 m 80 #[rv x, iv p1, iv tt, iv 6, rv b1, iv H0, iv 6, iv 0, iv i1, iv v1] [(.int 6), (.int H0)]) (fun _ z_ => XS.bipush X5.here hx rfl (hb hby own_d8_78) z_) ?_
  refine own_g (own_F T5 m 81 #[rv x, iv p1, iv tt, iv 6, rv b1, iv H0, iv 6, iv 0, iv i1, iv v1] [(.int (H0 <<< ((6 : Int32) &&& 31)))]) (fun _ z_ => XS.ishl X5.here hx rfl (hb hby own_d8_80) rfl z_) ?_
  refine own_g (own_F T5 m 83 #[rv x, iv p1, iv tt, iv 6, rv b1, iv H0, iv 6, iv 0, iv i1, iv v1] [(.int v1), (.int (H0 <<< ((6 : Int32) &&& 31)))]) (fun _ z_ => XS.iload X5.here hx rfl (hb hby own_d8_81) rfl z_) ?_
  refine own_g (own_F T5 m 84 #[rv x, iv p1, iv tt, iv 6, rv b1, iv H0, iv 6, iv 0, iv i1, iv v1] [(.int ((H0 <<< ((6 : Int32) &&& 31)) ||| v1))]) (fun _ z_ => XS.ior X5.here hx rfl (hb hby own_d8_83) rfl z_) ?_
  have hH1 : ((H0 <<< ((6 : Int32) &&& 31)) ||| v1).toInt = H0.toInt * 64 + v1.toInt := own_h6 (own_r4 hE0 hb0) (own_sym_rng hs1).2
  generalize ((H0 <<< ((6 : Int32) &&& 31)) ||| v1) = H1 at hH1 ⊢
  have hE1 : H1.toInt = y0.toInt * 16 + y1.toInt / 16 := by rw [hH1, hE0, hr1]; exact own_q1 hb0
  refine own_g (own_F T5 m 86 #[rv x, iv p1, iv tt, iv 6, rv b1, iv H1, iv 6, iv 0, iv i1, iv v1] []) (fun _ z_ => XS.istore X5.here hx rfl (hb hby own_d8_84) rfl (l' := #[rv x, iv p1, iv tt, iv 6, rv b1, iv H1, iv 6, iv 0, iv i1, iv v1]) rfl z_) ?_
  refine own_g (own_F T5 m 89 #[rv x, iv p1, iv tt, iv 6, rv b1, iv H1, iv 12, iv 0, iv i1, iv v1] []) (fun _ z_ => XS.iinc X5.here hx rfl (hb hby own_d8_86) rfl (l' := #[rv x, iv p1, iv tt, iv 6, rv b1, iv H1, iv 12, iv 0, iv i1, iv v1]) rfl z_) ?_
  refine own_g (own_F T5 m 91 #[rv x, iv p1, iv tt, iv 6, rv b1, iv H1, iv 12, iv 0, iv i1, iv v1] [(.int 12)]) (fun _ z_ => XS.iload X5.here hx rfl (hb hby own_d8_89) rfl z_) ?_
  refine own_g (own_F T5 m 93 #[rv x, iv p1, iv tt, iv 6, rv b1, iv H1, iv 12, iv 0, iv i1, iv v1] [(.int 8), (.int 12)]) (fun _ z_ => XS.bipush X5.here hx rfl (hb hby own_d8_91) z_) ?_
  refine own_g (own_F T5 m 96 #[rv x, iv p1, iv tt, iv 6, rv b1, iv H1, iv 12, iv 0, iv i1, iv v1] []) (fun _ z_ => XS.icmpNo X5.here hx rfl (hb hby own_d8_93) rfl (flt (by decide : ¬ ((12 : Int32) < (8 : Int32)))).1 z_) ?_
  refine own_g (own_F T5 m 99 #[rv x, iv p1, iv tt, iv 6, rv b1, iv H1, iv 4, iv 0, iv i1, iv v1] []) (fun _ z_ => XS.iinc X5.here hx rfl (hb hby own_d8_96) rfl (l' := #[rv x, iv p1, iv tt, iv 6, rv b1, iv H1, iv 4, iv 0, iv i1, iv v1]) rfl z_) ?_
  refine own_g (own_F T5 m 101 #[rv x, iv p1, iv tt, iv 6, rv b1, iv H1, iv 4, iv 0, iv i1, iv v1] [(.ref b1)]) (fun _ z_ => XS.aload X5.here hx rfl (hb hby own_d8_99) rfl rfl z_) ?_
  refine own_g (own_F T5 m 103 #[rv x, iv p1, iv tt, iv 6, rv b1, iv H1, iv 4, iv 0, iv i1, iv v1] [(.int 0), (.ref b1)]) (fun _ z_ => XS.iload X5.here hx rfl (hb hby own_d8_101) rfl z_) ?_
  refine own_g (own_F T5 m 106 #[rv x, iv p1, iv tt, iv 6, rv b1, iv H1, iv 4, iv 1, iv i1, iv v1] [(.int 0), (.ref b1)]) (fun _ z_ => XS.iinc X5.here hx rfl (hb hby own_d8_103) rfl (l' := #[rv x, iv p1, iv tt, iv 6, rv b1, iv H1, iv 4, iv 1, iv i1, iv v1]) rfl z_) ?_
  refine own_g (own_F T5 m 108 #[rv x, iv p1, iv tt, iv 6, rv b1, iv H1, iv 4, iv 1, iv i1, iv v1] [(.int H1), (.int 0), (.ref b1)]) (fun _ z_ => XS.iload X5.here hx rfl (hb hby own_d8_106) rfl z_) ?_
  refine own_g (own_F T5 m 110 #[rv x, iv p1, iv tt, iv 6, rv b1, iv H1, iv 4, iv 1, iv i1, iv v1] [(.int 4), (.int H1), (.int 0), (.ref b1)]) (fun _ z_ => XS.iload X5.here hx rfl (hb hby own_d8_108) rfl z_) ?_
  refine own_g (own_F T5 m 111 #[rv x, iv p1, iv tt, iv 6, rv b1, iv H1, iv 4, iv 1, iv i1, iv v1] [(.int (H1 >>> ((4 : Int32) &&& 31))), (.int 0), (.ref b1)]) (fun _ z_ => XS.ishr X5.here hx rfl (hb hby own_d8_110) rfl z_) ?_
  have hB0 : (H1 >>> ((4 : Int32) &&& 31)) = y0 := own_sh (c_ishr H1 (4 : Int32) 4 (by decide)) hE1 (own_d1 hb0 hb1)
  rw [hB0]
  refine own_g (own_F T5 m 112 #[rv x, iv p1, iv tt, iv 6, rv b1, iv H1, iv 4, iv 1, iv i1, iv v1] [(.int (y0.toInt8.toInt32)), (.int 0), (.ref b1)]) (fun _ z_ => XS.i2b X5.here hx rfl (hb hby own_d8_111) rfl z_) ?_
  refine own_bast X5 hx hZ hh5 A1 0 rfl (by decide) (y0.toInt8.toInt32) (own_narB _) (hb hby own_d8_112) ?_
  intro T6 h6 X6 e6 W6 A6
  have N6 := Fr.snoc X6 N5 ge_b1
  obtain ⟨g6, A6, q6_0, q6_1, q6_2, q6_3⟩ : ∃ gq_ : Nat → Int32, own_A Z h6 b1 .byte 4 (fun q_ => .int (gq_ q_)) ∧ gq_ 0 = (y0.toInt8.toInt32) ∧ gq_ 1 = (0 : Int32) ∧ gq_ 2 = (0 : Int32) ∧ gq_ 3 = (0 : Int32) := ⟨_, A6, rfl, (show ite _ _ _ = _ from (if_neg (by decide)).trans rfl), (show ite _ _ _ = _ from (if_neg (by decide)).trans rfl), (show ite _ _ _ = _ from (if_neg (by decide)).trans rfl)⟩
  show own_Ends p e below s _ _ _ (own_F T6 m 113 #[rv x, iv p1, iv tt, iv 6, rv b1, iv H1, iv 4, iv 1, iv i1, iv v1] [])
  refine own_g (own_F T6 m 115 #[rv x, iv p1, iv tt, iv 6, rv b1, iv H1, iv 4, iv 1, iv i1, iv v1] [(.int H1)]) (fun _ z_ => XS.iload X6.here hx rfl (hb hby own_d8_113) rfl z_) ?_
  refine own_g (own_F T6 m 116 #[rv x, iv p1, iv tt, iv 6, rv b1, iv H1, iv 4, iv 1, iv i1, iv v1] [(.int 1), (.int H1)]) (fun _ z_ => XS.iconst X6.here hx rfl (hb hby own_d8_115) z_) ?_
  refine own_g (own_F T6 m 118 #[rv x, iv p1, iv tt, iv 6, rv b1, iv H1, iv 4, iv 1, iv i1, iv v1] [(.int 4), (.int 1), (.int H1)]) (fun _ z_ => XS.iload X6.here hx rfl (hb hby own_d8_116) rfl z_) ?_
  refine own_g (own_F T6 m 119 #[rv x, iv p1, iv tt, iv 6, rv b1, iv H1, iv 4, iv 1, iv i1, iv v1] [(.int 16), (.int H1)]) (fun _ z_ => XS.ishl X6.here hx rfl (hb hby own_d8_118) rfl z_) ?_
  refine own_g (own_F T6 m 120 #[rv x, iv p1, iv tt, iv 6, rv b1, iv H1, iv 4, iv 1, iv i1, iv v1] [(.int 1), (.int 16), (.int H1)]) (fun _ z_ => XS.iconst X6.here hx rfl (hb hby own_d8_119) z_) ?_
  refine own_g (own_F T6 m 121 #[rv x, iv p1, iv tt, iv 6, rv b1, iv H1, iv 4, iv 1, iv i1, iv v1] [(.int 15), (.int H1)]) (fun _ z_ => XS.isub X6.here hx rfl (hb hby own_d8_120) rfl z_) ?_
  refine own_g (own_F T6 m 122 #[rv x, iv p1, iv tt, iv 6, rv b1, iv H1, iv 4, iv 1, iv i1, iv v1] [(.int (H1 &&& (15 : Int32)))]) (fun _ z_ => XS.iand X6.here hx rfl (hb hby own_d8_121) rfl z_) ?_
  have hG1 : (H1 &&& (15 : Int32)).toInt = y1.toInt / 16 := own_mk (c_mask H1 (15 : Int32) 4 (by decide) (by decide)) hE1 (own_e1 hb1)
  generalize (H1 &&& (15 : Int32)) = G1 at hG1 ⊢
  refine own_g (own_F T6 m 124 #[rv x, iv p1, iv tt, iv 6, rv b1, iv G1, iv 4, iv 1, iv i1, iv v1] []) (fun _ z_ => XS.istore X6.here hx rfl (hb hby own_d8_122) rfl (l' := #[rv x, iv p1, iv tt, iv 6, rv b1, iv G1, iv 4, iv 1, iv i1, iv v1]) rfl z_) ?_
  refine own_g (own_F T6 m 127 #[rv x, iv p1, iv tt, iv 6, rv b1, iv G1, iv 4, iv 1, iv (i1 + (1 : Int32)), iv v1] []) (fun _ z_ => XS.iinc X6.here hx rfl (hb hby own_d8_124) rfl (l' := #[rv x, iv p1, iv tt, iv 6, rv b1, iv G1, iv 4, iv 1, iv (i1 + (1 : Int32)), iv v1]) rfl z_) ?_
  refine own_g (own_F T6 m 44 #[rv x, iv p1, iv tt, iv 6, rv b1, iv G1, iv 4, iv 1, iv (i1 + (1 : Int32)), iv v1] []) (fun _ z_ => XS.goto X6.here hx rfl (pc0 := 127) (pc' := 44) rfl (hb hby own_d8_127) (by decide) (by decide) z_) ?_
  have hi2 : (i1 + (1 : Int32)).toInt = ((P + 2 : Nat) : Int) := own_add1 hi1 (own_pl2 hP 2)
  generalize (i1 + (1 : Int32)) = i2 at hi2 ⊢
  refine own_g (own_F T6 m 46 #[rv x, iv p1, iv tt, iv 6, rv b1, iv G1, iv 4, iv 1, iv i2, iv v1] [(.int i2)]) (fun _ z_ => XS.iload X6.here hx rfl (hb hby own_d8_44) rfl z_) ?_
  refine own_g (own_F T6 m 47 #[rv x, iv p1, iv tt, iv 6, rv b1, iv G1, iv 4, iv 1, iv i2, iv v1] [(.int tt), (.int i2)]) (fun _ z_ => XS.iloadN X6.here hx rfl (hb hby own_d8_46) rfl z_) ?_
  refine own_g (own_F T6 m 50 #[rv x, iv p1, iv tt, iv 6, rv b1, iv G1, iv 4, iv 1, iv i2, iv v1] []) (fun _ z_ => XS.icmpNo X6.here hx rfl (hb hby own_d8_47) rfl (tlt (own_lt3 hi2 ht (Nat.add_lt_add_left (by decide) P))).2.1 z_) ?_
  refine own_g (own_F T6 m 51 #[rv x, iv p1, iv tt, iv 6, rv b1, iv G1, iv 4, iv 1, iv i2, iv v1] [(.ref x)]) (fun _ z_ => XS.aloadN X6.here hx rfl (hb hby own_d8_50) rfl rfl z_) ?_
  refine own_g (own_F T6 m 53 #[rv x, iv p1, iv tt, iv 6, rv b1, iv G1, iv 4, iv 1, iv i2, iv v1] [(.int i2), (.ref x)]) (fun _ z_ => XS.iload X6.here hx rfl (hb hby own_d8_51) rfl z_) ?_
  refine own_callV (C := "java/lang/String") (y := (⟨"java/lang/String", "charAt", "(I)C"⟩ : MethodName)) (b := x) X6 hx hZ hown (own_w hw 60) (own_w hw 61) (own_w hw 63) (own_w hw 62) (own_w hw 64) (own_w hw 7) (by decide) e6 ((hES.ext E1).wr W6) (hM := own_charAt l Z a0 hw [] x i2 zc (P + 2) 11 f sv hsv h6 n0 (Nat.le_trans (Nat.le_trans Z0 E1.1) (Nat.le_of_eq W6.size.symm)) hi2 (own_pl hP 2) hzc (hS.keep (((Keep.refl _ _).ext E1).wr W6 (Or.inr sz_b1)) all0) ((S_cs.ext E1).wr W6) ((S_sf.ext E1).wr W6) ((S_ad.ext E1).wr W6) ((S_hi.ext E1).wr W6) ((S_lo.ext E1).wr W6)) (W := 0) (pc := 53) (Ls := #[rv x, iv p1, iv tt, iv 6, rv b1, iv G1, iv 4, iv 1, iv i2, iv v1]) (argsL := [(.int i2)]) (rest := []) (st0 := [(.int i2), (.ref x)]) (by rw [hml]; rfl) (lenOf own_pd13 rfl) rfl (Nat.le_of_eq rfl) (hb hby own_d8_53) (by decide) (by decide) (by decide) (by decide) ?_
  intro v7 T7 L7 X7 hQ7
  obtain ⟨rfl, Nq7, hh7⟩ := hQ7
  have N7 := Fr.app N6 Nq7
  show own_Ends p e below s _ _ _ (own_F T7 m 56 #[rv x, iv p1, iv tt, iv 6, rv b1, iv G1, iv 4, iv 1, iv i2, iv v1] [(.int (f (P + 2)))])
  refine own_callS (y := (⟨"com/example/claimgate/claimgate/jose/Base64Url", "value", "(C)I"⟩ : MethodName)) X7 hx hZ hown (own_w hw 87) (own_w hw 88) (own_w hw 36) (own_w hw 89) (by decide) hh7 (hM := own_val l Z a0 hw [] _ v2 h6 n0 (Nat.le_trans (Nat.le_trans Z0 E1.1) (Nat.le_of_eq W6.size.symm)) hs2) (W := 0) (pc := 56) (Ls := #[rv x, iv p1, iv tt, iv 6, rv b1, iv G1, iv 4, iv 1, iv i2, iv v1]) (argsL := [(.int (f (P + 2)))]) (rest := []) (st0 := [(.int (f (P + 2)))]) (by rw [hml]; rfl) (lenOf own_pd14 rfl) rfl (Nat.le_of_eq rfl) (hb hby own_d8_56) (by decide) (by decide) (by decide) (by decide) ?_
  intro v8 T8 L8 X8 hQ8
  obtain ⟨rfl, Nq8, hh8⟩ := hQ8
  have N8 := Fr.app N7 Nq8
  show own_Ends p e below s _ _ _ (own_F T8 m 59 #[rv x, iv p1, iv tt, iv 6, rv b1, iv G1, iv 4, iv 1, iv i2, iv v1] [(.int v2)])
  refine own_g (own_F T8 m 61 #[rv x, iv p1, iv tt, iv 6, rv b1, iv G1, iv 4, iv 1, iv i2, iv v2] []) (fun _ z_ => XS.istore X8.here hx rfl (hb hby own_d8_59) rfl (l' := #[rv x, iv p1, iv tt, iv 6, rv b1, iv G1, iv 4, iv 1, iv i2, iv v2]) rfl z_) ?_
  refine own_g (own_F T8 m 63 #[rv x, iv p1, iv tt, iv 6, rv b1, iv G1, iv 4, iv 1, iv i2, iv v2] [(.int v2)]) (fun _ z_ => XS.iload X8.here hx rfl (hb hby own_d8_61) rfl z_) ?_
  refine own_g (own_F T8 m 76 #[rv x, iv p1, iv tt, iv 6, rv b1, iv G1, iv 4, iv 1, iv i2, iv v2] []) (fun _ z_ => XS.ifYes X8.here hx rfl (pc0 := 63) (pc' := 76) rfl (hb hby own_d8_63) rfl ((if0 _ _).trans (flt (own_vn (own_sym_rng hs2).2.1)).2.1) (by decide) (by decide) z_) ?_
  refine own_g (own_F T8 m 78 #[rv x, iv p1, iv tt, iv 6, rv b1, iv G1, iv 4, iv 1, iv i2, iv v2] [(.int G1)]) (fun _ z_ => XS.iload X8.here hx rfl (hb hby own_d8_76) rfl z_) ?_
  refine own_g (own_F T8 m 80 #[rv x, iv p1, iv tt, iv 6, rv b1, iv G1, iv 4, iv 1, iv i2, iv v2] [(.int 6), (.int G1)]) (fun _ z_ => XS.bipush X8.here hx rfl (hb hby own_d8_78) z_) ?_
  refine own_g (own_F T8 m 81 #[rv x, iv p1, iv tt, iv 6, rv b1, iv G1, iv 4, iv 1, iv i2, iv v2] [(.int (G1 <<< ((6 : Int32) &&& 31)))]) (fun _ z_ => XS.ishl X8.here hx rfl (hb hby own_d8_80) rfl z_) ?_
  refine own_g (own_F T8 m 83 #[rv x, iv p1, iv tt, iv 6, rv b1, iv G1, iv 4, iv 1, iv i2, iv v2] [(.int v2), (.int (G1 <<< ((6 : Int32) &&& 31)))]) (fun _ z_ => XS.iload X8.here hx rfl (hb hby own_d8_81) rfl z_) ?_
  refine own_g (own_F T8 m 84 #[rv x, iv p1, iv tt, iv 6, rv b1, iv G1, iv 4, iv 1, iv i2, iv v2] [(.int ((G1 <<< ((6 : Int32) &&& 31)) ||| v2))]) (fun _ z_ => XS.ior X8.here hx rfl (hb hby own_d8_83) rfl z_) ?_
  have hH2 : ((G1 <<< ((6 : Int32) &&& 31)) ||| v2).toInt = G1.toInt * 64 + v2.toInt := own_h6 (own_r16 hG1 hb1) (own_sym_rng hs2).2
  generalize ((G1 <<< ((6 : Int32) &&& 31)) ||| v2) = H2 at hH2 ⊢
  have hE2 : H2.toInt = y1.toInt * 4 + y2.toInt / 64 := by rw [hH2, hG1, hr2]; exact own_q2 hb1
  refine own_g (own_F T8 m 86 #[rv x, iv p1, iv tt, iv 6, rv b1, iv H2, iv 4, iv 1, iv i2, iv v2] []) (fun _ z_ => XS.istore X8.here hx rfl (hb hby own_d8_84) rfl (l' := #[rv x, iv p1, iv tt, iv 6, rv b1, iv H2, iv 4, iv 1, iv i2, iv v2]) rfl z_) ?_
  refine own_g (own_F T8 m 89 #[rv x, iv p1, iv tt, iv 6, rv b1, iv H2, iv 10, iv 1, iv i2, iv v2] []) (fun _ z_ => XS.iinc X8.here hx rfl (hb hby own_d8_86) rfl (l' := #[rv x, iv p1, iv tt, iv 6, rv b1, iv H2, iv 10, iv 1, iv i2, iv v2]) rfl z_) ?_
  refine own_g (own_F T8 m 91 #[rv x, iv p1, iv tt, iv 6, rv b1, iv H2, iv 10, iv 1, iv i2, iv v2] [(.int 10)]) (fun _ z_ => XS.iload X8.here hx rfl (hb hby own_d8_89) rfl z_) ?_
  refine own_g (own_F T8 m 93 #[rv x, iv p1, iv tt, iv 6, rv b1, iv H2, iv 10, iv 1, iv i2, iv v2] [(.int 8), (.int 10)]) (fun _ z_ => XS.bipush X8.here hx rfl (hb hby own_d8_91) z_) ?_
  refine own_g (own_F T8 m 96 #[rv x, iv p1, iv tt, iv 6, rv b1, iv H2, iv 10, iv 1, iv i2, iv v2] []) (fun _ z_ => XS.icmpNo X8.here hx rfl (hb hby own_d8_93) rfl (flt (by decide : ¬ ((10 : Int32) < (8 : Int32)))).1 z_) ?_
  refine own_g (own_F T8 m 99 #[rv x, iv p1, iv tt, iv 6, rv b1, iv H2, iv 2, iv 1, iv i2, iv v2] []) (fun _ z_ => XS.iinc X8.here hx rfl (hb hby own_d8_96) rfl (l' := #[rv x, iv p1, iv tt, iv 6, rv b1, iv H2, iv 2, iv 1, iv i2, iv v2]) rfl z_) ?_
  refine own_g (own_F T8 m 101 #[rv x, iv p1, iv tt, iv 6, rv b1, iv H2, iv 2, iv 1, iv i2, iv v2] [(.ref b1)]) (fun _ z_ => XS.aload X8.here hx rfl (hb hby own_d8_99) rfl rfl z_) ?_
  refine own_g (own_F T8 m 103 #[rv x, iv p1, iv tt, iv 6, rv b1, iv H2, iv 2, iv 1, iv i2, iv v2] [(.int 1), (.ref b1)]) (fun _ z_ => XS.iload X8.here hx rfl (hb hby own_d8_101) rfl z_) ?_
  refine own_g (own_F T8 m 106 #[rv x, iv p1, iv tt, iv 6, rv b1, iv H2, iv 2, iv 2, iv i2, iv v2] [(.int 1), (.ref b1)]) (fun _ z_ => XS.iinc X8.here hx rfl (hb hby own_d8_103) rfl (l' := #[rv x, iv p1, iv tt, iv 6, rv b1, iv H2, iv 2, iv 2, iv i2, iv v2]) rfl z_) ?_
  refine own_g (own_F T8 m 108 #[rv x, iv p1, iv tt, iv 6, rv b1, iv H2, iv 2, iv 2, iv i2, iv v2] [(.int H2), (.int 1), (.ref b1)]) (fun _ z_ => XS.iload X8.here hx rfl (hb hby own_d8_106) rfl z_) ?_
  refine own_g (own_F T8 m 110 #[rv x, iv p1, iv tt, iv 6, rv b1, iv H2, iv 2, iv 2, iv i2, iv v2] [(.int 2), (.int H2), (.int 1), (.ref b1)]) (fun _ z_ => XS.iload X8.here hx rfl (hb hby own_d8_108) rfl z_) ?_
  refine own_g (own_F T8 m 111 #[rv x, iv p1, iv tt, iv 6, rv b1, iv H2, iv 2, iv 2, iv i2, iv v2] [(.int (H2 >>> ((2 : Int32) &&& 31))), (.int 1), (.ref b1)]) (fun _ z_ => XS.ishr X8.here hx rfl (hb hby own_d8_110) rfl z_) ?_
  have hB1 : (H2 >>> ((2 : Int32) &&& 31)) = y1 := own_sh (c_ishr H2 (2 : Int32) 2 (by decide)) hE2 (own_d2 hb1 hb2)
  rw [hB1]
  refine own_g (own_F T8 m 112 #[rv x, iv p1, iv tt, iv 6, rv b1, iv H2, iv 2, iv 2, iv i2, iv v2] [(.int (y1.toInt8.toInt32)), (.int 1), (.ref b1)]) (fun _ z_ => XS.i2b X8.here hx rfl (hb hby own_d8_111) rfl z_) ?_
  refine own_bast X8 hx hZ hh8 A6 1 rfl (by decide) (y1.toInt8.toInt32) (own_narB _) (hb hby own_d8_112) ?_
  intro T9 h9 X9 e9 W9 A9
  have N9 := Fr.snoc X9 N8 ge_b1
  obtain ⟨g9, A9, q9_0, q9_1, q9_2, q9_3⟩ : ∃ gq_ : Nat → Int32, own_A Z h9 b1 .byte 4 (fun q_ => .int (gq_ q_)) ∧ gq_ 0 = (y0.toInt8.toInt32) ∧ gq_ 1 = (y1.toInt8.toInt32) ∧ gq_ 2 = (0 : Int32) ∧ gq_ 3 = (0 : Int32) := ⟨_, A9, (show ite _ _ _ = _ from (if_neg (by decide)).trans q6_0), rfl, (show ite _ _ _ = _ from (if_neg (by decide)).trans q6_2), (show ite _ _ _ = _ from (if_neg (by decide)).trans q6_3)⟩
  show own_Ends p e below s _ _ _ (own_F T9 m 113 #[rv x, iv p1, iv tt, iv 6, rv b1, iv H2, iv 2, iv 2, iv i2, iv v2] [])
  refine own_g (own_F T9 m 115 #[rv x, iv p1, iv tt, iv 6, rv b1, iv H2, iv 2, iv 2, iv i2, iv v2] [(.int H2)]) (fun _ z_ => XS.iload X9.here hx rfl (hb hby own_d8_113) rfl z_) ?_
  refine own_g (own_F T9 m 116 #[rv x, iv p1, iv tt, iv 6, rv b1, iv H2, iv 2, iv 2, iv i2, iv v2] [(.int 1), (.int H2)]) (fun _ z_ => XS.iconst X9.here hx rfl (hb hby own_d8_115) z_) ?_
  refine own_g (own_F T9 m 118 #[rv x, iv p1, iv tt, iv 6, rv b1, iv H2, iv 2, iv 2, iv i2, iv v2] [(.int 2), (.int 1), (.int H2)]) (fun _ z_ => XS.iload X9.here hx rfl (hb hby own_d8_116) rfl z_) ?_
  refine own_g (own_F T9 m 119 #[rv x, iv p1, iv tt, iv 6, rv b1, iv H2, iv 2, iv 2, iv i2, iv v2] [(.int 4), (.int H2)]) (fun _ z_ => XS.ishl X9.here hx rfl (hb hby own_d8_118) rfl z_) ?_
  refine own_g (own_F T9 m 120 #[rv x, iv p1, iv tt, iv 6, rv b1, iv H2, iv 2, iv 2, iv i2, iv v2] [(.int 1), (.int 4), (.int H2)]) (fun _ z_ => XS.iconst X9.here hx rfl (hb hby own_d8_119) z_) ?_
  refine own_g (own_F T9 m 121 #[rv x, iv p1, iv tt, iv 6, rv b1, iv H2, iv 2, iv 2, iv i2, iv v2] [(.int 3), (.int H2)]) (fun _ z_ => XS.isub X9.here hx rfl (hb hby own_d8_120) rfl z_) ?_
  refine own_g (own_F T9 m 122 #[rv x, iv p1, iv tt, iv 6, rv b1, iv H2, iv 2, iv 2, iv i2, iv v2] [(.int (H2 &&& (3 : Int32)))]) (fun _ z_ => XS.iand X9.here hx rfl (hb hby own_d8_121) rfl z_) ?_
  have hG2 : (H2 &&& (3 : Int32)).toInt = y2.toInt / 64 := own_mk (c_mask H2 (3 : Int32) 2 (by decide) (by decide)) hE2 (own_e2 hb2)
  generalize (H2 &&& (3 : Int32)) = G2 at hG2 ⊢
  refine own_g (own_F T9 m 124 #[rv x, iv p1, iv tt, iv 6, rv b1, iv G2, iv 2, iv 2, iv i2, iv v2] []) (fun _ z_ => XS.istore X9.here hx rfl (hb hby own_d8_122) rfl (l' := #[rv x, iv p1, iv tt, iv 6, rv b1, iv G2, iv 2, iv 2, iv i2, iv v2]) rfl z_) ?_
  refine own_g (own_F T9 m 127 #[rv x, iv p1, iv tt, iv 6, rv b1, iv G2, iv 2, iv 2, iv (i2 + (1 : Int32)), iv v2] []) (fun _ z_ => XS.iinc X9.here hx rfl (hb hby own_d8_124) rfl (l' := #[rv x, iv p1, iv tt, iv 6, rv b1, iv G2, iv 2, iv 2, iv (i2 + (1 : Int32)), iv v2]) rfl z_) ?_
  refine own_g (own_F T9 m 44 #[rv x, iv p1, iv tt, iv 6, rv b1, iv G2, iv 2, iv 2, iv (i2 + (1 : Int32)), iv v2] []) (fun _ z_ => XS.goto X9.here hx rfl (pc0 := 127) (pc' := 44) rfl (hb hby own_d8_127) (by decide) (by decide) z_) ?_
  have hi3 : (i2 + (1 : Int32)).toInt = ((P + 3 : Nat) : Int) := own_add1 hi2 (own_pl2 hP 3)
  generalize (i2 + (1 : Int32)) = i3 at hi3 ⊢
  refine own_g (own_F T9 m 46 #[rv x, iv p1, iv tt, iv 6, rv b1, iv G2, iv 2, iv 2, iv i3, iv v2] [(.int i3)]) (fun _ z_ => XS.iload X9.here hx rfl (hb hby own_d8_44) rfl z_) ?_
  refine own_g (own_F T9 m 47 #[rv x, iv p1, iv tt, iv 6, rv b1, iv G2, iv 2, iv 2, iv i3, iv v2] [(.int tt), (.int i3)]) (fun _ z_ => XS.iloadN X9.here hx rfl (hb hby own_d8_46) rfl z_) ?_
  refine own_g (own_F T9 m 50 #[rv x, iv p1, iv tt, iv 6, rv b1, iv G2, iv 2, iv 2, iv i3, iv v2] []) (fun _ z_ => XS.icmpNo X9.here hx rfl (hb hby own_d8_47) rfl (tlt (own_lt3 hi3 ht (Nat.add_lt_add_left (by decide) P))).2.1 z_) ?_
  refine own_g (own_F T9 m 51 #[rv x, iv p1, iv tt, iv 6, rv b1, iv G2, iv 2, iv 2, iv i3, iv v2] [(.ref x)]) (fun _ z_ => XS.aloadN X9.here hx rfl (hb hby own_d8_50) rfl rfl z_) ?_
  refine own_g (own_F T9 m 53 #[rv x, iv p1, iv tt, iv 6, rv b1, iv G2, iv 2, iv 2, iv i3, iv v2] [(.int i3), (.ref x)]) (fun _ z_ => XS.iload X9.here hx rfl (hb hby own_d8_51) rfl z_) ?_
  refine own_callV (C := "java/lang/String") (y := (⟨"java/lang/String", "charAt", "(I)C"⟩ : MethodName)) (b := x) X9 hx hZ hown (own_w hw 60) (own_w hw 61) (own_w hw 63) (own_w hw 62) (own_w hw 64) (own_w hw 7) (by decide) e9 (((hES.ext E1).wr W6).wr W9) (hM := own_charAt l Z a0 hw [] x i3 zc (P + 3) 11 f sv hsv h9 n0 (Nat.le_trans (Nat.le_trans (Nat.le_trans Z0 E1.1) (Nat.le_of_eq W6.size.symm)) (Nat.le_of_eq W9.size.symm)) hi3 (own_pl hP 3) hzc (hS.keep ((((Keep.refl _ _).ext E1).wr W6 (Or.inr sz_b1)).wr W9 (Or.inr sz_b1)) all0) (((S_cs.ext E1).wr W6).wr W9) (((S_sf.ext E1).wr W6).wr W9) (((S_ad.ext E1).wr W6).wr W9) (((S_hi.ext E1).wr W6).wr W9) (((S_lo.ext E1).wr W6).wr W9)) (W := 0) (pc := 53) (Ls := #[rv x, iv p1, iv tt, iv 6, rv b1, iv G2, iv 2, iv 2, iv i3, iv v2]) (argsL := [(.int i3)]) (rest := []) (st0 := [(.int i3), (.ref x)]) (by rw [hml]; rfl) (lenOf own_pd13 rfl) rfl (Nat.le_of_eq rfl) (hb hby own_d8_53) (by decide) (by decide) (by decide) (by decide) ?_
  intro v10 T10 L10 X10 hQ10
  obtain ⟨rfl, Nq10, hh10⟩ := hQ10
  have N10 := Fr.app N9 Nq10
  show own_Ends p e below s _ _ _ (own_F T10 m 56 #[rv x, iv p1, iv tt, iv 6, rv b1, iv G2, iv 2, iv 2, iv i3, iv v2] [(.int (f (P + 3)))])
  refine own_callS (y := (⟨"com/example/claimgate/claimgate/jose/Base64Url", "value", "(C)I"⟩ : MethodName)) X10 hx hZ hown (own_w hw 87) (own_w hw 88) (own_w hw 36) (own_w hw 89) (by decide) hh10 (hM := own_val l Z a0 hw [] _ v3 h9 n0 (Nat.le_trans (Nat.le_trans (Nat.le_trans Z0 E1.1) (Nat.le_of_eq W6.size.symm)) (Nat.le_of_eq W9.size.symm)) hs3) (W := 0) (pc := 56) (Ls := #[rv x, iv p1, iv tt, iv 6, rv b1, iv G2, iv 2, iv 2, iv i3, iv v2]) (argsL := [(.int (f (P + 3)))]) (rest := []) (st0 := [(.int (f (P + 3)))]) (by rw [hml]; rfl) (lenOf own_pd14 rfl) rfl (Nat.le_of_eq rfl) (hb hby own_d8_56) (by decide) (by decide) (by decide) (by decide) ?_
  intro v11 T11 L11 X11 hQ11
  obtain ⟨rfl, Nq11, hh11⟩ := hQ11
  have N11 := Fr.app N10 Nq11
  show own_Ends p e below s _ _ _ (own_F T11 m 59 #[rv x, iv p1, iv tt, iv 6, rv b1, iv G2, iv 2, iv 2, iv i3, iv v2] [(.int v3)])
  refine own_g (own_F T11 m 61 #[rv x, iv p1, iv tt, iv 6, rv b1, iv G2, iv 2, iv 2, iv i3, iv v3] []) (fun _ z_ => XS.istore X11.here hx rfl (hb hby own_d8_59) rfl (l' := #[rv x, iv p1, iv tt, iv 6, rv b1, iv G2, iv 2, iv 2, iv i3, iv v3]) rfl z_) ?_
  refine own_g (own_F T11 m 63 #[rv x, iv p1, iv tt, iv 6, rv b1, iv G2, iv 2, iv 2, iv i3, iv v3] [(.int v3)]) (fun _ z_ => XS.iload X11.here hx rfl (hb hby own_d8_61) rfl z_) ?_
  refine own_g (own_F T11 m 76 #[rv x, iv p1, iv tt, iv 6, rv b1, iv G2, iv 2, iv 2, iv i3, iv v3] []) (fun _ z_ => XS.ifYes X11.here hx rfl (pc0 := 63) (pc' := 76) rfl (hb hby own_d8_63) rfl ((if0 _ _).trans (flt (own_vn (own_sym_rng hs3).2.1)).2.1) (by decide) (by decide) z_) ?_
  refine own_g (own_F T11 m 78 #[rv x, iv p1, iv tt, iv 6, rv b1, iv G2, iv 2, iv 2, iv i3, iv v3] [(.int G2)]) (fun _ z_ => XS.iload X11.here hx rfl (hb hby own_d8_76) rfl z_) ?_
  refine own_g (own_F T11 m 80 #[rv x, iv p1, iv tt, iv 6, rv b1, iv G2, iv 2, iv 2, iv i3, iv v3] [(.int 6), (.int G2)]) (fun _ z_ => XS.bipush X11.here hx rfl (hb hby own_d8_78) z_) ?_
  refine own_g (own_F T11 m 81 #[rv x, iv p1, iv tt, iv 6, rv b1, iv G2, iv 2, iv 2, iv i3, iv v3] [(.int (G2 <<< ((6 : Int32) &&& 31)))]) (fun _ z_ => XS.ishl X11.here hx rfl (hb hby own_d8_80) rfl z_) ?_
  refine own_g (own_F T11 m 83 #[rv x, iv p1, iv tt, iv 6, rv b1, iv G2, iv 2, iv 2, iv i3, iv v3] [(.int v3), (.int (G2 <<< ((6 : Int32) &&& 31)))]) (fun _ z_ => XS.iload X11.here hx rfl (hb hby own_d8_81) rfl z_) ?_
  refine own_g (own_F T11 m 84 #[rv x, iv p1, iv tt, iv 6, rv b1, iv G2, iv 2, iv 2, iv i3, iv v3] [(.int ((G2 <<< ((6 : Int32) &&& 31)) ||| v3))]) (fun _ z_ => XS.ior X11.here hx rfl (hb hby own_d8_83) rfl z_) ?_
  have hH3 : ((G2 <<< ((6 : Int32) &&& 31)) ||| v3).toInt = G2.toInt * 64 + v3.toInt := own_h6 (own_r64 hG2 hb2) (own_sym_rng hs3).2
  generalize ((G2 <<< ((6 : Int32) &&& 31)) ||| v3) = H3 at hH3 ⊢
  have hE3 : H3.toInt = y2.toInt := by rw [hH3, hG2, hr3]; exact own_q3 _
  refine own_g (own_F T11 m 86 #[rv x, iv p1, iv tt, iv 6, rv b1, iv H3, iv 2, iv 2, iv i3, iv v3] []) (fun _ z_ => XS.istore X11.here hx rfl (hb hby own_d8_84) rfl (l' := #[rv x, iv p1, iv tt, iv 6, rv b1, iv H3, iv 2, iv 2, iv i3, iv v3]) rfl z_) ?_
  refine own_g (own_F T11 m 89 #[rv x, iv p1, iv tt, iv 6, rv b1, iv H3, iv 8, iv 2, iv i3, iv v3] []) (fun _ z_ => XS.iinc X11.here hx rfl (hb hby own_d8_86) rfl (l' := #[rv x, iv p1, iv tt, iv 6, rv b1, iv H3, iv 8, iv 2, iv i3, iv v3]) rfl z_) ?_
  refine own_g (own_F T11 m 91 #[rv x, iv p1, iv tt, iv 6, rv b1, iv H3, iv 8, iv 2, iv i3, iv v3] [(.int 8)]) (fun _ z_ => XS.iload X11.here hx rfl (hb hby own_d8_89) rfl z_) ?_
  refine own_g (own_F T11 m 93 #[rv x, iv p1, iv tt, iv 6, rv b1, iv H3, iv 8, iv 2, iv i3, iv v3] [(.int 8), (.int 8)]) (fun _ z_ => XS.bipush X11.here hx rfl (hb hby own_d8_91) z_) ?_
  refine own_g (own_F T11 m 96 #[rv x, iv p1, iv tt, iv 6, rv b1, iv H3, iv 8, iv 2, iv i3, iv v3] []) (fun _ z_ => XS.icmpNo X11.here hx rfl (hb hby own_d8_93) rfl (flt (by decide : ¬ ((8 : Int32) < (8 : Int32)))).1 z_) ?_
  refine own_g (own_F T11 m 99 #[rv x, iv p1, iv tt, iv 6, rv b1, iv H3, iv 0, iv 2, iv i3, iv v3] []) (fun _ z_ => XS.iinc X11.here hx rfl (hb hby own_d8_96) rfl (l' := #[rv x, iv p1, iv tt, iv 6, rv b1, iv H3, iv 0, iv 2, iv i3, iv v3]) rfl z_) ?_
  refine own_g (own_F T11 m 101 #[rv x, iv p1, iv tt, iv 6, rv b1, iv H3, iv 0, iv 2, iv i3, iv v3] [(.ref b1)]) (fun _ z_ => XS.aload X11.here hx rfl (hb hby own_d8_99) rfl rfl z_) ?_
  refine own_g (own_F T11 m 103 #[rv x, iv p1, iv tt, iv 6, rv b1, iv H3, iv 0, iv 2, iv i3, iv v3] [(.int 2), (.ref b1)]) (fun _ z_ => XS.iload X11.here hx rfl (hb hby own_d8_101) rfl z_) ?_
  refine own_g (own_F T11 m 106 #[rv x, iv p1, iv tt, iv 6, rv b1, iv H3, iv 0, iv 3, iv i3, iv v3] [(.int 2), (.ref b1)]) (fun _ z_ => XS.iinc X11.here hx rfl (hb hby own_d8_103) rfl (l' := #[rv x, iv p1, iv tt, iv 6, rv b1, iv H3, iv 0, iv 3, iv i3, iv v3]) rfl z_) ?_
  refine own_g (own_F T11 m 108 #[rv x, iv p1, iv tt, iv 6, rv b1, iv H3, iv 0, iv 3, iv i3, iv v3] [(.int H3), (.int 2), (.ref b1)]) (fun _ z_ => XS.iload X11.here hx rfl (hb hby own_d8_106) rfl z_) ?_
  refine own_g (own_F T11 m 110 #[rv x, iv p1, iv tt, iv 6, rv b1, iv H3, iv 0, iv 3, iv i3, iv v3] [(.int 0), (.int H3), (.int 2), (.ref b1)]) (fun _ z_ => XS.iload X11.here hx rfl (hb hby own_d8_108) rfl z_) ?_
  refine own_g (own_F T11 m 111 #[rv x, iv p1, iv tt, iv 6, rv b1, iv H3, iv 0, iv 3, iv i3, iv v3] [(.int (H3 >>> ((0 : Int32) &&& 31))), (.int 2), (.ref b1)]) (fun _ z_ => XS.ishr X11.here hx rfl (hb hby own_d8_110) rfl z_) ?_
  have hB2 : (H3 >>> ((0 : Int32) &&& 31)) = y2 := own_sh (c_ishr H3 (0 : Int32) 0 (by decide)) hE3 (own_d3 _)
  rw [hB2]
  refine own_g (own_F T11 m 112 #[rv x, iv p1, iv tt, iv 6, rv b1, iv H3, iv 0, iv 3, iv i3, iv v3] [(.int (y2.toInt8.toInt32)), (.int 2), (.ref b1)]) (fun _ z_ => XS.i2b X11.here hx rfl (hb hby own_d8_111) rfl z_) ?_
  refine own_bast X11 hx hZ hh11 A9 2 rfl (by decide) (y2.toInt8.toInt32) (own_narB _) (hb hby own_d8_112) ?_
  intro T12 h12 X12 e12 W12 A12
  have N12 := Fr.snoc X12 N11 ge_b1
  obtain ⟨g12, A12, q12_0, q12_1, q12_2, q12_3⟩ : ∃ gq_ : Nat → Int32, own_A Z h12 b1 .byte 4 (fun q_ => .int (gq_ q_)) ∧ gq_ 0 = (y0.toInt8.toInt32) ∧ gq_ 1 = (y1.toInt8.toInt32) ∧ gq_ 2 = (y2.toInt8.toInt32) ∧ gq_ 3 = (0 : Int32) := ⟨_, A12, (show ite _ _ _ = _ from (if_neg (by decide)).trans q9_0), (show ite _ _ _ = _ from (if_neg (by decide)).trans q9_1), rfl, (show ite _ _ _ = _ from (if_neg (by decide)).trans q9_3)⟩
  show own_Ends p e below s _ _ _ (own_F T12 m 113 #[rv x, iv p1, iv tt, iv 6, rv b1, iv H3, iv 0, iv 3, iv i3, iv v3] [])
  refine own_g (own_F T12 m 115 #[rv x, iv p1, iv tt, iv 6, rv b1, iv H3, iv 0, iv 3, iv i3, iv v3] [(.int H3)]) (fun _ z_ => XS.iload X12.here hx rfl (hb hby own_d8_113) rfl z_) ?_
  refine own_g (own_F T12 m 116 #[rv x, iv p1, iv tt, iv 6, rv b1, iv H3, iv 0, iv 3, iv i3, iv v3] [(.int 1), (.int H3)]) (fun _ z_ => XS.iconst X12.here hx rfl (hb hby own_d8_115) z_) ?_
  refine own_g (own_F T12 m 118 #[rv x, iv p1, iv tt, iv 6, rv b1, iv H3, iv 0, iv 3, iv i3, iv v3] [(.int 0), (.int 1), (.int H3)]) (fun _ z_ => XS.iload X12.here hx rfl (hb hby own_d8_116) rfl z_) ?_
  refine own_g (own_F T12 m 119 #[rv x, iv p1, iv tt, iv 6, rv b1, iv H3, iv 0, iv 3, iv i3, iv v3] [(.int 1), (.int H3)]) (fun _ z_ => XS.ishl X12.here hx rfl (hb hby own_d8_118) rfl z_) ?_
  refine own_g (own_F T12 m 120 #[rv x, iv p1, iv tt, iv 6, rv b1, iv H3, iv 0, iv 3, iv i3, iv v3] [(.int 1), (.int 1), (.int H3)]) (fun _ z_ => XS.iconst X12.here hx rfl (hb hby own_d8_119) z_) ?_
  refine own_g (own_F T12 m 121 #[rv x, iv p1, iv tt, iv 6, rv b1, iv H3, iv 0, iv 3, iv i3, iv v3] [(.int 0), (.int H3)]) (fun _ z_ => XS.isub X12.here hx rfl (hb hby own_d8_120) rfl z_) ?_
  refine own_g (own_F T12 m 122 #[rv x, iv p1, iv tt, iv 6, rv b1, iv H3, iv 0, iv 3, iv i3, iv v3] [(.int (H3 &&& (0 : Int32)))]) (fun _ z_ => XS.iand X12.here hx rfl (hb hby own_d8_121) rfl z_) ?_
  have hG3 : (H3 &&& (0 : Int32)).toInt = 0 := own_mk (c_mask H3 (0 : Int32) 0 (by decide) (by decide)) hE3 (own_e3 _)
  generalize (H3 &&& (0 : Int32)) = G3 at hG3 ⊢
  refine own_g (own_F T12 m 124 #[rv x, iv p1, iv tt, iv 6, rv b1, iv G3, iv 0, iv 3, iv i3, iv v3] []) (fun _ z_ => XS.istore X12.here hx rfl (hb hby own_d8_122) rfl (l' := #[rv x, iv p1, iv tt, iv 6, rv b1, iv G3, iv 0, iv 3, iv i3, iv v3]) rfl z_) ?_
  refine own_g (own_F T12 m 127 #[rv x, iv p1, iv tt, iv 6, rv b1, iv G3, iv 0, iv 3, iv (i3 + (1 : Int32)), iv v3] []) (fun _ z_ => XS.iinc X12.here hx rfl (hb hby own_d8_124) rfl (l' := #[rv x, iv p1, iv tt, iv 6, rv b1, iv G3, iv 0, iv 3, iv (i3 + (1 : Int32)), iv v3]) rfl z_) ?_
  refine own_g (own_F T12 m 44 #[rv x, iv p1, iv tt, iv 6, rv b1, iv G3, iv 0, iv 3, iv (i3 + (1 : Int32)), iv v3] []) (fun _ z_ => XS.goto X12.here hx rfl (pc0 := 127) (pc' := 44) rfl (hb hby own_d8_127) (by decide) (by decide) z_) ?_
  have hi4 : (i3 + (1 : Int32)).toInt = ((P + 4 : Nat) : Int) := own_add1 hi3 (own_pl2 hP 4)
  generalize (i3 + (1 : Int32)) = i4 at hi4 ⊢
  refine own_g (own_F T12 m 46 #[rv x, iv p1, iv tt, iv 6, rv b1, iv G3, iv 0, iv 3, iv i4, iv v3] [(.int i4)]) (fun _ z_ => XS.iload X12.here hx rfl (hb hby own_d8_44) rfl z_) ?_
  refine own_g (own_F T12 m 47 #[rv x, iv p1, iv tt, iv 6, rv b1, iv G3, iv 0, iv 3, iv i4, iv v3] [(.int tt), (.int i4)]) (fun _ z_ => XS.iloadN X12.here hx rfl (hb hby own_d8_46) rfl z_) ?_
  refine own_g (own_F T12 m 50 #[rv x, iv p1, iv tt, iv 6, rv b1, iv G3, iv 0, iv 3, iv i4, iv v3] []) (fun _ z_ => XS.icmpNo X12.here hx rfl (hb hby own_d8_47) rfl (tlt (own_lt3 hi4 ht (Nat.add_lt_add_left (by decide) P))).2.1 z_) ?_
  refine own_g (own_F T12 m 51 #[rv x, iv p1, iv tt, iv 6, rv b1, iv G3, iv 0, iv 3, iv i4, iv v3] [(.ref x)]) (fun _ z_ => XS.aloadN X12.here hx rfl (hb hby own_d8_50) rfl rfl z_) ?_
  refine own_g (own_F T12 m 53 #[rv x, iv p1, iv tt, iv 6, rv b1, iv G3, iv 0, iv 3, iv i4, iv v3] [(.int i4), (.ref x)]) (fun _ z_ => XS.iload X12.here hx rfl (hb hby own_d8_51) rfl z_) ?_
  refine own_callV (C := "java/lang/String") (y := (⟨"java/lang/String", "charAt", "(I)C"⟩ : MethodName)) (b := x) X12 hx hZ hown (own_w hw 60) (own_w hw 61) (own_w hw 63) (own_w hw 62) (own_w hw 64) (own_w hw 7) (by decide) e12 ((((hES.ext E1).wr W6).wr W9).wr W12) (hM := own_charAt l Z a0 hw [] x i4 zc (P + 4) 11 f sv hsv h12 n0 (Nat.le_trans (Nat.le_trans (Nat.le_trans (Nat.le_trans Z0 E1.1) (Nat.le_of_eq W6.size.symm)) (Nat.le_of_eq W9.size.symm)) (Nat.le_of_eq W12.size.symm)) hi4 (own_pl hP 4) hzc (hS.keep (((((Keep.refl _ _).ext E1).wr W6 (Or.inr sz_b1)).wr W9 (Or.inr sz_b1)).wr W12 (Or.inr sz_b1)) all0) ((((S_cs.ext E1).wr W6).wr W9).wr W12) ((((S_sf.ext E1).wr W6).wr W9).wr W12) ((((S_ad.ext E1).wr W6).wr W9).wr W12) ((((S_hi.ext E1).wr W6).wr W9).wr W12) ((((S_lo.ext E1).wr W6).wr W9).wr W12)) (W := 0) (pc := 53) (Ls := #[rv x, iv p1, iv tt, iv 6, rv b1, iv G3, iv 0, iv 3, iv i4, iv v3]) (argsL := [(.int i4)]) (rest := []) (st0 := [(.int i4), (.ref x)]) (by rw [hml]; rfl) (lenOf own_pd13 rfl) rfl (Nat.le_of_eq rfl) (hb hby own_d8_53) (by decide) (by decide) (by decide) (by decide) ?_
  intro v13 T13 L13 X13 hQ13
  obtain ⟨rfl, Nq13, hh13⟩ := hQ13
  have N13 := Fr.app N12 Nq13
  show own_Ends p e below s _ _ _ (own_F T13 m 56 #[rv x, iv p1, iv tt, iv 6, rv b1, iv G3, iv 0, iv 3, iv i4, iv v3] [(.int (f (P + 4)))])
  refine own_callS (y := (⟨"com/example/claimgate/claimgate/jose/Base64Url", "value", "(C)I"⟩ : MethodName)) X13 hx hZ hown (own_w hw 87) (own_w hw 88) (own_w hw 36) (own_w hw 89) (by decide) hh13 (hM := own_val l Z a0 hw [] _ v4 h12 n0 (Nat.le_trans (Nat.le_trans (Nat.le_trans (Nat.le_trans Z0 E1.1) (Nat.le_of_eq W6.size.symm)) (Nat.le_of_eq W9.size.symm)) (Nat.le_of_eq W12.size.symm)) hs4) (W := 0) (pc := 56) (Ls := #[rv x, iv p1, iv tt, iv 6, rv b1, iv G3, iv 0, iv 3, iv i4, iv v3]) (argsL := [(.int (f (P + 4)))]) (rest := []) (st0 := [(.int (f (P + 4)))]) (by rw [hml]; rfl) (lenOf own_pd14 rfl) rfl (Nat.le_of_eq rfl) (hb hby own_d8_56) (by decide) (by decide) (by decide) (by decide) ?_
  intro v14 T14 L14 X14 hQ14
  obtain ⟨rfl, Nq14, hh14⟩ := hQ14
  have N14 := Fr.app N13 Nq14
  show own_Ends p e below s _ _ _ (own_F T14 m 59 #[rv x, iv p1, iv tt, iv 6, rv b1, iv G3, iv 0, iv 3, iv i4, iv v3] [(.int v4)])
  refine own_g (own_F T14 m 61 #[rv x, iv p1, iv tt, iv 6, rv b1, iv G3, iv 0, iv 3, iv i4, iv v4] []) (fun _ z_ => XS.istore X14.here hx rfl (hb hby own_d8_59) rfl (l' := #[rv x, iv p1, iv tt, iv 6, rv b1, iv G3, iv 0, iv 3, iv i4, iv v4]) rfl z_) ?_
  refine own_g (own_F T14 m 63 #[rv x, iv p1, iv tt, iv 6, rv b1, iv G3, iv 0, iv 3, iv i4, iv v4] [(.int v4)]) (fun _ z_ => XS.iload X14.here hx rfl (hb hby own_d8_61) rfl z_) ?_
  refine own_g (own_F T14 m 76 #[rv x, iv p1, iv tt, iv 6, rv b1, iv G3, iv 0, iv 3, iv i4, iv v4] []) (fun _ z_ => XS.ifYes X14.here hx rfl (pc0 := 63) (pc' := 76) rfl (hb hby own_d8_63) rfl ((if0 _ _).trans (flt (own_vn (own_sym_rng hs4).2.1)).2.1) (by decide) (by decide) z_) ?_
  refine own_g (own_F T14 m 78 #[rv x, iv p1, iv tt, iv 6, rv b1, iv G3, iv 0, iv 3, iv i4, iv v4] [(.int G3)]) (fun _ z_ => XS.iload X14.here hx rfl (hb hby own_d8_76) rfl z_) ?_
  refine own_g (own_F T14 m 80 #[rv x, iv p1, iv tt, iv 6, rv b1, iv G3, iv 0, iv 3, iv i4, iv v4] [(.int 6), (.int G3)]) (fun _ z_ => XS.bipush X14.here hx rfl (hb hby own_d8_78) z_) ?_
  refine own_g (own_F T14 m 81 #[rv x, iv p1, iv tt, iv 6, rv b1, iv G3, iv 0, iv 3, iv i4, iv v4] [(.int (G3 <<< ((6 : Int32) &&& 31)))]) (fun _ z_ => XS.ishl X14.here hx rfl (hb hby own_d8_80) rfl z_) ?_
  refine own_g (own_F T14 m 83 #[rv x, iv p1, iv tt, iv 6, rv b1, iv G3, iv 0, iv 3, iv i4, iv v4] [(.int v4), (.int (G3 <<< ((6 : Int32) &&& 31)))]) (fun _ z_ => XS.iload X14.here hx rfl (hb hby own_d8_81) rfl z_) ?_
  refine own_g (own_F T14 m 84 #[rv x, iv p1, iv tt, iv 6, rv b1, iv G3, iv 0, iv 3, iv i4, iv v4] [(.int ((G3 <<< ((6 : Int32) &&& 31)) ||| v4))]) (fun _ z_ => XS.ior X14.here hx rfl (hb hby own_d8_83) rfl z_) ?_
  have hH4 : ((G3 <<< ((6 : Int32) &&& 31)) ||| v4).toInt = G3.toInt * 64 + v4.toInt := own_h6 (own_rz hG3) (own_sym_rng hs4).2
  generalize ((G3 <<< ((6 : Int32) &&& 31)) ||| v4) = H4 at hH4 ⊢
  have hE4 : H4.toInt = y3.toInt / 4 := by rw [hH4, hG3, hr4]; exact Int.zero_add _
  refine own_g (own_F T14 m 86 #[rv x, iv p1, iv tt, iv 6, rv b1, iv H4, iv 0, iv 3, iv i4, iv v4] []) (fun _ z_ => XS.istore X14.here hx rfl (hb hby own_d8_84) rfl (l' := #[rv x, iv p1, iv tt, iv 6, rv b1, iv H4, iv 0, iv 3, iv i4, iv v4]) rfl z_) ?_
  refine own_g (own_F T14 m 89 #[rv x, iv p1, iv tt, iv 6, rv b1, iv H4, iv 6, iv 3, iv i4, iv v4] []) (fun _ z_ => XS.iinc X14.here hx rfl (hb hby own_d8_86) rfl (l' := #[rv x, iv p1, iv tt, iv 6, rv b1, iv H4, iv 6, iv 3, iv i4, iv v4]) rfl z_) ?_
  refine own_g (own_F T14 m 91 #[rv x, iv p1, iv tt, iv 6, rv b1, iv H4, iv 6, iv 3, iv i4, iv v4] [(.int 6)]) (fun _ z_ => XS.iload X14.here hx rfl (hb hby own_d8_89) rfl z_) ?_
  refine own_g (own_F T14 m 93 #[rv x, iv p1, iv tt, iv 6, rv b1, iv H4, iv 6, iv 3, iv i4, iv v4] [(.int 8), (.int 6)]) (fun _ z_ => XS.bipush X14.here hx rfl (hb hby own_d8_91) z_) ?_
  refine own_g (own_F T14 m 124 #[rv x, iv p1, iv tt, iv 6, rv b1, iv H4, iv 6, iv 3, iv i4, iv v4] []) (fun _ z_ => XS.icmpYes X14.here hx rfl (pc0 := 93) (pc' := 124) rfl (hb hby own_d8_93) rfl (tlt (by decide : ((6 : Int32) < (8 : Int32)))).1 (by decide) (by decide) z_) ?_
  refine own_g (own_F T14 m 127 #[rv x, iv p1, iv tt, iv 6, rv b1, iv H4, iv 6, iv 3, iv (i4 + (1 : Int32)), iv v4] []) (fun _ z_ => XS.iinc X14.here hx rfl (hb hby own_d8_124) rfl (l' := #[rv x, iv p1, iv tt, iv 6, rv b1, iv H4, iv 6, iv 3, iv (i4 + (1 : Int32)), iv v4]) rfl z_) ?_
  refine own_g (own_F T14 m 44 #[rv x, iv p1, iv tt, iv 6, rv b1, iv H4, iv 6, iv 3, iv (i4 + (1 : Int32)), iv v4] []) (fun _ z_ => XS.goto X14.here hx rfl (pc0 := 127) (pc' := 44) rfl (hb hby own_d8_127) (by decide) (by decide) z_) ?_
  have hi5 : (i4 + (1 : Int32)).toInt = ((P + 5 : Nat) : Int) := own_add1 hi4 (own_pl2 hP 5)
  generalize (i4 + (1 : Int32)) = i5 at hi5 ⊢
  refine own_g (own_F T14 m 46 #[rv x, iv p1, iv tt, iv 6, rv b1, iv H4, iv 6, iv 3, iv i5, iv v4] [(.int i5)]) (fun _ z_ => XS.iload X14.here hx rfl (hb hby own_d8_44) rfl z_) ?_
  refine own_g (own_F T14 m 47 #[rv x, iv p1, iv tt, iv 6, rv b1, iv H4, iv 6, iv 3, iv i5, iv v4] [(.int tt), (.int i5)]) (fun _ z_ => XS.iloadN X14.here hx rfl (hb hby own_d8_46) rfl z_) ?_
  refine own_g (own_F T14 m 50 #[rv x, iv p1, iv tt, iv 6, rv b1, iv H4, iv 6, iv 3, iv i5, iv v4] []) (fun _ z_ => XS.icmpNo X14.here hx rfl (hb hby own_d8_47) rfl (tlt (own_lt3 hi5 ht (Nat.add_lt_add_left (by decide) P))).2.1 z_) ?_
  refine own_g (own_F T14 m 51 #[rv x, iv p1, iv tt, iv 6, rv b1, iv H4, iv 6, iv 3, iv i5, iv v4] [(.ref x)]) (fun _ z_ => XS.aloadN X14.here hx rfl (hb hby own_d8_50) rfl rfl z_) ?_
  refine own_g (own_F T14 m 53 #[rv x, iv p1, iv tt, iv 6, rv b1, iv H4, iv 6, iv 3, iv i5, iv v4] [(.int i5), (.ref x)]) (fun _ z_ => XS.iload X14.here hx rfl (hb hby own_d8_51) rfl z_) ?_
  refine own_callV (C := "java/lang/String") (y := (⟨"java/lang/String", "charAt", "(I)C"⟩ : MethodName)) (b := x) X14 hx hZ hown (own_w hw 60) (own_w hw 61) (own_w hw 63) (own_w hw 62) (own_w hw 64) (own_w hw 7) (by decide) hh14 ((((hES.ext E1).wr W6).wr W9).wr W12) (hM := own_charAt l Z a0 hw [] x i5 zc (P + 5) 11 f sv hsv h12 n0 (Nat.le_trans (Nat.le_trans (Nat.le_trans (Nat.le_trans Z0 E1.1) (Nat.le_of_eq W6.size.symm)) (Nat.le_of_eq W9.size.symm)) (Nat.le_of_eq W12.size.symm)) hi5 (own_pl hP 5) hzc (hS.keep (((((Keep.refl _ _).ext E1).wr W6 (Or.inr sz_b1)).wr W9 (Or.inr sz_b1)).wr W12 (Or.inr sz_b1)) all0) ((((S_cs.ext E1).wr W6).wr W9).wr W12) ((((S_sf.ext E1).wr W6).wr W9).wr W12) ((((S_ad.ext E1).wr W6).wr W9).wr W12) ((((S_hi.ext E1).wr W6).wr W9).wr W12) ((((S_lo.ext E1).wr W6).wr W9).wr W12)) (W := 0) (pc := 53) (Ls := #[rv x, iv p1, iv tt, iv 6, rv b1, iv H4, iv 6, iv 3, iv i5, iv v4]) (argsL := [(.int i5)]) (rest := []) (st0 := [(.int i5), (.ref x)]) (by rw [hml]; rfl) (lenOf own_pd13 rfl) rfl (Nat.le_of_eq rfl) (hb hby own_d8_53) (by decide) (by decide) (by decide) (by decide) ?_
  intro v15 T15 L15 X15 hQ15
  obtain ⟨rfl, Nq15, hh15⟩ := hQ15
  have N15 := Fr.app N14 Nq15
  show own_Ends p e below s _ _ _ (own_F T15 m 56 #[rv x, iv p1, iv tt, iv 6, rv b1, iv H4, iv 6, iv 3, iv i5, iv v4] [(.int (f (P + 5)))])
  refine own_callS (y := (⟨"com/example/claimgate/claimgate/jose/Base64Url", "value", "(C)I"⟩ : MethodName)) X15 hx hZ hown (own_w hw 87) (own_w hw 88) (own_w hw 36) (own_w hw 89) (by decide) hh15 (hM := own_val l Z a0 hw [] _ v5 h12 n0 (Nat.le_trans (Nat.le_trans (Nat.le_trans (Nat.le_trans Z0 E1.1) (Nat.le_of_eq W6.size.symm)) (Nat.le_of_eq W9.size.symm)) (Nat.le_of_eq W12.size.symm)) hs5) (W := 0) (pc := 56) (Ls := #[rv x, iv p1, iv tt, iv 6, rv b1, iv H4, iv 6, iv 3, iv i5, iv v4]) (argsL := [(.int (f (P + 5)))]) (rest := []) (st0 := [(.int (f (P + 5)))]) (by rw [hml]; rfl) (lenOf own_pd14 rfl) rfl (Nat.le_of_eq rfl) (hb hby own_d8_56) (by decide) (by decide) (by decide) (by decide) ?_
  intro v16 T16 L16 X16 hQ16
  obtain ⟨rfl, Nq16, hh16⟩ := hQ16
  have N16 := Fr.app N15 Nq16
  show own_Ends p e below s _ _ _ (own_F T16 m 59 #[rv x, iv p1, iv tt, iv 6, rv b1, iv H4, iv 6, iv 3, iv i5, iv v4] [(.int v5)])
  refine own_g (own_F T16 m 61 #[rv x, iv p1, iv tt, iv 6, rv b1, iv H4, iv 6, iv 3, iv i5, iv v5] []) (fun _ z_ => XS.istore X16.here hx rfl (hb hby own_d8_59) rfl (l' := #[rv x, iv p1, iv tt, iv 6, rv b1, iv H4, iv 6, iv 3, iv i5, iv v5]) rfl z_) ?_
  refine own_g (own_F T16 m 63 #[rv x, iv p1, iv tt, iv 6, rv b1, iv H4, iv 6, iv 3, iv i5, iv v5] [(.int v5)]) (fun _ z_ => XS.iload X16.here hx rfl (hb hby own_d8_61) rfl z_) ?_
  refine own_g (own_F T16 m 76 #[rv x, iv p1, iv tt, iv 6, rv b1, iv H4, iv 6, iv 3, iv i5, iv v5] []) (fun _ z_ => XS.ifYes X16.here hx rfl (pc0 := 63) (pc' := 76) rfl (hb hby own_d8_63) rfl ((if0 _ _).trans (flt (own_vn (own_sym_rng hs5).2.1)).2.1) (by decide) (by decide) z_) ?_
  refine own_g (own_F T16 m 78 #[rv x, iv p1, iv tt, iv 6, rv b1, iv H4, iv 6, iv 3, iv i5, iv v5] [(.int H4)]) (fun _ z_ => XS.iload X16.here hx rfl (hb hby own_d8_76) rfl z_) ?_
  refine own_g (own_F T16 m 80 #[rv x, iv p1, iv tt, iv 6, rv b1, iv H4, iv 6, iv 3, iv i5, iv v5] [(.int 6), (.int H4)]) (fun _ z_ => XS.bipush X16.here hx rfl (hb hby own_d8_78) z_) ?_
  refine own_g (own_F T16 m 81 #[rv x, iv p1, iv tt, iv 6, rv b1, iv H4, iv 6, iv 3, iv i5, iv v5] [(.int (H4 <<< ((6 : Int32) &&& 31)))]) (fun _ z_ => XS.ishl X16.here hx rfl (hb hby own_d8_80) rfl z_) ?_
  refine own_g (own_F T16 m 83 #[rv x, iv p1, iv tt, iv 6, rv b1, iv H4, iv 6, iv 3, iv i5, iv v5] [(.int v5), (.int (H4 <<< ((6 : Int32) &&& 31)))]) (fun _ z_ => XS.iload X16.here hx rfl (hb hby own_d8_81) rfl z_) ?_
  refine own_g (own_F T16 m 84 #[rv x, iv p1, iv tt, iv 6, rv b1, iv H4, iv 6, iv 3, iv i5, iv v5] [(.int ((H4 <<< ((6 : Int32) &&& 31)) ||| v5))]) (fun _ z_ => XS.ior X16.here hx rfl (hb hby own_d8_83) rfl z_) ?_
  have hH5 : ((H4 <<< ((6 : Int32) &&& 31)) ||| v5).toInt = H4.toInt * 64 + v5.toInt := own_h6 (own_r4 hE4 hb3) (own_sym_rng hs5).2
  generalize ((H4 <<< ((6 : Int32) &&& 31)) ||| v5) = H5 at hH5 ⊢
  have hE5 : H5.toInt = y3.toInt * 16 + y4.toInt / 16 := by rw [hH5, hE4, hr5]; exact own_q1 hb3
  refine own_g (own_F T16 m 86 #[rv x, iv p1, iv tt, iv 6, rv b1, iv H5, iv 6, iv 3, iv i5, iv v5] []) (fun _ z_ => XS.istore X16.here hx rfl (hb hby own_d8_84) rfl (l' := #[rv x, iv p1, iv tt, iv 6, rv b1, iv H5, iv 6, iv 3, iv i5, iv v5]) rfl z_) ?_
  refine own_g (own_F T16 m 89 #[rv x, iv p1, iv tt, iv 6, rv b1, iv H5, iv 12, iv 3, iv i5, iv v5] []) (fun _ z_ => XS.iinc X16.here hx rfl (hb hby own_d8_86) rfl (l' := #[rv x, iv p1, iv tt, iv 6, rv b1, iv H5, iv 12, iv 3, iv i5, iv v5]) rfl z_) ?_
  refine own_g (own_F T16 m 91 #[rv x, iv p1, iv tt, iv 6, rv b1, iv H5, iv 12, iv 3, iv i5, iv v5] [(.int 12)]) (fun _ z_ => XS.iload X16.here hx rfl (hb hby own_d8_89) rfl z_) ?_
  refine own_g (own_F T16 m 93 #[rv x, iv p1, iv tt, iv 6, rv b1, iv H5, iv 12, iv 3, iv i5, iv v5] [(.int 8), (.int 12)]) (fun _ z_ => XS.bipush X16.here hx rfl (hb hby own_d8_91) z_) ?_
  refine own_g (own_F T16 m 96 #[rv x, iv p1, iv tt, iv 6, rv b1, iv H5, iv 12, iv 3, iv i5, iv v5] []) (fun _ z_ => XS.icmpNo X16.here hx rfl (hb hby own_d8_93) rfl (flt (by decide : ¬ ((12 : Int32) < (8 : Int32)))).1 z_) ?_
  refine own_g (own_F T16 m 99 #[rv x, iv p1, iv tt, iv 6, rv b1, iv H5, iv 4, iv 3, iv i5, iv v5] []) (fun _ z_ => XS.iinc X16.here hx rfl (hb hby own_d8_96) rfl (l' := #[rv x, iv p1, iv tt, iv 6, rv b1, iv H5, iv 4, iv 3, iv i5, iv v5]) rfl z_) ?_
  refine own_g (own_F T16 m 101 #[rv x, iv p1, iv tt, iv 6, rv b1, iv H5, iv 4, iv 3, iv i5, iv v5] [(.ref b1)]) (fun _ z_ => XS.aload X16.here hx rfl (hb hby own_d8_99) rfl rfl z_) ?_
  refine own_g (own_F T16 m 103 #[rv x, iv p1, iv tt, iv 6, rv b1, iv H5, iv 4, iv 3, iv i5, iv v5] [(.int 3), (.ref b1)]) (fun _ z_ => XS.iload X16.here hx rfl (hb hby own_d8_101) rfl z_) ?_
  refine own_g (own_F T16 m 106 #[rv x, iv p1, iv tt, iv 6, rv b1, iv H5, iv 4, iv 4, iv i5, iv v5] [(.int 3), (.ref b1)]) (fun _ z_ => XS.iinc X16.here hx rfl (hb hby own_d8_103) rfl (l' := #[rv x, iv p1, iv tt, iv 6, rv b1, iv H5, iv 4, iv 4, iv i5, iv v5]) rfl z_) ?_
  refine own_g (own_F T16 m 108 #[rv x, iv p1, iv tt, iv 6, rv b1, iv H5, iv 4, iv 4, iv i5, iv v5] [(.int H5), (.int 3), (.ref b1)]) (fun _ z_ => XS.iload X16.here hx rfl (hb hby own_d8_106) rfl z_) ?_
  refine own_g (own_F T16 m 110 #[rv x, iv p1, iv tt, iv 6, rv b1, iv H5, iv 4, iv 4, iv i5, iv v5] [(.int 4), (.int H5), (.int 3), (.ref b1)]) (fun _ z_ => XS.iload X16.here hx rfl (hb hby own_d8_108) rfl z_) ?_
  refine own_g (own_F T16 m 111 #[rv x, iv p1, iv tt, iv 6, rv b1, iv H5, iv 4, iv 4, iv i5, iv v5] [(.int (H5 >>> ((4 : Int32) &&& 31))), (.int 3), (.ref b1)]) (fun _ z_ => XS.ishr X16.here hx rfl (hb hby own_d8_110) rfl z_) ?_
  have hB3 : (H5 >>> ((4 : Int32) &&& 31)) = y3 := own_sh (c_ishr H5 (4 : Int32) 4 (by decide)) hE5 (own_d1 hb3 hb4)
  rw [hB3]
  refine own_g (own_F T16 m 112 #[rv x, iv p1, iv tt, iv 6, rv b1, iv H5, iv 4, iv 4, iv i5, iv v5] [(.int (y3.toInt8.toInt32)), (.int 3), (.ref b1)]) (fun _ z_ => XS.i2b X16.here hx rfl (hb hby own_d8_111) rfl z_) ?_
  refine own_bast X16 hx hZ hh16 A12 3 rfl (by decide) (y3.toInt8.toInt32) (own_narB _) (hb hby own_d8_112) ?_
  intro T17 h17 X17 e17 W17 A17
  have N17 := Fr.snoc X17 N16 ge_b1
  obtain ⟨g17, A17, q17_0, q17_1, q17_2, q17_3⟩ : ∃ gq_ : Nat → Int32, own_A Z h17 b1 .byte 4 (fun q_ => .int (gq_ q_)) ∧ gq_ 0 = (y0.toInt8.toInt32) ∧ gq_ 1 = (y1.toInt8.toInt32) ∧ gq_ 2 = (y2.toInt8.toInt32) ∧ gq_ 3 = (y3.toInt8.toInt32) := ⟨_, A17, (show ite _ _ _ = _ from (if_neg (by decide)).trans q12_0), (show ite _ _ _ = _ from (if_neg (by decide)).trans q12_1), (show ite _ _ _ = _ from (if_neg (by decide)).trans q12_2), rfl⟩
  show own_Ends p e below s _ _ _ (own_F T17 m 113 #[rv x, iv p1, iv tt, iv 6, rv b1, iv H5, iv 4, iv 4, iv i5, iv v5] [])
  refine own_g (own_F T17 m 115 #[rv x, iv p1, iv tt, iv 6, rv b1, iv H5, iv 4, iv 4, iv i5, iv v5] [(.int H5)]) (fun _ z_ => XS.iload X17.here hx rfl (hb hby own_d8_113) rfl z_) ?_
  refine own_g (own_F T17 m 116 #[rv x, iv p1, iv tt, iv 6, rv b1, iv H5, iv 4, iv 4, iv i5, iv v5] [(.int 1), (.int H5)]) (fun _ z_ => XS.iconst X17.here hx rfl (hb hby own_d8_115) z_) ?_
  refine own_g (own_F T17 m 118 #[rv x, iv p1, iv tt, iv 6, rv b1, iv H5, iv 4, iv 4, iv i5, iv v5] [(.int 4), (.int 1), (.int H5)]) (fun _ z_ => XS.iload X17.here hx rfl (hb hby own_d8_116) rfl z_) ?_
  refine own_g (own_F T17 m 119 #[rv x, iv p1, iv tt, iv 6, rv b1, iv H5, iv 4, iv 4, iv i5, iv v5] [(.int 16), (.int H5)]) (fun _ z_ => XS.ishl X17.here hx rfl (hb hby own_d8_118) rfl z_) ?_
  refine own_g (own_F T17 m 120 #[rv x, iv p1, iv tt, iv 6, rv b1, iv H5, iv 4, iv 4, iv i5, iv v5] [(.int 1), (.int 16), (.int H5)]) (fun _ z_ => XS.iconst X17.here hx rfl (hb hby own_d8_119) z_) ?_
  refine own_g (own_F T17 m 121 #[rv x, iv p1, iv tt, iv 6, rv b1, iv H5, iv 4, iv 4, iv i5, iv v5] [(.int 15), (.int H5)]) (fun _ z_ => XS.isub X17.here hx rfl (hb hby own_d8_120) rfl z_) ?_
  refine own_g (own_F T17 m 122 #[rv x, iv p1, iv tt, iv 6, rv b1, iv H5, iv 4, iv 4, iv i5, iv v5] [(.int (H5 &&& (15 : Int32)))]) (fun _ z_ => XS.iand X17.here hx rfl (hb hby own_d8_121) rfl z_) ?_
  have hG5 : (H5 &&& (15 : Int32)).toInt = y4.toInt / 16 := own_mk (c_mask H5 (15 : Int32) 4 (by decide) (by decide)) hE5 (own_e1 hb4)
  generalize (H5 &&& (15 : Int32)) = G5 at hG5 ⊢
  refine own_g (own_F T17 m 124 #[rv x, iv p1, iv tt, iv 6, rv b1, iv G5, iv 4, iv 4, iv i5, iv v5] []) (fun _ z_ => XS.istore X17.here hx rfl (hb hby own_d8_122) rfl (l' := #[rv x, iv p1, iv tt, iv 6, rv b1, iv G5, iv 4, iv 4, iv i5, iv v5]) rfl z_) ?_
  refine own_g (own_F T17 m 127 #[rv x, iv p1, iv tt, iv 6, rv b1, iv G5, iv 4, iv 4, iv (i5 + (1 : Int32)), iv v5] []) (fun _ z_ => XS.iinc X17.here hx rfl (hb hby own_d8_124) rfl (l' := #[rv x, iv p1, iv tt, iv 6, rv b1, iv G5, iv 4, iv 4, iv (i5 + (1 : Int32)), iv v5]) rfl z_) ?_
  refine own_g (own_F T17 m 44 #[rv x, iv p1, iv tt, iv 6, rv b1, iv G5, iv 4, iv 4, iv (i5 + (1 : Int32)), iv v5] []) (fun _ z_ => XS.goto X17.here hx rfl (pc0 := 127) (pc' := 44) rfl (hb hby own_d8_127) (by decide) (by decide) z_) ?_
  have hi6 : (i5 + (1 : Int32)).toInt = ((P + 6 : Nat) : Int) := own_add1 hi5 (own_pl2 hP 6)
  generalize (i5 + (1 : Int32)) = i6 at hi6 ⊢
  refine own_g (own_F T17 m 46 #[rv x, iv p1, iv tt, iv 6, rv b1, iv G5, iv 4, iv 4, iv i6, iv v5] [(.int i6)]) (fun _ z_ => XS.iload X17.here hx rfl (hb hby own_d8_44) rfl z_) ?_
  refine own_g (own_F T17 m 47 #[rv x, iv p1, iv tt, iv 6, rv b1, iv G5, iv 4, iv 4, iv i6, iv v5] [(.int tt), (.int i6)]) (fun _ z_ => XS.iloadN X17.here hx rfl (hb hby own_d8_46) rfl z_) ?_
  refine own_g (own_F T17 m 130 #[rv x, iv p1, iv tt, iv 6, rv b1, iv G5, iv 4, iv 4, iv i6, iv v5] []) (fun _ z_ => XS.icmpYes X17.here hx rfl (pc0 := 47) (pc' := 130) rfl (hb hby own_d8_47) rfl (flt (own_ge3 hi6 ht (Nat.le_refl _))).2.1 (by decide) (by decide) z_) ?_
  refine own_g (own_F T17 m 132 #[rv x, iv p1, iv tt, iv 6, rv b1, iv G5, iv 4, iv 4, iv i6, iv v5] [(.int G5)]) (fun _ z_ => XS.iload X17.here hx rfl (hb hby own_d8_130) rfl z_) ?_
  refine own_g (own_F T17 m 145 #[rv x, iv p1, iv tt, iv 6, rv b1, iv G5, iv 4, iv 4, iv i6, iv v5] []) (fun _ z_ => XS.ifYes X17.here hx rfl (pc0 := 132) (pc' := 145) rfl (hb hby own_d8_132) rfl ((if0 _ _).trans (teq (own_z0 (own_zz16 hG5 hb4))).1) (by decide) (by decide) z_) ?_
  refine own_g (own_F T17 m 147 #[rv x, iv p1, iv tt, iv 6, rv b1, iv G5, iv 4, iv 4, iv i6, iv v5] [(.ref b1)]) (fun _ z_ => XS.aload X17.here hx rfl (hb hby own_d8_145) rfl rfl z_) ?_
  refine own_ret (t := (.array .byte)) X17 hx hlk hrt rfl (Or.inr (Or.inr (Or.inr (Or.inr ⟨rfl, rfl, rfl⟩)))) (hb hby own_d8_147) (by decide) (by decide) ?_
  show ∃ (r : Addr) (g : Nat → Int32), _ ∧ Fr n0 _ ∧ Keep h0 T17.heap [] ∧ n0 ≤ r ∧ own_A Z T17.heap r .byte 4 (fun i => .int (g i)) ∧ _
  rw [e17]
  exact ⟨b1, _, rfl, N17, ((((((Keep.refl _ _).ext E1).wr W6 (Or.inr sz_b1)).wr W9 (Or.inr sz_b1)).wr W12 (Or.inr sz_b1)).wr W17 (Or.inr sz_b1)), ge_b1, A17, q17_0, q17_1, q17_2, q17_3⟩
set_option maxRecDepth 65536 in
set_option maxHeartbeats 40000000 in
theorem own_dec5 (l : Launch) (Z : State) (a0 : Array Value) (hw : ∀ d ∈ tables_1, d.before a0 Z = true) (ws : List Jvm.Cond) (x : Addr) (p1 tt zc : Int32) (P : Nat) (f : Nat → Int32) (sv : Value) (hsv : sv.isRef = true) (y0 y1 y2 y3 y4 v0 v1 v2 v3 v4 v5 v6 : Int32) (h0 : Heap) (n0 : Nat) (Z0 : n0 ≤ h0.size) (hp : p1.toInt = (P : Int)) (hP : P ≤ 3) (ht : tt.toInt = ((P + 7 : Nat) : Int)) (hzc : ¬ zc = (0 : Int32)) (hS : own_Str Z h0 x 11 f) (S_cs : Sta Z h0 "java/lang/String" "COMPACT_STRINGS" "Z" (.int zc)) (S_sf : Sta Z h0 "jdk/internal/util/Preconditions" "SIOOBE_FORMATTER" "Ljava/util/function/BiFunction;" sv) (S_ad : Sta Z h0 "java/lang/StringUTF16" "$assertionsDisabled" "Z" (.int (1 : Int32))) (S_hi : Sta Z h0 "java/lang/StringUTF16" "HI_BYTE_SHIFT" "I" (.int (0 : Int32))) (S_lo : Sta Z h0 "java/lang/StringUTF16" "LO_BYTE_SHIFT" "I" (.int (8 : Int32))) (hs0 : own_sym (f (P + 0)) v0) (hs1 : own_sym (f (P + 1)) v1) (hs2 : own_sym (f (P + 2)) v2) (hs3 : own_sym (f (P + 3)) v3) (hs4 : own_sym (f (P + 4)) v4) (hs5 : own_sym (f (P + 5)) v5) (hs6 : own_sym (f (P + 6)) v6) (hr0 : v0.toInt = y0.toInt / 4) (hr1 : v1.toInt = (y0.toInt % 4) * 16 + y1.toInt / 16) (hr2 : v2.toInt = (y1.toInt % 16) * 4 + y2.toInt / 64) (hr3 : v3.toInt = y2.toInt % 64) (hr4 : v4.toInt = y3.toInt / 4) (hr5 : v5.toInt = (y3.toInt % 4) * 16 + y4.toInt / 16) (hr6 : v6.toInt = (y4.toInt % 16) * 4) (hb0 : 0 ≤ y0.toInt ∧ y0.toInt ≤ 255) (hb1 : 0 ≤ y1.toInt ∧ y1.toInt ≤ 255) (hb2 : 0 ≤ y2.toInt ∧ y2.toInt ≤ 255) (hb3 : 0 ≤ y3.toInt ∧ y3.toInt ≤ 255) (hb4 : 0 ≤ y4.toInt ∧ y4.toInt ≤ 255) :
    own_Met l Z (⟨"com/example/claimgate/claimgate/jose/Base64Url", "decode", "(Ljava/lang/String;II)[B"⟩ : MethodName) prog_23_method_3_code 10 (some (.array .byte)) ws ({ frames := 5, cells := 1, slots := 5, locals := 66 } : Room) #[(.ref x), (.int p1), (.int tt)] h0 (fun v h L => ∃ (r : Addr) (g : Nat → Int32), v = some (.ref r) ∧ Fr n0 L ∧ Keep h0 h [] ∧ n0 ≤ r ∧ own_A Z h r .byte 5 (fun i => .int (g i)) ∧ g 0 = y0.toInt8.toInt32 ∧ g 1 = y1.toInt8.toInt32 ∧ g 2 = y2.toInt8.toInt32 ∧ g 3 = y3.toInt8.toInt32 ∧ g 4 = y4.toInt8.toInt32) := by
  refine own_body own_pn21 (fun m => mkF m 0 #[rv x, iv p1, iv tt, .unset, .unset, .unset, .unset, .unset, .unset, .unset] []) (fun m => own_ef_own_dec5 m x p1 tt) ?_
  intro p e s m below meth c T0 hx hby hml hlk hrt hZ hown hnm X0 e0
  have hown : s.vm.findClass "com/example/claimgate/claimgate/jose/Base64Url" = some m.cls := hown
  have N0 := Fr.nil n0
  have hES := own_Str.exa hS
  refine own_g (own_F T0 m 1 #[rv x, iv p1, iv tt, .unset, .unset, .unset, .unset, .unset, .unset, .unset] [(.int tt)]) (fun _ z_ => XS.iloadN X0.here hx rfl (hb hby own_d8_0) rfl z_) ?_
  refine own_g (own_F T0 m 2 #[rv x, iv p1, iv tt, .unset, .unset, .unset, .unset, .unset, .unset, .unset] [(.int p1), (.int tt)]) (fun _ z_ => XS.iloadN X0.here hx rfl (hb hby own_d8_1) rfl z_) ?_
  refine own_g (own_F T0 m 3 #[rv x, iv p1, iv tt, .unset, .unset, .unset, .unset, .unset, .unset, .unset] [(.int (tt - p1))]) (fun _ z_ => XS.isub X0.here hx rfl (hb hby own_d8_2) rfl z_) ?_
  rw [(own_len hp ht : (tt - p1) = (7 : Int32))]
  refine own_g (own_F T0 m 4 #[rv x, iv p1, iv tt, iv 7, .unset, .unset, .unset, .unset, .unset, .unset] []) (fun _ z_ => XS.istoreN X0.here hx rfl (hb hby own_d8_3) rfl (l' := #[rv x, iv p1, iv tt, iv 7, .unset, .unset, .unset, .unset, .unset, .unset]) rfl z_) ?_
  refine own_g (own_F T0 m 5 #[rv x, iv p1, iv tt, iv 7, .unset, .unset, .unset, .unset, .unset, .unset] [(.int 7)]) (fun _ z_ => XS.iloadN X0.here hx rfl (hb hby own_d8_4) rfl z_) ?_
  refine own_g (own_F T0 m 6 #[rv x, iv p1, iv tt, iv 7, .unset, .unset, .unset, .unset, .unset, .unset] [(.int 4), (.int 7)]) (fun _ z_ => XS.iconst X0.here hx rfl (hb hby own_d8_5) z_) ?_
  refine own_g (own_F T0 m 7 #[rv x, iv p1, iv tt, iv 7, .unset, .unset, .unset, .unset, .unset, .unset] [(.int 3)]) (fun _ z_ => iremM X0 hx rfl (hb hby own_d8_6) rfl (by decide) z_) ?_
  refine own_g (own_F T0 m 8 #[rv x, iv p1, iv tt, iv 7, .unset, .unset, .unset, .unset, .unset, .unset] [(.int 1), (.int 3)]) (fun _ z_ => XS.iconst X0.here hx rfl (hb hby own_d8_7) z_) ?_
  refine own_g (own_F T0 m 21 #[rv x, iv p1, iv tt, iv 7, .unset, .unset, .unset, .unset, .unset, .unset] []) (fun _ z_ => XS.icmpYes X0.here hx rfl (pc0 := 8) (pc' := 21) rfl (hb hby own_d8_8) rfl (feq (by decide : ¬ ((3 : Int32) = (1 : Int32)))).2 (by decide) (by decide) z_) ?_
  refine own_g (own_F T0 m 22 #[rv x, iv p1, iv tt, iv 7, .unset, .unset, .unset, .unset, .unset, .unset] [(.int 7)]) (fun _ z_ => XS.iloadN X0.here hx rfl (hb hby own_d8_21) rfl z_) ?_
  refine own_g (own_F T0 m 24 #[rv x, iv p1, iv tt, iv 7, .unset, .unset, .unset, .unset, .unset, .unset] [(.int 6), (.int 7)]) (fun _ z_ => XS.bipush X0.here hx rfl (hb hby own_d8_22) z_) ?_
  refine own_g (own_F T0 m 25 #[rv x, iv p1, iv tt, iv 7, .unset, .unset, .unset, .unset, .unset, .unset] [(.int 42)]) (fun _ z_ => XS.imul X0.here hx rfl (hb hby own_d8_24) rfl z_) ?_
  refine own_g (own_F T0 m 27 #[rv x, iv p1, iv tt, iv 7, .unset, .unset, .unset, .unset, .unset, .unset] [(.int 8), (.int 42)]) (fun _ z_ => XS.bipush X0.here hx rfl (hb hby own_d8_25) z_) ?_
  refine own_g (own_F T0 m 28 #[rv x, iv p1, iv tt, iv 7, .unset, .unset, .unset, .unset, .unset, .unset] [(.int 5)]) (fun _ z_ => XS.idiv X0.here hx rfl (hb hby own_d8_27) rfl (by decide) z_) ?_
  refine own_newA X0 hx hZ .byte rfl (own_w hw 23) e0 (hb hby own_d8_28) 5 rfl 5 (by decide) (by decide) (by decide) (by decide) ?_
  intro T1 h1 b1 X1 e1 E1 g1 A1
  have sz_b1 : h0.size ≤ b1 := Nat.le_trans (Nat.le_refl h0.size) (Nat.le_of_eq g1.symm)
  have ge_b1 : n0 ≤ b1 := Nat.le_trans Z0 (Nat.le_of_eq g1.symm)
  have ne_x_b1 : x ≠ b1 := Nat.ne_of_lt (Nat.lt_of_lt_of_le hES.lt (Nat.le_of_eq g1.symm))
  have A1 : own_A Z h1 b1 .byte 5 (fun q_ => .int ((fun _ => (0 : Int32)) q_)) := A1
  show own_Ends p e below s _ _ _ (own_F T1 m 30 #[rv x, iv p1, iv tt, iv 7, .unset, .unset, .unset, .unset, .unset, .unset] [(.ref b1)])
  refine own_g (own_F T1 m 32 #[rv x, iv p1, iv tt, iv 7, rv b1, .unset, .unset, .unset, .unset, .unset] []) (fun _ z_ => XS.astore X1.here hx rfl (hb hby own_d8_30) rfl rfl (l' := #[rv x, iv p1, iv tt, iv 7, rv b1, .unset, .unset, .unset, .unset, .unset]) rfl z_) ?_
  refine own_g (own_F T1 m 33 #[rv x, iv p1, iv tt, iv 7, rv b1, .unset, .unset, .unset, .unset, .unset] [(.int 0)]) (fun _ z_ => XS.iconst X1.here hx rfl (hb hby own_d8_32) z_) ?_
  refine own_g (own_F T1 m 35 #[rv x, iv p1, iv tt, iv 7, rv b1, iv 0, .unset, .unset, .unset, .unset] []) (fun _ z_ => XS.istore X1.here hx rfl (hb hby own_d8_33) rfl (l' := #[rv x, iv p1, iv tt, iv 7, rv b1, iv 0, .unset, .unset, .unset, .unset]) rfl z_) ?_
  refine own_g (own_F T1 m 36 #[rv x, iv p1, iv tt, iv 7, rv b1, iv 0, .unset, .unset, .unset, .unset] [(.int 0)]) (fun _ z_ => XS.iconst X1.here hx rfl (hb hby own_d8_35) z_) ?_
  refine own_g (own_F T1 m 38 #[rv x, iv p1, iv tt, iv 7, rv b1, iv 0, iv 0, .unset, .unset, .unset] []) (fun _ z_ => XS.istore X1.here hx rfl (hb hby own_d8_36) rfl (l' := #[rv x, iv p1, iv tt, iv 7, rv b1, iv 0, iv 0, .unset, .unset, .unset]) rfl z_) ?_
  refine own_g (own_F T1 m 39 #[rv x, iv p1, iv tt, iv 7, rv b1, iv 0, iv 0, .unset, .unset, .unset] [(.int 0)]) (fun _ z_ => XS.iconst X1.here hx rfl (hb hby own_d8_38) z_) ?_
  refine own_g (own_F T1 m 41 #[rv x, iv p1, iv tt, iv 7, rv b1, iv 0, iv 0, iv 0, .unset, .unset] []) (fun _ z_ => XS.istore X1.here hx rfl (hb hby own_d8_39) rfl (l' := #[rv x, iv p1, iv tt, iv 7, rv b1, iv 0, iv 0, iv 0, .unset, .unset]) rfl z_) ?_
  refine own_g (own_F T1 m 42 #[rv x, iv p1, iv tt, iv 7, rv b1, iv 0, iv 0, iv 0, .unset, .unset] [(.int p1)]) (fun _ z_ => XS.iloadN X1.here hx rfl (hb hby own_d8_41) rfl z_) ?_
  refine own_g (own_F T1 m 44 #[rv x, iv p1, iv tt, iv 7, rv b1, iv 0, iv 0, iv 0, iv p1, .unset] []) (fun _ z_ => XS.istore X1.here hx rfl (hb hby own_d8_42) rfl (l' := #[rv x, iv p1, iv tt, iv 7, rv b1, iv 0, iv 0, iv 0, iv p1, .unset]) rfl z_) ?_
  have hi0 : p1.toInt = ((P + 0 : Nat) : Int) := hp
  refine own_g (own_F T1 m 46 #[rv x, iv p1, iv tt, iv 7, rv b1, iv 0, iv 0, iv 0, iv p1, .unset] [(.int p1)]) (fun _ z_ => XS.iload X1.here hx rfl (hb hby own_d8_44) rfl z_) ?_
  refine own_g (own_F T1 m 47 #[rv x, iv p1, iv tt, iv 7, rv b1, iv 0, iv 0, iv 0, iv p1, .unset] [(.int tt), (.int p1)]) (fun _ z_ => XS.iloadN X1.here hx rfl (hb hby own_d8_46) rfl z_) ?_
  refine own_g (own_F T1 m 50 #[rv x, iv p1, iv tt, iv 7, rv b1, iv 0, iv 0, iv 0, iv p1, .unset] []) (fun _ z_ => XS.icmpNo X1.here hx rfl (hb hby own_d8_47) rfl (tlt (own_lt3 hi0 ht (Nat.add_lt_add_left (by decide) P))).2.1 z_) ?_
  refine own_g (own_F T1 m 51 #[rv x, iv p1, iv tt, iv 7, rv b1, iv 0, iv 0, iv 0, iv p1, .unset] [(.ref x)]) (fun _ z_ => XS.aloadN X1.here hx rfl (hb hby own_d8_50) rfl rfl z_) ?_
  refine own_g (own_F T1 m 53 #[rv x, iv p1, iv tt, iv 7, rv b1, iv 0, iv 0, iv 0, iv p1, .unset] [(.int p1), (.ref x)]) (fun _ z_ => XS.iload X1.here hx rfl (hb hby own_d8_51) rfl z_) ?_
  refine own_callV (C := "java/lang/String") (y := (⟨"java/lang/String", "charAt", "(I)C"⟩ : MethodName)) (b := x) X1 hx hZ hown (own_w hw 60) (own_w hw 61) (own_w hw 63) (own_w hw 62) (own_w hw 64) (own_w hw 7) (by decide) e1 (hES.ext E1) (hM := own_charAt l Z a0 hw [] x p1 zc (P + 0) 11 f sv hsv h1 n0 (Nat.le_trans Z0 E1.1) hi0 (own_pl hP 0) hzc (hS.keep ((Keep.refl _ _).ext E1) all0) (S_cs.ext E1) (S_sf.ext E1) (S_ad.ext E1) (S_hi.ext E1) (S_lo.ext E1)) (W := 0) (pc := 53) (Ls := #[rv x, iv p1, iv tt, iv 7, rv b1, iv 0, iv 0, iv 0, iv p1, .unset]) (argsL := [(.int p1)]) (rest := []) (st0 := [(.int p1), (.ref x)]) (by rw [hml]; rfl) (lenOf own_pd13 rfl) rfl (Nat.le_of_eq rfl) (hb hby own_d8_53) (by decide) (by decide) (by decide) (by decide) ?_
  intro v2 T2 L2 X2 hQ2
  obtain ⟨rfl, Nq2, hh2⟩ := hQ2
  have N2 := Fr.app N0 Nq2
  show own_Ends p e below s _ _ _ (own_F T2 m 56 #[rv x, iv p1, iv tt, iv 7, rv b1, iv 0, iv 0, iv 0, iv p1, .unset] [(.int (f (P + 0)))])
  refine own_callS (y := (⟨"com/example/claimgate/claimgate/jose/Base64Url", "value", "(C)I"⟩ : MethodName)) X2 hx hZ hown (own_w hw 87) (own_w hw 88) (own_w hw 36) (own_w hw 89) (by decide) hh2 (hM := own_val l Z a0 hw [] _ v0 h1 n0 (Nat.le_trans Z0 E1.1) hs0) (W := 0) (pc := 56) (Ls := #[rv x, iv p1, iv tt, iv 7, rv b1, iv 0, iv 0, iv 0, iv p1, .unset]) (argsL := [(.int (f (P + 0)))]) (rest := []) (st0 := [(.int (f (P + 0)))]) (by rw [hml]; rfl) (lenOf own_pd14 rfl) rfl (Nat.le_of_eq rfl) (hb hby own_d8_56) (by decide) (by decide) (by decide) (by decide) ?_
  intro v3 T3 L3 X3 hQ3
  obtain ⟨rfl, Nq3, hh3⟩ := hQ3
  have N3 := Fr.app N2 Nq3
  show own_Ends p e below s _ _ _ (own_F T3 m 59 #[rv x, iv p1, iv tt, iv 7, rv b1, iv 0, iv 0, iv 0, iv p1, .unset] [(.int v0)])
  refine own_g (own_F T3 m 61 #[rv x, iv p1, iv tt, iv 7, rv b1, iv 0, iv 0, iv 0, iv p1, iv v0] []) (fun _ z_ => XS.istore X3.here hx rfl (hb hby own_d8_59) rfl (l' := #[rv x, iv p1, iv tt, iv 7, rv b1, iv 0, iv 0, iv 0, iv p1, iv v0]) rfl z_) ?_
  refine own_g (own_F T3 m 63 #[rv x, iv p1, iv tt, iv 7, rv b1, iv 0, iv 0, iv 0, iv p1, iv v0] [(.int v0)]) (fun _ z_ => XS.iload X3.here hx rfl (hb hby own_d8_61) rfl z_) ?_
  refine own_g (own_F T3 m 76 #[rv x, iv p1, iv tt, iv 7, rv b1, iv 0, iv 0, iv 0, iv p1, iv v0] []) (fun _ z_ => XS.ifYes X3.here hx rfl (pc0 := 63) (pc' := 76) rfl (hb hby own_d8_63) rfl ((if0 _ _).trans (flt (own_vn (own_sym_rng hs0).2.1)).2.1) (by decide) (by decide) z_) ?_
  refine own_g (own_F T3 m 78 #[rv x, iv p1, iv tt, iv 7, rv b1, iv 0, iv 0, iv 0, iv p1, iv v0] [(.int 0)]) (fun _ z_ => XS.iload X3.here hx rfl (hb hby own_d8_76) rfl z_) ?_
  refine own_g (own_F T3 m 80 #[rv x, iv p1, iv tt, iv 7, rv b1, iv 0, iv 0, iv 0, iv p1, iv v0] [(.int 6), (.int 0)]) (fun _ z_ => XS.bipush X3.here hx rfl (hb hby own_d8_78) z_) ?_
  refine own_g (own_F T3 m 81 #[rv x, iv p1, iv tt, iv 7, rv b1, iv 0, iv 0, iv 0, iv p1, iv v0] [(.int ((0 : Int32) <<< ((6 : Int32) &&& 31)))]) (fun _ z_ => XS.ishl X3.here hx rfl (hb hby own_d8_80) rfl z_) ?_
  refine own_g (own_F T3 m 83 #[rv x, iv p1, iv tt, iv 7, rv b1, iv 0, iv 0, iv 0, iv p1, iv v0] [(.int v0), (.int ((0 : Int32) <<< ((6 : Int32) &&& 31)))]) (fun _ z_ => XS.iload X3.here hx rfl (hb hby own_d8_81) rfl z_) ?_
  refine own_g (own_F T3 m 84 #[rv x, iv p1, iv tt, iv 7, rv b1, iv 0, iv 0, iv 0, iv p1, iv v0] [(.int (((0 : Int32) <<< ((6 : Int32) &&& 31)) ||| v0))]) (fun _ z_ => XS.ior X3.here hx rfl (hb hby own_d8_83) rfl z_) ?_
  have hH0 : (((0 : Int32) <<< ((6 : Int32) &&& 31)) ||| v0).toInt = (0 : Int32).toInt * 64 + v0.toInt := own_h6 (by decide) (own_sym_rng hs0).2
  generalize (((0 : Int32) <<< ((6 : Int32) &&& 31)) ||| v0) = H0 at hH0 ⊢
  have hE0 : H0.toInt = y0.toInt / 4 := by rw [hH0, (show (0 : Int32).toInt = 0 from by decide), hr0]; exact Int.zero_add _
  refine own_g (own_F T3 m 86 #[rv x, iv p1, iv tt, iv 7, rv b1, iv H0, iv 0, iv 0, iv p1, iv v0] []) (fun _ z_ => XS.istore X3.here hx rfl (hb hby own_d8_84) rfl (l' := #[rv x, iv p1, iv tt, iv 7, rv b1, iv H0, iv 0, iv 0, iv p1, iv v0]) rfl z_) ?_
  refine own_g (own_F T3 m 89 #[rv x, iv p1, iv tt, iv 7, rv b1, iv H0, iv 6, iv 0, iv p1, iv v0] []) (fun _ z_ => XS.iinc X3.here hx rfl (hb hby own_d8_86) rfl (l' := #[rv x, iv p1, iv tt, iv 7, rv b1, iv H0, iv 6, iv 0, iv p1, iv v0]) rfl z_) ?_
  refine own_g (own_F T3 m 91 #[rv x, iv p1, iv tt, iv 7, rv b1, iv H0, iv 6, iv 0, iv p1, iv v0] [(.int 6)]) (fun _ z_ => XS.iload X3.here hx rfl (hb hby own_d8_89) rfl z_) ?_
  refine own_g (own_F T3 m 93 #[rv x, iv p1, iv tt, iv 7, rv b1, iv H0, iv 6, iv 0, iv p1, iv v0] [(.int 8), (.int 6)]) (fun _ z_ => XS.bipush X3.here hx rfl (hb hby own_d8_91) z_) ?_
  refine own_g (own_F T3 m 124 #[rv x, iv p1, iv tt, iv 7, rv b1, iv H0, iv 6, iv 0, iv p1, iv v0] []) (fun _ z_ => XS.icmpYes X3.here hx rfl (pc0 := 93) (pc' := 124) rfl (hb hby own_d8_93) rfl (tlt (by decide : ((6 : Int32) < (8 : Int32)))).1 (by decide) (by decide) z_) ?_
  refine own_g (own_F T3 m 127 #[rv x, iv p1, iv tt, iv 7, rv b1, iv H0, iv 6, iv 0, iv (p1 + (1 : Int32)), iv v0] []) (fun _ z_ => XS.iinc X3.here hx rfl (hb hby own_d8_124) rfl (l' := #[rv x, iv p1, iv tt, iv 7, rv b1, iv H0, iv 6, iv 0, iv (p1 + (1 : Int32)), iv v0]) rfl z_) ?_
  refine own_g (own_F T3 m 44 #[rv x, iv p1, iv tt, iv 7, rv b1, iv H0, iv 6, iv 0, iv (p1 + (1 : Int32)), iv v0] []) (fun _ z_ => XS.goto X3.here hx rfl (pc0 := 127) (pc' := 44) rfl (hb hby own_d8_127) (by decide) (by decide) z_) ?_
  have hi1 : (p1 + (1 : Int32)).toInt = ((P + 1 : Nat) : Int) := own_add1 hi0 (own_pl2 hP 1)
  generalize (p1 + (1 : Int32)) = i1 at hi1 ⊢
  refine own_g (own_F T3 m 46 #[rv x, iv p1, iv tt, iv 7, rv b1, iv H0, iv 6, iv 0, iv i1, iv v0] [(.int i1)]) (fun _ z_ => XS.iload X3.here hx rfl (hb hby own_d8_44) rfl z_) ?_
  refine own_g (own_F T3 m 47 #[rv x, iv p1, iv tt, iv 7, rv b1, iv H0, iv 6, iv 0, iv i1, iv v0] [(.int tt), (.int i1)]) (fun _ z_ => XS.iloadN X3.here hx rfl (hb hby own_d8_46) rfl z_) ?_
  refine own_g (own_F T3 m 50 #[rv x, iv p1, iv tt, iv 7, rv b1, iv H0, iv 6, iv 0, iv i1, iv v0] []) (fun _ z_ => XS.icmpNo X3.here hx rfl (hb hby own_d8_47) rfl (tlt (own_lt3 hi1 ht (Nat.add_lt_add_left (by decide) P))).2.1 z_) ?_
  refine own_g (own_F T3 m 51 #[rv x, iv p1, iv tt, iv 7, rv b1, iv H0, iv 6, iv 0, iv i1, iv v0] [(.ref x)]) (fun _ z_ => XS.aloadN X3.here hx rfl (hb hby own_d8_50) rfl rfl z_) ?_
  refine own_g (own_F T3 m 53 #[rv x, iv p1, iv tt, iv 7, rv b1, iv H0, iv 6, iv 0, iv i1, iv v0] [(.int i1), (.ref x)]) (fun _ z_ => XS.iload X3.here hx rfl (hb hby own_d8_51) rfl z_) ?_
  refine own_callV (C := "java/lang/String") (y := (⟨"java/lang/String", "charAt", "(I)C"⟩ : MethodName)) (b := x) X3 hx hZ hown (own_w hw 60) (own_w hw 61) (own_w hw 63) (own_w hw 62) (own_w hw 64) (own_w hw 7) (by decide) hh3 (hES.ext E1) (hM := own_charAt l Z a0 hw [] x i1 zc (P + 1) 11 f sv hsv h1 n0 (Nat.le_trans Z0 E1.1) hi1 (own_pl hP 1) hzc (hS.keep ((Keep.refl _ _).ext E1) all0) (S_cs.ext E1) (S_sf.ext E1) (S_ad.ext E1) (S_hi.ext E1) (S_lo.ext E1)) (W := 0) (pc := 53) (Ls := #[rv x, iv p1, iv tt, iv 7, rv b1, iv H0, iv 6, iv 0, iv i1, iv v0]) (argsL := [(.int i1)]) (rest := []) (st0 := [(.int i1), (.ref x)]) (by rw [hml]; rfl) (lenOf own_pd13 rfl) rfl (Nat.le_of_eq rfl) (hb hby own_d8_53) (by decide) (by decide) (by decide) (by decide) ?_
  intro v4 T4 L4 X4 hQ4
  obtain ⟨rfl, Nq4, hh4⟩ := hQ4
  have N4 := Fr.app N3 Nq4
  show own_Ends p e below s _ _ _ (own_F T4 m 56 #[rv x, iv p1, iv tt, iv 7, rv b1, iv H0, iv 6, iv 0, iv i1, iv v0] [(.int (f (P + 1)))])
  refine own_callS (y := (⟨"com/example/claimgate/claimgate/jose/Base64Url", "value", "(C)I"⟩ : MethodName)) X4 hx hZ hown (own_w hw 87) (own_w hw 88) (own_w hw 36) (own_w hw 89) (by decide) hh4 (hM := own_val l Z a0 hw [] _ v1 h1 n0 (Nat.le_trans Z0 E1.1) hs1) (W := 0) (pc := 56) (Ls := #[rv x, iv p1, iv tt, iv 7, rv b1, iv H0, iv 6, iv 0, iv i1, iv v0]) (argsL := [(.int (f (P + 1)))]) (rest := []) (st0 := [(.int (f (P + 1)))]) (by rw [hml]; rfl) (lenOf own_pd14 rfl) rfl (Nat.le_of_eq rfl) (hb hby own_d8_56) (by decide) (by decide) (by decide) (by decide) ?_
  intro v5 T5 L5 X5 hQ5
  obtain ⟨rfl, Nq5, hh5⟩ := hQ5
  have N5 := Fr.app N4 Nq5
  show own_Ends p e below s _ _ _ (own_F T5 m 59 #[rv x, iv p1, iv tt, iv 7, rv b1, iv H0, iv 6, iv 0, iv i1, iv v0] [(.int v1)])
  refine own_g (own_F T5 m 61 #[rv x, iv p1, iv tt, iv 7, rv b1, iv H0, iv 6, iv 0, iv i1, iv v1] []) (fun _ z_ => XS.istore X5.here hx rfl (hb hby own_d8_59) rfl (l' := #[rv x, iv p1, iv tt, iv 7, rv b1, iv H0, iv 6, iv 0, iv i1, iv v1]) rfl z_) ?_
  refine own_g (own_F T5 m 63 #[rv x, iv p1, iv tt, iv 7, rv b1, iv H0, iv 6, iv 0, iv i1, iv v1] [(.int v1)]) (fun _ z_ => XS.iload X5.here hx rfl (hb hby own_d8_61) rfl z_) ?_
  refine own_g (own_F T5 m 76 #[rv x, iv p1, iv tt, iv 7, rv b1, iv H0, iv 6, iv 0, iv i1, iv v1] []) (fun _ z_ => XS.ifYes X5.here hx rfl (pc0 := 63) (pc' := 76) rfl (hb hby own_d8_63) rfl ((if0 _ _).trans (flt (own_vn (own_sym_rng hs1).2.1)).2.1) (by decide) (by decide) z_) ?_
  refine own_g (own_F T5 m 78 #[rv x, iv p1, iv tt, iv 7, rv b1, iv H0, iv 6, iv 0, iv i1, iv v1] [(.int H0)]) (fun _ z_ => XS.iload X5.here hx rfl (hb hby own_d8_76) rfl z_) ?_
  refine own_g (own_F T5 m 80 #[rv x, iv p1, iv tt, iv 7, rv b1, iv H0, iv 6, iv 0, iv i1, iv v1] [(.int 6), (.int H0)]) (fun _ z_ => XS.bipush X5.here hx rfl (hb hby own_d8_78) z_) ?_
  refine own_g (own_F T5 m 81 #[rv x, iv p1, iv tt, iv 7, rv b1, iv H0, iv 6, iv 0, iv i1, iv v1] [(.int (H0 <<< ((6 : Int32) &&& 31)))]) (fun _ z_ => XS.ishl X5.here hx rfl (hb hby own_d8_80) rfl z_) ?_
  refine own_g (own_F T5 m 83 #[rv x, iv p1, iv tt, iv 7, rv b1, iv H0, iv 6, iv 0, iv i1, iv v1] [(.int v1), (.int (H0 <<< ((6 : Int32) &&& 31)))]) (fun _ z_ => XS.iload X5.here hx rfl (hb hby own_d8_81) rfl z_) ?_
  refine own_g (own_F T5 m 84 #[rv x, iv p1, iv tt, iv 7, rv b1, iv H0, iv 6, iv 0, iv i1, iv v1] [(.int ((H0 <<< ((6 : Int32) &&& 31)) ||| v1))]) (fun _ z_ => XS.ior X5.here hx rfl (hb hby own_d8_83) rfl z_) ?_
  have hH1 : ((H0 <<< ((6 : Int32) &&& 31)) ||| v1).toInt = H0.toInt * 64 + v1.toInt := own_h6 (own_r4 hE0 hb0) (own_sym_rng hs1).2
  generalize ((H0 <<< ((6 : Int32) &&& 31)) ||| v1) = H1 at hH1 ⊢
  have hE1 : H1.toInt = y0.toInt * 16 + y1.toInt / 16 := by rw [hH1, hE0, hr1]; exact own_q1 hb0
  refine own_g (own_F T5 m 86 #[rv x, iv p1, iv tt, iv 7, rv b1, iv H1, iv 6, iv 0, iv i1, iv v1] []) (fun _ z_ => XS.istore X5.here hx rfl (hb hby own_d8_84) rfl (l' := #[rv x, iv p1, iv tt, iv 7, rv b1, iv H1, iv 6, iv 0, iv i1, iv v1]) rfl z_) ?_
  refine own_g (own_F T5 m 89 #[rv x, iv p1, iv tt, iv 7, rv b1, iv H1, iv 12, iv 0, iv i1, iv v1] []) (fun _ z_ => XS.iinc X5.here hx rfl (hb hby own_d8_86) rfl (l' := #[rv x, iv p1, iv tt, iv 7, rv b1, iv H1, iv 12, iv 0, iv i1, iv v1]) rfl z_) ?_
  refine own_g (own_F T5 m 91 #[rv x, iv p1, iv tt, iv 7, rv b1, iv H1, iv 12, iv 0, iv i1, iv v1] [(.int 12)]) (fun _ z_ => XS.iload X5.here hx rfl (hb hby own_d8_89) rfl z_) ?_
  refine own_g (own_F T5 m 93 #[rv x, iv p1, iv tt, iv 7, rv b1, iv H1, iv 12, iv 0, iv i1, iv v1] [(.int 8), (.int 12)]) (fun _ z_ => XS.bipush X5.here hx rfl (hb hby own_d8_91) z_) ?_
  refine own_g (own_F T5 m 96 #[rv x, iv p1, iv tt, iv 7, rv b1, iv H1, iv 12, iv 0, iv i1, iv v1] []) (fun _ z_ => XS.icmpNo X5.here hx rfl (hb hby own_d8_93) rfl (flt (by decide : ¬ ((12 : Int32) < (8 : Int32)))).1 z_) ?_
  refine own_g (own_F T5 m 99 #[rv x, iv p1, iv tt, iv 7, rv b1, iv H1, iv 4, iv 0, iv i1, iv v1] []) (fun _ z_ => XS.iinc X5.here hx rfl (hb hby own_d8_96) rfl (l' := #[rv x, iv p1, iv tt, iv 7, rv b1, iv H1, iv 4, iv 0, iv i1, iv v1]) rfl z_) ?_
  refine own_g (own_F T5 m 101 #[rv x, iv p1, iv tt, iv 7, rv b1, iv H1, iv 4, iv 0, iv i1, iv v1] [(.ref b1)]) (fun _ z_ => XS.aload X5.here hx rfl (hb hby own_d8_99) rfl rfl z_) ?_
  refine own_g (own_F T5 m 103 #[rv x, iv p1, iv tt, iv 7, rv b1, iv H1, iv 4, iv 0, iv i1, iv v1] [(.int 0), (.ref b1)]) (fun _ z_ => XS.iload X5.here hx rfl (hb hby own_d8_101) rfl z_) ?_
  refine own_g (own_F T5 m 106 #[rv x, iv p1, iv tt, iv 7, rv b1, iv H1, iv 4, iv 1, iv i1, iv v1] [(.int 0), (.ref b1)]) (fun _ z_ => XS.iinc X5.here hx rfl (hb hby own_d8_103) rfl (l' := #[rv x, iv p1, iv tt, iv 7, rv b1, iv H1, iv 4, iv 1, iv i1, iv v1]) rfl z_) ?_
  refine own_g (own_F T5 m 108 #[rv x, iv p1, iv tt, iv 7, rv b1, iv H1, iv 4, iv 1, iv i1, iv v1] [(.int H1), (.int 0), (.ref b1)]) (fun _ z_ => XS.iload X5.here hx rfl (hb hby own_d8_106) rfl z_) ?_
  refine own_g (own_F T5 m 110 #[rv x, iv p1, iv tt, iv 7, rv b1, iv H1, iv 4, iv 1, iv i1, iv v1] [(.int 4), (.int H1), (.int 0), (.ref b1)]) (fun _ z_ => XS.iload X5.here hx rfl (hb hby own_d8_108) rfl z_) ?_
  refine own_g (own_F T5 m 111 #[rv x, iv p1, iv tt, iv 7, rv b1, iv H1, iv 4, iv 1, iv i1, iv v1] [(.int (H1 >>> ((4 : Int32) &&& 31))), (.int 0), (.ref b1)]) (fun _ z_ => XS.ishr X5.here hx rfl (hb hby own_d8_110) rfl z_) ?_
  have hB0 : (H1 >>> ((4 : Int32) &&& 31)) = y0 := own_sh (c_ishr H1 (4 : Int32) 4 (by decide)) hE1 (own_d1 hb0 hb1)
  rw [hB0]
  refine own_g (own_F T5 m 112 #[rv x, iv p1, iv tt, iv 7, rv b1, iv H1, iv 4, iv 1, iv i1, iv v1] [(.int (y0.toInt8.toInt32)), (.int 0), (.ref b1)]) (fun _ z_ => XS.i2b X5.here hx rfl (hb hby own_d8_111) rfl z_) ?_
  refine own_bast X5 hx hZ hh5 A1 0 rfl (by decide) (y0.toInt8.toInt32) (own_narB _) (hb hby own_d8_112) ?_
  intro T6 h6 X6 e6 W6 A6
  have N6 := Fr.snoc X6 N5 ge_b1
  obtain ⟨g6, A6, q6_0, q6_1, q6_2, q6_3, q6_4⟩ : ∃ gq_ : Nat → Int32, own_A Z h6 b1 .byte 5 (fun q_ => .int (gq_ q_)) ∧ gq_ 0 = (y0.toInt8.toInt32) ∧ gq_ 1 = (0 : Int32) ∧ gq_ 2 = (0 : Int32) ∧ gq_ 3 = (0 : Int32) ∧ gq_ 4 = (0 : Int32) := ⟨_, A6, rfl, (show ite _ _ _ = _ from (if_neg (by decide)).trans rfl), (show ite _ _ _ = _ from (if_neg (by decide)).trans rfl), (show ite _ _ _ = _ from (if_neg (by decide)).trans rfl), (show ite _ _ _ = _ from (if_neg (by decide)).trans rfl)⟩
  show own_Ends p e below s _ _ _ (own_F T6 m 113 #[rv x, iv p1, iv tt, iv 7, rv b1, iv H1, iv 4, iv 1, iv i1, iv v1] [])
  refine own_g (own_F T6 m 115 #[rv x, iv p1, iv tt, iv 7, rv b1, iv H1, iv 4, iv 1, iv i1, iv v1] [(.int H1)]) (fun _ z_ => XS.iload X6.here hx rfl (hb hby own_d8_113) rfl z_) ?_
  refine own_g (own_F T6 m 116 #[rv x, iv p1, iv tt, iv 7, rv b1, iv H1, iv 4, iv 1, iv i1, iv v1] [(.int 1), (.int H1)]) (fun _ z_ => XS.iconst X6.here hx rfl (hb hby own_d8_115) z_) ?_
  refine own_g (own_F T6 m 118 #[rv x, iv p1, iv tt, iv 7, rv b1, iv H1, iv 4, iv 1, iv i1, iv v1] [(.int 4), (.int 1), (.int H1)]) (fun _ z_ => XS.iload X6.here hx rfl (hb hby own_d8_116) rfl z_) ?_
  refine own_g (own_F T6 m 119 #[rv x, iv p1, iv tt, iv 7, rv b1, iv H1, iv 4, iv 1, iv i1, iv v1] [(.int 16), (.int H1)]) (fun _ z_ => XS.ishl X6.here hx rfl (hb hby own_d8_118) rfl z_) ?_
  refine own_g (own_F T6 m 120 #[rv x, iv p1, iv tt, iv 7, rv b1, iv H1, iv 4, iv 1, iv i1, iv v1] [(.int 1), (.int 16), (.int H1)]) (fun _ z_ => XS.iconst X6.here hx rfl (hb hby own_d8_119) z_) ?_
  refine own_g (own_F T6 m 121 #[rv x, iv p1, iv tt, iv 7, rv b1, iv H1, iv 4, iv 1, iv i1, iv v1] [(.int 15), (.int H1)]) (fun _ z_ => XS.isub X6.here hx rfl (hb hby own_d8_120) rfl z_) ?_
  refine own_g (own_F T6 m 122 #[rv x, iv p1, iv tt, iv 7, rv b1, iv H1, iv 4, iv 1, iv i1, iv v1] [(.int (H1 &&& (15 : Int32)))]) (fun _ z_ => XS.iand X6.here hx rfl (hb hby own_d8_121) rfl z_) ?_
  have hG1 : (H1 &&& (15 : Int32)).toInt = y1.toInt / 16 := own_mk (c_mask H1 (15 : Int32) 4 (by decide) (by decide)) hE1 (own_e1 hb1)
  generalize (H1 &&& (15 : Int32)) = G1 at hG1 ⊢
  refine own_g (own_F T6 m 124 #[rv x, iv p1, iv tt, iv 7, rv b1, iv G1, iv 4, iv 1, iv i1, iv v1] []) (fun _ z_ => XS.istore X6.here hx rfl (hb hby own_d8_122) rfl (l' := #[rv x, iv p1, iv tt, iv 7, rv b1, iv G1, iv 4, iv 1, iv i1, iv v1]) rfl z_) ?_
  refine own_g (own_F T6 m 127 #[rv x, iv p1, iv tt, iv 7, rv b1, iv G1, iv 4, iv 1, iv (i1 + (1 : Int32)), iv v1] []) (fun _ z_ => XS.iinc X6.here hx rfl (hb hby own_d8_124) rfl (l' := #[rv x, iv p1, iv tt, iv 7, rv b1, iv G1, iv 4, iv 1, iv (i1 + (1 : Int32)), iv v1]) rfl z_) ?_
  refine own_g (own_F T6 m 44 #[rv x, iv p1, iv tt, iv 7, rv b1, iv G1, iv 4, iv 1, iv (i1 + (1 : Int32)), iv v1] []) (fun _ z_ => XS.goto X6.here hx rfl (pc0 := 127) (pc' := 44) rfl (hb hby own_d8_127) (by decide) (by decide) z_) ?_
  have hi2 : (i1 + (1 : Int32)).toInt = ((P + 2 : Nat) : Int) := own_add1 hi1 (own_pl2 hP 2)
  generalize (i1 + (1 : Int32)) = i2 at hi2 ⊢
  refine own_g (own_F T6 m 46 #[rv x, iv p1, iv tt, iv 7, rv b1, iv G1, iv 4, iv 1, iv i2, iv v1] [(.int i2)]) (fun _ z_ => XS.iload X6.here hx rfl (hb hby own_d8_44) rfl z_) ?_
  refine own_g (own_F T6 m 47 #[rv x, iv p1, iv tt, iv 7, rv b1, iv G1, iv 4, iv 1, iv i2, iv v1] [(.int tt), (.int i2)]) (fun _ z_ => XS.iloadN X6.here hx rfl (hb hby own_d8_46) rfl z_) ?_
  refine own_g (own_F T6 m 50 #[rv x, iv p1, iv tt, iv 7, rv b1, iv G1, iv 4, iv 1, iv i2, iv v1] []) (fun _ z_ => XS.icmpNo X6.here hx rfl (hb hby own_d8_47) rfl (tlt (own_lt3 hi2 ht (Nat.add_lt_add_left (by decide) P))).2.1 z_) ?_
  refine own_g (own_F T6 m 51 #[rv x, iv p1, iv tt, iv 7, rv b1, iv G1, iv 4, iv 1, iv i2, iv v1] [(.ref x)]) (fun _ z_ => XS.aloadN X6.here hx rfl (hb hby own_d8_50) rfl rfl z_) ?_
  refine own_g (own_F T6 m 53 #[rv x, iv p1, iv tt, iv 7, rv b1, iv G1, iv 4, iv 1, iv i2, iv v1] [(.int i2), (.ref x)]) (fun _ z_ => XS.iload X6.here hx rfl (hb hby own_d8_51) rfl z_) ?_
  refine own_callV (C := "java/lang/String") (y := (⟨"java/lang/String", "charAt", "(I)C"⟩ : MethodName)) (b := x) X6 hx hZ hown (own_w hw 60) (own_w hw 61) (own_w hw 63) (own_w hw 62) (own_w hw 64) (own_w hw 7) (by decide) e6 ((hES.ext E1).wr W6) (hM := own_charAt l Z a0 hw [] x i2 zc (P + 2) 11 f sv hsv h6 n0 (Nat.le_trans (Nat.le_trans Z0 E1.1) (Nat.le_of_eq W6.size.symm)) hi2 (own_pl hP 2) hzc (hS.keep (((Keep.refl _ _).ext E1).wr W6 (Or.inr sz_b1)) all0) ((S_cs.ext E1).wr W6) ((S_sf.ext E1).wr W6) ((S_ad.ext E1).wr W6) ((S_hi.ext E1).wr W6) ((S_lo.ext E1).wr W6)) (W := 0) (pc := 53) (Ls := #[rv x, iv p1, iv tt, iv 7, rv b1, iv G1, iv 4, iv 1, iv i2, iv v1]) (argsL := [(.int i2)]) (rest := []) (st0 := [(.int i2), (.ref x)]) (by rw [hml]; rfl) (lenOf own_pd13 rfl) rfl (Nat.le_of_eq rfl) (hb hby own_d8_53) (by decide) (by decide) (by decide) (by decide) ?_
  intro v7 T7 L7 X7 hQ7
  obtain ⟨rfl, Nq7, hh7⟩ := hQ7
  have N7 := Fr.app N6 Nq7
  show own_Ends p e below s _ _ _ (own_F T7 m 56 #[rv x, iv p1, iv tt, iv 7, rv b1, iv G1, iv 4, iv 1, iv i2, iv v1] [(.int (f (P + 2)))])
  refine own_callS (y := (⟨"com/example/claimgate/claimgate/jose/Base64Url", "value", "(C)I"⟩ : MethodName)) X7 hx hZ hown (own_w hw 87) (own_w hw 88) (own_w hw 36) (own_w hw 89) (by decide) hh7 (hM := own_val l Z a0 hw [] _ v2 h6 n0 (Nat.le_trans (Nat.le_trans Z0 E1.1) (Nat.le_of_eq W6.size.symm)) hs2) (W := 0) (pc := 56) (Ls := #[rv x, iv p1, iv tt, iv 7, rv b1, iv G1, iv 4, iv 1, iv i2, iv v1]) (argsL := [(.int (f (P + 2)))]) (rest := []) (st0 := [(.int (f (P + 2)))]) (by rw [hml]; rfl) (lenOf own_pd14 rfl) rfl (Nat.le_of_eq rfl) (hb hby own_d8_56) (by decide) (by decide) (by decide) (by decide) ?_
  intro v8 T8 L8 X8 hQ8
  obtain ⟨rfl, Nq8, hh8⟩ := hQ8
  have N8 := Fr.app N7 Nq8
  show own_Ends p e below s _ _ _ (own_F T8 m 59 #[rv x, iv p1, iv tt, iv 7, rv b1, iv G1, iv 4, iv 1, iv i2, iv v1] [(.int v2)])
  refine own_g (own_F T8 m 61 #[rv x, iv p1, iv tt, iv 7, rv b1, iv G1, iv 4, iv 1, iv i2, iv v2] []) (fun _ z_ => XS.istore X8.here hx rfl (hb hby own_d8_59) rfl (l' := #[rv x, iv p1, iv tt, iv 7, rv b1, iv G1, iv 4, iv 1, iv i2, iv v2]) rfl z_) ?_
  refine own_g (own_F T8 m 63 #[rv x, iv p1, iv tt, iv 7, rv b1, iv G1, iv 4, iv 1, iv i2, iv v2] [(.int v2)]) (fun _ z_ => XS.iload X8.here hx rfl (hb hby own_d8_61) rfl z_) ?_
  refine own_g (own_F T8 m 76 #[rv x, iv p1, iv tt, iv 7, rv b1, iv G1, iv 4, iv 1, iv i2, iv v2] []) (fun _ z_ => XS.ifYes X8.here hx rfl (pc0 := 63) (pc' := 76) rfl (hb hby own_d8_63) rfl ((if0 _ _).trans (flt (own_vn (own_sym_rng hs2).2.1)).2.1) (by decide) (by decide) z_) ?_
  refine own_g (own_F T8 m 78 #[rv x, iv p1, iv tt, iv 7, rv b1, iv G1, iv 4, iv 1, iv i2, iv v2] [(.int G1)]) (fun _ z_ => XS.iload X8.here hx rfl (hb hby own_d8_76) rfl z_) ?_
  refine own_g (own_F T8 m 80 #[rv x, iv p1, iv tt, iv 7, rv b1, iv G1, iv 4, iv 1, iv i2, iv v2] [(.int 6), (.int G1)]) (fun _ z_ => XS.bipush X8.here hx rfl (hb hby own_d8_78) z_) ?_
  refine own_g (own_F T8 m 81 #[rv x, iv p1, iv tt, iv 7, rv b1, iv G1, iv 4, iv 1, iv i2, iv v2] [(.int (G1 <<< ((6 : Int32) &&& 31)))]) (fun _ z_ => XS.ishl X8.here hx rfl (hb hby own_d8_80) rfl z_) ?_
  refine own_g (own_F T8 m 83 #[rv x, iv p1, iv tt, iv 7, rv b1, iv G1, iv 4, iv 1, iv i2, iv v2] [(.int v2), (.int (G1 <<< ((6 : Int32) &&& 31)))]) (fun _ z_ => XS.iload X8.here hx rfl (hb hby own_d8_81) rfl z_) ?_
  refine own_g (own_F T8 m 84 #[rv x, iv p1, iv tt, iv 7, rv b1, iv G1, iv 4, iv 1, iv i2, iv v2] [(.int ((G1 <<< ((6 : Int32) &&& 31)) ||| v2))]) (fun _ z_ => XS.ior X8.here hx rfl (hb hby own_d8_83) rfl z_) ?_
  have hH2 : ((G1 <<< ((6 : Int32) &&& 31)) ||| v2).toInt = G1.toInt * 64 + v2.toInt := own_h6 (own_r16 hG1 hb1) (own_sym_rng hs2).2
  generalize ((G1 <<< ((6 : Int32) &&& 31)) ||| v2) = H2 at hH2 ⊢
  have hE2 : H2.toInt = y1.toInt * 4 + y2.toInt / 64 := by rw [hH2, hG1, hr2]; exact own_q2 hb1
  refine own_g (own_F T8 m 86 #[rv x, iv p1, iv tt, iv 7, rv b1, iv H2, iv 4, iv 1, iv i2, iv v2] []) (fun _ z_ => XS.istore X8.here hx rfl (hb hby own_d8_84) rfl (l' := #[rv x, iv p1, iv tt, iv 7, rv b1, iv H2, iv 4, iv 1, iv i2, iv v2]) rfl z_) ?_
  refine own_g (own_F T8 m 89 #[rv x, iv p1, iv tt, iv 7, rv b1, iv H2, iv 10, iv 1, iv i2, iv v2] []) (fun _ z_ => XS.iinc X8.here hx rfl (hb hby own_d8_86) rfl (l' := #[rv x, iv p1, iv tt, iv 7, rv b1, iv H2, iv 10, iv 1, iv i2, iv v2]) rfl z_) ?_
  refine own_g (own_F T8 m 91 #[rv x, iv p1, iv tt, iv 7, rv b1, iv H2, iv 10, iv 1, iv i2, iv v2] [(.int 10)]) (fun _ z_ => XS.iload X8.here hx rfl (hb hby own_d8_89) rfl z_) ?_
  refine own_g (own_F T8 m 93 #[rv x, iv p1, iv tt, iv 7, rv b1, iv H2, iv 10, iv 1, iv i2, iv v2] [(.int 8), (.int 10)]) (fun _ z_ => XS.bipush X8.here hx rfl (hb hby own_d8_91) z_) ?_
  refine own_g (own_F T8 m 96 #[rv x, iv p1, iv tt, iv 7, rv b1, iv H2, iv 10, iv 1, iv i2, iv v2] []) (fun _ z_ => XS.icmpNo X8.here hx rfl (hb hby own_d8_93) rfl (flt (by decide : ¬ ((10 : Int32) < (8 : Int32)))).1 z_) ?_
  refine own_g (own_F T8 m 99 #[rv x, iv p1, iv tt, iv 7, rv b1, iv H2, iv 2, iv 1, iv i2, iv v2] []) (fun _ z_ => XS.iinc X8.here hx rfl (hb hby own_d8_96) rfl (l' := #[rv x, iv p1, iv tt, iv 7, rv b1, iv H2, iv 2, iv 1, iv i2, iv v2]) rfl z_) ?_
  refine own_g (own_F T8 m 101 #[rv x, iv p1, iv tt, iv 7, rv b1, iv H2, iv 2, iv 1, iv i2, iv v2] [(.ref b1)]) (fun _ z_ => XS.aload X8.here hx rfl (hb hby own_d8_99) rfl rfl z_) ?_
  refine own_g (own_F T8 m 103 #[rv x, iv p1, iv tt, iv 7, rv b1, iv H2, iv 2, iv 1, iv i2, iv v2] [(.int 1), (.ref b1)]) (fun _ z_ => XS.iload X8.here hx rfl (hb hby own_d8_101) rfl z_) ?_
  refine own_g (own_F T8 m 106 #[rv x, iv p1, iv tt, iv 7, rv b1, iv H2, iv 2, iv 2, iv i2, iv v2] [(.int 1), (.ref b1)]) (fun _ z_ => XS.iinc X8.here hx rfl (hb hby own_d8_103) rfl (l' := #[rv x, iv p1, iv tt, iv 7, rv b1, iv H2, iv 2, iv 2, iv i2, iv v2]) rfl z_) ?_
  refine own_g (own_F T8 m 108 #[rv x, iv p1, iv tt, iv 7, rv b1, iv H2, iv 2, iv 2, iv i2, iv v2] [(.int H2), (.int 1), (.ref b1)]) (fun _ z_ => XS.iload X8.here hx rfl (hb hby own_d8_106) rfl z_) ?_
  refine own_g (own_F T8 m 110 #[rv x, iv p1, iv tt, iv 7, rv b1, iv H2, iv 2, iv 2, iv i2, iv v2] [(.int 2), (.int H2), (.int 1), (.ref b1)]) (fun _ z_ => XS.iload X8.here hx rfl (hb hby own_d8_108) rfl z_) ?_
  refine own_g (own_F T8 m 111 #[rv x, iv p1, iv tt, iv 7, rv b1, iv H2, iv 2, iv 2, iv i2, iv v2] [(.int (H2 >>> ((2 : Int32) &&& 31))), (.int 1), (.ref b1)]) (fun _ z_ => XS.ishr X8.here hx rfl (hb hby own_d8_110) rfl z_) ?_
  have hB1 : (H2 >>> ((2 : Int32) &&& 31)) = y1 := own_sh (c_ishr H2 (2 : Int32) 2 (by decide)) hE2 (own_d2 hb1 hb2)
  rw [hB1]
  refine own_g (own_F T8 m 112 #[rv x, iv p1, iv tt, iv 7, rv b1, iv H2, iv 2, iv 2, iv i2, iv v2] [(.int (y1.toInt8.toInt32)), (.int 1), (.ref b1)]) (fun _ z_ => XS.i2b X8.here hx rfl (hb hby own_d8_111) rfl z_) ?_
  refine own_bast X8 hx hZ hh8 A6 1 rfl (by decide) (y1.toInt8.toInt32) (own_narB _) (hb hby own_d8_112) ?_
  intro T9 h9 X9 e9 W9 A9
  have N9 := Fr.snoc X9 N8 ge_b1
  obtain ⟨g9, A9, q9_0, q9_1, q9_2, q9_3, q9_4⟩ : ∃ gq_ : Nat → Int32, own_A Z h9 b1 .byte 5 (fun q_ => .int (gq_ q_)) ∧ gq_ 0 = (y0.toInt8.toInt32) ∧ gq_ 1 = (y1.toInt8.toInt32) ∧ gq_ 2 = (0 : Int32) ∧ gq_ 3 = (0 : Int32) ∧ gq_ 4 = (0 : Int32) := ⟨_, A9, (show ite _ _ _ = _ from (if_neg (by decide)).trans q6_0), rfl, (show ite _ _ _ = _ from (if_neg (by decide)).trans q6_2), (show ite _ _ _ = _ from (if_neg (by decide)).trans q6_3), (show ite _ _ _ = _ from (if_neg (by decide)).trans q6_4)⟩
  show own_Ends p e below s _ _ _ (own_F T9 m 113 #[rv x, iv p1, iv tt, iv 7, rv b1, iv H2, iv 2, iv 2, iv i2, iv v2] [])
  refine own_g (own_F T9 m 115 #[rv x, iv p1, iv tt, iv 7, rv b1, iv H2, iv 2, iv 2, iv i2, iv v2] [(.int H2)]) (fun _ z_ => XS.iload X9.here hx rfl (hb hby own_d8_113) rfl z_) ?_
  refine own_g (own_F T9 m 116 #[rv x, iv p1, iv tt, iv 7, rv b1, iv H2, iv 2, iv 2, iv i2, iv v2] [(.int 1), (.int H2)]) (fun _ z_ => XS.iconst X9.here hx rfl (hb hby own_d8_115) z_) ?_
  refine own_g (own_F T9 m 118 #[rv x, iv p1, iv tt, iv 7, rv b1, iv H2, iv 2, iv 2, iv i2, iv v2] [(.int 2), (.int 1), (.int H2)]) (fun _ z_ => XS.iload X9.here hx rfl (hb hby own_d8_116) rfl z_) ?_
  refine own_g (own_F T9 m 119 #[rv x, iv p1, iv tt, iv 7, rv b1, iv H2, iv 2, iv 2, iv i2, iv v2] [(.int 4), (.int H2)]) (fun _ z_ => XS.ishl X9.here hx rfl (hb hby own_d8_118) rfl z_) ?_
  refine own_g (own_F T9 m 120 #[rv x, iv p1, iv tt, iv 7, rv b1, iv H2, iv 2, iv 2, iv i2, iv v2] [(.int 1), (.int 4), (.int H2)]) (fun _ z_ => XS.iconst X9.here hx rfl (hb hby own_d8_119) z_) ?_
  refine own_g (own_F T9 m 121 #[rv x, iv p1, iv tt, iv 7, rv b1, iv H2, iv 2, iv 2, iv i2, iv v2] [(.int 3), (.int H2)]) (fun _ z_ => XS.isub X9.here hx rfl (hb hby own_d8_120) rfl z_) ?_
  refine own_g (own_F T9 m 122 #[rv x, iv p1, iv tt, iv 7, rv b1, iv H2, iv 2, iv 2, iv i2, iv v2] [(.int (H2 &&& (3 : Int32)))]) (fun _ z_ => XS.iand X9.here hx rfl (hb hby own_d8_121) rfl z_) ?_
  have hG2 : (H2 &&& (3 : Int32)).toInt = y2.toInt / 64 := own_mk (c_mask H2 (3 : Int32) 2 (by decide) (by decide)) hE2 (own_e2 hb2)
  generalize (H2 &&& (3 : Int32)) = G2 at hG2 ⊢
  refine own_g (own_F T9 m 124 #[rv x, iv p1, iv tt, iv 7, rv b1, iv G2, iv 2, iv 2, iv i2, iv v2] []) (fun _ z_ => XS.istore X9.here hx rfl (hb hby own_d8_122) rfl (l' := #[rv x, iv p1, iv tt, iv 7, rv b1, iv G2, iv 2, iv 2, iv i2, iv v2]) rfl z_) ?_
  refine own_g (own_F T9 m 127 #[rv x, iv p1, iv tt, iv 7, rv b1, iv G2, iv 2, iv 2, iv (i2 + (1 : Int32)), iv v2] []) (fun _ z_ => XS.iinc X9.here hx rfl (hb hby own_d8_124) rfl (l' := #[rv x, iv p1, iv tt, iv 7, rv b1, iv G2, iv 2, iv 2, iv (i2 + (1 : Int32)), iv v2]) rfl z_) ?_
  refine own_g (own_F T9 m 44 #[rv x, iv p1, iv tt, iv 7, rv b1, iv G2, iv 2, iv 2, iv (i2 + (1 : Int32)), iv v2] []) (fun _ z_ => XS.goto X9.here hx rfl (pc0 := 127) (pc' := 44) rfl (hb hby own_d8_127) (by decide) (by decide) z_) ?_
  have hi3 : (i2 + (1 : Int32)).toInt = ((P + 3 : Nat) : Int) := own_add1 hi2 (own_pl2 hP 3)
  generalize (i2 + (1 : Int32)) = i3 at hi3 ⊢
  refine own_g (own_F T9 m 46 #[rv x, iv p1, iv tt, iv 7, rv b1, iv G2, iv 2, iv 2, iv i3, iv v2] [(.int i3)]) (fun _ z_ => XS.iload X9.here hx rfl (hb hby own_d8_44) rfl z_) ?_
  refine own_g (own_F T9 m 47 #[rv x, iv p1, iv tt, iv 7, rv b1, iv G2, iv 2, iv 2, iv i3, iv v2] [(.int tt), (.int i3)]) (fun _ z_ => XS.iloadN X9.here hx rfl (hb hby own_d8_46) rfl z_) ?_
  refine own_g (own_F T9 m 50 #[rv x, iv p1, iv tt, iv 7, rv b1, iv G2, iv 2, iv 2, iv i3, iv v2] []) (fun _ z_ => XS.icmpNo X9.here hx rfl (hb hby own_d8_47) rfl (tlt (own_lt3 hi3 ht (Nat.add_lt_add_left (by decide) P))).2.1 z_) ?_
  refine own_g (own_F T9 m 51 #[rv x, iv p1, iv tt, iv 7, rv b1, iv G2, iv 2, iv 2, iv i3, iv v2] [(.ref x)]) (fun _ z_ => XS.aloadN X9.here hx rfl (hb hby own_d8_50) rfl rfl z_) ?_
  refine own_g (own_F T9 m 53 #[rv x, iv p1, iv tt, iv 7, rv b1, iv G2, iv 2, iv 2, iv i3, iv v2] [(.int i3), (.ref x)]) (fun _ z_ => XS.iload X9.here hx rfl (hb hby own_d8_51) rfl z_) ?_
  refine own_callV (C := "java/lang/String") (y := (⟨"java/lang/String", "charAt", "(I)C"⟩ : MethodName)) (b := x) X9 hx hZ hown (own_w hw 60) (own_w hw 61) (own_w hw 63) (own_w hw 62) (own_w hw 64) (own_w hw 7) (by decide) e9 (((hES.ext E1).wr W6).wr W9) (hM := own_charAt l Z a0 hw [] x i3 zc (P + 3) 11 f sv hsv h9 n0 (Nat.le_trans (Nat.le_trans (Nat.le_trans Z0 E1.1) (Nat.le_of_eq W6.size.symm)) (Nat.le_of_eq W9.size.symm)) hi3 (own_pl hP 3) hzc (hS.keep ((((Keep.refl _ _).ext E1).wr W6 (Or.inr sz_b1)).wr W9 (Or.inr sz_b1)) all0) (((S_cs.ext E1).wr W6).wr W9) (((S_sf.ext E1).wr W6).wr W9) (((S_ad.ext E1).wr W6).wr W9) (((S_hi.ext E1).wr W6).wr W9) (((S_lo.ext E1).wr W6).wr W9)) (W := 0) (pc := 53) (Ls := #[rv x, iv p1, iv tt, iv 7, rv b1, iv G2, iv 2, iv 2, iv i3, iv v2]) (argsL := [(.int i3)]) (rest := []) (st0 := [(.int i3), (.ref x)]) (by rw [hml]; rfl) (lenOf own_pd13 rfl) rfl (Nat.le_of_eq rfl) (hb hby own_d8_53) (by decide) (by decide) (by decide) (by decide) ?_
  intro v10 T10 L10 X10 hQ10
  obtain ⟨rfl, Nq10, hh10⟩ := hQ10
  have N10 := Fr.app N9 Nq10
  show own_Ends p e below s _ _ _ (own_F T10 m 56 #[rv x, iv p1, iv tt, iv 7, rv b1, iv G2, iv 2, iv 2, iv i3, iv v2] [(.int (f (P + 3)))])
  refine own_callS (y := (⟨"com/example/claimgate/claimgate/jose/Base64Url", "value", "(C)I"⟩ : MethodName)) X10 hx hZ hown (own_w hw 87) (own_w hw 88) (own_w hw 36) (own_w hw 89) (by decide) hh10 (hM := own_val l Z a0 hw [] _ v3 h9 n0 (Nat.le_trans (Nat.le_trans (Nat.le_trans Z0 E1.1) (Nat.le_of_eq W6.size.symm)) (Nat.le_of_eq W9.size.symm)) hs3) (W := 0) (pc := 56) (Ls := #[rv x, iv p1, iv tt, iv 7, rv b1, iv G2, iv 2, iv 2, iv i3, iv v2]) (argsL := [(.int (f (P + 3)))]) (rest := []) (st0 := [(.int (f (P + 3)))]) (by rw [hml]; rfl) (lenOf own_pd14 rfl) rfl (Nat.le_of_eq rfl) (hb hby own_d8_56) (by decide) (by decide) (by decide) (by decide) ?_
  intro v11 T11 L11 X11 hQ11
  obtain ⟨rfl, Nq11, hh11⟩ := hQ11
  have N11 := Fr.app N10 Nq11
  show own_Ends p e below s _ _ _ (own_F T11 m 59 #[rv x, iv p1, iv tt, iv 7, rv b1, iv G2, iv 2, iv 2, iv i3, iv v2] [(.int v3)])
  refine own_g (own_F T11 m 61 #[rv x, iv p1, iv tt, iv 7, rv b1, iv G2, iv 2, iv 2, iv i3, iv v3] []) (fun _ z_ => XS.istore X11.here hx rfl (hb hby own_d8_59) rfl (l' := #[rv x, iv p1, iv tt, iv 7, rv b1, iv G2, iv 2, iv 2, iv i3, iv v3]) rfl z_) ?_
  refine own_g (own_F T11 m 63 #[rv x, iv p1, iv tt, iv 7, rv b1, iv G2, iv 2, iv 2, iv i3, iv v3] [(.int v3)]) (fun _ z_ => XS.iload X11.here hx rfl (hb hby own_d8_61) rfl z_) ?_
  refine own_g (own_F T11 m 76 #[rv x, iv p1, iv tt, iv 7, rv b1, iv G2, iv 2, iv 2, iv i3, iv v3] []) (fun _ z_ => XS.ifYes X11.here hx rfl (pc0 := 63) (pc' := 76) rfl (hb hby own_d8_63) rfl ((if0 _ _).trans (flt (own_vn (own_sym_rng hs3).2.1)).2.1) (by decide) (by decide) z_) ?_
  refine own_g (own_F T11 m 78 #[rv x, iv p1, iv tt, iv 7, rv b1, iv G2, iv 2, iv 2, iv i3, iv v3] [(.int G2)]) (fun _ z_ => XS.iload X11.here hx rfl (hb hby own_d8_76) rfl z_) ?_
  refine own_g (own_F T11 m 80 #[rv x, iv p1, iv tt, iv 7, rv b1, iv G2, iv 2, iv 2, iv i3, iv v3] [(.int 6), (.int G2)]) (fun _ z_ => XS.bipush X11.here hx rfl (hb hby own_d8_78) z_) ?_
  refine own_g (own_F T11 m 81 #[rv x, iv p1, iv tt, iv 7, rv b1, iv G2, iv 2, iv 2, iv i3, iv v3] [(.int (G2 <<< ((6 : Int32) &&& 31)))]) (fun _ z_ => XS.ishl X11.here hx rfl (hb hby own_d8_80) rfl z_) ?_
  refine own_g (own_F T11 m 83 #[rv x, iv p1, iv tt, iv 7, rv b1, iv G2, iv 2, iv 2, iv i3, iv v3] [(.int v3), (.int (G2 <<< ((6 : Int32) &&& 31)))]) (fun _ z_ => XS.iload X11.here hx rfl (hb hby own_d8_81) rfl z_) ?_
  refine own_g (own_F T11 m 84 #[rv x, iv p1, iv tt, iv 7, rv b1, iv G2, iv 2, iv 2, iv i3, iv v3] [(.int ((G2 <<< ((6 : Int32) &&& 31)) ||| v3))]) (fun _ z_ => XS.ior X11.here hx rfl (hb hby own_d8_83) rfl z_) ?_
  have hH3 : ((G2 <<< ((6 : Int32) &&& 31)) ||| v3).toInt = G2.toInt * 64 + v3.toInt := own_h6 (own_r64 hG2 hb2) (own_sym_rng hs3).2
  generalize ((G2 <<< ((6 : Int32) &&& 31)) ||| v3) = H3 at hH3 ⊢
  have hE3 : H3.toInt = y2.toInt := by rw [hH3, hG2, hr3]; exact own_q3 _
  refine own_g (own_F T11 m 86 #[rv x, iv p1, iv tt, iv 7, rv b1, iv H3, iv 2, iv 2, iv i3, iv v3] []) (fun _ z_ => XS.istore X11.here hx rfl (hb hby own_d8_84) rfl (l' := #[rv x, iv p1, iv tt, iv 7, rv b1, iv H3, iv 2, iv 2, iv i3, iv v3]) rfl z_) ?_
  refine own_g (own_F T11 m 89 #[rv x, iv p1, iv tt, iv 7, rv b1, iv H3, iv 8, iv 2, iv i3, iv v3] []) (fun _ z_ => XS.iinc X11.here hx rfl (hb hby own_d8_86) rfl (l' := #[rv x, iv p1, iv tt, iv 7, rv b1, iv H3, iv 8, iv 2, iv i3, iv v3]) rfl z_) ?_
  refine own_g (own_F T11 m 91 #[rv x, iv p1, iv tt, iv 7, rv b1, iv H3, iv 8, iv 2, iv i3, iv v3] [(.int 8)]) (fun _ z_ => XS.iload X11.here hx rfl (hb hby own_d8_89) rfl z_) ?_
  refine own_g (own_F T11 m 93 #[rv x, iv p1, iv tt, iv 7, rv b1, iv H3, iv 8, iv 2, iv i3, iv v3] [(.int 8), (.int 8)]) (fun _ z_ => XS.bipush X11.here hx rfl (hb hby own_d8_91) z_) ?_
  refine own_g (own_F T11 m 96 #[rv x, iv p1, iv tt, iv 7, rv b1, iv H3, iv 8, iv 2, iv i3, iv v3] []) (fun _ z_ => XS.icmpNo X11.here hx rfl (hb hby own_d8_93) rfl (flt (by decide : ¬ ((8 : Int32) < (8 : Int32)))).1 z_) ?_
  refine own_g (own_F T11 m 99 #[rv x, iv p1, iv tt, iv 7, rv b1, iv H3, iv 0, iv 2, iv i3, iv v3] []) (fun _ z_ => XS.iinc X11.here hx rfl (hb hby own_d8_96) rfl (l' := #[rv x, iv p1, iv tt, iv 7, rv b1, iv H3, iv 0, iv 2, iv i3, iv v3]) rfl z_) ?_
  refine own_g (own_F T11 m 101 #[rv x, iv p1, iv tt, iv 7, rv b1, iv H3, iv 0, iv 2, iv i3, iv v3] [(.ref b1)]) (fun _ z_ => XS.aload X11.here hx rfl (hb hby own_d8_99) rfl rfl z_) ?_
  refine own_g (own_F T11 m 103 #[rv x, iv p1, iv tt, iv 7, rv b1, iv H3, iv 0, iv 2, iv i3, iv v3] [(.int 2), (.ref b1)]) (fun _ z_ => XS.iload X11.here hx rfl (hb hby own_d8_101) rfl z_) ?_
  refine own_g (own_F T11 m 106 #[rv x, iv p1, iv tt, iv 7, rv b1, iv H3, iv 0, iv 3, iv i3, iv v3] [(.int 2), (.ref b1)]) (fun _ z_ => XS.iinc X11.here hx rfl (hb hby own_d8_103) rfl (l' := #[rv x, iv p1, iv tt, iv 7, rv b1, iv H3, iv 0, iv 3, iv i3, iv v3]) rfl z_) ?_
  refine own_g (own_F T11 m 108 #[rv x, iv p1, iv tt, iv 7, rv b1, iv H3, iv 0, iv 3, iv i3, iv v3] [(.int H3), (.int 2), (.ref b1)]) (fun _ z_ => XS.iload X11.here hx rfl (hb hby own_d8_106) rfl z_) ?_
  refine own_g (own_F T11 m 110 #[rv x, iv p1, iv tt, iv 7, rv b1, iv H3, iv 0, iv 3, iv i3, iv v3] [(.int 0), (.int H3), (.int 2), (.ref b1)]) (fun _ z_ => XS.iload X11.here hx rfl (hb hby own_d8_108) rfl z_) ?_
  refine own_g (own_F T11 m 111 #[rv x, iv p1, iv tt, iv 7, rv b1, iv H3, iv 0, iv 3, iv i3, iv v3] [(.int (H3 >>> ((0 : Int32) &&& 31))), (.int 2), (.ref b1)]) (fun _ z_ => XS.ishr X11.here hx rfl (hb hby own_d8_110) rfl z_) ?_
  have hB2 : (H3 >>> ((0 : Int32) &&& 31)) = y2 := own_sh (c_ishr H3 (0 : Int32) 0 (by decide)) hE3 (own_d3 _)
  rw [hB2]
  refine own_g (own_F T11 m 112 #[rv x, iv p1, iv tt, iv 7, rv b1, iv H3, iv 0, iv 3, iv i3, iv v3] [(.int (y2.toInt8.toInt32)), (.int 2), (.ref b1)]) (fun _ z_ => XS.i2b X11.here hx rfl (hb hby own_d8_111) rfl z_) ?_
  refine own_bast X11 hx hZ hh11 A9 2 rfl (by decide) (y2.toInt8.toInt32) (own_narB _) (hb hby own_d8_112) ?_
  intro T12 h12 X12 e12 W12 A12
  have N12 := Fr.snoc X12 N11 ge_b1
  obtain ⟨g12, A12, q12_0, q12_1, q12_2, q12_3, q12_4⟩ : ∃ gq_ : Nat → Int32, own_A Z h12 b1 .byte 5 (fun q_ => .int (gq_ q_)) ∧ gq_ 0 = (y0.toInt8.toInt32) ∧ gq_ 1 = (y1.toInt8.toInt32) ∧ gq_ 2 = (y2.toInt8.toInt32) ∧ gq_ 3 = (0 : Int32) ∧ gq_ 4 = (0 : Int32) := ⟨_, A12, (show ite _ _ _ = _ from (if_neg (by decide)).trans q9_0), (show ite _ _ _ = _ from (if_neg (by decide)).trans q9_1), rfl, (show ite _ _ _ = _ from (if_neg (by decide)).trans q9_3), (show ite _ _ _ = _ from (if_neg (by decide)).trans q9_4)⟩
  show own_Ends p e below s _ _ _ (own_F T12 m 113 #[rv x, iv p1, iv tt, iv 7, rv b1, iv H3, iv 0, iv 3, iv i3, iv v3] [])
  refine own_g (own_F T12 m 115 #[rv x, iv p1, iv tt, iv 7, rv b1, iv H3, iv 0, iv 3, iv i3, iv v3] [(.int H3)]) (fun _ z_ => XS.iload X12.here hx rfl (hb hby own_d8_113) rfl z_) ?_
  refine own_g (own_F T12 m 116 #[rv x, iv p1, iv tt, iv 7, rv b1, iv H3, iv 0, iv 3, iv i3, iv v3] [(.int 1), (.int H3)]) (fun _ z_ => XS.iconst X12.here hx rfl (hb hby own_d8_115) z_) ?_
  refine own_g (own_F T12 m 118 #[rv x, iv p1, iv tt, iv 7, rv b1, iv H3, iv 0, iv 3, iv i3, iv v3] [(.int 0), (.int 1), (.int H3)]) (fun _ z_ => XS.iload X12.here hx rfl (hb hby own_d8_116) rfl z_) ?_
  refine own_g (own_F T12 m 119 #[rv x, iv p1, iv tt, iv 7, rv b1, iv H3, iv 0, iv 3, iv i3, iv v3] [(.int 1), (.int H3)]) (fun _ z_ => XS.ishl X12.here hx rfl (hb hby own_d8_118) rfl z_) ?_
  refine own_g (own_F T12 m 120 #[rv x, iv p1, iv tt, iv 7, rv b1, iv H3, iv 0, iv 3, iv i3, iv v3] [(.int 1), (.int 1), (.int H3)]) (fun _ z_ => XS.iconst X12.here hx rfl (hb hby own_d8_119) z_) ?_
  refine own_g (own_F T12 m 121 #[rv x, iv p1, iv tt, iv 7, rv b1, iv H3, iv 0, iv 3, iv i3, iv v3] [(.int 0), (.int H3)]) (fun _ z_ => XS.isub X12.here hx rfl (hb hby own_d8_120) rfl z_) ?_
  refine own_g (own_F T12 m 122 #[rv x, iv p1, iv tt, iv 7, rv b1, iv H3, iv 0, iv 3, iv i3, iv v3] [(.int (H3 &&& (0 : Int32)))]) (fun _ z_ => XS.iand X12.here hx rfl (hb hby own_d8_121) rfl z_) ?_
  have hG3 : (H3 &&& (0 : Int32)).toInt = 0 := own_mk (c_mask H3 (0 : Int32) 0 (by decide) (by decide)) hE3 (own_e3 _)
  generalize (H3 &&& (0 : Int32)) = G3 at hG3 ⊢
  refine own_g (own_F T12 m 124 #[rv x, iv p1, iv tt, iv 7, rv b1, iv G3, iv 0, iv 3, iv i3, iv v3] []) (fun _ z_ => XS.istore X12.here hx rfl (hb hby own_d8_122) rfl (l' := #[rv x, iv p1, iv tt, iv 7, rv b1, iv G3, iv 0, iv 3, iv i3, iv v3]) rfl z_) ?_
  refine own_g (own_F T12 m 127 #[rv x, iv p1, iv tt, iv 7, rv b1, iv G3, iv 0, iv 3, iv (i3 + (1 : Int32)), iv v3] []) (fun _ z_ => XS.iinc X12.here hx rfl (hb hby own_d8_124) rfl (l' := #[rv x, iv p1, iv tt, iv 7, rv b1, iv G3, iv 0, iv 3, iv (i3 + (1 : Int32)), iv v3]) rfl z_) ?_
  refine own_g (own_F T12 m 44 #[rv x, iv p1, iv tt, iv 7, rv b1, iv G3, iv 0, iv 3, iv (i3 + (1 : Int32)), iv v3] []) (fun _ z_ => XS.goto X12.here hx rfl (pc0 := 127) (pc' := 44) rfl (hb hby own_d8_127) (by decide) (by decide) z_) ?_
  have hi4 : (i3 + (1 : Int32)).toInt = ((P + 4 : Nat) : Int) := own_add1 hi3 (own_pl2 hP 4)
  generalize (i3 + (1 : Int32)) = i4 at hi4 ⊢
  refine own_g (own_F T12 m 46 #[rv x, iv p1, iv tt, iv 7, rv b1, iv G3, iv 0, iv 3, iv i4, iv v3] [(.int i4)]) (fun _ z_ => XS.iload X12.here hx rfl (hb hby own_d8_44) rfl z_) ?_
  refine own_g (own_F T12 m 47 #[rv x, iv p1, iv tt, iv 7, rv b1, iv G3, iv 0, iv 3, iv i4, iv v3] [(.int tt), (.int i4)]) (fun _ z_ => XS.iloadN X12.here hx rfl (hb hby own_d8_46) rfl z_) ?_
  refine own_g (own_F T12 m 50 #[rv x, iv p1, iv tt, iv 7, rv b1, iv G3, iv 0, iv 3, iv i4, iv v3] []) (fun _ z_ => XS.icmpNo X12.here hx rfl (hb hby own_d8_47) rfl (tlt (own_lt3 hi4 ht (Nat.add_lt_add_left (by decide) P))).2.1 z_) ?_
  refine own_g (own_F T12 m 51 #[rv x, iv p1, iv tt, iv 7, rv b1, iv G3, iv 0, iv 3, iv i4, iv v3] [(.ref x)]) (fun _ z_ => XS.aloadN X12.here hx rfl (hb hby own_d8_50) rfl rfl z_) ?_
  refine own_g (own_F T12 m 53 #[rv x, iv p1, iv tt, iv 7, rv b1, iv G3, iv 0, iv 3, iv i4, iv v3] [(.int i4), (.ref x)]) (fun _ z_ => XS.iload X12.here hx rfl (hb hby own_d8_51) rfl z_) ?_
  refine own_callV (C := "java/lang/String") (y := (⟨"java/lang/String", "charAt", "(I)C"⟩ : MethodName)) (b := x) X12 hx hZ hown (own_w hw 60) (own_w hw 61) (own_w hw 63) (own_w hw 62) (own_w hw 64) (own_w hw 7) (by decide) e12 ((((hES.ext E1).wr W6).wr W9).wr W12) (hM := own_charAt l Z a0 hw [] x i4 zc (P + 4) 11 f sv hsv h12 n0 (Nat.le_trans (Nat.le_trans (Nat.le_trans (Nat.le_trans Z0 E1.1) (Nat.le_of_eq W6.size.symm)) (Nat.le_of_eq W9.size.symm)) (Nat.le_of_eq W12.size.symm)) hi4 (own_pl hP 4) hzc (hS.keep (((((Keep.refl _ _).ext E1).wr W6 (Or.inr sz_b1)).wr W9 (Or.inr sz_b1)).wr W12 (Or.inr sz_b1)) all0) ((((S_cs.ext E1).wr W6).wr W9).wr W12) ((((S_sf.ext E1).wr W6).wr W9).wr W12) ((((S_ad.ext E1).wr W6).wr W9).wr W12) ((((S_hi.ext E1).wr W6).wr W9).wr W12) ((((S_lo.ext E1).wr W6).wr W9).wr W12)) (W := 0) (pc := 53) (Ls := #[rv x, iv p1, iv tt, iv 7, rv b1, iv G3, iv 0, iv 3, iv i4, iv v3]) (argsL := [(.int i4)]) (rest := []) (st0 := [(.int i4), (.ref x)]) (by rw [hml]; rfl) (lenOf own_pd13 rfl) rfl (Nat.le_of_eq rfl) (hb hby own_d8_53) (by decide) (by decide) (by decide) (by decide) ?_
  intro v13 T13 L13 X13 hQ13
  obtain ⟨rfl, Nq13, hh13⟩ := hQ13
  have N13 := Fr.app N12 Nq13
  show own_Ends p e below s _ _ _ (own_F T13 m 56 #[rv x, iv p1, iv tt, iv 7, rv b1, iv G3, iv 0, iv 3, iv i4, iv v3] [(.int (f (P + 4)))])
  refine own_callS (y := (⟨"com/example/claimgate/claimgate/jose/Base64Url", "value", "(C)I"⟩ : MethodName)) X13 hx hZ hown (own_w hw 87) (own_w hw 88) (own_w hw 36) (own_w hw 89) (by decide) hh13 (hM := own_val l Z a0 hw [] _ v4 h12 n0 (Nat.le_trans (Nat.le_trans (Nat.le_trans (Nat.le_trans Z0 E1.1) (Nat.le_of_eq W6.size.symm)) (Nat.le_of_eq W9.size.symm)) (Nat.le_of_eq W12.size.symm)) hs4) (W := 0) (pc := 56) (Ls := #[rv x, iv p1, iv tt, iv 7, rv b1, iv G3, iv 0, iv 3, iv i4, iv v3]) (argsL := [(.int (f (P + 4)))]) (rest := []) (st0 := [(.int (f (P + 4)))]) (by rw [hml]; rfl) (lenOf own_pd14 rfl) rfl (Nat.le_of_eq rfl) (hb hby own_d8_56) (by decide) (by decide) (by decide) (by decide) ?_
  intro v14 T14 L14 X14 hQ14
  obtain ⟨rfl, Nq14, hh14⟩ := hQ14
  have N14 := Fr.app N13 Nq14
  show own_Ends p e below s _ _ _ (own_F T14 m 59 #[rv x, iv p1, iv tt, iv 7, rv b1, iv G3, iv 0, iv 3, iv i4, iv v3] [(.int v4)])
  refine own_g (own_F T14 m 61 #[rv x, iv p1, iv tt, iv 7, rv b1, iv G3, iv 0, iv 3, iv i4, iv v4] []) (fun _ z_ => XS.istore X14.here hx rfl (hb hby own_d8_59) rfl (l' := #[rv x, iv p1, iv tt, iv 7, rv b1, iv G3, iv 0, iv 3, iv i4, iv v4]) rfl z_) ?_
  refine own_g (own_F T14 m 63 #[rv x, iv p1, iv tt, iv 7, rv b1, iv G3, iv 0, iv 3, iv i4, iv v4] [(.int v4)]) (fun _ z_ => XS.iload X14.here hx rfl (hb hby own_d8_61) rfl z_) ?_
  refine own_g (own_F T14 m 76 #[rv x, iv p1, iv tt, iv 7, rv b1, iv G3, iv 0, iv 3, iv i4, iv v4] []) (fun _ z_ => XS.ifYes X14.here hx rfl (pc0 := 63) (pc' := 76) rfl (hb hby own_d8_63) rfl ((if0 _ _).trans (flt (own_vn (own_sym_rng hs4).2.1)).2.1) (by decide) (by decide) z_) ?_
  refine own_g (own_F T14 m 78 #[rv x, iv p1, iv tt, iv 7, rv b1, iv G3, iv 0, iv 3, iv i4, iv v4] [(.int G3)]) (fun _ z_ => XS.iload X14.here hx rfl (hb hby own_d8_76) rfl z_) ?_
  refine own_g (own_F T14 m 80 #[rv x, iv p1, iv tt, iv 7, rv b1, iv G3, iv 0, iv 3, iv i4, iv v4] [(.int 6), (.int G3)]) (fun _ z_ => XS.bipush X14.here hx rfl (hb hby own_d8_78) z_) ?_
  refine own_g (own_F T14 m 81 #[rv x, iv p1, iv tt, iv 7, rv b1, iv G3, iv 0, iv 3, iv i4, iv v4] [(.int (G3 <<< ((6 : Int32) &&& 31)))]) (fun _ z_ => XS.ishl X14.here hx rfl (hb hby own_d8_80) rfl z_) ?_
  refine own_g (own_F T14 m 83 #[rv x, iv p1, iv tt, iv 7, rv b1, iv G3, iv 0, iv 3, iv i4, iv v4] [(.int v4), (.int (G3 <<< ((6 : Int32) &&& 31)))]) (fun _ z_ => XS.iload X14.here hx rfl (hb hby own_d8_81) rfl z_) ?_
  refine own_g (own_F T14 m 84 #[rv x, iv p1, iv tt, iv 7, rv b1, iv G3, iv 0, iv 3, iv i4, iv v4] [(.int ((G3 <<< ((6 : Int32) &&& 31)) ||| v4))]) (fun _ z_ => XS.ior X14.here hx rfl (hb hby own_d8_83) rfl z_) ?_
  have hH4 : ((G3 <<< ((6 : Int32) &&& 31)) ||| v4).toInt = G3.toInt * 64 + v4.toInt := own_h6 (own_rz hG3) (own_sym_rng hs4).2
  generalize ((G3 <<< ((6 : Int32) &&& 31)) ||| v4) = H4 at hH4 ⊢
  have hE4 : H4.toInt = y3.toInt / 4 := by rw [hH4, hG3, hr4]; exact Int.zero_add _
  refine own_g (own_F T14 m 86 #[rv x, iv p1, iv tt, iv 7, rv b1, iv H4, iv 0, iv 3, iv i4, iv v4] []) (fun _ z_ => XS.istore X14.here hx rfl (hb hby own_d8_84) rfl (l' := #[rv x, iv p1, iv tt, iv 7, rv b1, iv H4, iv 0, iv 3, iv i4, iv v4]) rfl z_) ?_
  refine own_g (own_F T14 m 89 #[rv x, iv p1, iv tt, iv 7, rv b1, iv H4, iv 6, iv 3, iv i4, iv v4] []) (fun _ z_ => XS.iinc X14.here hx rfl (hb hby own_d8_86) rfl (l' := #[rv x, iv p1, iv tt, iv 7, rv b1, iv H4, iv 6, iv 3, iv i4, iv v4]) rfl z_) ?_
  refine own_g (own_F T14 m 91 #[rv x, iv p1, iv tt, iv 7, rv b1, iv H4, iv 6, iv 3, iv i4, iv v4] [(.int 6)]) (fun _ z_ => XS.iload X14.here hx rfl (hb hby own_d8_89) rfl z_) ?_
  refine own_g (own_F T14 m 93 #[rv x, iv p1, iv tt, iv 7, rv b1, iv H4, iv 6, iv 3, iv i4, iv v4] [(.int 8), (.int 6)]) (fun _ z_ => XS.bipush X14.here hx rfl (hb hby own_d8_91) z_) ?_
  refine own_g (own_F T14 m 124 #[rv x, iv p1, iv tt, iv 7, rv b1, iv H4, iv 6, iv 3, iv i4, iv v4] []) (fun _ z_ => XS.icmpYes X14.here hx rfl (pc0 := 93) (pc' := 124) rfl (hb hby own_d8_93) rfl (tlt (by decide : ((6 : Int32) < (8 : Int32)))).1 (by decide) (by decide) z_) ?_
  refine own_g (own_F T14 m 127 #[rv x, iv p1, iv tt, iv 7, rv b1, iv H4, iv 6, iv 3, iv (i4 + (1 : Int32)), iv v4] []) (fun _ z_ => XS.iinc X14.here hx rfl (hb hby own_d8_124) rfl (l' := #[rv x, iv p1, iv tt, iv 7, rv b1, iv H4, iv 6, iv 3, iv (i4 + (1 : Int32)), iv v4]) rfl z_) ?_
  refine own_g (own_F T14 m 44 #[rv x, iv p1, iv tt, iv 7, rv b1, iv H4, iv 6, iv 3, iv (i4 + (1 : Int32)), iv v4] []) (fun _ z_ => XS.goto X14.here hx rfl (pc0 := 127) (pc' := 44) rfl (hb hby own_d8_127) (by decide) (by decide) z_) ?_
  have hi5 : (i4 + (1 : Int32)).toInt = ((P + 5 : Nat) : Int) := own_add1 hi4 (own_pl2 hP 5)
  generalize (i4 + (1 : Int32)) = i5 at hi5 ⊢
  refine own_g (own_F T14 m 46 #[rv x, iv p1, iv tt, iv 7, rv b1, iv H4, iv 6, iv 3, iv i5, iv v4] [(.int i5)]) (fun _ z_ => XS.iload X14.here hx rfl (hb hby own_d8_44) rfl z_) ?_
  refine own_g (own_F T14 m 47 #[rv x, iv p1, iv tt, iv 7, rv b1, iv H4, iv 6, iv 3, iv i5, iv v4] [(.int tt), (.int i5)]) (fun _ z_ => XS.iloadN X14.here hx rfl (hb hby own_d8_46) rfl z_) ?_
  refine own_g (own_F T14 m 50 #[rv x, iv p1, iv tt, iv 7, rv b1, iv H4, iv 6, iv 3, iv i5, iv v4] []) (fun _ z_ => XS.icmpNo X14.here hx rfl (hb hby own_d8_47) rfl (tlt (own_lt3 hi5 ht (Nat.add_lt_add_left (by decide) P))).2.1 z_) ?_
  refine own_g (own_F T14 m 51 #[rv x, iv p1, iv tt, iv 7, rv b1, iv H4, iv 6, iv 3, iv i5, iv v4] [(.ref x)]) (fun _ z_ => XS.aloadN X14.here hx rfl (hb hby own_d8_50) rfl rfl z_) ?_
  refine own_g (own_F T14 m 53 #[rv x, iv p1, iv tt, iv 7, rv b1, iv H4, iv 6, iv 3, iv i5, iv v4] [(.int i5), (.ref x)]) (fun _ z_ => XS.iload X14.here hx rfl (hb hby own_d8_51) rfl z_) ?_
  refine own_callV (C := "java/lang/String") (y := (⟨"java/lang/String", "charAt", "(I)C"⟩ : MethodName)) (b := x) X14 hx hZ hown (own_w hw 60) (own_w hw 61) (own_w hw 63) (own_w hw 62) (own_w hw 64) (own_w hw 7) (by decide) hh14 ((((hES.ext E1).wr W6).wr W9).wr W12) (hM := own_charAt l Z a0 hw [] x i5 zc (P + 5) 11 f sv hsv h12 n0 (Nat.le_trans (Nat.le_trans (Nat.le_trans (Nat.le_trans Z0 E1.1) (Nat.le_of_eq W6.size.symm)) (Nat.le_of_eq W9.size.symm)) (Nat.le_of_eq W12.size.symm)) hi5 (own_pl hP 5) hzc (hS.keep (((((Keep.refl _ _).ext E1).wr W6 (Or.inr sz_b1)).wr W9 (Or.inr sz_b1)).wr W12 (Or.inr sz_b1)) all0) ((((S_cs.ext E1).wr W6).wr W9).wr W12) ((((S_sf.ext E1).wr W6).wr W9).wr W12) ((((S_ad.ext E1).wr W6).wr W9).wr W12) ((((S_hi.ext E1).wr W6).wr W9).wr W12) ((((S_lo.ext E1).wr W6).wr W9).wr W12)) (W := 0) (pc := 53) (Ls := #[rv x, iv p1, iv tt, iv 7, rv b1, iv H4, iv 6, iv 3, iv i5, iv v4]) (argsL := [(.int i5)]) (rest := []) (st0 := [(.int i5), (.ref x)]) (by rw [hml]; rfl) (lenOf own_pd13 rfl) rfl (Nat.le_of_eq rfl) (hb hby own_d8_53) (by decide) (by decide) (by decide) (by decide) ?_
  intro v15 T15 L15 X15 hQ15
  obtain ⟨rfl, Nq15, hh15⟩ := hQ15
  have N15 := Fr.app N14 Nq15
  show own_Ends p e below s _ _ _ (own_F T15 m 56 #[rv x, iv p1, iv tt, iv 7, rv b1, iv H4, iv 6, iv 3, iv i5, iv v4] [(.int (f (P + 5)))])
  refine own_callS (y := (⟨"com/example/claimgate/claimgate/jose/Base64Url", "value", "(C)I"⟩ : MethodName)) X15 hx hZ hown (own_w hw 87) (own_w hw 88) (own_w hw 36) (own_w hw 89) (by decide) hh15 (hM := own_val l Z a0 hw [] _ v5 h12 n0 (Nat.le_trans (Nat.le_trans (Nat.le_trans (Nat.le_trans Z0 E1.1) (Nat.le_of_eq W6.size.symm)) (Nat.le_of_eq W9.size.symm)) (Nat.le_of_eq W12.size.symm)) hs5) (W := 0) (pc := 56) (Ls := #[rv x, iv p1, iv tt, iv 7, rv b1, iv H4, iv 6, iv 3, iv i5, iv v4]) (argsL := [(.int (f (P + 5)))]) (rest := []) (st0 := [(.int (f (P + 5)))]) (by rw [hml]; rfl) (lenOf own_pd14 rfl) rfl (Nat.le_of_eq rfl) (hb hby own_d8_56) (by decide) (by decide) (by decide) (by decide) ?_
  intro v16 T16 L16 X16 hQ16
  obtain ⟨rfl, Nq16, hh16⟩ := hQ16
  have N16 := Fr.app N15 Nq16
  show own_Ends p e below s _ _ _ (own_F T16 m 59 #[rv x, iv p1, iv tt, iv 7, rv b1, iv H4, iv 6, iv 3, iv i5, iv v4] [(.int v5)])
  refine own_g (own_F T16 m 61 #[rv x, iv p1, iv tt, iv 7, rv b1, iv H4, iv 6, iv 3, iv i5, iv v5] []) (fun _ z_ => XS.istore X16.here hx rfl (hb hby own_d8_59) rfl (l' := #[rv x, iv p1, iv tt, iv 7, rv b1, iv H4, iv 6, iv 3, iv i5, iv v5]) rfl z_) ?_
  refine own_g (own_F T16 m 63 #[rv x, iv p1, iv tt, iv 7, rv b1, iv H4, iv 6, iv 3, iv i5, iv v5] [(.int v5)]) (fun _ z_ => XS.iload X16.here hx rfl (hb hby own_d8_61) rfl z_) ?_
  refine own_g (own_F T16 m 76 #[rv x, iv p1, iv tt, iv 7, rv b1, iv H4, iv 6, iv 3, iv i5, iv v5] []) (fun _ z_ => XS.ifYes X16.here hx rfl (pc0 := 63) (pc' := 76) rfl (hb hby own_d8_63) rfl ((if0 _ _).trans (flt (own_vn (own_sym_rng hs5).2.1)).2.1) (by decide) (by decide) z_) ?_
  refine own_g (own_F T16 m 78 #[rv x, iv p1, iv tt, iv 7, rv b1, iv H4, iv 6, iv 3, iv i5, iv v5] [(.int H4)]) (fun _ z_ => XS.iload X16.here hx rfl (hb hby own_d8_76) rfl z_) ?_
  refine own_g (own_F T16 m 80 #[rv x, iv p1, iv tt, iv 7, rv b1, iv H4, iv 6, iv 3, iv i5, iv v5] [(.int 6), (.int H4)]) (fun _ z_ => XS.bipush X16.here hx rfl (hb hby own_d8_78) z_) ?_
  refine own_g (own_F T16 m 81 #[rv x, iv p1, iv tt, iv 7, rv b1, iv H4, iv 6, iv 3, iv i5, iv v5] [(.int (H4 <<< ((6 : Int32) &&& 31)))]) (fun _ z_ => XS.ishl X16.here hx rfl (hb hby own_d8_80) rfl z_) ?_
  refine own_g (own_F T16 m 83 #[rv x, iv p1, iv tt, iv 7, rv b1, iv H4, iv 6, iv 3, iv i5, iv v5] [(.int v5), (.int (H4 <<< ((6 : Int32) &&& 31)))]) (fun _ z_ => XS.iload X16.here hx rfl (hb hby own_d8_81) rfl z_) ?_
  refine own_g (own_F T16 m 84 #[rv x, iv p1, iv tt, iv 7, rv b1, iv H4, iv 6, iv 3, iv i5, iv v5] [(.int ((H4 <<< ((6 : Int32) &&& 31)) ||| v5))]) (fun _ z_ => XS.ior X16.here hx rfl (hb hby own_d8_83) rfl z_) ?_
  have hH5 : ((H4 <<< ((6 : Int32) &&& 31)) ||| v5).toInt = H4.toInt * 64 + v5.toInt := own_h6 (own_r4 hE4 hb3) (own_sym_rng hs5).2
  generalize ((H4 <<< ((6 : Int32) &&& 31)) ||| v5) = H5 at hH5 ⊢
  have hE5 : H5.toInt = y3.toInt * 16 + y4.toInt / 16 := by rw [hH5, hE4, hr5]; exact own_q1 hb3
  refine own_g (own_F T16 m 86 #[rv x, iv p1, iv tt, iv 7, rv b1, iv H5, iv 6, iv 3, iv i5, iv v5] []) (fun _ z_ => XS.istore X16.here hx rfl (hb hby own_d8_84) rfl (l' := #[rv x, iv p1, iv tt, iv 7, rv b1, iv H5, iv 6, iv 3, iv i5, iv v5]) rfl z_) ?_
  refine own_g (own_F T16 m 89 #[rv x, iv p1, iv tt, iv 7, rv b1, iv H5, iv 12, iv 3, iv i5, iv v5] []) (fun _ z_ => XS.iinc X16.here hx rfl (hb hby own_d8_86) rfl (l' := #[rv x, iv p1, iv tt, iv 7, rv b1, iv H5, iv 12, iv 3, iv i5, iv v5]) rfl z_) ?_
  refine own_g (own_F T16 m 91 #[rv x, iv p1, iv tt, iv 7, rv b1, iv H5, iv 12, iv 3, iv i5, iv v5] [(.int 12)]) (fun _ z_ => XS.iload X16.here hx rfl (hb hby own_d8_89) rfl z_) ?_
  refine own_g (own_F T16 m 93 #[rv x, iv p1, iv tt, iv 7, rv b1, iv H5, iv 12, iv 3, iv i5, iv v5] [(.int 8), (.int 12)]) (fun _ z_ => XS.bipush X16.here hx rfl (hb hby own_d8_91) z_) ?_
  refine own_g (own_F T16 m 96 #[rv x, iv p1, iv tt, iv 7, rv b1, iv H5, iv 12, iv 3, iv i5, iv v5] []) (fun _ z_ => XS.icmpNo X16.here hx rfl (hb hby own_d8_93) rfl (flt (by decide : ¬ ((12 : Int32) < (8 : Int32)))).1 z_) ?_
  refine own_g (own_F T16 m 99 #[rv x, iv p1, iv tt, iv 7, rv b1, iv H5, iv 4, iv 3, iv i5, iv v5] []) (fun _ z_ => XS.iinc X16.here hx rfl (hb hby own_d8_96) rfl (l' := #[rv x, iv p1, iv tt, iv 7, rv b1, iv H5, iv 4, iv 3, iv i5, iv v5]) rfl z_) ?_
  refine own_g (own_F T16 m 101 #[rv x, iv p1, iv tt, iv 7, rv b1, iv H5, iv 4, iv 3, iv i5, iv v5] [(.ref b1)]) (fun _ z_ => XS.aload X16.here hx rfl (hb hby own_d8_99) rfl rfl z_) ?_
  refine own_g (own_F T16 m 103 #[rv x, iv p1, iv tt, iv 7, rv b1, iv H5, iv 4, iv 3, iv i5, iv v5] [(.int 3), (.ref b1)]) (fun _ z_ => XS.iload X16.here hx rfl (hb hby own_d8_101) rfl z_) ?_
  refine own_g (own_F T16 m 106 #[rv x, iv p1, iv tt, iv 7, rv b1, iv H5, iv 4, iv 4, iv i5, iv v5] [(.int 3), (.ref b1)]) (fun _ z_ => XS.iinc X16.here hx rfl (hb hby own_d8_103) rfl (l' := #[rv x, iv p1, iv tt, iv 7, rv b1, iv H5, iv 4, iv 4, iv i5, iv v5]) rfl z_) ?_
  refine own_g (own_F T16 m 108 #[rv x, iv p1, iv tt, iv 7, rv b1, iv H5, iv 4, iv 4, iv i5, iv v5] [(.int H5), (.int 3), (.ref b1)]) (fun _ z_ => XS.iload X16.here hx rfl (hb hby own_d8_106) rfl z_) ?_
  refine own_g (own_F T16 m 110 #[rv x, iv p1, iv tt, iv 7, rv b1, iv H5, iv 4, iv 4, iv i5, iv v5] [(.int 4), (.int H5), (.int 3), (.ref b1)]) (fun _ z_ => XS.iload X16.here hx rfl (hb hby own_d8_108) rfl z_) ?_
  refine own_g (own_F T16 m 111 #[rv x, iv p1, iv tt, iv 7, rv b1, iv H5, iv 4, iv 4, iv i5, iv v5] [(.int (H5 >>> ((4 : Int32) &&& 31))), (.int 3), (.ref b1)]) (fun _ z_ => XS.ishr X16.here hx rfl (hb hby own_d8_110) rfl z_) ?_
  have hB3 : (H5 >>> ((4 : Int32) &&& 31)) = y3 := own_sh (c_ishr H5 (4 : Int32) 4 (by decide)) hE5 (own_d1 hb3 hb4)
  rw [hB3]
  refine own_g (own_F T16 m 112 #[rv x, iv p1, iv tt, iv 7, rv b1, iv H5, iv 4, iv 4, iv i5, iv v5] [(.int (y3.toInt8.toInt32)), (.int 3), (.ref b1)]) (fun _ z_ => XS.i2b X16.here hx rfl (hb hby own_d8_111) rfl z_) ?_
  refine own_bast X16 hx hZ hh16 A12 3 rfl (by decide) (y3.toInt8.toInt32) (own_narB _) (hb hby own_d8_112) ?_
  intro T17 h17 X17 e17 W17 A17
  have N17 := Fr.snoc X17 N16 ge_b1
  obtain ⟨g17, A17, q17_0, q17_1, q17_2, q17_3, q17_4⟩ : ∃ gq_ : Nat → Int32, own_A Z h17 b1 .byte 5 (fun q_ => .int (gq_ q_)) ∧ gq_ 0 = (y0.toInt8.toInt32) ∧ gq_ 1 = (y1.toInt8.toInt32) ∧ gq_ 2 = (y2.toInt8.toInt32) ∧ gq_ 3 = (y3.toInt8.toInt32) ∧ gq_ 4 = (0 : Int32) := ⟨_, A17, (show ite _ _ _ = _ from (if_neg (by decide)).trans q12_0), (show ite _ _ _ = _ from (if_neg (by decide)).trans q12_1), (show ite _ _ _ = _ from (if_neg (by decide)).trans q12_2), rfl, (show ite _ _ _ = _ from (if_neg (by decide)).trans q12_4)⟩
  show own_Ends p e below s _ _ _ (own_F T17 m 113 #[rv x, iv p1, iv tt, iv 7, rv b1, iv H5, iv 4, iv 4, iv i5, iv v5] [])
  refine own_g (own_F T17 m 115 #[rv x, iv p1, iv tt, iv 7, rv b1, iv H5, iv 4, iv 4, iv i5, iv v5] [(.int H5)]) (fun _ z_ => XS.iload X17.here hx rfl (hb hby own_d8_113) rfl z_) ?_
  refine own_g (own_F T17 m 116 #[rv x, iv p1, iv tt, iv 7, rv b1, iv H5, iv 4, iv 4, iv i5, iv v5] [(.int 1), (.int H5)]) (fun _ z_ => XS.iconst X17.here hx rfl (hb hby own_d8_115) z_) ?_
  refine own_g (own_F T17 m 118 #[rv x, iv p1, iv tt, iv 7, rv b1, iv H5, iv 4, iv 4, iv i5, iv v5] [(.int 4), (.int 1), (.int H5)]) (fun _ z_ => XS.iload X17.here hx rfl (hb hby own_d8_116) rfl z_) ?_
  refine own_g (own_F T17 m 119 #[rv x, iv p1, iv tt, iv 7, rv b1, iv H5, iv 4, iv 4, iv i5, iv v5] [(.int 16), (.int H5)]) (fun _ z_ => XS.ishl X17.here hx rfl (hb hby own_d8_118) rfl z_) ?_
  refine own_g (own_F T17 m 120 #[rv x, iv p1, iv tt, iv 7, rv b1, iv H5, iv 4, iv 4, iv i5, iv v5] [(.int 1), (.int 16), (.int H5)]) (fun _ z_ => XS.iconst X17.here hx rfl (hb hby own_d8_119) z_) ?_
  refine own_g (own_F T17 m 121 #[rv x, iv p1, iv tt, iv 7, rv b1, iv H5, iv 4, iv 4, iv i5, iv v5] [(.int 15), (.int H5)]) (fun _ z_ => XS.isub X17.here hx rfl (hb hby own_d8_120) rfl z_) ?_
  refine own_g (own_F T17 m 122 #[rv x, iv p1, iv tt, iv 7, rv b1, iv H5, iv 4, iv 4, iv i5, iv v5] [(.int (H5 &&& (15 : Int32)))]) (fun _ z_ => XS.iand X17.here hx rfl (hb hby own_d8_121) rfl z_) ?_
  have hG5 : (H5 &&& (15 : Int32)).toInt = y4.toInt / 16 := own_mk (c_mask H5 (15 : Int32) 4 (by decide) (by decide)) hE5 (own_e1 hb4)
  generalize (H5 &&& (15 : Int32)) = G5 at hG5 ⊢
  refine own_g (own_F T17 m 124 #[rv x, iv p1, iv tt, iv 7, rv b1, iv G5, iv 4, iv 4, iv i5, iv v5] []) (fun _ z_ => XS.istore X17.here hx rfl (hb hby own_d8_122) rfl (l' := #[rv x, iv p1, iv tt, iv 7, rv b1, iv G5, iv 4, iv 4, iv i5, iv v5]) rfl z_) ?_
  refine own_g (own_F T17 m 127 #[rv x, iv p1, iv tt, iv 7, rv b1, iv G5, iv 4, iv 4, iv (i5 + (1 : Int32)), iv v5] []) (fun _ z_ => XS.iinc X17.here hx rfl (hb hby own_d8_124) rfl (l' := #[rv x, iv p1, iv tt, iv 7, rv b1, iv G5, iv 4, iv 4, iv (i5 + (1 : Int32)), iv v5]) rfl z_) ?_
  refine own_g (own_F T17 m 44 #[rv x, iv p1, iv tt, iv 7, rv b1, iv G5, iv 4, iv 4, iv (i5 + (1 : Int32)), iv v5] []) (fun _ z_ => XS.goto X17.here hx rfl (pc0 := 127) (pc' := 44) rfl (hb hby own_d8_127) (by decide) (by decide) z_) ?_
  have hi6 : (i5 + (1 : Int32)).toInt = ((P + 6 : Nat) : Int) := own_add1 hi5 (own_pl2 hP 6)
  generalize (i5 + (1 : Int32)) = i6 at hi6 ⊢
  refine own_g (own_F T17 m 46 #[rv x, iv p1, iv tt, iv 7, rv b1, iv G5, iv 4, iv 4, iv i6, iv v5] [(.int i6)]) (fun _ z_ => XS.iload X17.here hx rfl (hb hby own_d8_44) rfl z_) ?_
  refine own_g (own_F T17 m 47 #[rv x, iv p1, iv tt, iv 7, rv b1, iv G5, iv 4, iv 4, iv i6, iv v5] [(.int tt), (.int i6)]) (fun _ z_ => XS.iloadN X17.here hx rfl (hb hby own_d8_46) rfl z_) ?_
  refine own_g (own_F T17 m 50 #[rv x, iv p1, iv tt, iv 7, rv b1, iv G5, iv 4, iv 4, iv i6, iv v5] []) (fun _ z_ => XS.icmpNo X17.here hx rfl (hb hby own_d8_47) rfl (tlt (own_lt3 hi6 ht (Nat.add_lt_add_left (by decide) P))).2.1 z_) ?_
  refine own_g (own_F T17 m 51 #[rv x, iv p1, iv tt, iv 7, rv b1, iv G5, iv 4, iv 4, iv i6, iv v5] [(.ref x)]) (fun _ z_ => XS.aloadN X17.here hx rfl (hb hby own_d8_50) rfl rfl z_) ?_
  refine own_g (own_F T17 m 53 #[rv x, iv p1, iv tt, iv 7, rv b1, iv G5, iv 4, iv 4, iv i6, iv v5] [(.int i6), (.ref x)]) (fun _ z_ => XS.iload X17.here hx rfl (hb hby own_d8_51) rfl z_) ?_
  refine own_callV (C := "java/lang/String") (y := (⟨"java/lang/String", "charAt", "(I)C"⟩ : MethodName)) (b := x) X17 hx hZ hown (own_w hw 60) (own_w hw 61) (own_w hw 63) (own_w hw 62) (own_w hw 64) (own_w hw 7) (by decide) e17 (((((hES.ext E1).wr W6).wr W9).wr W12).wr W17) (hM := own_charAt l Z a0 hw [] x i6 zc (P + 6) 11 f sv hsv h17 n0 (Nat.le_trans (Nat.le_trans (Nat.le_trans (Nat.le_trans (Nat.le_trans Z0 E1.1) (Nat.le_of_eq W6.size.symm)) (Nat.le_of_eq W9.size.symm)) (Nat.le_of_eq W12.size.symm)) (Nat.le_of_eq W17.size.symm)) hi6 (own_pl hP 6) hzc (hS.keep ((((((Keep.refl _ _).ext E1).wr W6 (Or.inr sz_b1)).wr W9 (Or.inr sz_b1)).wr W12 (Or.inr sz_b1)).wr W17 (Or.inr sz_b1)) all0) (((((S_cs.ext E1).wr W6).wr W9).wr W12).wr W17) (((((S_sf.ext E1).wr W6).wr W9).wr W12).wr W17) (((((S_ad.ext E1).wr W6).wr W9).wr W12).wr W17) (((((S_hi.ext E1).wr W6).wr W9).wr W12).wr W17) (((((S_lo.ext E1).wr W6).wr W9).wr W12).wr W17)) (W := 0) (pc := 53) (Ls := #[rv x, iv p1, iv tt, iv 7, rv b1, iv G5, iv 4, iv 4, iv i6, iv v5]) (argsL := [(.int i6)]) (rest := []) (st0 := [(.int i6), (.ref x)]) (by rw [hml]; rfl) (lenOf own_pd13 rfl) rfl (Nat.le_of_eq rfl) (hb hby own_d8_53) (by decide) (by decide) (by decide) (by decide) ?_
  intro v18 T18 L18 X18 hQ18
  obtain ⟨rfl, Nq18, hh18⟩ := hQ18
  have N18 := Fr.app N17 Nq18
  show own_Ends p e below s _ _ _ (own_F T18 m 56 #[rv x, iv p1, iv tt, iv 7, rv b1, iv G5, iv 4, iv 4, iv i6, iv v5] [(.int (f (P + 6)))])
  refine own_callS (y := (⟨"com/example/claimgate/claimgate/jose/Base64Url", "value", "(C)I"⟩ : MethodName)) X18 hx hZ hown (own_w hw 87) (own_w hw 88) (own_w hw 36) (own_w hw 89) (by decide) hh18 (hM := own_val l Z a0 hw [] _ v6 h17 n0 (Nat.le_trans (Nat.le_trans (Nat.le_trans (Nat.le_trans (Nat.le_trans Z0 E1.1) (Nat.le_of_eq W6.size.symm)) (Nat.le_of_eq W9.size.symm)) (Nat.le_of_eq W12.size.symm)) (Nat.le_of_eq W17.size.symm)) hs6) (W := 0) (pc := 56) (Ls := #[rv x, iv p1, iv tt, iv 7, rv b1, iv G5, iv 4, iv 4, iv i6, iv v5]) (argsL := [(.int (f (P + 6)))]) (rest := []) (st0 := [(.int (f (P + 6)))]) (by rw [hml]; rfl) (lenOf own_pd14 rfl) rfl (Nat.le_of_eq rfl) (hb hby own_d8_56) (by decide) (by decide) (by decide) (by decide) ?_
  intro v19 T19 L19 X19 hQ19
  obtain ⟨rfl, Nq19, hh19⟩ := hQ19
  have N19 := Fr.app N18 Nq19
  show own_Ends p e below s _ _ _ (own_F T19 m 59 #[rv x, iv p1, iv tt, iv 7, rv b1, iv G5, iv 4, iv 4, iv i6, iv v5] [(.int v6)])
  refine own_g (own_F T19 m 61 #[rv x, iv p1, iv tt, iv 7, rv b1, iv G5, iv 4, iv 4, iv i6, iv v6] []) (fun _ z_ => XS.istore X19.here hx rfl (hb hby own_d8_59) rfl (l' := #[rv x, iv p1, iv tt, iv 7, rv b1, iv G5, iv 4, iv 4, iv i6, iv v6]) rfl z_) ?_
  refine own_g (own_F T19 m 63 #[rv x, iv p1, iv tt, iv 7, rv b1, iv G5, iv 4, iv 4, iv i6, iv v6] [(.int v6)]) (fun _ z_ => XS.iload X19.here hx rfl (hb hby own_d8_61) rfl z_) ?_
  refine own_g (own_F T19 m 76 #[rv x, iv p1, iv tt, iv 7, rv b1, iv G5, iv 4, iv 4, iv i6, iv v6] []) (fun _ z_ => XS.ifYes X19.here hx rfl (pc0 := 63) (pc' := 76) rfl (hb hby own_d8_63) rfl ((if0 _ _).trans (flt (own_vn (own_sym_rng hs6).2.1)).2.1) (by decide) (by decide) z_) ?_
  refine own_g (own_F T19 m 78 #[rv x, iv p1, iv tt, iv 7, rv b1, iv G5, iv 4, iv 4, iv i6, iv v6] [(.int G5)]) (fun _ z_ => XS.iload X19.here hx rfl (hb hby own_d8_76) rfl z_) ?_
  refine own_g (own_F T19 m 80 #[rv x, iv p1, iv tt, iv 7, rv b1, iv G5, iv 4, iv 4, iv i6, iv v6] [(.int 6), (.int G5)]) (fun _ z_ => XS.bipush X19.here hx rfl (hb hby own_d8_78) z_) ?_
  refine own_g (own_F T19 m 81 #[rv x, iv p1, iv tt, iv 7, rv b1, iv G5, iv 4, iv 4, iv i6, iv v6] [(.int (G5 <<< ((6 : Int32) &&& 31)))]) (fun _ z_ => XS.ishl X19.here hx rfl (hb hby own_d8_80) rfl z_) ?_
  refine own_g (own_F T19 m 83 #[rv x, iv p1, iv tt, iv 7, rv b1, iv G5, iv 4, iv 4, iv i6, iv v6] [(.int v6), (.int (G5 <<< ((6 : Int32) &&& 31)))]) (fun _ z_ => XS.iload X19.here hx rfl (hb hby own_d8_81) rfl z_) ?_
  refine own_g (own_F T19 m 84 #[rv x, iv p1, iv tt, iv 7, rv b1, iv G5, iv 4, iv 4, iv i6, iv v6] [(.int ((G5 <<< ((6 : Int32) &&& 31)) ||| v6))]) (fun _ z_ => XS.ior X19.here hx rfl (hb hby own_d8_83) rfl z_) ?_
  have hH6 : ((G5 <<< ((6 : Int32) &&& 31)) ||| v6).toInt = G5.toInt * 64 + v6.toInt := own_h6 (own_r16 hG5 hb4) (own_sym_rng hs6).2
  generalize ((G5 <<< ((6 : Int32) &&& 31)) ||| v6) = H6 at hH6 ⊢
  have hE6 : H6.toInt = y4.toInt * 4 := by rw [hH6, hG5, hr6]; exact own_q6 hb4
  refine own_g (own_F T19 m 86 #[rv x, iv p1, iv tt, iv 7, rv b1, iv H6, iv 4, iv 4, iv i6, iv v6] []) (fun _ z_ => XS.istore X19.here hx rfl (hb hby own_d8_84) rfl (l' := #[rv x, iv p1, iv tt, iv 7, rv b1, iv H6, iv 4, iv 4, iv i6, iv v6]) rfl z_) ?_
  refine own_g (own_F T19 m 89 #[rv x, iv p1, iv tt, iv 7, rv b1, iv H6, iv 10, iv 4, iv i6, iv v6] []) (fun _ z_ => XS.iinc X19.here hx rfl (hb hby own_d8_86) rfl (l' := #[rv x, iv p1, iv tt, iv 7, rv b1, iv H6, iv 10, iv 4, iv i6, iv v6]) rfl z_) ?_
  refine own_g (own_F T19 m 91 #[rv x, iv p1, iv tt, iv 7, rv b1, iv H6, iv 10, iv 4, iv i6, iv v6] [(.int 10)]) (fun _ z_ => XS.iload X19.here hx rfl (hb hby own_d8_89) rfl z_) ?_
  refine own_g (own_F T19 m 93 #[rv x, iv p1, iv tt, iv 7, rv b1, iv H6, iv 10, iv 4, iv i6, iv v6] [(.int 8), (.int 10)]) (fun _ z_ => XS.bipush X19.here hx rfl (hb hby own_d8_91) z_) ?_
  refine own_g (own_F T19 m 96 #[rv x, iv p1, iv tt, iv 7, rv b1, iv H6, iv 10, iv 4, iv i6, iv v6] []) (fun _ z_ => XS.icmpNo X19.here hx rfl (hb hby own_d8_93) rfl (flt (by decide : ¬ ((10 : Int32) < (8 : Int32)))).1 z_) ?_
  refine own_g (own_F T19 m 99 #[rv x, iv p1, iv tt, iv 7, rv b1, iv H6, iv 2, iv 4, iv i6, iv v6] []) (fun _ z_ => XS.iinc X19.here hx rfl (hb hby own_d8_96) rfl (l' := #[rv x, iv p1, iv tt, iv 7, rv b1, iv H6, iv 2, iv 4, iv i6, iv v6]) rfl z_) ?_
  refine own_g (own_F T19 m 101 #[rv x, iv p1, iv tt, iv 7, rv b1, iv H6, iv 2, iv 4, iv i6, iv v6] [(.ref b1)]) (fun _ z_ => XS.aload X19.here hx rfl (hb hby own_d8_99) rfl rfl z_) ?_
  refine own_g (own_F T19 m 103 #[rv x, iv p1, iv tt, iv 7, rv b1, iv H6, iv 2, iv 4, iv i6, iv v6] [(.int 4), (.ref b1)]) (fun _ z_ => XS.iload X19.here hx rfl (hb hby own_d8_101) rfl z_) ?_
  refine own_g (own_F T19 m 106 #[rv x, iv p1, iv tt, iv 7, rv b1, iv H6, iv 2, iv 5, iv i6, iv v6] [(.int 4), (.ref b1)]) (fun _ z_ => XS.iinc X19.here hx rfl (hb hby own_d8_103) rfl (l' := #[rv x, iv p1, iv tt, iv 7, rv b1, iv H6, iv 2, iv 5, iv i6, iv v6]) rfl z_) ?_
  refine own_g (own_F T19 m 108 #[rv x, iv p1, iv tt, iv 7, rv b1, iv H6, iv 2, iv 5, iv i6, iv v6] [(.int H6), (.int 4), (.ref b1)]) (fun _ z_ => XS.iload X19.here hx rfl (hb hby own_d8_106) rfl z_) ?_
  refine own_g (own_F T19 m 110 #[rv x, iv p1, iv tt, iv 7, rv b1, iv H6, iv 2, iv 5, iv i6, iv v6] [(.int 2), (.int H6), (.int 4), (.ref b1)]) (fun _ z_ => XS.iload X19.here hx rfl (hb hby own_d8_108) rfl z_) ?_
  refine own_g (own_F T19 m 111 #[rv x, iv p1, iv tt, iv 7, rv b1, iv H6, iv 2, iv 5, iv i6, iv v6] [(.int (H6 >>> ((2 : Int32) &&& 31))), (.int 4), (.ref b1)]) (fun _ z_ => XS.ishr X19.here hx rfl (hb hby own_d8_110) rfl z_) ?_
  have hB4 : (H6 >>> ((2 : Int32) &&& 31)) = y4 := own_sh (c_ishr H6 (2 : Int32) 2 (by decide)) hE6 (own_d6 _)
  rw [hB4]
  refine own_g (own_F T19 m 112 #[rv x, iv p1, iv tt, iv 7, rv b1, iv H6, iv 2, iv 5, iv i6, iv v6] [(.int (y4.toInt8.toInt32)), (.int 4), (.ref b1)]) (fun _ z_ => XS.i2b X19.here hx rfl (hb hby own_d8_111) rfl z_) ?_
  refine own_bast X19 hx hZ hh19 A17 4 rfl (by decide) (y4.toInt8.toInt32) (own_narB _) (hb hby own_d8_112) ?_
  intro T20 h20 X20 e20 W20 A20
  have N20 := Fr.snoc X20 N19 ge_b1
  obtain ⟨g20, A20, q20_0, q20_1, q20_2, q20_3, q20_4⟩ : ∃ gq_ : Nat → Int32, own_A Z h20 b1 .byte 5 (fun q_ => .int (gq_ q_)) ∧ gq_ 0 = (y0.toInt8.toInt32) ∧ gq_ 1 = (y1.toInt8.toInt32) ∧ gq_ 2 = (y2.toInt8.toInt32) ∧ gq_ 3 = (y3.toInt8.toInt32) ∧ gq_ 4 = (y4.toInt8.toInt32) := ⟨_, A20, (show ite _ _ _ = _ from (if_neg (by decide)).trans q17_0), (show ite _ _ _ = _ from (if_neg (by decide)).trans q17_1), (show ite _ _ _ = _ from (if_neg (by decide)).trans q17_2), (show ite _ _ _ = _ from (if_neg (by decide)).trans q17_3), rfl⟩
  show own_Ends p e below s _ _ _ (own_F T20 m 113 #[rv x, iv p1, iv tt, iv 7, rv b1, iv H6, iv 2, iv 5, iv i6, iv v6] [])
  refine own_g (own_F T20 m 115 #[rv x, iv p1, iv tt, iv 7, rv b1, iv H6, iv 2, iv 5, iv i6, iv v6] [(.int H6)]) (fun _ z_ => XS.iload X20.here hx rfl (hb hby own_d8_113) rfl z_) ?_
  refine own_g (own_F T20 m 116 #[rv x, iv p1, iv tt, iv 7, rv b1, iv H6, iv 2, iv 5, iv i6, iv v6] [(.int 1), (.int H6)]) (fun _ z_ => XS.iconst X20.here hx rfl (hb hby own_d8_115) z_) ?_
  refine own_g (own_F T20 m 118 #[rv x, iv p1, iv tt, iv 7, rv b1, iv H6, iv 2, iv 5, iv i6, iv v6] [(.int 2), (.int 1), (.int H6)]) (fun _ z_ => XS.iload X20.here hx rfl (hb hby own_d8_116) rfl z_) ?_
  refine own_g (own_F T20 m 119 #[rv x, iv p1, iv tt, iv 7, rv b1, iv H6, iv 2, iv 5, iv i6, iv v6] [(.int 4), (.int H6)]) (fun _ z_ => XS.ishl X20.here hx rfl (hb hby own_d8_118) rfl z_) ?_
  refine own_g (own_F T20 m 120 #[rv x, iv p1, iv tt, iv 7, rv b1, iv H6, iv 2, iv 5, iv i6, iv v6] [(.int 1), (.int 4), (.int H6)]) (fun _ z_ => XS.iconst X20.here hx rfl (hb hby own_d8_119) z_) ?_
  refine own_g (own_F T20 m 121 #[rv x, iv p1, iv tt, iv 7, rv b1, iv H6, iv 2, iv 5, iv i6, iv v6] [(.int 3), (.int H6)]) (fun _ z_ => XS.isub X20.here hx rfl (hb hby own_d8_120) rfl z_) ?_
  refine own_g (own_F T20 m 122 #[rv x, iv p1, iv tt, iv 7, rv b1, iv H6, iv 2, iv 5, iv i6, iv v6] [(.int (H6 &&& (3 : Int32)))]) (fun _ z_ => XS.iand X20.here hx rfl (hb hby own_d8_121) rfl z_) ?_
  have hG6 : (H6 &&& (3 : Int32)).toInt = 0 := own_mk (c_mask H6 (3 : Int32) 2 (by decide) (by decide)) hE6 (own_e6 _)
  generalize (H6 &&& (3 : Int32)) = G6 at hG6 ⊢
  refine own_g (own_F T20 m 124 #[rv x, iv p1, iv tt, iv 7, rv b1, iv G6, iv 2, iv 5, iv i6, iv v6] []) (fun _ z_ => XS.istore X20.here hx rfl (hb hby own_d8_122) rfl (l' := #[rv x, iv p1, iv tt, iv 7, rv b1, iv G6, iv 2, iv 5, iv i6, iv v6]) rfl z_) ?_
  refine own_g (own_F T20 m 127 #[rv x, iv p1, iv tt, iv 7, rv b1, iv G6, iv 2, iv 5, iv (i6 + (1 : Int32)), iv v6] []) (fun _ z_ => XS.iinc X20.here hx rfl (hb hby own_d8_124) rfl (l' := #[rv x, iv p1, iv tt, iv 7, rv b1, iv G6, iv 2, iv 5, iv (i6 + (1 : Int32)), iv v6]) rfl z_) ?_
  refine own_g (own_F T20 m 44 #[rv x, iv p1, iv tt, iv 7, rv b1, iv G6, iv 2, iv 5, iv (i6 + (1 : Int32)), iv v6] []) (fun _ z_ => XS.goto X20.here hx rfl (pc0 := 127) (pc' := 44) rfl (hb hby own_d8_127) (by decide) (by decide) z_) ?_
  have hi7 : (i6 + (1 : Int32)).toInt = ((P + 7 : Nat) : Int) := own_add1 hi6 (own_pl2 hP 7)
  generalize (i6 + (1 : Int32)) = i7 at hi7 ⊢
  refine own_g (own_F T20 m 46 #[rv x, iv p1, iv tt, iv 7, rv b1, iv G6, iv 2, iv 5, iv i7, iv v6] [(.int i7)]) (fun _ z_ => XS.iload X20.here hx rfl (hb hby own_d8_44) rfl z_) ?_
  refine own_g (own_F T20 m 47 #[rv x, iv p1, iv tt, iv 7, rv b1, iv G6, iv 2, iv 5, iv i7, iv v6] [(.int tt), (.int i7)]) (fun _ z_ => XS.iloadN X20.here hx rfl (hb hby own_d8_46) rfl z_) ?_
  refine own_g (own_F T20 m 130 #[rv x, iv p1, iv tt, iv 7, rv b1, iv G6, iv 2, iv 5, iv i7, iv v6] []) (fun _ z_ => XS.icmpYes X20.here hx rfl (pc0 := 47) (pc' := 130) rfl (hb hby own_d8_47) rfl (flt (own_ge3 hi7 ht (Nat.le_refl _))).2.1 (by decide) (by decide) z_) ?_
  refine own_g (own_F T20 m 132 #[rv x, iv p1, iv tt, iv 7, rv b1, iv G6, iv 2, iv 5, iv i7, iv v6] [(.int G6)]) (fun _ z_ => XS.iload X20.here hx rfl (hb hby own_d8_130) rfl z_) ?_
  refine own_g (own_F T20 m 145 #[rv x, iv p1, iv tt, iv 7, rv b1, iv G6, iv 2, iv 5, iv i7, iv v6] []) (fun _ z_ => XS.ifYes X20.here hx rfl (pc0 := 132) (pc' := 145) rfl (hb hby own_d8_132) rfl ((if0 _ _).trans (teq (own_z0 hG6)).1) (by decide) (by decide) z_) ?_
  refine own_g (own_F T20 m 147 #[rv x, iv p1, iv tt, iv 7, rv b1, iv G6, iv 2, iv 5, iv i7, iv v6] [(.ref b1)]) (fun _ z_ => XS.aload X20.here hx rfl (hb hby own_d8_145) rfl rfl z_) ?_
  refine own_ret (t := (.array .byte)) X20 hx hlk hrt rfl (Or.inr (Or.inr (Or.inr (Or.inr ⟨rfl, rfl, rfl⟩)))) (hb hby own_d8_147) (by decide) (by decide) ?_
  show ∃ (r : Addr) (g : Nat → Int32), _ ∧ Fr n0 _ ∧ Keep h0 T20.heap [] ∧ n0 ≤ r ∧ own_A Z T20.heap r .byte 5 (fun i => .int (g i)) ∧ _
  rw [e20]
  exact ⟨b1, _, rfl, N20, (((((((Keep.refl _ _).ext E1).wr W6 (Or.inr sz_b1)).wr W9 (Or.inr sz_b1)).wr W12 (Or.inr sz_b1)).wr W17 (Or.inr sz_b1)).wr W20 (Or.inr sz_b1)), ge_b1, A20, q20_0, q20_1, q20_2, q20_3, q20_4⟩
set_option maxRecDepth 65536 in
set_option maxHeartbeats 40000000 in
theorem own_law (l : Launch) (Z : State) (a0 : Array Value) (hw : ∀ d ∈ tables_1, d.before a0 Z = true) (ws : List Jvm.Cond) (i0 i1 i2 i3 zc : Int32) (sv : Value) (hsv : sv.isRef = true) (h0 : Heap) (n0 : Nat) (Z0 : n0 ≤ h0.size) (hzc : ¬ zc = (0 : Int32)) (S_cs : Sta Z h0 "java/lang/String" "COMPACT_STRINGS" "Z" (.int zc)) (S_sf : Sta Z h0 "jdk/internal/util/Preconditions" "SIOOBE_FORMATTER" "Ljava/util/function/BiFunction;" sv) (S_ad : Sta Z h0 "java/lang/StringUTF16" "$assertionsDisabled" "Z" (.int (1 : Int32))) (S_hi : Sta Z h0 "java/lang/StringUTF16" "HI_BYTE_SHIFT" "I" (.int (0 : Int32))) (S_lo : Sta Z h0 "java/lang/StringUTF16" "LO_BYTE_SHIFT" "I" (.int (8 : Int32))) :
    own_Met l Z x code maxLocals ret ws room_1 #[(.int i0), (.int i1), (.int i2), (.int i3)] h0 (fun v h L => v = some (.int 1) ∧ Fr n0 L) := by
  refine own_body own_pn22 (fun m => mkF m 0 #[iv i0, iv i1, iv i2, iv i3, .unset, .unset, .unset, .unset, .unset, .unset, .unset, .unset, .unset, .unset, .unset] []) (fun m => own_ef_own_law m i0 i1 i2 i3) ?_
  intro p e s m below meth c T0 hx hby hml hlk hrt hZ hown hnm X0 e0
  have hown : s.vm.findClass "com/example/claimgate/claimgate/jose/Base64UrlDecodePinLaw" = some m.cls := hown
  have N0 := Fr.nil n0
  have J124 : ∀ (nq kq p1 y0 y1 y2 y3 y4 : Int32) (P : Nat) (hp : p1.toInt = (P : Int)) (hP : P ≤ 3) (hb0 : 0 ≤ y0.toInt ∧ y0.toInt ≤ 255) (hb1 : 0 ≤ y1.toInt ∧ y1.toInt ≤ 255) (hb2 : 0 ≤ y2.toInt ∧ y2.toInt ≤ 255) (hb3 : 0 ≤ y3.toInt ∧ y3.toInt ≤ 255) (hb4 : 0 ≤ y4.toInt ∧ y4.toInt ≤ 255) (hcase : (nq = 0 ∧ kq = 0 ∧ (0 ≤ y0.toInt ∧ y0.toInt ≤ 0) ∧ (0 ≤ y1.toInt ∧ y1.toInt ≤ 0) ∧ (0 ≤ y2.toInt ∧ y2.toInt ≤ 0) ∧ (0 ≤ y3.toInt ∧ y3.toInt ≤ 0) ∧ (0 ≤ y4.toInt ∧ y4.toInt ≤ 0)) ∨ (nq = 1 ∧ kq = 2 ∧ (0 ≤ y0.toInt ∧ y0.toInt ≤ 255) ∧ (0 ≤ y1.toInt ∧ y1.toInt ≤ 0) ∧ (0 ≤ y2.toInt ∧ y2.toInt ≤ 0) ∧ (0 ≤ y3.toInt ∧ y3.toInt ≤ 0) ∧ (0 ≤ y4.toInt ∧ y4.toInt ≤ 0)) ∨ (nq = 2 ∧ kq = 3 ∧ (0 ≤ y0.toInt ∧ y0.toInt ≤ 255) ∧ (0 ≤ y1.toInt ∧ y1.toInt ≤ 255) ∧ (0 ≤ y2.toInt ∧ y2.toInt ≤ 0) ∧ (0 ≤ y3.toInt ∧ y3.toInt ≤ 0) ∧ (0 ≤ y4.toInt ∧ y4.toInt ≤ 0)) ∨ (nq = 3 ∧ kq = 4 ∧ (0 ≤ y0.toInt ∧ y0.toInt ≤ 255) ∧ (0 ≤ y1.toInt ∧ y1.toInt ≤ 255) ∧ (0 ≤ y2.toInt ∧ y2.toInt ≤ 255) ∧ (0 ≤ y3.toInt ∧ y3.toInt ≤ 0) ∧ (0 ≤ y4.toInt ∧ y4.toInt ≤ 0)) ∨ (nq = 4 ∧ kq = 6 ∧ (0 ≤ y0.toInt ∧ y0.toInt ≤ 255) ∧ (0 ≤ y1.toInt ∧ y1.toInt ≤ 255) ∧ (0 ≤ y2.toInt ∧ y2.toInt ≤ 255) ∧ (0 ≤ y3.toInt ∧ y3.toInt ≤ 255) ∧ (0 ≤ y4.toInt ∧ y4.toInt ≤ 0)) ∨ (nq = 5 ∧ kq = 7 ∧ (0 ≤ y0.toInt ∧ y0.toInt ≤ 255) ∧ (0 ≤ y1.toInt ∧ y1.toInt ≤ 255) ∧ (0 ≤ y2.toInt ∧ y2.toInt ≤ 255) ∧ (0 ≤ y3.toInt ∧ y3.toInt ≤ 255) ∧ (0 ≤ y4.toInt ∧ y4.toInt ≤ 255))), own_Ends p e below s (fun v h L => v = some (.int 1) ∧ Fr n0 L) room_1.cells room_1.slots (own_F T0 m 124 #[iv i0, iv i1, iv i2, iv i3, iv nq, iv p1, iv y0, iv y1, iv y2, iv y3, iv y4, iv kq, .unset, .unset, .unset] []) := by
   intro nq kq p1 y0 y1 y2 y3 y4 P hp hP hb0 hb1 hb2 hb3 hb4 hcase
   refine own_g (own_F T0 m 126 #[iv i0, iv i1, iv i2, iv i3, iv nq, iv p1, iv y0, iv y1, iv y2, iv y3, iv y4, iv kq, .unset, .unset, .unset] [(.int 7)]) (fun _ z_ => XS.bipush X0.here hx rfl (hb hby at_124) z_) ?_
   refine own_newA X0 hx hZ .char rfl (own_w hw 0) e0 (hb hby at_126) 7 rfl 7 (by decide) (by decide) (by decide) (by decide) ?_
   intro T1 h1 b1 X1 e1 E1 g1 A1
   have sz_b1 : h0.size ≤ b1 := Nat.le_trans (Nat.le_refl h0.size) (Nat.le_of_eq g1.symm)
   have ge_b1 : n0 ≤ b1 := Nat.le_trans Z0 (Nat.le_of_eq g1.symm)
   have A1 : own_A Z h1 b1 .char 7 (fun q_ => .int ((fun _ => (0 : Int32)) q_)) := A1
   show own_Ends p e below s _ _ _ (own_F T1 m 128 #[iv i0, iv i1, iv i2, iv i3, iv nq, iv p1, iv y0, iv y1, iv y2, iv y3, iv y4, iv kq, .unset, .unset, .unset] [(.ref b1)])
   refine own_g (own_F T1 m 130 #[iv i0, iv i1, iv i2, iv i3, iv nq, iv p1, iv y0, iv y1, iv y2, iv y3, iv y4, iv kq, rv b1, .unset, .unset] []) (fun _ z_ => XS.astore X1.here hx rfl (hb hby at_128) rfl rfl (l' := #[iv i0, iv i1, iv i2, iv i3, iv nq, iv p1, iv y0, iv y1, iv y2, iv y3, iv y4, iv kq, rv b1, .unset, .unset]) rfl z_) ?_
   refine own_g (own_F T1 m 132 #[iv i0, iv i1, iv i2, iv i3, iv nq, iv p1, iv y0, iv y1, iv y2, iv y3, iv y4, iv kq, rv b1, .unset, .unset] [(.ref b1)]) (fun _ z_ => XS.aload X1.here hx rfl (hb hby at_130) rfl rfl z_) ?_
   refine own_g (own_F T1 m 133 #[iv i0, iv i1, iv i2, iv i3, iv nq, iv p1, iv y0, iv y1, iv y2, iv y3, iv y4, iv kq, rv b1, .unset, .unset] [(.int 0), (.ref b1)]) (fun _ z_ => XS.iconst X1.here hx rfl (hb hby at_132) z_) ?_
   refine own_g (own_F T1 m 135 #[iv i0, iv i1, iv i2, iv i3, iv nq, iv p1, iv y0, iv y1, iv y2, iv y3, iv y4, iv kq, rv b1, .unset, .unset] [(.int y0), (.int 0), (.ref b1)]) (fun _ z_ => XS.iload X1.here hx rfl (hb hby at_133) rfl z_) ?_
   refine own_g (own_F T1 m 136 #[iv i0, iv i1, iv i2, iv i3, iv nq, iv p1, iv y0, iv y1, iv y2, iv y3, iv y4, iv kq, rv b1, .unset, .unset] [(.int 2), (.int y0), (.int 0), (.ref b1)]) (fun _ z_ => XS.iconst X1.here hx rfl (hb hby at_135) z_) ?_
   refine own_g (own_F T1 m 137 #[iv i0, iv i1, iv i2, iv i3, iv nq, iv p1, iv y0, iv y1, iv y2, iv y3, iv y4, iv kq, rv b1, .unset, .unset] [(.int (y0 >>> ((2 : Int32) &&& 31))), (.int 0), (.ref b1)]) (fun _ z_ => XS.ishr X1.here hx rfl (hb hby at_136) rfl z_) ?_
   have hr0 : (y0 >>> ((2 : Int32) &&& 31)).toInt = y0.toInt / 4 := own_s2
   generalize (y0 >>> ((2 : Int32) &&& 31)) = v0 at hr0 ⊢
   refine own_callS (y := (⟨"com/example/claimgate/claimgate/jose/Base64UrlDecodePinLaw", "sym", "(I)C"⟩ : MethodName)) X1 hx hZ hown (own_w hw 1) (own_w hw 2) (own_w hw 3) (own_w hw 4) (by decide) e1 (hM := own_symc l Z a0 hw [] v0 h1 n0 (Nat.le_trans Z0 E1.1) (own_k4 hr0 hb0)) (W := 2) (pc := 137) (Ls := #[iv i0, iv i1, iv i2, iv i3, iv nq, iv p1, iv y0, iv y1, iv y2, iv y3, iv y4, iv kq, rv b1, .unset, .unset]) (argsL := [(.int v0)]) (rest := [(.int 0), (.ref b1)]) (st0 := [(.int v0), (.int 0), (.ref b1)]) (by rw [hml]; rfl) (lenOf own_pd13 rfl) rfl (Nat.le_of_eq rfl) (hb hby at_137) (by decide) (by decide) (by decide) (by decide) ?_
   intro v2 T2 L2 X2 hQ2
   obtain ⟨c0_, rfl, hs0, Nq2, hh2⟩ := hQ2
   have N2 := Fr.app N0 Nq2
   show own_Ends p e below s _ _ _ (own_F T2 m 140 #[iv i0, iv i1, iv i2, iv i3, iv nq, iv p1, iv y0, iv y1, iv y2, iv y3, iv y4, iv kq, rv b1, .unset, .unset] [(.int c0_), (.int 0), (.ref b1)])
   refine own_cast X2 hx hZ hh2 A1 0 rfl (by decide) c0_ (own_narC (own_sym_rng hs0).1) (hb hby at_140) ?_
   intro T3 h3 X3 e3 W3 A3
   have N3 := Fr.snoc X3 N2 ge_b1
   obtain ⟨g3, A3, q3_0, q3_1, q3_2, q3_3, q3_4, q3_5, q3_6⟩ : ∃ gq_ : Nat → Int32, own_A Z h3 b1 .char 7 (fun q_ => .int (gq_ q_)) ∧ gq_ 0 = c0_ ∧ gq_ 1 = (0 : Int32) ∧ gq_ 2 = (0 : Int32) ∧ gq_ 3 = (0 : Int32) ∧ gq_ 4 = (0 : Int32) ∧ gq_ 5 = (0 : Int32) ∧ gq_ 6 = (0 : Int32) := ⟨_, A3, rfl, (show ite _ _ _ = _ from (if_neg (by decide)).trans rfl), (show ite _ _ _ = _ from (if_neg (by decide)).trans rfl), (show ite _ _ _ = _ from (if_neg (by decide)).trans rfl), (show ite _ _ _ = _ from (if_neg (by decide)).trans rfl), (show ite _ _ _ = _ from (if_neg (by decide)).trans rfl), (show ite _ _ _ = _ from (if_neg (by decide)).trans rfl)⟩
   show own_Ends p e below s _ _ _ (own_F T3 m 141 #[iv i0, iv i1, iv i2, iv i3, iv nq, iv p1, iv y0, iv y1, iv y2, iv y3, iv y4, iv kq, rv b1, .unset, .unset] [])
   refine own_g (own_F T3 m 143 #[iv i0, iv i1, iv i2, iv i3, iv nq, iv p1, iv y0, iv y1, iv y2, iv y3, iv y4, iv kq, rv b1, .unset, .unset] [(.ref b1)]) (fun _ z_ => XS.aload X3.here hx rfl (hb hby at_141) rfl rfl z_) ?_
   refine own_g (own_F T3 m 144 #[iv i0, iv i1, iv i2, iv i3, iv nq, iv p1, iv y0, iv y1, iv y2, iv y3, iv y4, iv kq, rv b1, .unset, .unset] [(.int 1), (.ref b1)]) (fun _ z_ => XS.iconst X3.here hx rfl (hb hby at_143) z_) ?_
   refine own_g (own_F T3 m 146 #[iv i0, iv i1, iv i2, iv i3, iv nq, iv p1, iv y0, iv y1, iv y2, iv y3, iv y4, iv kq, rv b1, .unset, .unset] [(.int y0), (.int 1), (.ref b1)]) (fun _ z_ => XS.iload X3.here hx rfl (hb hby at_144) rfl z_) ?_
   refine own_g (own_F T3 m 147 #[iv i0, iv i1, iv i2, iv i3, iv nq, iv p1, iv y0, iv y1, iv y2, iv y3, iv y4, iv kq, rv b1, .unset, .unset] [(.int 3), (.int y0), (.int 1), (.ref b1)]) (fun _ z_ => XS.iconst X3.here hx rfl (hb hby at_146) z_) ?_
   refine own_g (own_F T3 m 148 #[iv i0, iv i1, iv i2, iv i3, iv nq, iv p1, iv y0, iv y1, iv y2, iv y3, iv y4, iv kq, rv b1, .unset, .unset] [(.int (y0 &&& (3 : Int32))), (.int 1), (.ref b1)]) (fun _ z_ => XS.iand X3.here hx rfl (hb hby at_147) rfl z_) ?_
   refine own_g (own_F T3 m 149 #[iv i0, iv i1, iv i2, iv i3, iv nq, iv p1, iv y0, iv y1, iv y2, iv y3, iv y4, iv kq, rv b1, .unset, .unset] [(.int 4), (.int (y0 &&& (3 : Int32))), (.int 1), (.ref b1)]) (fun _ z_ => XS.iconst X3.here hx rfl (hb hby at_148) z_) ?_
   refine own_g (own_F T3 m 150 #[iv i0, iv i1, iv i2, iv i3, iv nq, iv p1, iv y0, iv y1, iv y2, iv y3, iv y4, iv kq, rv b1, .unset, .unset] [(.int ((y0 &&& (3 : Int32)) <<< ((4 : Int32) &&& 31))), (.int 1), (.ref b1)]) (fun _ z_ => XS.ishl X3.here hx rfl (hb hby at_149) rfl z_) ?_
   refine own_g (own_F T3 m 152 #[iv i0, iv i1, iv i2, iv i3, iv nq, iv p1, iv y0, iv y1, iv y2, iv y3, iv y4, iv kq, rv b1, .unset, .unset] [(.int y1), (.int ((y0 &&& (3 : Int32)) <<< ((4 : Int32) &&& 31))), (.int 1), (.ref b1)]) (fun _ z_ => XS.iload X3.here hx rfl (hb hby at_150) rfl z_) ?_
   refine own_g (own_F T3 m 153 #[iv i0, iv i1, iv i2, iv i3, iv nq, iv p1, iv y0, iv y1, iv y2, iv y3, iv y4, iv kq, rv b1, .unset, .unset] [(.int 4), (.int y1), (.int ((y0 &&& (3 : Int32)) <<< ((4 : Int32) &&& 31))), (.int 1), (.ref b1)]) (fun _ z_ => XS.iconst X3.here hx rfl (hb hby at_152) z_) ?_
   refine own_g (own_F T3 m 154 #[iv i0, iv i1, iv i2, iv i3, iv nq, iv p1, iv y0, iv y1, iv y2, iv y3, iv y4, iv kq, rv b1, .unset, .unset] [(.int (y1 >>> ((4 : Int32) &&& 31))), (.int ((y0 &&& (3 : Int32)) <<< ((4 : Int32) &&& 31))), (.int 1), (.ref b1)]) (fun _ z_ => XS.ishr X3.here hx rfl (hb hby at_153) rfl z_) ?_
   refine own_g (own_F T3 m 155 #[iv i0, iv i1, iv i2, iv i3, iv nq, iv p1, iv y0, iv y1, iv y2, iv y3, iv y4, iv kq, rv b1, .unset, .unset] [(.int (((y0 &&& (3 : Int32)) <<< ((4 : Int32) &&& 31)) ||| (y1 >>> ((4 : Int32) &&& 31)))), (.int 1), (.ref b1)]) (fun _ z_ => XS.ior X3.here hx rfl (hb hby at_154) rfl z_) ?_
   have hr1 : (((y0 &&& (3 : Int32)) <<< ((4 : Int32) &&& 31)) ||| (y1 >>> ((4 : Int32) &&& 31))).toInt = (y0.toInt % 4) * 16 + y1.toInt / 16 := (own_o4 hb0 hb1)
   generalize (((y0 &&& (3 : Int32)) <<< ((4 : Int32) &&& 31)) ||| (y1 >>> ((4 : Int32) &&& 31))) = v1 at hr1 ⊢
   refine own_callS (y := (⟨"com/example/claimgate/claimgate/jose/Base64UrlDecodePinLaw", "sym", "(I)C"⟩ : MethodName)) X3 hx hZ hown (own_w hw 1) (own_w hw 2) (own_w hw 3) (own_w hw 4) (by decide) e3 (hM := own_symc l Z a0 hw [] v1 h3 n0 (Nat.le_trans (Nat.le_trans Z0 E1.1) (Nat.le_of_eq W3.size.symm)) (own_k16 hr1 hb0 hb1)) (W := 2) (pc := 155) (Ls := #[iv i0, iv i1, iv i2, iv i3, iv nq, iv p1, iv y0, iv y1, iv y2, iv y3, iv y4, iv kq, rv b1, .unset, .unset]) (argsL := [(.int v1)]) (rest := [(.int 1), (.ref b1)]) (st0 := [(.int v1), (.int 1), (.ref b1)]) (by rw [hml]; rfl) (lenOf own_pd13 rfl) rfl (Nat.le_of_eq rfl) (hb hby at_155) (by decide) (by decide) (by decide) (by decide) ?_
   intro v4 T4 L4 X4 hQ4
   obtain ⟨c1_, rfl, hs1, Nq4, hh4⟩ := hQ4
   have N4 := Fr.app N3 Nq4
   show own_Ends p e below s _ _ _ (own_F T4 m 158 #[iv i0, iv i1, iv i2, iv i3, iv nq, iv p1, iv y0, iv y1, iv y2, iv y3, iv y4, iv kq, rv b1, .unset, .unset] [(.int c1_), (.int 1), (.ref b1)])
   refine own_cast X4 hx hZ hh4 A3 1 rfl (by decide) c1_ (own_narC (own_sym_rng hs1).1) (hb hby at_158) ?_
   intro T5 h5 X5 e5 W5 A5
   have N5 := Fr.snoc X5 N4 ge_b1
   obtain ⟨g5, A5, q5_0, q5_1, q5_2, q5_3, q5_4, q5_5, q5_6⟩ : ∃ gq_ : Nat → Int32, own_A Z h5 b1 .char 7 (fun q_ => .int (gq_ q_)) ∧ gq_ 0 = c0_ ∧ gq_ 1 = c1_ ∧ gq_ 2 = (0 : Int32) ∧ gq_ 3 = (0 : Int32) ∧ gq_ 4 = (0 : Int32) ∧ gq_ 5 = (0 : Int32) ∧ gq_ 6 = (0 : Int32) := ⟨_, A5, (show ite _ _ _ = _ from (if_neg (by decide)).trans q3_0), rfl, (show ite _ _ _ = _ from (if_neg (by decide)).trans q3_2), (show ite _ _ _ = _ from (if_neg (by decide)).trans q3_3), (show ite _ _ _ = _ from (if_neg (by decide)).trans q3_4), (show ite _ _ _ = _ from (if_neg (by decide)).trans q3_5), (show ite _ _ _ = _ from (if_neg (by decide)).trans q3_6)⟩
   show own_Ends p e below s _ _ _ (own_F T5 m 159 #[iv i0, iv i1, iv i2, iv i3, iv nq, iv p1, iv y0, iv y1, iv y2, iv y3, iv y4, iv kq, rv b1, .unset, .unset] [])
   refine own_g (own_F T5 m 161 #[iv i0, iv i1, iv i2, iv i3, iv nq, iv p1, iv y0, iv y1, iv y2, iv y3, iv y4, iv kq, rv b1, .unset, .unset] [(.ref b1)]) (fun _ z_ => XS.aload X5.here hx rfl (hb hby at_159) rfl rfl z_) ?_
   refine own_g (own_F T5 m 162 #[iv i0, iv i1, iv i2, iv i3, iv nq, iv p1, iv y0, iv y1, iv y2, iv y3, iv y4, iv kq, rv b1, .unset, .unset] [(.int 2), (.ref b1)]) (fun _ z_ => XS.iconst X5.here hx rfl (hb hby at_161) z_) ?_
   refine own_g (own_F T5 m 164 #[iv i0, iv i1, iv i2, iv i3, iv nq, iv p1, iv y0, iv y1, iv y2, iv y3, iv y4, iv kq, rv b1, .unset, .unset] [(.int y1), (.int 2), (.ref b1)]) (fun _ z_ => XS.iload X5.here hx rfl (hb hby at_162) rfl z_) ?_
   refine own_g (own_F T5 m 166 #[iv i0, iv i1, iv i2, iv i3, iv nq, iv p1, iv y0, iv y1, iv y2, iv y3, iv y4, iv kq, rv b1, .unset, .unset] [(.int 15), (.int y1), (.int 2), (.ref b1)]) (fun _ z_ => XS.bipush X5.here hx rfl (hb hby at_164) z_) ?_
   refine own_g (own_F T5 m 167 #[iv i0, iv i1, iv i2, iv i3, iv nq, iv p1, iv y0, iv y1, iv y2, iv y3, iv y4, iv kq, rv b1, .unset, .unset] [(.int (y1 &&& (15 : Int32))), (.int 2), (.ref b1)]) (fun _ z_ => XS.iand X5.here hx rfl (hb hby at_166) rfl z_) ?_
   refine own_g (own_F T5 m 168 #[iv i0, iv i1, iv i2, iv i3, iv nq, iv p1, iv y0, iv y1, iv y2, iv y3, iv y4, iv kq, rv b1, .unset, .unset] [(.int 2), (.int (y1 &&& (15 : Int32))), (.int 2), (.ref b1)]) (fun _ z_ => XS.iconst X5.here hx rfl (hb hby at_167) z_) ?_
   refine own_g (own_F T5 m 169 #[iv i0, iv i1, iv i2, iv i3, iv nq, iv p1, iv y0, iv y1, iv y2, iv y3, iv y4, iv kq, rv b1, .unset, .unset] [(.int ((y1 &&& (15 : Int32)) <<< ((2 : Int32) &&& 31))), (.int 2), (.ref b1)]) (fun _ z_ => XS.ishl X5.here hx rfl (hb hby at_168) rfl z_) ?_
   refine own_g (own_F T5 m 171 #[iv i0, iv i1, iv i2, iv i3, iv nq, iv p1, iv y0, iv y1, iv y2, iv y3, iv y4, iv kq, rv b1, .unset, .unset] [(.int y2), (.int ((y1 &&& (15 : Int32)) <<< ((2 : Int32) &&& 31))), (.int 2), (.ref b1)]) (fun _ z_ => XS.iload X5.here hx rfl (hb hby at_169) rfl z_) ?_
   refine own_g (own_F T5 m 173 #[iv i0, iv i1, iv i2, iv i3, iv nq, iv p1, iv y0, iv y1, iv y2, iv y3, iv y4, iv kq, rv b1, .unset, .unset] [(.int 6), (.int y2), (.int ((y1 &&& (15 : Int32)) <<< ((2 : Int32) &&& 31))), (.int 2), (.ref b1)]) (fun _ z_ => XS.bipush X5.here hx rfl (hb hby at_171) z_) ?_
   refine own_g (own_F T5 m 174 #[iv i0, iv i1, iv i2, iv i3, iv nq, iv p1, iv y0, iv y1, iv y2, iv y3, iv y4, iv kq, rv b1, .unset, .unset] [(.int (y2 >>> ((6 : Int32) &&& 31))), (.int ((y1 &&& (15 : Int32)) <<< ((2 : Int32) &&& 31))), (.int 2), (.ref b1)]) (fun _ z_ => XS.ishr X5.here hx rfl (hb hby at_173) rfl z_) ?_
   refine own_g (own_F T5 m 175 #[iv i0, iv i1, iv i2, iv i3, iv nq, iv p1, iv y0, iv y1, iv y2, iv y3, iv y4, iv kq, rv b1, .unset, .unset] [(.int (((y1 &&& (15 : Int32)) <<< ((2 : Int32) &&& 31)) ||| (y2 >>> ((6 : Int32) &&& 31)))), (.int 2), (.ref b1)]) (fun _ z_ => XS.ior X5.here hx rfl (hb hby at_174) rfl z_) ?_
   have hr2 : (((y1 &&& (15 : Int32)) <<< ((2 : Int32) &&& 31)) ||| (y2 >>> ((6 : Int32) &&& 31))).toInt = (y1.toInt % 16) * 4 + y2.toInt / 64 := (own_o2 hb1 hb2)
   generalize (((y1 &&& (15 : Int32)) <<< ((2 : Int32) &&& 31)) ||| (y2 >>> ((6 : Int32) &&& 31))) = v2 at hr2 ⊢
   refine own_callS (y := (⟨"com/example/claimgate/claimgate/jose/Base64UrlDecodePinLaw", "sym", "(I)C"⟩ : MethodName)) X5 hx hZ hown (own_w hw 1) (own_w hw 2) (own_w hw 3) (own_w hw 4) (by decide) e5 (hM := own_symc l Z a0 hw [] v2 h5 n0 (Nat.le_trans (Nat.le_trans (Nat.le_trans Z0 E1.1) (Nat.le_of_eq W3.size.symm)) (Nat.le_of_eq W5.size.symm)) (own_k64 hr2 hb1 hb2)) (W := 2) (pc := 175) (Ls := #[iv i0, iv i1, iv i2, iv i3, iv nq, iv p1, iv y0, iv y1, iv y2, iv y3, iv y4, iv kq, rv b1, .unset, .unset]) (argsL := [(.int v2)]) (rest := [(.int 2), (.ref b1)]) (st0 := [(.int v2), (.int 2), (.ref b1)]) (by rw [hml]; rfl) (lenOf own_pd13 rfl) rfl (Nat.le_of_eq rfl) (hb hby at_175) (by decide) (by decide) (by decide) (by decide) ?_
   intro v6 T6 L6 X6 hQ6
   obtain ⟨c2_, rfl, hs2, Nq6, hh6⟩ := hQ6
   have N6 := Fr.app N5 Nq6
   show own_Ends p e below s _ _ _ (own_F T6 m 178 #[iv i0, iv i1, iv i2, iv i3, iv nq, iv p1, iv y0, iv y1, iv y2, iv y3, iv y4, iv kq, rv b1, .unset, .unset] [(.int c2_), (.int 2), (.ref b1)])
   refine own_cast X6 hx hZ hh6 A5 2 rfl (by decide) c2_ (own_narC (own_sym_rng hs2).1) (hb hby at_178) ?_
   intro T7 h7 X7 e7 W7 A7
   have N7 := Fr.snoc X7 N6 ge_b1
   obtain ⟨g7, A7, q7_0, q7_1, q7_2, q7_3, q7_4, q7_5, q7_6⟩ : ∃ gq_ : Nat → Int32, own_A Z h7 b1 .char 7 (fun q_ => .int (gq_ q_)) ∧ gq_ 0 = c0_ ∧ gq_ 1 = c1_ ∧ gq_ 2 = c2_ ∧ gq_ 3 = (0 : Int32) ∧ gq_ 4 = (0 : Int32) ∧ gq_ 5 = (0 : Int32) ∧ gq_ 6 = (0 : Int32) := ⟨_, A7, (show ite _ _ _ = _ from (if_neg (by decide)).trans q5_0), (show ite _ _ _ = _ from (if_neg (by decide)).trans q5_1), rfl, (show ite _ _ _ = _ from (if_neg (by decide)).trans q5_3), (show ite _ _ _ = _ from (if_neg (by decide)).trans q5_4), (show ite _ _ _ = _ from (if_neg (by decide)).trans q5_5), (show ite _ _ _ = _ from (if_neg (by decide)).trans q5_6)⟩
   show own_Ends p e below s _ _ _ (own_F T7 m 179 #[iv i0, iv i1, iv i2, iv i3, iv nq, iv p1, iv y0, iv y1, iv y2, iv y3, iv y4, iv kq, rv b1, .unset, .unset] [])
   refine own_g (own_F T7 m 181 #[iv i0, iv i1, iv i2, iv i3, iv nq, iv p1, iv y0, iv y1, iv y2, iv y3, iv y4, iv kq, rv b1, .unset, .unset] [(.ref b1)]) (fun _ z_ => XS.aload X7.here hx rfl (hb hby at_179) rfl rfl z_) ?_
   refine own_g (own_F T7 m 182 #[iv i0, iv i1, iv i2, iv i3, iv nq, iv p1, iv y0, iv y1, iv y2, iv y3, iv y4, iv kq, rv b1, .unset, .unset] [(.int 3), (.ref b1)]) (fun _ z_ => XS.iconst X7.here hx rfl (hb hby at_181) z_) ?_
   refine own_g (own_F T7 m 184 #[iv i0, iv i1, iv i2, iv i3, iv nq, iv p1, iv y0, iv y1, iv y2, iv y3, iv y4, iv kq, rv b1, .unset, .unset] [(.int y2), (.int 3), (.ref b1)]) (fun _ z_ => XS.iload X7.here hx rfl (hb hby at_182) rfl z_) ?_
   refine own_g (own_F T7 m 186 #[iv i0, iv i1, iv i2, iv i3, iv nq, iv p1, iv y0, iv y1, iv y2, iv y3, iv y4, iv kq, rv b1, .unset, .unset] [(.int 63), (.int y2), (.int 3), (.ref b1)]) (fun _ z_ => XS.bipush X7.here hx rfl (hb hby at_184) z_) ?_
   refine own_g (own_F T7 m 187 #[iv i0, iv i1, iv i2, iv i3, iv nq, iv p1, iv y0, iv y1, iv y2, iv y3, iv y4, iv kq, rv b1, .unset, .unset] [(.int (y2 &&& (63 : Int32))), (.int 3), (.ref b1)]) (fun _ z_ => XS.iand X7.here hx rfl (hb hby at_186) rfl z_) ?_
   have hr3 : (y2 &&& (63 : Int32)).toInt = y2.toInt % 64 := own_m63
   generalize (y2 &&& (63 : Int32)) = v3 at hr3 ⊢
   refine own_callS (y := (⟨"com/example/claimgate/claimgate/jose/Base64UrlDecodePinLaw", "sym", "(I)C"⟩ : MethodName)) X7 hx hZ hown (own_w hw 1) (own_w hw 2) (own_w hw 3) (own_w hw 4) (by decide) e7 (hM := own_symc l Z a0 hw [] v3 h7 n0 (Nat.le_trans (Nat.le_trans (Nat.le_trans (Nat.le_trans Z0 E1.1) (Nat.le_of_eq W3.size.symm)) (Nat.le_of_eq W5.size.symm)) (Nat.le_of_eq W7.size.symm)) (own_k3 hr3)) (W := 2) (pc := 187) (Ls := #[iv i0, iv i1, iv i2, iv i3, iv nq, iv p1, iv y0, iv y1, iv y2, iv y3, iv y4, iv kq, rv b1, .unset, .unset]) (argsL := [(.int v3)]) (rest := [(.int 3), (.ref b1)]) (st0 := [(.int v3), (.int 3), (.ref b1)]) (by rw [hml]; rfl) (lenOf own_pd13 rfl) rfl (Nat.le_of_eq rfl) (hb hby at_187) (by decide) (by decide) (by decide) (by decide) ?_
   intro v8 T8 L8 X8 hQ8
   obtain ⟨c3_, rfl, hs3, Nq8, hh8⟩ := hQ8
   have N8 := Fr.app N7 Nq8
   show own_Ends p e below s _ _ _ (own_F T8 m 190 #[iv i0, iv i1, iv i2, iv i3, iv nq, iv p1, iv y0, iv y1, iv y2, iv y3, iv y4, iv kq, rv b1, .unset, .unset] [(.int c3_), (.int 3), (.ref b1)])
   refine own_cast X8 hx hZ hh8 A7 3 rfl (by decide) c3_ (own_narC (own_sym_rng hs3).1) (hb hby at_190) ?_
   intro T9 h9 X9 e9 W9 A9
   have N9 := Fr.snoc X9 N8 ge_b1
   obtain ⟨g9, A9, q9_0, q9_1, q9_2, q9_3, q9_4, q9_5, q9_6⟩ : ∃ gq_ : Nat → Int32, own_A Z h9 b1 .char 7 (fun q_ => .int (gq_ q_)) ∧ gq_ 0 = c0_ ∧ gq_ 1 = c1_ ∧ gq_ 2 = c2_ ∧ gq_ 3 = c3_ ∧ gq_ 4 = (0 : Int32) ∧ gq_ 5 = (0 : Int32) ∧ gq_ 6 = (0 : Int32) := ⟨_, A9, (show ite _ _ _ = _ from (if_neg (by decide)).trans q7_0), (show ite _ _ _ = _ from (if_neg (by decide)).trans q7_1), (show ite _ _ _ = _ from (if_neg (by decide)).trans q7_2), rfl, (show ite _ _ _ = _ from (if_neg (by decide)).trans q7_4), (show ite _ _ _ = _ from (if_neg (by decide)).trans q7_5), (show ite _ _ _ = _ from (if_neg (by decide)).trans q7_6)⟩
   show own_Ends p e below s _ _ _ (own_F T9 m 191 #[iv i0, iv i1, iv i2, iv i3, iv nq, iv p1, iv y0, iv y1, iv y2, iv y3, iv y4, iv kq, rv b1, .unset, .unset] [])
   refine own_g (own_F T9 m 193 #[iv i0, iv i1, iv i2, iv i3, iv nq, iv p1, iv y0, iv y1, iv y2, iv y3, iv y4, iv kq, rv b1, .unset, .unset] [(.ref b1)]) (fun _ z_ => XS.aload X9.here hx rfl (hb hby at_191) rfl rfl z_) ?_
   refine own_g (own_F T9 m 194 #[iv i0, iv i1, iv i2, iv i3, iv nq, iv p1, iv y0, iv y1, iv y2, iv y3, iv y4, iv kq, rv b1, .unset, .unset] [(.int 4), (.ref b1)]) (fun _ z_ => XS.iconst X9.here hx rfl (hb hby at_193) z_) ?_
   refine own_g (own_F T9 m 196 #[iv i0, iv i1, iv i2, iv i3, iv nq, iv p1, iv y0, iv y1, iv y2, iv y3, iv y4, iv kq, rv b1, .unset, .unset] [(.int y3), (.int 4), (.ref b1)]) (fun _ z_ => XS.iload X9.here hx rfl (hb hby at_194) rfl z_) ?_
   refine own_g (own_F T9 m 197 #[iv i0, iv i1, iv i2, iv i3, iv nq, iv p1, iv y0, iv y1, iv y2, iv y3, iv y4, iv kq, rv b1, .unset, .unset] [(.int 2), (.int y3), (.int 4), (.ref b1)]) (fun _ z_ => XS.iconst X9.here hx rfl (hb hby at_196) z_) ?_
   refine own_g (own_F T9 m 198 #[iv i0, iv i1, iv i2, iv i3, iv nq, iv p1, iv y0, iv y1, iv y2, iv y3, iv y4, iv kq, rv b1, .unset, .unset] [(.int (y3 >>> ((2 : Int32) &&& 31))), (.int 4), (.ref b1)]) (fun _ z_ => XS.ishr X9.here hx rfl (hb hby at_197) rfl z_) ?_
   have hr4 : (y3 >>> ((2 : Int32) &&& 31)).toInt = y3.toInt / 4 := own_s2
   generalize (y3 >>> ((2 : Int32) &&& 31)) = v4 at hr4 ⊢
   refine own_callS (y := (⟨"com/example/claimgate/claimgate/jose/Base64UrlDecodePinLaw", "sym", "(I)C"⟩ : MethodName)) X9 hx hZ hown (own_w hw 1) (own_w hw 2) (own_w hw 3) (own_w hw 4) (by decide) e9 (hM := own_symc l Z a0 hw [] v4 h9 n0 (Nat.le_trans (Nat.le_trans (Nat.le_trans (Nat.le_trans (Nat.le_trans Z0 E1.1) (Nat.le_of_eq W3.size.symm)) (Nat.le_of_eq W5.size.symm)) (Nat.le_of_eq W7.size.symm)) (Nat.le_of_eq W9.size.symm)) (own_k4 hr4 hb3)) (W := 2) (pc := 198) (Ls := #[iv i0, iv i1, iv i2, iv i3, iv nq, iv p1, iv y0, iv y1, iv y2, iv y3, iv y4, iv kq, rv b1, .unset, .unset]) (argsL := [(.int v4)]) (rest := [(.int 4), (.ref b1)]) (st0 := [(.int v4), (.int 4), (.ref b1)]) (by rw [hml]; rfl) (lenOf own_pd13 rfl) rfl (Nat.le_of_eq rfl) (hb hby at_198) (by decide) (by decide) (by decide) (by decide) ?_
   intro v10 T10 L10 X10 hQ10
   obtain ⟨c4_, rfl, hs4, Nq10, hh10⟩ := hQ10
   have N10 := Fr.app N9 Nq10
   show own_Ends p e below s _ _ _ (own_F T10 m 201 #[iv i0, iv i1, iv i2, iv i3, iv nq, iv p1, iv y0, iv y1, iv y2, iv y3, iv y4, iv kq, rv b1, .unset, .unset] [(.int c4_), (.int 4), (.ref b1)])
   refine own_cast X10 hx hZ hh10 A9 4 rfl (by decide) c4_ (own_narC (own_sym_rng hs4).1) (hb hby at_201) ?_
   intro T11 h11 X11 e11 W11 A11
   have N11 := Fr.snoc X11 N10 ge_b1
   obtain ⟨g11, A11, q11_0, q11_1, q11_2, q11_3, q11_4, q11_5, q11_6⟩ : ∃ gq_ : Nat → Int32, own_A Z h11 b1 .char 7 (fun q_ => .int (gq_ q_)) ∧ gq_ 0 = c0_ ∧ gq_ 1 = c1_ ∧ gq_ 2 = c2_ ∧ gq_ 3 = c3_ ∧ gq_ 4 = c4_ ∧ gq_ 5 = (0 : Int32) ∧ gq_ 6 = (0 : Int32) := ⟨_, A11, (show ite _ _ _ = _ from (if_neg (by decide)).trans q9_0), (show ite _ _ _ = _ from (if_neg (by decide)).trans q9_1), (show ite _ _ _ = _ from (if_neg (by decide)).trans q9_2), (show ite _ _ _ = _ from (if_neg (by decide)).trans q9_3), rfl, (show ite _ _ _ = _ from (if_neg (by decide)).trans q9_5), (show ite _ _ _ = _ from (if_neg (by decide)).trans q9_6)⟩
   show own_Ends p e below s _ _ _ (own_F T11 m 202 #[iv i0, iv i1, iv i2, iv i3, iv nq, iv p1, iv y0, iv y1, iv y2, iv y3, iv y4, iv kq, rv b1, .unset, .unset] [])
   refine own_g (own_F T11 m 204 #[iv i0, iv i1, iv i2, iv i3, iv nq, iv p1, iv y0, iv y1, iv y2, iv y3, iv y4, iv kq, rv b1, .unset, .unset] [(.ref b1)]) (fun _ z_ => XS.aload X11.here hx rfl (hb hby at_202) rfl rfl z_) ?_
   refine own_g (own_F T11 m 205 #[iv i0, iv i1, iv i2, iv i3, iv nq, iv p1, iv y0, iv y1, iv y2, iv y3, iv y4, iv kq, rv b1, .unset, .unset] [(.int 5), (.ref b1)]) (fun _ z_ => XS.iconst X11.here hx rfl (hb hby at_204) z_) ?_
   refine own_g (own_F T11 m 207 #[iv i0, iv i1, iv i2, iv i3, iv nq, iv p1, iv y0, iv y1, iv y2, iv y3, iv y4, iv kq, rv b1, .unset, .unset] [(.int y3), (.int 5), (.ref b1)]) (fun _ z_ => XS.iload X11.here hx rfl (hb hby at_205) rfl z_) ?_
   refine own_g (own_F T11 m 208 #[iv i0, iv i1, iv i2, iv i3, iv nq, iv p1, iv y0, iv y1, iv y2, iv y3, iv y4, iv kq, rv b1, .unset, .unset] [(.int 3), (.int y3), (.int 5), (.ref b1)]) (fun _ z_ => XS.iconst X11.here hx rfl (hb hby at_207) z_) ?_
   refine own_g (own_F T11 m 209 #[iv i0, iv i1, iv i2, iv i3, iv nq, iv p1, iv y0, iv y1, iv y2, iv y3, iv y4, iv kq, rv b1, .unset, .unset] [(.int (y3 &&& (3 : Int32))), (.int 5), (.ref b1)]) (fun _ z_ => XS.iand X11.here hx rfl (hb hby at_208) rfl z_) ?_
   refine own_g (own_F T11 m 210 #[iv i0, iv i1, iv i2, iv i3, iv nq, iv p1, iv y0, iv y1, iv y2, iv y3, iv y4, iv kq, rv b1, .unset, .unset] [(.int 4), (.int (y3 &&& (3 : Int32))), (.int 5), (.ref b1)]) (fun _ z_ => XS.iconst X11.here hx rfl (hb hby at_209) z_) ?_
   refine own_g (own_F T11 m 211 #[iv i0, iv i1, iv i2, iv i3, iv nq, iv p1, iv y0, iv y1, iv y2, iv y3, iv y4, iv kq, rv b1, .unset, .unset] [(.int ((y3 &&& (3 : Int32)) <<< ((4 : Int32) &&& 31))), (.int 5), (.ref b1)]) (fun _ z_ => XS.ishl X11.here hx rfl (hb hby at_210) rfl z_) ?_
   refine own_g (own_F T11 m 213 #[iv i0, iv i1, iv i2, iv i3, iv nq, iv p1, iv y0, iv y1, iv y2, iv y3, iv y4, iv kq, rv b1, .unset, .unset] [(.int y4), (.int ((y3 &&& (3 : Int32)) <<< ((4 : Int32) &&& 31))), (.int 5), (.ref b1)]) (fun _ z_ => XS.iload X11.here hx rfl (hb hby at_211) rfl z_) ?_
   refine own_g (own_F T11 m 214 #[iv i0, iv i1, iv i2, iv i3, iv nq, iv p1, iv y0, iv y1, iv y2, iv y3, iv y4, iv kq, rv b1, .unset, .unset] [(.int 4), (.int y4), (.int ((y3 &&& (3 : Int32)) <<< ((4 : Int32) &&& 31))), (.int 5), (.ref b1)]) (fun _ z_ => XS.iconst X11.here hx rfl (hb hby at_213) z_) ?_
   refine own_g (own_F T11 m 215 #[iv i0, iv i1, iv i2, iv i3, iv nq, iv p1, iv y0, iv y1, iv y2, iv y3, iv y4, iv kq, rv b1, .unset, .unset] [(.int (y4 >>> ((4 : Int32) &&& 31))), (.int ((y3 &&& (3 : Int32)) <<< ((4 : Int32) &&& 31))), (.int 5), (.ref b1)]) (fun _ z_ => XS.ishr X11.here hx rfl (hb hby at_214) rfl z_) ?_
   refine own_g (own_F T11 m 216 #[iv i0, iv i1, iv i2, iv i3, iv nq, iv p1, iv y0, iv y1, iv y2, iv y3, iv y4, iv kq, rv b1, .unset, .unset] [(.int (((y3 &&& (3 : Int32)) <<< ((4 : Int32) &&& 31)) ||| (y4 >>> ((4 : Int32) &&& 31)))), (.int 5), (.ref b1)]) (fun _ z_ => XS.ior X11.here hx rfl (hb hby at_215) rfl z_) ?_
   have hr5 : (((y3 &&& (3 : Int32)) <<< ((4 : Int32) &&& 31)) ||| (y4 >>> ((4 : Int32) &&& 31))).toInt = (y3.toInt % 4) * 16 + y4.toInt / 16 := (own_o4 hb3 hb4)
   generalize (((y3 &&& (3 : Int32)) <<< ((4 : Int32) &&& 31)) ||| (y4 >>> ((4 : Int32) &&& 31))) = v5 at hr5 ⊢
   refine own_callS (y := (⟨"com/example/claimgate/claimgate/jose/Base64UrlDecodePinLaw", "sym", "(I)C"⟩ : MethodName)) X11 hx hZ hown (own_w hw 1) (own_w hw 2) (own_w hw 3) (own_w hw 4) (by decide) e11 (hM := own_symc l Z a0 hw [] v5 h11 n0 (Nat.le_trans (Nat.le_trans (Nat.le_trans (Nat.le_trans (Nat.le_trans (Nat.le_trans Z0 E1.1) (Nat.le_of_eq W3.size.symm)) (Nat.le_of_eq W5.size.symm)) (Nat.le_of_eq W7.size.symm)) (Nat.le_of_eq W9.size.symm)) (Nat.le_of_eq W11.size.symm)) (own_k16 hr5 hb3 hb4)) (W := 2) (pc := 216) (Ls := #[iv i0, iv i1, iv i2, iv i3, iv nq, iv p1, iv y0, iv y1, iv y2, iv y3, iv y4, iv kq, rv b1, .unset, .unset]) (argsL := [(.int v5)]) (rest := [(.int 5), (.ref b1)]) (st0 := [(.int v5), (.int 5), (.ref b1)]) (by rw [hml]; rfl) (lenOf own_pd13 rfl) rfl (Nat.le_of_eq rfl) (hb hby at_216) (by decide) (by decide) (by decide) (by decide) ?_
   intro v12 T12 L12 X12 hQ12
   obtain ⟨c5_, rfl, hs5, Nq12, hh12⟩ := hQ12
   have N12 := Fr.app N11 Nq12
   show own_Ends p e below s _ _ _ (own_F T12 m 219 #[iv i0, iv i1, iv i2, iv i3, iv nq, iv p1, iv y0, iv y1, iv y2, iv y3, iv y4, iv kq, rv b1, .unset, .unset] [(.int c5_), (.int 5), (.ref b1)])
   refine own_cast X12 hx hZ hh12 A11 5 rfl (by decide) c5_ (own_narC (own_sym_rng hs5).1) (hb hby at_219) ?_
   intro T13 h13 X13 e13 W13 A13
   have N13 := Fr.snoc X13 N12 ge_b1
   obtain ⟨g13, A13, q13_0, q13_1, q13_2, q13_3, q13_4, q13_5, q13_6⟩ : ∃ gq_ : Nat → Int32, own_A Z h13 b1 .char 7 (fun q_ => .int (gq_ q_)) ∧ gq_ 0 = c0_ ∧ gq_ 1 = c1_ ∧ gq_ 2 = c2_ ∧ gq_ 3 = c3_ ∧ gq_ 4 = c4_ ∧ gq_ 5 = c5_ ∧ gq_ 6 = (0 : Int32) := ⟨_, A13, (show ite _ _ _ = _ from (if_neg (by decide)).trans q11_0), (show ite _ _ _ = _ from (if_neg (by decide)).trans q11_1), (show ite _ _ _ = _ from (if_neg (by decide)).trans q11_2), (show ite _ _ _ = _ from (if_neg (by decide)).trans q11_3), (show ite _ _ _ = _ from (if_neg (by decide)).trans q11_4), rfl, (show ite _ _ _ = _ from (if_neg (by decide)).trans q11_6)⟩
   show own_Ends p e below s _ _ _ (own_F T13 m 220 #[iv i0, iv i1, iv i2, iv i3, iv nq, iv p1, iv y0, iv y1, iv y2, iv y3, iv y4, iv kq, rv b1, .unset, .unset] [])
   refine own_g (own_F T13 m 222 #[iv i0, iv i1, iv i2, iv i3, iv nq, iv p1, iv y0, iv y1, iv y2, iv y3, iv y4, iv kq, rv b1, .unset, .unset] [(.ref b1)]) (fun _ z_ => XS.aload X13.here hx rfl (hb hby at_220) rfl rfl z_) ?_
   refine own_g (own_F T13 m 224 #[iv i0, iv i1, iv i2, iv i3, iv nq, iv p1, iv y0, iv y1, iv y2, iv y3, iv y4, iv kq, rv b1, .unset, .unset] [(.int 6), (.ref b1)]) (fun _ z_ => XS.bipush X13.here hx rfl (hb hby at_222) z_) ?_
   refine own_g (own_F T13 m 226 #[iv i0, iv i1, iv i2, iv i3, iv nq, iv p1, iv y0, iv y1, iv y2, iv y3, iv y4, iv kq, rv b1, .unset, .unset] [(.int y4), (.int 6), (.ref b1)]) (fun _ z_ => XS.iload X13.here hx rfl (hb hby at_224) rfl z_) ?_
   refine own_g (own_F T13 m 228 #[iv i0, iv i1, iv i2, iv i3, iv nq, iv p1, iv y0, iv y1, iv y2, iv y3, iv y4, iv kq, rv b1, .unset, .unset] [(.int 15), (.int y4), (.int 6), (.ref b1)]) (fun _ z_ => XS.bipush X13.here hx rfl (hb hby at_226) z_) ?_
   refine own_g (own_F T13 m 229 #[iv i0, iv i1, iv i2, iv i3, iv nq, iv p1, iv y0, iv y1, iv y2, iv y3, iv y4, iv kq, rv b1, .unset, .unset] [(.int (y4 &&& (15 : Int32))), (.int 6), (.ref b1)]) (fun _ z_ => XS.iand X13.here hx rfl (hb hby at_228) rfl z_) ?_
   refine own_g (own_F T13 m 230 #[iv i0, iv i1, iv i2, iv i3, iv nq, iv p1, iv y0, iv y1, iv y2, iv y3, iv y4, iv kq, rv b1, .unset, .unset] [(.int 2), (.int (y4 &&& (15 : Int32))), (.int 6), (.ref b1)]) (fun _ z_ => XS.iconst X13.here hx rfl (hb hby at_229) z_) ?_
   refine own_g (own_F T13 m 231 #[iv i0, iv i1, iv i2, iv i3, iv nq, iv p1, iv y0, iv y1, iv y2, iv y3, iv y4, iv kq, rv b1, .unset, .unset] [(.int ((y4 &&& (15 : Int32)) <<< ((2 : Int32) &&& 31))), (.int 6), (.ref b1)]) (fun _ z_ => XS.ishl X13.here hx rfl (hb hby at_230) rfl z_) ?_
   have hr6 : ((y4 &&& (15 : Int32)) <<< ((2 : Int32) &&& 31)).toInt = (y4.toInt % 16) * 4 := own_l2
   generalize ((y4 &&& (15 : Int32)) <<< ((2 : Int32) &&& 31)) = v6 at hr6 ⊢
   refine own_callS (y := (⟨"com/example/claimgate/claimgate/jose/Base64UrlDecodePinLaw", "sym", "(I)C"⟩ : MethodName)) X13 hx hZ hown (own_w hw 1) (own_w hw 2) (own_w hw 3) (own_w hw 4) (by decide) e13 (hM := own_symc l Z a0 hw [] v6 h13 n0 (Nat.le_trans (Nat.le_trans (Nat.le_trans (Nat.le_trans (Nat.le_trans (Nat.le_trans (Nat.le_trans Z0 E1.1) (Nat.le_of_eq W3.size.symm)) (Nat.le_of_eq W5.size.symm)) (Nat.le_of_eq W7.size.symm)) (Nat.le_of_eq W9.size.symm)) (Nat.le_of_eq W11.size.symm)) (Nat.le_of_eq W13.size.symm)) (own_k6 hr6)) (W := 2) (pc := 231) (Ls := #[iv i0, iv i1, iv i2, iv i3, iv nq, iv p1, iv y0, iv y1, iv y2, iv y3, iv y4, iv kq, rv b1, .unset, .unset]) (argsL := [(.int v6)]) (rest := [(.int 6), (.ref b1)]) (st0 := [(.int v6), (.int 6), (.ref b1)]) (by rw [hml]; rfl) (lenOf own_pd13 rfl) rfl (Nat.le_of_eq rfl) (hb hby at_231) (by decide) (by decide) (by decide) (by decide) ?_
   intro v14 T14 L14 X14 hQ14
   obtain ⟨c6_, rfl, hs6, Nq14, hh14⟩ := hQ14
   have N14 := Fr.app N13 Nq14
   show own_Ends p e below s _ _ _ (own_F T14 m 234 #[iv i0, iv i1, iv i2, iv i3, iv nq, iv p1, iv y0, iv y1, iv y2, iv y3, iv y4, iv kq, rv b1, .unset, .unset] [(.int c6_), (.int 6), (.ref b1)])
   refine own_cast X14 hx hZ hh14 A13 6 rfl (by decide) c6_ (own_narC (own_sym_rng hs6).1) (hb hby at_234) ?_
   intro T15 h15 X15 e15 W15 A15
   have N15 := Fr.snoc X15 N14 ge_b1
   obtain ⟨g15, A15, q15_0, q15_1, q15_2, q15_3, q15_4, q15_5, q15_6⟩ : ∃ gq_ : Nat → Int32, own_A Z h15 b1 .char 7 (fun q_ => .int (gq_ q_)) ∧ gq_ 0 = c0_ ∧ gq_ 1 = c1_ ∧ gq_ 2 = c2_ ∧ gq_ 3 = c3_ ∧ gq_ 4 = c4_ ∧ gq_ 5 = c5_ ∧ gq_ 6 = c6_ := ⟨_, A15, (show ite _ _ _ = _ from (if_neg (by decide)).trans q13_0), (show ite _ _ _ = _ from (if_neg (by decide)).trans q13_1), (show ite _ _ _ = _ from (if_neg (by decide)).trans q13_2), (show ite _ _ _ = _ from (if_neg (by decide)).trans q13_3), (show ite _ _ _ = _ from (if_neg (by decide)).trans q13_4), (show ite _ _ _ = _ from (if_neg (by decide)).trans q13_5), rfl⟩
   show own_Ends p e below s _ _ _ (own_F T15 m 235 #[iv i0, iv i1, iv i2, iv i3, iv nq, iv p1, iv y0, iv y1, iv y2, iv y3, iv y4, iv kq, rv b1, .unset, .unset] [])
   refine own_g (own_F T15 m 237 #[iv i0, iv i1, iv i2, iv i3, iv nq, iv p1, iv y0, iv y1, iv y2, iv y3, iv y4, iv kq, rv b1, .unset, .unset] [(.int 11)]) (fun _ z_ => XS.bipush X15.here hx rfl (hb hby at_235) z_) ?_
   refine own_newA X15 hx hZ .char rfl (own_w hw 0) e15 (hb hby at_237) 11 rfl 11 (by decide) (by decide) (by decide) (by decide) ?_
   intro T16 h16 b16 X16 e16 E16 g16 A16
   have sz_b16 : h0.size ≤ b16 := Nat.le_trans (Nat.le_trans (Nat.le_trans (Nat.le_trans (Nat.le_trans (Nat.le_trans (Nat.le_trans (Nat.le_trans (Nat.le_trans (Nat.le_refl h0.size) E1.1) (Nat.le_of_eq W3.size.symm)) (Nat.le_of_eq W5.size.symm)) (Nat.le_of_eq W7.size.symm)) (Nat.le_of_eq W9.size.symm)) (Nat.le_of_eq W11.size.symm)) (Nat.le_of_eq W13.size.symm)) (Nat.le_of_eq W15.size.symm)) (Nat.le_of_eq g16.symm)
   have ge_b16 : n0 ≤ b16 := Nat.le_trans (Nat.le_trans (Nat.le_trans (Nat.le_trans (Nat.le_trans (Nat.le_trans (Nat.le_trans (Nat.le_trans (Nat.le_trans Z0 E1.1) (Nat.le_of_eq W3.size.symm)) (Nat.le_of_eq W5.size.symm)) (Nat.le_of_eq W7.size.symm)) (Nat.le_of_eq W9.size.symm)) (Nat.le_of_eq W11.size.symm)) (Nat.le_of_eq W13.size.symm)) (Nat.le_of_eq W15.size.symm)) (Nat.le_of_eq g16.symm)
   have ne_b1_b16 : b1 ≠ b16 := Nat.ne_of_lt (Nat.lt_of_lt_of_le A15.lt (Nat.le_of_eq g16.symm))
   have A16 : own_A Z h16 b16 .char 11 (fun q_ => .int ((fun _ => (0 : Int32)) q_)) := A16
   show own_Ends p e below s _ _ _ (own_F T16 m 239 #[iv i0, iv i1, iv i2, iv i3, iv nq, iv p1, iv y0, iv y1, iv y2, iv y3, iv y4, iv kq, rv b1, .unset, .unset] [(.ref b16)])
   have rz : 0 ≤ (0 : Int32).toInt ∧ (0 : Int32).toInt ≤ 65535 := by decide
   have rg0 : ∀ i : Nat, 0 ≤ ((fun _ => (0 : Int32)) i).toInt ∧ ((fun _ => (0 : Int32)) i).toInt ≤ 65535 := fun _ => rz
   refine own_g (own_F T16 m 241 #[iv i0, iv i1, iv i2, iv i3, iv nq, iv p1, iv y0, iv y1, iv y2, iv y3, iv y4, iv kq, rv b1, rv b16, .unset] []) (fun _ z_ => XS.astore X16.here hx rfl (hb hby at_239) rfl rfl (l' := #[iv i0, iv i1, iv i2, iv i3, iv nq, iv p1, iv y0, iv y1, iv y2, iv y3, iv y4, iv kq, rv b1, rv b16, .unset]) rfl z_) ?_
   refine own_g (own_F T16 m 243 #[iv i0, iv i1, iv i2, iv i3, iv nq, iv p1, iv y0, iv y1, iv y2, iv y3, iv y4, iv kq, rv b1, rv b16, .unset] [(.ref b16)]) (fun _ z_ => XS.aload X16.here hx rfl (hb hby at_241) rfl rfl z_) ?_
   refine own_g (own_F T16 m 244 #[iv i0, iv i1, iv i2, iv i3, iv nq, iv p1, iv y0, iv y1, iv y2, iv y3, iv y4, iv kq, rv b1, rv b16, .unset] [(.int 0), (.ref b16)]) (fun _ z_ => XS.iconst X16.here hx rfl (hb hby at_243) z_) ?_
   refine own_g (own_F T16 m 245 #[iv i0, iv i1, iv i2, iv i3, iv nq, iv p1, iv y0, iv y1, iv y2, iv y3, iv y4, iv kq, rv b1, rv b16, .unset] [(.int i2), (.int 0), (.ref b16)]) (fun _ z_ => XS.iloadN X16.here hx rfl (hb hby at_244) rfl z_) ?_
   refine own_g (own_F T16 m 246 #[iv i0, iv i1, iv i2, iv i3, iv nq, iv p1, iv y0, iv y1, iv y2, iv y3, iv y4, iv kq, rv b1, rv b16, .unset] [(.int (i2.toUInt32.toUInt16.toUInt32.toInt32)), (.int 0), (.ref b16)]) (fun _ z_ => XS.i2c X16.here hx rfl (hb hby at_245) rfl z_) ?_
   refine own_cast X16 hx hZ e16 A16 0 rfl (by decide) (i2.toUInt32.toUInt16.toUInt32.toInt32) (own_narI' _) (hb hby at_246) ?_
   intro T17 h17 X17 e17 W17 A17
   have N17 := Fr.snoc X17 N15 ge_b16
   obtain ⟨g17, hg17⟩ : ∃ gq_ : Nat → Int32, gq_ = fun q_ => if q_ = 0 then (i2.toUInt32.toUInt16.toUInt32.toInt32) else (fun _ => (0 : Int32)) q_ := ⟨_, rfl⟩
   have A17 : own_A Z h17 b16 .char 11 (fun q_ => .int (g17 q_)) := by rw [hg17]; exact A17
   show own_Ends p e below s _ _ _ (own_F T17 m 247 #[iv i0, iv i1, iv i2, iv i3, iv nq, iv p1, iv y0, iv y1, iv y2, iv y3, iv y4, iv kq, rv b1, rv b16, .unset] [])
   have rg17 := own_rngs hg17 rg0 (own_rngi _)
   refine own_g (own_F T17 m 249 #[iv i0, iv i1, iv i2, iv i3, iv nq, iv p1, iv y0, iv y1, iv y2, iv y3, iv y4, iv kq, rv b1, rv b16, .unset] [(.ref b16)]) (fun _ z_ => XS.aload X17.here hx rfl (hb hby at_247) rfl rfl z_) ?_
   refine own_g (own_F T17 m 250 #[iv i0, iv i1, iv i2, iv i3, iv nq, iv p1, iv y0, iv y1, iv y2, iv y3, iv y4, iv kq, rv b1, rv b16, .unset] [(.int 1), (.ref b16)]) (fun _ z_ => XS.iconst X17.here hx rfl (hb hby at_249) z_) ?_
   refine own_g (own_F T17 m 251 #[iv i0, iv i1, iv i2, iv i3, iv nq, iv p1, iv y0, iv y1, iv y2, iv y3, iv y4, iv kq, rv b1, rv b16, .unset] [(.int i2), (.int 1), (.ref b16)]) (fun _ z_ => XS.iloadN X17.here hx rfl (hb hby at_250) rfl z_) ?_
   refine own_g (own_F T17 m 253 #[iv i0, iv i1, iv i2, iv i3, iv nq, iv p1, iv y0, iv y1, iv y2, iv y3, iv y4, iv kq, rv b1, rv b16, .unset] [(.int 16), (.int i2), (.int 1), (.ref b16)]) (fun _ z_ => XS.bipush X17.here hx rfl (hb hby at_251) z_) ?_
   refine own_g (own_F T17 m 254 #[iv i0, iv i1, iv i2, iv i3, iv nq, iv p1, iv y0, iv y1, iv y2, iv y3, iv y4, iv kq, rv b1, rv b16, .unset] [(.int ((i2.toUInt32 >>> ((16 : Int32) &&& 31).toUInt32).toInt32)), (.int 1), (.ref b16)]) (fun _ z_ => XS.iushr X17.here hx rfl (hb hby at_253) rfl z_) ?_
   refine own_g (own_F T17 m 255 #[iv i0, iv i1, iv i2, iv i3, iv nq, iv p1, iv y0, iv y1, iv y2, iv y3, iv y4, iv kq, rv b1, rv b16, .unset] [(.int (((i2.toUInt32 >>> ((16 : Int32) &&& 31).toUInt32).toInt32).toUInt32.toUInt16.toUInt32.toInt32)), (.int 1), (.ref b16)]) (fun _ z_ => XS.i2c X17.here hx rfl (hb hby at_254) rfl z_) ?_
   refine own_cast X17 hx hZ e17 A17 1 rfl (by decide) (((i2.toUInt32 >>> ((16 : Int32) &&& 31).toUInt32).toInt32).toUInt32.toUInt16.toUInt32.toInt32) (own_narI' _) (hb hby at_255) ?_
   intro T18 h18 X18 e18 W18 A18
   have N18 := Fr.snoc X18 N17 ge_b16
   obtain ⟨g18, hg18⟩ : ∃ gq_ : Nat → Int32, gq_ = fun q_ => if q_ = 1 then (((i2.toUInt32 >>> ((16 : Int32) &&& 31).toUInt32).toInt32).toUInt32.toUInt16.toUInt32.toInt32) else g17 q_ := ⟨_, rfl⟩
   have A18 : own_A Z h18 b16 .char 11 (fun q_ => .int (g18 q_)) := by rw [hg18]; exact A18
   show own_Ends p e below s _ _ _ (own_F T18 m 256 #[iv i0, iv i1, iv i2, iv i3, iv nq, iv p1, iv y0, iv y1, iv y2, iv y3, iv y4, iv kq, rv b1, rv b16, .unset] [])
   have rg18 := own_rngs hg18 rg17 (own_rngi _)
   refine own_g (own_F T18 m 258 #[iv i0, iv i1, iv i2, iv i3, iv nq, iv p1, iv y0, iv y1, iv y2, iv y3, iv y4, iv kq, rv b1, rv b16, .unset] [(.ref b16)]) (fun _ z_ => XS.aload X18.here hx rfl (hb hby at_256) rfl rfl z_) ?_
   refine own_g (own_F T18 m 259 #[iv i0, iv i1, iv i2, iv i3, iv nq, iv p1, iv y0, iv y1, iv y2, iv y3, iv y4, iv kq, rv b1, rv b16, .unset] [(.int 2), (.ref b16)]) (fun _ z_ => XS.iconst X18.here hx rfl (hb hby at_258) z_) ?_
   refine own_g (own_F T18 m 260 #[iv i0, iv i1, iv i2, iv i3, iv nq, iv p1, iv y0, iv y1, iv y2, iv y3, iv y4, iv kq, rv b1, rv b16, .unset] [(.int i3), (.int 2), (.ref b16)]) (fun _ z_ => XS.iloadN X18.here hx rfl (hb hby at_259) rfl z_) ?_
   refine own_g (own_F T18 m 261 #[iv i0, iv i1, iv i2, iv i3, iv nq, iv p1, iv y0, iv y1, iv y2, iv y3, iv y4, iv kq, rv b1, rv b16, .unset] [(.int (i3.toUInt32.toUInt16.toUInt32.toInt32)), (.int 2), (.ref b16)]) (fun _ z_ => XS.i2c X18.here hx rfl (hb hby at_260) rfl z_) ?_
   refine own_cast X18 hx hZ e18 A18 2 rfl (by decide) (i3.toUInt32.toUInt16.toUInt32.toInt32) (own_narI' _) (hb hby at_261) ?_
   intro T19 h19 X19 e19 W19 A19
   have N19 := Fr.snoc X19 N18 ge_b16
   obtain ⟨g19, hg19⟩ : ∃ gq_ : Nat → Int32, gq_ = fun q_ => if q_ = 2 then (i3.toUInt32.toUInt16.toUInt32.toInt32) else g18 q_ := ⟨_, rfl⟩
   have A19 : own_A Z h19 b16 .char 11 (fun q_ => .int (g19 q_)) := by rw [hg19]; exact A19
   show own_Ends p e below s _ _ _ (own_F T19 m 262 #[iv i0, iv i1, iv i2, iv i3, iv nq, iv p1, iv y0, iv y1, iv y2, iv y3, iv y4, iv kq, rv b1, rv b16, .unset] [])
   have rg19 := own_rngs hg19 rg18 (own_rngi _)
   refine own_g (own_F T19 m 264 #[iv i0, iv i1, iv i2, iv i3, iv nq, iv p1, iv y0, iv y1, iv y2, iv y3, iv y4, iv kq, rv b1, rv b16, .unset] [(.ref b16)]) (fun _ z_ => XS.aload X19.here hx rfl (hb hby at_262) rfl rfl z_) ?_
   refine own_g (own_F T19 m 265 #[iv i0, iv i1, iv i2, iv i3, iv nq, iv p1, iv y0, iv y1, iv y2, iv y3, iv y4, iv kq, rv b1, rv b16, .unset] [(.int 3), (.ref b16)]) (fun _ z_ => XS.iconst X19.here hx rfl (hb hby at_264) z_) ?_
   refine own_g (own_F T19 m 266 #[iv i0, iv i1, iv i2, iv i3, iv nq, iv p1, iv y0, iv y1, iv y2, iv y3, iv y4, iv kq, rv b1, rv b16, .unset] [(.int i3), (.int 3), (.ref b16)]) (fun _ z_ => XS.iloadN X19.here hx rfl (hb hby at_265) rfl z_) ?_
   refine own_g (own_F T19 m 268 #[iv i0, iv i1, iv i2, iv i3, iv nq, iv p1, iv y0, iv y1, iv y2, iv y3, iv y4, iv kq, rv b1, rv b16, .unset] [(.int 16), (.int i3), (.int 3), (.ref b16)]) (fun _ z_ => XS.bipush X19.here hx rfl (hb hby at_266) z_) ?_
   refine own_g (own_F T19 m 269 #[iv i0, iv i1, iv i2, iv i3, iv nq, iv p1, iv y0, iv y1, iv y2, iv y3, iv y4, iv kq, rv b1, rv b16, .unset] [(.int ((i3.toUInt32 >>> ((16 : Int32) &&& 31).toUInt32).toInt32)), (.int 3), (.ref b16)]) (fun _ z_ => XS.iushr X19.here hx rfl (hb hby at_268) rfl z_) ?_
   refine own_g (own_F T19 m 270 #[iv i0, iv i1, iv i2, iv i3, iv nq, iv p1, iv y0, iv y1, iv y2, iv y3, iv y4, iv kq, rv b1, rv b16, .unset] [(.int (((i3.toUInt32 >>> ((16 : Int32) &&& 31).toUInt32).toInt32).toUInt32.toUInt16.toUInt32.toInt32)), (.int 3), (.ref b16)]) (fun _ z_ => XS.i2c X19.here hx rfl (hb hby at_269) rfl z_) ?_
   refine own_cast X19 hx hZ e19 A19 3 rfl (by decide) (((i3.toUInt32 >>> ((16 : Int32) &&& 31).toUInt32).toInt32).toUInt32.toUInt16.toUInt32.toInt32) (own_narI' _) (hb hby at_270) ?_
   intro T20 h20 X20 e20 W20 A20
   have N20 := Fr.snoc X20 N19 ge_b16
   obtain ⟨g20, hg20⟩ : ∃ gq_ : Nat → Int32, gq_ = fun q_ => if q_ = 3 then (((i3.toUInt32 >>> ((16 : Int32) &&& 31).toUInt32).toInt32).toUInt32.toUInt16.toUInt32.toInt32) else g19 q_ := ⟨_, rfl⟩
   have A20 : own_A Z h20 b16 .char 11 (fun q_ => .int (g20 q_)) := by rw [hg20]; exact A20
   show own_Ends p e below s _ _ _ (own_F T20 m 271 #[iv i0, iv i1, iv i2, iv i3, iv nq, iv p1, iv y0, iv y1, iv y2, iv y3, iv y4, iv kq, rv b1, rv b16, .unset] [])
   have rg20 := own_rngs hg20 rg19 (own_rngi _)
   refine own_g (own_F T20 m 273 #[iv i0, iv i1, iv i2, iv i3, iv nq, iv p1, iv y0, iv y1, iv y2, iv y3, iv y4, iv kq, rv b1, rv b16, .unset] [(.ref b16)]) (fun _ z_ => XS.aload X20.here hx rfl (hb hby at_271) rfl rfl z_) ?_
   refine own_g (own_F T20 m 274 #[iv i0, iv i1, iv i2, iv i3, iv nq, iv p1, iv y0, iv y1, iv y2, iv y3, iv y4, iv kq, rv b1, rv b16, .unset] [(.int 4), (.ref b16)]) (fun _ z_ => XS.iconst X20.here hx rfl (hb hby at_273) z_) ?_
   refine own_g (own_F T20 m 275 #[iv i0, iv i1, iv i2, iv i3, iv nq, iv p1, iv y0, iv y1, iv y2, iv y3, iv y4, iv kq, rv b1, rv b16, .unset] [(.int i2), (.int 4), (.ref b16)]) (fun _ z_ => XS.iloadN X20.here hx rfl (hb hby at_274) rfl z_) ?_
   refine own_g (own_F T20 m 276 #[iv i0, iv i1, iv i2, iv i3, iv nq, iv p1, iv y0, iv y1, iv y2, iv y3, iv y4, iv kq, rv b1, rv b16, .unset] [(.int (i2.toUInt32.toUInt16.toUInt32.toInt32)), (.int 4), (.ref b16)]) (fun _ z_ => XS.i2c X20.here hx rfl (hb hby at_275) rfl z_) ?_
   refine own_cast X20 hx hZ e20 A20 4 rfl (by decide) (i2.toUInt32.toUInt16.toUInt32.toInt32) (own_narI' _) (hb hby at_276) ?_
   intro T21 h21 X21 e21 W21 A21
   have N21 := Fr.snoc X21 N20 ge_b16
   obtain ⟨g21, hg21⟩ : ∃ gq_ : Nat → Int32, gq_ = fun q_ => if q_ = 4 then (i2.toUInt32.toUInt16.toUInt32.toInt32) else g20 q_ := ⟨_, rfl⟩
   have A21 : own_A Z h21 b16 .char 11 (fun q_ => .int (g21 q_)) := by rw [hg21]; exact A21
   show own_Ends p e below s _ _ _ (own_F T21 m 277 #[iv i0, iv i1, iv i2, iv i3, iv nq, iv p1, iv y0, iv y1, iv y2, iv y3, iv y4, iv kq, rv b1, rv b16, .unset] [])
   have rg21 := own_rngs hg21 rg20 (own_rngi _)
   refine own_g (own_F T21 m 279 #[iv i0, iv i1, iv i2, iv i3, iv nq, iv p1, iv y0, iv y1, iv y2, iv y3, iv y4, iv kq, rv b1, rv b16, .unset] [(.ref b16)]) (fun _ z_ => XS.aload X21.here hx rfl (hb hby at_277) rfl rfl z_) ?_
   refine own_g (own_F T21 m 280 #[iv i0, iv i1, iv i2, iv i3, iv nq, iv p1, iv y0, iv y1, iv y2, iv y3, iv y4, iv kq, rv b1, rv b16, .unset] [(.int 5), (.ref b16)]) (fun _ z_ => XS.iconst X21.here hx rfl (hb hby at_279) z_) ?_
   refine own_g (own_F T21 m 281 #[iv i0, iv i1, iv i2, iv i3, iv nq, iv p1, iv y0, iv y1, iv y2, iv y3, iv y4, iv kq, rv b1, rv b16, .unset] [(.int i2), (.int 5), (.ref b16)]) (fun _ z_ => XS.iloadN X21.here hx rfl (hb hby at_280) rfl z_) ?_
   refine own_g (own_F T21 m 283 #[iv i0, iv i1, iv i2, iv i3, iv nq, iv p1, iv y0, iv y1, iv y2, iv y3, iv y4, iv kq, rv b1, rv b16, .unset] [(.int 16), (.int i2), (.int 5), (.ref b16)]) (fun _ z_ => XS.bipush X21.here hx rfl (hb hby at_281) z_) ?_
   refine own_g (own_F T21 m 284 #[iv i0, iv i1, iv i2, iv i3, iv nq, iv p1, iv y0, iv y1, iv y2, iv y3, iv y4, iv kq, rv b1, rv b16, .unset] [(.int ((i2.toUInt32 >>> ((16 : Int32) &&& 31).toUInt32).toInt32)), (.int 5), (.ref b16)]) (fun _ z_ => XS.iushr X21.here hx rfl (hb hby at_283) rfl z_) ?_
   refine own_g (own_F T21 m 285 #[iv i0, iv i1, iv i2, iv i3, iv nq, iv p1, iv y0, iv y1, iv y2, iv y3, iv y4, iv kq, rv b1, rv b16, .unset] [(.int (((i2.toUInt32 >>> ((16 : Int32) &&& 31).toUInt32).toInt32).toUInt32.toUInt16.toUInt32.toInt32)), (.int 5), (.ref b16)]) (fun _ z_ => XS.i2c X21.here hx rfl (hb hby at_284) rfl z_) ?_
   refine own_cast X21 hx hZ e21 A21 5 rfl (by decide) (((i2.toUInt32 >>> ((16 : Int32) &&& 31).toUInt32).toInt32).toUInt32.toUInt16.toUInt32.toInt32) (own_narI' _) (hb hby at_285) ?_
   intro T22 h22 X22 e22 W22 A22
   have N22 := Fr.snoc X22 N21 ge_b16
   obtain ⟨g22, hg22⟩ : ∃ gq_ : Nat → Int32, gq_ = fun q_ => if q_ = 5 then (((i2.toUInt32 >>> ((16 : Int32) &&& 31).toUInt32).toInt32).toUInt32.toUInt16.toUInt32.toInt32) else g21 q_ := ⟨_, rfl⟩
   have A22 : own_A Z h22 b16 .char 11 (fun q_ => .int (g22 q_)) := by rw [hg22]; exact A22
   show own_Ends p e below s _ _ _ (own_F T22 m 286 #[iv i0, iv i1, iv i2, iv i3, iv nq, iv p1, iv y0, iv y1, iv y2, iv y3, iv y4, iv kq, rv b1, rv b16, .unset] [])
   have rg22 := own_rngs hg22 rg21 (own_rngi _)
   refine own_g (own_F T22 m 288 #[iv i0, iv i1, iv i2, iv i3, iv nq, iv p1, iv y0, iv y1, iv y2, iv y3, iv y4, iv kq, rv b1, rv b16, .unset] [(.ref b16)]) (fun _ z_ => XS.aload X22.here hx rfl (hb hby at_286) rfl rfl z_) ?_
   refine own_g (own_F T22 m 290 #[iv i0, iv i1, iv i2, iv i3, iv nq, iv p1, iv y0, iv y1, iv y2, iv y3, iv y4, iv kq, rv b1, rv b16, .unset] [(.int 6), (.ref b16)]) (fun _ z_ => XS.bipush X22.here hx rfl (hb hby at_288) z_) ?_
   refine own_g (own_F T22 m 291 #[iv i0, iv i1, iv i2, iv i3, iv nq, iv p1, iv y0, iv y1, iv y2, iv y3, iv y4, iv kq, rv b1, rv b16, .unset] [(.int i3), (.int 6), (.ref b16)]) (fun _ z_ => XS.iloadN X22.here hx rfl (hb hby at_290) rfl z_) ?_
   refine own_g (own_F T22 m 292 #[iv i0, iv i1, iv i2, iv i3, iv nq, iv p1, iv y0, iv y1, iv y2, iv y3, iv y4, iv kq, rv b1, rv b16, .unset] [(.int (i3.toUInt32.toUInt16.toUInt32.toInt32)), (.int 6), (.ref b16)]) (fun _ z_ => XS.i2c X22.here hx rfl (hb hby at_291) rfl z_) ?_
   refine own_cast X22 hx hZ e22 A22 6 rfl (by decide) (i3.toUInt32.toUInt16.toUInt32.toInt32) (own_narI' _) (hb hby at_292) ?_
   intro T23 h23 X23 e23 W23 A23
   have N23 := Fr.snoc X23 N22 ge_b16
   obtain ⟨g23, hg23⟩ : ∃ gq_ : Nat → Int32, gq_ = fun q_ => if q_ = 6 then (i3.toUInt32.toUInt16.toUInt32.toInt32) else g22 q_ := ⟨_, rfl⟩
   have A23 : own_A Z h23 b16 .char 11 (fun q_ => .int (g23 q_)) := by rw [hg23]; exact A23
   show own_Ends p e below s _ _ _ (own_F T23 m 293 #[iv i0, iv i1, iv i2, iv i3, iv nq, iv p1, iv y0, iv y1, iv y2, iv y3, iv y4, iv kq, rv b1, rv b16, .unset] [])
   have rg23 := own_rngs hg23 rg22 (own_rngi _)
   refine own_g (own_F T23 m 295 #[iv i0, iv i1, iv i2, iv i3, iv nq, iv p1, iv y0, iv y1, iv y2, iv y3, iv y4, iv kq, rv b1, rv b16, .unset] [(.ref b16)]) (fun _ z_ => XS.aload X23.here hx rfl (hb hby at_293) rfl rfl z_) ?_
   refine own_g (own_F T23 m 297 #[iv i0, iv i1, iv i2, iv i3, iv nq, iv p1, iv y0, iv y1, iv y2, iv y3, iv y4, iv kq, rv b1, rv b16, .unset] [(.int 7), (.ref b16)]) (fun _ z_ => XS.bipush X23.here hx rfl (hb hby at_295) z_) ?_
   refine own_g (own_F T23 m 298 #[iv i0, iv i1, iv i2, iv i3, iv nq, iv p1, iv y0, iv y1, iv y2, iv y3, iv y4, iv kq, rv b1, rv b16, .unset] [(.int i3), (.int 7), (.ref b16)]) (fun _ z_ => XS.iloadN X23.here hx rfl (hb hby at_297) rfl z_) ?_
   refine own_g (own_F T23 m 300 #[iv i0, iv i1, iv i2, iv i3, iv nq, iv p1, iv y0, iv y1, iv y2, iv y3, iv y4, iv kq, rv b1, rv b16, .unset] [(.int 16), (.int i3), (.int 7), (.ref b16)]) (fun _ z_ => XS.bipush X23.here hx rfl (hb hby at_298) z_) ?_
   refine own_g (own_F T23 m 301 #[iv i0, iv i1, iv i2, iv i3, iv nq, iv p1, iv y0, iv y1, iv y2, iv y3, iv y4, iv kq, rv b1, rv b16, .unset] [(.int ((i3.toUInt32 >>> ((16 : Int32) &&& 31).toUInt32).toInt32)), (.int 7), (.ref b16)]) (fun _ z_ => XS.iushr X23.here hx rfl (hb hby at_300) rfl z_) ?_
   refine own_g (own_F T23 m 302 #[iv i0, iv i1, iv i2, iv i3, iv nq, iv p1, iv y0, iv y1, iv y2, iv y3, iv y4, iv kq, rv b1, rv b16, .unset] [(.int (((i3.toUInt32 >>> ((16 : Int32) &&& 31).toUInt32).toInt32).toUInt32.toUInt16.toUInt32.toInt32)), (.int 7), (.ref b16)]) (fun _ z_ => XS.i2c X23.here hx rfl (hb hby at_301) rfl z_) ?_
   refine own_cast X23 hx hZ e23 A23 7 rfl (by decide) (((i3.toUInt32 >>> ((16 : Int32) &&& 31).toUInt32).toInt32).toUInt32.toUInt16.toUInt32.toInt32) (own_narI' _) (hb hby at_302) ?_
   intro T24 h24 X24 e24 W24 A24
   have N24 := Fr.snoc X24 N23 ge_b16
   obtain ⟨g24, hg24⟩ : ∃ gq_ : Nat → Int32, gq_ = fun q_ => if q_ = 7 then (((i3.toUInt32 >>> ((16 : Int32) &&& 31).toUInt32).toInt32).toUInt32.toUInt16.toUInt32.toInt32) else g23 q_ := ⟨_, rfl⟩
   have A24 : own_A Z h24 b16 .char 11 (fun q_ => .int (g24 q_)) := by rw [hg24]; exact A24
   show own_Ends p e below s _ _ _ (own_F T24 m 303 #[iv i0, iv i1, iv i2, iv i3, iv nq, iv p1, iv y0, iv y1, iv y2, iv y3, iv y4, iv kq, rv b1, rv b16, .unset] [])
   have rg24 := own_rngs hg24 rg23 (own_rngi _)
   refine own_g (own_F T24 m 305 #[iv i0, iv i1, iv i2, iv i3, iv nq, iv p1, iv y0, iv y1, iv y2, iv y3, iv y4, iv kq, rv b1, rv b16, .unset] [(.ref b16)]) (fun _ z_ => XS.aload X24.here hx rfl (hb hby at_303) rfl rfl z_) ?_
   refine own_g (own_F T24 m 307 #[iv i0, iv i1, iv i2, iv i3, iv nq, iv p1, iv y0, iv y1, iv y2, iv y3, iv y4, iv kq, rv b1, rv b16, .unset] [(.int 8), (.ref b16)]) (fun _ z_ => XS.bipush X24.here hx rfl (hb hby at_305) z_) ?_
   refine own_g (own_F T24 m 308 #[iv i0, iv i1, iv i2, iv i3, iv nq, iv p1, iv y0, iv y1, iv y2, iv y3, iv y4, iv kq, rv b1, rv b16, .unset] [(.int i2), (.int 8), (.ref b16)]) (fun _ z_ => XS.iloadN X24.here hx rfl (hb hby at_307) rfl z_) ?_
   refine own_g (own_F T24 m 309 #[iv i0, iv i1, iv i2, iv i3, iv nq, iv p1, iv y0, iv y1, iv y2, iv y3, iv y4, iv kq, rv b1, rv b16, .unset] [(.int (i2.toUInt32.toUInt16.toUInt32.toInt32)), (.int 8), (.ref b16)]) (fun _ z_ => XS.i2c X24.here hx rfl (hb hby at_308) rfl z_) ?_
   refine own_cast X24 hx hZ e24 A24 8 rfl (by decide) (i2.toUInt32.toUInt16.toUInt32.toInt32) (own_narI' _) (hb hby at_309) ?_
   intro T25 h25 X25 e25 W25 A25
   have N25 := Fr.snoc X25 N24 ge_b16
   obtain ⟨g25, hg25⟩ : ∃ gq_ : Nat → Int32, gq_ = fun q_ => if q_ = 8 then (i2.toUInt32.toUInt16.toUInt32.toInt32) else g24 q_ := ⟨_, rfl⟩
   have A25 : own_A Z h25 b16 .char 11 (fun q_ => .int (g25 q_)) := by rw [hg25]; exact A25
   show own_Ends p e below s _ _ _ (own_F T25 m 310 #[iv i0, iv i1, iv i2, iv i3, iv nq, iv p1, iv y0, iv y1, iv y2, iv y3, iv y4, iv kq, rv b1, rv b16, .unset] [])
   have rg25 := own_rngs hg25 rg24 (own_rngi _)
   refine own_g (own_F T25 m 312 #[iv i0, iv i1, iv i2, iv i3, iv nq, iv p1, iv y0, iv y1, iv y2, iv y3, iv y4, iv kq, rv b1, rv b16, .unset] [(.ref b16)]) (fun _ z_ => XS.aload X25.here hx rfl (hb hby at_310) rfl rfl z_) ?_
   refine own_g (own_F T25 m 314 #[iv i0, iv i1, iv i2, iv i3, iv nq, iv p1, iv y0, iv y1, iv y2, iv y3, iv y4, iv kq, rv b1, rv b16, .unset] [(.int 9), (.ref b16)]) (fun _ z_ => XS.bipush X25.here hx rfl (hb hby at_312) z_) ?_
   refine own_g (own_F T25 m 315 #[iv i0, iv i1, iv i2, iv i3, iv nq, iv p1, iv y0, iv y1, iv y2, iv y3, iv y4, iv kq, rv b1, rv b16, .unset] [(.int i2), (.int 9), (.ref b16)]) (fun _ z_ => XS.iloadN X25.here hx rfl (hb hby at_314) rfl z_) ?_
   refine own_g (own_F T25 m 317 #[iv i0, iv i1, iv i2, iv i3, iv nq, iv p1, iv y0, iv y1, iv y2, iv y3, iv y4, iv kq, rv b1, rv b16, .unset] [(.int 16), (.int i2), (.int 9), (.ref b16)]) (fun _ z_ => XS.bipush X25.here hx rfl (hb hby at_315) z_) ?_
   refine own_g (own_F T25 m 318 #[iv i0, iv i1, iv i2, iv i3, iv nq, iv p1, iv y0, iv y1, iv y2, iv y3, iv y4, iv kq, rv b1, rv b16, .unset] [(.int ((i2.toUInt32 >>> ((16 : Int32) &&& 31).toUInt32).toInt32)), (.int 9), (.ref b16)]) (fun _ z_ => XS.iushr X25.here hx rfl (hb hby at_317) rfl z_) ?_
   refine own_g (own_F T25 m 319 #[iv i0, iv i1, iv i2, iv i3, iv nq, iv p1, iv y0, iv y1, iv y2, iv y3, iv y4, iv kq, rv b1, rv b16, .unset] [(.int (((i2.toUInt32 >>> ((16 : Int32) &&& 31).toUInt32).toInt32).toUInt32.toUInt16.toUInt32.toInt32)), (.int 9), (.ref b16)]) (fun _ z_ => XS.i2c X25.here hx rfl (hb hby at_318) rfl z_) ?_
   refine own_cast X25 hx hZ e25 A25 9 rfl (by decide) (((i2.toUInt32 >>> ((16 : Int32) &&& 31).toUInt32).toInt32).toUInt32.toUInt16.toUInt32.toInt32) (own_narI' _) (hb hby at_319) ?_
   intro T26 h26 X26 e26 W26 A26
   have N26 := Fr.snoc X26 N25 ge_b16
   obtain ⟨g26, hg26⟩ : ∃ gq_ : Nat → Int32, gq_ = fun q_ => if q_ = 9 then (((i2.toUInt32 >>> ((16 : Int32) &&& 31).toUInt32).toInt32).toUInt32.toUInt16.toUInt32.toInt32) else g25 q_ := ⟨_, rfl⟩
   have A26 : own_A Z h26 b16 .char 11 (fun q_ => .int (g26 q_)) := by rw [hg26]; exact A26
   show own_Ends p e below s _ _ _ (own_F T26 m 320 #[iv i0, iv i1, iv i2, iv i3, iv nq, iv p1, iv y0, iv y1, iv y2, iv y3, iv y4, iv kq, rv b1, rv b16, .unset] [])
   have rg26 := own_rngs hg26 rg25 (own_rngi _)
   refine own_g (own_F T26 m 322 #[iv i0, iv i1, iv i2, iv i3, iv nq, iv p1, iv y0, iv y1, iv y2, iv y3, iv y4, iv kq, rv b1, rv b16, .unset] [(.ref b16)]) (fun _ z_ => XS.aload X26.here hx rfl (hb hby at_320) rfl rfl z_) ?_
   refine own_g (own_F T26 m 324 #[iv i0, iv i1, iv i2, iv i3, iv nq, iv p1, iv y0, iv y1, iv y2, iv y3, iv y4, iv kq, rv b1, rv b16, .unset] [(.int 10), (.ref b16)]) (fun _ z_ => XS.bipush X26.here hx rfl (hb hby at_322) z_) ?_
   refine own_g (own_F T26 m 325 #[iv i0, iv i1, iv i2, iv i3, iv nq, iv p1, iv y0, iv y1, iv y2, iv y3, iv y4, iv kq, rv b1, rv b16, .unset] [(.int i3), (.int 10), (.ref b16)]) (fun _ z_ => XS.iloadN X26.here hx rfl (hb hby at_324) rfl z_) ?_
   refine own_g (own_F T26 m 326 #[iv i0, iv i1, iv i2, iv i3, iv nq, iv p1, iv y0, iv y1, iv y2, iv y3, iv y4, iv kq, rv b1, rv b16, .unset] [(.int (i3.toUInt32.toUInt16.toUInt32.toInt32)), (.int 10), (.ref b16)]) (fun _ z_ => XS.i2c X26.here hx rfl (hb hby at_325) rfl z_) ?_
   refine own_cast X26 hx hZ e26 A26 10 rfl (by decide) (i3.toUInt32.toUInt16.toUInt32.toInt32) (own_narI' _) (hb hby at_326) ?_
   intro T27 h27 X27 e27 W27 A27
   have N27 := Fr.snoc X27 N26 ge_b16
   obtain ⟨g27, hg27⟩ : ∃ gq_ : Nat → Int32, gq_ = fun q_ => if q_ = 10 then (i3.toUInt32.toUInt16.toUInt32.toInt32) else g26 q_ := ⟨_, rfl⟩
   have A27 : own_A Z h27 b16 .char 11 (fun q_ => .int (g27 q_)) := by rw [hg27]; exact A27
   show own_Ends p e below s _ _ _ (own_F T27 m 327 #[iv i0, iv i1, iv i2, iv i3, iv nq, iv p1, iv y0, iv y1, iv y2, iv y3, iv y4, iv kq, rv b1, rv b16, .unset] [])
   have rg27 := own_rngs hg27 rg26 (own_rngi _)
   rcases hcase with ⟨rfl, rfl, hc0, hc1, hc2, hc3, hc4⟩ | ⟨rfl, rfl, hc0, hc1, hc2, hc3, hc4⟩ | ⟨rfl, rfl, hc0, hc1, hc2, hc3, hc4⟩ | ⟨rfl, rfl, hc0, hc1, hc2, hc3, hc4⟩ | ⟨rfl, rfl, hc0, hc1, hc2, hc3, hc4⟩ | ⟨rfl, rfl, hc0, hc1, hc2, hc3, hc4⟩
   ·
    show own_Ends p e below s _ _ _ (own_F T27 m 327 #[iv i0, iv i1, iv i2, iv i3, iv 0, iv p1, iv y0, iv y1, iv y2, iv y3, iv y4, iv 0, rv b1, rv b16, .unset] [])
    refine own_g (own_F T27 m 329 #[iv i0, iv i1, iv i2, iv i3, iv 0, iv p1, iv y0, iv y1, iv y2, iv y3, iv y4, iv 0, rv b1, rv b16, .unset] [(.int 0)]) (fun _ z_ => XS.iload X27.here hx rfl (hb hby at_327) rfl z_) ?_
    refine own_g (own_F T27 m 341 #[iv i0, iv i1, iv i2, iv i3, iv 0, iv p1, iv y0, iv y1, iv y2, iv y3, iv y4, iv 0, rv b1, rv b16, .unset] []) (fun _ z_ => XS.ifYes X27.here hx rfl (pc0 := 329) (pc' := 341) rfl (hb hby at_329) rfl ((if0 _ _).trans (flt (by decide : ¬ ((0 : Int32) < (0 : Int32)))).2.2.2) (by decide) (by decide) z_) ?_
    refine own_g (own_F T27 m 343 #[iv i0, iv i1, iv i2, iv i3, iv 0, iv p1, iv y0, iv y1, iv y2, iv y3, iv y4, iv 0, rv b1, rv b16, .unset] [(.int 0)]) (fun _ z_ => XS.iload X27.here hx rfl (hb hby at_341) rfl z_) ?_
    refine own_g (own_F T27 m 344 #[iv i0, iv i1, iv i2, iv i3, iv 0, iv p1, iv y0, iv y1, iv y2, iv y3, iv y4, iv 0, rv b1, rv b16, .unset] [(.int 1), (.int 0)]) (fun _ z_ => XS.iconst X27.here hx rfl (hb hby at_343) z_) ?_
    refine own_g (own_F T27 m 358 #[iv i0, iv i1, iv i2, iv i3, iv 0, iv p1, iv y0, iv y1, iv y2, iv y3, iv y4, iv 0, rv b1, rv b16, .unset] []) (fun _ z_ => XS.icmpYes X27.here hx rfl (pc0 := 344) (pc' := 358) rfl (hb hby at_344) rfl (flt (by decide : ¬ ((1 : Int32) < (0 : Int32)))).2.2.2 (by decide) (by decide) z_) ?_
    refine own_g (own_F T27 m 360 #[iv i0, iv i1, iv i2, iv i3, iv 0, iv p1, iv y0, iv y1, iv y2, iv y3, iv y4, iv 0, rv b1, rv b16, .unset] [(.int 0)]) (fun _ z_ => XS.iload X27.here hx rfl (hb hby at_358) rfl z_) ?_
    refine own_g (own_F T27 m 361 #[iv i0, iv i1, iv i2, iv i3, iv 0, iv p1, iv y0, iv y1, iv y2, iv y3, iv y4, iv 0, rv b1, rv b16, .unset] [(.int 2), (.int 0)]) (fun _ z_ => XS.iconst X27.here hx rfl (hb hby at_360) z_) ?_
    refine own_g (own_F T27 m 375 #[iv i0, iv i1, iv i2, iv i3, iv 0, iv p1, iv y0, iv y1, iv y2, iv y3, iv y4, iv 0, rv b1, rv b16, .unset] []) (fun _ z_ => XS.icmpYes X27.here hx rfl (pc0 := 361) (pc' := 375) rfl (hb hby at_361) rfl (flt (by decide : ¬ ((2 : Int32) < (0 : Int32)))).2.2.2 (by decide) (by decide) z_) ?_
    refine own_g (own_F T27 m 377 #[iv i0, iv i1, iv i2, iv i3, iv 0, iv p1, iv y0, iv y1, iv y2, iv y3, iv y4, iv 0, rv b1, rv b16, .unset] [(.int 0)]) (fun _ z_ => XS.iload X27.here hx rfl (hb hby at_375) rfl z_) ?_
    refine own_g (own_F T27 m 378 #[iv i0, iv i1, iv i2, iv i3, iv 0, iv p1, iv y0, iv y1, iv y2, iv y3, iv y4, iv 0, rv b1, rv b16, .unset] [(.int 3), (.int 0)]) (fun _ z_ => XS.iconst X27.here hx rfl (hb hby at_377) z_) ?_
    refine own_g (own_F T27 m 392 #[iv i0, iv i1, iv i2, iv i3, iv 0, iv p1, iv y0, iv y1, iv y2, iv y3, iv y4, iv 0, rv b1, rv b16, .unset] []) (fun _ z_ => XS.icmpYes X27.here hx rfl (pc0 := 378) (pc' := 392) rfl (hb hby at_378) rfl (flt (by decide : ¬ ((3 : Int32) < (0 : Int32)))).2.2.2 (by decide) (by decide) z_) ?_
    refine own_g (own_F T27 m 394 #[iv i0, iv i1, iv i2, iv i3, iv 0, iv p1, iv y0, iv y1, iv y2, iv y3, iv y4, iv 0, rv b1, rv b16, .unset] [(.int 0)]) (fun _ z_ => XS.iload X27.here hx rfl (hb hby at_392) rfl z_) ?_
    refine own_g (own_F T27 m 395 #[iv i0, iv i1, iv i2, iv i3, iv 0, iv p1, iv y0, iv y1, iv y2, iv y3, iv y4, iv 0, rv b1, rv b16, .unset] [(.int 4), (.int 0)]) (fun _ z_ => XS.iconst X27.here hx rfl (hb hby at_394) z_) ?_
    refine own_g (own_F T27 m 409 #[iv i0, iv i1, iv i2, iv i3, iv 0, iv p1, iv y0, iv y1, iv y2, iv y3, iv y4, iv 0, rv b1, rv b16, .unset] []) (fun _ z_ => XS.icmpYes X27.here hx rfl (pc0 := 395) (pc' := 409) rfl (hb hby at_395) rfl (flt (by decide : ¬ ((4 : Int32) < (0 : Int32)))).2.2.2 (by decide) (by decide) z_) ?_
    refine own_g (own_F T27 m 411 #[iv i0, iv i1, iv i2, iv i3, iv 0, iv p1, iv y0, iv y1, iv y2, iv y3, iv y4, iv 0, rv b1, rv b16, .unset] [(.int 0)]) (fun _ z_ => XS.iload X27.here hx rfl (hb hby at_409) rfl z_) ?_
    refine own_g (own_F T27 m 412 #[iv i0, iv i1, iv i2, iv i3, iv 0, iv p1, iv y0, iv y1, iv y2, iv y3, iv y4, iv 0, rv b1, rv b16, .unset] [(.int 5), (.int 0)]) (fun _ z_ => XS.iconst X27.here hx rfl (hb hby at_411) z_) ?_
    refine own_g (own_F T27 m 426 #[iv i0, iv i1, iv i2, iv i3, iv 0, iv p1, iv y0, iv y1, iv y2, iv y3, iv y4, iv 0, rv b1, rv b16, .unset] []) (fun _ z_ => XS.icmpYes X27.here hx rfl (pc0 := 412) (pc' := 426) rfl (hb hby at_412) rfl (flt (by decide : ¬ ((5 : Int32) < (0 : Int32)))).2.2.2 (by decide) (by decide) z_) ?_
    refine own_g (own_F T27 m 428 #[iv i0, iv i1, iv i2, iv i3, iv 0, iv p1, iv y0, iv y1, iv y2, iv y3, iv y4, iv 0, rv b1, rv b16, .unset] [(.int 0)]) (fun _ z_ => XS.iload X27.here hx rfl (hb hby at_426) rfl z_) ?_
    refine own_g (own_F T27 m 430 #[iv i0, iv i1, iv i2, iv i3, iv 0, iv p1, iv y0, iv y1, iv y2, iv y3, iv y4, iv 0, rv b1, rv b16, .unset] [(.int 6), (.int 0)]) (fun _ z_ => XS.bipush X27.here hx rfl (hb hby at_428) z_) ?_
    refine own_g (own_F T27 m 446 #[iv i0, iv i1, iv i2, iv i3, iv 0, iv p1, iv y0, iv y1, iv y2, iv y3, iv y4, iv 0, rv b1, rv b16, .unset] []) (fun _ z_ => XS.icmpYes X27.here hx rfl (pc0 := 430) (pc' := 446) rfl (hb hby at_430) rfl (flt (by decide : ¬ ((6 : Int32) < (0 : Int32)))).2.2.2 (by decide) (by decide) z_) ?_
    obtain ⟨T28, h28, X28, e28, E28, A28, D28, -, st28⟩ := newO X27 hx hZ hown (own_w hw 5) (own_w hw 6) (own_w hw 7) e27 (g := (mkF m 446 #[iv i0, iv i1, iv i2, iv i3, iv 0, iv p1, iv y0, iv y1, iv y2, iv y3, iv y4, iv 0, rv b1, rv b16, .unset] [])) rfl (hb hby at_446) (by decide) (by decide)
    obtain ⟨b28, g28⟩ : ∃ z, z = h27.size := ⟨_, rfl⟩
    rw [← g28] at A28 D28 st28
    have sz_b28 : h0.size ≤ b28 := Nat.le_trans (Nat.le_trans (Nat.le_trans (Nat.le_trans (Nat.le_trans (Nat.le_trans (Nat.le_trans (Nat.le_trans (Nat.le_trans (Nat.le_trans (Nat.le_trans (Nat.le_trans (Nat.le_trans (Nat.le_trans (Nat.le_trans (Nat.le_trans (Nat.le_trans (Nat.le_trans (Nat.le_trans (Nat.le_trans (Nat.le_trans (Nat.le_refl h0.size) E1.1) (Nat.le_of_eq W3.size.symm)) (Nat.le_of_eq W5.size.symm)) (Nat.le_of_eq W7.size.symm)) (Nat.le_of_eq W9.size.symm)) (Nat.le_of_eq W11.size.symm)) (Nat.le_of_eq W13.size.symm)) (Nat.le_of_eq W15.size.symm)) E16.1) (Nat.le_of_eq W17.size.symm)) (Nat.le_of_eq W18.size.symm)) (Nat.le_of_eq W19.size.symm)) (Nat.le_of_eq W20.size.symm)) (Nat.le_of_eq W21.size.symm)) (Nat.le_of_eq W22.size.symm)) (Nat.le_of_eq W23.size.symm)) (Nat.le_of_eq W24.size.symm)) (Nat.le_of_eq W25.size.symm)) (Nat.le_of_eq W26.size.symm)) (Nat.le_of_eq W27.size.symm)) (Nat.le_of_eq g28.symm)
    have ge_b28 : n0 ≤ b28 := Nat.le_trans (Nat.le_trans (Nat.le_trans (Nat.le_trans (Nat.le_trans (Nat.le_trans (Nat.le_trans (Nat.le_trans (Nat.le_trans (Nat.le_trans (Nat.le_trans (Nat.le_trans (Nat.le_trans (Nat.le_trans (Nat.le_trans (Nat.le_trans (Nat.le_trans (Nat.le_trans (Nat.le_trans (Nat.le_trans (Nat.le_trans Z0 E1.1) (Nat.le_of_eq W3.size.symm)) (Nat.le_of_eq W5.size.symm)) (Nat.le_of_eq W7.size.symm)) (Nat.le_of_eq W9.size.symm)) (Nat.le_of_eq W11.size.symm)) (Nat.le_of_eq W13.size.symm)) (Nat.le_of_eq W15.size.symm)) E16.1) (Nat.le_of_eq W17.size.symm)) (Nat.le_of_eq W18.size.symm)) (Nat.le_of_eq W19.size.symm)) (Nat.le_of_eq W20.size.symm)) (Nat.le_of_eq W21.size.symm)) (Nat.le_of_eq W22.size.symm)) (Nat.le_of_eq W23.size.symm)) (Nat.le_of_eq W24.size.symm)) (Nat.le_of_eq W25.size.symm)) (Nat.le_of_eq W26.size.symm)) (Nat.le_of_eq W27.size.symm)) (Nat.le_of_eq g28.symm)
    have ne_b1_b28 : b1 ≠ b28 := Nat.ne_of_lt (Nat.lt_of_lt_of_le ((((((((((((A15.ext E16).other W17 ne_b1_b16).other W18 ne_b1_b16).other W19 ne_b1_b16).other W20 ne_b1_b16).other W21 ne_b1_b16).other W22 ne_b1_b16).other W23 ne_b1_b16).other W24 ne_b1_b16).other W25 ne_b1_b16).other W26 ne_b1_b16).other W27 ne_b1_b16).lt (Nat.le_of_eq g28.symm))
    have ne_b16_b28 : b16 ≠ b28 := Nat.ne_of_lt (Nat.lt_of_lt_of_le A27.lt (Nat.le_of_eq g28.symm))
    have F28_coder : Fld Z h28 b28 "java/lang/String" "coder" "B" (.int 0) := D28 (Or.inr (own_w hw 31)) (ty := .byte) (by decide)
    have F28_value : Fld Z h28 b28 "java/lang/String" "value" "[B" .null := D28 (Or.inr (own_w hw 33)) (ty := (.array .byte)) (by decide)
    refine own_pre (S' := (own_F T28 m 449 #[iv i0, iv i1, iv i2, iv i3, iv 0, iv p1, iv y0, iv y1, iv y2, iv y3, iv y4, iv 0, rv b1, rv b16, .unset] [(.ref b28)])) st28 ?_
    refine own_g (own_F T28 m 450 #[iv i0, iv i1, iv i2, iv i3, iv 0, iv p1, iv y0, iv y1, iv y2, iv y3, iv y4, iv 0, rv b1, rv b16, .unset] [(.ref b28), (.ref b28)]) (fun _ z_ => XS.dup X28.here hx rfl (hb hby at_449) rfl rfl z_) ?_
    refine own_g (own_F T28 m 452 #[iv i0, iv i1, iv i2, iv i3, iv 0, iv p1, iv y0, iv y1, iv y2, iv y3, iv y4, iv 0, rv b1, rv b16, .unset] [(.ref b16), (.ref b28), (.ref b28)]) (fun _ z_ => XS.aload X28.here hx rfl (hb hby at_450) rfl rfl z_) ?_
    refine own_callI (y := (⟨"java/lang/String", "<init>", "([C)V"⟩ : MethodName)) (b := b28) X28 hx hZ hown rfl (own_w hw 8) (own_w hw 9) (own_w hw 10) (own_w hw 7) (by decide) e28 (hM := own_si l Z a0 hw [] b28 b16 11 (11 : Int32) zc g27 h28 n0 (Nat.le_trans (Nat.le_trans (Nat.le_trans (Nat.le_trans (Nat.le_trans (Nat.le_trans (Nat.le_trans (Nat.le_trans (Nat.le_trans (Nat.le_trans (Nat.le_trans (Nat.le_trans (Nat.le_trans (Nat.le_trans (Nat.le_trans (Nat.le_trans (Nat.le_trans (Nat.le_trans (Nat.le_trans (Nat.le_trans (Nat.le_trans Z0 E1.1) (Nat.le_of_eq W3.size.symm)) (Nat.le_of_eq W5.size.symm)) (Nat.le_of_eq W7.size.symm)) (Nat.le_of_eq W9.size.symm)) (Nat.le_of_eq W11.size.symm)) (Nat.le_of_eq W13.size.symm)) (Nat.le_of_eq W15.size.symm)) E16.1) (Nat.le_of_eq W17.size.symm)) (Nat.le_of_eq W18.size.symm)) (Nat.le_of_eq W19.size.symm)) (Nat.le_of_eq W20.size.symm)) (Nat.le_of_eq W21.size.symm)) (Nat.le_of_eq W22.size.symm)) (Nat.le_of_eq W23.size.symm)) (Nat.le_of_eq W24.size.symm)) (Nat.le_of_eq W25.size.symm)) (Nat.le_of_eq W26.size.symm)) (Nat.le_of_eq W27.size.symm)) E28.1) (by decide) (by decide) (by decide) hzc (A27.ext E28) (fun i _ => rg27 i) A28 F28_value F28_coder (((((((((((((((((((((S_cs.ext E1).wr W3).wr W5).wr W7).wr W9).wr W11).wr W13).wr W15).ext E16).wr W17).wr W18).wr W19).wr W20).wr W21).wr W22).wr W23).wr W24).wr W25).wr W26).wr W27).ext E28) (((((((((((((((((((((S_ad.ext E1).wr W3).wr W5).wr W7).wr W9).wr W11).wr W13).wr W15).ext E16).wr W17).wr W18).wr W19).wr W20).wr W21).wr W22).wr W23).wr W24).wr W25).wr W26).wr W27).ext E28) (((((((((((((((((((((S_hi.ext E1).wr W3).wr W5).wr W7).wr W9).wr W11).wr W13).wr W15).ext E16).wr W17).wr W18).wr W19).wr W20).wr W21).wr W22).wr W23).wr W24).wr W25).wr W26).wr W27).ext E28) (((((((((((((((((((((S_lo.ext E1).wr W3).wr W5).wr W7).wr W9).wr W11).wr W13).wr W15).ext E16).wr W17).wr W18).wr W19).wr W20).wr W21).wr W22).wr W23).wr W24).wr W25).wr W26).wr W27).ext E28) ge_b28 (Ne.symm ne_b16_b28)) (W := 1) (pc := 452) (Ls := #[iv i0, iv i1, iv i2, iv i3, iv 0, iv p1, iv y0, iv y1, iv y2, iv y3, iv y4, iv 0, rv b1, rv b16, .unset]) (argsL := [(.ref b16)]) (rest := [(.ref b28)]) (st0 := [(.ref b16), (.ref b28), (.ref b28)]) (by rw [hml]; rfl) (lenOf own_pd15 rfl) rfl (Nat.le_of_eq rfl) (hb hby at_452) (by decide) (by decide) (by decide) (by decide) ?_
    intro v29 T29 L29 X29 hQ29
    obtain ⟨rfl, Nq29, K29, Sx29⟩ := hQ29
    have N29 := Fr.app N27 Nq29
    show own_Ends p e below s _ _ _ (own_F T29 m 455 #[iv i0, iv i1, iv i2, iv i3, iv 0, iv p1, iv y0, iv y1, iv y2, iv y3, iv y4, iv 0, rv b1, rv b16, .unset] [(.ref b28)])
    refine own_g (own_F T29 m 457 #[iv i0, iv i1, iv i2, iv i3, iv 0, iv p1, iv y0, iv y1, iv y2, iv y3, iv y4, iv 0, rv b1, rv b16, .unset] [(.int p1), (.ref b28)]) (fun _ z_ => XS.iload X29.here hx rfl (hb hby at_455) rfl z_) ?_
    refine own_g (own_F T29 m 459 #[iv i0, iv i1, iv i2, iv i3, iv 0, iv p1, iv y0, iv y1, iv y2, iv y3, iv y4, iv 0, rv b1, rv b16, .unset] [(.int p1), (.int p1), (.ref b28)]) (fun _ z_ => XS.iload X29.here hx rfl (hb hby at_457) rfl z_) ?_
    refine own_g (own_F T29 m 461 #[iv i0, iv i1, iv i2, iv i3, iv 0, iv p1, iv y0, iv y1, iv y2, iv y3, iv y4, iv 0, rv b1, rv b16, .unset] [(.int 0), (.int p1), (.int p1), (.ref b28)]) (fun _ z_ => XS.iload X29.here hx rfl (hb hby at_459) rfl z_) ?_
    refine own_g (own_F T29 m 462 #[iv i0, iv i1, iv i2, iv i3, iv 0, iv p1, iv y0, iv y1, iv y2, iv y3, iv y4, iv 0, rv b1, rv b16, .unset] [(.int (p1 + (0 : Int32))), (.int p1), (.ref b28)]) (fun _ z_ => XS.iadd X29.here hx rfl (hb hby at_461) rfl z_) ?_
    refine own_callS (y := (⟨"com/example/claimgate/claimgate/jose/Base64Url", "decode", "(Ljava/lang/String;II)[B"⟩ : MethodName)) X29 hx hZ hown (own_w hw 34) (own_w hw 35) (own_w hw 36) (own_w hw 37) (by decide) (rfl : T29.heap = T29.heap) (hM := own_dec0 l Z a0 hw [] b28 p1 (p1 + (0 : Int32)) zc P g27 sv hsv y0 y1 y2 y3 y4 T29.heap n0 (Nat.le_trans (Nat.le_trans (Nat.le_trans (Nat.le_trans (Nat.le_trans (Nat.le_trans (Nat.le_trans (Nat.le_trans (Nat.le_trans (Nat.le_trans (Nat.le_trans (Nat.le_trans (Nat.le_trans (Nat.le_trans (Nat.le_trans (Nat.le_trans (Nat.le_trans (Nat.le_trans (Nat.le_trans (Nat.le_trans (Nat.le_trans (Nat.le_trans Z0 E1.1) (Nat.le_of_eq W3.size.symm)) (Nat.le_of_eq W5.size.symm)) (Nat.le_of_eq W7.size.symm)) (Nat.le_of_eq W9.size.symm)) (Nat.le_of_eq W11.size.symm)) (Nat.le_of_eq W13.size.symm)) (Nat.le_of_eq W15.size.symm)) E16.1) (Nat.le_of_eq W17.size.symm)) (Nat.le_of_eq W18.size.symm)) (Nat.le_of_eq W19.size.symm)) (Nat.le_of_eq W20.size.symm)) (Nat.le_of_eq W21.size.symm)) (Nat.le_of_eq W22.size.symm)) (Nat.le_of_eq W23.size.symm)) (Nat.le_of_eq W24.size.symm)) (Nat.le_of_eq W25.size.symm)) (Nat.le_of_eq W26.size.symm)) (Nat.le_of_eq W27.size.symm)) E28.1) K29.1) hp hP (own_padd hp hP (0 : Int32) 0 (by decide) (by decide)) hzc Sx29 (own_sta_keep (((((((((((((((((((((S_cs.ext E1).wr W3).wr W5).wr W7).wr W9).wr W11).wr W13).wr W15).ext E16).wr W17).wr W18).wr W19).wr W20).wr W21).wr W22).wr W23).wr W24).wr W25).wr W26).wr W27).ext E28) K29 (allS (own_plainE A28) all0)) (own_sta_keep (((((((((((((((((((((S_sf.ext E1).wr W3).wr W5).wr W7).wr W9).wr W11).wr W13).wr W15).ext E16).wr W17).wr W18).wr W19).wr W20).wr W21).wr W22).wr W23).wr W24).wr W25).wr W26).wr W27).ext E28) K29 (allS (own_plainE A28) all0)) (own_sta_keep (((((((((((((((((((((S_ad.ext E1).wr W3).wr W5).wr W7).wr W9).wr W11).wr W13).wr W15).ext E16).wr W17).wr W18).wr W19).wr W20).wr W21).wr W22).wr W23).wr W24).wr W25).wr W26).wr W27).ext E28) K29 (allS (own_plainE A28) all0)) (own_sta_keep (((((((((((((((((((((S_hi.ext E1).wr W3).wr W5).wr W7).wr W9).wr W11).wr W13).wr W15).ext E16).wr W17).wr W18).wr W19).wr W20).wr W21).wr W22).wr W23).wr W24).wr W25).wr W26).wr W27).ext E28) K29 (allS (own_plainE A28) all0)) (own_sta_keep (((((((((((((((((((((S_lo.ext E1).wr W3).wr W5).wr W7).wr W9).wr W11).wr W13).wr W15).ext E16).wr W17).wr W18).wr W19).wr W20).wr W21).wr W22).wr W23).wr W24).wr W25).wr W26).wr W27).ext E28) K29 (allS (own_plainE A28) all0)) hc0 hc1 hc2 hc3 hc4) (W := 0) (pc := 462) (Ls := #[iv i0, iv i1, iv i2, iv i3, iv 0, iv p1, iv y0, iv y1, iv y2, iv y3, iv y4, iv 0, rv b1, rv b16, .unset]) (argsL := [(.ref b28), (.int p1), (.int (p1 + (0 : Int32)))]) (rest := []) (st0 := [(.int (p1 + (0 : Int32))), (.int p1), (.ref b28)]) (by rw [hml]; rfl) (lenOf own_pd16 rfl) rfl (Nat.le_of_eq rfl) (hb hby at_462) (by decide) (by decide) (by decide) (by decide) ?_
    intro v30 T30 L30 X30 hQ30
    obtain ⟨ra30, gr30, rfl, Nq30, K30, ge_ra30, Ar30⟩ := hQ30
    have N30 := Fr.app N29 Nq30
    show own_Ends p e below s _ _ _ (own_F T30 m 465 #[iv i0, iv i1, iv i2, iv i3, iv 0, iv p1, iv y0, iv y1, iv y2, iv y3, iv y4, iv 0, rv b1, rv b16, .unset] [(.ref ra30)])
    refine own_g (own_F T30 m 467 #[iv i0, iv i1, iv i2, iv i3, iv 0, iv p1, iv y0, iv y1, iv y2, iv y3, iv y4, iv 0, rv b1, rv b16, rv ra30] []) (fun _ z_ => XS.astore X30.here hx rfl (hb hby at_465) rfl rfl (l' := #[iv i0, iv i1, iv i2, iv i3, iv 0, iv p1, iv y0, iv y1, iv y2, iv y3, iv y4, iv 0, rv b1, rv b16, rv ra30]) rfl z_) ?_
    refine own_g (own_F T30 m 469 #[iv i0, iv i1, iv i2, iv i3, iv 0, iv p1, iv y0, iv y1, iv y2, iv y3, iv y4, iv 0, rv b1, rv b16, rv ra30] [(.ref ra30)]) (fun _ z_ => XS.aload X30.here hx rfl (hb hby at_467) rfl rfl z_) ?_
    refine own_alen X30 hx hZ (rfl : T30.heap = T30.heap) Ar30 (hb hby at_469) ?_
    show own_Ends p e below s _ _ _ (own_F T30 m 470 #[iv i0, iv i1, iv i2, iv i3, iv 0, iv p1, iv y0, iv y1, iv y2, iv y3, iv y4, iv 0, rv b1, rv b16, rv ra30] [(.int 0)])
    refine own_g (own_F T30 m 472 #[iv i0, iv i1, iv i2, iv i3, iv 0, iv p1, iv y0, iv y1, iv y2, iv y3, iv y4, iv 0, rv b1, rv b16, rv ra30] [(.int 0), (.int 0)]) (fun _ z_ => XS.iload X30.here hx rfl (hb hby at_470) rfl z_) ?_
    refine own_g (own_F T30 m 475 #[iv i0, iv i1, iv i2, iv i3, iv 0, iv p1, iv y0, iv y1, iv y2, iv y3, iv y4, iv 0, rv b1, rv b16, rv ra30] []) (fun _ z_ => XS.icmpNo X30.here hx rfl (hb hby at_472) rfl (teq (by decide : ((0 : Int32) = (0 : Int32)))).2 z_) ?_
    refine own_g (own_F T30 m 477 #[iv i0, iv i1, iv i2, iv i3, iv 0, iv p1, iv y0, iv y1, iv y2, iv y3, iv y4, iv 0, rv b1, rv b16, rv ra30] [(.ref ra30)]) (fun _ z_ => XS.aload X30.here hx rfl (hb hby at_475) rfl rfl z_) ?_
    refine own_g (own_F T30 m 478 #[iv i0, iv i1, iv i2, iv i3, iv 0, iv p1, iv y0, iv y1, iv y2, iv y3, iv y4, iv 0, rv b1, rv b16, rv ra30] [(.int 0), (.ref ra30)]) (fun _ z_ => XS.iconst X30.here hx rfl (hb hby at_477) z_) ?_
    refine own_g (own_F T30 m 480 #[iv i0, iv i1, iv i2, iv i3, iv 0, iv p1, iv y0, iv y1, iv y2, iv y3, iv y4, iv 0, rv b1, rv b16, rv ra30] [(.int y0), (.int 0), (.ref ra30)]) (fun _ z_ => XS.iload X30.here hx rfl (hb hby at_478) rfl z_) ?_
    refine own_callS (y := (⟨"com/example/claimgate/claimgate/jose/Base64UrlDecodePinLaw", "at", "([BII)Z"⟩ : MethodName)) X30 hx hZ hown (own_w hw 38) (own_w hw 39) (own_w hw 3) (own_w hw 40) (by decide) (rfl : T30.heap = T30.heap) (hM := own_at l Z a0 hw [] ra30 0 0 (0 : Int32) y0 gr30 T30.heap n0 (Nat.le_trans (Nat.le_trans (Nat.le_trans (Nat.le_trans (Nat.le_trans (Nat.le_trans (Nat.le_trans (Nat.le_trans (Nat.le_trans (Nat.le_trans (Nat.le_trans (Nat.le_trans (Nat.le_trans (Nat.le_trans (Nat.le_trans (Nat.le_trans (Nat.le_trans (Nat.le_trans (Nat.le_trans (Nat.le_trans (Nat.le_trans (Nat.le_trans (Nat.le_trans Z0 E1.1) (Nat.le_of_eq W3.size.symm)) (Nat.le_of_eq W5.size.symm)) (Nat.le_of_eq W7.size.symm)) (Nat.le_of_eq W9.size.symm)) (Nat.le_of_eq W11.size.symm)) (Nat.le_of_eq W13.size.symm)) (Nat.le_of_eq W15.size.symm)) E16.1) (Nat.le_of_eq W17.size.symm)) (Nat.le_of_eq W18.size.symm)) (Nat.le_of_eq W19.size.symm)) (Nat.le_of_eq W20.size.symm)) (Nat.le_of_eq W21.size.symm)) (Nat.le_of_eq W22.size.symm)) (Nat.le_of_eq W23.size.symm)) (Nat.le_of_eq W24.size.symm)) (Nat.le_of_eq W25.size.symm)) (Nat.le_of_eq W26.size.symm)) (Nat.le_of_eq W27.size.symm)) E28.1) K29.1) K30.1) (by decide) (fun q => absurd q (by decide)) Ar30) (W := 0) (pc := 480) (Ls := #[iv i0, iv i1, iv i2, iv i3, iv 0, iv p1, iv y0, iv y1, iv y2, iv y3, iv y4, iv 0, rv b1, rv b16, rv ra30]) (argsL := [(.ref ra30), (.int 0), (.int y0)]) (rest := []) (st0 := [(.int y0), (.int 0), (.ref ra30)]) (by rw [hml]; rfl) (lenOf own_pd17 rfl) rfl (Nat.le_of_eq rfl) (hb hby at_480) (by decide) (by decide) (by decide) (by decide) ?_
    intro v31 T31 L31 X31 hQ31
    obtain ⟨rfl, Nq31, hh31⟩ := hQ31
    have N31 := Fr.app N30 Nq31
    show own_Ends p e below s _ _ _ (own_F T31 m 483 #[iv i0, iv i1, iv i2, iv i3, iv 0, iv p1, iv y0, iv y1, iv y2, iv y3, iv y4, iv 0, rv b1, rv b16, rv ra30] [(.int 1)])
    refine own_g (own_F T31 m 486 #[iv i0, iv i1, iv i2, iv i3, iv 0, iv p1, iv y0, iv y1, iv y2, iv y3, iv y4, iv 0, rv b1, rv b16, rv ra30] []) (fun _ z_ => XS.ifNo X31.here hx rfl (hb hby at_483) rfl ((if0 _ _).trans (feq (by decide : ¬ ((1 : Int32) = (0 : Int32)))).1) z_) ?_
    refine own_g (own_F T31 m 488 #[iv i0, iv i1, iv i2, iv i3, iv 0, iv p1, iv y0, iv y1, iv y2, iv y3, iv y4, iv 0, rv b1, rv b16, rv ra30] [(.ref ra30)]) (fun _ z_ => XS.aload X31.here hx rfl (hb hby at_486) rfl rfl z_) ?_
    refine own_g (own_F T31 m 489 #[iv i0, iv i1, iv i2, iv i3, iv 0, iv p1, iv y0, iv y1, iv y2, iv y3, iv y4, iv 0, rv b1, rv b16, rv ra30] [(.int 1), (.ref ra30)]) (fun _ z_ => XS.iconst X31.here hx rfl (hb hby at_488) z_) ?_
    refine own_g (own_F T31 m 491 #[iv i0, iv i1, iv i2, iv i3, iv 0, iv p1, iv y0, iv y1, iv y2, iv y3, iv y4, iv 0, rv b1, rv b16, rv ra30] [(.int y1), (.int 1), (.ref ra30)]) (fun _ z_ => XS.iload X31.here hx rfl (hb hby at_489) rfl z_) ?_
    refine own_callS (y := (⟨"com/example/claimgate/claimgate/jose/Base64UrlDecodePinLaw", "at", "([BII)Z"⟩ : MethodName)) X31 hx hZ hown (own_w hw 38) (own_w hw 39) (own_w hw 3) (own_w hw 40) (by decide) hh31 (hM := own_at l Z a0 hw [] ra30 0 1 (1 : Int32) y1 gr30 T30.heap n0 (Nat.le_trans (Nat.le_trans (Nat.le_trans (Nat.le_trans (Nat.le_trans (Nat.le_trans (Nat.le_trans (Nat.le_trans (Nat.le_trans (Nat.le_trans (Nat.le_trans (Nat.le_trans (Nat.le_trans (Nat.le_trans (Nat.le_trans (Nat.le_trans (Nat.le_trans (Nat.le_trans (Nat.le_trans (Nat.le_trans (Nat.le_trans (Nat.le_trans (Nat.le_trans Z0 E1.1) (Nat.le_of_eq W3.size.symm)) (Nat.le_of_eq W5.size.symm)) (Nat.le_of_eq W7.size.symm)) (Nat.le_of_eq W9.size.symm)) (Nat.le_of_eq W11.size.symm)) (Nat.le_of_eq W13.size.symm)) (Nat.le_of_eq W15.size.symm)) E16.1) (Nat.le_of_eq W17.size.symm)) (Nat.le_of_eq W18.size.symm)) (Nat.le_of_eq W19.size.symm)) (Nat.le_of_eq W20.size.symm)) (Nat.le_of_eq W21.size.symm)) (Nat.le_of_eq W22.size.symm)) (Nat.le_of_eq W23.size.symm)) (Nat.le_of_eq W24.size.symm)) (Nat.le_of_eq W25.size.symm)) (Nat.le_of_eq W26.size.symm)) (Nat.le_of_eq W27.size.symm)) E28.1) K29.1) K30.1) (by decide) (fun q => absurd q (by decide)) Ar30) (W := 0) (pc := 491) (Ls := #[iv i0, iv i1, iv i2, iv i3, iv 0, iv p1, iv y0, iv y1, iv y2, iv y3, iv y4, iv 0, rv b1, rv b16, rv ra30]) (argsL := [(.ref ra30), (.int 1), (.int y1)]) (rest := []) (st0 := [(.int y1), (.int 1), (.ref ra30)]) (by rw [hml]; rfl) (lenOf own_pd17 rfl) rfl (Nat.le_of_eq rfl) (hb hby at_491) (by decide) (by decide) (by decide) (by decide) ?_
    intro v32 T32 L32 X32 hQ32
    obtain ⟨rfl, Nq32, hh32⟩ := hQ32
    have N32 := Fr.app N31 Nq32
    show own_Ends p e below s _ _ _ (own_F T32 m 494 #[iv i0, iv i1, iv i2, iv i3, iv 0, iv p1, iv y0, iv y1, iv y2, iv y3, iv y4, iv 0, rv b1, rv b16, rv ra30] [(.int 1)])
    refine own_g (own_F T32 m 497 #[iv i0, iv i1, iv i2, iv i3, iv 0, iv p1, iv y0, iv y1, iv y2, iv y3, iv y4, iv 0, rv b1, rv b16, rv ra30] []) (fun _ z_ => XS.ifNo X32.here hx rfl (hb hby at_494) rfl ((if0 _ _).trans (feq (by decide : ¬ ((1 : Int32) = (0 : Int32)))).1) z_) ?_
    refine own_g (own_F T32 m 499 #[iv i0, iv i1, iv i2, iv i3, iv 0, iv p1, iv y0, iv y1, iv y2, iv y3, iv y4, iv 0, rv b1, rv b16, rv ra30] [(.ref ra30)]) (fun _ z_ => XS.aload X32.here hx rfl (hb hby at_497) rfl rfl z_) ?_
    refine own_g (own_F T32 m 500 #[iv i0, iv i1, iv i2, iv i3, iv 0, iv p1, iv y0, iv y1, iv y2, iv y3, iv y4, iv 0, rv b1, rv b16, rv ra30] [(.int 2), (.ref ra30)]) (fun _ z_ => XS.iconst X32.here hx rfl (hb hby at_499) z_) ?_
    refine own_g (own_F T32 m 502 #[iv i0, iv i1, iv i2, iv i3, iv 0, iv p1, iv y0, iv y1, iv y2, iv y3, iv y4, iv 0, rv b1, rv b16, rv ra30] [(.int y2), (.int 2), (.ref ra30)]) (fun _ z_ => XS.iload X32.here hx rfl (hb hby at_500) rfl z_) ?_
    refine own_callS (y := (⟨"com/example/claimgate/claimgate/jose/Base64UrlDecodePinLaw", "at", "([BII)Z"⟩ : MethodName)) X32 hx hZ hown (own_w hw 38) (own_w hw 39) (own_w hw 3) (own_w hw 40) (by decide) hh32 (hM := own_at l Z a0 hw [] ra30 0 2 (2 : Int32) y2 gr30 T30.heap n0 (Nat.le_trans (Nat.le_trans (Nat.le_trans (Nat.le_trans (Nat.le_trans (Nat.le_trans (Nat.le_trans (Nat.le_trans (Nat.le_trans (Nat.le_trans (Nat.le_trans (Nat.le_trans (Nat.le_trans (Nat.le_trans (Nat.le_trans (Nat.le_trans (Nat.le_trans (Nat.le_trans (Nat.le_trans (Nat.le_trans (Nat.le_trans (Nat.le_trans (Nat.le_trans Z0 E1.1) (Nat.le_of_eq W3.size.symm)) (Nat.le_of_eq W5.size.symm)) (Nat.le_of_eq W7.size.symm)) (Nat.le_of_eq W9.size.symm)) (Nat.le_of_eq W11.size.symm)) (Nat.le_of_eq W13.size.symm)) (Nat.le_of_eq W15.size.symm)) E16.1) (Nat.le_of_eq W17.size.symm)) (Nat.le_of_eq W18.size.symm)) (Nat.le_of_eq W19.size.symm)) (Nat.le_of_eq W20.size.symm)) (Nat.le_of_eq W21.size.symm)) (Nat.le_of_eq W22.size.symm)) (Nat.le_of_eq W23.size.symm)) (Nat.le_of_eq W24.size.symm)) (Nat.le_of_eq W25.size.symm)) (Nat.le_of_eq W26.size.symm)) (Nat.le_of_eq W27.size.symm)) E28.1) K29.1) K30.1) (by decide) (fun q => absurd q (by decide)) Ar30) (W := 0) (pc := 502) (Ls := #[iv i0, iv i1, iv i2, iv i3, iv 0, iv p1, iv y0, iv y1, iv y2, iv y3, iv y4, iv 0, rv b1, rv b16, rv ra30]) (argsL := [(.ref ra30), (.int 2), (.int y2)]) (rest := []) (st0 := [(.int y2), (.int 2), (.ref ra30)]) (by rw [hml]; rfl) (lenOf own_pd17 rfl) rfl (Nat.le_of_eq rfl) (hb hby at_502) (by decide) (by decide) (by decide) (by decide) ?_
    intro v33 T33 L33 X33 hQ33
    obtain ⟨rfl, Nq33, hh33⟩ := hQ33
    have N33 := Fr.app N32 Nq33
    show own_Ends p e below s _ _ _ (own_F T33 m 505 #[iv i0, iv i1, iv i2, iv i3, iv 0, iv p1, iv y0, iv y1, iv y2, iv y3, iv y4, iv 0, rv b1, rv b16, rv ra30] [(.int 1)])
    refine own_g (own_F T33 m 508 #[iv i0, iv i1, iv i2, iv i3, iv 0, iv p1, iv y0, iv y1, iv y2, iv y3, iv y4, iv 0, rv b1, rv b16, rv ra30] []) (fun _ z_ => XS.ifNo X33.here hx rfl (hb hby at_505) rfl ((if0 _ _).trans (feq (by decide : ¬ ((1 : Int32) = (0 : Int32)))).1) z_) ?_
    refine own_g (own_F T33 m 510 #[iv i0, iv i1, iv i2, iv i3, iv 0, iv p1, iv y0, iv y1, iv y2, iv y3, iv y4, iv 0, rv b1, rv b16, rv ra30] [(.ref ra30)]) (fun _ z_ => XS.aload X33.here hx rfl (hb hby at_508) rfl rfl z_) ?_
    refine own_g (own_F T33 m 511 #[iv i0, iv i1, iv i2, iv i3, iv 0, iv p1, iv y0, iv y1, iv y2, iv y3, iv y4, iv 0, rv b1, rv b16, rv ra30] [(.int 3), (.ref ra30)]) (fun _ z_ => XS.iconst X33.here hx rfl (hb hby at_510) z_) ?_
    refine own_g (own_F T33 m 513 #[iv i0, iv i1, iv i2, iv i3, iv 0, iv p1, iv y0, iv y1, iv y2, iv y3, iv y4, iv 0, rv b1, rv b16, rv ra30] [(.int y3), (.int 3), (.ref ra30)]) (fun _ z_ => XS.iload X33.here hx rfl (hb hby at_511) rfl z_) ?_
    refine own_callS (y := (⟨"com/example/claimgate/claimgate/jose/Base64UrlDecodePinLaw", "at", "([BII)Z"⟩ : MethodName)) X33 hx hZ hown (own_w hw 38) (own_w hw 39) (own_w hw 3) (own_w hw 40) (by decide) hh33 (hM := own_at l Z a0 hw [] ra30 0 3 (3 : Int32) y3 gr30 T30.heap n0 (Nat.le_trans (Nat.le_trans (Nat.le_trans (Nat.le_trans (Nat.le_trans (Nat.le_trans (Nat.le_trans (Nat.le_trans (Nat.le_trans (Nat.le_trans (Nat.le_trans (Nat.le_trans (Nat.le_trans (Nat.le_trans (Nat.le_trans (Nat.le_trans (Nat.le_trans (Nat.le_trans (Nat.le_trans (Nat.le_trans (Nat.le_trans (Nat.le_trans (Nat.le_trans Z0 E1.1) (Nat.le_of_eq W3.size.symm)) (Nat.le_of_eq W5.size.symm)) (Nat.le_of_eq W7.size.symm)) (Nat.le_of_eq W9.size.symm)) (Nat.le_of_eq W11.size.symm)) (Nat.le_of_eq W13.size.symm)) (Nat.le_of_eq W15.size.symm)) E16.1) (Nat.le_of_eq W17.size.symm)) (Nat.le_of_eq W18.size.symm)) (Nat.le_of_eq W19.size.symm)) (Nat.le_of_eq W20.size.symm)) (Nat.le_of_eq W21.size.symm)) (Nat.le_of_eq W22.size.symm)) (Nat.le_of_eq W23.size.symm)) (Nat.le_of_eq W24.size.symm)) (Nat.le_of_eq W25.size.symm)) (Nat.le_of_eq W26.size.symm)) (Nat.le_of_eq W27.size.symm)) E28.1) K29.1) K30.1) (by decide) (fun q => absurd q (by decide)) Ar30) (W := 0) (pc := 513) (Ls := #[iv i0, iv i1, iv i2, iv i3, iv 0, iv p1, iv y0, iv y1, iv y2, iv y3, iv y4, iv 0, rv b1, rv b16, rv ra30]) (argsL := [(.ref ra30), (.int 3), (.int y3)]) (rest := []) (st0 := [(.int y3), (.int 3), (.ref ra30)]) (by rw [hml]; rfl) (lenOf own_pd17 rfl) rfl (Nat.le_of_eq rfl) (hb hby at_513) (by decide) (by decide) (by decide) (by decide) ?_
    intro v34 T34 L34 X34 hQ34
    obtain ⟨rfl, Nq34, hh34⟩ := hQ34
    have N34 := Fr.app N33 Nq34
    show own_Ends p e below s _ _ _ (own_F T34 m 516 #[iv i0, iv i1, iv i2, iv i3, iv 0, iv p1, iv y0, iv y1, iv y2, iv y3, iv y4, iv 0, rv b1, rv b16, rv ra30] [(.int 1)])
    refine own_g (own_F T34 m 519 #[iv i0, iv i1, iv i2, iv i3, iv 0, iv p1, iv y0, iv y1, iv y2, iv y3, iv y4, iv 0, rv b1, rv b16, rv ra30] []) (fun _ z_ => XS.ifNo X34.here hx rfl (hb hby at_516) rfl ((if0 _ _).trans (feq (by decide : ¬ ((1 : Int32) = (0 : Int32)))).1) z_) ?_
    refine own_g (own_F T34 m 521 #[iv i0, iv i1, iv i2, iv i3, iv 0, iv p1, iv y0, iv y1, iv y2, iv y3, iv y4, iv 0, rv b1, rv b16, rv ra30] [(.ref ra30)]) (fun _ z_ => XS.aload X34.here hx rfl (hb hby at_519) rfl rfl z_) ?_
    refine own_g (own_F T34 m 522 #[iv i0, iv i1, iv i2, iv i3, iv 0, iv p1, iv y0, iv y1, iv y2, iv y3, iv y4, iv 0, rv b1, rv b16, rv ra30] [(.int 4), (.ref ra30)]) (fun _ z_ => XS.iconst X34.here hx rfl (hb hby at_521) z_) ?_
    refine own_g (own_F T34 m 524 #[iv i0, iv i1, iv i2, iv i3, iv 0, iv p1, iv y0, iv y1, iv y2, iv y3, iv y4, iv 0, rv b1, rv b16, rv ra30] [(.int y4), (.int 4), (.ref ra30)]) (fun _ z_ => XS.iload X34.here hx rfl (hb hby at_522) rfl z_) ?_
    refine own_callS (y := (⟨"com/example/claimgate/claimgate/jose/Base64UrlDecodePinLaw", "at", "([BII)Z"⟩ : MethodName)) X34 hx hZ hown (own_w hw 38) (own_w hw 39) (own_w hw 3) (own_w hw 40) (by decide) hh34 (hM := own_at l Z a0 hw [] ra30 0 4 (4 : Int32) y4 gr30 T30.heap n0 (Nat.le_trans (Nat.le_trans (Nat.le_trans (Nat.le_trans (Nat.le_trans (Nat.le_trans (Nat.le_trans (Nat.le_trans (Nat.le_trans (Nat.le_trans (Nat.le_trans (Nat.le_trans (Nat.le_trans (Nat.le_trans (Nat.le_trans (Nat.le_trans (Nat.le_trans (Nat.le_trans (Nat.le_trans (Nat.le_trans (Nat.le_trans (Nat.le_trans (Nat.le_trans Z0 E1.1) (Nat.le_of_eq W3.size.symm)) (Nat.le_of_eq W5.size.symm)) (Nat.le_of_eq W7.size.symm)) (Nat.le_of_eq W9.size.symm)) (Nat.le_of_eq W11.size.symm)) (Nat.le_of_eq W13.size.symm)) (Nat.le_of_eq W15.size.symm)) E16.1) (Nat.le_of_eq W17.size.symm)) (Nat.le_of_eq W18.size.symm)) (Nat.le_of_eq W19.size.symm)) (Nat.le_of_eq W20.size.symm)) (Nat.le_of_eq W21.size.symm)) (Nat.le_of_eq W22.size.symm)) (Nat.le_of_eq W23.size.symm)) (Nat.le_of_eq W24.size.symm)) (Nat.le_of_eq W25.size.symm)) (Nat.le_of_eq W26.size.symm)) (Nat.le_of_eq W27.size.symm)) E28.1) K29.1) K30.1) (by decide) (fun q => absurd q (by decide)) Ar30) (W := 0) (pc := 524) (Ls := #[iv i0, iv i1, iv i2, iv i3, iv 0, iv p1, iv y0, iv y1, iv y2, iv y3, iv y4, iv 0, rv b1, rv b16, rv ra30]) (argsL := [(.ref ra30), (.int 4), (.int y4)]) (rest := []) (st0 := [(.int y4), (.int 4), (.ref ra30)]) (by rw [hml]; rfl) (lenOf own_pd17 rfl) rfl (Nat.le_of_eq rfl) (hb hby at_524) (by decide) (by decide) (by decide) (by decide) ?_
    intro v35 T35 L35 X35 hQ35
    obtain ⟨rfl, Nq35, hh35⟩ := hQ35
    have N35 := Fr.app N34 Nq35
    show own_Ends p e below s _ _ _ (own_F T35 m 527 #[iv i0, iv i1, iv i2, iv i3, iv 0, iv p1, iv y0, iv y1, iv y2, iv y3, iv y4, iv 0, rv b1, rv b16, rv ra30] [(.int 1)])
    refine own_g (own_F T35 m 530 #[iv i0, iv i1, iv i2, iv i3, iv 0, iv p1, iv y0, iv y1, iv y2, iv y3, iv y4, iv 0, rv b1, rv b16, rv ra30] []) (fun _ z_ => XS.ifNo X35.here hx rfl (hb hby at_527) rfl ((if0 _ _).trans (feq (by decide : ¬ ((1 : Int32) = (0 : Int32)))).1) z_) ?_
    refine own_g (own_F T35 m 531 #[iv i0, iv i1, iv i2, iv i3, iv 0, iv p1, iv y0, iv y1, iv y2, iv y3, iv y4, iv 0, rv b1, rv b16, rv ra30] [(.int 1)]) (fun _ z_ => XS.iconst X35.here hx rfl (hb hby at_530) z_) ?_
    refine own_g (own_F T35 m 535 #[iv i0, iv i1, iv i2, iv i3, iv 0, iv p1, iv y0, iv y1, iv y2, iv y3, iv y4, iv 0, rv b1, rv b16, rv ra30] [(.int 1)]) (fun _ z_ => XS.goto X35.here hx rfl (pc0 := 531) (pc' := 535) rfl (hb hby at_531) (by decide) (by decide) z_) ?_
    refine own_ret (t := .boolean) X35 hx hlk hrt rfl (Or.inl ⟨rfl, by simp, _, rfl⟩) (hb hby at_535) (by decide) (by decide) ?_
    exact ⟨rfl, N35⟩
   ·
    show own_Ends p e below s _ _ _ (own_F T27 m 327 #[iv i0, iv i1, iv i2, iv i3, iv 1, iv p1, iv y0, iv y1, iv y2, iv y3, iv y4, iv 2, rv b1, rv b16, .unset] [])
    refine own_g (own_F T27 m 329 #[iv i0, iv i1, iv i2, iv i3, iv 1, iv p1, iv y0, iv y1, iv y2, iv y3, iv y4, iv 2, rv b1, rv b16, .unset] [(.int 2)]) (fun _ z_ => XS.iload X27.here hx rfl (hb hby at_327) rfl z_) ?_
    refine own_g (own_F T27 m 332 #[iv i0, iv i1, iv i2, iv i3, iv 1, iv p1, iv y0, iv y1, iv y2, iv y3, iv y4, iv 2, rv b1, rv b16, .unset] []) (fun _ z_ => XS.ifNo X27.here hx rfl (hb hby at_329) rfl ((if0 _ _).trans (tlt (by decide : ((0 : Int32) < (2 : Int32)))).2.2.2) z_) ?_
    refine own_g (own_F T27 m 334 #[iv i0, iv i1, iv i2, iv i3, iv 1, iv p1, iv y0, iv y1, iv y2, iv y3, iv y4, iv 2, rv b1, rv b16, .unset] [(.ref b16)]) (fun _ z_ => XS.aload X27.here hx rfl (hb hby at_332) rfl rfl z_) ?_
    refine own_g (own_F T27 m 336 #[iv i0, iv i1, iv i2, iv i3, iv 1, iv p1, iv y0, iv y1, iv y2, iv y3, iv y4, iv 2, rv b1, rv b16, .unset] [(.int p1), (.ref b16)]) (fun _ z_ => XS.iload X27.here hx rfl (hb hby at_334) rfl z_) ?_
    refine own_g (own_F T27 m 338 #[iv i0, iv i1, iv i2, iv i3, iv 1, iv p1, iv y0, iv y1, iv y2, iv y3, iv y4, iv 2, rv b1, rv b16, .unset] [(.ref b1), (.int p1), (.ref b16)]) (fun _ z_ => XS.aload X27.here hx rfl (hb hby at_336) rfl rfl z_) ?_
    refine own_g (own_F T27 m 339 #[iv i0, iv i1, iv i2, iv i3, iv 1, iv p1, iv y0, iv y1, iv y2, iv y3, iv y4, iv 2, rv b1, rv b16, .unset] [(.int 0), (.ref b1), (.int p1), (.ref b16)]) (fun _ z_ => XS.iconst X27.here hx rfl (hb hby at_338) z_) ?_
    refine own_cald X27 hx hZ e27 ((((((((((((A15.ext E16).other W17 ne_b1_b16).other W18 ne_b1_b16).other W19 ne_b1_b16).other W20 ne_b1_b16).other W21 ne_b1_b16).other W22 ne_b1_b16).other W23 ne_b1_b16).other W24 ne_b1_b16).other W25 ne_b1_b16).other W26 ne_b1_b16).other W27 ne_b1_b16) 0 rfl (by decide) (hb hby at_339) ?_
    show own_Ends p e below s _ _ _ (own_F T27 m 340 #[iv i0, iv i1, iv i2, iv i3, iv 1, iv p1, iv y0, iv y1, iv y2, iv y3, iv y4, iv 2, rv b1, rv b16, .unset] [(.int (g15 0)), (.int p1), (.ref b16)])
    rw [q15_0]
    refine own_cast X27 hx hZ e27 A27 (P + 0) hp (own_pl hP 0) c0_ (own_narC (own_sym_rng hs0).1) (hb hby at_340) ?_
    intro T36 h36 X36 e36 W36 A36
    have N36 := Fr.snoc X36 N27 ge_b16
    obtain ⟨g36, hg36⟩ : ∃ gq_ : Nat → Int32, gq_ = fun q_ => if q_ = (P + 0) then c0_ else g27 q_ := ⟨_, rfl⟩
    have A36 : own_A Z h36 b16 .char 11 (fun q_ => .int (g36 q_)) := by rw [hg36]; exact A36
    show own_Ends p e below s _ _ _ (own_F T36 m 341 #[iv i0, iv i1, iv i2, iv i3, iv 1, iv p1, iv y0, iv y1, iv y2, iv y3, iv y4, iv 2, rv b1, rv b16, .unset] [])
    have rg36 := own_rngs hg36 rg27 (own_sym_rng hs0).1
    refine own_g (own_F T36 m 343 #[iv i0, iv i1, iv i2, iv i3, iv 1, iv p1, iv y0, iv y1, iv y2, iv y3, iv y4, iv 2, rv b1, rv b16, .unset] [(.int 2)]) (fun _ z_ => XS.iload X36.here hx rfl (hb hby at_341) rfl z_) ?_
    refine own_g (own_F T36 m 344 #[iv i0, iv i1, iv i2, iv i3, iv 1, iv p1, iv y0, iv y1, iv y2, iv y3, iv y4, iv 2, rv b1, rv b16, .unset] [(.int 1), (.int 2)]) (fun _ z_ => XS.iconst X36.here hx rfl (hb hby at_343) z_) ?_
    refine own_g (own_F T36 m 347 #[iv i0, iv i1, iv i2, iv i3, iv 1, iv p1, iv y0, iv y1, iv y2, iv y3, iv y4, iv 2, rv b1, rv b16, .unset] []) (fun _ z_ => XS.icmpNo X36.here hx rfl (hb hby at_344) rfl (tlt (by decide : ((1 : Int32) < (2 : Int32)))).2.2.2 z_) ?_
    refine own_g (own_F T36 m 349 #[iv i0, iv i1, iv i2, iv i3, iv 1, iv p1, iv y0, iv y1, iv y2, iv y3, iv y4, iv 2, rv b1, rv b16, .unset] [(.ref b16)]) (fun _ z_ => XS.aload X36.here hx rfl (hb hby at_347) rfl rfl z_) ?_
    refine own_g (own_F T36 m 351 #[iv i0, iv i1, iv i2, iv i3, iv 1, iv p1, iv y0, iv y1, iv y2, iv y3, iv y4, iv 2, rv b1, rv b16, .unset] [(.int p1), (.ref b16)]) (fun _ z_ => XS.iload X36.here hx rfl (hb hby at_349) rfl z_) ?_
    refine own_g (own_F T36 m 352 #[iv i0, iv i1, iv i2, iv i3, iv 1, iv p1, iv y0, iv y1, iv y2, iv y3, iv y4, iv 2, rv b1, rv b16, .unset] [(.int 1), (.int p1), (.ref b16)]) (fun _ z_ => XS.iconst X36.here hx rfl (hb hby at_351) z_) ?_
    refine own_g (own_F T36 m 353 #[iv i0, iv i1, iv i2, iv i3, iv 1, iv p1, iv y0, iv y1, iv y2, iv y3, iv y4, iv 2, rv b1, rv b16, .unset] [(.int (p1 + (1 : Int32))), (.ref b16)]) (fun _ z_ => XS.iadd X36.here hx rfl (hb hby at_352) rfl z_) ?_
    refine own_g (own_F T36 m 355 #[iv i0, iv i1, iv i2, iv i3, iv 1, iv p1, iv y0, iv y1, iv y2, iv y3, iv y4, iv 2, rv b1, rv b16, .unset] [(.ref b1), (.int (p1 + (1 : Int32))), (.ref b16)]) (fun _ z_ => XS.aload X36.here hx rfl (hb hby at_353) rfl rfl z_) ?_
    refine own_g (own_F T36 m 356 #[iv i0, iv i1, iv i2, iv i3, iv 1, iv p1, iv y0, iv y1, iv y2, iv y3, iv y4, iv 2, rv b1, rv b16, .unset] [(.int 1), (.ref b1), (.int (p1 + (1 : Int32))), (.ref b16)]) (fun _ z_ => XS.iconst X36.here hx rfl (hb hby at_355) z_) ?_
    refine own_cald X36 hx hZ e36 (((((((((((((A15.ext E16).other W17 ne_b1_b16).other W18 ne_b1_b16).other W19 ne_b1_b16).other W20 ne_b1_b16).other W21 ne_b1_b16).other W22 ne_b1_b16).other W23 ne_b1_b16).other W24 ne_b1_b16).other W25 ne_b1_b16).other W26 ne_b1_b16).other W27 ne_b1_b16).other W36 ne_b1_b16) 1 rfl (by decide) (hb hby at_356) ?_
    show own_Ends p e below s _ _ _ (own_F T36 m 357 #[iv i0, iv i1, iv i2, iv i3, iv 1, iv p1, iv y0, iv y1, iv y2, iv y3, iv y4, iv 2, rv b1, rv b16, .unset] [(.int (g15 1)), (.int (p1 + (1 : Int32))), (.ref b16)])
    rw [q15_1]
    refine own_cast X36 hx hZ e36 A36 (P + 1) (own_padd hp hP (1 : Int32) 1 (by decide) (by decide)) (own_pl hP 1) c1_ (own_narC (own_sym_rng hs1).1) (hb hby at_357) ?_
    intro T37 h37 X37 e37 W37 A37
    have N37 := Fr.snoc X37 N36 ge_b16
    obtain ⟨g37, hg37⟩ : ∃ gq_ : Nat → Int32, gq_ = fun q_ => if q_ = (P + 1) then c1_ else g36 q_ := ⟨_, rfl⟩
    have A37 : own_A Z h37 b16 .char 11 (fun q_ => .int (g37 q_)) := by rw [hg37]; exact A37
    show own_Ends p e below s _ _ _ (own_F T37 m 358 #[iv i0, iv i1, iv i2, iv i3, iv 1, iv p1, iv y0, iv y1, iv y2, iv y3, iv y4, iv 2, rv b1, rv b16, .unset] [])
    have rg37 := own_rngs hg37 rg36 (own_sym_rng hs1).1
    refine own_g (own_F T37 m 360 #[iv i0, iv i1, iv i2, iv i3, iv 1, iv p1, iv y0, iv y1, iv y2, iv y3, iv y4, iv 2, rv b1, rv b16, .unset] [(.int 2)]) (fun _ z_ => XS.iload X37.here hx rfl (hb hby at_358) rfl z_) ?_
    refine own_g (own_F T37 m 361 #[iv i0, iv i1, iv i2, iv i3, iv 1, iv p1, iv y0, iv y1, iv y2, iv y3, iv y4, iv 2, rv b1, rv b16, .unset] [(.int 2), (.int 2)]) (fun _ z_ => XS.iconst X37.here hx rfl (hb hby at_360) z_) ?_
    refine own_g (own_F T37 m 375 #[iv i0, iv i1, iv i2, iv i3, iv 1, iv p1, iv y0, iv y1, iv y2, iv y3, iv y4, iv 2, rv b1, rv b16, .unset] []) (fun _ z_ => XS.icmpYes X37.here hx rfl (pc0 := 361) (pc' := 375) rfl (hb hby at_361) rfl (flt (by decide : ¬ ((2 : Int32) < (2 : Int32)))).2.2.2 (by decide) (by decide) z_) ?_
    refine own_g (own_F T37 m 377 #[iv i0, iv i1, iv i2, iv i3, iv 1, iv p1, iv y0, iv y1, iv y2, iv y3, iv y4, iv 2, rv b1, rv b16, .unset] [(.int 2)]) (fun _ z_ => XS.iload X37.here hx rfl (hb hby at_375) rfl z_) ?_
    refine own_g (own_F T37 m 378 #[iv i0, iv i1, iv i2, iv i3, iv 1, iv p1, iv y0, iv y1, iv y2, iv y3, iv y4, iv 2, rv b1, rv b16, .unset] [(.int 3), (.int 2)]) (fun _ z_ => XS.iconst X37.here hx rfl (hb hby at_377) z_) ?_
    refine own_g (own_F T37 m 392 #[iv i0, iv i1, iv i2, iv i3, iv 1, iv p1, iv y0, iv y1, iv y2, iv y3, iv y4, iv 2, rv b1, rv b16, .unset] []) (fun _ z_ => XS.icmpYes X37.here hx rfl (pc0 := 378) (pc' := 392) rfl (hb hby at_378) rfl (flt (by decide : ¬ ((3 : Int32) < (2 : Int32)))).2.2.2 (by decide) (by decide) z_) ?_
    refine own_g (own_F T37 m 394 #[iv i0, iv i1, iv i2, iv i3, iv 1, iv p1, iv y0, iv y1, iv y2, iv y3, iv y4, iv 2, rv b1, rv b16, .unset] [(.int 2)]) (fun _ z_ => XS.iload X37.here hx rfl (hb hby at_392) rfl z_) ?_
    refine own_g (own_F T37 m 395 #[iv i0, iv i1, iv i2, iv i3, iv 1, iv p1, iv y0, iv y1, iv y2, iv y3, iv y4, iv 2, rv b1, rv b16, .unset] [(.int 4), (.int 2)]) (fun _ z_ => XS.iconst X37.here hx rfl (hb hby at_394) z_) ?_
    refine own_g (own_F T37 m 409 #[iv i0, iv i1, iv i2, iv i3, iv 1, iv p1, iv y0, iv y1, iv y2, iv y3, iv y4, iv 2, rv b1, rv b16, .unset] []) (fun _ z_ => XS.icmpYes X37.here hx rfl (pc0 := 395) (pc' := 409) rfl (hb hby at_395) rfl (flt (by decide : ¬ ((4 : Int32) < (2 : Int32)))).2.2.2 (by decide) (by decide) z_) ?_
    refine own_g (own_F T37 m 411 #[iv i0, iv i1, iv i2, iv i3, iv 1, iv p1, iv y0, iv y1, iv y2, iv y3, iv y4, iv 2, rv b1, rv b16, .unset] [(.int 2)]) (fun _ z_ => XS.iload X37.here hx rfl (hb hby at_409) rfl z_) ?_
    refine own_g (own_F T37 m 412 #[iv i0, iv i1, iv i2, iv i3, iv 1, iv p1, iv y0, iv y1, iv y2, iv y3, iv y4, iv 2, rv b1, rv b16, .unset] [(.int 5), (.int 2)]) (fun _ z_ => XS.iconst X37.here hx rfl (hb hby at_411) z_) ?_
    refine own_g (own_F T37 m 426 #[iv i0, iv i1, iv i2, iv i3, iv 1, iv p1, iv y0, iv y1, iv y2, iv y3, iv y4, iv 2, rv b1, rv b16, .unset] []) (fun _ z_ => XS.icmpYes X37.here hx rfl (pc0 := 412) (pc' := 426) rfl (hb hby at_412) rfl (flt (by decide : ¬ ((5 : Int32) < (2 : Int32)))).2.2.2 (by decide) (by decide) z_) ?_
    refine own_g (own_F T37 m 428 #[iv i0, iv i1, iv i2, iv i3, iv 1, iv p1, iv y0, iv y1, iv y2, iv y3, iv y4, iv 2, rv b1, rv b16, .unset] [(.int 2)]) (fun _ z_ => XS.iload X37.here hx rfl (hb hby at_426) rfl z_) ?_
    refine own_g (own_F T37 m 430 #[iv i0, iv i1, iv i2, iv i3, iv 1, iv p1, iv y0, iv y1, iv y2, iv y3, iv y4, iv 2, rv b1, rv b16, .unset] [(.int 6), (.int 2)]) (fun _ z_ => XS.bipush X37.here hx rfl (hb hby at_428) z_) ?_
    refine own_g (own_F T37 m 446 #[iv i0, iv i1, iv i2, iv i3, iv 1, iv p1, iv y0, iv y1, iv y2, iv y3, iv y4, iv 2, rv b1, rv b16, .unset] []) (fun _ z_ => XS.icmpYes X37.here hx rfl (pc0 := 430) (pc' := 446) rfl (hb hby at_430) rfl (flt (by decide : ¬ ((6 : Int32) < (2 : Int32)))).2.2.2 (by decide) (by decide) z_) ?_
    obtain ⟨T38, h38, X38, e38, E38, A38, D38, -, st38⟩ := newO X37 hx hZ hown (own_w hw 5) (own_w hw 6) (own_w hw 7) e37 (g := (mkF m 446 #[iv i0, iv i1, iv i2, iv i3, iv 1, iv p1, iv y0, iv y1, iv y2, iv y3, iv y4, iv 2, rv b1, rv b16, .unset] [])) rfl (hb hby at_446) (by decide) (by decide)
    obtain ⟨b38, g38⟩ : ∃ z, z = h37.size := ⟨_, rfl⟩
    rw [← g38] at A38 D38 st38
    have sz_b38 : h0.size ≤ b38 := Nat.le_trans (Nat.le_trans (Nat.le_trans (Nat.le_trans (Nat.le_trans (Nat.le_trans (Nat.le_trans (Nat.le_trans (Nat.le_trans (Nat.le_trans (Nat.le_trans (Nat.le_trans (Nat.le_trans (Nat.le_trans (Nat.le_trans (Nat.le_trans (Nat.le_trans (Nat.le_trans (Nat.le_trans (Nat.le_trans (Nat.le_trans (Nat.le_trans (Nat.le_trans (Nat.le_refl h0.size) E1.1) (Nat.le_of_eq W3.size.symm)) (Nat.le_of_eq W5.size.symm)) (Nat.le_of_eq W7.size.symm)) (Nat.le_of_eq W9.size.symm)) (Nat.le_of_eq W11.size.symm)) (Nat.le_of_eq W13.size.symm)) (Nat.le_of_eq W15.size.symm)) E16.1) (Nat.le_of_eq W17.size.symm)) (Nat.le_of_eq W18.size.symm)) (Nat.le_of_eq W19.size.symm)) (Nat.le_of_eq W20.size.symm)) (Nat.le_of_eq W21.size.symm)) (Nat.le_of_eq W22.size.symm)) (Nat.le_of_eq W23.size.symm)) (Nat.le_of_eq W24.size.symm)) (Nat.le_of_eq W25.size.symm)) (Nat.le_of_eq W26.size.symm)) (Nat.le_of_eq W27.size.symm)) (Nat.le_of_eq W36.size.symm)) (Nat.le_of_eq W37.size.symm)) (Nat.le_of_eq g38.symm)
    have ge_b38 : n0 ≤ b38 := Nat.le_trans (Nat.le_trans (Nat.le_trans (Nat.le_trans (Nat.le_trans (Nat.le_trans (Nat.le_trans (Nat.le_trans (Nat.le_trans (Nat.le_trans (Nat.le_trans (Nat.le_trans (Nat.le_trans (Nat.le_trans (Nat.le_trans (Nat.le_trans (Nat.le_trans (Nat.le_trans (Nat.le_trans (Nat.le_trans (Nat.le_trans (Nat.le_trans (Nat.le_trans Z0 E1.1) (Nat.le_of_eq W3.size.symm)) (Nat.le_of_eq W5.size.symm)) (Nat.le_of_eq W7.size.symm)) (Nat.le_of_eq W9.size.symm)) (Nat.le_of_eq W11.size.symm)) (Nat.le_of_eq W13.size.symm)) (Nat.le_of_eq W15.size.symm)) E16.1) (Nat.le_of_eq W17.size.symm)) (Nat.le_of_eq W18.size.symm)) (Nat.le_of_eq W19.size.symm)) (Nat.le_of_eq W20.size.symm)) (Nat.le_of_eq W21.size.symm)) (Nat.le_of_eq W22.size.symm)) (Nat.le_of_eq W23.size.symm)) (Nat.le_of_eq W24.size.symm)) (Nat.le_of_eq W25.size.symm)) (Nat.le_of_eq W26.size.symm)) (Nat.le_of_eq W27.size.symm)) (Nat.le_of_eq W36.size.symm)) (Nat.le_of_eq W37.size.symm)) (Nat.le_of_eq g38.symm)
    have ne_b1_b38 : b1 ≠ b38 := Nat.ne_of_lt (Nat.lt_of_lt_of_le ((((((((((((((A15.ext E16).other W17 ne_b1_b16).other W18 ne_b1_b16).other W19 ne_b1_b16).other W20 ne_b1_b16).other W21 ne_b1_b16).other W22 ne_b1_b16).other W23 ne_b1_b16).other W24 ne_b1_b16).other W25 ne_b1_b16).other W26 ne_b1_b16).other W27 ne_b1_b16).other W36 ne_b1_b16).other W37 ne_b1_b16).lt (Nat.le_of_eq g38.symm))
    have ne_b16_b38 : b16 ≠ b38 := Nat.ne_of_lt (Nat.lt_of_lt_of_le A37.lt (Nat.le_of_eq g38.symm))
    have F38_coder : Fld Z h38 b38 "java/lang/String" "coder" "B" (.int 0) := D38 (Or.inr (own_w hw 31)) (ty := .byte) (by decide)
    have F38_value : Fld Z h38 b38 "java/lang/String" "value" "[B" .null := D38 (Or.inr (own_w hw 33)) (ty := (.array .byte)) (by decide)
    refine own_pre (S' := (own_F T38 m 449 #[iv i0, iv i1, iv i2, iv i3, iv 1, iv p1, iv y0, iv y1, iv y2, iv y3, iv y4, iv 2, rv b1, rv b16, .unset] [(.ref b38)])) st38 ?_
    refine own_g (own_F T38 m 450 #[iv i0, iv i1, iv i2, iv i3, iv 1, iv p1, iv y0, iv y1, iv y2, iv y3, iv y4, iv 2, rv b1, rv b16, .unset] [(.ref b38), (.ref b38)]) (fun _ z_ => XS.dup X38.here hx rfl (hb hby at_449) rfl rfl z_) ?_
    refine own_g (own_F T38 m 452 #[iv i0, iv i1, iv i2, iv i3, iv 1, iv p1, iv y0, iv y1, iv y2, iv y3, iv y4, iv 2, rv b1, rv b16, .unset] [(.ref b16), (.ref b38), (.ref b38)]) (fun _ z_ => XS.aload X38.here hx rfl (hb hby at_450) rfl rfl z_) ?_
    refine own_callI (y := (⟨"java/lang/String", "<init>", "([C)V"⟩ : MethodName)) (b := b38) X38 hx hZ hown rfl (own_w hw 8) (own_w hw 9) (own_w hw 10) (own_w hw 7) (by decide) e38 (hM := own_si l Z a0 hw [] b38 b16 11 (11 : Int32) zc g37 h38 n0 (Nat.le_trans (Nat.le_trans (Nat.le_trans (Nat.le_trans (Nat.le_trans (Nat.le_trans (Nat.le_trans (Nat.le_trans (Nat.le_trans (Nat.le_trans (Nat.le_trans (Nat.le_trans (Nat.le_trans (Nat.le_trans (Nat.le_trans (Nat.le_trans (Nat.le_trans (Nat.le_trans (Nat.le_trans (Nat.le_trans (Nat.le_trans (Nat.le_trans (Nat.le_trans Z0 E1.1) (Nat.le_of_eq W3.size.symm)) (Nat.le_of_eq W5.size.symm)) (Nat.le_of_eq W7.size.symm)) (Nat.le_of_eq W9.size.symm)) (Nat.le_of_eq W11.size.symm)) (Nat.le_of_eq W13.size.symm)) (Nat.le_of_eq W15.size.symm)) E16.1) (Nat.le_of_eq W17.size.symm)) (Nat.le_of_eq W18.size.symm)) (Nat.le_of_eq W19.size.symm)) (Nat.le_of_eq W20.size.symm)) (Nat.le_of_eq W21.size.symm)) (Nat.le_of_eq W22.size.symm)) (Nat.le_of_eq W23.size.symm)) (Nat.le_of_eq W24.size.symm)) (Nat.le_of_eq W25.size.symm)) (Nat.le_of_eq W26.size.symm)) (Nat.le_of_eq W27.size.symm)) (Nat.le_of_eq W36.size.symm)) (Nat.le_of_eq W37.size.symm)) E38.1) (by decide) (by decide) (by decide) hzc (A37.ext E38) (fun i _ => rg37 i) A38 F38_value F38_coder (((((((((((((((((((((((S_cs.ext E1).wr W3).wr W5).wr W7).wr W9).wr W11).wr W13).wr W15).ext E16).wr W17).wr W18).wr W19).wr W20).wr W21).wr W22).wr W23).wr W24).wr W25).wr W26).wr W27).wr W36).wr W37).ext E38) (((((((((((((((((((((((S_ad.ext E1).wr W3).wr W5).wr W7).wr W9).wr W11).wr W13).wr W15).ext E16).wr W17).wr W18).wr W19).wr W20).wr W21).wr W22).wr W23).wr W24).wr W25).wr W26).wr W27).wr W36).wr W37).ext E38) (((((((((((((((((((((((S_hi.ext E1).wr W3).wr W5).wr W7).wr W9).wr W11).wr W13).wr W15).ext E16).wr W17).wr W18).wr W19).wr W20).wr W21).wr W22).wr W23).wr W24).wr W25).wr W26).wr W27).wr W36).wr W37).ext E38) (((((((((((((((((((((((S_lo.ext E1).wr W3).wr W5).wr W7).wr W9).wr W11).wr W13).wr W15).ext E16).wr W17).wr W18).wr W19).wr W20).wr W21).wr W22).wr W23).wr W24).wr W25).wr W26).wr W27).wr W36).wr W37).ext E38) ge_b38 (Ne.symm ne_b16_b38)) (W := 1) (pc := 452) (Ls := #[iv i0, iv i1, iv i2, iv i3, iv 1, iv p1, iv y0, iv y1, iv y2, iv y3, iv y4, iv 2, rv b1, rv b16, .unset]) (argsL := [(.ref b16)]) (rest := [(.ref b38)]) (st0 := [(.ref b16), (.ref b38), (.ref b38)]) (by rw [hml]; rfl) (lenOf own_pd15 rfl) rfl (Nat.le_of_eq rfl) (hb hby at_452) (by decide) (by decide) (by decide) (by decide) ?_
    intro v39 T39 L39 X39 hQ39
    obtain ⟨rfl, Nq39, K39, Sx39⟩ := hQ39
    have N39 := Fr.app N37 Nq39
    show own_Ends p e below s _ _ _ (own_F T39 m 455 #[iv i0, iv i1, iv i2, iv i3, iv 1, iv p1, iv y0, iv y1, iv y2, iv y3, iv y4, iv 2, rv b1, rv b16, .unset] [(.ref b38)])
    refine own_g (own_F T39 m 457 #[iv i0, iv i1, iv i2, iv i3, iv 1, iv p1, iv y0, iv y1, iv y2, iv y3, iv y4, iv 2, rv b1, rv b16, .unset] [(.int p1), (.ref b38)]) (fun _ z_ => XS.iload X39.here hx rfl (hb hby at_455) rfl z_) ?_
    refine own_g (own_F T39 m 459 #[iv i0, iv i1, iv i2, iv i3, iv 1, iv p1, iv y0, iv y1, iv y2, iv y3, iv y4, iv 2, rv b1, rv b16, .unset] [(.int p1), (.int p1), (.ref b38)]) (fun _ z_ => XS.iload X39.here hx rfl (hb hby at_457) rfl z_) ?_
    refine own_g (own_F T39 m 461 #[iv i0, iv i1, iv i2, iv i3, iv 1, iv p1, iv y0, iv y1, iv y2, iv y3, iv y4, iv 2, rv b1, rv b16, .unset] [(.int 2), (.int p1), (.int p1), (.ref b38)]) (fun _ z_ => XS.iload X39.here hx rfl (hb hby at_459) rfl z_) ?_
    refine own_g (own_F T39 m 462 #[iv i0, iv i1, iv i2, iv i3, iv 1, iv p1, iv y0, iv y1, iv y2, iv y3, iv y4, iv 2, rv b1, rv b16, .unset] [(.int (p1 + (2 : Int32))), (.int p1), (.ref b38)]) (fun _ z_ => XS.iadd X39.here hx rfl (hb hby at_461) rfl z_) ?_
    have tq0 : own_sym (g37 (P + 0)) v0 := by rw [show g37 (P + 0) = c0_ from by simp [hg37, hg36]]; exact hs0
    have tq1 : own_sym (g37 (P + 1)) v1 := by rw [show g37 (P + 1) = c1_ from by simp [hg37, hg36]]; exact hs1
    refine own_callS (y := (⟨"com/example/claimgate/claimgate/jose/Base64Url", "decode", "(Ljava/lang/String;II)[B"⟩ : MethodName)) X39 hx hZ hown (own_w hw 34) (own_w hw 35) (own_w hw 36) (own_w hw 37) (by decide) (rfl : T39.heap = T39.heap) (hM := own_dec1 l Z a0 hw [] b38 p1 (p1 + (2 : Int32)) zc P g37 sv hsv y0 y1 y2 y3 y4 v0 v1 T39.heap n0 (Nat.le_trans (Nat.le_trans (Nat.le_trans (Nat.le_trans (Nat.le_trans (Nat.le_trans (Nat.le_trans (Nat.le_trans (Nat.le_trans (Nat.le_trans (Nat.le_trans (Nat.le_trans (Nat.le_trans (Nat.le_trans (Nat.le_trans (Nat.le_trans (Nat.le_trans (Nat.le_trans (Nat.le_trans (Nat.le_trans (Nat.le_trans (Nat.le_trans (Nat.le_trans (Nat.le_trans Z0 E1.1) (Nat.le_of_eq W3.size.symm)) (Nat.le_of_eq W5.size.symm)) (Nat.le_of_eq W7.size.symm)) (Nat.le_of_eq W9.size.symm)) (Nat.le_of_eq W11.size.symm)) (Nat.le_of_eq W13.size.symm)) (Nat.le_of_eq W15.size.symm)) E16.1) (Nat.le_of_eq W17.size.symm)) (Nat.le_of_eq W18.size.symm)) (Nat.le_of_eq W19.size.symm)) (Nat.le_of_eq W20.size.symm)) (Nat.le_of_eq W21.size.symm)) (Nat.le_of_eq W22.size.symm)) (Nat.le_of_eq W23.size.symm)) (Nat.le_of_eq W24.size.symm)) (Nat.le_of_eq W25.size.symm)) (Nat.le_of_eq W26.size.symm)) (Nat.le_of_eq W27.size.symm)) (Nat.le_of_eq W36.size.symm)) (Nat.le_of_eq W37.size.symm)) E38.1) K39.1) hp hP (own_padd hp hP (2 : Int32) 2 (by decide) (by decide)) hzc Sx39 (own_sta_keep (((((((((((((((((((((((S_cs.ext E1).wr W3).wr W5).wr W7).wr W9).wr W11).wr W13).wr W15).ext E16).wr W17).wr W18).wr W19).wr W20).wr W21).wr W22).wr W23).wr W24).wr W25).wr W26).wr W27).wr W36).wr W37).ext E38) K39 (allS (own_plainE A38) all0)) (own_sta_keep (((((((((((((((((((((((S_sf.ext E1).wr W3).wr W5).wr W7).wr W9).wr W11).wr W13).wr W15).ext E16).wr W17).wr W18).wr W19).wr W20).wr W21).wr W22).wr W23).wr W24).wr W25).wr W26).wr W27).wr W36).wr W37).ext E38) K39 (allS (own_plainE A38) all0)) (own_sta_keep (((((((((((((((((((((((S_ad.ext E1).wr W3).wr W5).wr W7).wr W9).wr W11).wr W13).wr W15).ext E16).wr W17).wr W18).wr W19).wr W20).wr W21).wr W22).wr W23).wr W24).wr W25).wr W26).wr W27).wr W36).wr W37).ext E38) K39 (allS (own_plainE A38) all0)) (own_sta_keep (((((((((((((((((((((((S_hi.ext E1).wr W3).wr W5).wr W7).wr W9).wr W11).wr W13).wr W15).ext E16).wr W17).wr W18).wr W19).wr W20).wr W21).wr W22).wr W23).wr W24).wr W25).wr W26).wr W27).wr W36).wr W37).ext E38) K39 (allS (own_plainE A38) all0)) (own_sta_keep (((((((((((((((((((((((S_lo.ext E1).wr W3).wr W5).wr W7).wr W9).wr W11).wr W13).wr W15).ext E16).wr W17).wr W18).wr W19).wr W20).wr W21).wr W22).wr W23).wr W24).wr W25).wr W26).wr W27).wr W36).wr W37).ext E38) K39 (allS (own_plainE A38) all0)) tq0 tq1 hr0 hr1 hc0 hc1 hc2 hc3 hc4) (W := 0) (pc := 462) (Ls := #[iv i0, iv i1, iv i2, iv i3, iv 1, iv p1, iv y0, iv y1, iv y2, iv y3, iv y4, iv 2, rv b1, rv b16, .unset]) (argsL := [(.ref b38), (.int p1), (.int (p1 + (2 : Int32)))]) (rest := []) (st0 := [(.int (p1 + (2 : Int32))), (.int p1), (.ref b38)]) (by rw [hml]; rfl) (lenOf own_pd16 rfl) rfl (Nat.le_of_eq rfl) (hb hby at_462) (by decide) (by decide) (by decide) (by decide) ?_
    intro v40 T40 L40 X40 hQ40
    obtain ⟨ra40, gr40, rfl, Nq40, K40, ge_ra40, Ar40, qr0⟩ := hQ40
    have N40 := Fr.app N39 Nq40
    show own_Ends p e below s _ _ _ (own_F T40 m 465 #[iv i0, iv i1, iv i2, iv i3, iv 1, iv p1, iv y0, iv y1, iv y2, iv y3, iv y4, iv 2, rv b1, rv b16, .unset] [(.ref ra40)])
    refine own_g (own_F T40 m 467 #[iv i0, iv i1, iv i2, iv i3, iv 1, iv p1, iv y0, iv y1, iv y2, iv y3, iv y4, iv 2, rv b1, rv b16, rv ra40] []) (fun _ z_ => XS.astore X40.here hx rfl (hb hby at_465) rfl rfl (l' := #[iv i0, iv i1, iv i2, iv i3, iv 1, iv p1, iv y0, iv y1, iv y2, iv y3, iv y4, iv 2, rv b1, rv b16, rv ra40]) rfl z_) ?_
    refine own_g (own_F T40 m 469 #[iv i0, iv i1, iv i2, iv i3, iv 1, iv p1, iv y0, iv y1, iv y2, iv y3, iv y4, iv 2, rv b1, rv b16, rv ra40] [(.ref ra40)]) (fun _ z_ => XS.aload X40.here hx rfl (hb hby at_467) rfl rfl z_) ?_
    refine own_alen X40 hx hZ (rfl : T40.heap = T40.heap) Ar40 (hb hby at_469) ?_
    show own_Ends p e below s _ _ _ (own_F T40 m 470 #[iv i0, iv i1, iv i2, iv i3, iv 1, iv p1, iv y0, iv y1, iv y2, iv y3, iv y4, iv 2, rv b1, rv b16, rv ra40] [(.int 1)])
    refine own_g (own_F T40 m 472 #[iv i0, iv i1, iv i2, iv i3, iv 1, iv p1, iv y0, iv y1, iv y2, iv y3, iv y4, iv 2, rv b1, rv b16, rv ra40] [(.int 1), (.int 1)]) (fun _ z_ => XS.iload X40.here hx rfl (hb hby at_470) rfl z_) ?_
    refine own_g (own_F T40 m 475 #[iv i0, iv i1, iv i2, iv i3, iv 1, iv p1, iv y0, iv y1, iv y2, iv y3, iv y4, iv 2, rv b1, rv b16, rv ra40] []) (fun _ z_ => XS.icmpNo X40.here hx rfl (hb hby at_472) rfl (teq (by decide : ((1 : Int32) = (1 : Int32)))).2 z_) ?_
    refine own_g (own_F T40 m 477 #[iv i0, iv i1, iv i2, iv i3, iv 1, iv p1, iv y0, iv y1, iv y2, iv y3, iv y4, iv 2, rv b1, rv b16, rv ra40] [(.ref ra40)]) (fun _ z_ => XS.aload X40.here hx rfl (hb hby at_475) rfl rfl z_) ?_
    refine own_g (own_F T40 m 478 #[iv i0, iv i1, iv i2, iv i3, iv 1, iv p1, iv y0, iv y1, iv y2, iv y3, iv y4, iv 2, rv b1, rv b16, rv ra40] [(.int 0), (.ref ra40)]) (fun _ z_ => XS.iconst X40.here hx rfl (hb hby at_477) z_) ?_
    refine own_g (own_F T40 m 480 #[iv i0, iv i1, iv i2, iv i3, iv 1, iv p1, iv y0, iv y1, iv y2, iv y3, iv y4, iv 2, rv b1, rv b16, rv ra40] [(.int y0), (.int 0), (.ref ra40)]) (fun _ z_ => XS.iload X40.here hx rfl (hb hby at_478) rfl z_) ?_
    refine own_callS (y := (⟨"com/example/claimgate/claimgate/jose/Base64UrlDecodePinLaw", "at", "([BII)Z"⟩ : MethodName)) X40 hx hZ hown (own_w hw 38) (own_w hw 39) (own_w hw 3) (own_w hw 40) (by decide) (rfl : T40.heap = T40.heap) (hM := own_at l Z a0 hw [] ra40 1 0 (0 : Int32) y0 gr40 T40.heap n0 (Nat.le_trans (Nat.le_trans (Nat.le_trans (Nat.le_trans (Nat.le_trans (Nat.le_trans (Nat.le_trans (Nat.le_trans (Nat.le_trans (Nat.le_trans (Nat.le_trans (Nat.le_trans (Nat.le_trans (Nat.le_trans (Nat.le_trans (Nat.le_trans (Nat.le_trans (Nat.le_trans (Nat.le_trans (Nat.le_trans (Nat.le_trans (Nat.le_trans (Nat.le_trans (Nat.le_trans (Nat.le_trans Z0 E1.1) (Nat.le_of_eq W3.size.symm)) (Nat.le_of_eq W5.size.symm)) (Nat.le_of_eq W7.size.symm)) (Nat.le_of_eq W9.size.symm)) (Nat.le_of_eq W11.size.symm)) (Nat.le_of_eq W13.size.symm)) (Nat.le_of_eq W15.size.symm)) E16.1) (Nat.le_of_eq W17.size.symm)) (Nat.le_of_eq W18.size.symm)) (Nat.le_of_eq W19.size.symm)) (Nat.le_of_eq W20.size.symm)) (Nat.le_of_eq W21.size.symm)) (Nat.le_of_eq W22.size.symm)) (Nat.le_of_eq W23.size.symm)) (Nat.le_of_eq W24.size.symm)) (Nat.le_of_eq W25.size.symm)) (Nat.le_of_eq W26.size.symm)) (Nat.le_of_eq W27.size.symm)) (Nat.le_of_eq W36.size.symm)) (Nat.le_of_eq W37.size.symm)) E38.1) K39.1) K40.1) (by decide) (fun _ => qr0) Ar40) (W := 0) (pc := 480) (Ls := #[iv i0, iv i1, iv i2, iv i3, iv 1, iv p1, iv y0, iv y1, iv y2, iv y3, iv y4, iv 2, rv b1, rv b16, rv ra40]) (argsL := [(.ref ra40), (.int 0), (.int y0)]) (rest := []) (st0 := [(.int y0), (.int 0), (.ref ra40)]) (by rw [hml]; rfl) (lenOf own_pd17 rfl) rfl (Nat.le_of_eq rfl) (hb hby at_480) (by decide) (by decide) (by decide) (by decide) ?_
    intro v41 T41 L41 X41 hQ41
    obtain ⟨rfl, Nq41, hh41⟩ := hQ41
    have N41 := Fr.app N40 Nq41
    show own_Ends p e below s _ _ _ (own_F T41 m 483 #[iv i0, iv i1, iv i2, iv i3, iv 1, iv p1, iv y0, iv y1, iv y2, iv y3, iv y4, iv 2, rv b1, rv b16, rv ra40] [(.int 1)])
    refine own_g (own_F T41 m 486 #[iv i0, iv i1, iv i2, iv i3, iv 1, iv p1, iv y0, iv y1, iv y2, iv y3, iv y4, iv 2, rv b1, rv b16, rv ra40] []) (fun _ z_ => XS.ifNo X41.here hx rfl (hb hby at_483) rfl ((if0 _ _).trans (feq (by decide : ¬ ((1 : Int32) = (0 : Int32)))).1) z_) ?_
    refine own_g (own_F T41 m 488 #[iv i0, iv i1, iv i2, iv i3, iv 1, iv p1, iv y0, iv y1, iv y2, iv y3, iv y4, iv 2, rv b1, rv b16, rv ra40] [(.ref ra40)]) (fun _ z_ => XS.aload X41.here hx rfl (hb hby at_486) rfl rfl z_) ?_
    refine own_g (own_F T41 m 489 #[iv i0, iv i1, iv i2, iv i3, iv 1, iv p1, iv y0, iv y1, iv y2, iv y3, iv y4, iv 2, rv b1, rv b16, rv ra40] [(.int 1), (.ref ra40)]) (fun _ z_ => XS.iconst X41.here hx rfl (hb hby at_488) z_) ?_
    refine own_g (own_F T41 m 491 #[iv i0, iv i1, iv i2, iv i3, iv 1, iv p1, iv y0, iv y1, iv y2, iv y3, iv y4, iv 2, rv b1, rv b16, rv ra40] [(.int y1), (.int 1), (.ref ra40)]) (fun _ z_ => XS.iload X41.here hx rfl (hb hby at_489) rfl z_) ?_
    refine own_callS (y := (⟨"com/example/claimgate/claimgate/jose/Base64UrlDecodePinLaw", "at", "([BII)Z"⟩ : MethodName)) X41 hx hZ hown (own_w hw 38) (own_w hw 39) (own_w hw 3) (own_w hw 40) (by decide) hh41 (hM := own_at l Z a0 hw [] ra40 1 1 (1 : Int32) y1 gr40 T40.heap n0 (Nat.le_trans (Nat.le_trans (Nat.le_trans (Nat.le_trans (Nat.le_trans (Nat.le_trans (Nat.le_trans (Nat.le_trans (Nat.le_trans (Nat.le_trans (Nat.le_trans (Nat.le_trans (Nat.le_trans (Nat.le_trans (Nat.le_trans (Nat.le_trans (Nat.le_trans (Nat.le_trans (Nat.le_trans (Nat.le_trans (Nat.le_trans (Nat.le_trans (Nat.le_trans (Nat.le_trans (Nat.le_trans Z0 E1.1) (Nat.le_of_eq W3.size.symm)) (Nat.le_of_eq W5.size.symm)) (Nat.le_of_eq W7.size.symm)) (Nat.le_of_eq W9.size.symm)) (Nat.le_of_eq W11.size.symm)) (Nat.le_of_eq W13.size.symm)) (Nat.le_of_eq W15.size.symm)) E16.1) (Nat.le_of_eq W17.size.symm)) (Nat.le_of_eq W18.size.symm)) (Nat.le_of_eq W19.size.symm)) (Nat.le_of_eq W20.size.symm)) (Nat.le_of_eq W21.size.symm)) (Nat.le_of_eq W22.size.symm)) (Nat.le_of_eq W23.size.symm)) (Nat.le_of_eq W24.size.symm)) (Nat.le_of_eq W25.size.symm)) (Nat.le_of_eq W26.size.symm)) (Nat.le_of_eq W27.size.symm)) (Nat.le_of_eq W36.size.symm)) (Nat.le_of_eq W37.size.symm)) E38.1) K39.1) K40.1) (by decide) (fun q => absurd q (by decide)) Ar40) (W := 0) (pc := 491) (Ls := #[iv i0, iv i1, iv i2, iv i3, iv 1, iv p1, iv y0, iv y1, iv y2, iv y3, iv y4, iv 2, rv b1, rv b16, rv ra40]) (argsL := [(.ref ra40), (.int 1), (.int y1)]) (rest := []) (st0 := [(.int y1), (.int 1), (.ref ra40)]) (by rw [hml]; rfl) (lenOf own_pd17 rfl) rfl (Nat.le_of_eq rfl) (hb hby at_491) (by decide) (by decide) (by decide) (by decide) ?_
    intro v42 T42 L42 X42 hQ42
    obtain ⟨rfl, Nq42, hh42⟩ := hQ42
    have N42 := Fr.app N41 Nq42
    show own_Ends p e below s _ _ _ (own_F T42 m 494 #[iv i0, iv i1, iv i2, iv i3, iv 1, iv p1, iv y0, iv y1, iv y2, iv y3, iv y4, iv 2, rv b1, rv b16, rv ra40] [(.int 1)])
    refine own_g (own_F T42 m 497 #[iv i0, iv i1, iv i2, iv i3, iv 1, iv p1, iv y0, iv y1, iv y2, iv y3, iv y4, iv 2, rv b1, rv b16, rv ra40] []) (fun _ z_ => XS.ifNo X42.here hx rfl (hb hby at_494) rfl ((if0 _ _).trans (feq (by decide : ¬ ((1 : Int32) = (0 : Int32)))).1) z_) ?_
    refine own_g (own_F T42 m 499 #[iv i0, iv i1, iv i2, iv i3, iv 1, iv p1, iv y0, iv y1, iv y2, iv y3, iv y4, iv 2, rv b1, rv b16, rv ra40] [(.ref ra40)]) (fun _ z_ => XS.aload X42.here hx rfl (hb hby at_497) rfl rfl z_) ?_
    refine own_g (own_F T42 m 500 #[iv i0, iv i1, iv i2, iv i3, iv 1, iv p1, iv y0, iv y1, iv y2, iv y3, iv y4, iv 2, rv b1, rv b16, rv ra40] [(.int 2), (.ref ra40)]) (fun _ z_ => XS.iconst X42.here hx rfl (hb hby at_499) z_) ?_
    refine own_g (own_F T42 m 502 #[iv i0, iv i1, iv i2, iv i3, iv 1, iv p1, iv y0, iv y1, iv y2, iv y3, iv y4, iv 2, rv b1, rv b16, rv ra40] [(.int y2), (.int 2), (.ref ra40)]) (fun _ z_ => XS.iload X42.here hx rfl (hb hby at_500) rfl z_) ?_
    refine own_callS (y := (⟨"com/example/claimgate/claimgate/jose/Base64UrlDecodePinLaw", "at", "([BII)Z"⟩ : MethodName)) X42 hx hZ hown (own_w hw 38) (own_w hw 39) (own_w hw 3) (own_w hw 40) (by decide) hh42 (hM := own_at l Z a0 hw [] ra40 1 2 (2 : Int32) y2 gr40 T40.heap n0 (Nat.le_trans (Nat.le_trans (Nat.le_trans (Nat.le_trans (Nat.le_trans (Nat.le_trans (Nat.le_trans (Nat.le_trans (Nat.le_trans (Nat.le_trans (Nat.le_trans (Nat.le_trans (Nat.le_trans (Nat.le_trans (Nat.le_trans (Nat.le_trans (Nat.le_trans (Nat.le_trans (Nat.le_trans (Nat.le_trans (Nat.le_trans (Nat.le_trans (Nat.le_trans (Nat.le_trans (Nat.le_trans Z0 E1.1) (Nat.le_of_eq W3.size.symm)) (Nat.le_of_eq W5.size.symm)) (Nat.le_of_eq W7.size.symm)) (Nat.le_of_eq W9.size.symm)) (Nat.le_of_eq W11.size.symm)) (Nat.le_of_eq W13.size.symm)) (Nat.le_of_eq W15.size.symm)) E16.1) (Nat.le_of_eq W17.size.symm)) (Nat.le_of_eq W18.size.symm)) (Nat.le_of_eq W19.size.symm)) (Nat.le_of_eq W20.size.symm)) (Nat.le_of_eq W21.size.symm)) (Nat.le_of_eq W22.size.symm)) (Nat.le_of_eq W23.size.symm)) (Nat.le_of_eq W24.size.symm)) (Nat.le_of_eq W25.size.symm)) (Nat.le_of_eq W26.size.symm)) (Nat.le_of_eq W27.size.symm)) (Nat.le_of_eq W36.size.symm)) (Nat.le_of_eq W37.size.symm)) E38.1) K39.1) K40.1) (by decide) (fun q => absurd q (by decide)) Ar40) (W := 0) (pc := 502) (Ls := #[iv i0, iv i1, iv i2, iv i3, iv 1, iv p1, iv y0, iv y1, iv y2, iv y3, iv y4, iv 2, rv b1, rv b16, rv ra40]) (argsL := [(.ref ra40), (.int 2), (.int y2)]) (rest := []) (st0 := [(.int y2), (.int 2), (.ref ra40)]) (by rw [hml]; rfl) (lenOf own_pd17 rfl) rfl (Nat.le_of_eq rfl) (hb hby at_502) (by decide) (by decide) (by decide) (by decide) ?_
    intro v43 T43 L43 X43 hQ43
    obtain ⟨rfl, Nq43, hh43⟩ := hQ43
    have N43 := Fr.app N42 Nq43
    show own_Ends p e below s _ _ _ (own_F T43 m 505 #[iv i0, iv i1, iv i2, iv i3, iv 1, iv p1, iv y0, iv y1, iv y2, iv y3, iv y4, iv 2, rv b1, rv b16, rv ra40] [(.int 1)])
    refine own_g (own_F T43 m 508 #[iv i0, iv i1, iv i2, iv i3, iv 1, iv p1, iv y0, iv y1, iv y2, iv y3, iv y4, iv 2, rv b1, rv b16, rv ra40] []) (fun _ z_ => XS.ifNo X43.here hx rfl (hb hby at_505) rfl ((if0 _ _).trans (feq (by decide : ¬ ((1 : Int32) = (0 : Int32)))).1) z_) ?_
    refine own_g (own_F T43 m 510 #[iv i0, iv i1, iv i2, iv i3, iv 1, iv p1, iv y0, iv y1, iv y2, iv y3, iv y4, iv 2, rv b1, rv b16, rv ra40] [(.ref ra40)]) (fun _ z_ => XS.aload X43.here hx rfl (hb hby at_508) rfl rfl z_) ?_
    refine own_g (own_F T43 m 511 #[iv i0, iv i1, iv i2, iv i3, iv 1, iv p1, iv y0, iv y1, iv y2, iv y3, iv y4, iv 2, rv b1, rv b16, rv ra40] [(.int 3), (.ref ra40)]) (fun _ z_ => XS.iconst X43.here hx rfl (hb hby at_510) z_) ?_
    refine own_g (own_F T43 m 513 #[iv i0, iv i1, iv i2, iv i3, iv 1, iv p1, iv y0, iv y1, iv y2, iv y3, iv y4, iv 2, rv b1, rv b16, rv ra40] [(.int y3), (.int 3), (.ref ra40)]) (fun _ z_ => XS.iload X43.here hx rfl (hb hby at_511) rfl z_) ?_
    refine own_callS (y := (⟨"com/example/claimgate/claimgate/jose/Base64UrlDecodePinLaw", "at", "([BII)Z"⟩ : MethodName)) X43 hx hZ hown (own_w hw 38) (own_w hw 39) (own_w hw 3) (own_w hw 40) (by decide) hh43 (hM := own_at l Z a0 hw [] ra40 1 3 (3 : Int32) y3 gr40 T40.heap n0 (Nat.le_trans (Nat.le_trans (Nat.le_trans (Nat.le_trans (Nat.le_trans (Nat.le_trans (Nat.le_trans (Nat.le_trans (Nat.le_trans (Nat.le_trans (Nat.le_trans (Nat.le_trans (Nat.le_trans (Nat.le_trans (Nat.le_trans (Nat.le_trans (Nat.le_trans (Nat.le_trans (Nat.le_trans (Nat.le_trans (Nat.le_trans (Nat.le_trans (Nat.le_trans (Nat.le_trans (Nat.le_trans Z0 E1.1) (Nat.le_of_eq W3.size.symm)) (Nat.le_of_eq W5.size.symm)) (Nat.le_of_eq W7.size.symm)) (Nat.le_of_eq W9.size.symm)) (Nat.le_of_eq W11.size.symm)) (Nat.le_of_eq W13.size.symm)) (Nat.le_of_eq W15.size.symm)) E16.1) (Nat.le_of_eq W17.size.symm)) (Nat.le_of_eq W18.size.symm)) (Nat.le_of_eq W19.size.symm)) (Nat.le_of_eq W20.size.symm)) (Nat.le_of_eq W21.size.symm)) (Nat.le_of_eq W22.size.symm)) (Nat.le_of_eq W23.size.symm)) (Nat.le_of_eq W24.size.symm)) (Nat.le_of_eq W25.size.symm)) (Nat.le_of_eq W26.size.symm)) (Nat.le_of_eq W27.size.symm)) (Nat.le_of_eq W36.size.symm)) (Nat.le_of_eq W37.size.symm)) E38.1) K39.1) K40.1) (by decide) (fun q => absurd q (by decide)) Ar40) (W := 0) (pc := 513) (Ls := #[iv i0, iv i1, iv i2, iv i3, iv 1, iv p1, iv y0, iv y1, iv y2, iv y3, iv y4, iv 2, rv b1, rv b16, rv ra40]) (argsL := [(.ref ra40), (.int 3), (.int y3)]) (rest := []) (st0 := [(.int y3), (.int 3), (.ref ra40)]) (by rw [hml]; rfl) (lenOf own_pd17 rfl) rfl (Nat.le_of_eq rfl) (hb hby at_513) (by decide) (by decide) (by decide) (by decide) ?_
    intro v44 T44 L44 X44 hQ44
    obtain ⟨rfl, Nq44, hh44⟩ := hQ44
    have N44 := Fr.app N43 Nq44
    show own_Ends p e below s _ _ _ (own_F T44 m 516 #[iv i0, iv i1, iv i2, iv i3, iv 1, iv p1, iv y0, iv y1, iv y2, iv y3, iv y4, iv 2, rv b1, rv b16, rv ra40] [(.int 1)])
    refine own_g (own_F T44 m 519 #[iv i0, iv i1, iv i2, iv i3, iv 1, iv p1, iv y0, iv y1, iv y2, iv y3, iv y4, iv 2, rv b1, rv b16, rv ra40] []) (fun _ z_ => XS.ifNo X44.here hx rfl (hb hby at_516) rfl ((if0 _ _).trans (feq (by decide : ¬ ((1 : Int32) = (0 : Int32)))).1) z_) ?_
    refine own_g (own_F T44 m 521 #[iv i0, iv i1, iv i2, iv i3, iv 1, iv p1, iv y0, iv y1, iv y2, iv y3, iv y4, iv 2, rv b1, rv b16, rv ra40] [(.ref ra40)]) (fun _ z_ => XS.aload X44.here hx rfl (hb hby at_519) rfl rfl z_) ?_
    refine own_g (own_F T44 m 522 #[iv i0, iv i1, iv i2, iv i3, iv 1, iv p1, iv y0, iv y1, iv y2, iv y3, iv y4, iv 2, rv b1, rv b16, rv ra40] [(.int 4), (.ref ra40)]) (fun _ z_ => XS.iconst X44.here hx rfl (hb hby at_521) z_) ?_
    refine own_g (own_F T44 m 524 #[iv i0, iv i1, iv i2, iv i3, iv 1, iv p1, iv y0, iv y1, iv y2, iv y3, iv y4, iv 2, rv b1, rv b16, rv ra40] [(.int y4), (.int 4), (.ref ra40)]) (fun _ z_ => XS.iload X44.here hx rfl (hb hby at_522) rfl z_) ?_
    refine own_callS (y := (⟨"com/example/claimgate/claimgate/jose/Base64UrlDecodePinLaw", "at", "([BII)Z"⟩ : MethodName)) X44 hx hZ hown (own_w hw 38) (own_w hw 39) (own_w hw 3) (own_w hw 40) (by decide) hh44 (hM := own_at l Z a0 hw [] ra40 1 4 (4 : Int32) y4 gr40 T40.heap n0 (Nat.le_trans (Nat.le_trans (Nat.le_trans (Nat.le_trans (Nat.le_trans (Nat.le_trans (Nat.le_trans (Nat.le_trans (Nat.le_trans (Nat.le_trans (Nat.le_trans (Nat.le_trans (Nat.le_trans (Nat.le_trans (Nat.le_trans (Nat.le_trans (Nat.le_trans (Nat.le_trans (Nat.le_trans (Nat.le_trans (Nat.le_trans (Nat.le_trans (Nat.le_trans (Nat.le_trans (Nat.le_trans Z0 E1.1) (Nat.le_of_eq W3.size.symm)) (Nat.le_of_eq W5.size.symm)) (Nat.le_of_eq W7.size.symm)) (Nat.le_of_eq W9.size.symm)) (Nat.le_of_eq W11.size.symm)) (Nat.le_of_eq W13.size.symm)) (Nat.le_of_eq W15.size.symm)) E16.1) (Nat.le_of_eq W17.size.symm)) (Nat.le_of_eq W18.size.symm)) (Nat.le_of_eq W19.size.symm)) (Nat.le_of_eq W20.size.symm)) (Nat.le_of_eq W21.size.symm)) (Nat.le_of_eq W22.size.symm)) (Nat.le_of_eq W23.size.symm)) (Nat.le_of_eq W24.size.symm)) (Nat.le_of_eq W25.size.symm)) (Nat.le_of_eq W26.size.symm)) (Nat.le_of_eq W27.size.symm)) (Nat.le_of_eq W36.size.symm)) (Nat.le_of_eq W37.size.symm)) E38.1) K39.1) K40.1) (by decide) (fun q => absurd q (by decide)) Ar40) (W := 0) (pc := 524) (Ls := #[iv i0, iv i1, iv i2, iv i3, iv 1, iv p1, iv y0, iv y1, iv y2, iv y3, iv y4, iv 2, rv b1, rv b16, rv ra40]) (argsL := [(.ref ra40), (.int 4), (.int y4)]) (rest := []) (st0 := [(.int y4), (.int 4), (.ref ra40)]) (by rw [hml]; rfl) (lenOf own_pd17 rfl) rfl (Nat.le_of_eq rfl) (hb hby at_524) (by decide) (by decide) (by decide) (by decide) ?_
    intro v45 T45 L45 X45 hQ45
    obtain ⟨rfl, Nq45, hh45⟩ := hQ45
    have N45 := Fr.app N44 Nq45
    show own_Ends p e below s _ _ _ (own_F T45 m 527 #[iv i0, iv i1, iv i2, iv i3, iv 1, iv p1, iv y0, iv y1, iv y2, iv y3, iv y4, iv 2, rv b1, rv b16, rv ra40] [(.int 1)])
    refine own_g (own_F T45 m 530 #[iv i0, iv i1, iv i2, iv i3, iv 1, iv p1, iv y0, iv y1, iv y2, iv y3, iv y4, iv 2, rv b1, rv b16, rv ra40] []) (fun _ z_ => XS.ifNo X45.here hx rfl (hb hby at_527) rfl ((if0 _ _).trans (feq (by decide : ¬ ((1 : Int32) = (0 : Int32)))).1) z_) ?_
    refine own_g (own_F T45 m 531 #[iv i0, iv i1, iv i2, iv i3, iv 1, iv p1, iv y0, iv y1, iv y2, iv y3, iv y4, iv 2, rv b1, rv b16, rv ra40] [(.int 1)]) (fun _ z_ => XS.iconst X45.here hx rfl (hb hby at_530) z_) ?_
    refine own_g (own_F T45 m 535 #[iv i0, iv i1, iv i2, iv i3, iv 1, iv p1, iv y0, iv y1, iv y2, iv y3, iv y4, iv 2, rv b1, rv b16, rv ra40] [(.int 1)]) (fun _ z_ => XS.goto X45.here hx rfl (pc0 := 531) (pc' := 535) rfl (hb hby at_531) (by decide) (by decide) z_) ?_
    refine own_ret (t := .boolean) X45 hx hlk hrt rfl (Or.inl ⟨rfl, by simp, _, rfl⟩) (hb hby at_535) (by decide) (by decide) ?_
    exact ⟨rfl, N45⟩
   ·
    show own_Ends p e below s _ _ _ (own_F T27 m 327 #[iv i0, iv i1, iv i2, iv i3, iv 2, iv p1, iv y0, iv y1, iv y2, iv y3, iv y4, iv 3, rv b1, rv b16, .unset] [])
    refine own_g (own_F T27 m 329 #[iv i0, iv i1, iv i2, iv i3, iv 2, iv p1, iv y0, iv y1, iv y2, iv y3, iv y4, iv 3, rv b1, rv b16, .unset] [(.int 3)]) (fun _ z_ => XS.iload X27.here hx rfl (hb hby at_327) rfl z_) ?_
    refine own_g (own_F T27 m 332 #[iv i0, iv i1, iv i2, iv i3, iv 2, iv p1, iv y0, iv y1, iv y2, iv y3, iv y4, iv 3, rv b1, rv b16, .unset] []) (fun _ z_ => XS.ifNo X27.here hx rfl (hb hby at_329) rfl ((if0 _ _).trans (tlt (by decide : ((0 : Int32) < (3 : Int32)))).2.2.2) z_) ?_
    refine own_g (own_F T27 m 334 #[iv i0, iv i1, iv i2, iv i3, iv 2, iv p1, iv y0, iv y1, iv y2, iv y3, iv y4, iv 3, rv b1, rv b16, .unset] [(.ref b16)]) (fun _ z_ => XS.aload X27.here hx rfl (hb hby at_332) rfl rfl z_) ?_
    refine own_g (own_F T27 m 336 #[iv i0, iv i1, iv i2, iv i3, iv 2, iv p1, iv y0, iv y1, iv y2, iv y3, iv y4, iv 3, rv b1, rv b16, .unset] [(.int p1), (.ref b16)]) (fun _ z_ => XS.iload X27.here hx rfl (hb hby at_334) rfl z_) ?_
    refine own_g (own_F T27 m 338 #[iv i0, iv i1, iv i2, iv i3, iv 2, iv p1, iv y0, iv y1, iv y2, iv y3, iv y4, iv 3, rv b1, rv b16, .unset] [(.ref b1), (.int p1), (.ref b16)]) (fun _ z_ => XS.aload X27.here hx rfl (hb hby at_336) rfl rfl z_) ?_
    refine own_g (own_F T27 m 339 #[iv i0, iv i1, iv i2, iv i3, iv 2, iv p1, iv y0, iv y1, iv y2, iv y3, iv y4, iv 3, rv b1, rv b16, .unset] [(.int 0), (.ref b1), (.int p1), (.ref b16)]) (fun _ z_ => XS.iconst X27.here hx rfl (hb hby at_338) z_) ?_
    refine own_cald X27 hx hZ e27 ((((((((((((A15.ext E16).other W17 ne_b1_b16).other W18 ne_b1_b16).other W19 ne_b1_b16).other W20 ne_b1_b16).other W21 ne_b1_b16).other W22 ne_b1_b16).other W23 ne_b1_b16).other W24 ne_b1_b16).other W25 ne_b1_b16).other W26 ne_b1_b16).other W27 ne_b1_b16) 0 rfl (by decide) (hb hby at_339) ?_
    show own_Ends p e below s _ _ _ (own_F T27 m 340 #[iv i0, iv i1, iv i2, iv i3, iv 2, iv p1, iv y0, iv y1, iv y2, iv y3, iv y4, iv 3, rv b1, rv b16, .unset] [(.int (g15 0)), (.int p1), (.ref b16)])
    rw [q15_0]
    refine own_cast X27 hx hZ e27 A27 (P + 0) hp (own_pl hP 0) c0_ (own_narC (own_sym_rng hs0).1) (hb hby at_340) ?_
    intro T46 h46 X46 e46 W46 A46
    have N46 := Fr.snoc X46 N27 ge_b16
    obtain ⟨g46, hg46⟩ : ∃ gq_ : Nat → Int32, gq_ = fun q_ => if q_ = (P + 0) then c0_ else g27 q_ := ⟨_, rfl⟩
    have A46 : own_A Z h46 b16 .char 11 (fun q_ => .int (g46 q_)) := by rw [hg46]; exact A46
    show own_Ends p e below s _ _ _ (own_F T46 m 341 #[iv i0, iv i1, iv i2, iv i3, iv 2, iv p1, iv y0, iv y1, iv y2, iv y3, iv y4, iv 3, rv b1, rv b16, .unset] [])
    have rg46 := own_rngs hg46 rg27 (own_sym_rng hs0).1
    refine own_g (own_F T46 m 343 #[iv i0, iv i1, iv i2, iv i3, iv 2, iv p1, iv y0, iv y1, iv y2, iv y3, iv y4, iv 3, rv b1, rv b16, .unset] [(.int 3)]) (fun _ z_ => XS.iload X46.here hx rfl (hb hby at_341) rfl z_) ?_
    refine own_g (own_F T46 m 344 #[iv i0, iv i1, iv i2, iv i3, iv 2, iv p1, iv y0, iv y1, iv y2, iv y3, iv y4, iv 3, rv b1, rv b16, .unset] [(.int 1), (.int 3)]) (fun _ z_ => XS.iconst X46.here hx rfl (hb hby at_343) z_) ?_
    refine own_g (own_F T46 m 347 #[iv i0, iv i1, iv i2, iv i3, iv 2, iv p1, iv y0, iv y1, iv y2, iv y3, iv y4, iv 3, rv b1, rv b16, .unset] []) (fun _ z_ => XS.icmpNo X46.here hx rfl (hb hby at_344) rfl (tlt (by decide : ((1 : Int32) < (3 : Int32)))).2.2.2 z_) ?_
    refine own_g (own_F T46 m 349 #[iv i0, iv i1, iv i2, iv i3, iv 2, iv p1, iv y0, iv y1, iv y2, iv y3, iv y4, iv 3, rv b1, rv b16, .unset] [(.ref b16)]) (fun _ z_ => XS.aload X46.here hx rfl (hb hby at_347) rfl rfl z_) ?_
    refine own_g (own_F T46 m 351 #[iv i0, iv i1, iv i2, iv i3, iv 2, iv p1, iv y0, iv y1, iv y2, iv y3, iv y4, iv 3, rv b1, rv b16, .unset] [(.int p1), (.ref b16)]) (fun _ z_ => XS.iload X46.here hx rfl (hb hby at_349) rfl z_) ?_
    refine own_g (own_F T46 m 352 #[iv i0, iv i1, iv i2, iv i3, iv 2, iv p1, iv y0, iv y1, iv y2, iv y3, iv y4, iv 3, rv b1, rv b16, .unset] [(.int 1), (.int p1), (.ref b16)]) (fun _ z_ => XS.iconst X46.here hx rfl (hb hby at_351) z_) ?_
    refine own_g (own_F T46 m 353 #[iv i0, iv i1, iv i2, iv i3, iv 2, iv p1, iv y0, iv y1, iv y2, iv y3, iv y4, iv 3, rv b1, rv b16, .unset] [(.int (p1 + (1 : Int32))), (.ref b16)]) (fun _ z_ => XS.iadd X46.here hx rfl (hb hby at_352) rfl z_) ?_
    refine own_g (own_F T46 m 355 #[iv i0, iv i1, iv i2, iv i3, iv 2, iv p1, iv y0, iv y1, iv y2, iv y3, iv y4, iv 3, rv b1, rv b16, .unset] [(.ref b1), (.int (p1 + (1 : Int32))), (.ref b16)]) (fun _ z_ => XS.aload X46.here hx rfl (hb hby at_353) rfl rfl z_) ?_
    refine own_g (own_F T46 m 356 #[iv i0, iv i1, iv i2, iv i3, iv 2, iv p1, iv y0, iv y1, iv y2, iv y3, iv y4, iv 3, rv b1, rv b16, .unset] [(.int 1), (.ref b1), (.int (p1 + (1 : Int32))), (.ref b16)]) (fun _ z_ => XS.iconst X46.here hx rfl (hb hby at_355) z_) ?_
    refine own_cald X46 hx hZ e46 (((((((((((((A15.ext E16).other W17 ne_b1_b16).other W18 ne_b1_b16).other W19 ne_b1_b16).other W20 ne_b1_b16).other W21 ne_b1_b16).other W22 ne_b1_b16).other W23 ne_b1_b16).other W24 ne_b1_b16).other W25 ne_b1_b16).other W26 ne_b1_b16).other W27 ne_b1_b16).other W46 ne_b1_b16) 1 rfl (by decide) (hb hby at_356) ?_
    show own_Ends p e below s _ _ _ (own_F T46 m 357 #[iv i0, iv i1, iv i2, iv i3, iv 2, iv p1, iv y0, iv y1, iv y2, iv y3, iv y4, iv 3, rv b1, rv b16, .unset] [(.int (g15 1)), (.int (p1 + (1 : Int32))), (.ref b16)])
    rw [q15_1]
    refine own_cast X46 hx hZ e46 A46 (P + 1) (own_padd hp hP (1 : Int32) 1 (by decide) (by decide)) (own_pl hP 1) c1_ (own_narC (own_sym_rng hs1).1) (hb hby at_357) ?_
    intro T47 h47 X47 e47 W47 A47
    have N47 := Fr.snoc X47 N46 ge_b16
    obtain ⟨g47, hg47⟩ : ∃ gq_ : Nat → Int32, gq_ = fun q_ => if q_ = (P + 1) then c1_ else g46 q_ := ⟨_, rfl⟩
    have A47 : own_A Z h47 b16 .char 11 (fun q_ => .int (g47 q_)) := by rw [hg47]; exact A47
    show own_Ends p e below s _ _ _ (own_F T47 m 358 #[iv i0, iv i1, iv i2, iv i3, iv 2, iv p1, iv y0, iv y1, iv y2, iv y3, iv y4, iv 3, rv b1, rv b16, .unset] [])
    have rg47 := own_rngs hg47 rg46 (own_sym_rng hs1).1
    refine own_g (own_F T47 m 360 #[iv i0, iv i1, iv i2, iv i3, iv 2, iv p1, iv y0, iv y1, iv y2, iv y3, iv y4, iv 3, rv b1, rv b16, .unset] [(.int 3)]) (fun _ z_ => XS.iload X47.here hx rfl (hb hby at_358) rfl z_) ?_
    refine own_g (own_F T47 m 361 #[iv i0, iv i1, iv i2, iv i3, iv 2, iv p1, iv y0, iv y1, iv y2, iv y3, iv y4, iv 3, rv b1, rv b16, .unset] [(.int 2), (.int 3)]) (fun _ z_ => XS.iconst X47.here hx rfl (hb hby at_360) z_) ?_
    refine own_g (own_F T47 m 364 #[iv i0, iv i1, iv i2, iv i3, iv 2, iv p1, iv y0, iv y1, iv y2, iv y3, iv y4, iv 3, rv b1, rv b16, .unset] []) (fun _ z_ => XS.icmpNo X47.here hx rfl (hb hby at_361) rfl (tlt (by decide : ((2 : Int32) < (3 : Int32)))).2.2.2 z_) ?_
    refine own_g (own_F T47 m 366 #[iv i0, iv i1, iv i2, iv i3, iv 2, iv p1, iv y0, iv y1, iv y2, iv y3, iv y4, iv 3, rv b1, rv b16, .unset] [(.ref b16)]) (fun _ z_ => XS.aload X47.here hx rfl (hb hby at_364) rfl rfl z_) ?_
    refine own_g (own_F T47 m 368 #[iv i0, iv i1, iv i2, iv i3, iv 2, iv p1, iv y0, iv y1, iv y2, iv y3, iv y4, iv 3, rv b1, rv b16, .unset] [(.int p1), (.ref b16)]) (fun _ z_ => XS.iload X47.here hx rfl (hb hby at_366) rfl z_) ?_
    refine own_g (own_F T47 m 369 #[iv i0, iv i1, iv i2, iv i3, iv 2, iv p1, iv y0, iv y1, iv y2, iv y3, iv y4, iv 3, rv b1, rv b16, .unset] [(.int 2), (.int p1), (.ref b16)]) (fun _ z_ => XS.iconst X47.here hx rfl (hb hby at_368) z_) ?_
    refine own_g (own_F T47 m 370 #[iv i0, iv i1, iv i2, iv i3, iv 2, iv p1, iv y0, iv y1, iv y2, iv y3, iv y4, iv 3, rv b1, rv b16, .unset] [(.int (p1 + (2 : Int32))), (.ref b16)]) (fun _ z_ => XS.iadd X47.here hx rfl (hb hby at_369) rfl z_) ?_
    refine own_g (own_F T47 m 372 #[iv i0, iv i1, iv i2, iv i3, iv 2, iv p1, iv y0, iv y1, iv y2, iv y3, iv y4, iv 3, rv b1, rv b16, .unset] [(.ref b1), (.int (p1 + (2 : Int32))), (.ref b16)]) (fun _ z_ => XS.aload X47.here hx rfl (hb hby at_370) rfl rfl z_) ?_
    refine own_g (own_F T47 m 373 #[iv i0, iv i1, iv i2, iv i3, iv 2, iv p1, iv y0, iv y1, iv y2, iv y3, iv y4, iv 3, rv b1, rv b16, .unset] [(.int 2), (.ref b1), (.int (p1 + (2 : Int32))), (.ref b16)]) (fun _ z_ => XS.iconst X47.here hx rfl (hb hby at_372) z_) ?_
    refine own_cald X47 hx hZ e47 ((((((((((((((A15.ext E16).other W17 ne_b1_b16).other W18 ne_b1_b16).other W19 ne_b1_b16).other W20 ne_b1_b16).other W21 ne_b1_b16).other W22 ne_b1_b16).other W23 ne_b1_b16).other W24 ne_b1_b16).other W25 ne_b1_b16).other W26 ne_b1_b16).other W27 ne_b1_b16).other W46 ne_b1_b16).other W47 ne_b1_b16) 2 rfl (by decide) (hb hby at_373) ?_
    show own_Ends p e below s _ _ _ (own_F T47 m 374 #[iv i0, iv i1, iv i2, iv i3, iv 2, iv p1, iv y0, iv y1, iv y2, iv y3, iv y4, iv 3, rv b1, rv b16, .unset] [(.int (g15 2)), (.int (p1 + (2 : Int32))), (.ref b16)])
    rw [q15_2]
    refine own_cast X47 hx hZ e47 A47 (P + 2) (own_padd hp hP (2 : Int32) 2 (by decide) (by decide)) (own_pl hP 2) c2_ (own_narC (own_sym_rng hs2).1) (hb hby at_374) ?_
    intro T48 h48 X48 e48 W48 A48
    have N48 := Fr.snoc X48 N47 ge_b16
    obtain ⟨g48, hg48⟩ : ∃ gq_ : Nat → Int32, gq_ = fun q_ => if q_ = (P + 2) then c2_ else g47 q_ := ⟨_, rfl⟩
    have A48 : own_A Z h48 b16 .char 11 (fun q_ => .int (g48 q_)) := by rw [hg48]; exact A48
    show own_Ends p e below s _ _ _ (own_F T48 m 375 #[iv i0, iv i1, iv i2, iv i3, iv 2, iv p1, iv y0, iv y1, iv y2, iv y3, iv y4, iv 3, rv b1, rv b16, .unset] [])
    have rg48 := own_rngs hg48 rg47 (own_sym_rng hs2).1
    refine own_g (own_F T48 m 377 #[iv i0, iv i1, iv i2, iv i3, iv 2, iv p1, iv y0, iv y1, iv y2, iv y3, iv y4, iv 3, rv b1, rv b16, .unset] [(.int 3)]) (fun _ z_ => XS.iload X48.here hx rfl (hb hby at_375) rfl z_) ?_
    refine own_g (own_F T48 m 378 #[iv i0, iv i1, iv i2, iv i3, iv 2, iv p1, iv y0, iv y1, iv y2, iv y3, iv y4, iv 3, rv b1, rv b16, .unset] [(.int 3), (.int 3)]) (fun _ z_ => XS.iconst X48.here hx rfl (hb hby at_377) z_) ?_
    refine own_g (own_F T48 m 392 #[iv i0, iv i1, iv i2, iv i3, iv 2, iv p1, iv y0, iv y1, iv y2, iv y3, iv y4, iv 3, rv b1, rv b16, .unset] []) (fun _ z_ => XS.icmpYes X48.here hx rfl (pc0 := 378) (pc' := 392) rfl (hb hby at_378) rfl (flt (by decide : ¬ ((3 : Int32) < (3 : Int32)))).2.2.2 (by decide) (by decide) z_) ?_
    refine own_g (own_F T48 m 394 #[iv i0, iv i1, iv i2, iv i3, iv 2, iv p1, iv y0, iv y1, iv y2, iv y3, iv y4, iv 3, rv b1, rv b16, .unset] [(.int 3)]) (fun _ z_ => XS.iload X48.here hx rfl (hb hby at_392) rfl z_) ?_
    refine own_g (own_F T48 m 395 #[iv i0, iv i1, iv i2, iv i3, iv 2, iv p1, iv y0, iv y1, iv y2, iv y3, iv y4, iv 3, rv b1, rv b16, .unset] [(.int 4), (.int 3)]) (fun _ z_ => XS.iconst X48.here hx rfl (hb hby at_394) z_) ?_
    refine own_g (own_F T48 m 409 #[iv i0, iv i1, iv i2, iv i3, iv 2, iv p1, iv y0, iv y1, iv y2, iv y3, iv y4, iv 3, rv b1, rv b16, .unset] []) (fun _ z_ => XS.icmpYes X48.here hx rfl (pc0 := 395) (pc' := 409) rfl (hb hby at_395) rfl (flt (by decide : ¬ ((4 : Int32) < (3 : Int32)))).2.2.2 (by decide) (by decide) z_) ?_
    refine own_g (own_F T48 m 411 #[iv i0, iv i1, iv i2, iv i3, iv 2, iv p1, iv y0, iv y1, iv y2, iv y3, iv y4, iv 3, rv b1, rv b16, .unset] [(.int 3)]) (fun _ z_ => XS.iload X48.here hx rfl (hb hby at_409) rfl z_) ?_
    refine own_g (own_F T48 m 412 #[iv i0, iv i1, iv i2, iv i3, iv 2, iv p1, iv y0, iv y1, iv y2, iv y3, iv y4, iv 3, rv b1, rv b16, .unset] [(.int 5), (.int 3)]) (fun _ z_ => XS.iconst X48.here hx rfl (hb hby at_411) z_) ?_
    refine own_g (own_F T48 m 426 #[iv i0, iv i1, iv i2, iv i3, iv 2, iv p1, iv y0, iv y1, iv y2, iv y3, iv y4, iv 3, rv b1, rv b16, .unset] []) (fun _ z_ => XS.icmpYes X48.here hx rfl (pc0 := 412) (pc' := 426) rfl (hb hby at_412) rfl (flt (by decide : ¬ ((5 : Int32) < (3 : Int32)))).2.2.2 (by decide) (by decide) z_) ?_
    refine own_g (own_F T48 m 428 #[iv i0, iv i1, iv i2, iv i3, iv 2, iv p1, iv y0, iv y1, iv y2, iv y3, iv y4, iv 3, rv b1, rv b16, .unset] [(.int 3)]) (fun _ z_ => XS.iload X48.here hx rfl (hb hby at_426) rfl z_) ?_
    refine own_g (own_F T48 m 430 #[iv i0, iv i1, iv i2, iv i3, iv 2, iv p1, iv y0, iv y1, iv y2, iv y3, iv y4, iv 3, rv b1, rv b16, .unset] [(.int 6), (.int 3)]) (fun _ z_ => XS.bipush X48.here hx rfl (hb hby at_428) z_) ?_
    refine own_g (own_F T48 m 446 #[iv i0, iv i1, iv i2, iv i3, iv 2, iv p1, iv y0, iv y1, iv y2, iv y3, iv y4, iv 3, rv b1, rv b16, .unset] []) (fun _ z_ => XS.icmpYes X48.here hx rfl (pc0 := 430) (pc' := 446) rfl (hb hby at_430) rfl (flt (by decide : ¬ ((6 : Int32) < (3 : Int32)))).2.2.2 (by decide) (by decide) z_) ?_
    obtain ⟨T49, h49, X49, e49, E49, A49, D49, -, st49⟩ := newO X48 hx hZ hown (own_w hw 5) (own_w hw 6) (own_w hw 7) e48 (g := (mkF m 446 #[iv i0, iv i1, iv i2, iv i3, iv 2, iv p1, iv y0, iv y1, iv y2, iv y3, iv y4, iv 3, rv b1, rv b16, .unset] [])) rfl (hb hby at_446) (by decide) (by decide)
    obtain ⟨b49, g49⟩ : ∃ z, z = h48.size := ⟨_, rfl⟩
    rw [← g49] at A49 D49 st49
    have sz_b49 : h0.size ≤ b49 := Nat.le_trans (Nat.le_trans (Nat.le_trans (Nat.le_trans (Nat.le_trans (Nat.le_trans (Nat.le_trans (Nat.le_trans (Nat.le_trans (Nat.le_trans (Nat.le_trans (Nat.le_trans (Nat.le_trans (Nat.le_trans (Nat.le_trans (Nat.le_trans (Nat.le_trans (Nat.le_trans (Nat.le_trans (Nat.le_trans (Nat.le_trans (Nat.le_trans (Nat.le_trans (Nat.le_trans (Nat.le_refl h0.size) E1.1) (Nat.le_of_eq W3.size.symm)) (Nat.le_of_eq W5.size.symm)) (Nat.le_of_eq W7.size.symm)) (Nat.le_of_eq W9.size.symm)) (Nat.le_of_eq W11.size.symm)) (Nat.le_of_eq W13.size.symm)) (Nat.le_of_eq W15.size.symm)) E16.1) (Nat.le_of_eq W17.size.symm)) (Nat.le_of_eq W18.size.symm)) (Nat.le_of_eq W19.size.symm)) (Nat.le_of_eq W20.size.symm)) (Nat.le_of_eq W21.size.symm)) (Nat.le_of_eq W22.size.symm)) (Nat.le_of_eq W23.size.symm)) (Nat.le_of_eq W24.size.symm)) (Nat.le_of_eq W25.size.symm)) (Nat.le_of_eq W26.size.symm)) (Nat.le_of_eq W27.size.symm)) (Nat.le_of_eq W46.size.symm)) (Nat.le_of_eq W47.size.symm)) (Nat.le_of_eq W48.size.symm)) (Nat.le_of_eq g49.symm)
    have ge_b49 : n0 ≤ b49 := Nat.le_trans (Nat.le_trans (Nat.le_trans (Nat.le_trans (Nat.le_trans (Nat.le_trans (Nat.le_trans (Nat.le_trans (Nat.le_trans (Nat.le_trans (Nat.le_trans (Nat.le_trans (Nat.le_trans (Nat.le_trans (Nat.le_trans (Nat.le_trans (Nat.le_trans (Nat.le_trans (Nat.le_trans (Nat.le_trans (Nat.le_trans (Nat.le_trans (Nat.le_trans (Nat.le_trans Z0 E1.1) (Nat.le_of_eq W3.size.symm)) (Nat.le_of_eq W5.size.symm)) (Nat.le_of_eq W7.size.symm)) (Nat.le_of_eq W9.size.symm)) (Nat.le_of_eq W11.size.symm)) (Nat.le_of_eq W13.size.symm)) (Nat.le_of_eq W15.size.symm)) E16.1) (Nat.le_of_eq W17.size.symm)) (Nat.le_of_eq W18.size.symm)) (Nat.le_of_eq W19.size.symm)) (Nat.le_of_eq W20.size.symm)) (Nat.le_of_eq W21.size.symm)) (Nat.le_of_eq W22.size.symm)) (Nat.le_of_eq W23.size.symm)) (Nat.le_of_eq W24.size.symm)) (Nat.le_of_eq W25.size.symm)) (Nat.le_of_eq W26.size.symm)) (Nat.le_of_eq W27.size.symm)) (Nat.le_of_eq W46.size.symm)) (Nat.le_of_eq W47.size.symm)) (Nat.le_of_eq W48.size.symm)) (Nat.le_of_eq g49.symm)
    have ne_b1_b49 : b1 ≠ b49 := Nat.ne_of_lt (Nat.lt_of_lt_of_le (((((((((((((((A15.ext E16).other W17 ne_b1_b16).other W18 ne_b1_b16).other W19 ne_b1_b16).other W20 ne_b1_b16).other W21 ne_b1_b16).other W22 ne_b1_b16).other W23 ne_b1_b16).other W24 ne_b1_b16).other W25 ne_b1_b16).other W26 ne_b1_b16).other W27 ne_b1_b16).other W46 ne_b1_b16).other W47 ne_b1_b16).other W48 ne_b1_b16).lt (Nat.le_of_eq g49.symm))
    have ne_b16_b49 : b16 ≠ b49 := Nat.ne_of_lt (Nat.lt_of_lt_of_le A48.lt (Nat.le_of_eq g49.symm))
    have F49_coder : Fld Z h49 b49 "java/lang/String" "coder" "B" (.int 0) := D49 (Or.inr (own_w hw 31)) (ty := .byte) (by decide)
    have F49_value : Fld Z h49 b49 "java/lang/String" "value" "[B" .null := D49 (Or.inr (own_w hw 33)) (ty := (.array .byte)) (by decide)
    refine own_pre (S' := (own_F T49 m 449 #[iv i0, iv i1, iv i2, iv i3, iv 2, iv p1, iv y0, iv y1, iv y2, iv y3, iv y4, iv 3, rv b1, rv b16, .unset] [(.ref b49)])) st49 ?_
    refine own_g (own_F T49 m 450 #[iv i0, iv i1, iv i2, iv i3, iv 2, iv p1, iv y0, iv y1, iv y2, iv y3, iv y4, iv 3, rv b1, rv b16, .unset] [(.ref b49), (.ref b49)]) (fun _ z_ => XS.dup X49.here hx rfl (hb hby at_449) rfl rfl z_) ?_
    refine own_g (own_F T49 m 452 #[iv i0, iv i1, iv i2, iv i3, iv 2, iv p1, iv y0, iv y1, iv y2, iv y3, iv y4, iv 3, rv b1, rv b16, .unset] [(.ref b16), (.ref b49), (.ref b49)]) (fun _ z_ => XS.aload X49.here hx rfl (hb hby at_450) rfl rfl z_) ?_
    refine own_callI (y := (⟨"java/lang/String", "<init>", "([C)V"⟩ : MethodName)) (b := b49) X49 hx hZ hown rfl (own_w hw 8) (own_w hw 9) (own_w hw 10) (own_w hw 7) (by decide) e49 (hM := own_si l Z a0 hw [] b49 b16 11 (11 : Int32) zc g48 h49 n0 (Nat.le_trans (Nat.le_trans (Nat.le_trans (Nat.le_trans (Nat.le_trans (Nat.le_trans (Nat.le_trans (Nat.le_trans (Nat.le_trans (Nat.le_trans (Nat.le_trans (Nat.le_trans (Nat.le_trans (Nat.le_trans (Nat.le_trans (Nat.le_trans (Nat.le_trans (Nat.le_trans (Nat.le_trans (Nat.le_trans (Nat.le_trans (Nat.le_trans (Nat.le_trans (Nat.le_trans Z0 E1.1) (Nat.le_of_eq W3.size.symm)) (Nat.le_of_eq W5.size.symm)) (Nat.le_of_eq W7.size.symm)) (Nat.le_of_eq W9.size.symm)) (Nat.le_of_eq W11.size.symm)) (Nat.le_of_eq W13.size.symm)) (Nat.le_of_eq W15.size.symm)) E16.1) (Nat.le_of_eq W17.size.symm)) (Nat.le_of_eq W18.size.symm)) (Nat.le_of_eq W19.size.symm)) (Nat.le_of_eq W20.size.symm)) (Nat.le_of_eq W21.size.symm)) (Nat.le_of_eq W22.size.symm)) (Nat.le_of_eq W23.size.symm)) (Nat.le_of_eq W24.size.symm)) (Nat.le_of_eq W25.size.symm)) (Nat.le_of_eq W26.size.symm)) (Nat.le_of_eq W27.size.symm)) (Nat.le_of_eq W46.size.symm)) (Nat.le_of_eq W47.size.symm)) (Nat.le_of_eq W48.size.symm)) E49.1) (by decide) (by decide) (by decide) hzc (A48.ext E49) (fun i _ => rg48 i) A49 F49_value F49_coder ((((((((((((((((((((((((S_cs.ext E1).wr W3).wr W5).wr W7).wr W9).wr W11).wr W13).wr W15).ext E16).wr W17).wr W18).wr W19).wr W20).wr W21).wr W22).wr W23).wr W24).wr W25).wr W26).wr W27).wr W46).wr W47).wr W48).ext E49) ((((((((((((((((((((((((S_ad.ext E1).wr W3).wr W5).wr W7).wr W9).wr W11).wr W13).wr W15).ext E16).wr W17).wr W18).wr W19).wr W20).wr W21).wr W22).wr W23).wr W24).wr W25).wr W26).wr W27).wr W46).wr W47).wr W48).ext E49) ((((((((((((((((((((((((S_hi.ext E1).wr W3).wr W5).wr W7).wr W9).wr W11).wr W13).wr W15).ext E16).wr W17).wr W18).wr W19).wr W20).wr W21).wr W22).wr W23).wr W24).wr W25).wr W26).wr W27).wr W46).wr W47).wr W48).ext E49) ((((((((((((((((((((((((S_lo.ext E1).wr W3).wr W5).wr W7).wr W9).wr W11).wr W13).wr W15).ext E16).wr W17).wr W18).wr W19).wr W20).wr W21).wr W22).wr W23).wr W24).wr W25).wr W26).wr W27).wr W46).wr W47).wr W48).ext E49) ge_b49 (Ne.symm ne_b16_b49)) (W := 1) (pc := 452) (Ls := #[iv i0, iv i1, iv i2, iv i3, iv 2, iv p1, iv y0, iv y1, iv y2, iv y3, iv y4, iv 3, rv b1, rv b16, .unset]) (argsL := [(.ref b16)]) (rest := [(.ref b49)]) (st0 := [(.ref b16), (.ref b49), (.ref b49)]) (by rw [hml]; rfl) (lenOf own_pd15 rfl) rfl (Nat.le_of_eq rfl) (hb hby at_452) (by decide) (by decide) (by decide) (by decide) ?_
    intro v50 T50 L50 X50 hQ50
    obtain ⟨rfl, Nq50, K50, Sx50⟩ := hQ50
    have N50 := Fr.app N48 Nq50
    show own_Ends p e below s _ _ _ (own_F T50 m 455 #[iv i0, iv i1, iv i2, iv i3, iv 2, iv p1, iv y0, iv y1, iv y2, iv y3, iv y4, iv 3, rv b1, rv b16, .unset] [(.ref b49)])
    refine own_g (own_F T50 m 457 #[iv i0, iv i1, iv i2, iv i3, iv 2, iv p1, iv y0, iv y1, iv y2, iv y3, iv y4, iv 3, rv b1, rv b16, .unset] [(.int p1), (.ref b49)]) (fun _ z_ => XS.iload X50.here hx rfl (hb hby at_455) rfl z_) ?_
    refine own_g (own_F T50 m 459 #[iv i0, iv i1, iv i2, iv i3, iv 2, iv p1, iv y0, iv y1, iv y2, iv y3, iv y4, iv 3, rv b1, rv b16, .unset] [(.int p1), (.int p1), (.ref b49)]) (fun _ z_ => XS.iload X50.here hx rfl (hb hby at_457) rfl z_) ?_
    refine own_g (own_F T50 m 461 #[iv i0, iv i1, iv i2, iv i3, iv 2, iv p1, iv y0, iv y1, iv y2, iv y3, iv y4, iv 3, rv b1, rv b16, .unset] [(.int 3), (.int p1), (.int p1), (.ref b49)]) (fun _ z_ => XS.iload X50.here hx rfl (hb hby at_459) rfl z_) ?_
    refine own_g (own_F T50 m 462 #[iv i0, iv i1, iv i2, iv i3, iv 2, iv p1, iv y0, iv y1, iv y2, iv y3, iv y4, iv 3, rv b1, rv b16, .unset] [(.int (p1 + (3 : Int32))), (.int p1), (.ref b49)]) (fun _ z_ => XS.iadd X50.here hx rfl (hb hby at_461) rfl z_) ?_
    have tq0 : own_sym (g48 (P + 0)) v0 := by rw [show g48 (P + 0) = c0_ from by simp [hg48, hg47, hg46]]; exact hs0
    have tq1 : own_sym (g48 (P + 1)) v1 := by rw [show g48 (P + 1) = c1_ from by simp [hg48, hg47, hg46]]; exact hs1
    have tq2 : own_sym (g48 (P + 2)) v2 := by rw [show g48 (P + 2) = c2_ from by simp [hg48, hg47, hg46]]; exact hs2
    refine own_callS (y := (⟨"com/example/claimgate/claimgate/jose/Base64Url", "decode", "(Ljava/lang/String;II)[B"⟩ : MethodName)) X50 hx hZ hown (own_w hw 34) (own_w hw 35) (own_w hw 36) (own_w hw 37) (by decide) (rfl : T50.heap = T50.heap) (hM := own_dec2 l Z a0 hw [] b49 p1 (p1 + (3 : Int32)) zc P g48 sv hsv y0 y1 y2 y3 y4 v0 v1 v2 T50.heap n0 (Nat.le_trans (Nat.le_trans (Nat.le_trans (Nat.le_trans (Nat.le_trans (Nat.le_trans (Nat.le_trans (Nat.le_trans (Nat.le_trans (Nat.le_trans (Nat.le_trans (Nat.le_trans (Nat.le_trans (Nat.le_trans (Nat.le_trans (Nat.le_trans (Nat.le_trans (Nat.le_trans (Nat.le_trans (Nat.le_trans (Nat.le_trans (Nat.le_trans (Nat.le_trans (Nat.le_trans (Nat.le_trans Z0 E1.1) (Nat.le_of_eq W3.size.symm)) (Nat.le_of_eq W5.size.symm)) (Nat.le_of_eq W7.size.symm)) (Nat.le_of_eq W9.size.symm)) (Nat.le_of_eq W11.size.symm)) (Nat.le_of_eq W13.size.symm)) (Nat.le_of_eq W15.size.symm)) E16.1) (Nat.le_of_eq W17.size.symm)) (Nat.le_of_eq W18.size.symm)) (Nat.le_of_eq W19.size.symm)) (Nat.le_of_eq W20.size.symm)) (Nat.le_of_eq W21.size.symm)) (Nat.le_of_eq W22.size.symm)) (Nat.le_of_eq W23.size.symm)) (Nat.le_of_eq W24.size.symm)) (Nat.le_of_eq W25.size.symm)) (Nat.le_of_eq W26.size.symm)) (Nat.le_of_eq W27.size.symm)) (Nat.le_of_eq W46.size.symm)) (Nat.le_of_eq W47.size.symm)) (Nat.le_of_eq W48.size.symm)) E49.1) K50.1) hp hP (own_padd hp hP (3 : Int32) 3 (by decide) (by decide)) hzc Sx50 (own_sta_keep ((((((((((((((((((((((((S_cs.ext E1).wr W3).wr W5).wr W7).wr W9).wr W11).wr W13).wr W15).ext E16).wr W17).wr W18).wr W19).wr W20).wr W21).wr W22).wr W23).wr W24).wr W25).wr W26).wr W27).wr W46).wr W47).wr W48).ext E49) K50 (allS (own_plainE A49) all0)) (own_sta_keep ((((((((((((((((((((((((S_sf.ext E1).wr W3).wr W5).wr W7).wr W9).wr W11).wr W13).wr W15).ext E16).wr W17).wr W18).wr W19).wr W20).wr W21).wr W22).wr W23).wr W24).wr W25).wr W26).wr W27).wr W46).wr W47).wr W48).ext E49) K50 (allS (own_plainE A49) all0)) (own_sta_keep ((((((((((((((((((((((((S_ad.ext E1).wr W3).wr W5).wr W7).wr W9).wr W11).wr W13).wr W15).ext E16).wr W17).wr W18).wr W19).wr W20).wr W21).wr W22).wr W23).wr W24).wr W25).wr W26).wr W27).wr W46).wr W47).wr W48).ext E49) K50 (allS (own_plainE A49) all0)) (own_sta_keep ((((((((((((((((((((((((S_hi.ext E1).wr W3).wr W5).wr W7).wr W9).wr W11).wr W13).wr W15).ext E16).wr W17).wr W18).wr W19).wr W20).wr W21).wr W22).wr W23).wr W24).wr W25).wr W26).wr W27).wr W46).wr W47).wr W48).ext E49) K50 (allS (own_plainE A49) all0)) (own_sta_keep ((((((((((((((((((((((((S_lo.ext E1).wr W3).wr W5).wr W7).wr W9).wr W11).wr W13).wr W15).ext E16).wr W17).wr W18).wr W19).wr W20).wr W21).wr W22).wr W23).wr W24).wr W25).wr W26).wr W27).wr W46).wr W47).wr W48).ext E49) K50 (allS (own_plainE A49) all0)) tq0 tq1 tq2 hr0 hr1 hr2 hc0 hc1 hc2 hc3 hc4) (W := 0) (pc := 462) (Ls := #[iv i0, iv i1, iv i2, iv i3, iv 2, iv p1, iv y0, iv y1, iv y2, iv y3, iv y4, iv 3, rv b1, rv b16, .unset]) (argsL := [(.ref b49), (.int p1), (.int (p1 + (3 : Int32)))]) (rest := []) (st0 := [(.int (p1 + (3 : Int32))), (.int p1), (.ref b49)]) (by rw [hml]; rfl) (lenOf own_pd16 rfl) rfl (Nat.le_of_eq rfl) (hb hby at_462) (by decide) (by decide) (by decide) (by decide) ?_
    intro v51 T51 L51 X51 hQ51
    obtain ⟨ra51, gr51, rfl, Nq51, K51, ge_ra51, Ar51, qr0, qr1⟩ := hQ51
    have N51 := Fr.app N50 Nq51
    show own_Ends p e below s _ _ _ (own_F T51 m 465 #[iv i0, iv i1, iv i2, iv i3, iv 2, iv p1, iv y0, iv y1, iv y2, iv y3, iv y4, iv 3, rv b1, rv b16, .unset] [(.ref ra51)])
    refine own_g (own_F T51 m 467 #[iv i0, iv i1, iv i2, iv i3, iv 2, iv p1, iv y0, iv y1, iv y2, iv y3, iv y4, iv 3, rv b1, rv b16, rv ra51] []) (fun _ z_ => XS.astore X51.here hx rfl (hb hby at_465) rfl rfl (l' := #[iv i0, iv i1, iv i2, iv i3, iv 2, iv p1, iv y0, iv y1, iv y2, iv y3, iv y4, iv 3, rv b1, rv b16, rv ra51]) rfl z_) ?_
    refine own_g (own_F T51 m 469 #[iv i0, iv i1, iv i2, iv i3, iv 2, iv p1, iv y0, iv y1, iv y2, iv y3, iv y4, iv 3, rv b1, rv b16, rv ra51] [(.ref ra51)]) (fun _ z_ => XS.aload X51.here hx rfl (hb hby at_467) rfl rfl z_) ?_
    refine own_alen X51 hx hZ (rfl : T51.heap = T51.heap) Ar51 (hb hby at_469) ?_
    show own_Ends p e below s _ _ _ (own_F T51 m 470 #[iv i0, iv i1, iv i2, iv i3, iv 2, iv p1, iv y0, iv y1, iv y2, iv y3, iv y4, iv 3, rv b1, rv b16, rv ra51] [(.int 2)])
    refine own_g (own_F T51 m 472 #[iv i0, iv i1, iv i2, iv i3, iv 2, iv p1, iv y0, iv y1, iv y2, iv y3, iv y4, iv 3, rv b1, rv b16, rv ra51] [(.int 2), (.int 2)]) (fun _ z_ => XS.iload X51.here hx rfl (hb hby at_470) rfl z_) ?_
    refine own_g (own_F T51 m 475 #[iv i0, iv i1, iv i2, iv i3, iv 2, iv p1, iv y0, iv y1, iv y2, iv y3, iv y4, iv 3, rv b1, rv b16, rv ra51] []) (fun _ z_ => XS.icmpNo X51.here hx rfl (hb hby at_472) rfl (teq (by decide : ((2 : Int32) = (2 : Int32)))).2 z_) ?_
    refine own_g (own_F T51 m 477 #[iv i0, iv i1, iv i2, iv i3, iv 2, iv p1, iv y0, iv y1, iv y2, iv y3, iv y4, iv 3, rv b1, rv b16, rv ra51] [(.ref ra51)]) (fun _ z_ => XS.aload X51.here hx rfl (hb hby at_475) rfl rfl z_) ?_
    refine own_g (own_F T51 m 478 #[iv i0, iv i1, iv i2, iv i3, iv 2, iv p1, iv y0, iv y1, iv y2, iv y3, iv y4, iv 3, rv b1, rv b16, rv ra51] [(.int 0), (.ref ra51)]) (fun _ z_ => XS.iconst X51.here hx rfl (hb hby at_477) z_) ?_
    refine own_g (own_F T51 m 480 #[iv i0, iv i1, iv i2, iv i3, iv 2, iv p1, iv y0, iv y1, iv y2, iv y3, iv y4, iv 3, rv b1, rv b16, rv ra51] [(.int y0), (.int 0), (.ref ra51)]) (fun _ z_ => XS.iload X51.here hx rfl (hb hby at_478) rfl z_) ?_
    refine own_callS (y := (⟨"com/example/claimgate/claimgate/jose/Base64UrlDecodePinLaw", "at", "([BII)Z"⟩ : MethodName)) X51 hx hZ hown (own_w hw 38) (own_w hw 39) (own_w hw 3) (own_w hw 40) (by decide) (rfl : T51.heap = T51.heap) (hM := own_at l Z a0 hw [] ra51 2 0 (0 : Int32) y0 gr51 T51.heap n0 (Nat.le_trans (Nat.le_trans (Nat.le_trans (Nat.le_trans (Nat.le_trans (Nat.le_trans (Nat.le_trans (Nat.le_trans (Nat.le_trans (Nat.le_trans (Nat.le_trans (Nat.le_trans (Nat.le_trans (Nat.le_trans (Nat.le_trans (Nat.le_trans (Nat.le_trans (Nat.le_trans (Nat.le_trans (Nat.le_trans (Nat.le_trans (Nat.le_trans (Nat.le_trans (Nat.le_trans (Nat.le_trans (Nat.le_trans Z0 E1.1) (Nat.le_of_eq W3.size.symm)) (Nat.le_of_eq W5.size.symm)) (Nat.le_of_eq W7.size.symm)) (Nat.le_of_eq W9.size.symm)) (Nat.le_of_eq W11.size.symm)) (Nat.le_of_eq W13.size.symm)) (Nat.le_of_eq W15.size.symm)) E16.1) (Nat.le_of_eq W17.size.symm)) (Nat.le_of_eq W18.size.symm)) (Nat.le_of_eq W19.size.symm)) (Nat.le_of_eq W20.size.symm)) (Nat.le_of_eq W21.size.symm)) (Nat.le_of_eq W22.size.symm)) (Nat.le_of_eq W23.size.symm)) (Nat.le_of_eq W24.size.symm)) (Nat.le_of_eq W25.size.symm)) (Nat.le_of_eq W26.size.symm)) (Nat.le_of_eq W27.size.symm)) (Nat.le_of_eq W46.size.symm)) (Nat.le_of_eq W47.size.symm)) (Nat.le_of_eq W48.size.symm)) E49.1) K50.1) K51.1) (by decide) (fun _ => qr0) Ar51) (W := 0) (pc := 480) (Ls := #[iv i0, iv i1, iv i2, iv i3, iv 2, iv p1, iv y0, iv y1, iv y2, iv y3, iv y4, iv 3, rv b1, rv b16, rv ra51]) (argsL := [(.ref ra51), (.int 0), (.int y0)]) (rest := []) (st0 := [(.int y0), (.int 0), (.ref ra51)]) (by rw [hml]; rfl) (lenOf own_pd17 rfl) rfl (Nat.le_of_eq rfl) (hb hby at_480) (by decide) (by decide) (by decide) (by decide) ?_
    intro v52 T52 L52 X52 hQ52
    obtain ⟨rfl, Nq52, hh52⟩ := hQ52
    have N52 := Fr.app N51 Nq52
    show own_Ends p e below s _ _ _ (own_F T52 m 483 #[iv i0, iv i1, iv i2, iv i3, iv 2, iv p1, iv y0, iv y1, iv y2, iv y3, iv y4, iv 3, rv b1, rv b16, rv ra51] [(.int 1)])
    refine own_g (own_F T52 m 486 #[iv i0, iv i1, iv i2, iv i3, iv 2, iv p1, iv y0, iv y1, iv y2, iv y3, iv y4, iv 3, rv b1, rv b16, rv ra51] []) (fun _ z_ => XS.ifNo X52.here hx rfl (hb hby at_483) rfl ((if0 _ _).trans (feq (by decide : ¬ ((1 : Int32) = (0 : Int32)))).1) z_) ?_
    refine own_g (own_F T52 m 488 #[iv i0, iv i1, iv i2, iv i3, iv 2, iv p1, iv y0, iv y1, iv y2, iv y3, iv y4, iv 3, rv b1, rv b16, rv ra51] [(.ref ra51)]) (fun _ z_ => XS.aload X52.here hx rfl (hb hby at_486) rfl rfl z_) ?_
    refine own_g (own_F T52 m 489 #[iv i0, iv i1, iv i2, iv i3, iv 2, iv p1, iv y0, iv y1, iv y2, iv y3, iv y4, iv 3, rv b1, rv b16, rv ra51] [(.int 1), (.ref ra51)]) (fun _ z_ => XS.iconst X52.here hx rfl (hb hby at_488) z_) ?_
    refine own_g (own_F T52 m 491 #[iv i0, iv i1, iv i2, iv i3, iv 2, iv p1, iv y0, iv y1, iv y2, iv y3, iv y4, iv 3, rv b1, rv b16, rv ra51] [(.int y1), (.int 1), (.ref ra51)]) (fun _ z_ => XS.iload X52.here hx rfl (hb hby at_489) rfl z_) ?_
    refine own_callS (y := (⟨"com/example/claimgate/claimgate/jose/Base64UrlDecodePinLaw", "at", "([BII)Z"⟩ : MethodName)) X52 hx hZ hown (own_w hw 38) (own_w hw 39) (own_w hw 3) (own_w hw 40) (by decide) hh52 (hM := own_at l Z a0 hw [] ra51 2 1 (1 : Int32) y1 gr51 T51.heap n0 (Nat.le_trans (Nat.le_trans (Nat.le_trans (Nat.le_trans (Nat.le_trans (Nat.le_trans (Nat.le_trans (Nat.le_trans (Nat.le_trans (Nat.le_trans (Nat.le_trans (Nat.le_trans (Nat.le_trans (Nat.le_trans (Nat.le_trans (Nat.le_trans (Nat.le_trans (Nat.le_trans (Nat.le_trans (Nat.le_trans (Nat.le_trans (Nat.le_trans (Nat.le_trans (Nat.le_trans (Nat.le_trans (Nat.le_trans Z0 E1.1) (Nat.le_of_eq W3.size.symm)) (Nat.le_of_eq W5.size.symm)) (Nat.le_of_eq W7.size.symm)) (Nat.le_of_eq W9.size.symm)) (Nat.le_of_eq W11.size.symm)) (Nat.le_of_eq W13.size.symm)) (Nat.le_of_eq W15.size.symm)) E16.1) (Nat.le_of_eq W17.size.symm)) (Nat.le_of_eq W18.size.symm)) (Nat.le_of_eq W19.size.symm)) (Nat.le_of_eq W20.size.symm)) (Nat.le_of_eq W21.size.symm)) (Nat.le_of_eq W22.size.symm)) (Nat.le_of_eq W23.size.symm)) (Nat.le_of_eq W24.size.symm)) (Nat.le_of_eq W25.size.symm)) (Nat.le_of_eq W26.size.symm)) (Nat.le_of_eq W27.size.symm)) (Nat.le_of_eq W46.size.symm)) (Nat.le_of_eq W47.size.symm)) (Nat.le_of_eq W48.size.symm)) E49.1) K50.1) K51.1) (by decide) (fun _ => qr1) Ar51) (W := 0) (pc := 491) (Ls := #[iv i0, iv i1, iv i2, iv i3, iv 2, iv p1, iv y0, iv y1, iv y2, iv y3, iv y4, iv 3, rv b1, rv b16, rv ra51]) (argsL := [(.ref ra51), (.int 1), (.int y1)]) (rest := []) (st0 := [(.int y1), (.int 1), (.ref ra51)]) (by rw [hml]; rfl) (lenOf own_pd17 rfl) rfl (Nat.le_of_eq rfl) (hb hby at_491) (by decide) (by decide) (by decide) (by decide) ?_
    intro v53 T53 L53 X53 hQ53
    obtain ⟨rfl, Nq53, hh53⟩ := hQ53
    have N53 := Fr.app N52 Nq53
    show own_Ends p e below s _ _ _ (own_F T53 m 494 #[iv i0, iv i1, iv i2, iv i3, iv 2, iv p1, iv y0, iv y1, iv y2, iv y3, iv y4, iv 3, rv b1, rv b16, rv ra51] [(.int 1)])
    refine own_g (own_F T53 m 497 #[iv i0, iv i1, iv i2, iv i3, iv 2, iv p1, iv y0, iv y1, iv y2, iv y3, iv y4, iv 3, rv b1, rv b16, rv ra51] []) (fun _ z_ => XS.ifNo X53.here hx rfl (hb hby at_494) rfl ((if0 _ _).trans (feq (by decide : ¬ ((1 : Int32) = (0 : Int32)))).1) z_) ?_
    refine own_g (own_F T53 m 499 #[iv i0, iv i1, iv i2, iv i3, iv 2, iv p1, iv y0, iv y1, iv y2, iv y3, iv y4, iv 3, rv b1, rv b16, rv ra51] [(.ref ra51)]) (fun _ z_ => XS.aload X53.here hx rfl (hb hby at_497) rfl rfl z_) ?_
    refine own_g (own_F T53 m 500 #[iv i0, iv i1, iv i2, iv i3, iv 2, iv p1, iv y0, iv y1, iv y2, iv y3, iv y4, iv 3, rv b1, rv b16, rv ra51] [(.int 2), (.ref ra51)]) (fun _ z_ => XS.iconst X53.here hx rfl (hb hby at_499) z_) ?_
    refine own_g (own_F T53 m 502 #[iv i0, iv i1, iv i2, iv i3, iv 2, iv p1, iv y0, iv y1, iv y2, iv y3, iv y4, iv 3, rv b1, rv b16, rv ra51] [(.int y2), (.int 2), (.ref ra51)]) (fun _ z_ => XS.iload X53.here hx rfl (hb hby at_500) rfl z_) ?_
    refine own_callS (y := (⟨"com/example/claimgate/claimgate/jose/Base64UrlDecodePinLaw", "at", "([BII)Z"⟩ : MethodName)) X53 hx hZ hown (own_w hw 38) (own_w hw 39) (own_w hw 3) (own_w hw 40) (by decide) hh53 (hM := own_at l Z a0 hw [] ra51 2 2 (2 : Int32) y2 gr51 T51.heap n0 (Nat.le_trans (Nat.le_trans (Nat.le_trans (Nat.le_trans (Nat.le_trans (Nat.le_trans (Nat.le_trans (Nat.le_trans (Nat.le_trans (Nat.le_trans (Nat.le_trans (Nat.le_trans (Nat.le_trans (Nat.le_trans (Nat.le_trans (Nat.le_trans (Nat.le_trans (Nat.le_trans (Nat.le_trans (Nat.le_trans (Nat.le_trans (Nat.le_trans (Nat.le_trans (Nat.le_trans (Nat.le_trans (Nat.le_trans Z0 E1.1) (Nat.le_of_eq W3.size.symm)) (Nat.le_of_eq W5.size.symm)) (Nat.le_of_eq W7.size.symm)) (Nat.le_of_eq W9.size.symm)) (Nat.le_of_eq W11.size.symm)) (Nat.le_of_eq W13.size.symm)) (Nat.le_of_eq W15.size.symm)) E16.1) (Nat.le_of_eq W17.size.symm)) (Nat.le_of_eq W18.size.symm)) (Nat.le_of_eq W19.size.symm)) (Nat.le_of_eq W20.size.symm)) (Nat.le_of_eq W21.size.symm)) (Nat.le_of_eq W22.size.symm)) (Nat.le_of_eq W23.size.symm)) (Nat.le_of_eq W24.size.symm)) (Nat.le_of_eq W25.size.symm)) (Nat.le_of_eq W26.size.symm)) (Nat.le_of_eq W27.size.symm)) (Nat.le_of_eq W46.size.symm)) (Nat.le_of_eq W47.size.symm)) (Nat.le_of_eq W48.size.symm)) E49.1) K50.1) K51.1) (by decide) (fun q => absurd q (by decide)) Ar51) (W := 0) (pc := 502) (Ls := #[iv i0, iv i1, iv i2, iv i3, iv 2, iv p1, iv y0, iv y1, iv y2, iv y3, iv y4, iv 3, rv b1, rv b16, rv ra51]) (argsL := [(.ref ra51), (.int 2), (.int y2)]) (rest := []) (st0 := [(.int y2), (.int 2), (.ref ra51)]) (by rw [hml]; rfl) (lenOf own_pd17 rfl) rfl (Nat.le_of_eq rfl) (hb hby at_502) (by decide) (by decide) (by decide) (by decide) ?_
    intro v54 T54 L54 X54 hQ54
    obtain ⟨rfl, Nq54, hh54⟩ := hQ54
    have N54 := Fr.app N53 Nq54
    show own_Ends p e below s _ _ _ (own_F T54 m 505 #[iv i0, iv i1, iv i2, iv i3, iv 2, iv p1, iv y0, iv y1, iv y2, iv y3, iv y4, iv 3, rv b1, rv b16, rv ra51] [(.int 1)])
    refine own_g (own_F T54 m 508 #[iv i0, iv i1, iv i2, iv i3, iv 2, iv p1, iv y0, iv y1, iv y2, iv y3, iv y4, iv 3, rv b1, rv b16, rv ra51] []) (fun _ z_ => XS.ifNo X54.here hx rfl (hb hby at_505) rfl ((if0 _ _).trans (feq (by decide : ¬ ((1 : Int32) = (0 : Int32)))).1) z_) ?_
    refine own_g (own_F T54 m 510 #[iv i0, iv i1, iv i2, iv i3, iv 2, iv p1, iv y0, iv y1, iv y2, iv y3, iv y4, iv 3, rv b1, rv b16, rv ra51] [(.ref ra51)]) (fun _ z_ => XS.aload X54.here hx rfl (hb hby at_508) rfl rfl z_) ?_
    refine own_g (own_F T54 m 511 #[iv i0, iv i1, iv i2, iv i3, iv 2, iv p1, iv y0, iv y1, iv y2, iv y3, iv y4, iv 3, rv b1, rv b16, rv ra51] [(.int 3), (.ref ra51)]) (fun _ z_ => XS.iconst X54.here hx rfl (hb hby at_510) z_) ?_
    refine own_g (own_F T54 m 513 #[iv i0, iv i1, iv i2, iv i3, iv 2, iv p1, iv y0, iv y1, iv y2, iv y3, iv y4, iv 3, rv b1, rv b16, rv ra51] [(.int y3), (.int 3), (.ref ra51)]) (fun _ z_ => XS.iload X54.here hx rfl (hb hby at_511) rfl z_) ?_
    refine own_callS (y := (⟨"com/example/claimgate/claimgate/jose/Base64UrlDecodePinLaw", "at", "([BII)Z"⟩ : MethodName)) X54 hx hZ hown (own_w hw 38) (own_w hw 39) (own_w hw 3) (own_w hw 40) (by decide) hh54 (hM := own_at l Z a0 hw [] ra51 2 3 (3 : Int32) y3 gr51 T51.heap n0 (Nat.le_trans (Nat.le_trans (Nat.le_trans (Nat.le_trans (Nat.le_trans (Nat.le_trans (Nat.le_trans (Nat.le_trans (Nat.le_trans (Nat.le_trans (Nat.le_trans (Nat.le_trans (Nat.le_trans (Nat.le_trans (Nat.le_trans (Nat.le_trans (Nat.le_trans (Nat.le_trans (Nat.le_trans (Nat.le_trans (Nat.le_trans (Nat.le_trans (Nat.le_trans (Nat.le_trans (Nat.le_trans (Nat.le_trans Z0 E1.1) (Nat.le_of_eq W3.size.symm)) (Nat.le_of_eq W5.size.symm)) (Nat.le_of_eq W7.size.symm)) (Nat.le_of_eq W9.size.symm)) (Nat.le_of_eq W11.size.symm)) (Nat.le_of_eq W13.size.symm)) (Nat.le_of_eq W15.size.symm)) E16.1) (Nat.le_of_eq W17.size.symm)) (Nat.le_of_eq W18.size.symm)) (Nat.le_of_eq W19.size.symm)) (Nat.le_of_eq W20.size.symm)) (Nat.le_of_eq W21.size.symm)) (Nat.le_of_eq W22.size.symm)) (Nat.le_of_eq W23.size.symm)) (Nat.le_of_eq W24.size.symm)) (Nat.le_of_eq W25.size.symm)) (Nat.le_of_eq W26.size.symm)) (Nat.le_of_eq W27.size.symm)) (Nat.le_of_eq W46.size.symm)) (Nat.le_of_eq W47.size.symm)) (Nat.le_of_eq W48.size.symm)) E49.1) K50.1) K51.1) (by decide) (fun q => absurd q (by decide)) Ar51) (W := 0) (pc := 513) (Ls := #[iv i0, iv i1, iv i2, iv i3, iv 2, iv p1, iv y0, iv y1, iv y2, iv y3, iv y4, iv 3, rv b1, rv b16, rv ra51]) (argsL := [(.ref ra51), (.int 3), (.int y3)]) (rest := []) (st0 := [(.int y3), (.int 3), (.ref ra51)]) (by rw [hml]; rfl) (lenOf own_pd17 rfl) rfl (Nat.le_of_eq rfl) (hb hby at_513) (by decide) (by decide) (by decide) (by decide) ?_
    intro v55 T55 L55 X55 hQ55
    obtain ⟨rfl, Nq55, hh55⟩ := hQ55
    have N55 := Fr.app N54 Nq55
    show own_Ends p e below s _ _ _ (own_F T55 m 516 #[iv i0, iv i1, iv i2, iv i3, iv 2, iv p1, iv y0, iv y1, iv y2, iv y3, iv y4, iv 3, rv b1, rv b16, rv ra51] [(.int 1)])
    refine own_g (own_F T55 m 519 #[iv i0, iv i1, iv i2, iv i3, iv 2, iv p1, iv y0, iv y1, iv y2, iv y3, iv y4, iv 3, rv b1, rv b16, rv ra51] []) (fun _ z_ => XS.ifNo X55.here hx rfl (hb hby at_516) rfl ((if0 _ _).trans (feq (by decide : ¬ ((1 : Int32) = (0 : Int32)))).1) z_) ?_
    refine own_g (own_F T55 m 521 #[iv i0, iv i1, iv i2, iv i3, iv 2, iv p1, iv y0, iv y1, iv y2, iv y3, iv y4, iv 3, rv b1, rv b16, rv ra51] [(.ref ra51)]) (fun _ z_ => XS.aload X55.here hx rfl (hb hby at_519) rfl rfl z_) ?_
    refine own_g (own_F T55 m 522 #[iv i0, iv i1, iv i2, iv i3, iv 2, iv p1, iv y0, iv y1, iv y2, iv y3, iv y4, iv 3, rv b1, rv b16, rv ra51] [(.int 4), (.ref ra51)]) (fun _ z_ => XS.iconst X55.here hx rfl (hb hby at_521) z_) ?_
    refine own_g (own_F T55 m 524 #[iv i0, iv i1, iv i2, iv i3, iv 2, iv p1, iv y0, iv y1, iv y2, iv y3, iv y4, iv 3, rv b1, rv b16, rv ra51] [(.int y4), (.int 4), (.ref ra51)]) (fun _ z_ => XS.iload X55.here hx rfl (hb hby at_522) rfl z_) ?_
    refine own_callS (y := (⟨"com/example/claimgate/claimgate/jose/Base64UrlDecodePinLaw", "at", "([BII)Z"⟩ : MethodName)) X55 hx hZ hown (own_w hw 38) (own_w hw 39) (own_w hw 3) (own_w hw 40) (by decide) hh55 (hM := own_at l Z a0 hw [] ra51 2 4 (4 : Int32) y4 gr51 T51.heap n0 (Nat.le_trans (Nat.le_trans (Nat.le_trans (Nat.le_trans (Nat.le_trans (Nat.le_trans (Nat.le_trans (Nat.le_trans (Nat.le_trans (Nat.le_trans (Nat.le_trans (Nat.le_trans (Nat.le_trans (Nat.le_trans (Nat.le_trans (Nat.le_trans (Nat.le_trans (Nat.le_trans (Nat.le_trans (Nat.le_trans (Nat.le_trans (Nat.le_trans (Nat.le_trans (Nat.le_trans (Nat.le_trans (Nat.le_trans Z0 E1.1) (Nat.le_of_eq W3.size.symm)) (Nat.le_of_eq W5.size.symm)) (Nat.le_of_eq W7.size.symm)) (Nat.le_of_eq W9.size.symm)) (Nat.le_of_eq W11.size.symm)) (Nat.le_of_eq W13.size.symm)) (Nat.le_of_eq W15.size.symm)) E16.1) (Nat.le_of_eq W17.size.symm)) (Nat.le_of_eq W18.size.symm)) (Nat.le_of_eq W19.size.symm)) (Nat.le_of_eq W20.size.symm)) (Nat.le_of_eq W21.size.symm)) (Nat.le_of_eq W22.size.symm)) (Nat.le_of_eq W23.size.symm)) (Nat.le_of_eq W24.size.symm)) (Nat.le_of_eq W25.size.symm)) (Nat.le_of_eq W26.size.symm)) (Nat.le_of_eq W27.size.symm)) (Nat.le_of_eq W46.size.symm)) (Nat.le_of_eq W47.size.symm)) (Nat.le_of_eq W48.size.symm)) E49.1) K50.1) K51.1) (by decide) (fun q => absurd q (by decide)) Ar51) (W := 0) (pc := 524) (Ls := #[iv i0, iv i1, iv i2, iv i3, iv 2, iv p1, iv y0, iv y1, iv y2, iv y3, iv y4, iv 3, rv b1, rv b16, rv ra51]) (argsL := [(.ref ra51), (.int 4), (.int y4)]) (rest := []) (st0 := [(.int y4), (.int 4), (.ref ra51)]) (by rw [hml]; rfl) (lenOf own_pd17 rfl) rfl (Nat.le_of_eq rfl) (hb hby at_524) (by decide) (by decide) (by decide) (by decide) ?_
    intro v56 T56 L56 X56 hQ56
    obtain ⟨rfl, Nq56, hh56⟩ := hQ56
    have N56 := Fr.app N55 Nq56
    show own_Ends p e below s _ _ _ (own_F T56 m 527 #[iv i0, iv i1, iv i2, iv i3, iv 2, iv p1, iv y0, iv y1, iv y2, iv y3, iv y4, iv 3, rv b1, rv b16, rv ra51] [(.int 1)])
    refine own_g (own_F T56 m 530 #[iv i0, iv i1, iv i2, iv i3, iv 2, iv p1, iv y0, iv y1, iv y2, iv y3, iv y4, iv 3, rv b1, rv b16, rv ra51] []) (fun _ z_ => XS.ifNo X56.here hx rfl (hb hby at_527) rfl ((if0 _ _).trans (feq (by decide : ¬ ((1 : Int32) = (0 : Int32)))).1) z_) ?_
    refine own_g (own_F T56 m 531 #[iv i0, iv i1, iv i2, iv i3, iv 2, iv p1, iv y0, iv y1, iv y2, iv y3, iv y4, iv 3, rv b1, rv b16, rv ra51] [(.int 1)]) (fun _ z_ => XS.iconst X56.here hx rfl (hb hby at_530) z_) ?_
    refine own_g (own_F T56 m 535 #[iv i0, iv i1, iv i2, iv i3, iv 2, iv p1, iv y0, iv y1, iv y2, iv y3, iv y4, iv 3, rv b1, rv b16, rv ra51] [(.int 1)]) (fun _ z_ => XS.goto X56.here hx rfl (pc0 := 531) (pc' := 535) rfl (hb hby at_531) (by decide) (by decide) z_) ?_
    refine own_ret (t := .boolean) X56 hx hlk hrt rfl (Or.inl ⟨rfl, by simp, _, rfl⟩) (hb hby at_535) (by decide) (by decide) ?_
    exact ⟨rfl, N56⟩
   ·
    show own_Ends p e below s _ _ _ (own_F T27 m 327 #[iv i0, iv i1, iv i2, iv i3, iv 3, iv p1, iv y0, iv y1, iv y2, iv y3, iv y4, iv 4, rv b1, rv b16, .unset] [])
    refine own_g (own_F T27 m 329 #[iv i0, iv i1, iv i2, iv i3, iv 3, iv p1, iv y0, iv y1, iv y2, iv y3, iv y4, iv 4, rv b1, rv b16, .unset] [(.int 4)]) (fun _ z_ => XS.iload X27.here hx rfl (hb hby at_327) rfl z_) ?_
    refine own_g (own_F T27 m 332 #[iv i0, iv i1, iv i2, iv i3, iv 3, iv p1, iv y0, iv y1, iv y2, iv y3, iv y4, iv 4, rv b1, rv b16, .unset] []) (fun _ z_ => XS.ifNo X27.here hx rfl (hb hby at_329) rfl ((if0 _ _).trans (tlt (by decide : ((0 : Int32) < (4 : Int32)))).2.2.2) z_) ?_
    refine own_g (own_F T27 m 334 #[iv i0, iv i1, iv i2, iv i3, iv 3, iv p1, iv y0, iv y1, iv y2, iv y3, iv y4, iv 4, rv b1, rv b16, .unset] [(.ref b16)]) (fun _ z_ => XS.aload X27.here hx rfl (hb hby at_332) rfl rfl z_) ?_
    refine own_g (own_F T27 m 336 #[iv i0, iv i1, iv i2, iv i3, iv 3, iv p1, iv y0, iv y1, iv y2, iv y3, iv y4, iv 4, rv b1, rv b16, .unset] [(.int p1), (.ref b16)]) (fun _ z_ => XS.iload X27.here hx rfl (hb hby at_334) rfl z_) ?_
    refine own_g (own_F T27 m 338 #[iv i0, iv i1, iv i2, iv i3, iv 3, iv p1, iv y0, iv y1, iv y2, iv y3, iv y4, iv 4, rv b1, rv b16, .unset] [(.ref b1), (.int p1), (.ref b16)]) (fun _ z_ => XS.aload X27.here hx rfl (hb hby at_336) rfl rfl z_) ?_
    refine own_g (own_F T27 m 339 #[iv i0, iv i1, iv i2, iv i3, iv 3, iv p1, iv y0, iv y1, iv y2, iv y3, iv y4, iv 4, rv b1, rv b16, .unset] [(.int 0), (.ref b1), (.int p1), (.ref b16)]) (fun _ z_ => XS.iconst X27.here hx rfl (hb hby at_338) z_) ?_
    refine own_cald X27 hx hZ e27 ((((((((((((A15.ext E16).other W17 ne_b1_b16).other W18 ne_b1_b16).other W19 ne_b1_b16).other W20 ne_b1_b16).other W21 ne_b1_b16).other W22 ne_b1_b16).other W23 ne_b1_b16).other W24 ne_b1_b16).other W25 ne_b1_b16).other W26 ne_b1_b16).other W27 ne_b1_b16) 0 rfl (by decide) (hb hby at_339) ?_
    show own_Ends p e below s _ _ _ (own_F T27 m 340 #[iv i0, iv i1, iv i2, iv i3, iv 3, iv p1, iv y0, iv y1, iv y2, iv y3, iv y4, iv 4, rv b1, rv b16, .unset] [(.int (g15 0)), (.int p1), (.ref b16)])
    rw [q15_0]
    refine own_cast X27 hx hZ e27 A27 (P + 0) hp (own_pl hP 0) c0_ (own_narC (own_sym_rng hs0).1) (hb hby at_340) ?_
    intro T57 h57 X57 e57 W57 A57
    have N57 := Fr.snoc X57 N27 ge_b16
    obtain ⟨g57, hg57⟩ : ∃ gq_ : Nat → Int32, gq_ = fun q_ => if q_ = (P + 0) then c0_ else g27 q_ := ⟨_, rfl⟩
    have A57 : own_A Z h57 b16 .char 11 (fun q_ => .int (g57 q_)) := by rw [hg57]; exact A57
    show own_Ends p e below s _ _ _ (own_F T57 m 341 #[iv i0, iv i1, iv i2, iv i3, iv 3, iv p1, iv y0, iv y1, iv y2, iv y3, iv y4, iv 4, rv b1, rv b16, .unset] [])
    have rg57 := own_rngs hg57 rg27 (own_sym_rng hs0).1
    refine own_g (own_F T57 m 343 #[iv i0, iv i1, iv i2, iv i3, iv 3, iv p1, iv y0, iv y1, iv y2, iv y3, iv y4, iv 4, rv b1, rv b16, .unset] [(.int 4)]) (fun _ z_ => XS.iload X57.here hx rfl (hb hby at_341) rfl z_) ?_
    refine own_g (own_F T57 m 344 #[iv i0, iv i1, iv i2, iv i3, iv 3, iv p1, iv y0, iv y1, iv y2, iv y3, iv y4, iv 4, rv b1, rv b16, .unset] [(.int 1), (.int 4)]) (fun _ z_ => XS.iconst X57.here hx rfl (hb hby at_343) z_) ?_
    refine own_g (own_F T57 m 347 #[iv i0, iv i1, iv i2, iv i3, iv 3, iv p1, iv y0, iv y1, iv y2, iv y3, iv y4, iv 4, rv b1, rv b16, .unset] []) (fun _ z_ => XS.icmpNo X57.here hx rfl (hb hby at_344) rfl (tlt (by decide : ((1 : Int32) < (4 : Int32)))).2.2.2 z_) ?_
    refine own_g (own_F T57 m 349 #[iv i0, iv i1, iv i2, iv i3, iv 3, iv p1, iv y0, iv y1, iv y2, iv y3, iv y4, iv 4, rv b1, rv b16, .unset] [(.ref b16)]) (fun _ z_ => XS.aload X57.here hx rfl (hb hby at_347) rfl rfl z_) ?_
    refine own_g (own_F T57 m 351 #[iv i0, iv i1, iv i2, iv i3, iv 3, iv p1, iv y0, iv y1, iv y2, iv y3, iv y4, iv 4, rv b1, rv b16, .unset] [(.int p1), (.ref b16)]) (fun _ z_ => XS.iload X57.here hx rfl (hb hby at_349) rfl z_) ?_
    refine own_g (own_F T57 m 352 #[iv i0, iv i1, iv i2, iv i3, iv 3, iv p1, iv y0, iv y1, iv y2, iv y3, iv y4, iv 4, rv b1, rv b16, .unset] [(.int 1), (.int p1), (.ref b16)]) (fun _ z_ => XS.iconst X57.here hx rfl (hb hby at_351) z_) ?_
    refine own_g (own_F T57 m 353 #[iv i0, iv i1, iv i2, iv i3, iv 3, iv p1, iv y0, iv y1, iv y2, iv y3, iv y4, iv 4, rv b1, rv b16, .unset] [(.int (p1 + (1 : Int32))), (.ref b16)]) (fun _ z_ => XS.iadd X57.here hx rfl (hb hby at_352) rfl z_) ?_
    refine own_g (own_F T57 m 355 #[iv i0, iv i1, iv i2, iv i3, iv 3, iv p1, iv y0, iv y1, iv y2, iv y3, iv y4, iv 4, rv b1, rv b16, .unset] [(.ref b1), (.int (p1 + (1 : Int32))), (.ref b16)]) (fun _ z_ => XS.aload X57.here hx rfl (hb hby at_353) rfl rfl z_) ?_
    refine own_g (own_F T57 m 356 #[iv i0, iv i1, iv i2, iv i3, iv 3, iv p1, iv y0, iv y1, iv y2, iv y3, iv y4, iv 4, rv b1, rv b16, .unset] [(.int 1), (.ref b1), (.int (p1 + (1 : Int32))), (.ref b16)]) (fun _ z_ => XS.iconst X57.here hx rfl (hb hby at_355) z_) ?_
    refine own_cald X57 hx hZ e57 (((((((((((((A15.ext E16).other W17 ne_b1_b16).other W18 ne_b1_b16).other W19 ne_b1_b16).other W20 ne_b1_b16).other W21 ne_b1_b16).other W22 ne_b1_b16).other W23 ne_b1_b16).other W24 ne_b1_b16).other W25 ne_b1_b16).other W26 ne_b1_b16).other W27 ne_b1_b16).other W57 ne_b1_b16) 1 rfl (by decide) (hb hby at_356) ?_
    show own_Ends p e below s _ _ _ (own_F T57 m 357 #[iv i0, iv i1, iv i2, iv i3, iv 3, iv p1, iv y0, iv y1, iv y2, iv y3, iv y4, iv 4, rv b1, rv b16, .unset] [(.int (g15 1)), (.int (p1 + (1 : Int32))), (.ref b16)])
    rw [q15_1]
    refine own_cast X57 hx hZ e57 A57 (P + 1) (own_padd hp hP (1 : Int32) 1 (by decide) (by decide)) (own_pl hP 1) c1_ (own_narC (own_sym_rng hs1).1) (hb hby at_357) ?_
    intro T58 h58 X58 e58 W58 A58
    have N58 := Fr.snoc X58 N57 ge_b16
    obtain ⟨g58, hg58⟩ : ∃ gq_ : Nat → Int32, gq_ = fun q_ => if q_ = (P + 1) then c1_ else g57 q_ := ⟨_, rfl⟩
    have A58 : own_A Z h58 b16 .char 11 (fun q_ => .int (g58 q_)) := by rw [hg58]; exact A58
    show own_Ends p e below s _ _ _ (own_F T58 m 358 #[iv i0, iv i1, iv i2, iv i3, iv 3, iv p1, iv y0, iv y1, iv y2, iv y3, iv y4, iv 4, rv b1, rv b16, .unset] [])
    have rg58 := own_rngs hg58 rg57 (own_sym_rng hs1).1
    refine own_g (own_F T58 m 360 #[iv i0, iv i1, iv i2, iv i3, iv 3, iv p1, iv y0, iv y1, iv y2, iv y3, iv y4, iv 4, rv b1, rv b16, .unset] [(.int 4)]) (fun _ z_ => XS.iload X58.here hx rfl (hb hby at_358) rfl z_) ?_
    refine own_g (own_F T58 m 361 #[iv i0, iv i1, iv i2, iv i3, iv 3, iv p1, iv y0, iv y1, iv y2, iv y3, iv y4, iv 4, rv b1, rv b16, .unset] [(.int 2), (.int 4)]) (fun _ z_ => XS.iconst X58.here hx rfl (hb hby at_360) z_) ?_
    refine own_g (own_F T58 m 364 #[iv i0, iv i1, iv i2, iv i3, iv 3, iv p1, iv y0, iv y1, iv y2, iv y3, iv y4, iv 4, rv b1, rv b16, .unset] []) (fun _ z_ => XS.icmpNo X58.here hx rfl (hb hby at_361) rfl (tlt (by decide : ((2 : Int32) < (4 : Int32)))).2.2.2 z_) ?_
    refine own_g (own_F T58 m 366 #[iv i0, iv i1, iv i2, iv i3, iv 3, iv p1, iv y0, iv y1, iv y2, iv y3, iv y4, iv 4, rv b1, rv b16, .unset] [(.ref b16)]) (fun _ z_ => XS.aload X58.here hx rfl (hb hby at_364) rfl rfl z_) ?_
    refine own_g (own_F T58 m 368 #[iv i0, iv i1, iv i2, iv i3, iv 3, iv p1, iv y0, iv y1, iv y2, iv y3, iv y4, iv 4, rv b1, rv b16, .unset] [(.int p1), (.ref b16)]) (fun _ z_ => XS.iload X58.here hx rfl (hb hby at_366) rfl z_) ?_
    refine own_g (own_F T58 m 369 #[iv i0, iv i1, iv i2, iv i3, iv 3, iv p1, iv y0, iv y1, iv y2, iv y3, iv y4, iv 4, rv b1, rv b16, .unset] [(.int 2), (.int p1), (.ref b16)]) (fun _ z_ => XS.iconst X58.here hx rfl (hb hby at_368) z_) ?_
    refine own_g (own_F T58 m 370 #[iv i0, iv i1, iv i2, iv i3, iv 3, iv p1, iv y0, iv y1, iv y2, iv y3, iv y4, iv 4, rv b1, rv b16, .unset] [(.int (p1 + (2 : Int32))), (.ref b16)]) (fun _ z_ => XS.iadd X58.here hx rfl (hb hby at_369) rfl z_) ?_
    refine own_g (own_F T58 m 372 #[iv i0, iv i1, iv i2, iv i3, iv 3, iv p1, iv y0, iv y1, iv y2, iv y3, iv y4, iv 4, rv b1, rv b16, .unset] [(.ref b1), (.int (p1 + (2 : Int32))), (.ref b16)]) (fun _ z_ => XS.aload X58.here hx rfl (hb hby at_370) rfl rfl z_) ?_
    refine own_g (own_F T58 m 373 #[iv i0, iv i1, iv i2, iv i3, iv 3, iv p1, iv y0, iv y1, iv y2, iv y3, iv y4, iv 4, rv b1, rv b16, .unset] [(.int 2), (.ref b1), (.int (p1 + (2 : Int32))), (.ref b16)]) (fun _ z_ => XS.iconst X58.here hx rfl (hb hby at_372) z_) ?_
    refine own_cald X58 hx hZ e58 ((((((((((((((A15.ext E16).other W17 ne_b1_b16).other W18 ne_b1_b16).other W19 ne_b1_b16).other W20 ne_b1_b16).other W21 ne_b1_b16).other W22 ne_b1_b16).other W23 ne_b1_b16).other W24 ne_b1_b16).other W25 ne_b1_b16).other W26 ne_b1_b16).other W27 ne_b1_b16).other W57 ne_b1_b16).other W58 ne_b1_b16) 2 rfl (by decide) (hb hby at_373) ?_
    show own_Ends p e below s _ _ _ (own_F T58 m 374 #[iv i0, iv i1, iv i2, iv i3, iv 3, iv p1, iv y0, iv y1, iv y2, iv y3, iv y4, iv 4, rv b1, rv b16, .unset] [(.int (g15 2)), (.int (p1 + (2 : Int32))), (.ref b16)])
    rw [q15_2]
    refine own_cast X58 hx hZ e58 A58 (P + 2) (own_padd hp hP (2 : Int32) 2 (by decide) (by decide)) (own_pl hP 2) c2_ (own_narC (own_sym_rng hs2).1) (hb hby at_374) ?_
    intro T59 h59 X59 e59 W59 A59
    have N59 := Fr.snoc X59 N58 ge_b16
    obtain ⟨g59, hg59⟩ : ∃ gq_ : Nat → Int32, gq_ = fun q_ => if q_ = (P + 2) then c2_ else g58 q_ := ⟨_, rfl⟩
    have A59 : own_A Z h59 b16 .char 11 (fun q_ => .int (g59 q_)) := by rw [hg59]; exact A59
    show own_Ends p e below s _ _ _ (own_F T59 m 375 #[iv i0, iv i1, iv i2, iv i3, iv 3, iv p1, iv y0, iv y1, iv y2, iv y3, iv y4, iv 4, rv b1, rv b16, .unset] [])
    have rg59 := own_rngs hg59 rg58 (own_sym_rng hs2).1
    refine own_g (own_F T59 m 377 #[iv i0, iv i1, iv i2, iv i3, iv 3, iv p1, iv y0, iv y1, iv y2, iv y3, iv y4, iv 4, rv b1, rv b16, .unset] [(.int 4)]) (fun _ z_ => XS.iload X59.here hx rfl (hb hby at_375) rfl z_) ?_
    refine own_g (own_F T59 m 378 #[iv i0, iv i1, iv i2, iv i3, iv 3, iv p1, iv y0, iv y1, iv y2, iv y3, iv y4, iv 4, rv b1, rv b16, .unset] [(.int 3), (.int 4)]) (fun _ z_ => XS.iconst X59.here hx rfl (hb hby at_377) z_) ?_
    refine own_g (own_F T59 m 381 #[iv i0, iv i1, iv i2, iv i3, iv 3, iv p1, iv y0, iv y1, iv y2, iv y3, iv y4, iv 4, rv b1, rv b16, .unset] []) (fun _ z_ => XS.icmpNo X59.here hx rfl (hb hby at_378) rfl (tlt (by decide : ((3 : Int32) < (4 : Int32)))).2.2.2 z_) ?_
    refine own_g (own_F T59 m 383 #[iv i0, iv i1, iv i2, iv i3, iv 3, iv p1, iv y0, iv y1, iv y2, iv y3, iv y4, iv 4, rv b1, rv b16, .unset] [(.ref b16)]) (fun _ z_ => XS.aload X59.here hx rfl (hb hby at_381) rfl rfl z_) ?_
    refine own_g (own_F T59 m 385 #[iv i0, iv i1, iv i2, iv i3, iv 3, iv p1, iv y0, iv y1, iv y2, iv y3, iv y4, iv 4, rv b1, rv b16, .unset] [(.int p1), (.ref b16)]) (fun _ z_ => XS.iload X59.here hx rfl (hb hby at_383) rfl z_) ?_
    refine own_g (own_F T59 m 386 #[iv i0, iv i1, iv i2, iv i3, iv 3, iv p1, iv y0, iv y1, iv y2, iv y3, iv y4, iv 4, rv b1, rv b16, .unset] [(.int 3), (.int p1), (.ref b16)]) (fun _ z_ => XS.iconst X59.here hx rfl (hb hby at_385) z_) ?_
    refine own_g (own_F T59 m 387 #[iv i0, iv i1, iv i2, iv i3, iv 3, iv p1, iv y0, iv y1, iv y2, iv y3, iv y4, iv 4, rv b1, rv b16, .unset] [(.int (p1 + (3 : Int32))), (.ref b16)]) (fun _ z_ => XS.iadd X59.here hx rfl (hb hby at_386) rfl z_) ?_
    refine own_g (own_F T59 m 389 #[iv i0, iv i1, iv i2, iv i3, iv 3, iv p1, iv y0, iv y1, iv y2, iv y3, iv y4, iv 4, rv b1, rv b16, .unset] [(.ref b1), (.int (p1 + (3 : Int32))), (.ref b16)]) (fun _ z_ => XS.aload X59.here hx rfl (hb hby at_387) rfl rfl z_) ?_
    refine own_g (own_F T59 m 390 #[iv i0, iv i1, iv i2, iv i3, iv 3, iv p1, iv y0, iv y1, iv y2, iv y3, iv y4, iv 4, rv b1, rv b16, .unset] [(.int 3), (.ref b1), (.int (p1 + (3 : Int32))), (.ref b16)]) (fun _ z_ => XS.iconst X59.here hx rfl (hb hby at_389) z_) ?_
    refine own_cald X59 hx hZ e59 (((((((((((((((A15.ext E16).other W17 ne_b1_b16).other W18 ne_b1_b16).other W19 ne_b1_b16).other W20 ne_b1_b16).other W21 ne_b1_b16).other W22 ne_b1_b16).other W23 ne_b1_b16).other W24 ne_b1_b16).other W25 ne_b1_b16).other W26 ne_b1_b16).other W27 ne_b1_b16).other W57 ne_b1_b16).other W58 ne_b1_b16).other W59 ne_b1_b16) 3 rfl (by decide) (hb hby at_390) ?_
    show own_Ends p e below s _ _ _ (own_F T59 m 391 #[iv i0, iv i1, iv i2, iv i3, iv 3, iv p1, iv y0, iv y1, iv y2, iv y3, iv y4, iv 4, rv b1, rv b16, .unset] [(.int (g15 3)), (.int (p1 + (3 : Int32))), (.ref b16)])
    rw [q15_3]
    refine own_cast X59 hx hZ e59 A59 (P + 3) (own_padd hp hP (3 : Int32) 3 (by decide) (by decide)) (own_pl hP 3) c3_ (own_narC (own_sym_rng hs3).1) (hb hby at_391) ?_
    intro T60 h60 X60 e60 W60 A60
    have N60 := Fr.snoc X60 N59 ge_b16
    obtain ⟨g60, hg60⟩ : ∃ gq_ : Nat → Int32, gq_ = fun q_ => if q_ = (P + 3) then c3_ else g59 q_ := ⟨_, rfl⟩
    have A60 : own_A Z h60 b16 .char 11 (fun q_ => .int (g60 q_)) := by rw [hg60]; exact A60
    show own_Ends p e below s _ _ _ (own_F T60 m 392 #[iv i0, iv i1, iv i2, iv i3, iv 3, iv p1, iv y0, iv y1, iv y2, iv y3, iv y4, iv 4, rv b1, rv b16, .unset] [])
    have rg60 := own_rngs hg60 rg59 (own_sym_rng hs3).1
    refine own_g (own_F T60 m 394 #[iv i0, iv i1, iv i2, iv i3, iv 3, iv p1, iv y0, iv y1, iv y2, iv y3, iv y4, iv 4, rv b1, rv b16, .unset] [(.int 4)]) (fun _ z_ => XS.iload X60.here hx rfl (hb hby at_392) rfl z_) ?_
    refine own_g (own_F T60 m 395 #[iv i0, iv i1, iv i2, iv i3, iv 3, iv p1, iv y0, iv y1, iv y2, iv y3, iv y4, iv 4, rv b1, rv b16, .unset] [(.int 4), (.int 4)]) (fun _ z_ => XS.iconst X60.here hx rfl (hb hby at_394) z_) ?_
    refine own_g (own_F T60 m 409 #[iv i0, iv i1, iv i2, iv i3, iv 3, iv p1, iv y0, iv y1, iv y2, iv y3, iv y4, iv 4, rv b1, rv b16, .unset] []) (fun _ z_ => XS.icmpYes X60.here hx rfl (pc0 := 395) (pc' := 409) rfl (hb hby at_395) rfl (flt (by decide : ¬ ((4 : Int32) < (4 : Int32)))).2.2.2 (by decide) (by decide) z_) ?_
    refine own_g (own_F T60 m 411 #[iv i0, iv i1, iv i2, iv i3, iv 3, iv p1, iv y0, iv y1, iv y2, iv y3, iv y4, iv 4, rv b1, rv b16, .unset] [(.int 4)]) (fun _ z_ => XS.iload X60.here hx rfl (hb hby at_409) rfl z_) ?_
    refine own_g (own_F T60 m 412 #[iv i0, iv i1, iv i2, iv i3, iv 3, iv p1, iv y0, iv y1, iv y2, iv y3, iv y4, iv 4, rv b1, rv b16, .unset] [(.int 5), (.int 4)]) (fun _ z_ => XS.iconst X60.here hx rfl (hb hby at_411) z_) ?_
    refine own_g (own_F T60 m 426 #[iv i0, iv i1, iv i2, iv i3, iv 3, iv p1, iv y0, iv y1, iv y2, iv y3, iv y4, iv 4, rv b1, rv b16, .unset] []) (fun _ z_ => XS.icmpYes X60.here hx rfl (pc0 := 412) (pc' := 426) rfl (hb hby at_412) rfl (flt (by decide : ¬ ((5 : Int32) < (4 : Int32)))).2.2.2 (by decide) (by decide) z_) ?_
    refine own_g (own_F T60 m 428 #[iv i0, iv i1, iv i2, iv i3, iv 3, iv p1, iv y0, iv y1, iv y2, iv y3, iv y4, iv 4, rv b1, rv b16, .unset] [(.int 4)]) (fun _ z_ => XS.iload X60.here hx rfl (hb hby at_426) rfl z_) ?_
    refine own_g (own_F T60 m 430 #[iv i0, iv i1, iv i2, iv i3, iv 3, iv p1, iv y0, iv y1, iv y2, iv y3, iv y4, iv 4, rv b1, rv b16, .unset] [(.int 6), (.int 4)]) (fun _ z_ => XS.bipush X60.here hx rfl (hb hby at_428) z_) ?_
    refine own_g (own_F T60 m 446 #[iv i0, iv i1, iv i2, iv i3, iv 3, iv p1, iv y0, iv y1, iv y2, iv y3, iv y4, iv 4, rv b1, rv b16, .unset] []) (fun _ z_ => XS.icmpYes X60.here hx rfl (pc0 := 430) (pc' := 446) rfl (hb hby at_430) rfl (flt (by decide : ¬ ((6 : Int32) < (4 : Int32)))).2.2.2 (by decide) (by decide) z_) ?_
    obtain ⟨T61, h61, X61, e61, E61, A61, D61, -, st61⟩ := newO X60 hx hZ hown (own_w hw 5) (own_w hw 6) (own_w hw 7) e60 (g := (mkF m 446 #[iv i0, iv i1, iv i2, iv i3, iv 3, iv p1, iv y0, iv y1, iv y2, iv y3, iv y4, iv 4, rv b1, rv b16, .unset] [])) rfl (hb hby at_446) (by decide) (by decide)
    obtain ⟨b61, g61⟩ : ∃ z, z = h60.size := ⟨_, rfl⟩
    rw [← g61] at A61 D61 st61
    have sz_b61 : h0.size ≤ b61 := Nat.le_trans (Nat.le_trans (Nat.le_trans (Nat.le_trans (Nat.le_trans (Nat.le_trans (Nat.le_trans (Nat.le_trans (Nat.le_trans (Nat.le_trans (Nat.le_trans (Nat.le_trans (Nat.le_trans (Nat.le_trans (Nat.le_trans (Nat.le_trans (Nat.le_trans (Nat.le_trans (Nat.le_trans (Nat.le_trans (Nat.le_trans (Nat.le_trans (Nat.le_trans (Nat.le_trans (Nat.le_trans (Nat.le_refl h0.size) E1.1) (Nat.le_of_eq W3.size.symm)) (Nat.le_of_eq W5.size.symm)) (Nat.le_of_eq W7.size.symm)) (Nat.le_of_eq W9.size.symm)) (Nat.le_of_eq W11.size.symm)) (Nat.le_of_eq W13.size.symm)) (Nat.le_of_eq W15.size.symm)) E16.1) (Nat.le_of_eq W17.size.symm)) (Nat.le_of_eq W18.size.symm)) (Nat.le_of_eq W19.size.symm)) (Nat.le_of_eq W20.size.symm)) (Nat.le_of_eq W21.size.symm)) (Nat.le_of_eq W22.size.symm)) (Nat.le_of_eq W23.size.symm)) (Nat.le_of_eq W24.size.symm)) (Nat.le_of_eq W25.size.symm)) (Nat.le_of_eq W26.size.symm)) (Nat.le_of_eq W27.size.symm)) (Nat.le_of_eq W57.size.symm)) (Nat.le_of_eq W58.size.symm)) (Nat.le_of_eq W59.size.symm)) (Nat.le_of_eq W60.size.symm)) (Nat.le_of_eq g61.symm)
    have ge_b61 : n0 ≤ b61 := Nat.le_trans (Nat.le_trans (Nat.le_trans (Nat.le_trans (Nat.le_trans (Nat.le_trans (Nat.le_trans (Nat.le_trans (Nat.le_trans (Nat.le_trans (Nat.le_trans (Nat.le_trans (Nat.le_trans (Nat.le_trans (Nat.le_trans (Nat.le_trans (Nat.le_trans (Nat.le_trans (Nat.le_trans (Nat.le_trans (Nat.le_trans (Nat.le_trans (Nat.le_trans (Nat.le_trans (Nat.le_trans Z0 E1.1) (Nat.le_of_eq W3.size.symm)) (Nat.le_of_eq W5.size.symm)) (Nat.le_of_eq W7.size.symm)) (Nat.le_of_eq W9.size.symm)) (Nat.le_of_eq W11.size.symm)) (Nat.le_of_eq W13.size.symm)) (Nat.le_of_eq W15.size.symm)) E16.1) (Nat.le_of_eq W17.size.symm)) (Nat.le_of_eq W18.size.symm)) (Nat.le_of_eq W19.size.symm)) (Nat.le_of_eq W20.size.symm)) (Nat.le_of_eq W21.size.symm)) (Nat.le_of_eq W22.size.symm)) (Nat.le_of_eq W23.size.symm)) (Nat.le_of_eq W24.size.symm)) (Nat.le_of_eq W25.size.symm)) (Nat.le_of_eq W26.size.symm)) (Nat.le_of_eq W27.size.symm)) (Nat.le_of_eq W57.size.symm)) (Nat.le_of_eq W58.size.symm)) (Nat.le_of_eq W59.size.symm)) (Nat.le_of_eq W60.size.symm)) (Nat.le_of_eq g61.symm)
    have ne_b1_b61 : b1 ≠ b61 := Nat.ne_of_lt (Nat.lt_of_lt_of_le ((((((((((((((((A15.ext E16).other W17 ne_b1_b16).other W18 ne_b1_b16).other W19 ne_b1_b16).other W20 ne_b1_b16).other W21 ne_b1_b16).other W22 ne_b1_b16).other W23 ne_b1_b16).other W24 ne_b1_b16).other W25 ne_b1_b16).other W26 ne_b1_b16).other W27 ne_b1_b16).other W57 ne_b1_b16).other W58 ne_b1_b16).other W59 ne_b1_b16).other W60 ne_b1_b16).lt (Nat.le_of_eq g61.symm))
    have ne_b16_b61 : b16 ≠ b61 := Nat.ne_of_lt (Nat.lt_of_lt_of_le A60.lt (Nat.le_of_eq g61.symm))
    have F61_coder : Fld Z h61 b61 "java/lang/String" "coder" "B" (.int 0) := D61 (Or.inr (own_w hw 31)) (ty := .byte) (by decide)
    have F61_value : Fld Z h61 b61 "java/lang/String" "value" "[B" .null := D61 (Or.inr (own_w hw 33)) (ty := (.array .byte)) (by decide)
    refine own_pre (S' := (own_F T61 m 449 #[iv i0, iv i1, iv i2, iv i3, iv 3, iv p1, iv y0, iv y1, iv y2, iv y3, iv y4, iv 4, rv b1, rv b16, .unset] [(.ref b61)])) st61 ?_
    refine own_g (own_F T61 m 450 #[iv i0, iv i1, iv i2, iv i3, iv 3, iv p1, iv y0, iv y1, iv y2, iv y3, iv y4, iv 4, rv b1, rv b16, .unset] [(.ref b61), (.ref b61)]) (fun _ z_ => XS.dup X61.here hx rfl (hb hby at_449) rfl rfl z_) ?_
    refine own_g (own_F T61 m 452 #[iv i0, iv i1, iv i2, iv i3, iv 3, iv p1, iv y0, iv y1, iv y2, iv y3, iv y4, iv 4, rv b1, rv b16, .unset] [(.ref b16), (.ref b61), (.ref b61)]) (fun _ z_ => XS.aload X61.here hx rfl (hb hby at_450) rfl rfl z_) ?_
    refine own_callI (y := (⟨"java/lang/String", "<init>", "([C)V"⟩ : MethodName)) (b := b61) X61 hx hZ hown rfl (own_w hw 8) (own_w hw 9) (own_w hw 10) (own_w hw 7) (by decide) e61 (hM := own_si l Z a0 hw [] b61 b16 11 (11 : Int32) zc g60 h61 n0 (Nat.le_trans (Nat.le_trans (Nat.le_trans (Nat.le_trans (Nat.le_trans (Nat.le_trans (Nat.le_trans (Nat.le_trans (Nat.le_trans (Nat.le_trans (Nat.le_trans (Nat.le_trans (Nat.le_trans (Nat.le_trans (Nat.le_trans (Nat.le_trans (Nat.le_trans (Nat.le_trans (Nat.le_trans (Nat.le_trans (Nat.le_trans (Nat.le_trans (Nat.le_trans (Nat.le_trans (Nat.le_trans Z0 E1.1) (Nat.le_of_eq W3.size.symm)) (Nat.le_of_eq W5.size.symm)) (Nat.le_of_eq W7.size.symm)) (Nat.le_of_eq W9.size.symm)) (Nat.le_of_eq W11.size.symm)) (Nat.le_of_eq W13.size.symm)) (Nat.le_of_eq W15.size.symm)) E16.1) (Nat.le_of_eq W17.size.symm)) (Nat.le_of_eq W18.size.symm)) (Nat.le_of_eq W19.size.symm)) (Nat.le_of_eq W20.size.symm)) (Nat.le_of_eq W21.size.symm)) (Nat.le_of_eq W22.size.symm)) (Nat.le_of_eq W23.size.symm)) (Nat.le_of_eq W24.size.symm)) (Nat.le_of_eq W25.size.symm)) (Nat.le_of_eq W26.size.symm)) (Nat.le_of_eq W27.size.symm)) (Nat.le_of_eq W57.size.symm)) (Nat.le_of_eq W58.size.symm)) (Nat.le_of_eq W59.size.symm)) (Nat.le_of_eq W60.size.symm)) E61.1) (by decide) (by decide) (by decide) hzc (A60.ext E61) (fun i _ => rg60 i) A61 F61_value F61_coder (((((((((((((((((((((((((S_cs.ext E1).wr W3).wr W5).wr W7).wr W9).wr W11).wr W13).wr W15).ext E16).wr W17).wr W18).wr W19).wr W20).wr W21).wr W22).wr W23).wr W24).wr W25).wr W26).wr W27).wr W57).wr W58).wr W59).wr W60).ext E61) (((((((((((((((((((((((((S_ad.ext E1).wr W3).wr W5).wr W7).wr W9).wr W11).wr W13).wr W15).ext E16).wr W17).wr W18).wr W19).wr W20).wr W21).wr W22).wr W23).wr W24).wr W25).wr W26).wr W27).wr W57).wr W58).wr W59).wr W60).ext E61) (((((((((((((((((((((((((S_hi.ext E1).wr W3).wr W5).wr W7).wr W9).wr W11).wr W13).wr W15).ext E16).wr W17).wr W18).wr W19).wr W20).wr W21).wr W22).wr W23).wr W24).wr W25).wr W26).wr W27).wr W57).wr W58).wr W59).wr W60).ext E61) (((((((((((((((((((((((((S_lo.ext E1).wr W3).wr W5).wr W7).wr W9).wr W11).wr W13).wr W15).ext E16).wr W17).wr W18).wr W19).wr W20).wr W21).wr W22).wr W23).wr W24).wr W25).wr W26).wr W27).wr W57).wr W58).wr W59).wr W60).ext E61) ge_b61 (Ne.symm ne_b16_b61)) (W := 1) (pc := 452) (Ls := #[iv i0, iv i1, iv i2, iv i3, iv 3, iv p1, iv y0, iv y1, iv y2, iv y3, iv y4, iv 4, rv b1, rv b16, .unset]) (argsL := [(.ref b16)]) (rest := [(.ref b61)]) (st0 := [(.ref b16), (.ref b61), (.ref b61)]) (by rw [hml]; rfl) (lenOf own_pd15 rfl) rfl (Nat.le_of_eq rfl) (hb hby at_452) (by decide) (by decide) (by decide) (by decide) ?_
    intro v62 T62 L62 X62 hQ62
    obtain ⟨rfl, Nq62, K62, Sx62⟩ := hQ62
    have N62 := Fr.app N60 Nq62
    show own_Ends p e below s _ _ _ (own_F T62 m 455 #[iv i0, iv i1, iv i2, iv i3, iv 3, iv p1, iv y0, iv y1, iv y2, iv y3, iv y4, iv 4, rv b1, rv b16, .unset] [(.ref b61)])
    refine own_g (own_F T62 m 457 #[iv i0, iv i1, iv i2, iv i3, iv 3, iv p1, iv y0, iv y1, iv y2, iv y3, iv y4, iv 4, rv b1, rv b16, .unset] [(.int p1), (.ref b61)]) (fun _ z_ => XS.iload X62.here hx rfl (hb hby at_455) rfl z_) ?_
    refine own_g (own_F T62 m 459 #[iv i0, iv i1, iv i2, iv i3, iv 3, iv p1, iv y0, iv y1, iv y2, iv y3, iv y4, iv 4, rv b1, rv b16, .unset] [(.int p1), (.int p1), (.ref b61)]) (fun _ z_ => XS.iload X62.here hx rfl (hb hby at_457) rfl z_) ?_
    refine own_g (own_F T62 m 461 #[iv i0, iv i1, iv i2, iv i3, iv 3, iv p1, iv y0, iv y1, iv y2, iv y3, iv y4, iv 4, rv b1, rv b16, .unset] [(.int 4), (.int p1), (.int p1), (.ref b61)]) (fun _ z_ => XS.iload X62.here hx rfl (hb hby at_459) rfl z_) ?_
    refine own_g (own_F T62 m 462 #[iv i0, iv i1, iv i2, iv i3, iv 3, iv p1, iv y0, iv y1, iv y2, iv y3, iv y4, iv 4, rv b1, rv b16, .unset] [(.int (p1 + (4 : Int32))), (.int p1), (.ref b61)]) (fun _ z_ => XS.iadd X62.here hx rfl (hb hby at_461) rfl z_) ?_
    have tq0 : own_sym (g60 (P + 0)) v0 := by rw [show g60 (P + 0) = c0_ from by simp [hg60, hg59, hg58, hg57]]; exact hs0
    have tq1 : own_sym (g60 (P + 1)) v1 := by rw [show g60 (P + 1) = c1_ from by simp [hg60, hg59, hg58, hg57]]; exact hs1
    have tq2 : own_sym (g60 (P + 2)) v2 := by rw [show g60 (P + 2) = c2_ from by simp [hg60, hg59, hg58, hg57]]; exact hs2
    have tq3 : own_sym (g60 (P + 3)) v3 := by rw [show g60 (P + 3) = c3_ from by simp [hg60, hg59, hg58, hg57]]; exact hs3
    refine own_callS (y := (⟨"com/example/claimgate/claimgate/jose/Base64Url", "decode", "(Ljava/lang/String;II)[B"⟩ : MethodName)) X62 hx hZ hown (own_w hw 34) (own_w hw 35) (own_w hw 36) (own_w hw 37) (by decide) (rfl : T62.heap = T62.heap) (hM := own_dec3 l Z a0 hw [] b61 p1 (p1 + (4 : Int32)) zc P g60 sv hsv y0 y1 y2 y3 y4 v0 v1 v2 v3 T62.heap n0 (Nat.le_trans (Nat.le_trans (Nat.le_trans (Nat.le_trans (Nat.le_trans (Nat.le_trans (Nat.le_trans (Nat.le_trans (Nat.le_trans (Nat.le_trans (Nat.le_trans (Nat.le_trans (Nat.le_trans (Nat.le_trans (Nat.le_trans (Nat.le_trans (Nat.le_trans (Nat.le_trans (Nat.le_trans (Nat.le_trans (Nat.le_trans (Nat.le_trans (Nat.le_trans (Nat.le_trans (Nat.le_trans (Nat.le_trans Z0 E1.1) (Nat.le_of_eq W3.size.symm)) (Nat.le_of_eq W5.size.symm)) (Nat.le_of_eq W7.size.symm)) (Nat.le_of_eq W9.size.symm)) (Nat.le_of_eq W11.size.symm)) (Nat.le_of_eq W13.size.symm)) (Nat.le_of_eq W15.size.symm)) E16.1) (Nat.le_of_eq W17.size.symm)) (Nat.le_of_eq W18.size.symm)) (Nat.le_of_eq W19.size.symm)) (Nat.le_of_eq W20.size.symm)) (Nat.le_of_eq W21.size.symm)) (Nat.le_of_eq W22.size.symm)) (Nat.le_of_eq W23.size.symm)) (Nat.le_of_eq W24.size.symm)) (Nat.le_of_eq W25.size.symm)) (Nat.le_of_eq W26.size.symm)) (Nat.le_of_eq W27.size.symm)) (Nat.le_of_eq W57.size.symm)) (Nat.le_of_eq W58.size.symm)) (Nat.le_of_eq W59.size.symm)) (Nat.le_of_eq W60.size.symm)) E61.1) K62.1) hp hP (own_padd hp hP (4 : Int32) 4 (by decide) (by decide)) hzc Sx62 (own_sta_keep (((((((((((((((((((((((((S_cs.ext E1).wr W3).wr W5).wr W7).wr W9).wr W11).wr W13).wr W15).ext E16).wr W17).wr W18).wr W19).wr W20).wr W21).wr W22).wr W23).wr W24).wr W25).wr W26).wr W27).wr W57).wr W58).wr W59).wr W60).ext E61) K62 (allS (own_plainE A61) all0)) (own_sta_keep (((((((((((((((((((((((((S_sf.ext E1).wr W3).wr W5).wr W7).wr W9).wr W11).wr W13).wr W15).ext E16).wr W17).wr W18).wr W19).wr W20).wr W21).wr W22).wr W23).wr W24).wr W25).wr W26).wr W27).wr W57).wr W58).wr W59).wr W60).ext E61) K62 (allS (own_plainE A61) all0)) (own_sta_keep (((((((((((((((((((((((((S_ad.ext E1).wr W3).wr W5).wr W7).wr W9).wr W11).wr W13).wr W15).ext E16).wr W17).wr W18).wr W19).wr W20).wr W21).wr W22).wr W23).wr W24).wr W25).wr W26).wr W27).wr W57).wr W58).wr W59).wr W60).ext E61) K62 (allS (own_plainE A61) all0)) (own_sta_keep (((((((((((((((((((((((((S_hi.ext E1).wr W3).wr W5).wr W7).wr W9).wr W11).wr W13).wr W15).ext E16).wr W17).wr W18).wr W19).wr W20).wr W21).wr W22).wr W23).wr W24).wr W25).wr W26).wr W27).wr W57).wr W58).wr W59).wr W60).ext E61) K62 (allS (own_plainE A61) all0)) (own_sta_keep (((((((((((((((((((((((((S_lo.ext E1).wr W3).wr W5).wr W7).wr W9).wr W11).wr W13).wr W15).ext E16).wr W17).wr W18).wr W19).wr W20).wr W21).wr W22).wr W23).wr W24).wr W25).wr W26).wr W27).wr W57).wr W58).wr W59).wr W60).ext E61) K62 (allS (own_plainE A61) all0)) tq0 tq1 tq2 tq3 hr0 hr1 hr2 hr3 hc0 hc1 hc2 hc3 hc4) (W := 0) (pc := 462) (Ls := #[iv i0, iv i1, iv i2, iv i3, iv 3, iv p1, iv y0, iv y1, iv y2, iv y3, iv y4, iv 4, rv b1, rv b16, .unset]) (argsL := [(.ref b61), (.int p1), (.int (p1 + (4 : Int32)))]) (rest := []) (st0 := [(.int (p1 + (4 : Int32))), (.int p1), (.ref b61)]) (by rw [hml]; rfl) (lenOf own_pd16 rfl) rfl (Nat.le_of_eq rfl) (hb hby at_462) (by decide) (by decide) (by decide) (by decide) ?_
    intro v63 T63 L63 X63 hQ63
    obtain ⟨ra63, gr63, rfl, Nq63, K63, ge_ra63, Ar63, qr0, qr1, qr2⟩ := hQ63
    have N63 := Fr.app N62 Nq63
    show own_Ends p e below s _ _ _ (own_F T63 m 465 #[iv i0, iv i1, iv i2, iv i3, iv 3, iv p1, iv y0, iv y1, iv y2, iv y3, iv y4, iv 4, rv b1, rv b16, .unset] [(.ref ra63)])
    refine own_g (own_F T63 m 467 #[iv i0, iv i1, iv i2, iv i3, iv 3, iv p1, iv y0, iv y1, iv y2, iv y3, iv y4, iv 4, rv b1, rv b16, rv ra63] []) (fun _ z_ => XS.astore X63.here hx rfl (hb hby at_465) rfl rfl (l' := #[iv i0, iv i1, iv i2, iv i3, iv 3, iv p1, iv y0, iv y1, iv y2, iv y3, iv y4, iv 4, rv b1, rv b16, rv ra63]) rfl z_) ?_
    refine own_g (own_F T63 m 469 #[iv i0, iv i1, iv i2, iv i3, iv 3, iv p1, iv y0, iv y1, iv y2, iv y3, iv y4, iv 4, rv b1, rv b16, rv ra63] [(.ref ra63)]) (fun _ z_ => XS.aload X63.here hx rfl (hb hby at_467) rfl rfl z_) ?_
    refine own_alen X63 hx hZ (rfl : T63.heap = T63.heap) Ar63 (hb hby at_469) ?_
    show own_Ends p e below s _ _ _ (own_F T63 m 470 #[iv i0, iv i1, iv i2, iv i3, iv 3, iv p1, iv y0, iv y1, iv y2, iv y3, iv y4, iv 4, rv b1, rv b16, rv ra63] [(.int 3)])
    refine own_g (own_F T63 m 472 #[iv i0, iv i1, iv i2, iv i3, iv 3, iv p1, iv y0, iv y1, iv y2, iv y3, iv y4, iv 4, rv b1, rv b16, rv ra63] [(.int 3), (.int 3)]) (fun _ z_ => XS.iload X63.here hx rfl (hb hby at_470) rfl z_) ?_
    refine own_g (own_F T63 m 475 #[iv i0, iv i1, iv i2, iv i3, iv 3, iv p1, iv y0, iv y1, iv y2, iv y3, iv y4, iv 4, rv b1, rv b16, rv ra63] []) (fun _ z_ => XS.icmpNo X63.here hx rfl (hb hby at_472) rfl (teq (by decide : ((3 : Int32) = (3 : Int32)))).2 z_) ?_
    refine own_g (own_F T63 m 477 #[iv i0, iv i1, iv i2, iv i3, iv 3, iv p1, iv y0, iv y1, iv y2, iv y3, iv y4, iv 4, rv b1, rv b16, rv ra63] [(.ref ra63)]) (fun _ z_ => XS.aload X63.here hx rfl (hb hby at_475) rfl rfl z_) ?_
    refine own_g (own_F T63 m 478 #[iv i0, iv i1, iv i2, iv i3, iv 3, iv p1, iv y0, iv y1, iv y2, iv y3, iv y4, iv 4, rv b1, rv b16, rv ra63] [(.int 0), (.ref ra63)]) (fun _ z_ => XS.iconst X63.here hx rfl (hb hby at_477) z_) ?_
    refine own_g (own_F T63 m 480 #[iv i0, iv i1, iv i2, iv i3, iv 3, iv p1, iv y0, iv y1, iv y2, iv y3, iv y4, iv 4, rv b1, rv b16, rv ra63] [(.int y0), (.int 0), (.ref ra63)]) (fun _ z_ => XS.iload X63.here hx rfl (hb hby at_478) rfl z_) ?_
    refine own_callS (y := (⟨"com/example/claimgate/claimgate/jose/Base64UrlDecodePinLaw", "at", "([BII)Z"⟩ : MethodName)) X63 hx hZ hown (own_w hw 38) (own_w hw 39) (own_w hw 3) (own_w hw 40) (by decide) (rfl : T63.heap = T63.heap) (hM := own_at l Z a0 hw [] ra63 3 0 (0 : Int32) y0 gr63 T63.heap n0 (Nat.le_trans (Nat.le_trans (Nat.le_trans (Nat.le_trans (Nat.le_trans (Nat.le_trans (Nat.le_trans (Nat.le_trans (Nat.le_trans (Nat.le_trans (Nat.le_trans (Nat.le_trans (Nat.le_trans (Nat.le_trans (Nat.le_trans (Nat.le_trans (Nat.le_trans (Nat.le_trans (Nat.le_trans (Nat.le_trans (Nat.le_trans (Nat.le_trans (Nat.le_trans (Nat.le_trans (Nat.le_trans (Nat.le_trans (Nat.le_trans Z0 E1.1) (Nat.le_of_eq W3.size.symm)) (Nat.le_of_eq W5.size.symm)) (Nat.le_of_eq W7.size.symm)) (Nat.le_of_eq W9.size.symm)) (Nat.le_of_eq W11.size.symm)) (Nat.le_of_eq W13.size.symm)) (Nat.le_of_eq W15.size.symm)) E16.1) (Nat.le_of_eq W17.size.symm)) (Nat.le_of_eq W18.size.symm)) (Nat.le_of_eq W19.size.symm)) (Nat.le_of_eq W20.size.symm)) (Nat.le_of_eq W21.size.symm)) (Nat.le_of_eq W22.size.symm)) (Nat.le_of_eq W23.size.symm)) (Nat.le_of_eq W24.size.symm)) (Nat.le_of_eq W25.size.symm)) (Nat.le_of_eq W26.size.symm)) (Nat.le_of_eq W27.size.symm)) (Nat.le_of_eq W57.size.symm)) (Nat.le_of_eq W58.size.symm)) (Nat.le_of_eq W59.size.symm)) (Nat.le_of_eq W60.size.symm)) E61.1) K62.1) K63.1) (by decide) (fun _ => qr0) Ar63) (W := 0) (pc := 480) (Ls := #[iv i0, iv i1, iv i2, iv i3, iv 3, iv p1, iv y0, iv y1, iv y2, iv y3, iv y4, iv 4, rv b1, rv b16, rv ra63]) (argsL := [(.ref ra63), (.int 0), (.int y0)]) (rest := []) (st0 := [(.int y0), (.int 0), (.ref ra63)]) (by rw [hml]; rfl) (lenOf own_pd17 rfl) rfl (Nat.le_of_eq rfl) (hb hby at_480) (by decide) (by decide) (by decide) (by decide) ?_
    intro v64 T64 L64 X64 hQ64
    obtain ⟨rfl, Nq64, hh64⟩ := hQ64
    have N64 := Fr.app N63 Nq64
    show own_Ends p e below s _ _ _ (own_F T64 m 483 #[iv i0, iv i1, iv i2, iv i3, iv 3, iv p1, iv y0, iv y1, iv y2, iv y3, iv y4, iv 4, rv b1, rv b16, rv ra63] [(.int 1)])
    refine own_g (own_F T64 m 486 #[iv i0, iv i1, iv i2, iv i3, iv 3, iv p1, iv y0, iv y1, iv y2, iv y3, iv y4, iv 4, rv b1, rv b16, rv ra63] []) (fun _ z_ => XS.ifNo X64.here hx rfl (hb hby at_483) rfl ((if0 _ _).trans (feq (by decide : ¬ ((1 : Int32) = (0 : Int32)))).1) z_) ?_
    refine own_g (own_F T64 m 488 #[iv i0, iv i1, iv i2, iv i3, iv 3, iv p1, iv y0, iv y1, iv y2, iv y3, iv y4, iv 4, rv b1, rv b16, rv ra63] [(.ref ra63)]) (fun _ z_ => XS.aload X64.here hx rfl (hb hby at_486) rfl rfl z_) ?_
    refine own_g (own_F T64 m 489 #[iv i0, iv i1, iv i2, iv i3, iv 3, iv p1, iv y0, iv y1, iv y2, iv y3, iv y4, iv 4, rv b1, rv b16, rv ra63] [(.int 1), (.ref ra63)]) (fun _ z_ => XS.iconst X64.here hx rfl (hb hby at_488) z_) ?_
    refine own_g (own_F T64 m 491 #[iv i0, iv i1, iv i2, iv i3, iv 3, iv p1, iv y0, iv y1, iv y2, iv y3, iv y4, iv 4, rv b1, rv b16, rv ra63] [(.int y1), (.int 1), (.ref ra63)]) (fun _ z_ => XS.iload X64.here hx rfl (hb hby at_489) rfl z_) ?_
    refine own_callS (y := (⟨"com/example/claimgate/claimgate/jose/Base64UrlDecodePinLaw", "at", "([BII)Z"⟩ : MethodName)) X64 hx hZ hown (own_w hw 38) (own_w hw 39) (own_w hw 3) (own_w hw 40) (by decide) hh64 (hM := own_at l Z a0 hw [] ra63 3 1 (1 : Int32) y1 gr63 T63.heap n0 (Nat.le_trans (Nat.le_trans (Nat.le_trans (Nat.le_trans (Nat.le_trans (Nat.le_trans (Nat.le_trans (Nat.le_trans (Nat.le_trans (Nat.le_trans (Nat.le_trans (Nat.le_trans (Nat.le_trans (Nat.le_trans (Nat.le_trans (Nat.le_trans (Nat.le_trans (Nat.le_trans (Nat.le_trans (Nat.le_trans (Nat.le_trans (Nat.le_trans (Nat.le_trans (Nat.le_trans (Nat.le_trans (Nat.le_trans (Nat.le_trans Z0 E1.1) (Nat.le_of_eq W3.size.symm)) (Nat.le_of_eq W5.size.symm)) (Nat.le_of_eq W7.size.symm)) (Nat.le_of_eq W9.size.symm)) (Nat.le_of_eq W11.size.symm)) (Nat.le_of_eq W13.size.symm)) (Nat.le_of_eq W15.size.symm)) E16.1) (Nat.le_of_eq W17.size.symm)) (Nat.le_of_eq W18.size.symm)) (Nat.le_of_eq W19.size.symm)) (Nat.le_of_eq W20.size.symm)) (Nat.le_of_eq W21.size.symm)) (Nat.le_of_eq W22.size.symm)) (Nat.le_of_eq W23.size.symm)) (Nat.le_of_eq W24.size.symm)) (Nat.le_of_eq W25.size.symm)) (Nat.le_of_eq W26.size.symm)) (Nat.le_of_eq W27.size.symm)) (Nat.le_of_eq W57.size.symm)) (Nat.le_of_eq W58.size.symm)) (Nat.le_of_eq W59.size.symm)) (Nat.le_of_eq W60.size.symm)) E61.1) K62.1) K63.1) (by decide) (fun _ => qr1) Ar63) (W := 0) (pc := 491) (Ls := #[iv i0, iv i1, iv i2, iv i3, iv 3, iv p1, iv y0, iv y1, iv y2, iv y3, iv y4, iv 4, rv b1, rv b16, rv ra63]) (argsL := [(.ref ra63), (.int 1), (.int y1)]) (rest := []) (st0 := [(.int y1), (.int 1), (.ref ra63)]) (by rw [hml]; rfl) (lenOf own_pd17 rfl) rfl (Nat.le_of_eq rfl) (hb hby at_491) (by decide) (by decide) (by decide) (by decide) ?_
    intro v65 T65 L65 X65 hQ65
    obtain ⟨rfl, Nq65, hh65⟩ := hQ65
    have N65 := Fr.app N64 Nq65
    show own_Ends p e below s _ _ _ (own_F T65 m 494 #[iv i0, iv i1, iv i2, iv i3, iv 3, iv p1, iv y0, iv y1, iv y2, iv y3, iv y4, iv 4, rv b1, rv b16, rv ra63] [(.int 1)])
    refine own_g (own_F T65 m 497 #[iv i0, iv i1, iv i2, iv i3, iv 3, iv p1, iv y0, iv y1, iv y2, iv y3, iv y4, iv 4, rv b1, rv b16, rv ra63] []) (fun _ z_ => XS.ifNo X65.here hx rfl (hb hby at_494) rfl ((if0 _ _).trans (feq (by decide : ¬ ((1 : Int32) = (0 : Int32)))).1) z_) ?_
    refine own_g (own_F T65 m 499 #[iv i0, iv i1, iv i2, iv i3, iv 3, iv p1, iv y0, iv y1, iv y2, iv y3, iv y4, iv 4, rv b1, rv b16, rv ra63] [(.ref ra63)]) (fun _ z_ => XS.aload X65.here hx rfl (hb hby at_497) rfl rfl z_) ?_
    refine own_g (own_F T65 m 500 #[iv i0, iv i1, iv i2, iv i3, iv 3, iv p1, iv y0, iv y1, iv y2, iv y3, iv y4, iv 4, rv b1, rv b16, rv ra63] [(.int 2), (.ref ra63)]) (fun _ z_ => XS.iconst X65.here hx rfl (hb hby at_499) z_) ?_
    refine own_g (own_F T65 m 502 #[iv i0, iv i1, iv i2, iv i3, iv 3, iv p1, iv y0, iv y1, iv y2, iv y3, iv y4, iv 4, rv b1, rv b16, rv ra63] [(.int y2), (.int 2), (.ref ra63)]) (fun _ z_ => XS.iload X65.here hx rfl (hb hby at_500) rfl z_) ?_
    refine own_callS (y := (⟨"com/example/claimgate/claimgate/jose/Base64UrlDecodePinLaw", "at", "([BII)Z"⟩ : MethodName)) X65 hx hZ hown (own_w hw 38) (own_w hw 39) (own_w hw 3) (own_w hw 40) (by decide) hh65 (hM := own_at l Z a0 hw [] ra63 3 2 (2 : Int32) y2 gr63 T63.heap n0 (Nat.le_trans (Nat.le_trans (Nat.le_trans (Nat.le_trans (Nat.le_trans (Nat.le_trans (Nat.le_trans (Nat.le_trans (Nat.le_trans (Nat.le_trans (Nat.le_trans (Nat.le_trans (Nat.le_trans (Nat.le_trans (Nat.le_trans (Nat.le_trans (Nat.le_trans (Nat.le_trans (Nat.le_trans (Nat.le_trans (Nat.le_trans (Nat.le_trans (Nat.le_trans (Nat.le_trans (Nat.le_trans (Nat.le_trans (Nat.le_trans Z0 E1.1) (Nat.le_of_eq W3.size.symm)) (Nat.le_of_eq W5.size.symm)) (Nat.le_of_eq W7.size.symm)) (Nat.le_of_eq W9.size.symm)) (Nat.le_of_eq W11.size.symm)) (Nat.le_of_eq W13.size.symm)) (Nat.le_of_eq W15.size.symm)) E16.1) (Nat.le_of_eq W17.size.symm)) (Nat.le_of_eq W18.size.symm)) (Nat.le_of_eq W19.size.symm)) (Nat.le_of_eq W20.size.symm)) (Nat.le_of_eq W21.size.symm)) (Nat.le_of_eq W22.size.symm)) (Nat.le_of_eq W23.size.symm)) (Nat.le_of_eq W24.size.symm)) (Nat.le_of_eq W25.size.symm)) (Nat.le_of_eq W26.size.symm)) (Nat.le_of_eq W27.size.symm)) (Nat.le_of_eq W57.size.symm)) (Nat.le_of_eq W58.size.symm)) (Nat.le_of_eq W59.size.symm)) (Nat.le_of_eq W60.size.symm)) E61.1) K62.1) K63.1) (by decide) (fun _ => qr2) Ar63) (W := 0) (pc := 502) (Ls := #[iv i0, iv i1, iv i2, iv i3, iv 3, iv p1, iv y0, iv y1, iv y2, iv y3, iv y4, iv 4, rv b1, rv b16, rv ra63]) (argsL := [(.ref ra63), (.int 2), (.int y2)]) (rest := []) (st0 := [(.int y2), (.int 2), (.ref ra63)]) (by rw [hml]; rfl) (lenOf own_pd17 rfl) rfl (Nat.le_of_eq rfl) (hb hby at_502) (by decide) (by decide) (by decide) (by decide) ?_
    intro v66 T66 L66 X66 hQ66
    obtain ⟨rfl, Nq66, hh66⟩ := hQ66
    have N66 := Fr.app N65 Nq66
    show own_Ends p e below s _ _ _ (own_F T66 m 505 #[iv i0, iv i1, iv i2, iv i3, iv 3, iv p1, iv y0, iv y1, iv y2, iv y3, iv y4, iv 4, rv b1, rv b16, rv ra63] [(.int 1)])
    refine own_g (own_F T66 m 508 #[iv i0, iv i1, iv i2, iv i3, iv 3, iv p1, iv y0, iv y1, iv y2, iv y3, iv y4, iv 4, rv b1, rv b16, rv ra63] []) (fun _ z_ => XS.ifNo X66.here hx rfl (hb hby at_505) rfl ((if0 _ _).trans (feq (by decide : ¬ ((1 : Int32) = (0 : Int32)))).1) z_) ?_
    refine own_g (own_F T66 m 510 #[iv i0, iv i1, iv i2, iv i3, iv 3, iv p1, iv y0, iv y1, iv y2, iv y3, iv y4, iv 4, rv b1, rv b16, rv ra63] [(.ref ra63)]) (fun _ z_ => XS.aload X66.here hx rfl (hb hby at_508) rfl rfl z_) ?_
    refine own_g (own_F T66 m 511 #[iv i0, iv i1, iv i2, iv i3, iv 3, iv p1, iv y0, iv y1, iv y2, iv y3, iv y4, iv 4, rv b1, rv b16, rv ra63] [(.int 3), (.ref ra63)]) (fun _ z_ => XS.iconst X66.here hx rfl (hb hby at_510) z_) ?_
    refine own_g (own_F T66 m 513 #[iv i0, iv i1, iv i2, iv i3, iv 3, iv p1, iv y0, iv y1, iv y2, iv y3, iv y4, iv 4, rv b1, rv b16, rv ra63] [(.int y3), (.int 3), (.ref ra63)]) (fun _ z_ => XS.iload X66.here hx rfl (hb hby at_511) rfl z_) ?_
    refine own_callS (y := (⟨"com/example/claimgate/claimgate/jose/Base64UrlDecodePinLaw", "at", "([BII)Z"⟩ : MethodName)) X66 hx hZ hown (own_w hw 38) (own_w hw 39) (own_w hw 3) (own_w hw 40) (by decide) hh66 (hM := own_at l Z a0 hw [] ra63 3 3 (3 : Int32) y3 gr63 T63.heap n0 (Nat.le_trans (Nat.le_trans (Nat.le_trans (Nat.le_trans (Nat.le_trans (Nat.le_trans (Nat.le_trans (Nat.le_trans (Nat.le_trans (Nat.le_trans (Nat.le_trans (Nat.le_trans (Nat.le_trans (Nat.le_trans (Nat.le_trans (Nat.le_trans (Nat.le_trans (Nat.le_trans (Nat.le_trans (Nat.le_trans (Nat.le_trans (Nat.le_trans (Nat.le_trans (Nat.le_trans (Nat.le_trans (Nat.le_trans (Nat.le_trans Z0 E1.1) (Nat.le_of_eq W3.size.symm)) (Nat.le_of_eq W5.size.symm)) (Nat.le_of_eq W7.size.symm)) (Nat.le_of_eq W9.size.symm)) (Nat.le_of_eq W11.size.symm)) (Nat.le_of_eq W13.size.symm)) (Nat.le_of_eq W15.size.symm)) E16.1) (Nat.le_of_eq W17.size.symm)) (Nat.le_of_eq W18.size.symm)) (Nat.le_of_eq W19.size.symm)) (Nat.le_of_eq W20.size.symm)) (Nat.le_of_eq W21.size.symm)) (Nat.le_of_eq W22.size.symm)) (Nat.le_of_eq W23.size.symm)) (Nat.le_of_eq W24.size.symm)) (Nat.le_of_eq W25.size.symm)) (Nat.le_of_eq W26.size.symm)) (Nat.le_of_eq W27.size.symm)) (Nat.le_of_eq W57.size.symm)) (Nat.le_of_eq W58.size.symm)) (Nat.le_of_eq W59.size.symm)) (Nat.le_of_eq W60.size.symm)) E61.1) K62.1) K63.1) (by decide) (fun q => absurd q (by decide)) Ar63) (W := 0) (pc := 513) (Ls := #[iv i0, iv i1, iv i2, iv i3, iv 3, iv p1, iv y0, iv y1, iv y2, iv y3, iv y4, iv 4, rv b1, rv b16, rv ra63]) (argsL := [(.ref ra63), (.int 3), (.int y3)]) (rest := []) (st0 := [(.int y3), (.int 3), (.ref ra63)]) (by rw [hml]; rfl) (lenOf own_pd17 rfl) rfl (Nat.le_of_eq rfl) (hb hby at_513) (by decide) (by decide) (by decide) (by decide) ?_
    intro v67 T67 L67 X67 hQ67
    obtain ⟨rfl, Nq67, hh67⟩ := hQ67
    have N67 := Fr.app N66 Nq67
    show own_Ends p e below s _ _ _ (own_F T67 m 516 #[iv i0, iv i1, iv i2, iv i3, iv 3, iv p1, iv y0, iv y1, iv y2, iv y3, iv y4, iv 4, rv b1, rv b16, rv ra63] [(.int 1)])
    refine own_g (own_F T67 m 519 #[iv i0, iv i1, iv i2, iv i3, iv 3, iv p1, iv y0, iv y1, iv y2, iv y3, iv y4, iv 4, rv b1, rv b16, rv ra63] []) (fun _ z_ => XS.ifNo X67.here hx rfl (hb hby at_516) rfl ((if0 _ _).trans (feq (by decide : ¬ ((1 : Int32) = (0 : Int32)))).1) z_) ?_
    refine own_g (own_F T67 m 521 #[iv i0, iv i1, iv i2, iv i3, iv 3, iv p1, iv y0, iv y1, iv y2, iv y3, iv y4, iv 4, rv b1, rv b16, rv ra63] [(.ref ra63)]) (fun _ z_ => XS.aload X67.here hx rfl (hb hby at_519) rfl rfl z_) ?_
    refine own_g (own_F T67 m 522 #[iv i0, iv i1, iv i2, iv i3, iv 3, iv p1, iv y0, iv y1, iv y2, iv y3, iv y4, iv 4, rv b1, rv b16, rv ra63] [(.int 4), (.ref ra63)]) (fun _ z_ => XS.iconst X67.here hx rfl (hb hby at_521) z_) ?_
    refine own_g (own_F T67 m 524 #[iv i0, iv i1, iv i2, iv i3, iv 3, iv p1, iv y0, iv y1, iv y2, iv y3, iv y4, iv 4, rv b1, rv b16, rv ra63] [(.int y4), (.int 4), (.ref ra63)]) (fun _ z_ => XS.iload X67.here hx rfl (hb hby at_522) rfl z_) ?_
    refine own_callS (y := (⟨"com/example/claimgate/claimgate/jose/Base64UrlDecodePinLaw", "at", "([BII)Z"⟩ : MethodName)) X67 hx hZ hown (own_w hw 38) (own_w hw 39) (own_w hw 3) (own_w hw 40) (by decide) hh67 (hM := own_at l Z a0 hw [] ra63 3 4 (4 : Int32) y4 gr63 T63.heap n0 (Nat.le_trans (Nat.le_trans (Nat.le_trans (Nat.le_trans (Nat.le_trans (Nat.le_trans (Nat.le_trans (Nat.le_trans (Nat.le_trans (Nat.le_trans (Nat.le_trans (Nat.le_trans (Nat.le_trans (Nat.le_trans (Nat.le_trans (Nat.le_trans (Nat.le_trans (Nat.le_trans (Nat.le_trans (Nat.le_trans (Nat.le_trans (Nat.le_trans (Nat.le_trans (Nat.le_trans (Nat.le_trans (Nat.le_trans (Nat.le_trans Z0 E1.1) (Nat.le_of_eq W3.size.symm)) (Nat.le_of_eq W5.size.symm)) (Nat.le_of_eq W7.size.symm)) (Nat.le_of_eq W9.size.symm)) (Nat.le_of_eq W11.size.symm)) (Nat.le_of_eq W13.size.symm)) (Nat.le_of_eq W15.size.symm)) E16.1) (Nat.le_of_eq W17.size.symm)) (Nat.le_of_eq W18.size.symm)) (Nat.le_of_eq W19.size.symm)) (Nat.le_of_eq W20.size.symm)) (Nat.le_of_eq W21.size.symm)) (Nat.le_of_eq W22.size.symm)) (Nat.le_of_eq W23.size.symm)) (Nat.le_of_eq W24.size.symm)) (Nat.le_of_eq W25.size.symm)) (Nat.le_of_eq W26.size.symm)) (Nat.le_of_eq W27.size.symm)) (Nat.le_of_eq W57.size.symm)) (Nat.le_of_eq W58.size.symm)) (Nat.le_of_eq W59.size.symm)) (Nat.le_of_eq W60.size.symm)) E61.1) K62.1) K63.1) (by decide) (fun q => absurd q (by decide)) Ar63) (W := 0) (pc := 524) (Ls := #[iv i0, iv i1, iv i2, iv i3, iv 3, iv p1, iv y0, iv y1, iv y2, iv y3, iv y4, iv 4, rv b1, rv b16, rv ra63]) (argsL := [(.ref ra63), (.int 4), (.int y4)]) (rest := []) (st0 := [(.int y4), (.int 4), (.ref ra63)]) (by rw [hml]; rfl) (lenOf own_pd17 rfl) rfl (Nat.le_of_eq rfl) (hb hby at_524) (by decide) (by decide) (by decide) (by decide) ?_
    intro v68 T68 L68 X68 hQ68
    obtain ⟨rfl, Nq68, hh68⟩ := hQ68
    have N68 := Fr.app N67 Nq68
    show own_Ends p e below s _ _ _ (own_F T68 m 527 #[iv i0, iv i1, iv i2, iv i3, iv 3, iv p1, iv y0, iv y1, iv y2, iv y3, iv y4, iv 4, rv b1, rv b16, rv ra63] [(.int 1)])
    refine own_g (own_F T68 m 530 #[iv i0, iv i1, iv i2, iv i3, iv 3, iv p1, iv y0, iv y1, iv y2, iv y3, iv y4, iv 4, rv b1, rv b16, rv ra63] []) (fun _ z_ => XS.ifNo X68.here hx rfl (hb hby at_527) rfl ((if0 _ _).trans (feq (by decide : ¬ ((1 : Int32) = (0 : Int32)))).1) z_) ?_
    refine own_g (own_F T68 m 531 #[iv i0, iv i1, iv i2, iv i3, iv 3, iv p1, iv y0, iv y1, iv y2, iv y3, iv y4, iv 4, rv b1, rv b16, rv ra63] [(.int 1)]) (fun _ z_ => XS.iconst X68.here hx rfl (hb hby at_530) z_) ?_
    refine own_g (own_F T68 m 535 #[iv i0, iv i1, iv i2, iv i3, iv 3, iv p1, iv y0, iv y1, iv y2, iv y3, iv y4, iv 4, rv b1, rv b16, rv ra63] [(.int 1)]) (fun _ z_ => XS.goto X68.here hx rfl (pc0 := 531) (pc' := 535) rfl (hb hby at_531) (by decide) (by decide) z_) ?_
    refine own_ret (t := .boolean) X68 hx hlk hrt rfl (Or.inl ⟨rfl, by simp, _, rfl⟩) (hb hby at_535) (by decide) (by decide) ?_
    exact ⟨rfl, N68⟩
   ·
    show own_Ends p e below s _ _ _ (own_F T27 m 327 #[iv i0, iv i1, iv i2, iv i3, iv 4, iv p1, iv y0, iv y1, iv y2, iv y3, iv y4, iv 6, rv b1, rv b16, .unset] [])
    refine own_g (own_F T27 m 329 #[iv i0, iv i1, iv i2, iv i3, iv 4, iv p1, iv y0, iv y1, iv y2, iv y3, iv y4, iv 6, rv b1, rv b16, .unset] [(.int 6)]) (fun _ z_ => XS.iload X27.here hx rfl (hb hby at_327) rfl z_) ?_
    refine own_g (own_F T27 m 332 #[iv i0, iv i1, iv i2, iv i3, iv 4, iv p1, iv y0, iv y1, iv y2, iv y3, iv y4, iv 6, rv b1, rv b16, .unset] []) (fun _ z_ => XS.ifNo X27.here hx rfl (hb hby at_329) rfl ((if0 _ _).trans (tlt (by decide : ((0 : Int32) < (6 : Int32)))).2.2.2) z_) ?_
    refine own_g (own_F T27 m 334 #[iv i0, iv i1, iv i2, iv i3, iv 4, iv p1, iv y0, iv y1, iv y2, iv y3, iv y4, iv 6, rv b1, rv b16, .unset] [(.ref b16)]) (fun _ z_ => XS.aload X27.here hx rfl (hb hby at_332) rfl rfl z_) ?_
    refine own_g (own_F T27 m 336 #[iv i0, iv i1, iv i2, iv i3, iv 4, iv p1, iv y0, iv y1, iv y2, iv y3, iv y4, iv 6, rv b1, rv b16, .unset] [(.int p1), (.ref b16)]) (fun _ z_ => XS.iload X27.here hx rfl (hb hby at_334) rfl z_) ?_
    refine own_g (own_F T27 m 338 #[iv i0, iv i1, iv i2, iv i3, iv 4, iv p1, iv y0, iv y1, iv y2, iv y3, iv y4, iv 6, rv b1, rv b16, .unset] [(.ref b1), (.int p1), (.ref b16)]) (fun _ z_ => XS.aload X27.here hx rfl (hb hby at_336) rfl rfl z_) ?_
    refine own_g (own_F T27 m 339 #[iv i0, iv i1, iv i2, iv i3, iv 4, iv p1, iv y0, iv y1, iv y2, iv y3, iv y4, iv 6, rv b1, rv b16, .unset] [(.int 0), (.ref b1), (.int p1), (.ref b16)]) (fun _ z_ => XS.iconst X27.here hx rfl (hb hby at_338) z_) ?_
    refine own_cald X27 hx hZ e27 ((((((((((((A15.ext E16).other W17 ne_b1_b16).other W18 ne_b1_b16).other W19 ne_b1_b16).other W20 ne_b1_b16).other W21 ne_b1_b16).other W22 ne_b1_b16).other W23 ne_b1_b16).other W24 ne_b1_b16).other W25 ne_b1_b16).other W26 ne_b1_b16).other W27 ne_b1_b16) 0 rfl (by decide) (hb hby at_339) ?_
    show own_Ends p e below s _ _ _ (own_F T27 m 340 #[iv i0, iv i1, iv i2, iv i3, iv 4, iv p1, iv y0, iv y1, iv y2, iv y3, iv y4, iv 6, rv b1, rv b16, .unset] [(.int (g15 0)), (.int p1), (.ref b16)])
    rw [q15_0]
    refine own_cast X27 hx hZ e27 A27 (P + 0) hp (own_pl hP 0) c0_ (own_narC (own_sym_rng hs0).1) (hb hby at_340) ?_
    intro T69 h69 X69 e69 W69 A69
    have N69 := Fr.snoc X69 N27 ge_b16
    obtain ⟨g69, hg69⟩ : ∃ gq_ : Nat → Int32, gq_ = fun q_ => if q_ = (P + 0) then c0_ else g27 q_ := ⟨_, rfl⟩
    have A69 : own_A Z h69 b16 .char 11 (fun q_ => .int (g69 q_)) := by rw [hg69]; exact A69
    show own_Ends p e below s _ _ _ (own_F T69 m 341 #[iv i0, iv i1, iv i2, iv i3, iv 4, iv p1, iv y0, iv y1, iv y2, iv y3, iv y4, iv 6, rv b1, rv b16, .unset] [])
    have rg69 := own_rngs hg69 rg27 (own_sym_rng hs0).1
    refine own_g (own_F T69 m 343 #[iv i0, iv i1, iv i2, iv i3, iv 4, iv p1, iv y0, iv y1, iv y2, iv y3, iv y4, iv 6, rv b1, rv b16, .unset] [(.int 6)]) (fun _ z_ => XS.iload X69.here hx rfl (hb hby at_341) rfl z_) ?_
    refine own_g (own_F T69 m 344 #[iv i0, iv i1, iv i2, iv i3, iv 4, iv p1, iv y0, iv y1, iv y2, iv y3, iv y4, iv 6, rv b1, rv b16, .unset] [(.int 1), (.int 6)]) (fun _ z_ => XS.iconst X69.here hx rfl (hb hby at_343) z_) ?_
    refine own_g (own_F T69 m 347 #[iv i0, iv i1, iv i2, iv i3, iv 4, iv p1, iv y0, iv y1, iv y2, iv y3, iv y4, iv 6, rv b1, rv b16, .unset] []) (fun _ z_ => XS.icmpNo X69.here hx rfl (hb hby at_344) rfl (tlt (by decide : ((1 : Int32) < (6 : Int32)))).2.2.2 z_) ?_
    refine own_g (own_F T69 m 349 #[iv i0, iv i1, iv i2, iv i3, iv 4, iv p1, iv y0, iv y1, iv y2, iv y3, iv y4, iv 6, rv b1, rv b16, .unset] [(.ref b16)]) (fun _ z_ => XS.aload X69.here hx rfl (hb hby at_347) rfl rfl z_) ?_
    refine own_g (own_F T69 m 351 #[iv i0, iv i1, iv i2, iv i3, iv 4, iv p1, iv y0, iv y1, iv y2, iv y3, iv y4, iv 6, rv b1, rv b16, .unset] [(.int p1), (.ref b16)]) (fun _ z_ => XS.iload X69.here hx rfl (hb hby at_349) rfl z_) ?_
    refine own_g (own_F T69 m 352 #[iv i0, iv i1, iv i2, iv i3, iv 4, iv p1, iv y0, iv y1, iv y2, iv y3, iv y4, iv 6, rv b1, rv b16, .unset] [(.int 1), (.int p1), (.ref b16)]) (fun _ z_ => XS.iconst X69.here hx rfl (hb hby at_351) z_) ?_
    refine own_g (own_F T69 m 353 #[iv i0, iv i1, iv i2, iv i3, iv 4, iv p1, iv y0, iv y1, iv y2, iv y3, iv y4, iv 6, rv b1, rv b16, .unset] [(.int (p1 + (1 : Int32))), (.ref b16)]) (fun _ z_ => XS.iadd X69.here hx rfl (hb hby at_352) rfl z_) ?_
    refine own_g (own_F T69 m 355 #[iv i0, iv i1, iv i2, iv i3, iv 4, iv p1, iv y0, iv y1, iv y2, iv y3, iv y4, iv 6, rv b1, rv b16, .unset] [(.ref b1), (.int (p1 + (1 : Int32))), (.ref b16)]) (fun _ z_ => XS.aload X69.here hx rfl (hb hby at_353) rfl rfl z_) ?_
    refine own_g (own_F T69 m 356 #[iv i0, iv i1, iv i2, iv i3, iv 4, iv p1, iv y0, iv y1, iv y2, iv y3, iv y4, iv 6, rv b1, rv b16, .unset] [(.int 1), (.ref b1), (.int (p1 + (1 : Int32))), (.ref b16)]) (fun _ z_ => XS.iconst X69.here hx rfl (hb hby at_355) z_) ?_
    refine own_cald X69 hx hZ e69 (((((((((((((A15.ext E16).other W17 ne_b1_b16).other W18 ne_b1_b16).other W19 ne_b1_b16).other W20 ne_b1_b16).other W21 ne_b1_b16).other W22 ne_b1_b16).other W23 ne_b1_b16).other W24 ne_b1_b16).other W25 ne_b1_b16).other W26 ne_b1_b16).other W27 ne_b1_b16).other W69 ne_b1_b16) 1 rfl (by decide) (hb hby at_356) ?_
    show own_Ends p e below s _ _ _ (own_F T69 m 357 #[iv i0, iv i1, iv i2, iv i3, iv 4, iv p1, iv y0, iv y1, iv y2, iv y3, iv y4, iv 6, rv b1, rv b16, .unset] [(.int (g15 1)), (.int (p1 + (1 : Int32))), (.ref b16)])
    rw [q15_1]
    refine own_cast X69 hx hZ e69 A69 (P + 1) (own_padd hp hP (1 : Int32) 1 (by decide) (by decide)) (own_pl hP 1) c1_ (own_narC (own_sym_rng hs1).1) (hb hby at_357) ?_
    intro T70 h70 X70 e70 W70 A70
    have N70 := Fr.snoc X70 N69 ge_b16
    obtain ⟨g70, hg70⟩ : ∃ gq_ : Nat → Int32, gq_ = fun q_ => if q_ = (P + 1) then c1_ else g69 q_ := ⟨_, rfl⟩
    have A70 : own_A Z h70 b16 .char 11 (fun q_ => .int (g70 q_)) := by rw [hg70]; exact A70
    show own_Ends p e below s _ _ _ (own_F T70 m 358 #[iv i0, iv i1, iv i2, iv i3, iv 4, iv p1, iv y0, iv y1, iv y2, iv y3, iv y4, iv 6, rv b1, rv b16, .unset] [])
    have rg70 := own_rngs hg70 rg69 (own_sym_rng hs1).1
    refine own_g (own_F T70 m 360 #[iv i0, iv i1, iv i2, iv i3, iv 4, iv p1, iv y0, iv y1, iv y2, iv y3, iv y4, iv 6, rv b1, rv b16, .unset] [(.int 6)]) (fun _ z_ => XS.iload X70.here hx rfl (hb hby at_358) rfl z_) ?_
    refine own_g (own_F T70 m 361 #[iv i0, iv i1, iv i2, iv i3, iv 4, iv p1, iv y0, iv y1, iv y2, iv y3, iv y4, iv 6, rv b1, rv b16, .unset] [(.int 2), (.int 6)]) (fun _ z_ => XS.iconst X70.here hx rfl (hb hby at_360) z_) ?_
    refine own_g (own_F T70 m 364 #[iv i0, iv i1, iv i2, iv i3, iv 4, iv p1, iv y0, iv y1, iv y2, iv y3, iv y4, iv 6, rv b1, rv b16, .unset] []) (fun _ z_ => XS.icmpNo X70.here hx rfl (hb hby at_361) rfl (tlt (by decide : ((2 : Int32) < (6 : Int32)))).2.2.2 z_) ?_
    refine own_g (own_F T70 m 366 #[iv i0, iv i1, iv i2, iv i3, iv 4, iv p1, iv y0, iv y1, iv y2, iv y3, iv y4, iv 6, rv b1, rv b16, .unset] [(.ref b16)]) (fun _ z_ => XS.aload X70.here hx rfl (hb hby at_364) rfl rfl z_) ?_
    refine own_g (own_F T70 m 368 #[iv i0, iv i1, iv i2, iv i3, iv 4, iv p1, iv y0, iv y1, iv y2, iv y3, iv y4, iv 6, rv b1, rv b16, .unset] [(.int p1), (.ref b16)]) (fun _ z_ => XS.iload X70.here hx rfl (hb hby at_366) rfl z_) ?_
    refine own_g (own_F T70 m 369 #[iv i0, iv i1, iv i2, iv i3, iv 4, iv p1, iv y0, iv y1, iv y2, iv y3, iv y4, iv 6, rv b1, rv b16, .unset] [(.int 2), (.int p1), (.ref b16)]) (fun _ z_ => XS.iconst X70.here hx rfl (hb hby at_368) z_) ?_
    refine own_g (own_F T70 m 370 #[iv i0, iv i1, iv i2, iv i3, iv 4, iv p1, iv y0, iv y1, iv y2, iv y3, iv y4, iv 6, rv b1, rv b16, .unset] [(.int (p1 + (2 : Int32))), (.ref b16)]) (fun _ z_ => XS.iadd X70.here hx rfl (hb hby at_369) rfl z_) ?_
    refine own_g (own_F T70 m 372 #[iv i0, iv i1, iv i2, iv i3, iv 4, iv p1, iv y0, iv y1, iv y2, iv y3, iv y4, iv 6, rv b1, rv b16, .unset] [(.ref b1), (.int (p1 + (2 : Int32))), (.ref b16)]) (fun _ z_ => XS.aload X70.here hx rfl (hb hby at_370) rfl rfl z_) ?_
    refine own_g (own_F T70 m 373 #[iv i0, iv i1, iv i2, iv i3, iv 4, iv p1, iv y0, iv y1, iv y2, iv y3, iv y4, iv 6, rv b1, rv b16, .unset] [(.int 2), (.ref b1), (.int (p1 + (2 : Int32))), (.ref b16)]) (fun _ z_ => XS.iconst X70.here hx rfl (hb hby at_372) z_) ?_
    refine own_cald X70 hx hZ e70 ((((((((((((((A15.ext E16).other W17 ne_b1_b16).other W18 ne_b1_b16).other W19 ne_b1_b16).other W20 ne_b1_b16).other W21 ne_b1_b16).other W22 ne_b1_b16).other W23 ne_b1_b16).other W24 ne_b1_b16).other W25 ne_b1_b16).other W26 ne_b1_b16).other W27 ne_b1_b16).other W69 ne_b1_b16).other W70 ne_b1_b16) 2 rfl (by decide) (hb hby at_373) ?_
    show own_Ends p e below s _ _ _ (own_F T70 m 374 #[iv i0, iv i1, iv i2, iv i3, iv 4, iv p1, iv y0, iv y1, iv y2, iv y3, iv y4, iv 6, rv b1, rv b16, .unset] [(.int (g15 2)), (.int (p1 + (2 : Int32))), (.ref b16)])
    rw [q15_2]
    refine own_cast X70 hx hZ e70 A70 (P + 2) (own_padd hp hP (2 : Int32) 2 (by decide) (by decide)) (own_pl hP 2) c2_ (own_narC (own_sym_rng hs2).1) (hb hby at_374) ?_
    intro T71 h71 X71 e71 W71 A71
    have N71 := Fr.snoc X71 N70 ge_b16
    obtain ⟨g71, hg71⟩ : ∃ gq_ : Nat → Int32, gq_ = fun q_ => if q_ = (P + 2) then c2_ else g70 q_ := ⟨_, rfl⟩
    have A71 : own_A Z h71 b16 .char 11 (fun q_ => .int (g71 q_)) := by rw [hg71]; exact A71
    show own_Ends p e below s _ _ _ (own_F T71 m 375 #[iv i0, iv i1, iv i2, iv i3, iv 4, iv p1, iv y0, iv y1, iv y2, iv y3, iv y4, iv 6, rv b1, rv b16, .unset] [])
    have rg71 := own_rngs hg71 rg70 (own_sym_rng hs2).1
    refine own_g (own_F T71 m 377 #[iv i0, iv i1, iv i2, iv i3, iv 4, iv p1, iv y0, iv y1, iv y2, iv y3, iv y4, iv 6, rv b1, rv b16, .unset] [(.int 6)]) (fun _ z_ => XS.iload X71.here hx rfl (hb hby at_375) rfl z_) ?_
    refine own_g (own_F T71 m 378 #[iv i0, iv i1, iv i2, iv i3, iv 4, iv p1, iv y0, iv y1, iv y2, iv y3, iv y4, iv 6, rv b1, rv b16, .unset] [(.int 3), (.int 6)]) (fun _ z_ => XS.iconst X71.here hx rfl (hb hby at_377) z_) ?_
    refine own_g (own_F T71 m 381 #[iv i0, iv i1, iv i2, iv i3, iv 4, iv p1, iv y0, iv y1, iv y2, iv y3, iv y4, iv 6, rv b1, rv b16, .unset] []) (fun _ z_ => XS.icmpNo X71.here hx rfl (hb hby at_378) rfl (tlt (by decide : ((3 : Int32) < (6 : Int32)))).2.2.2 z_) ?_
    refine own_g (own_F T71 m 383 #[iv i0, iv i1, iv i2, iv i3, iv 4, iv p1, iv y0, iv y1, iv y2, iv y3, iv y4, iv 6, rv b1, rv b16, .unset] [(.ref b16)]) (fun _ z_ => XS.aload X71.here hx rfl (hb hby at_381) rfl rfl z_) ?_
    refine own_g (own_F T71 m 385 #[iv i0, iv i1, iv i2, iv i3, iv 4, iv p1, iv y0, iv y1, iv y2, iv y3, iv y4, iv 6, rv b1, rv b16, .unset] [(.int p1), (.ref b16)]) (fun _ z_ => XS.iload X71.here hx rfl (hb hby at_383) rfl z_) ?_
    refine own_g (own_F T71 m 386 #[iv i0, iv i1, iv i2, iv i3, iv 4, iv p1, iv y0, iv y1, iv y2, iv y3, iv y4, iv 6, rv b1, rv b16, .unset] [(.int 3), (.int p1), (.ref b16)]) (fun _ z_ => XS.iconst X71.here hx rfl (hb hby at_385) z_) ?_
    refine own_g (own_F T71 m 387 #[iv i0, iv i1, iv i2, iv i3, iv 4, iv p1, iv y0, iv y1, iv y2, iv y3, iv y4, iv 6, rv b1, rv b16, .unset] [(.int (p1 + (3 : Int32))), (.ref b16)]) (fun _ z_ => XS.iadd X71.here hx rfl (hb hby at_386) rfl z_) ?_
    refine own_g (own_F T71 m 389 #[iv i0, iv i1, iv i2, iv i3, iv 4, iv p1, iv y0, iv y1, iv y2, iv y3, iv y4, iv 6, rv b1, rv b16, .unset] [(.ref b1), (.int (p1 + (3 : Int32))), (.ref b16)]) (fun _ z_ => XS.aload X71.here hx rfl (hb hby at_387) rfl rfl z_) ?_
    refine own_g (own_F T71 m 390 #[iv i0, iv i1, iv i2, iv i3, iv 4, iv p1, iv y0, iv y1, iv y2, iv y3, iv y4, iv 6, rv b1, rv b16, .unset] [(.int 3), (.ref b1), (.int (p1 + (3 : Int32))), (.ref b16)]) (fun _ z_ => XS.iconst X71.here hx rfl (hb hby at_389) z_) ?_
    refine own_cald X71 hx hZ e71 (((((((((((((((A15.ext E16).other W17 ne_b1_b16).other W18 ne_b1_b16).other W19 ne_b1_b16).other W20 ne_b1_b16).other W21 ne_b1_b16).other W22 ne_b1_b16).other W23 ne_b1_b16).other W24 ne_b1_b16).other W25 ne_b1_b16).other W26 ne_b1_b16).other W27 ne_b1_b16).other W69 ne_b1_b16).other W70 ne_b1_b16).other W71 ne_b1_b16) 3 rfl (by decide) (hb hby at_390) ?_
    show own_Ends p e below s _ _ _ (own_F T71 m 391 #[iv i0, iv i1, iv i2, iv i3, iv 4, iv p1, iv y0, iv y1, iv y2, iv y3, iv y4, iv 6, rv b1, rv b16, .unset] [(.int (g15 3)), (.int (p1 + (3 : Int32))), (.ref b16)])
    rw [q15_3]
    refine own_cast X71 hx hZ e71 A71 (P + 3) (own_padd hp hP (3 : Int32) 3 (by decide) (by decide)) (own_pl hP 3) c3_ (own_narC (own_sym_rng hs3).1) (hb hby at_391) ?_
    intro T72 h72 X72 e72 W72 A72
    have N72 := Fr.snoc X72 N71 ge_b16
    obtain ⟨g72, hg72⟩ : ∃ gq_ : Nat → Int32, gq_ = fun q_ => if q_ = (P + 3) then c3_ else g71 q_ := ⟨_, rfl⟩
    have A72 : own_A Z h72 b16 .char 11 (fun q_ => .int (g72 q_)) := by rw [hg72]; exact A72
    show own_Ends p e below s _ _ _ (own_F T72 m 392 #[iv i0, iv i1, iv i2, iv i3, iv 4, iv p1, iv y0, iv y1, iv y2, iv y3, iv y4, iv 6, rv b1, rv b16, .unset] [])
    have rg72 := own_rngs hg72 rg71 (own_sym_rng hs3).1
    refine own_g (own_F T72 m 394 #[iv i0, iv i1, iv i2, iv i3, iv 4, iv p1, iv y0, iv y1, iv y2, iv y3, iv y4, iv 6, rv b1, rv b16, .unset] [(.int 6)]) (fun _ z_ => XS.iload X72.here hx rfl (hb hby at_392) rfl z_) ?_
    refine own_g (own_F T72 m 395 #[iv i0, iv i1, iv i2, iv i3, iv 4, iv p1, iv y0, iv y1, iv y2, iv y3, iv y4, iv 6, rv b1, rv b16, .unset] [(.int 4), (.int 6)]) (fun _ z_ => XS.iconst X72.here hx rfl (hb hby at_394) z_) ?_
    refine own_g (own_F T72 m 398 #[iv i0, iv i1, iv i2, iv i3, iv 4, iv p1, iv y0, iv y1, iv y2, iv y3, iv y4, iv 6, rv b1, rv b16, .unset] []) (fun _ z_ => XS.icmpNo X72.here hx rfl (hb hby at_395) rfl (tlt (by decide : ((4 : Int32) < (6 : Int32)))).2.2.2 z_) ?_
    refine own_g (own_F T72 m 400 #[iv i0, iv i1, iv i2, iv i3, iv 4, iv p1, iv y0, iv y1, iv y2, iv y3, iv y4, iv 6, rv b1, rv b16, .unset] [(.ref b16)]) (fun _ z_ => XS.aload X72.here hx rfl (hb hby at_398) rfl rfl z_) ?_
    refine own_g (own_F T72 m 402 #[iv i0, iv i1, iv i2, iv i3, iv 4, iv p1, iv y0, iv y1, iv y2, iv y3, iv y4, iv 6, rv b1, rv b16, .unset] [(.int p1), (.ref b16)]) (fun _ z_ => XS.iload X72.here hx rfl (hb hby at_400) rfl z_) ?_
    refine own_g (own_F T72 m 403 #[iv i0, iv i1, iv i2, iv i3, iv 4, iv p1, iv y0, iv y1, iv y2, iv y3, iv y4, iv 6, rv b1, rv b16, .unset] [(.int 4), (.int p1), (.ref b16)]) (fun _ z_ => XS.iconst X72.here hx rfl (hb hby at_402) z_) ?_
    refine own_g (own_F T72 m 404 #[iv i0, iv i1, iv i2, iv i3, iv 4, iv p1, iv y0, iv y1, iv y2, iv y3, iv y4, iv 6, rv b1, rv b16, .unset] [(.int (p1 + (4 : Int32))), (.ref b16)]) (fun _ z_ => XS.iadd X72.here hx rfl (hb hby at_403) rfl z_) ?_
    refine own_g (own_F T72 m 406 #[iv i0, iv i1, iv i2, iv i3, iv 4, iv p1, iv y0, iv y1, iv y2, iv y3, iv y4, iv 6, rv b1, rv b16, .unset] [(.ref b1), (.int (p1 + (4 : Int32))), (.ref b16)]) (fun _ z_ => XS.aload X72.here hx rfl (hb hby at_404) rfl rfl z_) ?_
    refine own_g (own_F T72 m 407 #[iv i0, iv i1, iv i2, iv i3, iv 4, iv p1, iv y0, iv y1, iv y2, iv y3, iv y4, iv 6, rv b1, rv b16, .unset] [(.int 4), (.ref b1), (.int (p1 + (4 : Int32))), (.ref b16)]) (fun _ z_ => XS.iconst X72.here hx rfl (hb hby at_406) z_) ?_
    refine own_cald X72 hx hZ e72 ((((((((((((((((A15.ext E16).other W17 ne_b1_b16).other W18 ne_b1_b16).other W19 ne_b1_b16).other W20 ne_b1_b16).other W21 ne_b1_b16).other W22 ne_b1_b16).other W23 ne_b1_b16).other W24 ne_b1_b16).other W25 ne_b1_b16).other W26 ne_b1_b16).other W27 ne_b1_b16).other W69 ne_b1_b16).other W70 ne_b1_b16).other W71 ne_b1_b16).other W72 ne_b1_b16) 4 rfl (by decide) (hb hby at_407) ?_
    show own_Ends p e below s _ _ _ (own_F T72 m 408 #[iv i0, iv i1, iv i2, iv i3, iv 4, iv p1, iv y0, iv y1, iv y2, iv y3, iv y4, iv 6, rv b1, rv b16, .unset] [(.int (g15 4)), (.int (p1 + (4 : Int32))), (.ref b16)])
    rw [q15_4]
    refine own_cast X72 hx hZ e72 A72 (P + 4) (own_padd hp hP (4 : Int32) 4 (by decide) (by decide)) (own_pl hP 4) c4_ (own_narC (own_sym_rng hs4).1) (hb hby at_408) ?_
    intro T73 h73 X73 e73 W73 A73
    have N73 := Fr.snoc X73 N72 ge_b16
    obtain ⟨g73, hg73⟩ : ∃ gq_ : Nat → Int32, gq_ = fun q_ => if q_ = (P + 4) then c4_ else g72 q_ := ⟨_, rfl⟩
    have A73 : own_A Z h73 b16 .char 11 (fun q_ => .int (g73 q_)) := by rw [hg73]; exact A73
    show own_Ends p e below s _ _ _ (own_F T73 m 409 #[iv i0, iv i1, iv i2, iv i3, iv 4, iv p1, iv y0, iv y1, iv y2, iv y3, iv y4, iv 6, rv b1, rv b16, .unset] [])
    have rg73 := own_rngs hg73 rg72 (own_sym_rng hs4).1
    refine own_g (own_F T73 m 411 #[iv i0, iv i1, iv i2, iv i3, iv 4, iv p1, iv y0, iv y1, iv y2, iv y3, iv y4, iv 6, rv b1, rv b16, .unset] [(.int 6)]) (fun _ z_ => XS.iload X73.here hx rfl (hb hby at_409) rfl z_) ?_
    refine own_g (own_F T73 m 412 #[iv i0, iv i1, iv i2, iv i3, iv 4, iv p1, iv y0, iv y1, iv y2, iv y3, iv y4, iv 6, rv b1, rv b16, .unset] [(.int 5), (.int 6)]) (fun _ z_ => XS.iconst X73.here hx rfl (hb hby at_411) z_) ?_
    refine own_g (own_F T73 m 415 #[iv i0, iv i1, iv i2, iv i3, iv 4, iv p1, iv y0, iv y1, iv y2, iv y3, iv y4, iv 6, rv b1, rv b16, .unset] []) (fun _ z_ => XS.icmpNo X73.here hx rfl (hb hby at_412) rfl (tlt (by decide : ((5 : Int32) < (6 : Int32)))).2.2.2 z_) ?_
    refine own_g (own_F T73 m 417 #[iv i0, iv i1, iv i2, iv i3, iv 4, iv p1, iv y0, iv y1, iv y2, iv y3, iv y4, iv 6, rv b1, rv b16, .unset] [(.ref b16)]) (fun _ z_ => XS.aload X73.here hx rfl (hb hby at_415) rfl rfl z_) ?_
    refine own_g (own_F T73 m 419 #[iv i0, iv i1, iv i2, iv i3, iv 4, iv p1, iv y0, iv y1, iv y2, iv y3, iv y4, iv 6, rv b1, rv b16, .unset] [(.int p1), (.ref b16)]) (fun _ z_ => XS.iload X73.here hx rfl (hb hby at_417) rfl z_) ?_
    refine own_g (own_F T73 m 420 #[iv i0, iv i1, iv i2, iv i3, iv 4, iv p1, iv y0, iv y1, iv y2, iv y3, iv y4, iv 6, rv b1, rv b16, .unset] [(.int 5), (.int p1), (.ref b16)]) (fun _ z_ => XS.iconst X73.here hx rfl (hb hby at_419) z_) ?_
    refine own_g (own_F T73 m 421 #[iv i0, iv i1, iv i2, iv i3, iv 4, iv p1, iv y0, iv y1, iv y2, iv y3, iv y4, iv 6, rv b1, rv b16, .unset] [(.int (p1 + (5 : Int32))), (.ref b16)]) (fun _ z_ => XS.iadd X73.here hx rfl (hb hby at_420) rfl z_) ?_
    refine own_g (own_F T73 m 423 #[iv i0, iv i1, iv i2, iv i3, iv 4, iv p1, iv y0, iv y1, iv y2, iv y3, iv y4, iv 6, rv b1, rv b16, .unset] [(.ref b1), (.int (p1 + (5 : Int32))), (.ref b16)]) (fun _ z_ => XS.aload X73.here hx rfl (hb hby at_421) rfl rfl z_) ?_
    refine own_g (own_F T73 m 424 #[iv i0, iv i1, iv i2, iv i3, iv 4, iv p1, iv y0, iv y1, iv y2, iv y3, iv y4, iv 6, rv b1, rv b16, .unset] [(.int 5), (.ref b1), (.int (p1 + (5 : Int32))), (.ref b16)]) (fun _ z_ => XS.iconst X73.here hx rfl (hb hby at_423) z_) ?_
    refine own_cald X73 hx hZ e73 (((((((((((((((((A15.ext E16).other W17 ne_b1_b16).other W18 ne_b1_b16).other W19 ne_b1_b16).other W20 ne_b1_b16).other W21 ne_b1_b16).other W22 ne_b1_b16).other W23 ne_b1_b16).other W24 ne_b1_b16).other W25 ne_b1_b16).other W26 ne_b1_b16).other W27 ne_b1_b16).other W69 ne_b1_b16).other W70 ne_b1_b16).other W71 ne_b1_b16).other W72 ne_b1_b16).other W73 ne_b1_b16) 5 rfl (by decide) (hb hby at_424) ?_
    show own_Ends p e below s _ _ _ (own_F T73 m 425 #[iv i0, iv i1, iv i2, iv i3, iv 4, iv p1, iv y0, iv y1, iv y2, iv y3, iv y4, iv 6, rv b1, rv b16, .unset] [(.int (g15 5)), (.int (p1 + (5 : Int32))), (.ref b16)])
    rw [q15_5]
    refine own_cast X73 hx hZ e73 A73 (P + 5) (own_padd hp hP (5 : Int32) 5 (by decide) (by decide)) (own_pl hP 5) c5_ (own_narC (own_sym_rng hs5).1) (hb hby at_425) ?_
    intro T74 h74 X74 e74 W74 A74
    have N74 := Fr.snoc X74 N73 ge_b16
    obtain ⟨g74, hg74⟩ : ∃ gq_ : Nat → Int32, gq_ = fun q_ => if q_ = (P + 5) then c5_ else g73 q_ := ⟨_, rfl⟩
    have A74 : own_A Z h74 b16 .char 11 (fun q_ => .int (g74 q_)) := by rw [hg74]; exact A74
    show own_Ends p e below s _ _ _ (own_F T74 m 426 #[iv i0, iv i1, iv i2, iv i3, iv 4, iv p1, iv y0, iv y1, iv y2, iv y3, iv y4, iv 6, rv b1, rv b16, .unset] [])
    have rg74 := own_rngs hg74 rg73 (own_sym_rng hs5).1
    refine own_g (own_F T74 m 428 #[iv i0, iv i1, iv i2, iv i3, iv 4, iv p1, iv y0, iv y1, iv y2, iv y3, iv y4, iv 6, rv b1, rv b16, .unset] [(.int 6)]) (fun _ z_ => XS.iload X74.here hx rfl (hb hby at_426) rfl z_) ?_
    refine own_g (own_F T74 m 430 #[iv i0, iv i1, iv i2, iv i3, iv 4, iv p1, iv y0, iv y1, iv y2, iv y3, iv y4, iv 6, rv b1, rv b16, .unset] [(.int 6), (.int 6)]) (fun _ z_ => XS.bipush X74.here hx rfl (hb hby at_428) z_) ?_
    refine own_g (own_F T74 m 446 #[iv i0, iv i1, iv i2, iv i3, iv 4, iv p1, iv y0, iv y1, iv y2, iv y3, iv y4, iv 6, rv b1, rv b16, .unset] []) (fun _ z_ => XS.icmpYes X74.here hx rfl (pc0 := 430) (pc' := 446) rfl (hb hby at_430) rfl (flt (by decide : ¬ ((6 : Int32) < (6 : Int32)))).2.2.2 (by decide) (by decide) z_) ?_
    obtain ⟨T75, h75, X75, e75, E75, A75, D75, -, st75⟩ := newO X74 hx hZ hown (own_w hw 5) (own_w hw 6) (own_w hw 7) e74 (g := (mkF m 446 #[iv i0, iv i1, iv i2, iv i3, iv 4, iv p1, iv y0, iv y1, iv y2, iv y3, iv y4, iv 6, rv b1, rv b16, .unset] [])) rfl (hb hby at_446) (by decide) (by decide)
    obtain ⟨b75, g75⟩ : ∃ z, z = h74.size := ⟨_, rfl⟩
    rw [← g75] at A75 D75 st75
    have sz_b75 : h0.size ≤ b75 := Nat.le_trans (Nat.le_trans (Nat.le_trans (Nat.le_trans (Nat.le_trans (Nat.le_trans (Nat.le_trans (Nat.le_trans (Nat.le_trans (Nat.le_trans (Nat.le_trans (Nat.le_trans (Nat.le_trans (Nat.le_trans (Nat.le_trans (Nat.le_trans (Nat.le_trans (Nat.le_trans (Nat.le_trans (Nat.le_trans (Nat.le_trans (Nat.le_trans (Nat.le_trans (Nat.le_trans (Nat.le_trans (Nat.le_trans (Nat.le_trans (Nat.le_refl h0.size) E1.1) (Nat.le_of_eq W3.size.symm)) (Nat.le_of_eq W5.size.symm)) (Nat.le_of_eq W7.size.symm)) (Nat.le_of_eq W9.size.symm)) (Nat.le_of_eq W11.size.symm)) (Nat.le_of_eq W13.size.symm)) (Nat.le_of_eq W15.size.symm)) E16.1) (Nat.le_of_eq W17.size.symm)) (Nat.le_of_eq W18.size.symm)) (Nat.le_of_eq W19.size.symm)) (Nat.le_of_eq W20.size.symm)) (Nat.le_of_eq W21.size.symm)) (Nat.le_of_eq W22.size.symm)) (Nat.le_of_eq W23.size.symm)) (Nat.le_of_eq W24.size.symm)) (Nat.le_of_eq W25.size.symm)) (Nat.le_of_eq W26.size.symm)) (Nat.le_of_eq W27.size.symm)) (Nat.le_of_eq W69.size.symm)) (Nat.le_of_eq W70.size.symm)) (Nat.le_of_eq W71.size.symm)) (Nat.le_of_eq W72.size.symm)) (Nat.le_of_eq W73.size.symm)) (Nat.le_of_eq W74.size.symm)) (Nat.le_of_eq g75.symm)
    have ge_b75 : n0 ≤ b75 := Nat.le_trans (Nat.le_trans (Nat.le_trans (Nat.le_trans (Nat.le_trans (Nat.le_trans (Nat.le_trans (Nat.le_trans (Nat.le_trans (Nat.le_trans (Nat.le_trans (Nat.le_trans (Nat.le_trans (Nat.le_trans (Nat.le_trans (Nat.le_trans (Nat.le_trans (Nat.le_trans (Nat.le_trans (Nat.le_trans (Nat.le_trans (Nat.le_trans (Nat.le_trans (Nat.le_trans (Nat.le_trans (Nat.le_trans (Nat.le_trans Z0 E1.1) (Nat.le_of_eq W3.size.symm)) (Nat.le_of_eq W5.size.symm)) (Nat.le_of_eq W7.size.symm)) (Nat.le_of_eq W9.size.symm)) (Nat.le_of_eq W11.size.symm)) (Nat.le_of_eq W13.size.symm)) (Nat.le_of_eq W15.size.symm)) E16.1) (Nat.le_of_eq W17.size.symm)) (Nat.le_of_eq W18.size.symm)) (Nat.le_of_eq W19.size.symm)) (Nat.le_of_eq W20.size.symm)) (Nat.le_of_eq W21.size.symm)) (Nat.le_of_eq W22.size.symm)) (Nat.le_of_eq W23.size.symm)) (Nat.le_of_eq W24.size.symm)) (Nat.le_of_eq W25.size.symm)) (Nat.le_of_eq W26.size.symm)) (Nat.le_of_eq W27.size.symm)) (Nat.le_of_eq W69.size.symm)) (Nat.le_of_eq W70.size.symm)) (Nat.le_of_eq W71.size.symm)) (Nat.le_of_eq W72.size.symm)) (Nat.le_of_eq W73.size.symm)) (Nat.le_of_eq W74.size.symm)) (Nat.le_of_eq g75.symm)
    have ne_b1_b75 : b1 ≠ b75 := Nat.ne_of_lt (Nat.lt_of_lt_of_le ((((((((((((((((((A15.ext E16).other W17 ne_b1_b16).other W18 ne_b1_b16).other W19 ne_b1_b16).other W20 ne_b1_b16).other W21 ne_b1_b16).other W22 ne_b1_b16).other W23 ne_b1_b16).other W24 ne_b1_b16).other W25 ne_b1_b16).other W26 ne_b1_b16).other W27 ne_b1_b16).other W69 ne_b1_b16).other W70 ne_b1_b16).other W71 ne_b1_b16).other W72 ne_b1_b16).other W73 ne_b1_b16).other W74 ne_b1_b16).lt (Nat.le_of_eq g75.symm))
    have ne_b16_b75 : b16 ≠ b75 := Nat.ne_of_lt (Nat.lt_of_lt_of_le A74.lt (Nat.le_of_eq g75.symm))
    have F75_coder : Fld Z h75 b75 "java/lang/String" "coder" "B" (.int 0) := D75 (Or.inr (own_w hw 31)) (ty := .byte) (by decide)
    have F75_value : Fld Z h75 b75 "java/lang/String" "value" "[B" .null := D75 (Or.inr (own_w hw 33)) (ty := (.array .byte)) (by decide)
    refine own_pre (S' := (own_F T75 m 449 #[iv i0, iv i1, iv i2, iv i3, iv 4, iv p1, iv y0, iv y1, iv y2, iv y3, iv y4, iv 6, rv b1, rv b16, .unset] [(.ref b75)])) st75 ?_
    refine own_g (own_F T75 m 450 #[iv i0, iv i1, iv i2, iv i3, iv 4, iv p1, iv y0, iv y1, iv y2, iv y3, iv y4, iv 6, rv b1, rv b16, .unset] [(.ref b75), (.ref b75)]) (fun _ z_ => XS.dup X75.here hx rfl (hb hby at_449) rfl rfl z_) ?_
    refine own_g (own_F T75 m 452 #[iv i0, iv i1, iv i2, iv i3, iv 4, iv p1, iv y0, iv y1, iv y2, iv y3, iv y4, iv 6, rv b1, rv b16, .unset] [(.ref b16), (.ref b75), (.ref b75)]) (fun _ z_ => XS.aload X75.here hx rfl (hb hby at_450) rfl rfl z_) ?_
    refine own_callI (y := (⟨"java/lang/String", "<init>", "([C)V"⟩ : MethodName)) (b := b75) X75 hx hZ hown rfl (own_w hw 8) (own_w hw 9) (own_w hw 10) (own_w hw 7) (by decide) e75 (hM := own_si l Z a0 hw [] b75 b16 11 (11 : Int32) zc g74 h75 n0 (Nat.le_trans (Nat.le_trans (Nat.le_trans (Nat.le_trans (Nat.le_trans (Nat.le_trans (Nat.le_trans (Nat.le_trans (Nat.le_trans (Nat.le_trans (Nat.le_trans (Nat.le_trans (Nat.le_trans (Nat.le_trans (Nat.le_trans (Nat.le_trans (Nat.le_trans (Nat.le_trans (Nat.le_trans (Nat.le_trans (Nat.le_trans (Nat.le_trans (Nat.le_trans (Nat.le_trans (Nat.le_trans (Nat.le_trans (Nat.le_trans Z0 E1.1) (Nat.le_of_eq W3.size.symm)) (Nat.le_of_eq W5.size.symm)) (Nat.le_of_eq W7.size.symm)) (Nat.le_of_eq W9.size.symm)) (Nat.le_of_eq W11.size.symm)) (Nat.le_of_eq W13.size.symm)) (Nat.le_of_eq W15.size.symm)) E16.1) (Nat.le_of_eq W17.size.symm)) (Nat.le_of_eq W18.size.symm)) (Nat.le_of_eq W19.size.symm)) (Nat.le_of_eq W20.size.symm)) (Nat.le_of_eq W21.size.symm)) (Nat.le_of_eq W22.size.symm)) (Nat.le_of_eq W23.size.symm)) (Nat.le_of_eq W24.size.symm)) (Nat.le_of_eq W25.size.symm)) (Nat.le_of_eq W26.size.symm)) (Nat.le_of_eq W27.size.symm)) (Nat.le_of_eq W69.size.symm)) (Nat.le_of_eq W70.size.symm)) (Nat.le_of_eq W71.size.symm)) (Nat.le_of_eq W72.size.symm)) (Nat.le_of_eq W73.size.symm)) (Nat.le_of_eq W74.size.symm)) E75.1) (by decide) (by decide) (by decide) hzc (A74.ext E75) (fun i _ => rg74 i) A75 F75_value F75_coder (((((((((((((((((((((((((((S_cs.ext E1).wr W3).wr W5).wr W7).wr W9).wr W11).wr W13).wr W15).ext E16).wr W17).wr W18).wr W19).wr W20).wr W21).wr W22).wr W23).wr W24).wr W25).wr W26).wr W27).wr W69).wr W70).wr W71).wr W72).wr W73).wr W74).ext E75) (((((((((((((((((((((((((((S_ad.ext E1).wr W3).wr W5).wr W7).wr W9).wr W11).wr W13).wr W15).ext E16).wr W17).wr W18).wr W19).wr W20).wr W21).wr W22).wr W23).wr W24).wr W25).wr W26).wr W27).wr W69).wr W70).wr W71).wr W72).wr W73).wr W74).ext E75) (((((((((((((((((((((((((((S_hi.ext E1).wr W3).wr W5).wr W7).wr W9).wr W11).wr W13).wr W15).ext E16).wr W17).wr W18).wr W19).wr W20).wr W21).wr W22).wr W23).wr W24).wr W25).wr W26).wr W27).wr W69).wr W70).wr W71).wr W72).wr W73).wr W74).ext E75) (((((((((((((((((((((((((((S_lo.ext E1).wr W3).wr W5).wr W7).wr W9).wr W11).wr W13).wr W15).ext E16).wr W17).wr W18).wr W19).wr W20).wr W21).wr W22).wr W23).wr W24).wr W25).wr W26).wr W27).wr W69).wr W70).wr W71).wr W72).wr W73).wr W74).ext E75) ge_b75 (Ne.symm ne_b16_b75)) (W := 1) (pc := 452) (Ls := #[iv i0, iv i1, iv i2, iv i3, iv 4, iv p1, iv y0, iv y1, iv y2, iv y3, iv y4, iv 6, rv b1, rv b16, .unset]) (argsL := [(.ref b16)]) (rest := [(.ref b75)]) (st0 := [(.ref b16), (.ref b75), (.ref b75)]) (by rw [hml]; rfl) (lenOf own_pd15 rfl) rfl (Nat.le_of_eq rfl) (hb hby at_452) (by decide) (by decide) (by decide) (by decide) ?_
    intro v76 T76 L76 X76 hQ76
    obtain ⟨rfl, Nq76, K76, Sx76⟩ := hQ76
    have N76 := Fr.app N74 Nq76
    show own_Ends p e below s _ _ _ (own_F T76 m 455 #[iv i0, iv i1, iv i2, iv i3, iv 4, iv p1, iv y0, iv y1, iv y2, iv y3, iv y4, iv 6, rv b1, rv b16, .unset] [(.ref b75)])
    refine own_g (own_F T76 m 457 #[iv i0, iv i1, iv i2, iv i3, iv 4, iv p1, iv y0, iv y1, iv y2, iv y3, iv y4, iv 6, rv b1, rv b16, .unset] [(.int p1), (.ref b75)]) (fun _ z_ => XS.iload X76.here hx rfl (hb hby at_455) rfl z_) ?_
    refine own_g (own_F T76 m 459 #[iv i0, iv i1, iv i2, iv i3, iv 4, iv p1, iv y0, iv y1, iv y2, iv y3, iv y4, iv 6, rv b1, rv b16, .unset] [(.int p1), (.int p1), (.ref b75)]) (fun _ z_ => XS.iload X76.here hx rfl (hb hby at_457) rfl z_) ?_
    refine own_g (own_F T76 m 461 #[iv i0, iv i1, iv i2, iv i3, iv 4, iv p1, iv y0, iv y1, iv y2, iv y3, iv y4, iv 6, rv b1, rv b16, .unset] [(.int 6), (.int p1), (.int p1), (.ref b75)]) (fun _ z_ => XS.iload X76.here hx rfl (hb hby at_459) rfl z_) ?_
    refine own_g (own_F T76 m 462 #[iv i0, iv i1, iv i2, iv i3, iv 4, iv p1, iv y0, iv y1, iv y2, iv y3, iv y4, iv 6, rv b1, rv b16, .unset] [(.int (p1 + (6 : Int32))), (.int p1), (.ref b75)]) (fun _ z_ => XS.iadd X76.here hx rfl (hb hby at_461) rfl z_) ?_
    have tq0 : own_sym (g74 (P + 0)) v0 := by rw [show g74 (P + 0) = c0_ from by simp [hg74, hg73, hg72, hg71, hg70, hg69]]; exact hs0
    have tq1 : own_sym (g74 (P + 1)) v1 := by rw [show g74 (P + 1) = c1_ from by simp [hg74, hg73, hg72, hg71, hg70, hg69]]; exact hs1
    have tq2 : own_sym (g74 (P + 2)) v2 := by rw [show g74 (P + 2) = c2_ from by simp [hg74, hg73, hg72, hg71, hg70, hg69]]; exact hs2
    have tq3 : own_sym (g74 (P + 3)) v3 := by rw [show g74 (P + 3) = c3_ from by simp [hg74, hg73, hg72, hg71, hg70, hg69]]; exact hs3
    have tq4 : own_sym (g74 (P + 4)) v4 := by rw [show g74 (P + 4) = c4_ from by simp [hg74, hg73, hg72, hg71, hg70, hg69]]; exact hs4
    have tq5 : own_sym (g74 (P + 5)) v5 := by rw [show g74 (P + 5) = c5_ from by simp [hg74, hg73, hg72, hg71, hg70, hg69]]; exact hs5
    refine own_callS (y := (⟨"com/example/claimgate/claimgate/jose/Base64Url", "decode", "(Ljava/lang/String;II)[B"⟩ : MethodName)) X76 hx hZ hown (own_w hw 34) (own_w hw 35) (own_w hw 36) (own_w hw 37) (by decide) (rfl : T76.heap = T76.heap) (hM := own_dec4 l Z a0 hw [] b75 p1 (p1 + (6 : Int32)) zc P g74 sv hsv y0 y1 y2 y3 y4 v0 v1 v2 v3 v4 v5 T76.heap n0 (Nat.le_trans (Nat.le_trans (Nat.le_trans (Nat.le_trans (Nat.le_trans (Nat.le_trans (Nat.le_trans (Nat.le_trans (Nat.le_trans (Nat.le_trans (Nat.le_trans (Nat.le_trans (Nat.le_trans (Nat.le_trans (Nat.le_trans (Nat.le_trans (Nat.le_trans (Nat.le_trans (Nat.le_trans (Nat.le_trans (Nat.le_trans (Nat.le_trans (Nat.le_trans (Nat.le_trans (Nat.le_trans (Nat.le_trans (Nat.le_trans (Nat.le_trans Z0 E1.1) (Nat.le_of_eq W3.size.symm)) (Nat.le_of_eq W5.size.symm)) (Nat.le_of_eq W7.size.symm)) (Nat.le_of_eq W9.size.symm)) (Nat.le_of_eq W11.size.symm)) (Nat.le_of_eq W13.size.symm)) (Nat.le_of_eq W15.size.symm)) E16.1) (Nat.le_of_eq W17.size.symm)) (Nat.le_of_eq W18.size.symm)) (Nat.le_of_eq W19.size.symm)) (Nat.le_of_eq W20.size.symm)) (Nat.le_of_eq W21.size.symm)) (Nat.le_of_eq W22.size.symm)) (Nat.le_of_eq W23.size.symm)) (Nat.le_of_eq W24.size.symm)) (Nat.le_of_eq W25.size.symm)) (Nat.le_of_eq W26.size.symm)) (Nat.le_of_eq W27.size.symm)) (Nat.le_of_eq W69.size.symm)) (Nat.le_of_eq W70.size.symm)) (Nat.le_of_eq W71.size.symm)) (Nat.le_of_eq W72.size.symm)) (Nat.le_of_eq W73.size.symm)) (Nat.le_of_eq W74.size.symm)) E75.1) K76.1) hp hP (own_padd hp hP (6 : Int32) 6 (by decide) (by decide)) hzc Sx76 (own_sta_keep (((((((((((((((((((((((((((S_cs.ext E1).wr W3).wr W5).wr W7).wr W9).wr W11).wr W13).wr W15).ext E16).wr W17).wr W18).wr W19).wr W20).wr W21).wr W22).wr W23).wr W24).wr W25).wr W26).wr W27).wr W69).wr W70).wr W71).wr W72).wr W73).wr W74).ext E75) K76 (allS (own_plainE A75) all0)) (own_sta_keep (((((((((((((((((((((((((((S_sf.ext E1).wr W3).wr W5).wr W7).wr W9).wr W11).wr W13).wr W15).ext E16).wr W17).wr W18).wr W19).wr W20).wr W21).wr W22).wr W23).wr W24).wr W25).wr W26).wr W27).wr W69).wr W70).wr W71).wr W72).wr W73).wr W74).ext E75) K76 (allS (own_plainE A75) all0)) (own_sta_keep (((((((((((((((((((((((((((S_ad.ext E1).wr W3).wr W5).wr W7).wr W9).wr W11).wr W13).wr W15).ext E16).wr W17).wr W18).wr W19).wr W20).wr W21).wr W22).wr W23).wr W24).wr W25).wr W26).wr W27).wr W69).wr W70).wr W71).wr W72).wr W73).wr W74).ext E75) K76 (allS (own_plainE A75) all0)) (own_sta_keep (((((((((((((((((((((((((((S_hi.ext E1).wr W3).wr W5).wr W7).wr W9).wr W11).wr W13).wr W15).ext E16).wr W17).wr W18).wr W19).wr W20).wr W21).wr W22).wr W23).wr W24).wr W25).wr W26).wr W27).wr W69).wr W70).wr W71).wr W72).wr W73).wr W74).ext E75) K76 (allS (own_plainE A75) all0)) (own_sta_keep (((((((((((((((((((((((((((S_lo.ext E1).wr W3).wr W5).wr W7).wr W9).wr W11).wr W13).wr W15).ext E16).wr W17).wr W18).wr W19).wr W20).wr W21).wr W22).wr W23).wr W24).wr W25).wr W26).wr W27).wr W69).wr W70).wr W71).wr W72).wr W73).wr W74).ext E75) K76 (allS (own_plainE A75) all0)) tq0 tq1 tq2 tq3 tq4 tq5 hr0 hr1 hr2 hr3 hr4 hr5 hc0 hc1 hc2 hc3 hc4) (W := 0) (pc := 462) (Ls := #[iv i0, iv i1, iv i2, iv i3, iv 4, iv p1, iv y0, iv y1, iv y2, iv y3, iv y4, iv 6, rv b1, rv b16, .unset]) (argsL := [(.ref b75), (.int p1), (.int (p1 + (6 : Int32)))]) (rest := []) (st0 := [(.int (p1 + (6 : Int32))), (.int p1), (.ref b75)]) (by rw [hml]; rfl) (lenOf own_pd16 rfl) rfl (Nat.le_of_eq rfl) (hb hby at_462) (by decide) (by decide) (by decide) (by decide) ?_
    intro v77 T77 L77 X77 hQ77
    obtain ⟨ra77, gr77, rfl, Nq77, K77, ge_ra77, Ar77, qr0, qr1, qr2, qr3⟩ := hQ77
    have N77 := Fr.app N76 Nq77
    show own_Ends p e below s _ _ _ (own_F T77 m 465 #[iv i0, iv i1, iv i2, iv i3, iv 4, iv p1, iv y0, iv y1, iv y2, iv y3, iv y4, iv 6, rv b1, rv b16, .unset] [(.ref ra77)])
    refine own_g (own_F T77 m 467 #[iv i0, iv i1, iv i2, iv i3, iv 4, iv p1, iv y0, iv y1, iv y2, iv y3, iv y4, iv 6, rv b1, rv b16, rv ra77] []) (fun _ z_ => XS.astore X77.here hx rfl (hb hby at_465) rfl rfl (l' := #[iv i0, iv i1, iv i2, iv i3, iv 4, iv p1, iv y0, iv y1, iv y2, iv y3, iv y4, iv 6, rv b1, rv b16, rv ra77]) rfl z_) ?_
    refine own_g (own_F T77 m 469 #[iv i0, iv i1, iv i2, iv i3, iv 4, iv p1, iv y0, iv y1, iv y2, iv y3, iv y4, iv 6, rv b1, rv b16, rv ra77] [(.ref ra77)]) (fun _ z_ => XS.aload X77.here hx rfl (hb hby at_467) rfl rfl z_) ?_
    refine own_alen X77 hx hZ (rfl : T77.heap = T77.heap) Ar77 (hb hby at_469) ?_
    show own_Ends p e below s _ _ _ (own_F T77 m 470 #[iv i0, iv i1, iv i2, iv i3, iv 4, iv p1, iv y0, iv y1, iv y2, iv y3, iv y4, iv 6, rv b1, rv b16, rv ra77] [(.int 4)])
    refine own_g (own_F T77 m 472 #[iv i0, iv i1, iv i2, iv i3, iv 4, iv p1, iv y0, iv y1, iv y2, iv y3, iv y4, iv 6, rv b1, rv b16, rv ra77] [(.int 4), (.int 4)]) (fun _ z_ => XS.iload X77.here hx rfl (hb hby at_470) rfl z_) ?_
    refine own_g (own_F T77 m 475 #[iv i0, iv i1, iv i2, iv i3, iv 4, iv p1, iv y0, iv y1, iv y2, iv y3, iv y4, iv 6, rv b1, rv b16, rv ra77] []) (fun _ z_ => XS.icmpNo X77.here hx rfl (hb hby at_472) rfl (teq (by decide : ((4 : Int32) = (4 : Int32)))).2 z_) ?_
    refine own_g (own_F T77 m 477 #[iv i0, iv i1, iv i2, iv i3, iv 4, iv p1, iv y0, iv y1, iv y2, iv y3, iv y4, iv 6, rv b1, rv b16, rv ra77] [(.ref ra77)]) (fun _ z_ => XS.aload X77.here hx rfl (hb hby at_475) rfl rfl z_) ?_
    refine own_g (own_F T77 m 478 #[iv i0, iv i1, iv i2, iv i3, iv 4, iv p1, iv y0, iv y1, iv y2, iv y3, iv y4, iv 6, rv b1, rv b16, rv ra77] [(.int 0), (.ref ra77)]) (fun _ z_ => XS.iconst X77.here hx rfl (hb hby at_477) z_) ?_
    refine own_g (own_F T77 m 480 #[iv i0, iv i1, iv i2, iv i3, iv 4, iv p1, iv y0, iv y1, iv y2, iv y3, iv y4, iv 6, rv b1, rv b16, rv ra77] [(.int y0), (.int 0), (.ref ra77)]) (fun _ z_ => XS.iload X77.here hx rfl (hb hby at_478) rfl z_) ?_
    refine own_callS (y := (⟨"com/example/claimgate/claimgate/jose/Base64UrlDecodePinLaw", "at", "([BII)Z"⟩ : MethodName)) X77 hx hZ hown (own_w hw 38) (own_w hw 39) (own_w hw 3) (own_w hw 40) (by decide) (rfl : T77.heap = T77.heap) (hM := own_at l Z a0 hw [] ra77 4 0 (0 : Int32) y0 gr77 T77.heap n0 (Nat.le_trans (Nat.le_trans (Nat.le_trans (Nat.le_trans (Nat.le_trans (Nat.le_trans (Nat.le_trans (Nat.le_trans (Nat.le_trans (Nat.le_trans (Nat.le_trans (Nat.le_trans (Nat.le_trans (Nat.le_trans (Nat.le_trans (Nat.le_trans (Nat.le_trans (Nat.le_trans (Nat.le_trans (Nat.le_trans (Nat.le_trans (Nat.le_trans (Nat.le_trans (Nat.le_trans (Nat.le_trans (Nat.le_trans (Nat.le_trans (Nat.le_trans (Nat.le_trans Z0 E1.1) (Nat.le_of_eq W3.size.symm)) (Nat.le_of_eq W5.size.symm)) (Nat.le_of_eq W7.size.symm)) (Nat.le_of_eq W9.size.symm)) (Nat.le_of_eq W11.size.symm)) (Nat.le_of_eq W13.size.symm)) (Nat.le_of_eq W15.size.symm)) E16.1) (Nat.le_of_eq W17.size.symm)) (Nat.le_of_eq W18.size.symm)) (Nat.le_of_eq W19.size.symm)) (Nat.le_of_eq W20.size.symm)) (Nat.le_of_eq W21.size.symm)) (Nat.le_of_eq W22.size.symm)) (Nat.le_of_eq W23.size.symm)) (Nat.le_of_eq W24.size.symm)) (Nat.le_of_eq W25.size.symm)) (Nat.le_of_eq W26.size.symm)) (Nat.le_of_eq W27.size.symm)) (Nat.le_of_eq W69.size.symm)) (Nat.le_of_eq W70.size.symm)) (Nat.le_of_eq W71.size.symm)) (Nat.le_of_eq W72.size.symm)) (Nat.le_of_eq W73.size.symm)) (Nat.le_of_eq W74.size.symm)) E75.1) K76.1) K77.1) (by decide) (fun _ => qr0) Ar77) (W := 0) (pc := 480) (Ls := #[iv i0, iv i1, iv i2, iv i3, iv 4, iv p1, iv y0, iv y1, iv y2, iv y3, iv y4, iv 6, rv b1, rv b16, rv ra77]) (argsL := [(.ref ra77), (.int 0), (.int y0)]) (rest := []) (st0 := [(.int y0), (.int 0), (.ref ra77)]) (by rw [hml]; rfl) (lenOf own_pd17 rfl) rfl (Nat.le_of_eq rfl) (hb hby at_480) (by decide) (by decide) (by decide) (by decide) ?_
    intro v78 T78 L78 X78 hQ78
    obtain ⟨rfl, Nq78, hh78⟩ := hQ78
    have N78 := Fr.app N77 Nq78
    show own_Ends p e below s _ _ _ (own_F T78 m 483 #[iv i0, iv i1, iv i2, iv i3, iv 4, iv p1, iv y0, iv y1, iv y2, iv y3, iv y4, iv 6, rv b1, rv b16, rv ra77] [(.int 1)])
    refine own_g (own_F T78 m 486 #[iv i0, iv i1, iv i2, iv i3, iv 4, iv p1, iv y0, iv y1, iv y2, iv y3, iv y4, iv 6, rv b1, rv b16, rv ra77] []) (fun _ z_ => XS.ifNo X78.here hx rfl (hb hby at_483) rfl ((if0 _ _).trans (feq (by decide : ¬ ((1 : Int32) = (0 : Int32)))).1) z_) ?_
    refine own_g (own_F T78 m 488 #[iv i0, iv i1, iv i2, iv i3, iv 4, iv p1, iv y0, iv y1, iv y2, iv y3, iv y4, iv 6, rv b1, rv b16, rv ra77] [(.ref ra77)]) (fun _ z_ => XS.aload X78.here hx rfl (hb hby at_486) rfl rfl z_) ?_
    refine own_g (own_F T78 m 489 #[iv i0, iv i1, iv i2, iv i3, iv 4, iv p1, iv y0, iv y1, iv y2, iv y3, iv y4, iv 6, rv b1, rv b16, rv ra77] [(.int 1), (.ref ra77)]) (fun _ z_ => XS.iconst X78.here hx rfl (hb hby at_488) z_) ?_
    refine own_g (own_F T78 m 491 #[iv i0, iv i1, iv i2, iv i3, iv 4, iv p1, iv y0, iv y1, iv y2, iv y3, iv y4, iv 6, rv b1, rv b16, rv ra77] [(.int y1), (.int 1), (.ref ra77)]) (fun _ z_ => XS.iload X78.here hx rfl (hb hby at_489) rfl z_) ?_
    refine own_callS (y := (⟨"com/example/claimgate/claimgate/jose/Base64UrlDecodePinLaw", "at", "([BII)Z"⟩ : MethodName)) X78 hx hZ hown (own_w hw 38) (own_w hw 39) (own_w hw 3) (own_w hw 40) (by decide) hh78 (hM := own_at l Z a0 hw [] ra77 4 1 (1 : Int32) y1 gr77 T77.heap n0 (Nat.le_trans (Nat.le_trans (Nat.le_trans (Nat.le_trans (Nat.le_trans (Nat.le_trans (Nat.le_trans (Nat.le_trans (Nat.le_trans (Nat.le_trans (Nat.le_trans (Nat.le_trans (Nat.le_trans (Nat.le_trans (Nat.le_trans (Nat.le_trans (Nat.le_trans (Nat.le_trans (Nat.le_trans (Nat.le_trans (Nat.le_trans (Nat.le_trans (Nat.le_trans (Nat.le_trans (Nat.le_trans (Nat.le_trans (Nat.le_trans (Nat.le_trans (Nat.le_trans Z0 E1.1) (Nat.le_of_eq W3.size.symm)) (Nat.le_of_eq W5.size.symm)) (Nat.le_of_eq W7.size.symm)) (Nat.le_of_eq W9.size.symm)) (Nat.le_of_eq W11.size.symm)) (Nat.le_of_eq W13.size.symm)) (Nat.le_of_eq W15.size.symm)) E16.1) (Nat.le_of_eq W17.size.symm)) (Nat.le_of_eq W18.size.symm)) (Nat.le_of_eq W19.size.symm)) (Nat.le_of_eq W20.size.symm)) (Nat.le_of_eq W21.size.symm)) (Nat.le_of_eq W22.size.symm)) (Nat.le_of_eq W23.size.symm)) (Nat.le_of_eq W24.size.symm)) (Nat.le_of_eq W25.size.symm)) (Nat.le_of_eq W26.size.symm)) (Nat.le_of_eq W27.size.symm)) (Nat.le_of_eq W69.size.symm)) (Nat.le_of_eq W70.size.symm)) (Nat.le_of_eq W71.size.symm)) (Nat.le_of_eq W72.size.symm)) (Nat.le_of_eq W73.size.symm)) (Nat.le_of_eq W74.size.symm)) E75.1) K76.1) K77.1) (by decide) (fun _ => qr1) Ar77) (W := 0) (pc := 491) (Ls := #[iv i0, iv i1, iv i2, iv i3, iv 4, iv p1, iv y0, iv y1, iv y2, iv y3, iv y4, iv 6, rv b1, rv b16, rv ra77]) (argsL := [(.ref ra77), (.int 1), (.int y1)]) (rest := []) (st0 := [(.int y1), (.int 1), (.ref ra77)]) (by rw [hml]; rfl) (lenOf own_pd17 rfl) rfl (Nat.le_of_eq rfl) (hb hby at_491) (by decide) (by decide) (by decide) (by decide) ?_
    intro v79 T79 L79 X79 hQ79
    obtain ⟨rfl, Nq79, hh79⟩ := hQ79
    have N79 := Fr.app N78 Nq79
    show own_Ends p e below s _ _ _ (own_F T79 m 494 #[iv i0, iv i1, iv i2, iv i3, iv 4, iv p1, iv y0, iv y1, iv y2, iv y3, iv y4, iv 6, rv b1, rv b16, rv ra77] [(.int 1)])
    refine own_g (own_F T79 m 497 #[iv i0, iv i1, iv i2, iv i3, iv 4, iv p1, iv y0, iv y1, iv y2, iv y3, iv y4, iv 6, rv b1, rv b16, rv ra77] []) (fun _ z_ => XS.ifNo X79.here hx rfl (hb hby at_494) rfl ((if0 _ _).trans (feq (by decide : ¬ ((1 : Int32) = (0 : Int32)))).1) z_) ?_
    refine own_g (own_F T79 m 499 #[iv i0, iv i1, iv i2, iv i3, iv 4, iv p1, iv y0, iv y1, iv y2, iv y3, iv y4, iv 6, rv b1, rv b16, rv ra77] [(.ref ra77)]) (fun _ z_ => XS.aload X79.here hx rfl (hb hby at_497) rfl rfl z_) ?_
    refine own_g (own_F T79 m 500 #[iv i0, iv i1, iv i2, iv i3, iv 4, iv p1, iv y0, iv y1, iv y2, iv y3, iv y4, iv 6, rv b1, rv b16, rv ra77] [(.int 2), (.ref ra77)]) (fun _ z_ => XS.iconst X79.here hx rfl (hb hby at_499) z_) ?_
    refine own_g (own_F T79 m 502 #[iv i0, iv i1, iv i2, iv i3, iv 4, iv p1, iv y0, iv y1, iv y2, iv y3, iv y4, iv 6, rv b1, rv b16, rv ra77] [(.int y2), (.int 2), (.ref ra77)]) (fun _ z_ => XS.iload X79.here hx rfl (hb hby at_500) rfl z_) ?_
    refine own_callS (y := (⟨"com/example/claimgate/claimgate/jose/Base64UrlDecodePinLaw", "at", "([BII)Z"⟩ : MethodName)) X79 hx hZ hown (own_w hw 38) (own_w hw 39) (own_w hw 3) (own_w hw 40) (by decide) hh79 (hM := own_at l Z a0 hw [] ra77 4 2 (2 : Int32) y2 gr77 T77.heap n0 (Nat.le_trans (Nat.le_trans (Nat.le_trans (Nat.le_trans (Nat.le_trans (Nat.le_trans (Nat.le_trans (Nat.le_trans (Nat.le_trans (Nat.le_trans (Nat.le_trans (Nat.le_trans (Nat.le_trans (Nat.le_trans (Nat.le_trans (Nat.le_trans (Nat.le_trans (Nat.le_trans (Nat.le_trans (Nat.le_trans (Nat.le_trans (Nat.le_trans (Nat.le_trans (Nat.le_trans (Nat.le_trans (Nat.le_trans (Nat.le_trans (Nat.le_trans (Nat.le_trans Z0 E1.1) (Nat.le_of_eq W3.size.symm)) (Nat.le_of_eq W5.size.symm)) (Nat.le_of_eq W7.size.symm)) (Nat.le_of_eq W9.size.symm)) (Nat.le_of_eq W11.size.symm)) (Nat.le_of_eq W13.size.symm)) (Nat.le_of_eq W15.size.symm)) E16.1) (Nat.le_of_eq W17.size.symm)) (Nat.le_of_eq W18.size.symm)) (Nat.le_of_eq W19.size.symm)) (Nat.le_of_eq W20.size.symm)) (Nat.le_of_eq W21.size.symm)) (Nat.le_of_eq W22.size.symm)) (Nat.le_of_eq W23.size.symm)) (Nat.le_of_eq W24.size.symm)) (Nat.le_of_eq W25.size.symm)) (Nat.le_of_eq W26.size.symm)) (Nat.le_of_eq W27.size.symm)) (Nat.le_of_eq W69.size.symm)) (Nat.le_of_eq W70.size.symm)) (Nat.le_of_eq W71.size.symm)) (Nat.le_of_eq W72.size.symm)) (Nat.le_of_eq W73.size.symm)) (Nat.le_of_eq W74.size.symm)) E75.1) K76.1) K77.1) (by decide) (fun _ => qr2) Ar77) (W := 0) (pc := 502) (Ls := #[iv i0, iv i1, iv i2, iv i3, iv 4, iv p1, iv y0, iv y1, iv y2, iv y3, iv y4, iv 6, rv b1, rv b16, rv ra77]) (argsL := [(.ref ra77), (.int 2), (.int y2)]) (rest := []) (st0 := [(.int y2), (.int 2), (.ref ra77)]) (by rw [hml]; rfl) (lenOf own_pd17 rfl) rfl (Nat.le_of_eq rfl) (hb hby at_502) (by decide) (by decide) (by decide) (by decide) ?_
    intro v80 T80 L80 X80 hQ80
    obtain ⟨rfl, Nq80, hh80⟩ := hQ80
    have N80 := Fr.app N79 Nq80
    show own_Ends p e below s _ _ _ (own_F T80 m 505 #[iv i0, iv i1, iv i2, iv i3, iv 4, iv p1, iv y0, iv y1, iv y2, iv y3, iv y4, iv 6, rv b1, rv b16, rv ra77] [(.int 1)])
    refine own_g (own_F T80 m 508 #[iv i0, iv i1, iv i2, iv i3, iv 4, iv p1, iv y0, iv y1, iv y2, iv y3, iv y4, iv 6, rv b1, rv b16, rv ra77] []) (fun _ z_ => XS.ifNo X80.here hx rfl (hb hby at_505) rfl ((if0 _ _).trans (feq (by decide : ¬ ((1 : Int32) = (0 : Int32)))).1) z_) ?_
    refine own_g (own_F T80 m 510 #[iv i0, iv i1, iv i2, iv i3, iv 4, iv p1, iv y0, iv y1, iv y2, iv y3, iv y4, iv 6, rv b1, rv b16, rv ra77] [(.ref ra77)]) (fun _ z_ => XS.aload X80.here hx rfl (hb hby at_508) rfl rfl z_) ?_
    refine own_g (own_F T80 m 511 #[iv i0, iv i1, iv i2, iv i3, iv 4, iv p1, iv y0, iv y1, iv y2, iv y3, iv y4, iv 6, rv b1, rv b16, rv ra77] [(.int 3), (.ref ra77)]) (fun _ z_ => XS.iconst X80.here hx rfl (hb hby at_510) z_) ?_
    refine own_g (own_F T80 m 513 #[iv i0, iv i1, iv i2, iv i3, iv 4, iv p1, iv y0, iv y1, iv y2, iv y3, iv y4, iv 6, rv b1, rv b16, rv ra77] [(.int y3), (.int 3), (.ref ra77)]) (fun _ z_ => XS.iload X80.here hx rfl (hb hby at_511) rfl z_) ?_
    refine own_callS (y := (⟨"com/example/claimgate/claimgate/jose/Base64UrlDecodePinLaw", "at", "([BII)Z"⟩ : MethodName)) X80 hx hZ hown (own_w hw 38) (own_w hw 39) (own_w hw 3) (own_w hw 40) (by decide) hh80 (hM := own_at l Z a0 hw [] ra77 4 3 (3 : Int32) y3 gr77 T77.heap n0 (Nat.le_trans (Nat.le_trans (Nat.le_trans (Nat.le_trans (Nat.le_trans (Nat.le_trans (Nat.le_trans (Nat.le_trans (Nat.le_trans (Nat.le_trans (Nat.le_trans (Nat.le_trans (Nat.le_trans (Nat.le_trans (Nat.le_trans (Nat.le_trans (Nat.le_trans (Nat.le_trans (Nat.le_trans (Nat.le_trans (Nat.le_trans (Nat.le_trans (Nat.le_trans (Nat.le_trans (Nat.le_trans (Nat.le_trans (Nat.le_trans (Nat.le_trans (Nat.le_trans Z0 E1.1) (Nat.le_of_eq W3.size.symm)) (Nat.le_of_eq W5.size.symm)) (Nat.le_of_eq W7.size.symm)) (Nat.le_of_eq W9.size.symm)) (Nat.le_of_eq W11.size.symm)) (Nat.le_of_eq W13.size.symm)) (Nat.le_of_eq W15.size.symm)) E16.1) (Nat.le_of_eq W17.size.symm)) (Nat.le_of_eq W18.size.symm)) (Nat.le_of_eq W19.size.symm)) (Nat.le_of_eq W20.size.symm)) (Nat.le_of_eq W21.size.symm)) (Nat.le_of_eq W22.size.symm)) (Nat.le_of_eq W23.size.symm)) (Nat.le_of_eq W24.size.symm)) (Nat.le_of_eq W25.size.symm)) (Nat.le_of_eq W26.size.symm)) (Nat.le_of_eq W27.size.symm)) (Nat.le_of_eq W69.size.symm)) (Nat.le_of_eq W70.size.symm)) (Nat.le_of_eq W71.size.symm)) (Nat.le_of_eq W72.size.symm)) (Nat.le_of_eq W73.size.symm)) (Nat.le_of_eq W74.size.symm)) E75.1) K76.1) K77.1) (by decide) (fun _ => qr3) Ar77) (W := 0) (pc := 513) (Ls := #[iv i0, iv i1, iv i2, iv i3, iv 4, iv p1, iv y0, iv y1, iv y2, iv y3, iv y4, iv 6, rv b1, rv b16, rv ra77]) (argsL := [(.ref ra77), (.int 3), (.int y3)]) (rest := []) (st0 := [(.int y3), (.int 3), (.ref ra77)]) (by rw [hml]; rfl) (lenOf own_pd17 rfl) rfl (Nat.le_of_eq rfl) (hb hby at_513) (by decide) (by decide) (by decide) (by decide) ?_
    intro v81 T81 L81 X81 hQ81
    obtain ⟨rfl, Nq81, hh81⟩ := hQ81
    have N81 := Fr.app N80 Nq81
    show own_Ends p e below s _ _ _ (own_F T81 m 516 #[iv i0, iv i1, iv i2, iv i3, iv 4, iv p1, iv y0, iv y1, iv y2, iv y3, iv y4, iv 6, rv b1, rv b16, rv ra77] [(.int 1)])
    refine own_g (own_F T81 m 519 #[iv i0, iv i1, iv i2, iv i3, iv 4, iv p1, iv y0, iv y1, iv y2, iv y3, iv y4, iv 6, rv b1, rv b16, rv ra77] []) (fun _ z_ => XS.ifNo X81.here hx rfl (hb hby at_516) rfl ((if0 _ _).trans (feq (by decide : ¬ ((1 : Int32) = (0 : Int32)))).1) z_) ?_
    refine own_g (own_F T81 m 521 #[iv i0, iv i1, iv i2, iv i3, iv 4, iv p1, iv y0, iv y1, iv y2, iv y3, iv y4, iv 6, rv b1, rv b16, rv ra77] [(.ref ra77)]) (fun _ z_ => XS.aload X81.here hx rfl (hb hby at_519) rfl rfl z_) ?_
    refine own_g (own_F T81 m 522 #[iv i0, iv i1, iv i2, iv i3, iv 4, iv p1, iv y0, iv y1, iv y2, iv y3, iv y4, iv 6, rv b1, rv b16, rv ra77] [(.int 4), (.ref ra77)]) (fun _ z_ => XS.iconst X81.here hx rfl (hb hby at_521) z_) ?_
    refine own_g (own_F T81 m 524 #[iv i0, iv i1, iv i2, iv i3, iv 4, iv p1, iv y0, iv y1, iv y2, iv y3, iv y4, iv 6, rv b1, rv b16, rv ra77] [(.int y4), (.int 4), (.ref ra77)]) (fun _ z_ => XS.iload X81.here hx rfl (hb hby at_522) rfl z_) ?_
    refine own_callS (y := (⟨"com/example/claimgate/claimgate/jose/Base64UrlDecodePinLaw", "at", "([BII)Z"⟩ : MethodName)) X81 hx hZ hown (own_w hw 38) (own_w hw 39) (own_w hw 3) (own_w hw 40) (by decide) hh81 (hM := own_at l Z a0 hw [] ra77 4 4 (4 : Int32) y4 gr77 T77.heap n0 (Nat.le_trans (Nat.le_trans (Nat.le_trans (Nat.le_trans (Nat.le_trans (Nat.le_trans (Nat.le_trans (Nat.le_trans (Nat.le_trans (Nat.le_trans (Nat.le_trans (Nat.le_trans (Nat.le_trans (Nat.le_trans (Nat.le_trans (Nat.le_trans (Nat.le_trans (Nat.le_trans (Nat.le_trans (Nat.le_trans (Nat.le_trans (Nat.le_trans (Nat.le_trans (Nat.le_trans (Nat.le_trans (Nat.le_trans (Nat.le_trans (Nat.le_trans (Nat.le_trans Z0 E1.1) (Nat.le_of_eq W3.size.symm)) (Nat.le_of_eq W5.size.symm)) (Nat.le_of_eq W7.size.symm)) (Nat.le_of_eq W9.size.symm)) (Nat.le_of_eq W11.size.symm)) (Nat.le_of_eq W13.size.symm)) (Nat.le_of_eq W15.size.symm)) E16.1) (Nat.le_of_eq W17.size.symm)) (Nat.le_of_eq W18.size.symm)) (Nat.le_of_eq W19.size.symm)) (Nat.le_of_eq W20.size.symm)) (Nat.le_of_eq W21.size.symm)) (Nat.le_of_eq W22.size.symm)) (Nat.le_of_eq W23.size.symm)) (Nat.le_of_eq W24.size.symm)) (Nat.le_of_eq W25.size.symm)) (Nat.le_of_eq W26.size.symm)) (Nat.le_of_eq W27.size.symm)) (Nat.le_of_eq W69.size.symm)) (Nat.le_of_eq W70.size.symm)) (Nat.le_of_eq W71.size.symm)) (Nat.le_of_eq W72.size.symm)) (Nat.le_of_eq W73.size.symm)) (Nat.le_of_eq W74.size.symm)) E75.1) K76.1) K77.1) (by decide) (fun q => absurd q (by decide)) Ar77) (W := 0) (pc := 524) (Ls := #[iv i0, iv i1, iv i2, iv i3, iv 4, iv p1, iv y0, iv y1, iv y2, iv y3, iv y4, iv 6, rv b1, rv b16, rv ra77]) (argsL := [(.ref ra77), (.int 4), (.int y4)]) (rest := []) (st0 := [(.int y4), (.int 4), (.ref ra77)]) (by rw [hml]; rfl) (lenOf own_pd17 rfl) rfl (Nat.le_of_eq rfl) (hb hby at_524) (by decide) (by decide) (by decide) (by decide) ?_
    intro v82 T82 L82 X82 hQ82
    obtain ⟨rfl, Nq82, hh82⟩ := hQ82
    have N82 := Fr.app N81 Nq82
    show own_Ends p e below s _ _ _ (own_F T82 m 527 #[iv i0, iv i1, iv i2, iv i3, iv 4, iv p1, iv y0, iv y1, iv y2, iv y3, iv y4, iv 6, rv b1, rv b16, rv ra77] [(.int 1)])
    refine own_g (own_F T82 m 530 #[iv i0, iv i1, iv i2, iv i3, iv 4, iv p1, iv y0, iv y1, iv y2, iv y3, iv y4, iv 6, rv b1, rv b16, rv ra77] []) (fun _ z_ => XS.ifNo X82.here hx rfl (hb hby at_527) rfl ((if0 _ _).trans (feq (by decide : ¬ ((1 : Int32) = (0 : Int32)))).1) z_) ?_
    refine own_g (own_F T82 m 531 #[iv i0, iv i1, iv i2, iv i3, iv 4, iv p1, iv y0, iv y1, iv y2, iv y3, iv y4, iv 6, rv b1, rv b16, rv ra77] [(.int 1)]) (fun _ z_ => XS.iconst X82.here hx rfl (hb hby at_530) z_) ?_
    refine own_g (own_F T82 m 535 #[iv i0, iv i1, iv i2, iv i3, iv 4, iv p1, iv y0, iv y1, iv y2, iv y3, iv y4, iv 6, rv b1, rv b16, rv ra77] [(.int 1)]) (fun _ z_ => XS.goto X82.here hx rfl (pc0 := 531) (pc' := 535) rfl (hb hby at_531) (by decide) (by decide) z_) ?_
    refine own_ret (t := .boolean) X82 hx hlk hrt rfl (Or.inl ⟨rfl, by simp, _, rfl⟩) (hb hby at_535) (by decide) (by decide) ?_
    exact ⟨rfl, N82⟩
   ·
    show own_Ends p e below s _ _ _ (own_F T27 m 327 #[iv i0, iv i1, iv i2, iv i3, iv 5, iv p1, iv y0, iv y1, iv y2, iv y3, iv y4, iv 7, rv b1, rv b16, .unset] [])
    refine own_g (own_F T27 m 329 #[iv i0, iv i1, iv i2, iv i3, iv 5, iv p1, iv y0, iv y1, iv y2, iv y3, iv y4, iv 7, rv b1, rv b16, .unset] [(.int 7)]) (fun _ z_ => XS.iload X27.here hx rfl (hb hby at_327) rfl z_) ?_
    refine own_g (own_F T27 m 332 #[iv i0, iv i1, iv i2, iv i3, iv 5, iv p1, iv y0, iv y1, iv y2, iv y3, iv y4, iv 7, rv b1, rv b16, .unset] []) (fun _ z_ => XS.ifNo X27.here hx rfl (hb hby at_329) rfl ((if0 _ _).trans (tlt (by decide : ((0 : Int32) < (7 : Int32)))).2.2.2) z_) ?_
    refine own_g (own_F T27 m 334 #[iv i0, iv i1, iv i2, iv i3, iv 5, iv p1, iv y0, iv y1, iv y2, iv y3, iv y4, iv 7, rv b1, rv b16, .unset] [(.ref b16)]) (fun _ z_ => XS.aload X27.here hx rfl (hb hby at_332) rfl rfl z_) ?_
    refine own_g (own_F T27 m 336 #[iv i0, iv i1, iv i2, iv i3, iv 5, iv p1, iv y0, iv y1, iv y2, iv y3, iv y4, iv 7, rv b1, rv b16, .unset] [(.int p1), (.ref b16)]) (fun _ z_ => XS.iload X27.here hx rfl (hb hby at_334) rfl z_) ?_
    refine own_g (own_F T27 m 338 #[iv i0, iv i1, iv i2, iv i3, iv 5, iv p1, iv y0, iv y1, iv y2, iv y3, iv y4, iv 7, rv b1, rv b16, .unset] [(.ref b1), (.int p1), (.ref b16)]) (fun _ z_ => XS.aload X27.here hx rfl (hb hby at_336) rfl rfl z_) ?_
    refine own_g (own_F T27 m 339 #[iv i0, iv i1, iv i2, iv i3, iv 5, iv p1, iv y0, iv y1, iv y2, iv y3, iv y4, iv 7, rv b1, rv b16, .unset] [(.int 0), (.ref b1), (.int p1), (.ref b16)]) (fun _ z_ => XS.iconst X27.here hx rfl (hb hby at_338) z_) ?_
    refine own_cald X27 hx hZ e27 ((((((((((((A15.ext E16).other W17 ne_b1_b16).other W18 ne_b1_b16).other W19 ne_b1_b16).other W20 ne_b1_b16).other W21 ne_b1_b16).other W22 ne_b1_b16).other W23 ne_b1_b16).other W24 ne_b1_b16).other W25 ne_b1_b16).other W26 ne_b1_b16).other W27 ne_b1_b16) 0 rfl (by decide) (hb hby at_339) ?_
    show own_Ends p e below s _ _ _ (own_F T27 m 340 #[iv i0, iv i1, iv i2, iv i3, iv 5, iv p1, iv y0, iv y1, iv y2, iv y3, iv y4, iv 7, rv b1, rv b16, .unset] [(.int (g15 0)), (.int p1), (.ref b16)])
    rw [q15_0]
    refine own_cast X27 hx hZ e27 A27 (P + 0) hp (own_pl hP 0) c0_ (own_narC (own_sym_rng hs0).1) (hb hby at_340) ?_
    intro T83 h83 X83 e83 W83 A83
    have N83 := Fr.snoc X83 N27 ge_b16
    obtain ⟨g83, hg83⟩ : ∃ gq_ : Nat → Int32, gq_ = fun q_ => if q_ = (P + 0) then c0_ else g27 q_ := ⟨_, rfl⟩
    have A83 : own_A Z h83 b16 .char 11 (fun q_ => .int (g83 q_)) := by rw [hg83]; exact A83
    show own_Ends p e below s _ _ _ (own_F T83 m 341 #[iv i0, iv i1, iv i2, iv i3, iv 5, iv p1, iv y0, iv y1, iv y2, iv y3, iv y4, iv 7, rv b1, rv b16, .unset] [])
    have rg83 := own_rngs hg83 rg27 (own_sym_rng hs0).1
    refine own_g (own_F T83 m 343 #[iv i0, iv i1, iv i2, iv i3, iv 5, iv p1, iv y0, iv y1, iv y2, iv y3, iv y4, iv 7, rv b1, rv b16, .unset] [(.int 7)]) (fun _ z_ => XS.iload X83.here hx rfl (hb hby at_341) rfl z_) ?_
    refine own_g (own_F T83 m 344 #[iv i0, iv i1, iv i2, iv i3, iv 5, iv p1, iv y0, iv y1, iv y2, iv y3, iv y4, iv 7, rv b1, rv b16, .unset] [(.int 1), (.int 7)]) (fun _ z_ => XS.iconst X83.here hx rfl (hb hby at_343) z_) ?_
    refine own_g (own_F T83 m 347 #[iv i0, iv i1, iv i2, iv i3, iv 5, iv p1, iv y0, iv y1, iv y2, iv y3, iv y4, iv 7, rv b1, rv b16, .unset] []) (fun _ z_ => XS.icmpNo X83.here hx rfl (hb hby at_344) rfl (tlt (by decide : ((1 : Int32) < (7 : Int32)))).2.2.2 z_) ?_
    refine own_g (own_F T83 m 349 #[iv i0, iv i1, iv i2, iv i3, iv 5, iv p1, iv y0, iv y1, iv y2, iv y3, iv y4, iv 7, rv b1, rv b16, .unset] [(.ref b16)]) (fun _ z_ => XS.aload X83.here hx rfl (hb hby at_347) rfl rfl z_) ?_
    refine own_g (own_F T83 m 351 #[iv i0, iv i1, iv i2, iv i3, iv 5, iv p1, iv y0, iv y1, iv y2, iv y3, iv y4, iv 7, rv b1, rv b16, .unset] [(.int p1), (.ref b16)]) (fun _ z_ => XS.iload X83.here hx rfl (hb hby at_349) rfl z_) ?_
    refine own_g (own_F T83 m 352 #[iv i0, iv i1, iv i2, iv i3, iv 5, iv p1, iv y0, iv y1, iv y2, iv y3, iv y4, iv 7, rv b1, rv b16, .unset] [(.int 1), (.int p1), (.ref b16)]) (fun _ z_ => XS.iconst X83.here hx rfl (hb hby at_351) z_) ?_
    refine own_g (own_F T83 m 353 #[iv i0, iv i1, iv i2, iv i3, iv 5, iv p1, iv y0, iv y1, iv y2, iv y3, iv y4, iv 7, rv b1, rv b16, .unset] [(.int (p1 + (1 : Int32))), (.ref b16)]) (fun _ z_ => XS.iadd X83.here hx rfl (hb hby at_352) rfl z_) ?_
    refine own_g (own_F T83 m 355 #[iv i0, iv i1, iv i2, iv i3, iv 5, iv p1, iv y0, iv y1, iv y2, iv y3, iv y4, iv 7, rv b1, rv b16, .unset] [(.ref b1), (.int (p1 + (1 : Int32))), (.ref b16)]) (fun _ z_ => XS.aload X83.here hx rfl (hb hby at_353) rfl rfl z_) ?_
    refine own_g (own_F T83 m 356 #[iv i0, iv i1, iv i2, iv i3, iv 5, iv p1, iv y0, iv y1, iv y2, iv y3, iv y4, iv 7, rv b1, rv b16, .unset] [(.int 1), (.ref b1), (.int (p1 + (1 : Int32))), (.ref b16)]) (fun _ z_ => XS.iconst X83.here hx rfl (hb hby at_355) z_) ?_
    refine own_cald X83 hx hZ e83 (((((((((((((A15.ext E16).other W17 ne_b1_b16).other W18 ne_b1_b16).other W19 ne_b1_b16).other W20 ne_b1_b16).other W21 ne_b1_b16).other W22 ne_b1_b16).other W23 ne_b1_b16).other W24 ne_b1_b16).other W25 ne_b1_b16).other W26 ne_b1_b16).other W27 ne_b1_b16).other W83 ne_b1_b16) 1 rfl (by decide) (hb hby at_356) ?_
    show own_Ends p e below s _ _ _ (own_F T83 m 357 #[iv i0, iv i1, iv i2, iv i3, iv 5, iv p1, iv y0, iv y1, iv y2, iv y3, iv y4, iv 7, rv b1, rv b16, .unset] [(.int (g15 1)), (.int (p1 + (1 : Int32))), (.ref b16)])
    rw [q15_1]
    refine own_cast X83 hx hZ e83 A83 (P + 1) (own_padd hp hP (1 : Int32) 1 (by decide) (by decide)) (own_pl hP 1) c1_ (own_narC (own_sym_rng hs1).1) (hb hby at_357) ?_
    intro T84 h84 X84 e84 W84 A84
    have N84 := Fr.snoc X84 N83 ge_b16
    obtain ⟨g84, hg84⟩ : ∃ gq_ : Nat → Int32, gq_ = fun q_ => if q_ = (P + 1) then c1_ else g83 q_ := ⟨_, rfl⟩
    have A84 : own_A Z h84 b16 .char 11 (fun q_ => .int (g84 q_)) := by rw [hg84]; exact A84
    show own_Ends p e below s _ _ _ (own_F T84 m 358 #[iv i0, iv i1, iv i2, iv i3, iv 5, iv p1, iv y0, iv y1, iv y2, iv y3, iv y4, iv 7, rv b1, rv b16, .unset] [])
    have rg84 := own_rngs hg84 rg83 (own_sym_rng hs1).1
    refine own_g (own_F T84 m 360 #[iv i0, iv i1, iv i2, iv i3, iv 5, iv p1, iv y0, iv y1, iv y2, iv y3, iv y4, iv 7, rv b1, rv b16, .unset] [(.int 7)]) (fun _ z_ => XS.iload X84.here hx rfl (hb hby at_358) rfl z_) ?_
    refine own_g (own_F T84 m 361 #[iv i0, iv i1, iv i2, iv i3, iv 5, iv p1, iv y0, iv y1, iv y2, iv y3, iv y4, iv 7, rv b1, rv b16, .unset] [(.int 2), (.int 7)]) (fun _ z_ => XS.iconst X84.here hx rfl (hb hby at_360) z_) ?_
    refine own_g (own_F T84 m 364 #[iv i0, iv i1, iv i2, iv i3, iv 5, iv p1, iv y0, iv y1, iv y2, iv y3, iv y4, iv 7, rv b1, rv b16, .unset] []) (fun _ z_ => XS.icmpNo X84.here hx rfl (hb hby at_361) rfl (tlt (by decide : ((2 : Int32) < (7 : Int32)))).2.2.2 z_) ?_
    refine own_g (own_F T84 m 366 #[iv i0, iv i1, iv i2, iv i3, iv 5, iv p1, iv y0, iv y1, iv y2, iv y3, iv y4, iv 7, rv b1, rv b16, .unset] [(.ref b16)]) (fun _ z_ => XS.aload X84.here hx rfl (hb hby at_364) rfl rfl z_) ?_
    refine own_g (own_F T84 m 368 #[iv i0, iv i1, iv i2, iv i3, iv 5, iv p1, iv y0, iv y1, iv y2, iv y3, iv y4, iv 7, rv b1, rv b16, .unset] [(.int p1), (.ref b16)]) (fun _ z_ => XS.iload X84.here hx rfl (hb hby at_366) rfl z_) ?_
    refine own_g (own_F T84 m 369 #[iv i0, iv i1, iv i2, iv i3, iv 5, iv p1, iv y0, iv y1, iv y2, iv y3, iv y4, iv 7, rv b1, rv b16, .unset] [(.int 2), (.int p1), (.ref b16)]) (fun _ z_ => XS.iconst X84.here hx rfl (hb hby at_368) z_) ?_
    refine own_g (own_F T84 m 370 #[iv i0, iv i1, iv i2, iv i3, iv 5, iv p1, iv y0, iv y1, iv y2, iv y3, iv y4, iv 7, rv b1, rv b16, .unset] [(.int (p1 + (2 : Int32))), (.ref b16)]) (fun _ z_ => XS.iadd X84.here hx rfl (hb hby at_369) rfl z_) ?_
    refine own_g (own_F T84 m 372 #[iv i0, iv i1, iv i2, iv i3, iv 5, iv p1, iv y0, iv y1, iv y2, iv y3, iv y4, iv 7, rv b1, rv b16, .unset] [(.ref b1), (.int (p1 + (2 : Int32))), (.ref b16)]) (fun _ z_ => XS.aload X84.here hx rfl (hb hby at_370) rfl rfl z_) ?_
    refine own_g (own_F T84 m 373 #[iv i0, iv i1, iv i2, iv i3, iv 5, iv p1, iv y0, iv y1, iv y2, iv y3, iv y4, iv 7, rv b1, rv b16, .unset] [(.int 2), (.ref b1), (.int (p1 + (2 : Int32))), (.ref b16)]) (fun _ z_ => XS.iconst X84.here hx rfl (hb hby at_372) z_) ?_
    refine own_cald X84 hx hZ e84 ((((((((((((((A15.ext E16).other W17 ne_b1_b16).other W18 ne_b1_b16).other W19 ne_b1_b16).other W20 ne_b1_b16).other W21 ne_b1_b16).other W22 ne_b1_b16).other W23 ne_b1_b16).other W24 ne_b1_b16).other W25 ne_b1_b16).other W26 ne_b1_b16).other W27 ne_b1_b16).other W83 ne_b1_b16).other W84 ne_b1_b16) 2 rfl (by decide) (hb hby at_373) ?_
    show own_Ends p e below s _ _ _ (own_F T84 m 374 #[iv i0, iv i1, iv i2, iv i3, iv 5, iv p1, iv y0, iv y1, iv y2, iv y3, iv y4, iv 7, rv b1, rv b16, .unset] [(.int (g15 2)), (.int (p1 + (2 : Int32))), (.ref b16)])
    rw [q15_2]
    refine own_cast X84 hx hZ e84 A84 (P + 2) (own_padd hp hP (2 : Int32) 2 (by decide) (by decide)) (own_pl hP 2) c2_ (own_narC (own_sym_rng hs2).1) (hb hby at_374) ?_
    intro T85 h85 X85 e85 W85 A85
    have N85 := Fr.snoc X85 N84 ge_b16
    obtain ⟨g85, hg85⟩ : ∃ gq_ : Nat → Int32, gq_ = fun q_ => if q_ = (P + 2) then c2_ else g84 q_ := ⟨_, rfl⟩
    have A85 : own_A Z h85 b16 .char 11 (fun q_ => .int (g85 q_)) := by rw [hg85]; exact A85
    show own_Ends p e below s _ _ _ (own_F T85 m 375 #[iv i0, iv i1, iv i2, iv i3, iv 5, iv p1, iv y0, iv y1, iv y2, iv y3, iv y4, iv 7, rv b1, rv b16, .unset] [])
    have rg85 := own_rngs hg85 rg84 (own_sym_rng hs2).1
    refine own_g (own_F T85 m 377 #[iv i0, iv i1, iv i2, iv i3, iv 5, iv p1, iv y0, iv y1, iv y2, iv y3, iv y4, iv 7, rv b1, rv b16, .unset] [(.int 7)]) (fun _ z_ => XS.iload X85.here hx rfl (hb hby at_375) rfl z_) ?_
    refine own_g (own_F T85 m 378 #[iv i0, iv i1, iv i2, iv i3, iv 5, iv p1, iv y0, iv y1, iv y2, iv y3, iv y4, iv 7, rv b1, rv b16, .unset] [(.int 3), (.int 7)]) (fun _ z_ => XS.iconst X85.here hx rfl (hb hby at_377) z_) ?_
    refine own_g (own_F T85 m 381 #[iv i0, iv i1, iv i2, iv i3, iv 5, iv p1, iv y0, iv y1, iv y2, iv y3, iv y4, iv 7, rv b1, rv b16, .unset] []) (fun _ z_ => XS.icmpNo X85.here hx rfl (hb hby at_378) rfl (tlt (by decide : ((3 : Int32) < (7 : Int32)))).2.2.2 z_) ?_
    refine own_g (own_F T85 m 383 #[iv i0, iv i1, iv i2, iv i3, iv 5, iv p1, iv y0, iv y1, iv y2, iv y3, iv y4, iv 7, rv b1, rv b16, .unset] [(.ref b16)]) (fun _ z_ => XS.aload X85.here hx rfl (hb hby at_381) rfl rfl z_) ?_
    refine own_g (own_F T85 m 385 #[iv i0, iv i1, iv i2, iv i3, iv 5, iv p1, iv y0, iv y1, iv y2, iv y3, iv y4, iv 7, rv b1, rv b16, .unset] [(.int p1), (.ref b16)]) (fun _ z_ => XS.iload X85.here hx rfl (hb hby at_383) rfl z_) ?_
    refine own_g (own_F T85 m 386 #[iv i0, iv i1, iv i2, iv i3, iv 5, iv p1, iv y0, iv y1, iv y2, iv y3, iv y4, iv 7, rv b1, rv b16, .unset] [(.int 3), (.int p1), (.ref b16)]) (fun _ z_ => XS.iconst X85.here hx rfl (hb hby at_385) z_) ?_
    refine own_g (own_F T85 m 387 #[iv i0, iv i1, iv i2, iv i3, iv 5, iv p1, iv y0, iv y1, iv y2, iv y3, iv y4, iv 7, rv b1, rv b16, .unset] [(.int (p1 + (3 : Int32))), (.ref b16)]) (fun _ z_ => XS.iadd X85.here hx rfl (hb hby at_386) rfl z_) ?_
    refine own_g (own_F T85 m 389 #[iv i0, iv i1, iv i2, iv i3, iv 5, iv p1, iv y0, iv y1, iv y2, iv y3, iv y4, iv 7, rv b1, rv b16, .unset] [(.ref b1), (.int (p1 + (3 : Int32))), (.ref b16)]) (fun _ z_ => XS.aload X85.here hx rfl (hb hby at_387) rfl rfl z_) ?_
    refine own_g (own_F T85 m 390 #[iv i0, iv i1, iv i2, iv i3, iv 5, iv p1, iv y0, iv y1, iv y2, iv y3, iv y4, iv 7, rv b1, rv b16, .unset] [(.int 3), (.ref b1), (.int (p1 + (3 : Int32))), (.ref b16)]) (fun _ z_ => XS.iconst X85.here hx rfl (hb hby at_389) z_) ?_
    refine own_cald X85 hx hZ e85 (((((((((((((((A15.ext E16).other W17 ne_b1_b16).other W18 ne_b1_b16).other W19 ne_b1_b16).other W20 ne_b1_b16).other W21 ne_b1_b16).other W22 ne_b1_b16).other W23 ne_b1_b16).other W24 ne_b1_b16).other W25 ne_b1_b16).other W26 ne_b1_b16).other W27 ne_b1_b16).other W83 ne_b1_b16).other W84 ne_b1_b16).other W85 ne_b1_b16) 3 rfl (by decide) (hb hby at_390) ?_
    show own_Ends p e below s _ _ _ (own_F T85 m 391 #[iv i0, iv i1, iv i2, iv i3, iv 5, iv p1, iv y0, iv y1, iv y2, iv y3, iv y4, iv 7, rv b1, rv b16, .unset] [(.int (g15 3)), (.int (p1 + (3 : Int32))), (.ref b16)])
    rw [q15_3]
    refine own_cast X85 hx hZ e85 A85 (P + 3) (own_padd hp hP (3 : Int32) 3 (by decide) (by decide)) (own_pl hP 3) c3_ (own_narC (own_sym_rng hs3).1) (hb hby at_391) ?_
    intro T86 h86 X86 e86 W86 A86
    have N86 := Fr.snoc X86 N85 ge_b16
    obtain ⟨g86, hg86⟩ : ∃ gq_ : Nat → Int32, gq_ = fun q_ => if q_ = (P + 3) then c3_ else g85 q_ := ⟨_, rfl⟩
    have A86 : own_A Z h86 b16 .char 11 (fun q_ => .int (g86 q_)) := by rw [hg86]; exact A86
    show own_Ends p e below s _ _ _ (own_F T86 m 392 #[iv i0, iv i1, iv i2, iv i3, iv 5, iv p1, iv y0, iv y1, iv y2, iv y3, iv y4, iv 7, rv b1, rv b16, .unset] [])
    have rg86 := own_rngs hg86 rg85 (own_sym_rng hs3).1
    refine own_g (own_F T86 m 394 #[iv i0, iv i1, iv i2, iv i3, iv 5, iv p1, iv y0, iv y1, iv y2, iv y3, iv y4, iv 7, rv b1, rv b16, .unset] [(.int 7)]) (fun _ z_ => XS.iload X86.here hx rfl (hb hby at_392) rfl z_) ?_
    refine own_g (own_F T86 m 395 #[iv i0, iv i1, iv i2, iv i3, iv 5, iv p1, iv y0, iv y1, iv y2, iv y3, iv y4, iv 7, rv b1, rv b16, .unset] [(.int 4), (.int 7)]) (fun _ z_ => XS.iconst X86.here hx rfl (hb hby at_394) z_) ?_
    refine own_g (own_F T86 m 398 #[iv i0, iv i1, iv i2, iv i3, iv 5, iv p1, iv y0, iv y1, iv y2, iv y3, iv y4, iv 7, rv b1, rv b16, .unset] []) (fun _ z_ => XS.icmpNo X86.here hx rfl (hb hby at_395) rfl (tlt (by decide : ((4 : Int32) < (7 : Int32)))).2.2.2 z_) ?_
    refine own_g (own_F T86 m 400 #[iv i0, iv i1, iv i2, iv i3, iv 5, iv p1, iv y0, iv y1, iv y2, iv y3, iv y4, iv 7, rv b1, rv b16, .unset] [(.ref b16)]) (fun _ z_ => XS.aload X86.here hx rfl (hb hby at_398) rfl rfl z_) ?_
    refine own_g (own_F T86 m 402 #[iv i0, iv i1, iv i2, iv i3, iv 5, iv p1, iv y0, iv y1, iv y2, iv y3, iv y4, iv 7, rv b1, rv b16, .unset] [(.int p1), (.ref b16)]) (fun _ z_ => XS.iload X86.here hx rfl (hb hby at_400) rfl z_) ?_
    refine own_g (own_F T86 m 403 #[iv i0, iv i1, iv i2, iv i3, iv 5, iv p1, iv y0, iv y1, iv y2, iv y3, iv y4, iv 7, rv b1, rv b16, .unset] [(.int 4), (.int p1), (.ref b16)]) (fun _ z_ => XS.iconst X86.here hx rfl (hb hby at_402) z_) ?_
    refine own_g (own_F T86 m 404 #[iv i0, iv i1, iv i2, iv i3, iv 5, iv p1, iv y0, iv y1, iv y2, iv y3, iv y4, iv 7, rv b1, rv b16, .unset] [(.int (p1 + (4 : Int32))), (.ref b16)]) (fun _ z_ => XS.iadd X86.here hx rfl (hb hby at_403) rfl z_) ?_
    refine own_g (own_F T86 m 406 #[iv i0, iv i1, iv i2, iv i3, iv 5, iv p1, iv y0, iv y1, iv y2, iv y3, iv y4, iv 7, rv b1, rv b16, .unset] [(.ref b1), (.int (p1 + (4 : Int32))), (.ref b16)]) (fun _ z_ => XS.aload X86.here hx rfl (hb hby at_404) rfl rfl z_) ?_
    refine own_g (own_F T86 m 407 #[iv i0, iv i1, iv i2, iv i3, iv 5, iv p1, iv y0, iv y1, iv y2, iv y3, iv y4, iv 7, rv b1, rv b16, .unset] [(.int 4), (.ref b1), (.int (p1 + (4 : Int32))), (.ref b16)]) (fun _ z_ => XS.iconst X86.here hx rfl (hb hby at_406) z_) ?_
    refine own_cald X86 hx hZ e86 ((((((((((((((((A15.ext E16).other W17 ne_b1_b16).other W18 ne_b1_b16).other W19 ne_b1_b16).other W20 ne_b1_b16).other W21 ne_b1_b16).other W22 ne_b1_b16).other W23 ne_b1_b16).other W24 ne_b1_b16).other W25 ne_b1_b16).other W26 ne_b1_b16).other W27 ne_b1_b16).other W83 ne_b1_b16).other W84 ne_b1_b16).other W85 ne_b1_b16).other W86 ne_b1_b16) 4 rfl (by decide) (hb hby at_407) ?_
    show own_Ends p e below s _ _ _ (own_F T86 m 408 #[iv i0, iv i1, iv i2, iv i3, iv 5, iv p1, iv y0, iv y1, iv y2, iv y3, iv y4, iv 7, rv b1, rv b16, .unset] [(.int (g15 4)), (.int (p1 + (4 : Int32))), (.ref b16)])
    rw [q15_4]
    refine own_cast X86 hx hZ e86 A86 (P + 4) (own_padd hp hP (4 : Int32) 4 (by decide) (by decide)) (own_pl hP 4) c4_ (own_narC (own_sym_rng hs4).1) (hb hby at_408) ?_
    intro T87 h87 X87 e87 W87 A87
    have N87 := Fr.snoc X87 N86 ge_b16
    obtain ⟨g87, hg87⟩ : ∃ gq_ : Nat → Int32, gq_ = fun q_ => if q_ = (P + 4) then c4_ else g86 q_ := ⟨_, rfl⟩
    have A87 : own_A Z h87 b16 .char 11 (fun q_ => .int (g87 q_)) := by rw [hg87]; exact A87
    show own_Ends p e below s _ _ _ (own_F T87 m 409 #[iv i0, iv i1, iv i2, iv i3, iv 5, iv p1, iv y0, iv y1, iv y2, iv y3, iv y4, iv 7, rv b1, rv b16, .unset] [])
    have rg87 := own_rngs hg87 rg86 (own_sym_rng hs4).1
    refine own_g (own_F T87 m 411 #[iv i0, iv i1, iv i2, iv i3, iv 5, iv p1, iv y0, iv y1, iv y2, iv y3, iv y4, iv 7, rv b1, rv b16, .unset] [(.int 7)]) (fun _ z_ => XS.iload X87.here hx rfl (hb hby at_409) rfl z_) ?_
    refine own_g (own_F T87 m 412 #[iv i0, iv i1, iv i2, iv i3, iv 5, iv p1, iv y0, iv y1, iv y2, iv y3, iv y4, iv 7, rv b1, rv b16, .unset] [(.int 5), (.int 7)]) (fun _ z_ => XS.iconst X87.here hx rfl (hb hby at_411) z_) ?_
    refine own_g (own_F T87 m 415 #[iv i0, iv i1, iv i2, iv i3, iv 5, iv p1, iv y0, iv y1, iv y2, iv y3, iv y4, iv 7, rv b1, rv b16, .unset] []) (fun _ z_ => XS.icmpNo X87.here hx rfl (hb hby at_412) rfl (tlt (by decide : ((5 : Int32) < (7 : Int32)))).2.2.2 z_) ?_
    refine own_g (own_F T87 m 417 #[iv i0, iv i1, iv i2, iv i3, iv 5, iv p1, iv y0, iv y1, iv y2, iv y3, iv y4, iv 7, rv b1, rv b16, .unset] [(.ref b16)]) (fun _ z_ => XS.aload X87.here hx rfl (hb hby at_415) rfl rfl z_) ?_
    refine own_g (own_F T87 m 419 #[iv i0, iv i1, iv i2, iv i3, iv 5, iv p1, iv y0, iv y1, iv y2, iv y3, iv y4, iv 7, rv b1, rv b16, .unset] [(.int p1), (.ref b16)]) (fun _ z_ => XS.iload X87.here hx rfl (hb hby at_417) rfl z_) ?_
    refine own_g (own_F T87 m 420 #[iv i0, iv i1, iv i2, iv i3, iv 5, iv p1, iv y0, iv y1, iv y2, iv y3, iv y4, iv 7, rv b1, rv b16, .unset] [(.int 5), (.int p1), (.ref b16)]) (fun _ z_ => XS.iconst X87.here hx rfl (hb hby at_419) z_) ?_
    refine own_g (own_F T87 m 421 #[iv i0, iv i1, iv i2, iv i3, iv 5, iv p1, iv y0, iv y1, iv y2, iv y3, iv y4, iv 7, rv b1, rv b16, .unset] [(.int (p1 + (5 : Int32))), (.ref b16)]) (fun _ z_ => XS.iadd X87.here hx rfl (hb hby at_420) rfl z_) ?_
    refine own_g (own_F T87 m 423 #[iv i0, iv i1, iv i2, iv i3, iv 5, iv p1, iv y0, iv y1, iv y2, iv y3, iv y4, iv 7, rv b1, rv b16, .unset] [(.ref b1), (.int (p1 + (5 : Int32))), (.ref b16)]) (fun _ z_ => XS.aload X87.here hx rfl (hb hby at_421) rfl rfl z_) ?_
    refine own_g (own_F T87 m 424 #[iv i0, iv i1, iv i2, iv i3, iv 5, iv p1, iv y0, iv y1, iv y2, iv y3, iv y4, iv 7, rv b1, rv b16, .unset] [(.int 5), (.ref b1), (.int (p1 + (5 : Int32))), (.ref b16)]) (fun _ z_ => XS.iconst X87.here hx rfl (hb hby at_423) z_) ?_
    refine own_cald X87 hx hZ e87 (((((((((((((((((A15.ext E16).other W17 ne_b1_b16).other W18 ne_b1_b16).other W19 ne_b1_b16).other W20 ne_b1_b16).other W21 ne_b1_b16).other W22 ne_b1_b16).other W23 ne_b1_b16).other W24 ne_b1_b16).other W25 ne_b1_b16).other W26 ne_b1_b16).other W27 ne_b1_b16).other W83 ne_b1_b16).other W84 ne_b1_b16).other W85 ne_b1_b16).other W86 ne_b1_b16).other W87 ne_b1_b16) 5 rfl (by decide) (hb hby at_424) ?_
    show own_Ends p e below s _ _ _ (own_F T87 m 425 #[iv i0, iv i1, iv i2, iv i3, iv 5, iv p1, iv y0, iv y1, iv y2, iv y3, iv y4, iv 7, rv b1, rv b16, .unset] [(.int (g15 5)), (.int (p1 + (5 : Int32))), (.ref b16)])
    rw [q15_5]
    refine own_cast X87 hx hZ e87 A87 (P + 5) (own_padd hp hP (5 : Int32) 5 (by decide) (by decide)) (own_pl hP 5) c5_ (own_narC (own_sym_rng hs5).1) (hb hby at_425) ?_
    intro T88 h88 X88 e88 W88 A88
    have N88 := Fr.snoc X88 N87 ge_b16
    obtain ⟨g88, hg88⟩ : ∃ gq_ : Nat → Int32, gq_ = fun q_ => if q_ = (P + 5) then c5_ else g87 q_ := ⟨_, rfl⟩
    have A88 : own_A Z h88 b16 .char 11 (fun q_ => .int (g88 q_)) := by rw [hg88]; exact A88
    show own_Ends p e below s _ _ _ (own_F T88 m 426 #[iv i0, iv i1, iv i2, iv i3, iv 5, iv p1, iv y0, iv y1, iv y2, iv y3, iv y4, iv 7, rv b1, rv b16, .unset] [])
    have rg88 := own_rngs hg88 rg87 (own_sym_rng hs5).1
    refine own_g (own_F T88 m 428 #[iv i0, iv i1, iv i2, iv i3, iv 5, iv p1, iv y0, iv y1, iv y2, iv y3, iv y4, iv 7, rv b1, rv b16, .unset] [(.int 7)]) (fun _ z_ => XS.iload X88.here hx rfl (hb hby at_426) rfl z_) ?_
    refine own_g (own_F T88 m 430 #[iv i0, iv i1, iv i2, iv i3, iv 5, iv p1, iv y0, iv y1, iv y2, iv y3, iv y4, iv 7, rv b1, rv b16, .unset] [(.int 6), (.int 7)]) (fun _ z_ => XS.bipush X88.here hx rfl (hb hby at_428) z_) ?_
    refine own_g (own_F T88 m 433 #[iv i0, iv i1, iv i2, iv i3, iv 5, iv p1, iv y0, iv y1, iv y2, iv y3, iv y4, iv 7, rv b1, rv b16, .unset] []) (fun _ z_ => XS.icmpNo X88.here hx rfl (hb hby at_430) rfl (tlt (by decide : ((6 : Int32) < (7 : Int32)))).2.2.2 z_) ?_
    refine own_g (own_F T88 m 435 #[iv i0, iv i1, iv i2, iv i3, iv 5, iv p1, iv y0, iv y1, iv y2, iv y3, iv y4, iv 7, rv b1, rv b16, .unset] [(.ref b16)]) (fun _ z_ => XS.aload X88.here hx rfl (hb hby at_433) rfl rfl z_) ?_
    refine own_g (own_F T88 m 437 #[iv i0, iv i1, iv i2, iv i3, iv 5, iv p1, iv y0, iv y1, iv y2, iv y3, iv y4, iv 7, rv b1, rv b16, .unset] [(.int p1), (.ref b16)]) (fun _ z_ => XS.iload X88.here hx rfl (hb hby at_435) rfl z_) ?_
    refine own_g (own_F T88 m 439 #[iv i0, iv i1, iv i2, iv i3, iv 5, iv p1, iv y0, iv y1, iv y2, iv y3, iv y4, iv 7, rv b1, rv b16, .unset] [(.int 6), (.int p1), (.ref b16)]) (fun _ z_ => XS.bipush X88.here hx rfl (hb hby at_437) z_) ?_
    refine own_g (own_F T88 m 440 #[iv i0, iv i1, iv i2, iv i3, iv 5, iv p1, iv y0, iv y1, iv y2, iv y3, iv y4, iv 7, rv b1, rv b16, .unset] [(.int (p1 + (6 : Int32))), (.ref b16)]) (fun _ z_ => XS.iadd X88.here hx rfl (hb hby at_439) rfl z_) ?_
    refine own_g (own_F T88 m 442 #[iv i0, iv i1, iv i2, iv i3, iv 5, iv p1, iv y0, iv y1, iv y2, iv y3, iv y4, iv 7, rv b1, rv b16, .unset] [(.ref b1), (.int (p1 + (6 : Int32))), (.ref b16)]) (fun _ z_ => XS.aload X88.here hx rfl (hb hby at_440) rfl rfl z_) ?_
    refine own_g (own_F T88 m 444 #[iv i0, iv i1, iv i2, iv i3, iv 5, iv p1, iv y0, iv y1, iv y2, iv y3, iv y4, iv 7, rv b1, rv b16, .unset] [(.int 6), (.ref b1), (.int (p1 + (6 : Int32))), (.ref b16)]) (fun _ z_ => XS.bipush X88.here hx rfl (hb hby at_442) z_) ?_
    refine own_cald X88 hx hZ e88 ((((((((((((((((((A15.ext E16).other W17 ne_b1_b16).other W18 ne_b1_b16).other W19 ne_b1_b16).other W20 ne_b1_b16).other W21 ne_b1_b16).other W22 ne_b1_b16).other W23 ne_b1_b16).other W24 ne_b1_b16).other W25 ne_b1_b16).other W26 ne_b1_b16).other W27 ne_b1_b16).other W83 ne_b1_b16).other W84 ne_b1_b16).other W85 ne_b1_b16).other W86 ne_b1_b16).other W87 ne_b1_b16).other W88 ne_b1_b16) 6 rfl (by decide) (hb hby at_444) ?_
    show own_Ends p e below s _ _ _ (own_F T88 m 445 #[iv i0, iv i1, iv i2, iv i3, iv 5, iv p1, iv y0, iv y1, iv y2, iv y3, iv y4, iv 7, rv b1, rv b16, .unset] [(.int (g15 6)), (.int (p1 + (6 : Int32))), (.ref b16)])
    rw [q15_6]
    refine own_cast X88 hx hZ e88 A88 (P + 6) (own_padd hp hP (6 : Int32) 6 (by decide) (by decide)) (own_pl hP 6) c6_ (own_narC (own_sym_rng hs6).1) (hb hby at_445) ?_
    intro T89 h89 X89 e89 W89 A89
    have N89 := Fr.snoc X89 N88 ge_b16
    obtain ⟨g89, hg89⟩ : ∃ gq_ : Nat → Int32, gq_ = fun q_ => if q_ = (P + 6) then c6_ else g88 q_ := ⟨_, rfl⟩
    have A89 : own_A Z h89 b16 .char 11 (fun q_ => .int (g89 q_)) := by rw [hg89]; exact A89
    show own_Ends p e below s _ _ _ (own_F T89 m 446 #[iv i0, iv i1, iv i2, iv i3, iv 5, iv p1, iv y0, iv y1, iv y2, iv y3, iv y4, iv 7, rv b1, rv b16, .unset] [])
    have rg89 := own_rngs hg89 rg88 (own_sym_rng hs6).1
    obtain ⟨T90, h90, X90, e90, E90, A90, D90, -, st90⟩ := newO X89 hx hZ hown (own_w hw 5) (own_w hw 6) (own_w hw 7) e89 (g := (mkF m 446 #[iv i0, iv i1, iv i2, iv i3, iv 5, iv p1, iv y0, iv y1, iv y2, iv y3, iv y4, iv 7, rv b1, rv b16, .unset] [])) rfl (hb hby at_446) (by decide) (by decide)
    obtain ⟨b90, g90⟩ : ∃ z, z = h89.size := ⟨_, rfl⟩
    rw [← g90] at A90 D90 st90
    have sz_b90 : h0.size ≤ b90 := Nat.le_trans (Nat.le_trans (Nat.le_trans (Nat.le_trans (Nat.le_trans (Nat.le_trans (Nat.le_trans (Nat.le_trans (Nat.le_trans (Nat.le_trans (Nat.le_trans (Nat.le_trans (Nat.le_trans (Nat.le_trans (Nat.le_trans (Nat.le_trans (Nat.le_trans (Nat.le_trans (Nat.le_trans (Nat.le_trans (Nat.le_trans (Nat.le_trans (Nat.le_trans (Nat.le_trans (Nat.le_trans (Nat.le_trans (Nat.le_trans (Nat.le_trans (Nat.le_refl h0.size) E1.1) (Nat.le_of_eq W3.size.symm)) (Nat.le_of_eq W5.size.symm)) (Nat.le_of_eq W7.size.symm)) (Nat.le_of_eq W9.size.symm)) (Nat.le_of_eq W11.size.symm)) (Nat.le_of_eq W13.size.symm)) (Nat.le_of_eq W15.size.symm)) E16.1) (Nat.le_of_eq W17.size.symm)) (Nat.le_of_eq W18.size.symm)) (Nat.le_of_eq W19.size.symm)) (Nat.le_of_eq W20.size.symm)) (Nat.le_of_eq W21.size.symm)) (Nat.le_of_eq W22.size.symm)) (Nat.le_of_eq W23.size.symm)) (Nat.le_of_eq W24.size.symm)) (Nat.le_of_eq W25.size.symm)) (Nat.le_of_eq W26.size.symm)) (Nat.le_of_eq W27.size.symm)) (Nat.le_of_eq W83.size.symm)) (Nat.le_of_eq W84.size.symm)) (Nat.le_of_eq W85.size.symm)) (Nat.le_of_eq W86.size.symm)) (Nat.le_of_eq W87.size.symm)) (Nat.le_of_eq W88.size.symm)) (Nat.le_of_eq W89.size.symm)) (Nat.le_of_eq g90.symm)
    have ge_b90 : n0 ≤ b90 := Nat.le_trans (Nat.le_trans (Nat.le_trans (Nat.le_trans (Nat.le_trans (Nat.le_trans (Nat.le_trans (Nat.le_trans (Nat.le_trans (Nat.le_trans (Nat.le_trans (Nat.le_trans (Nat.le_trans (Nat.le_trans (Nat.le_trans (Nat.le_trans (Nat.le_trans (Nat.le_trans (Nat.le_trans (Nat.le_trans (Nat.le_trans (Nat.le_trans (Nat.le_trans (Nat.le_trans (Nat.le_trans (Nat.le_trans (Nat.le_trans (Nat.le_trans Z0 E1.1) (Nat.le_of_eq W3.size.symm)) (Nat.le_of_eq W5.size.symm)) (Nat.le_of_eq W7.size.symm)) (Nat.le_of_eq W9.size.symm)) (Nat.le_of_eq W11.size.symm)) (Nat.le_of_eq W13.size.symm)) (Nat.le_of_eq W15.size.symm)) E16.1) (Nat.le_of_eq W17.size.symm)) (Nat.le_of_eq W18.size.symm)) (Nat.le_of_eq W19.size.symm)) (Nat.le_of_eq W20.size.symm)) (Nat.le_of_eq W21.size.symm)) (Nat.le_of_eq W22.size.symm)) (Nat.le_of_eq W23.size.symm)) (Nat.le_of_eq W24.size.symm)) (Nat.le_of_eq W25.size.symm)) (Nat.le_of_eq W26.size.symm)) (Nat.le_of_eq W27.size.symm)) (Nat.le_of_eq W83.size.symm)) (Nat.le_of_eq W84.size.symm)) (Nat.le_of_eq W85.size.symm)) (Nat.le_of_eq W86.size.symm)) (Nat.le_of_eq W87.size.symm)) (Nat.le_of_eq W88.size.symm)) (Nat.le_of_eq W89.size.symm)) (Nat.le_of_eq g90.symm)
    have ne_b1_b90 : b1 ≠ b90 := Nat.ne_of_lt (Nat.lt_of_lt_of_le (((((((((((((((((((A15.ext E16).other W17 ne_b1_b16).other W18 ne_b1_b16).other W19 ne_b1_b16).other W20 ne_b1_b16).other W21 ne_b1_b16).other W22 ne_b1_b16).other W23 ne_b1_b16).other W24 ne_b1_b16).other W25 ne_b1_b16).other W26 ne_b1_b16).other W27 ne_b1_b16).other W83 ne_b1_b16).other W84 ne_b1_b16).other W85 ne_b1_b16).other W86 ne_b1_b16).other W87 ne_b1_b16).other W88 ne_b1_b16).other W89 ne_b1_b16).lt (Nat.le_of_eq g90.symm))
    have ne_b16_b90 : b16 ≠ b90 := Nat.ne_of_lt (Nat.lt_of_lt_of_le A89.lt (Nat.le_of_eq g90.symm))
    have F90_coder : Fld Z h90 b90 "java/lang/String" "coder" "B" (.int 0) := D90 (Or.inr (own_w hw 31)) (ty := .byte) (by decide)
    have F90_value : Fld Z h90 b90 "java/lang/String" "value" "[B" .null := D90 (Or.inr (own_w hw 33)) (ty := (.array .byte)) (by decide)
    refine own_pre (S' := (own_F T90 m 449 #[iv i0, iv i1, iv i2, iv i3, iv 5, iv p1, iv y0, iv y1, iv y2, iv y3, iv y4, iv 7, rv b1, rv b16, .unset] [(.ref b90)])) st90 ?_
    refine own_g (own_F T90 m 450 #[iv i0, iv i1, iv i2, iv i3, iv 5, iv p1, iv y0, iv y1, iv y2, iv y3, iv y4, iv 7, rv b1, rv b16, .unset] [(.ref b90), (.ref b90)]) (fun _ z_ => XS.dup X90.here hx rfl (hb hby at_449) rfl rfl z_) ?_
    refine own_g (own_F T90 m 452 #[iv i0, iv i1, iv i2, iv i3, iv 5, iv p1, iv y0, iv y1, iv y2, iv y3, iv y4, iv 7, rv b1, rv b16, .unset] [(.ref b16), (.ref b90), (.ref b90)]) (fun _ z_ => XS.aload X90.here hx rfl (hb hby at_450) rfl rfl z_) ?_
    refine own_callI (y := (⟨"java/lang/String", "<init>", "([C)V"⟩ : MethodName)) (b := b90) X90 hx hZ hown rfl (own_w hw 8) (own_w hw 9) (own_w hw 10) (own_w hw 7) (by decide) e90 (hM := own_si l Z a0 hw [] b90 b16 11 (11 : Int32) zc g89 h90 n0 (Nat.le_trans (Nat.le_trans (Nat.le_trans (Nat.le_trans (Nat.le_trans (Nat.le_trans (Nat.le_trans (Nat.le_trans (Nat.le_trans (Nat.le_trans (Nat.le_trans (Nat.le_trans (Nat.le_trans (Nat.le_trans (Nat.le_trans (Nat.le_trans (Nat.le_trans (Nat.le_trans (Nat.le_trans (Nat.le_trans (Nat.le_trans (Nat.le_trans (Nat.le_trans (Nat.le_trans (Nat.le_trans (Nat.le_trans (Nat.le_trans (Nat.le_trans Z0 E1.1) (Nat.le_of_eq W3.size.symm)) (Nat.le_of_eq W5.size.symm)) (Nat.le_of_eq W7.size.symm)) (Nat.le_of_eq W9.size.symm)) (Nat.le_of_eq W11.size.symm)) (Nat.le_of_eq W13.size.symm)) (Nat.le_of_eq W15.size.symm)) E16.1) (Nat.le_of_eq W17.size.symm)) (Nat.le_of_eq W18.size.symm)) (Nat.le_of_eq W19.size.symm)) (Nat.le_of_eq W20.size.symm)) (Nat.le_of_eq W21.size.symm)) (Nat.le_of_eq W22.size.symm)) (Nat.le_of_eq W23.size.symm)) (Nat.le_of_eq W24.size.symm)) (Nat.le_of_eq W25.size.symm)) (Nat.le_of_eq W26.size.symm)) (Nat.le_of_eq W27.size.symm)) (Nat.le_of_eq W83.size.symm)) (Nat.le_of_eq W84.size.symm)) (Nat.le_of_eq W85.size.symm)) (Nat.le_of_eq W86.size.symm)) (Nat.le_of_eq W87.size.symm)) (Nat.le_of_eq W88.size.symm)) (Nat.le_of_eq W89.size.symm)) E90.1) (by decide) (by decide) (by decide) hzc (A89.ext E90) (fun i _ => rg89 i) A90 F90_value F90_coder ((((((((((((((((((((((((((((S_cs.ext E1).wr W3).wr W5).wr W7).wr W9).wr W11).wr W13).wr W15).ext E16).wr W17).wr W18).wr W19).wr W20).wr W21).wr W22).wr W23).wr W24).wr W25).wr W26).wr W27).wr W83).wr W84).wr W85).wr W86).wr W87).wr W88).wr W89).ext E90) ((((((((((((((((((((((((((((S_ad.ext E1).wr W3).wr W5).wr W7).wr W9).wr W11).wr W13).wr W15).ext E16).wr W17).wr W18).wr W19).wr W20).wr W21).wr W22).wr W23).wr W24).wr W25).wr W26).wr W27).wr W83).wr W84).wr W85).wr W86).wr W87).wr W88).wr W89).ext E90) ((((((((((((((((((((((((((((S_hi.ext E1).wr W3).wr W5).wr W7).wr W9).wr W11).wr W13).wr W15).ext E16).wr W17).wr W18).wr W19).wr W20).wr W21).wr W22).wr W23).wr W24).wr W25).wr W26).wr W27).wr W83).wr W84).wr W85).wr W86).wr W87).wr W88).wr W89).ext E90) ((((((((((((((((((((((((((((S_lo.ext E1).wr W3).wr W5).wr W7).wr W9).wr W11).wr W13).wr W15).ext E16).wr W17).wr W18).wr W19).wr W20).wr W21).wr W22).wr W23).wr W24).wr W25).wr W26).wr W27).wr W83).wr W84).wr W85).wr W86).wr W87).wr W88).wr W89).ext E90) ge_b90 (Ne.symm ne_b16_b90)) (W := 1) (pc := 452) (Ls := #[iv i0, iv i1, iv i2, iv i3, iv 5, iv p1, iv y0, iv y1, iv y2, iv y3, iv y4, iv 7, rv b1, rv b16, .unset]) (argsL := [(.ref b16)]) (rest := [(.ref b90)]) (st0 := [(.ref b16), (.ref b90), (.ref b90)]) (by rw [hml]; rfl) (lenOf own_pd15 rfl) rfl (Nat.le_of_eq rfl) (hb hby at_452) (by decide) (by decide) (by decide) (by decide) ?_
    intro v91 T91 L91 X91 hQ91
    obtain ⟨rfl, Nq91, K91, Sx91⟩ := hQ91
    have N91 := Fr.app N89 Nq91
    show own_Ends p e below s _ _ _ (own_F T91 m 455 #[iv i0, iv i1, iv i2, iv i3, iv 5, iv p1, iv y0, iv y1, iv y2, iv y3, iv y4, iv 7, rv b1, rv b16, .unset] [(.ref b90)])
    refine own_g (own_F T91 m 457 #[iv i0, iv i1, iv i2, iv i3, iv 5, iv p1, iv y0, iv y1, iv y2, iv y3, iv y4, iv 7, rv b1, rv b16, .unset] [(.int p1), (.ref b90)]) (fun _ z_ => XS.iload X91.here hx rfl (hb hby at_455) rfl z_) ?_
    refine own_g (own_F T91 m 459 #[iv i0, iv i1, iv i2, iv i3, iv 5, iv p1, iv y0, iv y1, iv y2, iv y3, iv y4, iv 7, rv b1, rv b16, .unset] [(.int p1), (.int p1), (.ref b90)]) (fun _ z_ => XS.iload X91.here hx rfl (hb hby at_457) rfl z_) ?_
    refine own_g (own_F T91 m 461 #[iv i0, iv i1, iv i2, iv i3, iv 5, iv p1, iv y0, iv y1, iv y2, iv y3, iv y4, iv 7, rv b1, rv b16, .unset] [(.int 7), (.int p1), (.int p1), (.ref b90)]) (fun _ z_ => XS.iload X91.here hx rfl (hb hby at_459) rfl z_) ?_
    refine own_g (own_F T91 m 462 #[iv i0, iv i1, iv i2, iv i3, iv 5, iv p1, iv y0, iv y1, iv y2, iv y3, iv y4, iv 7, rv b1, rv b16, .unset] [(.int (p1 + (7 : Int32))), (.int p1), (.ref b90)]) (fun _ z_ => XS.iadd X91.here hx rfl (hb hby at_461) rfl z_) ?_
    have tq0 : own_sym (g89 (P + 0)) v0 := by rw [show g89 (P + 0) = c0_ from by simp [hg89, hg88, hg87, hg86, hg85, hg84, hg83]]; exact hs0
    have tq1 : own_sym (g89 (P + 1)) v1 := by rw [show g89 (P + 1) = c1_ from by simp [hg89, hg88, hg87, hg86, hg85, hg84, hg83]]; exact hs1
    have tq2 : own_sym (g89 (P + 2)) v2 := by rw [show g89 (P + 2) = c2_ from by simp [hg89, hg88, hg87, hg86, hg85, hg84, hg83]]; exact hs2
    have tq3 : own_sym (g89 (P + 3)) v3 := by rw [show g89 (P + 3) = c3_ from by simp [hg89, hg88, hg87, hg86, hg85, hg84, hg83]]; exact hs3
    have tq4 : own_sym (g89 (P + 4)) v4 := by rw [show g89 (P + 4) = c4_ from by simp [hg89, hg88, hg87, hg86, hg85, hg84, hg83]]; exact hs4
    have tq5 : own_sym (g89 (P + 5)) v5 := by rw [show g89 (P + 5) = c5_ from by simp [hg89, hg88, hg87, hg86, hg85, hg84, hg83]]; exact hs5
    have tq6 : own_sym (g89 (P + 6)) v6 := by rw [show g89 (P + 6) = c6_ from by simp [hg89, hg88, hg87, hg86, hg85, hg84, hg83]]; exact hs6
    refine own_callS (y := (⟨"com/example/claimgate/claimgate/jose/Base64Url", "decode", "(Ljava/lang/String;II)[B"⟩ : MethodName)) X91 hx hZ hown (own_w hw 34) (own_w hw 35) (own_w hw 36) (own_w hw 37) (by decide) (rfl : T91.heap = T91.heap) (hM := own_dec5 l Z a0 hw [] b90 p1 (p1 + (7 : Int32)) zc P g89 sv hsv y0 y1 y2 y3 y4 v0 v1 v2 v3 v4 v5 v6 T91.heap n0 (Nat.le_trans (Nat.le_trans (Nat.le_trans (Nat.le_trans (Nat.le_trans (Nat.le_trans (Nat.le_trans (Nat.le_trans (Nat.le_trans (Nat.le_trans (Nat.le_trans (Nat.le_trans (Nat.le_trans (Nat.le_trans (Nat.le_trans (Nat.le_trans (Nat.le_trans (Nat.le_trans (Nat.le_trans (Nat.le_trans (Nat.le_trans (Nat.le_trans (Nat.le_trans (Nat.le_trans (Nat.le_trans (Nat.le_trans (Nat.le_trans (Nat.le_trans (Nat.le_trans Z0 E1.1) (Nat.le_of_eq W3.size.symm)) (Nat.le_of_eq W5.size.symm)) (Nat.le_of_eq W7.size.symm)) (Nat.le_of_eq W9.size.symm)) (Nat.le_of_eq W11.size.symm)) (Nat.le_of_eq W13.size.symm)) (Nat.le_of_eq W15.size.symm)) E16.1) (Nat.le_of_eq W17.size.symm)) (Nat.le_of_eq W18.size.symm)) (Nat.le_of_eq W19.size.symm)) (Nat.le_of_eq W20.size.symm)) (Nat.le_of_eq W21.size.symm)) (Nat.le_of_eq W22.size.symm)) (Nat.le_of_eq W23.size.symm)) (Nat.le_of_eq W24.size.symm)) (Nat.le_of_eq W25.size.symm)) (Nat.le_of_eq W26.size.symm)) (Nat.le_of_eq W27.size.symm)) (Nat.le_of_eq W83.size.symm)) (Nat.le_of_eq W84.size.symm)) (Nat.le_of_eq W85.size.symm)) (Nat.le_of_eq W86.size.symm)) (Nat.le_of_eq W87.size.symm)) (Nat.le_of_eq W88.size.symm)) (Nat.le_of_eq W89.size.symm)) E90.1) K91.1) hp hP (own_padd hp hP (7 : Int32) 7 (by decide) (by decide)) hzc Sx91 (own_sta_keep ((((((((((((((((((((((((((((S_cs.ext E1).wr W3).wr W5).wr W7).wr W9).wr W11).wr W13).wr W15).ext E16).wr W17).wr W18).wr W19).wr W20).wr W21).wr W22).wr W23).wr W24).wr W25).wr W26).wr W27).wr W83).wr W84).wr W85).wr W86).wr W87).wr W88).wr W89).ext E90) K91 (allS (own_plainE A90) all0)) (own_sta_keep ((((((((((((((((((((((((((((S_sf.ext E1).wr W3).wr W5).wr W7).wr W9).wr W11).wr W13).wr W15).ext E16).wr W17).wr W18).wr W19).wr W20).wr W21).wr W22).wr W23).wr W24).wr W25).wr W26).wr W27).wr W83).wr W84).wr W85).wr W86).wr W87).wr W88).wr W89).ext E90) K91 (allS (own_plainE A90) all0)) (own_sta_keep ((((((((((((((((((((((((((((S_ad.ext E1).wr W3).wr W5).wr W7).wr W9).wr W11).wr W13).wr W15).ext E16).wr W17).wr W18).wr W19).wr W20).wr W21).wr W22).wr W23).wr W24).wr W25).wr W26).wr W27).wr W83).wr W84).wr W85).wr W86).wr W87).wr W88).wr W89).ext E90) K91 (allS (own_plainE A90) all0)) (own_sta_keep ((((((((((((((((((((((((((((S_hi.ext E1).wr W3).wr W5).wr W7).wr W9).wr W11).wr W13).wr W15).ext E16).wr W17).wr W18).wr W19).wr W20).wr W21).wr W22).wr W23).wr W24).wr W25).wr W26).wr W27).wr W83).wr W84).wr W85).wr W86).wr W87).wr W88).wr W89).ext E90) K91 (allS (own_plainE A90) all0)) (own_sta_keep ((((((((((((((((((((((((((((S_lo.ext E1).wr W3).wr W5).wr W7).wr W9).wr W11).wr W13).wr W15).ext E16).wr W17).wr W18).wr W19).wr W20).wr W21).wr W22).wr W23).wr W24).wr W25).wr W26).wr W27).wr W83).wr W84).wr W85).wr W86).wr W87).wr W88).wr W89).ext E90) K91 (allS (own_plainE A90) all0)) tq0 tq1 tq2 tq3 tq4 tq5 tq6 hr0 hr1 hr2 hr3 hr4 hr5 hr6 hc0 hc1 hc2 hc3 hc4) (W := 0) (pc := 462) (Ls := #[iv i0, iv i1, iv i2, iv i3, iv 5, iv p1, iv y0, iv y1, iv y2, iv y3, iv y4, iv 7, rv b1, rv b16, .unset]) (argsL := [(.ref b90), (.int p1), (.int (p1 + (7 : Int32)))]) (rest := []) (st0 := [(.int (p1 + (7 : Int32))), (.int p1), (.ref b90)]) (by rw [hml]; rfl) (lenOf own_pd16 rfl) rfl (Nat.le_of_eq rfl) (hb hby at_462) (by decide) (by decide) (by decide) (by decide) ?_
    intro v92 T92 L92 X92 hQ92
    obtain ⟨ra92, gr92, rfl, Nq92, K92, ge_ra92, Ar92, qr0, qr1, qr2, qr3, qr4⟩ := hQ92
    have N92 := Fr.app N91 Nq92
    show own_Ends p e below s _ _ _ (own_F T92 m 465 #[iv i0, iv i1, iv i2, iv i3, iv 5, iv p1, iv y0, iv y1, iv y2, iv y3, iv y4, iv 7, rv b1, rv b16, .unset] [(.ref ra92)])
    refine own_g (own_F T92 m 467 #[iv i0, iv i1, iv i2, iv i3, iv 5, iv p1, iv y0, iv y1, iv y2, iv y3, iv y4, iv 7, rv b1, rv b16, rv ra92] []) (fun _ z_ => XS.astore X92.here hx rfl (hb hby at_465) rfl rfl (l' := #[iv i0, iv i1, iv i2, iv i3, iv 5, iv p1, iv y0, iv y1, iv y2, iv y3, iv y4, iv 7, rv b1, rv b16, rv ra92]) rfl z_) ?_
    refine own_g (own_F T92 m 469 #[iv i0, iv i1, iv i2, iv i3, iv 5, iv p1, iv y0, iv y1, iv y2, iv y3, iv y4, iv 7, rv b1, rv b16, rv ra92] [(.ref ra92)]) (fun _ z_ => XS.aload X92.here hx rfl (hb hby at_467) rfl rfl z_) ?_
    refine own_alen X92 hx hZ (rfl : T92.heap = T92.heap) Ar92 (hb hby at_469) ?_
    show own_Ends p e below s _ _ _ (own_F T92 m 470 #[iv i0, iv i1, iv i2, iv i3, iv 5, iv p1, iv y0, iv y1, iv y2, iv y3, iv y4, iv 7, rv b1, rv b16, rv ra92] [(.int 5)])
    refine own_g (own_F T92 m 472 #[iv i0, iv i1, iv i2, iv i3, iv 5, iv p1, iv y0, iv y1, iv y2, iv y3, iv y4, iv 7, rv b1, rv b16, rv ra92] [(.int 5), (.int 5)]) (fun _ z_ => XS.iload X92.here hx rfl (hb hby at_470) rfl z_) ?_
    refine own_g (own_F T92 m 475 #[iv i0, iv i1, iv i2, iv i3, iv 5, iv p1, iv y0, iv y1, iv y2, iv y3, iv y4, iv 7, rv b1, rv b16, rv ra92] []) (fun _ z_ => XS.icmpNo X92.here hx rfl (hb hby at_472) rfl (teq (by decide : ((5 : Int32) = (5 : Int32)))).2 z_) ?_
    refine own_g (own_F T92 m 477 #[iv i0, iv i1, iv i2, iv i3, iv 5, iv p1, iv y0, iv y1, iv y2, iv y3, iv y4, iv 7, rv b1, rv b16, rv ra92] [(.ref ra92)]) (fun _ z_ => XS.aload X92.here hx rfl (hb hby at_475) rfl rfl z_) ?_
    refine own_g (own_F T92 m 478 #[iv i0, iv i1, iv i2, iv i3, iv 5, iv p1, iv y0, iv y1, iv y2, iv y3, iv y4, iv 7, rv b1, rv b16, rv ra92] [(.int 0), (.ref ra92)]) (fun _ z_ => XS.iconst X92.here hx rfl (hb hby at_477) z_) ?_
    refine own_g (own_F T92 m 480 #[iv i0, iv i1, iv i2, iv i3, iv 5, iv p1, iv y0, iv y1, iv y2, iv y3, iv y4, iv 7, rv b1, rv b16, rv ra92] [(.int y0), (.int 0), (.ref ra92)]) (fun _ z_ => XS.iload X92.here hx rfl (hb hby at_478) rfl z_) ?_
    refine own_callS (y := (⟨"com/example/claimgate/claimgate/jose/Base64UrlDecodePinLaw", "at", "([BII)Z"⟩ : MethodName)) X92 hx hZ hown (own_w hw 38) (own_w hw 39) (own_w hw 3) (own_w hw 40) (by decide) (rfl : T92.heap = T92.heap) (hM := own_at l Z a0 hw [] ra92 5 0 (0 : Int32) y0 gr92 T92.heap n0 (Nat.le_trans (Nat.le_trans (Nat.le_trans (Nat.le_trans (Nat.le_trans (Nat.le_trans (Nat.le_trans (Nat.le_trans (Nat.le_trans (Nat.le_trans (Nat.le_trans (Nat.le_trans (Nat.le_trans (Nat.le_trans (Nat.le_trans (Nat.le_trans (Nat.le_trans (Nat.le_trans (Nat.le_trans (Nat.le_trans (Nat.le_trans (Nat.le_trans (Nat.le_trans (Nat.le_trans (Nat.le_trans (Nat.le_trans (Nat.le_trans (Nat.le_trans (Nat.le_trans (Nat.le_trans Z0 E1.1) (Nat.le_of_eq W3.size.symm)) (Nat.le_of_eq W5.size.symm)) (Nat.le_of_eq W7.size.symm)) (Nat.le_of_eq W9.size.symm)) (Nat.le_of_eq W11.size.symm)) (Nat.le_of_eq W13.size.symm)) (Nat.le_of_eq W15.size.symm)) E16.1) (Nat.le_of_eq W17.size.symm)) (Nat.le_of_eq W18.size.symm)) (Nat.le_of_eq W19.size.symm)) (Nat.le_of_eq W20.size.symm)) (Nat.le_of_eq W21.size.symm)) (Nat.le_of_eq W22.size.symm)) (Nat.le_of_eq W23.size.symm)) (Nat.le_of_eq W24.size.symm)) (Nat.le_of_eq W25.size.symm)) (Nat.le_of_eq W26.size.symm)) (Nat.le_of_eq W27.size.symm)) (Nat.le_of_eq W83.size.symm)) (Nat.le_of_eq W84.size.symm)) (Nat.le_of_eq W85.size.symm)) (Nat.le_of_eq W86.size.symm)) (Nat.le_of_eq W87.size.symm)) (Nat.le_of_eq W88.size.symm)) (Nat.le_of_eq W89.size.symm)) E90.1) K91.1) K92.1) (by decide) (fun _ => qr0) Ar92) (W := 0) (pc := 480) (Ls := #[iv i0, iv i1, iv i2, iv i3, iv 5, iv p1, iv y0, iv y1, iv y2, iv y3, iv y4, iv 7, rv b1, rv b16, rv ra92]) (argsL := [(.ref ra92), (.int 0), (.int y0)]) (rest := []) (st0 := [(.int y0), (.int 0), (.ref ra92)]) (by rw [hml]; rfl) (lenOf own_pd17 rfl) rfl (Nat.le_of_eq rfl) (hb hby at_480) (by decide) (by decide) (by decide) (by decide) ?_
    intro v93 T93 L93 X93 hQ93
    obtain ⟨rfl, Nq93, hh93⟩ := hQ93
    have N93 := Fr.app N92 Nq93
    show own_Ends p e below s _ _ _ (own_F T93 m 483 #[iv i0, iv i1, iv i2, iv i3, iv 5, iv p1, iv y0, iv y1, iv y2, iv y3, iv y4, iv 7, rv b1, rv b16, rv ra92] [(.int 1)])
    refine own_g (own_F T93 m 486 #[iv i0, iv i1, iv i2, iv i3, iv 5, iv p1, iv y0, iv y1, iv y2, iv y3, iv y4, iv 7, rv b1, rv b16, rv ra92] []) (fun _ z_ => XS.ifNo X93.here hx rfl (hb hby at_483) rfl ((if0 _ _).trans (feq (by decide : ¬ ((1 : Int32) = (0 : Int32)))).1) z_) ?_
    refine own_g (own_F T93 m 488 #[iv i0, iv i1, iv i2, iv i3, iv 5, iv p1, iv y0, iv y1, iv y2, iv y3, iv y4, iv 7, rv b1, rv b16, rv ra92] [(.ref ra92)]) (fun _ z_ => XS.aload X93.here hx rfl (hb hby at_486) rfl rfl z_) ?_
    refine own_g (own_F T93 m 489 #[iv i0, iv i1, iv i2, iv i3, iv 5, iv p1, iv y0, iv y1, iv y2, iv y3, iv y4, iv 7, rv b1, rv b16, rv ra92] [(.int 1), (.ref ra92)]) (fun _ z_ => XS.iconst X93.here hx rfl (hb hby at_488) z_) ?_
    refine own_g (own_F T93 m 491 #[iv i0, iv i1, iv i2, iv i3, iv 5, iv p1, iv y0, iv y1, iv y2, iv y3, iv y4, iv 7, rv b1, rv b16, rv ra92] [(.int y1), (.int 1), (.ref ra92)]) (fun _ z_ => XS.iload X93.here hx rfl (hb hby at_489) rfl z_) ?_
    refine own_callS (y := (⟨"com/example/claimgate/claimgate/jose/Base64UrlDecodePinLaw", "at", "([BII)Z"⟩ : MethodName)) X93 hx hZ hown (own_w hw 38) (own_w hw 39) (own_w hw 3) (own_w hw 40) (by decide) hh93 (hM := own_at l Z a0 hw [] ra92 5 1 (1 : Int32) y1 gr92 T92.heap n0 (Nat.le_trans (Nat.le_trans (Nat.le_trans (Nat.le_trans (Nat.le_trans (Nat.le_trans (Nat.le_trans (Nat.le_trans (Nat.le_trans (Nat.le_trans (Nat.le_trans (Nat.le_trans (Nat.le_trans (Nat.le_trans (Nat.le_trans (Nat.le_trans (Nat.le_trans (Nat.le_trans (Nat.le_trans (Nat.le_trans (Nat.le_trans (Nat.le_trans (Nat.le_trans (Nat.le_trans (Nat.le_trans (Nat.le_trans (Nat.le_trans (Nat.le_trans (Nat.le_trans (Nat.le_trans Z0 E1.1) (Nat.le_of_eq W3.size.symm)) (Nat.le_of_eq W5.size.symm)) (Nat.le_of_eq W7.size.symm)) (Nat.le_of_eq W9.size.symm)) (Nat.le_of_eq W11.size.symm)) (Nat.le_of_eq W13.size.symm)) (Nat.le_of_eq W15.size.symm)) E16.1) (Nat.le_of_eq W17.size.symm)) (Nat.le_of_eq W18.size.symm)) (Nat.le_of_eq W19.size.symm)) (Nat.le_of_eq W20.size.symm)) (Nat.le_of_eq W21.size.symm)) (Nat.le_of_eq W22.size.symm)) (Nat.le_of_eq W23.size.symm)) (Nat.le_of_eq W24.size.symm)) (Nat.le_of_eq W25.size.symm)) (Nat.le_of_eq W26.size.symm)) (Nat.le_of_eq W27.size.symm)) (Nat.le_of_eq W83.size.symm)) (Nat.le_of_eq W84.size.symm)) (Nat.le_of_eq W85.size.symm)) (Nat.le_of_eq W86.size.symm)) (Nat.le_of_eq W87.size.symm)) (Nat.le_of_eq W88.size.symm)) (Nat.le_of_eq W89.size.symm)) E90.1) K91.1) K92.1) (by decide) (fun _ => qr1) Ar92) (W := 0) (pc := 491) (Ls := #[iv i0, iv i1, iv i2, iv i3, iv 5, iv p1, iv y0, iv y1, iv y2, iv y3, iv y4, iv 7, rv b1, rv b16, rv ra92]) (argsL := [(.ref ra92), (.int 1), (.int y1)]) (rest := []) (st0 := [(.int y1), (.int 1), (.ref ra92)]) (by rw [hml]; rfl) (lenOf own_pd17 rfl) rfl (Nat.le_of_eq rfl) (hb hby at_491) (by decide) (by decide) (by decide) (by decide) ?_
    intro v94 T94 L94 X94 hQ94
    obtain ⟨rfl, Nq94, hh94⟩ := hQ94
    have N94 := Fr.app N93 Nq94
    show own_Ends p e below s _ _ _ (own_F T94 m 494 #[iv i0, iv i1, iv i2, iv i3, iv 5, iv p1, iv y0, iv y1, iv y2, iv y3, iv y4, iv 7, rv b1, rv b16, rv ra92] [(.int 1)])
    refine own_g (own_F T94 m 497 #[iv i0, iv i1, iv i2, iv i3, iv 5, iv p1, iv y0, iv y1, iv y2, iv y3, iv y4, iv 7, rv b1, rv b16, rv ra92] []) (fun _ z_ => XS.ifNo X94.here hx rfl (hb hby at_494) rfl ((if0 _ _).trans (feq (by decide : ¬ ((1 : Int32) = (0 : Int32)))).1) z_) ?_
    refine own_g (own_F T94 m 499 #[iv i0, iv i1, iv i2, iv i3, iv 5, iv p1, iv y0, iv y1, iv y2, iv y3, iv y4, iv 7, rv b1, rv b16, rv ra92] [(.ref ra92)]) (fun _ z_ => XS.aload X94.here hx rfl (hb hby at_497) rfl rfl z_) ?_
    refine own_g (own_F T94 m 500 #[iv i0, iv i1, iv i2, iv i3, iv 5, iv p1, iv y0, iv y1, iv y2, iv y3, iv y4, iv 7, rv b1, rv b16, rv ra92] [(.int 2), (.ref ra92)]) (fun _ z_ => XS.iconst X94.here hx rfl (hb hby at_499) z_) ?_
    refine own_g (own_F T94 m 502 #[iv i0, iv i1, iv i2, iv i3, iv 5, iv p1, iv y0, iv y1, iv y2, iv y3, iv y4, iv 7, rv b1, rv b16, rv ra92] [(.int y2), (.int 2), (.ref ra92)]) (fun _ z_ => XS.iload X94.here hx rfl (hb hby at_500) rfl z_) ?_
    refine own_callS (y := (⟨"com/example/claimgate/claimgate/jose/Base64UrlDecodePinLaw", "at", "([BII)Z"⟩ : MethodName)) X94 hx hZ hown (own_w hw 38) (own_w hw 39) (own_w hw 3) (own_w hw 40) (by decide) hh94 (hM := own_at l Z a0 hw [] ra92 5 2 (2 : Int32) y2 gr92 T92.heap n0 (Nat.le_trans (Nat.le_trans (Nat.le_trans (Nat.le_trans (Nat.le_trans (Nat.le_trans (Nat.le_trans (Nat.le_trans (Nat.le_trans (Nat.le_trans (Nat.le_trans (Nat.le_trans (Nat.le_trans (Nat.le_trans (Nat.le_trans (Nat.le_trans (Nat.le_trans (Nat.le_trans (Nat.le_trans (Nat.le_trans (Nat.le_trans (Nat.le_trans (Nat.le_trans (Nat.le_trans (Nat.le_trans (Nat.le_trans (Nat.le_trans (Nat.le_trans (Nat.le_trans (Nat.le_trans Z0 E1.1) (Nat.le_of_eq W3.size.symm)) (Nat.le_of_eq W5.size.symm)) (Nat.le_of_eq W7.size.symm)) (Nat.le_of_eq W9.size.symm)) (Nat.le_of_eq W11.size.symm)) (Nat.le_of_eq W13.size.symm)) (Nat.le_of_eq W15.size.symm)) E16.1) (Nat.le_of_eq W17.size.symm)) (Nat.le_of_eq W18.size.symm)) (Nat.le_of_eq W19.size.symm)) (Nat.le_of_eq W20.size.symm)) (Nat.le_of_eq W21.size.symm)) (Nat.le_of_eq W22.size.symm)) (Nat.le_of_eq W23.size.symm)) (Nat.le_of_eq W24.size.symm)) (Nat.le_of_eq W25.size.symm)) (Nat.le_of_eq W26.size.symm)) (Nat.le_of_eq W27.size.symm)) (Nat.le_of_eq W83.size.symm)) (Nat.le_of_eq W84.size.symm)) (Nat.le_of_eq W85.size.symm)) (Nat.le_of_eq W86.size.symm)) (Nat.le_of_eq W87.size.symm)) (Nat.le_of_eq W88.size.symm)) (Nat.le_of_eq W89.size.symm)) E90.1) K91.1) K92.1) (by decide) (fun _ => qr2) Ar92) (W := 0) (pc := 502) (Ls := #[iv i0, iv i1, iv i2, iv i3, iv 5, iv p1, iv y0, iv y1, iv y2, iv y3, iv y4, iv 7, rv b1, rv b16, rv ra92]) (argsL := [(.ref ra92), (.int 2), (.int y2)]) (rest := []) (st0 := [(.int y2), (.int 2), (.ref ra92)]) (by rw [hml]; rfl) (lenOf own_pd17 rfl) rfl (Nat.le_of_eq rfl) (hb hby at_502) (by decide) (by decide) (by decide) (by decide) ?_
    intro v95 T95 L95 X95 hQ95
    obtain ⟨rfl, Nq95, hh95⟩ := hQ95
    have N95 := Fr.app N94 Nq95
    show own_Ends p e below s _ _ _ (own_F T95 m 505 #[iv i0, iv i1, iv i2, iv i3, iv 5, iv p1, iv y0, iv y1, iv y2, iv y3, iv y4, iv 7, rv b1, rv b16, rv ra92] [(.int 1)])
    refine own_g (own_F T95 m 508 #[iv i0, iv i1, iv i2, iv i3, iv 5, iv p1, iv y0, iv y1, iv y2, iv y3, iv y4, iv 7, rv b1, rv b16, rv ra92] []) (fun _ z_ => XS.ifNo X95.here hx rfl (hb hby at_505) rfl ((if0 _ _).trans (feq (by decide : ¬ ((1 : Int32) = (0 : Int32)))).1) z_) ?_
    refine own_g (own_F T95 m 510 #[iv i0, iv i1, iv i2, iv i3, iv 5, iv p1, iv y0, iv y1, iv y2, iv y3, iv y4, iv 7, rv b1, rv b16, rv ra92] [(.ref ra92)]) (fun _ z_ => XS.aload X95.here hx rfl (hb hby at_508) rfl rfl z_) ?_
    refine own_g (own_F T95 m 511 #[iv i0, iv i1, iv i2, iv i3, iv 5, iv p1, iv y0, iv y1, iv y2, iv y3, iv y4, iv 7, rv b1, rv b16, rv ra92] [(.int 3), (.ref ra92)]) (fun _ z_ => XS.iconst X95.here hx rfl (hb hby at_510) z_) ?_
    refine own_g (own_F T95 m 513 #[iv i0, iv i1, iv i2, iv i3, iv 5, iv p1, iv y0, iv y1, iv y2, iv y3, iv y4, iv 7, rv b1, rv b16, rv ra92] [(.int y3), (.int 3), (.ref ra92)]) (fun _ z_ => XS.iload X95.here hx rfl (hb hby at_511) rfl z_) ?_
    refine own_callS (y := (⟨"com/example/claimgate/claimgate/jose/Base64UrlDecodePinLaw", "at", "([BII)Z"⟩ : MethodName)) X95 hx hZ hown (own_w hw 38) (own_w hw 39) (own_w hw 3) (own_w hw 40) (by decide) hh95 (hM := own_at l Z a0 hw [] ra92 5 3 (3 : Int32) y3 gr92 T92.heap n0 (Nat.le_trans (Nat.le_trans (Nat.le_trans (Nat.le_trans (Nat.le_trans (Nat.le_trans (Nat.le_trans (Nat.le_trans (Nat.le_trans (Nat.le_trans (Nat.le_trans (Nat.le_trans (Nat.le_trans (Nat.le_trans (Nat.le_trans (Nat.le_trans (Nat.le_trans (Nat.le_trans (Nat.le_trans (Nat.le_trans (Nat.le_trans (Nat.le_trans (Nat.le_trans (Nat.le_trans (Nat.le_trans (Nat.le_trans (Nat.le_trans (Nat.le_trans (Nat.le_trans (Nat.le_trans Z0 E1.1) (Nat.le_of_eq W3.size.symm)) (Nat.le_of_eq W5.size.symm)) (Nat.le_of_eq W7.size.symm)) (Nat.le_of_eq W9.size.symm)) (Nat.le_of_eq W11.size.symm)) (Nat.le_of_eq W13.size.symm)) (Nat.le_of_eq W15.size.symm)) E16.1) (Nat.le_of_eq W17.size.symm)) (Nat.le_of_eq W18.size.symm)) (Nat.le_of_eq W19.size.symm)) (Nat.le_of_eq W20.size.symm)) (Nat.le_of_eq W21.size.symm)) (Nat.le_of_eq W22.size.symm)) (Nat.le_of_eq W23.size.symm)) (Nat.le_of_eq W24.size.symm)) (Nat.le_of_eq W25.size.symm)) (Nat.le_of_eq W26.size.symm)) (Nat.le_of_eq W27.size.symm)) (Nat.le_of_eq W83.size.symm)) (Nat.le_of_eq W84.size.symm)) (Nat.le_of_eq W85.size.symm)) (Nat.le_of_eq W86.size.symm)) (Nat.le_of_eq W87.size.symm)) (Nat.le_of_eq W88.size.symm)) (Nat.le_of_eq W89.size.symm)) E90.1) K91.1) K92.1) (by decide) (fun _ => qr3) Ar92) (W := 0) (pc := 513) (Ls := #[iv i0, iv i1, iv i2, iv i3, iv 5, iv p1, iv y0, iv y1, iv y2, iv y3, iv y4, iv 7, rv b1, rv b16, rv ra92]) (argsL := [(.ref ra92), (.int 3), (.int y3)]) (rest := []) (st0 := [(.int y3), (.int 3), (.ref ra92)]) (by rw [hml]; rfl) (lenOf own_pd17 rfl) rfl (Nat.le_of_eq rfl) (hb hby at_513) (by decide) (by decide) (by decide) (by decide) ?_
    intro v96 T96 L96 X96 hQ96
    obtain ⟨rfl, Nq96, hh96⟩ := hQ96
    have N96 := Fr.app N95 Nq96
    show own_Ends p e below s _ _ _ (own_F T96 m 516 #[iv i0, iv i1, iv i2, iv i3, iv 5, iv p1, iv y0, iv y1, iv y2, iv y3, iv y4, iv 7, rv b1, rv b16, rv ra92] [(.int 1)])
    refine own_g (own_F T96 m 519 #[iv i0, iv i1, iv i2, iv i3, iv 5, iv p1, iv y0, iv y1, iv y2, iv y3, iv y4, iv 7, rv b1, rv b16, rv ra92] []) (fun _ z_ => XS.ifNo X96.here hx rfl (hb hby at_516) rfl ((if0 _ _).trans (feq (by decide : ¬ ((1 : Int32) = (0 : Int32)))).1) z_) ?_
    refine own_g (own_F T96 m 521 #[iv i0, iv i1, iv i2, iv i3, iv 5, iv p1, iv y0, iv y1, iv y2, iv y3, iv y4, iv 7, rv b1, rv b16, rv ra92] [(.ref ra92)]) (fun _ z_ => XS.aload X96.here hx rfl (hb hby at_519) rfl rfl z_) ?_
    refine own_g (own_F T96 m 522 #[iv i0, iv i1, iv i2, iv i3, iv 5, iv p1, iv y0, iv y1, iv y2, iv y3, iv y4, iv 7, rv b1, rv b16, rv ra92] [(.int 4), (.ref ra92)]) (fun _ z_ => XS.iconst X96.here hx rfl (hb hby at_521) z_) ?_
    refine own_g (own_F T96 m 524 #[iv i0, iv i1, iv i2, iv i3, iv 5, iv p1, iv y0, iv y1, iv y2, iv y3, iv y4, iv 7, rv b1, rv b16, rv ra92] [(.int y4), (.int 4), (.ref ra92)]) (fun _ z_ => XS.iload X96.here hx rfl (hb hby at_522) rfl z_) ?_
    refine own_callS (y := (⟨"com/example/claimgate/claimgate/jose/Base64UrlDecodePinLaw", "at", "([BII)Z"⟩ : MethodName)) X96 hx hZ hown (own_w hw 38) (own_w hw 39) (own_w hw 3) (own_w hw 40) (by decide) hh96 (hM := own_at l Z a0 hw [] ra92 5 4 (4 : Int32) y4 gr92 T92.heap n0 (Nat.le_trans (Nat.le_trans (Nat.le_trans (Nat.le_trans (Nat.le_trans (Nat.le_trans (Nat.le_trans (Nat.le_trans (Nat.le_trans (Nat.le_trans (Nat.le_trans (Nat.le_trans (Nat.le_trans (Nat.le_trans (Nat.le_trans (Nat.le_trans (Nat.le_trans (Nat.le_trans (Nat.le_trans (Nat.le_trans (Nat.le_trans (Nat.le_trans (Nat.le_trans (Nat.le_trans (Nat.le_trans (Nat.le_trans (Nat.le_trans (Nat.le_trans (Nat.le_trans (Nat.le_trans Z0 E1.1) (Nat.le_of_eq W3.size.symm)) (Nat.le_of_eq W5.size.symm)) (Nat.le_of_eq W7.size.symm)) (Nat.le_of_eq W9.size.symm)) (Nat.le_of_eq W11.size.symm)) (Nat.le_of_eq W13.size.symm)) (Nat.le_of_eq W15.size.symm)) E16.1) (Nat.le_of_eq W17.size.symm)) (Nat.le_of_eq W18.size.symm)) (Nat.le_of_eq W19.size.symm)) (Nat.le_of_eq W20.size.symm)) (Nat.le_of_eq W21.size.symm)) (Nat.le_of_eq W22.size.symm)) (Nat.le_of_eq W23.size.symm)) (Nat.le_of_eq W24.size.symm)) (Nat.le_of_eq W25.size.symm)) (Nat.le_of_eq W26.size.symm)) (Nat.le_of_eq W27.size.symm)) (Nat.le_of_eq W83.size.symm)) (Nat.le_of_eq W84.size.symm)) (Nat.le_of_eq W85.size.symm)) (Nat.le_of_eq W86.size.symm)) (Nat.le_of_eq W87.size.symm)) (Nat.le_of_eq W88.size.symm)) (Nat.le_of_eq W89.size.symm)) E90.1) K91.1) K92.1) (by decide) (fun _ => qr4) Ar92) (W := 0) (pc := 524) (Ls := #[iv i0, iv i1, iv i2, iv i3, iv 5, iv p1, iv y0, iv y1, iv y2, iv y3, iv y4, iv 7, rv b1, rv b16, rv ra92]) (argsL := [(.ref ra92), (.int 4), (.int y4)]) (rest := []) (st0 := [(.int y4), (.int 4), (.ref ra92)]) (by rw [hml]; rfl) (lenOf own_pd17 rfl) rfl (Nat.le_of_eq rfl) (hb hby at_524) (by decide) (by decide) (by decide) (by decide) ?_
    intro v97 T97 L97 X97 hQ97
    obtain ⟨rfl, Nq97, hh97⟩ := hQ97
    have N97 := Fr.app N96 Nq97
    show own_Ends p e below s _ _ _ (own_F T97 m 527 #[iv i0, iv i1, iv i2, iv i3, iv 5, iv p1, iv y0, iv y1, iv y2, iv y3, iv y4, iv 7, rv b1, rv b16, rv ra92] [(.int 1)])
    refine own_g (own_F T97 m 530 #[iv i0, iv i1, iv i2, iv i3, iv 5, iv p1, iv y0, iv y1, iv y2, iv y3, iv y4, iv 7, rv b1, rv b16, rv ra92] []) (fun _ z_ => XS.ifNo X97.here hx rfl (hb hby at_527) rfl ((if0 _ _).trans (feq (by decide : ¬ ((1 : Int32) = (0 : Int32)))).1) z_) ?_
    refine own_g (own_F T97 m 531 #[iv i0, iv i1, iv i2, iv i3, iv 5, iv p1, iv y0, iv y1, iv y2, iv y3, iv y4, iv 7, rv b1, rv b16, rv ra92] [(.int 1)]) (fun _ z_ => XS.iconst X97.here hx rfl (hb hby at_530) z_) ?_
    refine own_g (own_F T97 m 535 #[iv i0, iv i1, iv i2, iv i3, iv 5, iv p1, iv y0, iv y1, iv y2, iv y3, iv y4, iv 7, rv b1, rv b16, rv ra92] [(.int 1)]) (fun _ z_ => XS.goto X97.here hx rfl (pc0 := 531) (pc' := 535) rfl (hb hby at_531) (by decide) (by decide) z_) ?_
    refine own_ret (t := .boolean) X97 hx hlk hrt rfl (Or.inl ⟨rfl, by simp, _, rfl⟩) (hb hby at_535) (by decide) (by decide) ?_
    exact ⟨rfl, N97⟩
  refine own_g (own_F T0 m 1 #[iv i0, iv i1, iv i2, iv i3, .unset, .unset, .unset, .unset, .unset, .unset, .unset, .unset, .unset, .unset, .unset] [(.int i1)]) (fun _ z_ => XS.iloadN X0.here hx rfl (hb hby at_0) rfl z_) ?_
  refine own_g (own_F T0 m 3 #[iv i0, iv i1, iv i2, iv i3, .unset, .unset, .unset, .unset, .unset, .unset, .unset, .unset, .unset, .unset, .unset] [(.int 8), (.int i1)]) (fun _ z_ => XS.bipush X0.here hx rfl (hb hby at_1) z_) ?_
  refine own_g (own_F T0 m 4 #[iv i0, iv i1, iv i2, iv i3, .unset, .unset, .unset, .unset, .unset, .unset, .unset, .unset, .unset, .unset, .unset] [(.int ((i1.toUInt32 >>> ((8 : Int32) &&& 31).toUInt32).toInt32))]) (fun _ z_ => XS.iushr X0.here hx rfl (hb hby at_3) rfl z_) ?_
  refine own_g (own_F T0 m 7 #[iv i0, iv i1, iv i2, iv i3, .unset, .unset, .unset, .unset, .unset, .unset, .unset, .unset, .unset, .unset, .unset] [(.int 32767), (.int ((i1.toUInt32 >>> ((8 : Int32) &&& 31).toUInt32).toInt32))]) (fun _ z_ => XS.sipush X0.here hx rfl (hb hby at_4) z_) ?_
  refine own_g (own_F T0 m 8 #[iv i0, iv i1, iv i2, iv i3, .unset, .unset, .unset, .unset, .unset, .unset, .unset, .unset, .unset, .unset, .unset] [(.int (((i1.toUInt32 >>> ((8 : Int32) &&& 31).toUInt32).toInt32) &&& (32767 : Int32)))]) (fun _ z_ => XS.iand X0.here hx rfl (hb hby at_7) rfl z_) ?_
  refine own_g (own_F T0 m 10 #[iv i0, iv i1, iv i2, iv i3, .unset, .unset, .unset, .unset, .unset, .unset, .unset, .unset, .unset, .unset, .unset] [(.int 6), (.int (((i1.toUInt32 >>> ((8 : Int32) &&& 31).toUInt32).toInt32) &&& (32767 : Int32)))]) (fun _ z_ => XS.bipush X0.here hx rfl (hb hby at_8) z_) ?_
  refine own_g (own_F T0 m 11 #[iv i0, iv i1, iv i2, iv i3, .unset, .unset, .unset, .unset, .unset, .unset, .unset, .unset, .unset, .unset, .unset] [(.int ((((i1.toUInt32 >>> ((8 : Int32) &&& 31).toUInt32).toInt32) &&& (32767 : Int32)) % (6 : Int32)))]) (fun _ z_ => iremM X0 hx rfl (hb hby at_10) rfl (by decide) z_) ?_
  have hn6 := own_six (y := i1)
  generalize ((((i1.toUInt32 >>> ((8 : Int32) &&& 31).toUInt32).toInt32) &&& (32767 : Int32)) % (6 : Int32)) = nq at hn6 ⊢
  rcases hn6 with rfl | rfl | rfl | rfl | rfl | rfl
  ·
   show own_Ends p e below s _ _ _ (own_F T0 m 11 #[iv i0, iv i1, iv i2, iv i3, .unset, .unset, .unset, .unset, .unset, .unset, .unset, .unset, .unset, .unset, .unset] [(.int 0)])
   refine own_g (own_F T0 m 13 #[iv i0, iv i1, iv i2, iv i3, iv 0, .unset, .unset, .unset, .unset, .unset, .unset, .unset, .unset, .unset, .unset] []) (fun _ z_ => XS.istore X0.here hx rfl (hb hby at_11) rfl (l' := #[iv i0, iv i1, iv i2, iv i3, iv 0, .unset, .unset, .unset, .unset, .unset, .unset, .unset, .unset, .unset, .unset]) rfl z_) ?_
   refine own_g (own_F T0 m 14 #[iv i0, iv i1, iv i2, iv i3, iv 0, .unset, .unset, .unset, .unset, .unset, .unset, .unset, .unset, .unset, .unset] [(.int i1)]) (fun _ z_ => XS.iloadN X0.here hx rfl (hb hby at_13) rfl z_) ?_
   refine own_g (own_F T0 m 16 #[iv i0, iv i1, iv i2, iv i3, iv 0, .unset, .unset, .unset, .unset, .unset, .unset, .unset, .unset, .unset, .unset] [(.int 24), (.int i1)]) (fun _ z_ => XS.bipush X0.here hx rfl (hb hby at_14) z_) ?_
   refine own_g (own_F T0 m 17 #[iv i0, iv i1, iv i2, iv i3, iv 0, .unset, .unset, .unset, .unset, .unset, .unset, .unset, .unset, .unset, .unset] [(.int ((i1.toUInt32 >>> ((24 : Int32) &&& 31).toUInt32).toInt32))]) (fun _ z_ => XS.iushr X0.here hx rfl (hb hby at_16) rfl z_) ?_
   refine own_g (own_F T0 m 18 #[iv i0, iv i1, iv i2, iv i3, iv 0, .unset, .unset, .unset, .unset, .unset, .unset, .unset, .unset, .unset, .unset] [(.int 3), (.int ((i1.toUInt32 >>> ((24 : Int32) &&& 31).toUInt32).toInt32))]) (fun _ z_ => XS.iconst X0.here hx rfl (hb hby at_17) z_) ?_
   refine own_g (own_F T0 m 19 #[iv i0, iv i1, iv i2, iv i3, iv 0, .unset, .unset, .unset, .unset, .unset, .unset, .unset, .unset, .unset, .unset] [(.int (((i1.toUInt32 >>> ((24 : Int32) &&& 31).toUInt32).toInt32) &&& (3 : Int32)))]) (fun _ z_ => XS.iand X0.here hx rfl (hb hby at_18) rfl z_) ?_
   have hp3 := own_m3 ((i1.toUInt32 >>> ((24 : Int32) &&& 31).toUInt32).toInt32)
   generalize (((i1.toUInt32 >>> ((24 : Int32) &&& 31).toUInt32).toInt32) &&& (3 : Int32)) = p1 at hp3 ⊢
   obtain ⟨P, hp⟩ : ∃ P : Nat, p1.toInt = (P : Int) := ⟨p1.toInt.toNat, by omega⟩
   have hP : P ≤ 3 := by omega
   refine own_g (own_F T0 m 21 #[iv i0, iv i1, iv i2, iv i3, iv 0, iv p1, .unset, .unset, .unset, .unset, .unset, .unset, .unset, .unset, .unset] []) (fun _ z_ => XS.istore X0.here hx rfl (hb hby at_19) rfl (l' := #[iv i0, iv i1, iv i2, iv i3, iv 0, iv p1, .unset, .unset, .unset, .unset, .unset, .unset, .unset, .unset, .unset]) rfl z_) ?_
   refine own_g (own_F T0 m 23 #[iv i0, iv i1, iv i2, iv i3, iv 0, iv p1, .unset, .unset, .unset, .unset, .unset, .unset, .unset, .unset, .unset] [(.int 0)]) (fun _ z_ => XS.iload X0.here hx rfl (hb hby at_21) rfl z_) ?_
   refine own_g (own_F T0 m 34 #[iv i0, iv i1, iv i2, iv i3, iv 0, iv p1, .unset, .unset, .unset, .unset, .unset, .unset, .unset, .unset, .unset] []) (fun _ z_ => XS.ifYes X0.here hx rfl (pc0 := 23) (pc' := 34) rfl (hb hby at_23) rfl ((if0 _ _).trans (flt (by decide : ¬ ((0 : Int32) < (0 : Int32)))).2.2.2) (by decide) (by decide) z_) ?_
   refine own_g (own_F T0 m 35 #[iv i0, iv i1, iv i2, iv i3, iv 0, iv p1, .unset, .unset, .unset, .unset, .unset, .unset, .unset, .unset, .unset] [(.int 0)]) (fun _ z_ => XS.iconst X0.here hx rfl (hb hby at_34) z_) ?_
   obtain ⟨y0, hy0⟩ : ∃ y : Int32, y = (0 : Int32) := ⟨_, rfl⟩
   have hb0 : 0 ≤ y0.toInt ∧ y0.toInt ≤ 0 := by rw [hy0]; decide
   suffices hsuf : own_Ends p e below s (fun v h L => v = some (.int 1) ∧ Fr n0 L) room_1.cells room_1.slots (own_F T0 m 35 #[iv i0, iv i1, iv i2, iv i3, iv 0, iv p1, .unset, .unset, .unset, .unset, .unset, .unset, .unset, .unset, .unset] [(.int y0)]) by rw [hy0] at hsuf; exact hsuf
   refine own_g (own_F T0 m 37 #[iv i0, iv i1, iv i2, iv i3, iv 0, iv p1, iv y0, .unset, .unset, .unset, .unset, .unset, .unset, .unset, .unset] []) (fun _ z_ => XS.istore X0.here hx rfl (hb hby at_35) rfl (l' := #[iv i0, iv i1, iv i2, iv i3, iv 0, iv p1, iv y0, .unset, .unset, .unset, .unset, .unset, .unset, .unset, .unset]) rfl z_) ?_
   refine own_g (own_F T0 m 39 #[iv i0, iv i1, iv i2, iv i3, iv 0, iv p1, iv y0, .unset, .unset, .unset, .unset, .unset, .unset, .unset, .unset] [(.int 0)]) (fun _ z_ => XS.iload X0.here hx rfl (hb hby at_37) rfl z_) ?_
   refine own_g (own_F T0 m 40 #[iv i0, iv i1, iv i2, iv i3, iv 0, iv p1, iv y0, .unset, .unset, .unset, .unset, .unset, .unset, .unset, .unset] [(.int 1), (.int 0)]) (fun _ z_ => XS.iconst X0.here hx rfl (hb hby at_39) z_) ?_
   refine own_g (own_F T0 m 54 #[iv i0, iv i1, iv i2, iv i3, iv 0, iv p1, iv y0, .unset, .unset, .unset, .unset, .unset, .unset, .unset, .unset] []) (fun _ z_ => XS.icmpYes X0.here hx rfl (pc0 := 40) (pc' := 54) rfl (hb hby at_40) rfl (flt (by decide : ¬ ((1 : Int32) < (0 : Int32)))).2.2.2 (by decide) (by decide) z_) ?_
   refine own_g (own_F T0 m 55 #[iv i0, iv i1, iv i2, iv i3, iv 0, iv p1, iv y0, .unset, .unset, .unset, .unset, .unset, .unset, .unset, .unset] [(.int 0)]) (fun _ z_ => XS.iconst X0.here hx rfl (hb hby at_54) z_) ?_
   obtain ⟨y1, hy1⟩ : ∃ y : Int32, y = (0 : Int32) := ⟨_, rfl⟩
   have hb1 : 0 ≤ y1.toInt ∧ y1.toInt ≤ 0 := by rw [hy1]; decide
   suffices hsuf : own_Ends p e below s (fun v h L => v = some (.int 1) ∧ Fr n0 L) room_1.cells room_1.slots (own_F T0 m 55 #[iv i0, iv i1, iv i2, iv i3, iv 0, iv p1, iv y0, .unset, .unset, .unset, .unset, .unset, .unset, .unset, .unset] [(.int y1)]) by rw [hy1] at hsuf; exact hsuf
   refine own_g (own_F T0 m 57 #[iv i0, iv i1, iv i2, iv i3, iv 0, iv p1, iv y0, iv y1, .unset, .unset, .unset, .unset, .unset, .unset, .unset] []) (fun _ z_ => XS.istore X0.here hx rfl (hb hby at_55) rfl (l' := #[iv i0, iv i1, iv i2, iv i3, iv 0, iv p1, iv y0, iv y1, .unset, .unset, .unset, .unset, .unset, .unset, .unset]) rfl z_) ?_
   refine own_g (own_F T0 m 59 #[iv i0, iv i1, iv i2, iv i3, iv 0, iv p1, iv y0, iv y1, .unset, .unset, .unset, .unset, .unset, .unset, .unset] [(.int 0)]) (fun _ z_ => XS.iload X0.here hx rfl (hb hby at_57) rfl z_) ?_
   refine own_g (own_F T0 m 60 #[iv i0, iv i1, iv i2, iv i3, iv 0, iv p1, iv y0, iv y1, .unset, .unset, .unset, .unset, .unset, .unset, .unset] [(.int 2), (.int 0)]) (fun _ z_ => XS.iconst X0.here hx rfl (hb hby at_59) z_) ?_
   refine own_g (own_F T0 m 74 #[iv i0, iv i1, iv i2, iv i3, iv 0, iv p1, iv y0, iv y1, .unset, .unset, .unset, .unset, .unset, .unset, .unset] []) (fun _ z_ => XS.icmpYes X0.here hx rfl (pc0 := 60) (pc' := 74) rfl (hb hby at_60) rfl (flt (by decide : ¬ ((2 : Int32) < (0 : Int32)))).2.2.2 (by decide) (by decide) z_) ?_
   refine own_g (own_F T0 m 75 #[iv i0, iv i1, iv i2, iv i3, iv 0, iv p1, iv y0, iv y1, .unset, .unset, .unset, .unset, .unset, .unset, .unset] [(.int 0)]) (fun _ z_ => XS.iconst X0.here hx rfl (hb hby at_74) z_) ?_
   obtain ⟨y2, hy2⟩ : ∃ y : Int32, y = (0 : Int32) := ⟨_, rfl⟩
   have hb2 : 0 ≤ y2.toInt ∧ y2.toInt ≤ 0 := by rw [hy2]; decide
   suffices hsuf : own_Ends p e below s (fun v h L => v = some (.int 1) ∧ Fr n0 L) room_1.cells room_1.slots (own_F T0 m 75 #[iv i0, iv i1, iv i2, iv i3, iv 0, iv p1, iv y0, iv y1, .unset, .unset, .unset, .unset, .unset, .unset, .unset] [(.int y2)]) by rw [hy2] at hsuf; exact hsuf
   refine own_g (own_F T0 m 77 #[iv i0, iv i1, iv i2, iv i3, iv 0, iv p1, iv y0, iv y1, iv y2, .unset, .unset, .unset, .unset, .unset, .unset] []) (fun _ z_ => XS.istore X0.here hx rfl (hb hby at_75) rfl (l' := #[iv i0, iv i1, iv i2, iv i3, iv 0, iv p1, iv y0, iv y1, iv y2, .unset, .unset, .unset, .unset, .unset, .unset]) rfl z_) ?_
   refine own_g (own_F T0 m 79 #[iv i0, iv i1, iv i2, iv i3, iv 0, iv p1, iv y0, iv y1, iv y2, .unset, .unset, .unset, .unset, .unset, .unset] [(.int 0)]) (fun _ z_ => XS.iload X0.here hx rfl (hb hby at_77) rfl z_) ?_
   refine own_g (own_F T0 m 80 #[iv i0, iv i1, iv i2, iv i3, iv 0, iv p1, iv y0, iv y1, iv y2, .unset, .unset, .unset, .unset, .unset, .unset] [(.int 3), (.int 0)]) (fun _ z_ => XS.iconst X0.here hx rfl (hb hby at_79) z_) ?_
   refine own_g (own_F T0 m 94 #[iv i0, iv i1, iv i2, iv i3, iv 0, iv p1, iv y0, iv y1, iv y2, .unset, .unset, .unset, .unset, .unset, .unset] []) (fun _ z_ => XS.icmpYes X0.here hx rfl (pc0 := 80) (pc' := 94) rfl (hb hby at_80) rfl (flt (by decide : ¬ ((3 : Int32) < (0 : Int32)))).2.2.2 (by decide) (by decide) z_) ?_
   refine own_g (own_F T0 m 95 #[iv i0, iv i1, iv i2, iv i3, iv 0, iv p1, iv y0, iv y1, iv y2, .unset, .unset, .unset, .unset, .unset, .unset] [(.int 0)]) (fun _ z_ => XS.iconst X0.here hx rfl (hb hby at_94) z_) ?_
   obtain ⟨y3, hy3⟩ : ∃ y : Int32, y = (0 : Int32) := ⟨_, rfl⟩
   have hb3 : 0 ≤ y3.toInt ∧ y3.toInt ≤ 0 := by rw [hy3]; decide
   suffices hsuf : own_Ends p e below s (fun v h L => v = some (.int 1) ∧ Fr n0 L) room_1.cells room_1.slots (own_F T0 m 95 #[iv i0, iv i1, iv i2, iv i3, iv 0, iv p1, iv y0, iv y1, iv y2, .unset, .unset, .unset, .unset, .unset, .unset] [(.int y3)]) by rw [hy3] at hsuf; exact hsuf
   refine own_g (own_F T0 m 97 #[iv i0, iv i1, iv i2, iv i3, iv 0, iv p1, iv y0, iv y1, iv y2, iv y3, .unset, .unset, .unset, .unset, .unset] []) (fun _ z_ => XS.istore X0.here hx rfl (hb hby at_95) rfl (l' := #[iv i0, iv i1, iv i2, iv i3, iv 0, iv p1, iv y0, iv y1, iv y2, iv y3, .unset, .unset, .unset, .unset, .unset]) rfl z_) ?_
   refine own_g (own_F T0 m 99 #[iv i0, iv i1, iv i2, iv i3, iv 0, iv p1, iv y0, iv y1, iv y2, iv y3, .unset, .unset, .unset, .unset, .unset] [(.int 0)]) (fun _ z_ => XS.iload X0.here hx rfl (hb hby at_97) rfl z_) ?_
   refine own_g (own_F T0 m 100 #[iv i0, iv i1, iv i2, iv i3, iv 0, iv p1, iv y0, iv y1, iv y2, iv y3, .unset, .unset, .unset, .unset, .unset] [(.int 4), (.int 0)]) (fun _ z_ => XS.iconst X0.here hx rfl (hb hby at_99) z_) ?_
   refine own_g (own_F T0 m 111 #[iv i0, iv i1, iv i2, iv i3, iv 0, iv p1, iv y0, iv y1, iv y2, iv y3, .unset, .unset, .unset, .unset, .unset] []) (fun _ z_ => XS.icmpYes X0.here hx rfl (pc0 := 100) (pc' := 111) rfl (hb hby at_100) rfl (flt (by decide : ¬ ((4 : Int32) < (0 : Int32)))).2.2.2 (by decide) (by decide) z_) ?_
   refine own_g (own_F T0 m 112 #[iv i0, iv i1, iv i2, iv i3, iv 0, iv p1, iv y0, iv y1, iv y2, iv y3, .unset, .unset, .unset, .unset, .unset] [(.int 0)]) (fun _ z_ => XS.iconst X0.here hx rfl (hb hby at_111) z_) ?_
   obtain ⟨y4, hy4⟩ : ∃ y : Int32, y = (0 : Int32) := ⟨_, rfl⟩
   have hb4 : 0 ≤ y4.toInt ∧ y4.toInt ≤ 0 := by rw [hy4]; decide
   suffices hsuf : own_Ends p e below s (fun v h L => v = some (.int 1) ∧ Fr n0 L) room_1.cells room_1.slots (own_F T0 m 112 #[iv i0, iv i1, iv i2, iv i3, iv 0, iv p1, iv y0, iv y1, iv y2, iv y3, .unset, .unset, .unset, .unset, .unset] [(.int y4)]) by rw [hy4] at hsuf; exact hsuf
   refine own_g (own_F T0 m 114 #[iv i0, iv i1, iv i2, iv i3, iv 0, iv p1, iv y0, iv y1, iv y2, iv y3, iv y4, .unset, .unset, .unset, .unset] []) (fun _ z_ => XS.istore X0.here hx rfl (hb hby at_112) rfl (l' := #[iv i0, iv i1, iv i2, iv i3, iv 0, iv p1, iv y0, iv y1, iv y2, iv y3, iv y4, .unset, .unset, .unset, .unset]) rfl z_) ?_
   refine own_g (own_F T0 m 116 #[iv i0, iv i1, iv i2, iv i3, iv 0, iv p1, iv y0, iv y1, iv y2, iv y3, iv y4, .unset, .unset, .unset, .unset] [(.int 0)]) (fun _ z_ => XS.iload X0.here hx rfl (hb hby at_114) rfl z_) ?_
   refine own_g (own_F T0 m 117 #[iv i0, iv i1, iv i2, iv i3, iv 0, iv p1, iv y0, iv y1, iv y2, iv y3, iv y4, .unset, .unset, .unset, .unset] [(.int 4), (.int 0)]) (fun _ z_ => XS.iconst X0.here hx rfl (hb hby at_116) z_) ?_
   refine own_g (own_F T0 m 118 #[iv i0, iv i1, iv i2, iv i3, iv 0, iv p1, iv y0, iv y1, iv y2, iv y3, iv y4, .unset, .unset, .unset, .unset] [(.int 0)]) (fun _ z_ => XS.imul X0.here hx rfl (hb hby at_117) rfl z_) ?_
   refine own_g (own_F T0 m 119 #[iv i0, iv i1, iv i2, iv i3, iv 0, iv p1, iv y0, iv y1, iv y2, iv y3, iv y4, .unset, .unset, .unset, .unset] [(.int 2), (.int 0)]) (fun _ z_ => XS.iconst X0.here hx rfl (hb hby at_118) z_) ?_
   refine own_g (own_F T0 m 120 #[iv i0, iv i1, iv i2, iv i3, iv 0, iv p1, iv y0, iv y1, iv y2, iv y3, iv y4, .unset, .unset, .unset, .unset] [(.int 2)]) (fun _ z_ => XS.iadd X0.here hx rfl (hb hby at_119) rfl z_) ?_
   refine own_g (own_F T0 m 121 #[iv i0, iv i1, iv i2, iv i3, iv 0, iv p1, iv y0, iv y1, iv y2, iv y3, iv y4, .unset, .unset, .unset, .unset] [(.int 3), (.int 2)]) (fun _ z_ => XS.iconst X0.here hx rfl (hb hby at_120) z_) ?_
   refine own_g (own_F T0 m 122 #[iv i0, iv i1, iv i2, iv i3, iv 0, iv p1, iv y0, iv y1, iv y2, iv y3, iv y4, .unset, .unset, .unset, .unset] [(.int 0)]) (fun _ z_ => XS.idiv X0.here hx rfl (hb hby at_121) rfl (by decide) z_) ?_
   refine own_g (own_F T0 m 124 #[iv i0, iv i1, iv i2, iv i3, iv 0, iv p1, iv y0, iv y1, iv y2, iv y3, iv y4, iv 0, .unset, .unset, .unset] []) (fun _ z_ => XS.istore X0.here hx rfl (hb hby at_122) rfl (l' := #[iv i0, iv i1, iv i2, iv i3, iv 0, iv p1, iv y0, iv y1, iv y2, iv y3, iv y4, iv 0, .unset, .unset, .unset]) rfl z_) ?_
   exact J124 _ _ p1 y0 y1 y2 y3 y4 P hp hP (own_b0 hb0) (own_b0 hb1) (own_b0 hb2) (own_b0 hb3) (own_b0 hb4) (Or.inl ⟨rfl, rfl, hb0, hb1, hb2, hb3, hb4⟩)
  ·
   show own_Ends p e below s _ _ _ (own_F T0 m 11 #[iv i0, iv i1, iv i2, iv i3, .unset, .unset, .unset, .unset, .unset, .unset, .unset, .unset, .unset, .unset, .unset] [(.int 1)])
   refine own_g (own_F T0 m 13 #[iv i0, iv i1, iv i2, iv i3, iv 1, .unset, .unset, .unset, .unset, .unset, .unset, .unset, .unset, .unset, .unset] []) (fun _ z_ => XS.istore X0.here hx rfl (hb hby at_11) rfl (l' := #[iv i0, iv i1, iv i2, iv i3, iv 1, .unset, .unset, .unset, .unset, .unset, .unset, .unset, .unset, .unset, .unset]) rfl z_) ?_
   refine own_g (own_F T0 m 14 #[iv i0, iv i1, iv i2, iv i3, iv 1, .unset, .unset, .unset, .unset, .unset, .unset, .unset, .unset, .unset, .unset] [(.int i1)]) (fun _ z_ => XS.iloadN X0.here hx rfl (hb hby at_13) rfl z_) ?_
   refine own_g (own_F T0 m 16 #[iv i0, iv i1, iv i2, iv i3, iv 1, .unset, .unset, .unset, .unset, .unset, .unset, .unset, .unset, .unset, .unset] [(.int 24), (.int i1)]) (fun _ z_ => XS.bipush X0.here hx rfl (hb hby at_14) z_) ?_
   refine own_g (own_F T0 m 17 #[iv i0, iv i1, iv i2, iv i3, iv 1, .unset, .unset, .unset, .unset, .unset, .unset, .unset, .unset, .unset, .unset] [(.int ((i1.toUInt32 >>> ((24 : Int32) &&& 31).toUInt32).toInt32))]) (fun _ z_ => XS.iushr X0.here hx rfl (hb hby at_16) rfl z_) ?_
   refine own_g (own_F T0 m 18 #[iv i0, iv i1, iv i2, iv i3, iv 1, .unset, .unset, .unset, .unset, .unset, .unset, .unset, .unset, .unset, .unset] [(.int 3), (.int ((i1.toUInt32 >>> ((24 : Int32) &&& 31).toUInt32).toInt32))]) (fun _ z_ => XS.iconst X0.here hx rfl (hb hby at_17) z_) ?_
   refine own_g (own_F T0 m 19 #[iv i0, iv i1, iv i2, iv i3, iv 1, .unset, .unset, .unset, .unset, .unset, .unset, .unset, .unset, .unset, .unset] [(.int (((i1.toUInt32 >>> ((24 : Int32) &&& 31).toUInt32).toInt32) &&& (3 : Int32)))]) (fun _ z_ => XS.iand X0.here hx rfl (hb hby at_18) rfl z_) ?_
   have hp3 := own_m3 ((i1.toUInt32 >>> ((24 : Int32) &&& 31).toUInt32).toInt32)
   generalize (((i1.toUInt32 >>> ((24 : Int32) &&& 31).toUInt32).toInt32) &&& (3 : Int32)) = p1 at hp3 ⊢
   obtain ⟨P, hp⟩ : ∃ P : Nat, p1.toInt = (P : Int) := ⟨p1.toInt.toNat, by omega⟩
   have hP : P ≤ 3 := by omega
   refine own_g (own_F T0 m 21 #[iv i0, iv i1, iv i2, iv i3, iv 1, iv p1, .unset, .unset, .unset, .unset, .unset, .unset, .unset, .unset, .unset] []) (fun _ z_ => XS.istore X0.here hx rfl (hb hby at_19) rfl (l' := #[iv i0, iv i1, iv i2, iv i3, iv 1, iv p1, .unset, .unset, .unset, .unset, .unset, .unset, .unset, .unset, .unset]) rfl z_) ?_
   refine own_g (own_F T0 m 23 #[iv i0, iv i1, iv i2, iv i3, iv 1, iv p1, .unset, .unset, .unset, .unset, .unset, .unset, .unset, .unset, .unset] [(.int 1)]) (fun _ z_ => XS.iload X0.here hx rfl (hb hby at_21) rfl z_) ?_
   refine own_g (own_F T0 m 26 #[iv i0, iv i1, iv i2, iv i3, iv 1, iv p1, .unset, .unset, .unset, .unset, .unset, .unset, .unset, .unset, .unset] []) (fun _ z_ => XS.ifNo X0.here hx rfl (hb hby at_23) rfl ((if0 _ _).trans (tlt (by decide : ((0 : Int32) < (1 : Int32)))).2.2.2) z_) ?_
   refine own_g (own_F T0 m 27 #[iv i0, iv i1, iv i2, iv i3, iv 1, iv p1, .unset, .unset, .unset, .unset, .unset, .unset, .unset, .unset, .unset] [(.int i0)]) (fun _ z_ => XS.iloadN X0.here hx rfl (hb hby at_26) rfl z_) ?_
   refine own_g (own_F T0 m 30 #[iv i0, iv i1, iv i2, iv i3, iv 1, iv p1, .unset, .unset, .unset, .unset, .unset, .unset, .unset, .unset, .unset] [(.int 255), (.int i0)]) (fun _ z_ => XS.sipush X0.here hx rfl (hb hby at_27) z_) ?_
   refine own_g (own_F T0 m 31 #[iv i0, iv i1, iv i2, iv i3, iv 1, iv p1, .unset, .unset, .unset, .unset, .unset, .unset, .unset, .unset, .unset] [(.int (i0 &&& (255 : Int32)))]) (fun _ z_ => XS.iand X0.here hx rfl (hb hby at_30) rfl z_) ?_
   refine own_g (own_F T0 m 35 #[iv i0, iv i1, iv i2, iv i3, iv 1, iv p1, .unset, .unset, .unset, .unset, .unset, .unset, .unset, .unset, .unset] [(.int (i0 &&& (255 : Int32)))]) (fun _ z_ => XS.goto X0.here hx rfl (pc0 := 31) (pc' := 35) rfl (hb hby at_31) (by decide) (by decide) z_) ?_
   have hb0 := own_m255 i0
   generalize (i0 &&& (255 : Int32)) = y0 at hb0 ⊢
   refine own_g (own_F T0 m 37 #[iv i0, iv i1, iv i2, iv i3, iv 1, iv p1, iv y0, .unset, .unset, .unset, .unset, .unset, .unset, .unset, .unset] []) (fun _ z_ => XS.istore X0.here hx rfl (hb hby at_35) rfl (l' := #[iv i0, iv i1, iv i2, iv i3, iv 1, iv p1, iv y0, .unset, .unset, .unset, .unset, .unset, .unset, .unset, .unset]) rfl z_) ?_
   refine own_g (own_F T0 m 39 #[iv i0, iv i1, iv i2, iv i3, iv 1, iv p1, iv y0, .unset, .unset, .unset, .unset, .unset, .unset, .unset, .unset] [(.int 1)]) (fun _ z_ => XS.iload X0.here hx rfl (hb hby at_37) rfl z_) ?_
   refine own_g (own_F T0 m 40 #[iv i0, iv i1, iv i2, iv i3, iv 1, iv p1, iv y0, .unset, .unset, .unset, .unset, .unset, .unset, .unset, .unset] [(.int 1), (.int 1)]) (fun _ z_ => XS.iconst X0.here hx rfl (hb hby at_39) z_) ?_
   refine own_g (own_F T0 m 54 #[iv i0, iv i1, iv i2, iv i3, iv 1, iv p1, iv y0, .unset, .unset, .unset, .unset, .unset, .unset, .unset, .unset] []) (fun _ z_ => XS.icmpYes X0.here hx rfl (pc0 := 40) (pc' := 54) rfl (hb hby at_40) rfl (flt (by decide : ¬ ((1 : Int32) < (1 : Int32)))).2.2.2 (by decide) (by decide) z_) ?_
   refine own_g (own_F T0 m 55 #[iv i0, iv i1, iv i2, iv i3, iv 1, iv p1, iv y0, .unset, .unset, .unset, .unset, .unset, .unset, .unset, .unset] [(.int 0)]) (fun _ z_ => XS.iconst X0.here hx rfl (hb hby at_54) z_) ?_
   obtain ⟨y1, hy1⟩ : ∃ y : Int32, y = (0 : Int32) := ⟨_, rfl⟩
   have hb1 : 0 ≤ y1.toInt ∧ y1.toInt ≤ 0 := by rw [hy1]; decide
   suffices hsuf : own_Ends p e below s (fun v h L => v = some (.int 1) ∧ Fr n0 L) room_1.cells room_1.slots (own_F T0 m 55 #[iv i0, iv i1, iv i2, iv i3, iv 1, iv p1, iv y0, .unset, .unset, .unset, .unset, .unset, .unset, .unset, .unset] [(.int y1)]) by rw [hy1] at hsuf; exact hsuf
   refine own_g (own_F T0 m 57 #[iv i0, iv i1, iv i2, iv i3, iv 1, iv p1, iv y0, iv y1, .unset, .unset, .unset, .unset, .unset, .unset, .unset] []) (fun _ z_ => XS.istore X0.here hx rfl (hb hby at_55) rfl (l' := #[iv i0, iv i1, iv i2, iv i3, iv 1, iv p1, iv y0, iv y1, .unset, .unset, .unset, .unset, .unset, .unset, .unset]) rfl z_) ?_
   refine own_g (own_F T0 m 59 #[iv i0, iv i1, iv i2, iv i3, iv 1, iv p1, iv y0, iv y1, .unset, .unset, .unset, .unset, .unset, .unset, .unset] [(.int 1)]) (fun _ z_ => XS.iload X0.here hx rfl (hb hby at_57) rfl z_) ?_
   refine own_g (own_F T0 m 60 #[iv i0, iv i1, iv i2, iv i3, iv 1, iv p1, iv y0, iv y1, .unset, .unset, .unset, .unset, .unset, .unset, .unset] [(.int 2), (.int 1)]) (fun _ z_ => XS.iconst X0.here hx rfl (hb hby at_59) z_) ?_
   refine own_g (own_F T0 m 74 #[iv i0, iv i1, iv i2, iv i3, iv 1, iv p1, iv y0, iv y1, .unset, .unset, .unset, .unset, .unset, .unset, .unset] []) (fun _ z_ => XS.icmpYes X0.here hx rfl (pc0 := 60) (pc' := 74) rfl (hb hby at_60) rfl (flt (by decide : ¬ ((2 : Int32) < (1 : Int32)))).2.2.2 (by decide) (by decide) z_) ?_
   refine own_g (own_F T0 m 75 #[iv i0, iv i1, iv i2, iv i3, iv 1, iv p1, iv y0, iv y1, .unset, .unset, .unset, .unset, .unset, .unset, .unset] [(.int 0)]) (fun _ z_ => XS.iconst X0.here hx rfl (hb hby at_74) z_) ?_
   obtain ⟨y2, hy2⟩ : ∃ y : Int32, y = (0 : Int32) := ⟨_, rfl⟩
   have hb2 : 0 ≤ y2.toInt ∧ y2.toInt ≤ 0 := by rw [hy2]; decide
   suffices hsuf : own_Ends p e below s (fun v h L => v = some (.int 1) ∧ Fr n0 L) room_1.cells room_1.slots (own_F T0 m 75 #[iv i0, iv i1, iv i2, iv i3, iv 1, iv p1, iv y0, iv y1, .unset, .unset, .unset, .unset, .unset, .unset, .unset] [(.int y2)]) by rw [hy2] at hsuf; exact hsuf
   refine own_g (own_F T0 m 77 #[iv i0, iv i1, iv i2, iv i3, iv 1, iv p1, iv y0, iv y1, iv y2, .unset, .unset, .unset, .unset, .unset, .unset] []) (fun _ z_ => XS.istore X0.here hx rfl (hb hby at_75) rfl (l' := #[iv i0, iv i1, iv i2, iv i3, iv 1, iv p1, iv y0, iv y1, iv y2, .unset, .unset, .unset, .unset, .unset, .unset]) rfl z_) ?_
   refine own_g (own_F T0 m 79 #[iv i0, iv i1, iv i2, iv i3, iv 1, iv p1, iv y0, iv y1, iv y2, .unset, .unset, .unset, .unset, .unset, .unset] [(.int 1)]) (fun _ z_ => XS.iload X0.here hx rfl (hb hby at_77) rfl z_) ?_
   refine own_g (own_F T0 m 80 #[iv i0, iv i1, iv i2, iv i3, iv 1, iv p1, iv y0, iv y1, iv y2, .unset, .unset, .unset, .unset, .unset, .unset] [(.int 3), (.int 1)]) (fun _ z_ => XS.iconst X0.here hx rfl (hb hby at_79) z_) ?_
   refine own_g (own_F T0 m 94 #[iv i0, iv i1, iv i2, iv i3, iv 1, iv p1, iv y0, iv y1, iv y2, .unset, .unset, .unset, .unset, .unset, .unset] []) (fun _ z_ => XS.icmpYes X0.here hx rfl (pc0 := 80) (pc' := 94) rfl (hb hby at_80) rfl (flt (by decide : ¬ ((3 : Int32) < (1 : Int32)))).2.2.2 (by decide) (by decide) z_) ?_
   refine own_g (own_F T0 m 95 #[iv i0, iv i1, iv i2, iv i3, iv 1, iv p1, iv y0, iv y1, iv y2, .unset, .unset, .unset, .unset, .unset, .unset] [(.int 0)]) (fun _ z_ => XS.iconst X0.here hx rfl (hb hby at_94) z_) ?_
   obtain ⟨y3, hy3⟩ : ∃ y : Int32, y = (0 : Int32) := ⟨_, rfl⟩
   have hb3 : 0 ≤ y3.toInt ∧ y3.toInt ≤ 0 := by rw [hy3]; decide
   suffices hsuf : own_Ends p e below s (fun v h L => v = some (.int 1) ∧ Fr n0 L) room_1.cells room_1.slots (own_F T0 m 95 #[iv i0, iv i1, iv i2, iv i3, iv 1, iv p1, iv y0, iv y1, iv y2, .unset, .unset, .unset, .unset, .unset, .unset] [(.int y3)]) by rw [hy3] at hsuf; exact hsuf
   refine own_g (own_F T0 m 97 #[iv i0, iv i1, iv i2, iv i3, iv 1, iv p1, iv y0, iv y1, iv y2, iv y3, .unset, .unset, .unset, .unset, .unset] []) (fun _ z_ => XS.istore X0.here hx rfl (hb hby at_95) rfl (l' := #[iv i0, iv i1, iv i2, iv i3, iv 1, iv p1, iv y0, iv y1, iv y2, iv y3, .unset, .unset, .unset, .unset, .unset]) rfl z_) ?_
   refine own_g (own_F T0 m 99 #[iv i0, iv i1, iv i2, iv i3, iv 1, iv p1, iv y0, iv y1, iv y2, iv y3, .unset, .unset, .unset, .unset, .unset] [(.int 1)]) (fun _ z_ => XS.iload X0.here hx rfl (hb hby at_97) rfl z_) ?_
   refine own_g (own_F T0 m 100 #[iv i0, iv i1, iv i2, iv i3, iv 1, iv p1, iv y0, iv y1, iv y2, iv y3, .unset, .unset, .unset, .unset, .unset] [(.int 4), (.int 1)]) (fun _ z_ => XS.iconst X0.here hx rfl (hb hby at_99) z_) ?_
   refine own_g (own_F T0 m 111 #[iv i0, iv i1, iv i2, iv i3, iv 1, iv p1, iv y0, iv y1, iv y2, iv y3, .unset, .unset, .unset, .unset, .unset] []) (fun _ z_ => XS.icmpYes X0.here hx rfl (pc0 := 100) (pc' := 111) rfl (hb hby at_100) rfl (flt (by decide : ¬ ((4 : Int32) < (1 : Int32)))).2.2.2 (by decide) (by decide) z_) ?_
   refine own_g (own_F T0 m 112 #[iv i0, iv i1, iv i2, iv i3, iv 1, iv p1, iv y0, iv y1, iv y2, iv y3, .unset, .unset, .unset, .unset, .unset] [(.int 0)]) (fun _ z_ => XS.iconst X0.here hx rfl (hb hby at_111) z_) ?_
   obtain ⟨y4, hy4⟩ : ∃ y : Int32, y = (0 : Int32) := ⟨_, rfl⟩
   have hb4 : 0 ≤ y4.toInt ∧ y4.toInt ≤ 0 := by rw [hy4]; decide
   suffices hsuf : own_Ends p e below s (fun v h L => v = some (.int 1) ∧ Fr n0 L) room_1.cells room_1.slots (own_F T0 m 112 #[iv i0, iv i1, iv i2, iv i3, iv 1, iv p1, iv y0, iv y1, iv y2, iv y3, .unset, .unset, .unset, .unset, .unset] [(.int y4)]) by rw [hy4] at hsuf; exact hsuf
   refine own_g (own_F T0 m 114 #[iv i0, iv i1, iv i2, iv i3, iv 1, iv p1, iv y0, iv y1, iv y2, iv y3, iv y4, .unset, .unset, .unset, .unset] []) (fun _ z_ => XS.istore X0.here hx rfl (hb hby at_112) rfl (l' := #[iv i0, iv i1, iv i2, iv i3, iv 1, iv p1, iv y0, iv y1, iv y2, iv y3, iv y4, .unset, .unset, .unset, .unset]) rfl z_) ?_
   refine own_g (own_F T0 m 116 #[iv i0, iv i1, iv i2, iv i3, iv 1, iv p1, iv y0, iv y1, iv y2, iv y3, iv y4, .unset, .unset, .unset, .unset] [(.int 1)]) (fun _ z_ => XS.iload X0.here hx rfl (hb hby at_114) rfl z_) ?_
   refine own_g (own_F T0 m 117 #[iv i0, iv i1, iv i2, iv i3, iv 1, iv p1, iv y0, iv y1, iv y2, iv y3, iv y4, .unset, .unset, .unset, .unset] [(.int 4), (.int 1)]) (fun _ z_ => XS.iconst X0.here hx rfl (hb hby at_116) z_) ?_
   refine own_g (own_F T0 m 118 #[iv i0, iv i1, iv i2, iv i3, iv 1, iv p1, iv y0, iv y1, iv y2, iv y3, iv y4, .unset, .unset, .unset, .unset] [(.int 4)]) (fun _ z_ => XS.imul X0.here hx rfl (hb hby at_117) rfl z_) ?_
   refine own_g (own_F T0 m 119 #[iv i0, iv i1, iv i2, iv i3, iv 1, iv p1, iv y0, iv y1, iv y2, iv y3, iv y4, .unset, .unset, .unset, .unset] [(.int 2), (.int 4)]) (fun _ z_ => XS.iconst X0.here hx rfl (hb hby at_118) z_) ?_
   refine own_g (own_F T0 m 120 #[iv i0, iv i1, iv i2, iv i3, iv 1, iv p1, iv y0, iv y1, iv y2, iv y3, iv y4, .unset, .unset, .unset, .unset] [(.int 6)]) (fun _ z_ => XS.iadd X0.here hx rfl (hb hby at_119) rfl z_) ?_
   refine own_g (own_F T0 m 121 #[iv i0, iv i1, iv i2, iv i3, iv 1, iv p1, iv y0, iv y1, iv y2, iv y3, iv y4, .unset, .unset, .unset, .unset] [(.int 3), (.int 6)]) (fun _ z_ => XS.iconst X0.here hx rfl (hb hby at_120) z_) ?_
   refine own_g (own_F T0 m 122 #[iv i0, iv i1, iv i2, iv i3, iv 1, iv p1, iv y0, iv y1, iv y2, iv y3, iv y4, .unset, .unset, .unset, .unset] [(.int 2)]) (fun _ z_ => XS.idiv X0.here hx rfl (hb hby at_121) rfl (by decide) z_) ?_
   refine own_g (own_F T0 m 124 #[iv i0, iv i1, iv i2, iv i3, iv 1, iv p1, iv y0, iv y1, iv y2, iv y3, iv y4, iv 2, .unset, .unset, .unset] []) (fun _ z_ => XS.istore X0.here hx rfl (hb hby at_122) rfl (l' := #[iv i0, iv i1, iv i2, iv i3, iv 1, iv p1, iv y0, iv y1, iv y2, iv y3, iv y4, iv 2, .unset, .unset, .unset]) rfl z_) ?_
   exact J124 _ _ p1 y0 y1 y2 y3 y4 P hp hP hb0 (own_b0 hb1) (own_b0 hb2) (own_b0 hb3) (own_b0 hb4) (Or.inr (Or.inl ⟨rfl, rfl, hb0, hb1, hb2, hb3, hb4⟩))
  ·
   show own_Ends p e below s _ _ _ (own_F T0 m 11 #[iv i0, iv i1, iv i2, iv i3, .unset, .unset, .unset, .unset, .unset, .unset, .unset, .unset, .unset, .unset, .unset] [(.int 2)])
   refine own_g (own_F T0 m 13 #[iv i0, iv i1, iv i2, iv i3, iv 2, .unset, .unset, .unset, .unset, .unset, .unset, .unset, .unset, .unset, .unset] []) (fun _ z_ => XS.istore X0.here hx rfl (hb hby at_11) rfl (l' := #[iv i0, iv i1, iv i2, iv i3, iv 2, .unset, .unset, .unset, .unset, .unset, .unset, .unset, .unset, .unset, .unset]) rfl z_) ?_
   refine own_g (own_F T0 m 14 #[iv i0, iv i1, iv i2, iv i3, iv 2, .unset, .unset, .unset, .unset, .unset, .unset, .unset, .unset, .unset, .unset] [(.int i1)]) (fun _ z_ => XS.iloadN X0.here hx rfl (hb hby at_13) rfl z_) ?_
   refine own_g (own_F T0 m 16 #[iv i0, iv i1, iv i2, iv i3, iv 2, .unset, .unset, .unset, .unset, .unset, .unset, .unset, .unset, .unset, .unset] [(.int 24), (.int i1)]) (fun _ z_ => XS.bipush X0.here hx rfl (hb hby at_14) z_) ?_
   refine own_g (own_F T0 m 17 #[iv i0, iv i1, iv i2, iv i3, iv 2, .unset, .unset, .unset, .unset, .unset, .unset, .unset, .unset, .unset, .unset] [(.int ((i1.toUInt32 >>> ((24 : Int32) &&& 31).toUInt32).toInt32))]) (fun _ z_ => XS.iushr X0.here hx rfl (hb hby at_16) rfl z_) ?_
   refine own_g (own_F T0 m 18 #[iv i0, iv i1, iv i2, iv i3, iv 2, .unset, .unset, .unset, .unset, .unset, .unset, .unset, .unset, .unset, .unset] [(.int 3), (.int ((i1.toUInt32 >>> ((24 : Int32) &&& 31).toUInt32).toInt32))]) (fun _ z_ => XS.iconst X0.here hx rfl (hb hby at_17) z_) ?_
   refine own_g (own_F T0 m 19 #[iv i0, iv i1, iv i2, iv i3, iv 2, .unset, .unset, .unset, .unset, .unset, .unset, .unset, .unset, .unset, .unset] [(.int (((i1.toUInt32 >>> ((24 : Int32) &&& 31).toUInt32).toInt32) &&& (3 : Int32)))]) (fun _ z_ => XS.iand X0.here hx rfl (hb hby at_18) rfl z_) ?_
   have hp3 := own_m3 ((i1.toUInt32 >>> ((24 : Int32) &&& 31).toUInt32).toInt32)
   generalize (((i1.toUInt32 >>> ((24 : Int32) &&& 31).toUInt32).toInt32) &&& (3 : Int32)) = p1 at hp3 ⊢
   obtain ⟨P, hp⟩ : ∃ P : Nat, p1.toInt = (P : Int) := ⟨p1.toInt.toNat, by omega⟩
   have hP : P ≤ 3 := by omega
   refine own_g (own_F T0 m 21 #[iv i0, iv i1, iv i2, iv i3, iv 2, iv p1, .unset, .unset, .unset, .unset, .unset, .unset, .unset, .unset, .unset] []) (fun _ z_ => XS.istore X0.here hx rfl (hb hby at_19) rfl (l' := #[iv i0, iv i1, iv i2, iv i3, iv 2, iv p1, .unset, .unset, .unset, .unset, .unset, .unset, .unset, .unset, .unset]) rfl z_) ?_
   refine own_g (own_F T0 m 23 #[iv i0, iv i1, iv i2, iv i3, iv 2, iv p1, .unset, .unset, .unset, .unset, .unset, .unset, .unset, .unset, .unset] [(.int 2)]) (fun _ z_ => XS.iload X0.here hx rfl (hb hby at_21) rfl z_) ?_
   refine own_g (own_F T0 m 26 #[iv i0, iv i1, iv i2, iv i3, iv 2, iv p1, .unset, .unset, .unset, .unset, .unset, .unset, .unset, .unset, .unset] []) (fun _ z_ => XS.ifNo X0.here hx rfl (hb hby at_23) rfl ((if0 _ _).trans (tlt (by decide : ((0 : Int32) < (2 : Int32)))).2.2.2) z_) ?_
   refine own_g (own_F T0 m 27 #[iv i0, iv i1, iv i2, iv i3, iv 2, iv p1, .unset, .unset, .unset, .unset, .unset, .unset, .unset, .unset, .unset] [(.int i0)]) (fun _ z_ => XS.iloadN X0.here hx rfl (hb hby at_26) rfl z_) ?_
   refine own_g (own_F T0 m 30 #[iv i0, iv i1, iv i2, iv i3, iv 2, iv p1, .unset, .unset, .unset, .unset, .unset, .unset, .unset, .unset, .unset] [(.int 255), (.int i0)]) (fun _ z_ => XS.sipush X0.here hx rfl (hb hby at_27) z_) ?_
   refine own_g (own_F T0 m 31 #[iv i0, iv i1, iv i2, iv i3, iv 2, iv p1, .unset, .unset, .unset, .unset, .unset, .unset, .unset, .unset, .unset] [(.int (i0 &&& (255 : Int32)))]) (fun _ z_ => XS.iand X0.here hx rfl (hb hby at_30) rfl z_) ?_
   refine own_g (own_F T0 m 35 #[iv i0, iv i1, iv i2, iv i3, iv 2, iv p1, .unset, .unset, .unset, .unset, .unset, .unset, .unset, .unset, .unset] [(.int (i0 &&& (255 : Int32)))]) (fun _ z_ => XS.goto X0.here hx rfl (pc0 := 31) (pc' := 35) rfl (hb hby at_31) (by decide) (by decide) z_) ?_
   have hb0 := own_m255 i0
   generalize (i0 &&& (255 : Int32)) = y0 at hb0 ⊢
   refine own_g (own_F T0 m 37 #[iv i0, iv i1, iv i2, iv i3, iv 2, iv p1, iv y0, .unset, .unset, .unset, .unset, .unset, .unset, .unset, .unset] []) (fun _ z_ => XS.istore X0.here hx rfl (hb hby at_35) rfl (l' := #[iv i0, iv i1, iv i2, iv i3, iv 2, iv p1, iv y0, .unset, .unset, .unset, .unset, .unset, .unset, .unset, .unset]) rfl z_) ?_
   refine own_g (own_F T0 m 39 #[iv i0, iv i1, iv i2, iv i3, iv 2, iv p1, iv y0, .unset, .unset, .unset, .unset, .unset, .unset, .unset, .unset] [(.int 2)]) (fun _ z_ => XS.iload X0.here hx rfl (hb hby at_37) rfl z_) ?_
   refine own_g (own_F T0 m 40 #[iv i0, iv i1, iv i2, iv i3, iv 2, iv p1, iv y0, .unset, .unset, .unset, .unset, .unset, .unset, .unset, .unset] [(.int 1), (.int 2)]) (fun _ z_ => XS.iconst X0.here hx rfl (hb hby at_39) z_) ?_
   refine own_g (own_F T0 m 43 #[iv i0, iv i1, iv i2, iv i3, iv 2, iv p1, iv y0, .unset, .unset, .unset, .unset, .unset, .unset, .unset, .unset] []) (fun _ z_ => XS.icmpNo X0.here hx rfl (hb hby at_40) rfl (tlt (by decide : ((1 : Int32) < (2 : Int32)))).2.2.2 z_) ?_
   refine own_g (own_F T0 m 44 #[iv i0, iv i1, iv i2, iv i3, iv 2, iv p1, iv y0, .unset, .unset, .unset, .unset, .unset, .unset, .unset, .unset] [(.int i0)]) (fun _ z_ => XS.iloadN X0.here hx rfl (hb hby at_43) rfl z_) ?_
   refine own_g (own_F T0 m 46 #[iv i0, iv i1, iv i2, iv i3, iv 2, iv p1, iv y0, .unset, .unset, .unset, .unset, .unset, .unset, .unset, .unset] [(.int 8), (.int i0)]) (fun _ z_ => XS.bipush X0.here hx rfl (hb hby at_44) z_) ?_
   refine own_g (own_F T0 m 47 #[iv i0, iv i1, iv i2, iv i3, iv 2, iv p1, iv y0, .unset, .unset, .unset, .unset, .unset, .unset, .unset, .unset] [(.int ((i0.toUInt32 >>> ((8 : Int32) &&& 31).toUInt32).toInt32))]) (fun _ z_ => XS.iushr X0.here hx rfl (hb hby at_46) rfl z_) ?_
   refine own_g (own_F T0 m 50 #[iv i0, iv i1, iv i2, iv i3, iv 2, iv p1, iv y0, .unset, .unset, .unset, .unset, .unset, .unset, .unset, .unset] [(.int 255), (.int ((i0.toUInt32 >>> ((8 : Int32) &&& 31).toUInt32).toInt32))]) (fun _ z_ => XS.sipush X0.here hx rfl (hb hby at_47) z_) ?_
   refine own_g (own_F T0 m 51 #[iv i0, iv i1, iv i2, iv i3, iv 2, iv p1, iv y0, .unset, .unset, .unset, .unset, .unset, .unset, .unset, .unset] [(.int (((i0.toUInt32 >>> ((8 : Int32) &&& 31).toUInt32).toInt32) &&& (255 : Int32)))]) (fun _ z_ => XS.iand X0.here hx rfl (hb hby at_50) rfl z_) ?_
   refine own_g (own_F T0 m 55 #[iv i0, iv i1, iv i2, iv i3, iv 2, iv p1, iv y0, .unset, .unset, .unset, .unset, .unset, .unset, .unset, .unset] [(.int (((i0.toUInt32 >>> ((8 : Int32) &&& 31).toUInt32).toInt32) &&& (255 : Int32)))]) (fun _ z_ => XS.goto X0.here hx rfl (pc0 := 51) (pc' := 55) rfl (hb hby at_51) (by decide) (by decide) z_) ?_
   have hb1 := own_m255 ((i0.toUInt32 >>> ((8 : Int32) &&& 31).toUInt32).toInt32)
   generalize (((i0.toUInt32 >>> ((8 : Int32) &&& 31).toUInt32).toInt32) &&& (255 : Int32)) = y1 at hb1 ⊢
   refine own_g (own_F T0 m 57 #[iv i0, iv i1, iv i2, iv i3, iv 2, iv p1, iv y0, iv y1, .unset, .unset, .unset, .unset, .unset, .unset, .unset] []) (fun _ z_ => XS.istore X0.here hx rfl (hb hby at_55) rfl (l' := #[iv i0, iv i1, iv i2, iv i3, iv 2, iv p1, iv y0, iv y1, .unset, .unset, .unset, .unset, .unset, .unset, .unset]) rfl z_) ?_
   refine own_g (own_F T0 m 59 #[iv i0, iv i1, iv i2, iv i3, iv 2, iv p1, iv y0, iv y1, .unset, .unset, .unset, .unset, .unset, .unset, .unset] [(.int 2)]) (fun _ z_ => XS.iload X0.here hx rfl (hb hby at_57) rfl z_) ?_
   refine own_g (own_F T0 m 60 #[iv i0, iv i1, iv i2, iv i3, iv 2, iv p1, iv y0, iv y1, .unset, .unset, .unset, .unset, .unset, .unset, .unset] [(.int 2), (.int 2)]) (fun _ z_ => XS.iconst X0.here hx rfl (hb hby at_59) z_) ?_
   refine own_g (own_F T0 m 74 #[iv i0, iv i1, iv i2, iv i3, iv 2, iv p1, iv y0, iv y1, .unset, .unset, .unset, .unset, .unset, .unset, .unset] []) (fun _ z_ => XS.icmpYes X0.here hx rfl (pc0 := 60) (pc' := 74) rfl (hb hby at_60) rfl (flt (by decide : ¬ ((2 : Int32) < (2 : Int32)))).2.2.2 (by decide) (by decide) z_) ?_
   refine own_g (own_F T0 m 75 #[iv i0, iv i1, iv i2, iv i3, iv 2, iv p1, iv y0, iv y1, .unset, .unset, .unset, .unset, .unset, .unset, .unset] [(.int 0)]) (fun _ z_ => XS.iconst X0.here hx rfl (hb hby at_74) z_) ?_
   obtain ⟨y2, hy2⟩ : ∃ y : Int32, y = (0 : Int32) := ⟨_, rfl⟩
   have hb2 : 0 ≤ y2.toInt ∧ y2.toInt ≤ 0 := by rw [hy2]; decide
   suffices hsuf : own_Ends p e below s (fun v h L => v = some (.int 1) ∧ Fr n0 L) room_1.cells room_1.slots (own_F T0 m 75 #[iv i0, iv i1, iv i2, iv i3, iv 2, iv p1, iv y0, iv y1, .unset, .unset, .unset, .unset, .unset, .unset, .unset] [(.int y2)]) by rw [hy2] at hsuf; exact hsuf
   refine own_g (own_F T0 m 77 #[iv i0, iv i1, iv i2, iv i3, iv 2, iv p1, iv y0, iv y1, iv y2, .unset, .unset, .unset, .unset, .unset, .unset] []) (fun _ z_ => XS.istore X0.here hx rfl (hb hby at_75) rfl (l' := #[iv i0, iv i1, iv i2, iv i3, iv 2, iv p1, iv y0, iv y1, iv y2, .unset, .unset, .unset, .unset, .unset, .unset]) rfl z_) ?_
   refine own_g (own_F T0 m 79 #[iv i0, iv i1, iv i2, iv i3, iv 2, iv p1, iv y0, iv y1, iv y2, .unset, .unset, .unset, .unset, .unset, .unset] [(.int 2)]) (fun _ z_ => XS.iload X0.here hx rfl (hb hby at_77) rfl z_) ?_
   refine own_g (own_F T0 m 80 #[iv i0, iv i1, iv i2, iv i3, iv 2, iv p1, iv y0, iv y1, iv y2, .unset, .unset, .unset, .unset, .unset, .unset] [(.int 3), (.int 2)]) (fun _ z_ => XS.iconst X0.here hx rfl (hb hby at_79) z_) ?_
   refine own_g (own_F T0 m 94 #[iv i0, iv i1, iv i2, iv i3, iv 2, iv p1, iv y0, iv y1, iv y2, .unset, .unset, .unset, .unset, .unset, .unset] []) (fun _ z_ => XS.icmpYes X0.here hx rfl (pc0 := 80) (pc' := 94) rfl (hb hby at_80) rfl (flt (by decide : ¬ ((3 : Int32) < (2 : Int32)))).2.2.2 (by decide) (by decide) z_) ?_
   refine own_g (own_F T0 m 95 #[iv i0, iv i1, iv i2, iv i3, iv 2, iv p1, iv y0, iv y1, iv y2, .unset, .unset, .unset, .unset, .unset, .unset] [(.int 0)]) (fun _ z_ => XS.iconst X0.here hx rfl (hb hby at_94) z_) ?_
   obtain ⟨y3, hy3⟩ : ∃ y : Int32, y = (0 : Int32) := ⟨_, rfl⟩
   have hb3 : 0 ≤ y3.toInt ∧ y3.toInt ≤ 0 := by rw [hy3]; decide
   suffices hsuf : own_Ends p e below s (fun v h L => v = some (.int 1) ∧ Fr n0 L) room_1.cells room_1.slots (own_F T0 m 95 #[iv i0, iv i1, iv i2, iv i3, iv 2, iv p1, iv y0, iv y1, iv y2, .unset, .unset, .unset, .unset, .unset, .unset] [(.int y3)]) by rw [hy3] at hsuf; exact hsuf
   refine own_g (own_F T0 m 97 #[iv i0, iv i1, iv i2, iv i3, iv 2, iv p1, iv y0, iv y1, iv y2, iv y3, .unset, .unset, .unset, .unset, .unset] []) (fun _ z_ => XS.istore X0.here hx rfl (hb hby at_95) rfl (l' := #[iv i0, iv i1, iv i2, iv i3, iv 2, iv p1, iv y0, iv y1, iv y2, iv y3, .unset, .unset, .unset, .unset, .unset]) rfl z_) ?_
   refine own_g (own_F T0 m 99 #[iv i0, iv i1, iv i2, iv i3, iv 2, iv p1, iv y0, iv y1, iv y2, iv y3, .unset, .unset, .unset, .unset, .unset] [(.int 2)]) (fun _ z_ => XS.iload X0.here hx rfl (hb hby at_97) rfl z_) ?_
   refine own_g (own_F T0 m 100 #[iv i0, iv i1, iv i2, iv i3, iv 2, iv p1, iv y0, iv y1, iv y2, iv y3, .unset, .unset, .unset, .unset, .unset] [(.int 4), (.int 2)]) (fun _ z_ => XS.iconst X0.here hx rfl (hb hby at_99) z_) ?_
   refine own_g (own_F T0 m 111 #[iv i0, iv i1, iv i2, iv i3, iv 2, iv p1, iv y0, iv y1, iv y2, iv y3, .unset, .unset, .unset, .unset, .unset] []) (fun _ z_ => XS.icmpYes X0.here hx rfl (pc0 := 100) (pc' := 111) rfl (hb hby at_100) rfl (flt (by decide : ¬ ((4 : Int32) < (2 : Int32)))).2.2.2 (by decide) (by decide) z_) ?_
   refine own_g (own_F T0 m 112 #[iv i0, iv i1, iv i2, iv i3, iv 2, iv p1, iv y0, iv y1, iv y2, iv y3, .unset, .unset, .unset, .unset, .unset] [(.int 0)]) (fun _ z_ => XS.iconst X0.here hx rfl (hb hby at_111) z_) ?_
   obtain ⟨y4, hy4⟩ : ∃ y : Int32, y = (0 : Int32) := ⟨_, rfl⟩
   have hb4 : 0 ≤ y4.toInt ∧ y4.toInt ≤ 0 := by rw [hy4]; decide
   suffices hsuf : own_Ends p e below s (fun v h L => v = some (.int 1) ∧ Fr n0 L) room_1.cells room_1.slots (own_F T0 m 112 #[iv i0, iv i1, iv i2, iv i3, iv 2, iv p1, iv y0, iv y1, iv y2, iv y3, .unset, .unset, .unset, .unset, .unset] [(.int y4)]) by rw [hy4] at hsuf; exact hsuf
   refine own_g (own_F T0 m 114 #[iv i0, iv i1, iv i2, iv i3, iv 2, iv p1, iv y0, iv y1, iv y2, iv y3, iv y4, .unset, .unset, .unset, .unset] []) (fun _ z_ => XS.istore X0.here hx rfl (hb hby at_112) rfl (l' := #[iv i0, iv i1, iv i2, iv i3, iv 2, iv p1, iv y0, iv y1, iv y2, iv y3, iv y4, .unset, .unset, .unset, .unset]) rfl z_) ?_
   refine own_g (own_F T0 m 116 #[iv i0, iv i1, iv i2, iv i3, iv 2, iv p1, iv y0, iv y1, iv y2, iv y3, iv y4, .unset, .unset, .unset, .unset] [(.int 2)]) (fun _ z_ => XS.iload X0.here hx rfl (hb hby at_114) rfl z_) ?_
   refine own_g (own_F T0 m 117 #[iv i0, iv i1, iv i2, iv i3, iv 2, iv p1, iv y0, iv y1, iv y2, iv y3, iv y4, .unset, .unset, .unset, .unset] [(.int 4), (.int 2)]) (fun _ z_ => XS.iconst X0.here hx rfl (hb hby at_116) z_) ?_
   refine own_g (own_F T0 m 118 #[iv i0, iv i1, iv i2, iv i3, iv 2, iv p1, iv y0, iv y1, iv y2, iv y3, iv y4, .unset, .unset, .unset, .unset] [(.int 8)]) (fun _ z_ => XS.imul X0.here hx rfl (hb hby at_117) rfl z_) ?_
   refine own_g (own_F T0 m 119 #[iv i0, iv i1, iv i2, iv i3, iv 2, iv p1, iv y0, iv y1, iv y2, iv y3, iv y4, .unset, .unset, .unset, .unset] [(.int 2), (.int 8)]) (fun _ z_ => XS.iconst X0.here hx rfl (hb hby at_118) z_) ?_
   refine own_g (own_F T0 m 120 #[iv i0, iv i1, iv i2, iv i3, iv 2, iv p1, iv y0, iv y1, iv y2, iv y3, iv y4, .unset, .unset, .unset, .unset] [(.int 10)]) (fun _ z_ => XS.iadd X0.here hx rfl (hb hby at_119) rfl z_) ?_
   refine own_g (own_F T0 m 121 #[iv i0, iv i1, iv i2, iv i3, iv 2, iv p1, iv y0, iv y1, iv y2, iv y3, iv y4, .unset, .unset, .unset, .unset] [(.int 3), (.int 10)]) (fun _ z_ => XS.iconst X0.here hx rfl (hb hby at_120) z_) ?_
   refine own_g (own_F T0 m 122 #[iv i0, iv i1, iv i2, iv i3, iv 2, iv p1, iv y0, iv y1, iv y2, iv y3, iv y4, .unset, .unset, .unset, .unset] [(.int 3)]) (fun _ z_ => XS.idiv X0.here hx rfl (hb hby at_121) rfl (by decide) z_) ?_
   refine own_g (own_F T0 m 124 #[iv i0, iv i1, iv i2, iv i3, iv 2, iv p1, iv y0, iv y1, iv y2, iv y3, iv y4, iv 3, .unset, .unset, .unset] []) (fun _ z_ => XS.istore X0.here hx rfl (hb hby at_122) rfl (l' := #[iv i0, iv i1, iv i2, iv i3, iv 2, iv p1, iv y0, iv y1, iv y2, iv y3, iv y4, iv 3, .unset, .unset, .unset]) rfl z_) ?_
   exact J124 _ _ p1 y0 y1 y2 y3 y4 P hp hP hb0 hb1 (own_b0 hb2) (own_b0 hb3) (own_b0 hb4) (Or.inr (Or.inr (Or.inl ⟨rfl, rfl, hb0, hb1, hb2, hb3, hb4⟩)))
  ·
   show own_Ends p e below s _ _ _ (own_F T0 m 11 #[iv i0, iv i1, iv i2, iv i3, .unset, .unset, .unset, .unset, .unset, .unset, .unset, .unset, .unset, .unset, .unset] [(.int 3)])
   refine own_g (own_F T0 m 13 #[iv i0, iv i1, iv i2, iv i3, iv 3, .unset, .unset, .unset, .unset, .unset, .unset, .unset, .unset, .unset, .unset] []) (fun _ z_ => XS.istore X0.here hx rfl (hb hby at_11) rfl (l' := #[iv i0, iv i1, iv i2, iv i3, iv 3, .unset, .unset, .unset, .unset, .unset, .unset, .unset, .unset, .unset, .unset]) rfl z_) ?_
   refine own_g (own_F T0 m 14 #[iv i0, iv i1, iv i2, iv i3, iv 3, .unset, .unset, .unset, .unset, .unset, .unset, .unset, .unset, .unset, .unset] [(.int i1)]) (fun _ z_ => XS.iloadN X0.here hx rfl (hb hby at_13) rfl z_) ?_
   refine own_g (own_F T0 m 16 #[iv i0, iv i1, iv i2, iv i3, iv 3, .unset, .unset, .unset, .unset, .unset, .unset, .unset, .unset, .unset, .unset] [(.int 24), (.int i1)]) (fun _ z_ => XS.bipush X0.here hx rfl (hb hby at_14) z_) ?_
   refine own_g (own_F T0 m 17 #[iv i0, iv i1, iv i2, iv i3, iv 3, .unset, .unset, .unset, .unset, .unset, .unset, .unset, .unset, .unset, .unset] [(.int ((i1.toUInt32 >>> ((24 : Int32) &&& 31).toUInt32).toInt32))]) (fun _ z_ => XS.iushr X0.here hx rfl (hb hby at_16) rfl z_) ?_
   refine own_g (own_F T0 m 18 #[iv i0, iv i1, iv i2, iv i3, iv 3, .unset, .unset, .unset, .unset, .unset, .unset, .unset, .unset, .unset, .unset] [(.int 3), (.int ((i1.toUInt32 >>> ((24 : Int32) &&& 31).toUInt32).toInt32))]) (fun _ z_ => XS.iconst X0.here hx rfl (hb hby at_17) z_) ?_
   refine own_g (own_F T0 m 19 #[iv i0, iv i1, iv i2, iv i3, iv 3, .unset, .unset, .unset, .unset, .unset, .unset, .unset, .unset, .unset, .unset] [(.int (((i1.toUInt32 >>> ((24 : Int32) &&& 31).toUInt32).toInt32) &&& (3 : Int32)))]) (fun _ z_ => XS.iand X0.here hx rfl (hb hby at_18) rfl z_) ?_
   have hp3 := own_m3 ((i1.toUInt32 >>> ((24 : Int32) &&& 31).toUInt32).toInt32)
   generalize (((i1.toUInt32 >>> ((24 : Int32) &&& 31).toUInt32).toInt32) &&& (3 : Int32)) = p1 at hp3 ⊢
   obtain ⟨P, hp⟩ : ∃ P : Nat, p1.toInt = (P : Int) := ⟨p1.toInt.toNat, by omega⟩
   have hP : P ≤ 3 := by omega
   refine own_g (own_F T0 m 21 #[iv i0, iv i1, iv i2, iv i3, iv 3, iv p1, .unset, .unset, .unset, .unset, .unset, .unset, .unset, .unset, .unset] []) (fun _ z_ => XS.istore X0.here hx rfl (hb hby at_19) rfl (l' := #[iv i0, iv i1, iv i2, iv i3, iv 3, iv p1, .unset, .unset, .unset, .unset, .unset, .unset, .unset, .unset, .unset]) rfl z_) ?_
   refine own_g (own_F T0 m 23 #[iv i0, iv i1, iv i2, iv i3, iv 3, iv p1, .unset, .unset, .unset, .unset, .unset, .unset, .unset, .unset, .unset] [(.int 3)]) (fun _ z_ => XS.iload X0.here hx rfl (hb hby at_21) rfl z_) ?_
   refine own_g (own_F T0 m 26 #[iv i0, iv i1, iv i2, iv i3, iv 3, iv p1, .unset, .unset, .unset, .unset, .unset, .unset, .unset, .unset, .unset] []) (fun _ z_ => XS.ifNo X0.here hx rfl (hb hby at_23) rfl ((if0 _ _).trans (tlt (by decide : ((0 : Int32) < (3 : Int32)))).2.2.2) z_) ?_
   refine own_g (own_F T0 m 27 #[iv i0, iv i1, iv i2, iv i3, iv 3, iv p1, .unset, .unset, .unset, .unset, .unset, .unset, .unset, .unset, .unset] [(.int i0)]) (fun _ z_ => XS.iloadN X0.here hx rfl (hb hby at_26) rfl z_) ?_
   refine own_g (own_F T0 m 30 #[iv i0, iv i1, iv i2, iv i3, iv 3, iv p1, .unset, .unset, .unset, .unset, .unset, .unset, .unset, .unset, .unset] [(.int 255), (.int i0)]) (fun _ z_ => XS.sipush X0.here hx rfl (hb hby at_27) z_) ?_
   refine own_g (own_F T0 m 31 #[iv i0, iv i1, iv i2, iv i3, iv 3, iv p1, .unset, .unset, .unset, .unset, .unset, .unset, .unset, .unset, .unset] [(.int (i0 &&& (255 : Int32)))]) (fun _ z_ => XS.iand X0.here hx rfl (hb hby at_30) rfl z_) ?_
   refine own_g (own_F T0 m 35 #[iv i0, iv i1, iv i2, iv i3, iv 3, iv p1, .unset, .unset, .unset, .unset, .unset, .unset, .unset, .unset, .unset] [(.int (i0 &&& (255 : Int32)))]) (fun _ z_ => XS.goto X0.here hx rfl (pc0 := 31) (pc' := 35) rfl (hb hby at_31) (by decide) (by decide) z_) ?_
   have hb0 := own_m255 i0
   generalize (i0 &&& (255 : Int32)) = y0 at hb0 ⊢
   refine own_g (own_F T0 m 37 #[iv i0, iv i1, iv i2, iv i3, iv 3, iv p1, iv y0, .unset, .unset, .unset, .unset, .unset, .unset, .unset, .unset] []) (fun _ z_ => XS.istore X0.here hx rfl (hb hby at_35) rfl (l' := #[iv i0, iv i1, iv i2, iv i3, iv 3, iv p1, iv y0, .unset, .unset, .unset, .unset, .unset, .unset, .unset, .unset]) rfl z_) ?_
   refine own_g (own_F T0 m 39 #[iv i0, iv i1, iv i2, iv i3, iv 3, iv p1, iv y0, .unset, .unset, .unset, .unset, .unset, .unset, .unset, .unset] [(.int 3)]) (fun _ z_ => XS.iload X0.here hx rfl (hb hby at_37) rfl z_) ?_
   refine own_g (own_F T0 m 40 #[iv i0, iv i1, iv i2, iv i3, iv 3, iv p1, iv y0, .unset, .unset, .unset, .unset, .unset, .unset, .unset, .unset] [(.int 1), (.int 3)]) (fun _ z_ => XS.iconst X0.here hx rfl (hb hby at_39) z_) ?_
   refine own_g (own_F T0 m 43 #[iv i0, iv i1, iv i2, iv i3, iv 3, iv p1, iv y0, .unset, .unset, .unset, .unset, .unset, .unset, .unset, .unset] []) (fun _ z_ => XS.icmpNo X0.here hx rfl (hb hby at_40) rfl (tlt (by decide : ((1 : Int32) < (3 : Int32)))).2.2.2 z_) ?_
   refine own_g (own_F T0 m 44 #[iv i0, iv i1, iv i2, iv i3, iv 3, iv p1, iv y0, .unset, .unset, .unset, .unset, .unset, .unset, .unset, .unset] [(.int i0)]) (fun _ z_ => XS.iloadN X0.here hx rfl (hb hby at_43) rfl z_) ?_
   refine own_g (own_F T0 m 46 #[iv i0, iv i1, iv i2, iv i3, iv 3, iv p1, iv y0, .unset, .unset, .unset, .unset, .unset, .unset, .unset, .unset] [(.int 8), (.int i0)]) (fun _ z_ => XS.bipush X0.here hx rfl (hb hby at_44) z_) ?_
   refine own_g (own_F T0 m 47 #[iv i0, iv i1, iv i2, iv i3, iv 3, iv p1, iv y0, .unset, .unset, .unset, .unset, .unset, .unset, .unset, .unset] [(.int ((i0.toUInt32 >>> ((8 : Int32) &&& 31).toUInt32).toInt32))]) (fun _ z_ => XS.iushr X0.here hx rfl (hb hby at_46) rfl z_) ?_
   refine own_g (own_F T0 m 50 #[iv i0, iv i1, iv i2, iv i3, iv 3, iv p1, iv y0, .unset, .unset, .unset, .unset, .unset, .unset, .unset, .unset] [(.int 255), (.int ((i0.toUInt32 >>> ((8 : Int32) &&& 31).toUInt32).toInt32))]) (fun _ z_ => XS.sipush X0.here hx rfl (hb hby at_47) z_) ?_
   refine own_g (own_F T0 m 51 #[iv i0, iv i1, iv i2, iv i3, iv 3, iv p1, iv y0, .unset, .unset, .unset, .unset, .unset, .unset, .unset, .unset] [(.int (((i0.toUInt32 >>> ((8 : Int32) &&& 31).toUInt32).toInt32) &&& (255 : Int32)))]) (fun _ z_ => XS.iand X0.here hx rfl (hb hby at_50) rfl z_) ?_
   refine own_g (own_F T0 m 55 #[iv i0, iv i1, iv i2, iv i3, iv 3, iv p1, iv y0, .unset, .unset, .unset, .unset, .unset, .unset, .unset, .unset] [(.int (((i0.toUInt32 >>> ((8 : Int32) &&& 31).toUInt32).toInt32) &&& (255 : Int32)))]) (fun _ z_ => XS.goto X0.here hx rfl (pc0 := 51) (pc' := 55) rfl (hb hby at_51) (by decide) (by decide) z_) ?_
   have hb1 := own_m255 ((i0.toUInt32 >>> ((8 : Int32) &&& 31).toUInt32).toInt32)
   generalize (((i0.toUInt32 >>> ((8 : Int32) &&& 31).toUInt32).toInt32) &&& (255 : Int32)) = y1 at hb1 ⊢
   refine own_g (own_F T0 m 57 #[iv i0, iv i1, iv i2, iv i3, iv 3, iv p1, iv y0, iv y1, .unset, .unset, .unset, .unset, .unset, .unset, .unset] []) (fun _ z_ => XS.istore X0.here hx rfl (hb hby at_55) rfl (l' := #[iv i0, iv i1, iv i2, iv i3, iv 3, iv p1, iv y0, iv y1, .unset, .unset, .unset, .unset, .unset, .unset, .unset]) rfl z_) ?_
   refine own_g (own_F T0 m 59 #[iv i0, iv i1, iv i2, iv i3, iv 3, iv p1, iv y0, iv y1, .unset, .unset, .unset, .unset, .unset, .unset, .unset] [(.int 3)]) (fun _ z_ => XS.iload X0.here hx rfl (hb hby at_57) rfl z_) ?_
   refine own_g (own_F T0 m 60 #[iv i0, iv i1, iv i2, iv i3, iv 3, iv p1, iv y0, iv y1, .unset, .unset, .unset, .unset, .unset, .unset, .unset] [(.int 2), (.int 3)]) (fun _ z_ => XS.iconst X0.here hx rfl (hb hby at_59) z_) ?_
   refine own_g (own_F T0 m 63 #[iv i0, iv i1, iv i2, iv i3, iv 3, iv p1, iv y0, iv y1, .unset, .unset, .unset, .unset, .unset, .unset, .unset] []) (fun _ z_ => XS.icmpNo X0.here hx rfl (hb hby at_60) rfl (tlt (by decide : ((2 : Int32) < (3 : Int32)))).2.2.2 z_) ?_
   refine own_g (own_F T0 m 64 #[iv i0, iv i1, iv i2, iv i3, iv 3, iv p1, iv y0, iv y1, .unset, .unset, .unset, .unset, .unset, .unset, .unset] [(.int i0)]) (fun _ z_ => XS.iloadN X0.here hx rfl (hb hby at_63) rfl z_) ?_
   refine own_g (own_F T0 m 66 #[iv i0, iv i1, iv i2, iv i3, iv 3, iv p1, iv y0, iv y1, .unset, .unset, .unset, .unset, .unset, .unset, .unset] [(.int 16), (.int i0)]) (fun _ z_ => XS.bipush X0.here hx rfl (hb hby at_64) z_) ?_
   refine own_g (own_F T0 m 67 #[iv i0, iv i1, iv i2, iv i3, iv 3, iv p1, iv y0, iv y1, .unset, .unset, .unset, .unset, .unset, .unset, .unset] [(.int ((i0.toUInt32 >>> ((16 : Int32) &&& 31).toUInt32).toInt32))]) (fun _ z_ => XS.iushr X0.here hx rfl (hb hby at_66) rfl z_) ?_
   refine own_g (own_F T0 m 70 #[iv i0, iv i1, iv i2, iv i3, iv 3, iv p1, iv y0, iv y1, .unset, .unset, .unset, .unset, .unset, .unset, .unset] [(.int 255), (.int ((i0.toUInt32 >>> ((16 : Int32) &&& 31).toUInt32).toInt32))]) (fun _ z_ => XS.sipush X0.here hx rfl (hb hby at_67) z_) ?_
   refine own_g (own_F T0 m 71 #[iv i0, iv i1, iv i2, iv i3, iv 3, iv p1, iv y0, iv y1, .unset, .unset, .unset, .unset, .unset, .unset, .unset] [(.int (((i0.toUInt32 >>> ((16 : Int32) &&& 31).toUInt32).toInt32) &&& (255 : Int32)))]) (fun _ z_ => XS.iand X0.here hx rfl (hb hby at_70) rfl z_) ?_
   refine own_g (own_F T0 m 75 #[iv i0, iv i1, iv i2, iv i3, iv 3, iv p1, iv y0, iv y1, .unset, .unset, .unset, .unset, .unset, .unset, .unset] [(.int (((i0.toUInt32 >>> ((16 : Int32) &&& 31).toUInt32).toInt32) &&& (255 : Int32)))]) (fun _ z_ => XS.goto X0.here hx rfl (pc0 := 71) (pc' := 75) rfl (hb hby at_71) (by decide) (by decide) z_) ?_
   have hb2 := own_m255 ((i0.toUInt32 >>> ((16 : Int32) &&& 31).toUInt32).toInt32)
   generalize (((i0.toUInt32 >>> ((16 : Int32) &&& 31).toUInt32).toInt32) &&& (255 : Int32)) = y2 at hb2 ⊢
   refine own_g (own_F T0 m 77 #[iv i0, iv i1, iv i2, iv i3, iv 3, iv p1, iv y0, iv y1, iv y2, .unset, .unset, .unset, .unset, .unset, .unset] []) (fun _ z_ => XS.istore X0.here hx rfl (hb hby at_75) rfl (l' := #[iv i0, iv i1, iv i2, iv i3, iv 3, iv p1, iv y0, iv y1, iv y2, .unset, .unset, .unset, .unset, .unset, .unset]) rfl z_) ?_
   refine own_g (own_F T0 m 79 #[iv i0, iv i1, iv i2, iv i3, iv 3, iv p1, iv y0, iv y1, iv y2, .unset, .unset, .unset, .unset, .unset, .unset] [(.int 3)]) (fun _ z_ => XS.iload X0.here hx rfl (hb hby at_77) rfl z_) ?_
   refine own_g (own_F T0 m 80 #[iv i0, iv i1, iv i2, iv i3, iv 3, iv p1, iv y0, iv y1, iv y2, .unset, .unset, .unset, .unset, .unset, .unset] [(.int 3), (.int 3)]) (fun _ z_ => XS.iconst X0.here hx rfl (hb hby at_79) z_) ?_
   refine own_g (own_F T0 m 94 #[iv i0, iv i1, iv i2, iv i3, iv 3, iv p1, iv y0, iv y1, iv y2, .unset, .unset, .unset, .unset, .unset, .unset] []) (fun _ z_ => XS.icmpYes X0.here hx rfl (pc0 := 80) (pc' := 94) rfl (hb hby at_80) rfl (flt (by decide : ¬ ((3 : Int32) < (3 : Int32)))).2.2.2 (by decide) (by decide) z_) ?_
   refine own_g (own_F T0 m 95 #[iv i0, iv i1, iv i2, iv i3, iv 3, iv p1, iv y0, iv y1, iv y2, .unset, .unset, .unset, .unset, .unset, .unset] [(.int 0)]) (fun _ z_ => XS.iconst X0.here hx rfl (hb hby at_94) z_) ?_
   obtain ⟨y3, hy3⟩ : ∃ y : Int32, y = (0 : Int32) := ⟨_, rfl⟩
   have hb3 : 0 ≤ y3.toInt ∧ y3.toInt ≤ 0 := by rw [hy3]; decide
   suffices hsuf : own_Ends p e below s (fun v h L => v = some (.int 1) ∧ Fr n0 L) room_1.cells room_1.slots (own_F T0 m 95 #[iv i0, iv i1, iv i2, iv i3, iv 3, iv p1, iv y0, iv y1, iv y2, .unset, .unset, .unset, .unset, .unset, .unset] [(.int y3)]) by rw [hy3] at hsuf; exact hsuf
   refine own_g (own_F T0 m 97 #[iv i0, iv i1, iv i2, iv i3, iv 3, iv p1, iv y0, iv y1, iv y2, iv y3, .unset, .unset, .unset, .unset, .unset] []) (fun _ z_ => XS.istore X0.here hx rfl (hb hby at_95) rfl (l' := #[iv i0, iv i1, iv i2, iv i3, iv 3, iv p1, iv y0, iv y1, iv y2, iv y3, .unset, .unset, .unset, .unset, .unset]) rfl z_) ?_
   refine own_g (own_F T0 m 99 #[iv i0, iv i1, iv i2, iv i3, iv 3, iv p1, iv y0, iv y1, iv y2, iv y3, .unset, .unset, .unset, .unset, .unset] [(.int 3)]) (fun _ z_ => XS.iload X0.here hx rfl (hb hby at_97) rfl z_) ?_
   refine own_g (own_F T0 m 100 #[iv i0, iv i1, iv i2, iv i3, iv 3, iv p1, iv y0, iv y1, iv y2, iv y3, .unset, .unset, .unset, .unset, .unset] [(.int 4), (.int 3)]) (fun _ z_ => XS.iconst X0.here hx rfl (hb hby at_99) z_) ?_
   refine own_g (own_F T0 m 111 #[iv i0, iv i1, iv i2, iv i3, iv 3, iv p1, iv y0, iv y1, iv y2, iv y3, .unset, .unset, .unset, .unset, .unset] []) (fun _ z_ => XS.icmpYes X0.here hx rfl (pc0 := 100) (pc' := 111) rfl (hb hby at_100) rfl (flt (by decide : ¬ ((4 : Int32) < (3 : Int32)))).2.2.2 (by decide) (by decide) z_) ?_
   refine own_g (own_F T0 m 112 #[iv i0, iv i1, iv i2, iv i3, iv 3, iv p1, iv y0, iv y1, iv y2, iv y3, .unset, .unset, .unset, .unset, .unset] [(.int 0)]) (fun _ z_ => XS.iconst X0.here hx rfl (hb hby at_111) z_) ?_
   obtain ⟨y4, hy4⟩ : ∃ y : Int32, y = (0 : Int32) := ⟨_, rfl⟩
   have hb4 : 0 ≤ y4.toInt ∧ y4.toInt ≤ 0 := by rw [hy4]; decide
   suffices hsuf : own_Ends p e below s (fun v h L => v = some (.int 1) ∧ Fr n0 L) room_1.cells room_1.slots (own_F T0 m 112 #[iv i0, iv i1, iv i2, iv i3, iv 3, iv p1, iv y0, iv y1, iv y2, iv y3, .unset, .unset, .unset, .unset, .unset] [(.int y4)]) by rw [hy4] at hsuf; exact hsuf
   refine own_g (own_F T0 m 114 #[iv i0, iv i1, iv i2, iv i3, iv 3, iv p1, iv y0, iv y1, iv y2, iv y3, iv y4, .unset, .unset, .unset, .unset] []) (fun _ z_ => XS.istore X0.here hx rfl (hb hby at_112) rfl (l' := #[iv i0, iv i1, iv i2, iv i3, iv 3, iv p1, iv y0, iv y1, iv y2, iv y3, iv y4, .unset, .unset, .unset, .unset]) rfl z_) ?_
   refine own_g (own_F T0 m 116 #[iv i0, iv i1, iv i2, iv i3, iv 3, iv p1, iv y0, iv y1, iv y2, iv y3, iv y4, .unset, .unset, .unset, .unset] [(.int 3)]) (fun _ z_ => XS.iload X0.here hx rfl (hb hby at_114) rfl z_) ?_
   refine own_g (own_F T0 m 117 #[iv i0, iv i1, iv i2, iv i3, iv 3, iv p1, iv y0, iv y1, iv y2, iv y3, iv y4, .unset, .unset, .unset, .unset] [(.int 4), (.int 3)]) (fun _ z_ => XS.iconst X0.here hx rfl (hb hby at_116) z_) ?_
   refine own_g (own_F T0 m 118 #[iv i0, iv i1, iv i2, iv i3, iv 3, iv p1, iv y0, iv y1, iv y2, iv y3, iv y4, .unset, .unset, .unset, .unset] [(.int 12)]) (fun _ z_ => XS.imul X0.here hx rfl (hb hby at_117) rfl z_) ?_
   refine own_g (own_F T0 m 119 #[iv i0, iv i1, iv i2, iv i3, iv 3, iv p1, iv y0, iv y1, iv y2, iv y3, iv y4, .unset, .unset, .unset, .unset] [(.int 2), (.int 12)]) (fun _ z_ => XS.iconst X0.here hx rfl (hb hby at_118) z_) ?_
   refine own_g (own_F T0 m 120 #[iv i0, iv i1, iv i2, iv i3, iv 3, iv p1, iv y0, iv y1, iv y2, iv y3, iv y4, .unset, .unset, .unset, .unset] [(.int 14)]) (fun _ z_ => XS.iadd X0.here hx rfl (hb hby at_119) rfl z_) ?_
   refine own_g (own_F T0 m 121 #[iv i0, iv i1, iv i2, iv i3, iv 3, iv p1, iv y0, iv y1, iv y2, iv y3, iv y4, .unset, .unset, .unset, .unset] [(.int 3), (.int 14)]) (fun _ z_ => XS.iconst X0.here hx rfl (hb hby at_120) z_) ?_
   refine own_g (own_F T0 m 122 #[iv i0, iv i1, iv i2, iv i3, iv 3, iv p1, iv y0, iv y1, iv y2, iv y3, iv y4, .unset, .unset, .unset, .unset] [(.int 4)]) (fun _ z_ => XS.idiv X0.here hx rfl (hb hby at_121) rfl (by decide) z_) ?_
   refine own_g (own_F T0 m 124 #[iv i0, iv i1, iv i2, iv i3, iv 3, iv p1, iv y0, iv y1, iv y2, iv y3, iv y4, iv 4, .unset, .unset, .unset] []) (fun _ z_ => XS.istore X0.here hx rfl (hb hby at_122) rfl (l' := #[iv i0, iv i1, iv i2, iv i3, iv 3, iv p1, iv y0, iv y1, iv y2, iv y3, iv y4, iv 4, .unset, .unset, .unset]) rfl z_) ?_
   exact J124 _ _ p1 y0 y1 y2 y3 y4 P hp hP hb0 hb1 hb2 (own_b0 hb3) (own_b0 hb4) (Or.inr (Or.inr (Or.inr (Or.inl ⟨rfl, rfl, hb0, hb1, hb2, hb3, hb4⟩))))
  ·
   show own_Ends p e below s _ _ _ (own_F T0 m 11 #[iv i0, iv i1, iv i2, iv i3, .unset, .unset, .unset, .unset, .unset, .unset, .unset, .unset, .unset, .unset, .unset] [(.int 4)])
   refine own_g (own_F T0 m 13 #[iv i0, iv i1, iv i2, iv i3, iv 4, .unset, .unset, .unset, .unset, .unset, .unset, .unset, .unset, .unset, .unset] []) (fun _ z_ => XS.istore X0.here hx rfl (hb hby at_11) rfl (l' := #[iv i0, iv i1, iv i2, iv i3, iv 4, .unset, .unset, .unset, .unset, .unset, .unset, .unset, .unset, .unset, .unset]) rfl z_) ?_
   refine own_g (own_F T0 m 14 #[iv i0, iv i1, iv i2, iv i3, iv 4, .unset, .unset, .unset, .unset, .unset, .unset, .unset, .unset, .unset, .unset] [(.int i1)]) (fun _ z_ => XS.iloadN X0.here hx rfl (hb hby at_13) rfl z_) ?_
   refine own_g (own_F T0 m 16 #[iv i0, iv i1, iv i2, iv i3, iv 4, .unset, .unset, .unset, .unset, .unset, .unset, .unset, .unset, .unset, .unset] [(.int 24), (.int i1)]) (fun _ z_ => XS.bipush X0.here hx rfl (hb hby at_14) z_) ?_
   refine own_g (own_F T0 m 17 #[iv i0, iv i1, iv i2, iv i3, iv 4, .unset, .unset, .unset, .unset, .unset, .unset, .unset, .unset, .unset, .unset] [(.int ((i1.toUInt32 >>> ((24 : Int32) &&& 31).toUInt32).toInt32))]) (fun _ z_ => XS.iushr X0.here hx rfl (hb hby at_16) rfl z_) ?_
   refine own_g (own_F T0 m 18 #[iv i0, iv i1, iv i2, iv i3, iv 4, .unset, .unset, .unset, .unset, .unset, .unset, .unset, .unset, .unset, .unset] [(.int 3), (.int ((i1.toUInt32 >>> ((24 : Int32) &&& 31).toUInt32).toInt32))]) (fun _ z_ => XS.iconst X0.here hx rfl (hb hby at_17) z_) ?_
   refine own_g (own_F T0 m 19 #[iv i0, iv i1, iv i2, iv i3, iv 4, .unset, .unset, .unset, .unset, .unset, .unset, .unset, .unset, .unset, .unset] [(.int (((i1.toUInt32 >>> ((24 : Int32) &&& 31).toUInt32).toInt32) &&& (3 : Int32)))]) (fun _ z_ => XS.iand X0.here hx rfl (hb hby at_18) rfl z_) ?_
   have hp3 := own_m3 ((i1.toUInt32 >>> ((24 : Int32) &&& 31).toUInt32).toInt32)
   generalize (((i1.toUInt32 >>> ((24 : Int32) &&& 31).toUInt32).toInt32) &&& (3 : Int32)) = p1 at hp3 ⊢
   obtain ⟨P, hp⟩ : ∃ P : Nat, p1.toInt = (P : Int) := ⟨p1.toInt.toNat, by omega⟩
   have hP : P ≤ 3 := by omega
   refine own_g (own_F T0 m 21 #[iv i0, iv i1, iv i2, iv i3, iv 4, iv p1, .unset, .unset, .unset, .unset, .unset, .unset, .unset, .unset, .unset] []) (fun _ z_ => XS.istore X0.here hx rfl (hb hby at_19) rfl (l' := #[iv i0, iv i1, iv i2, iv i3, iv 4, iv p1, .unset, .unset, .unset, .unset, .unset, .unset, .unset, .unset, .unset]) rfl z_) ?_
   refine own_g (own_F T0 m 23 #[iv i0, iv i1, iv i2, iv i3, iv 4, iv p1, .unset, .unset, .unset, .unset, .unset, .unset, .unset, .unset, .unset] [(.int 4)]) (fun _ z_ => XS.iload X0.here hx rfl (hb hby at_21) rfl z_) ?_
   refine own_g (own_F T0 m 26 #[iv i0, iv i1, iv i2, iv i3, iv 4, iv p1, .unset, .unset, .unset, .unset, .unset, .unset, .unset, .unset, .unset] []) (fun _ z_ => XS.ifNo X0.here hx rfl (hb hby at_23) rfl ((if0 _ _).trans (tlt (by decide : ((0 : Int32) < (4 : Int32)))).2.2.2) z_) ?_
   refine own_g (own_F T0 m 27 #[iv i0, iv i1, iv i2, iv i3, iv 4, iv p1, .unset, .unset, .unset, .unset, .unset, .unset, .unset, .unset, .unset] [(.int i0)]) (fun _ z_ => XS.iloadN X0.here hx rfl (hb hby at_26) rfl z_) ?_
   refine own_g (own_F T0 m 30 #[iv i0, iv i1, iv i2, iv i3, iv 4, iv p1, .unset, .unset, .unset, .unset, .unset, .unset, .unset, .unset, .unset] [(.int 255), (.int i0)]) (fun _ z_ => XS.sipush X0.here hx rfl (hb hby at_27) z_) ?_
   refine own_g (own_F T0 m 31 #[iv i0, iv i1, iv i2, iv i3, iv 4, iv p1, .unset, .unset, .unset, .unset, .unset, .unset, .unset, .unset, .unset] [(.int (i0 &&& (255 : Int32)))]) (fun _ z_ => XS.iand X0.here hx rfl (hb hby at_30) rfl z_) ?_
   refine own_g (own_F T0 m 35 #[iv i0, iv i1, iv i2, iv i3, iv 4, iv p1, .unset, .unset, .unset, .unset, .unset, .unset, .unset, .unset, .unset] [(.int (i0 &&& (255 : Int32)))]) (fun _ z_ => XS.goto X0.here hx rfl (pc0 := 31) (pc' := 35) rfl (hb hby at_31) (by decide) (by decide) z_) ?_
   have hb0 := own_m255 i0
   generalize (i0 &&& (255 : Int32)) = y0 at hb0 ⊢
   refine own_g (own_F T0 m 37 #[iv i0, iv i1, iv i2, iv i3, iv 4, iv p1, iv y0, .unset, .unset, .unset, .unset, .unset, .unset, .unset, .unset] []) (fun _ z_ => XS.istore X0.here hx rfl (hb hby at_35) rfl (l' := #[iv i0, iv i1, iv i2, iv i3, iv 4, iv p1, iv y0, .unset, .unset, .unset, .unset, .unset, .unset, .unset, .unset]) rfl z_) ?_
   refine own_g (own_F T0 m 39 #[iv i0, iv i1, iv i2, iv i3, iv 4, iv p1, iv y0, .unset, .unset, .unset, .unset, .unset, .unset, .unset, .unset] [(.int 4)]) (fun _ z_ => XS.iload X0.here hx rfl (hb hby at_37) rfl z_) ?_
   refine own_g (own_F T0 m 40 #[iv i0, iv i1, iv i2, iv i3, iv 4, iv p1, iv y0, .unset, .unset, .unset, .unset, .unset, .unset, .unset, .unset] [(.int 1), (.int 4)]) (fun _ z_ => XS.iconst X0.here hx rfl (hb hby at_39) z_) ?_
   refine own_g (own_F T0 m 43 #[iv i0, iv i1, iv i2, iv i3, iv 4, iv p1, iv y0, .unset, .unset, .unset, .unset, .unset, .unset, .unset, .unset] []) (fun _ z_ => XS.icmpNo X0.here hx rfl (hb hby at_40) rfl (tlt (by decide : ((1 : Int32) < (4 : Int32)))).2.2.2 z_) ?_
   refine own_g (own_F T0 m 44 #[iv i0, iv i1, iv i2, iv i3, iv 4, iv p1, iv y0, .unset, .unset, .unset, .unset, .unset, .unset, .unset, .unset] [(.int i0)]) (fun _ z_ => XS.iloadN X0.here hx rfl (hb hby at_43) rfl z_) ?_
   refine own_g (own_F T0 m 46 #[iv i0, iv i1, iv i2, iv i3, iv 4, iv p1, iv y0, .unset, .unset, .unset, .unset, .unset, .unset, .unset, .unset] [(.int 8), (.int i0)]) (fun _ z_ => XS.bipush X0.here hx rfl (hb hby at_44) z_) ?_
   refine own_g (own_F T0 m 47 #[iv i0, iv i1, iv i2, iv i3, iv 4, iv p1, iv y0, .unset, .unset, .unset, .unset, .unset, .unset, .unset, .unset] [(.int ((i0.toUInt32 >>> ((8 : Int32) &&& 31).toUInt32).toInt32))]) (fun _ z_ => XS.iushr X0.here hx rfl (hb hby at_46) rfl z_) ?_
   refine own_g (own_F T0 m 50 #[iv i0, iv i1, iv i2, iv i3, iv 4, iv p1, iv y0, .unset, .unset, .unset, .unset, .unset, .unset, .unset, .unset] [(.int 255), (.int ((i0.toUInt32 >>> ((8 : Int32) &&& 31).toUInt32).toInt32))]) (fun _ z_ => XS.sipush X0.here hx rfl (hb hby at_47) z_) ?_
   refine own_g (own_F T0 m 51 #[iv i0, iv i1, iv i2, iv i3, iv 4, iv p1, iv y0, .unset, .unset, .unset, .unset, .unset, .unset, .unset, .unset] [(.int (((i0.toUInt32 >>> ((8 : Int32) &&& 31).toUInt32).toInt32) &&& (255 : Int32)))]) (fun _ z_ => XS.iand X0.here hx rfl (hb hby at_50) rfl z_) ?_
   refine own_g (own_F T0 m 55 #[iv i0, iv i1, iv i2, iv i3, iv 4, iv p1, iv y0, .unset, .unset, .unset, .unset, .unset, .unset, .unset, .unset] [(.int (((i0.toUInt32 >>> ((8 : Int32) &&& 31).toUInt32).toInt32) &&& (255 : Int32)))]) (fun _ z_ => XS.goto X0.here hx rfl (pc0 := 51) (pc' := 55) rfl (hb hby at_51) (by decide) (by decide) z_) ?_
   have hb1 := own_m255 ((i0.toUInt32 >>> ((8 : Int32) &&& 31).toUInt32).toInt32)
   generalize (((i0.toUInt32 >>> ((8 : Int32) &&& 31).toUInt32).toInt32) &&& (255 : Int32)) = y1 at hb1 ⊢
   refine own_g (own_F T0 m 57 #[iv i0, iv i1, iv i2, iv i3, iv 4, iv p1, iv y0, iv y1, .unset, .unset, .unset, .unset, .unset, .unset, .unset] []) (fun _ z_ => XS.istore X0.here hx rfl (hb hby at_55) rfl (l' := #[iv i0, iv i1, iv i2, iv i3, iv 4, iv p1, iv y0, iv y1, .unset, .unset, .unset, .unset, .unset, .unset, .unset]) rfl z_) ?_
   refine own_g (own_F T0 m 59 #[iv i0, iv i1, iv i2, iv i3, iv 4, iv p1, iv y0, iv y1, .unset, .unset, .unset, .unset, .unset, .unset, .unset] [(.int 4)]) (fun _ z_ => XS.iload X0.here hx rfl (hb hby at_57) rfl z_) ?_
   refine own_g (own_F T0 m 60 #[iv i0, iv i1, iv i2, iv i3, iv 4, iv p1, iv y0, iv y1, .unset, .unset, .unset, .unset, .unset, .unset, .unset] [(.int 2), (.int 4)]) (fun _ z_ => XS.iconst X0.here hx rfl (hb hby at_59) z_) ?_
   refine own_g (own_F T0 m 63 #[iv i0, iv i1, iv i2, iv i3, iv 4, iv p1, iv y0, iv y1, .unset, .unset, .unset, .unset, .unset, .unset, .unset] []) (fun _ z_ => XS.icmpNo X0.here hx rfl (hb hby at_60) rfl (tlt (by decide : ((2 : Int32) < (4 : Int32)))).2.2.2 z_) ?_
   refine own_g (own_F T0 m 64 #[iv i0, iv i1, iv i2, iv i3, iv 4, iv p1, iv y0, iv y1, .unset, .unset, .unset, .unset, .unset, .unset, .unset] [(.int i0)]) (fun _ z_ => XS.iloadN X0.here hx rfl (hb hby at_63) rfl z_) ?_
   refine own_g (own_F T0 m 66 #[iv i0, iv i1, iv i2, iv i3, iv 4, iv p1, iv y0, iv y1, .unset, .unset, .unset, .unset, .unset, .unset, .unset] [(.int 16), (.int i0)]) (fun _ z_ => XS.bipush X0.here hx rfl (hb hby at_64) z_) ?_
   refine own_g (own_F T0 m 67 #[iv i0, iv i1, iv i2, iv i3, iv 4, iv p1, iv y0, iv y1, .unset, .unset, .unset, .unset, .unset, .unset, .unset] [(.int ((i0.toUInt32 >>> ((16 : Int32) &&& 31).toUInt32).toInt32))]) (fun _ z_ => XS.iushr X0.here hx rfl (hb hby at_66) rfl z_) ?_
   refine own_g (own_F T0 m 70 #[iv i0, iv i1, iv i2, iv i3, iv 4, iv p1, iv y0, iv y1, .unset, .unset, .unset, .unset, .unset, .unset, .unset] [(.int 255), (.int ((i0.toUInt32 >>> ((16 : Int32) &&& 31).toUInt32).toInt32))]) (fun _ z_ => XS.sipush X0.here hx rfl (hb hby at_67) z_) ?_
   refine own_g (own_F T0 m 71 #[iv i0, iv i1, iv i2, iv i3, iv 4, iv p1, iv y0, iv y1, .unset, .unset, .unset, .unset, .unset, .unset, .unset] [(.int (((i0.toUInt32 >>> ((16 : Int32) &&& 31).toUInt32).toInt32) &&& (255 : Int32)))]) (fun _ z_ => XS.iand X0.here hx rfl (hb hby at_70) rfl z_) ?_
   refine own_g (own_F T0 m 75 #[iv i0, iv i1, iv i2, iv i3, iv 4, iv p1, iv y0, iv y1, .unset, .unset, .unset, .unset, .unset, .unset, .unset] [(.int (((i0.toUInt32 >>> ((16 : Int32) &&& 31).toUInt32).toInt32) &&& (255 : Int32)))]) (fun _ z_ => XS.goto X0.here hx rfl (pc0 := 71) (pc' := 75) rfl (hb hby at_71) (by decide) (by decide) z_) ?_
   have hb2 := own_m255 ((i0.toUInt32 >>> ((16 : Int32) &&& 31).toUInt32).toInt32)
   generalize (((i0.toUInt32 >>> ((16 : Int32) &&& 31).toUInt32).toInt32) &&& (255 : Int32)) = y2 at hb2 ⊢
   refine own_g (own_F T0 m 77 #[iv i0, iv i1, iv i2, iv i3, iv 4, iv p1, iv y0, iv y1, iv y2, .unset, .unset, .unset, .unset, .unset, .unset] []) (fun _ z_ => XS.istore X0.here hx rfl (hb hby at_75) rfl (l' := #[iv i0, iv i1, iv i2, iv i3, iv 4, iv p1, iv y0, iv y1, iv y2, .unset, .unset, .unset, .unset, .unset, .unset]) rfl z_) ?_
   refine own_g (own_F T0 m 79 #[iv i0, iv i1, iv i2, iv i3, iv 4, iv p1, iv y0, iv y1, iv y2, .unset, .unset, .unset, .unset, .unset, .unset] [(.int 4)]) (fun _ z_ => XS.iload X0.here hx rfl (hb hby at_77) rfl z_) ?_
   refine own_g (own_F T0 m 80 #[iv i0, iv i1, iv i2, iv i3, iv 4, iv p1, iv y0, iv y1, iv y2, .unset, .unset, .unset, .unset, .unset, .unset] [(.int 3), (.int 4)]) (fun _ z_ => XS.iconst X0.here hx rfl (hb hby at_79) z_) ?_
   refine own_g (own_F T0 m 83 #[iv i0, iv i1, iv i2, iv i3, iv 4, iv p1, iv y0, iv y1, iv y2, .unset, .unset, .unset, .unset, .unset, .unset] []) (fun _ z_ => XS.icmpNo X0.here hx rfl (hb hby at_80) rfl (tlt (by decide : ((3 : Int32) < (4 : Int32)))).2.2.2 z_) ?_
   refine own_g (own_F T0 m 84 #[iv i0, iv i1, iv i2, iv i3, iv 4, iv p1, iv y0, iv y1, iv y2, .unset, .unset, .unset, .unset, .unset, .unset] [(.int i0)]) (fun _ z_ => XS.iloadN X0.here hx rfl (hb hby at_83) rfl z_) ?_
   refine own_g (own_F T0 m 86 #[iv i0, iv i1, iv i2, iv i3, iv 4, iv p1, iv y0, iv y1, iv y2, .unset, .unset, .unset, .unset, .unset, .unset] [(.int 24), (.int i0)]) (fun _ z_ => XS.bipush X0.here hx rfl (hb hby at_84) z_) ?_
   refine own_g (own_F T0 m 87 #[iv i0, iv i1, iv i2, iv i3, iv 4, iv p1, iv y0, iv y1, iv y2, .unset, .unset, .unset, .unset, .unset, .unset] [(.int ((i0.toUInt32 >>> ((24 : Int32) &&& 31).toUInt32).toInt32))]) (fun _ z_ => XS.iushr X0.here hx rfl (hb hby at_86) rfl z_) ?_
   refine own_g (own_F T0 m 90 #[iv i0, iv i1, iv i2, iv i3, iv 4, iv p1, iv y0, iv y1, iv y2, .unset, .unset, .unset, .unset, .unset, .unset] [(.int 255), (.int ((i0.toUInt32 >>> ((24 : Int32) &&& 31).toUInt32).toInt32))]) (fun _ z_ => XS.sipush X0.here hx rfl (hb hby at_87) z_) ?_
   refine own_g (own_F T0 m 91 #[iv i0, iv i1, iv i2, iv i3, iv 4, iv p1, iv y0, iv y1, iv y2, .unset, .unset, .unset, .unset, .unset, .unset] [(.int (((i0.toUInt32 >>> ((24 : Int32) &&& 31).toUInt32).toInt32) &&& (255 : Int32)))]) (fun _ z_ => XS.iand X0.here hx rfl (hb hby at_90) rfl z_) ?_
   refine own_g (own_F T0 m 95 #[iv i0, iv i1, iv i2, iv i3, iv 4, iv p1, iv y0, iv y1, iv y2, .unset, .unset, .unset, .unset, .unset, .unset] [(.int (((i0.toUInt32 >>> ((24 : Int32) &&& 31).toUInt32).toInt32) &&& (255 : Int32)))]) (fun _ z_ => XS.goto X0.here hx rfl (pc0 := 91) (pc' := 95) rfl (hb hby at_91) (by decide) (by decide) z_) ?_
   have hb3 := own_m255 ((i0.toUInt32 >>> ((24 : Int32) &&& 31).toUInt32).toInt32)
   generalize (((i0.toUInt32 >>> ((24 : Int32) &&& 31).toUInt32).toInt32) &&& (255 : Int32)) = y3 at hb3 ⊢
   refine own_g (own_F T0 m 97 #[iv i0, iv i1, iv i2, iv i3, iv 4, iv p1, iv y0, iv y1, iv y2, iv y3, .unset, .unset, .unset, .unset, .unset] []) (fun _ z_ => XS.istore X0.here hx rfl (hb hby at_95) rfl (l' := #[iv i0, iv i1, iv i2, iv i3, iv 4, iv p1, iv y0, iv y1, iv y2, iv y3, .unset, .unset, .unset, .unset, .unset]) rfl z_) ?_
   refine own_g (own_F T0 m 99 #[iv i0, iv i1, iv i2, iv i3, iv 4, iv p1, iv y0, iv y1, iv y2, iv y3, .unset, .unset, .unset, .unset, .unset] [(.int 4)]) (fun _ z_ => XS.iload X0.here hx rfl (hb hby at_97) rfl z_) ?_
   refine own_g (own_F T0 m 100 #[iv i0, iv i1, iv i2, iv i3, iv 4, iv p1, iv y0, iv y1, iv y2, iv y3, .unset, .unset, .unset, .unset, .unset] [(.int 4), (.int 4)]) (fun _ z_ => XS.iconst X0.here hx rfl (hb hby at_99) z_) ?_
   refine own_g (own_F T0 m 111 #[iv i0, iv i1, iv i2, iv i3, iv 4, iv p1, iv y0, iv y1, iv y2, iv y3, .unset, .unset, .unset, .unset, .unset] []) (fun _ z_ => XS.icmpYes X0.here hx rfl (pc0 := 100) (pc' := 111) rfl (hb hby at_100) rfl (flt (by decide : ¬ ((4 : Int32) < (4 : Int32)))).2.2.2 (by decide) (by decide) z_) ?_
   refine own_g (own_F T0 m 112 #[iv i0, iv i1, iv i2, iv i3, iv 4, iv p1, iv y0, iv y1, iv y2, iv y3, .unset, .unset, .unset, .unset, .unset] [(.int 0)]) (fun _ z_ => XS.iconst X0.here hx rfl (hb hby at_111) z_) ?_
   obtain ⟨y4, hy4⟩ : ∃ y : Int32, y = (0 : Int32) := ⟨_, rfl⟩
   have hb4 : 0 ≤ y4.toInt ∧ y4.toInt ≤ 0 := by rw [hy4]; decide
   suffices hsuf : own_Ends p e below s (fun v h L => v = some (.int 1) ∧ Fr n0 L) room_1.cells room_1.slots (own_F T0 m 112 #[iv i0, iv i1, iv i2, iv i3, iv 4, iv p1, iv y0, iv y1, iv y2, iv y3, .unset, .unset, .unset, .unset, .unset] [(.int y4)]) by rw [hy4] at hsuf; exact hsuf
   refine own_g (own_F T0 m 114 #[iv i0, iv i1, iv i2, iv i3, iv 4, iv p1, iv y0, iv y1, iv y2, iv y3, iv y4, .unset, .unset, .unset, .unset] []) (fun _ z_ => XS.istore X0.here hx rfl (hb hby at_112) rfl (l' := #[iv i0, iv i1, iv i2, iv i3, iv 4, iv p1, iv y0, iv y1, iv y2, iv y3, iv y4, .unset, .unset, .unset, .unset]) rfl z_) ?_
   refine own_g (own_F T0 m 116 #[iv i0, iv i1, iv i2, iv i3, iv 4, iv p1, iv y0, iv y1, iv y2, iv y3, iv y4, .unset, .unset, .unset, .unset] [(.int 4)]) (fun _ z_ => XS.iload X0.here hx rfl (hb hby at_114) rfl z_) ?_
   refine own_g (own_F T0 m 117 #[iv i0, iv i1, iv i2, iv i3, iv 4, iv p1, iv y0, iv y1, iv y2, iv y3, iv y4, .unset, .unset, .unset, .unset] [(.int 4), (.int 4)]) (fun _ z_ => XS.iconst X0.here hx rfl (hb hby at_116) z_) ?_
   refine own_g (own_F T0 m 118 #[iv i0, iv i1, iv i2, iv i3, iv 4, iv p1, iv y0, iv y1, iv y2, iv y3, iv y4, .unset, .unset, .unset, .unset] [(.int 16)]) (fun _ z_ => XS.imul X0.here hx rfl (hb hby at_117) rfl z_) ?_
   refine own_g (own_F T0 m 119 #[iv i0, iv i1, iv i2, iv i3, iv 4, iv p1, iv y0, iv y1, iv y2, iv y3, iv y4, .unset, .unset, .unset, .unset] [(.int 2), (.int 16)]) (fun _ z_ => XS.iconst X0.here hx rfl (hb hby at_118) z_) ?_
   refine own_g (own_F T0 m 120 #[iv i0, iv i1, iv i2, iv i3, iv 4, iv p1, iv y0, iv y1, iv y2, iv y3, iv y4, .unset, .unset, .unset, .unset] [(.int 18)]) (fun _ z_ => XS.iadd X0.here hx rfl (hb hby at_119) rfl z_) ?_
   refine own_g (own_F T0 m 121 #[iv i0, iv i1, iv i2, iv i3, iv 4, iv p1, iv y0, iv y1, iv y2, iv y3, iv y4, .unset, .unset, .unset, .unset] [(.int 3), (.int 18)]) (fun _ z_ => XS.iconst X0.here hx rfl (hb hby at_120) z_) ?_
   refine own_g (own_F T0 m 122 #[iv i0, iv i1, iv i2, iv i3, iv 4, iv p1, iv y0, iv y1, iv y2, iv y3, iv y4, .unset, .unset, .unset, .unset] [(.int 6)]) (fun _ z_ => XS.idiv X0.here hx rfl (hb hby at_121) rfl (by decide) z_) ?_
   refine own_g (own_F T0 m 124 #[iv i0, iv i1, iv i2, iv i3, iv 4, iv p1, iv y0, iv y1, iv y2, iv y3, iv y4, iv 6, .unset, .unset, .unset] []) (fun _ z_ => XS.istore X0.here hx rfl (hb hby at_122) rfl (l' := #[iv i0, iv i1, iv i2, iv i3, iv 4, iv p1, iv y0, iv y1, iv y2, iv y3, iv y4, iv 6, .unset, .unset, .unset]) rfl z_) ?_
   exact J124 _ _ p1 y0 y1 y2 y3 y4 P hp hP hb0 hb1 hb2 hb3 (own_b0 hb4) (Or.inr (Or.inr (Or.inr (Or.inr (Or.inl ⟨rfl, rfl, hb0, hb1, hb2, hb3, hb4⟩)))))
  ·
   show own_Ends p e below s _ _ _ (own_F T0 m 11 #[iv i0, iv i1, iv i2, iv i3, .unset, .unset, .unset, .unset, .unset, .unset, .unset, .unset, .unset, .unset, .unset] [(.int 5)])
   refine own_g (own_F T0 m 13 #[iv i0, iv i1, iv i2, iv i3, iv 5, .unset, .unset, .unset, .unset, .unset, .unset, .unset, .unset, .unset, .unset] []) (fun _ z_ => XS.istore X0.here hx rfl (hb hby at_11) rfl (l' := #[iv i0, iv i1, iv i2, iv i3, iv 5, .unset, .unset, .unset, .unset, .unset, .unset, .unset, .unset, .unset, .unset]) rfl z_) ?_
   refine own_g (own_F T0 m 14 #[iv i0, iv i1, iv i2, iv i3, iv 5, .unset, .unset, .unset, .unset, .unset, .unset, .unset, .unset, .unset, .unset] [(.int i1)]) (fun _ z_ => XS.iloadN X0.here hx rfl (hb hby at_13) rfl z_) ?_
   refine own_g (own_F T0 m 16 #[iv i0, iv i1, iv i2, iv i3, iv 5, .unset, .unset, .unset, .unset, .unset, .unset, .unset, .unset, .unset, .unset] [(.int 24), (.int i1)]) (fun _ z_ => XS.bipush X0.here hx rfl (hb hby at_14) z_) ?_
   refine own_g (own_F T0 m 17 #[iv i0, iv i1, iv i2, iv i3, iv 5, .unset, .unset, .unset, .unset, .unset, .unset, .unset, .unset, .unset, .unset] [(.int ((i1.toUInt32 >>> ((24 : Int32) &&& 31).toUInt32).toInt32))]) (fun _ z_ => XS.iushr X0.here hx rfl (hb hby at_16) rfl z_) ?_
   refine own_g (own_F T0 m 18 #[iv i0, iv i1, iv i2, iv i3, iv 5, .unset, .unset, .unset, .unset, .unset, .unset, .unset, .unset, .unset, .unset] [(.int 3), (.int ((i1.toUInt32 >>> ((24 : Int32) &&& 31).toUInt32).toInt32))]) (fun _ z_ => XS.iconst X0.here hx rfl (hb hby at_17) z_) ?_
   refine own_g (own_F T0 m 19 #[iv i0, iv i1, iv i2, iv i3, iv 5, .unset, .unset, .unset, .unset, .unset, .unset, .unset, .unset, .unset, .unset] [(.int (((i1.toUInt32 >>> ((24 : Int32) &&& 31).toUInt32).toInt32) &&& (3 : Int32)))]) (fun _ z_ => XS.iand X0.here hx rfl (hb hby at_18) rfl z_) ?_
   have hp3 := own_m3 ((i1.toUInt32 >>> ((24 : Int32) &&& 31).toUInt32).toInt32)
   generalize (((i1.toUInt32 >>> ((24 : Int32) &&& 31).toUInt32).toInt32) &&& (3 : Int32)) = p1 at hp3 ⊢
   obtain ⟨P, hp⟩ : ∃ P : Nat, p1.toInt = (P : Int) := ⟨p1.toInt.toNat, by omega⟩
   have hP : P ≤ 3 := by omega
   refine own_g (own_F T0 m 21 #[iv i0, iv i1, iv i2, iv i3, iv 5, iv p1, .unset, .unset, .unset, .unset, .unset, .unset, .unset, .unset, .unset] []) (fun _ z_ => XS.istore X0.here hx rfl (hb hby at_19) rfl (l' := #[iv i0, iv i1, iv i2, iv i3, iv 5, iv p1, .unset, .unset, .unset, .unset, .unset, .unset, .unset, .unset, .unset]) rfl z_) ?_
   refine own_g (own_F T0 m 23 #[iv i0, iv i1, iv i2, iv i3, iv 5, iv p1, .unset, .unset, .unset, .unset, .unset, .unset, .unset, .unset, .unset] [(.int 5)]) (fun _ z_ => XS.iload X0.here hx rfl (hb hby at_21) rfl z_) ?_
   refine own_g (own_F T0 m 26 #[iv i0, iv i1, iv i2, iv i3, iv 5, iv p1, .unset, .unset, .unset, .unset, .unset, .unset, .unset, .unset, .unset] []) (fun _ z_ => XS.ifNo X0.here hx rfl (hb hby at_23) rfl ((if0 _ _).trans (tlt (by decide : ((0 : Int32) < (5 : Int32)))).2.2.2) z_) ?_
   refine own_g (own_F T0 m 27 #[iv i0, iv i1, iv i2, iv i3, iv 5, iv p1, .unset, .unset, .unset, .unset, .unset, .unset, .unset, .unset, .unset] [(.int i0)]) (fun _ z_ => XS.iloadN X0.here hx rfl (hb hby at_26) rfl z_) ?_
   refine own_g (own_F T0 m 30 #[iv i0, iv i1, iv i2, iv i3, iv 5, iv p1, .unset, .unset, .unset, .unset, .unset, .unset, .unset, .unset, .unset] [(.int 255), (.int i0)]) (fun _ z_ => XS.sipush X0.here hx rfl (hb hby at_27) z_) ?_
   refine own_g (own_F T0 m 31 #[iv i0, iv i1, iv i2, iv i3, iv 5, iv p1, .unset, .unset, .unset, .unset, .unset, .unset, .unset, .unset, .unset] [(.int (i0 &&& (255 : Int32)))]) (fun _ z_ => XS.iand X0.here hx rfl (hb hby at_30) rfl z_) ?_
   refine own_g (own_F T0 m 35 #[iv i0, iv i1, iv i2, iv i3, iv 5, iv p1, .unset, .unset, .unset, .unset, .unset, .unset, .unset, .unset, .unset] [(.int (i0 &&& (255 : Int32)))]) (fun _ z_ => XS.goto X0.here hx rfl (pc0 := 31) (pc' := 35) rfl (hb hby at_31) (by decide) (by decide) z_) ?_
   have hb0 := own_m255 i0
   generalize (i0 &&& (255 : Int32)) = y0 at hb0 ⊢
   refine own_g (own_F T0 m 37 #[iv i0, iv i1, iv i2, iv i3, iv 5, iv p1, iv y0, .unset, .unset, .unset, .unset, .unset, .unset, .unset, .unset] []) (fun _ z_ => XS.istore X0.here hx rfl (hb hby at_35) rfl (l' := #[iv i0, iv i1, iv i2, iv i3, iv 5, iv p1, iv y0, .unset, .unset, .unset, .unset, .unset, .unset, .unset, .unset]) rfl z_) ?_
   refine own_g (own_F T0 m 39 #[iv i0, iv i1, iv i2, iv i3, iv 5, iv p1, iv y0, .unset, .unset, .unset, .unset, .unset, .unset, .unset, .unset] [(.int 5)]) (fun _ z_ => XS.iload X0.here hx rfl (hb hby at_37) rfl z_) ?_
   refine own_g (own_F T0 m 40 #[iv i0, iv i1, iv i2, iv i3, iv 5, iv p1, iv y0, .unset, .unset, .unset, .unset, .unset, .unset, .unset, .unset] [(.int 1), (.int 5)]) (fun _ z_ => XS.iconst X0.here hx rfl (hb hby at_39) z_) ?_
   refine own_g (own_F T0 m 43 #[iv i0, iv i1, iv i2, iv i3, iv 5, iv p1, iv y0, .unset, .unset, .unset, .unset, .unset, .unset, .unset, .unset] []) (fun _ z_ => XS.icmpNo X0.here hx rfl (hb hby at_40) rfl (tlt (by decide : ((1 : Int32) < (5 : Int32)))).2.2.2 z_) ?_
   refine own_g (own_F T0 m 44 #[iv i0, iv i1, iv i2, iv i3, iv 5, iv p1, iv y0, .unset, .unset, .unset, .unset, .unset, .unset, .unset, .unset] [(.int i0)]) (fun _ z_ => XS.iloadN X0.here hx rfl (hb hby at_43) rfl z_) ?_
   refine own_g (own_F T0 m 46 #[iv i0, iv i1, iv i2, iv i3, iv 5, iv p1, iv y0, .unset, .unset, .unset, .unset, .unset, .unset, .unset, .unset] [(.int 8), (.int i0)]) (fun _ z_ => XS.bipush X0.here hx rfl (hb hby at_44) z_) ?_
   refine own_g (own_F T0 m 47 #[iv i0, iv i1, iv i2, iv i3, iv 5, iv p1, iv y0, .unset, .unset, .unset, .unset, .unset, .unset, .unset, .unset] [(.int ((i0.toUInt32 >>> ((8 : Int32) &&& 31).toUInt32).toInt32))]) (fun _ z_ => XS.iushr X0.here hx rfl (hb hby at_46) rfl z_) ?_
   refine own_g (own_F T0 m 50 #[iv i0, iv i1, iv i2, iv i3, iv 5, iv p1, iv y0, .unset, .unset, .unset, .unset, .unset, .unset, .unset, .unset] [(.int 255), (.int ((i0.toUInt32 >>> ((8 : Int32) &&& 31).toUInt32).toInt32))]) (fun _ z_ => XS.sipush X0.here hx rfl (hb hby at_47) z_) ?_
   refine own_g (own_F T0 m 51 #[iv i0, iv i1, iv i2, iv i3, iv 5, iv p1, iv y0, .unset, .unset, .unset, .unset, .unset, .unset, .unset, .unset] [(.int (((i0.toUInt32 >>> ((8 : Int32) &&& 31).toUInt32).toInt32) &&& (255 : Int32)))]) (fun _ z_ => XS.iand X0.here hx rfl (hb hby at_50) rfl z_) ?_
   refine own_g (own_F T0 m 55 #[iv i0, iv i1, iv i2, iv i3, iv 5, iv p1, iv y0, .unset, .unset, .unset, .unset, .unset, .unset, .unset, .unset] [(.int (((i0.toUInt32 >>> ((8 : Int32) &&& 31).toUInt32).toInt32) &&& (255 : Int32)))]) (fun _ z_ => XS.goto X0.here hx rfl (pc0 := 51) (pc' := 55) rfl (hb hby at_51) (by decide) (by decide) z_) ?_
   have hb1 := own_m255 ((i0.toUInt32 >>> ((8 : Int32) &&& 31).toUInt32).toInt32)
   generalize (((i0.toUInt32 >>> ((8 : Int32) &&& 31).toUInt32).toInt32) &&& (255 : Int32)) = y1 at hb1 ⊢
   refine own_g (own_F T0 m 57 #[iv i0, iv i1, iv i2, iv i3, iv 5, iv p1, iv y0, iv y1, .unset, .unset, .unset, .unset, .unset, .unset, .unset] []) (fun _ z_ => XS.istore X0.here hx rfl (hb hby at_55) rfl (l' := #[iv i0, iv i1, iv i2, iv i3, iv 5, iv p1, iv y0, iv y1, .unset, .unset, .unset, .unset, .unset, .unset, .unset]) rfl z_) ?_
   refine own_g (own_F T0 m 59 #[iv i0, iv i1, iv i2, iv i3, iv 5, iv p1, iv y0, iv y1, .unset, .unset, .unset, .unset, .unset, .unset, .unset] [(.int 5)]) (fun _ z_ => XS.iload X0.here hx rfl (hb hby at_57) rfl z_) ?_
   refine own_g (own_F T0 m 60 #[iv i0, iv i1, iv i2, iv i3, iv 5, iv p1, iv y0, iv y1, .unset, .unset, .unset, .unset, .unset, .unset, .unset] [(.int 2), (.int 5)]) (fun _ z_ => XS.iconst X0.here hx rfl (hb hby at_59) z_) ?_
   refine own_g (own_F T0 m 63 #[iv i0, iv i1, iv i2, iv i3, iv 5, iv p1, iv y0, iv y1, .unset, .unset, .unset, .unset, .unset, .unset, .unset] []) (fun _ z_ => XS.icmpNo X0.here hx rfl (hb hby at_60) rfl (tlt (by decide : ((2 : Int32) < (5 : Int32)))).2.2.2 z_) ?_
   refine own_g (own_F T0 m 64 #[iv i0, iv i1, iv i2, iv i3, iv 5, iv p1, iv y0, iv y1, .unset, .unset, .unset, .unset, .unset, .unset, .unset] [(.int i0)]) (fun _ z_ => XS.iloadN X0.here hx rfl (hb hby at_63) rfl z_) ?_
   refine own_g (own_F T0 m 66 #[iv i0, iv i1, iv i2, iv i3, iv 5, iv p1, iv y0, iv y1, .unset, .unset, .unset, .unset, .unset, .unset, .unset] [(.int 16), (.int i0)]) (fun _ z_ => XS.bipush X0.here hx rfl (hb hby at_64) z_) ?_
   refine own_g (own_F T0 m 67 #[iv i0, iv i1, iv i2, iv i3, iv 5, iv p1, iv y0, iv y1, .unset, .unset, .unset, .unset, .unset, .unset, .unset] [(.int ((i0.toUInt32 >>> ((16 : Int32) &&& 31).toUInt32).toInt32))]) (fun _ z_ => XS.iushr X0.here hx rfl (hb hby at_66) rfl z_) ?_
   refine own_g (own_F T0 m 70 #[iv i0, iv i1, iv i2, iv i3, iv 5, iv p1, iv y0, iv y1, .unset, .unset, .unset, .unset, .unset, .unset, .unset] [(.int 255), (.int ((i0.toUInt32 >>> ((16 : Int32) &&& 31).toUInt32).toInt32))]) (fun _ z_ => XS.sipush X0.here hx rfl (hb hby at_67) z_) ?_
   refine own_g (own_F T0 m 71 #[iv i0, iv i1, iv i2, iv i3, iv 5, iv p1, iv y0, iv y1, .unset, .unset, .unset, .unset, .unset, .unset, .unset] [(.int (((i0.toUInt32 >>> ((16 : Int32) &&& 31).toUInt32).toInt32) &&& (255 : Int32)))]) (fun _ z_ => XS.iand X0.here hx rfl (hb hby at_70) rfl z_) ?_
   refine own_g (own_F T0 m 75 #[iv i0, iv i1, iv i2, iv i3, iv 5, iv p1, iv y0, iv y1, .unset, .unset, .unset, .unset, .unset, .unset, .unset] [(.int (((i0.toUInt32 >>> ((16 : Int32) &&& 31).toUInt32).toInt32) &&& (255 : Int32)))]) (fun _ z_ => XS.goto X0.here hx rfl (pc0 := 71) (pc' := 75) rfl (hb hby at_71) (by decide) (by decide) z_) ?_
   have hb2 := own_m255 ((i0.toUInt32 >>> ((16 : Int32) &&& 31).toUInt32).toInt32)
   generalize (((i0.toUInt32 >>> ((16 : Int32) &&& 31).toUInt32).toInt32) &&& (255 : Int32)) = y2 at hb2 ⊢
   refine own_g (own_F T0 m 77 #[iv i0, iv i1, iv i2, iv i3, iv 5, iv p1, iv y0, iv y1, iv y2, .unset, .unset, .unset, .unset, .unset, .unset] []) (fun _ z_ => XS.istore X0.here hx rfl (hb hby at_75) rfl (l' := #[iv i0, iv i1, iv i2, iv i3, iv 5, iv p1, iv y0, iv y1, iv y2, .unset, .unset, .unset, .unset, .unset, .unset]) rfl z_) ?_
   refine own_g (own_F T0 m 79 #[iv i0, iv i1, iv i2, iv i3, iv 5, iv p1, iv y0, iv y1, iv y2, .unset, .unset, .unset, .unset, .unset, .unset] [(.int 5)]) (fun _ z_ => XS.iload X0.here hx rfl (hb hby at_77) rfl z_) ?_
   refine own_g (own_F T0 m 80 #[iv i0, iv i1, iv i2, iv i3, iv 5, iv p1, iv y0, iv y1, iv y2, .unset, .unset, .unset, .unset, .unset, .unset] [(.int 3), (.int 5)]) (fun _ z_ => XS.iconst X0.here hx rfl (hb hby at_79) z_) ?_
   refine own_g (own_F T0 m 83 #[iv i0, iv i1, iv i2, iv i3, iv 5, iv p1, iv y0, iv y1, iv y2, .unset, .unset, .unset, .unset, .unset, .unset] []) (fun _ z_ => XS.icmpNo X0.here hx rfl (hb hby at_80) rfl (tlt (by decide : ((3 : Int32) < (5 : Int32)))).2.2.2 z_) ?_
   refine own_g (own_F T0 m 84 #[iv i0, iv i1, iv i2, iv i3, iv 5, iv p1, iv y0, iv y1, iv y2, .unset, .unset, .unset, .unset, .unset, .unset] [(.int i0)]) (fun _ z_ => XS.iloadN X0.here hx rfl (hb hby at_83) rfl z_) ?_
   refine own_g (own_F T0 m 86 #[iv i0, iv i1, iv i2, iv i3, iv 5, iv p1, iv y0, iv y1, iv y2, .unset, .unset, .unset, .unset, .unset, .unset] [(.int 24), (.int i0)]) (fun _ z_ => XS.bipush X0.here hx rfl (hb hby at_84) z_) ?_
   refine own_g (own_F T0 m 87 #[iv i0, iv i1, iv i2, iv i3, iv 5, iv p1, iv y0, iv y1, iv y2, .unset, .unset, .unset, .unset, .unset, .unset] [(.int ((i0.toUInt32 >>> ((24 : Int32) &&& 31).toUInt32).toInt32))]) (fun _ z_ => XS.iushr X0.here hx rfl (hb hby at_86) rfl z_) ?_
   refine own_g (own_F T0 m 90 #[iv i0, iv i1, iv i2, iv i3, iv 5, iv p1, iv y0, iv y1, iv y2, .unset, .unset, .unset, .unset, .unset, .unset] [(.int 255), (.int ((i0.toUInt32 >>> ((24 : Int32) &&& 31).toUInt32).toInt32))]) (fun _ z_ => XS.sipush X0.here hx rfl (hb hby at_87) z_) ?_
   refine own_g (own_F T0 m 91 #[iv i0, iv i1, iv i2, iv i3, iv 5, iv p1, iv y0, iv y1, iv y2, .unset, .unset, .unset, .unset, .unset, .unset] [(.int (((i0.toUInt32 >>> ((24 : Int32) &&& 31).toUInt32).toInt32) &&& (255 : Int32)))]) (fun _ z_ => XS.iand X0.here hx rfl (hb hby at_90) rfl z_) ?_
   refine own_g (own_F T0 m 95 #[iv i0, iv i1, iv i2, iv i3, iv 5, iv p1, iv y0, iv y1, iv y2, .unset, .unset, .unset, .unset, .unset, .unset] [(.int (((i0.toUInt32 >>> ((24 : Int32) &&& 31).toUInt32).toInt32) &&& (255 : Int32)))]) (fun _ z_ => XS.goto X0.here hx rfl (pc0 := 91) (pc' := 95) rfl (hb hby at_91) (by decide) (by decide) z_) ?_
   have hb3 := own_m255 ((i0.toUInt32 >>> ((24 : Int32) &&& 31).toUInt32).toInt32)
   generalize (((i0.toUInt32 >>> ((24 : Int32) &&& 31).toUInt32).toInt32) &&& (255 : Int32)) = y3 at hb3 ⊢
   refine own_g (own_F T0 m 97 #[iv i0, iv i1, iv i2, iv i3, iv 5, iv p1, iv y0, iv y1, iv y2, iv y3, .unset, .unset, .unset, .unset, .unset] []) (fun _ z_ => XS.istore X0.here hx rfl (hb hby at_95) rfl (l' := #[iv i0, iv i1, iv i2, iv i3, iv 5, iv p1, iv y0, iv y1, iv y2, iv y3, .unset, .unset, .unset, .unset, .unset]) rfl z_) ?_
   refine own_g (own_F T0 m 99 #[iv i0, iv i1, iv i2, iv i3, iv 5, iv p1, iv y0, iv y1, iv y2, iv y3, .unset, .unset, .unset, .unset, .unset] [(.int 5)]) (fun _ z_ => XS.iload X0.here hx rfl (hb hby at_97) rfl z_) ?_
   refine own_g (own_F T0 m 100 #[iv i0, iv i1, iv i2, iv i3, iv 5, iv p1, iv y0, iv y1, iv y2, iv y3, .unset, .unset, .unset, .unset, .unset] [(.int 4), (.int 5)]) (fun _ z_ => XS.iconst X0.here hx rfl (hb hby at_99) z_) ?_
   refine own_g (own_F T0 m 103 #[iv i0, iv i1, iv i2, iv i3, iv 5, iv p1, iv y0, iv y1, iv y2, iv y3, .unset, .unset, .unset, .unset, .unset] []) (fun _ z_ => XS.icmpNo X0.here hx rfl (hb hby at_100) rfl (tlt (by decide : ((4 : Int32) < (5 : Int32)))).2.2.2 z_) ?_
   refine own_g (own_F T0 m 104 #[iv i0, iv i1, iv i2, iv i3, iv 5, iv p1, iv y0, iv y1, iv y2, iv y3, .unset, .unset, .unset, .unset, .unset] [(.int i1)]) (fun _ z_ => XS.iloadN X0.here hx rfl (hb hby at_103) rfl z_) ?_
   refine own_g (own_F T0 m 107 #[iv i0, iv i1, iv i2, iv i3, iv 5, iv p1, iv y0, iv y1, iv y2, iv y3, .unset, .unset, .unset, .unset, .unset] [(.int 255), (.int i1)]) (fun _ z_ => XS.sipush X0.here hx rfl (hb hby at_104) z_) ?_
   refine own_g (own_F T0 m 108 #[iv i0, iv i1, iv i2, iv i3, iv 5, iv p1, iv y0, iv y1, iv y2, iv y3, .unset, .unset, .unset, .unset, .unset] [(.int (i1 &&& (255 : Int32)))]) (fun _ z_ => XS.iand X0.here hx rfl (hb hby at_107) rfl z_) ?_
   refine own_g (own_F T0 m 112 #[iv i0, iv i1, iv i2, iv i3, iv 5, iv p1, iv y0, iv y1, iv y2, iv y3, .unset, .unset, .unset, .unset, .unset] [(.int (i1 &&& (255 : Int32)))]) (fun _ z_ => XS.goto X0.here hx rfl (pc0 := 108) (pc' := 112) rfl (hb hby at_108) (by decide) (by decide) z_) ?_
   have hb4 := own_m255 i1
   generalize (i1 &&& (255 : Int32)) = y4 at hb4 ⊢
   refine own_g (own_F T0 m 114 #[iv i0, iv i1, iv i2, iv i3, iv 5, iv p1, iv y0, iv y1, iv y2, iv y3, iv y4, .unset, .unset, .unset, .unset] []) (fun _ z_ => XS.istore X0.here hx rfl (hb hby at_112) rfl (l' := #[iv i0, iv i1, iv i2, iv i3, iv 5, iv p1, iv y0, iv y1, iv y2, iv y3, iv y4, .unset, .unset, .unset, .unset]) rfl z_) ?_
   refine own_g (own_F T0 m 116 #[iv i0, iv i1, iv i2, iv i3, iv 5, iv p1, iv y0, iv y1, iv y2, iv y3, iv y4, .unset, .unset, .unset, .unset] [(.int 5)]) (fun _ z_ => XS.iload X0.here hx rfl (hb hby at_114) rfl z_) ?_
   refine own_g (own_F T0 m 117 #[iv i0, iv i1, iv i2, iv i3, iv 5, iv p1, iv y0, iv y1, iv y2, iv y3, iv y4, .unset, .unset, .unset, .unset] [(.int 4), (.int 5)]) (fun _ z_ => XS.iconst X0.here hx rfl (hb hby at_116) z_) ?_
   refine own_g (own_F T0 m 118 #[iv i0, iv i1, iv i2, iv i3, iv 5, iv p1, iv y0, iv y1, iv y2, iv y3, iv y4, .unset, .unset, .unset, .unset] [(.int 20)]) (fun _ z_ => XS.imul X0.here hx rfl (hb hby at_117) rfl z_) ?_
   refine own_g (own_F T0 m 119 #[iv i0, iv i1, iv i2, iv i3, iv 5, iv p1, iv y0, iv y1, iv y2, iv y3, iv y4, .unset, .unset, .unset, .unset] [(.int 2), (.int 20)]) (fun _ z_ => XS.iconst X0.here hx rfl (hb hby at_118) z_) ?_
   refine own_g (own_F T0 m 120 #[iv i0, iv i1, iv i2, iv i3, iv 5, iv p1, iv y0, iv y1, iv y2, iv y3, iv y4, .unset, .unset, .unset, .unset] [(.int 22)]) (fun _ z_ => XS.iadd X0.here hx rfl (hb hby at_119) rfl z_) ?_
   refine own_g (own_F T0 m 121 #[iv i0, iv i1, iv i2, iv i3, iv 5, iv p1, iv y0, iv y1, iv y2, iv y3, iv y4, .unset, .unset, .unset, .unset] [(.int 3), (.int 22)]) (fun _ z_ => XS.iconst X0.here hx rfl (hb hby at_120) z_) ?_
   refine own_g (own_F T0 m 122 #[iv i0, iv i1, iv i2, iv i3, iv 5, iv p1, iv y0, iv y1, iv y2, iv y3, iv y4, .unset, .unset, .unset, .unset] [(.int 7)]) (fun _ z_ => XS.idiv X0.here hx rfl (hb hby at_121) rfl (by decide) z_) ?_
   refine own_g (own_F T0 m 124 #[iv i0, iv i1, iv i2, iv i3, iv 5, iv p1, iv y0, iv y1, iv y2, iv y3, iv y4, iv 7, .unset, .unset, .unset] []) (fun _ z_ => XS.istore X0.here hx rfl (hb hby at_122) rfl (l' := #[iv i0, iv i1, iv i2, iv i3, iv 5, iv p1, iv y0, iv y1, iv y2, iv y3, iv y4, iv 7, .unset, .unset, .unset]) rfl z_) ?_
   exact J124 _ _ p1 y0 y1 y2 y3 y4 P hp hP hb0 hb1 hb2 hb3 hb4 (Or.inr (Or.inr (Or.inr (Or.inr (Or.inr (⟨rfl, rfl, hb0, hb1, hb2, hb3, hb4⟩))))))
set_option maxRecDepth 65536 in
set_option maxHeartbeats 40000000 in
theorem comes_1 {Post : Tables → Env → Array Value → State → Outcome → State → Prop} (hpost : ∀ tb e args s v u, (limb_1_1.after args s (.returned v) u = true ∧ limb_1_2.after args s (.returned v) u = true ∧ True) → FrameEnd s (.returned v) u (Jvm.fieldLocs frame_1_writes args s ++ Jvm.arrayLocs frame_1_arrays args s ++ Jvm.staticLocs frame_1_statics s) 24 192 → Post tb e args s (.returned v) u) :
    ArmFor flags0 classFile x code maxLocals ret World_1 tables_1 room_1 Calls_1 rest_1 Pre_1 Post := by
  intro l hfl _ _ p e ha hc hk s m args below hf hA hF happ hP
  obtain ⟨hcalls, hrest, hpre⟩ := hP
  obtain ⟨-, -, -, hnamed, -, -, -, hat⟩ := (Spec.applies_iff hf).mp happ
  obtain ⟨hg, hn⟩ := and_e (Cond.before_iff.mp (show (Jvm.Cond.and given_1 narrow_1).before args s = true from hpre))
  obtain ⟨hcount, hgg⟩ := and_e hg
  obtain ⟨hk0, hgg0⟩ := and_e hgg
  obtain ⟨hk1, hgg1⟩ := and_e hgg0
  obtain ⟨hk2, hk3⟩ := and_e hgg1
  obtain ⟨w0, w1, w2, w3, rfl⟩ : ∃ w0 w1 w2 w3 : Value, args = #[w0, w1, w2, w3] := by
    have hs : args.size = 4 := by simpa [Cond.value, given_1] using hcount
    obtain ⟨L⟩ := args
    match L, hs with
    | [w0, w1, w2, w3], _ => exact ⟨w0, w1, w2, w3, rfl⟩
  have hw := fun d (hd : d ∈ tables_1) => atoms_spec (ws := Jvm.Cond.code x code maxLocals ret :: tables_1) hat d (List.mem_cons_of_mem _ hd)
  have hfit : Fit s := fun {y c} hc i hi => by
    obtain ⟨ha, rfl⟩ := Array.getElem?_eq_some_iff.mp hc
    have q := List.all_eq_true.mp ((Array.all_eq_true_iff_forall_mem.mp hF) _ (Array.getElem_mem ha)) i (List.mem_range.mpr hi)
    simpa [Array.getElem?_eq_getElem hi] using q
  obtain ⟨i0, ei0⟩ := is_v hk0
  obtain rfl : w0 = (.int i0) := Option.some.inj ei0
  obtain ⟨i1, ei1⟩ := is_v hk1
  obtain rfl : w1 = (.int i1) := Option.some.inj ei1
  obtain ⟨i2, ei2⟩ := is_v hk2
  obtain rfl : w2 = (.int i2) := Option.some.inj ei2
  obtain ⟨i3, ei3⟩ := is_v hk3
  obtain rfl : w3 = (.int i3) := Option.some.inj ei3
  obtain ⟨hsets, -⟩ := atoms_of jdkStatics_1 (by rw [← rest_1_c_eq]; exact hrest)
  obtain ⟨zc, evc⟩ := is_v (Cond.before_iff.mp (hsets _ (List.mem_of_getElem? (i := 1) rfl)))
  have S_cs : Sta s s.heap "java/lang/String" "COMPACT_STRINGS" "Z" (.int zc) := Sta.start evc (Or.inl (hsets _ (List.mem_of_getElem? (i := 0) rfl)))
  have hzc : ¬ zc = (0 : Int32) := fun q => by
    have h1 := not_v (Cond.before_iff.mp (hsets _ (List.mem_of_getElem? (i := 2) rfl)))
    rw [eq_i evc (Term.int_eval 0) (by rw [q])] at h1
    cases h1
  obtain ⟨sv, evs, hsv⟩ := isR_v (Cond.before_iff.mp (hsets _ (List.mem_of_getElem? (i := 8) rfl)))
  have S_sf : Sta s s.heap "jdk/internal/util/Preconditions" "SIOOBE_FORMATTER" "Ljava/util/function/BiFunction;" sv := Sta.start evs (Or.inl (hsets _ (List.mem_of_getElem? (i := 7) rfl)))
  have S_ad := Sta.start (own_eqi (Cond.before_iff.mp (hsets _ (List.mem_of_getElem? (i := 12) rfl)))) (Or.inl (hsets _ (List.mem_of_getElem? (i := 11) rfl)))
  have S_hi := Sta.start (own_eqi (Cond.before_iff.mp (hsets _ (List.mem_of_getElem? (i := 15) rfl)))) (Or.inl (hsets _ (List.mem_of_getElem? (i := 14) rfl)))
  have S_lo := Sta.start (own_eqi (Cond.before_iff.mp (hsets _ (List.mem_of_getElem? (i := 18) rfl)))) (Or.inl (hsets _ (List.mem_of_getElem? (i := 17) rfl)))
  obtain ⟨n, o, h1, h2, h3, _, L, rfl, ⟨rfl, N⟩, hq⟩ := own_law l s _ hw tables_1 i0 i1 i2 i3 zc sv hsv s.heap s.heap.size (Nat.le_refl _) hzc S_cs S_sf S_ad S_hi S_lo p e ha hc hk s m _ below hf ((Spec.applies_iff_loose hf).mp happ).1 ⟨rfl, State.Warmed39.refl s, rfl⟩ trivial
  refine ⟨n, _, h1, h2, h3, hpost _ _ _ _ _ _ ⟨Cond.after_iff.mpr rfl, Cond.after_iff.mpr (eq_i res_at (Term.int_eval (1)) rfl), trivial⟩ ⟨hq.1, hq.2.1, (hq.2.2.sift fun y hy => Or.inr (N y hy)).mono (by decide) (by decide)⟩⟩
theorem main_1_1 : Claimed_1_1 := comes_1 fun _ _ _ _ _ _ h hF => ⟨h.1, hF⟩
theorem main_1_2 : Claimed_1_2 := comes_1 fun _ _ _ _ _ _ h hF => ⟨h.2.1, hF⟩
end Jvm.Pilot.@@N@@
namespace Jvm.Pilot.@@N@@
open Jvm Jvm.ClassFile Sem Op Lib Jvm.Free Jvm.Stand Jvm.Pilot.@@N@@.Jvm.D
/-! MADE BY PROGRAM (witnessworld.py) out of the Statement's table words and the real class files: 20 classes; the members and pool entries that the words name. The judged class is class 1, her method 3. -/
namespace start1
open Jvm.ClassFile
def u (s : String) : CpInfo := .utf8 (stringToUtf16 s)
/-- a pool by its gaps: so many unusable entries, then the entry; so many at the end -/
def gap : Nat → List CpInfo → List CpInfo
  | 0, r => r
  | n + 1, r => .unusable :: gap n r
def poolList (es : List (Nat × CpInfo)) (last : Nat) : List CpInfo := es.foldr (fun e r => gap e.1 (e.2 :: r)) (gap last [])
def pool (es : List (Nat × CpInfo)) (last : Nat) : Array CpInfo := ⟨poolList es last⟩
def fileOf (pool : Array CpInfo) (this : Nat) (attrs : Array Attribute := #[]) (ms : Array MethodInfo := #[]) (fl : Nat := 33) (sup : Nat := 0) (ifs : Array Nat := #[]) (fds : Array FieldInfo := #[]) : ClassFile where
  minorVersion := 0
  majorVersion := 65
  constantPool := pool
  accessFlags := fl
  thisClass := this
  superClass := sup
  interfaces := ifs
  fields := fds
  methods := ms
  attributes := attrs
def plain (name : String) (sup : Option ClassId) : Class where
  name := name
  kind := .ordinary
  loader := none
  accessFlags := 33
  super := sup
  interfaces := #[]
  cf := none
  fields := #[]
  methods := #[]
  instanceTypes := #[]
  staticTypes := #[]
  resolved := #[]
  callSites := []
  init := .initialized
  statics := none
  mirror := none

def pool0 : Array CpInfo := pool [(5, u "<init>"), (0, u "()V"), (1, .class_ 10), (1, u "java/lang/Object")] 113

def k0c0 : Code := { maxStack := 0, maxLocals := 1, code := object_method_1_code, exceptionTable := #[], attributes := #[] }
def k0m0 : Method := { name := "<init>", desc := "()V", sig := { parameters := [], returnType := none }, accessFlags := 1, code := some k0c0 }
/-- java/lang/Object -/
def k0 : Class := { plain "java/lang/Object" none with
  accessFlags := 33
  interfaces := #[]
  cf := some (fileOf pool0 8 #[] #[{ accessFlags := 1, nameIndex := 5, descriptorIndex := 6, attributes := #[] }] 33 0 #[] #[])
  fields := #[]
  methods := #[k0m0]
  instanceTypes := #[]
  staticTypes := #[]
  resolved := Array.replicate 124 none
  statics := none }

def pool1 : Array CpInfo := pool [(2, .class_ 4), (1, u "java/lang/Object"), (0, u "<init>"), (0, u "()V"), (0, .methodref 8 9), (0, .class_ 10), (0, .nameAndType 11 12), (0, u "com/example/claimgate/claimgate/jose/Base64UrlDecodePinLaw"), (0, u "sym"), (0, u "(I)C"), (0, .class_ 14), (0, u "java/lang/String"), (0, .methodref 13 16), (0, .nameAndType 5 17), (0, u "([C)V"), (0, .methodref 19 20), (0, .class_ 21), (0, .nameAndType 22 23), (0, u "com/example/claimgate/claimgate/jose/Base64Url"), (0, u "decode"), (0, u "(Ljava/lang/String;II)[B"), (0, .methodref 8 25), (0, .nameAndType 26 27), (0, u "at"), (0, u "([BII)Z"), (3, u "law"), (0, u "(IIII)Z")] 6

def k1m0 : Method := { name := "<init>", desc := "()V", sig := { parameters := [], returnType := none }, accessFlags := 2, code := none }
def k1c1 : Code := { maxStack := 3, maxLocals := 1, code := method_2_code, exceptionTable := #[], attributes := #[] }
def k1m1 : Method := { name := "sym", desc := "(I)C", sig := { parameters := [.int], returnType := some .char }, accessFlags := 10, code := some k1c1 }
def k1c2 : Code := { maxStack := 2, maxLocals := 3, code := method_3_code, exceptionTable := #[], attributes := #[] }
def k1m2 : Method := { name := "at", desc := "([BII)Z", sig := { parameters := [(.array .byte), .int, .int], returnType := some .boolean }, accessFlags := 10, code := some k1c2 }
def k1c3 : Code := { maxStack := 5, maxLocals := 15, code := code, exceptionTable := #[], attributes := #[] }
def k1m3 : Method := { name := "law", desc := "(IIII)Z", sig := { parameters := [.int, .int, .int, .int], returnType := some .boolean }, accessFlags := 9, code := some k1c3 }
/-- com/example/claimgate/claimgate/jose/Base64UrlDecodePinLaw -/
def k1 : Class := { plain "com/example/claimgate/claimgate/jose/Base64UrlDecodePinLaw" (some 0) with
  accessFlags := 49
  interfaces := #[]
  cf := some (fileOf pool1 8 #[] #[{ accessFlags := 2, nameIndex := 5, descriptorIndex := 6, attributes := #[] }, { accessFlags := 10, nameIndex := 11, descriptorIndex := 12, attributes := #[] }, { accessFlags := 10, nameIndex := 26, descriptorIndex := 27, attributes := #[] }, { accessFlags := 9, nameIndex := 31, descriptorIndex := 32, attributes := #[] }] 49 2 #[] #[])
  fields := #[]
  methods := #[k1m0, k1m1, k1m2, k1m3]
  instanceTypes := #[]
  staticTypes := #[]
  resolved := Array.replicate 39 none
  statics := none }

def pool2 : Array CpInfo := pool [(1, .class_ 2), (0, u "java/io/Serializable"), (0, .class_ 4), (0, u "java/lang/Object")] 2

/-- java/io/Serializable -/
def k2 : Class := { plain "java/io/Serializable" (some 0) with
  accessFlags := 1537
  interfaces := #[]
  cf := some (fileOf pool2 1 #[] #[] 1537 3 #[] #[])
  fields := #[]
  methods := #[]
  instanceTypes := #[]
  staticTypes := #[]
  resolved := Array.replicate 7 none
  statics := none }

def pool3 : Array CpInfo := pool [(1, .class_ 2), (0, u "java/lang/Comparable"), (0, .class_ 4), (0, u "java/lang/Object")] 7

/-- java/lang/Comparable -/
def k3 : Class := { plain "java/lang/Comparable" (some 0) with
  accessFlags := 1537
  interfaces := #[]
  cf := some (fileOf pool3 1 #[] #[] 1537 3 #[] #[])
  fields := #[]
  methods := #[]
  instanceTypes := #[]
  staticTypes := #[]
  resolved := Array.replicate 12 none
  statics := none }

def pool4 : Array CpInfo := pool [(2, .class_ 4), (1, u "java/lang/CharSequence"), (42, .class_ 48), (0, u "java/lang/CharSequence$1CodePointIterator"), (10, .class_ 60), (0, u "java/lang/CharSequence$1CharIterator"), (5, .class_ 67), (0, u "java/lang/Object")] 63

/-- java/lang/CharSequence -/
def k4 : Class := { plain "java/lang/CharSequence" (some 0) with
  accessFlags := 1537
  interfaces := #[]
  cf := some (fileOf pool4 2 #[.nestMembers #[47, 59]] #[] 1537 66 #[] #[])
  fields := #[]
  methods := #[]
  instanceTypes := #[]
  staticTypes := #[]
  resolved := Array.replicate 131 none
  statics := none }

def pool5 : Array CpInfo := pool [(1, .class_ 2), (0, u "java/lang/constant/Constable"), (0, .class_ 4), (0, u "java/lang/Object")] 6

/-- java/lang/constant/Constable -/
def k5 : Class := { plain "java/lang/constant/Constable" (some 0) with
  accessFlags := 1537
  interfaces := #[]
  cf := some (fileOf pool5 1 #[] #[] 1537 3 #[] #[])
  fields := #[]
  methods := #[]
  instanceTypes := #[]
  staticTypes := #[]
  resolved := Array.replicate 11 none
  statics := none }

def pool6 : Array CpInfo := pool [(1, .class_ 2), (0, u "java/lang/constant/ConstantDesc"), (0, .class_ 4), (0, u "java/lang/Object")] 32

/-- java/lang/constant/ConstantDesc -/
def k6 : Class := { plain "java/lang/constant/ConstantDesc" (some 0) with
  accessFlags := 1537
  interfaces := #[]
  cf := some (fileOf pool6 1 #[] #[] 1537 3 #[] #[])
  fields := #[]
  methods := #[]
  instanceTypes := #[]
  staticTypes := #[]
  resolved := Array.replicate 37 none
  statics := none }

def pool7 : Array CpInfo := pool [(1, .methodref 2 3), (0, .class_ 4), (0, .nameAndType 5 6), (0, u "java/lang/Object"), (0, u "<init>"), (0, u "()V"), (2, .fieldref 10 11), (0, .class_ 12), (0, .nameAndType 13 14), (0, u "java/lang/String"), (0, u "value"), (0, u "[B"), (0, .fieldref 10 16), (0, .nameAndType 17 18), (0, u "coder"), (0, u "B"), (2, u "hash"), (0, u "I"), (2, u "hashIsZero"), (0, u "Z"), (0, .methodref 10 28), (0, .nameAndType 5 29), (0, u "([CIILjava/lang/Void;)V"), (8, .fieldref 10 39), (0, .nameAndType 40 26), (0, u "COMPACT_STRINGS"), (1, .class_ 44), (1, u "java/lang/StringUTF16"), (0, u "compress"), (1, .methodref 42 48), (0, .nameAndType 49 50), (0, u "coderFromArrayLen"), (0, u "([BI)B"), (56, .class_ 109), (1, u "java/lang/StringLatin1"), (32, u "()Z"), (34, .methodref 42 178), (0, .nameAndType 45 179), (0, u "([CII)[B"), (183, u "([BI)C"), (27, u "(II)V"), (35, u "(I)C"), (64, .methodref 10 493), (0, .nameAndType 494 142), (0, u "isLatin1"), (0, .methodref 107 496), (0, .nameAndType 497 363), (0, u "charAt"), (0, .methodref 42 496), (2, u "checkIndex"), (73, .class_ 576), (0, u "java/lang/CharSequence"), (22, u "CASE_INSENSITIVE_ORDER"), (0, u "Ljava/util/Comparator;"), (409, u "([C)V"), (42, .fieldref 1054 1055), (0, .class_ 1056), (0, .nameAndType 1057 1058), (0, u "jdk/internal/util/Preconditions"), (0, u "SIOOBE_FORMATTER"), (0, u "Ljava/util/function/BiFunction;"), (0, .methodref 1054 1060), (0, .nameAndType 501 1061), (0, u "(IILjava/util/function/BiFunction;)I"), (39, u "serialPersistentFields"), (0, u "[Ljava/io/ObjectStreamField;"), (0, .class_ 1104), (0, u "java/lang/String$CaseInsensitiveComparator"), (1, .class_ 1107), (0, u "java/io/Serializable"), (0, .class_ 1109), (0, u "java/lang/Comparable"), (0, .class_ 1111), (0, u "java/lang/constant/Constable"), (0, .class_ 1113), (0, u "java/lang/constant/ConstantDesc"), (2, u "serialVersionUID"), (0, u "J"), (3, u "REPL"), (0, u "C"), (2, u "LATIN1"), (1, u "UTF16")] 323

def k7m0 : Method := { name := "<init>", desc := "()V", sig := { parameters := [], returnType := none }, accessFlags := 1, code := none }
def k7c1 : Code := { maxStack := 5, maxLocals := 2, code := jdk_42_method_3_code, exceptionTable := #[], attributes := #[] }
def k7m1 : Method := { name := "<init>", desc := "([C)V", sig := { parameters := [(.array .char)], returnType := none }, accessFlags := 1, code := some k7c1 }
def k7c2 : Code := { maxStack := 2, maxLocals := 2, code := jdk_42_method_56_code, exceptionTable := #[], attributes := #[] }
def k7m2 : Method := { name := "charAt", desc := "(I)C", sig := { parameters := [.int], returnType := some .char }, accessFlags := 1, code := some k7c2 }
def k7c3 : Code := { maxStack := 4, maxLocals := 6, code := jdk_42_method_149_code, exceptionTable := #[], attributes := #[] }
def k7m3 : Method := { name := "<init>", desc := "([CIILjava/lang/Void;)V", sig := { parameters := [(.array .char), .int, .int, (.object "java/lang/Void")], returnType := none }, accessFlags := 2, code := some k7c3 }
def k7c4 : Code := { maxStack := 1, maxLocals := 1, code := jdk_42_method_154_code, exceptionTable := #[], attributes := #[] }
def k7m4 : Method := { name := "isLatin1", desc := "()Z", sig := { parameters := [], returnType := some .boolean }, accessFlags := 0, code := some k7c4 }
def k7c5 : Code := { maxStack := 3, maxLocals := 2, code := jdk_42_method_155_code, exceptionTable := #[], attributes := #[] }
def k7m5 : Method := { name := "checkIndex", desc := "(II)V", sig := { parameters := [.int, .int], returnType := none }, accessFlags := 8, code := some k7c5 }
/-- java/lang/String -/
def k7 : Class := { plain "java/lang/String" (some 0) with
  accessFlags := 49
  interfaces := #[2, 3, 4, 5, 6]
  cf := some (fileOf pool7 10 #[.nestMembers #[1103]] #[{ accessFlags := 1, nameIndex := 5, descriptorIndex := 6, attributes := #[] }, { accessFlags := 1, nameIndex := 5, descriptorIndex := 1010, attributes := #[] }, { accessFlags := 1, nameIndex := 497, descriptorIndex := 427, attributes := #[] }, { accessFlags := 2, nameIndex := 5, descriptorIndex := 29, attributes := #[] }, { accessFlags := 0, nameIndex := 494, descriptorIndex := 142, attributes := #[] }, { accessFlags := 8, nameIndex := 501, descriptorIndex := 391, attributes := #[] }] 49 2 #[1106, 1108, 575, 1110, 1112] #[{ accessFlags := 18, nameIndex := 13, descriptorIndex := 14, attributes := #[] }, { accessFlags := 18, nameIndex := 17, descriptorIndex := 18, attributes := #[] }, { accessFlags := 2, nameIndex := 21, descriptorIndex := 22, attributes := #[] }, { accessFlags := 2, nameIndex := 25, descriptorIndex := 26, attributes := #[] }, { accessFlags := 26, nameIndex := 1116, descriptorIndex := 1117, attributes := #[] }, { accessFlags := 24, nameIndex := 40, descriptorIndex := 26, attributes := #[] }, { accessFlags := 26, nameIndex := 1101, descriptorIndex := 1102, attributes := #[] }, { accessFlags := 26, nameIndex := 1121, descriptorIndex := 1122, attributes := #[] }, { accessFlags := 25, nameIndex := 599, descriptorIndex := 600, attributes := #[] }, { accessFlags := 24, nameIndex := 1125, descriptorIndex := 18, attributes := #[] }, { accessFlags := 24, nameIndex := 1127, descriptorIndex := 18, attributes := #[] }])
  fields := #[{ name := "value", type := (.array .byte), accessFlags := 18, slot := 0, constantValue := 0 }, { name := "coder", type := .byte, accessFlags := 18, slot := 1, constantValue := 0 }, { name := "hash", type := .int, accessFlags := 2, slot := 2, constantValue := 0 }, { name := "hashIsZero", type := .boolean, accessFlags := 2, slot := 3, constantValue := 0 }, { name := "serialVersionUID", type := .long, accessFlags := 26, slot := 0, constantValue := 0 }, { name := "COMPACT_STRINGS", type := .boolean, accessFlags := 24, slot := 1, constantValue := 0 }, { name := "serialPersistentFields", type := (.array (.object "java/io/ObjectStreamField")), accessFlags := 26, slot := 2, constantValue := 0 }, { name := "REPL", type := .char, accessFlags := 26, slot := 3, constantValue := 0 }, { name := "CASE_INSENSITIVE_ORDER", type := (.object "java/util/Comparator"), accessFlags := 25, slot := 4, constantValue := 0 }, { name := "LATIN1", type := .byte, accessFlags := 24, slot := 5, constantValue := 0 }, { name := "UTF16", type := .byte, accessFlags := 24, slot := 6, constantValue := 0 }]
  methods := #[k7m0, k7m1, k7m2, k7m3, k7m4, k7m5]
  instanceTypes := #[(.array .byte), .byte, .int, .boolean]
  staticTypes := #[.long, .boolean, (.array (.object "java/io/ObjectStreamField")), .char, (.object "java/util/Comparator"), .byte, .byte]
  resolved := Array.replicate 1451 none
  statics := some 0 }

def pool8 : Array CpInfo := pool [(3, .class_ 4), (0, u "java/lang/String"), (1, .class_ 8), (1, u "java/lang/Object"), (0, u "<init>"), (0, u "()V"), (0, .methodref 12 13), (0, .class_ 14), (0, .nameAndType 15 16), (0, u "java/lang/StringUTF16"), (0, u "newBytesLength"), (0, u "(I)I"), (3, .integer 1073741823), (23, .fieldref 12 45), (0, .nameAndType 46 47), (0, u "$assertionsDisabled"), (0, u "Z"), (0, .methodref 12 49), (0, .nameAndType 50 51), (0, u "length"), (0, u "([B)I"), (7, .fieldref 12 60), (0, .nameAndType 61 62), (0, u "HI_BYTE_SHIFT"), (0, u "I"), (0, .fieldref 12 64), (0, .nameAndType 65 62), (0, u "LO_BYTE_SHIFT"), (1, .methodref 12 68), (0, .nameAndType 69 70), (0, u "checkIndex"), (0, u "(I[B)V"), (0, .methodref 12 72), (0, .nameAndType 73 74), (0, u "getChar"), (0, u "([BI)C"), (32, .methodref 12 108), (0, .nameAndType 109 110), (0, u "newBytesFor"), (0, u "(I)[B"), (0, .methodref 12 112), (0, .nameAndType 113 114), (0, u "putChar"), (0, u "([BII)V"), (0, .methodref 12 116), (0, .nameAndType 117 118), (0, u "compress"), (0, u "([CI[BII)I"), (0, .methodref 12 120), (0, .nameAndType 121 122), (0, u "toBytes"), (0, u "([CII)[B"), (138, u "coderFromArrayLen"), (0, u "([BI)B"), (106, .class_ 371), (1, u "java/lang/StringUTF16$LinesSpliterator"), (20, u "charAt"), (21, .methodref 3 415), (0, .nameAndType 69 416), (0, u "(II)V"), (13, u "MAX_LENGTH"), (196, .class_ 628), (0, u "java/lang/StringUTF16$CodePointsSpliterator"), (0, .class_ 630), (0, u "java/lang/StringUTF16$CharsSpliterator")] 4

def k8m0 : Method := { name := "<init>", desc := "()V", sig := { parameters := [], returnType := none }, accessFlags := 0, code := none }
def k8c1 : Code := { maxStack := 1, maxLocals := 1, code := jdk_52_method_2_code, exceptionTable := #[], attributes := #[] }
def k8m1 : Method := { name := "newBytesFor", desc := "(I)[B", sig := { parameters := [.int], returnType := some (.array .byte) }, accessFlags := 9, code := some k8c1 }
def k8c2 : Code := { maxStack := 4, maxLocals := 1, code := jdk_52_method_3_code, exceptionTable := #[], attributes := #[] }
def k8m2 : Method := { name := "newBytesLength", desc := "(I)I", sig := { parameters := [.int], returnType := some .int }, accessFlags := 9, code := some k8c2 }
def k8c3 : Code := { maxStack := 4, maxLocals := 3, code := jdk_52_method_4_code, exceptionTable := #[], attributes := #[] }
def k8m3 : Method := { name := "putChar", desc := "([BII)V", sig := { parameters := [(.array .byte), .int, .int], returnType := none }, accessFlags := 8, code := some k8c3 }
def k8c4 : Code := { maxStack := 3, maxLocals := 2, code := jdk_52_method_5_code, exceptionTable := #[], attributes := #[] }
def k8m4 : Method := { name := "getChar", desc := "([BI)C", sig := { parameters := [(.array .byte), .int], returnType := some .char }, accessFlags := 8, code := some k8c4 }
def k8c5 : Code := { maxStack := 2, maxLocals := 1, code := jdk_52_method_6_code, exceptionTable := #[], attributes := #[] }
def k8m5 : Method := { name := "length", desc := "([B)I", sig := { parameters := [(.array .byte)], returnType := some .int }, accessFlags := 9, code := some k8c5 }
def k8c6 : Code := { maxStack := 4, maxLocals := 5, code := jdk_52_method_14_code, exceptionTable := #[], attributes := #[] }
def k8m6 : Method := { name := "toBytes", desc := "([CII)[B", sig := { parameters := [(.array .char), .int, .int], returnType := some (.array .byte) }, accessFlags := 9, code := some k8c6 }
def k8c7 : Code := { maxStack := 2, maxLocals := 2, code := jdk_52_method_15_code, exceptionTable := #[], attributes := #[] }
def k8m7 : Method := { name := "coderFromArrayLen", desc := "([BI)B", sig := { parameters := [(.array .byte), .int], returnType := some .byte }, accessFlags := 8, code := some k8c7 }
def k8c8 : Code := { maxStack := 5, maxLocals := 6, code := jdk_52_method_16_code, exceptionTable := #[], attributes := #[] }
def k8m8 : Method := { name := "compress", desc := "([CII)[B", sig := { parameters := [(.array .char), .int, .int], returnType := some (.array .byte) }, accessFlags := 9, code := some k8c8 }
def k8c9 : Code := { maxStack := 3, maxLocals := 7, code := jdk_52_method_21_code, exceptionTable := #[], attributes := #[] }
def k8m9 : Method := { name := "compress", desc := "([CI[BII)I", sig := { parameters := [(.array .char), .int, (.array .byte), .int, .int], returnType := some .int }, accessFlags := 9, code := some k8c9 }
def k8c10 : Code := { maxStack := 2, maxLocals := 2, code := jdk_52_method_83_code, exceptionTable := #[], attributes := #[] }
def k8m10 : Method := { name := "charAt", desc := "([BI)C", sig := { parameters := [(.array .byte), .int], returnType := some .char }, accessFlags := 9, code := some k8c10 }
def k8c11 : Code := { maxStack := 2, maxLocals := 2, code := jdk_52_method_91_code, exceptionTable := #[], attributes := #[] }
def k8m11 : Method := { name := "checkIndex", desc := "(I[B)V", sig := { parameters := [.int, (.array .byte)], returnType := none }, accessFlags := 9, code := some k8c11 }
/-- java/lang/StringUTF16 -/
def k8 : Class := { plain "java/lang/StringUTF16" (some 0) with
  accessFlags := 48
  interfaces := #[]
  cf := some (fileOf pool8 12 #[.nestMembers #[627, 629, 369]] #[{ accessFlags := 0, nameIndex := 9, descriptorIndex := 10, attributes := #[] }, { accessFlags := 9, nameIndex := 109, descriptorIndex := 110, attributes := #[] }, { accessFlags := 9, nameIndex := 15, descriptorIndex := 16, attributes := #[] }, { accessFlags := 8, nameIndex := 113, descriptorIndex := 114, attributes := #[] }, { accessFlags := 8, nameIndex := 73, descriptorIndex := 74, attributes := #[] }, { accessFlags := 9, nameIndex := 50, descriptorIndex := 51, attributes := #[] }, { accessFlags := 9, nameIndex := 121, descriptorIndex := 122, attributes := #[] }, { accessFlags := 8, nameIndex := 261, descriptorIndex := 262, attributes := #[] }, { accessFlags := 9, nameIndex := 117, descriptorIndex := 122, attributes := #[] }, { accessFlags := 9, nameIndex := 117, descriptorIndex := 118, attributes := #[] }, { accessFlags := 9, nameIndex := 392, descriptorIndex := 74, attributes := #[] }, { accessFlags := 9, nameIndex := 69, descriptorIndex := 70, attributes := #[] }] 48 6 #[] #[{ accessFlags := 26, nameIndex := 61, descriptorIndex := 62, attributes := #[] }, { accessFlags := 26, nameIndex := 65, descriptorIndex := 62, attributes := #[] }, { accessFlags := 24, nameIndex := 430, descriptorIndex := 62, attributes := #[] }, { accessFlags := 4120, nameIndex := 46, descriptorIndex := 47, attributes := #[] }])
  fields := #[{ name := "HI_BYTE_SHIFT", type := .int, accessFlags := 26, slot := 0, constantValue := 0 }, { name := "LO_BYTE_SHIFT", type := .int, accessFlags := 26, slot := 1, constantValue := 0 }, { name := "MAX_LENGTH", type := .int, accessFlags := 24, slot := 2, constantValue := 0 }, { name := "$assertionsDisabled", type := .boolean, accessFlags := 4120, slot := 3, constantValue := 0 }]
  methods := #[k8m0, k8m1, k8m2, k8m3, k8m4, k8m5, k8m6, k8m7, k8m8, k8m9, k8m10, k8m11]
  instanceTypes := #[]
  staticTypes := #[.int, .int, .int, .boolean]
  resolved := Array.replicate 635 none
  statics := some 1 }

def pool9 : Array CpInfo := pool [(2, .class_ 4), (1, u "java/lang/Object"), (0, u "<init>"), (0, u "()V"), (1, .class_ 10), (1, u "java/lang/String"), (3, .class_ 16), (1, u "com/example/claimgate/claimgate/jose/Base64Url"), (0, u "decode"), (0, u "(Ljava/lang/String;II)[B"), (7, .methodref 8 27), (0, .nameAndType 28 29), (0, u "charAt"), (0, u "(I)C"), (0, .methodref 14 31), (0, .nameAndType 32 33), (0, u "value"), (0, u "(C)I")] 12

def k9m0 : Method := { name := "<init>", desc := "()V", sig := { parameters := [], returnType := none }, accessFlags := 2, code := none }
def k9c1 : Code := { maxStack := 4, maxLocals := 10, code := prog_23_method_3_code, exceptionTable := #[], attributes := #[] }
def k9m1 : Method := { name := "decode", desc := "(Ljava/lang/String;II)[B", sig := { parameters := [(.object "java/lang/String"), .int, .int], returnType := some (.array .byte) }, accessFlags := 8, code := some k9c1 }
def k9c2 : Code := { maxStack := 2, maxLocals := 1, code := prog_23_method_4_code, exceptionTable := #[], attributes := #[] }
def k9m2 : Method := { name := "value", desc := "(C)I", sig := { parameters := [.char], returnType := some .int }, accessFlags := 10, code := some k9c2 }
/-- com/example/claimgate/claimgate/jose/Base64Url -/
def k9 : Class := { plain "com/example/claimgate/claimgate/jose/Base64Url" (some 0) with
  accessFlags := 48
  interfaces := #[]
  cf := some (fileOf pool9 14 #[] #[{ accessFlags := 2, nameIndex := 5, descriptorIndex := 6, attributes := #[] }, { accessFlags := 8, nameIndex := 17, descriptorIndex := 18, attributes := #[] }, { accessFlags := 10, nameIndex := 32, descriptorIndex := 33, attributes := #[] }] 48 2 #[] #[])
  fields := #[]
  methods := #[k9m0, k9m1, k9m2]
  instanceTypes := #[]
  staticTypes := #[]
  resolved := Array.replicate 46 none
  statics := none }

def pool10 : Array CpInfo := pool [(2, .class_ 4), (1, u "java/lang/Object"), (0, u "<init>"), (0, u "()V"), (17, .class_ 26), (1, u "jdk/internal/util/Preconditions"), (6, u "checkIndex"), (21, .class_ 56), (0, u "jdk/internal/util/Preconditions$4"), (57, .class_ 115), (0, u "jdk/internal/util/Preconditions$1"), (7, u "SIOOBE_FORMATTER"), (0, u "Ljava/util/function/BiFunction;"), (0, .class_ 126), (0, u "jdk/internal/util/Preconditions$2"), (3, u "AIOOBE_FORMATTER"), (0, .class_ 132), (0, u "jdk/internal/util/Preconditions$3"), (3, u "IOOBE_FORMATTER"), (41, u "(IILjava/util/function/BiFunction;)I")] 15

def k10m0 : Method := { name := "<init>", desc := "()V", sig := { parameters := [], returnType := none }, accessFlags := 1, code := none }
def k10c1 : Code := { maxStack := 3, maxLocals := 3, code := jdk_41_method_11_code, exceptionTable := #[], attributes := #[] }
def k10m1 : Method := { name := "checkIndex", desc := "(IILjava/util/function/BiFunction;)I", sig := { parameters := [.int, .int, (.object "java/util/function/BiFunction")], returnType := some .int }, accessFlags := 9, code := some k10c1 }
/-- jdk/internal/util/Preconditions -/
def k10 : Class := { plain "jdk/internal/util/Preconditions" (some 0) with
  accessFlags := 33
  interfaces := #[]
  cf := some (fileOf pool10 24 #[.nestMembers #[55, 131, 125, 114]] #[{ accessFlags := 1, nameIndex := 5, descriptorIndex := 6, attributes := #[] }, { accessFlags := 9, nameIndex := 33, descriptorIndex := 178, attributes := #[] }] 33 2 #[] #[{ accessFlags := 25, nameIndex := 123, descriptorIndex := 124, attributes := #[] }, { accessFlags := 25, nameIndex := 130, descriptorIndex := 124, attributes := #[] }, { accessFlags := 25, nameIndex := 136, descriptorIndex := 124, attributes := #[] }])
  fields := #[{ name := "SIOOBE_FORMATTER", type := (.object "java/util/function/BiFunction"), accessFlags := 25, slot := 0, constantValue := 0 }, { name := "AIOOBE_FORMATTER", type := (.object "java/util/function/BiFunction"), accessFlags := 25, slot := 1, constantValue := 0 }, { name := "IOOBE_FORMATTER", type := (.object "java/util/function/BiFunction"), accessFlags := 25, slot := 2, constantValue := 0 }]
  methods := #[k10m0, k10m1]
  instanceTypes := #[]
  staticTypes := #[(.object "java/util/function/BiFunction"), (.object "java/util/function/BiFunction"), (.object "java/util/function/BiFunction")]
  resolved := Array.replicate 194 none
  statics := some 2 }

def pool11 : Array CpInfo := pool [(1, .class_ 2), (0, u "java/lang/String"), (1, .class_ 6), (1, u "java/lang/Object"), (0, u "<init>"), (0, u "()V"), (0, .methodref 1 10), (0, .nameAndType 11 12), (0, u "checkIndex"), (0, u "(II)V"), (1, .class_ 16), (1, u "java/lang/StringLatin1"), (36, u "([BI)C"), (67, u "$assertionsDisabled"), (0, u "Z"), (98, .class_ 223), (1, u "java/lang/StringLatin1$LinesSpliterator"), (28, u "charAt"), (137, .class_ 391), (0, u "java/lang/StringLatin1$CharsSpliterator")] 3

def k11m0 : Method := { name := "<init>", desc := "()V", sig := { parameters := [], returnType := none }, accessFlags := 0, code := none }
def k11c1 : Code := { maxStack := 2, maxLocals := 2, code := jdk_43_method_2_code, exceptionTable := #[], attributes := #[] }
def k11m1 : Method := { name := "charAt", desc := "([BI)C", sig := { parameters := [(.array .byte), .int], returnType := some .char }, accessFlags := 9, code := some k11c1 }
/-- java/lang/StringLatin1 -/
def k11 : Class := { plain "java/lang/StringLatin1" (some 0) with
  accessFlags := 48
  interfaces := #[]
  cf := some (fileOf pool11 14 #[.nestMembers #[390, 221]] #[{ accessFlags := 0, nameIndex := 7, descriptorIndex := 8, attributes := #[] }, { accessFlags := 9, nameIndex := 252, descriptorIndex := 53, attributes := #[] }] 48 4 #[] #[{ accessFlags := 4120, nameIndex := 121, descriptorIndex := 122, attributes := #[] }])
  fields := #[{ name := "$assertionsDisabled", type := .boolean, accessFlags := 4120, slot := 0, constantValue := 0 }]
  methods := #[k11m0, k11m1]
  instanceTypes := #[]
  staticTypes := #[.boolean]
  resolved := Array.replicate 395 none
  statics := none }

def pool12 : Array CpInfo := pool [(9, u "<init>"), (6, .class_ 18), (1, u "java/lang/Object"), (0, u "()V"), (1, .class_ 23), (1, u "jdk/internal/util/ArraysSupport"), (0, u "LOG2_ARRAY_LONG_INDEX_SCALE"), (0, u "I"), (2, u "U"), (0, u "Ljdk/internal/misc/Unsafe;"), (8, u "BIG_ENDIAN"), (0, u "Z"), (8, u "LOG2_BYTE_BIT_SIZE"), (4, u "LOG2_ARRAY_INT_INDEX_SCALE"), (54, u "JLA"), (0, u "Ljdk/internal/access/JavaLangAccess;"), (11, u "LOG2_ARRAY_BOOLEAN_INDEX_SCALE"), (9, u "LOG2_ARRAY_BYTE_INDEX_SCALE"), (5, u "LOG2_ARRAY_CHAR_INDEX_SCALE"), (5, u "LOG2_ARRAY_SHORT_INDEX_SCALE"), (18, u "LOG2_ARRAY_FLOAT_INDEX_SCALE"), (24, u "LOG2_ARRAY_DOUBLE_INDEX_SCALE"), (89, u "T_BOOLEAN"), (2, u "T_CHAR"), (1, u "T_FLOAT"), (1, u "T_DOUBLE"), (1, u "T_BYTE"), (1, u "T_SHORT"), (1, u "T_INT"), (1, u "T_LONG"), (1, u "SOFT_MAX_ARRAY_LENGTH")] 83

def k12m0 : Method := { name := "<init>", desc := "()V", sig := { parameters := [], returnType := none }, accessFlags := 2, code := none }
/-- jdk/internal/util/ArraysSupport -/
def k12 : Class := { plain "jdk/internal/util/ArraysSupport" (some 0) with
  accessFlags := 33
  interfaces := #[]
  cf := some (fileOf pool12 21 #[] #[{ accessFlags := 2, nameIndex := 9, descriptorIndex := 19, attributes := #[] }] 33 16 #[] #[{ accessFlags := 24, nameIndex := 28, descriptorIndex := 29, attributes := #[] }, { accessFlags := 26, nameIndex := 38, descriptorIndex := 39, attributes := #[] }, { accessFlags := 25, nameIndex := 121, descriptorIndex := 25, attributes := #[] }, { accessFlags := 25, nameIndex := 131, descriptorIndex := 25, attributes := #[] }, { accessFlags := 25, nameIndex := 137, descriptorIndex := 25, attributes := #[] }, { accessFlags := 25, nameIndex := 143, descriptorIndex := 25, attributes := #[] }, { accessFlags := 25, nameIndex := 53, descriptorIndex := 25, attributes := #[] }, { accessFlags := 25, nameIndex := 24, descriptorIndex := 25, attributes := #[] }, { accessFlags := 25, nameIndex := 162, descriptorIndex := 25, attributes := #[] }, { accessFlags := 25, nameIndex := 187, descriptorIndex := 25, attributes := #[] }, { accessFlags := 26, nameIndex := 48, descriptorIndex := 25, attributes := #[] }, { accessFlags := 25, nameIndex := 277, descriptorIndex := 25, attributes := #[] }, { accessFlags := 25, nameIndex := 280, descriptorIndex := 25, attributes := #[] }, { accessFlags := 25, nameIndex := 282, descriptorIndex := 25, attributes := #[] }, { accessFlags := 25, nameIndex := 284, descriptorIndex := 25, attributes := #[] }, { accessFlags := 25, nameIndex := 286, descriptorIndex := 25, attributes := #[] }, { accessFlags := 25, nameIndex := 288, descriptorIndex := 25, attributes := #[] }, { accessFlags := 25, nameIndex := 290, descriptorIndex := 25, attributes := #[] }, { accessFlags := 25, nameIndex := 292, descriptorIndex := 25, attributes := #[] }, { accessFlags := 26, nameIndex := 108, descriptorIndex := 109, attributes := #[] }, { accessFlags := 25, nameIndex := 294, descriptorIndex := 25, attributes := #[] }])
  fields := #[{ name := "U", type := (.object "jdk/internal/misc/Unsafe"), accessFlags := 24, slot := 0, constantValue := 0 }, { name := "BIG_ENDIAN", type := .boolean, accessFlags := 26, slot := 1, constantValue := 0 }, { name := "LOG2_ARRAY_BOOLEAN_INDEX_SCALE", type := .int, accessFlags := 25, slot := 2, constantValue := 0 }, { name := "LOG2_ARRAY_BYTE_INDEX_SCALE", type := .int, accessFlags := 25, slot := 3, constantValue := 0 }, { name := "LOG2_ARRAY_CHAR_INDEX_SCALE", type := .int, accessFlags := 25, slot := 4, constantValue := 0 }, { name := "LOG2_ARRAY_SHORT_INDEX_SCALE", type := .int, accessFlags := 25, slot := 5, constantValue := 0 }, { name := "LOG2_ARRAY_INT_INDEX_SCALE", type := .int, accessFlags := 25, slot := 6, constantValue := 0 }, { name := "LOG2_ARRAY_LONG_INDEX_SCALE", type := .int, accessFlags := 25, slot := 7, constantValue := 0 }, { name := "LOG2_ARRAY_FLOAT_INDEX_SCALE", type := .int, accessFlags := 25, slot := 8, constantValue := 0 }, { name := "LOG2_ARRAY_DOUBLE_INDEX_SCALE", type := .int, accessFlags := 25, slot := 9, constantValue := 0 }, { name := "LOG2_BYTE_BIT_SIZE", type := .int, accessFlags := 26, slot := 10, constantValue := 0 }, { name := "T_BOOLEAN", type := .int, accessFlags := 25, slot := 11, constantValue := 0 }, { name := "T_CHAR", type := .int, accessFlags := 25, slot := 12, constantValue := 0 }, { name := "T_FLOAT", type := .int, accessFlags := 25, slot := 13, constantValue := 0 }, { name := "T_DOUBLE", type := .int, accessFlags := 25, slot := 14, constantValue := 0 }, { name := "T_BYTE", type := .int, accessFlags := 25, slot := 15, constantValue := 0 }, { name := "T_SHORT", type := .int, accessFlags := 25, slot := 16, constantValue := 0 }, { name := "T_INT", type := .int, accessFlags := 25, slot := 17, constantValue := 0 }, { name := "T_LONG", type := .int, accessFlags := 25, slot := 18, constantValue := 0 }, { name := "JLA", type := (.object "jdk/internal/access/JavaLangAccess"), accessFlags := 26, slot := 19, constantValue := 0 }, { name := "SOFT_MAX_ARRAY_LENGTH", type := .int, accessFlags := 25, slot := 20, constantValue := 0 }]
  methods := #[k12m0]
  instanceTypes := #[]
  staticTypes := #[(.object "jdk/internal/misc/Unsafe"), .boolean, .int, .int, .int, .int, .int, .int, .int, .int, .int, .int, .int, .int, .int, .int, .int, .int, .int, (.object "jdk/internal/access/JavaLangAccess"), .int]
  resolved := Array.replicate 378 none
  statics := none }

def pool13 : Array CpInfo := pool [(1, u "java/lang/Cloneable"), (0, .class_ 1), (0, u "java/lang/Object"), (0, .class_ 3)] 3

/-- java/lang/Cloneable -/
def k13 : Class := { plain "java/lang/Cloneable" (some 0) with
  accessFlags := 1537
  interfaces := #[]
  cf := some (fileOf pool13 2 #[] #[] 1537 4 #[] #[])
  fields := #[]
  methods := #[]
  instanceTypes := #[]
  staticTypes := #[]
  resolved := Array.replicate 8 none
  statics := none }

/-- the primitive byte -/
def k14 : Class := { plain "byte" none with kind := .primitive 'B', accessFlags := 0x411 }
/-- [B -/
def k15 : Class := { plain "[B" (some 0) with kind := .array 14 .byte, interfaces := #[13, 2], accessFlags := 1041 }

/-- the primitive char -/
def k16 : Class := { plain "char" none with kind := .primitive 'C', accessFlags := 0x411 }
/-- [C -/
def k17 : Class := { plain "[C" (some 0) with kind := .array 16 .char, interfaces := #[13, 2], accessFlags := 1041 }

/-- the primitive int -/
def k18 : Class := { plain "int" none with kind := .primitive 'I', accessFlags := 0x411 }
/-- [I -/
def k19 : Class := { plain "[I" (some 0) with kind := .array 18 .int, interfaces := #[13, 2], accessFlags := 1041 }

def heap : Heap := #[{ cls := 7, slots := #[.long 0, .int 1, .null, .int 0, .null, .int 0, .int 0], vm := .statics 7 },
  { cls := 8, slots := #[.int 0, .int 8, .int 0, .int 1], vm := .statics 8 },
  { cls := 10, slots := #[.null, .null, .null], vm := .statics 10 }]
def classes : Array Class := #[k0, k1, k2, k3, k4, k5, k6, k7, k8, k9, k10, k11, k12, k13, k14, k15, k16, k17, k18, k19]
def interned : List (Array UInt16 × Addr) := []
def slotsUsed : Nat := 14
def theMethod : MethodId := ⟨1, 3⟩
def args0 : Array Value := #[.int 5, .int 7, .int 9, .int 11]
def aboutOver (below : List Frame) : State where
  vm := { classes := classes, interned := interned.toArray }
  heap := heap
  slotsUsed := slotsUsed
  threads := #[{ frames := .invoking theMethod args0 :: below }]
def below0 : List Frame := [.native { method := ⟨0, 0⟩, args := #[] }]
def about1 : State := aboutOver below0
def p0 : Program := .bare "" "" ""
def e0 : Env := launch0.env 0 0 0
theorem w_frames : about1.frames = Frame.invoking theMethod args0 :: below0 := rfl
set_option maxRecDepth 65536 in
theorem w_args : argsFit about1.vm theMethod args0 = true := by decide +kernel
set_option maxRecDepth 65536 in
theorem w_heap : heapFits about1 = true := by decide +kernel
set_option maxRecDepth 65536 in
theorem w_runnable : about1.curStatus? = some .runnable := by decide +kernel
set_option maxRecDepth 65536 in
theorem w_alone : about1.alone = true := by decide +kernel
set_option maxRecDepth 65536 in
theorem w_named : about1.methodNamed? x = some theMethod := by decide +kernel
set_option maxRecDepth 65536 in
theorem w_hears : about1.hears theMethod below0 = true := by decide +kernel
set_option maxRecDepth 65536 in
theorem w_ripe : about1.ripe theMethod args0 below0 = true := by decide +kernel
theorem w_running : about1.status = .running := rfl
set_option maxRecDepth 65536 in
theorem w_room : about1.hasRoom e0.platform room_1 = true :=
  launch0.hasRoom_least _ room_1 (by decide +kernel) (by decide +kernel) (by decide +kernel) (by decide +kernel) (by decide +kernel) (by decide +kernel)
theorem allAtoms_all (ts : List Jvm.Cond) (a : Array Jvm.Value) (st : Jvm.State) : (allAtoms ts).before a st = ts.all (fun c => c.before a st) := by
  induction ts with
  | nil => rfl
  | cons c t ih =>
    show (Jvm.Cond.and c (allAtoms t)).before a st = _
    rw [Jvm.Cond.before_and, ih, List.all_cons]
def words1 : List Jvm.Cond := Jvm.Cond.code x code maxLocals ret :: tables_1
/-- a 'code' word, met by the world's own term for the bytes: nothing is compared byte by byte -/
theorem code_word {y : MethodName} {bytes : ByteArray} {mx : Nat} {rt : Option FieldType} {a : Array Value} {s : State} {m : MethodId} {meth : Method} {c : Code} (h1 : s.methodNamed? y = some m) (h2 : s.vm.method? m = some meth) (h3 : meth.code = some c) (h4 : c.code = bytes)
    (h5 : (c.maxLocals == mx && c.exceptionTable.isEmpty && decide (c.maxStack ≤ mostOperands) && decide (meth.sig.returnType = rt) && !meth.locks && decide (parseMethodDescriptor y.desc = some meth.sig)) = true) : (Jvm.Cond.code y bytes mx rt).before a s = true := by
  simp only [Bool.and_eq_true, beq_iff_eq, Bool.not_eq_true', decide_eq_true_eq] at h5
  obtain ⟨⟨⟨⟨⟨g1, g2⟩, g3⟩, g4⟩, g5⟩, g6⟩ := h5
  simp [Cond.before, Cond.holds, Cond.value, h1, h2, h3, h4, g1, g2, g3, g4, g5, g6]
def isCode : Jvm.Cond → Bool
  | .code _ _ _ _ => true
  | _ => false
theorem all_split {L : List Jvm.Cond} {P : Jvm.Cond → Bool} (h1 : L.all (fun c => isCode c || P c) = true) (h2 : ∀ c ∈ L.filter isCode, P c = true) : L.all P = true := by
  refine List.all_eq_true.mpr fun c hc => ?_
  have h := List.all_eq_true.mp h1 c hc
  rcases Bool.eq_false_or_eq_true (isCode c) with hi | hi
  · exact h2 c (List.mem_filter.mpr ⟨hc, hi⟩)
  · simpa [hi] using h
set_option maxRecDepth 65536 in
theorem w_c0 : (Jvm.Cond.code x code maxLocals ret).before args0 about1 = true := code_word (m := ⟨1, 3⟩) (meth := k1m3) (c := k1c3) (by decide +kernel) rfl rfl rfl (by decide +kernel)
set_option maxRecDepth 65536 in
theorem w_c1 : (Jvm.Cond.code ({ cls := "com/example/claimgate/claimgate/jose/Base64UrlDecodePinLaw", name := "sym", desc := "(I)C" } : Jvm.MethodName) method_2_code (1 : Nat) (Option.some Jvm.ClassFile.FieldType.char)).before args0 about1 = true := code_word (m := ⟨1, 1⟩) (meth := k1m1) (c := k1c1) (by decide +kernel) rfl rfl rfl (by decide +kernel)
set_option maxRecDepth 65536 in
theorem w_c2 : (Jvm.Cond.code ({ cls := "java/lang/String", name := "<init>", desc := "([C)V" } : Jvm.MethodName) jdk_42_method_3_code (2 : Nat) (Option.none : Option Jvm.ClassFile.FieldType)).before args0 about1 = true := code_word (m := ⟨7, 1⟩) (meth := k7m1) (c := k7c1) (by decide +kernel) rfl rfl rfl (by decide +kernel)
set_option maxRecDepth 65536 in
theorem w_c3 : (Jvm.Cond.code ({ cls := "java/lang/String", name := "<init>", desc := "([CIILjava/lang/Void;)V" } : Jvm.MethodName) jdk_42_method_149_code (6 : Nat) (Option.none : Option Jvm.ClassFile.FieldType)).before args0 about1 = true := code_word (m := ⟨7, 3⟩) (meth := k7m3) (c := k7c3) (by decide +kernel) rfl rfl rfl (by decide +kernel)
set_option maxRecDepth 65536 in
theorem w_c4 : (Jvm.Cond.code ({ cls := "java/lang/Object", name := "<init>", desc := "()V" } : Jvm.MethodName) object_method_1_code (1 : Nat) (Option.none : Option Jvm.ClassFile.FieldType)).before args0 about1 = true := code_word (m := ⟨0, 0⟩) (meth := k0m0) (c := k0c0) (by decide +kernel) rfl rfl rfl (by decide +kernel)
set_option maxRecDepth 65536 in
theorem w_c5 : (Jvm.Cond.code ({ cls := "java/lang/StringUTF16", name := "compress", desc := "([CII)[B" } : Jvm.MethodName) jdk_52_method_16_code (6 : Nat) (Option.some (Jvm.ClassFile.FieldType.array Jvm.ClassFile.FieldType.byte))).before args0 about1 = true := code_word (m := ⟨8, 8⟩) (meth := k8m8) (c := k8c8) (by decide +kernel) rfl rfl rfl (by decide +kernel)
set_option maxRecDepth 65536 in
theorem w_c6 : (Jvm.Cond.code ({ cls := "java/lang/StringUTF16", name := "compress", desc := "([CI[BII)I" } : Jvm.MethodName) jdk_52_method_21_code (7 : Nat) (Option.some Jvm.ClassFile.FieldType.int)).before args0 about1 = true := code_word (m := ⟨8, 9⟩) (meth := k8m9) (c := k8c9) (by decide +kernel) rfl rfl rfl (by decide +kernel)
set_option maxRecDepth 65536 in
theorem w_c7 : (Jvm.Cond.code ({ cls := "java/lang/StringUTF16", name := "coderFromArrayLen", desc := "([BI)B" } : Jvm.MethodName) jdk_52_method_15_code (2 : Nat) (Option.some Jvm.ClassFile.FieldType.byte)).before args0 about1 = true := code_word (m := ⟨8, 7⟩) (meth := k8m7) (c := k8c7) (by decide +kernel) rfl rfl rfl (by decide +kernel)
set_option maxRecDepth 65536 in
theorem w_c8 : (Jvm.Cond.code ({ cls := "com/example/claimgate/claimgate/jose/Base64Url", name := "decode", desc := "(Ljava/lang/String;II)[B" } : Jvm.MethodName) prog_23_method_3_code (10 : Nat) (Option.some (Jvm.ClassFile.FieldType.array Jvm.ClassFile.FieldType.byte))).before args0 about1 = true := code_word (m := ⟨9, 1⟩) (meth := k9m1) (c := k9c1) (by decide +kernel) rfl rfl rfl (by decide +kernel)
set_option maxRecDepth 65536 in
theorem w_c9 : (Jvm.Cond.code ({ cls := "com/example/claimgate/claimgate/jose/Base64UrlDecodePinLaw", name := "at", desc := "([BII)Z" } : Jvm.MethodName) method_3_code (3 : Nat) (Option.some Jvm.ClassFile.FieldType.boolean)).before args0 about1 = true := code_word (m := ⟨1, 2⟩) (meth := k1m2) (c := k1c2) (by decide +kernel) rfl rfl rfl (by decide +kernel)
set_option maxRecDepth 65536 in
theorem w_c10 : (Jvm.Cond.code ({ cls := "java/lang/StringUTF16", name := "toBytes", desc := "([CII)[B" } : Jvm.MethodName) jdk_52_method_14_code (5 : Nat) (Option.some (Jvm.ClassFile.FieldType.array Jvm.ClassFile.FieldType.byte))).before args0 about1 = true := code_word (m := ⟨8, 6⟩) (meth := k8m6) (c := k8c6) (by decide +kernel) rfl rfl rfl (by decide +kernel)
set_option maxRecDepth 65536 in
theorem w_c11 : (Jvm.Cond.code ({ cls := "java/lang/StringUTF16", name := "newBytesFor", desc := "(I)[B" } : Jvm.MethodName) jdk_52_method_2_code (1 : Nat) (Option.some (Jvm.ClassFile.FieldType.array Jvm.ClassFile.FieldType.byte))).before args0 about1 = true := code_word (m := ⟨8, 1⟩) (meth := k8m1) (c := k8c1) (by decide +kernel) rfl rfl rfl (by decide +kernel)
set_option maxRecDepth 65536 in
theorem w_c12 : (Jvm.Cond.code ({ cls := "java/lang/StringUTF16", name := "newBytesLength", desc := "(I)I" } : Jvm.MethodName) jdk_52_method_3_code (1 : Nat) (Option.some Jvm.ClassFile.FieldType.int)).before args0 about1 = true := code_word (m := ⟨8, 2⟩) (meth := k8m2) (c := k8c2) (by decide +kernel) rfl rfl rfl (by decide +kernel)
set_option maxRecDepth 65536 in
theorem w_c13 : (Jvm.Cond.code ({ cls := "java/lang/StringUTF16", name := "putChar", desc := "([BII)V" } : Jvm.MethodName) jdk_52_method_4_code (3 : Nat) (Option.none : Option Jvm.ClassFile.FieldType)).before args0 about1 = true := code_word (m := ⟨8, 3⟩) (meth := k8m3) (c := k8c3) (by decide +kernel) rfl rfl rfl (by decide +kernel)
set_option maxRecDepth 65536 in
theorem w_c14 : (Jvm.Cond.code ({ cls := "java/lang/StringUTF16", name := "getChar", desc := "([BI)C" } : Jvm.MethodName) jdk_52_method_5_code (2 : Nat) (Option.some Jvm.ClassFile.FieldType.char)).before args0 about1 = true := code_word (m := ⟨8, 4⟩) (meth := k8m4) (c := k8c4) (by decide +kernel) rfl rfl rfl (by decide +kernel)
set_option maxRecDepth 65536 in
theorem w_c15 : (Jvm.Cond.code ({ cls := "java/lang/String", name := "charAt", desc := "(I)C" } : Jvm.MethodName) jdk_42_method_56_code (2 : Nat) (Option.some Jvm.ClassFile.FieldType.char)).before args0 about1 = true := code_word (m := ⟨7, 2⟩) (meth := k7m2) (c := k7c2) (by decide +kernel) rfl rfl rfl (by decide +kernel)
set_option maxRecDepth 65536 in
theorem w_c16 : (Jvm.Cond.code ({ cls := "java/lang/String", name := "isLatin1", desc := "()Z" } : Jvm.MethodName) jdk_42_method_154_code (1 : Nat) (Option.some Jvm.ClassFile.FieldType.boolean)).before args0 about1 = true := code_word (m := ⟨7, 4⟩) (meth := k7m4) (c := k7c4) (by decide +kernel) rfl rfl rfl (by decide +kernel)
set_option maxRecDepth 65536 in
theorem w_c17 : (Jvm.Cond.code ({ cls := "java/lang/StringUTF16", name := "charAt", desc := "([BI)C" } : Jvm.MethodName) jdk_52_method_83_code (2 : Nat) (Option.some Jvm.ClassFile.FieldType.char)).before args0 about1 = true := code_word (m := ⟨8, 10⟩) (meth := k8m10) (c := k8c10) (by decide +kernel) rfl rfl rfl (by decide +kernel)
set_option maxRecDepth 65536 in
theorem w_c18 : (Jvm.Cond.code ({ cls := "java/lang/StringUTF16", name := "checkIndex", desc := "(I[B)V" } : Jvm.MethodName) jdk_52_method_91_code (2 : Nat) (Option.none : Option Jvm.ClassFile.FieldType)).before args0 about1 = true := code_word (m := ⟨8, 11⟩) (meth := k8m11) (c := k8c11) (by decide +kernel) rfl rfl rfl (by decide +kernel)
set_option maxRecDepth 65536 in
theorem w_c19 : (Jvm.Cond.code ({ cls := "java/lang/StringUTF16", name := "length", desc := "([B)I" } : Jvm.MethodName) jdk_52_method_6_code (1 : Nat) (Option.some Jvm.ClassFile.FieldType.int)).before args0 about1 = true := code_word (m := ⟨8, 5⟩) (meth := k8m5) (c := k8c5) (by decide +kernel) rfl rfl rfl (by decide +kernel)
set_option maxRecDepth 65536 in
theorem w_c20 : (Jvm.Cond.code ({ cls := "java/lang/String", name := "checkIndex", desc := "(II)V" } : Jvm.MethodName) jdk_42_method_155_code (2 : Nat) (Option.none : Option Jvm.ClassFile.FieldType)).before args0 about1 = true := code_word (m := ⟨7, 5⟩) (meth := k7m5) (c := k7c5) (by decide +kernel) rfl rfl rfl (by decide +kernel)
set_option maxRecDepth 65536 in
theorem w_c21 : (Jvm.Cond.code ({ cls := "jdk/internal/util/Preconditions", name := "checkIndex", desc := "(IILjava/util/function/BiFunction;)I" } : Jvm.MethodName) jdk_41_method_11_code (3 : Nat) (Option.some Jvm.ClassFile.FieldType.int)).before args0 about1 = true := code_word (m := ⟨10, 1⟩) (meth := k10m1) (c := k10c1) (by decide +kernel) rfl rfl rfl (by decide +kernel)
set_option maxRecDepth 65536 in
theorem w_c22 : (Jvm.Cond.code ({ cls := "com/example/claimgate/claimgate/jose/Base64Url", name := "value", desc := "(C)I" } : Jvm.MethodName) prog_23_method_4_code (1 : Nat) (Option.some Jvm.ClassFile.FieldType.int)).before args0 about1 = true := code_word (m := ⟨9, 2⟩) (meth := k9m2) (c := k9c2) (by decide +kernel) rfl rfl rfl (by decide +kernel)
set_option maxRecDepth 65536 in
theorem w_c23 : (Jvm.Cond.code ({ cls := "java/lang/StringLatin1", name := "charAt", desc := "([BI)C" } : Jvm.MethodName) jdk_43_method_2_code (2 : Nat) (Option.some Jvm.ClassFile.FieldType.char)).before args0 about1 = true := code_word (m := ⟨11, 1⟩) (meth := k11m1) (c := k11c1) (by decide +kernel) rfl rfl rfl (by decide +kernel)
def codes1 : List Jvm.Cond := [Jvm.Cond.code x code maxLocals ret, Jvm.Cond.code ({ cls := "com/example/claimgate/claimgate/jose/Base64UrlDecodePinLaw", name := "sym", desc := "(I)C" } : Jvm.MethodName) method_2_code (1 : Nat) (Option.some Jvm.ClassFile.FieldType.char), Jvm.Cond.code ({ cls := "java/lang/String", name := "<init>", desc := "([C)V" } : Jvm.MethodName) jdk_42_method_3_code (2 : Nat) (Option.none : Option Jvm.ClassFile.FieldType), Jvm.Cond.code ({ cls := "java/lang/String", name := "<init>", desc := "([CIILjava/lang/Void;)V" } : Jvm.MethodName) jdk_42_method_149_code (6 : Nat) (Option.none : Option Jvm.ClassFile.FieldType), Jvm.Cond.code ({ cls := "java/lang/Object", name := "<init>", desc := "()V" } : Jvm.MethodName) object_method_1_code (1 : Nat) (Option.none : Option Jvm.ClassFile.FieldType), Jvm.Cond.code ({ cls := "java/lang/StringUTF16", name := "compress", desc := "([CII)[B" } : Jvm.MethodName) jdk_52_method_16_code (6 : Nat) (Option.some (Jvm.ClassFile.FieldType.array Jvm.ClassFile.FieldType.byte)), Jvm.Cond.code ({ cls := "java/lang/StringUTF16", name := "compress", desc := "([CI[BII)I" } : Jvm.MethodName) jdk_52_method_21_code (7 : Nat) (Option.some Jvm.ClassFile.FieldType.int), Jvm.Cond.code ({ cls := "java/lang/StringUTF16", name := "coderFromArrayLen", desc := "([BI)B" } : Jvm.MethodName) jdk_52_method_15_code (2 : Nat) (Option.some Jvm.ClassFile.FieldType.byte), Jvm.Cond.code ({ cls := "com/example/claimgate/claimgate/jose/Base64Url", name := "decode", desc := "(Ljava/lang/String;II)[B" } : Jvm.MethodName) prog_23_method_3_code (10 : Nat) (Option.some (Jvm.ClassFile.FieldType.array Jvm.ClassFile.FieldType.byte)), Jvm.Cond.code ({ cls := "com/example/claimgate/claimgate/jose/Base64UrlDecodePinLaw", name := "at", desc := "([BII)Z" } : Jvm.MethodName) method_3_code (3 : Nat) (Option.some Jvm.ClassFile.FieldType.boolean), Jvm.Cond.code ({ cls := "java/lang/StringUTF16", name := "toBytes", desc := "([CII)[B" } : Jvm.MethodName) jdk_52_method_14_code (5 : Nat) (Option.some (Jvm.ClassFile.FieldType.array Jvm.ClassFile.FieldType.byte)), Jvm.Cond.code ({ cls := "java/lang/StringUTF16", name := "newBytesFor", desc := "(I)[B" } : Jvm.MethodName) jdk_52_method_2_code (1 : Nat) (Option.some (Jvm.ClassFile.FieldType.array Jvm.ClassFile.FieldType.byte)), Jvm.Cond.code ({ cls := "java/lang/StringUTF16", name := "newBytesLength", desc := "(I)I" } : Jvm.MethodName) jdk_52_method_3_code (1 : Nat) (Option.some Jvm.ClassFile.FieldType.int), Jvm.Cond.code ({ cls := "java/lang/StringUTF16", name := "putChar", desc := "([BII)V" } : Jvm.MethodName) jdk_52_method_4_code (3 : Nat) (Option.none : Option Jvm.ClassFile.FieldType), Jvm.Cond.code ({ cls := "java/lang/StringUTF16", name := "getChar", desc := "([BI)C" } : Jvm.MethodName) jdk_52_method_5_code (2 : Nat) (Option.some Jvm.ClassFile.FieldType.char), Jvm.Cond.code ({ cls := "java/lang/String", name := "charAt", desc := "(I)C" } : Jvm.MethodName) jdk_42_method_56_code (2 : Nat) (Option.some Jvm.ClassFile.FieldType.char), Jvm.Cond.code ({ cls := "java/lang/String", name := "isLatin1", desc := "()Z" } : Jvm.MethodName) jdk_42_method_154_code (1 : Nat) (Option.some Jvm.ClassFile.FieldType.boolean), Jvm.Cond.code ({ cls := "java/lang/StringUTF16", name := "charAt", desc := "([BI)C" } : Jvm.MethodName) jdk_52_method_83_code (2 : Nat) (Option.some Jvm.ClassFile.FieldType.char), Jvm.Cond.code ({ cls := "java/lang/StringUTF16", name := "checkIndex", desc := "(I[B)V" } : Jvm.MethodName) jdk_52_method_91_code (2 : Nat) (Option.none : Option Jvm.ClassFile.FieldType), Jvm.Cond.code ({ cls := "java/lang/StringUTF16", name := "length", desc := "([B)I" } : Jvm.MethodName) jdk_52_method_6_code (1 : Nat) (Option.some Jvm.ClassFile.FieldType.int), Jvm.Cond.code ({ cls := "java/lang/String", name := "checkIndex", desc := "(II)V" } : Jvm.MethodName) jdk_42_method_155_code (2 : Nat) (Option.none : Option Jvm.ClassFile.FieldType), Jvm.Cond.code ({ cls := "jdk/internal/util/Preconditions", name := "checkIndex", desc := "(IILjava/util/function/BiFunction;)I" } : Jvm.MethodName) jdk_41_method_11_code (3 : Nat) (Option.some Jvm.ClassFile.FieldType.int), Jvm.Cond.code ({ cls := "com/example/claimgate/claimgate/jose/Base64Url", name := "value", desc := "(C)I" } : Jvm.MethodName) prog_23_method_4_code (1 : Nat) (Option.some Jvm.ClassFile.FieldType.int), Jvm.Cond.code ({ cls := "java/lang/StringLatin1", name := "charAt", desc := "([BI)C" } : Jvm.MethodName) jdk_43_method_2_code (2 : Nat) (Option.some Jvm.ClassFile.FieldType.char)]
set_option maxRecDepth 65536 in
theorem codes_eq : words1.filter isCode = codes1 := rfl
theorem w_codes : ∀ c ∈ words1.filter isCode, c.before args0 about1 = true := by
  rw [codes_eq]
  intro c hc
  simp only [codes1, List.mem_cons, List.not_mem_nil, or_false] at hc
  rcases hc with rfl | rfl | rfl | rfl | rfl | rfl | rfl | rfl | rfl | rfl | rfl | rfl | rfl | rfl | rfl | rfl | rfl | rfl | rfl | rfl | rfl | rfl | rfl | rfl
  · exact w_c0
  · exact w_c1
  · exact w_c2
  · exact w_c3
  · exact w_c4
  · exact w_c5
  · exact w_c6
  · exact w_c7
  · exact w_c8
  · exact w_c9
  · exact w_c10
  · exact w_c11
  · exact w_c12
  · exact w_c13
  · exact w_c14
  · exact w_c15
  · exact w_c16
  · exact w_c17
  · exact w_c18
  · exact w_c19
  · exact w_c20
  · exact w_c21
  · exact w_c22
  · exact w_c23
set_option maxRecDepth 65536 in
theorem w_t1 : (words1.take 24).all (fun c => isCode c || c.before args0 about1) = true := by decide +kernel
set_option maxRecDepth 65536 in
theorem w_t2 : ((words1.drop 24).take 24).all (fun c => isCode c || c.before args0 about1) = true := by decide +kernel
set_option maxRecDepth 65536 in
theorem w_t3 : (((words1.drop 24).drop 24).take 24).all (fun c => isCode c || c.before args0 about1) = true := by decide +kernel
set_option maxRecDepth 65536 in
theorem w_t4 : (((words1.drop 24).drop 24).drop 24).all (fun c => isCode c || c.before args0 about1) = true := by decide +kernel
theorem w_tables : (allAtoms (Jvm.Cond.code x code maxLocals ret :: tables_1)).before args0 about1 = true := by
  rw [allAtoms_all]
  show words1.all (fun c => c.before args0 about1) = true
  refine all_split ?_ w_codes
  rw [← List.take_append_drop 24 words1, List.all_append, w_t1, ← List.take_append_drop 24 (words1.drop 24), List.all_append, w_t2, ← List.take_append_drop 24 ((words1.drop 24).drop 24), List.all_append, w_t3, w_t4]
  rfl
set_option maxRecDepth 65536 in
theorem w_rest : rest_1_c.before args0 about1 = true := by decide +kernel
set_option maxRecDepth 65536 in
theorem w_case : (Jvm.Cond.and given_1 narrow_1).before args0 about1 = true := by decide +kernel
theorem w_applies : (headSpec (Jvm.Cond.code x code maxLocals ret :: tables_1) room_1).applies x e0.platform about1 = true :=
  (Spec.applies_iff w_frames).mpr ⟨w_running, w_runnable, w_alone, w_named, w_hears, w_ripe, w_room, w_tables⟩
theorem atStart : AtStart classFile x code maxLocals ret World_1 tables_1 room_1 Calls_1 rest_1 Pre_1 launch0 p0 e0 about1 theMethod args0 below0 :=
  ⟨lists_1, trivial, launch0.admits_env _ _ _, launch0.least_env, fairChoices_fair.cas, fairChoices_fair.clock, w_frames, w_args, w_heap, w_applies, trivial, w_rest, w_case⟩
end start1
theorem witness_1 : WitnessClaimed_1 := ⟨start1.p0, start1.e0, start1.about1, start1.theMethod, start1.args0, start1.below0, start1.atStart⟩
end Jvm.Pilot.@@N@@
