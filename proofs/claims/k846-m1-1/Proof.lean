import JvmDerived
import JvmDerived.Pilot.@@N@@Statement
import JvmDerived.Pilot.@@N@@Code
set_option linter.unusedVariables false
set_option linter.unusedSimpArgs false
namespace Jvm.Pilot.@@N@@
open Jvm Jvm.ClassFile Sem Op Lib Jvm.Free Jvm.Stand Jvm.LawKit Jvm.RoadKit Bundle Jvm.Pilot.@@N@@.Jvm.D
section Own
variable {p : Program} {l : Launch} {e : Env} {R : Room} {s : State} {m : MethodId} {args : Array Value} {below : List Frame} {meth : Method} {c : Code} {T : State} {locs : List Loc} {cells slots : Nat} {Z : State} {a0 : Array Value} {h : Heap} {Q : Option Value → Heap → List Loc → Prop} {kc kn : Nat}
/-- from S the method comes to its end, and what it leaves answers to Q -/
def own_Ends (p : Program) (e : Env) (below : List Frame) (s : State) (Q : Option Value → Heap → List Loc → Prop) (kc kn : Nat) (S : State) : Prop :=
  ∃ s₂ o, Steps p.tables e below S s₂ ∧ s₂.status = .running ∧ Ended s₂ below o ∧ ∃ v L, o = .returned v ∧ Q v s₂.heap L ∧ FrameEnd s o s₂ L kc kn
theorem own_pre {S S' : State} (st : ∀ t, Steps p.tables e below S' t → Steps p.tables e below S t) (k : own_Ends p e below s Q kc kn S') : own_Ends p e below s Q kc kn S := by
  obtain ⟨s₂, o, h1, r⟩ := k
  exact ⟨s₂, o, st _ h1, r⟩
theorem own_ret (X : Stand p l e R s m args below meth c T locs cells slots) (hx : p.tables.exec = Jvm.exec) (hlk : meth.locks = false) {pc : Nat} {Ls : Array Slot} {w : Value} {t : FieldType} {i : Instr} {rest : List Value} (hret : meth.sig.returnType = some t) (hn : narrow t w = w)
    (hi : (i = .ireturn ∧ (t = .int ∨ t = .boolean ∨ t = .byte ∨ t = .char ∨ t = .short) ∧ ∃ z, w = .int z) ∨ (i = .lreturn ∧ t = .long ∧ ∃ z, w = .long z) ∨ (i = .dreturn ∧ t = .double ∧ ∃ z, w = .double z) ∨ (i = .freturn ∧ t = .float ∧ ∃ z, w = .float z) ∨ (i = .areturn ∧ t.isReference = true ∧ w.isRef = true))
    (hd : decode c.code pc = .ok (i, 1)) (h1 : cells ≤ kc) (h2 : slots ≤ kn) (hQ : Q (some w) T.heap locs) : own_Ends p e below s Q kc kn (T.setTop (mkF m pc Ls (w :: rest))) := by
  obtain ⟨fs, hr, hrun, hended, hW, hsame⟩ := X.leave (v := some w) (fun h => by rw [hret] at h; cases h) hlk
  exact ⟨_, _, retOut X hx hret hn hi hd hr, hrun, hended, _, _, rfl, hQ, ⟨_, rfl⟩, hW, hsame.mono h1 h2⟩
theorem own_retV (X : Stand p l e R s m args below meth c T locs cells slots) (hx : p.tables.exec = Jvm.exec) (hlk : meth.locks = false) {pc : Nat} {Ls : Array Slot} (hret : meth.sig.returnType = none)
    (hd : decode c.code pc = .ok (.return_, 1)) (h1 : cells ≤ kc) (h2 : slots ≤ kn) (hQ : Q none T.heap locs) : own_Ends p e below s Q kc kn (T.setTop (mkF m pc Ls [])) := by
  obtain ⟨fs, hr, hrun, hended, hW, hsame⟩ := X.leave (v := none) (fun _ => rfl) hlk
  exact ⟨_, _, X.returnOut hx hret hd hr, hrun, hended, _, _, rfl, hQ, ⟨_, rfl⟩, hW, hsame.mono h1 h2⟩
/-- a contract: called with these arguments over this heap it returns, and Q says what it left -/
abbrev own_Met (l : Launch) (Z : State) (y : MethodName) (bytes : ByteArray) (maxL : Nat) (ret : Option FieldType) (ws : List Jvm.Cond) (rm : Room) (as' : Array Value) (h0 : Heap) (Q : Option Value → Heap → List Loc → Prop) : Prop :=
  MetFree l y (head1 (Jvm.Cond.code y bytes maxL ret :: ws) rm) (fun a U => a = as' ∧ Z.Warmed39 U.vm ∧ U.heap = h0) (fun _ _ _ _ _ => True) (fun _ U o U' => ∃ v L, o = .returned v ∧ Q v U'.heap L ∧ FrameEnd U o U' L rm.cells rm.slots)
theorem own_body {y : MethodName} {bytes : ByteArray} {maxL : Nat} {ret : Option FieldType} {ws : List Jvm.Cond} {rm : Room} {as' : Array Value} {h0 : Heap} (pn : plainFor y = true) (F : MethodId → JFrame) (hF : ∀ m, entryFrame m as' maxL = F m)
    (body : ∀ (p : Program) (e : Env) (s : State) (m : MethodId) (below : List Frame) (meth : Method) (c : Code) (T : State), p.tables.exec = Jvm.exec → c.code = bytes → c.maxLocals = maxL → meth.locks = false → meth.sig.returnType = ret → Z.Warmed39 s.vm → s.vm.findClass y.cls = some m.cls → meth.name = y.name →
      Stand p l e rm s m as' below meth c T [] 0 0 → T.heap = h0 → own_Ends p e below s Q rm.cells rm.slots (T.setTop (F m))) : own_Met l Z y bytes maxL ret ws rm as' h0 Q := by
  refine MetFree.of_bodySF pn hisR ?_
  intro p e s m args below meth c s₁ Bd hml0 hP hK
  obtain ⟨rfl, hZ, hh⟩ := hP
  have := body p e s m below meth c s₁ Bd.exec Bd.bytes hml0 (BodyLoose.notSynchronized Bd) Bd.returns hZ (findClass_of_methodNamed Bd.named) (name_of_methodNamed Bd.named Bd.method).1 (Stand.of_body Bd) (by rw [← hh, Bd.state]; rfl)
  rw [← hF m] at this
  exact this
theorem own_callS (X : Stand p l e R s m args below meth c T locs cells slots) (hx : p.tables.exec = Jvm.exec) (hZ : Z.Warmed39 s.vm) {own : String} {index : Nat} {y : MethodName} {bytes : ByteArray} {maxL : Nat} {ret : Option FieldType} {rm : Room} {Qc : Option Value → Heap → List Loc → Prop}
    (hown : s.vm.findClass own = some m.cls) (w1 : (Cond.methodLink own index y).before a0 Z = true) (w2 : (Cond.static y).before a0 Z = true) (w3 : (Cond.initialized y.cls).before a0 Z = true) (w4 : (Cond.code y bytes maxL ret).before a0 Z = true)
    (hy : y.cls ≠ "java/lang/invoke/MethodHandle" ∧ y.cls ≠ "java/lang/invoke/VarHandle") (eT : T.heap = h) {argsL rest st0 : List Value} (hM : own_Met l Z y bytes maxL ret [] rm argsL.toArray h Qc) {W pc : Nat} {Ls : Array Slot}
    (hsz : Ls.size = c.maxLocals) (hlen : ∀ sig, parseMethodDescriptor y.desc = some sig → argsL.length = sig.parameters.length) (hst : st0 = argsL.reverse ++ rest) (hW : (rest.map fun v => v.category).sum ≤ W) (hd : decode c.code pc = .ok (.invokestatic index, 3))
    (hf : rm.frames + 1 ≤ R.frames) (hl : W + (maxL + 11) + rm.locals ≤ R.locals) (hc : cells + rm.cells ≤ R.cells) (hs : slots + rm.slots ≤ R.slots)
    (k : ∀ v T' L, Stand p l e R s m args below meth c T' (locs ++ L) (cells + rm.cells) (slots + rm.slots) → Qc v T'.heap L → own_Ends p e below s Q kc kn (T'.setTop (mkF m (pc + 3) Ls (v.toList ++ rest)))) :
    own_Ends p e below s Q kc kn (T.setTop (mkF m pc Ls st0)) := by
  obtain ⟨v, _, ⟨T', L', k', n'⟩, -, X', ⟨Lc, hQ, l1, y1, z1⟩, st⟩ := Jvm.LawKit.callS X hx (y := y) hown (mvT hZ w1) (mvT hZ w2) (mvT hZ w3) (mvT hZ w4) hy (backOf (W := W) hM hZ w4 w3 hf hl) (g := mkF m pc Ls st0) rfl hsz (argsL := argsL) (rest := rest) hlen hst (by show 2 * 0 + _ ≤ _; simpa using hW) hd (fun _ _ => ⟨rfl, eT, hc, hs⟩)
  dsimp only [Pt.U, Pt.locs, Pt.cells, Pt.slots] at X' l1 y1 z1 st hQ
  subst l1 y1 z1
  exact own_pre st (k v T' Lc X' hQ)
theorem own_callI (X : Stand p l e R s m args below meth c T locs cells slots) (hx : p.tables.exec = Jvm.exec) (hZ : Z.Warmed39 s.vm) {own : String} {index : Nat} {y : MethodName} {bytes : ByteArray} {maxL : Nat} {rm : Room} {Qc : Option Value → Heap → List Loc → Prop} {b : Addr}
    (hown : s.vm.findClass own = some m.cls) (hy1 : y.name = "<init>") (w1 : (Cond.methodLink own index y).before a0 Z = true) (w2 : (Cond.instanceMethod y).before a0 Z = true) (w4 : (Cond.code y bytes maxL none).before a0 Z = true) (w3 : (Cond.initialized y.cls).before a0 Z = true)
    (hy : y.cls ≠ "java/lang/invoke/MethodHandle" ∧ y.cls ≠ "java/lang/invoke/VarHandle") (eT : T.heap = h) {argsL rest st0 : List Value} (hM : own_Met l Z y bytes maxL none [] rm (.ref b :: argsL).toArray h Qc) {W pc : Nat} {Ls : Array Slot}
    (hsz : Ls.size = c.maxLocals) (hlen : ∀ sig, parseMethodDescriptor y.desc = some sig → argsL.length = sig.parameters.length) (hst : st0 = argsL.reverse ++ .ref b :: rest) (hW : (rest.map fun v => v.category).sum ≤ W) (hd : decode c.code pc = .ok (.invokespecial index, 3))
    (hf : rm.frames + 1 ≤ R.frames) (hl : W + (maxL + 11) + rm.locals ≤ R.locals) (hc : cells + rm.cells ≤ R.cells) (hs : slots + rm.slots ≤ R.slots)
    (k : ∀ v T' L, Stand p l e R s m args below meth c T' (locs ++ L) (cells + rm.cells) (slots + rm.slots) → Qc v T'.heap L → own_Ends p e below s Q kc kn (T'.setTop (mkF m (pc + 3) Ls (v.toList ++ rest)))) :
    own_Ends p e below s Q kc kn (T.setTop (mkF m pc Ls st0)) := by
  obtain ⟨v, _, ⟨T', L', k', n'⟩, -, X', ⟨Lc, hQ, l1, y1, z1⟩, st⟩ := X.specialBack hx (y := y) hy1 hown (mvT hZ w1) (mvT hZ w2) (mvT hZ w4) hy (backOf (W := W) hM hZ w4 w3 hf hl) (g := mkF m pc Ls st0) rfl hsz (Steps.refl _) (a := b) (argsL := argsL) (rest := rest) hlen hst (by show 2 * 0 + _ ≤ _; simpa using hW) hd (fun _ _ => ⟨rfl, eT, hc, hs⟩)
  dsimp only [Pt.U, Pt.locs, Pt.cells, Pt.slots] at X' l1 y1 z1 st hQ
  subst l1 y1 z1
  exact own_pre (fun t k => st.trans k) (k v T' Lc X' hQ)
theorem own_callV (X : Stand p l e R s m args below meth c T locs cells slots) (hx : p.tables.exec = Jvm.exec) (hZ : Z.Warmed39 s.vm) {own C : String} {index : Nat} {y : MethodName} {bytes : ByteArray} {maxL : Nat} {ret : Option FieldType} {rm : Room} {Qc : Option Value → Heap → List Loc → Prop} {b : Addr}
    (hown : s.vm.findClass own = some m.cls) (w1 : (Cond.methodLink own index y).before a0 Z = true) (w2 : (Cond.declares y).before a0 Z = true) (w3 : (Cond.selects C y y).before a0 Z = true) (w4 : (Cond.instanceMethod y).before a0 Z = true) (w5 : (Cond.code y bytes maxL ret).before a0 Z = true) (w6 : (Cond.initialized y.cls).before a0 Z = true)
    (hy : y.cls ≠ "java/lang/invoke/MethodHandle" ∧ y.cls ≠ "java/lang/invoke/VarHandle") (eT : T.heap = h) (E : Exa Z h b C) {argsL rest st0 : List Value} (hM : own_Met l Z y bytes maxL ret [] rm (.ref b :: argsL).toArray h Qc) {W pc : Nat} {Ls : Array Slot}
    (hsz : Ls.size = c.maxLocals) (hlen : ∀ sig, parseMethodDescriptor y.desc = some sig → argsL.length = sig.parameters.length) (hst : st0 = argsL.reverse ++ .ref b :: rest) (hW : (rest.map fun v => v.category).sum ≤ W) (hd : decode c.code pc = .ok (.invokevirtual index, 3))
    (hf : rm.frames + 1 ≤ R.frames) (hl : W + (maxL + 11) + rm.locals ≤ R.locals) (hc : cells + rm.cells ≤ R.cells) (hs : slots + rm.slots ≤ R.slots)
    (k : ∀ v T' L, Stand p l e R s m args below meth c T' (locs ++ L) (cells + rm.cells) (slots + rm.slots) → Qc v T'.heap L → own_Ends p e below s Q kc kn (T'.setTop (mkF m (pc + 3) Ls (v.toList ++ rest)))) :
    own_Ends p e below s Q kc kn (T.setTop (mkF m pc Ls st0)) := by
  obtain ⟨cq, kq, qa, qb, qc⟩ := isOf hZ eT E
  obtain ⟨v, _, ⟨T', L', k', n'⟩, -, X', ⟨Lc, hQ, l1, y1, z1⟩, st⟩ := X.virtualBack hx (y := y) (z := y) hown (mvT hZ w1) (mvT hZ w2) (notFace_of_selects (args := #[]) (mvT hZ w3)) (mvT hZ w3) (mvT hZ w4) hy (backOf (W := W) hM hZ w5 w6 hf hl) qa qc (g := mkF m pc Ls st0) rfl hsz (Steps.refl _) (argsL := argsL) (rest := rest) hlen hst (by show 2 * 0 + _ ≤ _; simpa using hW) hd (fun _ _ => ⟨rfl, eT, hc, hs⟩)
  dsimp only [Pt.U, Pt.locs, Pt.cells, Pt.slots] at X' l1 y1 z1 st hQ
  subst l1 y1 z1
  exact own_pre (fun t k => st.trans k) (k v T' Lc X' hQ)
theorem own_eqi {t : Term} {k : Int32} {args : Array Value} {s : State} (h : (Jvm.Cond.eq t (Term.int k)).value args s none s [] = some true) : t.eval args s none [] s = some (.int k) := by
  obtain ⟨x, y, h1, h2, -, h3⟩ := cmp_v (Or.inl h)
  have h4 : y = .int k := (Option.some.inj ((Term.int_eval k).symm.trans h2)).symm
  subst h4
  obtain ⟨z, rfl⟩ := h3
  have h5 : (Jvm.Cond.eq t (Term.int k)).value args s none s [] = some (decide (z = k)) := by simp [Cond.value, h1, h2]
  rw [h1, gotT h5 h]
theorem own_fieldOf {t : Term} {C n d : String} {k : Int32} {a : Addr} {args : Array Value} {s : State} (ht : t.eval args s none [] s = some (.ref a)) (h : (Jvm.Cond.eq (Term.field t C n d) (Term.int k)).value args s none s [] = some true) : Fld s s.heap a C n d (.int k) :=
  Fld.start ((fld_at ht).symm.trans (own_eqi h))
theorem own_st1 {Ls Ls' : Array Slot} {k : Nat} {o : Slot} {v : Value} (hold : Ls[k]? = some o) (ho : One o) (hv : v.category = 1) (he : Ls.setIfInBounds k (.val v) = Ls') : storeLocals Ls k v = some Ls' := he ▸ XS.store1 hold ho hv
theorem own_catV {v : Value} (hv : v.isRef = true) : v.category = 1 := by rcases ref_cases hv with rfl | ⟨_, rfl⟩ <;> rfl
theorem own_narV {v : Value} {t : FieldType} (hv : v.isRef = true) (ht : t.isReference = true) : narrow t v = v := by
  rcases ref_cases hv with rfl | ⟨_, rfl⟩ <;> cases t <;> first | rfl | (cases ht; done)
theorem own_narC {x : Int32} (h : 0 ≤ x.toInt ∧ x.toInt ≤ 65535) : nar .char x = x := by
  have q := c_i2c x
  rw [← Int32.toInt_inj]
  show (x.toUInt32.toUInt16.toUInt32.toInt32).toInt = x.toInt
  omega
theorem own_narZ {x : Int32} (h : x = 0 ∨ x = 1) : narrow .boolean (.int x) = .int x := by rcases h with rfl | rfl <;> rfl
def own_plain (h : Heap) (x : Addr) : Prop := ∃ c : Cell, h[x]? = some c ∧ c.vm.isStatics = false
theorem own_plainE {a : Addr} {C : String} (F : Exa Z h a C) : own_plain h a := by obtain ⟨c, k, h1, -, -, h4, -⟩ := F; exact ⟨c, h1, h4⟩
theorem own_sta_keep {h' : Heap} {ws : List Addr} {C n d : String} {v : Value} (F : Sta Z h C n d v) (K : Keep h h' ws) (q : ∀ x ∈ ws, own_plain h x) : Sta Z h' C n d v := by
  obtain ⟨cf, i, k, f, st, cell, h1, h2, h3, h4, h5, h6, h7⟩ := F
  refine ⟨cf, i, k, f, st, cell, h1, h2, h3, h4, K.2.1 _ _ h5 fun y => ?_, h6, h7⟩
  obtain ⟨c, z1, z2⟩ := q _ y
  cases h5.symm.trans z1
  rw [z2] at h6; cases h6
end Own
section OwnArr
variable {p : Program} {l : Launch} {e : Env} {R : Room} {s : State} {m : MethodId} {args : Array Value} {below : List Frame} {meth : Method} {c : Code} {T : State} {locs : List Loc} {cells slots : Nat} {Z : State} {a0 : Array Value} {h h' : Heap} {Q : Option Value → Heap → List Loc → Prop} {kc kn : Nat} {a b : Addr} {ty : FieldType} {n : Nat} {f : Nat → Value}
/-- in h there lies at a an array of n components of the kind ty, the i-th is f i -/
def own_A (Z : State) (h : Heap) (a : Addr) (ty : FieldType) (n : Nat) (f : Nat → Value) : Prop := n < 2 ^ 31 ∧ ∃ cl : Cell, Arr Z h a cl ty ∧ cl.slots.size = n ∧ ∀ i, i < n → cl.slots[i]? = some (f i)
theorem own_A.lt (F : own_A Z h a ty n f) : a < h.size := by obtain ⟨_, c, A, -⟩ := F; exact A.lt
theorem own_A.ext (F : own_A Z h a ty n f) (E : Ext h h') : own_A Z h' a ty n f := by obtain ⟨q, c, A, r⟩ := F; exact ⟨q, c, A.ext E, r⟩
theorem own_A.other {sl : Nat} {v : Value} (F : own_A Z h b ty n f) (W : Wr h h' a sl v) (q : b ≠ a) : own_A Z h' b ty n f := by obtain ⟨r0, c, A, r⟩ := F; exact ⟨r0, c, A.other W q, r⟩
theorem own_A.keep {ws : List Addr} (F : own_A Z h a ty n f) (K : Keep h h' ws) (q : a ∉ ws) : own_A Z h' a ty n f := by obtain ⟨r0, c, A, r⟩ := F; exact ⟨r0, c, ⟨K.2.1 a c A.1 q, A.2⟩, r⟩
theorem own_A.congr {g : Nat → Value} (F : own_A Z h a ty n f) (q : ∀ i, i < n → f i = g i) : own_A Z h a ty n g := by obtain ⟨r0, c, A, r1, r2⟩ := F; exact ⟨r0, c, A, r1, fun i hi => by rw [r2 i hi, q i hi]⟩
theorem own_clamp {j : Int32} {i : Nat} (hj : j.toInt = (i : Int)) : ¬ j < 0 ∧ j.toNatClampNeg = i := by
  refine ⟨fun q => ?_, ?_⟩
  · rw [Int32.lt_iff_toInt_lt, hj, Int32.toInt_zero] at q; omega
  · show j.toInt.toNat = i
    rw [hj]; exact Int.toNat_natCast i
theorem own_in {j : Int32} {i : Nat} {cl : Cell} (hj : j.toInt = (i : Int)) (hi : i < cl.slots.size) : ¬ (j < 0 ∨ cl.slots.size ≤ j.toNatClampNeg) := by
  obtain ⟨q1, q2⟩ := own_clamp hj
  rw [q2]
  intro q
  rcases q with q | q
  · exact q1 q
  · omega
theorem own_alen (X : Stand p l e R s m args below meth c T locs cells slots) (hx : p.tables.exec = Jvm.exec) (hZ : Z.Warmed39 s.vm) (eT : T.heap = h) (A : own_A Z h a ty n f) {pc : Nat} {Ls : Array Slot} {rest : List Value} (hd : decode c.code pc = .ok (.arraylength, 1))
    (k : own_Ends p e below s Q kc kn (T.setTop (mkF m (pc + 1) Ls (.int n.toInt32 :: rest)))) : own_Ends p e below s Q kc kn (T.setTop (mkF m pc Ls (.ref a :: rest))) := by
  obtain ⟨-, cl, Ar, rfl, -⟩ := A
  exact own_pre (X.arraylength hx (by rw [eT]; exact Ar.1) (State.isArrayOf_alike hZ.alike Ar.2.1) (g := mkF m pc Ls (.ref a :: rest)) rfl rfl hd) k
theorem own_iald (X : Stand p l e R s m args below meth c T locs cells slots) (hx : p.tables.exec = Jvm.exec) (hZ : Z.Warmed39 s.vm) (eT : T.heap = h) {g : Nat → Int32} (A : own_A Z h a .int n (fun i => .int (g i))) {pc : Nat} {Ls : Array Slot} {rest : List Value} {j : Int32} (i : Nat) (hj : j.toInt = (i : Int)) (hi : i < n) (hd : decode c.code pc = .ok (.iaload, 1))
    (k : own_Ends p e below s Q kc kn (T.setTop (mkF m (pc + 1) Ls (.int (g i) :: rest)))) : own_Ends p e below s Q kc kn (T.setTop (mkF m pc Ls (.int j :: .ref a :: rest))) := by
  obtain ⟨-, cl, Ar, rfl, hv⟩ := A
  exact own_pre (X.iaload hx (j := j) (v := .int (g i)) (by rw [eT]; exact Ar.1) (State.isArrayOf_alike hZ.alike Ar.2.1) Ar.2.2 (own_in hj hi) (by rw [(own_clamp hj).2]; exact hv i hi) (g := mkF m pc Ls (.int j :: .ref a :: rest)) rfl rfl hd) k
theorem own_cald (X : Stand p l e R s m args below meth c T locs cells slots) (hx : p.tables.exec = Jvm.exec) (hZ : Z.Warmed39 s.vm) (eT : T.heap = h) {g : Nat → Int32} (A : own_A Z h a .char n (fun i => .int (g i))) {pc : Nat} {Ls : Array Slot} {rest : List Value} {j : Int32} (i : Nat) (hj : j.toInt = (i : Int)) (hi : i < n) (hd : decode c.code pc = .ok (.caload, 1))
    (k : own_Ends p e below s Q kc kn (T.setTop (mkF m (pc + 1) Ls (.int (g i) :: rest)))) : own_Ends p e below s Q kc kn (T.setTop (mkF m pc Ls (.int j :: .ref a :: rest))) := by
  obtain ⟨-, cl, Ar, rfl, hv⟩ := A
  exact own_pre (X.caload hx (j := j) (v := .int (g i)) (by rw [eT]; exact Ar.1) (State.isArrayOf_alike hZ.alike Ar.2.1) Ar.2.2 (own_in hj hi) (by rw [(own_clamp hj).2]; exact hv i hi) (g := mkF m pc Ls (.int j :: .ref a :: rest)) rfl rfl hd) k
theorem own_bald (X : Stand p l e R s m args below meth c T locs cells slots) (hx : p.tables.exec = Jvm.exec) (hZ : Z.Warmed39 s.vm) (eT : T.heap = h) {g : Nat → Int32} (A : own_A Z h a .byte n (fun i => .int (g i))) {pc : Nat} {Ls : Array Slot} {rest : List Value} {j : Int32} (i : Nat) (hj : j.toInt = (i : Int)) (hi : i < n) (hd : decode c.code pc = .ok (.baload, 1))
    (k : own_Ends p e below s Q kc kn (T.setTop (mkF m (pc + 1) Ls (.int (g i) :: rest)))) : own_Ends p e below s Q kc kn (T.setTop (mkF m pc Ls (.int j :: .ref a :: rest))) := by
  obtain ⟨-, cl, Ar, rfl, hv⟩ := A
  exact own_pre (X.baloadBytes hx (j := j) (v := .int (g i)) (by rw [eT]; exact Ar.1) (State.isArrayOf_alike hZ.alike Ar.2.1) Ar.2.2 (own_in hj hi) (by rw [(own_clamp hj).2]; exact hv i hi) (g := mkF m pc Ls (.int j :: .ref a :: rest)) rfl rfl hd) k
theorem own_lald (X : Stand p l e R s m args below meth c T locs cells slots) (hx : p.tables.exec = Jvm.exec) (hZ : Z.Warmed39 s.vm) (eT : T.heap = h) {g : Nat → Int64} (A : own_A Z h a .long n (fun i => .long (g i))) {pc : Nat} {Ls : Array Slot} {rest : List Value} {j : Int32} (i : Nat) (hj : j.toInt = (i : Int)) (hi : i < n) (hd : decode c.code pc = .ok (.laload, 1))
    (k : own_Ends p e below s Q kc kn (T.setTop (mkF m (pc + 1) Ls (.long (g i) :: rest)))) : own_Ends p e below s Q kc kn (T.setTop (mkF m pc Ls (.int j :: .ref a :: rest))) := by
  obtain ⟨-, cl, Ar, rfl, hv⟩ := A
  exact own_pre (X.laload hx (j := j) (v := .long (g i)) (by rw [eT]; exact Ar.1) (State.isArrayOf_alike hZ.alike Ar.2.1) Ar.2.2 (own_in hj hi) (by rw [(own_clamp hj).2]; exact hv i hi) (g := mkF m pc Ls (.int j :: .ref a :: rest)) rfl rfl hd) k
theorem own_aald (X : Stand p l e R s m args below meth c T locs cells slots) (hx : p.tables.exec = Jvm.exec) (hZ : Z.Warmed39 s.vm) (eT : T.heap = h) (hty : ty.isReference = true) (A : own_A Z h a ty n f) {pc : Nat} {Ls : Array Slot} {rest : List Value} {j : Int32} (i : Nat) (hj : j.toInt = (i : Int)) (hi : i < n) (hd : decode c.code pc = .ok (.aaload, 1))
    (k : own_Ends p e below s Q kc kn (T.setTop (mkF m (pc + 1) Ls (f i :: rest)))) : own_Ends p e below s Q kc kn (T.setTop (mkF m pc Ls (.int j :: .ref a :: rest))) := by
  obtain ⟨-, cl, Ar, rfl, hv⟩ := A
  exact own_pre (X.aaload hx (j := j) (v := f i) (by rw [eT]; exact Ar.1) (State.isArrayOf_alike hZ.alike Ar.2.1) hty Ar.2.2 (own_in hj hi) (by rw [(own_clamp hj).2]; exact hv i hi) (g := mkF m pc Ls (.int j :: .ref a :: rest)) rfl rfl hd) k
/-- the array behind a store -/
theorem own_A.set {cl : Cell} {i : Nat} {v : Value} (q : n < 2 ^ 31) (Ar : Arr Z h a cl ty) (hn : cl.slots.size = n) (hv : ∀ i, i < n → cl.slots[i]? = some (f i)) (W : Wr h h' a i v) (hi : i < n) : own_A Z h' a ty n (fun k => if k = i then v else f k) := by
  refine ⟨q, _, Ar.same W, by rw [sz_set, hn], fun k hk => ?_⟩
  by_cases e : k = i
  · subst e; simp [Cell.setSlot, hn, hk]
  · have := hv k hk
    simp only [e, if_false]
    rw [← this]
    exact Array.getElem?_setIfInBounds_ne (Ne.symm e)
theorem own_iast (X : Stand p l e R s m args below meth c T locs cells slots) (hx : p.tables.exec = Jvm.exec) (hZ : Z.Warmed39 s.vm) (eT : T.heap = h) {g : Nat → Int32} (A : own_A Z h a .int n (fun i => .int (g i))) {pc : Nat} {Ls : Array Slot} {rest : List Value} {j x : Int32} (i : Nat) (hj : j.toInt = (i : Int)) (hi : i < n) (hd : decode c.code pc = .ok (.iastore, 1))
    (k : ∀ T' h', Stand p l e R s m args below meth c T' (locs ++ [⟨a, i⟩]) cells slots → T'.heap = h' → Wr h h' a i (.int x) → own_A Z h' a .int n (fun k => .int (if k = i then x else g k)) → own_Ends p e below s Q kc kn (T'.setTop (mkF m (pc + 1) Ls rest))) :
    own_Ends p e below s Q kc kn (T.setTop (mkF m pc Ls (.int x :: .int j :: .ref a :: rest))) := by
  obtain ⟨q, cl, Ar, hn, hv⟩ := A
  obtain ⟨T', h', X', e', W, st⟩ := stI X hx hZ eT Ar (j := j) (x := x) (own_in hj (by rw [hn]; exact hi)) (g := mkF m pc Ls (.int x :: .int j :: .ref a :: rest)) rfl rfl hd
  rw [(own_clamp hj).2] at X' W
  exact own_pre st (k T' h' X' e' W ((own_A.set q Ar hn hv W hi).congr fun k _ => by by_cases z : k = i <;> simp [z]))
theorem own_last (X : Stand p l e R s m args below meth c T locs cells slots) (hx : p.tables.exec = Jvm.exec) (hZ : Z.Warmed39 s.vm) (eT : T.heap = h) {g : Nat → Int64} (A : own_A Z h a .long n (fun i => .long (g i))) {pc : Nat} {Ls : Array Slot} {rest : List Value} {j : Int32} {x : Int64} (i : Nat) (hj : j.toInt = (i : Int)) (hi : i < n) (hd : decode c.code pc = .ok (.lastore, 1))
    (k : ∀ T' h', Stand p l e R s m args below meth c T' (locs ++ [⟨a, i⟩]) cells slots → T'.heap = h' → Wr h h' a i (.long x) → own_A Z h' a .long n (fun k => .long (if k = i then x else g k)) → own_Ends p e below s Q kc kn (T'.setTop (mkF m (pc + 1) Ls rest))) :
    own_Ends p e below s Q kc kn (T.setTop (mkF m pc Ls (.long x :: .int j :: .ref a :: rest))) := by
  obtain ⟨q, cl, Ar, hn, hv⟩ := A
  obtain ⟨T', h', X', e', W, st⟩ := stJ X hx hZ eT Ar (j := j) (x := x) (own_in hj (by rw [hn]; exact hi)) (g := mkF m pc Ls (.long x :: .int j :: .ref a :: rest)) rfl rfl hd
  rw [(own_clamp hj).2] at X' W
  exact own_pre st (k T' h' X' e' W ((own_A.set q Ar hn hv W hi).congr fun k _ => by by_cases z : k = i <;> simp [z]))
theorem own_cast (X : Stand p l e R s m args below meth c T locs cells slots) (hx : p.tables.exec = Jvm.exec) (hZ : Z.Warmed39 s.vm) (eT : T.heap = h) {g : Nat → Int32} (A : own_A Z h a .char n (fun i => .int (g i))) {pc : Nat} {Ls : Array Slot} {rest : List Value} {j x : Int32} (i : Nat) (hj : j.toInt = (i : Int)) (hi : i < n) (x' : Int32) (hx' : nar .char x = x') (hd : decode c.code pc = .ok (.castore, 1))
    (k : ∀ T' h', Stand p l e R s m args below meth c T' (locs ++ [⟨a, i⟩]) cells slots → T'.heap = h' → Wr h h' a i (.int x') → own_A Z h' a .char n (fun k => .int (if k = i then x' else g k)) → own_Ends p e below s Q kc kn (T'.setTop (mkF m (pc + 1) Ls rest))) :
    own_Ends p e below s Q kc kn (T.setTop (mkF m pc Ls (.int x :: .int j :: .ref a :: rest))) := by
  subst hx'
  obtain ⟨q, cl, Ar, hn, hv⟩ := A
  obtain ⟨T', h', X', e', W, st⟩ := stC X hx hZ eT Ar (j := j) (x := x) (own_in hj (by rw [hn]; exact hi)) (g := mkF m pc Ls (.int x :: .int j :: .ref a :: rest)) rfl rfl hd
  rw [(own_clamp hj).2] at X' W
  exact own_pre st (k T' h' X' e' W ((own_A.set q Ar hn hv W hi).congr fun k _ => by by_cases z : k = i <;> simp [z]))
theorem own_bast (X : Stand p l e R s m args below meth c T locs cells slots) (hx : p.tables.exec = Jvm.exec) (hZ : Z.Warmed39 s.vm) (eT : T.heap = h) {g : Nat → Int32} (A : own_A Z h a .byte n (fun i => .int (g i))) {pc : Nat} {Ls : Array Slot} {rest : List Value} {j x : Int32} (i : Nat) (hj : j.toInt = (i : Int)) (hi : i < n) (x' : Int32) (hx' : nar .byte x = x') (hd : decode c.code pc = .ok (.bastore, 1))
    (k : ∀ T' h', Stand p l e R s m args below meth c T' (locs ++ [⟨a, i⟩]) cells slots → T'.heap = h' → Wr h h' a i (.int x') → own_A Z h' a .byte n (fun k => .int (if k = i then x' else g k)) → own_Ends p e below s Q kc kn (T'.setTop (mkF m (pc + 1) Ls rest))) :
    own_Ends p e below s Q kc kn (T.setTop (mkF m pc Ls (.int x :: .int j :: .ref a :: rest))) := by
  subst hx'
  obtain ⟨q, cl, Ar, hn, hv⟩ := A
  obtain ⟨T', h', X', e', W, st⟩ := stB X hx hZ eT Ar (j := j) (x := x) (own_in hj (by rw [hn]; exact hi)) (g := mkF m pc Ls (.int x :: .int j :: .ref a :: rest)) rfl rfl hd
  rw [(own_clamp hj).2] at X' W
  exact own_pre st (k T' h' X' e' W ((own_A.set q Ar hn hv W hi).congr fun k _ => by by_cases z : k = i <;> simp [z]))
theorem own_newA (X : Stand p l e R s m args below meth c T locs cells slots) (hx : p.tables.exec = Jvm.exec) (hZ : Z.Warmed39 s.vm) {aty : ArrayType} (ty : FieldType) (hty : newarray.typeOf aty = ty) (w : (Cond.arrayClass ty).before a0 Z = true) (eT : T.heap = h) {pc : Nat} {Ls : Array Slot} {rest : List Value} {j : Int32} (hd : decode c.code pc = .ok (.newarray aty, 2))
    (n : Nat) (hj : j.toInt = (n : Int)) (cap : Nat) (hcap : n ≤ cap) (hb : cap * 8 ≤ 536870912) (hc : cells + 1 ≤ R.cells) (hl : slots + cap ≤ R.slots)
    (k : ∀ T' h' (b : Addr), Stand p l e R s m args below meth c T' locs (cells + 1) (slots + cap) → T'.heap = h' → Ext h h' → b = h.size → own_A Z h' b ty n (fun _ => defaultValue ty) → own_Ends p e below s Q kc kn (T'.setTop (mkF m (pc + 2) Ls (.ref b :: rest)))) :
    own_Ends p e below s Q kc kn (T.setTop (mkF m pc Ls (.int j :: rest))) := by
  subst hty
  obtain ⟨q1, q2⟩ := own_clamp hj
  obtain ⟨T', h', cA, X', e', E, A, st⟩ := newP X hx hZ w eT (g := mkF m pc Ls (.int j :: rest)) rfl hd rfl q1 (cap := cap) (by rw [q2]; exact hcap) hb hc hl
  refine own_pre st (k T' h' _ X' e' E rfl ⟨by omega, _, A, by rw [sz_new, q2], fun i hi => ?_⟩)
  simp [newA, q2, hi]
theorem own_lenS {t : Term} {k : Int32} {args : Array Value} {s : State} {cl : Cell} (ht : t.eval args s none [] s = some (.ref a)) (A : Arr s s.heap a cl ty) (h : (Jvm.Cond.eq (Term.length t) (Term.int k)).value args s none s [] = some true) : cl.slots.size.toInt32 = k ∧ cl.slots.size < 2 ^ 31 := by
  have h1 := own_eqi h
  have h2 : s.arrayAt? a = some cl := Arr.fin (Vm.Alike.refl _) A
  by_cases q : cl.slots.size < 2 ^ 31
  · rw [len_f ht h2 q] at h1
    exact ⟨Value.int.inj (Option.some.inj h1), q⟩
  · simp [Term.eval, ht, h2, q] at h1
theorem own_plainA (F : own_A Z h a ty n f) : own_plain h a := by obtain ⟨_, c, A, -⟩ := F; exact ⟨c, A.1, A.plain⟩
theorem own_sz {k : Int32} (h : n.toInt32 = k) (q : n < 2 ^ 31) : (n : Int) = k.toInt := by rw [← h, len_toInt q]
theorem own_sz0 (h : n.toInt32 = 0) (q : n < 2 ^ 31) : n = 0 := by
  have := own_sz h q
  rw [Int32.toInt_zero] at this; omega
end OwnArr
section OwnCp
variable {p : Program} {l : Launch} {e : Env} {R : Room} {s : State} {m : MethodId} {args : Array Value} {below : List Frame} {meth : Method} {c : Code} {T : State} {locs : List Loc} {cells slots : Nat} {Z : State} {a0 : Array Value} {h h' : Heap} {Q : Option Value → Heap → List Loc → Prop} {kc kn : Nat} {a b : Addr} {ty : FieldType} {n n' : Nat} {f f' : Nat → Value}
theorem own_rgetD (f : Nat → Value) (d : Value) {n i : Nat} (hi : i < n) : ((List.range n).map f).getD i d = f i := by simp [List.getD_eq_getElem?_getD, hi]
theorem own_toArv (F : own_A Z h a ty n f) (hf : ∀ i, fits ty (f i) = true) (d : Value) : ∃ k, Arv Z h a k ty n.toInt32 ((List.range n).map f) d := by
  obtain ⟨q, cl, A, S, V⟩ := F
  have e := own_clamp (len_toInt q)
  refine ⟨cl.cls, cl, A, rfl, by rw [S, e.2], e.1, fun i hi => ?_, fun i hi => ?_⟩
  · rw [S] at hi; rw [own_rgetD f d hi]; exact V i hi
  · rw [S] at hi; rw [own_rgetD f d hi]; exact hf i
theorem own_ofArv {k : ClassId} {z : Int32} {vs : List Value} {d : Value} (F : Arv Z h a k ty z vs d) (hz : z.toNatClampNeg = n) (hn : n < 2 ^ 31) : own_A Z h a ty n (fun i => vs.getD i d) := by
  obtain ⟨c, A, -, S, -, H, -⟩ := F
  exact ⟨hn, c, A, by rw [S, hz], fun i hi => H i (by rw [S, hz]; exact hi)⟩
theorem own_cp (X : Stand p l e R s m args below meth c T locs cells slots) (hx : p.tables.exec = Jvm.exec) (hZ : Z.Warmed39 s.vm) {own : String} {index : Nat} (hown : s.vm.findClass own = some m.cls)
    (w1 : (Cond.methodLink own index Jvm.Stand.acN).before a0 Z = true) (w2 : (Cond.native Jvm.Stand.acN).before a0 Z = true) (w3 : (Cond.static Jvm.Stand.acN).before a0 Z = true) (w4 : (Cond.initialized "java/lang/System").before a0 Z = true) (eT : T.heap = h)
    (A : own_A Z h a ty n f) (B : own_A Z h b ty n' f') (hfA : ∀ i, fits ty (f i) = true) (hfB : ∀ i, fits ty (f' i) = true) (hp : refKind ty = false) {nn : Int32} (k : Nat) (hk : nn.toInt = (k : Int)) (hkn : k ≤ n) (hkn' : k ≤ n') {n0 : Nat} (N : Fr n0 locs) (ge : n0 ≤ b)
    {pc : Nat} {Ls : Array Slot} (hsz : Ls.size = c.maxLocals) {rest : List Value} (hd : decode c.code pc = .ok (.invokestatic index, 3)) (hfr : 1 ≤ R.frames) {W : Nat} (hW : (rest.map fun v => v.category).sum ≤ W) (hlo : W + 18 ≤ R.locals)
    (kk : ∀ T' h' L, Stand p l e R s m args below meth c T' L cells slots → T'.heap = h' → Fr n0 L → Keep h h' [b] → own_A Z h' b ty n' (fun i => if i < k then f i else f' i) → own_Ends p e below s Q kc kn (T'.setTop (mkF m (pc + 3) Ls rest))) :
    own_Ends p e below s Q kc kn (T.setTop (mkF m pc Ls (.int nn :: .int 0 :: .ref b :: .int 0 :: .ref a :: rest))) := by
  obtain ⟨k1, A1⟩ := own_toArv A hfA (.int 0)
  obtain ⟨k2, B1⟩ := own_toArv B hfB (.int 0)
  have e1 := own_clamp (len_toInt A.1)
  have e2 := own_clamp (len_toInt B.1)
  have e3 := own_clamp hk
  have z0 : (0 : Int32).toNatClampNeg = 0 := by decide
  obtain ⟨T', h', L, X', e', N', K, V, st⟩ := cpA X hx hZ hown w1 w2 w3 w4 eT (sp := 0) (dp := 0) (nn := nn) (us := (List.range nn.toNatClampNeg).map fun i => ((List.range n).map f).getD ((0 : Int32).toNatClampNeg + i) (.int 0)) A1 B1 (Or.inl ⟨rfl, hp⟩) (by decide) (by decide) e3.1 (by rw [z0, e1.2, e3.2]; omega) (by rw [z0, e2.2, e3.2]; omega) rfl (by rw [z0, e3.2]; simp; omega) N ge (g := mkF m pc Ls (.int nn :: .int 0 :: .ref b :: .int 0 :: .ref a :: rest)) rfl hsz rfl hd hfr (W := W) (by show 2 * 0 + _ ≤ _; simpa using hW) (by show W + (7 + 11) ≤ _; omega)
  refine own_pre st (kk T' h' L X' e' N' K ((own_ofArv V e2.2 B.1).congr fun i hi => ?_))
  rw [z0, e3.2]
  simp only [List.take_zero, List.nil_append, Nat.zero_add, List.getD_eq_getElem?_getD]
  by_cases q : i < k
  · have q2 : i < n := by omega
    rw [List.getElem?_append_left (by simpa using q)]
    simp [q, q2]
  · rw [List.getElem?_append_right (by simp; omega)]
    have q3 : k + (i - k) = i := by omega
    simp [q, List.getElem?_drop, q3, hi]
theorem own_callP (X : Stand p l e R s m args below meth c T locs cells slots) (hx : p.tables.exec = Jvm.exec) (hZ : Z.Warmed39 s.vm) {own C : String} {index : Nat} {y : MethodName} {bytes : ByteArray} {maxL : Nat} {ret : Option FieldType} {rm : Room} {Qc : Option Value → Heap → List Loc → Prop} {b : Addr}
    (hown : s.vm.findClass own = some m.cls) (w1 : (Cond.methodLink own index y).before a0 Z = true) (w2 : (Cond.instanceMethod y).before a0 Z = true) (w3 : (Cond.selects y.cls y y).before a0 Z = true) (w4 : (Cond.privateMethod y).before a0 Z = true) (w5 : (Cond.code y bytes maxL ret).before a0 Z = true) (w6 : (Cond.initialized y.cls).before a0 Z = true)
    (hy : y.cls ≠ "java/lang/invoke/MethodHandle" ∧ y.cls ≠ "java/lang/invoke/VarHandle") (eT : T.heap = h) (E : Exa Z h b C) {argsL rest st0 : List Value} (hM : own_Met l Z y bytes maxL ret [] rm (.ref b :: argsL).toArray h Qc) {W pc : Nat} {Ls : Array Slot}
    (hsz : Ls.size = c.maxLocals) (hlen : ∀ sig, parseMethodDescriptor y.desc = some sig → argsL.length = sig.parameters.length) (hst : st0 = argsL.reverse ++ .ref b :: rest) (hW : (rest.map fun v => v.category).sum ≤ W) (hd : decode c.code pc = .ok (.invokevirtual index, 3))
    (hf : rm.frames + 1 ≤ R.frames) (hl : W + (maxL + 11) + rm.locals ≤ R.locals) (hc : cells + rm.cells ≤ R.cells) (hs : slots + rm.slots ≤ R.slots)
    (k : ∀ v T' L, Stand p l e R s m args below meth c T' (locs ++ L) (cells + rm.cells) (slots + rm.slots) → Qc v T'.heap L → own_Ends p e below s Q kc kn (T'.setTop (mkF m (pc + 3) Ls (v.toList ++ rest)))) :
    own_Ends p e below s Q kc kn (T.setTop (mkF m pc Ls st0)) := by
  obtain ⟨cq, q1, q2⟩ := E.cell
  obtain ⟨v, _, ⟨T', L', k', n'⟩, -, X', ⟨Lc, hQ, l1, y1, z1⟩, st⟩ := X.privateBack hx (y := y) hown (mvT hZ w1) (mvT hZ w2) (mvT hZ w3) (Cond.privateMethod_at (mvP hZ w4 (args := #[]))) (mvT hZ w5) hy (backOf (W := W) hM hZ w5 w6 hf hl) (g := mkF m pc Ls st0) rfl hsz (Steps.refl _) (a := b) (by rw [eT]; exact q1) q2 (argsL := argsL) (rest := rest) hlen hst (by show 2 * 0 + _ ≤ _; simpa using hW) hd (fun _ _ => ⟨rfl, eT, hc, hs⟩)
  dsimp only [Pt.U, Pt.locs, Pt.cells, Pt.slots] at X' l1 y1 z1 st hQ
  subst l1 y1 z1
  exact own_pre (fun t k => st.trans k) (k v T' Lc X' hQ)
theorem own_selp {y y' : MethodName} (hZ : Z.Warmed39 s.vm) (hc : y'.cls = y.cls) (w : (Cond.selects y'.cls y' y').before a0 Z = true) (wi : (Cond.instanceMethod y).before a0 Z = true) (wp : (Cond.privateMethod y).before a0 Z = true) (hy : y.cls ≠ "java/lang/invoke/MethodHandle" ∧ y.cls ≠ "java/lang/invoke/VarHandle") : (Cond.selects y.cls y y).before args s = true := by
  have w' : (Cond.selects y'.cls y' y').before args s = true := mvT hZ w
  obtain ⟨c2, r2, m2, q1, -, q3, -, kP, hkP, hkPi⟩ := Cond.selects_spec w'
  have q4 := findClass_of_methodNamed q3
  refine selects_self_of_private (c := m2.cls) (k := kP) (by rw [← hc]; exact q4) hkP hkPi (Cond.privateMethod_at (mvP hZ wp (args := #[]))) (mvT hZ wi) hy
theorem own_callQ (X : Stand p l e R s m args below meth c T locs cells slots) (hx : p.tables.exec = Jvm.exec) (hZ : Z.Warmed39 s.vm) {own C : String} {index : Nat} {y y' : MethodName} {bytes : ByteArray} {maxL : Nat} {ret : Option FieldType} {rm : Room} {Qc : Option Value → Heap → List Loc → Prop} {b : Addr}
    (hown : s.vm.findClass own = some m.cls) (w1 : (Cond.methodLink own index y).before a0 Z = true) (w2 : (Cond.instanceMethod y).before a0 Z = true) (w3 : (Cond.selects y'.cls y' y').before a0 Z = true) (w4 : (Cond.privateMethod y).before a0 Z = true) (w5 : (Cond.code y bytes maxL ret).before a0 Z = true) (w6 : (Cond.initialized y.cls).before a0 Z = true)
    (hyy : y'.cls = y.cls) (hy : y.cls ≠ "java/lang/invoke/MethodHandle" ∧ y.cls ≠ "java/lang/invoke/VarHandle") (eT : T.heap = h) (E : Exa Z h b C) {argsL rest st0 : List Value} (hM : own_Met l Z y bytes maxL ret [] rm (.ref b :: argsL).toArray h Qc) {W pc : Nat} {Ls : Array Slot}
    (hsz : Ls.size = c.maxLocals) (hlen : ∀ sig, parseMethodDescriptor y.desc = some sig → argsL.length = sig.parameters.length) (hst : st0 = argsL.reverse ++ .ref b :: rest) (hW : (rest.map fun v => v.category).sum ≤ W) (hd : decode c.code pc = .ok (.invokevirtual index, 3))
    (hf : rm.frames + 1 ≤ R.frames) (hl : W + (maxL + 11) + rm.locals ≤ R.locals) (hc : cells + rm.cells ≤ R.cells) (hs : slots + rm.slots ≤ R.slots)
    (k : ∀ v T' L, Stand p l e R s m args below meth c T' (locs ++ L) (cells + rm.cells) (slots + rm.slots) → Qc v T'.heap L → own_Ends p e below s Q kc kn (T'.setTop (mkF m (pc + 3) Ls (v.toList ++ rest)))) :
    own_Ends p e below s Q kc kn (T.setTop (mkF m pc Ls st0)) := by
  obtain ⟨cq, q1, q2⟩ := E.cell
  obtain ⟨v, _, ⟨T', L', k', n'⟩, -, X', ⟨Lc, hQ, l1, y1, z1⟩, st⟩ := X.privateBack hx (y := y) hown (mvT hZ w1) (mvT hZ w2) (own_selp hZ hyy w3 w2 w4 hy) (Cond.privateMethod_at (mvP hZ w4 (args := #[]))) (mvT hZ w5) hy (backOf (W := W) hM hZ w5 w6 hf hl) (g := mkF m pc Ls st0) rfl hsz (Steps.refl _) (a := b) (by rw [eT]; exact q1) q2 (argsL := argsL) (rest := rest) hlen hst (by show 2 * 0 + _ ≤ _; simpa using hW) hd (fun _ _ => ⟨rfl, eT, hc, hs⟩)
  dsimp only [Pt.U, Pt.locs, Pt.cells, Pt.slots] at X' l1 y1 z1 st hQ
  subst l1 y1 z1
  exact own_pre (fun t k => st.trans k) (k v T' Lc X' hQ)
end OwnCp
def own_few (n0 : Nat) (Z : State) (h : Heap) (a len cap : Nat) (g : Nat → Int32) : Prop := ∃ (aN : Nat) (sz : Int32), n0 ≤ a ∧ n0 ≤ aN ∧ a ≠ aN ∧ sz.toInt = (len : Int) ∧ len ≤ cap ∧ cap ≤ 8 ∧ (cap = 0 ∨ cap = 2 ∨ cap = 4 ∨ cap = 8) ∧ Exa Z h a "com/example/kunci/kunci/NumberSet" ∧ Fld Z h a "com/example/kunci/kunci/NumberSet" "size" "I" (.int sz) ∧ Fld Z h a "com/example/kunci/kunci/NumberSet" "bits" "Ljava/util/BitSet;" .null ∧ Fld Z h a "com/example/kunci/kunci/NumberSet" "numbers" "[I" (.ref aN) ∧ own_A Z h aN .int cap (fun i => .int (g i))
def own_bits (n0 : Nat) (Z : State) (h : Heap) (a b w len : Nat) (wu : Int32) (u : Int64) : Prop := ∃ sz : Int32, n0 ≤ a ∧ n0 ≤ b ∧ n0 ≤ w ∧ a ≠ b ∧ a ≠ w ∧ b ≠ w ∧ sz.toInt = (len : Int) ∧ Exa Z h a "com/example/kunci/kunci/NumberSet" ∧ Fld Z h a "com/example/kunci/kunci/NumberSet" "size" "I" (.int sz) ∧ Fld Z h a "com/example/kunci/kunci/NumberSet" "bits" "Ljava/util/BitSet;" (.ref b) ∧ Exa Z h b "java/util/BitSet" ∧ Fld Z h b "java/util/BitSet" "words" "[J" (.ref w) ∧ Fld Z h b "java/util/BitSet" "wordsInUse" "I" (.int wu) ∧ own_A Z h w .long 1 (fun i => .long u)
def own_mem (len : Nat) (g : Nat → Int32) (v : Int32) : Prop := ∃ i, i < len ∧ g i = v
theorem own_succ {j : Int32} {k n : Nat} (hj : j.toInt = (k : Int)) (hk : k < n) (hn : n < 2 ^ 31) : (j + (1 : Int32)).toInt = ((k + 1 : Nat) : Int) := by
  have h := c_iadd j 1
  have r := rng32 (j + 1)
  simp only [Int32.reduceToInt] at h
  omega
theorem own_jlt {j nn : Int32} {k n : Nat} (hj : j.toInt = (k : Int)) (hn : nn.toInt = (n : Int)) (h : k < n) : j < nn := by rw [Int32.lt_iff_toInt_lt]; omega
theorem own_jge {j nn : Int32} {k n : Nat} (hj : j.toInt = (k : Int)) (hn : nn.toInt = (n : Int)) (h : n ≤ k) : ¬ j < nn := by rw [Int32.lt_iff_toInt_lt]; omega
theorem own_n32 {n : Nat} {nn : Int32} (hn : nn.toInt = (n : Int)) : n.toInt32 = nn := by
  have r := rng32 nn
  rw [← Int32.toInt_inj, len_toInt (by omega), hn]
theorem own_notin {len : Nat} {g : Nat → Int32} {q : Int32} (h : ∀ i, i < len → ¬ g i = q) : ¬ own_mem len g q := fun ⟨i, hi, e⟩ => h i hi e
theorem own_nstep {k : Nat} {g : Nat → Int32} {q : Int32} (h : ∀ i, i < k → ¬ g i = q) (hk : ¬ g k = q) : ∀ i, i < k + 1 → ¬ g i = q := by
  intro i hi
  by_cases e : i = k
  · subst e; exact hk
  · exact h i (by omega)
theorem own_mem_upd {len : Nat} {g g' : Nat → Int32} {x : Int32} (h : ∀ i, i ≤ len → g' i = if i = len then x else g i) (v : Int32) : own_mem (len + 1) g' v ↔ own_mem len g v ∨ x = v := by
  constructor
  · intro ⟨i, hi, e⟩
    rw [h i (by omega)] at e
    by_cases q : i = len
    · right; rw [if_pos q] at e; exact e
    · left; rw [if_neg q] at e; exact ⟨i, by omega, e⟩
  · intro z
    rcases z with ⟨i, hi, e⟩ | e
    · exact ⟨i, by omega, by rw [h i (by omega), if_neg (by omega)]; exact e⟩
    · exact ⟨len, by omega, by rw [h len (Nat.le_refl _), if_pos rfl]; exact e⟩
theorem own_01 {r : Int32} {P Q : Prop} (h : r = 1 ∧ P ∨ r = 0 ∧ Q) : r = 0 ∨ r = 1 := by rcases h with ⟨h, -⟩ | ⟨h, -⟩; exact Or.inr h; exact Or.inl h
theorem own_jn {j nn : Int32} {k n : Nat} (hj : j.toInt = (k : Int)) (hn : nn.toInt = (n : Int)) (h : n < k) : ¬ j = nn := by rw [← Int32.toInt_inj]; omega
theorem own_lt8 {sz : Int32} {len : Nat} (h : sz.toInt = (len : Int)) (h7 : len ≤ 7) : sz < (8 : Int32) := by rw [Int32.lt_iff_toInt_lt]; simp only [Int32.reduceToInt]; omega
theorem own_ge8 {sz : Int32} {len : Nat} (h : sz.toInt = (len : Int)) (h7 : len = 8) : ¬ sz < (8 : Int32) := by rw [Int32.lt_iff_toInt_lt]; simp only [Int32.reduceToInt]; omega
theorem own_eqc {sz : Int32} {len cap : Nat} (h : sz.toInt = (len : Int)) (hc : cap ≤ 8) (e : sz = cap.toInt32) : len = cap := by
  rw [← Int32.toInt_inj, len_toInt (by omega), h] at e; omega
theorem own_nec {sz : Int32} {len cap : Nat} (h : sz.toInt = (len : Int)) (hc : cap ≤ 8) (hl : len ≤ cap) (e : ¬ sz = cap.toInt32) : len < cap := by
  rw [← Int32.toInt_inj, len_toInt (by omega), h] at e; omega
def own_gk (len : Nat) : Nat := if len = 0 then 2 else 2 * len
theorem own_grow {len cap : Nat} (hc : cap = 0 ∨ cap = 2 ∨ cap = 4 ∨ cap = 8) (e : len = cap) (h7 : len ≤ 7) : len < own_gk len ∧ own_gk len ≤ 8 ∧ (own_gk len = 0 ∨ own_gk len = 2 ∨ own_gk len = 4 ∨ own_gk len = 8) := by
  subst e
  rcases hc with rfl | rfl | rfl | rfl
  · decide
  · decide
  · decide
  · omega
theorem own_mm {sz : Int32} {len cap : Nat} (h : sz.toInt = (len : Int)) (hc : cap = 0 ∨ cap = 2 ∨ cap = 4 ∨ cap = 8) (e : len = cap) : ∃ mm : Int32, (if (2 : Int32) < ((2 : Int32) * sz) then ((2 : Int32) * sz) else (2 : Int32)) = mm ∧ mm.toInt = (own_gk len : Int) := by
  have q := c_imul (2 : Int32) sz
  have r := rng32 ((2 : Int32) * sz)
  simp only [Int32.reduceToInt] at q
  refine ⟨_, rfl, ?_⟩
  unfold own_gk
  by_cases z : (2 : Int32) < ((2 : Int32) * sz)
  · rw [if_pos z]; rw [Int32.lt_iff_toInt_lt] at z; simp only [Int32.reduceToInt] at z
    rw [if_neg (by omega)]; omega
  · rw [if_neg z]; rw [Int32.lt_iff_toInt_lt] at z; simp only [Int32.reduceToInt] at z ⊢
    by_cases y : len = 0
    · rw [if_pos y]; rfl
    · rw [if_neg y]; omega
theorem own_s1 {sz : Int32} {len : Nat} (h : sz.toInt = (len : Int)) (h8 : len ≤ 8) : (sz + (1 : Int32)).toInt = ((len + 1 : Nat) : Int) := by
  have q := c_iadd sz 1
  have r := rng32 (sz + 1)
  simp only [Int32.reduceToInt] at q; omega
theorem own_updA {len : Nat} {g g' : Nat → Int32} {x : Int32} (h : g' = fun q => if q = len then x else g q) : ∀ i, i ≤ len → g' i = if i = len then x else g i := fun i _ => by rw [h]
theorem own_updB {len : Nat} {g g' : Nat → Int32} {x : Int32} (h : g' = fun q => if q = len then x else (fun i => if i < len then g i else 0) q) : ∀ i, i ≤ len → g' i = if i = len then x else g i := fun i hi => by
  rw [h]
  by_cases q : i = len
  · simp [q]
  · have : i < len := by omega
    simp [q, this]
theorem own_mem_self {len : Nat} {g : Nat → Int32} {x : Int32} (h : own_mem len g x) (v : Int32) : own_mem len g v ↔ own_mem len g v ∨ x = v := ⟨Or.inl, fun z => z.elim id fun e => e ▸ h⟩
theorem own_nn {x : Int32} (h : 0 ≤ x.toInt) : ¬ x < (0 : Int32) := by rw [Int32.lt_iff_toInt_lt, Int32.toInt_zero]; omega
theorem own_wi0 {x : Int32} (h : 0 ≤ x.toInt ∧ x.toInt ≤ 63) : (x >>> ((6 : Int32) &&& 31)) = 0 := by
  have q := c_ishr x 6 6 (by decide)
  simp only [Nat.reducePow] at q
  rw [← Int32.toInt_inj, q, Int32.toInt_zero]; omega
theorem own_wu {wu : Int32} (h : wu = 0 ∨ wu = 1) (c : ¬ wu < (1 : Int32)) : wu = 1 := by rcases h with rfl | rfl; exact absurd (by decide) c; rfl
theorem own_wz {q : Int32} (hq : 0 ≤ q.toInt) (c : (q >>> ((6 : Int32) &&& 31)) < (1 : Int32)) : (q >>> ((6 : Int32) &&& 31)).toInt = ((0 : Nat) : Int) := by
  have z := c_ishr q 6 6 (by decide)
  simp only [Nat.reducePow] at z
  rw [Int32.lt_iff_toInt_lt] at c; simp only [Int32.reduceToInt] at c; omega
theorem own_w63 {q : Int32} (hq : 0 ≤ q.toInt) (c : (q >>> ((6 : Int32) &&& 31)) < (1 : Int32)) : q.toInt ≤ 63 := by
  have z := c_ishr q 6 6 (by decide)
  simp only [Nat.reducePow] at z
  rw [Int32.lt_iff_toInt_lt] at c; simp only [Int32.reduceToInt] at c; omega
theorem own_w1 {q : Int32} (hq : 0 ≤ q.toInt) (c : q.toInt ≤ 63) : (q >>> ((6 : Int32) &&& 31)) < (1 : Int32) := by
  have z := c_ishr q 6 6 (by decide)
  simp only [Nat.reducePow] at z
  rw [Int32.lt_iff_toInt_lt]; simp only [Int32.reduceToInt]; omega
theorem own_one1 {g g' : Nat → Int64} {x : Int64} {i : Nat} (h : g' = fun q => if q = 0 then x else g q) (hi : i < 1) : Value.long (g' i) = Value.long x := by
  have : i = 0 := by omega
  rw [h, this]; rfl
theorem own_bbv (v : Int32) (h : 0 ≤ v.toInt ∧ v.toInt ≤ 63) : ((1 : Int64) <<< (v &&& 0x3f).toInt64).toBitVec = BitVec.twoPow 64 v.toInt.toNat := by
  have e : v.toBitVec.toNat % 64 = v.toInt.toNat := by
    have q : v.toInt = v.toBitVec.toInt := rfl
    have r := BitVec.toInt_eq_toNat_cond v.toBitVec
    have r2 := v.toBitVec.isLt
    rw [← q] at r
    split at r <;> omega
  obtain ⟨q1, q2⟩ := sm64 v _ e
  show (1 : Int64).toBitVec <<< ((v &&& 0x3f).toInt64.toBitVec.smod 64) = _
  rw [q1]
  show (1 : Int64).toBitVec <<< ((BitVec.ofNat 64 _).smod 64).toNat = _
  rw [smod64 _ q2]
  rfl
theorem own_tp (u : BitVec 64) (k : Nat) (hk : k < 64) : (u &&& BitVec.twoPow 64 k) = 0#64 ↔ u.getLsbD k = false := by
  rw [BitVec.and_twoPow]
  cases hb : u.getLsbD k
  · simp
  · simp only [if_true, Bool.true_eq_false, iff_false]
    intro z
    have := congrArg (fun w => BitVec.getLsbD w k) z
    simp [hk] at this
theorem own_tq (u : BitVec 64) (j k : Nat) (hk : j < 64) : ¬ (u ||| BitVec.twoPow 64 j).getLsbD k = false ↔ (¬ u.getLsbD k = false ∨ j = k) := by
  rw [BitVec.getLsbD_or, BitVec.getLsbD_twoPow]
  by_cases q : j = k
  · subst q; simp [hk]
  · simp [q]
theorem own_and0 (u : Int64) (v : Int32) (h : 0 ≤ v.toInt ∧ v.toInt ≤ 63) : (u &&& ((1 : Int64) <<< (v &&& 0x3f).toInt64)) = 0 ↔ u.toBitVec.getLsbD v.toInt.toNat = false := by
  rw [← Int64.toBitVec_inj, Int64.toBitVec_and, own_bbv v h]
  exact own_tp _ _ (by omega)
theorem own_or0 (u : Int64) (x v : Int32) (hx : 0 ≤ x.toInt ∧ x.toInt ≤ 63) (h : 0 ≤ v.toInt ∧ v.toInt ≤ 63) : ¬ ((u ||| ((1 : Int64) <<< (x &&& 0x3f).toInt64)) &&& ((1 : Int64) <<< (v &&& 0x3f).toInt64)) = 0 ↔ (¬ (u &&& ((1 : Int64) <<< (v &&& 0x3f).toInt64)) = 0 ∨ x = v) := by
  rw [own_and0 _ v h, own_and0 _ v h, Int64.toBitVec_or, own_bbv x hx]
  have e : x = v ↔ x.toInt.toNat = v.toInt.toNat := by rw [← Int32.toInt_inj]; omega
  rw [e]
  exact own_tq _ _ _ (by omega)
def own_bs (Z : State) (h : Heap) (a : Nat) (u : Int64) : Prop := ∃ (b w : Nat), Exa Z h a "com/example/kunci/kunci/NumberSet" ∧ Fld Z h a "com/example/kunci/kunci/NumberSet" "bits" "Ljava/util/BitSet;" (.ref b) ∧ Exa Z h b "java/util/BitSet" ∧ Fld Z h b "java/util/BitSet" "words" "[J" (.ref w) ∧ Fld Z h b "java/util/BitSet" "wordsInUse" "I" (.int (1 : Int32)) ∧ own_A Z h w .long 1 (fun i => .long u)
def own_in6 (v : Int32) : Prop := 0 ≤ v.toInt ∧ v.toInt ≤ 63
theorem own_mem_s {k : Nat} {g : Nat → Int32} (v : Int32) : own_mem (k + 1) g v ↔ own_mem k g v ∨ g k = v := own_mem_upd (g := g) (g' := g) (x := g k) (fun i _ => by by_cases q : i = k; subst q; simp; simp [q]) v
theorem own_b00 {g : Nat → Int32} : ∀ v, own_in6 v → (¬ ((0 : Int64) &&& ((1 : Int64) <<< (v &&& 0x3f).toInt64)) = 0 ↔ own_mem 0 g v) := fun v hv => by
  constructor
  · intro z; exact absurd (by simp) z
  · intro ⟨i, hi, _⟩; omega
theorem own_bstep {u u' : Int64} {k : Nat} {g : Nat → Int32} (hu : u' = (u ||| ((1 : Int64) <<< ((g k) &&& 0x3f).toInt64))) (hx : own_in6 (g k)) (h : ∀ v, own_in6 v → (¬ (u &&& ((1 : Int64) <<< (v &&& 0x3f).toInt64)) = 0 ↔ own_mem k g v)) : ∀ v, own_in6 v → (¬ (u' &&& ((1 : Int64) <<< (v &&& 0x3f).toInt64)) = 0 ↔ own_mem (k + 1) g v) := fun v hv => by
  rw [hu, own_or0 u _ v hx hv, h v hv, own_mem_s]
theorem own_bend {u u' : Int64} {x : Int32} {M : Int32 → Prop} (hu : u' = (u ||| ((1 : Int64) <<< (x &&& 0x3f).toInt64))) (hx : own_in6 x) (h : ∀ v, own_in6 v → (¬ (u &&& ((1 : Int64) <<< (v &&& 0x3f).toInt64)) = 0 ↔ M v)) : ∀ v, own_in6 v → (¬ (u' &&& ((1 : Int64) <<< (v &&& 0x3f).toInt64)) = 0 ↔ M v ∨ x = v) := fun v hv => by
  rw [hu, own_or0 u _ v hx hv, h v hv]
theorem own_sz8 {sz : Int32} (h : sz.toInt = ((8 : Nat) : Int)) : sz = 8 := by rw [← Int32.toInt_inj, h]; rfl
theorem own_few.exa {n0 : Nat} {Z : State} {h : Heap} {a len cap : Nat} {g : Nat → Int32} (F : own_few n0 Z h a len cap g) : Exa Z h a "com/example/kunci/kunci/NumberSet" := by obtain ⟨aN, sz, ga, gN, naN, hsz, hlc, hc8, hcc, Ea, -⟩ := F; exact Ea
theorem own_few.cap8 {n0 : Nat} {Z : State} {h : Heap} {a len cap : Nat} {g : Nat → Int32} (F : own_few n0 Z h a len cap g) (e : len = 8) : cap = 8 := by obtain ⟨aN, sz, ga, gN, naN, hsz, hlc, hc8, hcc, Ea, -⟩ := F; omega
theorem own_bs.exa {Z : State} {h : Heap} {a : Nat} {u : Int64} (F : own_bs Z h a u) : Exa Z h a "com/example/kunci/kunci/NumberSet" := by obtain ⟨b, w, Ea, -⟩ := F; exact Ea
theorem own_pk (z : Int64) : 0 ≤ (z &&& (63 : Int64)).toInt32.toInt ∧ (z &&& (63 : Int64)).toInt32.toInt ≤ 63 := by
  have h : (z &&& (63 : Int64)).toBitVec.toNat ≤ 63 := by
    rw [Int64.toBitVec_and, BitVec.toNat_and]; exact Nat.and_le_right
  have r := BitVec.toInt_eq_toNat_cond (z &&& (63 : Int64)).toBitVec
  have q : (z &&& (63 : Int64)).toInt = (z &&& (63 : Int64)).toBitVec.toInt := rfl
  rw [Int64.toInt_toInt32, q, r, if_pos (by omega)]
  rw [Int.bmod_eq_of_le (by omega) (by omega)]
  omega
theorem own_p63 (x : Int32) : 0 ≤ (x &&& (63 : Int32)).toInt := by
  have h := c_mask x 63 6 (by decide) (by decide)
  simp only [Nat.reducePow] at h; omega
theorem own_p31 (x : Int32) : 0 ≤ (x &&& (2147483647 : Int32)).toInt := by
  have h := c_mask x 2147483647 31 (by decide) (by decide)
  simp only [Nat.reducePow] at h; omega
theorem own_Smono {p : Program} {l : Launch} {e : Env} {R : Room} {s : State} {m : MethodId} {args : Array Value} {below : List Frame} {meth : Method} {c : Code} {T : State} {locs : List Loc} {c1 s1 c2 s2 : Nat} (X : Stand p l e R s m args below meth c T locs c1 s1) (h1 : c1 ≤ c2) (h2 : s1 ≤ s2) : Stand p l e R s m args below meth c T locs c2 s2 := { X with same := X.same.mono h1 h2 }
theorem own_Ry {M M' R e c : Prop} (h : M' ↔ M ∨ e) (hR : M ↔ R) (hc : c) : M' ↔ R ∨ (c ∧ e) := by rw [h, hR]; simp [hc]
theorem own_Rn {M R e c : Prop} (hR : M ↔ R) (hc : ¬ c) : M ↔ R ∨ (c ∧ e) := by rw [hR]; simp [hc]
theorem own_eqb {r t : Int32} {P : Prop} (h : r = 1 ∧ P ∨ r = 0 ∧ ¬ P) (k : t = 1 ∧ P ∨ t = 0 ∧ ¬ P) : r = t := by
  rcases h with ⟨rfl, h⟩ | ⟨rfl, h⟩ <;> rcases k with ⟨rfl, k⟩ | ⟨rfl, k⟩
  · rfl
  · exact absurd h k
  · exact absurd k h
  · rfl
theorem own_iff1 {r : Int32} {P Q : Prop} (e : P ↔ Q) (h : r = 1 ∧ P ∨ r = 0 ∧ ¬ P) : r = 1 ∧ Q ∨ r = 0 ∧ ¬ Q := by rw [← e]; exact h
def own_R0 (n x0 x1 x2 x3 x4 x5 x6 x7 x8 v : Int32) : Prop := False
def own_R1 (n x0 x1 x2 x3 x4 x5 x6 x7 x8 v : Int32) : Prop := own_R0 n x0 x1 x2 x3 x4 x5 x6 x7 x8 v ∨ ((0 : Int32) < n ∧ x0 = v)
def own_R2 (n x0 x1 x2 x3 x4 x5 x6 x7 x8 v : Int32) : Prop := own_R1 n x0 x1 x2 x3 x4 x5 x6 x7 x8 v ∨ ((1 : Int32) < n ∧ x1 = v)
def own_R3 (n x0 x1 x2 x3 x4 x5 x6 x7 x8 v : Int32) : Prop := own_R2 n x0 x1 x2 x3 x4 x5 x6 x7 x8 v ∨ ((2 : Int32) < n ∧ x2 = v)
def own_R4 (n x0 x1 x2 x3 x4 x5 x6 x7 x8 v : Int32) : Prop := own_R3 n x0 x1 x2 x3 x4 x5 x6 x7 x8 v ∨ ((3 : Int32) < n ∧ x3 = v)
def own_R5 (n x0 x1 x2 x3 x4 x5 x6 x7 x8 v : Int32) : Prop := own_R4 n x0 x1 x2 x3 x4 x5 x6 x7 x8 v ∨ ((4 : Int32) < n ∧ x4 = v)
def own_R6 (n x0 x1 x2 x3 x4 x5 x6 x7 x8 v : Int32) : Prop := own_R5 n x0 x1 x2 x3 x4 x5 x6 x7 x8 v ∨ ((5 : Int32) < n ∧ x5 = v)
def own_R7 (n x0 x1 x2 x3 x4 x5 x6 x7 x8 v : Int32) : Prop := own_R6 n x0 x1 x2 x3 x4 x5 x6 x7 x8 v ∨ ((6 : Int32) < n ∧ x6 = v)
def own_R8 (n x0 x1 x2 x3 x4 x5 x6 x7 x8 v : Int32) : Prop := own_R7 n x0 x1 x2 x3 x4 x5 x6 x7 x8 v ∨ ((7 : Int32) < n ∧ x7 = v)
def own_R9 (n x0 x1 x2 x3 x4 x5 x6 x7 x8 v : Int32) : Prop := own_R8 n x0 x1 x2 x3 x4 x5 x6 x7 x8 v ∨ ((8 : Int32) < n ∧ x8 = v)
theorem own_Rin {n x0 x1 x2 x3 x4 x5 x6 x7 x8 v : Int32} (k0 : own_in6 x0) (k1 : own_in6 x1) (k2 : own_in6 x2) (k3 : own_in6 x3) (k4 : own_in6 x4) (k5 : own_in6 x5) (k6 : own_in6 x6) (k7 : own_in6 x7) (k8 : own_in6 x8) (h : own_R9 n x0 x1 x2 x3 x4 x5 x6 x7 x8 v) : own_in6 v := by
  rcases h with ((((((((h | ⟨-, rfl⟩) | ⟨-, rfl⟩) | ⟨-, rfl⟩) | ⟨-, rfl⟩) | ⟨-, rfl⟩) | ⟨-, rfl⟩) | ⟨-, rfl⟩) | ⟨-, rfl⟩) | ⟨-, rfl⟩
  · exact h.elim
  · exact k0
  · exact k1
  · exact k2
  · exact k3
  · exact k4
  · exact k5
  · exact k6
  · exact k7
  · exact k8
theorem own_R00 {n x0 x1 x2 x3 x4 x5 x6 x7 x8 : Int32} {g : Nat → Int32} (v : Int32) : own_mem 0 g v ↔ own_R0 n x0 x1 x2 x3 x4 x5 x6 x7 x8 v := ⟨fun ⟨i, hi, _⟩ => absurd hi (Nat.not_lt_zero i), fun z => False.elim z⟩
theorem own_bR {A R : Int32 → Prop} {q : Int32} (hb : ∀ v, own_in6 v → (A v ↔ R v)) (hin : ∀ v, R v → own_in6 v) (hq : 0 ≤ q.toInt) : (q.toInt ≤ 63 ∧ A q) ↔ R q := ⟨fun z => (hb q ⟨hq, z.1⟩).mp z.2, fun z => ⟨(hin q z).2, (hb q (hin q z)).mpr z⟩⟩
theorem own_Rno {n x0 x1 x2 x3 x4 x5 x6 x7 x8 v : Int32} (k0 : ¬ ((0 : Int32) < n ∧ x0 = v)) (k1 : ¬ ((1 : Int32) < n ∧ x1 = v)) (k2 : ¬ ((2 : Int32) < n ∧ x2 = v)) (k3 : ¬ ((3 : Int32) < n ∧ x3 = v)) (k4 : ¬ ((4 : Int32) < n ∧ x4 = v)) (k5 : ¬ ((5 : Int32) < n ∧ x5 = v)) (k6 : ¬ ((6 : Int32) < n ∧ x6 = v)) (k7 : ¬ ((7 : Int32) < n ∧ x7 = v)) (k8 : ¬ ((8 : Int32) < n ∧ x8 = v)) : ¬ own_R9 n x0 x1 x2 x3 x4 x5 x6 x7 x8 v := by
  intro h
  rcases h with ((((((((h | h) | h) | h) | h) | h) | h) | h) | h) | h
  · exact h.elim
  · exact k0 h
  · exact k1 h
  · exact k2 h
  · exact k3 h
  · exact k4 h
  · exact k5 h
  · exact k6 h
  · exact k7 h
  · exact k8 h
theorem own_ll {r : Int32} {A B : Prop} {l' len i : Nat} (h : r = 1 ∧ A ∧ l' = len + 1 ∨ r = 0 ∧ B ∧ l' = len) (hl : len ≤ i) : l' ≤ i + 1 := by rcases h with ⟨-, -, h⟩ | ⟨-, -, h⟩ <;> omega
theorem own_eqi' : True := trivial
theorem own_d1_0 : decode method_2_code 0 = .ok (.lload_n 0, 1) := by decide +kernel
theorem own_d1_1 : decode method_2_code 1 = .ok (.bipush 6, 2) := by decide +kernel
theorem own_d1_3 : decode method_2_code 3 = .ok (.iload_n 2, 1) := by decide +kernel
theorem own_d1_4 : decode method_2_code 4 = .ok (.imul, 1) := by decide +kernel
theorem own_d1_5 : decode method_2_code 5 = .ok (.lushr, 1) := by decide +kernel
theorem own_d1_6 : decode method_2_code 6 = .ok (.ldc2_w 7, 3) := by decide +kernel
theorem own_d1_9 : decode method_2_code 9 = .ok (.land, 1) := by decide +kernel
theorem own_d1_10 : decode method_2_code 10 = .ok (.l2i, 1) := by decide +kernel
theorem own_d1_11 : decode method_2_code 11 = .ok (.ireturn, 1) := by decide +kernel
theorem own_d2_0 : decode prog_3_method_1_code 0 = .ok (.aload_n 0, 1) := by decide +kernel
theorem own_d2_1 : decode prog_3_method_1_code 1 = .ok (.invokespecial 1, 3) := by decide +kernel
theorem own_d2_4 : decode prog_3_method_1_code 4 = .ok (.aload_n 0, 1) := by decide +kernel
theorem own_d2_5 : decode prog_3_method_1_code 5 = .ok (.iconst 0, 1) := by decide +kernel
theorem own_d2_6 : decode prog_3_method_1_code 6 = .ok (.newarray .int, 2) := by decide +kernel
theorem own_d2_8 : decode prog_3_method_1_code 8 = .ok (.putfield 7, 3) := by decide +kernel
theorem own_d2_11 : decode prog_3_method_1_code 11 = .ok (.return_, 1) := by decide +kernel
theorem own_d4_0 : decode prog_3_method_2_code 0 = .ok (.aload_n 0, 1) := by decide +kernel
theorem own_d4_1 : decode prog_3_method_2_code 1 = .ok (.iload_n 1, 1) := by decide +kernel
theorem own_d4_2 : decode prog_3_method_2_code 2 = .ok (.invokevirtual 13, 3) := by decide +kernel
theorem own_d4_5 : decode prog_3_method_2_code 5 = .ok (.ifCond .eq 5, 3) := by decide +kernel
theorem own_d4_8 : decode prog_3_method_2_code 8 = .ok (.iconst 0, 1) := by decide +kernel
theorem own_d4_9 : decode prog_3_method_2_code 9 = .ok (.ireturn, 1) := by decide +kernel
theorem own_d4_10 : decode prog_3_method_2_code 10 = .ok (.aload_n 0, 1) := by decide +kernel
theorem own_d4_11 : decode prog_3_method_2_code 11 = .ok (.getfield 17, 3) := by decide +kernel
theorem own_d4_14 : decode prog_3_method_2_code 14 = .ok (.ifnull 14, 3) := by decide +kernel
theorem own_d4_28 : decode prog_3_method_2_code 28 = .ok (.aload_n 0, 1) := by decide +kernel
theorem own_d4_29 : decode prog_3_method_2_code 29 = .ok (.getfield 27, 3) := by decide +kernel
theorem own_d4_32 : decode prog_3_method_2_code 32 = .ok (.bipush 8, 2) := by decide +kernel
theorem own_d4_34 : decode prog_3_method_2_code 34 = .ok (.if_icmp .ge 49, 3) := by decide +kernel
theorem own_d4_37 : decode prog_3_method_2_code 37 = .ok (.aload_n 0, 1) := by decide +kernel
theorem own_d4_38 : decode prog_3_method_2_code 38 = .ok (.getfield 27, 3) := by decide +kernel
theorem own_d4_41 : decode prog_3_method_2_code 41 = .ok (.aload_n 0, 1) := by decide +kernel
theorem own_d4_42 : decode prog_3_method_2_code 42 = .ok (.getfield 7, 3) := by decide +kernel
theorem own_d4_45 : decode prog_3_method_2_code 45 = .ok (.arraylength, 1) := by decide +kernel
theorem own_d4_46 : decode prog_3_method_2_code 46 = .ok (.if_icmp .ne 24, 3) := by decide +kernel
theorem own_d4_49 : decode prog_3_method_2_code 49 = .ok (.aload_n 0, 1) := by decide +kernel
theorem own_d4_50 : decode prog_3_method_2_code 50 = .ok (.aload_n 0, 1) := by decide +kernel
theorem own_d4_51 : decode prog_3_method_2_code 51 = .ok (.getfield 7, 3) := by decide +kernel
theorem own_d4_54 : decode prog_3_method_2_code 54 = .ok (.iconst 2, 1) := by decide +kernel
theorem own_d4_55 : decode prog_3_method_2_code 55 = .ok (.iconst 2, 1) := by decide +kernel
theorem own_d4_56 : decode prog_3_method_2_code 56 = .ok (.aload_n 0, 1) := by decide +kernel
theorem own_d4_57 : decode prog_3_method_2_code 57 = .ok (.getfield 27, 3) := by decide +kernel
theorem own_d4_60 : decode prog_3_method_2_code 60 = .ok (.imul, 1) := by decide +kernel
theorem own_d4_61 : decode prog_3_method_2_code 61 = .ok (.invokestatic 31, 3) := by decide +kernel
theorem own_d4_64 : decode prog_3_method_2_code 64 = .ok (.invokestatic 37, 3) := by decide +kernel
theorem own_d4_67 : decode prog_3_method_2_code 67 = .ok (.putfield 7, 3) := by decide +kernel
theorem own_d4_70 : decode prog_3_method_2_code 70 = .ok (.aload_n 0, 1) := by decide +kernel
theorem own_d4_71 : decode prog_3_method_2_code 71 = .ok (.getfield 7, 3) := by decide +kernel
theorem own_d4_74 : decode prog_3_method_2_code 74 = .ok (.aload_n 0, 1) := by decide +kernel
theorem own_d4_75 : decode prog_3_method_2_code 75 = .ok (.getfield 27, 3) := by decide +kernel
theorem own_d4_78 : decode prog_3_method_2_code 78 = .ok (.iload_n 1, 1) := by decide +kernel
theorem own_d4_79 : decode prog_3_method_2_code 79 = .ok (.iastore, 1) := by decide +kernel
theorem own_d4_80 : decode prog_3_method_2_code 80 = .ok (.goto 56, 3) := by decide +kernel
theorem own_d4_83 : decode prog_3_method_2_code 83 = .ok (.aload_n 0, 1) := by decide +kernel
theorem own_d4_84 : decode prog_3_method_2_code 84 = .ok (.new 22, 3) := by decide +kernel
theorem own_d4_87 : decode prog_3_method_2_code 87 = .ok (.dup, 1) := by decide +kernel
theorem own_d4_88 : decode prog_3_method_2_code 88 = .ok (.invokespecial 43, 3) := by decide +kernel
theorem own_d4_91 : decode prog_3_method_2_code 91 = .ok (.putfield 17, 3) := by decide +kernel
theorem own_d4_94 : decode prog_3_method_2_code 94 = .ok (.iconst 0, 1) := by decide +kernel
theorem own_d4_95 : decode prog_3_method_2_code 95 = .ok (.istore_n 2, 1) := by decide +kernel
theorem own_d4_96 : decode prog_3_method_2_code 96 = .ok (.iload_n 2, 1) := by decide +kernel
theorem own_d4_97 : decode prog_3_method_2_code 97 = .ok (.aload_n 0, 1) := by decide +kernel
theorem own_d4_98 : decode prog_3_method_2_code 98 = .ok (.getfield 27, 3) := by decide +kernel
theorem own_d4_101 : decode prog_3_method_2_code 101 = .ok (.if_icmp .ge 22, 3) := by decide +kernel
theorem own_d4_104 : decode prog_3_method_2_code 104 = .ok (.aload_n 0, 1) := by decide +kernel
theorem own_d4_105 : decode prog_3_method_2_code 105 = .ok (.getfield 17, 3) := by decide +kernel
theorem own_d4_108 : decode prog_3_method_2_code 108 = .ok (.aload_n 0, 1) := by decide +kernel
theorem own_d4_109 : decode prog_3_method_2_code 109 = .ok (.getfield 7, 3) := by decide +kernel
theorem own_d4_112 : decode prog_3_method_2_code 112 = .ok (.iload_n 2, 1) := by decide +kernel
theorem own_d4_113 : decode prog_3_method_2_code 113 = .ok (.iaload, 1) := by decide +kernel
theorem own_d4_114 : decode prog_3_method_2_code 114 = .ok (.invokevirtual 21, 3) := by decide +kernel
theorem own_d4_117 : decode prog_3_method_2_code 117 = .ok (.iinc 2 1, 3) := by decide +kernel
theorem own_d4_120 : decode prog_3_method_2_code 120 = .ok (.goto (-24), 3) := by decide +kernel
theorem own_d4_123 : decode prog_3_method_2_code 123 = .ok (.aload_n 0, 1) := by decide +kernel
theorem own_d4_124 : decode prog_3_method_2_code 124 = .ok (.getfield 17, 3) := by decide +kernel
theorem own_d4_127 : decode prog_3_method_2_code 127 = .ok (.iload_n 1, 1) := by decide +kernel
theorem own_d4_128 : decode prog_3_method_2_code 128 = .ok (.invokevirtual 21, 3) := by decide +kernel
theorem own_d4_131 : decode prog_3_method_2_code 131 = .ok (.aload_n 0, 1) := by decide +kernel
theorem own_d4_132 : decode prog_3_method_2_code 132 = .ok (.aconst_null, 1) := by decide +kernel
theorem own_d4_133 : decode prog_3_method_2_code 133 = .ok (.putfield 7, 3) := by decide +kernel
theorem own_d4_136 : decode prog_3_method_2_code 136 = .ok (.aload_n 0, 1) := by decide +kernel
theorem own_d4_137 : decode prog_3_method_2_code 137 = .ok (.dup, 1) := by decide +kernel
theorem own_d4_138 : decode prog_3_method_2_code 138 = .ok (.getfield 27, 3) := by decide +kernel
theorem own_d4_141 : decode prog_3_method_2_code 141 = .ok (.iconst 1, 1) := by decide +kernel
theorem own_d4_142 : decode prog_3_method_2_code 142 = .ok (.iadd, 1) := by decide +kernel
theorem own_d4_143 : decode prog_3_method_2_code 143 = .ok (.putfield 27, 3) := by decide +kernel
theorem own_d4_146 : decode prog_3_method_2_code 146 = .ok (.iconst 1, 1) := by decide +kernel
theorem own_d4_147 : decode prog_3_method_2_code 147 = .ok (.ireturn, 1) := by decide +kernel
theorem own_d5_0 : decode prog_3_method_3_code 0 = .ok (.aload_n 0, 1) := by decide +kernel
theorem own_d5_1 : decode prog_3_method_3_code 1 = .ok (.getfield 17, 3) := by decide +kernel
theorem own_d5_4 : decode prog_3_method_3_code 4 = .ok (.ifnonnull 11, 3) := by decide +kernel
theorem own_d5_7 : decode prog_3_method_3_code 7 = .ok (.aload_n 0, 1) := by decide +kernel
theorem own_d5_8 : decode prog_3_method_3_code 8 = .ok (.iload_n 1, 1) := by decide +kernel
theorem own_d5_9 : decode prog_3_method_3_code 9 = .ok (.invokevirtual 44, 3) := by decide +kernel
theorem own_d5_12 : decode prog_3_method_3_code 12 = .ok (.goto 11, 3) := by decide +kernel
theorem own_d5_15 : decode prog_3_method_3_code 15 = .ok (.aload_n 0, 1) := by decide +kernel
theorem own_d5_16 : decode prog_3_method_3_code 16 = .ok (.getfield 17, 3) := by decide +kernel
theorem own_d5_19 : decode prog_3_method_3_code 19 = .ok (.iload_n 1, 1) := by decide +kernel
theorem own_d5_20 : decode prog_3_method_3_code 20 = .ok (.invokevirtual 47, 3) := by decide +kernel
theorem own_d5_23 : decode prog_3_method_3_code 23 = .ok (.ireturn, 1) := by decide +kernel
theorem own_d6_0 : decode prog_3_method_7_code 0 = .ok (.iconst 0, 1) := by decide +kernel
theorem own_d6_1 : decode prog_3_method_7_code 1 = .ok (.istore_n 2, 1) := by decide +kernel
theorem own_d6_2 : decode prog_3_method_7_code 2 = .ok (.iload_n 2, 1) := by decide +kernel
theorem own_d6_3 : decode prog_3_method_7_code 3 = .ok (.aload_n 0, 1) := by decide +kernel
theorem own_d6_4 : decode prog_3_method_7_code 4 = .ok (.getfield 27, 3) := by decide +kernel
theorem own_d6_7 : decode prog_3_method_7_code 7 = .ok (.if_icmp .ge 21, 3) := by decide +kernel
theorem own_d6_10 : decode prog_3_method_7_code 10 = .ok (.aload_n 0, 1) := by decide +kernel
theorem own_d6_11 : decode prog_3_method_7_code 11 = .ok (.getfield 7, 3) := by decide +kernel
theorem own_d6_14 : decode prog_3_method_7_code 14 = .ok (.iload_n 2, 1) := by decide +kernel
theorem own_d6_15 : decode prog_3_method_7_code 15 = .ok (.iaload, 1) := by decide +kernel
theorem own_d6_16 : decode prog_3_method_7_code 16 = .ok (.iload_n 1, 1) := by decide +kernel
theorem own_d6_17 : decode prog_3_method_7_code 17 = .ok (.if_icmp .ne 5, 3) := by decide +kernel
theorem own_d6_20 : decode prog_3_method_7_code 20 = .ok (.iconst 1, 1) := by decide +kernel
theorem own_d6_21 : decode prog_3_method_7_code 21 = .ok (.ireturn, 1) := by decide +kernel
theorem own_d6_22 : decode prog_3_method_7_code 22 = .ok (.iinc 2 1, 3) := by decide +kernel
theorem own_d6_25 : decode prog_3_method_7_code 25 = .ok (.goto (-23), 3) := by decide +kernel
theorem own_d6_28 : decode prog_3_method_7_code 28 = .ok (.iconst 0, 1) := by decide +kernel
theorem own_d6_29 : decode prog_3_method_7_code 29 = .ok (.ireturn, 1) := by decide +kernel
theorem own_d7_0 : decode jdk_29_method_65_code 0 = .ok (.iload_n 0, 1) := by decide +kernel
theorem own_d7_1 : decode jdk_29_method_65_code 1 = .ok (.iload_n 1, 1) := by decide +kernel
theorem own_d7_2 : decode jdk_29_method_65_code 2 = .ok (.if_icmp .lt 7, 3) := by decide +kernel
theorem own_d7_5 : decode jdk_29_method_65_code 5 = .ok (.iload_n 0, 1) := by decide +kernel
theorem own_d7_6 : decode jdk_29_method_65_code 6 = .ok (.goto 4, 3) := by decide +kernel
theorem own_d7_9 : decode jdk_29_method_65_code 9 = .ok (.iload_n 1, 1) := by decide +kernel
theorem own_d7_10 : decode jdk_29_method_65_code 10 = .ok (.ireturn, 1) := by decide +kernel
theorem own_d8_0 : decode jdk_65_method_123_code 0 = .ok (.iload_n 1, 1) := by decide +kernel
theorem own_d8_1 : decode jdk_65_method_123_code 1 = .ok (.aload_n 0, 1) := by decide +kernel
theorem own_d8_2 : decode jdk_65_method_123_code 2 = .ok (.arraylength, 1) := by decide +kernel
theorem own_d8_3 : decode jdk_65_method_123_code 3 = .ok (.if_icmp .ne 11, 3) := by decide +kernel
theorem own_d8_14 : decode jdk_65_method_123_code 14 = .ok (.iload_n 1, 1) := by decide +kernel
theorem own_d8_15 : decode jdk_65_method_123_code 15 = .ok (.newarray .int, 2) := by decide +kernel
theorem own_d8_17 : decode jdk_65_method_123_code 17 = .ok (.astore_n 2, 1) := by decide +kernel
theorem own_d8_18 : decode jdk_65_method_123_code 18 = .ok (.aload_n 0, 1) := by decide +kernel
theorem own_d8_19 : decode jdk_65_method_123_code 19 = .ok (.iconst 0, 1) := by decide +kernel
theorem own_d8_20 : decode jdk_65_method_123_code 20 = .ok (.aload_n 2, 1) := by decide +kernel
theorem own_d8_21 : decode jdk_65_method_123_code 21 = .ok (.iconst 0, 1) := by decide +kernel
theorem own_d8_22 : decode jdk_65_method_123_code 22 = .ok (.aload_n 0, 1) := by decide +kernel
theorem own_d8_23 : decode jdk_65_method_123_code 23 = .ok (.arraylength, 1) := by decide +kernel
theorem own_d8_24 : decode jdk_65_method_123_code 24 = .ok (.iload_n 1, 1) := by decide +kernel
theorem own_d8_25 : decode jdk_65_method_123_code 25 = .ok (.invokestatic 304, 3) := by decide +kernel
theorem own_d8_28 : decode jdk_65_method_123_code 28 = .ok (.invokestatic 150, 3) := by decide +kernel
theorem own_d8_31 : decode jdk_65_method_123_code 31 = .ok (.aload_n 2, 1) := by decide +kernel
theorem own_d8_32 : decode jdk_65_method_123_code 32 = .ok (.areturn, 1) := by decide +kernel
theorem own_d9_0 : decode jdk_29_method_69_code 0 = .ok (.iload_n 0, 1) := by decide +kernel
theorem own_d9_1 : decode jdk_29_method_69_code 1 = .ok (.iload_n 1, 1) := by decide +kernel
theorem own_d9_2 : decode jdk_29_method_69_code 2 = .ok (.if_icmp .gt 7, 3) := by decide +kernel
theorem own_d9_5 : decode jdk_29_method_69_code 5 = .ok (.iload_n 0, 1) := by decide +kernel
theorem own_d9_6 : decode jdk_29_method_69_code 6 = .ok (.goto 4, 3) := by decide +kernel
theorem own_d9_9 : decode jdk_29_method_69_code 9 = .ok (.iload_n 1, 1) := by decide +kernel
theorem own_d9_10 : decode jdk_29_method_69_code 10 = .ok (.ireturn, 1) := by decide +kernel
theorem own_d10_0 : decode method_3_code 0 = .ok (.iload_n 1, 1) := by decide +kernel
theorem own_d10_1 : decode method_3_code 1 = .ok (.iload_n 0, 1) := by decide +kernel
theorem own_d10_2 : decode method_3_code 2 = .ok (.if_icmp .ge 12, 3) := by decide +kernel
theorem own_d10_5 : decode method_3_code 5 = .ok (.iload_n 2, 1) := by decide +kernel
theorem own_d10_6 : decode method_3_code 6 = .ok (.iload_n 3, 1) := by decide +kernel
theorem own_d10_7 : decode method_3_code 7 = .ok (.if_icmp .ne 7, 3) := by decide +kernel
theorem own_d10_10 : decode method_3_code 10 = .ok (.iconst 1, 1) := by decide +kernel
theorem own_d10_11 : decode method_3_code 11 = .ok (.goto 4, 3) := by decide +kernel
theorem own_d10_14 : decode method_3_code 14 = .ok (.iconst 0, 1) := by decide +kernel
theorem own_d10_15 : decode method_3_code 15 = .ok (.ireturn, 1) := by decide +kernel
theorem own_d11_0 : decode jdk_92_method_4_code 0 = .ok (.aload_n 0, 1) := by decide +kernel
theorem own_d11_1 : decode jdk_92_method_4_code 1 = .ok (.invokespecial 21, 3) := by decide +kernel
theorem own_d11_4 : decode jdk_92_method_4_code 4 = .ok (.aload_n 0, 1) := by decide +kernel
theorem own_d11_5 : decode jdk_92_method_4_code 5 = .ok (.iconst 0, 1) := by decide +kernel
theorem own_d11_6 : decode jdk_92_method_4_code 6 = .ok (.putfield 7, 3) := by decide +kernel
theorem own_d11_9 : decode jdk_92_method_4_code 9 = .ok (.aload_n 0, 1) := by decide +kernel
theorem own_d11_10 : decode jdk_92_method_4_code 10 = .ok (.iconst 0, 1) := by decide +kernel
theorem own_d11_11 : decode jdk_92_method_4_code 11 = .ok (.putfield 24, 3) := by decide +kernel
theorem own_d11_14 : decode jdk_92_method_4_code 14 = .ok (.aload_n 0, 1) := by decide +kernel
theorem own_d11_15 : decode jdk_92_method_4_code 15 = .ok (.bipush 64, 2) := by decide +kernel
theorem own_d11_17 : decode jdk_92_method_4_code 17 = .ok (.invokevirtual 27, 3) := by decide +kernel
theorem own_d11_20 : decode jdk_92_method_4_code 20 = .ok (.aload_n 0, 1) := by decide +kernel
theorem own_d11_21 : decode jdk_92_method_4_code 21 = .ok (.iconst 0, 1) := by decide +kernel
theorem own_d11_22 : decode jdk_92_method_4_code 22 = .ok (.putfield 24, 3) := by decide +kernel
theorem own_d11_25 : decode jdk_92_method_4_code 25 = .ok (.return_, 1) := by decide +kernel
theorem own_d12_0 : decode jdk_92_method_6_code 0 = .ok (.aload_n 0, 1) := by decide +kernel
theorem own_d12_1 : decode jdk_92_method_6_code 1 = .ok (.iload_n 1, 1) := by decide +kernel
theorem own_d12_2 : decode jdk_92_method_6_code 2 = .ok (.iconst 1, 1) := by decide +kernel
theorem own_d12_3 : decode jdk_92_method_6_code 3 = .ok (.isub, 1) := by decide +kernel
theorem own_d12_4 : decode jdk_92_method_6_code 4 = .ok (.invokestatic 52, 3) := by decide +kernel
theorem own_d12_7 : decode jdk_92_method_6_code 7 = .ok (.iconst 1, 1) := by decide +kernel
theorem own_d12_8 : decode jdk_92_method_6_code 8 = .ok (.iadd, 1) := by decide +kernel
theorem own_d12_9 : decode jdk_92_method_6_code 9 = .ok (.newarray .long, 2) := by decide +kernel
theorem own_d12_11 : decode jdk_92_method_6_code 11 = .ok (.putfield 11, 3) := by decide +kernel
theorem own_d12_14 : decode jdk_92_method_6_code 14 = .ok (.return_, 1) := by decide +kernel
theorem own_d13_0 : decode jdk_92_method_1_code 0 = .ok (.iload_n 0, 1) := by decide +kernel
theorem own_d13_1 : decode jdk_92_method_1_code 1 = .ok (.bipush 6, 2) := by decide +kernel
theorem own_d13_3 : decode jdk_92_method_1_code 3 = .ok (.ishr, 1) := by decide +kernel
theorem own_d13_4 : decode jdk_92_method_1_code 4 = .ok (.ireturn, 1) := by decide +kernel
theorem own_d14_0 : decode jdk_92_method_19_code 0 = .ok (.iload_n 1, 1) := by decide +kernel
theorem own_d14_1 : decode jdk_92_method_19_code 1 = .ok (.ifCond .ge 30, 3) := by decide +kernel
theorem own_d14_31 : decode jdk_92_method_19_code 31 = .ok (.iload_n 1, 1) := by decide +kernel
theorem own_d14_32 : decode jdk_92_method_19_code 32 = .ok (.invokestatic 52, 3) := by decide +kernel
theorem own_d14_35 : decode jdk_92_method_19_code 35 = .ok (.istore_n 2, 1) := by decide +kernel
theorem own_d14_36 : decode jdk_92_method_19_code 36 = .ok (.aload_n 0, 1) := by decide +kernel
theorem own_d14_37 : decode jdk_92_method_19_code 37 = .ok (.iload_n 2, 1) := by decide +kernel
theorem own_d14_38 : decode jdk_92_method_19_code 38 = .ok (.invokevirtual 155, 3) := by decide +kernel
theorem own_d14_41 : decode jdk_92_method_19_code 41 = .ok (.aload_n 0, 1) := by decide +kernel
theorem own_d14_42 : decode jdk_92_method_19_code 42 = .ok (.getfield 11, 3) := by decide +kernel
theorem own_d14_45 : decode jdk_92_method_19_code 45 = .ok (.iload_n 2, 1) := by decide +kernel
theorem own_d14_46 : decode jdk_92_method_19_code 46 = .ok (.dup2, 1) := by decide +kernel
theorem own_d14_47 : decode jdk_92_method_19_code 47 = .ok (.laload, 1) := by decide +kernel
theorem own_d14_48 : decode jdk_92_method_19_code 48 = .ok (.lconst 1, 1) := by decide +kernel
theorem own_d14_49 : decode jdk_92_method_19_code 49 = .ok (.iload_n 1, 1) := by decide +kernel
theorem own_d14_50 : decode jdk_92_method_19_code 50 = .ok (.lshl, 1) := by decide +kernel
theorem own_d14_51 : decode jdk_92_method_19_code 51 = .ok (.lor, 1) := by decide +kernel
theorem own_d14_52 : decode jdk_92_method_19_code 52 = .ok (.lastore, 1) := by decide +kernel
theorem own_d14_53 : decode jdk_92_method_19_code 53 = .ok (.aload_n 0, 1) := by decide +kernel
theorem own_d14_54 : decode jdk_92_method_19_code 54 = .ok (.invokevirtual 56, 3) := by decide +kernel
theorem own_d14_57 : decode jdk_92_method_19_code 57 = .ok (.return_, 1) := by decide +kernel
theorem own_d15_0 : decode jdk_92_method_15_code 0 = .ok (.iload_n 1, 1) := by decide +kernel
theorem own_d15_1 : decode jdk_92_method_15_code 1 = .ok (.iconst 1, 1) := by decide +kernel
theorem own_d15_2 : decode jdk_92_method_15_code 2 = .ok (.iadd, 1) := by decide +kernel
theorem own_d15_3 : decode jdk_92_method_15_code 3 = .ok (.istore_n 2, 1) := by decide +kernel
theorem own_d15_4 : decode jdk_92_method_15_code 4 = .ok (.aload_n 0, 1) := by decide +kernel
theorem own_d15_5 : decode jdk_92_method_15_code 5 = .ok (.getfield 7, 3) := by decide +kernel
theorem own_d15_8 : decode jdk_92_method_15_code 8 = .ok (.iload_n 2, 1) := by decide +kernel
theorem own_d15_9 : decode jdk_92_method_15_code 9 = .ok (.if_icmp .ge 13, 3) := by decide +kernel
theorem own_d15_12 : decode jdk_92_method_15_code 12 = .ok (.aload_n 0, 1) := by decide +kernel
theorem own_d15_13 : decode jdk_92_method_15_code 13 = .ok (.iload_n 2, 1) := by decide +kernel
theorem own_d15_14 : decode jdk_92_method_15_code 14 = .ok (.invokevirtual 139, 3) := by decide +kernel
theorem own_d15_17 : decode jdk_92_method_15_code 17 = .ok (.aload_n 0, 1) := by decide +kernel
theorem own_d15_18 : decode jdk_92_method_15_code 18 = .ok (.iload_n 2, 1) := by decide +kernel
theorem own_d15_19 : decode jdk_92_method_15_code 19 = .ok (.putfield 7, 3) := by decide +kernel
theorem own_d15_22 : decode jdk_92_method_15_code 22 = .ok (.return_, 1) := by decide +kernel
theorem own_d16_0 : decode jdk_92_method_14_code 0 = .ok (.aload_n 0, 1) := by decide +kernel
theorem own_d16_1 : decode jdk_92_method_14_code 1 = .ok (.getfield 11, 3) := by decide +kernel
theorem own_d16_4 : decode jdk_92_method_14_code 4 = .ok (.arraylength, 1) := by decide +kernel
theorem own_d16_5 : decode jdk_92_method_14_code 5 = .ok (.iload_n 1, 1) := by decide +kernel
theorem own_d16_6 : decode jdk_92_method_14_code 6 = .ok (.if_icmp .ge 32, 3) := by decide +kernel
theorem own_d16_38 : decode jdk_92_method_14_code 38 = .ok (.return_, 1) := by decide +kernel
theorem own_d17_0 : decode jdk_92_method_2_code 0 = .ok (.getstatic 3, 3) := by decide +kernel
theorem own_d17_3 : decode jdk_92_method_2_code 3 = .ok (.ifCond .ne 34, 3) := by decide +kernel
theorem own_d17_37 : decode jdk_92_method_2_code 37 = .ok (.getstatic 3, 3) := by decide +kernel
theorem own_d17_40 : decode jdk_92_method_2_code 40 = .ok (.ifCond .ne 30, 3) := by decide +kernel
theorem own_d17_70 : decode jdk_92_method_2_code 70 = .ok (.getstatic 3, 3) := by decide +kernel
theorem own_d17_73 : decode jdk_92_method_2_code 73 = .ok (.ifCond .ne 37, 3) := by decide +kernel
theorem own_d17_110 : decode jdk_92_method_2_code 110 = .ok (.return_, 1) := by decide +kernel
theorem own_d18_0 : decode jdk_92_method_26_code 0 = .ok (.iload_n 1, 1) := by decide +kernel
theorem own_d18_1 : decode jdk_92_method_26_code 1 = .ok (.ifCond .ge 30, 3) := by decide +kernel
theorem own_d18_31 : decode jdk_92_method_26_code 31 = .ok (.aload_n 0, 1) := by decide +kernel
theorem own_d18_32 : decode jdk_92_method_26_code 32 = .ok (.invokevirtual 56, 3) := by decide +kernel
theorem own_d18_35 : decode jdk_92_method_26_code 35 = .ok (.iload_n 1, 1) := by decide +kernel
theorem own_d18_36 : decode jdk_92_method_26_code 36 = .ok (.invokestatic 52, 3) := by decide +kernel
theorem own_d18_39 : decode jdk_92_method_26_code 39 = .ok (.istore_n 2, 1) := by decide +kernel
theorem own_d18_40 : decode jdk_92_method_26_code 40 = .ok (.iload_n 2, 1) := by decide +kernel
theorem own_d18_41 : decode jdk_92_method_26_code 41 = .ok (.aload_n 0, 1) := by decide +kernel
theorem own_d18_42 : decode jdk_92_method_26_code 42 = .ok (.getfield 7, 3) := by decide +kernel
theorem own_d18_45 : decode jdk_92_method_26_code 45 = .ok (.if_icmp .ge 22, 3) := by decide +kernel
theorem own_d18_48 : decode jdk_92_method_26_code 48 = .ok (.aload_n 0, 1) := by decide +kernel
theorem own_d18_49 : decode jdk_92_method_26_code 49 = .ok (.getfield 11, 3) := by decide +kernel
theorem own_d18_52 : decode jdk_92_method_26_code 52 = .ok (.iload_n 2, 1) := by decide +kernel
theorem own_d18_53 : decode jdk_92_method_26_code 53 = .ok (.laload, 1) := by decide +kernel
theorem own_d18_54 : decode jdk_92_method_26_code 54 = .ok (.lconst 1, 1) := by decide +kernel
theorem own_d18_55 : decode jdk_92_method_26_code 55 = .ok (.iload_n 1, 1) := by decide +kernel
theorem own_d18_56 : decode jdk_92_method_26_code 56 = .ok (.lshl, 1) := by decide +kernel
theorem own_d18_57 : decode jdk_92_method_26_code 57 = .ok (.land, 1) := by decide +kernel
theorem own_d18_58 : decode jdk_92_method_26_code 58 = .ok (.lconst 0, 1) := by decide +kernel
theorem own_d18_59 : decode jdk_92_method_26_code 59 = .ok (.lcmp, 1) := by decide +kernel
theorem own_d18_60 : decode jdk_92_method_26_code 60 = .ok (.ifCond .eq 7, 3) := by decide +kernel
theorem own_d18_63 : decode jdk_92_method_26_code 63 = .ok (.iconst 1, 1) := by decide +kernel
theorem own_d18_64 : decode jdk_92_method_26_code 64 = .ok (.goto 4, 3) := by decide +kernel
theorem own_d18_67 : decode jdk_92_method_26_code 67 = .ok (.iconst 0, 1) := by decide +kernel
theorem own_d18_68 : decode jdk_92_method_26_code 68 = .ok (.ireturn, 1) := by decide +kernel
theorem own_pn0 : plainFor (⟨"com/example/kunci/kunci/NumberSet", "holdsAmongFew", "(I)Z"⟩ : MethodName) = true := by first | exact plainFor_of_name (by first | (simp [plainName, overriddenIn]; done) | decide +kernel) | decide +kernel
theorem own_pn1 : plainFor (⟨"com/example/kunci/kunci/NumberSet", "contains", "(I)Z"⟩ : MethodName) = true := by first | exact plainFor_of_name (by first | (simp [plainName, overriddenIn]; done) | decide +kernel) | decide +kernel
theorem own_pn2 : plainFor (⟨"java/lang/Math", "max", "(II)I"⟩ : MethodName) = true := by first | exact plainFor_of_name (by first | (simp [plainName, overriddenIn]; done) | decide +kernel) | decide +kernel
theorem own_pn3 : plainFor (⟨"java/lang/Math", "min", "(II)I"⟩ : MethodName) = true := by first | exact plainFor_of_name (by first | (simp [plainName, overriddenIn]; done) | decide +kernel) | decide +kernel
theorem own_pn4 : plainFor (⟨"java/util/Arrays", "copyOf", "([II)[I"⟩ : MethodName) = true := by first | exact plainFor_of_name (by first | (simp [plainName, overriddenIn]; done) | decide +kernel) | decide +kernel
theorem own_pn5 : plainFor (⟨"com/example/kunci/kunci/NumberSet", "add", "(I)Z"⟩ : MethodName) = true := by first | exact plainFor_of_name (by first | (simp [plainName, overriddenIn]; done) | decide +kernel) | decide +kernel
theorem own_pn6 : plainFor (⟨"java/util/BitSet", "wordIndex", "(I)I"⟩ : MethodName) = true := by first | exact plainFor_of_name (by first | (simp [plainName, overriddenIn]; done) | decide +kernel) | decide +kernel
theorem own_pn7 : plainFor (⟨"java/util/BitSet", "checkInvariants", "()V"⟩ : MethodName) = true := by first | exact plainFor_of_name (by first | (simp [plainName, overriddenIn]; done) | decide +kernel) | decide +kernel
theorem own_pn8 : plainFor (⟨"java/util/BitSet", "initWords", "(I)V"⟩ : MethodName) = true := by first | exact plainFor_of_name (by first | (simp [plainName, overriddenIn]; done) | decide +kernel) | decide +kernel
theorem own_pn9 : plainFor (⟨"java/util/BitSet", "<init>", "()V"⟩ : MethodName) = true := by first | exact plainFor_of_name (by first | (simp [plainName, overriddenIn]; done) | decide +kernel) | decide +kernel
theorem own_pn10 : plainFor (⟨"java/util/BitSet", "ensureCapacity", "(I)V"⟩ : MethodName) = true := by first | exact plainFor_of_name (by first | (simp [plainName, overriddenIn]; done) | decide +kernel) | decide +kernel
theorem own_pn11 : plainFor (⟨"java/util/BitSet", "expandTo", "(I)V"⟩ : MethodName) = true := by first | exact plainFor_of_name (by first | (simp [plainName, overriddenIn]; done) | decide +kernel) | decide +kernel
theorem own_pn12 : plainFor (⟨"java/util/BitSet", "set", "(I)V"⟩ : MethodName) = true := by first | exact plainFor_of_name (by first | (simp [plainName, overriddenIn]; done) | decide +kernel) | decide +kernel
theorem own_pn13 : plainFor (⟨"java/util/BitSet", "get", "(I)Z"⟩ : MethodName) = true := by first | exact plainFor_of_name (by first | (simp [plainName, overriddenIn]; done) | decide +kernel) | decide +kernel
theorem own_pn14 : plainFor (⟨"com/example/kunci/kunci/NumberSet", "<init>", "()V"⟩ : MethodName) = true := by first | exact plainFor_of_name (by first | (simp [plainName, overriddenIn]; done) | decide +kernel) | decide +kernel
theorem own_pn15 : plainFor (⟨"com/example/kunci/kunci/NumberSetContainsPinLaw", "pick", "(JI)I"⟩ : MethodName) = true := by first | exact plainFor_of_name (by first | (simp [plainName, overriddenIn]; done) | decide +kernel) | decide +kernel
theorem own_pn16 : plainFor (⟨"com/example/kunci/kunci/NumberSetContainsPinLaw", "hit", "(IIII)Z"⟩ : MethodName) = true := by first | exact plainFor_of_name (by first | (simp [plainName, overriddenIn]; done) | decide +kernel) | decide +kernel
theorem own_pn17 : plainFor (⟨"com/example/kunci/kunci/NumberSetContainsPinLaw", "law", "(JIII)Z"⟩ : MethodName) = true := by first | exact plainFor_of_name (by first | (simp [plainName, overriddenIn]; done) | decide +kernel) | decide +kernel
theorem own_pd0 : parseMethodDescriptor "(I)Z" = some ⟨[.int], some .boolean⟩ := by decide +kernel
theorem own_pd1 : parseMethodDescriptor "(II)I" = some ⟨[.int, .int], some .int⟩ := by decide +kernel
theorem own_pd2 : parseMethodDescriptor "([II)[I" = some ⟨[(.array .int), .int], some (.array .int)⟩ := by decide +kernel
theorem own_pd3 : parseMethodDescriptor "(I)I" = some ⟨[.int], some .int⟩ := by decide +kernel
theorem own_pd4 : parseMethodDescriptor "(I)V" = some ⟨[.int], none⟩ := by decide +kernel
theorem own_pd5 : parseMethodDescriptor "()V" = some ⟨[], none⟩ := by decide +kernel
theorem own_pd6 : parseMethodDescriptor "(JI)I" = some ⟨[.long, .int], some .int⟩ := by decide +kernel
theorem own_pd7 : parseMethodDescriptor "(IIII)Z" = some ⟨[.int, .int, .int, .int], some .boolean⟩ := by decide +kernel
theorem own_ef_own_hold (m : MethodId) (x0 : Addr) (x1 : Int32) : entryFrame m #[(.ref x0), (.int x1)] 3 = mkF m 0 #[.val (.ref x0), .val (.int x1), .unset] [] := by first | (simp [entryFrame, mkF, argsToLocals, Value.category]; done) | rfl
theorem own_ef_own_conf (m : MethodId) (x0 : Addr) (x1 : Int32) : entryFrame m #[(.ref x0), (.int x1)] 2 = mkF m 0 #[.val (.ref x0), .val (.int x1)] [] := by first | (simp [entryFrame, mkF, argsToLocals, Value.category]; done) | rfl
theorem own_ef_own_max (m : MethodId) (x0 : Int32) (x1 : Int32) : entryFrame m #[(.int x0), (.int x1)] 2 = mkF m 0 #[.val (.int x0), .val (.int x1)] [] := by first | (simp [entryFrame, mkF, argsToLocals, Value.category]; done) | rfl
theorem own_ef_own_min (m : MethodId) (x0 : Int32) (x1 : Int32) : entryFrame m #[(.int x0), (.int x1)] 2 = mkF m 0 #[.val (.int x0), .val (.int x1)] [] := by first | (simp [entryFrame, mkF, argsToLocals, Value.category]; done) | rfl
theorem own_ef_own_cpy (m : MethodId) (x0 : Addr) (x1 : Int32) : entryFrame m #[(.ref x0), (.int x1)] 3 = mkF m 0 #[.val (.ref x0), .val (.int x1), .unset] [] := by first | (simp [entryFrame, mkF, argsToLocals, Value.category]; done) | rfl
theorem own_ef_own_addf (m : MethodId) (x0 : Addr) (x1 : Int32) : entryFrame m #[(.ref x0), (.int x1)] 3 = mkF m 0 #[.val (.ref x0), .val (.int x1), .unset] [] := by first | (simp [entryFrame, mkF, argsToLocals, Value.category]; done) | rfl
theorem own_ef_own_wi (m : MethodId) (x0 : Int32) : entryFrame m #[(.int x0)] 1 = mkF m 0 #[.val (.int x0)] [] := by first | (simp [entryFrame, mkF, argsToLocals, Value.category]; done) | rfl
theorem own_ef_own_ci (m : MethodId) (x0 : Addr) : entryFrame m #[(.ref x0)] 1 = mkF m 0 #[.val (.ref x0)] [] := by first | (simp [entryFrame, mkF, argsToLocals, Value.category]; done) | rfl
theorem own_ef_own_iw (m : MethodId) (x0 : Addr) (x1 : Int32) : entryFrame m #[(.ref x0), (.int x1)] 2 = mkF m 0 #[.val (.ref x0), .val (.int x1)] [] := by first | (simp [entryFrame, mkF, argsToLocals, Value.category]; done) | rfl
theorem own_ef_own_bsi (m : MethodId) (x0 : Addr) : entryFrame m #[(.ref x0)] 1 = mkF m 0 #[.val (.ref x0)] [] := by first | (simp [entryFrame, mkF, argsToLocals, Value.category]; done) | rfl
theorem own_ef_own_ec (m : MethodId) (x0 : Addr) (x1 : Int32) : entryFrame m #[(.ref x0), (.int x1)] 3 = mkF m 0 #[.val (.ref x0), .val (.int x1), .unset] [] := by first | (simp [entryFrame, mkF, argsToLocals, Value.category]; done) | rfl
theorem own_ef_own_et (m : MethodId) (x0 : Addr) (x1 : Int32) : entryFrame m #[(.ref x0), (.int x1)] 3 = mkF m 0 #[.val (.ref x0), .val (.int x1), .unset] [] := by first | (simp [entryFrame, mkF, argsToLocals, Value.category]; done) | rfl
theorem own_ef_own_bset (m : MethodId) (x0 : Addr) (x1 : Int32) : entryFrame m #[(.ref x0), (.int x1)] 3 = mkF m 0 #[.val (.ref x0), .val (.int x1), .unset] [] := by first | (simp [entryFrame, mkF, argsToLocals, Value.category]; done) | rfl
theorem own_ef_own_bget (m : MethodId) (x0 : Addr) (x1 : Int32) : entryFrame m #[(.ref x0), (.int x1)] 3 = mkF m 0 #[.val (.ref x0), .val (.int x1), .unset] [] := by first | (simp [entryFrame, mkF, argsToLocals, Value.category]; done) | rfl
theorem own_ef_own_add8 (m : MethodId) (x0 : Addr) (x1 : Int32) : entryFrame m #[(.ref x0), (.int x1)] 3 = mkF m 0 #[.val (.ref x0), .val (.int x1), .unset] [] := by first | (simp [entryFrame, mkF, argsToLocals, Value.category]; done) | rfl
theorem own_ef_own_conb (m : MethodId) (x0 : Addr) (x1 : Int32) : entryFrame m #[(.ref x0), (.int x1)] 2 = mkF m 0 #[.val (.ref x0), .val (.int x1)] [] := by first | (simp [entryFrame, mkF, argsToLocals, Value.category]; done) | rfl
theorem own_ef_own_nsi (m : MethodId) (x0 : Addr) : entryFrame m #[(.ref x0)] 1 = mkF m 0 #[.val (.ref x0)] [] := by first | (simp [entryFrame, mkF, argsToLocals, Value.category]; done) | rfl
theorem own_ef_own_pick (m : MethodId) (x0 : Int64) (x1 : Int32) : entryFrame m #[(.long x0), (.int x1)] 3 = mkF m 0 #[.val (.long x0), .second, .val (.int x1)] [] := by first | (simp [entryFrame, mkF, argsToLocals, Value.category]; done) | rfl
theorem own_ef_own_hit (m : MethodId) (x0 : Int32) (x1 : Int32) (x2 : Int32) (x3 : Int32) : entryFrame m #[(.int x0), (.int x1), (.int x2), (.int x3)] 4 = mkF m 0 #[.val (.int x0), .val (.int x1), .val (.int x2), .val (.int x3)] [] := by first | (simp [entryFrame, mkF, argsToLocals, Value.category]; done) | rfl
theorem own_ef_own_law (m : MethodId) (x0 : Int64) (x1 : Int32) (x2 : Int32) (x3 : Int32) : entryFrame m #[(.long x0), (.int x1), (.int x2), (.int x3)] maxLocals = mkF m 0 #[.val (.long x0), .second, .val (.int x1), .val (.int x2), .val (.int x3), .unset, .unset, .unset, .unset, .unset, .unset, .unset, .unset, .unset, .unset, .unset, .unset, .unset] [] := by first | (simp [entryFrame, mkF, argsToLocals, Value.category, maxLocals]; done) | rfl
set_option maxRecDepth 65536 in
set_option maxHeartbeats 40000000 in
theorem own_hold (l : Launch) (Z : State) (a0 : Array Value) (hw : ∀ d ∈ tables_1, d.before a0 Z = true) (ws : List Jvm.Cond) (a len cap : Nat) (q : Int32) (g : Nat → Int32) (h0 : Heap) (n0 : Nat) (Z0 : n0 ≤ h0.size) (hF : own_few n0 Z h0 a len cap g) :
    own_Met l Z (⟨"com/example/kunci/kunci/NumberSet", "holdsAmongFew", "(I)Z"⟩ : MethodName) prog_3_method_7_code 3 (some .boolean) ws ({ frames := 0, cells := 0, slots := 0, locals := 0 } : Room) #[(.ref a), (.int q)] h0 (fun v h L => ∃ r : Int32, v = some (.int r) ∧ (r = 1 ∧ own_mem len g q ∨ r = 0 ∧ ¬ own_mem len g q) ∧ Fr n0 L ∧ h = h0) := by
  refine own_body own_pn0 (fun m => mkF m 0 #[.val (.ref a), .val (.int q), .unset] []) (fun m => own_ef_own_hold m a q) ?_
  intro p e s m below meth c T0 hx hby hml hlk hrt hZ hown hnm X0 e0
  have hown : s.vm.findClass "com/example/kunci/kunci/NumberSet" = some m.cls := hown
  have N0 := Fr.nil n0
  obtain ⟨aN, sz, ga, gN, naN, hsz, hlc, hc8, -, Ea, Fs, Fb, Fn, AN⟩ := hF
  have J : ∀ (r : Nat) (k : Nat) (j : Int32) (T1 : State) (lc1 : List Loc) (hp1 : Heap) (X1 : Stand p l e ({ frames := 0, cells := 0, slots := 0, locals := 0 } : Room) s m #[(.ref a), (.int q)] below meth c T1 lc1 0 0) (e1 : T1.heap = hp1) (N1 : Fr n0 lc1) (zs1 : n0 ≤ hp1.size) (zz1 : h0.size ≤ hp1.size) (hkr : k + r = len) (hj : j.toInt = (k : Int)) (hn_ : ∀ i, i < k → ¬ g i = q) (hq : hp1 = h0), own_Ends p e below s (fun v h L => ∃ r : Int32, v = some (.int r) ∧ (r = 1 ∧ own_mem len g q ∨ r = 0 ∧ ¬ own_mem len g q) ∧ Fr n0 L ∧ h = h0) ({ frames := 0, cells := 0, slots := 0, locals := 0 } : Room).cells ({ frames := 0, cells := 0, slots := 0, locals := 0 } : Room).slots (T1.setTop (mkF m 2 #[.val (.ref a), .val (.int q), .val (.int j)] [])) := by
    intro r
    induction r with
    | zero =>
      intro k j T1 lc1 hp1 X1 e1 N1 zs1 zz1 hkr hj hn_ hq
      subst hq
      have e0_ := e1
      refine own_pre (S' := (T1.setTop (mkF m 3 #[.val (.ref a), .val (.int q), .val (.int j)] [(.int j)]))) (fun tt_ kk_ => XS.iloadN X1.here hx rfl (hb hby own_d6_2) rfl kk_) ?_
      refine own_pre (S' := (T1.setTop (mkF m 4 #[.val (.ref a), .val (.int q), .val (.int j)] [(.ref a), (.int j)]))) (fun tt_ kk_ => XS.aloadN X1.here hx rfl (hb hby own_d6_3) rfl rfl kk_) ?_
      obtain ⟨T2, X2, e2, st2⟩ := getF X1 hx hZ hown (host := "") (Or.inl (hw _ (List.mem_of_getElem? (i := 34) rfl))) Via.refl e1 Fs (g := (mkF m 4 #[.val (.ref a), .val (.int q), .val (.int j)] [(.ref a), (.int j)])) rfl rfl (hb hby own_d6_4)
      refine own_pre (S' := (T2.setTop (mkF m 7 #[.val (.ref a), .val (.int q), .val (.int j)] [(.int sz), (.int j)]))) st2 ?_
      refine own_pre (S' := (T2.setTop (mkF m 28 #[.val (.ref a), .val (.int q), .val (.int j)] []))) (fun tt_ kk_ => XS.icmpYes X2.here hx rfl (pc0 := 7) (pc' := 28) rfl (hb hby own_d6_7) rfl (flt (own_jge hj hsz (by omega))).2.1 (by decide) (by decide) kk_) ?_
      refine own_pre (S' := (T2.setTop (mkF m 29 #[.val (.ref a), .val (.int q), .val (.int j)] [(.int (0 : Int32))]))) (fun tt_ kk_ => XS.iconst X2.here hx rfl (hb hby own_d6_28) kk_) ?_
      refine own_ret (t := .boolean) X2 hx hlk hrt rfl (Or.inl ⟨rfl, by simp, _, rfl⟩) (hb hby own_d6_29) (by decide) (by decide) ?_
      exact ⟨_, rfl, Or.inr ⟨rfl, own_notin (fun i hi => hn_ i (by omega))⟩, N1, e2⟩
    | succ r ih =>
      intro k j T1 lc1 hp1 X1 e1 N1 zs1 zz1 hkr hj hn_ hq
      have hkn : k < len := by omega
      subst hq
      have e0_ := e1
      refine own_pre (S' := (T1.setTop (mkF m 3 #[.val (.ref a), .val (.int q), .val (.int j)] [(.int j)]))) (fun tt_ kk_ => XS.iloadN X1.here hx rfl (hb hby own_d6_2) rfl kk_) ?_
      refine own_pre (S' := (T1.setTop (mkF m 4 #[.val (.ref a), .val (.int q), .val (.int j)] [(.ref a), (.int j)]))) (fun tt_ kk_ => XS.aloadN X1.here hx rfl (hb hby own_d6_3) rfl rfl kk_) ?_
      obtain ⟨T3, X3, e3, st3⟩ := getF X1 hx hZ hown (host := "") (Or.inl (hw _ (List.mem_of_getElem? (i := 34) rfl))) Via.refl e1 Fs (g := (mkF m 4 #[.val (.ref a), .val (.int q), .val (.int j)] [(.ref a), (.int j)])) rfl rfl (hb hby own_d6_4)
      refine own_pre (S' := (T3.setTop (mkF m 7 #[.val (.ref a), .val (.int q), .val (.int j)] [(.int sz), (.int j)]))) st3 ?_
      refine own_pre (S' := (T3.setTop (mkF m 10 #[.val (.ref a), .val (.int q), .val (.int j)] []))) (fun tt_ kk_ => XS.icmpNo X3.here hx rfl (hb hby own_d6_7) rfl (tlt (own_jlt hj hsz hkn)).2.1 kk_) ?_
      refine own_pre (S' := (T3.setTop (mkF m 11 #[.val (.ref a), .val (.int q), .val (.int j)] [(.ref a)]))) (fun tt_ kk_ => XS.aloadN X3.here hx rfl (hb hby own_d6_10) rfl rfl kk_) ?_
      obtain ⟨T4, X4, e4, st4⟩ := getF X3 hx hZ hown (host := "") (Or.inl (hw _ (List.mem_of_getElem? (i := 16) rfl))) Via.refl e3 Fn (g := (mkF m 11 #[.val (.ref a), .val (.int q), .val (.int j)] [(.ref a)])) rfl rfl (hb hby own_d6_11)
      refine own_pre (S' := (T4.setTop (mkF m 14 #[.val (.ref a), .val (.int q), .val (.int j)] [(.ref aN)]))) st4 ?_
      refine own_pre (S' := (T4.setTop (mkF m 15 #[.val (.ref a), .val (.int q), .val (.int j)] [(.int j), (.ref aN)]))) (fun tt_ kk_ => XS.iloadN X4.here hx rfl (hb hby own_d6_14) rfl kk_) ?_
      refine own_iald X4 hx hZ e4 AN k hj (by omega) (hb hby own_d6_15) ?_
      show own_Ends p e below s _ _ _ (T4.setTop (mkF m 16 #[.val (.ref a), .val (.int q), .val (.int j)] [(.int (g k))]))
      refine own_pre (S' := (T4.setTop (mkF m 17 #[.val (.ref a), .val (.int q), .val (.int j)] [(.int q), (.int (g k))]))) (fun tt_ kk_ => XS.iloadN X4.here hx rfl (hb hby own_d6_16) rfl kk_) ?_
      by_cases c17 : (g k) = q
      · -- pc 17: (g k) = q
        refine own_pre (S' := (T4.setTop (mkF m 20 #[.val (.ref a), .val (.int q), .val (.int j)] []))) (fun tt_ kk_ => XS.icmpNo X4.here hx rfl (hb hby own_d6_17) rfl (teq c17).2 kk_) ?_
        refine own_pre (S' := (T4.setTop (mkF m 21 #[.val (.ref a), .val (.int q), .val (.int j)] [(.int (1 : Int32))]))) (fun tt_ kk_ => XS.iconst X4.here hx rfl (hb hby own_d6_20) kk_) ?_
        refine own_ret (t := .boolean) X4 hx hlk hrt rfl (Or.inl ⟨rfl, by simp, _, rfl⟩) (hb hby own_d6_21) (by decide) (by decide) ?_
        exact ⟨_, rfl, Or.inl ⟨rfl, k, hkn, c17⟩, N1, e4⟩
      · -- pc 17: not (g k) = q
        refine own_pre (S' := (T4.setTop (mkF m 22 #[.val (.ref a), .val (.int q), .val (.int j)] []))) (fun tt_ kk_ => XS.icmpYes X4.here hx rfl (pc0 := 17) (pc' := 22) rfl (hb hby own_d6_17) rfl (feq c17).2 (by decide) (by decide) kk_) ?_
        refine own_pre (S' := (T4.setTop (mkF m 25 #[.val (.ref a), .val (.int q), .val (.int (j + (1 : Int32)))] []))) (fun tt_ kk_ => XS.iinc X4.here hx rfl (hb hby own_d6_22) rfl (l' := #[.val (.ref a), .val (.int q), .val (.int (j + (1 : Int32)))]) rfl kk_) ?_
        refine own_pre (S' := (T4.setTop (mkF m 2 #[.val (.ref a), .val (.int q), .val (.int (j + (1 : Int32)))] []))) (fun tt_ kk_ => XS.goto X4.here hx rfl (pc0 := 25) (pc' := 2) rfl (hb hby own_d6_25) (by decide) (by decide) kk_) ?_
        exact ih (k + 1) (j + (1 : Int32)) T4 _ _ X4 e4 N1 zs1 zz1 (by omega) (own_succ hj hkn (by omega)) (own_nstep hn_ c17) rfl
  refine own_pre (S' := (T0.setTop (mkF m 1 #[.val (.ref a), .val (.int q), .unset] [(.int (0 : Int32))]))) (fun tt_ kk_ => XS.iconst X0.here hx rfl (hb hby own_d6_0) kk_) ?_
  refine own_pre (S' := (T0.setTop (mkF m 2 #[.val (.ref a), .val (.int q), .val (.int (0 : Int32))] []))) (fun tt_ kk_ => XS.istoreN X0.here hx rfl (hb hby own_d6_1) rfl (l' := #[.val (.ref a), .val (.int q), .val (.int (0 : Int32))]) rfl kk_) ?_
  exact J len 0 (0 : Int32) T0 _ _ X0 e0 N0 Z0 (Nat.le_refl h0.size) (by omega) rfl (fun i hi => absurd hi (Nat.not_lt_zero i)) rfl
set_option maxRecDepth 65536 in
set_option maxHeartbeats 40000000 in
theorem own_conf (l : Launch) (Z : State) (a0 : Array Value) (hw : ∀ d ∈ tables_1, d.before a0 Z = true) (ws : List Jvm.Cond) (a len cap : Nat) (q : Int32) (g : Nat → Int32) (h0 : Heap) (n0 : Nat) (Z0 : n0 ≤ h0.size) (hF : own_few n0 Z h0 a len cap g) :
    own_Met l Z (⟨"com/example/kunci/kunci/NumberSet", "contains", "(I)Z"⟩ : MethodName) prog_3_method_3_code 2 (some .boolean) ws ({ frames := 1, cells := 0, slots := 0, locals := 14 } : Room) #[(.ref a), (.int q)] h0 (fun v h L => ∃ r : Int32, v = some (.int r) ∧ (r = 1 ∧ own_mem len g q ∨ r = 0 ∧ ¬ own_mem len g q) ∧ Fr n0 L ∧ h = h0) := by
  refine own_body own_pn1 (fun m => mkF m 0 #[.val (.ref a), .val (.int q)] []) (fun m => own_ef_own_conf m a q) ?_
  intro p e s m below meth c T0 hx hby hml hlk hrt hZ hown hnm X0 e0
  have hown : s.vm.findClass "com/example/kunci/kunci/NumberSet" = some m.cls := hown
  have N0 := Fr.nil n0
  have hF0 := hF
  obtain ⟨aN, sz, ga, gN, naN, hsz, hlc, hc8, hcc, Ea, Fs, Fb, Fn, AN⟩ := hF
  refine own_pre (S' := (T0.setTop (mkF m 1 #[.val (.ref a), .val (.int q)] [(.ref a)]))) (fun tt_ kk_ => XS.aloadN X0.here hx rfl (hb hby own_d5_0) rfl rfl kk_) ?_
  obtain ⟨T1, X1, e1, st1⟩ := getF X0 hx hZ hown (host := "") (Or.inl (hw _ (List.mem_of_getElem? (i := 28) rfl))) Via.refl e0 Fb (g := (mkF m 1 #[.val (.ref a), .val (.int q)] [(.ref a)])) rfl rfl (hb hby own_d5_1)
  refine own_pre (S' := (T1.setTop (mkF m 4 #[.val (.ref a), .val (.int q)] [.null]))) st1 ?_
  refine own_pre (S' := (T1.setTop (mkF m 7 #[.val (.ref a), .val (.int q)] []))) (fun tt_ kk_ => XS.ifnonnullNo X1.here hx rfl (hb hby own_d5_4) rfl kk_) ?_
  refine own_pre (S' := (T1.setTop (mkF m 8 #[.val (.ref a), .val (.int q)] [(.ref a)]))) (fun tt_ kk_ => XS.aloadN X1.here hx rfl (hb hby own_d5_7) rfl rfl kk_) ?_
  refine own_pre (S' := (T1.setTop (mkF m 9 #[.val (.ref a), .val (.int q)] [(.int q), (.ref a)]))) (fun tt_ kk_ => XS.iloadN X1.here hx rfl (hb hby own_d5_8) rfl kk_) ?_
  refine own_callQ (C := "com/example/kunci/kunci/NumberSet") (y := (⟨"com/example/kunci/kunci/NumberSet", "holdsAmongFew", "(I)Z"⟩ : MethodName)) (y' := (⟨"com/example/kunci/kunci/NumberSet", "add", "(I)Z"⟩ : MethodName)) (b := a) X1 hx hZ hown (hw _ (List.mem_of_getElem? (i := 30) rfl)) (hw _ (List.mem_of_getElem? (i := 31) rfl)) (hw _ (List.mem_of_getElem? (i := 21) rfl)) (hw _ (List.mem_of_getElem? (i := 32) rfl)) (hw _ (List.mem_of_getElem? (i := 33) rfl)) (hw _ (List.mem_of_getElem? (i := 8) rfl)) rfl (by decide) e1 Ea (hM := own_hold l Z a0 hw [] a len cap q g h0 n0 Z0 hF0) (W := 0) (pc := 9) (Ls := #[.val (.ref a), .val (.int q)]) (argsL := [(.int q)]) (rest := []) (st0 := [(.int q), (.ref a)]) (by rw [hml]; rfl) (lenOf own_pd0 rfl) rfl (Nat.le_of_eq rfl) (hb hby own_d5_9) (by decide) (by decide) (by decide) (by decide) ?_
  intro v2 T2 L2 X2 hQ2
  obtain ⟨r2, rfl, hr2, Nq2, hh2⟩ := hQ2
  have N2 := Fr.app N0 Nq2
  show own_Ends p e below s _ _ _ (T2.setTop (mkF m 12 #[.val (.ref a), .val (.int q)] [(.int r2)]))
  refine own_pre (S' := (T2.setTop (mkF m 23 #[.val (.ref a), .val (.int q)] [(.int r2)]))) (fun tt_ kk_ => XS.goto X2.here hx rfl (pc0 := 12) (pc' := 23) rfl (hb hby own_d5_12) (by decide) (by decide) kk_) ?_
  refine own_ret (t := .boolean) X2 hx hlk hrt (own_narZ (own_01 hr2)) (Or.inl ⟨rfl, by simp, _, rfl⟩) (hb hby own_d5_23) (by decide) (by decide) ?_
  exact ⟨_, rfl, hr2, N2, hh2⟩
set_option maxRecDepth 65536 in
set_option maxHeartbeats 40000000 in
theorem own_max (l : Launch) (Z : State) (a0 : Array Value) (hw : ∀ d ∈ tables_1, d.before a0 Z = true) (ws : List Jvm.Cond) (x y r : Int32) (h0 : Heap) (n0 : Nat) (Z0 : n0 ≤ h0.size) (hr : (if x < y then y else x) = r) :
    own_Met l Z (⟨"java/lang/Math", "max", "(II)I"⟩ : MethodName) jdk_29_method_65_code 2 (some .int) ws ({ frames := 0, cells := 0, slots := 0, locals := 0 } : Room) #[(.int x), (.int y)] h0 (fun v h L => v = some (.int r) ∧ Fr n0 L ∧ h = h0) := by
  refine own_body own_pn2 (fun m => mkF m 0 #[.val (.int x), .val (.int y)] []) (fun m => own_ef_own_max m x y) ?_
  intro p e s m below meth c T0 hx hby hml hlk hrt hZ hown hnm X0 e0
  have hown : s.vm.findClass "java/lang/Math" = some m.cls := hown
  have N0 := Fr.nil n0
  refine own_pre (S' := (T0.setTop (mkF m 1 #[.val (.int x), .val (.int y)] [(.int x)]))) (fun tt_ kk_ => XS.iloadN X0.here hx rfl (hb hby own_d7_0) rfl kk_) ?_
  refine own_pre (S' := (T0.setTop (mkF m 2 #[.val (.int x), .val (.int y)] [(.int y), (.int x)]))) (fun tt_ kk_ => XS.iloadN X0.here hx rfl (hb hby own_d7_1) rfl kk_) ?_
  by_cases c2 : x < y
  · -- pc 2: x < y
    refine own_pre (S' := (T0.setTop (mkF m 9 #[.val (.int x), .val (.int y)] []))) (fun tt_ kk_ => XS.icmpYes X0.here hx rfl (pc0 := 2) (pc' := 9) rfl (hb hby own_d7_2) rfl (tlt c2).1 (by decide) (by decide) kk_) ?_
    refine own_pre (S' := (T0.setTop (mkF m 10 #[.val (.int x), .val (.int y)] [(.int y)]))) (fun tt_ kk_ => XS.iloadN X0.here hx rfl (hb hby own_d7_9) rfl kk_) ?_
    refine own_ret (t := .int) X0 hx hlk hrt rfl (Or.inl ⟨rfl, by simp, _, rfl⟩) (hb hby own_d7_10) (by decide) (by decide) ?_
    exact ⟨by rw [← hr, if_pos c2], N0, e0⟩
  · -- pc 2: not x < y
    refine own_pre (S' := (T0.setTop (mkF m 5 #[.val (.int x), .val (.int y)] []))) (fun tt_ kk_ => XS.icmpNo X0.here hx rfl (hb hby own_d7_2) rfl (flt c2).1 kk_) ?_
    refine own_pre (S' := (T0.setTop (mkF m 6 #[.val (.int x), .val (.int y)] [(.int x)]))) (fun tt_ kk_ => XS.iloadN X0.here hx rfl (hb hby own_d7_5) rfl kk_) ?_
    refine own_pre (S' := (T0.setTop (mkF m 10 #[.val (.int x), .val (.int y)] [(.int x)]))) (fun tt_ kk_ => XS.goto X0.here hx rfl (pc0 := 6) (pc' := 10) rfl (hb hby own_d7_6) (by decide) (by decide) kk_) ?_
    refine own_ret (t := .int) X0 hx hlk hrt rfl (Or.inl ⟨rfl, by simp, _, rfl⟩) (hb hby own_d7_10) (by decide) (by decide) ?_
    exact ⟨by rw [← hr, if_neg c2], N0, e0⟩
set_option maxRecDepth 65536 in
set_option maxHeartbeats 40000000 in
theorem own_min (l : Launch) (Z : State) (a0 : Array Value) (hw : ∀ d ∈ tables_1, d.before a0 Z = true) (ws : List Jvm.Cond) (x y r : Int32) (h0 : Heap) (n0 : Nat) (Z0 : n0 ≤ h0.size) (hr : (if y < x then y else x) = r) :
    own_Met l Z (⟨"java/lang/Math", "min", "(II)I"⟩ : MethodName) jdk_29_method_69_code 2 (some .int) ws ({ frames := 0, cells := 0, slots := 0, locals := 0 } : Room) #[(.int x), (.int y)] h0 (fun v h L => v = some (.int r) ∧ Fr n0 L ∧ h = h0) := by
  refine own_body own_pn3 (fun m => mkF m 0 #[.val (.int x), .val (.int y)] []) (fun m => own_ef_own_min m x y) ?_
  intro p e s m below meth c T0 hx hby hml hlk hrt hZ hown hnm X0 e0
  have hown : s.vm.findClass "java/lang/Math" = some m.cls := hown
  have N0 := Fr.nil n0
  refine own_pre (S' := (T0.setTop (mkF m 1 #[.val (.int x), .val (.int y)] [(.int x)]))) (fun tt_ kk_ => XS.iloadN X0.here hx rfl (hb hby own_d9_0) rfl kk_) ?_
  refine own_pre (S' := (T0.setTop (mkF m 2 #[.val (.int x), .val (.int y)] [(.int y), (.int x)]))) (fun tt_ kk_ => XS.iloadN X0.here hx rfl (hb hby own_d9_1) rfl kk_) ?_
  by_cases c2 : y < x
  · -- pc 2: y < x
    refine own_pre (S' := (T0.setTop (mkF m 9 #[.val (.int x), .val (.int y)] []))) (fun tt_ kk_ => XS.icmpYes X0.here hx rfl (pc0 := 2) (pc' := 9) rfl (hb hby own_d9_2) rfl (tlt c2).2.2.1 (by decide) (by decide) kk_) ?_
    refine own_pre (S' := (T0.setTop (mkF m 10 #[.val (.int x), .val (.int y)] [(.int y)]))) (fun tt_ kk_ => XS.iloadN X0.here hx rfl (hb hby own_d9_9) rfl kk_) ?_
    refine own_ret (t := .int) X0 hx hlk hrt rfl (Or.inl ⟨rfl, by simp, _, rfl⟩) (hb hby own_d9_10) (by decide) (by decide) ?_
    exact ⟨by rw [← hr, if_pos c2], N0, e0⟩
  · -- pc 2: not y < x
    refine own_pre (S' := (T0.setTop (mkF m 5 #[.val (.int x), .val (.int y)] []))) (fun tt_ kk_ => XS.icmpNo X0.here hx rfl (hb hby own_d9_2) rfl (flt c2).2.2.1 kk_) ?_
    refine own_pre (S' := (T0.setTop (mkF m 6 #[.val (.int x), .val (.int y)] [(.int x)]))) (fun tt_ kk_ => XS.iloadN X0.here hx rfl (hb hby own_d9_5) rfl kk_) ?_
    refine own_pre (S' := (T0.setTop (mkF m 10 #[.val (.int x), .val (.int y)] [(.int x)]))) (fun tt_ kk_ => XS.goto X0.here hx rfl (pc0 := 6) (pc' := 10) rfl (hb hby own_d9_6) (by decide) (by decide) kk_) ?_
    refine own_ret (t := .int) X0 hx hlk hrt rfl (Or.inl ⟨rfl, by simp, _, rfl⟩) (hb hby own_d9_10) (by decide) (by decide) ?_
    exact ⟨by rw [← hr, if_neg c2], N0, e0⟩
set_option maxRecDepth 65536 in
set_option maxHeartbeats 40000000 in
theorem own_cpy (l : Launch) (Z : State) (a0 : Array Value) (hw : ∀ d ∈ tables_1, d.before a0 Z = true) (ws : List Jvm.Cond) (x n k : Nat) (nn mm : Int32) (g : Nat → Int32) (h0 : Heap) (n0 : Nat) (Z0 : n0 ≤ h0.size) (hn : nn.toInt = (n : Int)) (hm : mm.toInt = (k : Int)) (hlt : n < k) (hk8 : k ≤ 8) (Ax : own_A Z h0 x .int n (fun i => .int (g i))) :
    own_Met l Z (⟨"java/util/Arrays", "copyOf", "([II)[I"⟩ : MethodName) jdk_65_method_123_code 3 (some (.array .int)) ws ({ frames := 1, cells := 1, slots := 8, locals := 18 } : Room) #[(.ref x), (.int mm)] h0 (fun v h L => ∃ b : Nat, v = some (.ref b) ∧ Fr n0 L ∧ Keep h0 h [] ∧ n0 ≤ b ∧ h0.size ≤ b ∧ own_A Z h b .int k (fun i => .int (if i < n then g i else 0))) := by
  refine own_body own_pn4 (fun m => mkF m 0 #[.val (.ref x), .val (.int mm), .unset] []) (fun m => own_ef_own_cpy m x mm) ?_
  intro p e s m below meth c T0 hx hby hml hlk hrt hZ hown hnm X0 e0
  have hown : s.vm.findClass "java/util/Arrays" = some m.cls := hown
  have N0 := Fr.nil n0
  refine own_pre (S' := (T0.setTop (mkF m 1 #[.val (.ref x), .val (.int mm), .unset] [(.int mm)]))) (fun tt_ kk_ => XS.iloadN X0.here hx rfl (hb hby own_d8_0) rfl kk_) ?_
  refine own_pre (S' := (T0.setTop (mkF m 2 #[.val (.ref x), .val (.int mm), .unset] [(.ref x), (.int mm)]))) (fun tt_ kk_ => XS.aloadN X0.here hx rfl (hb hby own_d8_1) rfl rfl kk_) ?_
  refine own_alen X0 hx hZ e0 Ax (hb hby own_d8_2) ?_
  rw [own_n32 hn]
  show own_Ends p e below s _ _ _ (T0.setTop (mkF m 3 #[.val (.ref x), .val (.int mm), .unset] [(.int nn), (.int mm)]))
  refine own_pre (S' := (T0.setTop (mkF m 14 #[.val (.ref x), .val (.int mm), .unset] []))) (fun tt_ kk_ => XS.icmpYes X0.here hx rfl (pc0 := 3) (pc' := 14) rfl (hb hby own_d8_3) rfl (feq (own_jn hm hn hlt)).2 (by decide) (by decide) kk_) ?_
  refine own_pre (S' := (T0.setTop (mkF m 15 #[.val (.ref x), .val (.int mm), .unset] [(.int mm)]))) (fun tt_ kk_ => XS.iloadN X0.here hx rfl (hb hby own_d8_14) rfl kk_) ?_
  refine own_newA X0 hx hZ .int rfl (hw _ (List.mem_of_getElem? (i := 15) rfl)) e0 (hb hby own_d8_15) k hm 8 hk8 (by decide) (by decide) (by decide) ?_
  intro T1 h1 b1 X1 e1 E1 g1 A1
  have sz_b1 : h0.size ≤ b1 := Nat.le_trans (Nat.le_refl h0.size) (Nat.le_of_eq g1.symm)
  have ge_b1 : n0 ≤ b1 := Nat.le_trans Z0 (Nat.le_of_eq g1.symm)
  have ne_x_b1 : x ≠ b1 := Nat.ne_of_lt (Nat.lt_of_lt_of_le Ax.lt (Nat.le_of_eq g1.symm))
  have A1 : own_A Z h1 b1 .int k (fun q_ => .int ((fun _ => (0 : Int32)) q_)) := A1
  show own_Ends p e below s _ _ _ (T1.setTop (mkF m 17 #[.val (.ref x), .val (.int mm), .unset] [(.ref b1)]))
  refine own_pre (S' := (T1.setTop (mkF m 18 #[.val (.ref x), .val (.int mm), .val (.ref b1)] []))) (fun tt_ kk_ => XS.astoreN X1.here hx rfl (hb hby own_d8_17) rfl rfl (l' := #[.val (.ref x), .val (.int mm), .val (.ref b1)]) rfl kk_) ?_
  refine own_pre (S' := (T1.setTop (mkF m 19 #[.val (.ref x), .val (.int mm), .val (.ref b1)] [(.ref x)]))) (fun tt_ kk_ => XS.aloadN X1.here hx rfl (hb hby own_d8_18) rfl rfl kk_) ?_
  refine own_pre (S' := (T1.setTop (mkF m 20 #[.val (.ref x), .val (.int mm), .val (.ref b1)] [(.int (0 : Int32)), (.ref x)]))) (fun tt_ kk_ => XS.iconst X1.here hx rfl (hb hby own_d8_19) kk_) ?_
  refine own_pre (S' := (T1.setTop (mkF m 21 #[.val (.ref x), .val (.int mm), .val (.ref b1)] [(.ref b1), (.int (0 : Int32)), (.ref x)]))) (fun tt_ kk_ => XS.aloadN X1.here hx rfl (hb hby own_d8_20) rfl rfl kk_) ?_
  refine own_pre (S' := (T1.setTop (mkF m 22 #[.val (.ref x), .val (.int mm), .val (.ref b1)] [(.int (0 : Int32)), (.ref b1), (.int (0 : Int32)), (.ref x)]))) (fun tt_ kk_ => XS.iconst X1.here hx rfl (hb hby own_d8_21) kk_) ?_
  refine own_pre (S' := (T1.setTop (mkF m 23 #[.val (.ref x), .val (.int mm), .val (.ref b1)] [(.ref x), (.int (0 : Int32)), (.ref b1), (.int (0 : Int32)), (.ref x)]))) (fun tt_ kk_ => XS.aloadN X1.here hx rfl (hb hby own_d8_22) rfl rfl kk_) ?_
  refine own_alen X1 hx hZ e1 (Ax.ext E1) (hb hby own_d8_23) ?_
  rw [own_n32 hn]
  show own_Ends p e below s _ _ _ (T1.setTop (mkF m 24 #[.val (.ref x), .val (.int mm), .val (.ref b1)] [(.int nn), (.int (0 : Int32)), (.ref b1), (.int (0 : Int32)), (.ref x)]))
  refine own_pre (S' := (T1.setTop (mkF m 25 #[.val (.ref x), .val (.int mm), .val (.ref b1)] [(.int mm), (.int nn), (.int (0 : Int32)), (.ref b1), (.int (0 : Int32)), (.ref x)]))) (fun tt_ kk_ => XS.iloadN X1.here hx rfl (hb hby own_d8_24) rfl kk_) ?_
  refine own_callS (y := (⟨"java/lang/Math", "min", "(II)I"⟩ : MethodName)) X1 hx hZ hown (hw _ (List.mem_of_getElem? (i := 44) rfl)) (hw _ (List.mem_of_getElem? (i := 45) rfl)) (hw _ (List.mem_of_getElem? (i := 38) rfl)) (hw _ (List.mem_of_getElem? (i := 46) rfl)) (by decide) e1 (hM := own_min l Z a0 hw [] nn mm nn h1 n0 (Nat.le_trans Z0 E1.1) (if_neg (own_jge hm hn (Nat.le_of_lt hlt)))) (W := 4) (pc := 25) (Ls := #[.val (.ref x), .val (.int mm), .val (.ref b1)]) (argsL := [(.int nn), (.int mm)]) (rest := [(.int (0 : Int32)), (.ref b1), (.int (0 : Int32)), (.ref x)]) (st0 := [(.int mm), (.int nn), (.int (0 : Int32)), (.ref b1), (.int (0 : Int32)), (.ref x)]) (by rw [hml]; rfl) (lenOf own_pd1 rfl) rfl (Nat.le_of_eq rfl) (hb hby own_d8_25) (by decide) (by decide) (by decide) (by decide) ?_
  intro v2 T2 L2 X2 hQ2
  obtain ⟨rfl, Nq2, hh2⟩ := hQ2
  have N2 := Fr.app N0 Nq2
  show own_Ends p e below s _ _ _ (T2.setTop (mkF m 28 #[.val (.ref x), .val (.int mm), .val (.ref b1)] [(.int nn), (.int (0 : Int32)), (.ref b1), (.int (0 : Int32)), (.ref x)]))
  refine own_cp X2 hx hZ hown (hw _ (List.mem_of_getElem? (i := 47) rfl)) (hw _ (List.mem_of_getElem? (i := 50) rfl)) (hw _ (List.mem_of_getElem? (i := 48) rfl)) (hw _ (List.mem_of_getElem? (i := 49) rfl)) hh2 (Ax.ext E1) A1 (fun _ => rfl) (fun _ => rfl) rfl n hn (Nat.le_refl _) (Nat.le_of_lt hlt) N2 ge_b1 (pc := 28) (Ls := #[.val (.ref x), .val (.int mm), .val (.ref b1)]) (by rw [hml]; rfl) (rest := []) (hb hby own_d8_28) (by decide) (W := 0) (Nat.le_refl _) (by decide) ?_
  intro T3 h3 L3 X3 e3 N3 K3 A3
  show own_Ends p e below s _ _ _ (T3.setTop (mkF m 31 #[.val (.ref x), .val (.int mm), .val (.ref b1)] []))
  refine own_pre (S' := (T3.setTop (mkF m 32 #[.val (.ref x), .val (.int mm), .val (.ref b1)] [(.ref b1)]))) (fun tt_ kk_ => XS.aloadN X3.here hx rfl (hb hby own_d8_31) rfl rfl kk_) ?_
  refine own_ret (t := (.array .int)) X3 hx hlk hrt rfl (Or.inr (Or.inr (Or.inr (Or.inr ⟨rfl, rfl, rfl⟩)))) (hb hby own_d8_32) (by decide) (by decide) ?_
  show ∃ b : Nat, _ ∧ Fr n0 _ ∧ Keep h0 T3.heap [] ∧ _ ∧ _ ∧ own_A Z T3.heap b .int k _
  rw [e3]
  exact ⟨b1, rfl, N3, (((Keep.refl _ _).ext E1).trans K3 (allS (Or.inr sz_b1) all0)), ge_b1, sz_b1, (A3).congr fun i hi => (apply_ite Value.int _ _ _).symm⟩
set_option maxRecDepth 65536 in
set_option maxHeartbeats 40000000 in
theorem own_addf (l : Launch) (Z : State) (a0 : Array Value) (hw : ∀ d ∈ tables_1, d.before a0 Z = true) (ws : List Jvm.Cond) (a len cap : Nat) (x1 : Int32) (g : Nat → Int32) (h0 : Heap) (n0 : Nat) (Z0 : n0 ≤ h0.size) (h7 : len ≤ 7) (hF : own_few n0 Z h0 a len cap g) (S_ad : Sta Z h0 "java/util/BitSet" "$assertionsDisabled" "Z" (.int (1 : Int32))) :
    own_Met l Z (⟨"com/example/kunci/kunci/NumberSet", "add", "(I)Z"⟩ : MethodName) prog_3_method_2_code 3 (some .boolean) ws ({ frames := 2, cells := 1, slots := 8, locals := 33 } : Room) #[(.ref a), (.int x1)] h0 (fun v h L => ∃ (r : Int32) (len' cap' : Nat) (g' : Nat → Int32), v = some (.int r) ∧ (r = 1 ∧ ¬ own_mem len g x1 ∧ len' = len + 1 ∨ r = 0 ∧ own_mem len g x1 ∧ len' = len) ∧ Fr n0 L ∧ own_few n0 Z h a len' cap' g' ∧ (∀ v, own_mem len' g' v ↔ own_mem len g v ∨ x1 = v) ∧ h0.size ≤ h.size ∧ Sta Z h "java/util/BitSet" "$assertionsDisabled" "Z" (.int (1 : Int32))) := by
  refine own_body own_pn5 (fun m => mkF m 0 #[.val (.ref a), .val (.int x1), .unset] []) (fun m => own_ef_own_addf m a x1) ?_
  intro p e s m below meth c T0 hx hby hml hlk hrt hZ hown hnm X0 e0
  have hown : s.vm.findClass "com/example/kunci/kunci/NumberSet" = some m.cls := hown
  have N0 := Fr.nil n0
  have hF0 := hF
  obtain ⟨aN, sz, ga, gN, naN, hsz, hlc, hc8, hcc, Ea, Fs, Fb, Fn, AN⟩ := hF
  refine own_pre (S' := (T0.setTop (mkF m 1 #[.val (.ref a), .val (.int x1), .unset] [(.ref a)]))) (fun tt_ kk_ => XS.aloadN X0.here hx rfl (hb hby own_d4_0) rfl rfl kk_) ?_
  refine own_pre (S' := (T0.setTop (mkF m 2 #[.val (.ref a), .val (.int x1), .unset] [(.int x1), (.ref a)]))) (fun tt_ kk_ => XS.iloadN X0.here hx rfl (hb hby own_d4_1) rfl kk_) ?_
  refine own_callV (C := "com/example/kunci/kunci/NumberSet") (y := (⟨"com/example/kunci/kunci/NumberSet", "contains", "(I)Z"⟩ : MethodName)) (b := a) X0 hx hZ hown (hw _ (List.mem_of_getElem? (i := 23) rfl)) (hw _ (List.mem_of_getElem? (i := 24) rfl)) (hw _ (List.mem_of_getElem? (i := 26) rfl)) (hw _ (List.mem_of_getElem? (i := 25) rfl)) (hw _ (List.mem_of_getElem? (i := 27) rfl)) (hw _ (List.mem_of_getElem? (i := 8) rfl)) (by decide) e0 Ea (hM := own_conf l Z a0 hw [] a len cap x1 g h0 n0 Z0 hF0) (W := 0) (pc := 2) (Ls := #[.val (.ref a), .val (.int x1), .unset]) (argsL := [(.int x1)]) (rest := []) (st0 := [(.int x1), (.ref a)]) (by rw [hml]; rfl) (lenOf own_pd0 rfl) rfl (Nat.le_of_eq rfl) (hb hby own_d4_2) (by decide) (by decide) (by decide) (by decide) ?_
  intro v1 T1 L1 X1 hQ1
  obtain ⟨r1, rfl, hr1, Nq1, hh1⟩ := hQ1
  have N1 := Fr.app N0 Nq1
  show own_Ends p e below s _ _ _ (T1.setTop (mkF m 5 #[.val (.ref a), .val (.int x1), .unset] [(.int r1)]))
  rcases hr1 with ⟨rfl, hm1⟩ | ⟨rfl, hm1⟩
  ·
    show own_Ends p e below s _ _ _ (T1.setTop (mkF m 5 #[.val (.ref a), .val (.int x1), .unset] [(.int (1 : Int32))]))
    refine own_pre (S' := (T1.setTop (mkF m 8 #[.val (.ref a), .val (.int x1), .unset] []))) (fun tt_ kk_ => XS.ifNo X1.here hx rfl (hb hby own_d4_5) rfl ((if0 _ _).trans (feq (by decide : ¬ ((1 : Int32) = (0 : Int32)))).1) kk_) ?_
    refine own_pre (S' := (T1.setTop (mkF m 9 #[.val (.ref a), .val (.int x1), .unset] [(.int (0 : Int32))]))) (fun tt_ kk_ => XS.iconst X1.here hx rfl (hb hby own_d4_8) kk_) ?_
    refine own_ret (t := .boolean) X1 hx hlk hrt rfl (Or.inl ⟨rfl, by simp, _, rfl⟩) (hb hby own_d4_9) (by decide) (by decide) ?_
    exact ⟨0, len, cap, g, rfl, Or.inr ⟨rfl, hm1, rfl⟩, N1, by rw [show T1.heap = h0 from hh1]; exact hF0, own_mem_self hm1, by rw [show T1.heap = h0 from hh1]; exact ⟨Nat.le_refl _, S_ad⟩⟩
  ·
    show own_Ends p e below s _ _ _ (T1.setTop (mkF m 5 #[.val (.ref a), .val (.int x1), .unset] [(.int (0 : Int32))]))
    refine own_pre (S' := (T1.setTop (mkF m 10 #[.val (.ref a), .val (.int x1), .unset] []))) (fun tt_ kk_ => XS.ifYes X1.here hx rfl (pc0 := 5) (pc' := 10) rfl (hb hby own_d4_5) rfl ((if0 _ _).trans (teq (by decide : ((0 : Int32) = (0 : Int32)))).1) (by decide) (by decide) kk_) ?_
    refine own_pre (S' := (T1.setTop (mkF m 11 #[.val (.ref a), .val (.int x1), .unset] [(.ref a)]))) (fun tt_ kk_ => XS.aloadN X1.here hx rfl (hb hby own_d4_10) rfl rfl kk_) ?_
    obtain ⟨T2, X2, e2, st2⟩ := getF X1 hx hZ hown (host := "") (Or.inl (hw _ (List.mem_of_getElem? (i := 28) rfl))) Via.refl hh1 Fb (g := (mkF m 11 #[.val (.ref a), .val (.int x1), .unset] [(.ref a)])) rfl rfl (hb hby own_d4_11)
    refine own_pre (S' := (T2.setTop (mkF m 14 #[.val (.ref a), .val (.int x1), .unset] [.null]))) st2 ?_
    refine own_pre (S' := (T2.setTop (mkF m 28 #[.val (.ref a), .val (.int x1), .unset] []))) (fun tt_ kk_ => XS.ifnullYes X2.here hx rfl (pc0 := 14) (pc' := 28) rfl (hb hby own_d4_14) rfl (by decide) (by decide) kk_) ?_
    refine own_pre (S' := (T2.setTop (mkF m 29 #[.val (.ref a), .val (.int x1), .unset] [(.ref a)]))) (fun tt_ kk_ => XS.aloadN X2.here hx rfl (hb hby own_d4_28) rfl rfl kk_) ?_
    obtain ⟨T3, X3, e3, st3⟩ := getF X2 hx hZ hown (host := "") (Or.inl (hw _ (List.mem_of_getElem? (i := 34) rfl))) Via.refl e2 Fs (g := (mkF m 29 #[.val (.ref a), .val (.int x1), .unset] [(.ref a)])) rfl rfl (hb hby own_d4_29)
    refine own_pre (S' := (T3.setTop (mkF m 32 #[.val (.ref a), .val (.int x1), .unset] [(.int sz)]))) st3 ?_
    refine own_pre (S' := (T3.setTop (mkF m 34 #[.val (.ref a), .val (.int x1), .unset] [(.int (8 : Int32)), (.int sz)]))) (fun tt_ kk_ => XS.bipush X3.here hx rfl (hb hby own_d4_32) kk_) ?_
    refine own_pre (S' := (T3.setTop (mkF m 37 #[.val (.ref a), .val (.int x1), .unset] []))) (fun tt_ kk_ => XS.icmpNo X3.here hx rfl (hb hby own_d4_34) rfl (tlt (own_lt8 hsz h7)).2.1 kk_) ?_
    refine own_pre (S' := (T3.setTop (mkF m 38 #[.val (.ref a), .val (.int x1), .unset] [(.ref a)]))) (fun tt_ kk_ => XS.aloadN X3.here hx rfl (hb hby own_d4_37) rfl rfl kk_) ?_
    obtain ⟨T4, X4, e4, st4⟩ := getF X3 hx hZ hown (host := "") (Or.inl (hw _ (List.mem_of_getElem? (i := 34) rfl))) Via.refl e3 Fs (g := (mkF m 38 #[.val (.ref a), .val (.int x1), .unset] [(.ref a)])) rfl rfl (hb hby own_d4_38)
    refine own_pre (S' := (T4.setTop (mkF m 41 #[.val (.ref a), .val (.int x1), .unset] [(.int sz)]))) st4 ?_
    refine own_pre (S' := (T4.setTop (mkF m 42 #[.val (.ref a), .val (.int x1), .unset] [(.ref a), (.int sz)]))) (fun tt_ kk_ => XS.aloadN X4.here hx rfl (hb hby own_d4_41) rfl rfl kk_) ?_
    obtain ⟨T5, X5, e5, st5⟩ := getF X4 hx hZ hown (host := "") (Or.inl (hw _ (List.mem_of_getElem? (i := 16) rfl))) Via.refl e4 Fn (g := (mkF m 42 #[.val (.ref a), .val (.int x1), .unset] [(.ref a), (.int sz)])) rfl rfl (hb hby own_d4_42)
    refine own_pre (S' := (T5.setTop (mkF m 45 #[.val (.ref a), .val (.int x1), .unset] [(.ref aN), (.int sz)]))) st5 ?_
    refine own_alen X5 hx hZ e5 AN (hb hby own_d4_45) ?_
    show own_Ends p e below s _ _ _ (T5.setTop (mkF m 46 #[.val (.ref a), .val (.int x1), .unset] [(.int (Nat.toInt32 cap)), (.int sz)]))
    by_cases c46 : sz = (Nat.toInt32 cap)
    · -- pc 46: sz = (Nat.toInt32 cap)
      refine own_pre (S' := (T5.setTop (mkF m 49 #[.val (.ref a), .val (.int x1), .unset] []))) (fun tt_ kk_ => XS.icmpNo X5.here hx rfl (hb hby own_d4_46) rfl (teq c46).2 kk_) ?_
      refine own_pre (S' := (T5.setTop (mkF m 50 #[.val (.ref a), .val (.int x1), .unset] [(.ref a)]))) (fun tt_ kk_ => XS.aloadN X5.here hx rfl (hb hby own_d4_49) rfl rfl kk_) ?_
      refine own_pre (S' := (T5.setTop (mkF m 51 #[.val (.ref a), .val (.int x1), .unset] [(.ref a), (.ref a)]))) (fun tt_ kk_ => XS.aloadN X5.here hx rfl (hb hby own_d4_50) rfl rfl kk_) ?_
      obtain ⟨T6, X6, e6, st6⟩ := getF X5 hx hZ hown (host := "") (Or.inl (hw _ (List.mem_of_getElem? (i := 16) rfl))) Via.refl e5 Fn (g := (mkF m 51 #[.val (.ref a), .val (.int x1), .unset] [(.ref a), (.ref a)])) rfl rfl (hb hby own_d4_51)
      refine own_pre (S' := (T6.setTop (mkF m 54 #[.val (.ref a), .val (.int x1), .unset] [(.ref aN), (.ref a)]))) st6 ?_
      refine own_pre (S' := (T6.setTop (mkF m 55 #[.val (.ref a), .val (.int x1), .unset] [(.int (2 : Int32)), (.ref aN), (.ref a)]))) (fun tt_ kk_ => XS.iconst X6.here hx rfl (hb hby own_d4_54) kk_) ?_
      refine own_pre (S' := (T6.setTop (mkF m 56 #[.val (.ref a), .val (.int x1), .unset] [(.int (2 : Int32)), (.int (2 : Int32)), (.ref aN), (.ref a)]))) (fun tt_ kk_ => XS.iconst X6.here hx rfl (hb hby own_d4_55) kk_) ?_
      refine own_pre (S' := (T6.setTop (mkF m 57 #[.val (.ref a), .val (.int x1), .unset] [(.ref a), (.int (2 : Int32)), (.int (2 : Int32)), (.ref aN), (.ref a)]))) (fun tt_ kk_ => XS.aloadN X6.here hx rfl (hb hby own_d4_56) rfl rfl kk_) ?_
      obtain ⟨T7, X7, e7, st7⟩ := getF X6 hx hZ hown (host := "") (Or.inl (hw _ (List.mem_of_getElem? (i := 34) rfl))) Via.refl e6 Fs (g := (mkF m 57 #[.val (.ref a), .val (.int x1), .unset] [(.ref a), (.int (2 : Int32)), (.int (2 : Int32)), (.ref aN), (.ref a)])) rfl rfl (hb hby own_d4_57)
      refine own_pre (S' := (T7.setTop (mkF m 60 #[.val (.ref a), .val (.int x1), .unset] [(.int sz), (.int (2 : Int32)), (.int (2 : Int32)), (.ref aN), (.ref a)]))) st7 ?_
      refine own_pre (S' := (T7.setTop (mkF m 61 #[.val (.ref a), .val (.int x1), .unset] [(.int ((2 : Int32) * sz)), (.int (2 : Int32)), (.ref aN), (.ref a)]))) (fun tt_ kk_ => XS.imul X7.here hx rfl (hb hby own_d4_60) rfl kk_) ?_
      have ecap := own_eqc hsz hc8 c46
      obtain ⟨mm, hmm, hmk⟩ := own_mm hsz hcc ecap
      obtain ⟨hg1, hg2, hg3⟩ := own_grow hcc ecap h7
      refine own_callS (y := (⟨"java/lang/Math", "max", "(II)I"⟩ : MethodName)) X7 hx hZ hown (hw _ (List.mem_of_getElem? (i := 36) rfl)) (hw _ (List.mem_of_getElem? (i := 37) rfl)) (hw _ (List.mem_of_getElem? (i := 38) rfl)) (hw _ (List.mem_of_getElem? (i := 39) rfl)) (by decide) e7 (hM := own_max l Z a0 hw [] (2 : Int32) ((2 : Int32) * sz) mm h0 n0 Z0 hmm) (W := 2) (pc := 61) (Ls := #[.val (.ref a), .val (.int x1), .unset]) (argsL := [(.int (2 : Int32)), (.int ((2 : Int32) * sz))]) (rest := [(.ref aN), (.ref a)]) (st0 := [(.int ((2 : Int32) * sz)), (.int (2 : Int32)), (.ref aN), (.ref a)]) (by rw [hml]; rfl) (lenOf own_pd1 rfl) rfl (Nat.le_of_eq rfl) (hb hby own_d4_61) (by decide) (by decide) (by decide) (by decide) ?_
      intro v8 T8 L8 X8 hQ8
      obtain ⟨rfl, Nq8, hh8⟩ := hQ8
      have N8 := Fr.app N1 Nq8
      show own_Ends p e below s _ _ _ (T8.setTop (mkF m 64 #[.val (.ref a), .val (.int x1), .unset] [(.int mm), (.ref aN), (.ref a)]))
      refine own_callS (y := (⟨"java/util/Arrays", "copyOf", "([II)[I"⟩ : MethodName)) X8 hx hZ hown (hw _ (List.mem_of_getElem? (i := 40) rfl)) (hw _ (List.mem_of_getElem? (i := 41) rfl)) (hw _ (List.mem_of_getElem? (i := 42) rfl)) (hw _ (List.mem_of_getElem? (i := 43) rfl)) (by decide) hh8 (hM := own_cpy l Z a0 hw [] aN len (own_gk len) sz mm g h0 n0 Z0 hsz hmk hg1 hg2 (ecap ▸ AN)) (W := 1) (pc := 64) (Ls := #[.val (.ref a), .val (.int x1), .unset]) (argsL := [(.ref aN), (.int mm)]) (rest := [(.ref a)]) (st0 := [(.int mm), (.ref aN), (.ref a)]) (by rw [hml]; rfl) (lenOf own_pd2 rfl) rfl (Nat.le_of_eq rfl) (hb hby own_d4_64) (by decide) (by decide) (by decide) (by decide) ?_
      intro v9 T9 L9 X9 hQ9
      obtain ⟨bq, rfl, Nq9, K9, ge_bq, gz9, Ab9⟩ := hQ9
      have N9 := Fr.app N8 Nq9
      show own_Ends p e below s _ _ _ (T9.setTop (mkF m 67 #[.val (.ref a), .val (.int x1), .unset] [(.ref bq), (.ref a)]))
      have ne_a_bq : a ≠ bq := Nat.ne_of_lt (Nat.lt_of_lt_of_le Ea.lt gz9)
      obtain ⟨T10, h10, X10, e10, W10, st10⟩ := putF X9 hx hZ hown (host := "") (Or.inl (hw _ (List.mem_of_getElem? (i := 16) rfl))) Via.refl (rfl : T9.heap = T9.heap) (Fn.keep K9 nin0) (Ea.keep K9) (Or.inl (hw _ (List.mem_of_getElem? (i := 17) rfl))) (hw _ (List.mem_of_getElem? (i := 7) rfl)) (ty := (.array .int)) (by decide) rfl rfl (g := (mkF m 67 #[.val (.ref a), .val (.int x1), .unset] [(.ref bq), (.ref a)])) rfl rfl (hb hby own_d4_67)
      have N10 := Fr.snoc X10 N9 ga
      have Fw10 := (Fn.keep K9 nin0).same W10
      refine own_pre (S' := (T10.setTop (mkF m 70 #[.val (.ref a), .val (.int x1), .unset] []))) st10 ?_
      refine own_pre (S' := (T10.setTop (mkF m 71 #[.val (.ref a), .val (.int x1), .unset] [(.ref a)]))) (fun tt_ kk_ => XS.aloadN X10.here hx rfl (hb hby own_d4_70) rfl rfl kk_) ?_
      obtain ⟨T11, X11, e11, st11⟩ := getF X10 hx hZ hown (host := "") (Or.inl (hw _ (List.mem_of_getElem? (i := 16) rfl))) Via.refl e10 Fw10 (g := (mkF m 71 #[.val (.ref a), .val (.int x1), .unset] [(.ref a)])) rfl rfl (hb hby own_d4_71)
      refine own_pre (S' := (T11.setTop (mkF m 74 #[.val (.ref a), .val (.int x1), .unset] [(.ref bq)]))) st11 ?_
      refine own_pre (S' := (T11.setTop (mkF m 75 #[.val (.ref a), .val (.int x1), .unset] [(.ref a), (.ref bq)]))) (fun tt_ kk_ => XS.aloadN X11.here hx rfl (hb hby own_d4_74) rfl rfl kk_) ?_
      obtain ⟨T12, X12, e12, st12⟩ := getF X11 hx hZ hown (host := "") (Or.inl (hw _ (List.mem_of_getElem? (i := 34) rfl))) Via.refl e11 ((Fs.keep K9 nin0).other W10 (Or.inr (slot_ne (C := "com/example/kunci/kunci/NumberSet") (Or.inl (hw _ (List.mem_of_getElem? (i := 35) rfl))) (Or.inl (hw _ (List.mem_of_getElem? (i := 17) rfl))) (by decide) (t := .int) (t' := (.array .int)) (by decide) (by decide)))) (g := (mkF m 75 #[.val (.ref a), .val (.int x1), .unset] [(.ref a), (.ref bq)])) rfl rfl (hb hby own_d4_75)
      refine own_pre (S' := (T12.setTop (mkF m 78 #[.val (.ref a), .val (.int x1), .unset] [(.int sz), (.ref bq)]))) st12 ?_
      refine own_pre (S' := (T12.setTop (mkF m 79 #[.val (.ref a), .val (.int x1), .unset] [(.int x1), (.int sz), (.ref bq)]))) (fun tt_ kk_ => XS.iloadN X12.here hx rfl (hb hby own_d4_78) rfl kk_) ?_
      refine own_iast X12 hx hZ e12 (Ab9.other W10 (Ne.symm ne_a_bq)) len hsz hg1 (hb hby own_d4_79) ?_
      intro T13 h13 X13 e13 W13 A13
      have N13 := Fr.snoc X13 N10 ge_bq
      obtain ⟨g13, hg13⟩ : ∃ gq_ : Nat → Int32, gq_ = fun q_ => if q_ = len then x1 else (fun i => if i < len then g i else 0) q_ := ⟨_, rfl⟩
      have A13 : own_A Z h13 bq .int (own_gk len) (fun q_ => .int (g13 q_)) := by rw [hg13]; exact A13
      show own_Ends p e below s _ _ _ (T13.setTop (mkF m 80 #[.val (.ref a), .val (.int x1), .unset] []))
      refine own_pre (S' := (T13.setTop (mkF m 136 #[.val (.ref a), .val (.int x1), .unset] []))) (fun tt_ kk_ => XS.goto X13.here hx rfl (pc0 := 80) (pc' := 136) rfl (hb hby own_d4_80) (by decide) (by decide) kk_) ?_
      refine own_pre (S' := (T13.setTop (mkF m 137 #[.val (.ref a), .val (.int x1), .unset] [(.ref a)]))) (fun tt_ kk_ => XS.aloadN X13.here hx rfl (hb hby own_d4_136) rfl rfl kk_) ?_
      refine own_pre (S' := (T13.setTop (mkF m 138 #[.val (.ref a), .val (.int x1), .unset] [(.ref a), (.ref a)]))) (fun tt_ kk_ => XS.dup X13.here hx rfl (hb hby own_d4_137) rfl rfl kk_) ?_
      obtain ⟨T14, X14, e14, st14⟩ := getF X13 hx hZ hown (host := "") (Or.inl (hw _ (List.mem_of_getElem? (i := 34) rfl))) Via.refl e13 (((Fs.keep K9 nin0).other W10 (Or.inr (slot_ne (C := "com/example/kunci/kunci/NumberSet") (Or.inl (hw _ (List.mem_of_getElem? (i := 35) rfl))) (Or.inl (hw _ (List.mem_of_getElem? (i := 17) rfl))) (by decide) (t := .int) (t' := (.array .int)) (by decide) (by decide)))).other W13 (Or.inl ne_a_bq)) (g := (mkF m 138 #[.val (.ref a), .val (.int x1), .unset] [(.ref a), (.ref a)])) rfl rfl (hb hby own_d4_138)
      refine own_pre (S' := (T14.setTop (mkF m 141 #[.val (.ref a), .val (.int x1), .unset] [(.int sz), (.ref a)]))) st14 ?_
      refine own_pre (S' := (T14.setTop (mkF m 142 #[.val (.ref a), .val (.int x1), .unset] [(.int (1 : Int32)), (.int sz), (.ref a)]))) (fun tt_ kk_ => XS.iconst X14.here hx rfl (hb hby own_d4_141) kk_) ?_
      refine own_pre (S' := (T14.setTop (mkF m 143 #[.val (.ref a), .val (.int x1), .unset] [(.int (sz + (1 : Int32))), (.ref a)]))) (fun tt_ kk_ => XS.iadd X14.here hx rfl (hb hby own_d4_142) rfl kk_) ?_
      obtain ⟨T15, h15, X15, e15, W15, st15⟩ := putF X14 hx hZ hown (host := "") (Or.inl (hw _ (List.mem_of_getElem? (i := 34) rfl))) Via.refl e14 (((Fs.keep K9 nin0).other W10 (Or.inr (slot_ne (C := "com/example/kunci/kunci/NumberSet") (Or.inl (hw _ (List.mem_of_getElem? (i := 35) rfl))) (Or.inl (hw _ (List.mem_of_getElem? (i := 17) rfl))) (by decide) (t := .int) (t' := (.array .int)) (by decide) (by decide)))).other W13 (Or.inl ne_a_bq)) (((Ea.keep K9).wr W10).wr W13) (Or.inl (hw _ (List.mem_of_getElem? (i := 35) rfl))) (hw _ (List.mem_of_getElem? (i := 7) rfl)) (ty := .int) (by decide) rfl rfl (g := (mkF m 143 #[.val (.ref a), .val (.int x1), .unset] [(.int (sz + (1 : Int32))), (.ref a)])) rfl rfl (hb hby own_d4_143)
      have N15 := Fr.snoc X15 N13 ga
      have Fw15 := (((Fs.keep K9 nin0).other W10 (Or.inr (slot_ne (C := "com/example/kunci/kunci/NumberSet") (Or.inl (hw _ (List.mem_of_getElem? (i := 35) rfl))) (Or.inl (hw _ (List.mem_of_getElem? (i := 17) rfl))) (by decide) (t := .int) (t' := (.array .int)) (by decide) (by decide)))).other W13 (Or.inl ne_a_bq)).same W15
      refine own_pre (S' := (T15.setTop (mkF m 146 #[.val (.ref a), .val (.int x1), .unset] []))) st15 ?_
      refine own_pre (S' := (T15.setTop (mkF m 147 #[.val (.ref a), .val (.int x1), .unset] [(.int (1 : Int32))]))) (fun tt_ kk_ => XS.iconst X15.here hx rfl (hb hby own_d4_146) kk_) ?_
      refine own_ret (t := .boolean) X15 hx hlk hrt rfl (Or.inl ⟨rfl, by simp, _, rfl⟩) (hb hby own_d4_147) (by decide) (by decide) ?_
      show ∃ (r : Int32) (len' cap' : Nat) (g' : Nat → Int32), _ ∧ _ ∧ Fr n0 _ ∧ own_few n0 Z T15.heap a len' cap' g' ∧ _ ∧ _ ≤ T15.heap.size ∧ Sta Z T15.heap _ _ _ _
      rw [e15]
      refine ⟨1, len + 1, (own_gk len), g13, rfl, Or.inl ⟨rfl, hm1, rfl⟩, N15, ⟨bq, _, ga, ge_bq, ne_a_bq, own_s1 hsz (by omega), hg1, hg2, hg3, ((((Ea.keep K9).wr W10).wr W13).wr W15), Fw15, ((((Fb.keep K9 nin0).other W10 (Or.inr (slot_ne (C := "com/example/kunci/kunci/NumberSet") (Or.inl (hw _ (List.mem_of_getElem? (i := 29) rfl))) (Or.inl (hw _ (List.mem_of_getElem? (i := 17) rfl))) (by decide) (t := (.object "java/util/BitSet")) (t' := (.array .int)) (by decide) (by decide)))).other W13 (Or.inl ne_a_bq)).other W15 (Or.inr (slot_ne (C := "com/example/kunci/kunci/NumberSet") (Or.inl (hw _ (List.mem_of_getElem? (i := 29) rfl))) (Or.inl (hw _ (List.mem_of_getElem? (i := 35) rfl))) (by decide) (t := (.object "java/util/BitSet")) (t' := .int) (by decide) (by decide)))), ((Fw10.other W13 (Or.inl ne_a_bq)).other W15 (Or.inr (slot_ne (C := "com/example/kunci/kunci/NumberSet") (Or.inl (hw _ (List.mem_of_getElem? (i := 17) rfl))) (Or.inl (hw _ (List.mem_of_getElem? (i := 35) rfl))) (by decide) (t := (.array .int)) (t' := .int) (by decide) (by decide)))), (A13.other W15 (Ne.symm ne_a_bq))⟩, fun v => own_mem_upd (own_updB hg13) v, (Nat.le_trans (Nat.le_trans (Nat.le_trans (Nat.le_trans (Nat.le_refl h0.size) K9.1) (Nat.le_of_eq W10.size.symm)) (Nat.le_of_eq W13.size.symm)) (Nat.le_of_eq W15.size.symm)), ((((own_sta_keep S_ad K9 all0).wr W10).wr W13).wr W15)⟩
    · -- pc 46: not sz = (Nat.toInt32 cap)
      refine own_pre (S' := (T5.setTop (mkF m 70 #[.val (.ref a), .val (.int x1), .unset] []))) (fun tt_ kk_ => XS.icmpYes X5.here hx rfl (pc0 := 46) (pc' := 70) rfl (hb hby own_d4_46) rfl (feq c46).2 (by decide) (by decide) kk_) ?_
      refine own_pre (S' := (T5.setTop (mkF m 71 #[.val (.ref a), .val (.int x1), .unset] [(.ref a)]))) (fun tt_ kk_ => XS.aloadN X5.here hx rfl (hb hby own_d4_70) rfl rfl kk_) ?_
      obtain ⟨T16, X16, e16, st16⟩ := getF X5 hx hZ hown (host := "") (Or.inl (hw _ (List.mem_of_getElem? (i := 16) rfl))) Via.refl e5 Fn (g := (mkF m 71 #[.val (.ref a), .val (.int x1), .unset] [(.ref a)])) rfl rfl (hb hby own_d4_71)
      refine own_pre (S' := (T16.setTop (mkF m 74 #[.val (.ref a), .val (.int x1), .unset] [(.ref aN)]))) st16 ?_
      refine own_pre (S' := (T16.setTop (mkF m 75 #[.val (.ref a), .val (.int x1), .unset] [(.ref a), (.ref aN)]))) (fun tt_ kk_ => XS.aloadN X16.here hx rfl (hb hby own_d4_74) rfl rfl kk_) ?_
      obtain ⟨T17, X17, e17, st17⟩ := getF X16 hx hZ hown (host := "") (Or.inl (hw _ (List.mem_of_getElem? (i := 34) rfl))) Via.refl e16 Fs (g := (mkF m 75 #[.val (.ref a), .val (.int x1), .unset] [(.ref a), (.ref aN)])) rfl rfl (hb hby own_d4_75)
      refine own_pre (S' := (T17.setTop (mkF m 78 #[.val (.ref a), .val (.int x1), .unset] [(.int sz), (.ref aN)]))) st17 ?_
      refine own_pre (S' := (T17.setTop (mkF m 79 #[.val (.ref a), .val (.int x1), .unset] [(.int x1), (.int sz), (.ref aN)]))) (fun tt_ kk_ => XS.iloadN X17.here hx rfl (hb hby own_d4_78) rfl kk_) ?_
      refine own_iast X17 hx hZ e17 AN len hsz (own_nec hsz hc8 hlc c46) (hb hby own_d4_79) ?_
      intro T18 h18 X18 e18 W18 A18
      have N18 := Fr.snoc X18 N1 gN
      obtain ⟨g18, hg18⟩ : ∃ gq_ : Nat → Int32, gq_ = fun q_ => if q_ = len then x1 else g q_ := ⟨_, rfl⟩
      have A18 : own_A Z h18 aN .int cap (fun q_ => .int (g18 q_)) := by rw [hg18]; exact A18
      show own_Ends p e below s _ _ _ (T18.setTop (mkF m 80 #[.val (.ref a), .val (.int x1), .unset] []))
      refine own_pre (S' := (T18.setTop (mkF m 136 #[.val (.ref a), .val (.int x1), .unset] []))) (fun tt_ kk_ => XS.goto X18.here hx rfl (pc0 := 80) (pc' := 136) rfl (hb hby own_d4_80) (by decide) (by decide) kk_) ?_
      refine own_pre (S' := (T18.setTop (mkF m 137 #[.val (.ref a), .val (.int x1), .unset] [(.ref a)]))) (fun tt_ kk_ => XS.aloadN X18.here hx rfl (hb hby own_d4_136) rfl rfl kk_) ?_
      refine own_pre (S' := (T18.setTop (mkF m 138 #[.val (.ref a), .val (.int x1), .unset] [(.ref a), (.ref a)]))) (fun tt_ kk_ => XS.dup X18.here hx rfl (hb hby own_d4_137) rfl rfl kk_) ?_
      obtain ⟨T19, X19, e19, st19⟩ := getF X18 hx hZ hown (host := "") (Or.inl (hw _ (List.mem_of_getElem? (i := 34) rfl))) Via.refl e18 (Fs.other W18 (Or.inl naN)) (g := (mkF m 138 #[.val (.ref a), .val (.int x1), .unset] [(.ref a), (.ref a)])) rfl rfl (hb hby own_d4_138)
      refine own_pre (S' := (T19.setTop (mkF m 141 #[.val (.ref a), .val (.int x1), .unset] [(.int sz), (.ref a)]))) st19 ?_
      refine own_pre (S' := (T19.setTop (mkF m 142 #[.val (.ref a), .val (.int x1), .unset] [(.int (1 : Int32)), (.int sz), (.ref a)]))) (fun tt_ kk_ => XS.iconst X19.here hx rfl (hb hby own_d4_141) kk_) ?_
      refine own_pre (S' := (T19.setTop (mkF m 143 #[.val (.ref a), .val (.int x1), .unset] [(.int (sz + (1 : Int32))), (.ref a)]))) (fun tt_ kk_ => XS.iadd X19.here hx rfl (hb hby own_d4_142) rfl kk_) ?_
      obtain ⟨T20, h20, X20, e20, W20, st20⟩ := putF X19 hx hZ hown (host := "") (Or.inl (hw _ (List.mem_of_getElem? (i := 34) rfl))) Via.refl e19 (Fs.other W18 (Or.inl naN)) (Ea.wr W18) (Or.inl (hw _ (List.mem_of_getElem? (i := 35) rfl))) (hw _ (List.mem_of_getElem? (i := 7) rfl)) (ty := .int) (by decide) rfl rfl (g := (mkF m 143 #[.val (.ref a), .val (.int x1), .unset] [(.int (sz + (1 : Int32))), (.ref a)])) rfl rfl (hb hby own_d4_143)
      have N20 := Fr.snoc X20 N18 ga
      have Fw20 := (Fs.other W18 (Or.inl naN)).same W20
      refine own_pre (S' := (T20.setTop (mkF m 146 #[.val (.ref a), .val (.int x1), .unset] []))) st20 ?_
      refine own_pre (S' := (T20.setTop (mkF m 147 #[.val (.ref a), .val (.int x1), .unset] [(.int (1 : Int32))]))) (fun tt_ kk_ => XS.iconst X20.here hx rfl (hb hby own_d4_146) kk_) ?_
      refine own_ret (t := .boolean) X20 hx hlk hrt rfl (Or.inl ⟨rfl, by simp, _, rfl⟩) (hb hby own_d4_147) (by decide) (by decide) ?_
      show ∃ (r : Int32) (len' cap' : Nat) (g' : Nat → Int32), _ ∧ _ ∧ Fr n0 _ ∧ own_few n0 Z T20.heap a len' cap' g' ∧ _ ∧ _ ≤ T20.heap.size ∧ Sta Z T20.heap _ _ _ _
      rw [e20]
      refine ⟨1, len + 1, cap, g18, rfl, Or.inl ⟨rfl, hm1, rfl⟩, N20, ⟨aN, _, ga, gN, naN, own_s1 hsz (by omega), (own_nec hsz hc8 hlc c46), hc8, hcc, ((Ea.wr W18).wr W20), Fw20, ((Fb.other W18 (Or.inl naN)).other W20 (Or.inr (slot_ne (C := "com/example/kunci/kunci/NumberSet") (Or.inl (hw _ (List.mem_of_getElem? (i := 29) rfl))) (Or.inl (hw _ (List.mem_of_getElem? (i := 35) rfl))) (by decide) (t := (.object "java/util/BitSet")) (t' := .int) (by decide) (by decide)))), ((Fn.other W18 (Or.inl naN)).other W20 (Or.inr (slot_ne (C := "com/example/kunci/kunci/NumberSet") (Or.inl (hw _ (List.mem_of_getElem? (i := 17) rfl))) (Or.inl (hw _ (List.mem_of_getElem? (i := 35) rfl))) (by decide) (t := (.array .int)) (t' := .int) (by decide) (by decide)))), (A18.other W20 (Ne.symm naN))⟩, fun v => own_mem_upd (own_updA hg18) v, (Nat.le_trans (Nat.le_trans (Nat.le_refl h0.size) (Nat.le_of_eq W18.size.symm)) (Nat.le_of_eq W20.size.symm)), ((S_ad.wr W18).wr W20)⟩
set_option maxRecDepth 65536 in
set_option maxHeartbeats 40000000 in
theorem own_wi (l : Launch) (Z : State) (a0 : Array Value) (hw : ∀ d ∈ tables_1, d.before a0 Z = true) (ws : List Jvm.Cond) (i r : Int32) (h0 : Heap) (n0 : Nat) (Z0 : n0 ≤ h0.size) (hr : (i >>> ((6 : Int32) &&& 31)) = r) :
    own_Met l Z (⟨"java/util/BitSet", "wordIndex", "(I)I"⟩ : MethodName) jdk_92_method_1_code 1 (some .int) ws ({ frames := 0, cells := 0, slots := 0, locals := 0 } : Room) #[(.int i)] h0 (fun v h L => v = some (.int r) ∧ Fr n0 L ∧ h = h0) := by
  refine own_body own_pn6 (fun m => mkF m 0 #[.val (.int i)] []) (fun m => own_ef_own_wi m i) ?_
  intro p e s m below meth c T0 hx hby hml hlk hrt hZ hown hnm X0 e0
  have hown : s.vm.findClass "java/util/BitSet" = some m.cls := hown
  have N0 := Fr.nil n0
  refine own_pre (S' := (T0.setTop (mkF m 1 #[.val (.int i)] [(.int i)]))) (fun tt_ kk_ => XS.iloadN X0.here hx rfl (hb hby own_d13_0) rfl kk_) ?_
  refine own_pre (S' := (T0.setTop (mkF m 3 #[.val (.int i)] [(.int (6 : Int32)), (.int i)]))) (fun tt_ kk_ => XS.bipush X0.here hx rfl (hb hby own_d13_1) kk_) ?_
  refine own_pre (S' := (T0.setTop (mkF m 4 #[.val (.int i)] [(.int (i >>> ((6 : Int32) &&& 31)))]))) (fun tt_ kk_ => XS.ishr X0.here hx rfl (hb hby own_d13_3) rfl kk_) ?_
  refine own_ret (t := .int) X0 hx hlk hrt rfl (Or.inl ⟨rfl, by simp, _, rfl⟩) (hb hby own_d13_4) (by decide) (by decide) ?_
  exact ⟨by rw [← hr], N0, e0⟩
set_option maxRecDepth 65536 in
set_option maxHeartbeats 40000000 in
theorem own_ci (l : Launch) (Z : State) (a0 : Array Value) (hw : ∀ d ∈ tables_1, d.before a0 Z = true) (ws : List Jvm.Cond) (b : Nat) (h0 : Heap) (n0 : Nat) (Z0 : n0 ≤ h0.size) (S_ad : Sta Z h0 "java/util/BitSet" "$assertionsDisabled" "Z" (.int (1 : Int32))) :
    own_Met l Z (⟨"java/util/BitSet", "checkInvariants", "()V"⟩ : MethodName) jdk_92_method_2_code 1 none ws ({ frames := 0, cells := 0, slots := 0, locals := 0 } : Room) #[(.ref b)] h0 (fun v h L => v = none ∧ Fr n0 L ∧ h = h0) := by
  refine own_body own_pn7 (fun m => mkF m 0 #[.val (.ref b)] []) (fun m => own_ef_own_ci m b) ?_
  intro p e s m below meth c T0 hx hby hml hlk hrt hZ hown hnm X0 e0
  have hown : s.vm.findClass "java/util/BitSet" = some m.cls := hown
  have N0 := Fr.nil n0
  obtain ⟨T1, X1, e1, st1⟩ := getS2 X0 hx hZ hown (host := "") (Or.inl (hw _ (List.mem_of_getElem? (i := 97) rfl))) Via.refl e0 S_ad (g := (mkF m 0 #[.val (.ref b)] [])) rfl (hb hby own_d17_0)
  refine own_pre (S' := (T1.setTop (mkF m 3 #[.val (.ref b)] [(.int (1 : Int32))]))) st1 ?_
  refine own_pre (S' := (T1.setTop (mkF m 37 #[.val (.ref b)] []))) (fun tt_ kk_ => XS.ifYes X1.here hx rfl (pc0 := 3) (pc' := 37) rfl (hb hby own_d17_3) rfl ((if0 _ _).trans (feq (by decide : ¬ ((1 : Int32) = (0 : Int32)))).2) (by decide) (by decide) kk_) ?_
  obtain ⟨T2, X2, e2, st2⟩ := getS2 X1 hx hZ hown (host := "") (Or.inl (hw _ (List.mem_of_getElem? (i := 97) rfl))) Via.refl e1 S_ad (g := (mkF m 37 #[.val (.ref b)] [])) rfl (hb hby own_d17_37)
  refine own_pre (S' := (T2.setTop (mkF m 40 #[.val (.ref b)] [(.int (1 : Int32))]))) st2 ?_
  refine own_pre (S' := (T2.setTop (mkF m 70 #[.val (.ref b)] []))) (fun tt_ kk_ => XS.ifYes X2.here hx rfl (pc0 := 40) (pc' := 70) rfl (hb hby own_d17_40) rfl ((if0 _ _).trans (feq (by decide : ¬ ((1 : Int32) = (0 : Int32)))).2) (by decide) (by decide) kk_) ?_
  obtain ⟨T3, X3, e3, st3⟩ := getS2 X2 hx hZ hown (host := "") (Or.inl (hw _ (List.mem_of_getElem? (i := 97) rfl))) Via.refl e2 S_ad (g := (mkF m 70 #[.val (.ref b)] [])) rfl (hb hby own_d17_70)
  refine own_pre (S' := (T3.setTop (mkF m 73 #[.val (.ref b)] [(.int (1 : Int32))]))) st3 ?_
  refine own_pre (S' := (T3.setTop (mkF m 110 #[.val (.ref b)] []))) (fun tt_ kk_ => XS.ifYes X3.here hx rfl (pc0 := 73) (pc' := 110) rfl (hb hby own_d17_73) rfl ((if0 _ _).trans (feq (by decide : ¬ ((1 : Int32) = (0 : Int32)))).2) (by decide) (by decide) kk_) ?_
  refine own_retV X3 hx hlk hrt (hb hby own_d17_110) (by decide) (by decide) ?_
  exact ⟨rfl, N0, e3⟩
set_option maxRecDepth 65536 in
set_option maxHeartbeats 40000000 in
theorem own_iw (l : Launch) (Z : State) (a0 : Array Value) (hw : ∀ d ∈ tables_1, d.before a0 Z = true) (ws : List Jvm.Cond) (b : Nat) (h0 : Heap) (n0 : Nat) (Z0 : n0 ≤ h0.size) (Eb : Exa Z h0 b "java/util/BitSet") (Fw : Fld Z h0 b "java/util/BitSet" "words" "[J" .null) (gb : n0 ≤ b) (Fu : Fld Z h0 b "java/util/BitSet" "wordsInUse" "I" (.int (0 : Int32))) (Fs : Fld Z h0 b "java/util/BitSet" "sizeIsSticky" "Z" (.int (0 : Int32))) :
    own_Met l Z (⟨"java/util/BitSet", "initWords", "(I)V"⟩ : MethodName) jdk_92_method_6_code 2 none ws ({ frames := 1, cells := 1, slots := 1, locals := 13 } : Room) #[(.ref b), (.int (64 : Int32))] h0 (fun v h L => v = none ∧ Fr n0 L ∧ Keep h0 h [b] ∧ ∃ w : Nat, n0 ≤ w ∧ h0.size ≤ w ∧ Fld Z h b "java/util/BitSet" "words" "[J" (.ref w) ∧ own_A Z h w .long 1 (fun i => .long ((fun _ => 0) i)) ∧ Fld Z h b "java/util/BitSet" "wordsInUse" "I" (.int (0 : Int32)) ∧ Fld Z h b "java/util/BitSet" "sizeIsSticky" "Z" (.int (0 : Int32))) := by
  refine own_body own_pn8 (fun m => mkF m 0 #[.val (.ref b), .val (.int (64 : Int32))] []) (fun m => own_ef_own_iw m b (64 : Int32)) ?_
  intro p e s m below meth c T0 hx hby hml hlk hrt hZ hown hnm X0 e0
  have hown : s.vm.findClass "java/util/BitSet" = some m.cls := hown
  have N0 := Fr.nil n0
  refine own_pre (S' := (T0.setTop (mkF m 1 #[.val (.ref b), .val (.int (64 : Int32))] [(.ref b)]))) (fun tt_ kk_ => XS.aloadN X0.here hx rfl (hb hby own_d12_0) rfl rfl kk_) ?_
  refine own_pre (S' := (T0.setTop (mkF m 2 #[.val (.ref b), .val (.int (64 : Int32))] [(.int (64 : Int32)), (.ref b)]))) (fun tt_ kk_ => XS.iloadN X0.here hx rfl (hb hby own_d12_1) rfl kk_) ?_
  refine own_pre (S' := (T0.setTop (mkF m 3 #[.val (.ref b), .val (.int (64 : Int32))] [(.int (1 : Int32)), (.int (64 : Int32)), (.ref b)]))) (fun tt_ kk_ => XS.iconst X0.here hx rfl (hb hby own_d12_2) kk_) ?_
  refine own_pre (S' := (T0.setTop (mkF m 4 #[.val (.ref b), .val (.int (64 : Int32))] [(.int (63 : Int32)), (.ref b)]))) (fun tt_ kk_ => XS.isub X0.here hx rfl (hb hby own_d12_3) rfl kk_) ?_
  refine own_callS (y := (⟨"java/util/BitSet", "wordIndex", "(I)I"⟩ : MethodName)) X0 hx hZ hown (hw _ (List.mem_of_getElem? (i := 71) rfl)) (hw _ (List.mem_of_getElem? (i := 72) rfl)) (hw _ (List.mem_of_getElem? (i := 57) rfl)) (hw _ (List.mem_of_getElem? (i := 73) rfl)) (by decide) e0 (hM := own_wi l Z a0 hw [] (63 : Int32) (0 : Int32) h0 n0 Z0 (by decide)) (W := 1) (pc := 4) (Ls := #[.val (.ref b), .val (.int (64 : Int32))]) (argsL := [(.int (63 : Int32))]) (rest := [(.ref b)]) (st0 := [(.int (63 : Int32)), (.ref b)]) (by rw [hml]; rfl) (lenOf own_pd3 rfl) rfl (Nat.le_of_eq rfl) (hb hby own_d12_4) (by decide) (by decide) (by decide) (by decide) ?_
  intro v1 T1 L1 X1 hQ1
  obtain ⟨rfl, Nq1, hh1⟩ := hQ1
  have N1 := Fr.app N0 Nq1
  show own_Ends p e below s _ _ _ (T1.setTop (mkF m 7 #[.val (.ref b), .val (.int (64 : Int32))] [(.int (0 : Int32)), (.ref b)]))
  refine own_pre (S' := (T1.setTop (mkF m 8 #[.val (.ref b), .val (.int (64 : Int32))] [(.int (1 : Int32)), (.int (0 : Int32)), (.ref b)]))) (fun tt_ kk_ => XS.iconst X1.here hx rfl (hb hby own_d12_7) kk_) ?_
  refine own_pre (S' := (T1.setTop (mkF m 9 #[.val (.ref b), .val (.int (64 : Int32))] [(.int (1 : Int32)), (.ref b)]))) (fun tt_ kk_ => XS.iadd X1.here hx rfl (hb hby own_d12_8) rfl kk_) ?_
  refine own_newA X1 hx hZ .long rfl (hw _ (List.mem_of_getElem? (i := 74) rfl)) hh1 (hb hby own_d12_9) 1 rfl 1 (by decide) (by decide) (by decide) (by decide) ?_
  intro T2 h2 b2 X2 e2 E2 g2 A2
  have sz_b2 : h0.size ≤ b2 := Nat.le_trans (Nat.le_refl h0.size) (Nat.le_of_eq g2.symm)
  have ge_b2 : n0 ≤ b2 := Nat.le_trans Z0 (Nat.le_of_eq g2.symm)
  have ne_b_b2 : b ≠ b2 := Nat.ne_of_lt (Nat.lt_of_lt_of_le Eb.lt (Nat.le_of_eq g2.symm))
  have A2 : own_A Z h2 b2 .long 1 (fun q_ => .long ((fun _ => (0 : Int64)) q_)) := A2
  show own_Ends p e below s _ _ _ (T2.setTop (mkF m 11 #[.val (.ref b), .val (.int (64 : Int32))] [(.ref b2), (.ref b)]))
  obtain ⟨T3, h3, X3, e3, W3, st3⟩ := putF X2 hx hZ hown (host := "") (Or.inl (hw _ (List.mem_of_getElem? (i := 75) rfl))) Via.refl e2 (Fw.ext E2) (Eb.ext E2) (Or.inl (hw _ (List.mem_of_getElem? (i := 76) rfl))) (hw _ (List.mem_of_getElem? (i := 56) rfl)) (ty := (.array .long)) (by decide) rfl rfl (g := (mkF m 11 #[.val (.ref b), .val (.int (64 : Int32))] [(.ref b2), (.ref b)])) rfl rfl (hb hby own_d12_11)
  have N3 := Fr.snoc X3 N1 gb
  have Fw3 := (Fw.ext E2).same W3
  refine own_pre (S' := (T3.setTop (mkF m 14 #[.val (.ref b), .val (.int (64 : Int32))] []))) st3 ?_
  refine own_retV X3 hx hlk hrt (hb hby own_d12_14) (by decide) (by decide) ?_
  show _ ∧ Fr n0 _ ∧ Keep h0 T3.heap [b] ∧ _
  rw [e3]
  exact ⟨rfl, N3, (((Keep.refl _ _).ext E2).wr W3 (Or.inl (List.mem_of_getElem? (i := 0) rfl))), b2, ge_b2, sz_b2, Fw3, (A2.other W3 (Ne.symm ne_b_b2)), ((Fu.ext E2).other W3 (Or.inr (slot_ne (C := "java/util/BitSet") (Or.inl (hw _ (List.mem_of_getElem? (i := 63) rfl))) (Or.inl (hw _ (List.mem_of_getElem? (i := 76) rfl))) (by decide) (t := .int) (t' := (.array .long)) (by decide) (by decide)))), ((Fs.ext E2).other W3 (Or.inr (slot_ne (C := "java/util/BitSet") (Or.inl (hw _ (List.mem_of_getElem? (i := 65) rfl))) (Or.inl (hw _ (List.mem_of_getElem? (i := 76) rfl))) (by decide) (t := .boolean) (t' := (.array .long)) (by decide) (by decide))))⟩
set_option maxRecDepth 65536 in
set_option maxHeartbeats 40000000 in
theorem own_bsi (l : Launch) (Z : State) (a0 : Array Value) (hw : ∀ d ∈ tables_1, d.before a0 Z = true) (ws : List Jvm.Cond) (b : Nat) (h0 : Heap) (n0 : Nat) (Z0 : n0 ≤ h0.size) (Eb : Exa Z h0 b "java/util/BitSet") (gb : n0 ≤ b) (Fw : Fld Z h0 b "java/util/BitSet" "words" "[J" .null) (Fu : Fld Z h0 b "java/util/BitSet" "wordsInUse" "I" (.int (0 : Int32))) (Fs : Fld Z h0 b "java/util/BitSet" "sizeIsSticky" "Z" (.int (0 : Int32))) :
    own_Met l Z (⟨"java/util/BitSet", "<init>", "()V"⟩ : MethodName) jdk_92_method_4_code 1 none ws ({ frames := 2, cells := 1, slots := 1, locals := 26 } : Room) #[(.ref b)] h0 (fun v h L => v = none ∧ Fr n0 L ∧ Keep h0 h [b] ∧ ∃ w : Nat, n0 ≤ w ∧ h0.size ≤ w ∧ Fld Z h b "java/util/BitSet" "words" "[J" (.ref w) ∧ Fld Z h b "java/util/BitSet" "wordsInUse" "I" (.int (0 : Int32)) ∧ own_A Z h w .long 1 (fun i => .long 0)) := by
  refine own_body own_pn9 (fun m => mkF m 0 #[.val (.ref b)] []) (fun m => own_ef_own_bsi m b) ?_
  intro p e s m below meth c T0 hx hby hml hlk hrt hZ hown hnm X0 e0
  have hown : s.vm.findClass "java/util/BitSet" = some m.cls := hown
  have N0 := Fr.nil n0
  refine own_pre (S' := (T0.setTop (mkF m 1 #[.val (.ref b)] [(.ref b)]))) (fun tt_ kk_ => XS.aloadN X0.here hx rfl (hb hby own_d11_0) rfl rfl kk_) ?_
  obtain ⟨T1, X1, e1, st1⟩ := initO X0 hx hZ hown (hw _ (List.mem_of_getElem? (i := 61) rfl)) (hw _ (List.mem_of_getElem? (i := 13) rfl)) (hw _ (List.mem_of_getElem? (i := 14) rfl)) e0 (g := (mkF m 1 #[.val (.ref b)] [(.ref b)])) rfl (by rw [hml]; rfl) rfl (hb hby own_d11_1) (by decide) (W := 0) (by show 2 * 0 + _ ≤ _; exact Nat.le_of_eq rfl) (by decide)
  refine own_pre (S' := (T1.setTop (mkF m 4 #[.val (.ref b)] []))) st1 ?_
  refine own_pre (S' := (T1.setTop (mkF m 5 #[.val (.ref b)] [(.ref b)]))) (fun tt_ kk_ => XS.aloadN X1.here hx rfl (hb hby own_d11_4) rfl rfl kk_) ?_
  refine own_pre (S' := (T1.setTop (mkF m 6 #[.val (.ref b)] [(.int (0 : Int32)), (.ref b)]))) (fun tt_ kk_ => XS.iconst X1.here hx rfl (hb hby own_d11_5) kk_) ?_
  obtain ⟨T2, h2, X2, e2, W2, st2⟩ := putF X1 hx hZ hown (host := "") (Or.inl (hw _ (List.mem_of_getElem? (i := 62) rfl))) Via.refl e1 Fu Eb (Or.inl (hw _ (List.mem_of_getElem? (i := 63) rfl))) (hw _ (List.mem_of_getElem? (i := 56) rfl)) (ty := .int) (by decide) rfl rfl (g := (mkF m 6 #[.val (.ref b)] [(.int (0 : Int32)), (.ref b)])) rfl rfl (hb hby own_d11_6)
  have N2 := Fr.snoc X2 N0 gb
  have Fw2 := Fu.same W2
  refine own_pre (S' := (T2.setTop (mkF m 9 #[.val (.ref b)] []))) st2 ?_
  refine own_pre (S' := (T2.setTop (mkF m 10 #[.val (.ref b)] [(.ref b)]))) (fun tt_ kk_ => XS.aloadN X2.here hx rfl (hb hby own_d11_9) rfl rfl kk_) ?_
  refine own_pre (S' := (T2.setTop (mkF m 11 #[.val (.ref b)] [(.int (0 : Int32)), (.ref b)]))) (fun tt_ kk_ => XS.iconst X2.here hx rfl (hb hby own_d11_10) kk_) ?_
  obtain ⟨T3, h3, X3, e3, W3, st3⟩ := putF X2 hx hZ hown (host := "") (Or.inl (hw _ (List.mem_of_getElem? (i := 64) rfl))) Via.refl e2 (Fs.other W2 (Or.inr (slot_ne (C := "java/util/BitSet") (Or.inl (hw _ (List.mem_of_getElem? (i := 65) rfl))) (Or.inl (hw _ (List.mem_of_getElem? (i := 63) rfl))) (by decide) (t := .boolean) (t' := .int) (by decide) (by decide)))) (Eb.wr W2) (Or.inl (hw _ (List.mem_of_getElem? (i := 65) rfl))) (hw _ (List.mem_of_getElem? (i := 56) rfl)) (ty := .boolean) (by decide) rfl rfl (g := (mkF m 11 #[.val (.ref b)] [(.int (0 : Int32)), (.ref b)])) rfl rfl (hb hby own_d11_11)
  have N3 := Fr.snoc X3 N2 gb
  have Fw3 := (Fs.other W2 (Or.inr (slot_ne (C := "java/util/BitSet") (Or.inl (hw _ (List.mem_of_getElem? (i := 65) rfl))) (Or.inl (hw _ (List.mem_of_getElem? (i := 63) rfl))) (by decide) (t := .boolean) (t' := .int) (by decide) (by decide)))).same W3
  refine own_pre (S' := (T3.setTop (mkF m 14 #[.val (.ref b)] []))) st3 ?_
  refine own_pre (S' := (T3.setTop (mkF m 15 #[.val (.ref b)] [(.ref b)]))) (fun tt_ kk_ => XS.aloadN X3.here hx rfl (hb hby own_d11_14) rfl rfl kk_) ?_
  refine own_pre (S' := (T3.setTop (mkF m 17 #[.val (.ref b)] [(.int (64 : Int32)), (.ref b)]))) (fun tt_ kk_ => XS.bipush X3.here hx rfl (hb hby own_d11_15) kk_) ?_
  refine own_callP (C := "java/util/BitSet") (y := (⟨"java/util/BitSet", "initWords", "(I)V"⟩ : MethodName)) (b := b) X3 hx hZ hown (hw _ (List.mem_of_getElem? (i := 66) rfl)) (hw _ (List.mem_of_getElem? (i := 67) rfl)) (hw _ (List.mem_of_getElem? (i := 69) rfl)) (hw _ (List.mem_of_getElem? (i := 68) rfl)) (hw _ (List.mem_of_getElem? (i := 70) rfl)) (hw _ (List.mem_of_getElem? (i := 57) rfl)) (by decide) e3 ((Eb.wr W2).wr W3) (hM := own_iw l Z a0 hw [] b h3 n0 (Nat.le_trans (Nat.le_trans Z0 (Nat.le_of_eq W2.size.symm)) (Nat.le_of_eq W3.size.symm)) ((Eb.wr W2).wr W3) ((Fw.other W2 (Or.inr (slot_ne (C := "java/util/BitSet") (Or.inl (hw _ (List.mem_of_getElem? (i := 76) rfl))) (Or.inl (hw _ (List.mem_of_getElem? (i := 63) rfl))) (by decide) (t := (.array .long)) (t' := .int) (by decide) (by decide)))).other W3 (Or.inr (slot_ne (C := "java/util/BitSet") (Or.inl (hw _ (List.mem_of_getElem? (i := 76) rfl))) (Or.inl (hw _ (List.mem_of_getElem? (i := 65) rfl))) (by decide) (t := (.array .long)) (t' := .boolean) (by decide) (by decide)))) gb (Fw2.other W3 (Or.inr (slot_ne (C := "java/util/BitSet") (Or.inl (hw _ (List.mem_of_getElem? (i := 63) rfl))) (Or.inl (hw _ (List.mem_of_getElem? (i := 65) rfl))) (by decide) (t := .int) (t' := .boolean) (by decide) (by decide)))) Fw3) (W := 0) (pc := 17) (Ls := #[.val (.ref b)]) (argsL := [(.int (64 : Int32))]) (rest := []) (st0 := [(.int (64 : Int32)), (.ref b)]) (by rw [hml]; rfl) (lenOf own_pd4 rfl) rfl (Nat.le_of_eq rfl) (hb hby own_d11_17) (by decide) (by decide) (by decide) (by decide) ?_
  intro v4 T4 L4 X4 hQ4
  obtain ⟨rfl, Nq4, K4, w4, gw4, gz4, Fw4, Aw4, Fu4, Fs4⟩ := hQ4
  have N4 := Fr.app N3 Nq4
  show own_Ends p e below s _ _ _ (T4.setTop (mkF m 20 #[.val (.ref b)] []))
  have sz_w4 : h0.size ≤ w4 := Nat.le_trans (Nat.le_trans (Nat.le_trans (Nat.le_refl h0.size) (Nat.le_of_eq W2.size.symm)) (Nat.le_of_eq W3.size.symm)) gz4
  have ne_b_w4 : b ≠ w4 := Nat.ne_of_lt (Nat.lt_of_lt_of_le Eb.lt sz_w4)
  refine own_pre (S' := (T4.setTop (mkF m 21 #[.val (.ref b)] [(.ref b)]))) (fun tt_ kk_ => XS.aloadN X4.here hx rfl (hb hby own_d11_20) rfl rfl kk_) ?_
  refine own_pre (S' := (T4.setTop (mkF m 22 #[.val (.ref b)] [(.int (0 : Int32)), (.ref b)]))) (fun tt_ kk_ => XS.iconst X4.here hx rfl (hb hby own_d11_21) kk_) ?_
  obtain ⟨T5, h5, X5, e5, W5, st5⟩ := putF X4 hx hZ hown (host := "") (Or.inl (hw _ (List.mem_of_getElem? (i := 64) rfl))) Via.refl (rfl : T4.heap = T4.heap) Fs4 (((Eb.wr W2).wr W3).keep K4) (Or.inl (hw _ (List.mem_of_getElem? (i := 65) rfl))) (hw _ (List.mem_of_getElem? (i := 56) rfl)) (ty := .boolean) (by decide) rfl rfl (g := (mkF m 22 #[.val (.ref b)] [(.int (0 : Int32)), (.ref b)])) rfl rfl (hb hby own_d11_22)
  have N5 := Fr.snoc X5 N4 gb
  have Fw5 := Fs4.same W5
  refine own_pre (S' := (T5.setTop (mkF m 25 #[.val (.ref b)] []))) st5 ?_
  refine own_retV X5 hx hlk hrt (hb hby own_d11_25) (by decide) (by decide) ?_
  show _ ∧ Fr n0 _ ∧ Keep h0 T5.heap [b] ∧ _
  rw [e5]
  exact ⟨rfl, N5, (((((Keep.refl _ _).wr W2 (Or.inl (List.mem_of_getElem? (i := 0) rfl))).wr W3 (Or.inl (List.mem_of_getElem? (i := 0) rfl))).trans K4 (allS (Or.inl (List.mem_of_getElem? (i := 0) rfl)) all0)).wr W5 (Or.inl (List.mem_of_getElem? (i := 0) rfl))), w4, gw4, sz_w4, (Fw4.other W5 (Or.inr (slot_ne (C := "java/util/BitSet") (Or.inl (hw _ (List.mem_of_getElem? (i := 76) rfl))) (Or.inl (hw _ (List.mem_of_getElem? (i := 65) rfl))) (by decide) (t := (.array .long)) (t' := .boolean) (by decide) (by decide)))), (Fu4.other W5 (Or.inr (slot_ne (C := "java/util/BitSet") (Or.inl (hw _ (List.mem_of_getElem? (i := 63) rfl))) (Or.inl (hw _ (List.mem_of_getElem? (i := 65) rfl))) (by decide) (t := .int) (t' := .boolean) (by decide) (by decide)))), (Aw4.other W5 (Ne.symm ne_b_w4))⟩
set_option maxRecDepth 65536 in
set_option maxHeartbeats 40000000 in
theorem own_ec (l : Launch) (Z : State) (a0 : Array Value) (hw : ∀ d ∈ tables_1, d.before a0 Z = true) (ws : List Jvm.Cond) (b w : Nat) (u : Int64) (h0 : Heap) (n0 : Nat) (Z0 : n0 ≤ h0.size) (Fw : Fld Z h0 b "java/util/BitSet" "words" "[J" (.ref w)) (Aw : own_A Z h0 w .long 1 (fun i => .long u)) :
    own_Met l Z (⟨"java/util/BitSet", "ensureCapacity", "(I)V"⟩ : MethodName) jdk_92_method_14_code 3 none ws ({ frames := 0, cells := 0, slots := 0, locals := 0 } : Room) #[(.ref b), (.int (1 : Int32))] h0 (fun v h L => v = none ∧ Fr n0 L ∧ h = h0) := by
  refine own_body own_pn10 (fun m => mkF m 0 #[.val (.ref b), .val (.int (1 : Int32)), .unset] []) (fun m => own_ef_own_ec m b (1 : Int32)) ?_
  intro p e s m below meth c T0 hx hby hml hlk hrt hZ hown hnm X0 e0
  have hown : s.vm.findClass "java/util/BitSet" = some m.cls := hown
  have N0 := Fr.nil n0
  refine own_pre (S' := (T0.setTop (mkF m 1 #[.val (.ref b), .val (.int (1 : Int32)), .unset] [(.ref b)]))) (fun tt_ kk_ => XS.aloadN X0.here hx rfl (hb hby own_d16_0) rfl rfl kk_) ?_
  obtain ⟨T1, X1, e1, st1⟩ := getF X0 hx hZ hown (host := "") (Or.inl (hw _ (List.mem_of_getElem? (i := 75) rfl))) Via.refl e0 Fw (g := (mkF m 1 #[.val (.ref b), .val (.int (1 : Int32)), .unset] [(.ref b)])) rfl rfl (hb hby own_d16_1)
  refine own_pre (S' := (T1.setTop (mkF m 4 #[.val (.ref b), .val (.int (1 : Int32)), .unset] [(.ref w)]))) st1 ?_
  refine own_alen X1 hx hZ e1 Aw (hb hby own_d16_4) ?_
  show own_Ends p e below s _ _ _ (T1.setTop (mkF m 5 #[.val (.ref b), .val (.int (1 : Int32)), .unset] [(.int (1 : Int32))]))
  refine own_pre (S' := (T1.setTop (mkF m 6 #[.val (.ref b), .val (.int (1 : Int32)), .unset] [(.int (1 : Int32)), (.int (1 : Int32))]))) (fun tt_ kk_ => XS.iloadN X1.here hx rfl (hb hby own_d16_5) rfl kk_) ?_
  refine own_pre (S' := (T1.setTop (mkF m 38 #[.val (.ref b), .val (.int (1 : Int32)), .unset] []))) (fun tt_ kk_ => XS.icmpYes X1.here hx rfl (pc0 := 6) (pc' := 38) rfl (hb hby own_d16_6) rfl (flt (by decide : ¬ ((1 : Int32) < (1 : Int32)))).2.1 (by decide) (by decide) kk_) ?_
  refine own_retV X1 hx hlk hrt (hb hby own_d16_38) (by decide) (by decide) ?_
  exact ⟨rfl, N0, e1⟩
set_option maxRecDepth 65536 in
set_option maxHeartbeats 40000000 in
theorem own_et (l : Launch) (Z : State) (a0 : Array Value) (hw : ∀ d ∈ tables_1, d.before a0 Z = true) (ws : List Jvm.Cond) (b w : Nat) (wu : Int32) (u : Int64) (h0 : Heap) (n0 : Nat) (Z0 : n0 ≤ h0.size) (hwu : wu = 0 ∨ wu = 1) (Eb : Exa Z h0 b "java/util/BitSet") (gb : n0 ≤ b) (nbw : b ≠ w) (Fw : Fld Z h0 b "java/util/BitSet" "words" "[J" (.ref w)) (Fu : Fld Z h0 b "java/util/BitSet" "wordsInUse" "I" (.int wu)) (Aw : own_A Z h0 w .long 1 (fun i => .long u)) :
    own_Met l Z (⟨"java/util/BitSet", "expandTo", "(I)V"⟩ : MethodName) jdk_92_method_15_code 3 none ws ({ frames := 1, cells := 0, slots := 0, locals := 14 } : Room) #[(.ref b), (.int (0 : Int32))] h0 (fun v h L => v = none ∧ Fr n0 L ∧ Keep h0 h [b] ∧ Fld Z h b "java/util/BitSet" "words" "[J" (.ref w) ∧ Fld Z h b "java/util/BitSet" "wordsInUse" "I" (.int (1 : Int32)) ∧ own_A Z h w .long 1 (fun i => .long u)) := by
  refine own_body own_pn11 (fun m => mkF m 0 #[.val (.ref b), .val (.int (0 : Int32)), .unset] []) (fun m => own_ef_own_et m b (0 : Int32)) ?_
  intro p e s m below meth c T0 hx hby hml hlk hrt hZ hown hnm X0 e0
  have hown : s.vm.findClass "java/util/BitSet" = some m.cls := hown
  have N0 := Fr.nil n0
  refine own_pre (S' := (T0.setTop (mkF m 1 #[.val (.ref b), .val (.int (0 : Int32)), .unset] [(.int (0 : Int32))]))) (fun tt_ kk_ => XS.iloadN X0.here hx rfl (hb hby own_d15_0) rfl kk_) ?_
  refine own_pre (S' := (T0.setTop (mkF m 2 #[.val (.ref b), .val (.int (0 : Int32)), .unset] [(.int (1 : Int32)), (.int (0 : Int32))]))) (fun tt_ kk_ => XS.iconst X0.here hx rfl (hb hby own_d15_1) kk_) ?_
  refine own_pre (S' := (T0.setTop (mkF m 3 #[.val (.ref b), .val (.int (0 : Int32)), .unset] [(.int (1 : Int32))]))) (fun tt_ kk_ => XS.iadd X0.here hx rfl (hb hby own_d15_2) rfl kk_) ?_
  refine own_pre (S' := (T0.setTop (mkF m 4 #[.val (.ref b), .val (.int (0 : Int32)), .val (.int (1 : Int32))] []))) (fun tt_ kk_ => XS.istoreN X0.here hx rfl (hb hby own_d15_3) rfl (l' := #[.val (.ref b), .val (.int (0 : Int32)), .val (.int (1 : Int32))]) rfl kk_) ?_
  refine own_pre (S' := (T0.setTop (mkF m 5 #[.val (.ref b), .val (.int (0 : Int32)), .val (.int (1 : Int32))] [(.ref b)]))) (fun tt_ kk_ => XS.aloadN X0.here hx rfl (hb hby own_d15_4) rfl rfl kk_) ?_
  obtain ⟨T1, X1, e1, st1⟩ := getF X0 hx hZ hown (host := "") (Or.inl (hw _ (List.mem_of_getElem? (i := 62) rfl))) Via.refl e0 Fu (g := (mkF m 5 #[.val (.ref b), .val (.int (0 : Int32)), .val (.int (1 : Int32))] [(.ref b)])) rfl rfl (hb hby own_d15_5)
  refine own_pre (S' := (T1.setTop (mkF m 8 #[.val (.ref b), .val (.int (0 : Int32)), .val (.int (1 : Int32))] [(.int wu)]))) st1 ?_
  refine own_pre (S' := (T1.setTop (mkF m 9 #[.val (.ref b), .val (.int (0 : Int32)), .val (.int (1 : Int32))] [(.int (1 : Int32)), (.int wu)]))) (fun tt_ kk_ => XS.iloadN X1.here hx rfl (hb hby own_d15_8) rfl kk_) ?_
  by_cases c9 : wu < (1 : Int32)
  · -- pc 9: wu < (1 : Int32)
    refine own_pre (S' := (T1.setTop (mkF m 12 #[.val (.ref b), .val (.int (0 : Int32)), .val (.int (1 : Int32))] []))) (fun tt_ kk_ => XS.icmpNo X1.here hx rfl (hb hby own_d15_9) rfl (tlt c9).2.1 kk_) ?_
    refine own_pre (S' := (T1.setTop (mkF m 13 #[.val (.ref b), .val (.int (0 : Int32)), .val (.int (1 : Int32))] [(.ref b)]))) (fun tt_ kk_ => XS.aloadN X1.here hx rfl (hb hby own_d15_12) rfl rfl kk_) ?_
    refine own_pre (S' := (T1.setTop (mkF m 14 #[.val (.ref b), .val (.int (0 : Int32)), .val (.int (1 : Int32))] [(.int (1 : Int32)), (.ref b)]))) (fun tt_ kk_ => XS.iloadN X1.here hx rfl (hb hby own_d15_13) rfl kk_) ?_
    refine own_callP (C := "java/util/BitSet") (y := (⟨"java/util/BitSet", "ensureCapacity", "(I)V"⟩ : MethodName)) (b := b) X1 hx hZ hown (hw _ (List.mem_of_getElem? (i := 87) rfl)) (hw _ (List.mem_of_getElem? (i := 88) rfl)) (hw _ (List.mem_of_getElem? (i := 90) rfl)) (hw _ (List.mem_of_getElem? (i := 89) rfl)) (hw _ (List.mem_of_getElem? (i := 91) rfl)) (hw _ (List.mem_of_getElem? (i := 57) rfl)) (by decide) e1 Eb (hM := own_ec l Z a0 hw [] b w u h0 n0 Z0 Fw Aw) (W := 0) (pc := 14) (Ls := #[.val (.ref b), .val (.int (0 : Int32)), .val (.int (1 : Int32))]) (argsL := [(.int (1 : Int32))]) (rest := []) (st0 := [(.int (1 : Int32)), (.ref b)]) (by rw [hml]; rfl) (lenOf own_pd4 rfl) rfl (Nat.le_of_eq rfl) (hb hby own_d15_14) (by decide) (by decide) (by decide) (by decide) ?_
    intro v2 T2 L2 X2 hQ2
    obtain ⟨rfl, Nq2, hh2⟩ := hQ2
    have N2 := Fr.app N0 Nq2
    show own_Ends p e below s _ _ _ (T2.setTop (mkF m 17 #[.val (.ref b), .val (.int (0 : Int32)), .val (.int (1 : Int32))] []))
    refine own_pre (S' := (T2.setTop (mkF m 18 #[.val (.ref b), .val (.int (0 : Int32)), .val (.int (1 : Int32))] [(.ref b)]))) (fun tt_ kk_ => XS.aloadN X2.here hx rfl (hb hby own_d15_17) rfl rfl kk_) ?_
    refine own_pre (S' := (T2.setTop (mkF m 19 #[.val (.ref b), .val (.int (0 : Int32)), .val (.int (1 : Int32))] [(.int (1 : Int32)), (.ref b)]))) (fun tt_ kk_ => XS.iloadN X2.here hx rfl (hb hby own_d15_18) rfl kk_) ?_
    obtain ⟨T3, h3, X3, e3, W3, st3⟩ := putF X2 hx hZ hown (host := "") (Or.inl (hw _ (List.mem_of_getElem? (i := 62) rfl))) Via.refl hh2 Fu Eb (Or.inl (hw _ (List.mem_of_getElem? (i := 63) rfl))) (hw _ (List.mem_of_getElem? (i := 56) rfl)) (ty := .int) (by decide) rfl rfl (g := (mkF m 19 #[.val (.ref b), .val (.int (0 : Int32)), .val (.int (1 : Int32))] [(.int (1 : Int32)), (.ref b)])) rfl rfl (hb hby own_d15_19)
    have N3 := Fr.snoc X3 N2 gb
    have Fw3 := Fu.same W3
    refine own_pre (S' := (T3.setTop (mkF m 22 #[.val (.ref b), .val (.int (0 : Int32)), .val (.int (1 : Int32))] []))) st3 ?_
    refine own_retV X3 hx hlk hrt (hb hby own_d15_22) (by decide) (by decide) ?_
    show _ ∧ Fr n0 _ ∧ Keep h0 T3.heap [b] ∧ _
    rw [e3]
    exact ⟨rfl, N3, ((Keep.refl _ _).wr W3 (Or.inl (List.mem_of_getElem? (i := 0) rfl))), (Fw.other W3 (Or.inr (slot_ne (C := "java/util/BitSet") (Or.inl (hw _ (List.mem_of_getElem? (i := 76) rfl))) (Or.inl (hw _ (List.mem_of_getElem? (i := 63) rfl))) (by decide) (t := (.array .long)) (t' := .int) (by decide) (by decide)))), Fw3, (Aw.other W3 (Ne.symm nbw))⟩
  · -- pc 9: not wu < (1 : Int32)
    refine own_pre (S' := (T1.setTop (mkF m 22 #[.val (.ref b), .val (.int (0 : Int32)), .val (.int (1 : Int32))] []))) (fun tt_ kk_ => XS.icmpYes X1.here hx rfl (pc0 := 9) (pc' := 22) rfl (hb hby own_d15_9) rfl (flt c9).2.1 (by decide) (by decide) kk_) ?_
    refine own_retV X1 hx hlk hrt (hb hby own_d15_22) (by decide) (by decide) ?_
    show _ ∧ Fr n0 _ ∧ Keep h0 T1.heap [b] ∧ _
    rw [e1]
    exact ⟨rfl, N0, (Keep.refl _ _), Fw, (own_wu hwu c9 ▸ Fu), Aw⟩
set_option maxRecDepth 65536 in
set_option maxHeartbeats 40000000 in
theorem own_bset (l : Launch) (Z : State) (a0 : Array Value) (hw : ∀ d ∈ tables_1, d.before a0 Z = true) (ws : List Jvm.Cond) (b w : Nat) (wu x1 : Int32) (u : Int64) (h0 : Heap) (n0 : Nat) (Z0 : n0 ≤ h0.size) (hx1 : 0 ≤ x1.toInt ∧ x1.toInt ≤ 63) (hwu : wu = 0 ∨ wu = 1) (Eb : Exa Z h0 b "java/util/BitSet") (gb : n0 ≤ b) (gw : n0 ≤ w) (nbw : b ≠ w) (Fw : Fld Z h0 b "java/util/BitSet" "words" "[J" (.ref w)) (Fu : Fld Z h0 b "java/util/BitSet" "wordsInUse" "I" (.int wu)) (Aw : own_A Z h0 w .long 1 (fun i => .long u)) (S_ad : Sta Z h0 "java/util/BitSet" "$assertionsDisabled" "Z" (.int (1 : Int32))) :
    own_Met l Z (⟨"java/util/BitSet", "set", "(I)V"⟩ : MethodName) jdk_92_method_19_code 3 none ws ({ frames := 2, cells := 0, slots := 0, locals := 28 } : Room) #[(.ref b), (.int x1)] h0 (fun v h L => v = none ∧ Fr n0 L ∧ Keep h0 h [b, w] ∧ Fld Z h b "java/util/BitSet" "words" "[J" (.ref w) ∧ Fld Z h b "java/util/BitSet" "wordsInUse" "I" (.int (1 : Int32)) ∧ own_A Z h w .long 1 (fun i => .long (u ||| ((1 : Int64) <<< (x1 &&& 0x3f).toInt64)))) := by
  refine own_body own_pn12 (fun m => mkF m 0 #[.val (.ref b), .val (.int x1), .unset] []) (fun m => own_ef_own_bset m b x1) ?_
  intro p e s m below meth c T0 hx hby hml hlk hrt hZ hown hnm X0 e0
  have hown : s.vm.findClass "java/util/BitSet" = some m.cls := hown
  have N0 := Fr.nil n0
  refine own_pre (S' := (T0.setTop (mkF m 1 #[.val (.ref b), .val (.int x1), .unset] [(.int x1)]))) (fun tt_ kk_ => XS.iloadN X0.here hx rfl (hb hby own_d14_0) rfl kk_) ?_
  refine own_pre (S' := (T0.setTop (mkF m 31 #[.val (.ref b), .val (.int x1), .unset] []))) (fun tt_ kk_ => XS.ifYes X0.here hx rfl (pc0 := 1) (pc' := 31) rfl (hb hby own_d14_1) rfl ((if0 _ _).trans (flt (own_nn hx1.1)).2.1) (by decide) (by decide) kk_) ?_
  refine own_pre (S' := (T0.setTop (mkF m 32 #[.val (.ref b), .val (.int x1), .unset] [(.int x1)]))) (fun tt_ kk_ => XS.iloadN X0.here hx rfl (hb hby own_d14_31) rfl kk_) ?_
  refine own_callS (y := (⟨"java/util/BitSet", "wordIndex", "(I)I"⟩ : MethodName)) X0 hx hZ hown (hw _ (List.mem_of_getElem? (i := 71) rfl)) (hw _ (List.mem_of_getElem? (i := 72) rfl)) (hw _ (List.mem_of_getElem? (i := 57) rfl)) (hw _ (List.mem_of_getElem? (i := 73) rfl)) (by decide) e0 (hM := own_wi l Z a0 hw [] x1 (0 : Int32) h0 n0 Z0 (own_wi0 hx1)) (W := 0) (pc := 32) (Ls := #[.val (.ref b), .val (.int x1), .unset]) (argsL := [(.int x1)]) (rest := []) (st0 := [(.int x1)]) (by rw [hml]; rfl) (lenOf own_pd3 rfl) rfl (Nat.le_of_eq rfl) (hb hby own_d14_32) (by decide) (by decide) (by decide) (by decide) ?_
  intro v1 T1 L1 X1 hQ1
  obtain ⟨rfl, Nq1, hh1⟩ := hQ1
  have N1 := Fr.app N0 Nq1
  show own_Ends p e below s _ _ _ (T1.setTop (mkF m 35 #[.val (.ref b), .val (.int x1), .unset] [(.int (0 : Int32))]))
  refine own_pre (S' := (T1.setTop (mkF m 36 #[.val (.ref b), .val (.int x1), .val (.int (0 : Int32))] []))) (fun tt_ kk_ => XS.istoreN X1.here hx rfl (hb hby own_d14_35) rfl (l' := #[.val (.ref b), .val (.int x1), .val (.int (0 : Int32))]) rfl kk_) ?_
  refine own_pre (S' := (T1.setTop (mkF m 37 #[.val (.ref b), .val (.int x1), .val (.int (0 : Int32))] [(.ref b)]))) (fun tt_ kk_ => XS.aloadN X1.here hx rfl (hb hby own_d14_36) rfl rfl kk_) ?_
  refine own_pre (S' := (T1.setTop (mkF m 38 #[.val (.ref b), .val (.int x1), .val (.int (0 : Int32))] [(.int (0 : Int32)), (.ref b)]))) (fun tt_ kk_ => XS.iloadN X1.here hx rfl (hb hby own_d14_37) rfl kk_) ?_
  refine own_callP (C := "java/util/BitSet") (y := (⟨"java/util/BitSet", "expandTo", "(I)V"⟩ : MethodName)) (b := b) X1 hx hZ hown (hw _ (List.mem_of_getElem? (i := 82) rfl)) (hw _ (List.mem_of_getElem? (i := 83) rfl)) (hw _ (List.mem_of_getElem? (i := 85) rfl)) (hw _ (List.mem_of_getElem? (i := 84) rfl)) (hw _ (List.mem_of_getElem? (i := 86) rfl)) (hw _ (List.mem_of_getElem? (i := 57) rfl)) (by decide) hh1 Eb (hM := own_et l Z a0 hw [] b w wu u h0 n0 Z0 hwu Eb gb nbw Fw Fu Aw) (W := 0) (pc := 38) (Ls := #[.val (.ref b), .val (.int x1), .val (.int (0 : Int32))]) (argsL := [(.int (0 : Int32))]) (rest := []) (st0 := [(.int (0 : Int32)), (.ref b)]) (by rw [hml]; rfl) (lenOf own_pd4 rfl) rfl (Nat.le_of_eq rfl) (hb hby own_d14_38) (by decide) (by decide) (by decide) (by decide) ?_
  intro v2 T2 L2 X2 hQ2
  obtain ⟨rfl, Nq2, K2, Fw2, Fu2, Aw2⟩ := hQ2
  have N2 := Fr.app N1 Nq2
  show own_Ends p e below s _ _ _ (T2.setTop (mkF m 41 #[.val (.ref b), .val (.int x1), .val (.int (0 : Int32))] []))
  refine own_pre (S' := (T2.setTop (mkF m 42 #[.val (.ref b), .val (.int x1), .val (.int (0 : Int32))] [(.ref b)]))) (fun tt_ kk_ => XS.aloadN X2.here hx rfl (hb hby own_d14_41) rfl rfl kk_) ?_
  obtain ⟨T3, X3, e3, st3⟩ := getF X2 hx hZ hown (host := "") (Or.inl (hw _ (List.mem_of_getElem? (i := 75) rfl))) Via.refl (rfl : T2.heap = T2.heap) Fw2 (g := (mkF m 42 #[.val (.ref b), .val (.int x1), .val (.int (0 : Int32))] [(.ref b)])) rfl rfl (hb hby own_d14_42)
  refine own_pre (S' := (T3.setTop (mkF m 45 #[.val (.ref b), .val (.int x1), .val (.int (0 : Int32))] [(.ref w)]))) st3 ?_
  refine own_pre (S' := (T3.setTop (mkF m 46 #[.val (.ref b), .val (.int x1), .val (.int (0 : Int32))] [(.int (0 : Int32)), (.ref w)]))) (fun tt_ kk_ => XS.iloadN X3.here hx rfl (hb hby own_d14_45) rfl kk_) ?_
  refine own_pre (S' := (T3.setTop (mkF m 47 #[.val (.ref b), .val (.int x1), .val (.int (0 : Int32))] [(.int (0 : Int32)), (.ref w), (.int (0 : Int32)), (.ref w)]))) (fun tt_ kk_ => Jvm.Free.XT.dup2 X3.here hx rfl (hb hby own_d14_46) rfl rfl rfl kk_) ?_
  refine own_lald X3 hx hZ e3 Aw2 0 rfl (by decide) (hb hby own_d14_47) ?_
  show own_Ends p e below s _ _ _ (T3.setTop (mkF m 48 #[.val (.ref b), .val (.int x1), .val (.int (0 : Int32))] [(.long u), (.int (0 : Int32)), (.ref w)]))
  refine own_pre (S' := (T3.setTop (mkF m 49 #[.val (.ref b), .val (.int x1), .val (.int (0 : Int32))] [(.long (1 : Int64)), (.long u), (.int (0 : Int32)), (.ref w)]))) (fun tt_ kk_ => XS.lconst X3.here hx rfl (hb hby own_d14_48) kk_) ?_
  refine own_pre (S' := (T3.setTop (mkF m 50 #[.val (.ref b), .val (.int x1), .val (.int (0 : Int32))] [(.int x1), (.long (1 : Int64)), (.long u), (.int (0 : Int32)), (.ref w)]))) (fun tt_ kk_ => XS.iloadN X3.here hx rfl (hb hby own_d14_49) rfl kk_) ?_
  refine own_pre (S' := (T3.setTop (mkF m 51 #[.val (.ref b), .val (.int x1), .val (.int (0 : Int32))] [(.long ((1 : Int64) <<< (x1 &&& 0x3f).toInt64)), (.long u), (.int (0 : Int32)), (.ref w)]))) (fun tt_ kk_ => XS.lshl X3.here hx rfl (hb hby own_d14_50) rfl kk_) ?_
  refine own_pre (S' := (T3.setTop (mkF m 52 #[.val (.ref b), .val (.int x1), .val (.int (0 : Int32))] [(.long (u ||| ((1 : Int64) <<< (x1 &&& 0x3f).toInt64))), (.int (0 : Int32)), (.ref w)]))) (fun tt_ kk_ => XS.lor X3.here hx rfl (hb hby own_d14_51) rfl kk_) ?_
  refine own_last X3 hx hZ e3 Aw2 0 rfl (by decide) (hb hby own_d14_52) ?_
  intro T4 h4 X4 e4 W4 A4
  have N4 := Fr.snoc X4 N2 gw
  obtain ⟨g4, hg4⟩ : ∃ gq_ : Nat → Int64, gq_ = fun q_ => if q_ = 0 then (u ||| ((1 : Int64) <<< (x1 &&& 0x3f).toInt64)) else (fun _ => u) q_ := ⟨_, rfl⟩
  have A4 : own_A Z h4 w .long 1 (fun q_ => .long (g4 q_)) := by rw [hg4]; exact A4
  show own_Ends p e below s _ _ _ (T4.setTop (mkF m 53 #[.val (.ref b), .val (.int x1), .val (.int (0 : Int32))] []))
  refine own_pre (S' := (T4.setTop (mkF m 54 #[.val (.ref b), .val (.int x1), .val (.int (0 : Int32))] [(.ref b)]))) (fun tt_ kk_ => XS.aloadN X4.here hx rfl (hb hby own_d14_53) rfl rfl kk_) ?_
  refine own_callP (C := "java/util/BitSet") (y := (⟨"java/util/BitSet", "checkInvariants", "()V"⟩ : MethodName)) (b := b) X4 hx hZ hown (hw _ (List.mem_of_getElem? (i := 92) rfl)) (hw _ (List.mem_of_getElem? (i := 93) rfl)) (hw _ (List.mem_of_getElem? (i := 95) rfl)) (hw _ (List.mem_of_getElem? (i := 94) rfl)) (hw _ (List.mem_of_getElem? (i := 96) rfl)) (hw _ (List.mem_of_getElem? (i := 57) rfl)) (by decide) e4 ((Eb.keep K2).wr W4) (hM := own_ci l Z a0 hw [] b h4 n0 (Nat.le_trans (Nat.le_trans Z0 K2.1) (Nat.le_of_eq W4.size.symm)) ((own_sta_keep S_ad K2 (allS (own_plainE Eb) all0)).wr W4)) (W := 0) (pc := 54) (Ls := #[.val (.ref b), .val (.int x1), .val (.int (0 : Int32))]) (argsL := []) (rest := []) (st0 := [(.ref b)]) (by rw [hml]; rfl) (lenOf own_pd5 rfl) rfl (Nat.le_of_eq rfl) (hb hby own_d14_54) (by decide) (by decide) (by decide) (by decide) ?_
  intro v5 T5 L5 X5 hQ5
  obtain ⟨rfl, Nq5, hh5⟩ := hQ5
  have N5 := Fr.app N4 Nq5
  show own_Ends p e below s _ _ _ (T5.setTop (mkF m 57 #[.val (.ref b), .val (.int x1), .val (.int (0 : Int32))] []))
  refine own_retV X5 hx hlk hrt (hb hby own_d14_57) (by decide) (by decide) ?_
  show _ ∧ Fr n0 _ ∧ Keep h0 T5.heap [b, w] ∧ _
  rw [hh5]
  exact ⟨rfl, N5, (((Keep.refl _ _).trans K2 (allS (Or.inl (List.mem_of_getElem? (i := 0) rfl)) all0)).wr W4 (Or.inl (List.mem_of_getElem? (i := 1) rfl))), (Fw2.other W4 (Or.inl nbw)), (Fu2.other W4 (Or.inl nbw)), (A4).congr fun i hi => own_one1 hg4 hi⟩
set_option maxRecDepth 65536 in
set_option maxHeartbeats 40000000 in
theorem own_bget (l : Launch) (Z : State) (a0 : Array Value) (hw : ∀ d ∈ tables_1, d.before a0 Z = true) (ws : List Jvm.Cond) (b w : Nat) (q : Int32) (u : Int64) (h0 : Heap) (n0 : Nat) (Z0 : n0 ≤ h0.size) (hq : 0 ≤ q.toInt) (Eb : Exa Z h0 b "java/util/BitSet") (Fw : Fld Z h0 b "java/util/BitSet" "words" "[J" (.ref w)) (Fu : Fld Z h0 b "java/util/BitSet" "wordsInUse" "I" (.int (1 : Int32))) (Aw : own_A Z h0 w .long 1 (fun i => .long u)) (S_ad : Sta Z h0 "java/util/BitSet" "$assertionsDisabled" "Z" (.int (1 : Int32))) :
    own_Met l Z (⟨"java/util/BitSet", "get", "(I)Z"⟩ : MethodName) jdk_92_method_26_code 3 (some .boolean) ws ({ frames := 1, cells := 0, slots := 0, locals := 12 } : Room) #[(.ref b), (.int q)] h0 (fun v h L => ∃ r : Int32, v = some (.int r) ∧ (r = 1 ∧ (q.toInt ≤ 63 ∧ ¬ (u &&& ((1 : Int64) <<< (q &&& 0x3f).toInt64)) = 0) ∨ r = 0 ∧ ¬ (q.toInt ≤ 63 ∧ ¬ (u &&& ((1 : Int64) <<< (q &&& 0x3f).toInt64)) = 0)) ∧ Fr n0 L ∧ h = h0) := by
  refine own_body own_pn13 (fun m => mkF m 0 #[.val (.ref b), .val (.int q), .unset] []) (fun m => own_ef_own_bget m b q) ?_
  intro p e s m below meth c T0 hx hby hml hlk hrt hZ hown hnm X0 e0
  have hown : s.vm.findClass "java/util/BitSet" = some m.cls := hown
  have N0 := Fr.nil n0
  refine own_pre (S' := (T0.setTop (mkF m 1 #[.val (.ref b), .val (.int q), .unset] [(.int q)]))) (fun tt_ kk_ => XS.iloadN X0.here hx rfl (hb hby own_d18_0) rfl kk_) ?_
  refine own_pre (S' := (T0.setTop (mkF m 31 #[.val (.ref b), .val (.int q), .unset] []))) (fun tt_ kk_ => XS.ifYes X0.here hx rfl (pc0 := 1) (pc' := 31) rfl (hb hby own_d18_1) rfl ((if0 _ _).trans (flt (own_nn hq)).2.1) (by decide) (by decide) kk_) ?_
  refine own_pre (S' := (T0.setTop (mkF m 32 #[.val (.ref b), .val (.int q), .unset] [(.ref b)]))) (fun tt_ kk_ => XS.aloadN X0.here hx rfl (hb hby own_d18_31) rfl rfl kk_) ?_
  refine own_callP (C := "java/util/BitSet") (y := (⟨"java/util/BitSet", "checkInvariants", "()V"⟩ : MethodName)) (b := b) X0 hx hZ hown (hw _ (List.mem_of_getElem? (i := 92) rfl)) (hw _ (List.mem_of_getElem? (i := 93) rfl)) (hw _ (List.mem_of_getElem? (i := 95) rfl)) (hw _ (List.mem_of_getElem? (i := 94) rfl)) (hw _ (List.mem_of_getElem? (i := 96) rfl)) (hw _ (List.mem_of_getElem? (i := 57) rfl)) (by decide) e0 Eb (hM := own_ci l Z a0 hw [] b h0 n0 Z0 S_ad) (W := 0) (pc := 32) (Ls := #[.val (.ref b), .val (.int q), .unset]) (argsL := []) (rest := []) (st0 := [(.ref b)]) (by rw [hml]; rfl) (lenOf own_pd5 rfl) rfl (Nat.le_of_eq rfl) (hb hby own_d18_32) (by decide) (by decide) (by decide) (by decide) ?_
  intro v1 T1 L1 X1 hQ1
  obtain ⟨rfl, Nq1, hh1⟩ := hQ1
  have N1 := Fr.app N0 Nq1
  show own_Ends p e below s _ _ _ (T1.setTop (mkF m 35 #[.val (.ref b), .val (.int q), .unset] []))
  refine own_pre (S' := (T1.setTop (mkF m 36 #[.val (.ref b), .val (.int q), .unset] [(.int q)]))) (fun tt_ kk_ => XS.iloadN X1.here hx rfl (hb hby own_d18_35) rfl kk_) ?_
  refine own_callS (y := (⟨"java/util/BitSet", "wordIndex", "(I)I"⟩ : MethodName)) X1 hx hZ hown (hw _ (List.mem_of_getElem? (i := 71) rfl)) (hw _ (List.mem_of_getElem? (i := 72) rfl)) (hw _ (List.mem_of_getElem? (i := 57) rfl)) (hw _ (List.mem_of_getElem? (i := 73) rfl)) (by decide) hh1 (hM := own_wi l Z a0 hw [] q _ h0 n0 Z0 rfl) (W := 0) (pc := 36) (Ls := #[.val (.ref b), .val (.int q), .unset]) (argsL := [(.int q)]) (rest := []) (st0 := [(.int q)]) (by rw [hml]; rfl) (lenOf own_pd3 rfl) rfl (Nat.le_of_eq rfl) (hb hby own_d18_36) (by decide) (by decide) (by decide) (by decide) ?_
  intro v2 T2 L2 X2 hQ2
  obtain ⟨rfl, Nq2, hh2⟩ := hQ2
  have N2 := Fr.app N1 Nq2
  show own_Ends p e below s _ _ _ (T2.setTop (mkF m 39 #[.val (.ref b), .val (.int q), .unset] [(.int (q >>> ((6 : Int32) &&& 31)))]))
  refine own_pre (S' := (T2.setTop (mkF m 40 #[.val (.ref b), .val (.int q), .val (.int (q >>> ((6 : Int32) &&& 31)))] []))) (fun tt_ kk_ => XS.istoreN X2.here hx rfl (hb hby own_d18_39) rfl (l' := #[.val (.ref b), .val (.int q), .val (.int (q >>> ((6 : Int32) &&& 31)))]) rfl kk_) ?_
  refine own_pre (S' := (T2.setTop (mkF m 41 #[.val (.ref b), .val (.int q), .val (.int (q >>> ((6 : Int32) &&& 31)))] [(.int (q >>> ((6 : Int32) &&& 31)))]))) (fun tt_ kk_ => XS.iloadN X2.here hx rfl (hb hby own_d18_40) rfl kk_) ?_
  refine own_pre (S' := (T2.setTop (mkF m 42 #[.val (.ref b), .val (.int q), .val (.int (q >>> ((6 : Int32) &&& 31)))] [(.ref b), (.int (q >>> ((6 : Int32) &&& 31)))]))) (fun tt_ kk_ => XS.aloadN X2.here hx rfl (hb hby own_d18_41) rfl rfl kk_) ?_
  obtain ⟨T3, X3, e3, st3⟩ := getF X2 hx hZ hown (host := "") (Or.inl (hw _ (List.mem_of_getElem? (i := 62) rfl))) Via.refl hh2 Fu (g := (mkF m 42 #[.val (.ref b), .val (.int q), .val (.int (q >>> ((6 : Int32) &&& 31)))] [(.ref b), (.int (q >>> ((6 : Int32) &&& 31)))])) rfl rfl (hb hby own_d18_42)
  refine own_pre (S' := (T3.setTop (mkF m 45 #[.val (.ref b), .val (.int q), .val (.int (q >>> ((6 : Int32) &&& 31)))] [(.int (1 : Int32)), (.int (q >>> ((6 : Int32) &&& 31)))]))) st3 ?_
  by_cases c45 : (q >>> ((6 : Int32) &&& 31)) < (1 : Int32)
  · -- pc 45: (q >>> ((6 : Int32) &&& 31)) < (1 : Int32)
    refine own_pre (S' := (T3.setTop (mkF m 48 #[.val (.ref b), .val (.int q), .val (.int (q >>> ((6 : Int32) &&& 31)))] []))) (fun tt_ kk_ => XS.icmpNo X3.here hx rfl (hb hby own_d18_45) rfl (tlt c45).2.1 kk_) ?_
    refine own_pre (S' := (T3.setTop (mkF m 49 #[.val (.ref b), .val (.int q), .val (.int (q >>> ((6 : Int32) &&& 31)))] [(.ref b)]))) (fun tt_ kk_ => XS.aloadN X3.here hx rfl (hb hby own_d18_48) rfl rfl kk_) ?_
    obtain ⟨T4, X4, e4, st4⟩ := getF X3 hx hZ hown (host := "") (Or.inl (hw _ (List.mem_of_getElem? (i := 75) rfl))) Via.refl e3 Fw (g := (mkF m 49 #[.val (.ref b), .val (.int q), .val (.int (q >>> ((6 : Int32) &&& 31)))] [(.ref b)])) rfl rfl (hb hby own_d18_49)
    refine own_pre (S' := (T4.setTop (mkF m 52 #[.val (.ref b), .val (.int q), .val (.int (q >>> ((6 : Int32) &&& 31)))] [(.ref w)]))) st4 ?_
    refine own_pre (S' := (T4.setTop (mkF m 53 #[.val (.ref b), .val (.int q), .val (.int (q >>> ((6 : Int32) &&& 31)))] [(.int (q >>> ((6 : Int32) &&& 31))), (.ref w)]))) (fun tt_ kk_ => XS.iloadN X4.here hx rfl (hb hby own_d18_52) rfl kk_) ?_
    refine own_lald X4 hx hZ e4 Aw 0 (own_wz hq c45) (by decide) (hb hby own_d18_53) ?_
    show own_Ends p e below s _ _ _ (T4.setTop (mkF m 54 #[.val (.ref b), .val (.int q), .val (.int (q >>> ((6 : Int32) &&& 31)))] [(.long u)]))
    refine own_pre (S' := (T4.setTop (mkF m 55 #[.val (.ref b), .val (.int q), .val (.int (q >>> ((6 : Int32) &&& 31)))] [(.long (1 : Int64)), (.long u)]))) (fun tt_ kk_ => XS.lconst X4.here hx rfl (hb hby own_d18_54) kk_) ?_
    refine own_pre (S' := (T4.setTop (mkF m 56 #[.val (.ref b), .val (.int q), .val (.int (q >>> ((6 : Int32) &&& 31)))] [(.int q), (.long (1 : Int64)), (.long u)]))) (fun tt_ kk_ => XS.iloadN X4.here hx rfl (hb hby own_d18_55) rfl kk_) ?_
    refine own_pre (S' := (T4.setTop (mkF m 57 #[.val (.ref b), .val (.int q), .val (.int (q >>> ((6 : Int32) &&& 31)))] [(.long ((1 : Int64) <<< (q &&& 0x3f).toInt64)), (.long u)]))) (fun tt_ kk_ => XS.lshl X4.here hx rfl (hb hby own_d18_56) rfl kk_) ?_
    refine own_pre (S' := (T4.setTop (mkF m 58 #[.val (.ref b), .val (.int q), .val (.int (q >>> ((6 : Int32) &&& 31)))] [(.long (u &&& ((1 : Int64) <<< (q &&& 0x3f).toInt64)))]))) (fun tt_ kk_ => XS.land X4.here hx rfl (hb hby own_d18_57) rfl kk_) ?_
    refine own_pre (S' := (T4.setTop (mkF m 59 #[.val (.ref b), .val (.int q), .val (.int (q >>> ((6 : Int32) &&& 31)))] [(.long (0 : Int64)), (.long (u &&& ((1 : Int64) <<< (q &&& 0x3f).toInt64)))]))) (fun tt_ kk_ => XS.lconst X4.here hx rfl (hb hby own_d18_58) kk_) ?_
    refine own_pre (S' := (T4.setTop (mkF m 60 #[.val (.ref b), .val (.int q), .val (.int (q >>> ((6 : Int32) &&& 31)))] [(.int (lcmpW (u &&& ((1 : Int64) <<< (q &&& 0x3f).toInt64)) (0 : Int64)))]))) (fun tt_ kk_ => XS.lcmp X4.here hx rfl (hb hby own_d18_59) rfl kk_) ?_
    by_cases c60 : (lcmpW (u &&& ((1 : Int64) <<< (q &&& 0x3f).toInt64)) (0 : Int64)) = (0 : Int32)
    · -- pc 60: (lcmpW (u &&& ((1 : Int64) <<< (q &&& 0x3f).toInt64)) (0 : Int64)) = (0 : Int32)
      refine own_pre (S' := (T4.setTop (mkF m 67 #[.val (.ref b), .val (.int q), .val (.int (q >>> ((6 : Int32) &&& 31)))] []))) (fun tt_ kk_ => XS.ifYes X4.here hx rfl (pc0 := 60) (pc' := 67) rfl (hb hby own_d18_60) rfl ((if0 _ _).trans (teq c60).1) (by decide) (by decide) kk_) ?_
      refine own_pre (S' := (T4.setTop (mkF m 68 #[.val (.ref b), .val (.int q), .val (.int (q >>> ((6 : Int32) &&& 31)))] [(.int (0 : Int32))]))) (fun tt_ kk_ => XS.iconst X4.here hx rfl (hb hby own_d18_67) kk_) ?_
      refine own_ret (t := .boolean) X4 hx hlk hrt rfl (Or.inl ⟨rfl, by simp, _, rfl⟩) (hb hby own_d18_68) (by decide) (by decide) ?_
      exact ⟨_, rfl, Or.inr ⟨rfl, fun z => z.2 ((lw_eq _ _).mp c60)⟩, N2, e4⟩
    · -- pc 60: not (lcmpW (u &&& ((1 : Int64) <<< (q &&& 0x3f).toInt64)) (0 : Int64)) = (0 : Int32)
      refine own_pre (S' := (T4.setTop (mkF m 63 #[.val (.ref b), .val (.int q), .val (.int (q >>> ((6 : Int32) &&& 31)))] []))) (fun tt_ kk_ => XS.ifNo X4.here hx rfl (hb hby own_d18_60) rfl ((if0 _ _).trans (feq c60).1) kk_) ?_
      refine own_pre (S' := (T4.setTop (mkF m 64 #[.val (.ref b), .val (.int q), .val (.int (q >>> ((6 : Int32) &&& 31)))] [(.int (1 : Int32))]))) (fun tt_ kk_ => XS.iconst X4.here hx rfl (hb hby own_d18_63) kk_) ?_
      refine own_pre (S' := (T4.setTop (mkF m 68 #[.val (.ref b), .val (.int q), .val (.int (q >>> ((6 : Int32) &&& 31)))] [(.int (1 : Int32))]))) (fun tt_ kk_ => XS.goto X4.here hx rfl (pc0 := 64) (pc' := 68) rfl (hb hby own_d18_64) (by decide) (by decide) kk_) ?_
      refine own_ret (t := .boolean) X4 hx hlk hrt rfl (Or.inl ⟨rfl, by simp, _, rfl⟩) (hb hby own_d18_68) (by decide) (by decide) ?_
      exact ⟨_, rfl, Or.inl ⟨rfl, own_w63 hq c45, fun z => c60 ((lw_eq _ _).mpr z)⟩, N2, e4⟩
  · -- pc 45: not (q >>> ((6 : Int32) &&& 31)) < (1 : Int32)
    refine own_pre (S' := (T3.setTop (mkF m 67 #[.val (.ref b), .val (.int q), .val (.int (q >>> ((6 : Int32) &&& 31)))] []))) (fun tt_ kk_ => XS.icmpYes X3.here hx rfl (pc0 := 45) (pc' := 67) rfl (hb hby own_d18_45) rfl (flt c45).2.1 (by decide) (by decide) kk_) ?_
    refine own_pre (S' := (T3.setTop (mkF m 68 #[.val (.ref b), .val (.int q), .val (.int (q >>> ((6 : Int32) &&& 31)))] [(.int (0 : Int32))]))) (fun tt_ kk_ => XS.iconst X3.here hx rfl (hb hby own_d18_67) kk_) ?_
    refine own_ret (t := .boolean) X3 hx hlk hrt rfl (Or.inl ⟨rfl, by simp, _, rfl⟩) (hb hby own_d18_68) (by decide) (by decide) ?_
    exact ⟨_, rfl, Or.inr ⟨rfl, fun z => c45 (own_w1 hq z.1)⟩, N2, e3⟩
set_option maxRecDepth 65536 in
set_option maxHeartbeats 40000000 in
theorem own_add8 (l : Launch) (Z : State) (a0 : Array Value) (hw : ∀ d ∈ tables_1, d.before a0 Z = true) (ws : List Jvm.Cond) (a : Nat) (x1 : Int32) (g : Nat → Int32) (h0 : Heap) (n0 : Nat) (Z0 : n0 ≤ h0.size) (hF : own_few n0 Z h0 a 8 8 g) (hx1 : own_in6 x1) (hgi : ∀ i, i < 8 → own_in6 (g i)) (S_ad : Sta Z h0 "java/util/BitSet" "$assertionsDisabled" "Z" (.int (1 : Int32))) :
    own_Met l Z (⟨"com/example/kunci/kunci/NumberSet", "add", "(I)Z"⟩ : MethodName) prog_3_method_2_code 3 (some .boolean) ws ({ frames := 3, cells := 2, slots := 4, locals := 42 } : Room) #[(.ref a), (.int x1)] h0 (fun v h L => ∃ r : Int32, v = some (.int r) ∧ Fr n0 L ∧ h0.size ≤ h.size ∧ Sta Z h "java/util/BitSet" "$assertionsDisabled" "Z" (.int (1 : Int32)) ∧ (own_mem 8 g x1 ∧ own_few n0 Z h a 8 8 g ∨ ∃ u : Int64, own_bs Z h a u ∧ ∀ v, own_in6 v → (¬ (u &&& ((1 : Int64) <<< (v &&& 0x3f).toInt64)) = 0 ↔ own_mem 8 g v ∨ x1 = v))) := by
  refine own_body own_pn5 (fun m => mkF m 0 #[.val (.ref a), .val (.int x1), .unset] []) (fun m => own_ef_own_add8 m a x1) ?_
  intro p e s m below meth c T0 hx hby hml hlk hrt hZ hown hnm X0 e0
  have hown : s.vm.findClass "com/example/kunci/kunci/NumberSet" = some m.cls := hown
  have N0 := Fr.nil n0
  have hF0 := hF
  obtain ⟨aN, sz, ga, gN, naN, hsz, hlc, hc8, hcc, Ea, Fs, Fb, Fn, AN⟩ := hF
  obtain rfl := own_sz8 hsz
  refine own_pre (S' := (T0.setTop (mkF m 1 #[.val (.ref a), .val (.int x1), .unset] [(.ref a)]))) (fun tt_ kk_ => XS.aloadN X0.here hx rfl (hb hby own_d4_0) rfl rfl kk_) ?_
  refine own_pre (S' := (T0.setTop (mkF m 2 #[.val (.ref a), .val (.int x1), .unset] [(.int x1), (.ref a)]))) (fun tt_ kk_ => XS.iloadN X0.here hx rfl (hb hby own_d4_1) rfl kk_) ?_
  refine own_callV (C := "com/example/kunci/kunci/NumberSet") (y := (⟨"com/example/kunci/kunci/NumberSet", "contains", "(I)Z"⟩ : MethodName)) (b := a) X0 hx hZ hown (hw _ (List.mem_of_getElem? (i := 23) rfl)) (hw _ (List.mem_of_getElem? (i := 24) rfl)) (hw _ (List.mem_of_getElem? (i := 26) rfl)) (hw _ (List.mem_of_getElem? (i := 25) rfl)) (hw _ (List.mem_of_getElem? (i := 27) rfl)) (hw _ (List.mem_of_getElem? (i := 8) rfl)) (by decide) e0 Ea (hM := own_conf l Z a0 hw [] a 8 8 x1 g h0 n0 Z0 hF0) (W := 0) (pc := 2) (Ls := #[.val (.ref a), .val (.int x1), .unset]) (argsL := [(.int x1)]) (rest := []) (st0 := [(.int x1), (.ref a)]) (by rw [hml]; rfl) (lenOf own_pd0 rfl) rfl (Nat.le_of_eq rfl) (hb hby own_d4_2) (by decide) (by decide) (by decide) (by decide) ?_
  intro v1 T1 L1 X1 hQ1
  obtain ⟨r1, rfl, hr1, Nq1, hh1⟩ := hQ1
  have N1 := Fr.app N0 Nq1
  show own_Ends p e below s _ _ _ (T1.setTop (mkF m 5 #[.val (.ref a), .val (.int x1), .unset] [(.int r1)]))
  rcases hr1 with ⟨rfl, hm1⟩ | ⟨rfl, hm1⟩
  ·
    show own_Ends p e below s _ _ _ (T1.setTop (mkF m 5 #[.val (.ref a), .val (.int x1), .unset] [(.int (1 : Int32))]))
    refine own_pre (S' := (T1.setTop (mkF m 8 #[.val (.ref a), .val (.int x1), .unset] []))) (fun tt_ kk_ => XS.ifNo X1.here hx rfl (hb hby own_d4_5) rfl ((if0 _ _).trans (feq (by decide : ¬ ((1 : Int32) = (0 : Int32)))).1) kk_) ?_
    refine own_pre (S' := (T1.setTop (mkF m 9 #[.val (.ref a), .val (.int x1), .unset] [(.int (0 : Int32))]))) (fun tt_ kk_ => XS.iconst X1.here hx rfl (hb hby own_d4_8) kk_) ?_
    refine own_ret (t := .boolean) X1 hx hlk hrt rfl (Or.inl ⟨rfl, by simp, _, rfl⟩) (hb hby own_d4_9) (by decide) (by decide) ?_
    exact ⟨0, rfl, N1, by rw [show T1.heap = h0 from hh1]; exact ⟨Nat.le_refl _, S_ad, Or.inl ⟨hm1, hF0⟩⟩⟩
  ·
    show own_Ends p e below s _ _ _ (T1.setTop (mkF m 5 #[.val (.ref a), .val (.int x1), .unset] [(.int (0 : Int32))]))
    refine own_pre (S' := (T1.setTop (mkF m 10 #[.val (.ref a), .val (.int x1), .unset] []))) (fun tt_ kk_ => XS.ifYes X1.here hx rfl (pc0 := 5) (pc' := 10) rfl (hb hby own_d4_5) rfl ((if0 _ _).trans (teq (by decide : ((0 : Int32) = (0 : Int32)))).1) (by decide) (by decide) kk_) ?_
    refine own_pre (S' := (T1.setTop (mkF m 11 #[.val (.ref a), .val (.int x1), .unset] [(.ref a)]))) (fun tt_ kk_ => XS.aloadN X1.here hx rfl (hb hby own_d4_10) rfl rfl kk_) ?_
    obtain ⟨T2, X2, e2, st2⟩ := getF X1 hx hZ hown (host := "") (Or.inl (hw _ (List.mem_of_getElem? (i := 28) rfl))) Via.refl hh1 Fb (g := (mkF m 11 #[.val (.ref a), .val (.int x1), .unset] [(.ref a)])) rfl rfl (hb hby own_d4_11)
    refine own_pre (S' := (T2.setTop (mkF m 14 #[.val (.ref a), .val (.int x1), .unset] [.null]))) st2 ?_
    refine own_pre (S' := (T2.setTop (mkF m 28 #[.val (.ref a), .val (.int x1), .unset] []))) (fun tt_ kk_ => XS.ifnullYes X2.here hx rfl (pc0 := 14) (pc' := 28) rfl (hb hby own_d4_14) rfl (by decide) (by decide) kk_) ?_
    refine own_pre (S' := (T2.setTop (mkF m 29 #[.val (.ref a), .val (.int x1), .unset] [(.ref a)]))) (fun tt_ kk_ => XS.aloadN X2.here hx rfl (hb hby own_d4_28) rfl rfl kk_) ?_
    obtain ⟨T3, X3, e3, st3⟩ := getF X2 hx hZ hown (host := "") (Or.inl (hw _ (List.mem_of_getElem? (i := 34) rfl))) Via.refl e2 Fs (g := (mkF m 29 #[.val (.ref a), .val (.int x1), .unset] [(.ref a)])) rfl rfl (hb hby own_d4_29)
    refine own_pre (S' := (T3.setTop (mkF m 32 #[.val (.ref a), .val (.int x1), .unset] [(.int (8 : Int32))]))) st3 ?_
    refine own_pre (S' := (T3.setTop (mkF m 34 #[.val (.ref a), .val (.int x1), .unset] [(.int (8 : Int32)), (.int (8 : Int32))]))) (fun tt_ kk_ => XS.bipush X3.here hx rfl (hb hby own_d4_32) kk_) ?_
    refine own_pre (S' := (T3.setTop (mkF m 83 #[.val (.ref a), .val (.int x1), .unset] []))) (fun tt_ kk_ => XS.icmpYes X3.here hx rfl (pc0 := 34) (pc' := 83) rfl (hb hby own_d4_34) rfl (flt (by decide : ¬ ((8 : Int32) < (8 : Int32)))).2.1 (by decide) (by decide) kk_) ?_
    refine own_pre (S' := (T3.setTop (mkF m 84 #[.val (.ref a), .val (.int x1), .unset] [(.ref a)]))) (fun tt_ kk_ => XS.aloadN X3.here hx rfl (hb hby own_d4_83) rfl rfl kk_) ?_
    obtain ⟨T4, h4, X4, e4, E4, A4, D4, -, st4⟩ := newO X3 hx hZ hown (hw _ (List.mem_of_getElem? (i := 55) rfl)) (hw _ (List.mem_of_getElem? (i := 56) rfl)) (hw _ (List.mem_of_getElem? (i := 57) rfl)) e3 (g := (mkF m 84 #[.val (.ref a), .val (.int x1), .unset] [(.ref a)])) rfl (hb hby own_d4_84) (by decide) (by decide)
    obtain ⟨b4, g4⟩ : ∃ z, z = h0.size := ⟨_, rfl⟩
    rw [← g4] at A4 D4 st4
    have sz_b4 : h0.size ≤ b4 := Nat.le_trans (Nat.le_refl h0.size) (Nat.le_of_eq g4.symm)
    have ge_b4 : n0 ≤ b4 := Nat.le_trans Z0 (Nat.le_of_eq g4.symm)
    have ne_a_b4 : a ≠ b4 := Nat.ne_of_lt (Nat.lt_of_lt_of_le Ea.lt (Nat.le_of_eq g4.symm))
    have ne_aN_b4 : aN ≠ b4 := Nat.ne_of_lt (Nat.lt_of_lt_of_le AN.lt (Nat.le_of_eq g4.symm))
    have F4_wordsInUse : Fld Z h4 b4 "java/util/BitSet" "wordsInUse" "I" (.int (0 : Int32)) := D4 (Or.inl (hw _ (List.mem_of_getElem? (i := 63) rfl))) (ty := .int) (by decide)
    have F4_sizeIsSticky : Fld Z h4 b4 "java/util/BitSet" "sizeIsSticky" "Z" (.int (0 : Int32)) := D4 (Or.inl (hw _ (List.mem_of_getElem? (i := 65) rfl))) (ty := .boolean) (by decide)
    have F4_words : Fld Z h4 b4 "java/util/BitSet" "words" "[J" .null := D4 (Or.inl (hw _ (List.mem_of_getElem? (i := 76) rfl))) (ty := (.array .long)) (by decide)
    refine own_pre (S' := (T4.setTop (mkF m 87 #[.val (.ref a), .val (.int x1), .unset] [(.ref b4), (.ref a)]))) st4 ?_
    refine own_pre (S' := (T4.setTop (mkF m 88 #[.val (.ref a), .val (.int x1), .unset] [(.ref b4), (.ref b4), (.ref a)]))) (fun tt_ kk_ => XS.dup X4.here hx rfl (hb hby own_d4_87) rfl rfl kk_) ?_
    refine own_callI (y := (⟨"java/util/BitSet", "<init>", "()V"⟩ : MethodName)) (b := b4) X4 hx hZ hown rfl (hw _ (List.mem_of_getElem? (i := 58) rfl)) (hw _ (List.mem_of_getElem? (i := 59) rfl)) (hw _ (List.mem_of_getElem? (i := 60) rfl)) (hw _ (List.mem_of_getElem? (i := 57) rfl)) (by decide) e4 (hM := own_bsi l Z a0 hw [] b4 h4 n0 (Nat.le_trans Z0 E4.1) A4 ge_b4 F4_words F4_wordsInUse F4_sizeIsSticky) (W := 2) (pc := 88) (Ls := #[.val (.ref a), .val (.int x1), .unset]) (argsL := []) (rest := [(.ref b4), (.ref a)]) (st0 := [(.ref b4), (.ref b4), (.ref a)]) (by rw [hml]; rfl) (lenOf own_pd5 rfl) rfl (Nat.le_of_eq rfl) (hb hby own_d4_88) (by decide) (by decide) (by decide) (by decide) ?_
    intro v5 T5 L5 X5 hQ5
    obtain ⟨rfl, Nq5, K5, w5, gw5, gz5, Fw5, Fu5, Aw5⟩ := hQ5
    have N5 := Fr.app N1 Nq5
    show own_Ends p e below s _ _ _ (T5.setTop (mkF m 91 #[.val (.ref a), .val (.int x1), .unset] [(.ref b4), (.ref a)]))
    have ne_a_w5 : a ≠ w5 := Nat.ne_of_lt (Nat.lt_of_lt_of_le (Ea.ext E4).lt gz5)
    have ne_aN_w5 : aN ≠ w5 := Nat.ne_of_lt (Nat.lt_of_lt_of_le (AN.ext E4).lt gz5)
    have ne_b4_w5 : b4 ≠ w5 := Nat.ne_of_lt (Nat.lt_of_lt_of_le A4.lt gz5)
    have sz_w5 : h0.size ≤ w5 := Nat.le_trans (Nat.le_trans (Nat.le_refl h0.size) E4.1) gz5
    obtain ⟨T6, h6, X6, e6, W6, st6⟩ := putF X5 hx hZ hown (host := "") (Or.inl (hw _ (List.mem_of_getElem? (i := 28) rfl))) Via.refl (rfl : T5.heap = T5.heap) ((Fb.ext E4).keep K5 (ninS ne_a_b4 nin0)) ((Ea.ext E4).keep K5) (Or.inl (hw _ (List.mem_of_getElem? (i := 29) rfl))) (hw _ (List.mem_of_getElem? (i := 7) rfl)) (ty := (.object "java/util/BitSet")) (by decide) rfl rfl (g := (mkF m 91 #[.val (.ref a), .val (.int x1), .unset] [(.ref b4), (.ref a)])) rfl rfl (hb hby own_d4_91)
    have N6 := Fr.snoc X6 N5 ga
    have Fw6 := ((Fb.ext E4).keep K5 (ninS ne_a_b4 nin0)).same W6
    refine own_pre (S' := (T6.setTop (mkF m 94 #[.val (.ref a), .val (.int x1), .unset] []))) st6 ?_
    refine own_pre (S' := (T6.setTop (mkF m 95 #[.val (.ref a), .val (.int x1), .unset] [(.int (0 : Int32))]))) (fun tt_ kk_ => XS.iconst X6.here hx rfl (hb hby own_d4_94) kk_) ?_
    refine own_pre (S' := (T6.setTop (mkF m 96 #[.val (.ref a), .val (.int x1), .val (.int (0 : Int32))] []))) (fun tt_ kk_ => XS.istoreN X6.here hx rfl (hb hby own_d4_95) rfl (l' := #[.val (.ref a), .val (.int x1), .val (.int (0 : Int32))]) rfl kk_) ?_
    refine own_pre (S' := (T6.setTop (mkF m 97 #[.val (.ref a), .val (.int x1), .val (.int (0 : Int32))] [(.int (0 : Int32))]))) (fun tt_ kk_ => XS.iloadN X6.here hx rfl (hb hby own_d4_96) rfl kk_) ?_
    refine own_pre (S' := (T6.setTop (mkF m 98 #[.val (.ref a), .val (.int x1), .val (.int (0 : Int32))] [(.ref a), (.int (0 : Int32))]))) (fun tt_ kk_ => XS.aloadN X6.here hx rfl (hb hby own_d4_97) rfl rfl kk_) ?_
    obtain ⟨T7, X7, e7, st7⟩ := getF X6 hx hZ hown (host := "") (Or.inl (hw _ (List.mem_of_getElem? (i := 34) rfl))) Via.refl e6 (((Fs.ext E4).keep K5 (ninS ne_a_b4 nin0)).other W6 (Or.inr (slot_ne (C := "com/example/kunci/kunci/NumberSet") (Or.inl (hw _ (List.mem_of_getElem? (i := 35) rfl))) (Or.inl (hw _ (List.mem_of_getElem? (i := 29) rfl))) (by decide) (t := .int) (t' := (.object "java/util/BitSet")) (by decide) (by decide)))) (g := (mkF m 98 #[.val (.ref a), .val (.int x1), .val (.int (0 : Int32))] [(.ref a), (.int (0 : Int32))])) rfl rfl (hb hby own_d4_98)
    refine own_pre (S' := (T7.setTop (mkF m 101 #[.val (.ref a), .val (.int x1), .val (.int (0 : Int32))] [(.int (8 : Int32)), (.int (0 : Int32))]))) st7 ?_
    refine own_pre (S' := (T7.setTop (mkF m 104 #[.val (.ref a), .val (.int x1), .val (.int (0 : Int32))] []))) (fun tt_ kk_ => XS.icmpNo X7.here hx rfl (hb hby own_d4_101) rfl (tlt (by decide : ((0 : Int32) < (8 : Int32)))).2.1 kk_) ?_
    refine own_pre (S' := (T7.setTop (mkF m 105 #[.val (.ref a), .val (.int x1), .val (.int (0 : Int32))] [(.ref a)]))) (fun tt_ kk_ => XS.aloadN X7.here hx rfl (hb hby own_d4_104) rfl rfl kk_) ?_
    obtain ⟨T8, X8, e8, st8⟩ := getF X7 hx hZ hown (host := "") (Or.inl (hw _ (List.mem_of_getElem? (i := 28) rfl))) Via.refl e7 Fw6 (g := (mkF m 105 #[.val (.ref a), .val (.int x1), .val (.int (0 : Int32))] [(.ref a)])) rfl rfl (hb hby own_d4_105)
    refine own_pre (S' := (T8.setTop (mkF m 108 #[.val (.ref a), .val (.int x1), .val (.int (0 : Int32))] [(.ref b4)]))) st8 ?_
    refine own_pre (S' := (T8.setTop (mkF m 109 #[.val (.ref a), .val (.int x1), .val (.int (0 : Int32))] [(.ref a), (.ref b4)]))) (fun tt_ kk_ => XS.aloadN X8.here hx rfl (hb hby own_d4_108) rfl rfl kk_) ?_
    obtain ⟨T9, X9, e9, st9⟩ := getF X8 hx hZ hown (host := "") (Or.inl (hw _ (List.mem_of_getElem? (i := 16) rfl))) Via.refl e8 (((Fn.ext E4).keep K5 (ninS ne_a_b4 nin0)).other W6 (Or.inr (slot_ne (C := "com/example/kunci/kunci/NumberSet") (Or.inl (hw _ (List.mem_of_getElem? (i := 17) rfl))) (Or.inl (hw _ (List.mem_of_getElem? (i := 29) rfl))) (by decide) (t := (.array .int)) (t' := (.object "java/util/BitSet")) (by decide) (by decide)))) (g := (mkF m 109 #[.val (.ref a), .val (.int x1), .val (.int (0 : Int32))] [(.ref a), (.ref b4)])) rfl rfl (hb hby own_d4_109)
    refine own_pre (S' := (T9.setTop (mkF m 112 #[.val (.ref a), .val (.int x1), .val (.int (0 : Int32))] [(.ref aN), (.ref b4)]))) st9 ?_
    refine own_pre (S' := (T9.setTop (mkF m 113 #[.val (.ref a), .val (.int x1), .val (.int (0 : Int32))] [(.int (0 : Int32)), (.ref aN), (.ref b4)]))) (fun tt_ kk_ => XS.iloadN X9.here hx rfl (hb hby own_d4_112) rfl kk_) ?_
    refine own_iald X9 hx hZ e9 (((AN.ext E4).keep K5 (ninS ne_aN_b4 nin0)).other W6 (Ne.symm naN)) 0 rfl (by decide) (hb hby own_d4_113) ?_
    show own_Ends p e below s _ _ _ (T9.setTop (mkF m 114 #[.val (.ref a), .val (.int x1), .val (.int (0 : Int32))] [(.int (g 0)), (.ref b4)]))
    refine own_callV (C := "java/util/BitSet") (y := (⟨"java/util/BitSet", "set", "(I)V"⟩ : MethodName)) (b := b4) X9 hx hZ hown (hw _ (List.mem_of_getElem? (i := 77) rfl)) (hw _ (List.mem_of_getElem? (i := 78) rfl)) (hw _ (List.mem_of_getElem? (i := 80) rfl)) (hw _ (List.mem_of_getElem? (i := 79) rfl)) (hw _ (List.mem_of_getElem? (i := 81) rfl)) (hw _ (List.mem_of_getElem? (i := 57) rfl)) (by decide) e9 ((A4.keep K5).wr W6) (hM := own_bset l Z a0 hw [] b4 w5 (0 : Int32) (g 0) 0 h6 n0 (Nat.le_trans (Nat.le_trans (Nat.le_trans Z0 E4.1) K5.1) (Nat.le_of_eq W6.size.symm)) (hgi 0 (by decide)) (Or.inl rfl) ((A4.keep K5).wr W6) ge_b4 gw5 ne_b4_w5 (Fw5.other W6 (Or.inl (Ne.symm ne_a_b4))) (Fu5.other W6 (Or.inl (Ne.symm ne_a_b4))) (Aw5.other W6 (Ne.symm ne_a_w5)) ((own_sta_keep (S_ad.ext E4) K5 (allS (own_plainE A4) all0)).wr W6)) (W := 0) (pc := 114) (Ls := #[.val (.ref a), .val (.int x1), .val (.int (0 : Int32))]) (argsL := [(.int (g 0))]) (rest := []) (st0 := [(.int (g 0)), (.ref b4)]) (by rw [hml]; rfl) (lenOf own_pd4 rfl) rfl (Nat.le_of_eq rfl) (hb hby own_d4_114) (by decide) (by decide) (by decide) (by decide) ?_
    intro v10 T10 L10 X10 hQ10
    obtain ⟨rfl, Nq10, K10, Fw10, Fu10, Aw10⟩ := hQ10
    have N10 := Fr.app N6 Nq10
    show own_Ends p e below s _ _ _ (T10.setTop (mkF m 117 #[.val (.ref a), .val (.int x1), .val (.int (0 : Int32))] []))
    obtain ⟨u1, hu1⟩ : ∃ z : Int64, z = (0 ||| ((1 : Int64) <<< ((g 0) &&& 0x3f).toInt64)) := ⟨_, rfl⟩
    rw [← hu1] at Aw10
    have hb1 := own_bstep (g := g) (k := 0) hu1 (hgi 0 (by decide)) own_b00
    refine own_pre (S' := (T10.setTop (mkF m 120 #[.val (.ref a), .val (.int x1), .val (.int (1 : Int32))] []))) (fun tt_ kk_ => XS.iinc X10.here hx rfl (hb hby own_d4_117) rfl (l' := #[.val (.ref a), .val (.int x1), .val (.int (1 : Int32))]) rfl kk_) ?_
    refine own_pre (S' := (T10.setTop (mkF m 96 #[.val (.ref a), .val (.int x1), .val (.int (1 : Int32))] []))) (fun tt_ kk_ => XS.goto X10.here hx rfl (pc0 := 120) (pc' := 96) rfl (hb hby own_d4_120) (by decide) (by decide) kk_) ?_
    refine own_pre (S' := (T10.setTop (mkF m 97 #[.val (.ref a), .val (.int x1), .val (.int (1 : Int32))] [(.int (1 : Int32))]))) (fun tt_ kk_ => XS.iloadN X10.here hx rfl (hb hby own_d4_96) rfl kk_) ?_
    refine own_pre (S' := (T10.setTop (mkF m 98 #[.val (.ref a), .val (.int x1), .val (.int (1 : Int32))] [(.ref a), (.int (1 : Int32))]))) (fun tt_ kk_ => XS.aloadN X10.here hx rfl (hb hby own_d4_97) rfl rfl kk_) ?_
    obtain ⟨T11, X11, e11, st11⟩ := getF X10 hx hZ hown (host := "") (Or.inl (hw _ (List.mem_of_getElem? (i := 34) rfl))) Via.refl (rfl : T10.heap = T10.heap) ((((Fs.ext E4).keep K5 (ninS ne_a_b4 nin0)).other W6 (Or.inr (slot_ne (C := "com/example/kunci/kunci/NumberSet") (Or.inl (hw _ (List.mem_of_getElem? (i := 35) rfl))) (Or.inl (hw _ (List.mem_of_getElem? (i := 29) rfl))) (by decide) (t := .int) (t' := (.object "java/util/BitSet")) (by decide) (by decide)))).keep K10 (ninS ne_a_b4 (ninS ne_a_w5 nin0))) (g := (mkF m 98 #[.val (.ref a), .val (.int x1), .val (.int (1 : Int32))] [(.ref a), (.int (1 : Int32))])) rfl rfl (hb hby own_d4_98)
    refine own_pre (S' := (T11.setTop (mkF m 101 #[.val (.ref a), .val (.int x1), .val (.int (1 : Int32))] [(.int (8 : Int32)), (.int (1 : Int32))]))) st11 ?_
    refine own_pre (S' := (T11.setTop (mkF m 104 #[.val (.ref a), .val (.int x1), .val (.int (1 : Int32))] []))) (fun tt_ kk_ => XS.icmpNo X11.here hx rfl (hb hby own_d4_101) rfl (tlt (by decide : ((1 : Int32) < (8 : Int32)))).2.1 kk_) ?_
    refine own_pre (S' := (T11.setTop (mkF m 105 #[.val (.ref a), .val (.int x1), .val (.int (1 : Int32))] [(.ref a)]))) (fun tt_ kk_ => XS.aloadN X11.here hx rfl (hb hby own_d4_104) rfl rfl kk_) ?_
    obtain ⟨T12, X12, e12, st12⟩ := getF X11 hx hZ hown (host := "") (Or.inl (hw _ (List.mem_of_getElem? (i := 28) rfl))) Via.refl e11 (Fw6.keep K10 (ninS ne_a_b4 (ninS ne_a_w5 nin0))) (g := (mkF m 105 #[.val (.ref a), .val (.int x1), .val (.int (1 : Int32))] [(.ref a)])) rfl rfl (hb hby own_d4_105)
    refine own_pre (S' := (T12.setTop (mkF m 108 #[.val (.ref a), .val (.int x1), .val (.int (1 : Int32))] [(.ref b4)]))) st12 ?_
    refine own_pre (S' := (T12.setTop (mkF m 109 #[.val (.ref a), .val (.int x1), .val (.int (1 : Int32))] [(.ref a), (.ref b4)]))) (fun tt_ kk_ => XS.aloadN X12.here hx rfl (hb hby own_d4_108) rfl rfl kk_) ?_
    obtain ⟨T13, X13, e13, st13⟩ := getF X12 hx hZ hown (host := "") (Or.inl (hw _ (List.mem_of_getElem? (i := 16) rfl))) Via.refl e12 ((((Fn.ext E4).keep K5 (ninS ne_a_b4 nin0)).other W6 (Or.inr (slot_ne (C := "com/example/kunci/kunci/NumberSet") (Or.inl (hw _ (List.mem_of_getElem? (i := 17) rfl))) (Or.inl (hw _ (List.mem_of_getElem? (i := 29) rfl))) (by decide) (t := (.array .int)) (t' := (.object "java/util/BitSet")) (by decide) (by decide)))).keep K10 (ninS ne_a_b4 (ninS ne_a_w5 nin0))) (g := (mkF m 109 #[.val (.ref a), .val (.int x1), .val (.int (1 : Int32))] [(.ref a), (.ref b4)])) rfl rfl (hb hby own_d4_109)
    refine own_pre (S' := (T13.setTop (mkF m 112 #[.val (.ref a), .val (.int x1), .val (.int (1 : Int32))] [(.ref aN), (.ref b4)]))) st13 ?_
    refine own_pre (S' := (T13.setTop (mkF m 113 #[.val (.ref a), .val (.int x1), .val (.int (1 : Int32))] [(.int (1 : Int32)), (.ref aN), (.ref b4)]))) (fun tt_ kk_ => XS.iloadN X13.here hx rfl (hb hby own_d4_112) rfl kk_) ?_
    refine own_iald X13 hx hZ e13 ((((AN.ext E4).keep K5 (ninS ne_aN_b4 nin0)).other W6 (Ne.symm naN)).keep K10 (ninS ne_aN_b4 (ninS ne_aN_w5 nin0))) 1 rfl (by decide) (hb hby own_d4_113) ?_
    show own_Ends p e below s _ _ _ (T13.setTop (mkF m 114 #[.val (.ref a), .val (.int x1), .val (.int (1 : Int32))] [(.int (g 1)), (.ref b4)]))
    refine own_callV (C := "java/util/BitSet") (y := (⟨"java/util/BitSet", "set", "(I)V"⟩ : MethodName)) (b := b4) X13 hx hZ hown (hw _ (List.mem_of_getElem? (i := 77) rfl)) (hw _ (List.mem_of_getElem? (i := 78) rfl)) (hw _ (List.mem_of_getElem? (i := 80) rfl)) (hw _ (List.mem_of_getElem? (i := 79) rfl)) (hw _ (List.mem_of_getElem? (i := 81) rfl)) (hw _ (List.mem_of_getElem? (i := 57) rfl)) (by decide) e13 (((A4.keep K5).wr W6).keep K10) (hM := own_bset l Z a0 hw [] b4 w5 (1 : Int32) (g 1) u1 T10.heap n0 (Nat.le_trans (Nat.le_trans (Nat.le_trans (Nat.le_trans Z0 E4.1) K5.1) (Nat.le_of_eq W6.size.symm)) K10.1) (hgi 1 (by decide)) (Or.inr rfl) (((A4.keep K5).wr W6).keep K10) ge_b4 gw5 ne_b4_w5 Fw10 Fu10 Aw10 (own_sta_keep ((own_sta_keep (S_ad.ext E4) K5 (allS (own_plainE A4) all0)).wr W6) K10 (allS (own_plainE ((A4.keep K5).wr W6)) (allS (own_plainA (Aw5.other W6 (Ne.symm ne_a_w5))) all0)))) (W := 0) (pc := 114) (Ls := #[.val (.ref a), .val (.int x1), .val (.int (1 : Int32))]) (argsL := [(.int (g 1))]) (rest := []) (st0 := [(.int (g 1)), (.ref b4)]) (by rw [hml]; rfl) (lenOf own_pd4 rfl) rfl (Nat.le_of_eq rfl) (hb hby own_d4_114) (by decide) (by decide) (by decide) (by decide) ?_
    intro v14 T14 L14 X14 hQ14
    obtain ⟨rfl, Nq14, K14, Fw14, Fu14, Aw14⟩ := hQ14
    have N14 := Fr.app N10 Nq14
    show own_Ends p e below s _ _ _ (T14.setTop (mkF m 117 #[.val (.ref a), .val (.int x1), .val (.int (1 : Int32))] []))
    obtain ⟨u2, hu2⟩ : ∃ z : Int64, z = (u1 ||| ((1 : Int64) <<< ((g 1) &&& 0x3f).toInt64)) := ⟨_, rfl⟩
    rw [← hu2] at Aw14
    have hb2 := own_bstep (g := g) (k := 1) hu2 (hgi 1 (by decide)) hb1
    refine own_pre (S' := (T14.setTop (mkF m 120 #[.val (.ref a), .val (.int x1), .val (.int (2 : Int32))] []))) (fun tt_ kk_ => XS.iinc X14.here hx rfl (hb hby own_d4_117) rfl (l' := #[.val (.ref a), .val (.int x1), .val (.int (2 : Int32))]) rfl kk_) ?_
    refine own_pre (S' := (T14.setTop (mkF m 96 #[.val (.ref a), .val (.int x1), .val (.int (2 : Int32))] []))) (fun tt_ kk_ => XS.goto X14.here hx rfl (pc0 := 120) (pc' := 96) rfl (hb hby own_d4_120) (by decide) (by decide) kk_) ?_
    refine own_pre (S' := (T14.setTop (mkF m 97 #[.val (.ref a), .val (.int x1), .val (.int (2 : Int32))] [(.int (2 : Int32))]))) (fun tt_ kk_ => XS.iloadN X14.here hx rfl (hb hby own_d4_96) rfl kk_) ?_
    refine own_pre (S' := (T14.setTop (mkF m 98 #[.val (.ref a), .val (.int x1), .val (.int (2 : Int32))] [(.ref a), (.int (2 : Int32))]))) (fun tt_ kk_ => XS.aloadN X14.here hx rfl (hb hby own_d4_97) rfl rfl kk_) ?_
    obtain ⟨T15, X15, e15, st15⟩ := getF X14 hx hZ hown (host := "") (Or.inl (hw _ (List.mem_of_getElem? (i := 34) rfl))) Via.refl (rfl : T14.heap = T14.heap) (((((Fs.ext E4).keep K5 (ninS ne_a_b4 nin0)).other W6 (Or.inr (slot_ne (C := "com/example/kunci/kunci/NumberSet") (Or.inl (hw _ (List.mem_of_getElem? (i := 35) rfl))) (Or.inl (hw _ (List.mem_of_getElem? (i := 29) rfl))) (by decide) (t := .int) (t' := (.object "java/util/BitSet")) (by decide) (by decide)))).keep K10 (ninS ne_a_b4 (ninS ne_a_w5 nin0))).keep K14 (ninS ne_a_b4 (ninS ne_a_w5 nin0))) (g := (mkF m 98 #[.val (.ref a), .val (.int x1), .val (.int (2 : Int32))] [(.ref a), (.int (2 : Int32))])) rfl rfl (hb hby own_d4_98)
    refine own_pre (S' := (T15.setTop (mkF m 101 #[.val (.ref a), .val (.int x1), .val (.int (2 : Int32))] [(.int (8 : Int32)), (.int (2 : Int32))]))) st15 ?_
    refine own_pre (S' := (T15.setTop (mkF m 104 #[.val (.ref a), .val (.int x1), .val (.int (2 : Int32))] []))) (fun tt_ kk_ => XS.icmpNo X15.here hx rfl (hb hby own_d4_101) rfl (tlt (by decide : ((2 : Int32) < (8 : Int32)))).2.1 kk_) ?_
    refine own_pre (S' := (T15.setTop (mkF m 105 #[.val (.ref a), .val (.int x1), .val (.int (2 : Int32))] [(.ref a)]))) (fun tt_ kk_ => XS.aloadN X15.here hx rfl (hb hby own_d4_104) rfl rfl kk_) ?_
    obtain ⟨T16, X16, e16, st16⟩ := getF X15 hx hZ hown (host := "") (Or.inl (hw _ (List.mem_of_getElem? (i := 28) rfl))) Via.refl e15 ((Fw6.keep K10 (ninS ne_a_b4 (ninS ne_a_w5 nin0))).keep K14 (ninS ne_a_b4 (ninS ne_a_w5 nin0))) (g := (mkF m 105 #[.val (.ref a), .val (.int x1), .val (.int (2 : Int32))] [(.ref a)])) rfl rfl (hb hby own_d4_105)
    refine own_pre (S' := (T16.setTop (mkF m 108 #[.val (.ref a), .val (.int x1), .val (.int (2 : Int32))] [(.ref b4)]))) st16 ?_
    refine own_pre (S' := (T16.setTop (mkF m 109 #[.val (.ref a), .val (.int x1), .val (.int (2 : Int32))] [(.ref a), (.ref b4)]))) (fun tt_ kk_ => XS.aloadN X16.here hx rfl (hb hby own_d4_108) rfl rfl kk_) ?_
    obtain ⟨T17, X17, e17, st17⟩ := getF X16 hx hZ hown (host := "") (Or.inl (hw _ (List.mem_of_getElem? (i := 16) rfl))) Via.refl e16 (((((Fn.ext E4).keep K5 (ninS ne_a_b4 nin0)).other W6 (Or.inr (slot_ne (C := "com/example/kunci/kunci/NumberSet") (Or.inl (hw _ (List.mem_of_getElem? (i := 17) rfl))) (Or.inl (hw _ (List.mem_of_getElem? (i := 29) rfl))) (by decide) (t := (.array .int)) (t' := (.object "java/util/BitSet")) (by decide) (by decide)))).keep K10 (ninS ne_a_b4 (ninS ne_a_w5 nin0))).keep K14 (ninS ne_a_b4 (ninS ne_a_w5 nin0))) (g := (mkF m 109 #[.val (.ref a), .val (.int x1), .val (.int (2 : Int32))] [(.ref a), (.ref b4)])) rfl rfl (hb hby own_d4_109)
    refine own_pre (S' := (T17.setTop (mkF m 112 #[.val (.ref a), .val (.int x1), .val (.int (2 : Int32))] [(.ref aN), (.ref b4)]))) st17 ?_
    refine own_pre (S' := (T17.setTop (mkF m 113 #[.val (.ref a), .val (.int x1), .val (.int (2 : Int32))] [(.int (2 : Int32)), (.ref aN), (.ref b4)]))) (fun tt_ kk_ => XS.iloadN X17.here hx rfl (hb hby own_d4_112) rfl kk_) ?_
    refine own_iald X17 hx hZ e17 (((((AN.ext E4).keep K5 (ninS ne_aN_b4 nin0)).other W6 (Ne.symm naN)).keep K10 (ninS ne_aN_b4 (ninS ne_aN_w5 nin0))).keep K14 (ninS ne_aN_b4 (ninS ne_aN_w5 nin0))) 2 rfl (by decide) (hb hby own_d4_113) ?_
    show own_Ends p e below s _ _ _ (T17.setTop (mkF m 114 #[.val (.ref a), .val (.int x1), .val (.int (2 : Int32))] [(.int (g 2)), (.ref b4)]))
    refine own_callV (C := "java/util/BitSet") (y := (⟨"java/util/BitSet", "set", "(I)V"⟩ : MethodName)) (b := b4) X17 hx hZ hown (hw _ (List.mem_of_getElem? (i := 77) rfl)) (hw _ (List.mem_of_getElem? (i := 78) rfl)) (hw _ (List.mem_of_getElem? (i := 80) rfl)) (hw _ (List.mem_of_getElem? (i := 79) rfl)) (hw _ (List.mem_of_getElem? (i := 81) rfl)) (hw _ (List.mem_of_getElem? (i := 57) rfl)) (by decide) e17 ((((A4.keep K5).wr W6).keep K10).keep K14) (hM := own_bset l Z a0 hw [] b4 w5 (1 : Int32) (g 2) u2 T14.heap n0 (Nat.le_trans (Nat.le_trans (Nat.le_trans (Nat.le_trans (Nat.le_trans Z0 E4.1) K5.1) (Nat.le_of_eq W6.size.symm)) K10.1) K14.1) (hgi 2 (by decide)) (Or.inr rfl) ((((A4.keep K5).wr W6).keep K10).keep K14) ge_b4 gw5 ne_b4_w5 Fw14 Fu14 Aw14 (own_sta_keep (own_sta_keep ((own_sta_keep (S_ad.ext E4) K5 (allS (own_plainE A4) all0)).wr W6) K10 (allS (own_plainE ((A4.keep K5).wr W6)) (allS (own_plainA (Aw5.other W6 (Ne.symm ne_a_w5))) all0))) K14 (allS (own_plainE (((A4.keep K5).wr W6).keep K10)) (allS (own_plainA Aw10) all0)))) (W := 0) (pc := 114) (Ls := #[.val (.ref a), .val (.int x1), .val (.int (2 : Int32))]) (argsL := [(.int (g 2))]) (rest := []) (st0 := [(.int (g 2)), (.ref b4)]) (by rw [hml]; rfl) (lenOf own_pd4 rfl) rfl (Nat.le_of_eq rfl) (hb hby own_d4_114) (by decide) (by decide) (by decide) (by decide) ?_
    intro v18 T18 L18 X18 hQ18
    obtain ⟨rfl, Nq18, K18, Fw18, Fu18, Aw18⟩ := hQ18
    have N18 := Fr.app N14 Nq18
    show own_Ends p e below s _ _ _ (T18.setTop (mkF m 117 #[.val (.ref a), .val (.int x1), .val (.int (2 : Int32))] []))
    obtain ⟨u3, hu3⟩ : ∃ z : Int64, z = (u2 ||| ((1 : Int64) <<< ((g 2) &&& 0x3f).toInt64)) := ⟨_, rfl⟩
    rw [← hu3] at Aw18
    have hb3 := own_bstep (g := g) (k := 2) hu3 (hgi 2 (by decide)) hb2
    refine own_pre (S' := (T18.setTop (mkF m 120 #[.val (.ref a), .val (.int x1), .val (.int (3 : Int32))] []))) (fun tt_ kk_ => XS.iinc X18.here hx rfl (hb hby own_d4_117) rfl (l' := #[.val (.ref a), .val (.int x1), .val (.int (3 : Int32))]) rfl kk_) ?_
    refine own_pre (S' := (T18.setTop (mkF m 96 #[.val (.ref a), .val (.int x1), .val (.int (3 : Int32))] []))) (fun tt_ kk_ => XS.goto X18.here hx rfl (pc0 := 120) (pc' := 96) rfl (hb hby own_d4_120) (by decide) (by decide) kk_) ?_
    refine own_pre (S' := (T18.setTop (mkF m 97 #[.val (.ref a), .val (.int x1), .val (.int (3 : Int32))] [(.int (3 : Int32))]))) (fun tt_ kk_ => XS.iloadN X18.here hx rfl (hb hby own_d4_96) rfl kk_) ?_
    refine own_pre (S' := (T18.setTop (mkF m 98 #[.val (.ref a), .val (.int x1), .val (.int (3 : Int32))] [(.ref a), (.int (3 : Int32))]))) (fun tt_ kk_ => XS.aloadN X18.here hx rfl (hb hby own_d4_97) rfl rfl kk_) ?_
    obtain ⟨T19, X19, e19, st19⟩ := getF X18 hx hZ hown (host := "") (Or.inl (hw _ (List.mem_of_getElem? (i := 34) rfl))) Via.refl (rfl : T18.heap = T18.heap) ((((((Fs.ext E4).keep K5 (ninS ne_a_b4 nin0)).other W6 (Or.inr (slot_ne (C := "com/example/kunci/kunci/NumberSet") (Or.inl (hw _ (List.mem_of_getElem? (i := 35) rfl))) (Or.inl (hw _ (List.mem_of_getElem? (i := 29) rfl))) (by decide) (t := .int) (t' := (.object "java/util/BitSet")) (by decide) (by decide)))).keep K10 (ninS ne_a_b4 (ninS ne_a_w5 nin0))).keep K14 (ninS ne_a_b4 (ninS ne_a_w5 nin0))).keep K18 (ninS ne_a_b4 (ninS ne_a_w5 nin0))) (g := (mkF m 98 #[.val (.ref a), .val (.int x1), .val (.int (3 : Int32))] [(.ref a), (.int (3 : Int32))])) rfl rfl (hb hby own_d4_98)
    refine own_pre (S' := (T19.setTop (mkF m 101 #[.val (.ref a), .val (.int x1), .val (.int (3 : Int32))] [(.int (8 : Int32)), (.int (3 : Int32))]))) st19 ?_
    refine own_pre (S' := (T19.setTop (mkF m 104 #[.val (.ref a), .val (.int x1), .val (.int (3 : Int32))] []))) (fun tt_ kk_ => XS.icmpNo X19.here hx rfl (hb hby own_d4_101) rfl (tlt (by decide : ((3 : Int32) < (8 : Int32)))).2.1 kk_) ?_
    refine own_pre (S' := (T19.setTop (mkF m 105 #[.val (.ref a), .val (.int x1), .val (.int (3 : Int32))] [(.ref a)]))) (fun tt_ kk_ => XS.aloadN X19.here hx rfl (hb hby own_d4_104) rfl rfl kk_) ?_
    obtain ⟨T20, X20, e20, st20⟩ := getF X19 hx hZ hown (host := "") (Or.inl (hw _ (List.mem_of_getElem? (i := 28) rfl))) Via.refl e19 (((Fw6.keep K10 (ninS ne_a_b4 (ninS ne_a_w5 nin0))).keep K14 (ninS ne_a_b4 (ninS ne_a_w5 nin0))).keep K18 (ninS ne_a_b4 (ninS ne_a_w5 nin0))) (g := (mkF m 105 #[.val (.ref a), .val (.int x1), .val (.int (3 : Int32))] [(.ref a)])) rfl rfl (hb hby own_d4_105)
    refine own_pre (S' := (T20.setTop (mkF m 108 #[.val (.ref a), .val (.int x1), .val (.int (3 : Int32))] [(.ref b4)]))) st20 ?_
    refine own_pre (S' := (T20.setTop (mkF m 109 #[.val (.ref a), .val (.int x1), .val (.int (3 : Int32))] [(.ref a), (.ref b4)]))) (fun tt_ kk_ => XS.aloadN X20.here hx rfl (hb hby own_d4_108) rfl rfl kk_) ?_
    obtain ⟨T21, X21, e21, st21⟩ := getF X20 hx hZ hown (host := "") (Or.inl (hw _ (List.mem_of_getElem? (i := 16) rfl))) Via.refl e20 ((((((Fn.ext E4).keep K5 (ninS ne_a_b4 nin0)).other W6 (Or.inr (slot_ne (C := "com/example/kunci/kunci/NumberSet") (Or.inl (hw _ (List.mem_of_getElem? (i := 17) rfl))) (Or.inl (hw _ (List.mem_of_getElem? (i := 29) rfl))) (by decide) (t := (.array .int)) (t' := (.object "java/util/BitSet")) (by decide) (by decide)))).keep K10 (ninS ne_a_b4 (ninS ne_a_w5 nin0))).keep K14 (ninS ne_a_b4 (ninS ne_a_w5 nin0))).keep K18 (ninS ne_a_b4 (ninS ne_a_w5 nin0))) (g := (mkF m 109 #[.val (.ref a), .val (.int x1), .val (.int (3 : Int32))] [(.ref a), (.ref b4)])) rfl rfl (hb hby own_d4_109)
    refine own_pre (S' := (T21.setTop (mkF m 112 #[.val (.ref a), .val (.int x1), .val (.int (3 : Int32))] [(.ref aN), (.ref b4)]))) st21 ?_
    refine own_pre (S' := (T21.setTop (mkF m 113 #[.val (.ref a), .val (.int x1), .val (.int (3 : Int32))] [(.int (3 : Int32)), (.ref aN), (.ref b4)]))) (fun tt_ kk_ => XS.iloadN X21.here hx rfl (hb hby own_d4_112) rfl kk_) ?_
    refine own_iald X21 hx hZ e21 ((((((AN.ext E4).keep K5 (ninS ne_aN_b4 nin0)).other W6 (Ne.symm naN)).keep K10 (ninS ne_aN_b4 (ninS ne_aN_w5 nin0))).keep K14 (ninS ne_aN_b4 (ninS ne_aN_w5 nin0))).keep K18 (ninS ne_aN_b4 (ninS ne_aN_w5 nin0))) 3 rfl (by decide) (hb hby own_d4_113) ?_
    show own_Ends p e below s _ _ _ (T21.setTop (mkF m 114 #[.val (.ref a), .val (.int x1), .val (.int (3 : Int32))] [(.int (g 3)), (.ref b4)]))
    refine own_callV (C := "java/util/BitSet") (y := (⟨"java/util/BitSet", "set", "(I)V"⟩ : MethodName)) (b := b4) X21 hx hZ hown (hw _ (List.mem_of_getElem? (i := 77) rfl)) (hw _ (List.mem_of_getElem? (i := 78) rfl)) (hw _ (List.mem_of_getElem? (i := 80) rfl)) (hw _ (List.mem_of_getElem? (i := 79) rfl)) (hw _ (List.mem_of_getElem? (i := 81) rfl)) (hw _ (List.mem_of_getElem? (i := 57) rfl)) (by decide) e21 (((((A4.keep K5).wr W6).keep K10).keep K14).keep K18) (hM := own_bset l Z a0 hw [] b4 w5 (1 : Int32) (g 3) u3 T18.heap n0 (Nat.le_trans (Nat.le_trans (Nat.le_trans (Nat.le_trans (Nat.le_trans (Nat.le_trans Z0 E4.1) K5.1) (Nat.le_of_eq W6.size.symm)) K10.1) K14.1) K18.1) (hgi 3 (by decide)) (Or.inr rfl) (((((A4.keep K5).wr W6).keep K10).keep K14).keep K18) ge_b4 gw5 ne_b4_w5 Fw18 Fu18 Aw18 (own_sta_keep (own_sta_keep (own_sta_keep ((own_sta_keep (S_ad.ext E4) K5 (allS (own_plainE A4) all0)).wr W6) K10 (allS (own_plainE ((A4.keep K5).wr W6)) (allS (own_plainA (Aw5.other W6 (Ne.symm ne_a_w5))) all0))) K14 (allS (own_plainE (((A4.keep K5).wr W6).keep K10)) (allS (own_plainA Aw10) all0))) K18 (allS (own_plainE ((((A4.keep K5).wr W6).keep K10).keep K14)) (allS (own_plainA Aw14) all0)))) (W := 0) (pc := 114) (Ls := #[.val (.ref a), .val (.int x1), .val (.int (3 : Int32))]) (argsL := [(.int (g 3))]) (rest := []) (st0 := [(.int (g 3)), (.ref b4)]) (by rw [hml]; rfl) (lenOf own_pd4 rfl) rfl (Nat.le_of_eq rfl) (hb hby own_d4_114) (by decide) (by decide) (by decide) (by decide) ?_
    intro v22 T22 L22 X22 hQ22
    obtain ⟨rfl, Nq22, K22, Fw22, Fu22, Aw22⟩ := hQ22
    have N22 := Fr.app N18 Nq22
    show own_Ends p e below s _ _ _ (T22.setTop (mkF m 117 #[.val (.ref a), .val (.int x1), .val (.int (3 : Int32))] []))
    obtain ⟨u4, hu4⟩ : ∃ z : Int64, z = (u3 ||| ((1 : Int64) <<< ((g 3) &&& 0x3f).toInt64)) := ⟨_, rfl⟩
    rw [← hu4] at Aw22
    have hb4 := own_bstep (g := g) (k := 3) hu4 (hgi 3 (by decide)) hb3
    refine own_pre (S' := (T22.setTop (mkF m 120 #[.val (.ref a), .val (.int x1), .val (.int (4 : Int32))] []))) (fun tt_ kk_ => XS.iinc X22.here hx rfl (hb hby own_d4_117) rfl (l' := #[.val (.ref a), .val (.int x1), .val (.int (4 : Int32))]) rfl kk_) ?_
    refine own_pre (S' := (T22.setTop (mkF m 96 #[.val (.ref a), .val (.int x1), .val (.int (4 : Int32))] []))) (fun tt_ kk_ => XS.goto X22.here hx rfl (pc0 := 120) (pc' := 96) rfl (hb hby own_d4_120) (by decide) (by decide) kk_) ?_
    refine own_pre (S' := (T22.setTop (mkF m 97 #[.val (.ref a), .val (.int x1), .val (.int (4 : Int32))] [(.int (4 : Int32))]))) (fun tt_ kk_ => XS.iloadN X22.here hx rfl (hb hby own_d4_96) rfl kk_) ?_
    refine own_pre (S' := (T22.setTop (mkF m 98 #[.val (.ref a), .val (.int x1), .val (.int (4 : Int32))] [(.ref a), (.int (4 : Int32))]))) (fun tt_ kk_ => XS.aloadN X22.here hx rfl (hb hby own_d4_97) rfl rfl kk_) ?_
    obtain ⟨T23, X23, e23, st23⟩ := getF X22 hx hZ hown (host := "") (Or.inl (hw _ (List.mem_of_getElem? (i := 34) rfl))) Via.refl (rfl : T22.heap = T22.heap) (((((((Fs.ext E4).keep K5 (ninS ne_a_b4 nin0)).other W6 (Or.inr (slot_ne (C := "com/example/kunci/kunci/NumberSet") (Or.inl (hw _ (List.mem_of_getElem? (i := 35) rfl))) (Or.inl (hw _ (List.mem_of_getElem? (i := 29) rfl))) (by decide) (t := .int) (t' := (.object "java/util/BitSet")) (by decide) (by decide)))).keep K10 (ninS ne_a_b4 (ninS ne_a_w5 nin0))).keep K14 (ninS ne_a_b4 (ninS ne_a_w5 nin0))).keep K18 (ninS ne_a_b4 (ninS ne_a_w5 nin0))).keep K22 (ninS ne_a_b4 (ninS ne_a_w5 nin0))) (g := (mkF m 98 #[.val (.ref a), .val (.int x1), .val (.int (4 : Int32))] [(.ref a), (.int (4 : Int32))])) rfl rfl (hb hby own_d4_98)
    refine own_pre (S' := (T23.setTop (mkF m 101 #[.val (.ref a), .val (.int x1), .val (.int (4 : Int32))] [(.int (8 : Int32)), (.int (4 : Int32))]))) st23 ?_
    refine own_pre (S' := (T23.setTop (mkF m 104 #[.val (.ref a), .val (.int x1), .val (.int (4 : Int32))] []))) (fun tt_ kk_ => XS.icmpNo X23.here hx rfl (hb hby own_d4_101) rfl (tlt (by decide : ((4 : Int32) < (8 : Int32)))).2.1 kk_) ?_
    refine own_pre (S' := (T23.setTop (mkF m 105 #[.val (.ref a), .val (.int x1), .val (.int (4 : Int32))] [(.ref a)]))) (fun tt_ kk_ => XS.aloadN X23.here hx rfl (hb hby own_d4_104) rfl rfl kk_) ?_
    obtain ⟨T24, X24, e24, st24⟩ := getF X23 hx hZ hown (host := "") (Or.inl (hw _ (List.mem_of_getElem? (i := 28) rfl))) Via.refl e23 ((((Fw6.keep K10 (ninS ne_a_b4 (ninS ne_a_w5 nin0))).keep K14 (ninS ne_a_b4 (ninS ne_a_w5 nin0))).keep K18 (ninS ne_a_b4 (ninS ne_a_w5 nin0))).keep K22 (ninS ne_a_b4 (ninS ne_a_w5 nin0))) (g := (mkF m 105 #[.val (.ref a), .val (.int x1), .val (.int (4 : Int32))] [(.ref a)])) rfl rfl (hb hby own_d4_105)
    refine own_pre (S' := (T24.setTop (mkF m 108 #[.val (.ref a), .val (.int x1), .val (.int (4 : Int32))] [(.ref b4)]))) st24 ?_
    refine own_pre (S' := (T24.setTop (mkF m 109 #[.val (.ref a), .val (.int x1), .val (.int (4 : Int32))] [(.ref a), (.ref b4)]))) (fun tt_ kk_ => XS.aloadN X24.here hx rfl (hb hby own_d4_108) rfl rfl kk_) ?_
    obtain ⟨T25, X25, e25, st25⟩ := getF X24 hx hZ hown (host := "") (Or.inl (hw _ (List.mem_of_getElem? (i := 16) rfl))) Via.refl e24 (((((((Fn.ext E4).keep K5 (ninS ne_a_b4 nin0)).other W6 (Or.inr (slot_ne (C := "com/example/kunci/kunci/NumberSet") (Or.inl (hw _ (List.mem_of_getElem? (i := 17) rfl))) (Or.inl (hw _ (List.mem_of_getElem? (i := 29) rfl))) (by decide) (t := (.array .int)) (t' := (.object "java/util/BitSet")) (by decide) (by decide)))).keep K10 (ninS ne_a_b4 (ninS ne_a_w5 nin0))).keep K14 (ninS ne_a_b4 (ninS ne_a_w5 nin0))).keep K18 (ninS ne_a_b4 (ninS ne_a_w5 nin0))).keep K22 (ninS ne_a_b4 (ninS ne_a_w5 nin0))) (g := (mkF m 109 #[.val (.ref a), .val (.int x1), .val (.int (4 : Int32))] [(.ref a), (.ref b4)])) rfl rfl (hb hby own_d4_109)
    refine own_pre (S' := (T25.setTop (mkF m 112 #[.val (.ref a), .val (.int x1), .val (.int (4 : Int32))] [(.ref aN), (.ref b4)]))) st25 ?_
    refine own_pre (S' := (T25.setTop (mkF m 113 #[.val (.ref a), .val (.int x1), .val (.int (4 : Int32))] [(.int (4 : Int32)), (.ref aN), (.ref b4)]))) (fun tt_ kk_ => XS.iloadN X25.here hx rfl (hb hby own_d4_112) rfl kk_) ?_
    refine own_iald X25 hx hZ e25 (((((((AN.ext E4).keep K5 (ninS ne_aN_b4 nin0)).other W6 (Ne.symm naN)).keep K10 (ninS ne_aN_b4 (ninS ne_aN_w5 nin0))).keep K14 (ninS ne_aN_b4 (ninS ne_aN_w5 nin0))).keep K18 (ninS ne_aN_b4 (ninS ne_aN_w5 nin0))).keep K22 (ninS ne_aN_b4 (ninS ne_aN_w5 nin0))) 4 rfl (by decide) (hb hby own_d4_113) ?_
    show own_Ends p e below s _ _ _ (T25.setTop (mkF m 114 #[.val (.ref a), .val (.int x1), .val (.int (4 : Int32))] [(.int (g 4)), (.ref b4)]))
    refine own_callV (C := "java/util/BitSet") (y := (⟨"java/util/BitSet", "set", "(I)V"⟩ : MethodName)) (b := b4) X25 hx hZ hown (hw _ (List.mem_of_getElem? (i := 77) rfl)) (hw _ (List.mem_of_getElem? (i := 78) rfl)) (hw _ (List.mem_of_getElem? (i := 80) rfl)) (hw _ (List.mem_of_getElem? (i := 79) rfl)) (hw _ (List.mem_of_getElem? (i := 81) rfl)) (hw _ (List.mem_of_getElem? (i := 57) rfl)) (by decide) e25 ((((((A4.keep K5).wr W6).keep K10).keep K14).keep K18).keep K22) (hM := own_bset l Z a0 hw [] b4 w5 (1 : Int32) (g 4) u4 T22.heap n0 (Nat.le_trans (Nat.le_trans (Nat.le_trans (Nat.le_trans (Nat.le_trans (Nat.le_trans (Nat.le_trans Z0 E4.1) K5.1) (Nat.le_of_eq W6.size.symm)) K10.1) K14.1) K18.1) K22.1) (hgi 4 (by decide)) (Or.inr rfl) ((((((A4.keep K5).wr W6).keep K10).keep K14).keep K18).keep K22) ge_b4 gw5 ne_b4_w5 Fw22 Fu22 Aw22 (own_sta_keep (own_sta_keep (own_sta_keep (own_sta_keep ((own_sta_keep (S_ad.ext E4) K5 (allS (own_plainE A4) all0)).wr W6) K10 (allS (own_plainE ((A4.keep K5).wr W6)) (allS (own_plainA (Aw5.other W6 (Ne.symm ne_a_w5))) all0))) K14 (allS (own_plainE (((A4.keep K5).wr W6).keep K10)) (allS (own_plainA Aw10) all0))) K18 (allS (own_plainE ((((A4.keep K5).wr W6).keep K10).keep K14)) (allS (own_plainA Aw14) all0))) K22 (allS (own_plainE (((((A4.keep K5).wr W6).keep K10).keep K14).keep K18)) (allS (own_plainA Aw18) all0)))) (W := 0) (pc := 114) (Ls := #[.val (.ref a), .val (.int x1), .val (.int (4 : Int32))]) (argsL := [(.int (g 4))]) (rest := []) (st0 := [(.int (g 4)), (.ref b4)]) (by rw [hml]; rfl) (lenOf own_pd4 rfl) rfl (Nat.le_of_eq rfl) (hb hby own_d4_114) (by decide) (by decide) (by decide) (by decide) ?_
    intro v26 T26 L26 X26 hQ26
    obtain ⟨rfl, Nq26, K26, Fw26, Fu26, Aw26⟩ := hQ26
    have N26 := Fr.app N22 Nq26
    show own_Ends p e below s _ _ _ (T26.setTop (mkF m 117 #[.val (.ref a), .val (.int x1), .val (.int (4 : Int32))] []))
    obtain ⟨u5, hu5⟩ : ∃ z : Int64, z = (u4 ||| ((1 : Int64) <<< ((g 4) &&& 0x3f).toInt64)) := ⟨_, rfl⟩
    rw [← hu5] at Aw26
    have hb5 := own_bstep (g := g) (k := 4) hu5 (hgi 4 (by decide)) hb4
    refine own_pre (S' := (T26.setTop (mkF m 120 #[.val (.ref a), .val (.int x1), .val (.int (5 : Int32))] []))) (fun tt_ kk_ => XS.iinc X26.here hx rfl (hb hby own_d4_117) rfl (l' := #[.val (.ref a), .val (.int x1), .val (.int (5 : Int32))]) rfl kk_) ?_
    refine own_pre (S' := (T26.setTop (mkF m 96 #[.val (.ref a), .val (.int x1), .val (.int (5 : Int32))] []))) (fun tt_ kk_ => XS.goto X26.here hx rfl (pc0 := 120) (pc' := 96) rfl (hb hby own_d4_120) (by decide) (by decide) kk_) ?_
    refine own_pre (S' := (T26.setTop (mkF m 97 #[.val (.ref a), .val (.int x1), .val (.int (5 : Int32))] [(.int (5 : Int32))]))) (fun tt_ kk_ => XS.iloadN X26.here hx rfl (hb hby own_d4_96) rfl kk_) ?_
    refine own_pre (S' := (T26.setTop (mkF m 98 #[.val (.ref a), .val (.int x1), .val (.int (5 : Int32))] [(.ref a), (.int (5 : Int32))]))) (fun tt_ kk_ => XS.aloadN X26.here hx rfl (hb hby own_d4_97) rfl rfl kk_) ?_
    obtain ⟨T27, X27, e27, st27⟩ := getF X26 hx hZ hown (host := "") (Or.inl (hw _ (List.mem_of_getElem? (i := 34) rfl))) Via.refl (rfl : T26.heap = T26.heap) ((((((((Fs.ext E4).keep K5 (ninS ne_a_b4 nin0)).other W6 (Or.inr (slot_ne (C := "com/example/kunci/kunci/NumberSet") (Or.inl (hw _ (List.mem_of_getElem? (i := 35) rfl))) (Or.inl (hw _ (List.mem_of_getElem? (i := 29) rfl))) (by decide) (t := .int) (t' := (.object "java/util/BitSet")) (by decide) (by decide)))).keep K10 (ninS ne_a_b4 (ninS ne_a_w5 nin0))).keep K14 (ninS ne_a_b4 (ninS ne_a_w5 nin0))).keep K18 (ninS ne_a_b4 (ninS ne_a_w5 nin0))).keep K22 (ninS ne_a_b4 (ninS ne_a_w5 nin0))).keep K26 (ninS ne_a_b4 (ninS ne_a_w5 nin0))) (g := (mkF m 98 #[.val (.ref a), .val (.int x1), .val (.int (5 : Int32))] [(.ref a), (.int (5 : Int32))])) rfl rfl (hb hby own_d4_98)
    refine own_pre (S' := (T27.setTop (mkF m 101 #[.val (.ref a), .val (.int x1), .val (.int (5 : Int32))] [(.int (8 : Int32)), (.int (5 : Int32))]))) st27 ?_
    refine own_pre (S' := (T27.setTop (mkF m 104 #[.val (.ref a), .val (.int x1), .val (.int (5 : Int32))] []))) (fun tt_ kk_ => XS.icmpNo X27.here hx rfl (hb hby own_d4_101) rfl (tlt (by decide : ((5 : Int32) < (8 : Int32)))).2.1 kk_) ?_
    refine own_pre (S' := (T27.setTop (mkF m 105 #[.val (.ref a), .val (.int x1), .val (.int (5 : Int32))] [(.ref a)]))) (fun tt_ kk_ => XS.aloadN X27.here hx rfl (hb hby own_d4_104) rfl rfl kk_) ?_
    obtain ⟨T28, X28, e28, st28⟩ := getF X27 hx hZ hown (host := "") (Or.inl (hw _ (List.mem_of_getElem? (i := 28) rfl))) Via.refl e27 (((((Fw6.keep K10 (ninS ne_a_b4 (ninS ne_a_w5 nin0))).keep K14 (ninS ne_a_b4 (ninS ne_a_w5 nin0))).keep K18 (ninS ne_a_b4 (ninS ne_a_w5 nin0))).keep K22 (ninS ne_a_b4 (ninS ne_a_w5 nin0))).keep K26 (ninS ne_a_b4 (ninS ne_a_w5 nin0))) (g := (mkF m 105 #[.val (.ref a), .val (.int x1), .val (.int (5 : Int32))] [(.ref a)])) rfl rfl (hb hby own_d4_105)
    refine own_pre (S' := (T28.setTop (mkF m 108 #[.val (.ref a), .val (.int x1), .val (.int (5 : Int32))] [(.ref b4)]))) st28 ?_
    refine own_pre (S' := (T28.setTop (mkF m 109 #[.val (.ref a), .val (.int x1), .val (.int (5 : Int32))] [(.ref a), (.ref b4)]))) (fun tt_ kk_ => XS.aloadN X28.here hx rfl (hb hby own_d4_108) rfl rfl kk_) ?_
    obtain ⟨T29, X29, e29, st29⟩ := getF X28 hx hZ hown (host := "") (Or.inl (hw _ (List.mem_of_getElem? (i := 16) rfl))) Via.refl e28 ((((((((Fn.ext E4).keep K5 (ninS ne_a_b4 nin0)).other W6 (Or.inr (slot_ne (C := "com/example/kunci/kunci/NumberSet") (Or.inl (hw _ (List.mem_of_getElem? (i := 17) rfl))) (Or.inl (hw _ (List.mem_of_getElem? (i := 29) rfl))) (by decide) (t := (.array .int)) (t' := (.object "java/util/BitSet")) (by decide) (by decide)))).keep K10 (ninS ne_a_b4 (ninS ne_a_w5 nin0))).keep K14 (ninS ne_a_b4 (ninS ne_a_w5 nin0))).keep K18 (ninS ne_a_b4 (ninS ne_a_w5 nin0))).keep K22 (ninS ne_a_b4 (ninS ne_a_w5 nin0))).keep K26 (ninS ne_a_b4 (ninS ne_a_w5 nin0))) (g := (mkF m 109 #[.val (.ref a), .val (.int x1), .val (.int (5 : Int32))] [(.ref a), (.ref b4)])) rfl rfl (hb hby own_d4_109)
    refine own_pre (S' := (T29.setTop (mkF m 112 #[.val (.ref a), .val (.int x1), .val (.int (5 : Int32))] [(.ref aN), (.ref b4)]))) st29 ?_
    refine own_pre (S' := (T29.setTop (mkF m 113 #[.val (.ref a), .val (.int x1), .val (.int (5 : Int32))] [(.int (5 : Int32)), (.ref aN), (.ref b4)]))) (fun tt_ kk_ => XS.iloadN X29.here hx rfl (hb hby own_d4_112) rfl kk_) ?_
    refine own_iald X29 hx hZ e29 ((((((((AN.ext E4).keep K5 (ninS ne_aN_b4 nin0)).other W6 (Ne.symm naN)).keep K10 (ninS ne_aN_b4 (ninS ne_aN_w5 nin0))).keep K14 (ninS ne_aN_b4 (ninS ne_aN_w5 nin0))).keep K18 (ninS ne_aN_b4 (ninS ne_aN_w5 nin0))).keep K22 (ninS ne_aN_b4 (ninS ne_aN_w5 nin0))).keep K26 (ninS ne_aN_b4 (ninS ne_aN_w5 nin0))) 5 rfl (by decide) (hb hby own_d4_113) ?_
    show own_Ends p e below s _ _ _ (T29.setTop (mkF m 114 #[.val (.ref a), .val (.int x1), .val (.int (5 : Int32))] [(.int (g 5)), (.ref b4)]))
    refine own_callV (C := "java/util/BitSet") (y := (⟨"java/util/BitSet", "set", "(I)V"⟩ : MethodName)) (b := b4) X29 hx hZ hown (hw _ (List.mem_of_getElem? (i := 77) rfl)) (hw _ (List.mem_of_getElem? (i := 78) rfl)) (hw _ (List.mem_of_getElem? (i := 80) rfl)) (hw _ (List.mem_of_getElem? (i := 79) rfl)) (hw _ (List.mem_of_getElem? (i := 81) rfl)) (hw _ (List.mem_of_getElem? (i := 57) rfl)) (by decide) e29 (((((((A4.keep K5).wr W6).keep K10).keep K14).keep K18).keep K22).keep K26) (hM := own_bset l Z a0 hw [] b4 w5 (1 : Int32) (g 5) u5 T26.heap n0 (Nat.le_trans (Nat.le_trans (Nat.le_trans (Nat.le_trans (Nat.le_trans (Nat.le_trans (Nat.le_trans (Nat.le_trans Z0 E4.1) K5.1) (Nat.le_of_eq W6.size.symm)) K10.1) K14.1) K18.1) K22.1) K26.1) (hgi 5 (by decide)) (Or.inr rfl) (((((((A4.keep K5).wr W6).keep K10).keep K14).keep K18).keep K22).keep K26) ge_b4 gw5 ne_b4_w5 Fw26 Fu26 Aw26 (own_sta_keep (own_sta_keep (own_sta_keep (own_sta_keep (own_sta_keep ((own_sta_keep (S_ad.ext E4) K5 (allS (own_plainE A4) all0)).wr W6) K10 (allS (own_plainE ((A4.keep K5).wr W6)) (allS (own_plainA (Aw5.other W6 (Ne.symm ne_a_w5))) all0))) K14 (allS (own_plainE (((A4.keep K5).wr W6).keep K10)) (allS (own_plainA Aw10) all0))) K18 (allS (own_plainE ((((A4.keep K5).wr W6).keep K10).keep K14)) (allS (own_plainA Aw14) all0))) K22 (allS (own_plainE (((((A4.keep K5).wr W6).keep K10).keep K14).keep K18)) (allS (own_plainA Aw18) all0))) K26 (allS (own_plainE ((((((A4.keep K5).wr W6).keep K10).keep K14).keep K18).keep K22)) (allS (own_plainA Aw22) all0)))) (W := 0) (pc := 114) (Ls := #[.val (.ref a), .val (.int x1), .val (.int (5 : Int32))]) (argsL := [(.int (g 5))]) (rest := []) (st0 := [(.int (g 5)), (.ref b4)]) (by rw [hml]; rfl) (lenOf own_pd4 rfl) rfl (Nat.le_of_eq rfl) (hb hby own_d4_114) (by decide) (by decide) (by decide) (by decide) ?_
    intro v30 T30 L30 X30 hQ30
    obtain ⟨rfl, Nq30, K30, Fw30, Fu30, Aw30⟩ := hQ30
    have N30 := Fr.app N26 Nq30
    show own_Ends p e below s _ _ _ (T30.setTop (mkF m 117 #[.val (.ref a), .val (.int x1), .val (.int (5 : Int32))] []))
    obtain ⟨u6, hu6⟩ : ∃ z : Int64, z = (u5 ||| ((1 : Int64) <<< ((g 5) &&& 0x3f).toInt64)) := ⟨_, rfl⟩
    rw [← hu6] at Aw30
    have hb6 := own_bstep (g := g) (k := 5) hu6 (hgi 5 (by decide)) hb5
    refine own_pre (S' := (T30.setTop (mkF m 120 #[.val (.ref a), .val (.int x1), .val (.int (6 : Int32))] []))) (fun tt_ kk_ => XS.iinc X30.here hx rfl (hb hby own_d4_117) rfl (l' := #[.val (.ref a), .val (.int x1), .val (.int (6 : Int32))]) rfl kk_) ?_
    refine own_pre (S' := (T30.setTop (mkF m 96 #[.val (.ref a), .val (.int x1), .val (.int (6 : Int32))] []))) (fun tt_ kk_ => XS.goto X30.here hx rfl (pc0 := 120) (pc' := 96) rfl (hb hby own_d4_120) (by decide) (by decide) kk_) ?_
    refine own_pre (S' := (T30.setTop (mkF m 97 #[.val (.ref a), .val (.int x1), .val (.int (6 : Int32))] [(.int (6 : Int32))]))) (fun tt_ kk_ => XS.iloadN X30.here hx rfl (hb hby own_d4_96) rfl kk_) ?_
    refine own_pre (S' := (T30.setTop (mkF m 98 #[.val (.ref a), .val (.int x1), .val (.int (6 : Int32))] [(.ref a), (.int (6 : Int32))]))) (fun tt_ kk_ => XS.aloadN X30.here hx rfl (hb hby own_d4_97) rfl rfl kk_) ?_
    obtain ⟨T31, X31, e31, st31⟩ := getF X30 hx hZ hown (host := "") (Or.inl (hw _ (List.mem_of_getElem? (i := 34) rfl))) Via.refl (rfl : T30.heap = T30.heap) (((((((((Fs.ext E4).keep K5 (ninS ne_a_b4 nin0)).other W6 (Or.inr (slot_ne (C := "com/example/kunci/kunci/NumberSet") (Or.inl (hw _ (List.mem_of_getElem? (i := 35) rfl))) (Or.inl (hw _ (List.mem_of_getElem? (i := 29) rfl))) (by decide) (t := .int) (t' := (.object "java/util/BitSet")) (by decide) (by decide)))).keep K10 (ninS ne_a_b4 (ninS ne_a_w5 nin0))).keep K14 (ninS ne_a_b4 (ninS ne_a_w5 nin0))).keep K18 (ninS ne_a_b4 (ninS ne_a_w5 nin0))).keep K22 (ninS ne_a_b4 (ninS ne_a_w5 nin0))).keep K26 (ninS ne_a_b4 (ninS ne_a_w5 nin0))).keep K30 (ninS ne_a_b4 (ninS ne_a_w5 nin0))) (g := (mkF m 98 #[.val (.ref a), .val (.int x1), .val (.int (6 : Int32))] [(.ref a), (.int (6 : Int32))])) rfl rfl (hb hby own_d4_98)
    refine own_pre (S' := (T31.setTop (mkF m 101 #[.val (.ref a), .val (.int x1), .val (.int (6 : Int32))] [(.int (8 : Int32)), (.int (6 : Int32))]))) st31 ?_
    refine own_pre (S' := (T31.setTop (mkF m 104 #[.val (.ref a), .val (.int x1), .val (.int (6 : Int32))] []))) (fun tt_ kk_ => XS.icmpNo X31.here hx rfl (hb hby own_d4_101) rfl (tlt (by decide : ((6 : Int32) < (8 : Int32)))).2.1 kk_) ?_
    refine own_pre (S' := (T31.setTop (mkF m 105 #[.val (.ref a), .val (.int x1), .val (.int (6 : Int32))] [(.ref a)]))) (fun tt_ kk_ => XS.aloadN X31.here hx rfl (hb hby own_d4_104) rfl rfl kk_) ?_
    obtain ⟨T32, X32, e32, st32⟩ := getF X31 hx hZ hown (host := "") (Or.inl (hw _ (List.mem_of_getElem? (i := 28) rfl))) Via.refl e31 ((((((Fw6.keep K10 (ninS ne_a_b4 (ninS ne_a_w5 nin0))).keep K14 (ninS ne_a_b4 (ninS ne_a_w5 nin0))).keep K18 (ninS ne_a_b4 (ninS ne_a_w5 nin0))).keep K22 (ninS ne_a_b4 (ninS ne_a_w5 nin0))).keep K26 (ninS ne_a_b4 (ninS ne_a_w5 nin0))).keep K30 (ninS ne_a_b4 (ninS ne_a_w5 nin0))) (g := (mkF m 105 #[.val (.ref a), .val (.int x1), .val (.int (6 : Int32))] [(.ref a)])) rfl rfl (hb hby own_d4_105)
    refine own_pre (S' := (T32.setTop (mkF m 108 #[.val (.ref a), .val (.int x1), .val (.int (6 : Int32))] [(.ref b4)]))) st32 ?_
    refine own_pre (S' := (T32.setTop (mkF m 109 #[.val (.ref a), .val (.int x1), .val (.int (6 : Int32))] [(.ref a), (.ref b4)]))) (fun tt_ kk_ => XS.aloadN X32.here hx rfl (hb hby own_d4_108) rfl rfl kk_) ?_
    obtain ⟨T33, X33, e33, st33⟩ := getF X32 hx hZ hown (host := "") (Or.inl (hw _ (List.mem_of_getElem? (i := 16) rfl))) Via.refl e32 (((((((((Fn.ext E4).keep K5 (ninS ne_a_b4 nin0)).other W6 (Or.inr (slot_ne (C := "com/example/kunci/kunci/NumberSet") (Or.inl (hw _ (List.mem_of_getElem? (i := 17) rfl))) (Or.inl (hw _ (List.mem_of_getElem? (i := 29) rfl))) (by decide) (t := (.array .int)) (t' := (.object "java/util/BitSet")) (by decide) (by decide)))).keep K10 (ninS ne_a_b4 (ninS ne_a_w5 nin0))).keep K14 (ninS ne_a_b4 (ninS ne_a_w5 nin0))).keep K18 (ninS ne_a_b4 (ninS ne_a_w5 nin0))).keep K22 (ninS ne_a_b4 (ninS ne_a_w5 nin0))).keep K26 (ninS ne_a_b4 (ninS ne_a_w5 nin0))).keep K30 (ninS ne_a_b4 (ninS ne_a_w5 nin0))) (g := (mkF m 109 #[.val (.ref a), .val (.int x1), .val (.int (6 : Int32))] [(.ref a), (.ref b4)])) rfl rfl (hb hby own_d4_109)
    refine own_pre (S' := (T33.setTop (mkF m 112 #[.val (.ref a), .val (.int x1), .val (.int (6 : Int32))] [(.ref aN), (.ref b4)]))) st33 ?_
    refine own_pre (S' := (T33.setTop (mkF m 113 #[.val (.ref a), .val (.int x1), .val (.int (6 : Int32))] [(.int (6 : Int32)), (.ref aN), (.ref b4)]))) (fun tt_ kk_ => XS.iloadN X33.here hx rfl (hb hby own_d4_112) rfl kk_) ?_
    refine own_iald X33 hx hZ e33 (((((((((AN.ext E4).keep K5 (ninS ne_aN_b4 nin0)).other W6 (Ne.symm naN)).keep K10 (ninS ne_aN_b4 (ninS ne_aN_w5 nin0))).keep K14 (ninS ne_aN_b4 (ninS ne_aN_w5 nin0))).keep K18 (ninS ne_aN_b4 (ninS ne_aN_w5 nin0))).keep K22 (ninS ne_aN_b4 (ninS ne_aN_w5 nin0))).keep K26 (ninS ne_aN_b4 (ninS ne_aN_w5 nin0))).keep K30 (ninS ne_aN_b4 (ninS ne_aN_w5 nin0))) 6 rfl (by decide) (hb hby own_d4_113) ?_
    show own_Ends p e below s _ _ _ (T33.setTop (mkF m 114 #[.val (.ref a), .val (.int x1), .val (.int (6 : Int32))] [(.int (g 6)), (.ref b4)]))
    refine own_callV (C := "java/util/BitSet") (y := (⟨"java/util/BitSet", "set", "(I)V"⟩ : MethodName)) (b := b4) X33 hx hZ hown (hw _ (List.mem_of_getElem? (i := 77) rfl)) (hw _ (List.mem_of_getElem? (i := 78) rfl)) (hw _ (List.mem_of_getElem? (i := 80) rfl)) (hw _ (List.mem_of_getElem? (i := 79) rfl)) (hw _ (List.mem_of_getElem? (i := 81) rfl)) (hw _ (List.mem_of_getElem? (i := 57) rfl)) (by decide) e33 ((((((((A4.keep K5).wr W6).keep K10).keep K14).keep K18).keep K22).keep K26).keep K30) (hM := own_bset l Z a0 hw [] b4 w5 (1 : Int32) (g 6) u6 T30.heap n0 (Nat.le_trans (Nat.le_trans (Nat.le_trans (Nat.le_trans (Nat.le_trans (Nat.le_trans (Nat.le_trans (Nat.le_trans (Nat.le_trans Z0 E4.1) K5.1) (Nat.le_of_eq W6.size.symm)) K10.1) K14.1) K18.1) K22.1) K26.1) K30.1) (hgi 6 (by decide)) (Or.inr rfl) ((((((((A4.keep K5).wr W6).keep K10).keep K14).keep K18).keep K22).keep K26).keep K30) ge_b4 gw5 ne_b4_w5 Fw30 Fu30 Aw30 (own_sta_keep (own_sta_keep (own_sta_keep (own_sta_keep (own_sta_keep (own_sta_keep ((own_sta_keep (S_ad.ext E4) K5 (allS (own_plainE A4) all0)).wr W6) K10 (allS (own_plainE ((A4.keep K5).wr W6)) (allS (own_plainA (Aw5.other W6 (Ne.symm ne_a_w5))) all0))) K14 (allS (own_plainE (((A4.keep K5).wr W6).keep K10)) (allS (own_plainA Aw10) all0))) K18 (allS (own_plainE ((((A4.keep K5).wr W6).keep K10).keep K14)) (allS (own_plainA Aw14) all0))) K22 (allS (own_plainE (((((A4.keep K5).wr W6).keep K10).keep K14).keep K18)) (allS (own_plainA Aw18) all0))) K26 (allS (own_plainE ((((((A4.keep K5).wr W6).keep K10).keep K14).keep K18).keep K22)) (allS (own_plainA Aw22) all0))) K30 (allS (own_plainE (((((((A4.keep K5).wr W6).keep K10).keep K14).keep K18).keep K22).keep K26)) (allS (own_plainA Aw26) all0)))) (W := 0) (pc := 114) (Ls := #[.val (.ref a), .val (.int x1), .val (.int (6 : Int32))]) (argsL := [(.int (g 6))]) (rest := []) (st0 := [(.int (g 6)), (.ref b4)]) (by rw [hml]; rfl) (lenOf own_pd4 rfl) rfl (Nat.le_of_eq rfl) (hb hby own_d4_114) (by decide) (by decide) (by decide) (by decide) ?_
    intro v34 T34 L34 X34 hQ34
    obtain ⟨rfl, Nq34, K34, Fw34, Fu34, Aw34⟩ := hQ34
    have N34 := Fr.app N30 Nq34
    show own_Ends p e below s _ _ _ (T34.setTop (mkF m 117 #[.val (.ref a), .val (.int x1), .val (.int (6 : Int32))] []))
    obtain ⟨u7, hu7⟩ : ∃ z : Int64, z = (u6 ||| ((1 : Int64) <<< ((g 6) &&& 0x3f).toInt64)) := ⟨_, rfl⟩
    rw [← hu7] at Aw34
    have hb7 := own_bstep (g := g) (k := 6) hu7 (hgi 6 (by decide)) hb6
    refine own_pre (S' := (T34.setTop (mkF m 120 #[.val (.ref a), .val (.int x1), .val (.int (7 : Int32))] []))) (fun tt_ kk_ => XS.iinc X34.here hx rfl (hb hby own_d4_117) rfl (l' := #[.val (.ref a), .val (.int x1), .val (.int (7 : Int32))]) rfl kk_) ?_
    refine own_pre (S' := (T34.setTop (mkF m 96 #[.val (.ref a), .val (.int x1), .val (.int (7 : Int32))] []))) (fun tt_ kk_ => XS.goto X34.here hx rfl (pc0 := 120) (pc' := 96) rfl (hb hby own_d4_120) (by decide) (by decide) kk_) ?_
    refine own_pre (S' := (T34.setTop (mkF m 97 #[.val (.ref a), .val (.int x1), .val (.int (7 : Int32))] [(.int (7 : Int32))]))) (fun tt_ kk_ => XS.iloadN X34.here hx rfl (hb hby own_d4_96) rfl kk_) ?_
    refine own_pre (S' := (T34.setTop (mkF m 98 #[.val (.ref a), .val (.int x1), .val (.int (7 : Int32))] [(.ref a), (.int (7 : Int32))]))) (fun tt_ kk_ => XS.aloadN X34.here hx rfl (hb hby own_d4_97) rfl rfl kk_) ?_
    obtain ⟨T35, X35, e35, st35⟩ := getF X34 hx hZ hown (host := "") (Or.inl (hw _ (List.mem_of_getElem? (i := 34) rfl))) Via.refl (rfl : T34.heap = T34.heap) ((((((((((Fs.ext E4).keep K5 (ninS ne_a_b4 nin0)).other W6 (Or.inr (slot_ne (C := "com/example/kunci/kunci/NumberSet") (Or.inl (hw _ (List.mem_of_getElem? (i := 35) rfl))) (Or.inl (hw _ (List.mem_of_getElem? (i := 29) rfl))) (by decide) (t := .int) (t' := (.object "java/util/BitSet")) (by decide) (by decide)))).keep K10 (ninS ne_a_b4 (ninS ne_a_w5 nin0))).keep K14 (ninS ne_a_b4 (ninS ne_a_w5 nin0))).keep K18 (ninS ne_a_b4 (ninS ne_a_w5 nin0))).keep K22 (ninS ne_a_b4 (ninS ne_a_w5 nin0))).keep K26 (ninS ne_a_b4 (ninS ne_a_w5 nin0))).keep K30 (ninS ne_a_b4 (ninS ne_a_w5 nin0))).keep K34 (ninS ne_a_b4 (ninS ne_a_w5 nin0))) (g := (mkF m 98 #[.val (.ref a), .val (.int x1), .val (.int (7 : Int32))] [(.ref a), (.int (7 : Int32))])) rfl rfl (hb hby own_d4_98)
    refine own_pre (S' := (T35.setTop (mkF m 101 #[.val (.ref a), .val (.int x1), .val (.int (7 : Int32))] [(.int (8 : Int32)), (.int (7 : Int32))]))) st35 ?_
    refine own_pre (S' := (T35.setTop (mkF m 104 #[.val (.ref a), .val (.int x1), .val (.int (7 : Int32))] []))) (fun tt_ kk_ => XS.icmpNo X35.here hx rfl (hb hby own_d4_101) rfl (tlt (by decide : ((7 : Int32) < (8 : Int32)))).2.1 kk_) ?_
    refine own_pre (S' := (T35.setTop (mkF m 105 #[.val (.ref a), .val (.int x1), .val (.int (7 : Int32))] [(.ref a)]))) (fun tt_ kk_ => XS.aloadN X35.here hx rfl (hb hby own_d4_104) rfl rfl kk_) ?_
    obtain ⟨T36, X36, e36, st36⟩ := getF X35 hx hZ hown (host := "") (Or.inl (hw _ (List.mem_of_getElem? (i := 28) rfl))) Via.refl e35 (((((((Fw6.keep K10 (ninS ne_a_b4 (ninS ne_a_w5 nin0))).keep K14 (ninS ne_a_b4 (ninS ne_a_w5 nin0))).keep K18 (ninS ne_a_b4 (ninS ne_a_w5 nin0))).keep K22 (ninS ne_a_b4 (ninS ne_a_w5 nin0))).keep K26 (ninS ne_a_b4 (ninS ne_a_w5 nin0))).keep K30 (ninS ne_a_b4 (ninS ne_a_w5 nin0))).keep K34 (ninS ne_a_b4 (ninS ne_a_w5 nin0))) (g := (mkF m 105 #[.val (.ref a), .val (.int x1), .val (.int (7 : Int32))] [(.ref a)])) rfl rfl (hb hby own_d4_105)
    refine own_pre (S' := (T36.setTop (mkF m 108 #[.val (.ref a), .val (.int x1), .val (.int (7 : Int32))] [(.ref b4)]))) st36 ?_
    refine own_pre (S' := (T36.setTop (mkF m 109 #[.val (.ref a), .val (.int x1), .val (.int (7 : Int32))] [(.ref a), (.ref b4)]))) (fun tt_ kk_ => XS.aloadN X36.here hx rfl (hb hby own_d4_108) rfl rfl kk_) ?_
    obtain ⟨T37, X37, e37, st37⟩ := getF X36 hx hZ hown (host := "") (Or.inl (hw _ (List.mem_of_getElem? (i := 16) rfl))) Via.refl e36 ((((((((((Fn.ext E4).keep K5 (ninS ne_a_b4 nin0)).other W6 (Or.inr (slot_ne (C := "com/example/kunci/kunci/NumberSet") (Or.inl (hw _ (List.mem_of_getElem? (i := 17) rfl))) (Or.inl (hw _ (List.mem_of_getElem? (i := 29) rfl))) (by decide) (t := (.array .int)) (t' := (.object "java/util/BitSet")) (by decide) (by decide)))).keep K10 (ninS ne_a_b4 (ninS ne_a_w5 nin0))).keep K14 (ninS ne_a_b4 (ninS ne_a_w5 nin0))).keep K18 (ninS ne_a_b4 (ninS ne_a_w5 nin0))).keep K22 (ninS ne_a_b4 (ninS ne_a_w5 nin0))).keep K26 (ninS ne_a_b4 (ninS ne_a_w5 nin0))).keep K30 (ninS ne_a_b4 (ninS ne_a_w5 nin0))).keep K34 (ninS ne_a_b4 (ninS ne_a_w5 nin0))) (g := (mkF m 109 #[.val (.ref a), .val (.int x1), .val (.int (7 : Int32))] [(.ref a), (.ref b4)])) rfl rfl (hb hby own_d4_109)
    refine own_pre (S' := (T37.setTop (mkF m 112 #[.val (.ref a), .val (.int x1), .val (.int (7 : Int32))] [(.ref aN), (.ref b4)]))) st37 ?_
    refine own_pre (S' := (T37.setTop (mkF m 113 #[.val (.ref a), .val (.int x1), .val (.int (7 : Int32))] [(.int (7 : Int32)), (.ref aN), (.ref b4)]))) (fun tt_ kk_ => XS.iloadN X37.here hx rfl (hb hby own_d4_112) rfl kk_) ?_
    refine own_iald X37 hx hZ e37 ((((((((((AN.ext E4).keep K5 (ninS ne_aN_b4 nin0)).other W6 (Ne.symm naN)).keep K10 (ninS ne_aN_b4 (ninS ne_aN_w5 nin0))).keep K14 (ninS ne_aN_b4 (ninS ne_aN_w5 nin0))).keep K18 (ninS ne_aN_b4 (ninS ne_aN_w5 nin0))).keep K22 (ninS ne_aN_b4 (ninS ne_aN_w5 nin0))).keep K26 (ninS ne_aN_b4 (ninS ne_aN_w5 nin0))).keep K30 (ninS ne_aN_b4 (ninS ne_aN_w5 nin0))).keep K34 (ninS ne_aN_b4 (ninS ne_aN_w5 nin0))) 7 rfl (by decide) (hb hby own_d4_113) ?_
    show own_Ends p e below s _ _ _ (T37.setTop (mkF m 114 #[.val (.ref a), .val (.int x1), .val (.int (7 : Int32))] [(.int (g 7)), (.ref b4)]))
    refine own_callV (C := "java/util/BitSet") (y := (⟨"java/util/BitSet", "set", "(I)V"⟩ : MethodName)) (b := b4) X37 hx hZ hown (hw _ (List.mem_of_getElem? (i := 77) rfl)) (hw _ (List.mem_of_getElem? (i := 78) rfl)) (hw _ (List.mem_of_getElem? (i := 80) rfl)) (hw _ (List.mem_of_getElem? (i := 79) rfl)) (hw _ (List.mem_of_getElem? (i := 81) rfl)) (hw _ (List.mem_of_getElem? (i := 57) rfl)) (by decide) e37 (((((((((A4.keep K5).wr W6).keep K10).keep K14).keep K18).keep K22).keep K26).keep K30).keep K34) (hM := own_bset l Z a0 hw [] b4 w5 (1 : Int32) (g 7) u7 T34.heap n0 (Nat.le_trans (Nat.le_trans (Nat.le_trans (Nat.le_trans (Nat.le_trans (Nat.le_trans (Nat.le_trans (Nat.le_trans (Nat.le_trans (Nat.le_trans Z0 E4.1) K5.1) (Nat.le_of_eq W6.size.symm)) K10.1) K14.1) K18.1) K22.1) K26.1) K30.1) K34.1) (hgi 7 (by decide)) (Or.inr rfl) (((((((((A4.keep K5).wr W6).keep K10).keep K14).keep K18).keep K22).keep K26).keep K30).keep K34) ge_b4 gw5 ne_b4_w5 Fw34 Fu34 Aw34 (own_sta_keep (own_sta_keep (own_sta_keep (own_sta_keep (own_sta_keep (own_sta_keep (own_sta_keep ((own_sta_keep (S_ad.ext E4) K5 (allS (own_plainE A4) all0)).wr W6) K10 (allS (own_plainE ((A4.keep K5).wr W6)) (allS (own_plainA (Aw5.other W6 (Ne.symm ne_a_w5))) all0))) K14 (allS (own_plainE (((A4.keep K5).wr W6).keep K10)) (allS (own_plainA Aw10) all0))) K18 (allS (own_plainE ((((A4.keep K5).wr W6).keep K10).keep K14)) (allS (own_plainA Aw14) all0))) K22 (allS (own_plainE (((((A4.keep K5).wr W6).keep K10).keep K14).keep K18)) (allS (own_plainA Aw18) all0))) K26 (allS (own_plainE ((((((A4.keep K5).wr W6).keep K10).keep K14).keep K18).keep K22)) (allS (own_plainA Aw22) all0))) K30 (allS (own_plainE (((((((A4.keep K5).wr W6).keep K10).keep K14).keep K18).keep K22).keep K26)) (allS (own_plainA Aw26) all0))) K34 (allS (own_plainE ((((((((A4.keep K5).wr W6).keep K10).keep K14).keep K18).keep K22).keep K26).keep K30)) (allS (own_plainA Aw30) all0)))) (W := 0) (pc := 114) (Ls := #[.val (.ref a), .val (.int x1), .val (.int (7 : Int32))]) (argsL := [(.int (g 7))]) (rest := []) (st0 := [(.int (g 7)), (.ref b4)]) (by rw [hml]; rfl) (lenOf own_pd4 rfl) rfl (Nat.le_of_eq rfl) (hb hby own_d4_114) (by decide) (by decide) (by decide) (by decide) ?_
    intro v38 T38 L38 X38 hQ38
    obtain ⟨rfl, Nq38, K38, Fw38, Fu38, Aw38⟩ := hQ38
    have N38 := Fr.app N34 Nq38
    show own_Ends p e below s _ _ _ (T38.setTop (mkF m 117 #[.val (.ref a), .val (.int x1), .val (.int (7 : Int32))] []))
    obtain ⟨u8, hu8⟩ : ∃ z : Int64, z = (u7 ||| ((1 : Int64) <<< ((g 7) &&& 0x3f).toInt64)) := ⟨_, rfl⟩
    rw [← hu8] at Aw38
    have hb8 := own_bstep (g := g) (k := 7) hu8 (hgi 7 (by decide)) hb7
    refine own_pre (S' := (T38.setTop (mkF m 120 #[.val (.ref a), .val (.int x1), .val (.int (8 : Int32))] []))) (fun tt_ kk_ => XS.iinc X38.here hx rfl (hb hby own_d4_117) rfl (l' := #[.val (.ref a), .val (.int x1), .val (.int (8 : Int32))]) rfl kk_) ?_
    refine own_pre (S' := (T38.setTop (mkF m 96 #[.val (.ref a), .val (.int x1), .val (.int (8 : Int32))] []))) (fun tt_ kk_ => XS.goto X38.here hx rfl (pc0 := 120) (pc' := 96) rfl (hb hby own_d4_120) (by decide) (by decide) kk_) ?_
    refine own_pre (S' := (T38.setTop (mkF m 97 #[.val (.ref a), .val (.int x1), .val (.int (8 : Int32))] [(.int (8 : Int32))]))) (fun tt_ kk_ => XS.iloadN X38.here hx rfl (hb hby own_d4_96) rfl kk_) ?_
    refine own_pre (S' := (T38.setTop (mkF m 98 #[.val (.ref a), .val (.int x1), .val (.int (8 : Int32))] [(.ref a), (.int (8 : Int32))]))) (fun tt_ kk_ => XS.aloadN X38.here hx rfl (hb hby own_d4_97) rfl rfl kk_) ?_
    obtain ⟨T39, X39, e39, st39⟩ := getF X38 hx hZ hown (host := "") (Or.inl (hw _ (List.mem_of_getElem? (i := 34) rfl))) Via.refl (rfl : T38.heap = T38.heap) (((((((((((Fs.ext E4).keep K5 (ninS ne_a_b4 nin0)).other W6 (Or.inr (slot_ne (C := "com/example/kunci/kunci/NumberSet") (Or.inl (hw _ (List.mem_of_getElem? (i := 35) rfl))) (Or.inl (hw _ (List.mem_of_getElem? (i := 29) rfl))) (by decide) (t := .int) (t' := (.object "java/util/BitSet")) (by decide) (by decide)))).keep K10 (ninS ne_a_b4 (ninS ne_a_w5 nin0))).keep K14 (ninS ne_a_b4 (ninS ne_a_w5 nin0))).keep K18 (ninS ne_a_b4 (ninS ne_a_w5 nin0))).keep K22 (ninS ne_a_b4 (ninS ne_a_w5 nin0))).keep K26 (ninS ne_a_b4 (ninS ne_a_w5 nin0))).keep K30 (ninS ne_a_b4 (ninS ne_a_w5 nin0))).keep K34 (ninS ne_a_b4 (ninS ne_a_w5 nin0))).keep K38 (ninS ne_a_b4 (ninS ne_a_w5 nin0))) (g := (mkF m 98 #[.val (.ref a), .val (.int x1), .val (.int (8 : Int32))] [(.ref a), (.int (8 : Int32))])) rfl rfl (hb hby own_d4_98)
    refine own_pre (S' := (T39.setTop (mkF m 101 #[.val (.ref a), .val (.int x1), .val (.int (8 : Int32))] [(.int (8 : Int32)), (.int (8 : Int32))]))) st39 ?_
    refine own_pre (S' := (T39.setTop (mkF m 123 #[.val (.ref a), .val (.int x1), .val (.int (8 : Int32))] []))) (fun tt_ kk_ => XS.icmpYes X39.here hx rfl (pc0 := 101) (pc' := 123) rfl (hb hby own_d4_101) rfl (flt (by decide : ¬ ((8 : Int32) < (8 : Int32)))).2.1 (by decide) (by decide) kk_) ?_
    refine own_pre (S' := (T39.setTop (mkF m 124 #[.val (.ref a), .val (.int x1), .val (.int (8 : Int32))] [(.ref a)]))) (fun tt_ kk_ => XS.aloadN X39.here hx rfl (hb hby own_d4_123) rfl rfl kk_) ?_
    obtain ⟨T40, X40, e40, st40⟩ := getF X39 hx hZ hown (host := "") (Or.inl (hw _ (List.mem_of_getElem? (i := 28) rfl))) Via.refl e39 ((((((((Fw6.keep K10 (ninS ne_a_b4 (ninS ne_a_w5 nin0))).keep K14 (ninS ne_a_b4 (ninS ne_a_w5 nin0))).keep K18 (ninS ne_a_b4 (ninS ne_a_w5 nin0))).keep K22 (ninS ne_a_b4 (ninS ne_a_w5 nin0))).keep K26 (ninS ne_a_b4 (ninS ne_a_w5 nin0))).keep K30 (ninS ne_a_b4 (ninS ne_a_w5 nin0))).keep K34 (ninS ne_a_b4 (ninS ne_a_w5 nin0))).keep K38 (ninS ne_a_b4 (ninS ne_a_w5 nin0))) (g := (mkF m 124 #[.val (.ref a), .val (.int x1), .val (.int (8 : Int32))] [(.ref a)])) rfl rfl (hb hby own_d4_124)
    refine own_pre (S' := (T40.setTop (mkF m 127 #[.val (.ref a), .val (.int x1), .val (.int (8 : Int32))] [(.ref b4)]))) st40 ?_
    refine own_pre (S' := (T40.setTop (mkF m 128 #[.val (.ref a), .val (.int x1), .val (.int (8 : Int32))] [(.int x1), (.ref b4)]))) (fun tt_ kk_ => XS.iloadN X40.here hx rfl (hb hby own_d4_127) rfl kk_) ?_
    refine own_callV (C := "java/util/BitSet") (y := (⟨"java/util/BitSet", "set", "(I)V"⟩ : MethodName)) (b := b4) X40 hx hZ hown (hw _ (List.mem_of_getElem? (i := 77) rfl)) (hw _ (List.mem_of_getElem? (i := 78) rfl)) (hw _ (List.mem_of_getElem? (i := 80) rfl)) (hw _ (List.mem_of_getElem? (i := 79) rfl)) (hw _ (List.mem_of_getElem? (i := 81) rfl)) (hw _ (List.mem_of_getElem? (i := 57) rfl)) (by decide) e40 ((((((((((A4.keep K5).wr W6).keep K10).keep K14).keep K18).keep K22).keep K26).keep K30).keep K34).keep K38) (hM := own_bset l Z a0 hw [] b4 w5 (1 : Int32) x1 u8 T38.heap n0 (Nat.le_trans (Nat.le_trans (Nat.le_trans (Nat.le_trans (Nat.le_trans (Nat.le_trans (Nat.le_trans (Nat.le_trans (Nat.le_trans (Nat.le_trans (Nat.le_trans Z0 E4.1) K5.1) (Nat.le_of_eq W6.size.symm)) K10.1) K14.1) K18.1) K22.1) K26.1) K30.1) K34.1) K38.1) hx1 (Or.inr rfl) ((((((((((A4.keep K5).wr W6).keep K10).keep K14).keep K18).keep K22).keep K26).keep K30).keep K34).keep K38) ge_b4 gw5 ne_b4_w5 Fw38 Fu38 Aw38 (own_sta_keep (own_sta_keep (own_sta_keep (own_sta_keep (own_sta_keep (own_sta_keep (own_sta_keep (own_sta_keep ((own_sta_keep (S_ad.ext E4) K5 (allS (own_plainE A4) all0)).wr W6) K10 (allS (own_plainE ((A4.keep K5).wr W6)) (allS (own_plainA (Aw5.other W6 (Ne.symm ne_a_w5))) all0))) K14 (allS (own_plainE (((A4.keep K5).wr W6).keep K10)) (allS (own_plainA Aw10) all0))) K18 (allS (own_plainE ((((A4.keep K5).wr W6).keep K10).keep K14)) (allS (own_plainA Aw14) all0))) K22 (allS (own_plainE (((((A4.keep K5).wr W6).keep K10).keep K14).keep K18)) (allS (own_plainA Aw18) all0))) K26 (allS (own_plainE ((((((A4.keep K5).wr W6).keep K10).keep K14).keep K18).keep K22)) (allS (own_plainA Aw22) all0))) K30 (allS (own_plainE (((((((A4.keep K5).wr W6).keep K10).keep K14).keep K18).keep K22).keep K26)) (allS (own_plainA Aw26) all0))) K34 (allS (own_plainE ((((((((A4.keep K5).wr W6).keep K10).keep K14).keep K18).keep K22).keep K26).keep K30)) (allS (own_plainA Aw30) all0))) K38 (allS (own_plainE (((((((((A4.keep K5).wr W6).keep K10).keep K14).keep K18).keep K22).keep K26).keep K30).keep K34)) (allS (own_plainA Aw34) all0)))) (W := 0) (pc := 128) (Ls := #[.val (.ref a), .val (.int x1), .val (.int (8 : Int32))]) (argsL := [(.int x1)]) (rest := []) (st0 := [(.int x1), (.ref b4)]) (by rw [hml]; rfl) (lenOf own_pd4 rfl) rfl (Nat.le_of_eq rfl) (hb hby own_d4_128) (by decide) (by decide) (by decide) (by decide) ?_
    intro v41 T41 L41 X41 hQ41
    obtain ⟨rfl, Nq41, K41, Fw41, Fu41, Aw41⟩ := hQ41
    have N41 := Fr.app N38 Nq41
    show own_Ends p e below s _ _ _ (T41.setTop (mkF m 131 #[.val (.ref a), .val (.int x1), .val (.int (8 : Int32))] []))
    obtain ⟨u9, hu9⟩ : ∃ z : Int64, z = (u8 ||| ((1 : Int64) <<< (x1 &&& 0x3f).toInt64)) := ⟨_, rfl⟩
    rw [← hu9] at Aw41
    have hb9 := own_bend hu9 hx1 hb8
    refine own_pre (S' := (T41.setTop (mkF m 132 #[.val (.ref a), .val (.int x1), .val (.int (8 : Int32))] [(.ref a)]))) (fun tt_ kk_ => XS.aloadN X41.here hx rfl (hb hby own_d4_131) rfl rfl kk_) ?_
    refine own_pre (S' := (T41.setTop (mkF m 133 #[.val (.ref a), .val (.int x1), .val (.int (8 : Int32))] [.null, (.ref a)]))) (fun tt_ kk_ => XS.aconstNull X41.here hx rfl (hb hby own_d4_132) kk_) ?_
    obtain ⟨T42, h42, X42, e42, W42, st42⟩ := putF X41 hx hZ hown (host := "") (Or.inl (hw _ (List.mem_of_getElem? (i := 16) rfl))) Via.refl (rfl : T41.heap = T41.heap) ((((((((((((Fn.ext E4).keep K5 (ninS ne_a_b4 nin0)).other W6 (Or.inr (slot_ne (C := "com/example/kunci/kunci/NumberSet") (Or.inl (hw _ (List.mem_of_getElem? (i := 17) rfl))) (Or.inl (hw _ (List.mem_of_getElem? (i := 29) rfl))) (by decide) (t := (.array .int)) (t' := (.object "java/util/BitSet")) (by decide) (by decide)))).keep K10 (ninS ne_a_b4 (ninS ne_a_w5 nin0))).keep K14 (ninS ne_a_b4 (ninS ne_a_w5 nin0))).keep K18 (ninS ne_a_b4 (ninS ne_a_w5 nin0))).keep K22 (ninS ne_a_b4 (ninS ne_a_w5 nin0))).keep K26 (ninS ne_a_b4 (ninS ne_a_w5 nin0))).keep K30 (ninS ne_a_b4 (ninS ne_a_w5 nin0))).keep K34 (ninS ne_a_b4 (ninS ne_a_w5 nin0))).keep K38 (ninS ne_a_b4 (ninS ne_a_w5 nin0))).keep K41 (ninS ne_a_b4 (ninS ne_a_w5 nin0))) ((((((((((((Ea.ext E4).keep K5).wr W6).keep K10).keep K14).keep K18).keep K22).keep K26).keep K30).keep K34).keep K38).keep K41) (Or.inl (hw _ (List.mem_of_getElem? (i := 17) rfl))) (hw _ (List.mem_of_getElem? (i := 7) rfl)) (ty := (.array .int)) (by decide) rfl rfl (g := (mkF m 133 #[.val (.ref a), .val (.int x1), .val (.int (8 : Int32))] [.null, (.ref a)])) rfl rfl (hb hby own_d4_133)
    have N42 := Fr.snoc X42 N41 ga
    have Fw42 := ((((((((((((Fn.ext E4).keep K5 (ninS ne_a_b4 nin0)).other W6 (Or.inr (slot_ne (C := "com/example/kunci/kunci/NumberSet") (Or.inl (hw _ (List.mem_of_getElem? (i := 17) rfl))) (Or.inl (hw _ (List.mem_of_getElem? (i := 29) rfl))) (by decide) (t := (.array .int)) (t' := (.object "java/util/BitSet")) (by decide) (by decide)))).keep K10 (ninS ne_a_b4 (ninS ne_a_w5 nin0))).keep K14 (ninS ne_a_b4 (ninS ne_a_w5 nin0))).keep K18 (ninS ne_a_b4 (ninS ne_a_w5 nin0))).keep K22 (ninS ne_a_b4 (ninS ne_a_w5 nin0))).keep K26 (ninS ne_a_b4 (ninS ne_a_w5 nin0))).keep K30 (ninS ne_a_b4 (ninS ne_a_w5 nin0))).keep K34 (ninS ne_a_b4 (ninS ne_a_w5 nin0))).keep K38 (ninS ne_a_b4 (ninS ne_a_w5 nin0))).keep K41 (ninS ne_a_b4 (ninS ne_a_w5 nin0))).same W42
    refine own_pre (S' := (T42.setTop (mkF m 136 #[.val (.ref a), .val (.int x1), .val (.int (8 : Int32))] []))) st42 ?_
    refine own_pre (S' := (T42.setTop (mkF m 137 #[.val (.ref a), .val (.int x1), .val (.int (8 : Int32))] [(.ref a)]))) (fun tt_ kk_ => XS.aloadN X42.here hx rfl (hb hby own_d4_136) rfl rfl kk_) ?_
    refine own_pre (S' := (T42.setTop (mkF m 138 #[.val (.ref a), .val (.int x1), .val (.int (8 : Int32))] [(.ref a), (.ref a)]))) (fun tt_ kk_ => XS.dup X42.here hx rfl (hb hby own_d4_137) rfl rfl kk_) ?_
    obtain ⟨T43, X43, e43, st43⟩ := getF X42 hx hZ hown (host := "") (Or.inl (hw _ (List.mem_of_getElem? (i := 34) rfl))) Via.refl e42 (((((((((((((Fs.ext E4).keep K5 (ninS ne_a_b4 nin0)).other W6 (Or.inr (slot_ne (C := "com/example/kunci/kunci/NumberSet") (Or.inl (hw _ (List.mem_of_getElem? (i := 35) rfl))) (Or.inl (hw _ (List.mem_of_getElem? (i := 29) rfl))) (by decide) (t := .int) (t' := (.object "java/util/BitSet")) (by decide) (by decide)))).keep K10 (ninS ne_a_b4 (ninS ne_a_w5 nin0))).keep K14 (ninS ne_a_b4 (ninS ne_a_w5 nin0))).keep K18 (ninS ne_a_b4 (ninS ne_a_w5 nin0))).keep K22 (ninS ne_a_b4 (ninS ne_a_w5 nin0))).keep K26 (ninS ne_a_b4 (ninS ne_a_w5 nin0))).keep K30 (ninS ne_a_b4 (ninS ne_a_w5 nin0))).keep K34 (ninS ne_a_b4 (ninS ne_a_w5 nin0))).keep K38 (ninS ne_a_b4 (ninS ne_a_w5 nin0))).keep K41 (ninS ne_a_b4 (ninS ne_a_w5 nin0))).other W42 (Or.inr (slot_ne (C := "com/example/kunci/kunci/NumberSet") (Or.inl (hw _ (List.mem_of_getElem? (i := 35) rfl))) (Or.inl (hw _ (List.mem_of_getElem? (i := 17) rfl))) (by decide) (t := .int) (t' := (.array .int)) (by decide) (by decide)))) (g := (mkF m 138 #[.val (.ref a), .val (.int x1), .val (.int (8 : Int32))] [(.ref a), (.ref a)])) rfl rfl (hb hby own_d4_138)
    refine own_pre (S' := (T43.setTop (mkF m 141 #[.val (.ref a), .val (.int x1), .val (.int (8 : Int32))] [(.int (8 : Int32)), (.ref a)]))) st43 ?_
    refine own_pre (S' := (T43.setTop (mkF m 142 #[.val (.ref a), .val (.int x1), .val (.int (8 : Int32))] [(.int (1 : Int32)), (.int (8 : Int32)), (.ref a)]))) (fun tt_ kk_ => XS.iconst X43.here hx rfl (hb hby own_d4_141) kk_) ?_
    refine own_pre (S' := (T43.setTop (mkF m 143 #[.val (.ref a), .val (.int x1), .val (.int (8 : Int32))] [(.int (9 : Int32)), (.ref a)]))) (fun tt_ kk_ => XS.iadd X43.here hx rfl (hb hby own_d4_142) rfl kk_) ?_
    obtain ⟨T44, h44, X44, e44, W44, st44⟩ := putF X43 hx hZ hown (host := "") (Or.inl (hw _ (List.mem_of_getElem? (i := 34) rfl))) Via.refl e43 (((((((((((((Fs.ext E4).keep K5 (ninS ne_a_b4 nin0)).other W6 (Or.inr (slot_ne (C := "com/example/kunci/kunci/NumberSet") (Or.inl (hw _ (List.mem_of_getElem? (i := 35) rfl))) (Or.inl (hw _ (List.mem_of_getElem? (i := 29) rfl))) (by decide) (t := .int) (t' := (.object "java/util/BitSet")) (by decide) (by decide)))).keep K10 (ninS ne_a_b4 (ninS ne_a_w5 nin0))).keep K14 (ninS ne_a_b4 (ninS ne_a_w5 nin0))).keep K18 (ninS ne_a_b4 (ninS ne_a_w5 nin0))).keep K22 (ninS ne_a_b4 (ninS ne_a_w5 nin0))).keep K26 (ninS ne_a_b4 (ninS ne_a_w5 nin0))).keep K30 (ninS ne_a_b4 (ninS ne_a_w5 nin0))).keep K34 (ninS ne_a_b4 (ninS ne_a_w5 nin0))).keep K38 (ninS ne_a_b4 (ninS ne_a_w5 nin0))).keep K41 (ninS ne_a_b4 (ninS ne_a_w5 nin0))).other W42 (Or.inr (slot_ne (C := "com/example/kunci/kunci/NumberSet") (Or.inl (hw _ (List.mem_of_getElem? (i := 35) rfl))) (Or.inl (hw _ (List.mem_of_getElem? (i := 17) rfl))) (by decide) (t := .int) (t' := (.array .int)) (by decide) (by decide)))) (((((((((((((Ea.ext E4).keep K5).wr W6).keep K10).keep K14).keep K18).keep K22).keep K26).keep K30).keep K34).keep K38).keep K41).wr W42) (Or.inl (hw _ (List.mem_of_getElem? (i := 35) rfl))) (hw _ (List.mem_of_getElem? (i := 7) rfl)) (ty := .int) (by decide) rfl rfl (g := (mkF m 143 #[.val (.ref a), .val (.int x1), .val (.int (8 : Int32))] [(.int (9 : Int32)), (.ref a)])) rfl rfl (hb hby own_d4_143)
    have N44 := Fr.snoc X44 N42 ga
    have Fw44 := (((((((((((((Fs.ext E4).keep K5 (ninS ne_a_b4 nin0)).other W6 (Or.inr (slot_ne (C := "com/example/kunci/kunci/NumberSet") (Or.inl (hw _ (List.mem_of_getElem? (i := 35) rfl))) (Or.inl (hw _ (List.mem_of_getElem? (i := 29) rfl))) (by decide) (t := .int) (t' := (.object "java/util/BitSet")) (by decide) (by decide)))).keep K10 (ninS ne_a_b4 (ninS ne_a_w5 nin0))).keep K14 (ninS ne_a_b4 (ninS ne_a_w5 nin0))).keep K18 (ninS ne_a_b4 (ninS ne_a_w5 nin0))).keep K22 (ninS ne_a_b4 (ninS ne_a_w5 nin0))).keep K26 (ninS ne_a_b4 (ninS ne_a_w5 nin0))).keep K30 (ninS ne_a_b4 (ninS ne_a_w5 nin0))).keep K34 (ninS ne_a_b4 (ninS ne_a_w5 nin0))).keep K38 (ninS ne_a_b4 (ninS ne_a_w5 nin0))).keep K41 (ninS ne_a_b4 (ninS ne_a_w5 nin0))).other W42 (Or.inr (slot_ne (C := "com/example/kunci/kunci/NumberSet") (Or.inl (hw _ (List.mem_of_getElem? (i := 35) rfl))) (Or.inl (hw _ (List.mem_of_getElem? (i := 17) rfl))) (by decide) (t := .int) (t' := (.array .int)) (by decide) (by decide)))).same W44
    refine own_pre (S' := (T44.setTop (mkF m 146 #[.val (.ref a), .val (.int x1), .val (.int (8 : Int32))] []))) st44 ?_
    refine own_pre (S' := (T44.setTop (mkF m 147 #[.val (.ref a), .val (.int x1), .val (.int (8 : Int32))] [(.int (1 : Int32))]))) (fun tt_ kk_ => XS.iconst X44.here hx rfl (hb hby own_d4_146) kk_) ?_
    refine own_ret (t := .boolean) X44 hx hlk hrt rfl (Or.inl ⟨rfl, by simp, _, rfl⟩) (hb hby own_d4_147) (by decide) (by decide) ?_
    show ∃ r : Int32, _ ∧ Fr n0 _ ∧ _ ≤ T44.heap.size ∧ Sta Z T44.heap _ _ _ _ ∧ (_ ∨ ∃ u, own_bs Z T44.heap _ u ∧ _)
    rw [e44]
    exact ⟨1, rfl, N44, (Nat.le_trans (Nat.le_trans (Nat.le_trans (Nat.le_trans (Nat.le_trans (Nat.le_trans (Nat.le_trans (Nat.le_trans (Nat.le_trans (Nat.le_trans (Nat.le_trans (Nat.le_trans (Nat.le_trans (Nat.le_trans (Nat.le_refl h0.size) E4.1) K5.1) (Nat.le_of_eq W6.size.symm)) K10.1) K14.1) K18.1) K22.1) K26.1) K30.1) K34.1) K38.1) K41.1) (Nat.le_of_eq W42.size.symm)) (Nat.le_of_eq W44.size.symm)), (((own_sta_keep (own_sta_keep (own_sta_keep (own_sta_keep (own_sta_keep (own_sta_keep (own_sta_keep (own_sta_keep (own_sta_keep ((own_sta_keep (S_ad.ext E4) K5 (allS (own_plainE A4) all0)).wr W6) K10 (allS (own_plainE ((A4.keep K5).wr W6)) (allS (own_plainA (Aw5.other W6 (Ne.symm ne_a_w5))) all0))) K14 (allS (own_plainE (((A4.keep K5).wr W6).keep K10)) (allS (own_plainA Aw10) all0))) K18 (allS (own_plainE ((((A4.keep K5).wr W6).keep K10).keep K14)) (allS (own_plainA Aw14) all0))) K22 (allS (own_plainE (((((A4.keep K5).wr W6).keep K10).keep K14).keep K18)) (allS (own_plainA Aw18) all0))) K26 (allS (own_plainE ((((((A4.keep K5).wr W6).keep K10).keep K14).keep K18).keep K22)) (allS (own_plainA Aw22) all0))) K30 (allS (own_plainE (((((((A4.keep K5).wr W6).keep K10).keep K14).keep K18).keep K22).keep K26)) (allS (own_plainA Aw26) all0))) K34 (allS (own_plainE ((((((((A4.keep K5).wr W6).keep K10).keep K14).keep K18).keep K22).keep K26).keep K30)) (allS (own_plainA Aw30) all0))) K38 (allS (own_plainE (((((((((A4.keep K5).wr W6).keep K10).keep K14).keep K18).keep K22).keep K26).keep K30).keep K34)) (allS (own_plainA Aw34) all0))) K41 (allS (own_plainE ((((((((((A4.keep K5).wr W6).keep K10).keep K14).keep K18).keep K22).keep K26).keep K30).keep K34).keep K38)) (allS (own_plainA Aw38) all0))).wr W42).wr W44), Or.inr ⟨u9, ⟨b4, w5, ((((((((((((((Ea.ext E4).keep K5).wr W6).keep K10).keep K14).keep K18).keep K22).keep K26).keep K30).keep K34).keep K38).keep K41).wr W42).wr W44), (((((((((((Fw6.keep K10 (ninS ne_a_b4 (ninS ne_a_w5 nin0))).keep K14 (ninS ne_a_b4 (ninS ne_a_w5 nin0))).keep K18 (ninS ne_a_b4 (ninS ne_a_w5 nin0))).keep K22 (ninS ne_a_b4 (ninS ne_a_w5 nin0))).keep K26 (ninS ne_a_b4 (ninS ne_a_w5 nin0))).keep K30 (ninS ne_a_b4 (ninS ne_a_w5 nin0))).keep K34 (ninS ne_a_b4 (ninS ne_a_w5 nin0))).keep K38 (ninS ne_a_b4 (ninS ne_a_w5 nin0))).keep K41 (ninS ne_a_b4 (ninS ne_a_w5 nin0))).other W42 (Or.inr (slot_ne (C := "com/example/kunci/kunci/NumberSet") (Or.inl (hw _ (List.mem_of_getElem? (i := 29) rfl))) (Or.inl (hw _ (List.mem_of_getElem? (i := 17) rfl))) (by decide) (t := (.object "java/util/BitSet")) (t' := (.array .int)) (by decide) (by decide)))).other W44 (Or.inr (slot_ne (C := "com/example/kunci/kunci/NumberSet") (Or.inl (hw _ (List.mem_of_getElem? (i := 29) rfl))) (Or.inl (hw _ (List.mem_of_getElem? (i := 35) rfl))) (by decide) (t := (.object "java/util/BitSet")) (t' := .int) (by decide) (by decide)))), (((((((((((((A4.keep K5).wr W6).keep K10).keep K14).keep K18).keep K22).keep K26).keep K30).keep K34).keep K38).keep K41).wr W42).wr W44), ((Fw41.other W42 (Or.inl (Ne.symm ne_a_b4))).other W44 (Or.inl (Ne.symm ne_a_b4))), ((Fu41.other W42 (Or.inl (Ne.symm ne_a_b4))).other W44 (Or.inl (Ne.symm ne_a_b4))), ((Aw41.other W42 (Ne.symm ne_a_w5)).other W44 (Ne.symm ne_a_w5))⟩, hb9⟩⟩
set_option maxRecDepth 65536 in
set_option maxHeartbeats 40000000 in
theorem own_conb (l : Launch) (Z : State) (a0 : Array Value) (hw : ∀ d ∈ tables_1, d.before a0 Z = true) (ws : List Jvm.Cond) (a : Nat) (q : Int32) (u : Int64) (h0 : Heap) (n0 : Nat) (Z0 : n0 ≤ h0.size) (hq : 0 ≤ q.toInt) (hF : own_bs Z h0 a u) (S_ad : Sta Z h0 "java/util/BitSet" "$assertionsDisabled" "Z" (.int (1 : Int32))) :
    own_Met l Z (⟨"com/example/kunci/kunci/NumberSet", "contains", "(I)Z"⟩ : MethodName) prog_3_method_3_code 2 (some .boolean) ws ({ frames := 2, cells := 0, slots := 0, locals := 26 } : Room) #[(.ref a), (.int q)] h0 (fun v h L => ∃ r : Int32, v = some (.int r) ∧ (r = 1 ∧ (q.toInt ≤ 63 ∧ ¬ (u &&& ((1 : Int64) <<< (q &&& 0x3f).toInt64)) = 0) ∨ r = 0 ∧ ¬ (q.toInt ≤ 63 ∧ ¬ (u &&& ((1 : Int64) <<< (q &&& 0x3f).toInt64)) = 0)) ∧ Fr n0 L ∧ h = h0) := by
  refine own_body own_pn1 (fun m => mkF m 0 #[.val (.ref a), .val (.int q)] []) (fun m => own_ef_own_conb m a q) ?_
  intro p e s m below meth c T0 hx hby hml hlk hrt hZ hown hnm X0 e0
  have hown : s.vm.findClass "com/example/kunci/kunci/NumberSet" = some m.cls := hown
  have N0 := Fr.nil n0
  obtain ⟨b, w, Ea, Fb, Eb, Fw, Fu, Aw⟩ := hF
  refine own_pre (S' := (T0.setTop (mkF m 1 #[.val (.ref a), .val (.int q)] [(.ref a)]))) (fun tt_ kk_ => XS.aloadN X0.here hx rfl (hb hby own_d5_0) rfl rfl kk_) ?_
  obtain ⟨T1, X1, e1, st1⟩ := getF X0 hx hZ hown (host := "") (Or.inl (hw _ (List.mem_of_getElem? (i := 28) rfl))) Via.refl e0 Fb (g := (mkF m 1 #[.val (.ref a), .val (.int q)] [(.ref a)])) rfl rfl (hb hby own_d5_1)
  refine own_pre (S' := (T1.setTop (mkF m 4 #[.val (.ref a), .val (.int q)] [(.ref b)]))) st1 ?_
  refine own_pre (S' := (T1.setTop (mkF m 15 #[.val (.ref a), .val (.int q)] []))) (fun tt_ kk_ => XS.ifnonnullYes X1.here hx rfl (pc0 := 4) (pc' := 15) rfl (hb hby own_d5_4) rfl (by decide) (by decide) kk_) ?_
  refine own_pre (S' := (T1.setTop (mkF m 16 #[.val (.ref a), .val (.int q)] [(.ref a)]))) (fun tt_ kk_ => XS.aloadN X1.here hx rfl (hb hby own_d5_15) rfl rfl kk_) ?_
  obtain ⟨T2, X2, e2, st2⟩ := getF X1 hx hZ hown (host := "") (Or.inl (hw _ (List.mem_of_getElem? (i := 28) rfl))) Via.refl e1 Fb (g := (mkF m 16 #[.val (.ref a), .val (.int q)] [(.ref a)])) rfl rfl (hb hby own_d5_16)
  refine own_pre (S' := (T2.setTop (mkF m 19 #[.val (.ref a), .val (.int q)] [(.ref b)]))) st2 ?_
  refine own_pre (S' := (T2.setTop (mkF m 20 #[.val (.ref a), .val (.int q)] [(.int q), (.ref b)]))) (fun tt_ kk_ => XS.iloadN X2.here hx rfl (hb hby own_d5_19) rfl kk_) ?_
  refine own_callV (C := "java/util/BitSet") (y := (⟨"java/util/BitSet", "get", "(I)Z"⟩ : MethodName)) (b := b) X2 hx hZ hown (hw _ (List.mem_of_getElem? (i := 98) rfl)) (hw _ (List.mem_of_getElem? (i := 99) rfl)) (hw _ (List.mem_of_getElem? (i := 101) rfl)) (hw _ (List.mem_of_getElem? (i := 100) rfl)) (hw _ (List.mem_of_getElem? (i := 102) rfl)) (hw _ (List.mem_of_getElem? (i := 57) rfl)) (by decide) e2 Eb (hM := own_bget l Z a0 hw [] b w q u h0 n0 Z0 hq Eb Fw Fu Aw S_ad) (W := 0) (pc := 20) (Ls := #[.val (.ref a), .val (.int q)]) (argsL := [(.int q)]) (rest := []) (st0 := [(.int q), (.ref b)]) (by rw [hml]; rfl) (lenOf own_pd0 rfl) rfl (Nat.le_of_eq rfl) (hb hby own_d5_20) (by decide) (by decide) (by decide) (by decide) ?_
  intro v3 T3 L3 X3 hQ3
  obtain ⟨r3, rfl, hr3, Nq3, hh3⟩ := hQ3
  have N3 := Fr.app N0 Nq3
  show own_Ends p e below s _ _ _ (T3.setTop (mkF m 23 #[.val (.ref a), .val (.int q)] [(.int r3)]))
  refine own_ret (t := .boolean) X3 hx hlk hrt (own_narZ (own_01 hr3)) (Or.inl ⟨rfl, by simp, _, rfl⟩) (hb hby own_d5_23) (by decide) (by decide) ?_
  exact ⟨_, rfl, hr3, N3, hh3⟩
set_option maxRecDepth 65536 in
set_option maxHeartbeats 40000000 in
theorem own_nsi (l : Launch) (Z : State) (a0 : Array Value) (hw : ∀ d ∈ tables_1, d.before a0 Z = true) (ws : List Jvm.Cond) (a : Nat) (h0 : Heap) (n0 : Nat) (Z0 : n0 ≤ h0.size) (Ea : Exa Z h0 a "com/example/kunci/kunci/NumberSet") (ga : n0 ≤ a) (Fs : Fld Z h0 a "com/example/kunci/kunci/NumberSet" "size" "I" (.int (0 : Int32))) (Fb : Fld Z h0 a "com/example/kunci/kunci/NumberSet" "bits" "Ljava/util/BitSet;" .null) (Fn : Fld Z h0 a "com/example/kunci/kunci/NumberSet" "numbers" "[I" .null) (S_ad : Sta Z h0 "java/util/BitSet" "$assertionsDisabled" "Z" (.int (1 : Int32))) :
    own_Met l Z (⟨"com/example/kunci/kunci/NumberSet", "<init>", "()V"⟩ : MethodName) prog_3_method_1_code 1 none ws ({ frames := 1, cells := 1, slots := 0, locals := 12 } : Room) #[(.ref a)] h0 (fun v h L => v = none ∧ Fr n0 L ∧ h0.size ≤ h.size ∧ Sta Z h "java/util/BitSet" "$assertionsDisabled" "Z" (.int (1 : Int32)) ∧ own_few n0 Z h a 0 0 (fun _ => 0)) := by
  refine own_body own_pn14 (fun m => mkF m 0 #[.val (.ref a)] []) (fun m => own_ef_own_nsi m a) ?_
  intro p e s m below meth c T0 hx hby hml hlk hrt hZ hown hnm X0 e0
  have hown : s.vm.findClass "com/example/kunci/kunci/NumberSet" = some m.cls := hown
  have N0 := Fr.nil n0
  refine own_pre (S' := (T0.setTop (mkF m 1 #[.val (.ref a)] [(.ref a)]))) (fun tt_ kk_ => XS.aloadN X0.here hx rfl (hb hby own_d2_0) rfl rfl kk_) ?_
  obtain ⟨T1, X1, e1, st1⟩ := initO X0 hx hZ hown (hw _ (List.mem_of_getElem? (i := 12) rfl)) (hw _ (List.mem_of_getElem? (i := 13) rfl)) (hw _ (List.mem_of_getElem? (i := 14) rfl)) e0 (g := (mkF m 1 #[.val (.ref a)] [(.ref a)])) rfl (by rw [hml]; rfl) rfl (hb hby own_d2_1) (by decide) (W := 0) (by show 2 * 0 + _ ≤ _; exact Nat.le_of_eq rfl) (by decide)
  refine own_pre (S' := (T1.setTop (mkF m 4 #[.val (.ref a)] []))) st1 ?_
  refine own_pre (S' := (T1.setTop (mkF m 5 #[.val (.ref a)] [(.ref a)]))) (fun tt_ kk_ => XS.aloadN X1.here hx rfl (hb hby own_d2_4) rfl rfl kk_) ?_
  refine own_pre (S' := (T1.setTop (mkF m 6 #[.val (.ref a)] [(.int (0 : Int32)), (.ref a)]))) (fun tt_ kk_ => XS.iconst X1.here hx rfl (hb hby own_d2_5) kk_) ?_
  refine own_newA X1 hx hZ .int rfl (hw _ (List.mem_of_getElem? (i := 15) rfl)) e1 (hb hby own_d2_6) 0 rfl 0 (by decide) (by decide) (by decide) (by decide) ?_
  intro T2 h2 b2 X2 e2 E2 g2 A2
  have sz_b2 : h0.size ≤ b2 := Nat.le_trans (Nat.le_refl h0.size) (Nat.le_of_eq g2.symm)
  have ge_b2 : n0 ≤ b2 := Nat.le_trans Z0 (Nat.le_of_eq g2.symm)
  have ne_a_b2 : a ≠ b2 := Nat.ne_of_lt (Nat.lt_of_lt_of_le Ea.lt (Nat.le_of_eq g2.symm))
  have A2 : own_A Z h2 b2 .int 0 (fun q_ => .int ((fun _ => (0 : Int32)) q_)) := A2
  show own_Ends p e below s _ _ _ (T2.setTop (mkF m 8 #[.val (.ref a)] [(.ref b2), (.ref a)]))
  obtain ⟨T3, h3, X3, e3, W3, st3⟩ := putF X2 hx hZ hown (host := "") (Or.inl (hw _ (List.mem_of_getElem? (i := 16) rfl))) Via.refl e2 (Fn.ext E2) (Ea.ext E2) (Or.inl (hw _ (List.mem_of_getElem? (i := 17) rfl))) (hw _ (List.mem_of_getElem? (i := 7) rfl)) (ty := (.array .int)) (by decide) rfl rfl (g := (mkF m 8 #[.val (.ref a)] [(.ref b2), (.ref a)])) rfl rfl (hb hby own_d2_8)
  have N3 := Fr.snoc X3 N0 ga
  have Fw3 := (Fn.ext E2).same W3
  refine own_pre (S' := (T3.setTop (mkF m 11 #[.val (.ref a)] []))) st3 ?_
  refine own_retV X3 hx hlk hrt (hb hby own_d2_11) (by decide) (by decide) ?_
  show _ ∧ Fr n0 _ ∧ _ ≤ T3.heap.size ∧ Sta Z T3.heap _ _ _ _ ∧ own_few n0 Z T3.heap a 0 0 _
  rw [e3]
  exact ⟨rfl, N3, (Nat.le_trans (Nat.le_trans (Nat.le_refl h0.size) E2.1) (Nat.le_of_eq W3.size.symm)), ((S_ad.ext E2).wr W3), ⟨b2, 0, ga, ge_b2, ne_a_b2, rfl, Nat.le_refl _, by decide, Or.inl rfl, ((Ea.ext E2).wr W3), ((Fs.ext E2).other W3 (Or.inr (slot_ne (C := "com/example/kunci/kunci/NumberSet") (Or.inl (hw _ (List.mem_of_getElem? (i := 35) rfl))) (Or.inl (hw _ (List.mem_of_getElem? (i := 17) rfl))) (by decide) (t := .int) (t' := (.array .int)) (by decide) (by decide)))), ((Fb.ext E2).other W3 (Or.inr (slot_ne (C := "com/example/kunci/kunci/NumberSet") (Or.inl (hw _ (List.mem_of_getElem? (i := 29) rfl))) (Or.inl (hw _ (List.mem_of_getElem? (i := 17) rfl))) (by decide) (t := (.object "java/util/BitSet")) (t' := (.array .int)) (by decide) (by decide)))), Fw3, (A2.other W3 (Ne.symm ne_a_b2))⟩⟩
set_option maxRecDepth 65536 in
set_option maxHeartbeats 40000000 in
theorem own_pick (l : Launch) (Z : State) (a0 : Array Value) (hw : ∀ d ∈ tables_1, d.before a0 Z = true) (ws : List Jvm.Cond) (z : Int64) (i : Int32) (h0 : Heap) (n0 : Nat) (Z0 : n0 ≤ h0.size)  :
    own_Met l Z (⟨"com/example/kunci/kunci/NumberSetContainsPinLaw", "pick", "(JI)I"⟩ : MethodName) method_2_code 3 (some .int) ws ({ frames := 0, cells := 0, slots := 0, locals := 0 } : Room) #[(.long z), (.int i)] h0 (fun v h L => ∃ r : Int32, v = some (.int r) ∧ own_in6 r ∧ Fr n0 L ∧ h = h0) := by
  refine own_body own_pn15 (fun m => mkF m 0 #[.val (.long z), .second, .val (.int i)] []) (fun m => own_ef_own_pick m z i) ?_
  intro p e s m below meth c T0 hx hby hml hlk hrt hZ hown hnm X0 e0
  have hown : s.vm.findClass "com/example/kunci/kunci/NumberSetContainsPinLaw" = some m.cls := hown
  have N0 := Fr.nil n0
  refine own_pre (S' := (T0.setTop (mkF m 1 #[.val (.long z), .second, .val (.int i)] [(.long z)]))) (fun tt_ kk_ => XS.lloadN X0.here hx rfl (hb hby own_d1_0) rfl kk_) ?_
  refine own_pre (S' := (T0.setTop (mkF m 3 #[.val (.long z), .second, .val (.int i)] [(.int (6 : Int32)), (.long z)]))) (fun tt_ kk_ => XS.bipush X0.here hx rfl (hb hby own_d1_1) kk_) ?_
  refine own_pre (S' := (T0.setTop (mkF m 4 #[.val (.long z), .second, .val (.int i)] [(.int i), (.int (6 : Int32)), (.long z)]))) (fun tt_ kk_ => XS.iloadN X0.here hx rfl (hb hby own_d1_3) rfl kk_) ?_
  refine own_pre (S' := (T0.setTop (mkF m 5 #[.val (.long z), .second, .val (.int i)] [(.int ((6 : Int32) * i)), (.long z)]))) (fun tt_ kk_ => XS.imul X0.here hx rfl (hb hby own_d1_4) rfl kk_) ?_
  refine own_pre (S' := (T0.setTop (mkF m 6 #[.val (.long z), .second, .val (.int i)] [(.long ((z.toUInt64 >>> (((6 : Int32) * i) &&& 0x3f).toInt64.toUInt64).toInt64))]))) (fun tt_ kk_ => XS.lushr X0.here hx rfl (hb hby own_d1_5) rfl kk_) ?_
  refine own_pre (S' := (T0.setTop (mkF m 9 #[.val (.long z), .second, .val (.int i)] [(.long (63 : Int64)), (.long ((z.toUInt64 >>> (((6 : Int32) * i) &&& 0x3f).toInt64.toUInt64).toInt64))]))) (X0.ldc2Long hx hown (mvT hZ (hw _ (List.mem_of_getElem? (i := 5) rfl))) (g := (mkF m 6 #[.val (.long z), .second, .val (.int i)] [(.long ((z.toUInt64 >>> (((6 : Int32) * i) &&& 0x3f).toInt64.toUInt64).toInt64))])) rfl (hb hby own_d1_6)) ?_
  refine own_pre (S' := (T0.setTop (mkF m 10 #[.val (.long z), .second, .val (.int i)] [(.long (((z.toUInt64 >>> (((6 : Int32) * i) &&& 0x3f).toInt64.toUInt64).toInt64) &&& (63 : Int64)))]))) (fun tt_ kk_ => XS.land X0.here hx rfl (hb hby own_d1_9) rfl kk_) ?_
  refine own_pre (S' := (T0.setTop (mkF m 11 #[.val (.long z), .second, .val (.int i)] [(.int ((((z.toUInt64 >>> (((6 : Int32) * i) &&& 0x3f).toInt64.toUInt64).toInt64) &&& (63 : Int64)).toInt32))]))) (fun tt_ kk_ => XS.l2i X0.here hx rfl (hb hby own_d1_10) rfl kk_) ?_
  refine own_ret (t := .int) X0 hx hlk hrt rfl (Or.inl ⟨rfl, by simp, _, rfl⟩) (hb hby own_d1_11) (by decide) (by decide) ?_
  exact ⟨_, rfl, own_pk _, N0, e0⟩
set_option maxRecDepth 65536 in
set_option maxHeartbeats 40000000 in
theorem own_hit (l : Launch) (Z : State) (a0 : Array Value) (hw : ∀ d ∈ tables_1, d.before a0 Z = true) (ws : List Jvm.Cond) (n i y q : Int32) (h0 : Heap) (n0 : Nat) (Z0 : n0 ≤ h0.size)  :
    own_Met l Z (⟨"com/example/kunci/kunci/NumberSetContainsPinLaw", "hit", "(IIII)Z"⟩ : MethodName) method_3_code 4 (some .boolean) ws ({ frames := 0, cells := 0, slots := 0, locals := 0 } : Room) #[(.int n), (.int i), (.int y), (.int q)] h0 (fun v h L => ∃ r : Int32, v = some (.int r) ∧ (r = 1 ∧ (i < n ∧ y = q) ∨ r = 0 ∧ ¬ (i < n ∧ y = q)) ∧ Fr n0 L ∧ h = h0) := by
  refine own_body own_pn16 (fun m => mkF m 0 #[.val (.int n), .val (.int i), .val (.int y), .val (.int q)] []) (fun m => own_ef_own_hit m n i y q) ?_
  intro p e s m below meth c T0 hx hby hml hlk hrt hZ hown hnm X0 e0
  have hown : s.vm.findClass "com/example/kunci/kunci/NumberSetContainsPinLaw" = some m.cls := hown
  have N0 := Fr.nil n0
  refine own_pre (S' := (T0.setTop (mkF m 1 #[.val (.int n), .val (.int i), .val (.int y), .val (.int q)] [(.int i)]))) (fun tt_ kk_ => XS.iloadN X0.here hx rfl (hb hby own_d10_0) rfl kk_) ?_
  refine own_pre (S' := (T0.setTop (mkF m 2 #[.val (.int n), .val (.int i), .val (.int y), .val (.int q)] [(.int n), (.int i)]))) (fun tt_ kk_ => XS.iloadN X0.here hx rfl (hb hby own_d10_1) rfl kk_) ?_
  by_cases c2 : i < n
  · -- pc 2: i < n
    refine own_pre (S' := (T0.setTop (mkF m 5 #[.val (.int n), .val (.int i), .val (.int y), .val (.int q)] []))) (fun tt_ kk_ => XS.icmpNo X0.here hx rfl (hb hby own_d10_2) rfl (tlt c2).2.1 kk_) ?_
    refine own_pre (S' := (T0.setTop (mkF m 6 #[.val (.int n), .val (.int i), .val (.int y), .val (.int q)] [(.int y)]))) (fun tt_ kk_ => XS.iloadN X0.here hx rfl (hb hby own_d10_5) rfl kk_) ?_
    refine own_pre (S' := (T0.setTop (mkF m 7 #[.val (.int n), .val (.int i), .val (.int y), .val (.int q)] [(.int q), (.int y)]))) (fun tt_ kk_ => XS.iloadN X0.here hx rfl (hb hby own_d10_6) rfl kk_) ?_
    by_cases c7 : y = q
    · -- pc 7: y = q
      refine own_pre (S' := (T0.setTop (mkF m 10 #[.val (.int n), .val (.int i), .val (.int y), .val (.int q)] []))) (fun tt_ kk_ => XS.icmpNo X0.here hx rfl (hb hby own_d10_7) rfl (teq c7).2 kk_) ?_
      refine own_pre (S' := (T0.setTop (mkF m 11 #[.val (.int n), .val (.int i), .val (.int y), .val (.int q)] [(.int (1 : Int32))]))) (fun tt_ kk_ => XS.iconst X0.here hx rfl (hb hby own_d10_10) kk_) ?_
      refine own_pre (S' := (T0.setTop (mkF m 15 #[.val (.int n), .val (.int i), .val (.int y), .val (.int q)] [(.int (1 : Int32))]))) (fun tt_ kk_ => XS.goto X0.here hx rfl (pc0 := 11) (pc' := 15) rfl (hb hby own_d10_11) (by decide) (by decide) kk_) ?_
      refine own_ret (t := .boolean) X0 hx hlk hrt rfl (Or.inl ⟨rfl, by simp, _, rfl⟩) (hb hby own_d10_15) (by decide) (by decide) ?_
      exact ⟨_, rfl, Or.inl ⟨rfl, c2, c7⟩, N0, e0⟩
    · -- pc 7: not y = q
      refine own_pre (S' := (T0.setTop (mkF m 14 #[.val (.int n), .val (.int i), .val (.int y), .val (.int q)] []))) (fun tt_ kk_ => XS.icmpYes X0.here hx rfl (pc0 := 7) (pc' := 14) rfl (hb hby own_d10_7) rfl (feq c7).2 (by decide) (by decide) kk_) ?_
      refine own_pre (S' := (T0.setTop (mkF m 15 #[.val (.int n), .val (.int i), .val (.int y), .val (.int q)] [(.int (0 : Int32))]))) (fun tt_ kk_ => XS.iconst X0.here hx rfl (hb hby own_d10_14) kk_) ?_
      refine own_ret (t := .boolean) X0 hx hlk hrt rfl (Or.inl ⟨rfl, by simp, _, rfl⟩) (hb hby own_d10_15) (by decide) (by decide) ?_
      exact ⟨_, rfl, Or.inr ⟨rfl, fun z => c7 z.2⟩, N0, e0⟩
  · -- pc 2: not i < n
    refine own_pre (S' := (T0.setTop (mkF m 14 #[.val (.int n), .val (.int i), .val (.int y), .val (.int q)] []))) (fun tt_ kk_ => XS.icmpYes X0.here hx rfl (pc0 := 2) (pc' := 14) rfl (hb hby own_d10_2) rfl (flt c2).2.1 (by decide) (by decide) kk_) ?_
    refine own_pre (S' := (T0.setTop (mkF m 15 #[.val (.int n), .val (.int i), .val (.int y), .val (.int q)] [(.int (0 : Int32))]))) (fun tt_ kk_ => XS.iconst X0.here hx rfl (hb hby own_d10_14) kk_) ?_
    refine own_ret (t := .boolean) X0 hx hlk hrt rfl (Or.inl ⟨rfl, by simp, _, rfl⟩) (hb hby own_d10_15) (by decide) (by decide) ?_
    exact ⟨_, rfl, Or.inr ⟨rfl, fun z => c2 z.1⟩, N0, e0⟩
set_option maxRecDepth 65536 in
set_option maxHeartbeats 40000000 in
theorem own_law (l : Launch) (Z : State) (a0 : Array Value) (hw : ∀ d ∈ tables_1, d.before a0 Z = true) (ws : List Jvm.Cond) (i0 : Int64) (i1 i2 i3 : Int32) (h0 : Heap) (n0 : Nat) (Z0 : n0 ≤ h0.size) (S_ad : Sta Z h0 "java/util/BitSet" "$assertionsDisabled" "Z" (.int (1 : Int32))) :
    own_Met l Z x code maxLocals ret ws room_1 #[(.long i0), (.int i1), (.int i2), (.int i3)] h0 (fun v h L => v = some (.int 1) ∧ Fr n0 L) := by
  refine own_body own_pn17 (fun m => mkF m 0 #[.val (.long i0), .second, .val (.int i1), .val (.int i2), .val (.int i3), .unset, .unset, .unset, .unset, .unset, .unset, .unset, .unset, .unset, .unset, .unset, .unset, .unset] []) (fun m => own_ef_own_law m i0 i1 i2 i3) ?_
  intro p e s m below meth c T0 hx hby hml hlk hrt hZ hown hnm X0 e0
  have hown : s.vm.findClass "com/example/kunci/kunci/NumberSetContainsPinLaw" = some m.cls := hown
  have N0 := Fr.nil n0
  refine own_pre (S' := (T0.setTop (mkF m 1 #[.val (.long i0), .second, .val (.int i1), .val (.int i2), .val (.int i3), .unset, .unset, .unset, .unset, .unset, .unset, .unset, .unset, .unset, .unset, .unset, .unset, .unset] [(.int i1)]))) (fun tt_ kk_ => XS.iloadN X0.here hx rfl (hb hby at_0) rfl kk_) ?_
  refine own_pre (S' := (T0.setTop (mkF m 3 #[.val (.long i0), .second, .val (.int i1), .val (.int i2), .val (.int i3), .unset, .unset, .unset, .unset, .unset, .unset, .unset, .unset, .unset, .unset, .unset, .unset, .unset] [(.int (2147483647 : Int32)), (.int i1)]))) (X0.ldcInt hx hown (mvT hZ (hw _ (List.mem_of_getElem? (i := 0) rfl))) (g := (mkF m 1 #[.val (.long i0), .second, .val (.int i1), .val (.int i2), .val (.int i3), .unset, .unset, .unset, .unset, .unset, .unset, .unset, .unset, .unset, .unset, .unset, .unset, .unset] [(.int i1)])) rfl (hb hby at_1)) ?_
  refine own_pre (S' := (T0.setTop (mkF m 4 #[.val (.long i0), .second, .val (.int i1), .val (.int i2), .val (.int i3), .unset, .unset, .unset, .unset, .unset, .unset, .unset, .unset, .unset, .unset, .unset, .unset, .unset] [(.int (i1 &&& (2147483647 : Int32)))]))) (fun tt_ kk_ => XS.iand X0.here hx rfl (hb hby at_3) rfl kk_) ?_
  refine own_pre (S' := (T0.setTop (mkF m 6 #[.val (.long i0), .second, .val (.int i1), .val (.int i2), .val (.int i3), .unset, .unset, .unset, .unset, .unset, .unset, .unset, .unset, .unset, .unset, .unset, .unset, .unset] [(.int (10 : Int32)), (.int (i1 &&& (2147483647 : Int32)))]))) (fun tt_ kk_ => XS.bipush X0.here hx rfl (hb hby at_4) kk_) ?_
  refine own_pre (S' := (T0.setTop (mkF m 7 #[.val (.long i0), .second, .val (.int i1), .val (.int i2), .val (.int i3), .unset, .unset, .unset, .unset, .unset, .unset, .unset, .unset, .unset, .unset, .unset, .unset, .unset] [(.int ((i1 &&& (2147483647 : Int32)) % (10 : Int32)))]))) (fun tt_ kk_ => iremM X0 hx rfl (hb hby at_6) rfl (by decide) kk_) ?_
  generalize ((i1 &&& (2147483647 : Int32)) % (10 : Int32)) = nq
  refine own_pre (S' := (T0.setTop (mkF m 9 #[.val (.long i0), .second, .val (.int i1), .val (.int i2), .val (.int i3), .val (.int nq), .unset, .unset, .unset, .unset, .unset, .unset, .unset, .unset, .unset, .unset, .unset, .unset] []))) (fun tt_ kk_ => XS.istore X0.here hx rfl (hb hby at_7) rfl (l' := #[.val (.long i0), .second, .val (.int i1), .val (.int i2), .val (.int i3), .val (.int nq), .unset, .unset, .unset, .unset, .unset, .unset, .unset, .unset, .unset, .unset, .unset, .unset]) rfl kk_) ?_
  refine own_pre (S' := (T0.setTop (mkF m 10 #[.val (.long i0), .second, .val (.int i1), .val (.int i2), .val (.int i3), .val (.int nq), .unset, .unset, .unset, .unset, .unset, .unset, .unset, .unset, .unset, .unset, .unset, .unset] [(.long i0)]))) (fun tt_ kk_ => XS.lloadN X0.here hx rfl (hb hby at_9) rfl kk_) ?_
  refine own_pre (S' := (T0.setTop (mkF m 11 #[.val (.long i0), .second, .val (.int i1), .val (.int i2), .val (.int i3), .val (.int nq), .unset, .unset, .unset, .unset, .unset, .unset, .unset, .unset, .unset, .unset, .unset, .unset] [(.int (0 : Int32)), (.long i0)]))) (fun tt_ kk_ => XS.iconst X0.here hx rfl (hb hby at_10) kk_) ?_
  refine own_callS (y := (⟨"com/example/kunci/kunci/NumberSetContainsPinLaw", "pick", "(JI)I"⟩ : MethodName)) X0 hx hZ hown (hw _ (List.mem_of_getElem? (i := 1) rfl)) (hw _ (List.mem_of_getElem? (i := 2) rfl)) (hw _ (List.mem_of_getElem? (i := 3) rfl)) (hw _ (List.mem_of_getElem? (i := 4) rfl)) (by decide) e0 (hM := own_pick l Z a0 hw [] i0 (0 : Int32) h0 n0 Z0) (W := 0) (pc := 11) (Ls := #[.val (.long i0), .second, .val (.int i1), .val (.int i2), .val (.int i3), .val (.int nq), .unset, .unset, .unset, .unset, .unset, .unset, .unset, .unset, .unset, .unset, .unset, .unset]) (argsL := [(.long i0), (.int (0 : Int32))]) (rest := []) (st0 := [(.int (0 : Int32)), (.long i0)]) (by rw [hml]; rfl) (lenOf own_pd6 rfl) rfl (Nat.le_of_eq rfl) (hb hby at_11) (by decide) (by decide) (by decide) (by decide) ?_
  intro v1 T1 L1 X1 hQ1
  obtain ⟨y0, rfl, hy0, Nq1, hh1⟩ := hQ1
  have N1 := Fr.app N0 Nq1
  show own_Ends p e below s _ _ _ (T1.setTop (mkF m 14 #[.val (.long i0), .second, .val (.int i1), .val (.int i2), .val (.int i3), .val (.int nq), .unset, .unset, .unset, .unset, .unset, .unset, .unset, .unset, .unset, .unset, .unset, .unset] [(.int y0)]))
  refine own_pre (S' := (T1.setTop (mkF m 16 #[.val (.long i0), .second, .val (.int i1), .val (.int i2), .val (.int i3), .val (.int nq), .val (.int y0), .unset, .unset, .unset, .unset, .unset, .unset, .unset, .unset, .unset, .unset, .unset] []))) (fun tt_ kk_ => XS.istore X1.here hx rfl (hb hby at_14) rfl (l' := #[.val (.long i0), .second, .val (.int i1), .val (.int i2), .val (.int i3), .val (.int nq), .val (.int y0), .unset, .unset, .unset, .unset, .unset, .unset, .unset, .unset, .unset, .unset, .unset]) rfl kk_) ?_
  refine own_pre (S' := (T1.setTop (mkF m 17 #[.val (.long i0), .second, .val (.int i1), .val (.int i2), .val (.int i3), .val (.int nq), .val (.int y0), .unset, .unset, .unset, .unset, .unset, .unset, .unset, .unset, .unset, .unset, .unset] [(.long i0)]))) (fun tt_ kk_ => XS.lloadN X1.here hx rfl (hb hby at_16) rfl kk_) ?_
  refine own_pre (S' := (T1.setTop (mkF m 18 #[.val (.long i0), .second, .val (.int i1), .val (.int i2), .val (.int i3), .val (.int nq), .val (.int y0), .unset, .unset, .unset, .unset, .unset, .unset, .unset, .unset, .unset, .unset, .unset] [(.int (1 : Int32)), (.long i0)]))) (fun tt_ kk_ => XS.iconst X1.here hx rfl (hb hby at_17) kk_) ?_
  refine own_callS (y := (⟨"com/example/kunci/kunci/NumberSetContainsPinLaw", "pick", "(JI)I"⟩ : MethodName)) X1 hx hZ hown (hw _ (List.mem_of_getElem? (i := 1) rfl)) (hw _ (List.mem_of_getElem? (i := 2) rfl)) (hw _ (List.mem_of_getElem? (i := 3) rfl)) (hw _ (List.mem_of_getElem? (i := 4) rfl)) (by decide) hh1 (hM := own_pick l Z a0 hw [] i0 (1 : Int32) h0 n0 Z0) (W := 0) (pc := 18) (Ls := #[.val (.long i0), .second, .val (.int i1), .val (.int i2), .val (.int i3), .val (.int nq), .val (.int y0), .unset, .unset, .unset, .unset, .unset, .unset, .unset, .unset, .unset, .unset, .unset]) (argsL := [(.long i0), (.int (1 : Int32))]) (rest := []) (st0 := [(.int (1 : Int32)), (.long i0)]) (by rw [hml]; rfl) (lenOf own_pd6 rfl) rfl (Nat.le_of_eq rfl) (hb hby at_18) (by decide) (by decide) (by decide) (by decide) ?_
  intro v2 T2 L2 X2 hQ2
  obtain ⟨y1, rfl, hy1, Nq2, hh2⟩ := hQ2
  have N2 := Fr.app N1 Nq2
  show own_Ends p e below s _ _ _ (T2.setTop (mkF m 21 #[.val (.long i0), .second, .val (.int i1), .val (.int i2), .val (.int i3), .val (.int nq), .val (.int y0), .unset, .unset, .unset, .unset, .unset, .unset, .unset, .unset, .unset, .unset, .unset] [(.int y1)]))
  refine own_pre (S' := (T2.setTop (mkF m 23 #[.val (.long i0), .second, .val (.int i1), .val (.int i2), .val (.int i3), .val (.int nq), .val (.int y0), .val (.int y1), .unset, .unset, .unset, .unset, .unset, .unset, .unset, .unset, .unset, .unset] []))) (fun tt_ kk_ => XS.istore X2.here hx rfl (hb hby at_21) rfl (l' := #[.val (.long i0), .second, .val (.int i1), .val (.int i2), .val (.int i3), .val (.int nq), .val (.int y0), .val (.int y1), .unset, .unset, .unset, .unset, .unset, .unset, .unset, .unset, .unset, .unset]) rfl kk_) ?_
  refine own_pre (S' := (T2.setTop (mkF m 24 #[.val (.long i0), .second, .val (.int i1), .val (.int i2), .val (.int i3), .val (.int nq), .val (.int y0), .val (.int y1), .unset, .unset, .unset, .unset, .unset, .unset, .unset, .unset, .unset, .unset] [(.long i0)]))) (fun tt_ kk_ => XS.lloadN X2.here hx rfl (hb hby at_23) rfl kk_) ?_
  refine own_pre (S' := (T2.setTop (mkF m 25 #[.val (.long i0), .second, .val (.int i1), .val (.int i2), .val (.int i3), .val (.int nq), .val (.int y0), .val (.int y1), .unset, .unset, .unset, .unset, .unset, .unset, .unset, .unset, .unset, .unset] [(.int (2 : Int32)), (.long i0)]))) (fun tt_ kk_ => XS.iconst X2.here hx rfl (hb hby at_24) kk_) ?_
  refine own_callS (y := (⟨"com/example/kunci/kunci/NumberSetContainsPinLaw", "pick", "(JI)I"⟩ : MethodName)) X2 hx hZ hown (hw _ (List.mem_of_getElem? (i := 1) rfl)) (hw _ (List.mem_of_getElem? (i := 2) rfl)) (hw _ (List.mem_of_getElem? (i := 3) rfl)) (hw _ (List.mem_of_getElem? (i := 4) rfl)) (by decide) hh2 (hM := own_pick l Z a0 hw [] i0 (2 : Int32) h0 n0 Z0) (W := 0) (pc := 25) (Ls := #[.val (.long i0), .second, .val (.int i1), .val (.int i2), .val (.int i3), .val (.int nq), .val (.int y0), .val (.int y1), .unset, .unset, .unset, .unset, .unset, .unset, .unset, .unset, .unset, .unset]) (argsL := [(.long i0), (.int (2 : Int32))]) (rest := []) (st0 := [(.int (2 : Int32)), (.long i0)]) (by rw [hml]; rfl) (lenOf own_pd6 rfl) rfl (Nat.le_of_eq rfl) (hb hby at_25) (by decide) (by decide) (by decide) (by decide) ?_
  intro v3 T3 L3 X3 hQ3
  obtain ⟨y2, rfl, hy2, Nq3, hh3⟩ := hQ3
  have N3 := Fr.app N2 Nq3
  show own_Ends p e below s _ _ _ (T3.setTop (mkF m 28 #[.val (.long i0), .second, .val (.int i1), .val (.int i2), .val (.int i3), .val (.int nq), .val (.int y0), .val (.int y1), .unset, .unset, .unset, .unset, .unset, .unset, .unset, .unset, .unset, .unset] [(.int y2)]))
  refine own_pre (S' := (T3.setTop (mkF m 30 #[.val (.long i0), .second, .val (.int i1), .val (.int i2), .val (.int i3), .val (.int nq), .val (.int y0), .val (.int y1), .val (.int y2), .unset, .unset, .unset, .unset, .unset, .unset, .unset, .unset, .unset] []))) (fun tt_ kk_ => XS.istore X3.here hx rfl (hb hby at_28) rfl (l' := #[.val (.long i0), .second, .val (.int i1), .val (.int i2), .val (.int i3), .val (.int nq), .val (.int y0), .val (.int y1), .val (.int y2), .unset, .unset, .unset, .unset, .unset, .unset, .unset, .unset, .unset]) rfl kk_) ?_
  refine own_pre (S' := (T3.setTop (mkF m 31 #[.val (.long i0), .second, .val (.int i1), .val (.int i2), .val (.int i3), .val (.int nq), .val (.int y0), .val (.int y1), .val (.int y2), .unset, .unset, .unset, .unset, .unset, .unset, .unset, .unset, .unset] [(.long i0)]))) (fun tt_ kk_ => XS.lloadN X3.here hx rfl (hb hby at_30) rfl kk_) ?_
  refine own_pre (S' := (T3.setTop (mkF m 32 #[.val (.long i0), .second, .val (.int i1), .val (.int i2), .val (.int i3), .val (.int nq), .val (.int y0), .val (.int y1), .val (.int y2), .unset, .unset, .unset, .unset, .unset, .unset, .unset, .unset, .unset] [(.int (3 : Int32)), (.long i0)]))) (fun tt_ kk_ => XS.iconst X3.here hx rfl (hb hby at_31) kk_) ?_
  refine own_callS (y := (⟨"com/example/kunci/kunci/NumberSetContainsPinLaw", "pick", "(JI)I"⟩ : MethodName)) X3 hx hZ hown (hw _ (List.mem_of_getElem? (i := 1) rfl)) (hw _ (List.mem_of_getElem? (i := 2) rfl)) (hw _ (List.mem_of_getElem? (i := 3) rfl)) (hw _ (List.mem_of_getElem? (i := 4) rfl)) (by decide) hh3 (hM := own_pick l Z a0 hw [] i0 (3 : Int32) h0 n0 Z0) (W := 0) (pc := 32) (Ls := #[.val (.long i0), .second, .val (.int i1), .val (.int i2), .val (.int i3), .val (.int nq), .val (.int y0), .val (.int y1), .val (.int y2), .unset, .unset, .unset, .unset, .unset, .unset, .unset, .unset, .unset]) (argsL := [(.long i0), (.int (3 : Int32))]) (rest := []) (st0 := [(.int (3 : Int32)), (.long i0)]) (by rw [hml]; rfl) (lenOf own_pd6 rfl) rfl (Nat.le_of_eq rfl) (hb hby at_32) (by decide) (by decide) (by decide) (by decide) ?_
  intro v4 T4 L4 X4 hQ4
  obtain ⟨y3, rfl, hy3, Nq4, hh4⟩ := hQ4
  have N4 := Fr.app N3 Nq4
  show own_Ends p e below s _ _ _ (T4.setTop (mkF m 35 #[.val (.long i0), .second, .val (.int i1), .val (.int i2), .val (.int i3), .val (.int nq), .val (.int y0), .val (.int y1), .val (.int y2), .unset, .unset, .unset, .unset, .unset, .unset, .unset, .unset, .unset] [(.int y3)]))
  refine own_pre (S' := (T4.setTop (mkF m 37 #[.val (.long i0), .second, .val (.int i1), .val (.int i2), .val (.int i3), .val (.int nq), .val (.int y0), .val (.int y1), .val (.int y2), .val (.int y3), .unset, .unset, .unset, .unset, .unset, .unset, .unset, .unset] []))) (fun tt_ kk_ => XS.istore X4.here hx rfl (hb hby at_35) rfl (l' := #[.val (.long i0), .second, .val (.int i1), .val (.int i2), .val (.int i3), .val (.int nq), .val (.int y0), .val (.int y1), .val (.int y2), .val (.int y3), .unset, .unset, .unset, .unset, .unset, .unset, .unset, .unset]) rfl kk_) ?_
  refine own_pre (S' := (T4.setTop (mkF m 38 #[.val (.long i0), .second, .val (.int i1), .val (.int i2), .val (.int i3), .val (.int nq), .val (.int y0), .val (.int y1), .val (.int y2), .val (.int y3), .unset, .unset, .unset, .unset, .unset, .unset, .unset, .unset] [(.long i0)]))) (fun tt_ kk_ => XS.lloadN X4.here hx rfl (hb hby at_37) rfl kk_) ?_
  refine own_pre (S' := (T4.setTop (mkF m 39 #[.val (.long i0), .second, .val (.int i1), .val (.int i2), .val (.int i3), .val (.int nq), .val (.int y0), .val (.int y1), .val (.int y2), .val (.int y3), .unset, .unset, .unset, .unset, .unset, .unset, .unset, .unset] [(.int (4 : Int32)), (.long i0)]))) (fun tt_ kk_ => XS.iconst X4.here hx rfl (hb hby at_38) kk_) ?_
  refine own_callS (y := (⟨"com/example/kunci/kunci/NumberSetContainsPinLaw", "pick", "(JI)I"⟩ : MethodName)) X4 hx hZ hown (hw _ (List.mem_of_getElem? (i := 1) rfl)) (hw _ (List.mem_of_getElem? (i := 2) rfl)) (hw _ (List.mem_of_getElem? (i := 3) rfl)) (hw _ (List.mem_of_getElem? (i := 4) rfl)) (by decide) hh4 (hM := own_pick l Z a0 hw [] i0 (4 : Int32) h0 n0 Z0) (W := 0) (pc := 39) (Ls := #[.val (.long i0), .second, .val (.int i1), .val (.int i2), .val (.int i3), .val (.int nq), .val (.int y0), .val (.int y1), .val (.int y2), .val (.int y3), .unset, .unset, .unset, .unset, .unset, .unset, .unset, .unset]) (argsL := [(.long i0), (.int (4 : Int32))]) (rest := []) (st0 := [(.int (4 : Int32)), (.long i0)]) (by rw [hml]; rfl) (lenOf own_pd6 rfl) rfl (Nat.le_of_eq rfl) (hb hby at_39) (by decide) (by decide) (by decide) (by decide) ?_
  intro v5 T5 L5 X5 hQ5
  obtain ⟨y4, rfl, hy4, Nq5, hh5⟩ := hQ5
  have N5 := Fr.app N4 Nq5
  show own_Ends p e below s _ _ _ (T5.setTop (mkF m 42 #[.val (.long i0), .second, .val (.int i1), .val (.int i2), .val (.int i3), .val (.int nq), .val (.int y0), .val (.int y1), .val (.int y2), .val (.int y3), .unset, .unset, .unset, .unset, .unset, .unset, .unset, .unset] [(.int y4)]))
  refine own_pre (S' := (T5.setTop (mkF m 44 #[.val (.long i0), .second, .val (.int i1), .val (.int i2), .val (.int i3), .val (.int nq), .val (.int y0), .val (.int y1), .val (.int y2), .val (.int y3), .val (.int y4), .unset, .unset, .unset, .unset, .unset, .unset, .unset] []))) (fun tt_ kk_ => XS.istore X5.here hx rfl (hb hby at_42) rfl (l' := #[.val (.long i0), .second, .val (.int i1), .val (.int i2), .val (.int i3), .val (.int nq), .val (.int y0), .val (.int y1), .val (.int y2), .val (.int y3), .val (.int y4), .unset, .unset, .unset, .unset, .unset, .unset, .unset]) rfl kk_) ?_
  refine own_pre (S' := (T5.setTop (mkF m 45 #[.val (.long i0), .second, .val (.int i1), .val (.int i2), .val (.int i3), .val (.int nq), .val (.int y0), .val (.int y1), .val (.int y2), .val (.int y3), .val (.int y4), .unset, .unset, .unset, .unset, .unset, .unset, .unset] [(.long i0)]))) (fun tt_ kk_ => XS.lloadN X5.here hx rfl (hb hby at_44) rfl kk_) ?_
  refine own_pre (S' := (T5.setTop (mkF m 46 #[.val (.long i0), .second, .val (.int i1), .val (.int i2), .val (.int i3), .val (.int nq), .val (.int y0), .val (.int y1), .val (.int y2), .val (.int y3), .val (.int y4), .unset, .unset, .unset, .unset, .unset, .unset, .unset] [(.int (5 : Int32)), (.long i0)]))) (fun tt_ kk_ => XS.iconst X5.here hx rfl (hb hby at_45) kk_) ?_
  refine own_callS (y := (⟨"com/example/kunci/kunci/NumberSetContainsPinLaw", "pick", "(JI)I"⟩ : MethodName)) X5 hx hZ hown (hw _ (List.mem_of_getElem? (i := 1) rfl)) (hw _ (List.mem_of_getElem? (i := 2) rfl)) (hw _ (List.mem_of_getElem? (i := 3) rfl)) (hw _ (List.mem_of_getElem? (i := 4) rfl)) (by decide) hh5 (hM := own_pick l Z a0 hw [] i0 (5 : Int32) h0 n0 Z0) (W := 0) (pc := 46) (Ls := #[.val (.long i0), .second, .val (.int i1), .val (.int i2), .val (.int i3), .val (.int nq), .val (.int y0), .val (.int y1), .val (.int y2), .val (.int y3), .val (.int y4), .unset, .unset, .unset, .unset, .unset, .unset, .unset]) (argsL := [(.long i0), (.int (5 : Int32))]) (rest := []) (st0 := [(.int (5 : Int32)), (.long i0)]) (by rw [hml]; rfl) (lenOf own_pd6 rfl) rfl (Nat.le_of_eq rfl) (hb hby at_46) (by decide) (by decide) (by decide) (by decide) ?_
  intro v6 T6 L6 X6 hQ6
  obtain ⟨y5, rfl, hy5, Nq6, hh6⟩ := hQ6
  have N6 := Fr.app N5 Nq6
  show own_Ends p e below s _ _ _ (T6.setTop (mkF m 49 #[.val (.long i0), .second, .val (.int i1), .val (.int i2), .val (.int i3), .val (.int nq), .val (.int y0), .val (.int y1), .val (.int y2), .val (.int y3), .val (.int y4), .unset, .unset, .unset, .unset, .unset, .unset, .unset] [(.int y5)]))
  refine own_pre (S' := (T6.setTop (mkF m 51 #[.val (.long i0), .second, .val (.int i1), .val (.int i2), .val (.int i3), .val (.int nq), .val (.int y0), .val (.int y1), .val (.int y2), .val (.int y3), .val (.int y4), .val (.int y5), .unset, .unset, .unset, .unset, .unset, .unset] []))) (fun tt_ kk_ => XS.istore X6.here hx rfl (hb hby at_49) rfl (l' := #[.val (.long i0), .second, .val (.int i1), .val (.int i2), .val (.int i3), .val (.int nq), .val (.int y0), .val (.int y1), .val (.int y2), .val (.int y3), .val (.int y4), .val (.int y5), .unset, .unset, .unset, .unset, .unset, .unset]) rfl kk_) ?_
  refine own_pre (S' := (T6.setTop (mkF m 52 #[.val (.long i0), .second, .val (.int i1), .val (.int i2), .val (.int i3), .val (.int nq), .val (.int y0), .val (.int y1), .val (.int y2), .val (.int y3), .val (.int y4), .val (.int y5), .unset, .unset, .unset, .unset, .unset, .unset] [(.long i0)]))) (fun tt_ kk_ => XS.lloadN X6.here hx rfl (hb hby at_51) rfl kk_) ?_
  refine own_pre (S' := (T6.setTop (mkF m 54 #[.val (.long i0), .second, .val (.int i1), .val (.int i2), .val (.int i3), .val (.int nq), .val (.int y0), .val (.int y1), .val (.int y2), .val (.int y3), .val (.int y4), .val (.int y5), .unset, .unset, .unset, .unset, .unset, .unset] [(.int (6 : Int32)), (.long i0)]))) (fun tt_ kk_ => XS.bipush X6.here hx rfl (hb hby at_52) kk_) ?_
  refine own_callS (y := (⟨"com/example/kunci/kunci/NumberSetContainsPinLaw", "pick", "(JI)I"⟩ : MethodName)) X6 hx hZ hown (hw _ (List.mem_of_getElem? (i := 1) rfl)) (hw _ (List.mem_of_getElem? (i := 2) rfl)) (hw _ (List.mem_of_getElem? (i := 3) rfl)) (hw _ (List.mem_of_getElem? (i := 4) rfl)) (by decide) hh6 (hM := own_pick l Z a0 hw [] i0 (6 : Int32) h0 n0 Z0) (W := 0) (pc := 54) (Ls := #[.val (.long i0), .second, .val (.int i1), .val (.int i2), .val (.int i3), .val (.int nq), .val (.int y0), .val (.int y1), .val (.int y2), .val (.int y3), .val (.int y4), .val (.int y5), .unset, .unset, .unset, .unset, .unset, .unset]) (argsL := [(.long i0), (.int (6 : Int32))]) (rest := []) (st0 := [(.int (6 : Int32)), (.long i0)]) (by rw [hml]; rfl) (lenOf own_pd6 rfl) rfl (Nat.le_of_eq rfl) (hb hby at_54) (by decide) (by decide) (by decide) (by decide) ?_
  intro v7 T7 L7 X7 hQ7
  obtain ⟨y6, rfl, hy6, Nq7, hh7⟩ := hQ7
  have N7 := Fr.app N6 Nq7
  show own_Ends p e below s _ _ _ (T7.setTop (mkF m 57 #[.val (.long i0), .second, .val (.int i1), .val (.int i2), .val (.int i3), .val (.int nq), .val (.int y0), .val (.int y1), .val (.int y2), .val (.int y3), .val (.int y4), .val (.int y5), .unset, .unset, .unset, .unset, .unset, .unset] [(.int y6)]))
  refine own_pre (S' := (T7.setTop (mkF m 59 #[.val (.long i0), .second, .val (.int i1), .val (.int i2), .val (.int i3), .val (.int nq), .val (.int y0), .val (.int y1), .val (.int y2), .val (.int y3), .val (.int y4), .val (.int y5), .val (.int y6), .unset, .unset, .unset, .unset, .unset] []))) (fun tt_ kk_ => XS.istore X7.here hx rfl (hb hby at_57) rfl (l' := #[.val (.long i0), .second, .val (.int i1), .val (.int i2), .val (.int i3), .val (.int nq), .val (.int y0), .val (.int y1), .val (.int y2), .val (.int y3), .val (.int y4), .val (.int y5), .val (.int y6), .unset, .unset, .unset, .unset, .unset]) rfl kk_) ?_
  refine own_pre (S' := (T7.setTop (mkF m 60 #[.val (.long i0), .second, .val (.int i1), .val (.int i2), .val (.int i3), .val (.int nq), .val (.int y0), .val (.int y1), .val (.int y2), .val (.int y3), .val (.int y4), .val (.int y5), .val (.int y6), .unset, .unset, .unset, .unset, .unset] [(.long i0)]))) (fun tt_ kk_ => XS.lloadN X7.here hx rfl (hb hby at_59) rfl kk_) ?_
  refine own_pre (S' := (T7.setTop (mkF m 62 #[.val (.long i0), .second, .val (.int i1), .val (.int i2), .val (.int i3), .val (.int nq), .val (.int y0), .val (.int y1), .val (.int y2), .val (.int y3), .val (.int y4), .val (.int y5), .val (.int y6), .unset, .unset, .unset, .unset, .unset] [(.int (7 : Int32)), (.long i0)]))) (fun tt_ kk_ => XS.bipush X7.here hx rfl (hb hby at_60) kk_) ?_
  refine own_callS (y := (⟨"com/example/kunci/kunci/NumberSetContainsPinLaw", "pick", "(JI)I"⟩ : MethodName)) X7 hx hZ hown (hw _ (List.mem_of_getElem? (i := 1) rfl)) (hw _ (List.mem_of_getElem? (i := 2) rfl)) (hw _ (List.mem_of_getElem? (i := 3) rfl)) (hw _ (List.mem_of_getElem? (i := 4) rfl)) (by decide) hh7 (hM := own_pick l Z a0 hw [] i0 (7 : Int32) h0 n0 Z0) (W := 0) (pc := 62) (Ls := #[.val (.long i0), .second, .val (.int i1), .val (.int i2), .val (.int i3), .val (.int nq), .val (.int y0), .val (.int y1), .val (.int y2), .val (.int y3), .val (.int y4), .val (.int y5), .val (.int y6), .unset, .unset, .unset, .unset, .unset]) (argsL := [(.long i0), (.int (7 : Int32))]) (rest := []) (st0 := [(.int (7 : Int32)), (.long i0)]) (by rw [hml]; rfl) (lenOf own_pd6 rfl) rfl (Nat.le_of_eq rfl) (hb hby at_62) (by decide) (by decide) (by decide) (by decide) ?_
  intro v8 T8 L8 X8 hQ8
  obtain ⟨y7, rfl, hy7, Nq8, hh8⟩ := hQ8
  have N8 := Fr.app N7 Nq8
  show own_Ends p e below s _ _ _ (T8.setTop (mkF m 65 #[.val (.long i0), .second, .val (.int i1), .val (.int i2), .val (.int i3), .val (.int nq), .val (.int y0), .val (.int y1), .val (.int y2), .val (.int y3), .val (.int y4), .val (.int y5), .val (.int y6), .unset, .unset, .unset, .unset, .unset] [(.int y7)]))
  refine own_pre (S' := (T8.setTop (mkF m 67 #[.val (.long i0), .second, .val (.int i1), .val (.int i2), .val (.int i3), .val (.int nq), .val (.int y0), .val (.int y1), .val (.int y2), .val (.int y3), .val (.int y4), .val (.int y5), .val (.int y6), .val (.int y7), .unset, .unset, .unset, .unset] []))) (fun tt_ kk_ => XS.istore X8.here hx rfl (hb hby at_65) rfl (l' := #[.val (.long i0), .second, .val (.int i1), .val (.int i2), .val (.int i3), .val (.int nq), .val (.int y0), .val (.int y1), .val (.int y2), .val (.int y3), .val (.int y4), .val (.int y5), .val (.int y6), .val (.int y7), .unset, .unset, .unset, .unset]) rfl kk_) ?_
  refine own_pre (S' := (T8.setTop (mkF m 68 #[.val (.long i0), .second, .val (.int i1), .val (.int i2), .val (.int i3), .val (.int nq), .val (.int y0), .val (.int y1), .val (.int y2), .val (.int y3), .val (.int y4), .val (.int y5), .val (.int y6), .val (.int y7), .unset, .unset, .unset, .unset] [(.long i0)]))) (fun tt_ kk_ => XS.lloadN X8.here hx rfl (hb hby at_67) rfl kk_) ?_
  refine own_pre (S' := (T8.setTop (mkF m 70 #[.val (.long i0), .second, .val (.int i1), .val (.int i2), .val (.int i3), .val (.int nq), .val (.int y0), .val (.int y1), .val (.int y2), .val (.int y3), .val (.int y4), .val (.int y5), .val (.int y6), .val (.int y7), .unset, .unset, .unset, .unset] [(.int (8 : Int32)), (.long i0)]))) (fun tt_ kk_ => XS.bipush X8.here hx rfl (hb hby at_68) kk_) ?_
  refine own_callS (y := (⟨"com/example/kunci/kunci/NumberSetContainsPinLaw", "pick", "(JI)I"⟩ : MethodName)) X8 hx hZ hown (hw _ (List.mem_of_getElem? (i := 1) rfl)) (hw _ (List.mem_of_getElem? (i := 2) rfl)) (hw _ (List.mem_of_getElem? (i := 3) rfl)) (hw _ (List.mem_of_getElem? (i := 4) rfl)) (by decide) hh8 (hM := own_pick l Z a0 hw [] i0 (8 : Int32) h0 n0 Z0) (W := 0) (pc := 70) (Ls := #[.val (.long i0), .second, .val (.int i1), .val (.int i2), .val (.int i3), .val (.int nq), .val (.int y0), .val (.int y1), .val (.int y2), .val (.int y3), .val (.int y4), .val (.int y5), .val (.int y6), .val (.int y7), .unset, .unset, .unset, .unset]) (argsL := [(.long i0), (.int (8 : Int32))]) (rest := []) (st0 := [(.int (8 : Int32)), (.long i0)]) (by rw [hml]; rfl) (lenOf own_pd6 rfl) rfl (Nat.le_of_eq rfl) (hb hby at_70) (by decide) (by decide) (by decide) (by decide) ?_
  intro v9 T9 L9 X9 hQ9
  obtain ⟨y8, rfl, hy8, Nq9, hh9⟩ := hQ9
  have N9 := Fr.app N8 Nq9
  show own_Ends p e below s _ _ _ (T9.setTop (mkF m 73 #[.val (.long i0), .second, .val (.int i1), .val (.int i2), .val (.int i3), .val (.int nq), .val (.int y0), .val (.int y1), .val (.int y2), .val (.int y3), .val (.int y4), .val (.int y5), .val (.int y6), .val (.int y7), .unset, .unset, .unset, .unset] [(.int y8)]))
  refine own_pre (S' := (T9.setTop (mkF m 75 #[.val (.long i0), .second, .val (.int i1), .val (.int i2), .val (.int i3), .val (.int nq), .val (.int y0), .val (.int y1), .val (.int y2), .val (.int y3), .val (.int y4), .val (.int y5), .val (.int y6), .val (.int y7), .val (.int y8), .unset, .unset, .unset] []))) (fun tt_ kk_ => XS.istore X9.here hx rfl (hb hby at_73) rfl (l' := #[.val (.long i0), .second, .val (.int i1), .val (.int i2), .val (.int i3), .val (.int nq), .val (.int y0), .val (.int y1), .val (.int y2), .val (.int y3), .val (.int y4), .val (.int y5), .val (.int y6), .val (.int y7), .val (.int y8), .unset, .unset, .unset]) rfl kk_) ?_
  refine own_pre (S' := (T9.setTop (mkF m 77 #[.val (.long i0), .second, .val (.int i1), .val (.int i2), .val (.int i3), .val (.int nq), .val (.int y0), .val (.int y1), .val (.int y2), .val (.int y3), .val (.int y4), .val (.int y5), .val (.int y6), .val (.int y7), .val (.int y8), .unset, .unset, .unset] [(.int i3)]))) (fun tt_ kk_ => XS.iload X9.here hx rfl (hb hby at_75) rfl kk_) ?_
  refine own_pre (S' := (T9.setTop (mkF m 78 #[.val (.long i0), .second, .val (.int i1), .val (.int i2), .val (.int i3), .val (.int nq), .val (.int y0), .val (.int y1), .val (.int y2), .val (.int y3), .val (.int y4), .val (.int y5), .val (.int y6), .val (.int y7), .val (.int y8), .unset, .unset, .unset] [(.int (1 : Int32)), (.int i3)]))) (fun tt_ kk_ => XS.iconst X9.here hx rfl (hb hby at_77) kk_) ?_
  refine own_pre (S' := (T9.setTop (mkF m 79 #[.val (.long i0), .second, .val (.int i1), .val (.int i2), .val (.int i3), .val (.int nq), .val (.int y0), .val (.int y1), .val (.int y2), .val (.int y3), .val (.int y4), .val (.int y5), .val (.int y6), .val (.int y7), .val (.int y8), .unset, .unset, .unset] [(.int (i3 &&& (1 : Int32)))]))) (fun tt_ kk_ => XS.iand X9.here hx rfl (hb hby at_78) rfl kk_) ?_
  have J93 : ∀ (qq : Int32) (hqq : 0 ≤ qq.toInt), own_Ends p e below s (fun v h L => v = some (.int 1) ∧ Fr n0 L) room_1.cells room_1.slots (T9.setTop (mkF m 93 #[.val (.long i0), .second, .val (.int i1), .val (.int i2), .val (.int i3), .val (.int nq), .val (.int y0), .val (.int y1), .val (.int y2), .val (.int y3), .val (.int y4), .val (.int y5), .val (.int y6), .val (.int y7), .val (.int y8), .unset, .unset, .unset] [(.int qq)])) := by
    intro qq hqq
    refine own_pre (S' := (T9.setTop (mkF m 95 #[.val (.long i0), .second, .val (.int i1), .val (.int i2), .val (.int i3), .val (.int nq), .val (.int y0), .val (.int y1), .val (.int y2), .val (.int y3), .val (.int y4), .val (.int y5), .val (.int y6), .val (.int y7), .val (.int y8), .val (.int qq), .unset, .unset] []))) (fun tt_ kk_ => XS.istore X9.here hx rfl (hb hby at_93) rfl (l' := #[.val (.long i0), .second, .val (.int i1), .val (.int i2), .val (.int i3), .val (.int nq), .val (.int y0), .val (.int y1), .val (.int y2), .val (.int y3), .val (.int y4), .val (.int y5), .val (.int y6), .val (.int y7), .val (.int y8), .val (.int qq), .unset, .unset]) rfl kk_) ?_
    obtain ⟨T10, h10, X10, e10, E10, A10, D10, -, st10⟩ := newO X9 hx hZ hown (hw _ (List.mem_of_getElem? (i := 6) rfl)) (hw _ (List.mem_of_getElem? (i := 7) rfl)) (hw _ (List.mem_of_getElem? (i := 8) rfl)) hh9 (g := (mkF m 95 #[.val (.long i0), .second, .val (.int i1), .val (.int i2), .val (.int i3), .val (.int nq), .val (.int y0), .val (.int y1), .val (.int y2), .val (.int y3), .val (.int y4), .val (.int y5), .val (.int y6), .val (.int y7), .val (.int y8), .val (.int qq), .unset, .unset] [])) rfl (hb hby at_95) (by decide) (by decide)
    obtain ⟨b10, g10⟩ : ∃ z, z = h0.size := ⟨_, rfl⟩
    rw [← g10] at A10 D10 st10
    have sz_b10 : h0.size ≤ b10 := Nat.le_trans (Nat.le_refl h0.size) (Nat.le_of_eq g10.symm)
    have ge_b10 : n0 ≤ b10 := Nat.le_trans Z0 (Nat.le_of_eq g10.symm)
    have F10_numbers : Fld Z h10 b10 "com/example/kunci/kunci/NumberSet" "numbers" "[I" .null := D10 (Or.inl (hw _ (List.mem_of_getElem? (i := 17) rfl))) (ty := (.array .int)) (by decide)
    have F10_bits : Fld Z h10 b10 "com/example/kunci/kunci/NumberSet" "bits" "Ljava/util/BitSet;" .null := D10 (Or.inl (hw _ (List.mem_of_getElem? (i := 29) rfl))) (ty := (.object "java/util/BitSet")) (by decide)
    have F10_size : Fld Z h10 b10 "com/example/kunci/kunci/NumberSet" "size" "I" (.int (0 : Int32)) := D10 (Or.inl (hw _ (List.mem_of_getElem? (i := 35) rfl))) (ty := .int) (by decide)
    refine own_pre (S' := (T10.setTop (mkF m 98 #[.val (.long i0), .second, .val (.int i1), .val (.int i2), .val (.int i3), .val (.int nq), .val (.int y0), .val (.int y1), .val (.int y2), .val (.int y3), .val (.int y4), .val (.int y5), .val (.int y6), .val (.int y7), .val (.int y8), .val (.int qq), .unset, .unset] [(.ref b10)]))) st10 ?_
    refine own_pre (S' := (T10.setTop (mkF m 99 #[.val (.long i0), .second, .val (.int i1), .val (.int i2), .val (.int i3), .val (.int nq), .val (.int y0), .val (.int y1), .val (.int y2), .val (.int y3), .val (.int y4), .val (.int y5), .val (.int y6), .val (.int y7), .val (.int y8), .val (.int qq), .unset, .unset] [(.ref b10), (.ref b10)]))) (fun tt_ kk_ => XS.dup X10.here hx rfl (hb hby at_98) rfl rfl kk_) ?_
    refine own_callI (y := (⟨"com/example/kunci/kunci/NumberSet", "<init>", "()V"⟩ : MethodName)) (b := b10) X10 hx hZ hown rfl (hw _ (List.mem_of_getElem? (i := 9) rfl)) (hw _ (List.mem_of_getElem? (i := 10) rfl)) (hw _ (List.mem_of_getElem? (i := 11) rfl)) (hw _ (List.mem_of_getElem? (i := 8) rfl)) (by decide) e10 (hM := own_nsi l Z a0 hw [] b10 h10 n0 (Nat.le_trans Z0 E10.1) A10 ge_b10 F10_size F10_bits F10_numbers (S_ad.ext E10)) (W := 1) (pc := 99) (Ls := #[.val (.long i0), .second, .val (.int i1), .val (.int i2), .val (.int i3), .val (.int nq), .val (.int y0), .val (.int y1), .val (.int y2), .val (.int y3), .val (.int y4), .val (.int y5), .val (.int y6), .val (.int y7), .val (.int y8), .val (.int qq), .unset, .unset]) (argsL := []) (rest := [(.ref b10)]) (st0 := [(.ref b10), (.ref b10)]) (by rw [hml]; rfl) (lenOf own_pd5 rfl) rfl (Nat.le_of_eq rfl) (hb hby at_99) (by decide) (by decide) (by decide) (by decide) ?_
    intro v11 T11 L11 X11 hQ11
    obtain ⟨rfl, Nq11, gz11, ad11, hF11⟩ := hQ11
    have N11 := Fr.app N9 Nq11
    show own_Ends p e below s _ _ _ (T11.setTop (mkF m 102 #[.val (.long i0), .second, .val (.int i1), .val (.int i2), .val (.int i3), .val (.int nq), .val (.int y0), .val (.int y1), .val (.int y2), .val (.int y3), .val (.int y4), .val (.int y5), .val (.int y6), .val (.int y7), .val (.int y8), .val (.int qq), .unset, .unset] [(.ref b10)]))
    have zs11 := Nat.le_trans (Nat.le_trans Z0 E10.1) gz11
    have zz11 := Nat.le_trans (Nat.le_trans (Nat.le_refl h0.size) E10.1) gz11
    refine own_pre (S' := (T11.setTop (mkF m 104 #[.val (.long i0), .second, .val (.int i1), .val (.int i2), .val (.int i3), .val (.int nq), .val (.int y0), .val (.int y1), .val (.int y2), .val (.int y3), .val (.int y4), .val (.int y5), .val (.int y6), .val (.int y7), .val (.int y8), .val (.int qq), .val (.ref b10), .unset] []))) (fun tt_ kk_ => XS.astore X11.here hx rfl (hb hby at_102) rfl rfl (l' := #[.val (.long i0), .second, .val (.int i1), .val (.int i2), .val (.int i3), .val (.int nq), .val (.int y0), .val (.int y1), .val (.int y2), .val (.int y3), .val (.int y4), .val (.int y5), .val (.int y6), .val (.int y7), .val (.int y8), .val (.int qq), .val (.ref b10), .unset]) rfl kk_) ?_
    have JE : ∀ (ex : Int32) (T12 : State) (lc12 : List Loc) (hp12 : Heap) (X12 : Stand p l e room_1 s m #[(.long i0), (.int i1), (.int i2), (.int i3)] below meth c T12 lc12 12 83) (e12 : T12.heap = hp12) (N12 : Fr n0 lc12) (zs12 : n0 ≤ hp12.size) (zz12 : h0.size ≤ hp12.size) (f12_0 : Sta Z hp12 "java/util/BitSet" "$assertionsDisabled" "Z" (.int (1 : Int32))) (hD : (∃ (len cap : Nat) (g : Nat → Int32), own_few n0 Z hp12 b10 len cap g ∧ ∀ v, own_mem len g v ↔ own_R9 nq y0 y1 y2 y3 y4 y5 y6 y7 y8 v) ∨ ∃ u : Int64, own_bs Z hp12 b10 u ∧ ∀ v, own_in6 v → (¬ (u &&& ((1 : Int64) <<< (v &&& 0x3f).toInt64)) = 0 ↔ own_R9 nq y0 y1 y2 y3 y4 y5 y6 y7 y8 v)) (hex : ex = 1 ∧ own_R9 nq y0 y1 y2 y3 y4 y5 y6 y7 y8 qq ∨ ex = 0 ∧ ¬ own_R9 nq y0 y1 y2 y3 y4 y5 y6 y7 y8 qq), own_Ends p e below s (fun v h L => v = some (.int 1) ∧ Fr n0 L) room_1.cells room_1.slots (T12.setTop (mkF m 357 #[.val (.long i0), .second, .val (.int i1), .val (.int i2), .val (.int i3), .val (.int nq), .val (.int y0), .val (.int y1), .val (.int y2), .val (.int y3), .val (.int y4), .val (.int y5), .val (.int y6), .val (.int y7), .val (.int y8), .val (.int qq), .val (.ref b10), .unset] [(.int ex)])) := by
      intro ex T12 lc12 hp12 X12 e12 N12 zs12 zz12 f12_0 hD hex
      rcases hD with ⟨len, cap, g, hF, hm⟩ | ⟨u, hF, hbb⟩
      ·
        refine own_pre (S' := (T12.setTop (mkF m 359 #[.val (.long i0), .second, .val (.int i1), .val (.int i2), .val (.int i3), .val (.int nq), .val (.int y0), .val (.int y1), .val (.int y2), .val (.int y3), .val (.int y4), .val (.int y5), .val (.int y6), .val (.int y7), .val (.int y8), .val (.int qq), .val (.ref b10), .val (.int ex)] []))) (fun tt_ kk_ => XS.istore X12.here hx rfl (hb hby at_357) rfl (l' := #[.val (.long i0), .second, .val (.int i1), .val (.int i2), .val (.int i3), .val (.int nq), .val (.int y0), .val (.int y1), .val (.int y2), .val (.int y3), .val (.int y4), .val (.int y5), .val (.int y6), .val (.int y7), .val (.int y8), .val (.int qq), .val (.ref b10), .val (.int ex)]) rfl kk_) ?_
        refine own_pre (S' := (T12.setTop (mkF m 361 #[.val (.long i0), .second, .val (.int i1), .val (.int i2), .val (.int i3), .val (.int nq), .val (.int y0), .val (.int y1), .val (.int y2), .val (.int y3), .val (.int y4), .val (.int y5), .val (.int y6), .val (.int y7), .val (.int y8), .val (.int qq), .val (.ref b10), .val (.int ex)] [(.ref b10)]))) (fun tt_ kk_ => XS.aload X12.here hx rfl (hb hby at_359) rfl rfl kk_) ?_
        refine own_pre (S' := (T12.setTop (mkF m 363 #[.val (.long i0), .second, .val (.int i1), .val (.int i2), .val (.int i3), .val (.int nq), .val (.int y0), .val (.int y1), .val (.int y2), .val (.int y3), .val (.int y4), .val (.int y5), .val (.int y6), .val (.int y7), .val (.int y8), .val (.int qq), .val (.ref b10), .val (.int ex)] [(.int qq), (.ref b10)]))) (fun tt_ kk_ => XS.iload X12.here hx rfl (hb hby at_361) rfl kk_) ?_
        refine own_callV (C := "com/example/kunci/kunci/NumberSet") (y := (⟨"com/example/kunci/kunci/NumberSet", "contains", "(I)Z"⟩ : MethodName)) (b := b10) X12 hx hZ hown (hw _ (List.mem_of_getElem? (i := 54) rfl)) (hw _ (List.mem_of_getElem? (i := 24) rfl)) (hw _ (List.mem_of_getElem? (i := 26) rfl)) (hw _ (List.mem_of_getElem? (i := 25) rfl)) (hw _ (List.mem_of_getElem? (i := 27) rfl)) (hw _ (List.mem_of_getElem? (i := 8) rfl)) (by decide) e12 hF.exa (hM := own_conf l Z a0 hw [] b10 len cap qq g hp12 n0 zs12 hF) (W := 0) (pc := 363) (Ls := #[.val (.long i0), .second, .val (.int i1), .val (.int i2), .val (.int i3), .val (.int nq), .val (.int y0), .val (.int y1), .val (.int y2), .val (.int y3), .val (.int y4), .val (.int y5), .val (.int y6), .val (.int y7), .val (.int y8), .val (.int qq), .val (.ref b10), .val (.int ex)]) (argsL := [(.int qq)]) (rest := []) (st0 := [(.int qq), (.ref b10)]) (by rw [hml]; rfl) (lenOf own_pd0 rfl) rfl (Nat.le_of_eq rfl) (hb hby at_363) (by decide) (by decide) (by decide) (by decide) ?_
        intro v13 T13 L13 X13 hQ13
        obtain ⟨r13, rfl, hr13, Nq13, hh13⟩ := hQ13
        have N13 := Fr.app N12 Nq13
        show own_Ends p e below s _ _ _ (T13.setTop (mkF m 366 #[.val (.long i0), .second, .val (.int i1), .val (.int i2), .val (.int i3), .val (.int nq), .val (.int y0), .val (.int y1), .val (.int y2), .val (.int y3), .val (.int y4), .val (.int y5), .val (.int y6), .val (.int y7), .val (.int y8), .val (.int qq), .val (.ref b10), .val (.int ex)] [(.int r13)]))
        refine own_pre (S' := (T13.setTop (mkF m 368 #[.val (.long i0), .second, .val (.int i1), .val (.int i2), .val (.int i3), .val (.int nq), .val (.int y0), .val (.int y1), .val (.int y2), .val (.int y3), .val (.int y4), .val (.int y5), .val (.int y6), .val (.int y7), .val (.int y8), .val (.int qq), .val (.ref b10), .val (.int ex)] [(.int ex), (.int r13)]))) (fun tt_ kk_ => XS.iload X13.here hx rfl (hb hby at_366) rfl kk_) ?_
        refine own_pre (S' := (T13.setTop (mkF m 371 #[.val (.long i0), .second, .val (.int i1), .val (.int i2), .val (.int i3), .val (.int nq), .val (.int y0), .val (.int y1), .val (.int y2), .val (.int y3), .val (.int y4), .val (.int y5), .val (.int y6), .val (.int y7), .val (.int y8), .val (.int qq), .val (.ref b10), .val (.int ex)] []))) (fun tt_ kk_ => XS.icmpNo X13.here hx rfl (hb hby at_368) rfl (teq (own_eqb (own_iff1 (hm qq) hr13) hex)).2 kk_) ?_
        refine own_pre (S' := (T13.setTop (mkF m 372 #[.val (.long i0), .second, .val (.int i1), .val (.int i2), .val (.int i3), .val (.int nq), .val (.int y0), .val (.int y1), .val (.int y2), .val (.int y3), .val (.int y4), .val (.int y5), .val (.int y6), .val (.int y7), .val (.int y8), .val (.int qq), .val (.ref b10), .val (.int ex)] [(.int (1 : Int32))]))) (fun tt_ kk_ => XS.iconst X13.here hx rfl (hb hby at_371) kk_) ?_
        refine own_pre (S' := (T13.setTop (mkF m 376 #[.val (.long i0), .second, .val (.int i1), .val (.int i2), .val (.int i3), .val (.int nq), .val (.int y0), .val (.int y1), .val (.int y2), .val (.int y3), .val (.int y4), .val (.int y5), .val (.int y6), .val (.int y7), .val (.int y8), .val (.int qq), .val (.ref b10), .val (.int ex)] [(.int (1 : Int32))]))) (fun tt_ kk_ => XS.goto X13.here hx rfl (pc0 := 372) (pc' := 376) rfl (hb hby at_372) (by decide) (by decide) kk_) ?_
        refine own_ret (t := .boolean) X13 hx hlk hrt rfl (Or.inl ⟨rfl, by simp, _, rfl⟩) (hb hby at_376) (by decide) (by decide) ?_
        exact ⟨rfl, N13⟩
      ·
        refine own_pre (S' := (T12.setTop (mkF m 359 #[.val (.long i0), .second, .val (.int i1), .val (.int i2), .val (.int i3), .val (.int nq), .val (.int y0), .val (.int y1), .val (.int y2), .val (.int y3), .val (.int y4), .val (.int y5), .val (.int y6), .val (.int y7), .val (.int y8), .val (.int qq), .val (.ref b10), .val (.int ex)] []))) (fun tt_ kk_ => XS.istore X12.here hx rfl (hb hby at_357) rfl (l' := #[.val (.long i0), .second, .val (.int i1), .val (.int i2), .val (.int i3), .val (.int nq), .val (.int y0), .val (.int y1), .val (.int y2), .val (.int y3), .val (.int y4), .val (.int y5), .val (.int y6), .val (.int y7), .val (.int y8), .val (.int qq), .val (.ref b10), .val (.int ex)]) rfl kk_) ?_
        refine own_pre (S' := (T12.setTop (mkF m 361 #[.val (.long i0), .second, .val (.int i1), .val (.int i2), .val (.int i3), .val (.int nq), .val (.int y0), .val (.int y1), .val (.int y2), .val (.int y3), .val (.int y4), .val (.int y5), .val (.int y6), .val (.int y7), .val (.int y8), .val (.int qq), .val (.ref b10), .val (.int ex)] [(.ref b10)]))) (fun tt_ kk_ => XS.aload X12.here hx rfl (hb hby at_359) rfl rfl kk_) ?_
        refine own_pre (S' := (T12.setTop (mkF m 363 #[.val (.long i0), .second, .val (.int i1), .val (.int i2), .val (.int i3), .val (.int nq), .val (.int y0), .val (.int y1), .val (.int y2), .val (.int y3), .val (.int y4), .val (.int y5), .val (.int y6), .val (.int y7), .val (.int y8), .val (.int qq), .val (.ref b10), .val (.int ex)] [(.int qq), (.ref b10)]))) (fun tt_ kk_ => XS.iload X12.here hx rfl (hb hby at_361) rfl kk_) ?_
        refine own_callV (C := "com/example/kunci/kunci/NumberSet") (y := (⟨"com/example/kunci/kunci/NumberSet", "contains", "(I)Z"⟩ : MethodName)) (b := b10) X12 hx hZ hown (hw _ (List.mem_of_getElem? (i := 54) rfl)) (hw _ (List.mem_of_getElem? (i := 24) rfl)) (hw _ (List.mem_of_getElem? (i := 26) rfl)) (hw _ (List.mem_of_getElem? (i := 25) rfl)) (hw _ (List.mem_of_getElem? (i := 27) rfl)) (hw _ (List.mem_of_getElem? (i := 8) rfl)) (by decide) e12 hF.exa (hM := own_conb l Z a0 hw [] b10 qq u hp12 n0 zs12 hqq hF f12_0) (W := 0) (pc := 363) (Ls := #[.val (.long i0), .second, .val (.int i1), .val (.int i2), .val (.int i3), .val (.int nq), .val (.int y0), .val (.int y1), .val (.int y2), .val (.int y3), .val (.int y4), .val (.int y5), .val (.int y6), .val (.int y7), .val (.int y8), .val (.int qq), .val (.ref b10), .val (.int ex)]) (argsL := [(.int qq)]) (rest := []) (st0 := [(.int qq), (.ref b10)]) (by rw [hml]; rfl) (lenOf own_pd0 rfl) rfl (Nat.le_of_eq rfl) (hb hby at_363) (by decide) (by decide) (by decide) (by decide) ?_
        intro v14 T14 L14 X14 hQ14
        obtain ⟨r14, rfl, hr14, Nq14, hh14⟩ := hQ14
        have N14 := Fr.app N12 Nq14
        show own_Ends p e below s _ _ _ (T14.setTop (mkF m 366 #[.val (.long i0), .second, .val (.int i1), .val (.int i2), .val (.int i3), .val (.int nq), .val (.int y0), .val (.int y1), .val (.int y2), .val (.int y3), .val (.int y4), .val (.int y5), .val (.int y6), .val (.int y7), .val (.int y8), .val (.int qq), .val (.ref b10), .val (.int ex)] [(.int r14)]))
        refine own_pre (S' := (T14.setTop (mkF m 368 #[.val (.long i0), .second, .val (.int i1), .val (.int i2), .val (.int i3), .val (.int nq), .val (.int y0), .val (.int y1), .val (.int y2), .val (.int y3), .val (.int y4), .val (.int y5), .val (.int y6), .val (.int y7), .val (.int y8), .val (.int qq), .val (.ref b10), .val (.int ex)] [(.int ex), (.int r14)]))) (fun tt_ kk_ => XS.iload X14.here hx rfl (hb hby at_366) rfl kk_) ?_
        refine own_pre (S' := (T14.setTop (mkF m 371 #[.val (.long i0), .second, .val (.int i1), .val (.int i2), .val (.int i3), .val (.int nq), .val (.int y0), .val (.int y1), .val (.int y2), .val (.int y3), .val (.int y4), .val (.int y5), .val (.int y6), .val (.int y7), .val (.int y8), .val (.int qq), .val (.ref b10), .val (.int ex)] []))) (fun tt_ kk_ => XS.icmpNo X14.here hx rfl (hb hby at_368) rfl (teq (own_eqb (own_iff1 (own_bR (A := fun v => ¬ (u &&& ((1 : Int64) <<< (v &&& 0x3f).toInt64)) = 0) (R := fun v => own_R9 nq y0 y1 y2 y3 y4 y5 y6 y7 y8 v) hbb (fun v h => own_Rin hy0 hy1 hy2 hy3 hy4 hy5 hy6 hy7 hy8 h) hqq) hr14) hex)).2 kk_) ?_
        refine own_pre (S' := (T14.setTop (mkF m 372 #[.val (.long i0), .second, .val (.int i1), .val (.int i2), .val (.int i3), .val (.int nq), .val (.int y0), .val (.int y1), .val (.int y2), .val (.int y3), .val (.int y4), .val (.int y5), .val (.int y6), .val (.int y7), .val (.int y8), .val (.int qq), .val (.ref b10), .val (.int ex)] [(.int (1 : Int32))]))) (fun tt_ kk_ => XS.iconst X14.here hx rfl (hb hby at_371) kk_) ?_
        refine own_pre (S' := (T14.setTop (mkF m 376 #[.val (.long i0), .second, .val (.int i1), .val (.int i2), .val (.int i3), .val (.int nq), .val (.int y0), .val (.int y1), .val (.int y2), .val (.int y3), .val (.int y4), .val (.int y5), .val (.int y6), .val (.int y7), .val (.int y8), .val (.int qq), .val (.ref b10), .val (.int ex)] [(.int (1 : Int32))]))) (fun tt_ kk_ => XS.goto X14.here hx rfl (pc0 := 372) (pc' := 376) rfl (hb hby at_372) (by decide) (by decide) kk_) ?_
        refine own_ret (t := .boolean) X14 hx hlk hrt rfl (Or.inl ⟨rfl, by simp, _, rfl⟩) (hb hby at_376) (by decide) (by decide) ?_
        exact ⟨rfl, N14⟩
    have J9 : ∀ (T15 : State) (lc15 : List Loc) (hp15 : Heap) (X15 : Stand p l e room_1 s m #[(.long i0), (.int i1), (.int i2), (.int i3)] below meth c T15 lc15 12 83) (e15 : T15.heap = hp15) (N15 : Fr n0 lc15) (zs15 : n0 ≤ hp15.size) (zz15 : h0.size ≤ hp15.size) (f15_0 : Sta Z hp15 "java/util/BitSet" "$assertionsDisabled" "Z" (.int (1 : Int32))) (hD : (∃ (len cap : Nat) (g : Nat → Int32), own_few n0 Z hp15 b10 len cap g ∧ ∀ v, own_mem len g v ↔ own_R9 nq y0 y1 y2 y3 y4 y5 y6 y7 y8 v) ∨ ∃ u : Int64, own_bs Z hp15 b10 u ∧ ∀ v, own_in6 v → (¬ (u &&& ((1 : Int64) <<< (v &&& 0x3f).toInt64)) = 0 ↔ own_R9 nq y0 y1 y2 y3 y4 y5 y6 y7 y8 v)), own_Ends p e below s (fun v h L => v = some (.int 1) ∧ Fr n0 L) room_1.cells room_1.slots (T15.setTop (mkF m 232 #[.val (.long i0), .second, .val (.int i1), .val (.int i2), .val (.int i3), .val (.int nq), .val (.int y0), .val (.int y1), .val (.int y2), .val (.int y3), .val (.int y4), .val (.int y5), .val (.int y6), .val (.int y7), .val (.int y8), .val (.int qq), .val (.ref b10), .unset] [])) := by
      intro T15 lc15 hp15 X15 e15 N15 zs15 zz15 f15_0 hD
      refine own_pre (S' := (T15.setTop (mkF m 234 #[.val (.long i0), .second, .val (.int i1), .val (.int i2), .val (.int i3), .val (.int nq), .val (.int y0), .val (.int y1), .val (.int y2), .val (.int y3), .val (.int y4), .val (.int y5), .val (.int y6), .val (.int y7), .val (.int y8), .val (.int qq), .val (.ref b10), .unset] [(.int nq)]))) (fun tt_ kk_ => XS.iload X15.here hx rfl (hb hby at_232) rfl kk_) ?_
      refine own_pre (S' := (T15.setTop (mkF m 235 #[.val (.long i0), .second, .val (.int i1), .val (.int i2), .val (.int i3), .val (.int nq), .val (.int y0), .val (.int y1), .val (.int y2), .val (.int y3), .val (.int y4), .val (.int y5), .val (.int y6), .val (.int y7), .val (.int y8), .val (.int qq), .val (.ref b10), .unset] [(.int (0 : Int32)), (.int nq)]))) (fun tt_ kk_ => XS.iconst X15.here hx rfl (hb hby at_234) kk_) ?_
      refine own_pre (S' := (T15.setTop (mkF m 237 #[.val (.long i0), .second, .val (.int i1), .val (.int i2), .val (.int i3), .val (.int nq), .val (.int y0), .val (.int y1), .val (.int y2), .val (.int y3), .val (.int y4), .val (.int y5), .val (.int y6), .val (.int y7), .val (.int y8), .val (.int qq), .val (.ref b10), .unset] [(.int y0), (.int (0 : Int32)), (.int nq)]))) (fun tt_ kk_ => XS.iload X15.here hx rfl (hb hby at_235) rfl kk_) ?_
      refine own_pre (S' := (T15.setTop (mkF m 239 #[.val (.long i0), .second, .val (.int i1), .val (.int i2), .val (.int i3), .val (.int nq), .val (.int y0), .val (.int y1), .val (.int y2), .val (.int y3), .val (.int y4), .val (.int y5), .val (.int y6), .val (.int y7), .val (.int y8), .val (.int qq), .val (.ref b10), .unset] [(.int qq), (.int y0), (.int (0 : Int32)), (.int nq)]))) (fun tt_ kk_ => XS.iload X15.here hx rfl (hb hby at_237) rfl kk_) ?_
      refine own_callS (y := (⟨"com/example/kunci/kunci/NumberSetContainsPinLaw", "hit", "(IIII)Z"⟩ : MethodName)) X15 hx hZ hown (hw _ (List.mem_of_getElem? (i := 51) rfl)) (hw _ (List.mem_of_getElem? (i := 52) rfl)) (hw _ (List.mem_of_getElem? (i := 3) rfl)) (hw _ (List.mem_of_getElem? (i := 53) rfl)) (by decide) e15 (hM := own_hit l Z a0 hw [] nq (0 : Int32) y0 qq hp15 n0 zs15) (W := 0) (pc := 239) (Ls := #[.val (.long i0), .second, .val (.int i1), .val (.int i2), .val (.int i3), .val (.int nq), .val (.int y0), .val (.int y1), .val (.int y2), .val (.int y3), .val (.int y4), .val (.int y5), .val (.int y6), .val (.int y7), .val (.int y8), .val (.int qq), .val (.ref b10), .unset]) (argsL := [(.int nq), (.int (0 : Int32)), (.int y0), (.int qq)]) (rest := []) (st0 := [(.int qq), (.int y0), (.int (0 : Int32)), (.int nq)]) (by rw [hml]; rfl) (lenOf own_pd7 rfl) rfl (Nat.le_of_eq rfl) (hb hby at_239) (by decide) (by decide) (by decide) (by decide) ?_
      intro v16 T16 L16 X16 hQ16
      obtain ⟨r16, rfl, hr16, Nq16, hh16⟩ := hQ16
      have N16 := Fr.app N15 Nq16
      show own_Ends p e below s _ _ _ (T16.setTop (mkF m 242 #[.val (.long i0), .second, .val (.int i1), .val (.int i2), .val (.int i3), .val (.int nq), .val (.int y0), .val (.int y1), .val (.int y2), .val (.int y3), .val (.int y4), .val (.int y5), .val (.int y6), .val (.int y7), .val (.int y8), .val (.int qq), .val (.ref b10), .unset] [(.int r16)]))
      rcases hr16 with ⟨rfl, hp0⟩ | ⟨rfl, hp0⟩
      ·
        show own_Ends p e below s _ _ _ (T16.setTop (mkF m 242 #[.val (.long i0), .second, .val (.int i1), .val (.int i2), .val (.int i3), .val (.int nq), .val (.int y0), .val (.int y1), .val (.int y2), .val (.int y3), .val (.int y4), .val (.int y5), .val (.int y6), .val (.int y7), .val (.int y8), .val (.int qq), .val (.ref b10), .unset] [(.int (1 : Int32))]))
        refine own_pre (S' := (T16.setTop (mkF m 352 #[.val (.long i0), .second, .val (.int i1), .val (.int i2), .val (.int i3), .val (.int nq), .val (.int y0), .val (.int y1), .val (.int y2), .val (.int y3), .val (.int y4), .val (.int y5), .val (.int y6), .val (.int y7), .val (.int y8), .val (.int qq), .val (.ref b10), .unset] []))) (fun tt_ kk_ => XS.ifYes X16.here hx rfl (pc0 := 242) (pc' := 352) rfl (hb hby at_242) rfl ((if0 _ _).trans (feq (by decide : ¬ ((1 : Int32) = (0 : Int32)))).2) (by decide) (by decide) kk_) ?_
        refine own_pre (S' := (T16.setTop (mkF m 353 #[.val (.long i0), .second, .val (.int i1), .val (.int i2), .val (.int i3), .val (.int nq), .val (.int y0), .val (.int y1), .val (.int y2), .val (.int y3), .val (.int y4), .val (.int y5), .val (.int y6), .val (.int y7), .val (.int y8), .val (.int qq), .val (.ref b10), .unset] [(.int (1 : Int32))]))) (fun tt_ kk_ => XS.iconst X16.here hx rfl (hb hby at_352) kk_) ?_
        refine own_pre (S' := (T16.setTop (mkF m 357 #[.val (.long i0), .second, .val (.int i1), .val (.int i2), .val (.int i3), .val (.int nq), .val (.int y0), .val (.int y1), .val (.int y2), .val (.int y3), .val (.int y4), .val (.int y5), .val (.int y6), .val (.int y7), .val (.int y8), .val (.int qq), .val (.ref b10), .unset] [(.int (1 : Int32))]))) (fun tt_ kk_ => XS.goto X16.here hx rfl (pc0 := 353) (pc' := 357) rfl (hb hby at_353) (by decide) (by decide) kk_) ?_
        exact JE (1 : Int32) T16 _ _ X16 hh16 N16 zs15 zz15 f15_0 hD (Or.inl ⟨rfl, Or.inl (Or.inl (Or.inl (Or.inl (Or.inl (Or.inl (Or.inl (Or.inl (Or.inr hp0))))))))⟩)
      ·
        show own_Ends p e below s _ _ _ (T16.setTop (mkF m 242 #[.val (.long i0), .second, .val (.int i1), .val (.int i2), .val (.int i3), .val (.int nq), .val (.int y0), .val (.int y1), .val (.int y2), .val (.int y3), .val (.int y4), .val (.int y5), .val (.int y6), .val (.int y7), .val (.int y8), .val (.int qq), .val (.ref b10), .unset] [(.int (0 : Int32))]))
        refine own_pre (S' := (T16.setTop (mkF m 245 #[.val (.long i0), .second, .val (.int i1), .val (.int i2), .val (.int i3), .val (.int nq), .val (.int y0), .val (.int y1), .val (.int y2), .val (.int y3), .val (.int y4), .val (.int y5), .val (.int y6), .val (.int y7), .val (.int y8), .val (.int qq), .val (.ref b10), .unset] []))) (fun tt_ kk_ => XS.ifNo X16.here hx rfl (hb hby at_242) rfl ((if0 _ _).trans (teq (by decide : ((0 : Int32) = (0 : Int32)))).2) kk_) ?_
        refine own_pre (S' := (T16.setTop (mkF m 247 #[.val (.long i0), .second, .val (.int i1), .val (.int i2), .val (.int i3), .val (.int nq), .val (.int y0), .val (.int y1), .val (.int y2), .val (.int y3), .val (.int y4), .val (.int y5), .val (.int y6), .val (.int y7), .val (.int y8), .val (.int qq), .val (.ref b10), .unset] [(.int nq)]))) (fun tt_ kk_ => XS.iload X16.here hx rfl (hb hby at_245) rfl kk_) ?_
        refine own_pre (S' := (T16.setTop (mkF m 248 #[.val (.long i0), .second, .val (.int i1), .val (.int i2), .val (.int i3), .val (.int nq), .val (.int y0), .val (.int y1), .val (.int y2), .val (.int y3), .val (.int y4), .val (.int y5), .val (.int y6), .val (.int y7), .val (.int y8), .val (.int qq), .val (.ref b10), .unset] [(.int (1 : Int32)), (.int nq)]))) (fun tt_ kk_ => XS.iconst X16.here hx rfl (hb hby at_247) kk_) ?_
        refine own_pre (S' := (T16.setTop (mkF m 250 #[.val (.long i0), .second, .val (.int i1), .val (.int i2), .val (.int i3), .val (.int nq), .val (.int y0), .val (.int y1), .val (.int y2), .val (.int y3), .val (.int y4), .val (.int y5), .val (.int y6), .val (.int y7), .val (.int y8), .val (.int qq), .val (.ref b10), .unset] [(.int y1), (.int (1 : Int32)), (.int nq)]))) (fun tt_ kk_ => XS.iload X16.here hx rfl (hb hby at_248) rfl kk_) ?_
        refine own_pre (S' := (T16.setTop (mkF m 252 #[.val (.long i0), .second, .val (.int i1), .val (.int i2), .val (.int i3), .val (.int nq), .val (.int y0), .val (.int y1), .val (.int y2), .val (.int y3), .val (.int y4), .val (.int y5), .val (.int y6), .val (.int y7), .val (.int y8), .val (.int qq), .val (.ref b10), .unset] [(.int qq), (.int y1), (.int (1 : Int32)), (.int nq)]))) (fun tt_ kk_ => XS.iload X16.here hx rfl (hb hby at_250) rfl kk_) ?_
        refine own_callS (y := (⟨"com/example/kunci/kunci/NumberSetContainsPinLaw", "hit", "(IIII)Z"⟩ : MethodName)) X16 hx hZ hown (hw _ (List.mem_of_getElem? (i := 51) rfl)) (hw _ (List.mem_of_getElem? (i := 52) rfl)) (hw _ (List.mem_of_getElem? (i := 3) rfl)) (hw _ (List.mem_of_getElem? (i := 53) rfl)) (by decide) hh16 (hM := own_hit l Z a0 hw [] nq (1 : Int32) y1 qq hp15 n0 zs15) (W := 0) (pc := 252) (Ls := #[.val (.long i0), .second, .val (.int i1), .val (.int i2), .val (.int i3), .val (.int nq), .val (.int y0), .val (.int y1), .val (.int y2), .val (.int y3), .val (.int y4), .val (.int y5), .val (.int y6), .val (.int y7), .val (.int y8), .val (.int qq), .val (.ref b10), .unset]) (argsL := [(.int nq), (.int (1 : Int32)), (.int y1), (.int qq)]) (rest := []) (st0 := [(.int qq), (.int y1), (.int (1 : Int32)), (.int nq)]) (by rw [hml]; rfl) (lenOf own_pd7 rfl) rfl (Nat.le_of_eq rfl) (hb hby at_252) (by decide) (by decide) (by decide) (by decide) ?_
        intro v17 T17 L17 X17 hQ17
        obtain ⟨r17, rfl, hr17, Nq17, hh17⟩ := hQ17
        have N17 := Fr.app N16 Nq17
        show own_Ends p e below s _ _ _ (T17.setTop (mkF m 255 #[.val (.long i0), .second, .val (.int i1), .val (.int i2), .val (.int i3), .val (.int nq), .val (.int y0), .val (.int y1), .val (.int y2), .val (.int y3), .val (.int y4), .val (.int y5), .val (.int y6), .val (.int y7), .val (.int y8), .val (.int qq), .val (.ref b10), .unset] [(.int r17)]))
        rcases hr17 with ⟨rfl, hp1⟩ | ⟨rfl, hp1⟩
        ·
          show own_Ends p e below s _ _ _ (T17.setTop (mkF m 255 #[.val (.long i0), .second, .val (.int i1), .val (.int i2), .val (.int i3), .val (.int nq), .val (.int y0), .val (.int y1), .val (.int y2), .val (.int y3), .val (.int y4), .val (.int y5), .val (.int y6), .val (.int y7), .val (.int y8), .val (.int qq), .val (.ref b10), .unset] [(.int (1 : Int32))]))
          refine own_pre (S' := (T17.setTop (mkF m 352 #[.val (.long i0), .second, .val (.int i1), .val (.int i2), .val (.int i3), .val (.int nq), .val (.int y0), .val (.int y1), .val (.int y2), .val (.int y3), .val (.int y4), .val (.int y5), .val (.int y6), .val (.int y7), .val (.int y8), .val (.int qq), .val (.ref b10), .unset] []))) (fun tt_ kk_ => XS.ifYes X17.here hx rfl (pc0 := 255) (pc' := 352) rfl (hb hby at_255) rfl ((if0 _ _).trans (feq (by decide : ¬ ((1 : Int32) = (0 : Int32)))).2) (by decide) (by decide) kk_) ?_
          refine own_pre (S' := (T17.setTop (mkF m 353 #[.val (.long i0), .second, .val (.int i1), .val (.int i2), .val (.int i3), .val (.int nq), .val (.int y0), .val (.int y1), .val (.int y2), .val (.int y3), .val (.int y4), .val (.int y5), .val (.int y6), .val (.int y7), .val (.int y8), .val (.int qq), .val (.ref b10), .unset] [(.int (1 : Int32))]))) (fun tt_ kk_ => XS.iconst X17.here hx rfl (hb hby at_352) kk_) ?_
          refine own_pre (S' := (T17.setTop (mkF m 357 #[.val (.long i0), .second, .val (.int i1), .val (.int i2), .val (.int i3), .val (.int nq), .val (.int y0), .val (.int y1), .val (.int y2), .val (.int y3), .val (.int y4), .val (.int y5), .val (.int y6), .val (.int y7), .val (.int y8), .val (.int qq), .val (.ref b10), .unset] [(.int (1 : Int32))]))) (fun tt_ kk_ => XS.goto X17.here hx rfl (pc0 := 353) (pc' := 357) rfl (hb hby at_353) (by decide) (by decide) kk_) ?_
          exact JE (1 : Int32) T17 _ _ X17 hh17 N17 zs15 zz15 f15_0 hD (Or.inl ⟨rfl, Or.inl (Or.inl (Or.inl (Or.inl (Or.inl (Or.inl (Or.inl (Or.inr hp1)))))))⟩)
        ·
          show own_Ends p e below s _ _ _ (T17.setTop (mkF m 255 #[.val (.long i0), .second, .val (.int i1), .val (.int i2), .val (.int i3), .val (.int nq), .val (.int y0), .val (.int y1), .val (.int y2), .val (.int y3), .val (.int y4), .val (.int y5), .val (.int y6), .val (.int y7), .val (.int y8), .val (.int qq), .val (.ref b10), .unset] [(.int (0 : Int32))]))
          refine own_pre (S' := (T17.setTop (mkF m 258 #[.val (.long i0), .second, .val (.int i1), .val (.int i2), .val (.int i3), .val (.int nq), .val (.int y0), .val (.int y1), .val (.int y2), .val (.int y3), .val (.int y4), .val (.int y5), .val (.int y6), .val (.int y7), .val (.int y8), .val (.int qq), .val (.ref b10), .unset] []))) (fun tt_ kk_ => XS.ifNo X17.here hx rfl (hb hby at_255) rfl ((if0 _ _).trans (teq (by decide : ((0 : Int32) = (0 : Int32)))).2) kk_) ?_
          refine own_pre (S' := (T17.setTop (mkF m 260 #[.val (.long i0), .second, .val (.int i1), .val (.int i2), .val (.int i3), .val (.int nq), .val (.int y0), .val (.int y1), .val (.int y2), .val (.int y3), .val (.int y4), .val (.int y5), .val (.int y6), .val (.int y7), .val (.int y8), .val (.int qq), .val (.ref b10), .unset] [(.int nq)]))) (fun tt_ kk_ => XS.iload X17.here hx rfl (hb hby at_258) rfl kk_) ?_
          refine own_pre (S' := (T17.setTop (mkF m 261 #[.val (.long i0), .second, .val (.int i1), .val (.int i2), .val (.int i3), .val (.int nq), .val (.int y0), .val (.int y1), .val (.int y2), .val (.int y3), .val (.int y4), .val (.int y5), .val (.int y6), .val (.int y7), .val (.int y8), .val (.int qq), .val (.ref b10), .unset] [(.int (2 : Int32)), (.int nq)]))) (fun tt_ kk_ => XS.iconst X17.here hx rfl (hb hby at_260) kk_) ?_
          refine own_pre (S' := (T17.setTop (mkF m 263 #[.val (.long i0), .second, .val (.int i1), .val (.int i2), .val (.int i3), .val (.int nq), .val (.int y0), .val (.int y1), .val (.int y2), .val (.int y3), .val (.int y4), .val (.int y5), .val (.int y6), .val (.int y7), .val (.int y8), .val (.int qq), .val (.ref b10), .unset] [(.int y2), (.int (2 : Int32)), (.int nq)]))) (fun tt_ kk_ => XS.iload X17.here hx rfl (hb hby at_261) rfl kk_) ?_
          refine own_pre (S' := (T17.setTop (mkF m 265 #[.val (.long i0), .second, .val (.int i1), .val (.int i2), .val (.int i3), .val (.int nq), .val (.int y0), .val (.int y1), .val (.int y2), .val (.int y3), .val (.int y4), .val (.int y5), .val (.int y6), .val (.int y7), .val (.int y8), .val (.int qq), .val (.ref b10), .unset] [(.int qq), (.int y2), (.int (2 : Int32)), (.int nq)]))) (fun tt_ kk_ => XS.iload X17.here hx rfl (hb hby at_263) rfl kk_) ?_
          refine own_callS (y := (⟨"com/example/kunci/kunci/NumberSetContainsPinLaw", "hit", "(IIII)Z"⟩ : MethodName)) X17 hx hZ hown (hw _ (List.mem_of_getElem? (i := 51) rfl)) (hw _ (List.mem_of_getElem? (i := 52) rfl)) (hw _ (List.mem_of_getElem? (i := 3) rfl)) (hw _ (List.mem_of_getElem? (i := 53) rfl)) (by decide) hh17 (hM := own_hit l Z a0 hw [] nq (2 : Int32) y2 qq hp15 n0 zs15) (W := 0) (pc := 265) (Ls := #[.val (.long i0), .second, .val (.int i1), .val (.int i2), .val (.int i3), .val (.int nq), .val (.int y0), .val (.int y1), .val (.int y2), .val (.int y3), .val (.int y4), .val (.int y5), .val (.int y6), .val (.int y7), .val (.int y8), .val (.int qq), .val (.ref b10), .unset]) (argsL := [(.int nq), (.int (2 : Int32)), (.int y2), (.int qq)]) (rest := []) (st0 := [(.int qq), (.int y2), (.int (2 : Int32)), (.int nq)]) (by rw [hml]; rfl) (lenOf own_pd7 rfl) rfl (Nat.le_of_eq rfl) (hb hby at_265) (by decide) (by decide) (by decide) (by decide) ?_
          intro v18 T18 L18 X18 hQ18
          obtain ⟨r18, rfl, hr18, Nq18, hh18⟩ := hQ18
          have N18 := Fr.app N17 Nq18
          show own_Ends p e below s _ _ _ (T18.setTop (mkF m 268 #[.val (.long i0), .second, .val (.int i1), .val (.int i2), .val (.int i3), .val (.int nq), .val (.int y0), .val (.int y1), .val (.int y2), .val (.int y3), .val (.int y4), .val (.int y5), .val (.int y6), .val (.int y7), .val (.int y8), .val (.int qq), .val (.ref b10), .unset] [(.int r18)]))
          rcases hr18 with ⟨rfl, hp2⟩ | ⟨rfl, hp2⟩
          ·
            show own_Ends p e below s _ _ _ (T18.setTop (mkF m 268 #[.val (.long i0), .second, .val (.int i1), .val (.int i2), .val (.int i3), .val (.int nq), .val (.int y0), .val (.int y1), .val (.int y2), .val (.int y3), .val (.int y4), .val (.int y5), .val (.int y6), .val (.int y7), .val (.int y8), .val (.int qq), .val (.ref b10), .unset] [(.int (1 : Int32))]))
            refine own_pre (S' := (T18.setTop (mkF m 352 #[.val (.long i0), .second, .val (.int i1), .val (.int i2), .val (.int i3), .val (.int nq), .val (.int y0), .val (.int y1), .val (.int y2), .val (.int y3), .val (.int y4), .val (.int y5), .val (.int y6), .val (.int y7), .val (.int y8), .val (.int qq), .val (.ref b10), .unset] []))) (fun tt_ kk_ => XS.ifYes X18.here hx rfl (pc0 := 268) (pc' := 352) rfl (hb hby at_268) rfl ((if0 _ _).trans (feq (by decide : ¬ ((1 : Int32) = (0 : Int32)))).2) (by decide) (by decide) kk_) ?_
            refine own_pre (S' := (T18.setTop (mkF m 353 #[.val (.long i0), .second, .val (.int i1), .val (.int i2), .val (.int i3), .val (.int nq), .val (.int y0), .val (.int y1), .val (.int y2), .val (.int y3), .val (.int y4), .val (.int y5), .val (.int y6), .val (.int y7), .val (.int y8), .val (.int qq), .val (.ref b10), .unset] [(.int (1 : Int32))]))) (fun tt_ kk_ => XS.iconst X18.here hx rfl (hb hby at_352) kk_) ?_
            refine own_pre (S' := (T18.setTop (mkF m 357 #[.val (.long i0), .second, .val (.int i1), .val (.int i2), .val (.int i3), .val (.int nq), .val (.int y0), .val (.int y1), .val (.int y2), .val (.int y3), .val (.int y4), .val (.int y5), .val (.int y6), .val (.int y7), .val (.int y8), .val (.int qq), .val (.ref b10), .unset] [(.int (1 : Int32))]))) (fun tt_ kk_ => XS.goto X18.here hx rfl (pc0 := 353) (pc' := 357) rfl (hb hby at_353) (by decide) (by decide) kk_) ?_
            exact JE (1 : Int32) T18 _ _ X18 hh18 N18 zs15 zz15 f15_0 hD (Or.inl ⟨rfl, Or.inl (Or.inl (Or.inl (Or.inl (Or.inl (Or.inl (Or.inr hp2))))))⟩)
          ·
            show own_Ends p e below s _ _ _ (T18.setTop (mkF m 268 #[.val (.long i0), .second, .val (.int i1), .val (.int i2), .val (.int i3), .val (.int nq), .val (.int y0), .val (.int y1), .val (.int y2), .val (.int y3), .val (.int y4), .val (.int y5), .val (.int y6), .val (.int y7), .val (.int y8), .val (.int qq), .val (.ref b10), .unset] [(.int (0 : Int32))]))
            refine own_pre (S' := (T18.setTop (mkF m 271 #[.val (.long i0), .second, .val (.int i1), .val (.int i2), .val (.int i3), .val (.int nq), .val (.int y0), .val (.int y1), .val (.int y2), .val (.int y3), .val (.int y4), .val (.int y5), .val (.int y6), .val (.int y7), .val (.int y8), .val (.int qq), .val (.ref b10), .unset] []))) (fun tt_ kk_ => XS.ifNo X18.here hx rfl (hb hby at_268) rfl ((if0 _ _).trans (teq (by decide : ((0 : Int32) = (0 : Int32)))).2) kk_) ?_
            refine own_pre (S' := (T18.setTop (mkF m 273 #[.val (.long i0), .second, .val (.int i1), .val (.int i2), .val (.int i3), .val (.int nq), .val (.int y0), .val (.int y1), .val (.int y2), .val (.int y3), .val (.int y4), .val (.int y5), .val (.int y6), .val (.int y7), .val (.int y8), .val (.int qq), .val (.ref b10), .unset] [(.int nq)]))) (fun tt_ kk_ => XS.iload X18.here hx rfl (hb hby at_271) rfl kk_) ?_
            refine own_pre (S' := (T18.setTop (mkF m 274 #[.val (.long i0), .second, .val (.int i1), .val (.int i2), .val (.int i3), .val (.int nq), .val (.int y0), .val (.int y1), .val (.int y2), .val (.int y3), .val (.int y4), .val (.int y5), .val (.int y6), .val (.int y7), .val (.int y8), .val (.int qq), .val (.ref b10), .unset] [(.int (3 : Int32)), (.int nq)]))) (fun tt_ kk_ => XS.iconst X18.here hx rfl (hb hby at_273) kk_) ?_
            refine own_pre (S' := (T18.setTop (mkF m 276 #[.val (.long i0), .second, .val (.int i1), .val (.int i2), .val (.int i3), .val (.int nq), .val (.int y0), .val (.int y1), .val (.int y2), .val (.int y3), .val (.int y4), .val (.int y5), .val (.int y6), .val (.int y7), .val (.int y8), .val (.int qq), .val (.ref b10), .unset] [(.int y3), (.int (3 : Int32)), (.int nq)]))) (fun tt_ kk_ => XS.iload X18.here hx rfl (hb hby at_274) rfl kk_) ?_
            refine own_pre (S' := (T18.setTop (mkF m 278 #[.val (.long i0), .second, .val (.int i1), .val (.int i2), .val (.int i3), .val (.int nq), .val (.int y0), .val (.int y1), .val (.int y2), .val (.int y3), .val (.int y4), .val (.int y5), .val (.int y6), .val (.int y7), .val (.int y8), .val (.int qq), .val (.ref b10), .unset] [(.int qq), (.int y3), (.int (3 : Int32)), (.int nq)]))) (fun tt_ kk_ => XS.iload X18.here hx rfl (hb hby at_276) rfl kk_) ?_
            refine own_callS (y := (⟨"com/example/kunci/kunci/NumberSetContainsPinLaw", "hit", "(IIII)Z"⟩ : MethodName)) X18 hx hZ hown (hw _ (List.mem_of_getElem? (i := 51) rfl)) (hw _ (List.mem_of_getElem? (i := 52) rfl)) (hw _ (List.mem_of_getElem? (i := 3) rfl)) (hw _ (List.mem_of_getElem? (i := 53) rfl)) (by decide) hh18 (hM := own_hit l Z a0 hw [] nq (3 : Int32) y3 qq hp15 n0 zs15) (W := 0) (pc := 278) (Ls := #[.val (.long i0), .second, .val (.int i1), .val (.int i2), .val (.int i3), .val (.int nq), .val (.int y0), .val (.int y1), .val (.int y2), .val (.int y3), .val (.int y4), .val (.int y5), .val (.int y6), .val (.int y7), .val (.int y8), .val (.int qq), .val (.ref b10), .unset]) (argsL := [(.int nq), (.int (3 : Int32)), (.int y3), (.int qq)]) (rest := []) (st0 := [(.int qq), (.int y3), (.int (3 : Int32)), (.int nq)]) (by rw [hml]; rfl) (lenOf own_pd7 rfl) rfl (Nat.le_of_eq rfl) (hb hby at_278) (by decide) (by decide) (by decide) (by decide) ?_
            intro v19 T19 L19 X19 hQ19
            obtain ⟨r19, rfl, hr19, Nq19, hh19⟩ := hQ19
            have N19 := Fr.app N18 Nq19
            show own_Ends p e below s _ _ _ (T19.setTop (mkF m 281 #[.val (.long i0), .second, .val (.int i1), .val (.int i2), .val (.int i3), .val (.int nq), .val (.int y0), .val (.int y1), .val (.int y2), .val (.int y3), .val (.int y4), .val (.int y5), .val (.int y6), .val (.int y7), .val (.int y8), .val (.int qq), .val (.ref b10), .unset] [(.int r19)]))
            rcases hr19 with ⟨rfl, hp3⟩ | ⟨rfl, hp3⟩
            ·
              show own_Ends p e below s _ _ _ (T19.setTop (mkF m 281 #[.val (.long i0), .second, .val (.int i1), .val (.int i2), .val (.int i3), .val (.int nq), .val (.int y0), .val (.int y1), .val (.int y2), .val (.int y3), .val (.int y4), .val (.int y5), .val (.int y6), .val (.int y7), .val (.int y8), .val (.int qq), .val (.ref b10), .unset] [(.int (1 : Int32))]))
              refine own_pre (S' := (T19.setTop (mkF m 352 #[.val (.long i0), .second, .val (.int i1), .val (.int i2), .val (.int i3), .val (.int nq), .val (.int y0), .val (.int y1), .val (.int y2), .val (.int y3), .val (.int y4), .val (.int y5), .val (.int y6), .val (.int y7), .val (.int y8), .val (.int qq), .val (.ref b10), .unset] []))) (fun tt_ kk_ => XS.ifYes X19.here hx rfl (pc0 := 281) (pc' := 352) rfl (hb hby at_281) rfl ((if0 _ _).trans (feq (by decide : ¬ ((1 : Int32) = (0 : Int32)))).2) (by decide) (by decide) kk_) ?_
              refine own_pre (S' := (T19.setTop (mkF m 353 #[.val (.long i0), .second, .val (.int i1), .val (.int i2), .val (.int i3), .val (.int nq), .val (.int y0), .val (.int y1), .val (.int y2), .val (.int y3), .val (.int y4), .val (.int y5), .val (.int y6), .val (.int y7), .val (.int y8), .val (.int qq), .val (.ref b10), .unset] [(.int (1 : Int32))]))) (fun tt_ kk_ => XS.iconst X19.here hx rfl (hb hby at_352) kk_) ?_
              refine own_pre (S' := (T19.setTop (mkF m 357 #[.val (.long i0), .second, .val (.int i1), .val (.int i2), .val (.int i3), .val (.int nq), .val (.int y0), .val (.int y1), .val (.int y2), .val (.int y3), .val (.int y4), .val (.int y5), .val (.int y6), .val (.int y7), .val (.int y8), .val (.int qq), .val (.ref b10), .unset] [(.int (1 : Int32))]))) (fun tt_ kk_ => XS.goto X19.here hx rfl (pc0 := 353) (pc' := 357) rfl (hb hby at_353) (by decide) (by decide) kk_) ?_
              exact JE (1 : Int32) T19 _ _ X19 hh19 N19 zs15 zz15 f15_0 hD (Or.inl ⟨rfl, Or.inl (Or.inl (Or.inl (Or.inl (Or.inl (Or.inr hp3)))))⟩)
            ·
              show own_Ends p e below s _ _ _ (T19.setTop (mkF m 281 #[.val (.long i0), .second, .val (.int i1), .val (.int i2), .val (.int i3), .val (.int nq), .val (.int y0), .val (.int y1), .val (.int y2), .val (.int y3), .val (.int y4), .val (.int y5), .val (.int y6), .val (.int y7), .val (.int y8), .val (.int qq), .val (.ref b10), .unset] [(.int (0 : Int32))]))
              refine own_pre (S' := (T19.setTop (mkF m 284 #[.val (.long i0), .second, .val (.int i1), .val (.int i2), .val (.int i3), .val (.int nq), .val (.int y0), .val (.int y1), .val (.int y2), .val (.int y3), .val (.int y4), .val (.int y5), .val (.int y6), .val (.int y7), .val (.int y8), .val (.int qq), .val (.ref b10), .unset] []))) (fun tt_ kk_ => XS.ifNo X19.here hx rfl (hb hby at_281) rfl ((if0 _ _).trans (teq (by decide : ((0 : Int32) = (0 : Int32)))).2) kk_) ?_
              refine own_pre (S' := (T19.setTop (mkF m 286 #[.val (.long i0), .second, .val (.int i1), .val (.int i2), .val (.int i3), .val (.int nq), .val (.int y0), .val (.int y1), .val (.int y2), .val (.int y3), .val (.int y4), .val (.int y5), .val (.int y6), .val (.int y7), .val (.int y8), .val (.int qq), .val (.ref b10), .unset] [(.int nq)]))) (fun tt_ kk_ => XS.iload X19.here hx rfl (hb hby at_284) rfl kk_) ?_
              refine own_pre (S' := (T19.setTop (mkF m 287 #[.val (.long i0), .second, .val (.int i1), .val (.int i2), .val (.int i3), .val (.int nq), .val (.int y0), .val (.int y1), .val (.int y2), .val (.int y3), .val (.int y4), .val (.int y5), .val (.int y6), .val (.int y7), .val (.int y8), .val (.int qq), .val (.ref b10), .unset] [(.int (4 : Int32)), (.int nq)]))) (fun tt_ kk_ => XS.iconst X19.here hx rfl (hb hby at_286) kk_) ?_
              refine own_pre (S' := (T19.setTop (mkF m 289 #[.val (.long i0), .second, .val (.int i1), .val (.int i2), .val (.int i3), .val (.int nq), .val (.int y0), .val (.int y1), .val (.int y2), .val (.int y3), .val (.int y4), .val (.int y5), .val (.int y6), .val (.int y7), .val (.int y8), .val (.int qq), .val (.ref b10), .unset] [(.int y4), (.int (4 : Int32)), (.int nq)]))) (fun tt_ kk_ => XS.iload X19.here hx rfl (hb hby at_287) rfl kk_) ?_
              refine own_pre (S' := (T19.setTop (mkF m 291 #[.val (.long i0), .second, .val (.int i1), .val (.int i2), .val (.int i3), .val (.int nq), .val (.int y0), .val (.int y1), .val (.int y2), .val (.int y3), .val (.int y4), .val (.int y5), .val (.int y6), .val (.int y7), .val (.int y8), .val (.int qq), .val (.ref b10), .unset] [(.int qq), (.int y4), (.int (4 : Int32)), (.int nq)]))) (fun tt_ kk_ => XS.iload X19.here hx rfl (hb hby at_289) rfl kk_) ?_
              refine own_callS (y := (⟨"com/example/kunci/kunci/NumberSetContainsPinLaw", "hit", "(IIII)Z"⟩ : MethodName)) X19 hx hZ hown (hw _ (List.mem_of_getElem? (i := 51) rfl)) (hw _ (List.mem_of_getElem? (i := 52) rfl)) (hw _ (List.mem_of_getElem? (i := 3) rfl)) (hw _ (List.mem_of_getElem? (i := 53) rfl)) (by decide) hh19 (hM := own_hit l Z a0 hw [] nq (4 : Int32) y4 qq hp15 n0 zs15) (W := 0) (pc := 291) (Ls := #[.val (.long i0), .second, .val (.int i1), .val (.int i2), .val (.int i3), .val (.int nq), .val (.int y0), .val (.int y1), .val (.int y2), .val (.int y3), .val (.int y4), .val (.int y5), .val (.int y6), .val (.int y7), .val (.int y8), .val (.int qq), .val (.ref b10), .unset]) (argsL := [(.int nq), (.int (4 : Int32)), (.int y4), (.int qq)]) (rest := []) (st0 := [(.int qq), (.int y4), (.int (4 : Int32)), (.int nq)]) (by rw [hml]; rfl) (lenOf own_pd7 rfl) rfl (Nat.le_of_eq rfl) (hb hby at_291) (by decide) (by decide) (by decide) (by decide) ?_
              intro v20 T20 L20 X20 hQ20
              obtain ⟨r20, rfl, hr20, Nq20, hh20⟩ := hQ20
              have N20 := Fr.app N19 Nq20
              show own_Ends p e below s _ _ _ (T20.setTop (mkF m 294 #[.val (.long i0), .second, .val (.int i1), .val (.int i2), .val (.int i3), .val (.int nq), .val (.int y0), .val (.int y1), .val (.int y2), .val (.int y3), .val (.int y4), .val (.int y5), .val (.int y6), .val (.int y7), .val (.int y8), .val (.int qq), .val (.ref b10), .unset] [(.int r20)]))
              rcases hr20 with ⟨rfl, hp4⟩ | ⟨rfl, hp4⟩
              ·
                show own_Ends p e below s _ _ _ (T20.setTop (mkF m 294 #[.val (.long i0), .second, .val (.int i1), .val (.int i2), .val (.int i3), .val (.int nq), .val (.int y0), .val (.int y1), .val (.int y2), .val (.int y3), .val (.int y4), .val (.int y5), .val (.int y6), .val (.int y7), .val (.int y8), .val (.int qq), .val (.ref b10), .unset] [(.int (1 : Int32))]))
                refine own_pre (S' := (T20.setTop (mkF m 352 #[.val (.long i0), .second, .val (.int i1), .val (.int i2), .val (.int i3), .val (.int nq), .val (.int y0), .val (.int y1), .val (.int y2), .val (.int y3), .val (.int y4), .val (.int y5), .val (.int y6), .val (.int y7), .val (.int y8), .val (.int qq), .val (.ref b10), .unset] []))) (fun tt_ kk_ => XS.ifYes X20.here hx rfl (pc0 := 294) (pc' := 352) rfl (hb hby at_294) rfl ((if0 _ _).trans (feq (by decide : ¬ ((1 : Int32) = (0 : Int32)))).2) (by decide) (by decide) kk_) ?_
                refine own_pre (S' := (T20.setTop (mkF m 353 #[.val (.long i0), .second, .val (.int i1), .val (.int i2), .val (.int i3), .val (.int nq), .val (.int y0), .val (.int y1), .val (.int y2), .val (.int y3), .val (.int y4), .val (.int y5), .val (.int y6), .val (.int y7), .val (.int y8), .val (.int qq), .val (.ref b10), .unset] [(.int (1 : Int32))]))) (fun tt_ kk_ => XS.iconst X20.here hx rfl (hb hby at_352) kk_) ?_
                refine own_pre (S' := (T20.setTop (mkF m 357 #[.val (.long i0), .second, .val (.int i1), .val (.int i2), .val (.int i3), .val (.int nq), .val (.int y0), .val (.int y1), .val (.int y2), .val (.int y3), .val (.int y4), .val (.int y5), .val (.int y6), .val (.int y7), .val (.int y8), .val (.int qq), .val (.ref b10), .unset] [(.int (1 : Int32))]))) (fun tt_ kk_ => XS.goto X20.here hx rfl (pc0 := 353) (pc' := 357) rfl (hb hby at_353) (by decide) (by decide) kk_) ?_
                exact JE (1 : Int32) T20 _ _ X20 hh20 N20 zs15 zz15 f15_0 hD (Or.inl ⟨rfl, Or.inl (Or.inl (Or.inl (Or.inl (Or.inr hp4))))⟩)
              ·
                show own_Ends p e below s _ _ _ (T20.setTop (mkF m 294 #[.val (.long i0), .second, .val (.int i1), .val (.int i2), .val (.int i3), .val (.int nq), .val (.int y0), .val (.int y1), .val (.int y2), .val (.int y3), .val (.int y4), .val (.int y5), .val (.int y6), .val (.int y7), .val (.int y8), .val (.int qq), .val (.ref b10), .unset] [(.int (0 : Int32))]))
                refine own_pre (S' := (T20.setTop (mkF m 297 #[.val (.long i0), .second, .val (.int i1), .val (.int i2), .val (.int i3), .val (.int nq), .val (.int y0), .val (.int y1), .val (.int y2), .val (.int y3), .val (.int y4), .val (.int y5), .val (.int y6), .val (.int y7), .val (.int y8), .val (.int qq), .val (.ref b10), .unset] []))) (fun tt_ kk_ => XS.ifNo X20.here hx rfl (hb hby at_294) rfl ((if0 _ _).trans (teq (by decide : ((0 : Int32) = (0 : Int32)))).2) kk_) ?_
                refine own_pre (S' := (T20.setTop (mkF m 299 #[.val (.long i0), .second, .val (.int i1), .val (.int i2), .val (.int i3), .val (.int nq), .val (.int y0), .val (.int y1), .val (.int y2), .val (.int y3), .val (.int y4), .val (.int y5), .val (.int y6), .val (.int y7), .val (.int y8), .val (.int qq), .val (.ref b10), .unset] [(.int nq)]))) (fun tt_ kk_ => XS.iload X20.here hx rfl (hb hby at_297) rfl kk_) ?_
                refine own_pre (S' := (T20.setTop (mkF m 300 #[.val (.long i0), .second, .val (.int i1), .val (.int i2), .val (.int i3), .val (.int nq), .val (.int y0), .val (.int y1), .val (.int y2), .val (.int y3), .val (.int y4), .val (.int y5), .val (.int y6), .val (.int y7), .val (.int y8), .val (.int qq), .val (.ref b10), .unset] [(.int (5 : Int32)), (.int nq)]))) (fun tt_ kk_ => XS.iconst X20.here hx rfl (hb hby at_299) kk_) ?_
                refine own_pre (S' := (T20.setTop (mkF m 302 #[.val (.long i0), .second, .val (.int i1), .val (.int i2), .val (.int i3), .val (.int nq), .val (.int y0), .val (.int y1), .val (.int y2), .val (.int y3), .val (.int y4), .val (.int y5), .val (.int y6), .val (.int y7), .val (.int y8), .val (.int qq), .val (.ref b10), .unset] [(.int y5), (.int (5 : Int32)), (.int nq)]))) (fun tt_ kk_ => XS.iload X20.here hx rfl (hb hby at_300) rfl kk_) ?_
                refine own_pre (S' := (T20.setTop (mkF m 304 #[.val (.long i0), .second, .val (.int i1), .val (.int i2), .val (.int i3), .val (.int nq), .val (.int y0), .val (.int y1), .val (.int y2), .val (.int y3), .val (.int y4), .val (.int y5), .val (.int y6), .val (.int y7), .val (.int y8), .val (.int qq), .val (.ref b10), .unset] [(.int qq), (.int y5), (.int (5 : Int32)), (.int nq)]))) (fun tt_ kk_ => XS.iload X20.here hx rfl (hb hby at_302) rfl kk_) ?_
                refine own_callS (y := (⟨"com/example/kunci/kunci/NumberSetContainsPinLaw", "hit", "(IIII)Z"⟩ : MethodName)) X20 hx hZ hown (hw _ (List.mem_of_getElem? (i := 51) rfl)) (hw _ (List.mem_of_getElem? (i := 52) rfl)) (hw _ (List.mem_of_getElem? (i := 3) rfl)) (hw _ (List.mem_of_getElem? (i := 53) rfl)) (by decide) hh20 (hM := own_hit l Z a0 hw [] nq (5 : Int32) y5 qq hp15 n0 zs15) (W := 0) (pc := 304) (Ls := #[.val (.long i0), .second, .val (.int i1), .val (.int i2), .val (.int i3), .val (.int nq), .val (.int y0), .val (.int y1), .val (.int y2), .val (.int y3), .val (.int y4), .val (.int y5), .val (.int y6), .val (.int y7), .val (.int y8), .val (.int qq), .val (.ref b10), .unset]) (argsL := [(.int nq), (.int (5 : Int32)), (.int y5), (.int qq)]) (rest := []) (st0 := [(.int qq), (.int y5), (.int (5 : Int32)), (.int nq)]) (by rw [hml]; rfl) (lenOf own_pd7 rfl) rfl (Nat.le_of_eq rfl) (hb hby at_304) (by decide) (by decide) (by decide) (by decide) ?_
                intro v21 T21 L21 X21 hQ21
                obtain ⟨r21, rfl, hr21, Nq21, hh21⟩ := hQ21
                have N21 := Fr.app N20 Nq21
                show own_Ends p e below s _ _ _ (T21.setTop (mkF m 307 #[.val (.long i0), .second, .val (.int i1), .val (.int i2), .val (.int i3), .val (.int nq), .val (.int y0), .val (.int y1), .val (.int y2), .val (.int y3), .val (.int y4), .val (.int y5), .val (.int y6), .val (.int y7), .val (.int y8), .val (.int qq), .val (.ref b10), .unset] [(.int r21)]))
                rcases hr21 with ⟨rfl, hp5⟩ | ⟨rfl, hp5⟩
                ·
                  show own_Ends p e below s _ _ _ (T21.setTop (mkF m 307 #[.val (.long i0), .second, .val (.int i1), .val (.int i2), .val (.int i3), .val (.int nq), .val (.int y0), .val (.int y1), .val (.int y2), .val (.int y3), .val (.int y4), .val (.int y5), .val (.int y6), .val (.int y7), .val (.int y8), .val (.int qq), .val (.ref b10), .unset] [(.int (1 : Int32))]))
                  refine own_pre (S' := (T21.setTop (mkF m 352 #[.val (.long i0), .second, .val (.int i1), .val (.int i2), .val (.int i3), .val (.int nq), .val (.int y0), .val (.int y1), .val (.int y2), .val (.int y3), .val (.int y4), .val (.int y5), .val (.int y6), .val (.int y7), .val (.int y8), .val (.int qq), .val (.ref b10), .unset] []))) (fun tt_ kk_ => XS.ifYes X21.here hx rfl (pc0 := 307) (pc' := 352) rfl (hb hby at_307) rfl ((if0 _ _).trans (feq (by decide : ¬ ((1 : Int32) = (0 : Int32)))).2) (by decide) (by decide) kk_) ?_
                  refine own_pre (S' := (T21.setTop (mkF m 353 #[.val (.long i0), .second, .val (.int i1), .val (.int i2), .val (.int i3), .val (.int nq), .val (.int y0), .val (.int y1), .val (.int y2), .val (.int y3), .val (.int y4), .val (.int y5), .val (.int y6), .val (.int y7), .val (.int y8), .val (.int qq), .val (.ref b10), .unset] [(.int (1 : Int32))]))) (fun tt_ kk_ => XS.iconst X21.here hx rfl (hb hby at_352) kk_) ?_
                  refine own_pre (S' := (T21.setTop (mkF m 357 #[.val (.long i0), .second, .val (.int i1), .val (.int i2), .val (.int i3), .val (.int nq), .val (.int y0), .val (.int y1), .val (.int y2), .val (.int y3), .val (.int y4), .val (.int y5), .val (.int y6), .val (.int y7), .val (.int y8), .val (.int qq), .val (.ref b10), .unset] [(.int (1 : Int32))]))) (fun tt_ kk_ => XS.goto X21.here hx rfl (pc0 := 353) (pc' := 357) rfl (hb hby at_353) (by decide) (by decide) kk_) ?_
                  exact JE (1 : Int32) T21 _ _ X21 hh21 N21 zs15 zz15 f15_0 hD (Or.inl ⟨rfl, Or.inl (Or.inl (Or.inl (Or.inr hp5)))⟩)
                ·
                  show own_Ends p e below s _ _ _ (T21.setTop (mkF m 307 #[.val (.long i0), .second, .val (.int i1), .val (.int i2), .val (.int i3), .val (.int nq), .val (.int y0), .val (.int y1), .val (.int y2), .val (.int y3), .val (.int y4), .val (.int y5), .val (.int y6), .val (.int y7), .val (.int y8), .val (.int qq), .val (.ref b10), .unset] [(.int (0 : Int32))]))
                  refine own_pre (S' := (T21.setTop (mkF m 310 #[.val (.long i0), .second, .val (.int i1), .val (.int i2), .val (.int i3), .val (.int nq), .val (.int y0), .val (.int y1), .val (.int y2), .val (.int y3), .val (.int y4), .val (.int y5), .val (.int y6), .val (.int y7), .val (.int y8), .val (.int qq), .val (.ref b10), .unset] []))) (fun tt_ kk_ => XS.ifNo X21.here hx rfl (hb hby at_307) rfl ((if0 _ _).trans (teq (by decide : ((0 : Int32) = (0 : Int32)))).2) kk_) ?_
                  refine own_pre (S' := (T21.setTop (mkF m 312 #[.val (.long i0), .second, .val (.int i1), .val (.int i2), .val (.int i3), .val (.int nq), .val (.int y0), .val (.int y1), .val (.int y2), .val (.int y3), .val (.int y4), .val (.int y5), .val (.int y6), .val (.int y7), .val (.int y8), .val (.int qq), .val (.ref b10), .unset] [(.int nq)]))) (fun tt_ kk_ => XS.iload X21.here hx rfl (hb hby at_310) rfl kk_) ?_
                  refine own_pre (S' := (T21.setTop (mkF m 314 #[.val (.long i0), .second, .val (.int i1), .val (.int i2), .val (.int i3), .val (.int nq), .val (.int y0), .val (.int y1), .val (.int y2), .val (.int y3), .val (.int y4), .val (.int y5), .val (.int y6), .val (.int y7), .val (.int y8), .val (.int qq), .val (.ref b10), .unset] [(.int (6 : Int32)), (.int nq)]))) (fun tt_ kk_ => XS.bipush X21.here hx rfl (hb hby at_312) kk_) ?_
                  refine own_pre (S' := (T21.setTop (mkF m 316 #[.val (.long i0), .second, .val (.int i1), .val (.int i2), .val (.int i3), .val (.int nq), .val (.int y0), .val (.int y1), .val (.int y2), .val (.int y3), .val (.int y4), .val (.int y5), .val (.int y6), .val (.int y7), .val (.int y8), .val (.int qq), .val (.ref b10), .unset] [(.int y6), (.int (6 : Int32)), (.int nq)]))) (fun tt_ kk_ => XS.iload X21.here hx rfl (hb hby at_314) rfl kk_) ?_
                  refine own_pre (S' := (T21.setTop (mkF m 318 #[.val (.long i0), .second, .val (.int i1), .val (.int i2), .val (.int i3), .val (.int nq), .val (.int y0), .val (.int y1), .val (.int y2), .val (.int y3), .val (.int y4), .val (.int y5), .val (.int y6), .val (.int y7), .val (.int y8), .val (.int qq), .val (.ref b10), .unset] [(.int qq), (.int y6), (.int (6 : Int32)), (.int nq)]))) (fun tt_ kk_ => XS.iload X21.here hx rfl (hb hby at_316) rfl kk_) ?_
                  refine own_callS (y := (⟨"com/example/kunci/kunci/NumberSetContainsPinLaw", "hit", "(IIII)Z"⟩ : MethodName)) X21 hx hZ hown (hw _ (List.mem_of_getElem? (i := 51) rfl)) (hw _ (List.mem_of_getElem? (i := 52) rfl)) (hw _ (List.mem_of_getElem? (i := 3) rfl)) (hw _ (List.mem_of_getElem? (i := 53) rfl)) (by decide) hh21 (hM := own_hit l Z a0 hw [] nq (6 : Int32) y6 qq hp15 n0 zs15) (W := 0) (pc := 318) (Ls := #[.val (.long i0), .second, .val (.int i1), .val (.int i2), .val (.int i3), .val (.int nq), .val (.int y0), .val (.int y1), .val (.int y2), .val (.int y3), .val (.int y4), .val (.int y5), .val (.int y6), .val (.int y7), .val (.int y8), .val (.int qq), .val (.ref b10), .unset]) (argsL := [(.int nq), (.int (6 : Int32)), (.int y6), (.int qq)]) (rest := []) (st0 := [(.int qq), (.int y6), (.int (6 : Int32)), (.int nq)]) (by rw [hml]; rfl) (lenOf own_pd7 rfl) rfl (Nat.le_of_eq rfl) (hb hby at_318) (by decide) (by decide) (by decide) (by decide) ?_
                  intro v22 T22 L22 X22 hQ22
                  obtain ⟨r22, rfl, hr22, Nq22, hh22⟩ := hQ22
                  have N22 := Fr.app N21 Nq22
                  show own_Ends p e below s _ _ _ (T22.setTop (mkF m 321 #[.val (.long i0), .second, .val (.int i1), .val (.int i2), .val (.int i3), .val (.int nq), .val (.int y0), .val (.int y1), .val (.int y2), .val (.int y3), .val (.int y4), .val (.int y5), .val (.int y6), .val (.int y7), .val (.int y8), .val (.int qq), .val (.ref b10), .unset] [(.int r22)]))
                  rcases hr22 with ⟨rfl, hp6⟩ | ⟨rfl, hp6⟩
                  ·
                    show own_Ends p e below s _ _ _ (T22.setTop (mkF m 321 #[.val (.long i0), .second, .val (.int i1), .val (.int i2), .val (.int i3), .val (.int nq), .val (.int y0), .val (.int y1), .val (.int y2), .val (.int y3), .val (.int y4), .val (.int y5), .val (.int y6), .val (.int y7), .val (.int y8), .val (.int qq), .val (.ref b10), .unset] [(.int (1 : Int32))]))
                    refine own_pre (S' := (T22.setTop (mkF m 352 #[.val (.long i0), .second, .val (.int i1), .val (.int i2), .val (.int i3), .val (.int nq), .val (.int y0), .val (.int y1), .val (.int y2), .val (.int y3), .val (.int y4), .val (.int y5), .val (.int y6), .val (.int y7), .val (.int y8), .val (.int qq), .val (.ref b10), .unset] []))) (fun tt_ kk_ => XS.ifYes X22.here hx rfl (pc0 := 321) (pc' := 352) rfl (hb hby at_321) rfl ((if0 _ _).trans (feq (by decide : ¬ ((1 : Int32) = (0 : Int32)))).2) (by decide) (by decide) kk_) ?_
                    refine own_pre (S' := (T22.setTop (mkF m 353 #[.val (.long i0), .second, .val (.int i1), .val (.int i2), .val (.int i3), .val (.int nq), .val (.int y0), .val (.int y1), .val (.int y2), .val (.int y3), .val (.int y4), .val (.int y5), .val (.int y6), .val (.int y7), .val (.int y8), .val (.int qq), .val (.ref b10), .unset] [(.int (1 : Int32))]))) (fun tt_ kk_ => XS.iconst X22.here hx rfl (hb hby at_352) kk_) ?_
                    refine own_pre (S' := (T22.setTop (mkF m 357 #[.val (.long i0), .second, .val (.int i1), .val (.int i2), .val (.int i3), .val (.int nq), .val (.int y0), .val (.int y1), .val (.int y2), .val (.int y3), .val (.int y4), .val (.int y5), .val (.int y6), .val (.int y7), .val (.int y8), .val (.int qq), .val (.ref b10), .unset] [(.int (1 : Int32))]))) (fun tt_ kk_ => XS.goto X22.here hx rfl (pc0 := 353) (pc' := 357) rfl (hb hby at_353) (by decide) (by decide) kk_) ?_
                    exact JE (1 : Int32) T22 _ _ X22 hh22 N22 zs15 zz15 f15_0 hD (Or.inl ⟨rfl, Or.inl (Or.inl (Or.inr hp6))⟩)
                  ·
                    show own_Ends p e below s _ _ _ (T22.setTop (mkF m 321 #[.val (.long i0), .second, .val (.int i1), .val (.int i2), .val (.int i3), .val (.int nq), .val (.int y0), .val (.int y1), .val (.int y2), .val (.int y3), .val (.int y4), .val (.int y5), .val (.int y6), .val (.int y7), .val (.int y8), .val (.int qq), .val (.ref b10), .unset] [(.int (0 : Int32))]))
                    refine own_pre (S' := (T22.setTop (mkF m 324 #[.val (.long i0), .second, .val (.int i1), .val (.int i2), .val (.int i3), .val (.int nq), .val (.int y0), .val (.int y1), .val (.int y2), .val (.int y3), .val (.int y4), .val (.int y5), .val (.int y6), .val (.int y7), .val (.int y8), .val (.int qq), .val (.ref b10), .unset] []))) (fun tt_ kk_ => XS.ifNo X22.here hx rfl (hb hby at_321) rfl ((if0 _ _).trans (teq (by decide : ((0 : Int32) = (0 : Int32)))).2) kk_) ?_
                    refine own_pre (S' := (T22.setTop (mkF m 326 #[.val (.long i0), .second, .val (.int i1), .val (.int i2), .val (.int i3), .val (.int nq), .val (.int y0), .val (.int y1), .val (.int y2), .val (.int y3), .val (.int y4), .val (.int y5), .val (.int y6), .val (.int y7), .val (.int y8), .val (.int qq), .val (.ref b10), .unset] [(.int nq)]))) (fun tt_ kk_ => XS.iload X22.here hx rfl (hb hby at_324) rfl kk_) ?_
                    refine own_pre (S' := (T22.setTop (mkF m 328 #[.val (.long i0), .second, .val (.int i1), .val (.int i2), .val (.int i3), .val (.int nq), .val (.int y0), .val (.int y1), .val (.int y2), .val (.int y3), .val (.int y4), .val (.int y5), .val (.int y6), .val (.int y7), .val (.int y8), .val (.int qq), .val (.ref b10), .unset] [(.int (7 : Int32)), (.int nq)]))) (fun tt_ kk_ => XS.bipush X22.here hx rfl (hb hby at_326) kk_) ?_
                    refine own_pre (S' := (T22.setTop (mkF m 330 #[.val (.long i0), .second, .val (.int i1), .val (.int i2), .val (.int i3), .val (.int nq), .val (.int y0), .val (.int y1), .val (.int y2), .val (.int y3), .val (.int y4), .val (.int y5), .val (.int y6), .val (.int y7), .val (.int y8), .val (.int qq), .val (.ref b10), .unset] [(.int y7), (.int (7 : Int32)), (.int nq)]))) (fun tt_ kk_ => XS.iload X22.here hx rfl (hb hby at_328) rfl kk_) ?_
                    refine own_pre (S' := (T22.setTop (mkF m 332 #[.val (.long i0), .second, .val (.int i1), .val (.int i2), .val (.int i3), .val (.int nq), .val (.int y0), .val (.int y1), .val (.int y2), .val (.int y3), .val (.int y4), .val (.int y5), .val (.int y6), .val (.int y7), .val (.int y8), .val (.int qq), .val (.ref b10), .unset] [(.int qq), (.int y7), (.int (7 : Int32)), (.int nq)]))) (fun tt_ kk_ => XS.iload X22.here hx rfl (hb hby at_330) rfl kk_) ?_
                    refine own_callS (y := (⟨"com/example/kunci/kunci/NumberSetContainsPinLaw", "hit", "(IIII)Z"⟩ : MethodName)) X22 hx hZ hown (hw _ (List.mem_of_getElem? (i := 51) rfl)) (hw _ (List.mem_of_getElem? (i := 52) rfl)) (hw _ (List.mem_of_getElem? (i := 3) rfl)) (hw _ (List.mem_of_getElem? (i := 53) rfl)) (by decide) hh22 (hM := own_hit l Z a0 hw [] nq (7 : Int32) y7 qq hp15 n0 zs15) (W := 0) (pc := 332) (Ls := #[.val (.long i0), .second, .val (.int i1), .val (.int i2), .val (.int i3), .val (.int nq), .val (.int y0), .val (.int y1), .val (.int y2), .val (.int y3), .val (.int y4), .val (.int y5), .val (.int y6), .val (.int y7), .val (.int y8), .val (.int qq), .val (.ref b10), .unset]) (argsL := [(.int nq), (.int (7 : Int32)), (.int y7), (.int qq)]) (rest := []) (st0 := [(.int qq), (.int y7), (.int (7 : Int32)), (.int nq)]) (by rw [hml]; rfl) (lenOf own_pd7 rfl) rfl (Nat.le_of_eq rfl) (hb hby at_332) (by decide) (by decide) (by decide) (by decide) ?_
                    intro v23 T23 L23 X23 hQ23
                    obtain ⟨r23, rfl, hr23, Nq23, hh23⟩ := hQ23
                    have N23 := Fr.app N22 Nq23
                    show own_Ends p e below s _ _ _ (T23.setTop (mkF m 335 #[.val (.long i0), .second, .val (.int i1), .val (.int i2), .val (.int i3), .val (.int nq), .val (.int y0), .val (.int y1), .val (.int y2), .val (.int y3), .val (.int y4), .val (.int y5), .val (.int y6), .val (.int y7), .val (.int y8), .val (.int qq), .val (.ref b10), .unset] [(.int r23)]))
                    rcases hr23 with ⟨rfl, hp7⟩ | ⟨rfl, hp7⟩
                    ·
                      show own_Ends p e below s _ _ _ (T23.setTop (mkF m 335 #[.val (.long i0), .second, .val (.int i1), .val (.int i2), .val (.int i3), .val (.int nq), .val (.int y0), .val (.int y1), .val (.int y2), .val (.int y3), .val (.int y4), .val (.int y5), .val (.int y6), .val (.int y7), .val (.int y8), .val (.int qq), .val (.ref b10), .unset] [(.int (1 : Int32))]))
                      refine own_pre (S' := (T23.setTop (mkF m 352 #[.val (.long i0), .second, .val (.int i1), .val (.int i2), .val (.int i3), .val (.int nq), .val (.int y0), .val (.int y1), .val (.int y2), .val (.int y3), .val (.int y4), .val (.int y5), .val (.int y6), .val (.int y7), .val (.int y8), .val (.int qq), .val (.ref b10), .unset] []))) (fun tt_ kk_ => XS.ifYes X23.here hx rfl (pc0 := 335) (pc' := 352) rfl (hb hby at_335) rfl ((if0 _ _).trans (feq (by decide : ¬ ((1 : Int32) = (0 : Int32)))).2) (by decide) (by decide) kk_) ?_
                      refine own_pre (S' := (T23.setTop (mkF m 353 #[.val (.long i0), .second, .val (.int i1), .val (.int i2), .val (.int i3), .val (.int nq), .val (.int y0), .val (.int y1), .val (.int y2), .val (.int y3), .val (.int y4), .val (.int y5), .val (.int y6), .val (.int y7), .val (.int y8), .val (.int qq), .val (.ref b10), .unset] [(.int (1 : Int32))]))) (fun tt_ kk_ => XS.iconst X23.here hx rfl (hb hby at_352) kk_) ?_
                      refine own_pre (S' := (T23.setTop (mkF m 357 #[.val (.long i0), .second, .val (.int i1), .val (.int i2), .val (.int i3), .val (.int nq), .val (.int y0), .val (.int y1), .val (.int y2), .val (.int y3), .val (.int y4), .val (.int y5), .val (.int y6), .val (.int y7), .val (.int y8), .val (.int qq), .val (.ref b10), .unset] [(.int (1 : Int32))]))) (fun tt_ kk_ => XS.goto X23.here hx rfl (pc0 := 353) (pc' := 357) rfl (hb hby at_353) (by decide) (by decide) kk_) ?_
                      exact JE (1 : Int32) T23 _ _ X23 hh23 N23 zs15 zz15 f15_0 hD (Or.inl ⟨rfl, Or.inl (Or.inr hp7)⟩)
                    ·
                      show own_Ends p e below s _ _ _ (T23.setTop (mkF m 335 #[.val (.long i0), .second, .val (.int i1), .val (.int i2), .val (.int i3), .val (.int nq), .val (.int y0), .val (.int y1), .val (.int y2), .val (.int y3), .val (.int y4), .val (.int y5), .val (.int y6), .val (.int y7), .val (.int y8), .val (.int qq), .val (.ref b10), .unset] [(.int (0 : Int32))]))
                      refine own_pre (S' := (T23.setTop (mkF m 338 #[.val (.long i0), .second, .val (.int i1), .val (.int i2), .val (.int i3), .val (.int nq), .val (.int y0), .val (.int y1), .val (.int y2), .val (.int y3), .val (.int y4), .val (.int y5), .val (.int y6), .val (.int y7), .val (.int y8), .val (.int qq), .val (.ref b10), .unset] []))) (fun tt_ kk_ => XS.ifNo X23.here hx rfl (hb hby at_335) rfl ((if0 _ _).trans (teq (by decide : ((0 : Int32) = (0 : Int32)))).2) kk_) ?_
                      refine own_pre (S' := (T23.setTop (mkF m 340 #[.val (.long i0), .second, .val (.int i1), .val (.int i2), .val (.int i3), .val (.int nq), .val (.int y0), .val (.int y1), .val (.int y2), .val (.int y3), .val (.int y4), .val (.int y5), .val (.int y6), .val (.int y7), .val (.int y8), .val (.int qq), .val (.ref b10), .unset] [(.int nq)]))) (fun tt_ kk_ => XS.iload X23.here hx rfl (hb hby at_338) rfl kk_) ?_
                      refine own_pre (S' := (T23.setTop (mkF m 342 #[.val (.long i0), .second, .val (.int i1), .val (.int i2), .val (.int i3), .val (.int nq), .val (.int y0), .val (.int y1), .val (.int y2), .val (.int y3), .val (.int y4), .val (.int y5), .val (.int y6), .val (.int y7), .val (.int y8), .val (.int qq), .val (.ref b10), .unset] [(.int (8 : Int32)), (.int nq)]))) (fun tt_ kk_ => XS.bipush X23.here hx rfl (hb hby at_340) kk_) ?_
                      refine own_pre (S' := (T23.setTop (mkF m 344 #[.val (.long i0), .second, .val (.int i1), .val (.int i2), .val (.int i3), .val (.int nq), .val (.int y0), .val (.int y1), .val (.int y2), .val (.int y3), .val (.int y4), .val (.int y5), .val (.int y6), .val (.int y7), .val (.int y8), .val (.int qq), .val (.ref b10), .unset] [(.int y8), (.int (8 : Int32)), (.int nq)]))) (fun tt_ kk_ => XS.iload X23.here hx rfl (hb hby at_342) rfl kk_) ?_
                      refine own_pre (S' := (T23.setTop (mkF m 346 #[.val (.long i0), .second, .val (.int i1), .val (.int i2), .val (.int i3), .val (.int nq), .val (.int y0), .val (.int y1), .val (.int y2), .val (.int y3), .val (.int y4), .val (.int y5), .val (.int y6), .val (.int y7), .val (.int y8), .val (.int qq), .val (.ref b10), .unset] [(.int qq), (.int y8), (.int (8 : Int32)), (.int nq)]))) (fun tt_ kk_ => XS.iload X23.here hx rfl (hb hby at_344) rfl kk_) ?_
                      refine own_callS (y := (⟨"com/example/kunci/kunci/NumberSetContainsPinLaw", "hit", "(IIII)Z"⟩ : MethodName)) X23 hx hZ hown (hw _ (List.mem_of_getElem? (i := 51) rfl)) (hw _ (List.mem_of_getElem? (i := 52) rfl)) (hw _ (List.mem_of_getElem? (i := 3) rfl)) (hw _ (List.mem_of_getElem? (i := 53) rfl)) (by decide) hh23 (hM := own_hit l Z a0 hw [] nq (8 : Int32) y8 qq hp15 n0 zs15) (W := 0) (pc := 346) (Ls := #[.val (.long i0), .second, .val (.int i1), .val (.int i2), .val (.int i3), .val (.int nq), .val (.int y0), .val (.int y1), .val (.int y2), .val (.int y3), .val (.int y4), .val (.int y5), .val (.int y6), .val (.int y7), .val (.int y8), .val (.int qq), .val (.ref b10), .unset]) (argsL := [(.int nq), (.int (8 : Int32)), (.int y8), (.int qq)]) (rest := []) (st0 := [(.int qq), (.int y8), (.int (8 : Int32)), (.int nq)]) (by rw [hml]; rfl) (lenOf own_pd7 rfl) rfl (Nat.le_of_eq rfl) (hb hby at_346) (by decide) (by decide) (by decide) (by decide) ?_
                      intro v24 T24 L24 X24 hQ24
                      obtain ⟨r24, rfl, hr24, Nq24, hh24⟩ := hQ24
                      have N24 := Fr.app N23 Nq24
                      show own_Ends p e below s _ _ _ (T24.setTop (mkF m 349 #[.val (.long i0), .second, .val (.int i1), .val (.int i2), .val (.int i3), .val (.int nq), .val (.int y0), .val (.int y1), .val (.int y2), .val (.int y3), .val (.int y4), .val (.int y5), .val (.int y6), .val (.int y7), .val (.int y8), .val (.int qq), .val (.ref b10), .unset] [(.int r24)]))
                      rcases hr24 with ⟨rfl, hp8⟩ | ⟨rfl, hp8⟩
                      ·
                        show own_Ends p e below s _ _ _ (T24.setTop (mkF m 349 #[.val (.long i0), .second, .val (.int i1), .val (.int i2), .val (.int i3), .val (.int nq), .val (.int y0), .val (.int y1), .val (.int y2), .val (.int y3), .val (.int y4), .val (.int y5), .val (.int y6), .val (.int y7), .val (.int y8), .val (.int qq), .val (.ref b10), .unset] [(.int (1 : Int32))]))
                        refine own_pre (S' := (T24.setTop (mkF m 352 #[.val (.long i0), .second, .val (.int i1), .val (.int i2), .val (.int i3), .val (.int nq), .val (.int y0), .val (.int y1), .val (.int y2), .val (.int y3), .val (.int y4), .val (.int y5), .val (.int y6), .val (.int y7), .val (.int y8), .val (.int qq), .val (.ref b10), .unset] []))) (fun tt_ kk_ => XS.ifNo X24.here hx rfl (hb hby at_349) rfl ((if0 _ _).trans (feq (by decide : ¬ ((1 : Int32) = (0 : Int32)))).1) kk_) ?_
                        refine own_pre (S' := (T24.setTop (mkF m 353 #[.val (.long i0), .second, .val (.int i1), .val (.int i2), .val (.int i3), .val (.int nq), .val (.int y0), .val (.int y1), .val (.int y2), .val (.int y3), .val (.int y4), .val (.int y5), .val (.int y6), .val (.int y7), .val (.int y8), .val (.int qq), .val (.ref b10), .unset] [(.int (1 : Int32))]))) (fun tt_ kk_ => XS.iconst X24.here hx rfl (hb hby at_352) kk_) ?_
                        refine own_pre (S' := (T24.setTop (mkF m 357 #[.val (.long i0), .second, .val (.int i1), .val (.int i2), .val (.int i3), .val (.int nq), .val (.int y0), .val (.int y1), .val (.int y2), .val (.int y3), .val (.int y4), .val (.int y5), .val (.int y6), .val (.int y7), .val (.int y8), .val (.int qq), .val (.ref b10), .unset] [(.int (1 : Int32))]))) (fun tt_ kk_ => XS.goto X24.here hx rfl (pc0 := 353) (pc' := 357) rfl (hb hby at_353) (by decide) (by decide) kk_) ?_
                        exact JE (1 : Int32) T24 _ _ X24 hh24 N24 zs15 zz15 f15_0 hD (Or.inl ⟨rfl, Or.inr hp8⟩)
                      ·
                        show own_Ends p e below s _ _ _ (T24.setTop (mkF m 349 #[.val (.long i0), .second, .val (.int i1), .val (.int i2), .val (.int i3), .val (.int nq), .val (.int y0), .val (.int y1), .val (.int y2), .val (.int y3), .val (.int y4), .val (.int y5), .val (.int y6), .val (.int y7), .val (.int y8), .val (.int qq), .val (.ref b10), .unset] [(.int (0 : Int32))]))
                        refine own_pre (S' := (T24.setTop (mkF m 356 #[.val (.long i0), .second, .val (.int i1), .val (.int i2), .val (.int i3), .val (.int nq), .val (.int y0), .val (.int y1), .val (.int y2), .val (.int y3), .val (.int y4), .val (.int y5), .val (.int y6), .val (.int y7), .val (.int y8), .val (.int qq), .val (.ref b10), .unset] []))) (fun tt_ kk_ => XS.ifYes X24.here hx rfl (pc0 := 349) (pc' := 356) rfl (hb hby at_349) rfl ((if0 _ _).trans (teq (by decide : ((0 : Int32) = (0 : Int32)))).1) (by decide) (by decide) kk_) ?_
                        refine own_pre (S' := (T24.setTop (mkF m 357 #[.val (.long i0), .second, .val (.int i1), .val (.int i2), .val (.int i3), .val (.int nq), .val (.int y0), .val (.int y1), .val (.int y2), .val (.int y3), .val (.int y4), .val (.int y5), .val (.int y6), .val (.int y7), .val (.int y8), .val (.int qq), .val (.ref b10), .unset] [(.int (0 : Int32))]))) (fun tt_ kk_ => XS.iconst X24.here hx rfl (hb hby at_356) kk_) ?_
                        exact JE (0 : Int32) T24 _ _ X24 hh24 N24 zs15 zz15 f15_0 hD (Or.inr ⟨rfl, own_Rno hp0 hp1 hp2 hp3 hp4 hp5 hp6 hp7 hp8⟩)
    have J8 : ∀ (len : Nat) (cap : Nat) (g : Nat → Int32) (T25 : State) (lc25 : List Loc) (hp25 : Heap) (X25 : Stand p l e room_1 s m #[(.long i0), (.int i1), (.int i2), (.int i3)] below meth c T25 lc25 10 67) (e25 : T25.heap = hp25) (N25 : Fr n0 lc25) (zs25 : n0 ≤ hp25.size) (zz25 : h0.size ≤ hp25.size) (f25_0 : Sta Z hp25 "java/util/BitSet" "$assertionsDisabled" "Z" (.int (1 : Int32))) (hF : own_few n0 Z hp25 b10 len cap g) (hl : len ≤ 8) (hm : ∀ v, own_mem len g v ↔ own_R8 nq y0 y1 y2 y3 y4 y5 y6 y7 y8 v), own_Ends p e below s (fun v h L => v = some (.int 1) ∧ Fr n0 L) room_1.cells room_1.slots (T25.setTop (mkF m 217 #[.val (.long i0), .second, .val (.int i1), .val (.int i2), .val (.int i3), .val (.int nq), .val (.int y0), .val (.int y1), .val (.int y2), .val (.int y3), .val (.int y4), .val (.int y5), .val (.int y6), .val (.int y7), .val (.int y8), .val (.int qq), .val (.ref b10), .unset] [])) := by
      intro len cap g T25 lc25 hp25 X25 e25 N25 zs25 zz25 f25_0 hF hl hm
      refine own_pre (S' := (T25.setTop (mkF m 219 #[.val (.long i0), .second, .val (.int i1), .val (.int i2), .val (.int i3), .val (.int nq), .val (.int y0), .val (.int y1), .val (.int y2), .val (.int y3), .val (.int y4), .val (.int y5), .val (.int y6), .val (.int y7), .val (.int y8), .val (.int qq), .val (.ref b10), .unset] [(.int nq)]))) (fun tt_ kk_ => XS.iload X25.here hx rfl (hb hby at_217) rfl kk_) ?_
      refine own_pre (S' := (T25.setTop (mkF m 221 #[.val (.long i0), .second, .val (.int i1), .val (.int i2), .val (.int i3), .val (.int nq), .val (.int y0), .val (.int y1), .val (.int y2), .val (.int y3), .val (.int y4), .val (.int y5), .val (.int y6), .val (.int y7), .val (.int y8), .val (.int qq), .val (.ref b10), .unset] [(.int (8 : Int32)), (.int nq)]))) (fun tt_ kk_ => XS.bipush X25.here hx rfl (hb hby at_219) kk_) ?_
      by_cases c221 : (8 : Int32) < nq
      · -- pc 221: (8 : Int32) < nq
        refine own_pre (S' := (T25.setTop (mkF m 224 #[.val (.long i0), .second, .val (.int i1), .val (.int i2), .val (.int i3), .val (.int nq), .val (.int y0), .val (.int y1), .val (.int y2), .val (.int y3), .val (.int y4), .val (.int y5), .val (.int y6), .val (.int y7), .val (.int y8), .val (.int qq), .val (.ref b10), .unset] []))) (fun tt_ kk_ => XS.icmpNo X25.here hx rfl (hb hby at_221) rfl (tlt c221).2.2.2 kk_) ?_
        refine own_pre (S' := (T25.setTop (mkF m 226 #[.val (.long i0), .second, .val (.int i1), .val (.int i2), .val (.int i3), .val (.int nq), .val (.int y0), .val (.int y1), .val (.int y2), .val (.int y3), .val (.int y4), .val (.int y5), .val (.int y6), .val (.int y7), .val (.int y8), .val (.int qq), .val (.ref b10), .unset] [(.ref b10)]))) (fun tt_ kk_ => XS.aload X25.here hx rfl (hb hby at_224) rfl rfl kk_) ?_
        refine own_pre (S' := (T25.setTop (mkF m 228 #[.val (.long i0), .second, .val (.int i1), .val (.int i2), .val (.int i3), .val (.int nq), .val (.int y0), .val (.int y1), .val (.int y2), .val (.int y3), .val (.int y4), .val (.int y5), .val (.int y6), .val (.int y7), .val (.int y8), .val (.int qq), .val (.ref b10), .unset] [(.int y8), (.ref b10)]))) (fun tt_ kk_ => XS.iload X25.here hx rfl (hb hby at_226) rfl kk_) ?_
        rcases Nat.lt_or_ge len 8 with h7 | h8
        ·
          refine own_callV (C := "com/example/kunci/kunci/NumberSet") (y := (⟨"com/example/kunci/kunci/NumberSet", "add", "(I)Z"⟩ : MethodName)) (b := b10) X25 hx hZ hown (hw _ (List.mem_of_getElem? (i := 18) rfl)) (hw _ (List.mem_of_getElem? (i := 19) rfl)) (hw _ (List.mem_of_getElem? (i := 21) rfl)) (hw _ (List.mem_of_getElem? (i := 20) rfl)) (hw _ (List.mem_of_getElem? (i := 22) rfl)) (hw _ (List.mem_of_getElem? (i := 8) rfl)) (by decide) e25 hF.exa (hM := own_addf l Z a0 hw [] b10 len cap y8 g hp25 n0 zs25 (Nat.le_of_lt_succ h7) hF f25_0) (W := 0) (pc := 228) (Ls := #[.val (.long i0), .second, .val (.int i1), .val (.int i2), .val (.int i3), .val (.int nq), .val (.int y0), .val (.int y1), .val (.int y2), .val (.int y3), .val (.int y4), .val (.int y5), .val (.int y6), .val (.int y7), .val (.int y8), .val (.int qq), .val (.ref b10), .unset]) (argsL := [(.int y8)]) (rest := []) (st0 := [(.int y8), (.ref b10)]) (by rw [hml]; rfl) (lenOf own_pd0 rfl) rfl (Nat.le_of_eq rfl) (hb hby at_228) (by decide) (by decide) (by decide) (by decide) ?_
          intro v26 T26 L26 X26 hQ26
          obtain ⟨r26, l26, k26, g26, rfl, hr26, Nq26, hF26, hm26, gz26, ad26⟩ := hQ26
          have N26 := Fr.app N25 Nq26
          show own_Ends p e below s _ _ _ (T26.setTop (mkF m 231 #[.val (.long i0), .second, .val (.int i1), .val (.int i2), .val (.int i3), .val (.int nq), .val (.int y0), .val (.int y1), .val (.int y2), .val (.int y3), .val (.int y4), .val (.int y5), .val (.int y6), .val (.int y7), .val (.int y8), .val (.int qq), .val (.ref b10), .unset] [(.int r26)]))
          have hl26 : l26 ≤ 9 := own_ll hr26 hl
          have hn26 : ∀ v, own_mem l26 g26 v ↔ own_R9 nq y0 y1 y2 y3 y4 y5 y6 y7 y8 v := fun v => own_Ry (hm26 v) (hm v) c221
          have zs26 := Nat.le_trans zs25 gz26
          have zz26 := Nat.le_trans zz25 gz26
          refine own_pre (S' := (T26.setTop (mkF m 232 #[.val (.long i0), .second, .val (.int i1), .val (.int i2), .val (.int i3), .val (.int nq), .val (.int y0), .val (.int y1), .val (.int y2), .val (.int y3), .val (.int y4), .val (.int y5), .val (.int y6), .val (.int y7), .val (.int y8), .val (.int qq), .val (.ref b10), .unset] []))) (fun tt_ kk_ => XS.pop X26.here hx rfl (hb hby at_231) rfl rfl kk_) ?_
          exact J9 T26 _ _ (own_Smono X26 (by decide) (by decide)) (rfl : T26.heap = T26.heap) N26 zs26 zz26 ad26 (Or.inl ⟨l26, k26, g26, hF26, hn26⟩)
        ·
          obtain rfl : len = 8 := Nat.le_antisymm hl h8
          obtain rfl := hF.cap8 rfl
          refine own_callV (C := "com/example/kunci/kunci/NumberSet") (y := (⟨"com/example/kunci/kunci/NumberSet", "add", "(I)Z"⟩ : MethodName)) (b := b10) X25 hx hZ hown (hw _ (List.mem_of_getElem? (i := 18) rfl)) (hw _ (List.mem_of_getElem? (i := 19) rfl)) (hw _ (List.mem_of_getElem? (i := 21) rfl)) (hw _ (List.mem_of_getElem? (i := 20) rfl)) (hw _ (List.mem_of_getElem? (i := 22) rfl)) (hw _ (List.mem_of_getElem? (i := 8) rfl)) (by decide) e25 hF.exa (hM := own_add8 l Z a0 hw [] b10 y8 g hp25 n0 zs25 hF hy8 (fun i hi => own_Rin hy0 hy1 hy2 hy3 hy4 hy5 hy6 hy7 hy8 (Or.inl ((hm _).mp ⟨i, hi, rfl⟩))) f25_0) (W := 0) (pc := 228) (Ls := #[.val (.long i0), .second, .val (.int i1), .val (.int i2), .val (.int i3), .val (.int nq), .val (.int y0), .val (.int y1), .val (.int y2), .val (.int y3), .val (.int y4), .val (.int y5), .val (.int y6), .val (.int y7), .val (.int y8), .val (.int qq), .val (.ref b10), .unset]) (argsL := [(.int y8)]) (rest := []) (st0 := [(.int y8), (.ref b10)]) (by rw [hml]; rfl) (lenOf own_pd0 rfl) rfl (Nat.le_of_eq rfl) (hb hby at_228) (by decide) (by decide) (by decide) (by decide) ?_
          intro v27 T27 L27 X27 hQ27
          obtain ⟨r27, rfl, Nq27, gz27, ad27, hD27⟩ := hQ27
          have N27 := Fr.app N25 Nq27
          show own_Ends p e below s _ _ _ (T27.setTop (mkF m 231 #[.val (.long i0), .second, .val (.int i1), .val (.int i2), .val (.int i3), .val (.int nq), .val (.int y0), .val (.int y1), .val (.int y2), .val (.int y3), .val (.int y4), .val (.int y5), .val (.int y6), .val (.int y7), .val (.int y8), .val (.int qq), .val (.ref b10), .unset] [(.int r27)]))
          have zs27 := Nat.le_trans zs25 gz27
          have zz27 := Nat.le_trans zz25 gz27
          have hE27 : (∃ (len cap : Nat) (g : Nat → Int32), own_few n0 Z T27.heap b10 len cap g ∧ ∀ v, own_mem len g v ↔ own_R9 nq y0 y1 y2 y3 y4 y5 y6 y7 y8 v) ∨ ∃ u : Int64, own_bs Z T27.heap b10 u ∧ ∀ v, own_in6 v → (¬ (u &&& ((1 : Int64) <<< (v &&& 0x3f).toInt64)) = 0 ↔ own_R9 nq y0 y1 y2 y3 y4 y5 y6 y7 y8 v) := hD27.elim (fun z => Or.inl ⟨8, 8, g, z.2, fun v => own_Ry (own_mem_self z.1 v) (hm v) c221⟩) (fun ⟨u, z⟩ => Or.inr ⟨u, z.1, fun v hv => own_Ry (z.2 v hv) (hm v) c221⟩)
          refine own_pre (S' := (T27.setTop (mkF m 232 #[.val (.long i0), .second, .val (.int i1), .val (.int i2), .val (.int i3), .val (.int nq), .val (.int y0), .val (.int y1), .val (.int y2), .val (.int y3), .val (.int y4), .val (.int y5), .val (.int y6), .val (.int y7), .val (.int y8), .val (.int qq), .val (.ref b10), .unset] []))) (fun tt_ kk_ => XS.pop X27.here hx rfl (hb hby at_231) rfl rfl kk_) ?_
          exact J9 T27 _ _ (own_Smono X27 (by decide) (by decide)) (rfl : T27.heap = T27.heap) N27 zs27 zz27 ad27 hE27
      · -- pc 221: not (8 : Int32) < nq
        refine own_pre (S' := (T25.setTop (mkF m 232 #[.val (.long i0), .second, .val (.int i1), .val (.int i2), .val (.int i3), .val (.int nq), .val (.int y0), .val (.int y1), .val (.int y2), .val (.int y3), .val (.int y4), .val (.int y5), .val (.int y6), .val (.int y7), .val (.int y8), .val (.int qq), .val (.ref b10), .unset] []))) (fun tt_ kk_ => XS.icmpYes X25.here hx rfl (pc0 := 221) (pc' := 232) rfl (hb hby at_221) rfl (flt c221).2.2.2 (by decide) (by decide) kk_) ?_
        have hno : ∀ v, own_mem len g v ↔ own_R9 nq y0 y1 y2 y3 y4 y5 y6 y7 y8 v := fun v => own_Rn (hm v) c221
        exact J9 T25 _ _ (own_Smono X25 (by decide) (by decide)) e25 N25 zs25 zz25 f25_0 (Or.inl ⟨len, cap, g, hF, hno⟩)
    have J7 : ∀ (len : Nat) (cap : Nat) (g : Nat → Int32) (T28 : State) (lc28 : List Loc) (hp28 : Heap) (X28 : Stand p l e room_1 s m #[(.long i0), (.int i1), (.int i2), (.int i3)] below meth c T28 lc28 9 59) (e28 : T28.heap = hp28) (N28 : Fr n0 lc28) (zs28 : n0 ≤ hp28.size) (zz28 : h0.size ≤ hp28.size) (f28_0 : Sta Z hp28 "java/util/BitSet" "$assertionsDisabled" "Z" (.int (1 : Int32))) (hF : own_few n0 Z hp28 b10 len cap g) (hl : len ≤ 7) (hm : ∀ v, own_mem len g v ↔ own_R7 nq y0 y1 y2 y3 y4 y5 y6 y7 y8 v), own_Ends p e below s (fun v h L => v = some (.int 1) ∧ Fr n0 L) room_1.cells room_1.slots (T28.setTop (mkF m 202 #[.val (.long i0), .second, .val (.int i1), .val (.int i2), .val (.int i3), .val (.int nq), .val (.int y0), .val (.int y1), .val (.int y2), .val (.int y3), .val (.int y4), .val (.int y5), .val (.int y6), .val (.int y7), .val (.int y8), .val (.int qq), .val (.ref b10), .unset] [])) := by
      intro len cap g T28 lc28 hp28 X28 e28 N28 zs28 zz28 f28_0 hF hl hm
      refine own_pre (S' := (T28.setTop (mkF m 204 #[.val (.long i0), .second, .val (.int i1), .val (.int i2), .val (.int i3), .val (.int nq), .val (.int y0), .val (.int y1), .val (.int y2), .val (.int y3), .val (.int y4), .val (.int y5), .val (.int y6), .val (.int y7), .val (.int y8), .val (.int qq), .val (.ref b10), .unset] [(.int nq)]))) (fun tt_ kk_ => XS.iload X28.here hx rfl (hb hby at_202) rfl kk_) ?_
      refine own_pre (S' := (T28.setTop (mkF m 206 #[.val (.long i0), .second, .val (.int i1), .val (.int i2), .val (.int i3), .val (.int nq), .val (.int y0), .val (.int y1), .val (.int y2), .val (.int y3), .val (.int y4), .val (.int y5), .val (.int y6), .val (.int y7), .val (.int y8), .val (.int qq), .val (.ref b10), .unset] [(.int (7 : Int32)), (.int nq)]))) (fun tt_ kk_ => XS.bipush X28.here hx rfl (hb hby at_204) kk_) ?_
      by_cases c206 : (7 : Int32) < nq
      · -- pc 206: (7 : Int32) < nq
        refine own_pre (S' := (T28.setTop (mkF m 209 #[.val (.long i0), .second, .val (.int i1), .val (.int i2), .val (.int i3), .val (.int nq), .val (.int y0), .val (.int y1), .val (.int y2), .val (.int y3), .val (.int y4), .val (.int y5), .val (.int y6), .val (.int y7), .val (.int y8), .val (.int qq), .val (.ref b10), .unset] []))) (fun tt_ kk_ => XS.icmpNo X28.here hx rfl (hb hby at_206) rfl (tlt c206).2.2.2 kk_) ?_
        refine own_pre (S' := (T28.setTop (mkF m 211 #[.val (.long i0), .second, .val (.int i1), .val (.int i2), .val (.int i3), .val (.int nq), .val (.int y0), .val (.int y1), .val (.int y2), .val (.int y3), .val (.int y4), .val (.int y5), .val (.int y6), .val (.int y7), .val (.int y8), .val (.int qq), .val (.ref b10), .unset] [(.ref b10)]))) (fun tt_ kk_ => XS.aload X28.here hx rfl (hb hby at_209) rfl rfl kk_) ?_
        refine own_pre (S' := (T28.setTop (mkF m 213 #[.val (.long i0), .second, .val (.int i1), .val (.int i2), .val (.int i3), .val (.int nq), .val (.int y0), .val (.int y1), .val (.int y2), .val (.int y3), .val (.int y4), .val (.int y5), .val (.int y6), .val (.int y7), .val (.int y8), .val (.int qq), .val (.ref b10), .unset] [(.int y7), (.ref b10)]))) (fun tt_ kk_ => XS.iload X28.here hx rfl (hb hby at_211) rfl kk_) ?_
        refine own_callV (C := "com/example/kunci/kunci/NumberSet") (y := (⟨"com/example/kunci/kunci/NumberSet", "add", "(I)Z"⟩ : MethodName)) (b := b10) X28 hx hZ hown (hw _ (List.mem_of_getElem? (i := 18) rfl)) (hw _ (List.mem_of_getElem? (i := 19) rfl)) (hw _ (List.mem_of_getElem? (i := 21) rfl)) (hw _ (List.mem_of_getElem? (i := 20) rfl)) (hw _ (List.mem_of_getElem? (i := 22) rfl)) (hw _ (List.mem_of_getElem? (i := 8) rfl)) (by decide) e28 hF.exa (hM := own_addf l Z a0 hw [] b10 len cap y7 g hp28 n0 zs28 (Nat.le_trans hl (by decide)) hF f28_0) (W := 0) (pc := 213) (Ls := #[.val (.long i0), .second, .val (.int i1), .val (.int i2), .val (.int i3), .val (.int nq), .val (.int y0), .val (.int y1), .val (.int y2), .val (.int y3), .val (.int y4), .val (.int y5), .val (.int y6), .val (.int y7), .val (.int y8), .val (.int qq), .val (.ref b10), .unset]) (argsL := [(.int y7)]) (rest := []) (st0 := [(.int y7), (.ref b10)]) (by rw [hml]; rfl) (lenOf own_pd0 rfl) rfl (Nat.le_of_eq rfl) (hb hby at_213) (by decide) (by decide) (by decide) (by decide) ?_
        intro v29 T29 L29 X29 hQ29
        obtain ⟨r29, l29, k29, g29, rfl, hr29, Nq29, hF29, hm29, gz29, ad29⟩ := hQ29
        have N29 := Fr.app N28 Nq29
        show own_Ends p e below s _ _ _ (T29.setTop (mkF m 216 #[.val (.long i0), .second, .val (.int i1), .val (.int i2), .val (.int i3), .val (.int nq), .val (.int y0), .val (.int y1), .val (.int y2), .val (.int y3), .val (.int y4), .val (.int y5), .val (.int y6), .val (.int y7), .val (.int y8), .val (.int qq), .val (.ref b10), .unset] [(.int r29)]))
        have hl29 : l29 ≤ 8 := own_ll hr29 hl
        have hn29 : ∀ v, own_mem l29 g29 v ↔ own_R8 nq y0 y1 y2 y3 y4 y5 y6 y7 y8 v := fun v => own_Ry (hm29 v) (hm v) c206
        have zs29 := Nat.le_trans zs28 gz29
        have zz29 := Nat.le_trans zz28 gz29
        refine own_pre (S' := (T29.setTop (mkF m 217 #[.val (.long i0), .second, .val (.int i1), .val (.int i2), .val (.int i3), .val (.int nq), .val (.int y0), .val (.int y1), .val (.int y2), .val (.int y3), .val (.int y4), .val (.int y5), .val (.int y6), .val (.int y7), .val (.int y8), .val (.int qq), .val (.ref b10), .unset] []))) (fun tt_ kk_ => XS.pop X29.here hx rfl (hb hby at_216) rfl rfl kk_) ?_
        exact J8 l29 k29 g29 T29 _ _ (own_Smono X29 (by decide) (by decide)) (rfl : T29.heap = T29.heap) N29 zs29 zz29 ad29 hF29 hl29 hn29
      · -- pc 206: not (7 : Int32) < nq
        refine own_pre (S' := (T28.setTop (mkF m 217 #[.val (.long i0), .second, .val (.int i1), .val (.int i2), .val (.int i3), .val (.int nq), .val (.int y0), .val (.int y1), .val (.int y2), .val (.int y3), .val (.int y4), .val (.int y5), .val (.int y6), .val (.int y7), .val (.int y8), .val (.int qq), .val (.ref b10), .unset] []))) (fun tt_ kk_ => XS.icmpYes X28.here hx rfl (pc0 := 206) (pc' := 217) rfl (hb hby at_206) rfl (flt c206).2.2.2 (by decide) (by decide) kk_) ?_
        have hno : ∀ v, own_mem len g v ↔ own_R8 nq y0 y1 y2 y3 y4 y5 y6 y7 y8 v := fun v => own_Rn (hm v) c206
        exact J8 len cap g T28 _ _ (own_Smono X28 (by decide) (by decide)) e28 N28 zs28 zz28 f28_0 hF (Nat.le_succ_of_le hl) hno
    have J6 : ∀ (len : Nat) (cap : Nat) (g : Nat → Int32) (T30 : State) (lc30 : List Loc) (hp30 : Heap) (X30 : Stand p l e room_1 s m #[(.long i0), (.int i1), (.int i2), (.int i3)] below meth c T30 lc30 8 51) (e30 : T30.heap = hp30) (N30 : Fr n0 lc30) (zs30 : n0 ≤ hp30.size) (zz30 : h0.size ≤ hp30.size) (f30_0 : Sta Z hp30 "java/util/BitSet" "$assertionsDisabled" "Z" (.int (1 : Int32))) (hF : own_few n0 Z hp30 b10 len cap g) (hl : len ≤ 6) (hm : ∀ v, own_mem len g v ↔ own_R6 nq y0 y1 y2 y3 y4 y5 y6 y7 y8 v), own_Ends p e below s (fun v h L => v = some (.int 1) ∧ Fr n0 L) room_1.cells room_1.slots (T30.setTop (mkF m 187 #[.val (.long i0), .second, .val (.int i1), .val (.int i2), .val (.int i3), .val (.int nq), .val (.int y0), .val (.int y1), .val (.int y2), .val (.int y3), .val (.int y4), .val (.int y5), .val (.int y6), .val (.int y7), .val (.int y8), .val (.int qq), .val (.ref b10), .unset] [])) := by
      intro len cap g T30 lc30 hp30 X30 e30 N30 zs30 zz30 f30_0 hF hl hm
      refine own_pre (S' := (T30.setTop (mkF m 189 #[.val (.long i0), .second, .val (.int i1), .val (.int i2), .val (.int i3), .val (.int nq), .val (.int y0), .val (.int y1), .val (.int y2), .val (.int y3), .val (.int y4), .val (.int y5), .val (.int y6), .val (.int y7), .val (.int y8), .val (.int qq), .val (.ref b10), .unset] [(.int nq)]))) (fun tt_ kk_ => XS.iload X30.here hx rfl (hb hby at_187) rfl kk_) ?_
      refine own_pre (S' := (T30.setTop (mkF m 191 #[.val (.long i0), .second, .val (.int i1), .val (.int i2), .val (.int i3), .val (.int nq), .val (.int y0), .val (.int y1), .val (.int y2), .val (.int y3), .val (.int y4), .val (.int y5), .val (.int y6), .val (.int y7), .val (.int y8), .val (.int qq), .val (.ref b10), .unset] [(.int (6 : Int32)), (.int nq)]))) (fun tt_ kk_ => XS.bipush X30.here hx rfl (hb hby at_189) kk_) ?_
      by_cases c191 : (6 : Int32) < nq
      · -- pc 191: (6 : Int32) < nq
        refine own_pre (S' := (T30.setTop (mkF m 194 #[.val (.long i0), .second, .val (.int i1), .val (.int i2), .val (.int i3), .val (.int nq), .val (.int y0), .val (.int y1), .val (.int y2), .val (.int y3), .val (.int y4), .val (.int y5), .val (.int y6), .val (.int y7), .val (.int y8), .val (.int qq), .val (.ref b10), .unset] []))) (fun tt_ kk_ => XS.icmpNo X30.here hx rfl (hb hby at_191) rfl (tlt c191).2.2.2 kk_) ?_
        refine own_pre (S' := (T30.setTop (mkF m 196 #[.val (.long i0), .second, .val (.int i1), .val (.int i2), .val (.int i3), .val (.int nq), .val (.int y0), .val (.int y1), .val (.int y2), .val (.int y3), .val (.int y4), .val (.int y5), .val (.int y6), .val (.int y7), .val (.int y8), .val (.int qq), .val (.ref b10), .unset] [(.ref b10)]))) (fun tt_ kk_ => XS.aload X30.here hx rfl (hb hby at_194) rfl rfl kk_) ?_
        refine own_pre (S' := (T30.setTop (mkF m 198 #[.val (.long i0), .second, .val (.int i1), .val (.int i2), .val (.int i3), .val (.int nq), .val (.int y0), .val (.int y1), .val (.int y2), .val (.int y3), .val (.int y4), .val (.int y5), .val (.int y6), .val (.int y7), .val (.int y8), .val (.int qq), .val (.ref b10), .unset] [(.int y6), (.ref b10)]))) (fun tt_ kk_ => XS.iload X30.here hx rfl (hb hby at_196) rfl kk_) ?_
        refine own_callV (C := "com/example/kunci/kunci/NumberSet") (y := (⟨"com/example/kunci/kunci/NumberSet", "add", "(I)Z"⟩ : MethodName)) (b := b10) X30 hx hZ hown (hw _ (List.mem_of_getElem? (i := 18) rfl)) (hw _ (List.mem_of_getElem? (i := 19) rfl)) (hw _ (List.mem_of_getElem? (i := 21) rfl)) (hw _ (List.mem_of_getElem? (i := 20) rfl)) (hw _ (List.mem_of_getElem? (i := 22) rfl)) (hw _ (List.mem_of_getElem? (i := 8) rfl)) (by decide) e30 hF.exa (hM := own_addf l Z a0 hw [] b10 len cap y6 g hp30 n0 zs30 (Nat.le_trans hl (by decide)) hF f30_0) (W := 0) (pc := 198) (Ls := #[.val (.long i0), .second, .val (.int i1), .val (.int i2), .val (.int i3), .val (.int nq), .val (.int y0), .val (.int y1), .val (.int y2), .val (.int y3), .val (.int y4), .val (.int y5), .val (.int y6), .val (.int y7), .val (.int y8), .val (.int qq), .val (.ref b10), .unset]) (argsL := [(.int y6)]) (rest := []) (st0 := [(.int y6), (.ref b10)]) (by rw [hml]; rfl) (lenOf own_pd0 rfl) rfl (Nat.le_of_eq rfl) (hb hby at_198) (by decide) (by decide) (by decide) (by decide) ?_
        intro v31 T31 L31 X31 hQ31
        obtain ⟨r31, l31, k31, g31, rfl, hr31, Nq31, hF31, hm31, gz31, ad31⟩ := hQ31
        have N31 := Fr.app N30 Nq31
        show own_Ends p e below s _ _ _ (T31.setTop (mkF m 201 #[.val (.long i0), .second, .val (.int i1), .val (.int i2), .val (.int i3), .val (.int nq), .val (.int y0), .val (.int y1), .val (.int y2), .val (.int y3), .val (.int y4), .val (.int y5), .val (.int y6), .val (.int y7), .val (.int y8), .val (.int qq), .val (.ref b10), .unset] [(.int r31)]))
        have hl31 : l31 ≤ 7 := own_ll hr31 hl
        have hn31 : ∀ v, own_mem l31 g31 v ↔ own_R7 nq y0 y1 y2 y3 y4 y5 y6 y7 y8 v := fun v => own_Ry (hm31 v) (hm v) c191
        have zs31 := Nat.le_trans zs30 gz31
        have zz31 := Nat.le_trans zz30 gz31
        refine own_pre (S' := (T31.setTop (mkF m 202 #[.val (.long i0), .second, .val (.int i1), .val (.int i2), .val (.int i3), .val (.int nq), .val (.int y0), .val (.int y1), .val (.int y2), .val (.int y3), .val (.int y4), .val (.int y5), .val (.int y6), .val (.int y7), .val (.int y8), .val (.int qq), .val (.ref b10), .unset] []))) (fun tt_ kk_ => XS.pop X31.here hx rfl (hb hby at_201) rfl rfl kk_) ?_
        exact J7 l31 k31 g31 T31 _ _ (own_Smono X31 (by decide) (by decide)) (rfl : T31.heap = T31.heap) N31 zs31 zz31 ad31 hF31 hl31 hn31
      · -- pc 191: not (6 : Int32) < nq
        refine own_pre (S' := (T30.setTop (mkF m 202 #[.val (.long i0), .second, .val (.int i1), .val (.int i2), .val (.int i3), .val (.int nq), .val (.int y0), .val (.int y1), .val (.int y2), .val (.int y3), .val (.int y4), .val (.int y5), .val (.int y6), .val (.int y7), .val (.int y8), .val (.int qq), .val (.ref b10), .unset] []))) (fun tt_ kk_ => XS.icmpYes X30.here hx rfl (pc0 := 191) (pc' := 202) rfl (hb hby at_191) rfl (flt c191).2.2.2 (by decide) (by decide) kk_) ?_
        have hno : ∀ v, own_mem len g v ↔ own_R7 nq y0 y1 y2 y3 y4 y5 y6 y7 y8 v := fun v => own_Rn (hm v) c191
        exact J7 len cap g T30 _ _ (own_Smono X30 (by decide) (by decide)) e30 N30 zs30 zz30 f30_0 hF (Nat.le_succ_of_le hl) hno
    have J5 : ∀ (len : Nat) (cap : Nat) (g : Nat → Int32) (T32 : State) (lc32 : List Loc) (hp32 : Heap) (X32 : Stand p l e room_1 s m #[(.long i0), (.int i1), (.int i2), (.int i3)] below meth c T32 lc32 7 43) (e32 : T32.heap = hp32) (N32 : Fr n0 lc32) (zs32 : n0 ≤ hp32.size) (zz32 : h0.size ≤ hp32.size) (f32_0 : Sta Z hp32 "java/util/BitSet" "$assertionsDisabled" "Z" (.int (1 : Int32))) (hF : own_few n0 Z hp32 b10 len cap g) (hl : len ≤ 5) (hm : ∀ v, own_mem len g v ↔ own_R5 nq y0 y1 y2 y3 y4 y5 y6 y7 y8 v), own_Ends p e below s (fun v h L => v = some (.int 1) ∧ Fr n0 L) room_1.cells room_1.slots (T32.setTop (mkF m 173 #[.val (.long i0), .second, .val (.int i1), .val (.int i2), .val (.int i3), .val (.int nq), .val (.int y0), .val (.int y1), .val (.int y2), .val (.int y3), .val (.int y4), .val (.int y5), .val (.int y6), .val (.int y7), .val (.int y8), .val (.int qq), .val (.ref b10), .unset] [])) := by
      intro len cap g T32 lc32 hp32 X32 e32 N32 zs32 zz32 f32_0 hF hl hm
      refine own_pre (S' := (T32.setTop (mkF m 175 #[.val (.long i0), .second, .val (.int i1), .val (.int i2), .val (.int i3), .val (.int nq), .val (.int y0), .val (.int y1), .val (.int y2), .val (.int y3), .val (.int y4), .val (.int y5), .val (.int y6), .val (.int y7), .val (.int y8), .val (.int qq), .val (.ref b10), .unset] [(.int nq)]))) (fun tt_ kk_ => XS.iload X32.here hx rfl (hb hby at_173) rfl kk_) ?_
      refine own_pre (S' := (T32.setTop (mkF m 176 #[.val (.long i0), .second, .val (.int i1), .val (.int i2), .val (.int i3), .val (.int nq), .val (.int y0), .val (.int y1), .val (.int y2), .val (.int y3), .val (.int y4), .val (.int y5), .val (.int y6), .val (.int y7), .val (.int y8), .val (.int qq), .val (.ref b10), .unset] [(.int (5 : Int32)), (.int nq)]))) (fun tt_ kk_ => XS.iconst X32.here hx rfl (hb hby at_175) kk_) ?_
      by_cases c176 : (5 : Int32) < nq
      · -- pc 176: (5 : Int32) < nq
        refine own_pre (S' := (T32.setTop (mkF m 179 #[.val (.long i0), .second, .val (.int i1), .val (.int i2), .val (.int i3), .val (.int nq), .val (.int y0), .val (.int y1), .val (.int y2), .val (.int y3), .val (.int y4), .val (.int y5), .val (.int y6), .val (.int y7), .val (.int y8), .val (.int qq), .val (.ref b10), .unset] []))) (fun tt_ kk_ => XS.icmpNo X32.here hx rfl (hb hby at_176) rfl (tlt c176).2.2.2 kk_) ?_
        refine own_pre (S' := (T32.setTop (mkF m 181 #[.val (.long i0), .second, .val (.int i1), .val (.int i2), .val (.int i3), .val (.int nq), .val (.int y0), .val (.int y1), .val (.int y2), .val (.int y3), .val (.int y4), .val (.int y5), .val (.int y6), .val (.int y7), .val (.int y8), .val (.int qq), .val (.ref b10), .unset] [(.ref b10)]))) (fun tt_ kk_ => XS.aload X32.here hx rfl (hb hby at_179) rfl rfl kk_) ?_
        refine own_pre (S' := (T32.setTop (mkF m 183 #[.val (.long i0), .second, .val (.int i1), .val (.int i2), .val (.int i3), .val (.int nq), .val (.int y0), .val (.int y1), .val (.int y2), .val (.int y3), .val (.int y4), .val (.int y5), .val (.int y6), .val (.int y7), .val (.int y8), .val (.int qq), .val (.ref b10), .unset] [(.int y5), (.ref b10)]))) (fun tt_ kk_ => XS.iload X32.here hx rfl (hb hby at_181) rfl kk_) ?_
        refine own_callV (C := "com/example/kunci/kunci/NumberSet") (y := (⟨"com/example/kunci/kunci/NumberSet", "add", "(I)Z"⟩ : MethodName)) (b := b10) X32 hx hZ hown (hw _ (List.mem_of_getElem? (i := 18) rfl)) (hw _ (List.mem_of_getElem? (i := 19) rfl)) (hw _ (List.mem_of_getElem? (i := 21) rfl)) (hw _ (List.mem_of_getElem? (i := 20) rfl)) (hw _ (List.mem_of_getElem? (i := 22) rfl)) (hw _ (List.mem_of_getElem? (i := 8) rfl)) (by decide) e32 hF.exa (hM := own_addf l Z a0 hw [] b10 len cap y5 g hp32 n0 zs32 (Nat.le_trans hl (by decide)) hF f32_0) (W := 0) (pc := 183) (Ls := #[.val (.long i0), .second, .val (.int i1), .val (.int i2), .val (.int i3), .val (.int nq), .val (.int y0), .val (.int y1), .val (.int y2), .val (.int y3), .val (.int y4), .val (.int y5), .val (.int y6), .val (.int y7), .val (.int y8), .val (.int qq), .val (.ref b10), .unset]) (argsL := [(.int y5)]) (rest := []) (st0 := [(.int y5), (.ref b10)]) (by rw [hml]; rfl) (lenOf own_pd0 rfl) rfl (Nat.le_of_eq rfl) (hb hby at_183) (by decide) (by decide) (by decide) (by decide) ?_
        intro v33 T33 L33 X33 hQ33
        obtain ⟨r33, l33, k33, g33, rfl, hr33, Nq33, hF33, hm33, gz33, ad33⟩ := hQ33
        have N33 := Fr.app N32 Nq33
        show own_Ends p e below s _ _ _ (T33.setTop (mkF m 186 #[.val (.long i0), .second, .val (.int i1), .val (.int i2), .val (.int i3), .val (.int nq), .val (.int y0), .val (.int y1), .val (.int y2), .val (.int y3), .val (.int y4), .val (.int y5), .val (.int y6), .val (.int y7), .val (.int y8), .val (.int qq), .val (.ref b10), .unset] [(.int r33)]))
        have hl33 : l33 ≤ 6 := own_ll hr33 hl
        have hn33 : ∀ v, own_mem l33 g33 v ↔ own_R6 nq y0 y1 y2 y3 y4 y5 y6 y7 y8 v := fun v => own_Ry (hm33 v) (hm v) c176
        have zs33 := Nat.le_trans zs32 gz33
        have zz33 := Nat.le_trans zz32 gz33
        refine own_pre (S' := (T33.setTop (mkF m 187 #[.val (.long i0), .second, .val (.int i1), .val (.int i2), .val (.int i3), .val (.int nq), .val (.int y0), .val (.int y1), .val (.int y2), .val (.int y3), .val (.int y4), .val (.int y5), .val (.int y6), .val (.int y7), .val (.int y8), .val (.int qq), .val (.ref b10), .unset] []))) (fun tt_ kk_ => XS.pop X33.here hx rfl (hb hby at_186) rfl rfl kk_) ?_
        exact J6 l33 k33 g33 T33 _ _ (own_Smono X33 (by decide) (by decide)) (rfl : T33.heap = T33.heap) N33 zs33 zz33 ad33 hF33 hl33 hn33
      · -- pc 176: not (5 : Int32) < nq
        refine own_pre (S' := (T32.setTop (mkF m 187 #[.val (.long i0), .second, .val (.int i1), .val (.int i2), .val (.int i3), .val (.int nq), .val (.int y0), .val (.int y1), .val (.int y2), .val (.int y3), .val (.int y4), .val (.int y5), .val (.int y6), .val (.int y7), .val (.int y8), .val (.int qq), .val (.ref b10), .unset] []))) (fun tt_ kk_ => XS.icmpYes X32.here hx rfl (pc0 := 176) (pc' := 187) rfl (hb hby at_176) rfl (flt c176).2.2.2 (by decide) (by decide) kk_) ?_
        have hno : ∀ v, own_mem len g v ↔ own_R6 nq y0 y1 y2 y3 y4 y5 y6 y7 y8 v := fun v => own_Rn (hm v) c176
        exact J6 len cap g T32 _ _ (own_Smono X32 (by decide) (by decide)) e32 N32 zs32 zz32 f32_0 hF (Nat.le_succ_of_le hl) hno
    have J4 : ∀ (len : Nat) (cap : Nat) (g : Nat → Int32) (T34 : State) (lc34 : List Loc) (hp34 : Heap) (X34 : Stand p l e room_1 s m #[(.long i0), (.int i1), (.int i2), (.int i3)] below meth c T34 lc34 6 35) (e34 : T34.heap = hp34) (N34 : Fr n0 lc34) (zs34 : n0 ≤ hp34.size) (zz34 : h0.size ≤ hp34.size) (f34_0 : Sta Z hp34 "java/util/BitSet" "$assertionsDisabled" "Z" (.int (1 : Int32))) (hF : own_few n0 Z hp34 b10 len cap g) (hl : len ≤ 4) (hm : ∀ v, own_mem len g v ↔ own_R4 nq y0 y1 y2 y3 y4 y5 y6 y7 y8 v), own_Ends p e below s (fun v h L => v = some (.int 1) ∧ Fr n0 L) room_1.cells room_1.slots (T34.setTop (mkF m 159 #[.val (.long i0), .second, .val (.int i1), .val (.int i2), .val (.int i3), .val (.int nq), .val (.int y0), .val (.int y1), .val (.int y2), .val (.int y3), .val (.int y4), .val (.int y5), .val (.int y6), .val (.int y7), .val (.int y8), .val (.int qq), .val (.ref b10), .unset] [])) := by
      intro len cap g T34 lc34 hp34 X34 e34 N34 zs34 zz34 f34_0 hF hl hm
      refine own_pre (S' := (T34.setTop (mkF m 161 #[.val (.long i0), .second, .val (.int i1), .val (.int i2), .val (.int i3), .val (.int nq), .val (.int y0), .val (.int y1), .val (.int y2), .val (.int y3), .val (.int y4), .val (.int y5), .val (.int y6), .val (.int y7), .val (.int y8), .val (.int qq), .val (.ref b10), .unset] [(.int nq)]))) (fun tt_ kk_ => XS.iload X34.here hx rfl (hb hby at_159) rfl kk_) ?_
      refine own_pre (S' := (T34.setTop (mkF m 162 #[.val (.long i0), .second, .val (.int i1), .val (.int i2), .val (.int i3), .val (.int nq), .val (.int y0), .val (.int y1), .val (.int y2), .val (.int y3), .val (.int y4), .val (.int y5), .val (.int y6), .val (.int y7), .val (.int y8), .val (.int qq), .val (.ref b10), .unset] [(.int (4 : Int32)), (.int nq)]))) (fun tt_ kk_ => XS.iconst X34.here hx rfl (hb hby at_161) kk_) ?_
      by_cases c162 : (4 : Int32) < nq
      · -- pc 162: (4 : Int32) < nq
        refine own_pre (S' := (T34.setTop (mkF m 165 #[.val (.long i0), .second, .val (.int i1), .val (.int i2), .val (.int i3), .val (.int nq), .val (.int y0), .val (.int y1), .val (.int y2), .val (.int y3), .val (.int y4), .val (.int y5), .val (.int y6), .val (.int y7), .val (.int y8), .val (.int qq), .val (.ref b10), .unset] []))) (fun tt_ kk_ => XS.icmpNo X34.here hx rfl (hb hby at_162) rfl (tlt c162).2.2.2 kk_) ?_
        refine own_pre (S' := (T34.setTop (mkF m 167 #[.val (.long i0), .second, .val (.int i1), .val (.int i2), .val (.int i3), .val (.int nq), .val (.int y0), .val (.int y1), .val (.int y2), .val (.int y3), .val (.int y4), .val (.int y5), .val (.int y6), .val (.int y7), .val (.int y8), .val (.int qq), .val (.ref b10), .unset] [(.ref b10)]))) (fun tt_ kk_ => XS.aload X34.here hx rfl (hb hby at_165) rfl rfl kk_) ?_
        refine own_pre (S' := (T34.setTop (mkF m 169 #[.val (.long i0), .second, .val (.int i1), .val (.int i2), .val (.int i3), .val (.int nq), .val (.int y0), .val (.int y1), .val (.int y2), .val (.int y3), .val (.int y4), .val (.int y5), .val (.int y6), .val (.int y7), .val (.int y8), .val (.int qq), .val (.ref b10), .unset] [(.int y4), (.ref b10)]))) (fun tt_ kk_ => XS.iload X34.here hx rfl (hb hby at_167) rfl kk_) ?_
        refine own_callV (C := "com/example/kunci/kunci/NumberSet") (y := (⟨"com/example/kunci/kunci/NumberSet", "add", "(I)Z"⟩ : MethodName)) (b := b10) X34 hx hZ hown (hw _ (List.mem_of_getElem? (i := 18) rfl)) (hw _ (List.mem_of_getElem? (i := 19) rfl)) (hw _ (List.mem_of_getElem? (i := 21) rfl)) (hw _ (List.mem_of_getElem? (i := 20) rfl)) (hw _ (List.mem_of_getElem? (i := 22) rfl)) (hw _ (List.mem_of_getElem? (i := 8) rfl)) (by decide) e34 hF.exa (hM := own_addf l Z a0 hw [] b10 len cap y4 g hp34 n0 zs34 (Nat.le_trans hl (by decide)) hF f34_0) (W := 0) (pc := 169) (Ls := #[.val (.long i0), .second, .val (.int i1), .val (.int i2), .val (.int i3), .val (.int nq), .val (.int y0), .val (.int y1), .val (.int y2), .val (.int y3), .val (.int y4), .val (.int y5), .val (.int y6), .val (.int y7), .val (.int y8), .val (.int qq), .val (.ref b10), .unset]) (argsL := [(.int y4)]) (rest := []) (st0 := [(.int y4), (.ref b10)]) (by rw [hml]; rfl) (lenOf own_pd0 rfl) rfl (Nat.le_of_eq rfl) (hb hby at_169) (by decide) (by decide) (by decide) (by decide) ?_
        intro v35 T35 L35 X35 hQ35
        obtain ⟨r35, l35, k35, g35, rfl, hr35, Nq35, hF35, hm35, gz35, ad35⟩ := hQ35
        have N35 := Fr.app N34 Nq35
        show own_Ends p e below s _ _ _ (T35.setTop (mkF m 172 #[.val (.long i0), .second, .val (.int i1), .val (.int i2), .val (.int i3), .val (.int nq), .val (.int y0), .val (.int y1), .val (.int y2), .val (.int y3), .val (.int y4), .val (.int y5), .val (.int y6), .val (.int y7), .val (.int y8), .val (.int qq), .val (.ref b10), .unset] [(.int r35)]))
        have hl35 : l35 ≤ 5 := own_ll hr35 hl
        have hn35 : ∀ v, own_mem l35 g35 v ↔ own_R5 nq y0 y1 y2 y3 y4 y5 y6 y7 y8 v := fun v => own_Ry (hm35 v) (hm v) c162
        have zs35 := Nat.le_trans zs34 gz35
        have zz35 := Nat.le_trans zz34 gz35
        refine own_pre (S' := (T35.setTop (mkF m 173 #[.val (.long i0), .second, .val (.int i1), .val (.int i2), .val (.int i3), .val (.int nq), .val (.int y0), .val (.int y1), .val (.int y2), .val (.int y3), .val (.int y4), .val (.int y5), .val (.int y6), .val (.int y7), .val (.int y8), .val (.int qq), .val (.ref b10), .unset] []))) (fun tt_ kk_ => XS.pop X35.here hx rfl (hb hby at_172) rfl rfl kk_) ?_
        exact J5 l35 k35 g35 T35 _ _ (own_Smono X35 (by decide) (by decide)) (rfl : T35.heap = T35.heap) N35 zs35 zz35 ad35 hF35 hl35 hn35
      · -- pc 162: not (4 : Int32) < nq
        refine own_pre (S' := (T34.setTop (mkF m 173 #[.val (.long i0), .second, .val (.int i1), .val (.int i2), .val (.int i3), .val (.int nq), .val (.int y0), .val (.int y1), .val (.int y2), .val (.int y3), .val (.int y4), .val (.int y5), .val (.int y6), .val (.int y7), .val (.int y8), .val (.int qq), .val (.ref b10), .unset] []))) (fun tt_ kk_ => XS.icmpYes X34.here hx rfl (pc0 := 162) (pc' := 173) rfl (hb hby at_162) rfl (flt c162).2.2.2 (by decide) (by decide) kk_) ?_
        have hno : ∀ v, own_mem len g v ↔ own_R5 nq y0 y1 y2 y3 y4 y5 y6 y7 y8 v := fun v => own_Rn (hm v) c162
        exact J5 len cap g T34 _ _ (own_Smono X34 (by decide) (by decide)) e34 N34 zs34 zz34 f34_0 hF (Nat.le_succ_of_le hl) hno
    have J3 : ∀ (len : Nat) (cap : Nat) (g : Nat → Int32) (T36 : State) (lc36 : List Loc) (hp36 : Heap) (X36 : Stand p l e room_1 s m #[(.long i0), (.int i1), (.int i2), (.int i3)] below meth c T36 lc36 5 27) (e36 : T36.heap = hp36) (N36 : Fr n0 lc36) (zs36 : n0 ≤ hp36.size) (zz36 : h0.size ≤ hp36.size) (f36_0 : Sta Z hp36 "java/util/BitSet" "$assertionsDisabled" "Z" (.int (1 : Int32))) (hF : own_few n0 Z hp36 b10 len cap g) (hl : len ≤ 3) (hm : ∀ v, own_mem len g v ↔ own_R3 nq y0 y1 y2 y3 y4 y5 y6 y7 y8 v), own_Ends p e below s (fun v h L => v = some (.int 1) ∧ Fr n0 L) room_1.cells room_1.slots (T36.setTop (mkF m 145 #[.val (.long i0), .second, .val (.int i1), .val (.int i2), .val (.int i3), .val (.int nq), .val (.int y0), .val (.int y1), .val (.int y2), .val (.int y3), .val (.int y4), .val (.int y5), .val (.int y6), .val (.int y7), .val (.int y8), .val (.int qq), .val (.ref b10), .unset] [])) := by
      intro len cap g T36 lc36 hp36 X36 e36 N36 zs36 zz36 f36_0 hF hl hm
      refine own_pre (S' := (T36.setTop (mkF m 147 #[.val (.long i0), .second, .val (.int i1), .val (.int i2), .val (.int i3), .val (.int nq), .val (.int y0), .val (.int y1), .val (.int y2), .val (.int y3), .val (.int y4), .val (.int y5), .val (.int y6), .val (.int y7), .val (.int y8), .val (.int qq), .val (.ref b10), .unset] [(.int nq)]))) (fun tt_ kk_ => XS.iload X36.here hx rfl (hb hby at_145) rfl kk_) ?_
      refine own_pre (S' := (T36.setTop (mkF m 148 #[.val (.long i0), .second, .val (.int i1), .val (.int i2), .val (.int i3), .val (.int nq), .val (.int y0), .val (.int y1), .val (.int y2), .val (.int y3), .val (.int y4), .val (.int y5), .val (.int y6), .val (.int y7), .val (.int y8), .val (.int qq), .val (.ref b10), .unset] [(.int (3 : Int32)), (.int nq)]))) (fun tt_ kk_ => XS.iconst X36.here hx rfl (hb hby at_147) kk_) ?_
      by_cases c148 : (3 : Int32) < nq
      · -- pc 148: (3 : Int32) < nq
        refine own_pre (S' := (T36.setTop (mkF m 151 #[.val (.long i0), .second, .val (.int i1), .val (.int i2), .val (.int i3), .val (.int nq), .val (.int y0), .val (.int y1), .val (.int y2), .val (.int y3), .val (.int y4), .val (.int y5), .val (.int y6), .val (.int y7), .val (.int y8), .val (.int qq), .val (.ref b10), .unset] []))) (fun tt_ kk_ => XS.icmpNo X36.here hx rfl (hb hby at_148) rfl (tlt c148).2.2.2 kk_) ?_
        refine own_pre (S' := (T36.setTop (mkF m 153 #[.val (.long i0), .second, .val (.int i1), .val (.int i2), .val (.int i3), .val (.int nq), .val (.int y0), .val (.int y1), .val (.int y2), .val (.int y3), .val (.int y4), .val (.int y5), .val (.int y6), .val (.int y7), .val (.int y8), .val (.int qq), .val (.ref b10), .unset] [(.ref b10)]))) (fun tt_ kk_ => XS.aload X36.here hx rfl (hb hby at_151) rfl rfl kk_) ?_
        refine own_pre (S' := (T36.setTop (mkF m 155 #[.val (.long i0), .second, .val (.int i1), .val (.int i2), .val (.int i3), .val (.int nq), .val (.int y0), .val (.int y1), .val (.int y2), .val (.int y3), .val (.int y4), .val (.int y5), .val (.int y6), .val (.int y7), .val (.int y8), .val (.int qq), .val (.ref b10), .unset] [(.int y3), (.ref b10)]))) (fun tt_ kk_ => XS.iload X36.here hx rfl (hb hby at_153) rfl kk_) ?_
        refine own_callV (C := "com/example/kunci/kunci/NumberSet") (y := (⟨"com/example/kunci/kunci/NumberSet", "add", "(I)Z"⟩ : MethodName)) (b := b10) X36 hx hZ hown (hw _ (List.mem_of_getElem? (i := 18) rfl)) (hw _ (List.mem_of_getElem? (i := 19) rfl)) (hw _ (List.mem_of_getElem? (i := 21) rfl)) (hw _ (List.mem_of_getElem? (i := 20) rfl)) (hw _ (List.mem_of_getElem? (i := 22) rfl)) (hw _ (List.mem_of_getElem? (i := 8) rfl)) (by decide) e36 hF.exa (hM := own_addf l Z a0 hw [] b10 len cap y3 g hp36 n0 zs36 (Nat.le_trans hl (by decide)) hF f36_0) (W := 0) (pc := 155) (Ls := #[.val (.long i0), .second, .val (.int i1), .val (.int i2), .val (.int i3), .val (.int nq), .val (.int y0), .val (.int y1), .val (.int y2), .val (.int y3), .val (.int y4), .val (.int y5), .val (.int y6), .val (.int y7), .val (.int y8), .val (.int qq), .val (.ref b10), .unset]) (argsL := [(.int y3)]) (rest := []) (st0 := [(.int y3), (.ref b10)]) (by rw [hml]; rfl) (lenOf own_pd0 rfl) rfl (Nat.le_of_eq rfl) (hb hby at_155) (by decide) (by decide) (by decide) (by decide) ?_
        intro v37 T37 L37 X37 hQ37
        obtain ⟨r37, l37, k37, g37, rfl, hr37, Nq37, hF37, hm37, gz37, ad37⟩ := hQ37
        have N37 := Fr.app N36 Nq37
        show own_Ends p e below s _ _ _ (T37.setTop (mkF m 158 #[.val (.long i0), .second, .val (.int i1), .val (.int i2), .val (.int i3), .val (.int nq), .val (.int y0), .val (.int y1), .val (.int y2), .val (.int y3), .val (.int y4), .val (.int y5), .val (.int y6), .val (.int y7), .val (.int y8), .val (.int qq), .val (.ref b10), .unset] [(.int r37)]))
        have hl37 : l37 ≤ 4 := own_ll hr37 hl
        have hn37 : ∀ v, own_mem l37 g37 v ↔ own_R4 nq y0 y1 y2 y3 y4 y5 y6 y7 y8 v := fun v => own_Ry (hm37 v) (hm v) c148
        have zs37 := Nat.le_trans zs36 gz37
        have zz37 := Nat.le_trans zz36 gz37
        refine own_pre (S' := (T37.setTop (mkF m 159 #[.val (.long i0), .second, .val (.int i1), .val (.int i2), .val (.int i3), .val (.int nq), .val (.int y0), .val (.int y1), .val (.int y2), .val (.int y3), .val (.int y4), .val (.int y5), .val (.int y6), .val (.int y7), .val (.int y8), .val (.int qq), .val (.ref b10), .unset] []))) (fun tt_ kk_ => XS.pop X37.here hx rfl (hb hby at_158) rfl rfl kk_) ?_
        exact J4 l37 k37 g37 T37 _ _ (own_Smono X37 (by decide) (by decide)) (rfl : T37.heap = T37.heap) N37 zs37 zz37 ad37 hF37 hl37 hn37
      · -- pc 148: not (3 : Int32) < nq
        refine own_pre (S' := (T36.setTop (mkF m 159 #[.val (.long i0), .second, .val (.int i1), .val (.int i2), .val (.int i3), .val (.int nq), .val (.int y0), .val (.int y1), .val (.int y2), .val (.int y3), .val (.int y4), .val (.int y5), .val (.int y6), .val (.int y7), .val (.int y8), .val (.int qq), .val (.ref b10), .unset] []))) (fun tt_ kk_ => XS.icmpYes X36.here hx rfl (pc0 := 148) (pc' := 159) rfl (hb hby at_148) rfl (flt c148).2.2.2 (by decide) (by decide) kk_) ?_
        have hno : ∀ v, own_mem len g v ↔ own_R4 nq y0 y1 y2 y3 y4 y5 y6 y7 y8 v := fun v => own_Rn (hm v) c148
        exact J4 len cap g T36 _ _ (own_Smono X36 (by decide) (by decide)) e36 N36 zs36 zz36 f36_0 hF (Nat.le_succ_of_le hl) hno
    have J2 : ∀ (len : Nat) (cap : Nat) (g : Nat → Int32) (T38 : State) (lc38 : List Loc) (hp38 : Heap) (X38 : Stand p l e room_1 s m #[(.long i0), (.int i1), (.int i2), (.int i3)] below meth c T38 lc38 4 19) (e38 : T38.heap = hp38) (N38 : Fr n0 lc38) (zs38 : n0 ≤ hp38.size) (zz38 : h0.size ≤ hp38.size) (f38_0 : Sta Z hp38 "java/util/BitSet" "$assertionsDisabled" "Z" (.int (1 : Int32))) (hF : own_few n0 Z hp38 b10 len cap g) (hl : len ≤ 2) (hm : ∀ v, own_mem len g v ↔ own_R2 nq y0 y1 y2 y3 y4 y5 y6 y7 y8 v), own_Ends p e below s (fun v h L => v = some (.int 1) ∧ Fr n0 L) room_1.cells room_1.slots (T38.setTop (mkF m 131 #[.val (.long i0), .second, .val (.int i1), .val (.int i2), .val (.int i3), .val (.int nq), .val (.int y0), .val (.int y1), .val (.int y2), .val (.int y3), .val (.int y4), .val (.int y5), .val (.int y6), .val (.int y7), .val (.int y8), .val (.int qq), .val (.ref b10), .unset] [])) := by
      intro len cap g T38 lc38 hp38 X38 e38 N38 zs38 zz38 f38_0 hF hl hm
      refine own_pre (S' := (T38.setTop (mkF m 133 #[.val (.long i0), .second, .val (.int i1), .val (.int i2), .val (.int i3), .val (.int nq), .val (.int y0), .val (.int y1), .val (.int y2), .val (.int y3), .val (.int y4), .val (.int y5), .val (.int y6), .val (.int y7), .val (.int y8), .val (.int qq), .val (.ref b10), .unset] [(.int nq)]))) (fun tt_ kk_ => XS.iload X38.here hx rfl (hb hby at_131) rfl kk_) ?_
      refine own_pre (S' := (T38.setTop (mkF m 134 #[.val (.long i0), .second, .val (.int i1), .val (.int i2), .val (.int i3), .val (.int nq), .val (.int y0), .val (.int y1), .val (.int y2), .val (.int y3), .val (.int y4), .val (.int y5), .val (.int y6), .val (.int y7), .val (.int y8), .val (.int qq), .val (.ref b10), .unset] [(.int (2 : Int32)), (.int nq)]))) (fun tt_ kk_ => XS.iconst X38.here hx rfl (hb hby at_133) kk_) ?_
      by_cases c134 : (2 : Int32) < nq
      · -- pc 134: (2 : Int32) < nq
        refine own_pre (S' := (T38.setTop (mkF m 137 #[.val (.long i0), .second, .val (.int i1), .val (.int i2), .val (.int i3), .val (.int nq), .val (.int y0), .val (.int y1), .val (.int y2), .val (.int y3), .val (.int y4), .val (.int y5), .val (.int y6), .val (.int y7), .val (.int y8), .val (.int qq), .val (.ref b10), .unset] []))) (fun tt_ kk_ => XS.icmpNo X38.here hx rfl (hb hby at_134) rfl (tlt c134).2.2.2 kk_) ?_
        refine own_pre (S' := (T38.setTop (mkF m 139 #[.val (.long i0), .second, .val (.int i1), .val (.int i2), .val (.int i3), .val (.int nq), .val (.int y0), .val (.int y1), .val (.int y2), .val (.int y3), .val (.int y4), .val (.int y5), .val (.int y6), .val (.int y7), .val (.int y8), .val (.int qq), .val (.ref b10), .unset] [(.ref b10)]))) (fun tt_ kk_ => XS.aload X38.here hx rfl (hb hby at_137) rfl rfl kk_) ?_
        refine own_pre (S' := (T38.setTop (mkF m 141 #[.val (.long i0), .second, .val (.int i1), .val (.int i2), .val (.int i3), .val (.int nq), .val (.int y0), .val (.int y1), .val (.int y2), .val (.int y3), .val (.int y4), .val (.int y5), .val (.int y6), .val (.int y7), .val (.int y8), .val (.int qq), .val (.ref b10), .unset] [(.int y2), (.ref b10)]))) (fun tt_ kk_ => XS.iload X38.here hx rfl (hb hby at_139) rfl kk_) ?_
        refine own_callV (C := "com/example/kunci/kunci/NumberSet") (y := (⟨"com/example/kunci/kunci/NumberSet", "add", "(I)Z"⟩ : MethodName)) (b := b10) X38 hx hZ hown (hw _ (List.mem_of_getElem? (i := 18) rfl)) (hw _ (List.mem_of_getElem? (i := 19) rfl)) (hw _ (List.mem_of_getElem? (i := 21) rfl)) (hw _ (List.mem_of_getElem? (i := 20) rfl)) (hw _ (List.mem_of_getElem? (i := 22) rfl)) (hw _ (List.mem_of_getElem? (i := 8) rfl)) (by decide) e38 hF.exa (hM := own_addf l Z a0 hw [] b10 len cap y2 g hp38 n0 zs38 (Nat.le_trans hl (by decide)) hF f38_0) (W := 0) (pc := 141) (Ls := #[.val (.long i0), .second, .val (.int i1), .val (.int i2), .val (.int i3), .val (.int nq), .val (.int y0), .val (.int y1), .val (.int y2), .val (.int y3), .val (.int y4), .val (.int y5), .val (.int y6), .val (.int y7), .val (.int y8), .val (.int qq), .val (.ref b10), .unset]) (argsL := [(.int y2)]) (rest := []) (st0 := [(.int y2), (.ref b10)]) (by rw [hml]; rfl) (lenOf own_pd0 rfl) rfl (Nat.le_of_eq rfl) (hb hby at_141) (by decide) (by decide) (by decide) (by decide) ?_
        intro v39 T39 L39 X39 hQ39
        obtain ⟨r39, l39, k39, g39, rfl, hr39, Nq39, hF39, hm39, gz39, ad39⟩ := hQ39
        have N39 := Fr.app N38 Nq39
        show own_Ends p e below s _ _ _ (T39.setTop (mkF m 144 #[.val (.long i0), .second, .val (.int i1), .val (.int i2), .val (.int i3), .val (.int nq), .val (.int y0), .val (.int y1), .val (.int y2), .val (.int y3), .val (.int y4), .val (.int y5), .val (.int y6), .val (.int y7), .val (.int y8), .val (.int qq), .val (.ref b10), .unset] [(.int r39)]))
        have hl39 : l39 ≤ 3 := own_ll hr39 hl
        have hn39 : ∀ v, own_mem l39 g39 v ↔ own_R3 nq y0 y1 y2 y3 y4 y5 y6 y7 y8 v := fun v => own_Ry (hm39 v) (hm v) c134
        have zs39 := Nat.le_trans zs38 gz39
        have zz39 := Nat.le_trans zz38 gz39
        refine own_pre (S' := (T39.setTop (mkF m 145 #[.val (.long i0), .second, .val (.int i1), .val (.int i2), .val (.int i3), .val (.int nq), .val (.int y0), .val (.int y1), .val (.int y2), .val (.int y3), .val (.int y4), .val (.int y5), .val (.int y6), .val (.int y7), .val (.int y8), .val (.int qq), .val (.ref b10), .unset] []))) (fun tt_ kk_ => XS.pop X39.here hx rfl (hb hby at_144) rfl rfl kk_) ?_
        exact J3 l39 k39 g39 T39 _ _ (own_Smono X39 (by decide) (by decide)) (rfl : T39.heap = T39.heap) N39 zs39 zz39 ad39 hF39 hl39 hn39
      · -- pc 134: not (2 : Int32) < nq
        refine own_pre (S' := (T38.setTop (mkF m 145 #[.val (.long i0), .second, .val (.int i1), .val (.int i2), .val (.int i3), .val (.int nq), .val (.int y0), .val (.int y1), .val (.int y2), .val (.int y3), .val (.int y4), .val (.int y5), .val (.int y6), .val (.int y7), .val (.int y8), .val (.int qq), .val (.ref b10), .unset] []))) (fun tt_ kk_ => XS.icmpYes X38.here hx rfl (pc0 := 134) (pc' := 145) rfl (hb hby at_134) rfl (flt c134).2.2.2 (by decide) (by decide) kk_) ?_
        have hno : ∀ v, own_mem len g v ↔ own_R3 nq y0 y1 y2 y3 y4 y5 y6 y7 y8 v := fun v => own_Rn (hm v) c134
        exact J3 len cap g T38 _ _ (own_Smono X38 (by decide) (by decide)) e38 N38 zs38 zz38 f38_0 hF (Nat.le_succ_of_le hl) hno
    have J1 : ∀ (len : Nat) (cap : Nat) (g : Nat → Int32) (T40 : State) (lc40 : List Loc) (hp40 : Heap) (X40 : Stand p l e room_1 s m #[(.long i0), (.int i1), (.int i2), (.int i3)] below meth c T40 lc40 3 11) (e40 : T40.heap = hp40) (N40 : Fr n0 lc40) (zs40 : n0 ≤ hp40.size) (zz40 : h0.size ≤ hp40.size) (f40_0 : Sta Z hp40 "java/util/BitSet" "$assertionsDisabled" "Z" (.int (1 : Int32))) (hF : own_few n0 Z hp40 b10 len cap g) (hl : len ≤ 1) (hm : ∀ v, own_mem len g v ↔ own_R1 nq y0 y1 y2 y3 y4 y5 y6 y7 y8 v), own_Ends p e below s (fun v h L => v = some (.int 1) ∧ Fr n0 L) room_1.cells room_1.slots (T40.setTop (mkF m 117 #[.val (.long i0), .second, .val (.int i1), .val (.int i2), .val (.int i3), .val (.int nq), .val (.int y0), .val (.int y1), .val (.int y2), .val (.int y3), .val (.int y4), .val (.int y5), .val (.int y6), .val (.int y7), .val (.int y8), .val (.int qq), .val (.ref b10), .unset] [])) := by
      intro len cap g T40 lc40 hp40 X40 e40 N40 zs40 zz40 f40_0 hF hl hm
      refine own_pre (S' := (T40.setTop (mkF m 119 #[.val (.long i0), .second, .val (.int i1), .val (.int i2), .val (.int i3), .val (.int nq), .val (.int y0), .val (.int y1), .val (.int y2), .val (.int y3), .val (.int y4), .val (.int y5), .val (.int y6), .val (.int y7), .val (.int y8), .val (.int qq), .val (.ref b10), .unset] [(.int nq)]))) (fun tt_ kk_ => XS.iload X40.here hx rfl (hb hby at_117) rfl kk_) ?_
      refine own_pre (S' := (T40.setTop (mkF m 120 #[.val (.long i0), .second, .val (.int i1), .val (.int i2), .val (.int i3), .val (.int nq), .val (.int y0), .val (.int y1), .val (.int y2), .val (.int y3), .val (.int y4), .val (.int y5), .val (.int y6), .val (.int y7), .val (.int y8), .val (.int qq), .val (.ref b10), .unset] [(.int (1 : Int32)), (.int nq)]))) (fun tt_ kk_ => XS.iconst X40.here hx rfl (hb hby at_119) kk_) ?_
      by_cases c120 : (1 : Int32) < nq
      · -- pc 120: (1 : Int32) < nq
        refine own_pre (S' := (T40.setTop (mkF m 123 #[.val (.long i0), .second, .val (.int i1), .val (.int i2), .val (.int i3), .val (.int nq), .val (.int y0), .val (.int y1), .val (.int y2), .val (.int y3), .val (.int y4), .val (.int y5), .val (.int y6), .val (.int y7), .val (.int y8), .val (.int qq), .val (.ref b10), .unset] []))) (fun tt_ kk_ => XS.icmpNo X40.here hx rfl (hb hby at_120) rfl (tlt c120).2.2.2 kk_) ?_
        refine own_pre (S' := (T40.setTop (mkF m 125 #[.val (.long i0), .second, .val (.int i1), .val (.int i2), .val (.int i3), .val (.int nq), .val (.int y0), .val (.int y1), .val (.int y2), .val (.int y3), .val (.int y4), .val (.int y5), .val (.int y6), .val (.int y7), .val (.int y8), .val (.int qq), .val (.ref b10), .unset] [(.ref b10)]))) (fun tt_ kk_ => XS.aload X40.here hx rfl (hb hby at_123) rfl rfl kk_) ?_
        refine own_pre (S' := (T40.setTop (mkF m 127 #[.val (.long i0), .second, .val (.int i1), .val (.int i2), .val (.int i3), .val (.int nq), .val (.int y0), .val (.int y1), .val (.int y2), .val (.int y3), .val (.int y4), .val (.int y5), .val (.int y6), .val (.int y7), .val (.int y8), .val (.int qq), .val (.ref b10), .unset] [(.int y1), (.ref b10)]))) (fun tt_ kk_ => XS.iload X40.here hx rfl (hb hby at_125) rfl kk_) ?_
        refine own_callV (C := "com/example/kunci/kunci/NumberSet") (y := (⟨"com/example/kunci/kunci/NumberSet", "add", "(I)Z"⟩ : MethodName)) (b := b10) X40 hx hZ hown (hw _ (List.mem_of_getElem? (i := 18) rfl)) (hw _ (List.mem_of_getElem? (i := 19) rfl)) (hw _ (List.mem_of_getElem? (i := 21) rfl)) (hw _ (List.mem_of_getElem? (i := 20) rfl)) (hw _ (List.mem_of_getElem? (i := 22) rfl)) (hw _ (List.mem_of_getElem? (i := 8) rfl)) (by decide) e40 hF.exa (hM := own_addf l Z a0 hw [] b10 len cap y1 g hp40 n0 zs40 (Nat.le_trans hl (by decide)) hF f40_0) (W := 0) (pc := 127) (Ls := #[.val (.long i0), .second, .val (.int i1), .val (.int i2), .val (.int i3), .val (.int nq), .val (.int y0), .val (.int y1), .val (.int y2), .val (.int y3), .val (.int y4), .val (.int y5), .val (.int y6), .val (.int y7), .val (.int y8), .val (.int qq), .val (.ref b10), .unset]) (argsL := [(.int y1)]) (rest := []) (st0 := [(.int y1), (.ref b10)]) (by rw [hml]; rfl) (lenOf own_pd0 rfl) rfl (Nat.le_of_eq rfl) (hb hby at_127) (by decide) (by decide) (by decide) (by decide) ?_
        intro v41 T41 L41 X41 hQ41
        obtain ⟨r41, l41, k41, g41, rfl, hr41, Nq41, hF41, hm41, gz41, ad41⟩ := hQ41
        have N41 := Fr.app N40 Nq41
        show own_Ends p e below s _ _ _ (T41.setTop (mkF m 130 #[.val (.long i0), .second, .val (.int i1), .val (.int i2), .val (.int i3), .val (.int nq), .val (.int y0), .val (.int y1), .val (.int y2), .val (.int y3), .val (.int y4), .val (.int y5), .val (.int y6), .val (.int y7), .val (.int y8), .val (.int qq), .val (.ref b10), .unset] [(.int r41)]))
        have hl41 : l41 ≤ 2 := own_ll hr41 hl
        have hn41 : ∀ v, own_mem l41 g41 v ↔ own_R2 nq y0 y1 y2 y3 y4 y5 y6 y7 y8 v := fun v => own_Ry (hm41 v) (hm v) c120
        have zs41 := Nat.le_trans zs40 gz41
        have zz41 := Nat.le_trans zz40 gz41
        refine own_pre (S' := (T41.setTop (mkF m 131 #[.val (.long i0), .second, .val (.int i1), .val (.int i2), .val (.int i3), .val (.int nq), .val (.int y0), .val (.int y1), .val (.int y2), .val (.int y3), .val (.int y4), .val (.int y5), .val (.int y6), .val (.int y7), .val (.int y8), .val (.int qq), .val (.ref b10), .unset] []))) (fun tt_ kk_ => XS.pop X41.here hx rfl (hb hby at_130) rfl rfl kk_) ?_
        exact J2 l41 k41 g41 T41 _ _ (own_Smono X41 (by decide) (by decide)) (rfl : T41.heap = T41.heap) N41 zs41 zz41 ad41 hF41 hl41 hn41
      · -- pc 120: not (1 : Int32) < nq
        refine own_pre (S' := (T40.setTop (mkF m 131 #[.val (.long i0), .second, .val (.int i1), .val (.int i2), .val (.int i3), .val (.int nq), .val (.int y0), .val (.int y1), .val (.int y2), .val (.int y3), .val (.int y4), .val (.int y5), .val (.int y6), .val (.int y7), .val (.int y8), .val (.int qq), .val (.ref b10), .unset] []))) (fun tt_ kk_ => XS.icmpYes X40.here hx rfl (pc0 := 120) (pc' := 131) rfl (hb hby at_120) rfl (flt c120).2.2.2 (by decide) (by decide) kk_) ?_
        have hno : ∀ v, own_mem len g v ↔ own_R2 nq y0 y1 y2 y3 y4 y5 y6 y7 y8 v := fun v => own_Rn (hm v) c120
        exact J2 len cap g T40 _ _ (own_Smono X40 (by decide) (by decide)) e40 N40 zs40 zz40 f40_0 hF (Nat.le_succ_of_le hl) hno
    refine own_pre (S' := (T11.setTop (mkF m 106 #[.val (.long i0), .second, .val (.int i1), .val (.int i2), .val (.int i3), .val (.int nq), .val (.int y0), .val (.int y1), .val (.int y2), .val (.int y3), .val (.int y4), .val (.int y5), .val (.int y6), .val (.int y7), .val (.int y8), .val (.int qq), .val (.ref b10), .unset] [(.int nq)]))) (fun tt_ kk_ => XS.iload X11.here hx rfl (hb hby at_104) rfl kk_) ?_
    by_cases c106 : (0 : Int32) < nq
    · -- pc 106: (0 : Int32) < nq
      refine own_pre (S' := (T11.setTop (mkF m 109 #[.val (.long i0), .second, .val (.int i1), .val (.int i2), .val (.int i3), .val (.int nq), .val (.int y0), .val (.int y1), .val (.int y2), .val (.int y3), .val (.int y4), .val (.int y5), .val (.int y6), .val (.int y7), .val (.int y8), .val (.int qq), .val (.ref b10), .unset] []))) (fun tt_ kk_ => XS.ifNo X11.here hx rfl (hb hby at_106) rfl ((if0 _ _).trans (tlt c106).2.2.2) kk_) ?_
      refine own_pre (S' := (T11.setTop (mkF m 111 #[.val (.long i0), .second, .val (.int i1), .val (.int i2), .val (.int i3), .val (.int nq), .val (.int y0), .val (.int y1), .val (.int y2), .val (.int y3), .val (.int y4), .val (.int y5), .val (.int y6), .val (.int y7), .val (.int y8), .val (.int qq), .val (.ref b10), .unset] [(.ref b10)]))) (fun tt_ kk_ => XS.aload X11.here hx rfl (hb hby at_109) rfl rfl kk_) ?_
      refine own_pre (S' := (T11.setTop (mkF m 113 #[.val (.long i0), .second, .val (.int i1), .val (.int i2), .val (.int i3), .val (.int nq), .val (.int y0), .val (.int y1), .val (.int y2), .val (.int y3), .val (.int y4), .val (.int y5), .val (.int y6), .val (.int y7), .val (.int y8), .val (.int qq), .val (.ref b10), .unset] [(.int y0), (.ref b10)]))) (fun tt_ kk_ => XS.iload X11.here hx rfl (hb hby at_111) rfl kk_) ?_
      refine own_callV (C := "com/example/kunci/kunci/NumberSet") (y := (⟨"com/example/kunci/kunci/NumberSet", "add", "(I)Z"⟩ : MethodName)) (b := b10) X11 hx hZ hown (hw _ (List.mem_of_getElem? (i := 18) rfl)) (hw _ (List.mem_of_getElem? (i := 19) rfl)) (hw _ (List.mem_of_getElem? (i := 21) rfl)) (hw _ (List.mem_of_getElem? (i := 20) rfl)) (hw _ (List.mem_of_getElem? (i := 22) rfl)) (hw _ (List.mem_of_getElem? (i := 8) rfl)) (by decide) (rfl : T11.heap = T11.heap) hF11.exa (hM := own_addf l Z a0 hw [] b10 0 0 y0 (fun _ => 0) T11.heap n0 zs11 (Nat.le_trans (Nat.le_refl _) (by decide)) hF11 ad11) (W := 0) (pc := 113) (Ls := #[.val (.long i0), .second, .val (.int i1), .val (.int i2), .val (.int i3), .val (.int nq), .val (.int y0), .val (.int y1), .val (.int y2), .val (.int y3), .val (.int y4), .val (.int y5), .val (.int y6), .val (.int y7), .val (.int y8), .val (.int qq), .val (.ref b10), .unset]) (argsL := [(.int y0)]) (rest := []) (st0 := [(.int y0), (.ref b10)]) (by rw [hml]; rfl) (lenOf own_pd0 rfl) rfl (Nat.le_of_eq rfl) (hb hby at_113) (by decide) (by decide) (by decide) (by decide) ?_
      intro v42 T42 L42 X42 hQ42
      obtain ⟨r42, l42, k42, g42, rfl, hr42, Nq42, hF42, hm42, gz42, ad42⟩ := hQ42
      have N42 := Fr.app N11 Nq42
      show own_Ends p e below s _ _ _ (T42.setTop (mkF m 116 #[.val (.long i0), .second, .val (.int i1), .val (.int i2), .val (.int i3), .val (.int nq), .val (.int y0), .val (.int y1), .val (.int y2), .val (.int y3), .val (.int y4), .val (.int y5), .val (.int y6), .val (.int y7), .val (.int y8), .val (.int qq), .val (.ref b10), .unset] [(.int r42)]))
      have hl42 : l42 ≤ 1 := own_ll hr42 (Nat.le_refl _)
      have hn42 : ∀ v, own_mem l42 g42 v ↔ own_R1 nq y0 y1 y2 y3 y4 y5 y6 y7 y8 v := fun v => own_Ry (hm42 v) (own_R00 v) c106
      have zs42 := Nat.le_trans zs11 gz42
      have zz42 := Nat.le_trans zz11 gz42
      refine own_pre (S' := (T42.setTop (mkF m 117 #[.val (.long i0), .second, .val (.int i1), .val (.int i2), .val (.int i3), .val (.int nq), .val (.int y0), .val (.int y1), .val (.int y2), .val (.int y3), .val (.int y4), .val (.int y5), .val (.int y6), .val (.int y7), .val (.int y8), .val (.int qq), .val (.ref b10), .unset] []))) (fun tt_ kk_ => XS.pop X42.here hx rfl (hb hby at_116) rfl rfl kk_) ?_
      exact J1 l42 k42 g42 T42 _ _ (own_Smono X42 (by decide) (by decide)) (rfl : T42.heap = T42.heap) N42 zs42 zz42 ad42 hF42 hl42 hn42
    · -- pc 106: not (0 : Int32) < nq
      refine own_pre (S' := (T11.setTop (mkF m 117 #[.val (.long i0), .second, .val (.int i1), .val (.int i2), .val (.int i3), .val (.int nq), .val (.int y0), .val (.int y1), .val (.int y2), .val (.int y3), .val (.int y4), .val (.int y5), .val (.int y6), .val (.int y7), .val (.int y8), .val (.int qq), .val (.ref b10), .unset] []))) (fun tt_ kk_ => XS.ifYes X11.here hx rfl (pc0 := 106) (pc' := 117) rfl (hb hby at_106) rfl ((if0 _ _).trans (flt c106).2.2.2) (by decide) (by decide) kk_) ?_
      have hno : ∀ v, own_mem 0 (fun _ => 0) v ↔ own_R1 nq y0 y1 y2 y3 y4 y5 y6 y7 y8 v := fun v => own_Rn (own_R00 v) c106
      exact J1 0 0 (fun _ => 0) T11 _ _ (own_Smono X11 (by decide) (by decide)) (rfl : T11.heap = T11.heap) N11 zs11 zz11 ad11 hF11 (Nat.le_succ_of_le (Nat.le_refl _)) hno
  by_cases c79 : (i3 &&& (1 : Int32)) = (0 : Int32)
  · -- pc 79: (i3 &&& (1 : Int32)) = (0 : Int32)
    refine own_pre (S' := (T9.setTop (mkF m 89 #[.val (.long i0), .second, .val (.int i1), .val (.int i2), .val (.int i3), .val (.int nq), .val (.int y0), .val (.int y1), .val (.int y2), .val (.int y3), .val (.int y4), .val (.int y5), .val (.int y6), .val (.int y7), .val (.int y8), .unset, .unset, .unset] []))) (fun tt_ kk_ => XS.ifYes X9.here hx rfl (pc0 := 79) (pc' := 89) rfl (hb hby at_79) rfl ((if0 _ _).trans (teq c79).1) (by decide) (by decide) kk_) ?_
    refine own_pre (S' := (T9.setTop (mkF m 90 #[.val (.long i0), .second, .val (.int i1), .val (.int i2), .val (.int i3), .val (.int nq), .val (.int y0), .val (.int y1), .val (.int y2), .val (.int y3), .val (.int y4), .val (.int y5), .val (.int y6), .val (.int y7), .val (.int y8), .unset, .unset, .unset] [(.int i2)]))) (fun tt_ kk_ => XS.iloadN X9.here hx rfl (hb hby at_89) rfl kk_) ?_
    refine own_pre (S' := (T9.setTop (mkF m 92 #[.val (.long i0), .second, .val (.int i1), .val (.int i2), .val (.int i3), .val (.int nq), .val (.int y0), .val (.int y1), .val (.int y2), .val (.int y3), .val (.int y4), .val (.int y5), .val (.int y6), .val (.int y7), .val (.int y8), .unset, .unset, .unset] [(.int (2147483647 : Int32)), (.int i2)]))) (X9.ldcInt hx hown (mvT hZ (hw _ (List.mem_of_getElem? (i := 0) rfl))) (g := (mkF m 90 #[.val (.long i0), .second, .val (.int i1), .val (.int i2), .val (.int i3), .val (.int nq), .val (.int y0), .val (.int y1), .val (.int y2), .val (.int y3), .val (.int y4), .val (.int y5), .val (.int y6), .val (.int y7), .val (.int y8), .unset, .unset, .unset] [(.int i2)])) rfl (hb hby at_90)) ?_
    refine own_pre (S' := (T9.setTop (mkF m 93 #[.val (.long i0), .second, .val (.int i1), .val (.int i2), .val (.int i3), .val (.int nq), .val (.int y0), .val (.int y1), .val (.int y2), .val (.int y3), .val (.int y4), .val (.int y5), .val (.int y6), .val (.int y7), .val (.int y8), .unset, .unset, .unset] [(.int (i2 &&& (2147483647 : Int32)))]))) (fun tt_ kk_ => XS.iand X9.here hx rfl (hb hby at_92) rfl kk_) ?_
    exact J93 _ (own_p31 _)
  · -- pc 79: not (i3 &&& (1 : Int32)) = (0 : Int32)
    refine own_pre (S' := (T9.setTop (mkF m 82 #[.val (.long i0), .second, .val (.int i1), .val (.int i2), .val (.int i3), .val (.int nq), .val (.int y0), .val (.int y1), .val (.int y2), .val (.int y3), .val (.int y4), .val (.int y5), .val (.int y6), .val (.int y7), .val (.int y8), .unset, .unset, .unset] []))) (fun tt_ kk_ => XS.ifNo X9.here hx rfl (hb hby at_79) rfl ((if0 _ _).trans (feq c79).1) kk_) ?_
    refine own_pre (S' := (T9.setTop (mkF m 83 #[.val (.long i0), .second, .val (.int i1), .val (.int i2), .val (.int i3), .val (.int nq), .val (.int y0), .val (.int y1), .val (.int y2), .val (.int y3), .val (.int y4), .val (.int y5), .val (.int y6), .val (.int y7), .val (.int y8), .unset, .unset, .unset] [(.int i2)]))) (fun tt_ kk_ => XS.iloadN X9.here hx rfl (hb hby at_82) rfl kk_) ?_
    refine own_pre (S' := (T9.setTop (mkF m 85 #[.val (.long i0), .second, .val (.int i1), .val (.int i2), .val (.int i3), .val (.int nq), .val (.int y0), .val (.int y1), .val (.int y2), .val (.int y3), .val (.int y4), .val (.int y5), .val (.int y6), .val (.int y7), .val (.int y8), .unset, .unset, .unset] [(.int (63 : Int32)), (.int i2)]))) (fun tt_ kk_ => XS.bipush X9.here hx rfl (hb hby at_83) kk_) ?_
    refine own_pre (S' := (T9.setTop (mkF m 86 #[.val (.long i0), .second, .val (.int i1), .val (.int i2), .val (.int i3), .val (.int nq), .val (.int y0), .val (.int y1), .val (.int y2), .val (.int y3), .val (.int y4), .val (.int y5), .val (.int y6), .val (.int y7), .val (.int y8), .unset, .unset, .unset] [(.int (i2 &&& (63 : Int32)))]))) (fun tt_ kk_ => XS.iand X9.here hx rfl (hb hby at_85) rfl kk_) ?_
    refine own_pre (S' := (T9.setTop (mkF m 93 #[.val (.long i0), .second, .val (.int i1), .val (.int i2), .val (.int i3), .val (.int nq), .val (.int y0), .val (.int y1), .val (.int y2), .val (.int y3), .val (.int y4), .val (.int y5), .val (.int y6), .val (.int y7), .val (.int y8), .unset, .unset, .unset] [(.int (i2 &&& (63 : Int32)))]))) (fun tt_ kk_ => XS.goto X9.here hx rfl (pc0 := 86) (pc' := 93) rfl (hb hby at_86) (by decide) (by decide) kk_) ?_
    exact J93 _ (own_p63 _)
set_option maxRecDepth 65536 in
set_option maxHeartbeats 40000000 in
theorem comes_1 {Post : Tables → Env → Array Value → State → Outcome → State → Prop} (hpost : ∀ tb e args s v u, (limb_1_1.after args s (.returned v) u = true ∧ limb_1_2.after args s (.returned v) u = true ∧ True) → FrameEnd s (.returned v) u (Jvm.fieldLocs frame_1_writes args s ++ Jvm.arrayLocs frame_1_arrays args s ++ Jvm.staticLocs frame_1_statics s) 24 128 → Post tb e args s (.returned v) u) :
    ArmFor flags0 classFile x code maxLocals ret World_1 tables_1 room_1 Calls_1 rest_1 Pre_1 Post := by
  intro l hfl _ _ p e ha hc hk s m args below hf hA hF happ hP
  obtain ⟨hcalls, hrest, hpre⟩ := hP
  obtain ⟨-, -, -, hnamed, -, -, -, hat⟩ := (Spec.applies_iff hf).mp happ
  obtain ⟨hg, hn⟩ := and_e (Cond.before_iff.mp (show (Jvm.Cond.and given_1 narrow_1).before args s = true from hpre))
  obtain ⟨hcount, hgg⟩ := and_e hg
  obtain ⟨hk0, hgg0⟩ := and_e hgg
  obtain ⟨hk1, hgg1⟩ := and_e hgg0
  obtain ⟨hk2, hk3⟩ := and_e hgg1
  obtain ⟨w0, w1, w2, w3, rfl⟩ : ∃ w0 w1 w2 w3 : Value, args = #[w0, w1, w2, w3] := by
    have hs : args.size = 4 := by simpa [Cond.value, given_1] using hcount
    obtain ⟨L⟩ := args
    match L, hs with
    | [w0, w1, w2, w3], _ => exact ⟨w0, w1, w2, w3, rfl⟩
  have hw := fun d (hd : d ∈ tables_1) => atoms_spec (ws := Jvm.Cond.code x code maxLocals ret :: tables_1) hat d (List.mem_cons_of_mem _ hd)
  have hfit : Fit s := fun {y c} hc i hi => by
    obtain ⟨ha, rfl⟩ := Array.getElem?_eq_some_iff.mp hc
    have q := List.all_eq_true.mp ((Array.all_eq_true_iff_forall_mem.mp hF) _ (Array.getElem_mem ha)) i (List.mem_range.mpr hi)
    simpa [Array.getElem?_eq_getElem hi] using q
  obtain ⟨i0, ei0⟩ := isL_v hk0
  obtain rfl : w0 = (.long i0) := Option.some.inj ei0
  obtain ⟨i1, ei1⟩ := is_v hk1
  obtain rfl : w1 = (.int i1) := Option.some.inj ei1
  obtain ⟨i2, ei2⟩ := is_v hk2
  obtain rfl : w2 = (.int i2) := Option.some.inj ei2
  obtain ⟨i3, ei3⟩ := is_v hk3
  obtain rfl : w3 = (.int i3) := Option.some.inj ei3
  obtain ⟨hsets, -⟩ := atoms_of jdkStatics_1 (by rw [← rest_1_c_eq]; exact hrest)
  have S_ad := Sta.start (own_eqi (Cond.before_iff.mp (hsets _ (List.mem_of_getElem? (i := 2) rfl)))) (Or.inl (hsets _ (List.mem_of_getElem? (i := 1) rfl)))
  obtain ⟨n, o, h1, h2, h3, _, L, rfl, ⟨rfl, N⟩, hq⟩ := own_law l s _ hw tables_1 i0 i1 i2 i3 s.heap s.heap.size (Nat.le_refl _) S_ad p e ha hc hk s m _ below hf ((Spec.applies_iff_loose hf).mp happ).1 ⟨rfl, State.Warmed39.refl s, rfl⟩ trivial
  refine ⟨n, _, h1, h2, h3, hpost _ _ _ _ _ _ ⟨Cond.after_iff.mpr rfl, Cond.after_iff.mpr (eq_i res_at (Term.int_eval (1)) rfl), trivial⟩ ⟨hq.1, hq.2.1, (hq.2.2.sift fun y hy => Or.inr (N y hy)).mono (by decide) (by decide)⟩⟩
theorem main_1_1 : Claimed_1_1 := comes_1 fun _ _ _ _ _ _ h hF => ⟨h.1, hF⟩
theorem main_1_2 : Claimed_1_2 := comes_1 fun _ _ _ _ _ _ h hF => ⟨h.2.1, hF⟩
end Jvm.Pilot.@@N@@
namespace Jvm.Pilot.@@N@@
open Jvm Jvm.ClassFile Sem Op Lib Jvm.Free Jvm.Stand Jvm.Pilot.@@N@@.Jvm.D
/-! MADE BY PROGRAM (witnessworld.py) out of the Statement's table words and the real class files: 15 classes; the members and pool entries that the words name. The judged class is class 1, her method 3. -/
namespace start1
open Jvm.ClassFile
def u (s : String) : CpInfo := .utf8 (stringToUtf16 s)
/-- a pool by its gaps: so many unusable entries, then the entry; so many at the end -/
def gap : Nat → List CpInfo → List CpInfo
  | 0, r => r
  | n + 1, r => .unusable :: gap n r
def poolList (es : List (Nat × CpInfo)) (last : Nat) : List CpInfo := es.foldr (fun e r => gap e.1 (e.2 :: r)) (gap last [])
def pool (es : List (Nat × CpInfo)) (last : Nat) : Array CpInfo := ⟨poolList es last⟩
def fileOf (pool : Array CpInfo) (this : Nat) (attrs : Array Attribute := #[]) (ms : Array MethodInfo := #[]) (fl : Nat := 33) (sup : Nat := 0) (ifs : Array Nat := #[]) (fds : Array FieldInfo := #[]) : ClassFile where
  minorVersion := 0
  majorVersion := 65
  constantPool := pool
  accessFlags := fl
  thisClass := this
  superClass := sup
  interfaces := ifs
  fields := fds
  methods := ms
  attributes := attrs
def plain (name : String) (sup : Option ClassId) : Class where
  name := name
  kind := .ordinary
  loader := none
  accessFlags := 33
  super := sup
  interfaces := #[]
  cf := none
  fields := #[]
  methods := #[]
  instanceTypes := #[]
  staticTypes := #[]
  resolved := #[]
  callSites := []
  init := .initialized
  statics := none
  mirror := none

def pool0 : Array CpInfo := pool [(5, u "<init>"), (0, u "()V"), (1, .class_ 10), (1, u "java/lang/Object")] 113

def k0c0 : Code := { maxStack := 0, maxLocals := 1, code := object_method_1_code, exceptionTable := #[], attributes := #[] }
def k0m0 : Method := { name := "<init>", desc := "()V", sig := { parameters := [], returnType := none }, accessFlags := 1, code := some k0c0 }
/-- java/lang/Object -/
def k0 : Class := { plain "java/lang/Object" none with
  accessFlags := 33
  interfaces := #[]
  cf := some (fileOf pool0 8 #[] #[{ accessFlags := 1, nameIndex := 5, descriptorIndex := 6, attributes := #[] }] 33 0 #[] #[])
  fields := #[]
  methods := #[k0m0]
  instanceTypes := #[]
  staticTypes := #[]
  resolved := Array.replicate 124 none
  statics := none }

def pool1 : Array CpInfo := pool [(2, .class_ 4), (0, .nameAndType 5 6), (0, u "java/lang/Object"), (0, u "<init>"), (0, u "()V"), (0, .long 63), (1, .integer 2147483647), (0, .methodref 11 12), (0, .class_ 13), (0, .nameAndType 14 15), (0, u "com/example/kunci/kunci/NumberSetContainsPinLaw"), (0, u "pick"), (0, u "(JI)I"), (0, .class_ 17), (0, u "com/example/kunci/kunci/NumberSet"), (0, .methodref 16 3), (0, .methodref 16 20), (0, .nameAndType 21 22), (0, u "add"), (0, u "(I)Z"), (0, .methodref 11 24), (0, .nameAndType 25 26), (0, u "hit"), (0, u "(IIII)Z"), (0, .methodref 16 28), (0, .nameAndType 29 22), (0, u "contains"), (3, u "law"), (0, u "(JIII)Z")] 2

def k1m0 : Method := { name := "<init>", desc := "()V", sig := { parameters := [], returnType := none }, accessFlags := 1, code := none }
def k1c1 : Code := { maxStack := 4, maxLocals := 3, code := method_2_code, exceptionTable := #[], attributes := #[] }
def k1m1 : Method := { name := "pick", desc := "(JI)I", sig := { parameters := [.long, .int], returnType := some .int }, accessFlags := 10, code := some k1c1 }
def k1c2 : Code := { maxStack := 2, maxLocals := 4, code := method_3_code, exceptionTable := #[], attributes := #[] }
def k1m2 : Method := { name := "hit", desc := "(IIII)Z", sig := { parameters := [.int, .int, .int, .int], returnType := some .boolean }, accessFlags := 10, code := some k1c2 }
def k1c3 : Code := { maxStack := 4, maxLocals := 18, code := code, exceptionTable := #[], attributes := #[] }
def k1m3 : Method := { name := "law", desc := "(JIII)Z", sig := { parameters := [.long, .int, .int, .int], returnType := some .boolean }, accessFlags := 9, code := some k1c3 }
/-- com/example/kunci/kunci/NumberSetContainsPinLaw -/
def k1 : Class := { plain "com/example/kunci/kunci/NumberSetContainsPinLaw" (some 0) with
  accessFlags := 49
  interfaces := #[]
  cf := some (fileOf pool1 11 #[] #[{ accessFlags := 1, nameIndex := 5, descriptorIndex := 6, attributes := #[] }, { accessFlags := 10, nameIndex := 14, descriptorIndex := 15, attributes := #[] }, { accessFlags := 10, nameIndex := 25, descriptorIndex := 26, attributes := #[] }, { accessFlags := 9, nameIndex := 33, descriptorIndex := 34, attributes := #[] }] 49 2 #[] #[])
  fields := #[]
  methods := #[k1m0, k1m1, k1m2, k1m3]
  instanceTypes := #[]
  staticTypes := #[]
  resolved := Array.replicate 37 none
  statics := none }

def pool2 : Array CpInfo := pool [(1, .methodref 2 3), (0, .class_ 4), (0, .nameAndType 5 6), (0, u "java/lang/Object"), (0, u "<init>"), (0, u "()V"), (0, .fieldref 8 9), (0, .class_ 10), (0, .nameAndType 11 12), (0, u "com/example/kunci/kunci/NumberSet"), (0, u "numbers"), (0, u "[I"), (0, .methodref 8 14), (0, .nameAndType 15 16), (0, u "contains"), (0, u "(I)Z"), (0, .fieldref 8 18), (0, .nameAndType 19 20), (0, u "bits"), (0, u "Ljava/util/BitSet;"), (0, .methodref 22 23), (0, .class_ 24), (0, .nameAndType 25 26), (0, u "java/util/BitSet"), (0, u "set"), (0, u "(I)V"), (0, .fieldref 8 28), (0, .nameAndType 29 30), (0, u "size"), (0, u "I"), (0, .methodref 32 33), (0, .class_ 34), (0, .nameAndType 35 36), (0, u "java/lang/Math"), (0, u "max"), (0, u "(II)I"), (0, .methodref 38 39), (0, .class_ 40), (0, .nameAndType 41 42), (0, u "java/util/Arrays"), (0, u "copyOf"), (0, u "([II)[I"), (0, .methodref 22 3), (0, .methodref 8 45), (0, .nameAndType 46 16), (0, u "holdsAmongFew"), (0, .methodref 22 48), (0, .nameAndType 49 16), (0, u "get"), (19, u "FEW"), (4, u "add")] 7

def k2c0 : Code := { maxStack := 2, maxLocals := 1, code := prog_3_method_1_code, exceptionTable := #[], attributes := #[] }
def k2m0 : Method := { name := "<init>", desc := "()V", sig := { parameters := [], returnType := none }, accessFlags := 0, code := some k2c0 }
def k2c1 : Code := { maxStack := 5, maxLocals := 3, code := prog_3_method_2_code, exceptionTable := #[], attributes := #[] }
def k2m1 : Method := { name := "add", desc := "(I)Z", sig := { parameters := [.int], returnType := some .boolean }, accessFlags := 0, code := some k2c1 }
def k2c2 : Code := { maxStack := 2, maxLocals := 2, code := prog_3_method_3_code, exceptionTable := #[], attributes := #[] }
def k2m2 : Method := { name := "contains", desc := "(I)Z", sig := { parameters := [.int], returnType := some .boolean }, accessFlags := 0, code := some k2c2 }
def k2c3 : Code := { maxStack := 2, maxLocals := 3, code := prog_3_method_7_code, exceptionTable := #[], attributes := #[] }
def k2m3 : Method := { name := "holdsAmongFew", desc := "(I)Z", sig := { parameters := [.int], returnType := some .boolean }, accessFlags := 2, code := some k2c3 }
/-- com/example/kunci/kunci/NumberSet -/
def k2 : Class := { plain "com/example/kunci/kunci/NumberSet" (some 0) with
  accessFlags := 32
  interfaces := #[]
  cf := some (fileOf pool2 8 #[] #[{ accessFlags := 0, nameIndex := 5, descriptorIndex := 6, attributes := #[] }, { accessFlags := 0, nameIndex := 74, descriptorIndex := 16, attributes := #[] }, { accessFlags := 0, nameIndex := 15, descriptorIndex := 16, attributes := #[] }, { accessFlags := 2, nameIndex := 46, descriptorIndex := 16, attributes := #[] }] 32 2 #[] #[{ accessFlags := 26, nameIndex := 69, descriptorIndex := 30, attributes := #[] }, { accessFlags := 2, nameIndex := 11, descriptorIndex := 12, attributes := #[] }, { accessFlags := 2, nameIndex := 29, descriptorIndex := 30, attributes := #[] }, { accessFlags := 2, nameIndex := 19, descriptorIndex := 20, attributes := #[] }])
  fields := #[{ name := "FEW", type := .int, accessFlags := 26, slot := 0, constantValue := 0 }, { name := "numbers", type := (.array .int), accessFlags := 2, slot := 0, constantValue := 0 }, { name := "size", type := .int, accessFlags := 2, slot := 1, constantValue := 0 }, { name := "bits", type := (.object "java/util/BitSet"), accessFlags := 2, slot := 2, constantValue := 0 }]
  methods := #[k2m0, k2m1, k2m2, k2m3]
  instanceTypes := #[(.array .int), .int, (.object "java/util/BitSet")]
  staticTypes := #[.int]
  resolved := Array.replicate 82 none
  statics := none }

def pool3 : Array CpInfo := pool [(1, .class_ 2), (0, u "java/lang/Math"), (1, .class_ 6), (1, u "java/lang/Object"), (0, u "<init>"), (0, u "()V"), (89, .class_ 100), (1, u "java/lang/Math$RandomNumberGeneratorHolder"), (71, u "negativeZeroFloatBits"), (0, u "J"), (2, u "negativeZeroDoubleBits"), (21, u "max"), (2, u "min"), (43, u "$assertionsDisabled"), (0, u "Z"), (88, u "(II)I"), (2, u "twoToTheDoubleScaleDown"), (0, u "D"), (4, u "twoToTheDoubleScaleUp"), (9, u "E"), (3, u "PI"), (2, u "TAU"), (2, u "DEGREES_TO_RADIANS"), (0, u "RADIANS_TO_DEGREES")] 94

def k3m0 : Method := { name := "<init>", desc := "()V", sig := { parameters := [], returnType := none }, accessFlags := 2, code := none }
def k3c1 : Code := { maxStack := 2, maxLocals := 2, code := jdk_29_method_65_code, exceptionTable := #[], attributes := #[] }
def k3m1 : Method := { name := "max", desc := "(II)I", sig := { parameters := [.int, .int], returnType := some .int }, accessFlags := 9, code := some k3c1 }
def k3c2 : Code := { maxStack := 2, maxLocals := 2, code := jdk_29_method_69_code, exceptionTable := #[], attributes := #[] }
def k3m2 : Method := { name := "min", desc := "(II)I", sig := { parameters := [.int, .int], returnType := some .int }, accessFlags := 9, code := some k3c2 }
/-- java/lang/Math -/
def k3 : Class := { plain "java/lang/Math" (some 0) with
  accessFlags := 49
  interfaces := #[]
  cf := some (fileOf pool3 1 #[.nestMembers #[98]] #[{ accessFlags := 2, nameIndex := 7, descriptorIndex := 8, attributes := #[] }, { accessFlags := 9, nameIndex := 198, descriptorIndex := 335, attributes := #[] }, { accessFlags := 9, nameIndex := 201, descriptorIndex := 335, attributes := #[] }] 49 4 #[] #[{ accessFlags := 25, nameIndex := 354, descriptorIndex := 339, attributes := #[] }, { accessFlags := 25, nameIndex := 358, descriptorIndex := 339, attributes := #[] }, { accessFlags := 25, nameIndex := 361, descriptorIndex := 339, attributes := #[] }, { accessFlags := 26, nameIndex := 364, descriptorIndex := 339, attributes := #[] }, { accessFlags := 26, nameIndex := 365, descriptorIndex := 339, attributes := #[] }, { accessFlags := 26, nameIndex := 172, descriptorIndex := 173, attributes := #[] }, { accessFlags := 26, nameIndex := 176, descriptorIndex := 173, attributes := #[] }, { accessFlags := 8, nameIndex := 344, descriptorIndex := 339, attributes := #[] }, { accessFlags := 8, nameIndex := 338, descriptorIndex := 339, attributes := #[] }, { accessFlags := 4120, nameIndex := 245, descriptorIndex := 246, attributes := #[] }])
  fields := #[{ name := "E", type := .double, accessFlags := 25, slot := 0, constantValue := 0 }, { name := "PI", type := .double, accessFlags := 25, slot := 1, constantValue := 0 }, { name := "TAU", type := .double, accessFlags := 25, slot := 2, constantValue := 0 }, { name := "DEGREES_TO_RADIANS", type := .double, accessFlags := 26, slot := 3, constantValue := 0 }, { name := "RADIANS_TO_DEGREES", type := .double, accessFlags := 26, slot := 4, constantValue := 0 }, { name := "negativeZeroFloatBits", type := .long, accessFlags := 26, slot := 5, constantValue := 0 }, { name := "negativeZeroDoubleBits", type := .long, accessFlags := 26, slot := 6, constantValue := 0 }, { name := "twoToTheDoubleScaleUp", type := .double, accessFlags := 8, slot := 7, constantValue := 0 }, { name := "twoToTheDoubleScaleDown", type := .double, accessFlags := 8, slot := 8, constantValue := 0 }, { name := "$assertionsDisabled", type := .boolean, accessFlags := 4120, slot := 9, constantValue := 0 }]
  methods := #[k3m0, k3m1, k3m2]
  instanceTypes := #[]
  staticTypes := #[.double, .double, .double, .double, .double, .long, .long, .double, .double, .boolean]
  resolved := Array.replicate 460 none
  statics := none }

def pool4 : Array CpInfo := pool [(2, .class_ 4), (1, u "java/lang/Object"), (0, u "<init>"), (0, u "()V"), (7, .class_ 16), (1, u "java/util/Arrays"), (57, .class_ 76), (1, u "java/util/Arrays$NaturalOrder"), (36, .class_ 115), (1, u "java/util/Arrays$LegacyMergeSort"), (1, u "Z"), (32, .methodref 151 152), (0, .class_ 153), (0, .nameAndType 154 155), (0, u "java/lang/System"), (0, u "arraycopy"), (0, u "(Ljava/lang/Object;ILjava/lang/Object;II)V"), (146, u "copyOf"), (1, .methodref 305 306), (0, .class_ 307), (0, .nameAndType 308 309), (0, u "java/lang/Math"), (0, u "min"), (0, u "(II)I"), (65, .class_ 376), (0, u "java/util/Arrays$ArrayList"), (68, u "$assertionsDisabled"), (269, u "MIN_ARRAY_SORT_GRAN"), (0, u "I"), (2, u "INSERTIONSORT_THRESHOLD"), (151, u "([II)[I"), (103, .class_ 976), (0, u "java/util/Arrays$ArrayItr")] 52

def k4m0 : Method := { name := "<init>", desc := "()V", sig := { parameters := [], returnType := none }, accessFlags := 2, code := none }
def k4c1 : Code := { maxStack := 6, maxLocals := 3, code := jdk_65_method_123_code, exceptionTable := #[], attributes := #[] }
def k4m1 : Method := { name := "copyOf", desc := "([II)[I", sig := { parameters := [(.array .int), .int], returnType := some (.array .int) }, accessFlags := 9, code := some k4c1 }
/-- java/util/Arrays -/
def k4 : Class := { plain "java/util/Arrays" (some 0) with
  accessFlags := 49
  interfaces := #[]
  cf := some (fileOf pool4 14 #[.nestMembers #[975, 375, 113, 74]] #[{ accessFlags := 2, nameIndex := 5, descriptorIndex := 6, attributes := #[] }, { accessFlags := 9, nameIndex := 302, descriptorIndex := 871, attributes := #[] }] 49 2 #[] #[{ accessFlags := 26, nameIndex := 715, descriptorIndex := 716, attributes := #[] }, { accessFlags := 26, nameIndex := 719, descriptorIndex := 716, attributes := #[] }, { accessFlags := 4120, nameIndex := 445, descriptorIndex := 117, attributes := #[] }])
  fields := #[{ name := "MIN_ARRAY_SORT_GRAN", type := .int, accessFlags := 26, slot := 0, constantValue := 0 }, { name := "INSERTIONSORT_THRESHOLD", type := .int, accessFlags := 26, slot := 1, constantValue := 0 }, { name := "$assertionsDisabled", type := .boolean, accessFlags := 4120, slot := 2, constantValue := 0 }]
  methods := #[k4m0, k4m1]
  instanceTypes := #[]
  staticTypes := #[.int, .int, .boolean]
  resolved := Array.replicate 1029 none
  statics := none }

def pool5 : Array CpInfo := pool [(2, .class_ 4), (1, u "java/lang/Object"), (0, u "<init>"), (0, u "()V"), (1, .class_ 10), (1, u "java/lang/System"), (0, u "allowSecurityManager"), (0, u "I"), (16, u "cons"), (0, u "Ljava/io/Console;"), (77, .class_ 110), (1, u "java/lang/System$CallersHolder"), (43, u "initialErrStream"), (0, u "Ljava/io/PrintStream;"), (19, u "security"), (0, u "Ljava/lang/SecurityManager;"), (31, .class_ 209), (0, u "java/lang/System$1"), (7, u "props"), (0, u "Ljava/util/Properties;"), (2, u "lineSeparator"), (0, u "Ljava/lang/String;"), (96, .class_ 321), (1, u "java/lang/System$LoggerFinder"), (5, .class_ 328), (0, u "java/lang/System$Logger"), (67, u "err"), (2, u "out"), (91, u "notSupportedJnuEncoding"), (15, u "in"), (17, u "initialIn"), (0, u "Ljava/io/InputStream;"), (35, u "bootLayer"), (0, u "Ljava/lang/ModuleLayer;"), (99, .class_ 664), (0, u "java/lang/System$2"), (9, u "NEVER"), (2, u "MAYBE"), (49, u "arraycopy"), (0, u "(Ljava/lang/Object;ILjava/lang/Object;II)V"), (72, .class_ 802), (0, u "java/lang/System$Logger$Level")] 31

def k5m0 : Method := { name := "<init>", desc := "()V", sig := { parameters := [], returnType := none }, accessFlags := 2, code := none }
def k5m1 : Method := { name := "arraycopy", desc := "(Ljava/lang/Object;ILjava/lang/Object;II)V", sig := { parameters := [(.object "java/lang/Object"), .int, (.object "java/lang/Object"), .int, .int], returnType := none }, accessFlags := 265, code := none }
/-- java/lang/System -/
def k5 : Class := { plain "java/lang/System" (some 0) with
  accessFlags := 49
  interfaces := #[]
  cf := some (fileOf pool5 8 #[.nestMembers #[319, 327, 801, 108, 663, 208]] #[{ accessFlags := 2, nameIndex := 5, descriptorIndex := 6, attributes := #[] }, { accessFlags := 265, nameIndex := 727, descriptorIndex := 728, attributes := #[] }] 49 2 #[] #[{ accessFlags := 25, nameIndex := 507, descriptorIndex := 526, attributes := #[] }, { accessFlags := 25, nameIndex := 399, descriptorIndex := 155, attributes := #[] }, { accessFlags := 25, nameIndex := 396, descriptorIndex := 155, attributes := #[] }, { accessFlags := 10, nameIndex := 525, descriptorIndex := 526, attributes := #[] }, { accessFlags := 26, nameIndex := 674, descriptorIndex := 12, attributes := #[] }, { accessFlags := 26, nameIndex := 677, descriptorIndex := 12, attributes := #[] }, { accessFlags := 10, nameIndex := 11, descriptorIndex := 12, attributes := #[] }, { accessFlags := 74, nameIndex := 175, descriptorIndex := 176, attributes := #[] }, { accessFlags := 10, nameIndex := 491, descriptorIndex := 222, attributes := #[] }, { accessFlags := 74, nameIndex := 29, descriptorIndex := 30, attributes := #[] }, { accessFlags := 74, nameIndex := 154, descriptorIndex := 155, attributes := #[] }, { accessFlags := 10, nameIndex := 217, descriptorIndex := 218, attributes := #[] }, { accessFlags := 10, nameIndex := 221, descriptorIndex := 222, attributes := #[] }, { accessFlags := 8, nameIndex := 562, descriptorIndex := 563, attributes := #[] }])
  fields := #[{ name := "in", type := (.object "java/io/InputStream"), accessFlags := 25, slot := 0, constantValue := 0 }, { name := "out", type := (.object "java/io/PrintStream"), accessFlags := 25, slot := 1, constantValue := 0 }, { name := "err", type := (.object "java/io/PrintStream"), accessFlags := 25, slot := 2, constantValue := 0 }, { name := "initialIn", type := (.object "java/io/InputStream"), accessFlags := 10, slot := 3, constantValue := 0 }, { name := "NEVER", type := .int, accessFlags := 26, slot := 4, constantValue := 0 }, { name := "MAYBE", type := .int, accessFlags := 26, slot := 5, constantValue := 0 }, { name := "allowSecurityManager", type := .int, accessFlags := 10, slot := 6, constantValue := 0 }, { name := "security", type := (.object "java/lang/SecurityManager"), accessFlags := 74, slot := 7, constantValue := 0 }, { name := "notSupportedJnuEncoding", type := (.object "java/lang/String"), accessFlags := 10, slot := 8, constantValue := 0 }, { name := "cons", type := (.object "java/io/Console"), accessFlags := 74, slot := 9, constantValue := 0 }, { name := "initialErrStream", type := (.object "java/io/PrintStream"), accessFlags := 74, slot := 10, constantValue := 0 }, { name := "props", type := (.object "java/util/Properties"), accessFlags := 10, slot := 11, constantValue := 0 }, { name := "lineSeparator", type := (.object "java/lang/String"), accessFlags := 10, slot := 12, constantValue := 0 }, { name := "bootLayer", type := (.object "java/lang/ModuleLayer"), accessFlags := 8, slot := 13, constantValue := 0 }]
  methods := #[k5m0, k5m1]
  instanceTypes := #[]
  staticTypes := #[(.object "java/io/InputStream"), (.object "java/io/PrintStream"), (.object "java/io/PrintStream"), (.object "java/io/InputStream"), .int, .int, .int, (.object "java/lang/SecurityManager"), (.object "java/lang/String"), (.object "java/io/Console"), (.object "java/io/PrintStream"), (.object "java/util/Properties"), (.object "java/lang/String"), (.object "java/lang/ModuleLayer")]
  resolved := Array.replicate 834 none
  statics := none }

def pool6 : Array CpInfo := pool [(1, .class_ 2), (0, u "java/lang/Cloneable"), (0, .class_ 4), (0, u "java/lang/Object")] 2

/-- java/lang/Cloneable -/
def k6 : Class := { plain "java/lang/Cloneable" (some 0) with
  accessFlags := 1537
  interfaces := #[]
  cf := some (fileOf pool6 1 #[] #[] 1537 3 #[] #[])
  fields := #[]
  methods := #[]
  instanceTypes := #[]
  staticTypes := #[]
  resolved := Array.replicate 7 none
  statics := none }

def pool7 : Array CpInfo := pool [(1, .class_ 2), (0, u "java/io/Serializable"), (0, .class_ 4), (0, u "java/lang/Object")] 2

/-- java/io/Serializable -/
def k7 : Class := { plain "java/io/Serializable" (some 0) with
  accessFlags := 1537
  interfaces := #[]
  cf := some (fileOf pool7 1 #[] #[] 1537 3 #[] #[])
  fields := #[]
  methods := #[]
  instanceTypes := #[]
  staticTypes := #[]
  resolved := Array.replicate 7 none
  statics := none }

def pool8 : Array CpInfo := pool [(1, .class_ 2), (0, u "java/util/BitSet"), (0, .fieldref 1 4), (0, .nameAndType 5 6), (0, u "$assertionsDisabled"), (0, u "Z"), (0, .fieldref 1 8), (0, .nameAndType 9 10), (0, u "wordsInUse"), (0, u "I"), (0, .fieldref 1 12), (0, .nameAndType 13 14), (0, u "words"), (0, u "[J"), (3, .nameAndType 19 20), (0, u "<init>"), (0, u "()V"), (0, .methodref 22 18), (0, .class_ 23), (0, u "java/lang/Object"), (0, .fieldref 1 25), (0, .nameAndType 26 6), (0, u "sizeIsSticky"), (0, .methodref 1 28), (0, .nameAndType 29 30), (0, u "initWords"), (0, u "(I)V"), (21, .methodref 1 53), (0, .nameAndType 54 55), (0, u "wordIndex"), (0, u "(I)I"), (0, .methodref 1 57), (0, .nameAndType 58 20), (0, u "checkInvariants"), (21, u "get"), (58, .methodref 1 140), (0, .nameAndType 141 30), (0, u "ensureCapacity"), (13, .methodref 1 156), (0, .nameAndType 157 30), (0, u "expandTo"), (11, u "set"), (99, .class_ 270), (0, u "java/util/BitSet$1BitSetSpliterator"), (22, u "serialPersistentFields"), (0, u "[Ljava/io/ObjectStreamField;"), (0, .class_ 296), (0, u "java/lang/Cloneable"), (0, .class_ 298), (0, u "java/io/Serializable"), (0, u "ADDRESS_BITS_PER_WORD"), (2, u "BITS_PER_WORD"), (1, u "BIT_INDEX_MASK"), (1, u "WORD_MASK"), (0, u "J"), (0, u "serialVersionUID"), (42, u "(I)Z")] 65

def k8c0 : Code := { maxStack := 2, maxLocals := 1, code := jdk_92_method_1_code, exceptionTable := #[], attributes := #[] }
def k8m0 : Method := { name := "wordIndex", desc := "(I)I", sig := { parameters := [.int], returnType := some .int }, accessFlags := 10, code := some k8c0 }
def k8c1 : Code := { maxStack := 4, maxLocals := 1, code := jdk_92_method_2_code, exceptionTable := #[], attributes := #[] }
def k8m1 : Method := { name := "checkInvariants", desc := "()V", sig := { parameters := [], returnType := none }, accessFlags := 2, code := some k8c1 }
def k8c2 : Code := { maxStack := 2, maxLocals := 1, code := jdk_92_method_4_code, exceptionTable := #[], attributes := #[] }
def k8m2 : Method := { name := "<init>", desc := "()V", sig := { parameters := [], returnType := none }, accessFlags := 1, code := some k8c2 }
def k8c3 : Code := { maxStack := 3, maxLocals := 2, code := jdk_92_method_6_code, exceptionTable := #[], attributes := #[] }
def k8m3 : Method := { name := "initWords", desc := "(I)V", sig := { parameters := [.int], returnType := none }, accessFlags := 2, code := some k8c3 }
def k8c4 : Code := { maxStack := 3, maxLocals := 3, code := jdk_92_method_14_code, exceptionTable := #[], attributes := #[] }
def k8m4 : Method := { name := "ensureCapacity", desc := "(I)V", sig := { parameters := [.int], returnType := none }, accessFlags := 2, code := some k8c4 }
def k8c5 : Code := { maxStack := 2, maxLocals := 3, code := jdk_92_method_15_code, exceptionTable := #[], attributes := #[] }
def k8m5 : Method := { name := "expandTo", desc := "(I)V", sig := { parameters := [.int], returnType := none }, accessFlags := 2, code := some k8c5 }
def k8c6 : Code := { maxStack := 7, maxLocals := 3, code := jdk_92_method_19_code, exceptionTable := #[], attributes := #[] }
def k8m6 : Method := { name := "set", desc := "(I)V", sig := { parameters := [.int], returnType := none }, accessFlags := 1, code := some k8c6 }
def k8c7 : Code := { maxStack := 5, maxLocals := 3, code := jdk_92_method_26_code, exceptionTable := #[], attributes := #[] }
def k8m7 : Method := { name := "get", desc := "(I)Z", sig := { parameters := [.int], returnType := some .boolean }, accessFlags := 1, code := some k8c7 }
/-- java/util/BitSet -/
def k8 : Class := { plain "java/util/BitSet" (some 0) with
  accessFlags := 33
  interfaces := #[6, 7]
  cf := some (fileOf pool8 1 #[.nestMembers #[269]] #[{ accessFlags := 10, nameIndex := 54, descriptorIndex := 55, attributes := #[] }, { accessFlags := 2, nameIndex := 58, descriptorIndex := 20, attributes := #[] }, { accessFlags := 1, nameIndex := 19, descriptorIndex := 20, attributes := #[] }, { accessFlags := 2, nameIndex := 29, descriptorIndex := 30, attributes := #[] }, { accessFlags := 2, nameIndex := 141, descriptorIndex := 30, attributes := #[] }, { accessFlags := 2, nameIndex := 157, descriptorIndex := 30, attributes := #[] }, { accessFlags := 1, nameIndex := 169, descriptorIndex := 30, attributes := #[] }, { accessFlags := 1, nameIndex := 80, descriptorIndex := 351, attributes := #[] }] 33 22 #[295, 297] #[{ accessFlags := 26, nameIndex := 299, descriptorIndex := 10, attributes := #[] }, { accessFlags := 26, nameIndex := 302, descriptorIndex := 10, attributes := #[] }, { accessFlags := 26, nameIndex := 304, descriptorIndex := 10, attributes := #[] }, { accessFlags := 26, nameIndex := 306, descriptorIndex := 307, attributes := #[] }, { accessFlags := 26, nameIndex := 293, descriptorIndex := 294, attributes := #[] }, { accessFlags := 2, nameIndex := 13, descriptorIndex := 14, attributes := #[] }, { accessFlags := 130, nameIndex := 9, descriptorIndex := 10, attributes := #[] }, { accessFlags := 130, nameIndex := 26, descriptorIndex := 6, attributes := #[] }, { accessFlags := 26, nameIndex := 308, descriptorIndex := 307, attributes := #[] }, { accessFlags := 4120, nameIndex := 5, descriptorIndex := 6, attributes := #[] }])
  fields := #[{ name := "ADDRESS_BITS_PER_WORD", type := .int, accessFlags := 26, slot := 0, constantValue := 0 }, { name := "BITS_PER_WORD", type := .int, accessFlags := 26, slot := 1, constantValue := 0 }, { name := "BIT_INDEX_MASK", type := .int, accessFlags := 26, slot := 2, constantValue := 0 }, { name := "WORD_MASK", type := .long, accessFlags := 26, slot := 3, constantValue := 0 }, { name := "serialPersistentFields", type := (.array (.object "java/io/ObjectStreamField")), accessFlags := 26, slot := 4, constantValue := 0 }, { name := "words", type := (.array .long), accessFlags := 2, slot := 0, constantValue := 0 }, { name := "wordsInUse", type := .int, accessFlags := 130, slot := 1, constantValue := 0 }, { name := "sizeIsSticky", type := .boolean, accessFlags := 130, slot := 2, constantValue := 0 }, { name := "serialVersionUID", type := .long, accessFlags := 26, slot := 5, constantValue := 0 }, { name := "$assertionsDisabled", type := .boolean, accessFlags := 4120, slot := 6, constantValue := 0 }]
  methods := #[k8m0, k8m1, k8m2, k8m3, k8m4, k8m5, k8m6, k8m7]
  instanceTypes := #[(.array .long), .int, .boolean]
  staticTypes := #[.int, .int, .int, .long, (.array (.object "java/io/ObjectStreamField")), .long, .boolean]
  resolved := Array.replicate 417 none
  statics := some 0 }

/-- the primitive byte -/
def k9 : Class := { plain "byte" none with kind := .primitive 'B', accessFlags := 0x411 }
/-- [B -/
def k10 : Class := { plain "[B" (some 0) with kind := .array 9 .byte, interfaces := #[6, 7], accessFlags := 1041 }

/-- the primitive int -/
def k11 : Class := { plain "int" none with kind := .primitive 'I', accessFlags := 0x411 }
/-- [I -/
def k12 : Class := { plain "[I" (some 0) with kind := .array 11 .int, interfaces := #[6, 7], accessFlags := 1041 }

/-- the primitive long -/
def k13 : Class := { plain "long" none with kind := .primitive 'J', accessFlags := 0x411 }
/-- [J -/
def k14 : Class := { plain "[J" (some 0) with kind := .array 13 .long, interfaces := #[6, 7], accessFlags := 1041 }

def heap : Heap := #[{ cls := 8, slots := #[.int 0, .int 0, .int 0, .long 0, .null, .long 0, .int 1], vm := .statics 8 }]
def classes : Array Class := #[k0, k1, k2, k3, k4, k5, k6, k7, k8, k9, k10, k11, k12, k13, k14]
def interned : List (Array UInt16 × Addr) := []
def slotsUsed : Nat := 7
def theMethod : MethodId := ⟨1, 3⟩
def args0 : Array Value := #[.long 5, .int 3, .int 7, .int 1]
def aboutOver (below : List Frame) : State where
  vm := { classes := classes, interned := interned.toArray }
  heap := heap
  slotsUsed := slotsUsed
  threads := #[{ frames := .invoking theMethod args0 :: below }]
def below0 : List Frame := [.native { method := ⟨0, 0⟩, args := #[] }]
def about1 : State := aboutOver below0
def p0 : Program := .bare "" "" ""
def e0 : Env := launch0.env 0 0 0
theorem w_frames : about1.frames = Frame.invoking theMethod args0 :: below0 := rfl
set_option maxRecDepth 65536 in
theorem w_args : argsFit about1.vm theMethod args0 = true := by decide +kernel
set_option maxRecDepth 65536 in
theorem w_heap : heapFits about1 = true := by decide +kernel
set_option maxRecDepth 65536 in
theorem w_runnable : about1.curStatus? = some .runnable := by decide +kernel
set_option maxRecDepth 65536 in
theorem w_alone : about1.alone = true := by decide +kernel
set_option maxRecDepth 65536 in
theorem w_named : about1.methodNamed? x = some theMethod := by decide +kernel
set_option maxRecDepth 65536 in
theorem w_hears : about1.hears theMethod below0 = true := by decide +kernel
set_option maxRecDepth 65536 in
theorem w_ripe : about1.ripe theMethod args0 below0 = true := by decide +kernel
theorem w_running : about1.status = .running := rfl
set_option maxRecDepth 65536 in
theorem w_room : about1.hasRoom e0.platform room_1 = true :=
  launch0.hasRoom_least _ room_1 (by decide +kernel) (by decide +kernel) (by decide +kernel) (by decide +kernel) (by decide +kernel) (by decide +kernel)
theorem allAtoms_all (ts : List Jvm.Cond) (a : Array Jvm.Value) (st : Jvm.State) : (allAtoms ts).before a st = ts.all (fun c => c.before a st) := by
  induction ts with
  | nil => rfl
  | cons c t ih =>
    show (Jvm.Cond.and c (allAtoms t)).before a st = _
    rw [Jvm.Cond.before_and, ih, List.all_cons]
def words1 : List Jvm.Cond := Jvm.Cond.code x code maxLocals ret :: tables_1
/-- a 'code' word, met by the world's own term for the bytes: nothing is compared byte by byte -/
theorem code_word {y : MethodName} {bytes : ByteArray} {mx : Nat} {rt : Option FieldType} {a : Array Value} {s : State} {m : MethodId} {meth : Method} {c : Code} (h1 : s.methodNamed? y = some m) (h2 : s.vm.method? m = some meth) (h3 : meth.code = some c) (h4 : c.code = bytes)
    (h5 : (c.maxLocals == mx && c.exceptionTable.isEmpty && decide (c.maxStack ≤ mostOperands) && decide (meth.sig.returnType = rt) && !meth.locks && decide (parseMethodDescriptor y.desc = some meth.sig)) = true) : (Jvm.Cond.code y bytes mx rt).before a s = true := by
  simp only [Bool.and_eq_true, beq_iff_eq, Bool.not_eq_true', decide_eq_true_eq] at h5
  obtain ⟨⟨⟨⟨⟨g1, g2⟩, g3⟩, g4⟩, g5⟩, g6⟩ := h5
  simp [Cond.before, Cond.holds, Cond.value, h1, h2, h3, h4, g1, g2, g3, g4, g5, g6]
def isCode : Jvm.Cond → Bool
  | .code _ _ _ _ => true
  | _ => false
theorem all_split {L : List Jvm.Cond} {P : Jvm.Cond → Bool} (h1 : L.all (fun c => isCode c || P c) = true) (h2 : ∀ c ∈ L.filter isCode, P c = true) : L.all P = true := by
  refine List.all_eq_true.mpr fun c hc => ?_
  have h := List.all_eq_true.mp h1 c hc
  rcases Bool.eq_false_or_eq_true (isCode c) with hi | hi
  · exact h2 c (List.mem_filter.mpr ⟨hc, hi⟩)
  · simpa [hi] using h
set_option maxRecDepth 65536 in
theorem w_c0 : (Jvm.Cond.code x code maxLocals ret).before args0 about1 = true := code_word (m := ⟨1, 3⟩) (meth := k1m3) (c := k1c3) (by decide +kernel) rfl rfl rfl (by decide +kernel)
set_option maxRecDepth 65536 in
theorem w_c1 : (Jvm.Cond.code ({ cls := "com/example/kunci/kunci/NumberSetContainsPinLaw", name := "pick", desc := "(JI)I" } : Jvm.MethodName) method_2_code (3 : Nat) (Option.some Jvm.ClassFile.FieldType.int)).before args0 about1 = true := code_word (m := ⟨1, 1⟩) (meth := k1m1) (c := k1c1) (by decide +kernel) rfl rfl rfl (by decide +kernel)
set_option maxRecDepth 65536 in
theorem w_c2 : (Jvm.Cond.code ({ cls := "com/example/kunci/kunci/NumberSet", name := "<init>", desc := "()V" } : Jvm.MethodName) prog_3_method_1_code (1 : Nat) (Option.none : Option Jvm.ClassFile.FieldType)).before args0 about1 = true := code_word (m := ⟨2, 0⟩) (meth := k2m0) (c := k2c0) (by decide +kernel) rfl rfl rfl (by decide +kernel)
set_option maxRecDepth 65536 in
theorem w_c3 : (Jvm.Cond.code ({ cls := "java/lang/Object", name := "<init>", desc := "()V" } : Jvm.MethodName) object_method_1_code (1 : Nat) (Option.none : Option Jvm.ClassFile.FieldType)).before args0 about1 = true := code_word (m := ⟨0, 0⟩) (meth := k0m0) (c := k0c0) (by decide +kernel) rfl rfl rfl (by decide +kernel)
set_option maxRecDepth 65536 in
theorem w_c4 : (Jvm.Cond.code ({ cls := "com/example/kunci/kunci/NumberSet", name := "add", desc := "(I)Z" } : Jvm.MethodName) prog_3_method_2_code (3 : Nat) (Option.some Jvm.ClassFile.FieldType.boolean)).before args0 about1 = true := code_word (m := ⟨2, 1⟩) (meth := k2m1) (c := k2c1) (by decide +kernel) rfl rfl rfl (by decide +kernel)
set_option maxRecDepth 65536 in
theorem w_c5 : (Jvm.Cond.code ({ cls := "com/example/kunci/kunci/NumberSet", name := "contains", desc := "(I)Z" } : Jvm.MethodName) prog_3_method_3_code (2 : Nat) (Option.some Jvm.ClassFile.FieldType.boolean)).before args0 about1 = true := code_word (m := ⟨2, 2⟩) (meth := k2m2) (c := k2c2) (by decide +kernel) rfl rfl rfl (by decide +kernel)
set_option maxRecDepth 65536 in
theorem w_c6 : (Jvm.Cond.code ({ cls := "com/example/kunci/kunci/NumberSet", name := "holdsAmongFew", desc := "(I)Z" } : Jvm.MethodName) prog_3_method_7_code (3 : Nat) (Option.some Jvm.ClassFile.FieldType.boolean)).before args0 about1 = true := code_word (m := ⟨2, 3⟩) (meth := k2m3) (c := k2c3) (by decide +kernel) rfl rfl rfl (by decide +kernel)
set_option maxRecDepth 65536 in
theorem w_c7 : (Jvm.Cond.code ({ cls := "java/lang/Math", name := "max", desc := "(II)I" } : Jvm.MethodName) jdk_29_method_65_code (2 : Nat) (Option.some Jvm.ClassFile.FieldType.int)).before args0 about1 = true := code_word (m := ⟨3, 1⟩) (meth := k3m1) (c := k3c1) (by decide +kernel) rfl rfl rfl (by decide +kernel)
set_option maxRecDepth 65536 in
theorem w_c8 : (Jvm.Cond.code ({ cls := "java/util/Arrays", name := "copyOf", desc := "([II)[I" } : Jvm.MethodName) jdk_65_method_123_code (3 : Nat) (Option.some (Jvm.ClassFile.FieldType.array Jvm.ClassFile.FieldType.int))).before args0 about1 = true := code_word (m := ⟨4, 1⟩) (meth := k4m1) (c := k4c1) (by decide +kernel) rfl rfl rfl (by decide +kernel)
set_option maxRecDepth 65536 in
theorem w_c9 : (Jvm.Cond.code ({ cls := "java/lang/Math", name := "min", desc := "(II)I" } : Jvm.MethodName) jdk_29_method_69_code (2 : Nat) (Option.some Jvm.ClassFile.FieldType.int)).before args0 about1 = true := code_word (m := ⟨3, 2⟩) (meth := k3m2) (c := k3c2) (by decide +kernel) rfl rfl rfl (by decide +kernel)
set_option maxRecDepth 65536 in
theorem w_c10 : (Jvm.Cond.code ({ cls := "com/example/kunci/kunci/NumberSetContainsPinLaw", name := "hit", desc := "(IIII)Z" } : Jvm.MethodName) method_3_code (4 : Nat) (Option.some Jvm.ClassFile.FieldType.boolean)).before args0 about1 = true := code_word (m := ⟨1, 2⟩) (meth := k1m2) (c := k1c2) (by decide +kernel) rfl rfl rfl (by decide +kernel)
set_option maxRecDepth 65536 in
theorem w_c11 : (Jvm.Cond.code ({ cls := "java/util/BitSet", name := "<init>", desc := "()V" } : Jvm.MethodName) jdk_92_method_4_code (1 : Nat) (Option.none : Option Jvm.ClassFile.FieldType)).before args0 about1 = true := code_word (m := ⟨8, 2⟩) (meth := k8m2) (c := k8c2) (by decide +kernel) rfl rfl rfl (by decide +kernel)
set_option maxRecDepth 65536 in
theorem w_c12 : (Jvm.Cond.code ({ cls := "java/util/BitSet", name := "initWords", desc := "(I)V" } : Jvm.MethodName) jdk_92_method_6_code (2 : Nat) (Option.none : Option Jvm.ClassFile.FieldType)).before args0 about1 = true := code_word (m := ⟨8, 3⟩) (meth := k8m3) (c := k8c3) (by decide +kernel) rfl rfl rfl (by decide +kernel)
set_option maxRecDepth 65536 in
theorem w_c13 : (Jvm.Cond.code ({ cls := "java/util/BitSet", name := "wordIndex", desc := "(I)I" } : Jvm.MethodName) jdk_92_method_1_code (1 : Nat) (Option.some Jvm.ClassFile.FieldType.int)).before args0 about1 = true := code_word (m := ⟨8, 0⟩) (meth := k8m0) (c := k8c0) (by decide +kernel) rfl rfl rfl (by decide +kernel)
set_option maxRecDepth 65536 in
theorem w_c14 : (Jvm.Cond.code ({ cls := "java/util/BitSet", name := "set", desc := "(I)V" } : Jvm.MethodName) jdk_92_method_19_code (3 : Nat) (Option.none : Option Jvm.ClassFile.FieldType)).before args0 about1 = true := code_word (m := ⟨8, 6⟩) (meth := k8m6) (c := k8c6) (by decide +kernel) rfl rfl rfl (by decide +kernel)
set_option maxRecDepth 65536 in
theorem w_c15 : (Jvm.Cond.code ({ cls := "java/util/BitSet", name := "expandTo", desc := "(I)V" } : Jvm.MethodName) jdk_92_method_15_code (3 : Nat) (Option.none : Option Jvm.ClassFile.FieldType)).before args0 about1 = true := code_word (m := ⟨8, 5⟩) (meth := k8m5) (c := k8c5) (by decide +kernel) rfl rfl rfl (by decide +kernel)
set_option maxRecDepth 65536 in
theorem w_c16 : (Jvm.Cond.code ({ cls := "java/util/BitSet", name := "ensureCapacity", desc := "(I)V" } : Jvm.MethodName) jdk_92_method_14_code (3 : Nat) (Option.none : Option Jvm.ClassFile.FieldType)).before args0 about1 = true := code_word (m := ⟨8, 4⟩) (meth := k8m4) (c := k8c4) (by decide +kernel) rfl rfl rfl (by decide +kernel)
set_option maxRecDepth 65536 in
theorem w_c17 : (Jvm.Cond.code ({ cls := "java/util/BitSet", name := "checkInvariants", desc := "()V" } : Jvm.MethodName) jdk_92_method_2_code (1 : Nat) (Option.none : Option Jvm.ClassFile.FieldType)).before args0 about1 = true := code_word (m := ⟨8, 1⟩) (meth := k8m1) (c := k8c1) (by decide +kernel) rfl rfl rfl (by decide +kernel)
set_option maxRecDepth 65536 in
theorem w_c18 : (Jvm.Cond.code ({ cls := "java/util/BitSet", name := "get", desc := "(I)Z" } : Jvm.MethodName) jdk_92_method_26_code (3 : Nat) (Option.some Jvm.ClassFile.FieldType.boolean)).before args0 about1 = true := code_word (m := ⟨8, 7⟩) (meth := k8m7) (c := k8c7) (by decide +kernel) rfl rfl rfl (by decide +kernel)
def codes1 : List Jvm.Cond := [Jvm.Cond.code x code maxLocals ret, Jvm.Cond.code ({ cls := "com/example/kunci/kunci/NumberSetContainsPinLaw", name := "pick", desc := "(JI)I" } : Jvm.MethodName) method_2_code (3 : Nat) (Option.some Jvm.ClassFile.FieldType.int), Jvm.Cond.code ({ cls := "com/example/kunci/kunci/NumberSet", name := "<init>", desc := "()V" } : Jvm.MethodName) prog_3_method_1_code (1 : Nat) (Option.none : Option Jvm.ClassFile.FieldType), Jvm.Cond.code ({ cls := "java/lang/Object", name := "<init>", desc := "()V" } : Jvm.MethodName) object_method_1_code (1 : Nat) (Option.none : Option Jvm.ClassFile.FieldType), Jvm.Cond.code ({ cls := "com/example/kunci/kunci/NumberSet", name := "add", desc := "(I)Z" } : Jvm.MethodName) prog_3_method_2_code (3 : Nat) (Option.some Jvm.ClassFile.FieldType.boolean), Jvm.Cond.code ({ cls := "com/example/kunci/kunci/NumberSet", name := "contains", desc := "(I)Z" } : Jvm.MethodName) prog_3_method_3_code (2 : Nat) (Option.some Jvm.ClassFile.FieldType.boolean), Jvm.Cond.code ({ cls := "com/example/kunci/kunci/NumberSet", name := "holdsAmongFew", desc := "(I)Z" } : Jvm.MethodName) prog_3_method_7_code (3 : Nat) (Option.some Jvm.ClassFile.FieldType.boolean), Jvm.Cond.code ({ cls := "java/lang/Math", name := "max", desc := "(II)I" } : Jvm.MethodName) jdk_29_method_65_code (2 : Nat) (Option.some Jvm.ClassFile.FieldType.int), Jvm.Cond.code ({ cls := "java/util/Arrays", name := "copyOf", desc := "([II)[I" } : Jvm.MethodName) jdk_65_method_123_code (3 : Nat) (Option.some (Jvm.ClassFile.FieldType.array Jvm.ClassFile.FieldType.int)), Jvm.Cond.code ({ cls := "java/lang/Math", name := "min", desc := "(II)I" } : Jvm.MethodName) jdk_29_method_69_code (2 : Nat) (Option.some Jvm.ClassFile.FieldType.int), Jvm.Cond.code ({ cls := "com/example/kunci/kunci/NumberSetContainsPinLaw", name := "hit", desc := "(IIII)Z" } : Jvm.MethodName) method_3_code (4 : Nat) (Option.some Jvm.ClassFile.FieldType.boolean), Jvm.Cond.code ({ cls := "java/util/BitSet", name := "<init>", desc := "()V" } : Jvm.MethodName) jdk_92_method_4_code (1 : Nat) (Option.none : Option Jvm.ClassFile.FieldType), Jvm.Cond.code ({ cls := "java/util/BitSet", name := "initWords", desc := "(I)V" } : Jvm.MethodName) jdk_92_method_6_code (2 : Nat) (Option.none : Option Jvm.ClassFile.FieldType), Jvm.Cond.code ({ cls := "java/util/BitSet", name := "wordIndex", desc := "(I)I" } : Jvm.MethodName) jdk_92_method_1_code (1 : Nat) (Option.some Jvm.ClassFile.FieldType.int), Jvm.Cond.code ({ cls := "java/util/BitSet", name := "set", desc := "(I)V" } : Jvm.MethodName) jdk_92_method_19_code (3 : Nat) (Option.none : Option Jvm.ClassFile.FieldType), Jvm.Cond.code ({ cls := "java/util/BitSet", name := "expandTo", desc := "(I)V" } : Jvm.MethodName) jdk_92_method_15_code (3 : Nat) (Option.none : Option Jvm.ClassFile.FieldType), Jvm.Cond.code ({ cls := "java/util/BitSet", name := "ensureCapacity", desc := "(I)V" } : Jvm.MethodName) jdk_92_method_14_code (3 : Nat) (Option.none : Option Jvm.ClassFile.FieldType), Jvm.Cond.code ({ cls := "java/util/BitSet", name := "checkInvariants", desc := "()V" } : Jvm.MethodName) jdk_92_method_2_code (1 : Nat) (Option.none : Option Jvm.ClassFile.FieldType), Jvm.Cond.code ({ cls := "java/util/BitSet", name := "get", desc := "(I)Z" } : Jvm.MethodName) jdk_92_method_26_code (3 : Nat) (Option.some Jvm.ClassFile.FieldType.boolean)]
set_option maxRecDepth 65536 in
theorem codes_eq : words1.filter isCode = codes1 := rfl
theorem w_codes : ∀ c ∈ words1.filter isCode, c.before args0 about1 = true := by
  rw [codes_eq]
  intro c hc
  simp only [codes1, List.mem_cons, List.not_mem_nil, or_false] at hc
  rcases hc with rfl | rfl | rfl | rfl | rfl | rfl | rfl | rfl | rfl | rfl | rfl | rfl | rfl | rfl | rfl | rfl | rfl | rfl | rfl
  · exact w_c0
  · exact w_c1
  · exact w_c2
  · exact w_c3
  · exact w_c4
  · exact w_c5
  · exact w_c6
  · exact w_c7
  · exact w_c8
  · exact w_c9
  · exact w_c10
  · exact w_c11
  · exact w_c12
  · exact w_c13
  · exact w_c14
  · exact w_c15
  · exact w_c16
  · exact w_c17
  · exact w_c18
set_option maxRecDepth 65536 in
theorem w_t1 : (words1.take 24).all (fun c => isCode c || c.before args0 about1) = true := by decide +kernel
set_option maxRecDepth 65536 in
theorem w_t2 : ((words1.drop 24).take 24).all (fun c => isCode c || c.before args0 about1) = true := by decide +kernel
set_option maxRecDepth 65536 in
theorem w_t3 : (((words1.drop 24).drop 24).take 24).all (fun c => isCode c || c.before args0 about1) = true := by decide +kernel
set_option maxRecDepth 65536 in
theorem w_t4 : ((((words1.drop 24).drop 24).drop 24).take 24).all (fun c => isCode c || c.before args0 about1) = true := by decide +kernel
set_option maxRecDepth 65536 in
theorem w_t5 : ((((words1.drop 24).drop 24).drop 24).drop 24).all (fun c => isCode c || c.before args0 about1) = true := by decide +kernel
theorem w_tables : (allAtoms (Jvm.Cond.code x code maxLocals ret :: tables_1)).before args0 about1 = true := by
  rw [allAtoms_all]
  show words1.all (fun c => c.before args0 about1) = true
  refine all_split ?_ w_codes
  rw [← List.take_append_drop 24 words1, List.all_append, w_t1, ← List.take_append_drop 24 (words1.drop 24), List.all_append, w_t2, ← List.take_append_drop 24 ((words1.drop 24).drop 24), List.all_append, w_t3, ← List.take_append_drop 24 (((words1.drop 24).drop 24).drop 24), List.all_append, w_t4, w_t5]
  rfl
set_option maxRecDepth 65536 in
theorem w_rest : rest_1_c.before args0 about1 = true := by decide +kernel
set_option maxRecDepth 65536 in
theorem w_case : (Jvm.Cond.and given_1 narrow_1).before args0 about1 = true := by decide +kernel
theorem w_applies : (headSpec (Jvm.Cond.code x code maxLocals ret :: tables_1) room_1).applies x e0.platform about1 = true :=
  (Spec.applies_iff w_frames).mpr ⟨w_running, w_runnable, w_alone, w_named, w_hears, w_ripe, w_room, w_tables⟩
theorem atStart : AtStart classFile x code maxLocals ret World_1 tables_1 room_1 Calls_1 rest_1 Pre_1 launch0 p0 e0 about1 theMethod args0 below0 :=
  ⟨lists_1, trivial, launch0.admits_env _ _ _, launch0.least_env, fairChoices_fair.cas, fairChoices_fair.clock, w_frames, w_args, w_heap, w_applies, trivial, w_rest, w_case⟩
end start1
theorem witness_1 : WitnessClaimed_1 := ⟨start1.p0, start1.e0, start1.about1, start1.theMethod, start1.args0, start1.below0, start1.atStart⟩
end Jvm.Pilot.@@N@@
