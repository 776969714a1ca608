import JvmDerived
import JvmDerived.Pilot.@@N@@Statement
import JvmDerived.Pilot.@@N@@Code
set_option linter.unusedVariables false
set_option linter.unusedSimpArgs false
namespace Jvm.Pilot.@@N@@
open Jvm Jvm.ClassFile Sem Op Lib Jvm.Free Jvm.Stand Jvm.LawKit Jvm.RoadKit Bundle Jvm.Pilot.@@N@@.Jvm.D
section Own
variable {p : Program} {l : Launch} {e : Env} {R : Room} {s : State} {m : MethodId} {args : Array Value} {below : List Frame} {meth : Method} {c : Code} {T : State} {locs : List Loc} {cells slots : Nat} {Z : State} {a0 : Array Value} {h : Heap} {Q : Option Value → Heap → List Loc → Prop} {kc kn : Nat}
/-- from S the method comes to its end, and what it leaves answers to Q -/
def own_Ends (p : Program) (e : Env) (below : List Frame) (s : State) (Q : Option Value → Heap → List Loc → Prop) (kc kn : Nat) (S : State) : Prop :=
  ∃ s₂ o, Steps p.tables e below S s₂ ∧ s₂.status = .running ∧ Ended s₂ below o ∧ ∃ v L, o = .returned v ∧ Q v s₂.heap L ∧ FrameEnd s o s₂ L kc kn
theorem own_pre {S S' : State} (st : ∀ t, Steps p.tables e below S' t → Steps p.tables e below S t) (k : own_Ends p e below s Q kc kn S') : own_Ends p e below s Q kc kn S := by
  obtain ⟨s₂, o, h1, r⟩ := k
  exact ⟨s₂, o, st _ h1, r⟩
theorem own_ret (X : Stand p l e R s m args below meth c T locs cells slots) (hx : p.tables.exec = Jvm.exec) (hlk : meth.locks = false) {pc : Nat} {Ls : Array Slot} {w : Value} {t : FieldType} {i : Instr} {rest : List Value} (hret : meth.sig.returnType = some t) (hn : narrow t w = w)
    (hi : (i = .ireturn ∧ (t = .int ∨ t = .boolean ∨ t = .byte ∨ t = .char ∨ t = .short) ∧ ∃ z, w = .int z) ∨ (i = .lreturn ∧ t = .long ∧ ∃ z, w = .long z) ∨ (i = .dreturn ∧ t = .double ∧ ∃ z, w = .double z) ∨ (i = .freturn ∧ t = .float ∧ ∃ z, w = .float z) ∨ (i = .areturn ∧ t.isReference = true ∧ w.isRef = true))
    (hd : decode c.code pc = .ok (i, 1)) (h1 : cells ≤ kc) (h2 : slots ≤ kn) (hQ : Q (some w) T.heap locs) : own_Ends p e below s Q kc kn (T.setTop (mkF m pc Ls (w :: rest))) := by
  obtain ⟨fs, hr, hrun, hended, hW, hsame⟩ := X.leave (v := some w) (fun h => by rw [hret] at h; cases h) hlk
  exact ⟨_, _, retOut X hx hret hn hi hd hr, hrun, hended, _, _, rfl, hQ, ⟨_, rfl⟩, hW, hsame.mono h1 h2⟩
theorem own_retV (X : Stand p l e R s m args below meth c T locs cells slots) (hx : p.tables.exec = Jvm.exec) (hlk : meth.locks = false) {pc : Nat} {Ls : Array Slot} (hret : meth.sig.returnType = none)
    (hd : decode c.code pc = .ok (.return_, 1)) (h1 : cells ≤ kc) (h2 : slots ≤ kn) (hQ : Q none T.heap locs) : own_Ends p e below s Q kc kn (T.setTop (mkF m pc Ls [])) := by
  obtain ⟨fs, hr, hrun, hended, hW, hsame⟩ := X.leave (v := none) (fun _ => rfl) hlk
  exact ⟨_, _, X.returnOut hx hret hd hr, hrun, hended, _, _, rfl, hQ, ⟨_, rfl⟩, hW, hsame.mono h1 h2⟩
/-- a contract: called with these arguments over this heap it returns, and Q says what it left -/
abbrev own_Met (l : Launch) (Z : State) (y : MethodName) (bytes : ByteArray) (maxL : Nat) (ret : Option FieldType) (ws : List Jvm.Cond) (rm : Room) (as' : Array Value) (h0 : Heap) (Q : Option Value → Heap → List Loc → Prop) : Prop :=
  MetFree l y (head1 (Jvm.Cond.code y bytes maxL ret :: ws) rm) (fun a U => a = as' ∧ Z.Warmed39 U.vm ∧ U.heap = h0) (fun _ _ _ _ _ => True) (fun _ U o U' => ∃ v L, o = .returned v ∧ Q v U'.heap L ∧ FrameEnd U o U' L rm.cells rm.slots)
theorem own_body {y : MethodName} {bytes : ByteArray} {maxL : Nat} {ret : Option FieldType} {ws : List Jvm.Cond} {rm : Room} {as' : Array Value} {h0 : Heap} (pn : plainFor y = true) (F : MethodId → JFrame) (hF : ∀ m, entryFrame m as' maxL = F m)
    (body : ∀ (p : Program) (e : Env) (s : State) (m : MethodId) (below : List Frame) (meth : Method) (c : Code) (T : State), p.tables.exec = Jvm.exec → c.code = bytes → c.maxLocals = maxL → meth.locks = false → meth.sig.returnType = ret → Z.Warmed39 s.vm → s.vm.findClass y.cls = some m.cls → meth.name = y.name →
      Stand p l e rm s m as' below meth c T [] 0 0 → T.heap = h0 → own_Ends p e below s Q rm.cells rm.slots (T.setTop (F m))) : own_Met l Z y bytes maxL ret ws rm as' h0 Q := by
  refine MetFree.of_bodySF pn hisR ?_
  intro p e s m args below meth c s₁ Bd hml0 hP hK
  obtain ⟨rfl, hZ, hh⟩ := hP
  have := body p e s m below meth c s₁ Bd.exec Bd.bytes hml0 (BodyLoose.notSynchronized Bd) Bd.returns hZ (findClass_of_methodNamed Bd.named) (name_of_methodNamed Bd.named Bd.method).1 (Stand.of_body Bd) (by rw [← hh, Bd.state]; rfl)
  rw [← hF m] at this
  exact this
theorem own_callS (X : Stand p l e R s m args below meth c T locs cells slots) (hx : p.tables.exec = Jvm.exec) (hZ : Z.Warmed39 s.vm) {own : String} {index : Nat} {y : MethodName} {bytes : ByteArray} {maxL : Nat} {ret : Option FieldType} {rm : Room} {Qc : Option Value → Heap → List Loc → Prop}
    (hown : s.vm.findClass own = some m.cls) (w1 : (Cond.methodLink own index y).before a0 Z = true) (w2 : (Cond.static y).before a0 Z = true) (w3 : (Cond.initialized y.cls).before a0 Z = true) (w4 : (Cond.code y bytes maxL ret).before a0 Z = true)
    (hy : y.cls ≠ "java/lang/invoke/MethodHandle" ∧ y.cls ≠ "java/lang/invoke/VarHandle") (eT : T.heap = h) {argsL rest st0 : List Value} (hM : own_Met l Z y bytes maxL ret [] rm argsL.toArray h Qc) {W pc : Nat} {Ls : Array Slot}
    (hsz : Ls.size = c.maxLocals) (hlen : ∀ sig, parseMethodDescriptor y.desc = some sig → argsL.length = sig.parameters.length) (hst : st0 = argsL.reverse ++ rest) (hW : (rest.map fun v => v.category).sum ≤ W) (hd : decode c.code pc = .ok (.invokestatic index, 3))
    (hf : rm.frames + 1 ≤ R.frames) (hl : W + (maxL + 11) + rm.locals ≤ R.locals) (hc : cells + rm.cells ≤ R.cells) (hs : slots + rm.slots ≤ R.slots)
    (k : ∀ v T' L, Stand p l e R s m args below meth c T' (locs ++ L) (cells + rm.cells) (slots + rm.slots) → Qc v T'.heap L → own_Ends p e below s Q kc kn (T'.setTop (mkF m (pc + 3) Ls (v.toList ++ rest)))) :
    own_Ends p e below s Q kc kn (T.setTop (mkF m pc Ls st0)) := by
  obtain ⟨v, _, ⟨T', L', k', n'⟩, -, X', ⟨Lc, hQ, l1, y1, z1⟩, st⟩ := Jvm.LawKit.callS X hx (y := y) hown (mvT hZ w1) (mvT hZ w2) (mvT hZ w3) (mvT hZ w4) hy (backOf (W := W) hM hZ w4 w3 hf hl) (g := mkF m pc Ls st0) rfl hsz (argsL := argsL) (rest := rest) hlen hst (by show 2 * 0 + _ ≤ _; simpa using hW) hd (fun _ _ => ⟨rfl, eT, hc, hs⟩)
  dsimp only [Pt.U, Pt.locs, Pt.cells, Pt.slots] at X' l1 y1 z1 st hQ
  subst l1 y1 z1
  exact own_pre st (k v T' Lc X' hQ)
theorem own_callI (X : Stand p l e R s m args below meth c T locs cells slots) (hx : p.tables.exec = Jvm.exec) (hZ : Z.Warmed39 s.vm) {own : String} {index : Nat} {y : MethodName} {bytes : ByteArray} {maxL : Nat} {rm : Room} {Qc : Option Value → Heap → List Loc → Prop} {b : Addr}
    (hown : s.vm.findClass own = some m.cls) (hy1 : y.name = "<init>") (w1 : (Cond.methodLink own index y).before a0 Z = true) (w2 : (Cond.instanceMethod y).before a0 Z = true) (w4 : (Cond.code y bytes maxL none).before a0 Z = true) (w3 : (Cond.initialized y.cls).before a0 Z = true)
    (hy : y.cls ≠ "java/lang/invoke/MethodHandle" ∧ y.cls ≠ "java/lang/invoke/VarHandle") (eT : T.heap = h) {argsL rest st0 : List Value} (hM : own_Met l Z y bytes maxL none [] rm (.ref b :: argsL).toArray h Qc) {W pc : Nat} {Ls : Array Slot}
    (hsz : Ls.size = c.maxLocals) (hlen : ∀ sig, parseMethodDescriptor y.desc = some sig → argsL.length = sig.parameters.length) (hst : st0 = argsL.reverse ++ .ref b :: rest) (hW : (rest.map fun v => v.category).sum ≤ W) (hd : decode c.code pc = .ok (.invokespecial index, 3))
    (hf : rm.frames + 1 ≤ R.frames) (hl : W + (maxL + 11) + rm.locals ≤ R.locals) (hc : cells + rm.cells ≤ R.cells) (hs : slots + rm.slots ≤ R.slots)
    (k : ∀ v T' L, Stand p l e R s m args below meth c T' (locs ++ L) (cells + rm.cells) (slots + rm.slots) → Qc v T'.heap L → own_Ends p e below s Q kc kn (T'.setTop (mkF m (pc + 3) Ls (v.toList ++ rest)))) :
    own_Ends p e below s Q kc kn (T.setTop (mkF m pc Ls st0)) := by
  obtain ⟨v, _, ⟨T', L', k', n'⟩, -, X', ⟨Lc, hQ, l1, y1, z1⟩, st⟩ := X.specialBack hx (y := y) hy1 hown (mvT hZ w1) (mvT hZ w2) (mvT hZ w4) hy (backOf (W := W) hM hZ w4 w3 hf hl) (g := mkF m pc Ls st0) rfl hsz (Steps.refl _) (a := b) (argsL := argsL) (rest := rest) hlen hst (by show 2 * 0 + _ ≤ _; simpa using hW) hd (fun _ _ => ⟨rfl, eT, hc, hs⟩)
  dsimp only [Pt.U, Pt.locs, Pt.cells, Pt.slots] at X' l1 y1 z1 st hQ
  subst l1 y1 z1
  exact own_pre (fun t k => st.trans k) (k v T' Lc X' hQ)
theorem own_callV (X : Stand p l e R s m args below meth c T locs cells slots) (hx : p.tables.exec = Jvm.exec) (hZ : Z.Warmed39 s.vm) {own C : String} {index : Nat} {y : MethodName} {bytes : ByteArray} {maxL : Nat} {ret : Option FieldType} {rm : Room} {Qc : Option Value → Heap → List Loc → Prop} {b : Addr}
    (hown : s.vm.findClass own = some m.cls) (w1 : (Cond.methodLink own index y).before a0 Z = true) (w2 : (Cond.declares y).before a0 Z = true) (w3 : (Cond.selects C y y).before a0 Z = true) (w4 : (Cond.instanceMethod y).before a0 Z = true) (w5 : (Cond.code y bytes maxL ret).before a0 Z = true) (w6 : (Cond.initialized y.cls).before a0 Z = true)
    (hy : y.cls ≠ "java/lang/invoke/MethodHandle" ∧ y.cls ≠ "java/lang/invoke/VarHandle") (eT : T.heap = h) (E : Exa Z h b C) {argsL rest st0 : List Value} (hM : own_Met l Z y bytes maxL ret [] rm (.ref b :: argsL).toArray h Qc) {W pc : Nat} {Ls : Array Slot}
    (hsz : Ls.size = c.maxLocals) (hlen : ∀ sig, parseMethodDescriptor y.desc = some sig → argsL.length = sig.parameters.length) (hst : st0 = argsL.reverse ++ .ref b :: rest) (hW : (rest.map fun v => v.category).sum ≤ W) (hd : decode c.code pc = .ok (.invokevirtual index, 3))
    (hf : rm.frames + 1 ≤ R.frames) (hl : W + (maxL + 11) + rm.locals ≤ R.locals) (hc : cells + rm.cells ≤ R.cells) (hs : slots + rm.slots ≤ R.slots)
    (k : ∀ v T' L, Stand p l e R s m args below meth c T' (locs ++ L) (cells + rm.cells) (slots + rm.slots) → Qc v T'.heap L → own_Ends p e below s Q kc kn (T'.setTop (mkF m (pc + 3) Ls (v.toList ++ rest)))) :
    own_Ends p e below s Q kc kn (T.setTop (mkF m pc Ls st0)) := by
  obtain ⟨cq, kq, qa, qb, qc⟩ := isOf hZ eT E
  obtain ⟨v, _, ⟨T', L', k', n'⟩, -, X', ⟨Lc, hQ, l1, y1, z1⟩, st⟩ := X.virtualBack hx (y := y) (z := y) hown (mvT hZ w1) (mvT hZ w2) (notFace_of_selects (args := #[]) (mvT hZ w3)) (mvT hZ w3) (mvT hZ w4) hy (backOf (W := W) hM hZ w5 w6 hf hl) qa qc (g := mkF m pc Ls st0) rfl hsz (Steps.refl _) (argsL := argsL) (rest := rest) hlen hst (by show 2 * 0 + _ ≤ _; simpa using hW) hd (fun _ _ => ⟨rfl, eT, hc, hs⟩)
  dsimp only [Pt.U, Pt.locs, Pt.cells, Pt.slots] at X' l1 y1 z1 st hQ
  subst l1 y1 z1
  exact own_pre (fun t k => st.trans k) (k v T' Lc X' hQ)
theorem own_eqi {t : Term} {k : Int32} {args : Array Value} {s : State} (h : (Jvm.Cond.eq t (Term.int k)).value args s none s [] = some true) : t.eval args s none [] s = some (.int k) := by
  obtain ⟨x, y, h1, h2, -, h3⟩ := cmp_v (Or.inl h)
  have h4 : y = .int k := (Option.some.inj ((Term.int_eval k).symm.trans h2)).symm
  subst h4
  obtain ⟨z, rfl⟩ := h3
  have h5 : (Jvm.Cond.eq t (Term.int k)).value args s none s [] = some (decide (z = k)) := by simp [Cond.value, h1, h2]
  rw [h1, gotT h5 h]
theorem own_fieldOf {t : Term} {C n d : String} {k : Int32} {a : Addr} {args : Array Value} {s : State} (ht : t.eval args s none [] s = some (.ref a)) (h : (Jvm.Cond.eq (Term.field t C n d) (Term.int k)).value args s none s [] = some true) : Fld s s.heap a C n d (.int k) :=
  Fld.start ((fld_at ht).symm.trans (own_eqi h))
theorem own_st1 {Ls Ls' : Array Slot} {k : Nat} {o : Slot} {v : Value} (hold : Ls[k]? = some o) (ho : One o) (hv : v.category = 1) (he : Ls.setIfInBounds k (.val v) = Ls') : storeLocals Ls k v = some Ls' := he ▸ XS.store1 hold ho hv
theorem own_catV {v : Value} (hv : v.isRef = true) : v.category = 1 := by rcases ref_cases hv with rfl | ⟨_, rfl⟩ <;> rfl
theorem own_narV {v : Value} {t : FieldType} (hv : v.isRef = true) (ht : t.isReference = true) : narrow t v = v := by
  rcases ref_cases hv with rfl | ⟨_, rfl⟩ <;> cases t <;> first | rfl | (cases ht; done)
theorem own_narC {x : Int32} (h : 0 ≤ x.toInt ∧ x.toInt ≤ 65535) : nar .char x = x := by
  have q := c_i2c x
  rw [← Int32.toInt_inj]
  show (x.toUInt32.toUInt16.toUInt32.toInt32).toInt = x.toInt
  omega
theorem own_narZ {x : Int32} (h : x = 0 ∨ x = 1) : narrow .boolean (.int x) = .int x := by rcases h with rfl | rfl <;> rfl
def own_plain (h : Heap) (x : Addr) : Prop := ∃ c : Cell, h[x]? = some c ∧ c.vm.isStatics = false
theorem own_plainE {a : Addr} {C : String} (F : Exa Z h a C) : own_plain h a := by obtain ⟨c, k, h1, -, -, h4, -⟩ := F; exact ⟨c, h1, h4⟩
theorem own_sta_keep {h' : Heap} {ws : List Addr} {C n d : String} {v : Value} (F : Sta Z h C n d v) (K : Keep h h' ws) (q : ∀ x ∈ ws, own_plain h x) : Sta Z h' C n d v := by
  obtain ⟨cf, i, k, f, st, cell, h1, h2, h3, h4, h5, h6, h7⟩ := F
  refine ⟨cf, i, k, f, st, cell, h1, h2, h3, h4, K.2.1 _ _ h5 fun y => ?_, h6, h7⟩
  obtain ⟨c, z1, z2⟩ := q _ y
  cases h5.symm.trans z1
  rw [z2] at h6; cases h6
end Own
section OwnArr
variable {p : Program} {l : Launch} {e : Env} {R : Room} {s : State} {m : MethodId} {args : Array Value} {below : List Frame} {meth : Method} {c : Code} {T : State} {locs : List Loc} {cells slots : Nat} {Z : State} {a0 : Array Value} {h h' : Heap} {Q : Option Value → Heap → List Loc → Prop} {kc kn : Nat} {a b : Addr} {ty : FieldType} {n : Nat} {f : Nat → Value}
/-- in h there lies at a an array of n components of the kind ty, the i-th is f i -/
def own_A (Z : State) (h : Heap) (a : Addr) (ty : FieldType) (n : Nat) (f : Nat → Value) : Prop := n < 2 ^ 31 ∧ ∃ cl : Cell, Arr Z h a cl ty ∧ cl.slots.size = n ∧ ∀ i, i < n → cl.slots[i]? = some (f i)
theorem own_A.lt (F : own_A Z h a ty n f) : a < h.size := by obtain ⟨_, c, A, -⟩ := F; exact A.lt
theorem own_A.ext (F : own_A Z h a ty n f) (E : Ext h h') : own_A Z h' a ty n f := by obtain ⟨q, c, A, r⟩ := F; exact ⟨q, c, A.ext E, r⟩
theorem own_A.other {sl : Nat} {v : Value} (F : own_A Z h b ty n f) (W : Wr h h' a sl v) (q : b ≠ a) : own_A Z h' b ty n f := by obtain ⟨r0, c, A, r⟩ := F; exact ⟨r0, c, A.other W q, r⟩
theorem own_A.keep {ws : List Addr} (F : own_A Z h a ty n f) (K : Keep h h' ws) (q : a ∉ ws) : own_A Z h' a ty n f := by obtain ⟨r0, c, A, r⟩ := F; exact ⟨r0, c, ⟨K.2.1 a c A.1 q, A.2⟩, r⟩
theorem own_A.congr {g : Nat → Value} (F : own_A Z h a ty n f) (q : ∀ i, i < n → f i = g i) : own_A Z h a ty n g := by obtain ⟨r0, c, A, r1, r2⟩ := F; exact ⟨r0, c, A, r1, fun i hi => by rw [r2 i hi, q i hi]⟩
theorem own_clamp {j : Int32} {i : Nat} (hj : j.toInt = (i : Int)) : ¬ j < 0 ∧ j.toNatClampNeg = i := by
  refine ⟨fun q => ?_, ?_⟩
  · rw [Int32.lt_iff_toInt_lt, hj, Int32.toInt_zero] at q; omega
  · show j.toInt.toNat = i
    rw [hj]; exact Int.toNat_natCast i
theorem own_in {j : Int32} {i : Nat} {cl : Cell} (hj : j.toInt = (i : Int)) (hi : i < cl.slots.size) : ¬ (j < 0 ∨ cl.slots.size ≤ j.toNatClampNeg) := by
  obtain ⟨q1, q2⟩ := own_clamp hj
  rw [q2]
  intro q
  rcases q with q | q
  · exact q1 q
  · omega
theorem own_alen (X : Stand p l e R s m args below meth c T locs cells slots) (hx : p.tables.exec = Jvm.exec) (hZ : Z.Warmed39 s.vm) (eT : T.heap = h) (A : own_A Z h a ty n f) {pc : Nat} {Ls : Array Slot} {rest : List Value} (hd : decode c.code pc = .ok (.arraylength, 1))
    (k : own_Ends p e below s Q kc kn (T.setTop (mkF m (pc + 1) Ls (.int n.toInt32 :: rest)))) : own_Ends p e below s Q kc kn (T.setTop (mkF m pc Ls (.ref a :: rest))) := by
  obtain ⟨-, cl, Ar, rfl, -⟩ := A
  exact own_pre (X.arraylength hx (by rw [eT]; exact Ar.1) (State.isArrayOf_alike hZ.alike Ar.2.1) (g := mkF m pc Ls (.ref a :: rest)) rfl rfl hd) k
theorem own_iald (X : Stand p l e R s m args below meth c T locs cells slots) (hx : p.tables.exec = Jvm.exec) (hZ : Z.Warmed39 s.vm) (eT : T.heap = h) {g : Nat → Int32} (A : own_A Z h a .int n (fun i => .int (g i))) {pc : Nat} {Ls : Array Slot} {rest : List Value} {j : Int32} (i : Nat) (hj : j.toInt = (i : Int)) (hi : i < n) (hd : decode c.code pc = .ok (.iaload, 1))
    (k : own_Ends p e below s Q kc kn (T.setTop (mkF m (pc + 1) Ls (.int (g i) :: rest)))) : own_Ends p e below s Q kc kn (T.setTop (mkF m pc Ls (.int j :: .ref a :: rest))) := by
  obtain ⟨-, cl, Ar, rfl, hv⟩ := A
  exact own_pre (X.iaload hx (j := j) (v := .int (g i)) (by rw [eT]; exact Ar.1) (State.isArrayOf_alike hZ.alike Ar.2.1) Ar.2.2 (own_in hj hi) (by rw [(own_clamp hj).2]; exact hv i hi) (g := mkF m pc Ls (.int j :: .ref a :: rest)) rfl rfl hd) k
theorem own_cald (X : Stand p l e R s m args below meth c T locs cells slots) (hx : p.tables.exec = Jvm.exec) (hZ : Z.Warmed39 s.vm) (eT : T.heap = h) {g : Nat → Int32} (A : own_A Z h a .char n (fun i => .int (g i))) {pc : Nat} {Ls : Array Slot} {rest : List Value} {j : Int32} (i : Nat) (hj : j.toInt = (i : Int)) (hi : i < n) (hd : decode c.code pc = .ok (.caload, 1))
    (k : own_Ends p e below s Q kc kn (T.setTop (mkF m (pc + 1) Ls (.int (g i) :: rest)))) : own_Ends p e below s Q kc kn (T.setTop (mkF m pc Ls (.int j :: .ref a :: rest))) := by
  obtain ⟨-, cl, Ar, rfl, hv⟩ := A
  exact own_pre (X.caload hx (j := j) (v := .int (g i)) (by rw [eT]; exact Ar.1) (State.isArrayOf_alike hZ.alike Ar.2.1) Ar.2.2 (own_in hj hi) (by rw [(own_clamp hj).2]; exact hv i hi) (g := mkF m pc Ls (.int j :: .ref a :: rest)) rfl rfl hd) k
theorem own_bald (X : Stand p l e R s m args below meth c T locs cells slots) (hx : p.tables.exec = Jvm.exec) (hZ : Z.Warmed39 s.vm) (eT : T.heap = h) {g : Nat → Int32} (A : own_A Z h a .byte n (fun i => .int (g i))) {pc : Nat} {Ls : Array Slot} {rest : List Value} {j : Int32} (i : Nat) (hj : j.toInt = (i : Int)) (hi : i < n) (hd : decode c.code pc = .ok (.baload, 1))
    (k : own_Ends p e below s Q kc kn (T.setTop (mkF m (pc + 1) Ls (.int (g i) :: rest)))) : own_Ends p e below s Q kc kn (T.setTop (mkF m pc Ls (.int j :: .ref a :: rest))) := by
  obtain ⟨-, cl, Ar, rfl, hv⟩ := A
  exact own_pre (X.baloadBytes hx (j := j) (v := .int (g i)) (by rw [eT]; exact Ar.1) (State.isArrayOf_alike hZ.alike Ar.2.1) Ar.2.2 (own_in hj hi) (by rw [(own_clamp hj).2]; exact hv i hi) (g := mkF m pc Ls (.int j :: .ref a :: rest)) rfl rfl hd) k
theorem own_lald (X : Stand p l e R s m args below meth c T locs cells slots) (hx : p.tables.exec = Jvm.exec) (hZ : Z.Warmed39 s.vm) (eT : T.heap = h) {g : Nat → Int64} (A : own_A Z h a .long n (fun i => .long (g i))) {pc : Nat} {Ls : Array Slot} {rest : List Value} {j : Int32} (i : Nat) (hj : j.toInt = (i : Int)) (hi : i < n) (hd : decode c.code pc = .ok (.laload, 1))
    (k : own_Ends p e below s Q kc kn (T.setTop (mkF m (pc + 1) Ls (.long (g i) :: rest)))) : own_Ends p e below s Q kc kn (T.setTop (mkF m pc Ls (.int j :: .ref a :: rest))) := by
  obtain ⟨-, cl, Ar, rfl, hv⟩ := A
  exact own_pre (X.laload hx (j := j) (v := .long (g i)) (by rw [eT]; exact Ar.1) (State.isArrayOf_alike hZ.alike Ar.2.1) Ar.2.2 (own_in hj hi) (by rw [(own_clamp hj).2]; exact hv i hi) (g := mkF m pc Ls (.int j :: .ref a :: rest)) rfl rfl hd) k
theorem own_aald (X : Stand p l e R s m args below meth c T locs cells slots) (hx : p.tables.exec = Jvm.exec) (hZ : Z.Warmed39 s.vm) (eT : T.heap = h) (hty : ty.isReference = true) (A : own_A Z h a ty n f) {pc : Nat} {Ls : Array Slot} {rest : List Value} {j : Int32} (i : Nat) (hj : j.toInt = (i : Int)) (hi : i < n) (hd : decode c.code pc = .ok (.aaload, 1))
    (k : own_Ends p e below s Q kc kn (T.setTop (mkF m (pc + 1) Ls (f i :: rest)))) : own_Ends p e below s Q kc kn (T.setTop (mkF m pc Ls (.int j :: .ref a :: rest))) := by
  obtain ⟨-, cl, Ar, rfl, hv⟩ := A
  exact own_pre (X.aaload hx (j := j) (v := f i) (by rw [eT]; exact Ar.1) (State.isArrayOf_alike hZ.alike Ar.2.1) hty Ar.2.2 (own_in hj hi) (by rw [(own_clamp hj).2]; exact hv i hi) (g := mkF m pc Ls (.int j :: .ref a :: rest)) rfl rfl hd) k
/-- the array behind a store -/
theorem own_A.set {cl : Cell} {i : Nat} {v : Value} (q : n < 2 ^ 31) (Ar : Arr Z h a cl ty) (hn : cl.slots.size = n) (hv : ∀ i, i < n → cl.slots[i]? = some (f i)) (W : Wr h h' a i v) (hi : i < n) : own_A Z h' a ty n (fun k => if k = i then v else f k) := by
  refine ⟨q, _, Ar.same W, by rw [sz_set, hn], fun k hk => ?_⟩
  by_cases e : k = i
  · subst e; simp [Cell.setSlot, hn, hk]
  · have := hv k hk
    simp only [e, if_false]
    rw [← this]
    exact Array.getElem?_setIfInBounds_ne (Ne.symm e)
theorem own_iast (X : Stand p l e R s m args below meth c T locs cells slots) (hx : p.tables.exec = Jvm.exec) (hZ : Z.Warmed39 s.vm) (eT : T.heap = h) {g : Nat → Int32} (A : own_A Z h a .int n (fun i => .int (g i))) {pc : Nat} {Ls : Array Slot} {rest : List Value} {j x : Int32} (i : Nat) (hj : j.toInt = (i : Int)) (hi : i < n) (hd : decode c.code pc = .ok (.iastore, 1))
    (k : ∀ T' h', Stand p l e R s m args below meth c T' (locs ++ [⟨a, i⟩]) cells slots → T'.heap = h' → Wr h h' a i (.int x) → own_A Z h' a .int n (fun k => .int (if k = i then x else g k)) → own_Ends p e below s Q kc kn (T'.setTop (mkF m (pc + 1) Ls rest))) :
    own_Ends p e below s Q kc kn (T.setTop (mkF m pc Ls (.int x :: .int j :: .ref a :: rest))) := by
  obtain ⟨q, cl, Ar, hn, hv⟩ := A
  obtain ⟨T', h', X', e', W, st⟩ := stI X hx hZ eT Ar (j := j) (x := x) (own_in hj (by rw [hn]; exact hi)) (g := mkF m pc Ls (.int x :: .int j :: .ref a :: rest)) rfl rfl hd
  rw [(own_clamp hj).2] at X' W
  exact own_pre st (k T' h' X' e' W ((own_A.set q Ar hn hv W hi).congr fun k _ => by by_cases z : k = i <;> simp [z]))
theorem own_last (X : Stand p l e R s m args below meth c T locs cells slots) (hx : p.tables.exec = Jvm.exec) (hZ : Z.Warmed39 s.vm) (eT : T.heap = h) {g : Nat → Int64} (A : own_A Z h a .long n (fun i => .long (g i))) {pc : Nat} {Ls : Array Slot} {rest : List Value} {j : Int32} {x : Int64} (i : Nat) (hj : j.toInt = (i : Int)) (hi : i < n) (hd : decode c.code pc = .ok (.lastore, 1))
    (k : ∀ T' h', Stand p l e R s m args below meth c T' (locs ++ [⟨a, i⟩]) cells slots → T'.heap = h' → Wr h h' a i (.long x) → own_A Z h' a .long n (fun k => .long (if k = i then x else g k)) → own_Ends p e below s Q kc kn (T'.setTop (mkF m (pc + 1) Ls rest))) :
    own_Ends p e below s Q kc kn (T.setTop (mkF m pc Ls (.long x :: .int j :: .ref a :: rest))) := by
  obtain ⟨q, cl, Ar, hn, hv⟩ := A
  obtain ⟨T', h', X', e', W, st⟩ := stJ X hx hZ eT Ar (j := j) (x := x) (own_in hj (by rw [hn]; exact hi)) (g := mkF m pc Ls (.long x :: .int j :: .ref a :: rest)) rfl rfl hd
  rw [(own_clamp hj).2] at X' W
  exact own_pre st (k T' h' X' e' W ((own_A.set q Ar hn hv W hi).congr fun k _ => by by_cases z : k = i <;> simp [z]))
theorem own_cast (X : Stand p l e R s m args below meth c T locs cells slots) (hx : p.tables.exec = Jvm.exec) (hZ : Z.Warmed39 s.vm) (eT : T.heap = h) {g : Nat → Int32} (A : own_A Z h a .char n (fun i => .int (g i))) {pc : Nat} {Ls : Array Slot} {rest : List Value} {j x : Int32} (i : Nat) (hj : j.toInt = (i : Int)) (hi : i < n) (x' : Int32) (hx' : nar .char x = x') (hd : decode c.code pc = .ok (.castore, 1))
    (k : ∀ T' h', Stand p l e R s m args below meth c T' (locs ++ [⟨a, i⟩]) cells slots → T'.heap = h' → Wr h h' a i (.int x') → own_A Z h' a .char n (fun k => .int (if k = i then x' else g k)) → own_Ends p e below s Q kc kn (T'.setTop (mkF m (pc + 1) Ls rest))) :
    own_Ends p e below s Q kc kn (T.setTop (mkF m pc Ls (.int x :: .int j :: .ref a :: rest))) := by
  subst hx'
  obtain ⟨q, cl, Ar, hn, hv⟩ := A
  obtain ⟨T', h', X', e', W, st⟩ := stC X hx hZ eT Ar (j := j) (x := x) (own_in hj (by rw [hn]; exact hi)) (g := mkF m pc Ls (.int x :: .int j :: .ref a :: rest)) rfl rfl hd
  rw [(own_clamp hj).2] at X' W
  exact own_pre st (k T' h' X' e' W ((own_A.set q Ar hn hv W hi).congr fun k _ => by by_cases z : k = i <;> simp [z]))
theorem own_bast (X : Stand p l e R s m args below meth c T locs cells slots) (hx : p.tables.exec = Jvm.exec) (hZ : Z.Warmed39 s.vm) (eT : T.heap = h) {g : Nat → Int32} (A : own_A Z h a .byte n (fun i => .int (g i))) {pc : Nat} {Ls : Array Slot} {rest : List Value} {j x : Int32} (i : Nat) (hj : j.toInt = (i : Int)) (hi : i < n) (x' : Int32) (hx' : nar .byte x = x') (hd : decode c.code pc = .ok (.bastore, 1))
    (k : ∀ T' h', Stand p l e R s m args below meth c T' (locs ++ [⟨a, i⟩]) cells slots → T'.heap = h' → Wr h h' a i (.int x') → own_A Z h' a .byte n (fun k => .int (if k = i then x' else g k)) → own_Ends p e below s Q kc kn (T'.setTop (mkF m (pc + 1) Ls rest))) :
    own_Ends p e below s Q kc kn (T.setTop (mkF m pc Ls (.int x :: .int j :: .ref a :: rest))) := by
  subst hx'
  obtain ⟨q, cl, Ar, hn, hv⟩ := A
  obtain ⟨T', h', X', e', W, st⟩ := stB X hx hZ eT Ar (j := j) (x := x) (own_in hj (by rw [hn]; exact hi)) (g := mkF m pc Ls (.int x :: .int j :: .ref a :: rest)) rfl rfl hd
  rw [(own_clamp hj).2] at X' W
  exact own_pre st (k T' h' X' e' W ((own_A.set q Ar hn hv W hi).congr fun k _ => by by_cases z : k = i <;> simp [z]))
theorem own_newA (X : Stand p l e R s m args below meth c T locs cells slots) (hx : p.tables.exec = Jvm.exec) (hZ : Z.Warmed39 s.vm) {aty : ArrayType} (ty : FieldType) (hty : newarray.typeOf aty = ty) (w : (Cond.arrayClass ty).before a0 Z = true) (eT : T.heap = h) {pc : Nat} {Ls : Array Slot} {rest : List Value} {j : Int32} (hd : decode c.code pc = .ok (.newarray aty, 2))
    (n : Nat) (hj : j.toInt = (n : Int)) (cap : Nat) (hcap : n ≤ cap) (hb : cap * 8 ≤ 536870912) (hc : cells + 1 ≤ R.cells) (hl : slots + cap ≤ R.slots)
    (k : ∀ T' h' (b : Addr), Stand p l e R s m args below meth c T' locs (cells + 1) (slots + cap) → T'.heap = h' → Ext h h' → b = h.size → own_A Z h' b ty n (fun _ => defaultValue ty) → own_Ends p e below s Q kc kn (T'.setTop (mkF m (pc + 2) Ls (.ref b :: rest)))) :
    own_Ends p e below s Q kc kn (T.setTop (mkF m pc Ls (.int j :: rest))) := by
  subst hty
  obtain ⟨q1, q2⟩ := own_clamp hj
  obtain ⟨T', h', cA, X', e', E, A, st⟩ := newP X hx hZ w eT (g := mkF m pc Ls (.int j :: rest)) rfl hd rfl q1 (cap := cap) (by rw [q2]; exact hcap) hb hc hl
  refine own_pre st (k T' h' _ X' e' E rfl ⟨by omega, _, A, by rw [sz_new, q2], fun i hi => ?_⟩)
  simp [newA, q2, hi]
theorem own_lenS {t : Term} {k : Int32} {args : Array Value} {s : State} {cl : Cell} (ht : t.eval args s none [] s = some (.ref a)) (A : Arr s s.heap a cl ty) (h : (Jvm.Cond.eq (Term.length t) (Term.int k)).value args s none s [] = some true) : cl.slots.size.toInt32 = k ∧ cl.slots.size < 2 ^ 31 := by
  have h1 := own_eqi h
  have h2 : s.arrayAt? a = some cl := Arr.fin (Vm.Alike.refl _) A
  by_cases q : cl.slots.size < 2 ^ 31
  · rw [len_f ht h2 q] at h1
    exact ⟨Value.int.inj (Option.some.inj h1), q⟩
  · simp [Term.eval, ht, h2, q] at h1
theorem own_plainA (F : own_A Z h a ty n f) : own_plain h a := by obtain ⟨_, c, A, -⟩ := F; exact ⟨c, A.1, A.plain⟩
theorem own_sz {k : Int32} (h : n.toInt32 = k) (q : n < 2 ^ 31) : (n : Int) = k.toInt := by rw [← h, len_toInt q]
theorem own_sz0 (h : n.toInt32 = 0) (q : n < 2 ^ 31) : n = 0 := by
  have := own_sz h q
  rw [Int32.toInt_zero] at this; omega
end OwnArr
theorem own_d1_0 : decode prog_14_method_1_code 0 = .ok (.aload_n 0, 1) := by decide +kernel
theorem own_d1_1 : decode prog_14_method_1_code 1 = .ok (.invokespecial 1, 3) := by decide +kernel
theorem own_d1_4 : decode prog_14_method_1_code 4 = .ok (.aload_n 0, 1) := by decide +kernel
theorem own_d1_5 : decode prog_14_method_1_code 5 = .ok (.iload_n 1, 1) := by decide +kernel
theorem own_d1_6 : decode prog_14_method_1_code 6 = .ok (.putfield 7, 3) := by decide +kernel
theorem own_d1_9 : decode prog_14_method_1_code 9 = .ok (.aload_n 0, 1) := by decide +kernel
theorem own_d1_10 : decode prog_14_method_1_code 10 = .ok (.new 13, 3) := by decide +kernel
theorem own_d1_13 : decode prog_14_method_1_code 13 = .ok (.dup, 1) := by decide +kernel
theorem own_d1_14 : decode prog_14_method_1_code 14 = .ok (.iload_n 1, 1) := by decide +kernel
theorem own_d1_15 : decode prog_14_method_1_code 15 = .ok (.sipush 200, 3) := by decide +kernel
theorem own_d1_18 : decode prog_14_method_1_code 18 = .ok (.invokespecial 15, 3) := by decide +kernel
theorem own_d1_21 : decode prog_14_method_1_code 21 = .ok (.putfield 18, 3) := by decide +kernel
theorem own_d1_24 : decode prog_14_method_1_code 24 = .ok (.return_, 1) := by decide +kernel
theorem own_d3_0 : decode prog_16_method_1_code 0 = .ok (.aload_n 0, 1) := by decide +kernel
theorem own_d3_1 : decode prog_16_method_1_code 1 = .ok (.invokespecial 1, 3) := by decide +kernel
theorem own_d3_4 : decode prog_16_method_1_code 4 = .ok (.aload_n 0, 1) := by decide +kernel
theorem own_d3_5 : decode prog_16_method_1_code 5 = .ok (.getstatic 7, 3) := by decide +kernel
theorem own_d3_8 : decode prog_16_method_1_code 8 = .ok (.putfield 13, 3) := by decide +kernel
theorem own_d3_11 : decode prog_16_method_1_code 11 = .ok (.aload_n 0, 1) := by decide +kernel
theorem own_d3_12 : decode prog_16_method_1_code 12 = .ok (.getstatic 16, 3) := by decide +kernel
theorem own_d3_15 : decode prog_16_method_1_code 15 = .ok (.putfield 20, 3) := by decide +kernel
theorem own_d3_18 : decode prog_16_method_1_code 18 = .ok (.aload_n 0, 1) := by decide +kernel
theorem own_d3_19 : decode prog_16_method_1_code 19 = .ok (.iload_n 1, 1) := by decide +kernel
theorem own_d3_20 : decode prog_16_method_1_code 20 = .ok (.putfield 23, 3) := by decide +kernel
theorem own_d3_23 : decode prog_16_method_1_code 23 = .ok (.aload_n 0, 1) := by decide +kernel
theorem own_d3_24 : decode prog_16_method_1_code 24 = .ok (.iload_n 2, 1) := by decide +kernel
theorem own_d3_25 : decode prog_16_method_1_code 25 = .ok (.putfield 27, 3) := by decide +kernel
theorem own_d3_28 : decode prog_16_method_1_code 28 = .ok (.return_, 1) := by decide +kernel
theorem own_d4_0 : decode prog_14_method_4_code 0 = .ok (.aload_n 0, 1) := by decide +kernel
theorem own_d4_1 : decode prog_14_method_4_code 1 = .ok (.getfield 53, 3) := by decide +kernel
theorem own_d4_4 : decode prog_14_method_4_code 4 = .ok (.ifnonnull 7, 3) := by decide +kernel
theorem own_d4_7 : decode prog_14_method_4_code 7 = .ok (.lconst 0, 1) := by decide +kernel
theorem own_d4_8 : decode prog_14_method_4_code 8 = .ok (.goto 27, 3) := by decide +kernel
theorem own_d4_35 : decode prog_14_method_4_code 35 = .ok (.lstore_n 1, 1) := by decide +kernel
theorem own_d4_36 : decode prog_14_method_4_code 36 = .ok (.ldc2_w 68, 3) := by decide +kernel
theorem own_d4_39 : decode prog_14_method_4_code 39 = .ok (.lload_n 1, 1) := by decide +kernel
theorem own_d4_40 : decode prog_14_method_4_code 40 = .ok (.ladd, 1) := by decide +kernel
theorem own_d4_41 : decode prog_14_method_4_code 41 = .ok (.aload_n 0, 1) := by decide +kernel
theorem own_d4_42 : decode prog_14_method_4_code 42 = .ok (.getfield 18, 3) := by decide +kernel
theorem own_d4_45 : decode prog_14_method_4_code 45 = .ok (.invokevirtual 70, 3) := by decide +kernel
theorem own_d4_48 : decode prog_14_method_4_code 48 = .ok (.ladd, 1) := by decide +kernel
theorem own_d4_49 : decode prog_14_method_4_code 49 = .ok (.lreturn, 1) := by decide +kernel
theorem own_d5_0 : decode prog_16_method_7_code 0 = .ok (.aload_n 0, 1) := by decide +kernel
theorem own_d5_1 : decode prog_16_method_7_code 1 = .ok (.getfield 13, 3) := by decide +kernel
theorem own_d5_4 : decode prog_16_method_7_code 4 = .ok (.arraylength, 1) := by decide +kernel
theorem own_d5_5 : decode prog_16_method_7_code 5 = .ok (.i2l, 1) := by decide +kernel
theorem own_d5_6 : decode prog_16_method_7_code 6 = .ok (.ldc2_w 94, 3) := by decide +kernel
theorem own_d5_9 : decode prog_16_method_7_code 9 = .ok (.aload_n 0, 1) := by decide +kernel
theorem own_d5_10 : decode prog_16_method_7_code 10 = .ok (.getfield 20, 3) := by decide +kernel
theorem own_d5_13 : decode prog_16_method_7_code 13 = .ok (.arraylength, 1) := by decide +kernel
theorem own_d5_14 : decode prog_16_method_7_code 14 = .ok (.i2l, 1) := by decide +kernel
theorem own_d5_15 : decode prog_16_method_7_code 15 = .ok (.lmul, 1) := by decide +kernel
theorem own_d5_16 : decode prog_16_method_7_code 16 = .ok (.ladd, 1) := by decide +kernel
theorem own_d5_17 : decode prog_16_method_7_code 17 = .ok (.lreturn, 1) := by decide +kernel
theorem own_d6_0 : decode prog_14_method_5_code 0 = .ok (.aload_n 0, 1) := by decide +kernel
theorem own_d6_1 : decode prog_14_method_5_code 1 = .ok (.getfield 62, 3) := by decide +kernel
theorem own_d6_4 : decode prog_14_method_5_code 4 = .ok (.ifnonnull 7, 3) := by decide +kernel
theorem own_d6_7 : decode prog_14_method_5_code 7 = .ok (.aconst_null, 1) := by decide +kernel
theorem own_d6_8 : decode prog_14_method_5_code 8 = .ok (.goto 10, 3) := by decide +kernel
theorem own_d6_18 : decode prog_14_method_5_code 18 = .ok (.areturn, 1) := by decide +kernel
theorem own_pn0 : plainFor (⟨"com/example/claimgate/claimgate/gate/http/HeaderLines", "<init>", "(II)V"⟩ : MethodName) = true := by first | exact plainFor_of_name (by first | (simp [plainName, overriddenIn]; done) | decide +kernel) | decide +kernel
theorem own_pn1 : plainFor (⟨"com/example/claimgate/claimgate/gate/http/HeaderLines", "held", "()J"⟩ : MethodName) = true := by first | exact plainFor_of_name (by first | (simp [plainName, overriddenIn]; done) | decide +kernel) | decide +kernel
theorem own_pn2 : plainFor (⟨"com/example/claimgate/claimgate/gate/http/HeadReader", "<init>", "(I)V"⟩ : MethodName) = true := by first | exact plainFor_of_name (by first | (simp [plainName, overriddenIn]; done) | decide +kernel) | decide +kernel
theorem own_pn3 : plainFor (⟨"com/example/claimgate/claimgate/gate/http/HeadReader", "held", "()J"⟩ : MethodName) = true := by first | exact plainFor_of_name (by first | (simp [plainName, overriddenIn]; done) | decide +kernel) | decide +kernel
theorem own_pn4 : plainFor (⟨"com/example/claimgate/claimgate/gate/http/HeadReader", "path", "()Ljava/lang/String;"⟩ : MethodName) = true := by first | exact plainFor_of_name (by first | (simp [plainName, overriddenIn]; done) | decide +kernel) | decide +kernel
theorem own_pn5 : plainFor (⟨"com/example/claimgate/claimgate/gate/http/HeadReaderHeldPinLaw", "law", "(II)Z"⟩ : MethodName) = true := by first | exact plainFor_of_name (by first | (simp [plainName, overriddenIn]; done) | decide +kernel) | decide +kernel
theorem own_pd0 : parseMethodDescriptor "(II)V" = some ⟨[.int, .int], none⟩ := by decide +kernel
theorem own_pd1 : parseMethodDescriptor "()J" = some ⟨[], some .long⟩ := by decide +kernel
theorem own_pd2 : parseMethodDescriptor "(I)V" = some ⟨[.int], none⟩ := by decide +kernel
theorem own_pd3 : parseMethodDescriptor "()Ljava/lang/String;" = some ⟨[], some (.object "java/lang/String")⟩ := by decide +kernel
theorem own_ef_own_hi (m : MethodId) (x0 : Addr) (x1 : Int32) (x2 : Int32) : entryFrame m #[(.ref x0), (.int x1), (.int x2)] 3 = mkF m 0 #[.val (.ref x0), .val (.int x1), .val (.int x2)] [] := by first | (simp [entryFrame, mkF, argsToLocals, Value.category]; done) | rfl
theorem own_ef_own_held (m : MethodId) (x0 : Addr) : entryFrame m #[(.ref x0)] 1 = mkF m 0 #[.val (.ref x0)] [] := by first | (simp [entryFrame, mkF, argsToLocals, Value.category]; done) | rfl
theorem own_ef_own_hri (m : MethodId) (x0 : Addr) (x1 : Int32) : entryFrame m #[(.ref x0), (.int x1)] 2 = mkF m 0 #[.val (.ref x0), .val (.int x1)] [] := by first | (simp [entryFrame, mkF, argsToLocals, Value.category]; done) | rfl
theorem own_ef_own_rheld (m : MethodId) (x0 : Addr) : entryFrame m #[(.ref x0)] 3 = mkF m 0 #[.val (.ref x0), .unset, .unset] [] := by first | (simp [entryFrame, mkF, argsToLocals, Value.category]; done) | rfl
theorem own_ef_own_path (m : MethodId) (x0 : Addr) : entryFrame m #[(.ref x0)] 1 = mkF m 0 #[.val (.ref x0)] [] := by first | (simp [entryFrame, mkF, argsToLocals, Value.category]; done) | rfl
theorem own_ef_own_law (m : MethodId) (x0 : Int32) (x1 : Int32) : entryFrame m #[(.int x0), (.int x1)] maxLocals = mkF m 0 #[.val (.int x0), .val (.int x1), .unset, .unset, .unset, .unset, .unset, .unset, .unset, .unset, .unset] [] := by first | (simp [entryFrame, mkF, argsToLocals, Value.category, maxLocals]; done) | rfl
set_option maxRecDepth 65536 in
set_option maxHeartbeats 40000000 in
theorem own_hi (l : Launch) (Z : State) (a0 : Array Value) (hw : ∀ d ∈ tables_1, d.before a0 Z = true) (ws : List Jvm.Cond) (a : Addr) (p1 p2 : Int32) (aB aE : Addr) (h0 : Heap) (n0 : Nat) (Z0 : n0 ≤ h0.size) (F_bytes : Fld Z h0 a "com/example/claimgate/claimgate/gate/http/HeaderLines" "bytes" "[B" .null) (F_ends : Fld Z h0 a "com/example/claimgate/claimgate/gate/http/HeaderLines" "ends" "[I" .null) (F_maxBytes : Fld Z h0 a "com/example/claimgate/claimgate/gate/http/HeaderLines" "maxBytes" "I" (.int (0 : Int32))) (F_maxLines : Fld Z h0 a "com/example/claimgate/claimgate/gate/http/HeaderLines" "maxLines" "I" (.int (0 : Int32))) (E_a : Exa Z h0 a "com/example/claimgate/claimgate/gate/http/HeaderLines") (g_a : n0 ≤ a) (S_B : Sta Z h0 "com/example/claimgate/claimgate/gate/http/HeaderLines" "NO_BYTES" "[B" (.ref aB)) (S_E : Sta Z h0 "com/example/claimgate/claimgate/gate/http/HeaderLines" "NO_ENDS" "[I" (.ref aE)) :
    own_Met l Z (⟨"com/example/claimgate/claimgate/gate/http/HeaderLines", "<init>", "(II)V"⟩ : MethodName) prog_16_method_1_code 3 none ws ({ frames := 1, cells := 0, slots := 0, locals := 12 } : Room) #[(.ref a), (.int p1), (.int p2)] h0 (fun v h L => v = none ∧ Fr n0 L ∧ Keep h0 h [a] ∧ Fld Z h a "com/example/claimgate/claimgate/gate/http/HeaderLines" "bytes" "[B" (.ref aB) ∧ Fld Z h a "com/example/claimgate/claimgate/gate/http/HeaderLines" "ends" "[I" (.ref aE)) := by
  refine own_body own_pn0 (fun m => mkF m 0 #[.val (.ref a), .val (.int p1), .val (.int p2)] []) (fun m => own_ef_own_hi m a p1 p2) ?_
  intro p e s m below meth c T0 hx hby hml hlk hrt hZ hown hnm X0 e0
  have hown : s.vm.findClass "com/example/claimgate/claimgate/gate/http/HeaderLines" = some m.cls := hown
  have N0 := Fr.nil n0
  refine own_pre (S' := (T0.setTop (mkF m 1 #[.val (.ref a), .val (.int p1), .val (.int p2)] [(.ref a)]))) (fun tt_ kk_ => XS.aloadN X0.here hx rfl (hb hby own_d3_0) rfl rfl kk_) ?_
  obtain ⟨T1, X1, e1, st1⟩ := initO X0 hx hZ hown (hw _ (List.mem_of_getElem? (i := 17) rfl)) (hw _ (List.mem_of_getElem? (i := 7) rfl)) (hw _ (List.mem_of_getElem? (i := 8) rfl)) e0 (g := (mkF m 1 #[.val (.ref a), .val (.int p1), .val (.int p2)] [(.ref a)])) rfl (by rw [hml]; rfl) rfl (hb hby own_d3_1) (by decide) (W := 0) (by show 2 * 0 + _ ≤ _; exact Nat.le_of_eq rfl) (by decide)
  refine own_pre (S' := (T1.setTop (mkF m 4 #[.val (.ref a), .val (.int p1), .val (.int p2)] []))) st1 ?_
  refine own_pre (S' := (T1.setTop (mkF m 5 #[.val (.ref a), .val (.int p1), .val (.int p2)] [(.ref a)]))) (fun tt_ kk_ => XS.aloadN X1.here hx rfl (hb hby own_d3_4) rfl rfl kk_) ?_
  obtain ⟨T2, X2, e2, st2⟩ := getS2 X1 hx hZ hown (host := "") (Or.inl (hw _ (List.mem_of_getElem? (i := 18) rfl))) Via.refl e1 S_B (g := (mkF m 5 #[.val (.ref a), .val (.int p1), .val (.int p2)] [(.ref a)])) rfl (hb hby own_d3_5)
  refine own_pre (S' := (T2.setTop (mkF m 8 #[.val (.ref a), .val (.int p1), .val (.int p2)] [(.ref aB), (.ref a)]))) st2 ?_
  obtain ⟨T3, h3, X3, e3, W3, st3⟩ := putF X2 hx hZ hown (host := "") (Or.inl (hw _ (List.mem_of_getElem? (i := 20) rfl))) Via.refl e2 F_bytes E_a (Or.inl (hw _ (List.mem_of_getElem? (i := 21) rfl))) (hw _ (List.mem_of_getElem? (i := 12) rfl)) (ty := (.array .byte)) (by decide) rfl rfl (g := (mkF m 8 #[.val (.ref a), .val (.int p1), .val (.int p2)] [(.ref aB), (.ref a)])) rfl rfl (hb hby own_d3_8)
  have N3 := Fr.snoc X3 N0 g_a
  have Fw3 := F_bytes.same W3
  refine own_pre (S' := (T3.setTop (mkF m 11 #[.val (.ref a), .val (.int p1), .val (.int p2)] []))) st3 ?_
  refine own_pre (S' := (T3.setTop (mkF m 12 #[.val (.ref a), .val (.int p1), .val (.int p2)] [(.ref a)]))) (fun tt_ kk_ => XS.aloadN X3.here hx rfl (hb hby own_d3_11) rfl rfl kk_) ?_
  obtain ⟨T4, X4, e4, st4⟩ := getS2 X3 hx hZ hown (host := "") (Or.inl (hw _ (List.mem_of_getElem? (i := 22) rfl))) Via.refl e3 (S_E.wr W3) (g := (mkF m 12 #[.val (.ref a), .val (.int p1), .val (.int p2)] [(.ref a)])) rfl (hb hby own_d3_12)
  refine own_pre (S' := (T4.setTop (mkF m 15 #[.val (.ref a), .val (.int p1), .val (.int p2)] [(.ref aE), (.ref a)]))) st4 ?_
  obtain ⟨T5, h5, X5, e5, W5, st5⟩ := putF X4 hx hZ hown (host := "") (Or.inl (hw _ (List.mem_of_getElem? (i := 24) rfl))) Via.refl e4 (F_ends.other W3 (Or.inr (slot_ne (C := "com/example/claimgate/claimgate/gate/http/HeaderLines") (Or.inl (hw _ (List.mem_of_getElem? (i := 25) rfl))) (Or.inl (hw _ (List.mem_of_getElem? (i := 21) rfl))) (by decide) (t := (.array .int)) (t' := (.array .byte)) (by decide) (by decide)))) (E_a.wr W3) (Or.inl (hw _ (List.mem_of_getElem? (i := 25) rfl))) (hw _ (List.mem_of_getElem? (i := 12) rfl)) (ty := (.array .int)) (by decide) rfl rfl (g := (mkF m 15 #[.val (.ref a), .val (.int p1), .val (.int p2)] [(.ref aE), (.ref a)])) rfl rfl (hb hby own_d3_15)
  have N5 := Fr.snoc X5 N3 g_a
  have Fw5 := (F_ends.other W3 (Or.inr (slot_ne (C := "com/example/claimgate/claimgate/gate/http/HeaderLines") (Or.inl (hw _ (List.mem_of_getElem? (i := 25) rfl))) (Or.inl (hw _ (List.mem_of_getElem? (i := 21) rfl))) (by decide) (t := (.array .int)) (t' := (.array .byte)) (by decide) (by decide)))).same W5
  refine own_pre (S' := (T5.setTop (mkF m 18 #[.val (.ref a), .val (.int p1), .val (.int p2)] []))) st5 ?_
  refine own_pre (S' := (T5.setTop (mkF m 19 #[.val (.ref a), .val (.int p1), .val (.int p2)] [(.ref a)]))) (fun tt_ kk_ => XS.aloadN X5.here hx rfl (hb hby own_d3_18) rfl rfl kk_) ?_
  refine own_pre (S' := (T5.setTop (mkF m 20 #[.val (.ref a), .val (.int p1), .val (.int p2)] [(.int p1), (.ref a)]))) (fun tt_ kk_ => XS.iloadN X5.here hx rfl (hb hby own_d3_19) rfl kk_) ?_
  obtain ⟨T6, h6, X6, e6, W6, st6⟩ := putF X5 hx hZ hown (host := "") (Or.inl (hw _ (List.mem_of_getElem? (i := 26) rfl))) Via.refl e5 ((F_maxBytes.other W3 (Or.inr (slot_ne (C := "com/example/claimgate/claimgate/gate/http/HeaderLines") (Or.inr (hw _ (List.mem_of_getElem? (i := 27) rfl))) (Or.inl (hw _ (List.mem_of_getElem? (i := 21) rfl))) (by decide) (t := .int) (t' := (.array .byte)) (by decide) (by decide)))).other W5 (Or.inr (slot_ne (C := "com/example/claimgate/claimgate/gate/http/HeaderLines") (Or.inr (hw _ (List.mem_of_getElem? (i := 27) rfl))) (Or.inl (hw _ (List.mem_of_getElem? (i := 25) rfl))) (by decide) (t := .int) (t' := (.array .int)) (by decide) (by decide)))) ((E_a.wr W3).wr W5) (Or.inr ⟨(hw _ (List.mem_of_getElem? (i := 27) rfl)), rfl, hnm⟩) (hw _ (List.mem_of_getElem? (i := 12) rfl)) (ty := .int) (by decide) rfl rfl (g := (mkF m 20 #[.val (.ref a), .val (.int p1), .val (.int p2)] [(.int p1), (.ref a)])) rfl rfl (hb hby own_d3_20)
  have N6 := Fr.snoc X6 N5 g_a
  have Fw6 := ((F_maxBytes.other W3 (Or.inr (slot_ne (C := "com/example/claimgate/claimgate/gate/http/HeaderLines") (Or.inr (hw _ (List.mem_of_getElem? (i := 27) rfl))) (Or.inl (hw _ (List.mem_of_getElem? (i := 21) rfl))) (by decide) (t := .int) (t' := (.array .byte)) (by decide) (by decide)))).other W5 (Or.inr (slot_ne (C := "com/example/claimgate/claimgate/gate/http/HeaderLines") (Or.inr (hw _ (List.mem_of_getElem? (i := 27) rfl))) (Or.inl (hw _ (List.mem_of_getElem? (i := 25) rfl))) (by decide) (t := .int) (t' := (.array .int)) (by decide) (by decide)))).same W6
  refine own_pre (S' := (T6.setTop (mkF m 23 #[.val (.ref a), .val (.int p1), .val (.int p2)] []))) st6 ?_
  refine own_pre (S' := (T6.setTop (mkF m 24 #[.val (.ref a), .val (.int p1), .val (.int p2)] [(.ref a)]))) (fun tt_ kk_ => XS.aloadN X6.here hx rfl (hb hby own_d3_23) rfl rfl kk_) ?_
  refine own_pre (S' := (T6.setTop (mkF m 25 #[.val (.ref a), .val (.int p1), .val (.int p2)] [(.int p2), (.ref a)]))) (fun tt_ kk_ => XS.iloadN X6.here hx rfl (hb hby own_d3_24) rfl kk_) ?_
  obtain ⟨T7, h7, X7, e7, W7, st7⟩ := putF X6 hx hZ hown (host := "") (Or.inl (hw _ (List.mem_of_getElem? (i := 28) rfl))) Via.refl e6 (((F_maxLines.other W3 (Or.inr (slot_ne (C := "com/example/claimgate/claimgate/gate/http/HeaderLines") (Or.inr (hw _ (List.mem_of_getElem? (i := 29) rfl))) (Or.inl (hw _ (List.mem_of_getElem? (i := 21) rfl))) (by decide) (t := .int) (t' := (.array .byte)) (by decide) (by decide)))).other W5 (Or.inr (slot_ne (C := "com/example/claimgate/claimgate/gate/http/HeaderLines") (Or.inr (hw _ (List.mem_of_getElem? (i := 29) rfl))) (Or.inl (hw _ (List.mem_of_getElem? (i := 25) rfl))) (by decide) (t := .int) (t' := (.array .int)) (by decide) (by decide)))).other W6 (Or.inr (slot_ne (C := "com/example/claimgate/claimgate/gate/http/HeaderLines") (Or.inr (hw _ (List.mem_of_getElem? (i := 29) rfl))) (Or.inr (hw _ (List.mem_of_getElem? (i := 27) rfl))) (by decide) (t := .int) (t' := .int) (by decide) (by decide)))) (((E_a.wr W3).wr W5).wr W6) (Or.inr ⟨(hw _ (List.mem_of_getElem? (i := 29) rfl)), rfl, hnm⟩) (hw _ (List.mem_of_getElem? (i := 12) rfl)) (ty := .int) (by decide) rfl rfl (g := (mkF m 25 #[.val (.ref a), .val (.int p1), .val (.int p2)] [(.int p2), (.ref a)])) rfl rfl (hb hby own_d3_25)
  have N7 := Fr.snoc X7 N6 g_a
  have Fw7 := (((F_maxLines.other W3 (Or.inr (slot_ne (C := "com/example/claimgate/claimgate/gate/http/HeaderLines") (Or.inr (hw _ (List.mem_of_getElem? (i := 29) rfl))) (Or.inl (hw _ (List.mem_of_getElem? (i := 21) rfl))) (by decide) (t := .int) (t' := (.array .byte)) (by decide) (by decide)))).other W5 (Or.inr (slot_ne (C := "com/example/claimgate/claimgate/gate/http/HeaderLines") (Or.inr (hw _ (List.mem_of_getElem? (i := 29) rfl))) (Or.inl (hw _ (List.mem_of_getElem? (i := 25) rfl))) (by decide) (t := .int) (t' := (.array .int)) (by decide) (by decide)))).other W6 (Or.inr (slot_ne (C := "com/example/claimgate/claimgate/gate/http/HeaderLines") (Or.inr (hw _ (List.mem_of_getElem? (i := 29) rfl))) (Or.inr (hw _ (List.mem_of_getElem? (i := 27) rfl))) (by decide) (t := .int) (t' := .int) (by decide) (by decide)))).same W7
  refine own_pre (S' := (T7.setTop (mkF m 28 #[.val (.ref a), .val (.int p1), .val (.int p2)] []))) st7 ?_
  refine own_retV X7 hx hlk hrt (hb hby own_d3_28) (by decide) (by decide) ?_
  show _ ∧ Fr n0 _ ∧ Keep h0 T7.heap [a] ∧ _ ∧ _
  rw [e7]
  exact ⟨rfl, N7, (((((Keep.refl _ _).wr W3 (Or.inl (List.mem_of_getElem? (i := 0) rfl))).wr W5 (Or.inl (List.mem_of_getElem? (i := 0) rfl))).wr W6 (Or.inl (List.mem_of_getElem? (i := 0) rfl))).wr W7 (Or.inl (List.mem_of_getElem? (i := 0) rfl))), (((Fw3.other W5 (Or.inr (slot_ne (C := "com/example/claimgate/claimgate/gate/http/HeaderLines") (Or.inl (hw _ (List.mem_of_getElem? (i := 21) rfl))) (Or.inl (hw _ (List.mem_of_getElem? (i := 25) rfl))) (by decide) (t := (.array .byte)) (t' := (.array .int)) (by decide) (by decide)))).other W6 (Or.inr (slot_ne (C := "com/example/claimgate/claimgate/gate/http/HeaderLines") (Or.inl (hw _ (List.mem_of_getElem? (i := 21) rfl))) (Or.inr (hw _ (List.mem_of_getElem? (i := 27) rfl))) (by decide) (t := (.array .byte)) (t' := .int) (by decide) (by decide)))).other W7 (Or.inr (slot_ne (C := "com/example/claimgate/claimgate/gate/http/HeaderLines") (Or.inl (hw _ (List.mem_of_getElem? (i := 21) rfl))) (Or.inr (hw _ (List.mem_of_getElem? (i := 29) rfl))) (by decide) (t := (.array .byte)) (t' := .int) (by decide) (by decide)))), ((Fw5.other W6 (Or.inr (slot_ne (C := "com/example/claimgate/claimgate/gate/http/HeaderLines") (Or.inl (hw _ (List.mem_of_getElem? (i := 25) rfl))) (Or.inr (hw _ (List.mem_of_getElem? (i := 27) rfl))) (by decide) (t := (.array .int)) (t' := .int) (by decide) (by decide)))).other W7 (Or.inr (slot_ne (C := "com/example/claimgate/claimgate/gate/http/HeaderLines") (Or.inl (hw _ (List.mem_of_getElem? (i := 25) rfl))) (Or.inr (hw _ (List.mem_of_getElem? (i := 29) rfl))) (by decide) (t := (.array .int)) (t' := .int) (by decide) (by decide))))⟩
set_option maxRecDepth 65536 in
set_option maxHeartbeats 40000000 in
theorem own_held (l : Launch) (Z : State) (a0 : Array Value) (hw : ∀ d ∈ tables_1, d.before a0 Z = true) (ws : List Jvm.Cond) (a aB aE : Addr) (h0 : Heap) (n0 : Nat) (Z0 : n0 ≤ h0.size) (F_bytes : Fld Z h0 a "com/example/claimgate/claimgate/gate/http/HeaderLines" "bytes" "[B" (.ref aB)) (F_ends : Fld Z h0 a "com/example/claimgate/claimgate/gate/http/HeaderLines" "ends" "[I" (.ref aE)) (A_B : own_A Z h0 aB .byte 0 (fun _ => .int 0)) (A_E : own_A Z h0 aE .int 0 (fun _ => .int 0)) :
    own_Met l Z (⟨"com/example/claimgate/claimgate/gate/http/HeaderLines", "held", "()J"⟩ : MethodName) prog_16_method_7_code 1 (some .long) ws ({ frames := 0, cells := 0, slots := 0, locals := 0 } : Room) #[(.ref a)] h0 (fun v h L => v = some (.long (0 : Int64)) ∧ Fr n0 L ∧ h = h0) := by
  refine own_body own_pn1 (fun m => mkF m 0 #[.val (.ref a)] []) (fun m => own_ef_own_held m a) ?_
  intro p e s m below meth c T0 hx hby hml hlk hrt hZ hown hnm X0 e0
  have hown : s.vm.findClass "com/example/claimgate/claimgate/gate/http/HeaderLines" = some m.cls := hown
  have N0 := Fr.nil n0
  refine own_pre (S' := (T0.setTop (mkF m 1 #[.val (.ref a)] [(.ref a)]))) (fun tt_ kk_ => XS.aloadN X0.here hx rfl (hb hby own_d5_0) rfl rfl kk_) ?_
  obtain ⟨T1, X1, e1, st1⟩ := getF X0 hx hZ hown (host := "") (Or.inl (hw _ (List.mem_of_getElem? (i := 20) rfl))) Via.refl e0 F_bytes (g := (mkF m 1 #[.val (.ref a)] [(.ref a)])) rfl rfl (hb hby own_d5_1)
  refine own_pre (S' := (T1.setTop (mkF m 4 #[.val (.ref a)] [(.ref aB)]))) st1 ?_
  refine own_alen X1 hx hZ e1 A_B (hb hby own_d5_4) ?_
  show own_Ends p e below s _ _ _ (T1.setTop (mkF m 5 #[.val (.ref a)] [(.int (0 : Int32))]))
  refine own_pre (S' := (T1.setTop (mkF m 6 #[.val (.ref a)] [(.long ((0 : Int32).toInt64))]))) (fun tt_ kk_ => XS.i2l X1.here hx rfl (hb hby own_d5_5) rfl kk_) ?_
  refine own_pre (S' := (T1.setTop (mkF m 9 #[.val (.ref a)] [(.long (4 : Int64)), (.long ((0 : Int32).toInt64))]))) (X1.ldc2Long hx hown (mvT hZ (hw _ (List.mem_of_getElem? (i := 45) rfl))) (g := (mkF m 6 #[.val (.ref a)] [(.long ((0 : Int32).toInt64))])) rfl (hb hby own_d5_6)) ?_
  refine own_pre (S' := (T1.setTop (mkF m 10 #[.val (.ref a)] [(.ref a), (.long (4 : Int64)), (.long ((0 : Int32).toInt64))]))) (fun tt_ kk_ => XS.aloadN X1.here hx rfl (hb hby own_d5_9) rfl rfl kk_) ?_
  obtain ⟨T2, X2, e2, st2⟩ := getF X1 hx hZ hown (host := "") (Or.inl (hw _ (List.mem_of_getElem? (i := 24) rfl))) Via.refl e1 F_ends (g := (mkF m 10 #[.val (.ref a)] [(.ref a), (.long (4 : Int64)), (.long ((0 : Int32).toInt64))])) rfl rfl (hb hby own_d5_10)
  refine own_pre (S' := (T2.setTop (mkF m 13 #[.val (.ref a)] [(.ref aE), (.long (4 : Int64)), (.long ((0 : Int32).toInt64))]))) st2 ?_
  refine own_alen X2 hx hZ e2 A_E (hb hby own_d5_13) ?_
  show own_Ends p e below s _ _ _ (T2.setTop (mkF m 14 #[.val (.ref a)] [(.int (0 : Int32)), (.long (4 : Int64)), (.long ((0 : Int32).toInt64))]))
  refine own_pre (S' := (T2.setTop (mkF m 15 #[.val (.ref a)] [(.long ((0 : Int32).toInt64)), (.long (4 : Int64)), (.long ((0 : Int32).toInt64))]))) (fun tt_ kk_ => XS.i2l X2.here hx rfl (hb hby own_d5_14) rfl kk_) ?_
  refine own_pre (S' := (T2.setTop (mkF m 16 #[.val (.ref a)] [(.long ((4 : Int64) * ((0 : Int32).toInt64))), (.long ((0 : Int32).toInt64))]))) (fun tt_ kk_ => XS.lmul X2.here hx rfl (hb hby own_d5_15) rfl kk_) ?_
  refine own_pre (S' := (T2.setTop (mkF m 17 #[.val (.ref a)] [(.long (((0 : Int32).toInt64) + ((4 : Int64) * ((0 : Int32).toInt64))))]))) (fun tt_ kk_ => XS.ladd X2.here hx rfl (hb hby own_d5_16) rfl kk_) ?_
  refine own_ret (t := .long) X2 hx hlk hrt rfl (Or.inr (Or.inl ⟨rfl, rfl, _, rfl⟩)) (hb hby own_d5_17) (by decide) (by decide) ?_
  exact ⟨congrArg (fun z => some (Value.long z)) (by decide : (((0 : Int32).toInt64) + ((4 : Int64) * ((0 : Int32).toInt64))) = (0 : Int64)), N0, e2⟩
set_option maxRecDepth 65536 in
set_option maxHeartbeats 40000000 in
theorem own_hri (l : Launch) (Z : State) (a0 : Array Value) (hw : ∀ d ∈ tables_1, d.before a0 Z = true) (ws : List Jvm.Cond) (a : Addr) (p1 : Int32) (aB aE : Addr) (h0 : Heap) (n0 : Nat) (Z0 : n0 ≤ h0.size) (F_maxBytes : Fld Z h0 a "com/example/claimgate/claimgate/gate/http/HeadReader" "maxBytes" "I" (.int (0 : Int32))) (F_headers : Fld Z h0 a "com/example/claimgate/claimgate/gate/http/HeadReader" "headers" "Lcom/example/claimgate/claimgate/gate/http/HeaderLines;" .null) (F_method : Fld Z h0 a "com/example/claimgate/claimgate/gate/http/HeadReader" "method" "Ljava/lang/String;" .null) (F_target : Fld Z h0 a "com/example/claimgate/claimgate/gate/http/HeadReader" "target" "Ljava/lang/String;" .null) (F_version : Fld Z h0 a "com/example/claimgate/claimgate/gate/http/HeadReader" "version" "Ljava/lang/String;" .null) (E_a : Exa Z h0 a "com/example/claimgate/claimgate/gate/http/HeadReader") (g_a : n0 ≤ a) (S_B : Sta Z h0 "com/example/claimgate/claimgate/gate/http/HeaderLines" "NO_BYTES" "[B" (.ref aB)) (S_E : Sta Z h0 "com/example/claimgate/claimgate/gate/http/HeaderLines" "NO_ENDS" "[I" (.ref aE)) :
    own_Met l Z (⟨"com/example/claimgate/claimgate/gate/http/HeadReader", "<init>", "(I)V"⟩ : MethodName) prog_14_method_1_code 2 none ws ({ frames := 2, cells := 1, slots := 5, locals := 28 } : Room) #[(.ref a), (.int p1)] h0 (fun v h L => v = none ∧ Fr n0 L ∧ Keep h0 h [a] ∧ ∃ hb : Addr, Fld Z h a "com/example/claimgate/claimgate/gate/http/HeadReader" "headers" "Lcom/example/claimgate/claimgate/gate/http/HeaderLines;" (.ref hb) ∧ Fld Z h a "com/example/claimgate/claimgate/gate/http/HeadReader" "method" "Ljava/lang/String;" .null ∧ Fld Z h a "com/example/claimgate/claimgate/gate/http/HeadReader" "target" "Ljava/lang/String;" .null ∧ Exa Z h hb "com/example/claimgate/claimgate/gate/http/HeaderLines" ∧ Fld Z h hb "com/example/claimgate/claimgate/gate/http/HeaderLines" "bytes" "[B" (.ref aB) ∧ Fld Z h hb "com/example/claimgate/claimgate/gate/http/HeaderLines" "ends" "[I" (.ref aE)) := by
  refine own_body own_pn2 (fun m => mkF m 0 #[.val (.ref a), .val (.int p1)] []) (fun m => own_ef_own_hri m a p1) ?_
  intro p e s m below meth c T0 hx hby hml hlk hrt hZ hown hnm X0 e0
  have hown : s.vm.findClass "com/example/claimgate/claimgate/gate/http/HeadReader" = some m.cls := hown
  have N0 := Fr.nil n0
  refine own_pre (S' := (T0.setTop (mkF m 1 #[.val (.ref a), .val (.int p1)] [(.ref a)]))) (fun tt_ kk_ => XS.aloadN X0.here hx rfl (hb hby own_d1_0) rfl rfl kk_) ?_
  obtain ⟨T1, X1, e1, st1⟩ := initO X0 hx hZ hown (hw _ (List.mem_of_getElem? (i := 6) rfl)) (hw _ (List.mem_of_getElem? (i := 7) rfl)) (hw _ (List.mem_of_getElem? (i := 8) rfl)) e0 (g := (mkF m 1 #[.val (.ref a), .val (.int p1)] [(.ref a)])) rfl (by rw [hml]; rfl) rfl (hb hby own_d1_1) (by decide) (W := 0) (by show 2 * 0 + _ ≤ _; exact Nat.le_of_eq rfl) (by decide)
  refine own_pre (S' := (T1.setTop (mkF m 4 #[.val (.ref a), .val (.int p1)] []))) st1 ?_
  refine own_pre (S' := (T1.setTop (mkF m 5 #[.val (.ref a), .val (.int p1)] [(.ref a)]))) (fun tt_ kk_ => XS.aloadN X1.here hx rfl (hb hby own_d1_4) rfl rfl kk_) ?_
  refine own_pre (S' := (T1.setTop (mkF m 6 #[.val (.ref a), .val (.int p1)] [(.int p1), (.ref a)]))) (fun tt_ kk_ => XS.iloadN X1.here hx rfl (hb hby own_d1_5) rfl kk_) ?_
  obtain ⟨T2, h2, X2, e2, W2, st2⟩ := putF X1 hx hZ hown (host := "") (Or.inl (hw _ (List.mem_of_getElem? (i := 9) rfl))) Via.refl e1 F_maxBytes E_a (Or.inr ⟨(hw _ (List.mem_of_getElem? (i := 10) rfl)), rfl, hnm⟩) (hw _ (List.mem_of_getElem? (i := 1) rfl)) (ty := .int) (by decide) rfl rfl (g := (mkF m 6 #[.val (.ref a), .val (.int p1)] [(.int p1), (.ref a)])) rfl rfl (hb hby own_d1_6)
  have N2 := Fr.snoc X2 N0 g_a
  have Fw2 := F_maxBytes.same W2
  refine own_pre (S' := (T2.setTop (mkF m 9 #[.val (.ref a), .val (.int p1)] []))) st2 ?_
  refine own_pre (S' := (T2.setTop (mkF m 10 #[.val (.ref a), .val (.int p1)] [(.ref a)]))) (fun tt_ kk_ => XS.aloadN X2.here hx rfl (hb hby own_d1_9) rfl rfl kk_) ?_
  obtain ⟨T3, h3, X3, e3, E3, A3, D3, -, st3⟩ := newO X2 hx hZ hown (hw _ (List.mem_of_getElem? (i := 11) rfl)) (hw _ (List.mem_of_getElem? (i := 12) rfl)) (hw _ (List.mem_of_getElem? (i := 13) rfl)) e2 (g := (mkF m 10 #[.val (.ref a), .val (.int p1)] [(.ref a)])) rfl (hb hby own_d1_10) (by decide) (by decide)
  obtain ⟨b3, g3⟩ : ∃ z, z = h2.size := ⟨_, rfl⟩
  rw [← g3] at A3 D3 st3
  have sz_b3 : h0.size ≤ b3 := Nat.le_trans (Nat.le_trans (Nat.le_refl h0.size) (Nat.le_of_eq W2.size.symm)) (Nat.le_of_eq g3.symm)
  have ge_b3 : n0 ≤ b3 := Nat.le_trans (Nat.le_trans Z0 (Nat.le_of_eq W2.size.symm)) (Nat.le_of_eq g3.symm)
  have ne_a_b3 : a ≠ b3 := Nat.ne_of_lt (Nat.lt_of_lt_of_le (F_headers.other W2 (Or.inr (slot_ne (C := "com/example/claimgate/claimgate/gate/http/HeadReader") (Or.inr (hw _ (List.mem_of_getElem? (i := 31) rfl))) (Or.inr (hw _ (List.mem_of_getElem? (i := 10) rfl))) (by decide) (t := (.object "com/example/claimgate/claimgate/gate/http/HeaderLines")) (t' := .int) (by decide) (by decide)))).lt (Nat.le_of_eq g3.symm))
  have F3_bytes : Fld Z h3 b3 "com/example/claimgate/claimgate/gate/http/HeaderLines" "bytes" "[B" .null := D3 (Or.inl (hw _ (List.mem_of_getElem? (i := 21) rfl))) (ty := (.array .byte)) (by decide)
  have F3_ends : Fld Z h3 b3 "com/example/claimgate/claimgate/gate/http/HeaderLines" "ends" "[I" .null := D3 (Or.inl (hw _ (List.mem_of_getElem? (i := 25) rfl))) (ty := (.array .int)) (by decide)
  have F3_maxBytes : Fld Z h3 b3 "com/example/claimgate/claimgate/gate/http/HeaderLines" "maxBytes" "I" (.int (0 : Int32)) := D3 (Or.inr (hw _ (List.mem_of_getElem? (i := 27) rfl))) (ty := .int) (by decide)
  have F3_maxLines : Fld Z h3 b3 "com/example/claimgate/claimgate/gate/http/HeaderLines" "maxLines" "I" (.int (0 : Int32)) := D3 (Or.inr (hw _ (List.mem_of_getElem? (i := 29) rfl))) (ty := .int) (by decide)
  refine own_pre (S' := (T3.setTop (mkF m 13 #[.val (.ref a), .val (.int p1)] [(.ref b3), (.ref a)]))) st3 ?_
  refine own_pre (S' := (T3.setTop (mkF m 14 #[.val (.ref a), .val (.int p1)] [(.ref b3), (.ref b3), (.ref a)]))) (fun tt_ kk_ => XS.dup X3.here hx rfl (hb hby own_d1_13) rfl rfl kk_) ?_
  refine own_pre (S' := (T3.setTop (mkF m 15 #[.val (.ref a), .val (.int p1)] [(.int p1), (.ref b3), (.ref b3), (.ref a)]))) (fun tt_ kk_ => XS.iloadN X3.here hx rfl (hb hby own_d1_14) rfl kk_) ?_
  refine own_pre (S' := (T3.setTop (mkF m 18 #[.val (.ref a), .val (.int p1)] [(.int (200 : Int32)), (.int p1), (.ref b3), (.ref b3), (.ref a)]))) (fun tt_ kk_ => XS.sipush X3.here hx rfl (hb hby own_d1_15) kk_) ?_
  refine own_callI (y := (⟨"com/example/claimgate/claimgate/gate/http/HeaderLines", "<init>", "(II)V"⟩ : MethodName)) (b := b3) X3 hx hZ hown rfl (hw _ (List.mem_of_getElem? (i := 14) rfl)) (hw _ (List.mem_of_getElem? (i := 15) rfl)) (hw _ (List.mem_of_getElem? (i := 16) rfl)) (hw _ (List.mem_of_getElem? (i := 13) rfl)) (by decide) e3 (hM := own_hi l Z a0 hw [] b3 p1 (200 : Int32) aB aE h3 n0 (Nat.le_trans (Nat.le_trans Z0 (Nat.le_of_eq W2.size.symm)) E3.1) F3_bytes F3_ends F3_maxBytes F3_maxLines A3 ge_b3 ((S_B.wr W2).ext E3) ((S_E.wr W2).ext E3)) (W := 2) (pc := 18) (Ls := #[.val (.ref a), .val (.int p1)]) (argsL := [(.int p1), (.int (200 : Int32))]) (rest := [(.ref b3), (.ref a)]) (st0 := [(.int (200 : Int32)), (.int p1), (.ref b3), (.ref b3), (.ref a)]) (by rw [hml]; rfl) (lenOf own_pd0 rfl) rfl (Nat.le_of_eq rfl) (hb hby own_d1_18) (by decide) (by decide) (by decide) (by decide) ?_
  intro v4 T4 L4 X4 hQ4
  obtain ⟨rfl, Nq4, K4, Fb4, Fe4⟩ := hQ4
  have N4 := Fr.app N2 Nq4
  show own_Ends p e below s _ _ _ (T4.setTop (mkF m 21 #[.val (.ref a), .val (.int p1)] [(.ref b3), (.ref a)]))
  obtain ⟨T5, h5, X5, e5, W5, st5⟩ := putF X4 hx hZ hown (host := "") (Or.inl (hw _ (List.mem_of_getElem? (i := 30) rfl))) Via.refl (rfl : T4.heap = T4.heap) (((F_headers.other W2 (Or.inr (slot_ne (C := "com/example/claimgate/claimgate/gate/http/HeadReader") (Or.inr (hw _ (List.mem_of_getElem? (i := 31) rfl))) (Or.inr (hw _ (List.mem_of_getElem? (i := 10) rfl))) (by decide) (t := (.object "com/example/claimgate/claimgate/gate/http/HeaderLines")) (t' := .int) (by decide) (by decide)))).ext E3).keep K4 (ninS ne_a_b3 nin0)) (((E_a.wr W2).ext E3).keep K4) (Or.inr ⟨(hw _ (List.mem_of_getElem? (i := 31) rfl)), rfl, hnm⟩) (hw _ (List.mem_of_getElem? (i := 1) rfl)) (ty := (.object "com/example/claimgate/claimgate/gate/http/HeaderLines")) (by decide) rfl rfl (g := (mkF m 21 #[.val (.ref a), .val (.int p1)] [(.ref b3), (.ref a)])) rfl rfl (hb hby own_d1_21)
  have N5 := Fr.snoc X5 N4 g_a
  have Fw5 := (((F_headers.other W2 (Or.inr (slot_ne (C := "com/example/claimgate/claimgate/gate/http/HeadReader") (Or.inr (hw _ (List.mem_of_getElem? (i := 31) rfl))) (Or.inr (hw _ (List.mem_of_getElem? (i := 10) rfl))) (by decide) (t := (.object "com/example/claimgate/claimgate/gate/http/HeaderLines")) (t' := .int) (by decide) (by decide)))).ext E3).keep K4 (ninS ne_a_b3 nin0)).same W5
  refine own_pre (S' := (T5.setTop (mkF m 24 #[.val (.ref a), .val (.int p1)] []))) st5 ?_
  refine own_retV X5 hx hlk hrt (hb hby own_d1_24) (by decide) (by decide) ?_
  show _ ∧ Fr n0 _ ∧ Keep h0 T5.heap [a] ∧ _
  rw [e5]
  exact ⟨rfl, N5, (((((Keep.refl _ _).wr W2 (Or.inl (List.mem_of_getElem? (i := 0) rfl))).ext E3).trans K4 (allS (Or.inr sz_b3) all0)).wr W5 (Or.inl (List.mem_of_getElem? (i := 0) rfl))), b3, Fw5, ((((F_method.other W2 (Or.inr (slot_ne (C := "com/example/claimgate/claimgate/gate/http/HeadReader") (Or.inl (hw _ (List.mem_of_getElem? (i := 38) rfl))) (Or.inr (hw _ (List.mem_of_getElem? (i := 10) rfl))) (by decide) (t := (.object "java/lang/String")) (t' := .int) (by decide) (by decide)))).ext E3).keep K4 (ninS ne_a_b3 nin0)).other W5 (Or.inr (slot_ne (C := "com/example/claimgate/claimgate/gate/http/HeadReader") (Or.inl (hw _ (List.mem_of_getElem? (i := 38) rfl))) (Or.inr (hw _ (List.mem_of_getElem? (i := 31) rfl))) (by decide) (t := (.object "java/lang/String")) (t' := (.object "com/example/claimgate/claimgate/gate/http/HeaderLines")) (by decide) (by decide)))), ((((F_target.other W2 (Or.inr (slot_ne (C := "com/example/claimgate/claimgate/gate/http/HeadReader") (Or.inl (hw _ (List.mem_of_getElem? (i := 52) rfl))) (Or.inr (hw _ (List.mem_of_getElem? (i := 10) rfl))) (by decide) (t := (.object "java/lang/String")) (t' := .int) (by decide) (by decide)))).ext E3).keep K4 (ninS ne_a_b3 nin0)).other W5 (Or.inr (slot_ne (C := "com/example/claimgate/claimgate/gate/http/HeadReader") (Or.inl (hw _ (List.mem_of_getElem? (i := 52) rfl))) (Or.inr (hw _ (List.mem_of_getElem? (i := 31) rfl))) (by decide) (t := (.object "java/lang/String")) (t' := (.object "com/example/claimgate/claimgate/gate/http/HeaderLines")) (by decide) (by decide)))), ((A3.keep K4).wr W5), (Fb4.other W5 (Or.inl (Ne.symm ne_a_b3))), (Fe4.other W5 (Or.inl (Ne.symm ne_a_b3)))⟩
set_option maxRecDepth 65536 in
set_option maxHeartbeats 40000000 in
theorem own_rheld (l : Launch) (Z : State) (a0 : Array Value) (hw : ∀ d ∈ tables_1, d.before a0 Z = true) (ws : List Jvm.Cond) (a hbx aB aE : Addr) (h0 : Heap) (n0 : Nat) (Z0 : n0 ≤ h0.size) (F_m : Fld Z h0 a "com/example/claimgate/claimgate/gate/http/HeadReader" "method" "Ljava/lang/String;" .null) (F_h : Fld Z h0 a "com/example/claimgate/claimgate/gate/http/HeadReader" "headers" "Lcom/example/claimgate/claimgate/gate/http/HeaderLines;" (.ref hbx)) (E_hb : Exa Z h0 hbx "com/example/claimgate/claimgate/gate/http/HeaderLines") (F_b : Fld Z h0 hbx "com/example/claimgate/claimgate/gate/http/HeaderLines" "bytes" "[B" (.ref aB)) (F_e : Fld Z h0 hbx "com/example/claimgate/claimgate/gate/http/HeaderLines" "ends" "[I" (.ref aE)) (A_B : own_A Z h0 aB .byte 0 (fun _ => .int 0)) (A_E : own_A Z h0 aE .int 0 (fun _ => .int 0)) :
    own_Met l Z (⟨"com/example/claimgate/claimgate/gate/http/HeadReader", "held", "()J"⟩ : MethodName) prog_14_method_4_code 3 (some .long) ws ({ frames := 1, cells := 0, slots := 0, locals := 14 } : Room) #[(.ref a)] h0 (fun v h L => v = some (.long (256 : Int64)) ∧ Fr n0 L ∧ h = h0) := by
  refine own_body own_pn3 (fun m => mkF m 0 #[.val (.ref a), .unset, .unset] []) (fun m => own_ef_own_rheld m a) ?_
  intro p e s m below meth c T0 hx hby hml hlk hrt hZ hown hnm X0 e0
  have hown : s.vm.findClass "com/example/claimgate/claimgate/gate/http/HeadReader" = some m.cls := hown
  have N0 := Fr.nil n0
  refine own_pre (S' := (T0.setTop (mkF m 1 #[.val (.ref a), .unset, .unset] [(.ref a)]))) (fun tt_ kk_ => XS.aloadN X0.here hx rfl (hb hby own_d4_0) rfl rfl kk_) ?_
  obtain ⟨T1, X1, e1, st1⟩ := getF X0 hx hZ hown (host := "") (Or.inl (hw _ (List.mem_of_getElem? (i := 37) rfl))) Via.refl e0 F_m (g := (mkF m 1 #[.val (.ref a), .unset, .unset] [(.ref a)])) rfl rfl (hb hby own_d4_1)
  refine own_pre (S' := (T1.setTop (mkF m 4 #[.val (.ref a), .unset, .unset] [.null]))) st1 ?_
  refine own_pre (S' := (T1.setTop (mkF m 7 #[.val (.ref a), .unset, .unset] []))) (fun tt_ kk_ => XS.ifnonnullNo X1.here hx rfl (hb hby own_d4_4) rfl kk_) ?_
  refine own_pre (S' := (T1.setTop (mkF m 8 #[.val (.ref a), .unset, .unset] [(.long (0 : Int64))]))) (fun tt_ kk_ => XS.lconst X1.here hx rfl (hb hby own_d4_7) kk_) ?_
  refine own_pre (S' := (T1.setTop (mkF m 35 #[.val (.ref a), .unset, .unset] [(.long (0 : Int64))]))) (fun tt_ kk_ => XS.goto X1.here hx rfl (pc0 := 8) (pc' := 35) rfl (hb hby own_d4_8) (by decide) (by decide) kk_) ?_
  refine own_pre (S' := (T1.setTop (mkF m 36 #[.val (.ref a), .val (.long (0 : Int64)), .second] []))) (fun tt_ kk_ => XS.lstoreN X1.here hx rfl (hb hby own_d4_35) rfl (l' := #[.val (.ref a), .val (.long (0 : Int64)), .second]) rfl kk_) ?_
  refine own_pre (S' := (T1.setTop (mkF m 39 #[.val (.ref a), .val (.long (0 : Int64)), .second] [(.long (256 : Int64))]))) (X1.ldc2Long hx hown (mvT hZ (hw _ (List.mem_of_getElem? (i := 39) rfl))) (g := (mkF m 36 #[.val (.ref a), .val (.long (0 : Int64)), .second] [])) rfl (hb hby own_d4_36)) ?_
  refine own_pre (S' := (T1.setTop (mkF m 40 #[.val (.ref a), .val (.long (0 : Int64)), .second] [(.long (0 : Int64)), (.long (256 : Int64))]))) (fun tt_ kk_ => XS.lloadN X1.here hx rfl (hb hby own_d4_39) rfl kk_) ?_
  refine own_pre (S' := (T1.setTop (mkF m 41 #[.val (.ref a), .val (.long (0 : Int64)), .second] [(.long ((256 : Int64) + (0 : Int64)))]))) (fun tt_ kk_ => XS.ladd X1.here hx rfl (hb hby own_d4_40) rfl kk_) ?_
  refine own_pre (S' := (T1.setTop (mkF m 42 #[.val (.ref a), .val (.long (0 : Int64)), .second] [(.ref a), (.long ((256 : Int64) + (0 : Int64)))]))) (fun tt_ kk_ => XS.aloadN X1.here hx rfl (hb hby own_d4_41) rfl rfl kk_) ?_
  obtain ⟨T2, X2, e2, st2⟩ := getF X1 hx hZ hown (host := "") (Or.inl (hw _ (List.mem_of_getElem? (i := 30) rfl))) Via.refl e1 F_h (g := (mkF m 42 #[.val (.ref a), .val (.long (0 : Int64)), .second] [(.ref a), (.long ((256 : Int64) + (0 : Int64)))])) rfl rfl (hb hby own_d4_42)
  refine own_pre (S' := (T2.setTop (mkF m 45 #[.val (.ref a), .val (.long (0 : Int64)), .second] [(.ref hbx), (.long ((256 : Int64) + (0 : Int64)))]))) st2 ?_
  refine own_callV (C := "com/example/claimgate/claimgate/gate/http/HeaderLines") (y := (⟨"com/example/claimgate/claimgate/gate/http/HeaderLines", "held", "()J"⟩ : MethodName)) (b := hbx) X2 hx hZ hown (hw _ (List.mem_of_getElem? (i := 40) rfl)) (hw _ (List.mem_of_getElem? (i := 41) rfl)) (hw _ (List.mem_of_getElem? (i := 43) rfl)) (hw _ (List.mem_of_getElem? (i := 42) rfl)) (hw _ (List.mem_of_getElem? (i := 44) rfl)) (hw _ (List.mem_of_getElem? (i := 13) rfl)) (by decide) e2 E_hb (hM := own_held l Z a0 hw [] hbx aB aE h0 n0 Z0 F_b F_e A_B A_E) (W := 2) (pc := 45) (Ls := #[.val (.ref a), .val (.long (0 : Int64)), .second]) (argsL := []) (rest := [(.long ((256 : Int64) + (0 : Int64)))]) (st0 := [(.ref hbx), (.long ((256 : Int64) + (0 : Int64)))]) (by rw [hml]; rfl) (lenOf own_pd1 rfl) rfl (Nat.le_of_eq rfl) (hb hby own_d4_45) (by decide) (by decide) (by decide) (by decide) ?_
  intro v3 T3 L3 X3 hQ3
  obtain ⟨rfl, Nq3, hh3⟩ := hQ3
  have N3 := Fr.app N0 Nq3
  show own_Ends p e below s _ _ _ (T3.setTop (mkF m 48 #[.val (.ref a), .val (.long (0 : Int64)), .second] [(.long (0 : Int64)), (.long ((256 : Int64) + (0 : Int64)))]))
  refine own_pre (S' := (T3.setTop (mkF m 49 #[.val (.ref a), .val (.long (0 : Int64)), .second] [(.long (((256 : Int64) + (0 : Int64)) + (0 : Int64)))]))) (fun tt_ kk_ => XS.ladd X3.here hx rfl (hb hby own_d4_48) rfl kk_) ?_
  refine own_ret (t := .long) X3 hx hlk hrt rfl (Or.inr (Or.inl ⟨rfl, rfl, _, rfl⟩)) (hb hby own_d4_49) (by decide) (by decide) ?_
  exact ⟨congrArg (fun z => some (Value.long z)) (by decide : (((256 : Int64) + (0 : Int64)) + (0 : Int64)) = (256 : Int64)), N3, hh3⟩
set_option maxRecDepth 65536 in
set_option maxHeartbeats 40000000 in
theorem own_path (l : Launch) (Z : State) (a0 : Array Value) (hw : ∀ d ∈ tables_1, d.before a0 Z = true) (ws : List Jvm.Cond) (a : Addr) (h0 : Heap) (n0 : Nat) (Z0 : n0 ≤ h0.size) (F_t : Fld Z h0 a "com/example/claimgate/claimgate/gate/http/HeadReader" "target" "Ljava/lang/String;" .null) :
    own_Met l Z (⟨"com/example/claimgate/claimgate/gate/http/HeadReader", "path", "()Ljava/lang/String;"⟩ : MethodName) prog_14_method_5_code 1 (some (.object "java/lang/String")) ws ({ frames := 0, cells := 0, slots := 0, locals := 0 } : Room) #[(.ref a)] h0 (fun v h L => v = some .null ∧ Fr n0 L ∧ h = h0) := by
  refine own_body own_pn4 (fun m => mkF m 0 #[.val (.ref a)] []) (fun m => own_ef_own_path m a) ?_
  intro p e s m below meth c T0 hx hby hml hlk hrt hZ hown hnm X0 e0
  have hown : s.vm.findClass "com/example/claimgate/claimgate/gate/http/HeadReader" = some m.cls := hown
  have N0 := Fr.nil n0
  refine own_pre (S' := (T0.setTop (mkF m 1 #[.val (.ref a)] [(.ref a)]))) (fun tt_ kk_ => XS.aloadN X0.here hx rfl (hb hby own_d6_0) rfl rfl kk_) ?_
  obtain ⟨T1, X1, e1, st1⟩ := getF X0 hx hZ hown (host := "") (Or.inl (hw _ (List.mem_of_getElem? (i := 51) rfl))) Via.refl e0 F_t (g := (mkF m 1 #[.val (.ref a)] [(.ref a)])) rfl rfl (hb hby own_d6_1)
  refine own_pre (S' := (T1.setTop (mkF m 4 #[.val (.ref a)] [.null]))) st1 ?_
  refine own_pre (S' := (T1.setTop (mkF m 7 #[.val (.ref a)] []))) (fun tt_ kk_ => XS.ifnonnullNo X1.here hx rfl (hb hby own_d6_4) rfl kk_) ?_
  refine own_pre (S' := (T1.setTop (mkF m 8 #[.val (.ref a)] [.null]))) (fun tt_ kk_ => XS.aconstNull X1.here hx rfl (hb hby own_d6_7) kk_) ?_
  refine own_pre (S' := (T1.setTop (mkF m 18 #[.val (.ref a)] [.null]))) (fun tt_ kk_ => XS.goto X1.here hx rfl (pc0 := 8) (pc' := 18) rfl (hb hby own_d6_8) (by decide) (by decide) kk_) ?_
  refine own_ret (t := (.object "java/lang/String")) X1 hx hlk hrt rfl (Or.inr (Or.inr (Or.inr (Or.inr ⟨rfl, rfl, rfl⟩)))) (hb hby own_d6_18) (by decide) (by decide) ?_
  exact ⟨rfl, N0, e1⟩
set_option maxRecDepth 65536 in
set_option maxHeartbeats 40000000 in
theorem own_law (l : Launch) (Z : State) (a0 : Array Value) (hw : ∀ d ∈ tables_1, d.before a0 Z = true) (ws : List Jvm.Cond) (i0 i1 : Int32) (a_NO_BYTES : Addr) (a_NO_ENDS : Addr) (h0 : Heap) (n0 : Nat) (Z0 : n0 ≤ h0.size) (S_NO_BYTES : Sta Z h0 "com/example/claimgate/claimgate/gate/http/HeaderLines" "NO_BYTES" "[B" (.ref a_NO_BYTES)) (A_NO_BYTES : own_A Z h0 a_NO_BYTES .byte 0 (fun _ => .int 0)) (S_NO_ENDS : Sta Z h0 "com/example/claimgate/claimgate/gate/http/HeaderLines" "NO_ENDS" "[I" (.ref a_NO_ENDS)) (A_NO_ENDS : own_A Z h0 a_NO_ENDS .int 0 (fun _ => .int 0)) :
    own_Met l Z x code maxLocals ret ws room_1 #[(.int i0), (.int i1)] h0 (fun v h L => v = some (.int 1) ∧ Fr n0 L) := by
  refine own_body own_pn5 (fun m => mkF m 0 #[.val (.int i0), .val (.int i1), .unset, .unset, .unset, .unset, .unset, .unset, .unset, .unset, .unset] []) (fun m => own_ef_own_law m i0 i1) ?_
  intro p e s m below meth c T0 hx hby hml hlk hrt hZ hown hnm X0 e0
  have hown : s.vm.findClass "com/example/claimgate/claimgate/gate/http/HeadReaderHeldPinLaw" = some m.cls := hown
  have N0 := Fr.nil n0
  obtain ⟨T1, h1, X1, e1, E1, A1, D1, -, st1⟩ := newO X0 hx hZ hown (hw _ (List.mem_of_getElem? (i := 0) rfl)) (hw _ (List.mem_of_getElem? (i := 1) rfl)) (hw _ (List.mem_of_getElem? (i := 2) rfl)) e0 (g := (mkF m 0 #[.val (.int i0), .val (.int i1), .unset, .unset, .unset, .unset, .unset, .unset, .unset, .unset, .unset] [])) rfl (hb hby at_0) (by decide) (by decide)
  obtain ⟨b1, g1⟩ : ∃ z, z = h0.size := ⟨_, rfl⟩
  rw [← g1] at A1 D1 st1
  have sz_b1 : h0.size ≤ b1 := Nat.le_trans (Nat.le_refl h0.size) (Nat.le_of_eq g1.symm)
  have ge_b1 : n0 ≤ b1 := Nat.le_trans Z0 (Nat.le_of_eq g1.symm)
  have ne_a_NO_BYTES_b1 : a_NO_BYTES ≠ b1 := Nat.ne_of_lt (Nat.lt_of_lt_of_le A_NO_BYTES.lt (Nat.le_of_eq g1.symm))
  have ne_a_NO_ENDS_b1 : a_NO_ENDS ≠ b1 := Nat.ne_of_lt (Nat.lt_of_lt_of_le A_NO_ENDS.lt (Nat.le_of_eq g1.symm))
  have F1_maxBytes : Fld Z h1 b1 "com/example/claimgate/claimgate/gate/http/HeadReader" "maxBytes" "I" (.int (0 : Int32)) := D1 (Or.inr (hw _ (List.mem_of_getElem? (i := 10) rfl))) (ty := .int) (by decide)
  have F1_headers : Fld Z h1 b1 "com/example/claimgate/claimgate/gate/http/HeadReader" "headers" "Lcom/example/claimgate/claimgate/gate/http/HeaderLines;" .null := D1 (Or.inr (hw _ (List.mem_of_getElem? (i := 31) rfl))) (ty := (.object "com/example/claimgate/claimgate/gate/http/HeaderLines")) (by decide)
  have F1_method : Fld Z h1 b1 "com/example/claimgate/claimgate/gate/http/HeadReader" "method" "Ljava/lang/String;" .null := D1 (Or.inl (hw _ (List.mem_of_getElem? (i := 38) rfl))) (ty := (.object "java/lang/String")) (by decide)
  have F1_target : Fld Z h1 b1 "com/example/claimgate/claimgate/gate/http/HeadReader" "target" "Ljava/lang/String;" .null := D1 (Or.inl (hw _ (List.mem_of_getElem? (i := 52) rfl))) (ty := (.object "java/lang/String")) (by decide)
  have F1_version : Fld Z h1 b1 "com/example/claimgate/claimgate/gate/http/HeadReader" "version" "Ljava/lang/String;" .null := D1 (Or.inl (hw _ (List.mem_of_getElem? (i := 55) rfl))) (ty := (.object "java/lang/String")) (by decide)
  refine own_pre (S' := (T1.setTop (mkF m 3 #[.val (.int i0), .val (.int i1), .unset, .unset, .unset, .unset, .unset, .unset, .unset, .unset, .unset] [(.ref b1)]))) st1 ?_
  refine own_pre (S' := (T1.setTop (mkF m 4 #[.val (.int i0), .val (.int i1), .unset, .unset, .unset, .unset, .unset, .unset, .unset, .unset, .unset] [(.ref b1), (.ref b1)]))) (fun tt_ kk_ => XS.dup X1.here hx rfl (hb hby at_3) rfl rfl kk_) ?_
  refine own_pre (S' := (T1.setTop (mkF m 5 #[.val (.int i0), .val (.int i1), .unset, .unset, .unset, .unset, .unset, .unset, .unset, .unset, .unset] [(.int i0), (.ref b1), (.ref b1)]))) (fun tt_ kk_ => XS.iloadN X1.here hx rfl (hb hby at_4) rfl kk_) ?_
  refine own_callI (y := (⟨"com/example/claimgate/claimgate/gate/http/HeadReader", "<init>", "(I)V"⟩ : MethodName)) (b := b1) X1 hx hZ hown rfl (hw _ (List.mem_of_getElem? (i := 3) rfl)) (hw _ (List.mem_of_getElem? (i := 4) rfl)) (hw _ (List.mem_of_getElem? (i := 5) rfl)) (hw _ (List.mem_of_getElem? (i := 2) rfl)) (by decide) e1 (hM := own_hri l Z a0 hw [] b1 i0 a_NO_BYTES a_NO_ENDS h1 n0 (Nat.le_trans Z0 E1.1) F1_maxBytes F1_headers F1_method F1_target F1_version A1 ge_b1 (S_NO_BYTES.ext E1) (S_NO_ENDS.ext E1)) (W := 1) (pc := 5) (Ls := #[.val (.int i0), .val (.int i1), .unset, .unset, .unset, .unset, .unset, .unset, .unset, .unset, .unset]) (argsL := [(.int i0)]) (rest := [(.ref b1)]) (st0 := [(.int i0), (.ref b1), (.ref b1)]) (by rw [hml]; rfl) (lenOf own_pd2 rfl) rfl (Nat.le_of_eq rfl) (hb hby at_5) (by decide) (by decide) (by decide) (by decide) ?_
  intro v2 T2 L2 X2 hQ2
  obtain ⟨rfl, Nq2, K2, hbx2, Fh2, Fm2, Ft2, Eh2, Fb2, Fe2⟩ := hQ2
  have N2 := Fr.app N0 Nq2
  show own_Ends p e below s _ _ _ (T2.setTop (mkF m 8 #[.val (.int i0), .val (.int i1), .unset, .unset, .unset, .unset, .unset, .unset, .unset, .unset, .unset] [(.ref b1)]))
  refine own_pre (S' := (T2.setTop (mkF m 9 #[.val (.int i0), .val (.int i1), .val (.ref b1), .unset, .unset, .unset, .unset, .unset, .unset, .unset, .unset] []))) (fun tt_ kk_ => XS.astoreN X2.here hx rfl (hb hby at_8) rfl rfl (l' := #[.val (.int i0), .val (.int i1), .val (.ref b1), .unset, .unset, .unset, .unset, .unset, .unset, .unset, .unset]) rfl kk_) ?_
  obtain ⟨T3, h3, X3, e3, E3, A3, D3, -, st3⟩ := newO X2 hx hZ hown (hw _ (List.mem_of_getElem? (i := 0) rfl)) (hw _ (List.mem_of_getElem? (i := 1) rfl)) (hw _ (List.mem_of_getElem? (i := 2) rfl)) (rfl : T2.heap = T2.heap) (g := (mkF m 9 #[.val (.int i0), .val (.int i1), .val (.ref b1), .unset, .unset, .unset, .unset, .unset, .unset, .unset, .unset] [])) rfl (hb hby at_9) (by decide) (by decide)
  obtain ⟨b3, g3⟩ : ∃ z, z = T2.heap.size := ⟨_, rfl⟩
  rw [← g3] at A3 D3 st3
  have sz_b3 : h0.size ≤ b3 := Nat.le_trans (Nat.le_trans (Nat.le_trans (Nat.le_refl h0.size) E1.1) K2.1) (Nat.le_of_eq g3.symm)
  have ge_b3 : n0 ≤ b3 := Nat.le_trans (Nat.le_trans (Nat.le_trans Z0 E1.1) K2.1) (Nat.le_of_eq g3.symm)
  have ne_a_NO_BYTES_b3 : a_NO_BYTES ≠ b3 := Nat.ne_of_lt (Nat.lt_of_lt_of_le ((A_NO_BYTES.ext E1).keep K2 (ninS ne_a_NO_BYTES_b1 nin0)).lt (Nat.le_of_eq g3.symm))
  have ne_a_NO_ENDS_b3 : a_NO_ENDS ≠ b3 := Nat.ne_of_lt (Nat.lt_of_lt_of_le ((A_NO_ENDS.ext E1).keep K2 (ninS ne_a_NO_ENDS_b1 nin0)).lt (Nat.le_of_eq g3.symm))
  have ne_b1_b3 : b1 ≠ b3 := Nat.ne_of_lt (Nat.lt_of_lt_of_le (A1.keep K2).lt (Nat.le_of_eq g3.symm))
  have ne_hbx2_b3 : hbx2 ≠ b3 := Nat.ne_of_lt (Nat.lt_of_lt_of_le Eh2.lt (Nat.le_of_eq g3.symm))
  have F3_maxBytes : Fld Z h3 b3 "com/example/claimgate/claimgate/gate/http/HeadReader" "maxBytes" "I" (.int (0 : Int32)) := D3 (Or.inr (hw _ (List.mem_of_getElem? (i := 10) rfl))) (ty := .int) (by decide)
  have F3_headers : Fld Z h3 b3 "com/example/claimgate/claimgate/gate/http/HeadReader" "headers" "Lcom/example/claimgate/claimgate/gate/http/HeaderLines;" .null := D3 (Or.inr (hw _ (List.mem_of_getElem? (i := 31) rfl))) (ty := (.object "com/example/claimgate/claimgate/gate/http/HeaderLines")) (by decide)
  have F3_method : Fld Z h3 b3 "com/example/claimgate/claimgate/gate/http/HeadReader" "method" "Ljava/lang/String;" .null := D3 (Or.inl (hw _ (List.mem_of_getElem? (i := 38) rfl))) (ty := (.object "java/lang/String")) (by decide)
  have F3_target : Fld Z h3 b3 "com/example/claimgate/claimgate/gate/http/HeadReader" "target" "Ljava/lang/String;" .null := D3 (Or.inl (hw _ (List.mem_of_getElem? (i := 52) rfl))) (ty := (.object "java/lang/String")) (by decide)
  have F3_version : Fld Z h3 b3 "com/example/claimgate/claimgate/gate/http/HeadReader" "version" "Ljava/lang/String;" .null := D3 (Or.inl (hw _ (List.mem_of_getElem? (i := 55) rfl))) (ty := (.object "java/lang/String")) (by decide)
  refine own_pre (S' := (T3.setTop (mkF m 12 #[.val (.int i0), .val (.int i1), .val (.ref b1), .unset, .unset, .unset, .unset, .unset, .unset, .unset, .unset] [(.ref b3)]))) st3 ?_
  refine own_pre (S' := (T3.setTop (mkF m 13 #[.val (.int i0), .val (.int i1), .val (.ref b1), .unset, .unset, .unset, .unset, .unset, .unset, .unset, .unset] [(.ref b3), (.ref b3)]))) (fun tt_ kk_ => XS.dup X3.here hx rfl (hb hby at_12) rfl rfl kk_) ?_
  refine own_pre (S' := (T3.setTop (mkF m 14 #[.val (.int i0), .val (.int i1), .val (.ref b1), .unset, .unset, .unset, .unset, .unset, .unset, .unset, .unset] [(.int i1), (.ref b3), (.ref b3)]))) (fun tt_ kk_ => XS.iloadN X3.here hx rfl (hb hby at_13) rfl kk_) ?_
  refine own_callI (y := (⟨"com/example/claimgate/claimgate/gate/http/HeadReader", "<init>", "(I)V"⟩ : MethodName)) (b := b3) X3 hx hZ hown rfl (hw _ (List.mem_of_getElem? (i := 3) rfl)) (hw _ (List.mem_of_getElem? (i := 4) rfl)) (hw _ (List.mem_of_getElem? (i := 5) rfl)) (hw _ (List.mem_of_getElem? (i := 2) rfl)) (by decide) e3 (hM := own_hri l Z a0 hw [] b3 i1 a_NO_BYTES a_NO_ENDS h3 n0 (Nat.le_trans (Nat.le_trans (Nat.le_trans Z0 E1.1) K2.1) E3.1) F3_maxBytes F3_headers F3_method F3_target F3_version A3 ge_b3 ((own_sta_keep (S_NO_BYTES.ext E1) K2 (allS (own_plainE A1) all0)).ext E3) ((own_sta_keep (S_NO_ENDS.ext E1) K2 (allS (own_plainE A1) all0)).ext E3)) (W := 1) (pc := 14) (Ls := #[.val (.int i0), .val (.int i1), .val (.ref b1), .unset, .unset, .unset, .unset, .unset, .unset, .unset, .unset]) (argsL := [(.int i1)]) (rest := [(.ref b3)]) (st0 := [(.int i1), (.ref b3), (.ref b3)]) (by rw [hml]; rfl) (lenOf own_pd2 rfl) rfl (Nat.le_of_eq rfl) (hb hby at_14) (by decide) (by decide) (by decide) (by decide) ?_
  intro v4 T4 L4 X4 hQ4
  obtain ⟨rfl, Nq4, K4, hbx4, Fh4, Fm4, Ft4, Eh4, Fb4, Fe4⟩ := hQ4
  have N4 := Fr.app N2 Nq4
  show own_Ends p e below s _ _ _ (T4.setTop (mkF m 17 #[.val (.int i0), .val (.int i1), .val (.ref b1), .unset, .unset, .unset, .unset, .unset, .unset, .unset, .unset] [(.ref b3)]))
  refine own_pre (S' := (T4.setTop (mkF m 18 #[.val (.int i0), .val (.int i1), .val (.ref b1), .val (.ref b3), .unset, .unset, .unset, .unset, .unset, .unset, .unset] []))) (fun tt_ kk_ => XS.astoreN X4.here hx rfl (hb hby at_17) rfl rfl (l' := #[.val (.int i0), .val (.int i1), .val (.ref b1), .val (.ref b3), .unset, .unset, .unset, .unset, .unset, .unset, .unset]) rfl kk_) ?_
  refine own_pre (S' := (T4.setTop (mkF m 19 #[.val (.int i0), .val (.int i1), .val (.ref b1), .val (.ref b3), .unset, .unset, .unset, .unset, .unset, .unset, .unset] [(.ref b1)]))) (fun tt_ kk_ => XS.aloadN X4.here hx rfl (hb hby at_18) rfl rfl kk_) ?_
  refine own_callV (C := "com/example/claimgate/claimgate/gate/http/HeadReader") (y := (⟨"com/example/claimgate/claimgate/gate/http/HeadReader", "held", "()J"⟩ : MethodName)) (b := b1) X4 hx hZ hown (hw _ (List.mem_of_getElem? (i := 32) rfl)) (hw _ (List.mem_of_getElem? (i := 33) rfl)) (hw _ (List.mem_of_getElem? (i := 35) rfl)) (hw _ (List.mem_of_getElem? (i := 34) rfl)) (hw _ (List.mem_of_getElem? (i := 36) rfl)) (hw _ (List.mem_of_getElem? (i := 2) rfl)) (by decide) (rfl : T4.heap = T4.heap) (((A1.keep K2).ext E3).keep K4) (hM := own_rheld l Z a0 hw [] b1 hbx2 a_NO_BYTES a_NO_ENDS T4.heap n0 (Nat.le_trans (Nat.le_trans (Nat.le_trans (Nat.le_trans Z0 E1.1) K2.1) E3.1) K4.1) ((Fm2.ext E3).keep K4 (ninS ne_b1_b3 nin0)) ((Fh2.ext E3).keep K4 (ninS ne_b1_b3 nin0)) ((Eh2.ext E3).keep K4) ((Fb2.ext E3).keep K4 (ninS ne_hbx2_b3 nin0)) ((Fe2.ext E3).keep K4 (ninS ne_hbx2_b3 nin0)) ((((A_NO_BYTES.ext E1).keep K2 (ninS ne_a_NO_BYTES_b1 nin0)).ext E3).keep K4 (ninS ne_a_NO_BYTES_b3 nin0)) ((((A_NO_ENDS.ext E1).keep K2 (ninS ne_a_NO_ENDS_b1 nin0)).ext E3).keep K4 (ninS ne_a_NO_ENDS_b3 nin0))) (W := 0) (pc := 19) (Ls := #[.val (.int i0), .val (.int i1), .val (.ref b1), .val (.ref b3), .unset, .unset, .unset, .unset, .unset, .unset, .unset]) (argsL := []) (rest := []) (st0 := [(.ref b1)]) (by rw [hml]; rfl) (lenOf own_pd1 rfl) rfl (Nat.le_of_eq rfl) (hb hby at_19) (by decide) (by decide) (by decide) (by decide) ?_
  intro v5 T5 L5 X5 hQ5
  obtain ⟨rfl, Nq5, hh5⟩ := hQ5
  have N5 := Fr.app N4 Nq5
  show own_Ends p e below s _ _ _ (T5.setTop (mkF m 22 #[.val (.int i0), .val (.int i1), .val (.ref b1), .val (.ref b3), .unset, .unset, .unset, .unset, .unset, .unset, .unset] [(.long (256 : Int64))]))
  refine own_pre (S' := (T5.setTop (mkF m 24 #[.val (.int i0), .val (.int i1), .val (.ref b1), .val (.ref b3), .val (.long (256 : Int64)), .second, .unset, .unset, .unset, .unset, .unset] []))) (fun tt_ kk_ => XS.lstore X5.here hx rfl (hb hby at_22) rfl (l' := #[.val (.int i0), .val (.int i1), .val (.ref b1), .val (.ref b3), .val (.long (256 : Int64)), .second, .unset, .unset, .unset, .unset, .unset]) rfl kk_) ?_
  refine own_pre (S' := (T5.setTop (mkF m 25 #[.val (.int i0), .val (.int i1), .val (.ref b1), .val (.ref b3), .val (.long (256 : Int64)), .second, .unset, .unset, .unset, .unset, .unset] [(.ref b1)]))) (fun tt_ kk_ => XS.aloadN X5.here hx rfl (hb hby at_24) rfl rfl kk_) ?_
  refine own_callV (C := "com/example/claimgate/claimgate/gate/http/HeadReader") (y := (⟨"com/example/claimgate/claimgate/gate/http/HeadReader", "held", "()J"⟩ : MethodName)) (b := b1) X5 hx hZ hown (hw _ (List.mem_of_getElem? (i := 32) rfl)) (hw _ (List.mem_of_getElem? (i := 33) rfl)) (hw _ (List.mem_of_getElem? (i := 35) rfl)) (hw _ (List.mem_of_getElem? (i := 34) rfl)) (hw _ (List.mem_of_getElem? (i := 36) rfl)) (hw _ (List.mem_of_getElem? (i := 2) rfl)) (by decide) hh5 (((A1.keep K2).ext E3).keep K4) (hM := own_rheld l Z a0 hw [] b1 hbx2 a_NO_BYTES a_NO_ENDS T4.heap n0 (Nat.le_trans (Nat.le_trans (Nat.le_trans (Nat.le_trans Z0 E1.1) K2.1) E3.1) K4.1) ((Fm2.ext E3).keep K4 (ninS ne_b1_b3 nin0)) ((Fh2.ext E3).keep K4 (ninS ne_b1_b3 nin0)) ((Eh2.ext E3).keep K4) ((Fb2.ext E3).keep K4 (ninS ne_hbx2_b3 nin0)) ((Fe2.ext E3).keep K4 (ninS ne_hbx2_b3 nin0)) ((((A_NO_BYTES.ext E1).keep K2 (ninS ne_a_NO_BYTES_b1 nin0)).ext E3).keep K4 (ninS ne_a_NO_BYTES_b3 nin0)) ((((A_NO_ENDS.ext E1).keep K2 (ninS ne_a_NO_ENDS_b1 nin0)).ext E3).keep K4 (ninS ne_a_NO_ENDS_b3 nin0))) (W := 0) (pc := 25) (Ls := #[.val (.int i0), .val (.int i1), .val (.ref b1), .val (.ref b3), .val (.long (256 : Int64)), .second, .unset, .unset, .unset, .unset, .unset]) (argsL := []) (rest := []) (st0 := [(.ref b1)]) (by rw [hml]; rfl) (lenOf own_pd1 rfl) rfl (Nat.le_of_eq rfl) (hb hby at_25) (by decide) (by decide) (by decide) (by decide) ?_
  intro v6 T6 L6 X6 hQ6
  obtain ⟨rfl, Nq6, hh6⟩ := hQ6
  have N6 := Fr.app N5 Nq6
  show own_Ends p e below s _ _ _ (T6.setTop (mkF m 28 #[.val (.int i0), .val (.int i1), .val (.ref b1), .val (.ref b3), .val (.long (256 : Int64)), .second, .unset, .unset, .unset, .unset, .unset] [(.long (256 : Int64))]))
  refine own_pre (S' := (T6.setTop (mkF m 30 #[.val (.int i0), .val (.int i1), .val (.ref b1), .val (.ref b3), .val (.long (256 : Int64)), .second, .val (.long (256 : Int64)), .second, .unset, .unset, .unset] []))) (fun tt_ kk_ => XS.lstore X6.here hx rfl (hb hby at_28) rfl (l' := #[.val (.int i0), .val (.int i1), .val (.ref b1), .val (.ref b3), .val (.long (256 : Int64)), .second, .val (.long (256 : Int64)), .second, .unset, .unset, .unset]) rfl kk_) ?_
  refine own_pre (S' := (T6.setTop (mkF m 31 #[.val (.int i0), .val (.int i1), .val (.ref b1), .val (.ref b3), .val (.long (256 : Int64)), .second, .val (.long (256 : Int64)), .second, .unset, .unset, .unset] [(.ref b3)]))) (fun tt_ kk_ => XS.aloadN X6.here hx rfl (hb hby at_30) rfl rfl kk_) ?_
  refine own_callV (C := "com/example/claimgate/claimgate/gate/http/HeadReader") (y := (⟨"com/example/claimgate/claimgate/gate/http/HeadReader", "held", "()J"⟩ : MethodName)) (b := b3) X6 hx hZ hown (hw _ (List.mem_of_getElem? (i := 32) rfl)) (hw _ (List.mem_of_getElem? (i := 33) rfl)) (hw _ (List.mem_of_getElem? (i := 35) rfl)) (hw _ (List.mem_of_getElem? (i := 34) rfl)) (hw _ (List.mem_of_getElem? (i := 36) rfl)) (hw _ (List.mem_of_getElem? (i := 2) rfl)) (by decide) hh6 (A3.keep K4) (hM := own_rheld l Z a0 hw [] b3 hbx4 a_NO_BYTES a_NO_ENDS T4.heap n0 (Nat.le_trans (Nat.le_trans (Nat.le_trans (Nat.le_trans Z0 E1.1) K2.1) E3.1) K4.1) Fm4 Fh4 Eh4 Fb4 Fe4 ((((A_NO_BYTES.ext E1).keep K2 (ninS ne_a_NO_BYTES_b1 nin0)).ext E3).keep K4 (ninS ne_a_NO_BYTES_b3 nin0)) ((((A_NO_ENDS.ext E1).keep K2 (ninS ne_a_NO_ENDS_b1 nin0)).ext E3).keep K4 (ninS ne_a_NO_ENDS_b3 nin0))) (W := 0) (pc := 31) (Ls := #[.val (.int i0), .val (.int i1), .val (.ref b1), .val (.ref b3), .val (.long (256 : Int64)), .second, .val (.long (256 : Int64)), .second, .unset, .unset, .unset]) (argsL := []) (rest := []) (st0 := [(.ref b3)]) (by rw [hml]; rfl) (lenOf own_pd1 rfl) rfl (Nat.le_of_eq rfl) (hb hby at_31) (by decide) (by decide) (by decide) (by decide) ?_
  intro v7 T7 L7 X7 hQ7
  obtain ⟨rfl, Nq7, hh7⟩ := hQ7
  have N7 := Fr.app N6 Nq7
  show own_Ends p e below s _ _ _ (T7.setTop (mkF m 34 #[.val (.int i0), .val (.int i1), .val (.ref b1), .val (.ref b3), .val (.long (256 : Int64)), .second, .val (.long (256 : Int64)), .second, .unset, .unset, .unset] [(.long (256 : Int64))]))
  refine own_pre (S' := (T7.setTop (mkF m 36 #[.val (.int i0), .val (.int i1), .val (.ref b1), .val (.ref b3), .val (.long (256 : Int64)), .second, .val (.long (256 : Int64)), .second, .val (.long (256 : Int64)), .second, .unset] []))) (fun tt_ kk_ => XS.lstore X7.here hx rfl (hb hby at_34) rfl (l' := #[.val (.int i0), .val (.int i1), .val (.ref b1), .val (.ref b3), .val (.long (256 : Int64)), .second, .val (.long (256 : Int64)), .second, .val (.long (256 : Int64)), .second, .unset]) rfl kk_) ?_
  refine own_pre (S' := (T7.setTop (mkF m 37 #[.val (.int i0), .val (.int i1), .val (.ref b1), .val (.ref b3), .val (.long (256 : Int64)), .second, .val (.long (256 : Int64)), .second, .val (.long (256 : Int64)), .second, .unset] [(.ref b1)]))) (fun tt_ kk_ => XS.aloadN X7.here hx rfl (hb hby at_36) rfl rfl kk_) ?_
  refine own_callV (C := "com/example/claimgate/claimgate/gate/http/HeadReader") (y := (⟨"com/example/claimgate/claimgate/gate/http/HeadReader", "path", "()Ljava/lang/String;"⟩ : MethodName)) (b := b1) X7 hx hZ hown (hw _ (List.mem_of_getElem? (i := 46) rfl)) (hw _ (List.mem_of_getElem? (i := 47) rfl)) (hw _ (List.mem_of_getElem? (i := 49) rfl)) (hw _ (List.mem_of_getElem? (i := 48) rfl)) (hw _ (List.mem_of_getElem? (i := 50) rfl)) (hw _ (List.mem_of_getElem? (i := 2) rfl)) (by decide) hh7 (((A1.keep K2).ext E3).keep K4) (hM := own_path l Z a0 hw [] b1 T4.heap n0 (Nat.le_trans (Nat.le_trans (Nat.le_trans (Nat.le_trans Z0 E1.1) K2.1) E3.1) K4.1) ((Ft2.ext E3).keep K4 (ninS ne_b1_b3 nin0))) (W := 0) (pc := 37) (Ls := #[.val (.int i0), .val (.int i1), .val (.ref b1), .val (.ref b3), .val (.long (256 : Int64)), .second, .val (.long (256 : Int64)), .second, .val (.long (256 : Int64)), .second, .unset]) (argsL := []) (rest := []) (st0 := [(.ref b1)]) (by rw [hml]; rfl) (lenOf own_pd3 rfl) rfl (Nat.le_of_eq rfl) (hb hby at_37) (by decide) (by decide) (by decide) (by decide) ?_
  intro v8 T8 L8 X8 hQ8
  obtain ⟨rfl, Nq8, hh8⟩ := hQ8
  have N8 := Fr.app N7 Nq8
  show own_Ends p e below s _ _ _ (T8.setTop (mkF m 40 #[.val (.int i0), .val (.int i1), .val (.ref b1), .val (.ref b3), .val (.long (256 : Int64)), .second, .val (.long (256 : Int64)), .second, .val (.long (256 : Int64)), .second, .unset] [.null]))
  refine own_pre (S' := (T8.setTop (mkF m 43 #[.val (.int i0), .val (.int i1), .val (.ref b1), .val (.ref b3), .val (.long (256 : Int64)), .second, .val (.long (256 : Int64)), .second, .val (.long (256 : Int64)), .second, .unset] []))) (fun tt_ kk_ => XS.ifnonnullNo X8.here hx rfl (hb hby at_40) rfl kk_) ?_
  refine own_pre (S' := (T8.setTop (mkF m 44 #[.val (.int i0), .val (.int i1), .val (.ref b1), .val (.ref b3), .val (.long (256 : Int64)), .second, .val (.long (256 : Int64)), .second, .val (.long (256 : Int64)), .second, .unset] [(.int (1 : Int32))]))) (fun tt_ kk_ => XS.iconst X8.here hx rfl (hb hby at_43) kk_) ?_
  refine own_pre (S' := (T8.setTop (mkF m 48 #[.val (.int i0), .val (.int i1), .val (.ref b1), .val (.ref b3), .val (.long (256 : Int64)), .second, .val (.long (256 : Int64)), .second, .val (.long (256 : Int64)), .second, .unset] [(.int (1 : Int32))]))) (fun tt_ kk_ => XS.goto X8.here hx rfl (pc0 := 44) (pc' := 48) rfl (hb hby at_44) (by decide) (by decide) kk_) ?_
  refine own_pre (S' := (T8.setTop (mkF m 50 #[.val (.int i0), .val (.int i1), .val (.ref b1), .val (.ref b3), .val (.long (256 : Int64)), .second, .val (.long (256 : Int64)), .second, .val (.long (256 : Int64)), .second, .val (.int (1 : Int32))] []))) (fun tt_ kk_ => XS.istore X8.here hx rfl (hb hby at_48) rfl (l' := #[.val (.int i0), .val (.int i1), .val (.ref b1), .val (.ref b3), .val (.long (256 : Int64)), .second, .val (.long (256 : Int64)), .second, .val (.long (256 : Int64)), .second, .val (.int (1 : Int32))]) rfl kk_) ?_
  refine own_pre (S' := (T8.setTop (mkF m 52 #[.val (.int i0), .val (.int i1), .val (.ref b1), .val (.ref b3), .val (.long (256 : Int64)), .second, .val (.long (256 : Int64)), .second, .val (.long (256 : Int64)), .second, .val (.int (1 : Int32))] [(.long (256 : Int64))]))) (fun tt_ kk_ => XS.lload X8.here hx rfl (hb hby at_50) rfl kk_) ?_
  refine own_pre (S' := (T8.setTop (mkF m 55 #[.val (.int i0), .val (.int i1), .val (.ref b1), .val (.ref b3), .val (.long (256 : Int64)), .second, .val (.long (256 : Int64)), .second, .val (.long (256 : Int64)), .second, .val (.int (1 : Int32))] [(.long (256 : Int64)), (.long (256 : Int64))]))) (X8.ldc2Long hx hown (mvT hZ (hw _ (List.mem_of_getElem? (i := 53) rfl))) (g := (mkF m 52 #[.val (.int i0), .val (.int i1), .val (.ref b1), .val (.ref b3), .val (.long (256 : Int64)), .second, .val (.long (256 : Int64)), .second, .val (.long (256 : Int64)), .second, .val (.int (1 : Int32))] [(.long (256 : Int64))])) rfl (hb hby at_52)) ?_
  refine own_pre (S' := (T8.setTop (mkF m 56 #[.val (.int i0), .val (.int i1), .val (.ref b1), .val (.ref b3), .val (.long (256 : Int64)), .second, .val (.long (256 : Int64)), .second, .val (.long (256 : Int64)), .second, .val (.int (1 : Int32))] [(.int (lcmpW (256 : Int64) (256 : Int64)))]))) (fun tt_ kk_ => XS.lcmp X8.here hx rfl (hb hby at_55) rfl kk_) ?_
  refine own_pre (S' := (T8.setTop (mkF m 59 #[.val (.int i0), .val (.int i1), .val (.ref b1), .val (.ref b3), .val (.long (256 : Int64)), .second, .val (.long (256 : Int64)), .second, .val (.long (256 : Int64)), .second, .val (.int (1 : Int32))] []))) (fun tt_ kk_ => XS.ifNo X8.here hx rfl (hb hby at_56) rfl ((if0 _ _).trans (teq (by decide)).2) kk_) ?_
  refine own_pre (S' := (T8.setTop (mkF m 61 #[.val (.int i0), .val (.int i1), .val (.ref b1), .val (.ref b3), .val (.long (256 : Int64)), .second, .val (.long (256 : Int64)), .second, .val (.long (256 : Int64)), .second, .val (.int (1 : Int32))] [(.long (256 : Int64))]))) (fun tt_ kk_ => XS.lload X8.here hx rfl (hb hby at_59) rfl kk_) ?_
  refine own_pre (S' := (T8.setTop (mkF m 64 #[.val (.int i0), .val (.int i1), .val (.ref b1), .val (.ref b3), .val (.long (256 : Int64)), .second, .val (.long (256 : Int64)), .second, .val (.long (256 : Int64)), .second, .val (.int (1 : Int32))] [(.long (256 : Int64)), (.long (256 : Int64))]))) (X8.ldc2Long hx hown (mvT hZ (hw _ (List.mem_of_getElem? (i := 53) rfl))) (g := (mkF m 61 #[.val (.int i0), .val (.int i1), .val (.ref b1), .val (.ref b3), .val (.long (256 : Int64)), .second, .val (.long (256 : Int64)), .second, .val (.long (256 : Int64)), .second, .val (.int (1 : Int32))] [(.long (256 : Int64))])) rfl (hb hby at_61)) ?_
  refine own_pre (S' := (T8.setTop (mkF m 65 #[.val (.int i0), .val (.int i1), .val (.ref b1), .val (.ref b3), .val (.long (256 : Int64)), .second, .val (.long (256 : Int64)), .second, .val (.long (256 : Int64)), .second, .val (.int (1 : Int32))] [(.int (lcmpW (256 : Int64) (256 : Int64)))]))) (fun tt_ kk_ => XS.lcmp X8.here hx rfl (hb hby at_64) rfl kk_) ?_
  refine own_pre (S' := (T8.setTop (mkF m 68 #[.val (.int i0), .val (.int i1), .val (.ref b1), .val (.ref b3), .val (.long (256 : Int64)), .second, .val (.long (256 : Int64)), .second, .val (.long (256 : Int64)), .second, .val (.int (1 : Int32))] []))) (fun tt_ kk_ => XS.ifNo X8.here hx rfl (hb hby at_65) rfl ((if0 _ _).trans (teq (by decide)).2) kk_) ?_
  refine own_pre (S' := (T8.setTop (mkF m 70 #[.val (.int i0), .val (.int i1), .val (.ref b1), .val (.ref b3), .val (.long (256 : Int64)), .second, .val (.long (256 : Int64)), .second, .val (.long (256 : Int64)), .second, .val (.int (1 : Int32))] [(.long (256 : Int64))]))) (fun tt_ kk_ => XS.lload X8.here hx rfl (hb hby at_68) rfl kk_) ?_
  refine own_pre (S' := (T8.setTop (mkF m 73 #[.val (.int i0), .val (.int i1), .val (.ref b1), .val (.ref b3), .val (.long (256 : Int64)), .second, .val (.long (256 : Int64)), .second, .val (.long (256 : Int64)), .second, .val (.int (1 : Int32))] [(.long (256 : Int64)), (.long (256 : Int64))]))) (X8.ldc2Long hx hown (mvT hZ (hw _ (List.mem_of_getElem? (i := 53) rfl))) (g := (mkF m 70 #[.val (.int i0), .val (.int i1), .val (.ref b1), .val (.ref b3), .val (.long (256 : Int64)), .second, .val (.long (256 : Int64)), .second, .val (.long (256 : Int64)), .second, .val (.int (1 : Int32))] [(.long (256 : Int64))])) rfl (hb hby at_70)) ?_
  refine own_pre (S' := (T8.setTop (mkF m 74 #[.val (.int i0), .val (.int i1), .val (.ref b1), .val (.ref b3), .val (.long (256 : Int64)), .second, .val (.long (256 : Int64)), .second, .val (.long (256 : Int64)), .second, .val (.int (1 : Int32))] [(.int (lcmpW (256 : Int64) (256 : Int64)))]))) (fun tt_ kk_ => XS.lcmp X8.here hx rfl (hb hby at_73) rfl kk_) ?_
  refine own_pre (S' := (T8.setTop (mkF m 77 #[.val (.int i0), .val (.int i1), .val (.ref b1), .val (.ref b3), .val (.long (256 : Int64)), .second, .val (.long (256 : Int64)), .second, .val (.long (256 : Int64)), .second, .val (.int (1 : Int32))] []))) (fun tt_ kk_ => XS.ifNo X8.here hx rfl (hb hby at_74) rfl ((if0 _ _).trans (teq (by decide)).2) kk_) ?_
  refine own_pre (S' := (T8.setTop (mkF m 79 #[.val (.int i0), .val (.int i1), .val (.ref b1), .val (.ref b3), .val (.long (256 : Int64)), .second, .val (.long (256 : Int64)), .second, .val (.long (256 : Int64)), .second, .val (.int (1 : Int32))] [(.int (1 : Int32))]))) (fun tt_ kk_ => XS.iload X8.here hx rfl (hb hby at_77) rfl kk_) ?_
  refine own_pre (S' := (T8.setTop (mkF m 82 #[.val (.int i0), .val (.int i1), .val (.ref b1), .val (.ref b3), .val (.long (256 : Int64)), .second, .val (.long (256 : Int64)), .second, .val (.long (256 : Int64)), .second, .val (.int (1 : Int32))] []))) (fun tt_ kk_ => XS.ifNo X8.here hx rfl (hb hby at_79) rfl ((if0 _ _).trans (feq (by decide : ¬ ((1 : Int32) = (0 : Int32)))).1) kk_) ?_
  refine own_pre (S' := (T8.setTop (mkF m 83 #[.val (.int i0), .val (.int i1), .val (.ref b1), .val (.ref b3), .val (.long (256 : Int64)), .second, .val (.long (256 : Int64)), .second, .val (.long (256 : Int64)), .second, .val (.int (1 : Int32))] [(.int (1 : Int32))]))) (fun tt_ kk_ => XS.iconst X8.here hx rfl (hb hby at_82) kk_) ?_
  refine own_pre (S' := (T8.setTop (mkF m 87 #[.val (.int i0), .val (.int i1), .val (.ref b1), .val (.ref b3), .val (.long (256 : Int64)), .second, .val (.long (256 : Int64)), .second, .val (.long (256 : Int64)), .second, .val (.int (1 : Int32))] [(.int (1 : Int32))]))) (fun tt_ kk_ => XS.goto X8.here hx rfl (pc0 := 83) (pc' := 87) rfl (hb hby at_83) (by decide) (by decide) kk_) ?_
  refine own_ret (t := .boolean) X8 hx hlk hrt rfl (Or.inl ⟨rfl, by simp, _, rfl⟩) (hb hby at_87) (by decide) (by decide) ?_
  exact ⟨rfl, N8⟩
set_option maxRecDepth 65536 in
set_option maxHeartbeats 40000000 in
theorem comes_1 {Post : Tables → Env → Array Value → State → Outcome → State → Prop} (hpost : ∀ tb e args s v u, (limb_1_1.after args s (.returned v) u = true ∧ limb_1_2.after args s (.returned v) u = true ∧ True) → FrameEnd s (.returned v) u (Jvm.fieldLocs frame_1_writes args s ++ Jvm.arrayLocs frame_1_arrays args s ++ Jvm.staticLocs frame_1_statics s) 16 128 → Post tb e args s (.returned v) u) :
    ArmFor flags0 classFile x code maxLocals ret World_1 tables_1 room_1 Calls_1 rest_1 Pre_1 Post := by
  intro l hfl _ _ p e ha hc hk s m args below hf hA hF happ hP
  obtain ⟨hcalls, hrest, hpre⟩ := hP
  obtain ⟨-, -, -, hnamed, -, -, -, hat⟩ := (Spec.applies_iff hf).mp happ
  obtain ⟨hg, hn⟩ := and_e (Cond.before_iff.mp (show (Jvm.Cond.and given_1 narrow_1).before args s = true from hpre))
  obtain ⟨hcount, hgg⟩ := and_e hg
  obtain ⟨hk0, hk1⟩ := and_e hgg
  obtain ⟨w0, w1, rfl⟩ : ∃ w0 w1 : Value, args = #[w0, w1] := by
    have hs : args.size = 2 := by simpa [Cond.value, given_1] using hcount
    obtain ⟨L⟩ := args
    match L, hs with
    | [w0, w1], _ => exact ⟨w0, w1, rfl⟩
  have hw := fun d (hd : d ∈ tables_1) => atoms_spec (ws := Jvm.Cond.code x code maxLocals ret :: tables_1) hat d (List.mem_cons_of_mem _ hd)
  have hfit : Fit s := fun {y c} hc i hi => by
    obtain ⟨ha, rfl⟩ := Array.getElem?_eq_some_iff.mp hc
    have q := List.all_eq_true.mp ((Array.all_eq_true_iff_forall_mem.mp hF) _ (Array.getElem_mem ha)) i (List.mem_range.mpr hi)
    simpa [Array.getElem?_eq_getElem hi] using q
  obtain ⟨i0, ei0⟩ := is_v hk0
  obtain rfl : w0 = (.int i0) := Option.some.inj ei0
  obtain ⟨i1, ei1⟩ := is_v hk1
  obtain rfl : w1 = (.int i1) := Option.some.inj ei1
  obtain ⟨hn0, hr0⟩ := and_e hn
  obtain ⟨hn1, hr1⟩ := and_e hr0
  obtain ⟨hn2, hn3⟩ := and_e hr1
  obtain ⟨a_NO_BYTES, ev_NO_BYTES⟩ := arr_v hn0
  have S_NO_BYTES : Sta s s.heap "com/example/claimgate/claimgate/gate/http/HeaderLines" "NO_BYTES" "[B" (.ref a_NO_BYTES) := Sta.start ev_NO_BYTES (Or.inr ⟨(hw _ (List.mem_of_getElem? (i := 13) rfl)), (hw _ (List.mem_of_getElem? (i := 19) rfl))⟩)
  obtain ⟨cl_NO_BYTES, Ac_NO_BYTES⟩ := Arr.start ev_NO_BYTES hn0
  obtain ⟨ql_NO_BYTES, qm_NO_BYTES⟩ := own_lenS ev_NO_BYTES Ac_NO_BYTES hn1
  have A_NO_BYTES : own_A s s.heap a_NO_BYTES .byte 0 (fun _ => .int 0) := ⟨by decide, cl_NO_BYTES, Ac_NO_BYTES, own_sz0 ql_NO_BYTES qm_NO_BYTES, fun i hi => absurd hi (Nat.not_lt_zero i)⟩
  obtain ⟨a_NO_ENDS, ev_NO_ENDS⟩ := arr_v hn2
  have S_NO_ENDS : Sta s s.heap "com/example/claimgate/claimgate/gate/http/HeaderLines" "NO_ENDS" "[I" (.ref a_NO_ENDS) := Sta.start ev_NO_ENDS (Or.inr ⟨(hw _ (List.mem_of_getElem? (i := 13) rfl)), (hw _ (List.mem_of_getElem? (i := 23) rfl))⟩)
  obtain ⟨cl_NO_ENDS, Ac_NO_ENDS⟩ := Arr.start ev_NO_ENDS hn2
  obtain ⟨ql_NO_ENDS, qm_NO_ENDS⟩ := own_lenS ev_NO_ENDS Ac_NO_ENDS hn3
  have A_NO_ENDS : own_A s s.heap a_NO_ENDS .int 0 (fun _ => .int 0) := ⟨by decide, cl_NO_ENDS, Ac_NO_ENDS, own_sz0 ql_NO_ENDS qm_NO_ENDS, fun i hi => absurd hi (Nat.not_lt_zero i)⟩
  obtain ⟨n, o, h1, h2, h3, _, L, rfl, ⟨rfl, N⟩, hq⟩ := own_law l s _ hw tables_1 i0 i1 a_NO_BYTES a_NO_ENDS s.heap s.heap.size (Nat.le_refl _) S_NO_BYTES A_NO_BYTES S_NO_ENDS A_NO_ENDS p e ha hc hk s m _ below hf ((Spec.applies_iff_loose hf).mp happ).1 ⟨rfl, State.Warmed39.refl s, rfl⟩ trivial
  refine ⟨n, _, h1, h2, h3, hpost _ _ _ _ _ _ ⟨Cond.after_iff.mpr rfl, Cond.after_iff.mpr (eq_i res_at (Term.int_eval (1)) rfl), trivial⟩ ⟨hq.1, hq.2.1, (hq.2.2.sift fun y hy => Or.inr (N y hy)).mono (by decide) (by decide)⟩⟩
theorem main_1_1 : Claimed_1_1 := comes_1 fun _ _ _ _ _ _ h hF => ⟨h.1, hF⟩
theorem main_1_2 : Claimed_1_2 := comes_1 fun _ _ _ _ _ _ h hF => ⟨h.2.1, hF⟩
end Jvm.Pilot.@@N@@
namespace Jvm.Pilot.@@N@@
open Jvm Jvm.ClassFile Sem Op Lib Jvm.Free Jvm.Stand Jvm.Pilot.@@N@@.Jvm.D
/-! MADE BY PROGRAM (witnessworld.py) out of the Statement's table words and the real class files: 10 classes; the members and pool entries that the words name. The judged class is class 1, her method 1. -/
namespace start1
open Jvm.ClassFile
def u (s : String) : CpInfo := .utf8 (stringToUtf16 s)
/-- a pool by its gaps: so many unusable entries, then the entry; so many at the end -/
def gap : Nat → List CpInfo → List CpInfo
  | 0, r => r
  | n + 1, r => .unusable :: gap n r
def poolList (es : List (Nat × CpInfo)) (last : Nat) : List CpInfo := es.foldr (fun e r => gap e.1 (e.2 :: r)) (gap last [])
def pool (es : List (Nat × CpInfo)) (last : Nat) : Array CpInfo := ⟨poolList es last⟩
def fileOf (pool : Array CpInfo) (this : Nat) (attrs : Array Attribute := #[]) (ms : Array MethodInfo := #[]) (fl : Nat := 33) (sup : Nat := 0) (ifs : Array Nat := #[]) (fds : Array FieldInfo := #[]) : ClassFile where
  minorVersion := 0
  majorVersion := 65
  constantPool := pool
  accessFlags := fl
  thisClass := this
  superClass := sup
  interfaces := ifs
  fields := fds
  methods := ms
  attributes := attrs
def plain (name : String) (sup : Option ClassId) : Class where
  name := name
  kind := .ordinary
  loader := none
  accessFlags := 33
  super := sup
  interfaces := #[]
  cf := none
  fields := #[]
  methods := #[]
  instanceTypes := #[]
  staticTypes := #[]
  resolved := #[]
  callSites := []
  init := .initialized
  statics := none
  mirror := none

def pool0 : Array CpInfo := pool [(5, u "<init>"), (0, u "()V"), (1, .class_ 10), (1, u "java/lang/Object")] 113

def k0c0 : Code := { maxStack := 0, maxLocals := 1, code := object_method_1_code, exceptionTable := #[], attributes := #[] }
def k0m0 : Method := { name := "<init>", desc := "()V", sig := { parameters := [], returnType := none }, accessFlags := 1, code := some k0c0 }
/-- java/lang/Object -/
def k0 : Class := { plain "java/lang/Object" none with
  accessFlags := 33
  interfaces := #[]
  cf := some (fileOf pool0 8 #[] #[{ accessFlags := 1, nameIndex := 5, descriptorIndex := 6, attributes := #[] }] 33 0 #[] #[])
  fields := #[]
  methods := #[k0m0]
  instanceTypes := #[]
  staticTypes := #[]
  resolved := Array.replicate 124 none
  statics := none }

def pool1 : Array CpInfo := pool [(2, .class_ 4), (1, u "java/lang/Object"), (0, u "<init>"), (0, u "()V"), (0, .class_ 8), (0, u "com/example/claimgate/claimgate/gate/http/HeadReader"), (0, .methodref 7 10), (0, .nameAndType 5 11), (0, u "(I)V"), (0, .methodref 7 13), (0, .nameAndType 14 15), (0, u "held"), (0, u "()J"), (0, .methodref 7 17), (0, .nameAndType 18 19), (0, u "path"), (0, u "()Ljava/lang/String;"), (0, .long 256), (1, .class_ 23), (0, u "com/example/claimgate/claimgate/gate/http/HeadReaderHeldPinLaw"), (2, u "law"), (0, u "(II)Z")] 3

def k1m0 : Method := { name := "<init>", desc := "()V", sig := { parameters := [], returnType := none }, accessFlags := 2, code := none }
def k1c1 : Code := { maxStack := 4, maxLocals := 11, code := code, exceptionTable := #[], attributes := #[] }
def k1m1 : Method := { name := "law", desc := "(II)Z", sig := { parameters := [.int, .int], returnType := some .boolean }, accessFlags := 9, code := some k1c1 }
/-- com/example/claimgate/claimgate/gate/http/HeadReaderHeldPinLaw -/
def k1 : Class := { plain "com/example/claimgate/claimgate/gate/http/HeadReaderHeldPinLaw" (some 0) with
  accessFlags := 49
  interfaces := #[]
  cf := some (fileOf pool1 22 #[] #[{ accessFlags := 2, nameIndex := 5, descriptorIndex := 6, attributes := #[] }, { accessFlags := 9, nameIndex := 26, descriptorIndex := 27, attributes := #[] }] 49 2 #[] #[])
  fields := #[]
  methods := #[k1m0, k1m1]
  instanceTypes := #[]
  staticTypes := #[]
  resolved := Array.replicate 31 none
  statics := none }

def pool2 : Array CpInfo := pool [(1, .methodref 2 3), (0, .class_ 4), (0, .nameAndType 5 6), (0, u "java/lang/Object"), (0, u "<init>"), (0, u "()V"), (0, .fieldref 8 9), (0, .class_ 10), (0, .nameAndType 11 12), (0, u "com/example/claimgate/claimgate/gate/http/HeadReader"), (0, u "maxBytes"), (0, u "I"), (0, .class_ 14), (0, u "com/example/claimgate/claimgate/gate/http/HeaderLines"), (0, .methodref 13 16), (0, .nameAndType 5 17), (0, u "(II)V"), (0, .fieldref 8 19), (0, .nameAndType 20 21), (0, u "headers"), (0, u "Lcom/example/claimgate/claimgate/gate/http/HeaderLines;"), (8, u "scanned"), (10, u "(I)V"), (11, .fieldref 8 54), (0, .nameAndType 55 56), (0, u "method"), (0, u "Ljava/lang/String;"), (5, .fieldref 8 63), (0, .nameAndType 64 56), (0, u "target"), (0, .fieldref 8 66), (0, .nameAndType 67 56), (0, u "version"), (0, .long 256), (1, .methodref 13 71), (0, .nameAndType 72 73), (0, u "held"), (0, u "()J"), (22, u "headerBytes"), (130, u "()Ljava/lang/String;"), (46, u "MAX_HEADERS"), (2, u "OBJECTS"), (1, u "CR"), (0, u "B"), (1, u "LF"), (1, u "SP"), (1, u "HTAB"), (1, u "TOKEN_SYMBOLS"), (7, u "path")] 23

def k2c0 : Code := { maxStack := 5, maxLocals := 2, code := prog_14_method_1_code, exceptionTable := #[], attributes := #[] }
def k2m0 : Method := { name := "<init>", desc := "(I)V", sig := { parameters := [.int], returnType := none }, accessFlags := 0, code := some k2c0 }
def k2c1 : Code := { maxStack := 4, maxLocals := 3, code := prog_14_method_4_code, exceptionTable := #[], attributes := #[] }
def k2m1 : Method := { name := "held", desc := "()J", sig := { parameters := [], returnType := some .long }, accessFlags := 0, code := some k2c1 }
def k2c2 : Code := { maxStack := 1, maxLocals := 1, code := prog_14_method_5_code, exceptionTable := #[], attributes := #[] }
def k2m2 : Method := { name := "path", desc := "()Ljava/lang/String;", sig := { parameters := [], returnType := some (.object "java/lang/String") }, accessFlags := 0, code := some k2c2 }
/-- com/example/claimgate/claimgate/gate/http/HeadReader -/
def k2 : Class := { plain "com/example/claimgate/claimgate/gate/http/HeadReader" (some 0) with
  accessFlags := 48
  interfaces := #[]
  cf := some (fileOf pool2 8 #[] #[{ accessFlags := 0, nameIndex := 5, descriptorIndex := 41, attributes := #[] }, { accessFlags := 0, nameIndex := 72, descriptorIndex := 73, attributes := #[] }, { accessFlags := 0, nameIndex := 296, descriptorIndex := 227, attributes := #[] }] 48 2 #[] #[{ accessFlags := 26, nameIndex := 274, descriptorIndex := 12, attributes := #[] }, { accessFlags := 26, nameIndex := 277, descriptorIndex := 12, attributes := #[] }, { accessFlags := 26, nameIndex := 279, descriptorIndex := 280, attributes := #[] }, { accessFlags := 26, nameIndex := 282, descriptorIndex := 280, attributes := #[] }, { accessFlags := 26, nameIndex := 284, descriptorIndex := 280, attributes := #[] }, { accessFlags := 26, nameIndex := 286, descriptorIndex := 280, attributes := #[] }, { accessFlags := 26, nameIndex := 288, descriptorIndex := 56, attributes := #[] }, { accessFlags := 18, nameIndex := 11, descriptorIndex := 12, attributes := #[] }, { accessFlags := 18, nameIndex := 20, descriptorIndex := 21, attributes := #[] }, { accessFlags := 2, nameIndex := 55, descriptorIndex := 56, attributes := #[] }, { accessFlags := 2, nameIndex := 64, descriptorIndex := 56, attributes := #[] }, { accessFlags := 2, nameIndex := 67, descriptorIndex := 56, attributes := #[] }, { accessFlags := 2, nameIndex := 96, descriptorIndex := 12, attributes := #[] }, { accessFlags := 2, nameIndex := 30, descriptorIndex := 12, attributes := #[] }])
  fields := #[{ name := "MAX_HEADERS", type := .int, accessFlags := 26, slot := 0, constantValue := 0 }, { name := "OBJECTS", type := .int, accessFlags := 26, slot := 1, constantValue := 0 }, { name := "CR", type := .byte, accessFlags := 26, slot := 2, constantValue := 0 }, { name := "LF", type := .byte, accessFlags := 26, slot := 3, constantValue := 0 }, { name := "SP", type := .byte, accessFlags := 26, slot := 4, constantValue := 0 }, { name := "HTAB", type := .byte, accessFlags := 26, slot := 5, constantValue := 0 }, { name := "TOKEN_SYMBOLS", type := (.object "java/lang/String"), accessFlags := 26, slot := 6, constantValue := 0 }, { name := "maxBytes", type := .int, accessFlags := 18, slot := 0, constantValue := 0 }, { name := "headers", type := (.object "com/example/claimgate/claimgate/gate/http/HeaderLines"), accessFlags := 18, slot := 1, constantValue := 0 }, { name := "method", type := (.object "java/lang/String"), accessFlags := 2, slot := 2, constantValue := 0 }, { name := "target", type := (.object "java/lang/String"), accessFlags := 2, slot := 3, constantValue := 0 }, { name := "version", type := (.object "java/lang/String"), accessFlags := 2, slot := 4, constantValue := 0 }, { name := "headerBytes", type := .int, accessFlags := 2, slot := 5, constantValue := 0 }, { name := "scanned", type := .int, accessFlags := 2, slot := 6, constantValue := 0 }]
  methods := #[k2m0, k2m1, k2m2]
  instanceTypes := #[.int, (.object "com/example/claimgate/claimgate/gate/http/HeaderLines"), (.object "java/lang/String"), (.object "java/lang/String"), (.object "java/lang/String"), .int, .int]
  staticTypes := #[.int, .int, .byte, .byte, .byte, .byte, (.object "java/lang/String")]
  resolved := Array.replicate 320 none
  statics := none }

def pool3 : Array CpInfo := pool [(1, .methodref 2 3), (0, .class_ 4), (0, .nameAndType 5 6), (0, u "java/lang/Object"), (0, u "<init>"), (0, u "()V"), (0, .fieldref 8 9), (0, .class_ 10), (0, .nameAndType 11 12), (0, u "com/example/claimgate/claimgate/gate/http/HeaderLines"), (0, u "NO_BYTES"), (0, u "[B"), (0, .fieldref 8 14), (0, .nameAndType 15 12), (0, u "bytes"), (0, .fieldref 8 17), (0, .nameAndType 18 19), (0, u "NO_ENDS"), (0, u "[I"), (0, .fieldref 8 21), (0, .nameAndType 22 19), (0, u "ends"), (0, .fieldref 8 24), (0, .nameAndType 25 26), (0, u "maxBytes"), (0, u "I"), (0, .fieldref 8 28), (0, .nameAndType 29 26), (0, u "maxLines"), (2, u "count"), (61, .long 4), (37, u "(II)V"), (11, u "held"), (0, u "()J")] 3

def k3c0 : Code := { maxStack := 2, maxLocals := 3, code := prog_16_method_1_code, exceptionTable := #[], attributes := #[] }
def k3m0 : Method := { name := "<init>", desc := "(II)V", sig := { parameters := [.int, .int], returnType := none }, accessFlags := 0, code := some k3c0 }
def k3c1 : Code := { maxStack := 6, maxLocals := 1, code := prog_16_method_7_code, exceptionTable := #[], attributes := #[] }
def k3m1 : Method := { name := "held", desc := "()J", sig := { parameters := [], returnType := some .long }, accessFlags := 0, code := some k3c1 }
/-- com/example/claimgate/claimgate/gate/http/HeaderLines -/
def k3 : Class := { plain "com/example/claimgate/claimgate/gate/http/HeaderLines" (some 0) with
  accessFlags := 48
  interfaces := #[]
  cf := some (fileOf pool3 8 #[] #[{ accessFlags := 0, nameIndex := 5, descriptorIndex := 132, attributes := #[] }, { accessFlags := 0, nameIndex := 144, descriptorIndex := 145, attributes := #[] }] 48 2 #[] #[{ accessFlags := 26, nameIndex := 11, descriptorIndex := 12, attributes := #[] }, { accessFlags := 26, nameIndex := 18, descriptorIndex := 19, attributes := #[] }, { accessFlags := 18, nameIndex := 25, descriptorIndex := 26, attributes := #[] }, { accessFlags := 18, nameIndex := 29, descriptorIndex := 26, attributes := #[] }, { accessFlags := 2, nameIndex := 15, descriptorIndex := 12, attributes := #[] }, { accessFlags := 2, nameIndex := 22, descriptorIndex := 19, attributes := #[] }, { accessFlags := 2, nameIndex := 32, descriptorIndex := 26, attributes := #[] }])
  fields := #[{ name := "NO_BYTES", type := (.array .byte), accessFlags := 26, slot := 0, constantValue := 0 }, { name := "NO_ENDS", type := (.array .int), accessFlags := 26, slot := 1, constantValue := 0 }, { name := "maxBytes", type := .int, accessFlags := 18, slot := 0, constantValue := 0 }, { name := "maxLines", type := .int, accessFlags := 18, slot := 1, constantValue := 0 }, { name := "bytes", type := (.array .byte), accessFlags := 2, slot := 2, constantValue := 0 }, { name := "ends", type := (.array .int), accessFlags := 2, slot := 3, constantValue := 0 }, { name := "count", type := .int, accessFlags := 2, slot := 4, constantValue := 0 }]
  methods := #[k3m0, k3m1]
  instanceTypes := #[.int, .int, (.array .byte), (.array .int), .int]
  staticTypes := #[(.array .byte), (.array .int)]
  resolved := Array.replicate 149 none
  statics := some 0 }

def pool4 : Array CpInfo := pool [(1, u "java/lang/Cloneable"), (0, .class_ 1), (0, u "java/lang/Object"), (0, .class_ 3)] 3

/-- java/lang/Cloneable -/
def k4 : Class := { plain "java/lang/Cloneable" (some 0) with
  accessFlags := 1537
  interfaces := #[]
  cf := some (fileOf pool4 2 #[] #[] 1537 4 #[] #[])
  fields := #[]
  methods := #[]
  instanceTypes := #[]
  staticTypes := #[]
  resolved := Array.replicate 8 none
  statics := none }

def pool5 : Array CpInfo := pool [(1, u "java/io/Serializable"), (0, .class_ 1), (0, u "java/lang/Object"), (0, .class_ 3)] 3

/-- java/io/Serializable -/
def k5 : Class := { plain "java/io/Serializable" (some 0) with
  accessFlags := 1537
  interfaces := #[]
  cf := some (fileOf pool5 2 #[] #[] 1537 4 #[] #[])
  fields := #[]
  methods := #[]
  instanceTypes := #[]
  staticTypes := #[]
  resolved := Array.replicate 8 none
  statics := none }

/-- the primitive byte -/
def k6 : Class := { plain "byte" none with kind := .primitive 'B', accessFlags := 0x411 }
/-- [B -/
def k7 : Class := { plain "[B" (some 0) with kind := .array 6 .byte, interfaces := #[4, 5], accessFlags := 1041 }

/-- the primitive int -/
def k8 : Class := { plain "int" none with kind := .primitive 'I', accessFlags := 0x411 }
/-- [I -/
def k9 : Class := { plain "[I" (some 0) with kind := .array 8 .int, interfaces := #[4, 5], accessFlags := 1041 }

def heap : Heap := #[{ cls := 3, slots := #[.ref 1, .ref 2], vm := .statics 3 },
  { cls := 7, slots := #[], vm := .none },
  { cls := 9, slots := #[], vm := .none }]
def classes : Array Class := #[k0, k1, k2, k3, k4, k5, k6, k7, k8, k9]
def interned : List (Array UInt16 × Addr) := []
def slotsUsed : Nat := 2
def theMethod : MethodId := ⟨1, 1⟩
def args0 : Array Value := #[.int 5, .int 7]
def aboutOver (below : List Frame) : State where
  vm := { classes := classes, interned := interned.toArray }
  heap := heap
  slotsUsed := slotsUsed
  threads := #[{ frames := .invoking theMethod args0 :: below }]
def below0 : List Frame := [.native { method := ⟨0, 0⟩, args := #[] }]
def about1 : State := aboutOver below0
def p0 : Program := .bare "" "" ""
def e0 : Env := launch0.env 0 0 0
theorem w_frames : about1.frames = Frame.invoking theMethod args0 :: below0 := rfl
set_option maxRecDepth 65536 in
theorem w_args : argsFit about1.vm theMethod args0 = true := by decide +kernel
set_option maxRecDepth 65536 in
theorem w_heap : heapFits about1 = true := by decide +kernel
set_option maxRecDepth 65536 in
theorem w_runnable : about1.curStatus? = some .runnable := by decide +kernel
set_option maxRecDepth 65536 in
theorem w_alone : about1.alone = true := by decide +kernel
set_option maxRecDepth 65536 in
theorem w_named : about1.methodNamed? x = some theMethod := by decide +kernel
set_option maxRecDepth 65536 in
theorem w_hears : about1.hears theMethod below0 = true := by decide +kernel
set_option maxRecDepth 65536 in
theorem w_ripe : about1.ripe theMethod args0 below0 = true := by decide +kernel
theorem w_running : about1.status = .running := rfl
set_option maxRecDepth 65536 in
theorem w_room : about1.hasRoom e0.platform room_1 = true :=
  launch0.hasRoom_least _ room_1 (by decide +kernel) (by decide +kernel) (by decide +kernel) (by decide +kernel) (by decide +kernel) (by decide +kernel)
theorem allAtoms_all (ts : List Jvm.Cond) (a : Array Jvm.Value) (st : Jvm.State) : (allAtoms ts).before a st = ts.all (fun c => c.before a st) := by
  induction ts with
  | nil => rfl
  | cons c t ih =>
    show (Jvm.Cond.and c (allAtoms t)).before a st = _
    rw [Jvm.Cond.before_and, ih, List.all_cons]
def words1 : List Jvm.Cond := Jvm.Cond.code x code maxLocals ret :: tables_1
/-- a 'code' word, met by the world's own term for the bytes: nothing is compared byte by byte -/
theorem code_word {y : MethodName} {bytes : ByteArray} {mx : Nat} {rt : Option FieldType} {a : Array Value} {s : State} {m : MethodId} {meth : Method} {c : Code} (h1 : s.methodNamed? y = some m) (h2 : s.vm.method? m = some meth) (h3 : meth.code = some c) (h4 : c.code = bytes)
    (h5 : (c.maxLocals == mx && c.exceptionTable.isEmpty && decide (c.maxStack ≤ mostOperands) && decide (meth.sig.returnType = rt) && !meth.locks && decide (parseMethodDescriptor y.desc = some meth.sig)) = true) : (Jvm.Cond.code y bytes mx rt).before a s = true := by
  simp only [Bool.and_eq_true, beq_iff_eq, Bool.not_eq_true', decide_eq_true_eq] at h5
  obtain ⟨⟨⟨⟨⟨g1, g2⟩, g3⟩, g4⟩, g5⟩, g6⟩ := h5
  simp [Cond.before, Cond.holds, Cond.value, h1, h2, h3, h4, g1, g2, g3, g4, g5, g6]
def isCode : Jvm.Cond → Bool
  | .code _ _ _ _ => true
  | _ => false
theorem all_split {L : List Jvm.Cond} {P : Jvm.Cond → Bool} (h1 : L.all (fun c => isCode c || P c) = true) (h2 : ∀ c ∈ L.filter isCode, P c = true) : L.all P = true := by
  refine List.all_eq_true.mpr fun c hc => ?_
  have h := List.all_eq_true.mp h1 c hc
  rcases Bool.eq_false_or_eq_true (isCode c) with hi | hi
  · exact h2 c (List.mem_filter.mpr ⟨hc, hi⟩)
  · simpa [hi] using h
set_option maxRecDepth 65536 in
theorem w_c0 : (Jvm.Cond.code x code maxLocals ret).before args0 about1 = true := code_word (m := ⟨1, 1⟩) (meth := k1m1) (c := k1c1) (by decide +kernel) rfl rfl rfl (by decide +kernel)
set_option maxRecDepth 65536 in
theorem w_c1 : (Jvm.Cond.code ({ cls := "com/example/claimgate/claimgate/gate/http/HeadReader", name := "<init>", desc := "(I)V" } : Jvm.MethodName) prog_14_method_1_code (2 : Nat) (Option.none : Option Jvm.ClassFile.FieldType)).before args0 about1 = true := code_word (m := ⟨2, 0⟩) (meth := k2m0) (c := k2c0) (by decide +kernel) rfl rfl rfl (by decide +kernel)
set_option maxRecDepth 65536 in
theorem w_c2 : (Jvm.Cond.code ({ cls := "java/lang/Object", name := "<init>", desc := "()V" } : Jvm.MethodName) object_method_1_code (1 : Nat) (Option.none : Option Jvm.ClassFile.FieldType)).before args0 about1 = true := code_word (m := ⟨0, 0⟩) (meth := k0m0) (c := k0c0) (by decide +kernel) rfl rfl rfl (by decide +kernel)
set_option maxRecDepth 65536 in
theorem w_c3 : (Jvm.Cond.code ({ cls := "com/example/claimgate/claimgate/gate/http/HeaderLines", name := "<init>", desc := "(II)V" } : Jvm.MethodName) prog_16_method_1_code (3 : Nat) (Option.none : Option Jvm.ClassFile.FieldType)).before args0 about1 = true := code_word (m := ⟨3, 0⟩) (meth := k3m0) (c := k3c0) (by decide +kernel) rfl rfl rfl (by decide +kernel)
set_option maxRecDepth 65536 in
theorem w_c4 : (Jvm.Cond.code ({ cls := "com/example/claimgate/claimgate/gate/http/HeadReader", name := "held", desc := "()J" } : Jvm.MethodName) prog_14_method_4_code (3 : Nat) (Option.some Jvm.ClassFile.FieldType.long)).before args0 about1 = true := code_word (m := ⟨2, 1⟩) (meth := k2m1) (c := k2c1) (by decide +kernel) rfl rfl rfl (by decide +kernel)
set_option maxRecDepth 65536 in
theorem w_c5 : (Jvm.Cond.code ({ cls := "com/example/claimgate/claimgate/gate/http/HeaderLines", name := "held", desc := "()J" } : Jvm.MethodName) prog_16_method_7_code (1 : Nat) (Option.some Jvm.ClassFile.FieldType.long)).before args0 about1 = true := code_word (m := ⟨3, 1⟩) (meth := k3m1) (c := k3c1) (by decide +kernel) rfl rfl rfl (by decide +kernel)
set_option maxRecDepth 65536 in
theorem w_c6 : (Jvm.Cond.code ({ cls := "com/example/claimgate/claimgate/gate/http/HeadReader", name := "path", desc := "()Ljava/lang/String;" } : Jvm.MethodName) prog_14_method_5_code (1 : Nat) (Option.some (Jvm.ClassFile.FieldType.object "java/lang/String"))).before args0 about1 = true := code_word (m := ⟨2, 2⟩) (meth := k2m2) (c := k2c2) (by decide +kernel) rfl rfl rfl (by decide +kernel)
def codes1 : List Jvm.Cond := [Jvm.Cond.code x code maxLocals ret, Jvm.Cond.code ({ cls := "com/example/claimgate/claimgate/gate/http/HeadReader", name := "<init>", desc := "(I)V" } : Jvm.MethodName) prog_14_method_1_code (2 : Nat) (Option.none : Option Jvm.ClassFile.FieldType), Jvm.Cond.code ({ cls := "java/lang/Object", name := "<init>", desc := "()V" } : Jvm.MethodName) object_method_1_code (1 : Nat) (Option.none : Option Jvm.ClassFile.FieldType), Jvm.Cond.code ({ cls := "com/example/claimgate/claimgate/gate/http/HeaderLines", name := "<init>", desc := "(II)V" } : Jvm.MethodName) prog_16_method_1_code (3 : Nat) (Option.none : Option Jvm.ClassFile.FieldType), Jvm.Cond.code ({ cls := "com/example/claimgate/claimgate/gate/http/HeadReader", name := "held", desc := "()J" } : Jvm.MethodName) prog_14_method_4_code (3 : Nat) (Option.some Jvm.ClassFile.FieldType.long), Jvm.Cond.code ({ cls := "com/example/claimgate/claimgate/gate/http/HeaderLines", name := "held", desc := "()J" } : Jvm.MethodName) prog_16_method_7_code (1 : Nat) (Option.some Jvm.ClassFile.FieldType.long), Jvm.Cond.code ({ cls := "com/example/claimgate/claimgate/gate/http/HeadReader", name := "path", desc := "()Ljava/lang/String;" } : Jvm.MethodName) prog_14_method_5_code (1 : Nat) (Option.some (Jvm.ClassFile.FieldType.object "java/lang/String"))]
set_option maxRecDepth 65536 in
theorem codes_eq : words1.filter isCode = codes1 := rfl
theorem w_codes : ∀ c ∈ words1.filter isCode, c.before args0 about1 = true := by
  rw [codes_eq]
  intro c hc
  simp only [codes1, List.mem_cons, List.not_mem_nil, or_false] at hc
  rcases hc with rfl | rfl | rfl | rfl | rfl | rfl | rfl
  · exact w_c0
  · exact w_c1
  · exact w_c2
  · exact w_c3
  · exact w_c4
  · exact w_c5
  · exact w_c6
set_option maxRecDepth 65536 in
theorem w_t1 : (words1.take 24).all (fun c => isCode c || c.before args0 about1) = true := by decide +kernel
set_option maxRecDepth 65536 in
theorem w_t2 : ((words1.drop 24).take 24).all (fun c => isCode c || c.before args0 about1) = true := by decide +kernel
set_option maxRecDepth 65536 in
theorem w_t3 : ((words1.drop 24).drop 24).all (fun c => isCode c || c.before args0 about1) = true := by decide +kernel
theorem w_tables : (allAtoms (Jvm.Cond.code x code maxLocals ret :: tables_1)).before args0 about1 = true := by
  rw [allAtoms_all]
  show words1.all (fun c => c.before args0 about1) = true
  refine all_split ?_ w_codes
  rw [← List.take_append_drop 24 words1, List.all_append, w_t1, ← List.take_append_drop 24 (words1.drop 24), List.all_append, w_t2, w_t3]
  rfl
set_option maxRecDepth 65536 in
theorem w_case : (Jvm.Cond.and given_1 narrow_1).before args0 about1 = true := by decide +kernel
theorem w_applies : (headSpec (Jvm.Cond.code x code maxLocals ret :: tables_1) room_1).applies x e0.platform about1 = true :=
  (Spec.applies_iff w_frames).mpr ⟨w_running, w_runnable, w_alone, w_named, w_hears, w_ripe, w_room, w_tables⟩
theorem atStart : AtStart classFile x code maxLocals ret World_1 tables_1 room_1 Calls_1 rest_1 Pre_1 launch0 p0 e0 about1 theMethod args0 below0 :=
  ⟨lists_1, trivial, launch0.admits_env _ _ _, launch0.least_env, fairChoices_fair.cas, fairChoices_fair.clock, w_frames, w_args, w_heap, w_applies, trivial, trivial, w_case⟩
end start1
theorem witness_1 : WitnessClaimed_1 := ⟨start1.p0, start1.e0, start1.about1, start1.theMethod, start1.args0, start1.below0, start1.atStart⟩
end Jvm.Pilot.@@N@@
