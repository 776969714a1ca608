import JvmDerived
import JvmDerived.Pilot.@@N@@Statement
import JvmDerived.Pilot.@@N@@Code
set_option linter.unusedVariables false
set_option linter.unusedSimpArgs false
namespace Jvm.Pilot.@@N@@
open Jvm Jvm.ClassFile Sem Op Lib Jvm.Free Jvm.Stand Jvm.LawKit Jvm.RoadKit Bundle Jvm.Pilot.@@N@@.Jvm.D
section Own
variable {p : Program} {l : Launch} {e : Env} {R : Room} {s : State} {m : MethodId} {args : Array Value} {below : List Frame} {meth : Method} {c : Code} {T : State} {locs : List Loc} {cells slots : Nat} {Z : State} {a0 : Array Value} {h : Heap} {Q : Option Value → Heap → List Loc → Prop} {kc kn : Nat}
/-- from S the method comes to its end, and what it leaves answers to Q -/
def own_Ends (p : Program) (e : Env) (below : List Frame) (s : State) (Q : Option Value → Heap → List Loc → Prop) (kc kn : Nat) (S : State) : Prop :=
  ∃ s₂ o, Steps p.tables e below S s₂ ∧ s₂.status = .running ∧ Ended s₂ below o ∧ ∃ v L, o = .returned v ∧ Q v s₂.heap L ∧ FrameEnd s o s₂ L kc kn
theorem own_pre {S S' : State} (st : ∀ t, Steps p.tables e below S' t → Steps p.tables e below S t) (k : own_Ends p e below s Q kc kn S') : own_Ends p e below s Q kc kn S := by
  obtain ⟨s₂, o, h1, r⟩ := k
  exact ⟨s₂, o, st _ h1, r⟩
theorem own_ret (X : Stand p l e R s m args below meth c T locs cells slots) (hx : p.tables.exec = Jvm.exec) (hlk : meth.locks = false) {pc : Nat} {Ls : Array Slot} {w : Value} {t : FieldType} {i : Instr} {rest : List Value} (hret : meth.sig.returnType = some t) (hn : narrow t w = w)
    (hi : (i = .ireturn ∧ (t = .int ∨ t = .boolean ∨ t = .byte ∨ t = .char ∨ t = .short) ∧ ∃ z, w = .int z) ∨ (i = .lreturn ∧ t = .long ∧ ∃ z, w = .long z) ∨ (i = .dreturn ∧ t = .double ∧ ∃ z, w = .double z) ∨ (i = .freturn ∧ t = .float ∧ ∃ z, w = .float z) ∨ (i = .areturn ∧ t.isReference = true ∧ w.isRef = true))
    (hd : decode c.code pc = .ok (i, 1)) (h1 : cells ≤ kc) (h2 : slots ≤ kn) (hQ : Q (some w) T.heap locs) : own_Ends p e below s Q kc kn (T.setTop (mkF m pc Ls (w :: rest))) := by
  obtain ⟨fs, hr, hrun, hended, hW, hsame⟩ := X.leave (v := some w) (fun h => by rw [hret] at h; cases h) hlk
  exact ⟨_, _, retOut X hx hret hn hi hd hr, hrun, hended, _, _, rfl, hQ, ⟨_, rfl⟩, hW, hsame.mono h1 h2⟩
theorem own_retV (X : Stand p l e R s m args below meth c T locs cells slots) (hx : p.tables.exec = Jvm.exec) (hlk : meth.locks = false) {pc : Nat} {Ls : Array Slot} (hret : meth.sig.returnType = none)
    (hd : decode c.code pc = .ok (.return_, 1)) (h1 : cells ≤ kc) (h2 : slots ≤ kn) (hQ : Q none T.heap locs) : own_Ends p e below s Q kc kn (T.setTop (mkF m pc Ls [])) := by
  obtain ⟨fs, hr, hrun, hended, hW, hsame⟩ := X.leave (v := none) (fun _ => rfl) hlk
  exact ⟨_, _, X.returnOut hx hret hd hr, hrun, hended, _, _, rfl, hQ, ⟨_, rfl⟩, hW, hsame.mono h1 h2⟩
/-- a contract: called with these arguments over this heap it returns, and Q says what it left -/
abbrev own_Met (l : Launch) (Z : State) (y : MethodName) (bytes : ByteArray) (maxL : Nat) (ret : Option FieldType) (ws : List Jvm.Cond) (rm : Room) (as' : Array Value) (h0 : Heap) (Q : Option Value → Heap → List Loc → Prop) : Prop :=
  MetFree l y (head1 (Jvm.Cond.code y bytes maxL ret :: ws) rm) (fun a U => a = as' ∧ Z.Warmed39 U.vm ∧ U.heap = h0) (fun _ _ _ _ _ => True) (fun _ U o U' => ∃ v L, o = .returned v ∧ Q v U'.heap L ∧ FrameEnd U o U' L rm.cells rm.slots)
theorem own_body {y : MethodName} {bytes : ByteArray} {maxL : Nat} {ret : Option FieldType} {ws : List Jvm.Cond} {rm : Room} {as' : Array Value} {h0 : Heap} (pn : plainFor y = true) (F : MethodId → JFrame) (hF : ∀ m, entryFrame m as' maxL = F m)
    (body : ∀ (p : Program) (e : Env) (s : State) (m : MethodId) (below : List Frame) (meth : Method) (c : Code) (T : State), p.tables.exec = Jvm.exec → c.code = bytes → c.maxLocals = maxL → meth.locks = false → meth.sig.returnType = ret → Z.Warmed39 s.vm → s.vm.findClass y.cls = some m.cls → meth.name = y.name →
      Stand p l e rm s m as' below meth c T [] 0 0 → T.heap = h0 → own_Ends p e below s Q rm.cells rm.slots (T.setTop (F m))) : own_Met l Z y bytes maxL ret ws rm as' h0 Q := by
  refine MetFree.of_bodySF pn hisR ?_
  intro p e s m args below meth c s₁ Bd hml0 hP hK
  obtain ⟨rfl, hZ, hh⟩ := hP
  have := body p e s m below meth c s₁ Bd.exec Bd.bytes hml0 (BodyLoose.notSynchronized Bd) Bd.returns hZ (findClass_of_methodNamed Bd.named) (name_of_methodNamed Bd.named Bd.method).1 (Stand.of_body Bd) (by rw [← hh, Bd.state]; rfl)
  rw [← hF m] at this
  exact this
theorem own_callS (X : Stand p l e R s m args below meth c T locs cells slots) (hx : p.tables.exec = Jvm.exec) (hZ : Z.Warmed39 s.vm) {own : String} {index : Nat} {y : MethodName} {bytes : ByteArray} {maxL : Nat} {ret : Option FieldType} {rm : Room} {Qc : Option Value → Heap → List Loc → Prop}
    (hown : s.vm.findClass own = some m.cls) (w1 : (Cond.methodLink own index y).before a0 Z = true) (w2 : (Cond.static y).before a0 Z = true) (w3 : (Cond.initialized y.cls).before a0 Z = true) (w4 : (Cond.code y bytes maxL ret).before a0 Z = true)
    (hy : y.cls ≠ "java/lang/invoke/MethodHandle" ∧ y.cls ≠ "java/lang/invoke/VarHandle") (eT : T.heap = h) {argsL rest st0 : List Value} (hM : own_Met l Z y bytes maxL ret [] rm argsL.toArray h Qc) {W pc : Nat} {Ls : Array Slot}
    (hsz : Ls.size = c.maxLocals) (hlen : ∀ sig, parseMethodDescriptor y.desc = some sig → argsL.length = sig.parameters.length) (hst : st0 = argsL.reverse ++ rest) (hW : (rest.map fun v => v.category).sum ≤ W) (hd : decode c.code pc = .ok (.invokestatic index, 3))
    (hf : rm.frames + 1 ≤ R.frames) (hl : W + (maxL + 11) + rm.locals ≤ R.locals) (hc : cells + rm.cells ≤ R.cells) (hs : slots + rm.slots ≤ R.slots)
    (k : ∀ v T' L, Stand p l e R s m args below meth c T' (locs ++ L) (cells + rm.cells) (slots + rm.slots) → Qc v T'.heap L → own_Ends p e below s Q kc kn (T'.setTop (mkF m (pc + 3) Ls (v.toList ++ rest)))) :
    own_Ends p e below s Q kc kn (T.setTop (mkF m pc Ls st0)) := by
  obtain ⟨v, _, ⟨T', L', k', n'⟩, -, X', ⟨Lc, hQ, l1, y1, z1⟩, st⟩ := Jvm.LawKit.callS X hx (y := y) hown (mvT hZ w1) (mvT hZ w2) (mvT hZ w3) (mvT hZ w4) hy (backOf (W := W) hM hZ w4 w3 hf hl) (g := mkF m pc Ls st0) rfl hsz (argsL := argsL) (rest := rest) hlen hst (by show 2 * 0 + _ ≤ _; simpa using hW) hd (fun _ _ => ⟨rfl, eT, hc, hs⟩)
  dsimp only [Pt.U, Pt.locs, Pt.cells, Pt.slots] at X' l1 y1 z1 st hQ
  subst l1 y1 z1
  exact own_pre st (k v T' Lc X' hQ)
theorem own_callI (X : Stand p l e R s m args below meth c T locs cells slots) (hx : p.tables.exec = Jvm.exec) (hZ : Z.Warmed39 s.vm) {own : String} {index : Nat} {y : MethodName} {bytes : ByteArray} {maxL : Nat} {rm : Room} {Qc : Option Value → Heap → List Loc → Prop} {b : Addr}
    (hown : s.vm.findClass own = some m.cls) (hy1 : y.name = "<init>") (w1 : (Cond.methodLink own index y).before a0 Z = true) (w2 : (Cond.instanceMethod y).before a0 Z = true) (w4 : (Cond.code y bytes maxL none).before a0 Z = true) (w3 : (Cond.initialized y.cls).before a0 Z = true)
    (hy : y.cls ≠ "java/lang/invoke/MethodHandle" ∧ y.cls ≠ "java/lang/invoke/VarHandle") (eT : T.heap = h) {argsL rest st0 : List Value} (hM : own_Met l Z y bytes maxL none [] rm (.ref b :: argsL).toArray h Qc) {W pc : Nat} {Ls : Array Slot}
    (hsz : Ls.size = c.maxLocals) (hlen : ∀ sig, parseMethodDescriptor y.desc = some sig → argsL.length = sig.parameters.length) (hst : st0 = argsL.reverse ++ .ref b :: rest) (hW : (rest.map fun v => v.category).sum ≤ W) (hd : decode c.code pc = .ok (.invokespecial index, 3))
    (hf : rm.frames + 1 ≤ R.frames) (hl : W + (maxL + 11) + rm.locals ≤ R.locals) (hc : cells + rm.cells ≤ R.cells) (hs : slots + rm.slots ≤ R.slots)
    (k : ∀ v T' L, Stand p l e R s m args below meth c T' (locs ++ L) (cells + rm.cells) (slots + rm.slots) → Qc v T'.heap L → own_Ends p e below s Q kc kn (T'.setTop (mkF m (pc + 3) Ls (v.toList ++ rest)))) :
    own_Ends p e below s Q kc kn (T.setTop (mkF m pc Ls st0)) := by
  obtain ⟨v, _, ⟨T', L', k', n'⟩, -, X', ⟨Lc, hQ, l1, y1, z1⟩, st⟩ := X.specialBack hx (y := y) hy1 hown (mvT hZ w1) (mvT hZ w2) (mvT hZ w4) hy (backOf (W := W) hM hZ w4 w3 hf hl) (g := mkF m pc Ls st0) rfl hsz (Steps.refl _) (a := b) (argsL := argsL) (rest := rest) hlen hst (by show 2 * 0 + _ ≤ _; simpa using hW) hd (fun _ _ => ⟨rfl, eT, hc, hs⟩)
  dsimp only [Pt.U, Pt.locs, Pt.cells, Pt.slots] at X' l1 y1 z1 st hQ
  subst l1 y1 z1
  exact own_pre (fun t k => st.trans k) (k v T' Lc X' hQ)
theorem own_callV (X : Stand p l e R s m args below meth c T locs cells slots) (hx : p.tables.exec = Jvm.exec) (hZ : Z.Warmed39 s.vm) {own C : String} {index : Nat} {y : MethodName} {bytes : ByteArray} {maxL : Nat} {ret : Option FieldType} {rm : Room} {Qc : Option Value → Heap → List Loc → Prop} {b : Addr}
    (hown : s.vm.findClass own = some m.cls) (w1 : (Cond.methodLink own index y).before a0 Z = true) (w2 : (Cond.declares y).before a0 Z = true) (w3 : (Cond.selects C y y).before a0 Z = true) (w4 : (Cond.instanceMethod y).before a0 Z = true) (w5 : (Cond.code y bytes maxL ret).before a0 Z = true) (w6 : (Cond.initialized y.cls).before a0 Z = true)
    (hy : y.cls ≠ "java/lang/invoke/MethodHandle" ∧ y.cls ≠ "java/lang/invoke/VarHandle") (eT : T.heap = h) (E : Exa Z h b C) {argsL rest st0 : List Value} (hM : own_Met l Z y bytes maxL ret [] rm (.ref b :: argsL).toArray h Qc) {W pc : Nat} {Ls : Array Slot}
    (hsz : Ls.size = c.maxLocals) (hlen : ∀ sig, parseMethodDescriptor y.desc = some sig → argsL.length = sig.parameters.length) (hst : st0 = argsL.reverse ++ .ref b :: rest) (hW : (rest.map fun v => v.category).sum ≤ W) (hd : decode c.code pc = .ok (.invokevirtual index, 3))
    (hf : rm.frames + 1 ≤ R.frames) (hl : W + (maxL + 11) + rm.locals ≤ R.locals) (hc : cells + rm.cells ≤ R.cells) (hs : slots + rm.slots ≤ R.slots)
    (k : ∀ v T' L, Stand p l e R s m args below meth c T' (locs ++ L) (cells + rm.cells) (slots + rm.slots) → Qc v T'.heap L → own_Ends p e below s Q kc kn (T'.setTop (mkF m (pc + 3) Ls (v.toList ++ rest)))) :
    own_Ends p e below s Q kc kn (T.setTop (mkF m pc Ls st0)) := by
  obtain ⟨cq, kq, qa, qb, qc⟩ := isOf hZ eT E
  obtain ⟨v, _, ⟨T', L', k', n'⟩, -, X', ⟨Lc, hQ, l1, y1, z1⟩, st⟩ := X.virtualBack hx (y := y) (z := y) hown (mvT hZ w1) (mvT hZ w2) (notFace_of_selects (args := #[]) (mvT hZ w3)) (mvT hZ w3) (mvT hZ w4) hy (backOf (W := W) hM hZ w5 w6 hf hl) qa qc (g := mkF m pc Ls st0) rfl hsz (Steps.refl _) (argsL := argsL) (rest := rest) hlen hst (by show 2 * 0 + _ ≤ _; simpa using hW) hd (fun _ _ => ⟨rfl, eT, hc, hs⟩)
  dsimp only [Pt.U, Pt.locs, Pt.cells, Pt.slots] at X' l1 y1 z1 st hQ
  subst l1 y1 z1
  exact own_pre (fun t k => st.trans k) (k v T' Lc X' hQ)
theorem own_eqi {t : Term} {k : Int32} {args : Array Value} {s : State} (h : (Jvm.Cond.eq t (Term.int k)).value args s none s [] = some true) : t.eval args s none [] s = some (.int k) := by
  obtain ⟨x, y, h1, h2, -, h3⟩ := cmp_v (Or.inl h)
  have h4 : y = .int k := (Option.some.inj ((Term.int_eval k).symm.trans h2)).symm
  subst h4
  obtain ⟨z, rfl⟩ := h3
  have h5 : (Jvm.Cond.eq t (Term.int k)).value args s none s [] = some (decide (z = k)) := by simp [Cond.value, h1, h2]
  rw [h1, gotT h5 h]
theorem own_fieldOf {t : Term} {C n d : String} {k : Int32} {a : Addr} {args : Array Value} {s : State} (ht : t.eval args s none [] s = some (.ref a)) (h : (Jvm.Cond.eq (Term.field t C n d) (Term.int k)).value args s none s [] = some true) : Fld s s.heap a C n d (.int k) :=
  Fld.start ((fld_at ht).symm.trans (own_eqi h))
theorem own_st1 {Ls Ls' : Array Slot} {k : Nat} {o : Slot} {v : Value} (hold : Ls[k]? = some o) (ho : One o) (hv : v.category = 1) (he : Ls.setIfInBounds k (.val v) = Ls') : storeLocals Ls k v = some Ls' := he ▸ XS.store1 hold ho hv
theorem own_catV {v : Value} (hv : v.isRef = true) : v.category = 1 := by rcases ref_cases hv with rfl | ⟨_, rfl⟩ <;> rfl
theorem own_narV {v : Value} {t : FieldType} (hv : v.isRef = true) (ht : t.isReference = true) : narrow t v = v := by
  rcases ref_cases hv with rfl | ⟨_, rfl⟩ <;> cases t <;> first | rfl | (cases ht; done)
theorem own_narC {x : Int32} (h : 0 ≤ x.toInt ∧ x.toInt ≤ 65535) : nar .char x = x := by
  have q := c_i2c x
  rw [← Int32.toInt_inj]
  show (x.toUInt32.toUInt16.toUInt32.toInt32).toInt = x.toInt
  omega
theorem own_narZ {x : Int32} (h : x = 0 ∨ x = 1) : narrow .boolean (.int x) = .int x := by rcases h with rfl | rfl <;> rfl
def own_plain (h : Heap) (x : Addr) : Prop := ∃ c : Cell, h[x]? = some c ∧ c.vm.isStatics = false
theorem own_plainE {a : Addr} {C : String} (F : Exa Z h a C) : own_plain h a := by obtain ⟨c, k, h1, -, -, h4, -⟩ := F; exact ⟨c, h1, h4⟩
theorem own_sta_keep {h' : Heap} {ws : List Addr} {C n d : String} {v : Value} (F : Sta Z h C n d v) (K : Keep h h' ws) (q : ∀ x ∈ ws, own_plain h x) : Sta Z h' C n d v := by
  obtain ⟨cf, i, k, f, st, cell, h1, h2, h3, h4, h5, h6, h7⟩ := F
  refine ⟨cf, i, k, f, st, cell, h1, h2, h3, h4, K.2.1 _ _ h5 fun y => ?_, h6, h7⟩
  obtain ⟨c, z1, z2⟩ := q _ y
  cases h5.symm.trans z1
  rw [z2] at h6; cases h6
end Own
theorem own_s0 (x y z : Int32) : ((x + 1) - x) = (1 : Int32) := by
  have h0 := c_iadd (x) (1)
  have h1 := c_isub ((x + 1)) (x)
  have rx := rng32 (((x + 1) - x))
  rw [← Int32.toInt_inj]
  simp only [Int32.reduceToInt] at *
  omega
theorem own_s1 (x y z : Int32) : ((y + 1) - y) = (1 : Int32) := by
  have h0 := c_iadd (y) (1)
  have h1 := c_isub ((y + 1)) (y)
  have rx := rng32 (((y + 1) - y))
  rw [← Int32.toInt_inj]
  simp only [Int32.reduceToInt] at *
  omega
theorem own_s2 (x y z : Int32) : (z - z) = (0 : Int32) := by
  have h0 := c_isub (z) (z)
  have rx := rng32 ((z - z))
  rw [← Int32.toInt_inj]
  simp only [Int32.reduceToInt] at *
  omega
theorem own_s3 (x y z : Int32) : ((((x + 1) - (y + 1)) - z) - ((x - y) - z)) = (0 : Int32) := by
  have h0 := c_iadd (x) (1)
  have h1 := c_iadd (y) (1)
  have h2 := c_isub (x) (y)
  have h3 := c_isub ((x - y)) (z)
  have h4 := c_isub ((x + 1)) ((y + 1))
  have h5 := c_isub (((x + 1) - (y + 1))) (z)
  have h6 := c_isub ((((x + 1) - (y + 1)) - z)) (((x - y) - z))
  have rx := rng32 (((((x + 1) - (y + 1)) - z) - ((x - y) - z)))
  rw [← Int32.toInt_inj]
  simp only [Int32.reduceToInt] at *
  omega
theorem own_s4 (x y z : Int32) : (y - y) = (0 : Int32) := by
  have h0 := c_isub (y) (y)
  have rx := rng32 ((y - y))
  rw [← Int32.toInt_inj]
  simp only [Int32.reduceToInt] at *
  omega
theorem own_s5 (x y z : Int32) : ((z + 1) - z) = (1 : Int32) := by
  have h0 := c_iadd (z) (1)
  have h1 := c_isub ((z + 1)) (z)
  have rx := rng32 (((z + 1) - z))
  rw [← Int32.toInt_inj]
  simp only [Int32.reduceToInt] at *
  omega
theorem own_s6 (x y z : Int32) : ((((x + 1) - y) - (z + 1)) - ((x - y) - z)) = (0 : Int32) := by
  have h0 := c_isub (x) (y)
  have h1 := c_iadd (x) (1)
  have h2 := c_iadd (z) (1)
  have h3 := c_isub ((x + 1)) (y)
  have h4 := c_isub ((x - y)) (z)
  have h5 := c_isub (((x + 1) - y)) ((z + 1))
  have h6 := c_isub ((((x + 1) - y) - (z + 1))) (((x - y) - z))
  have rx := rng32 (((((x + 1) - y) - (z + 1)) - ((x - y) - z)))
  rw [← Int32.toInt_inj]
  simp only [Int32.reduceToInt] at *
  omega
theorem own_s7 (x y z : Int32) : ((((x + 1) - y) - z) - ((x - y) - z)) = (1 : Int32) := by
  have h0 := c_iadd (x) (1)
  have h1 := c_isub (x) (y)
  have h2 := c_isub ((x + 1)) (y)
  have h3 := c_isub ((x - y)) (z)
  have h4 := c_isub (((x + 1) - y)) (z)
  have h5 := c_isub ((((x + 1) - y) - z)) (((x - y) - z))
  have rx := rng32 (((((x + 1) - y) - z) - ((x - y) - z)))
  rw [← Int32.toInt_inj]
  simp only [Int32.reduceToInt] at *
  omega
theorem own_two {x k : Int32} (h : (x &&& (2147483647 : Int32)) % (3 : Int32) = k) (h0 : ¬ k = (0 : Int32)) (h1 : ¬ k = (1 : Int32)) : k = (2 : Int32) := by
  have q := c_mask x 2147483647 31 (by decide) (by decide)
  have r := (c_irem (x &&& (2147483647 : Int32)) 3 3 (by decide)).1 (by rw [q]; omega)
  rw [h] at r
  rw [← Int32.toInt_inj] at h0 h1 ⊢
  simp only [Int32.reduceToInt] at *
  omega
theorem own_d1_0 : decode prog_60_method_1_code 0 = .ok (.aload_n 0, 1) := by decide +kernel
theorem own_d1_1 : decode prog_60_method_1_code 1 = .ok (.invokespecial 1, 3) := by decide +kernel
theorem own_d1_4 : decode prog_60_method_1_code 4 = .ok (.aload_n 0, 1) := by decide +kernel
theorem own_d1_5 : decode prog_60_method_1_code 5 = .ok (.iload_n 1, 1) := by decide +kernel
theorem own_d1_6 : decode prog_60_method_1_code 6 = .ok (.putfield 7, 3) := by decide +kernel
theorem own_d1_9 : decode prog_60_method_1_code 9 = .ok (.aload_n 0, 1) := by decide +kernel
theorem own_d1_10 : decode prog_60_method_1_code 10 = .ok (.iload_n 2, 1) := by decide +kernel
theorem own_d1_11 : decode prog_60_method_1_code 11 = .ok (.putfield 13, 3) := by decide +kernel
theorem own_d1_14 : decode prog_60_method_1_code 14 = .ok (.aload_n 0, 1) := by decide +kernel
theorem own_d1_15 : decode prog_60_method_1_code 15 = .ok (.iload_n 3, 1) := by decide +kernel
theorem own_d1_16 : decode prog_60_method_1_code 16 = .ok (.putfield 16, 3) := by decide +kernel
theorem own_d1_19 : decode prog_60_method_1_code 19 = .ok (.return_, 1) := by decide +kernel
theorem own_d2_0 : decode jdk_30_method_1_code 0 = .ok (.aload_n 0, 1) := by decide +kernel
theorem own_d2_1 : decode jdk_30_method_1_code 1 = .ok (.invokespecial 1, 3) := by decide +kernel
theorem own_d2_4 : decode jdk_30_method_1_code 4 = .ok (.return_, 1) := by decide +kernel
theorem own_d4_0 : decode prog_60_method_2_code 0 = .ok (.new 8, 3) := by decide +kernel
theorem own_d4_3 : decode prog_60_method_2_code 3 = .ok (.dup, 1) := by decide +kernel
theorem own_d4_4 : decode prog_60_method_2_code 4 = .ok (.aload_n 0, 1) := by decide +kernel
theorem own_d4_5 : decode prog_60_method_2_code 5 = .ok (.getfield 7, 3) := by decide +kernel
theorem own_d4_8 : decode prog_60_method_2_code 8 = .ok (.iconst 1, 1) := by decide +kernel
theorem own_d4_9 : decode prog_60_method_2_code 9 = .ok (.iadd, 1) := by decide +kernel
theorem own_d4_10 : decode prog_60_method_2_code 10 = .ok (.aload_n 1, 1) := by decide +kernel
theorem own_d4_11 : decode prog_60_method_2_code 11 = .ok (.getstatic 19, 3) := by decide +kernel
theorem own_d4_14 : decode prog_60_method_2_code 14 = .ok (.if_acmp .ne 12, 3) := by decide +kernel
theorem own_d4_17 : decode prog_60_method_2_code 17 = .ok (.aload_n 0, 1) := by decide +kernel
theorem own_d4_18 : decode prog_60_method_2_code 18 = .ok (.getfield 13, 3) := by decide +kernel
theorem own_d4_21 : decode prog_60_method_2_code 21 = .ok (.iconst 1, 1) := by decide +kernel
theorem own_d4_22 : decode prog_60_method_2_code 22 = .ok (.iadd, 1) := by decide +kernel
theorem own_d4_23 : decode prog_60_method_2_code 23 = .ok (.goto 7, 3) := by decide +kernel
theorem own_d4_26 : decode prog_60_method_2_code 26 = .ok (.aload_n 0, 1) := by decide +kernel
theorem own_d4_27 : decode prog_60_method_2_code 27 = .ok (.getfield 13, 3) := by decide +kernel
theorem own_d4_30 : decode prog_60_method_2_code 30 = .ok (.aload_n 1, 1) := by decide +kernel
theorem own_d4_31 : decode prog_60_method_2_code 31 = .ok (.getstatic 25, 3) := by decide +kernel
theorem own_d4_34 : decode prog_60_method_2_code 34 = .ok (.if_acmp .ne 12, 3) := by decide +kernel
theorem own_d4_37 : decode prog_60_method_2_code 37 = .ok (.aload_n 0, 1) := by decide +kernel
theorem own_d4_38 : decode prog_60_method_2_code 38 = .ok (.getfield 16, 3) := by decide +kernel
theorem own_d4_41 : decode prog_60_method_2_code 41 = .ok (.iconst 1, 1) := by decide +kernel
theorem own_d4_42 : decode prog_60_method_2_code 42 = .ok (.iadd, 1) := by decide +kernel
theorem own_d4_43 : decode prog_60_method_2_code 43 = .ok (.goto 7, 3) := by decide +kernel
theorem own_d4_46 : decode prog_60_method_2_code 46 = .ok (.aload_n 0, 1) := by decide +kernel
theorem own_d4_47 : decode prog_60_method_2_code 47 = .ok (.getfield 16, 3) := by decide +kernel
theorem own_d4_50 : decode prog_60_method_2_code 50 = .ok (.invokespecial 28, 3) := by decide +kernel
theorem own_d4_53 : decode prog_60_method_2_code 53 = .ok (.areturn, 1) := by decide +kernel
theorem own_d5_0 : decode prog_60_method_8_code 0 = .ok (.aload_n 0, 1) := by decide +kernel
theorem own_d5_1 : decode prog_60_method_8_code 1 = .ok (.getfield 7, 3) := by decide +kernel
theorem own_d5_4 : decode prog_60_method_8_code 4 = .ok (.ireturn, 1) := by decide +kernel
theorem own_d6_0 : decode prog_60_method_9_code 0 = .ok (.aload_n 0, 1) := by decide +kernel
theorem own_d6_1 : decode prog_60_method_9_code 1 = .ok (.getfield 13, 3) := by decide +kernel
theorem own_d6_4 : decode prog_60_method_9_code 4 = .ok (.ireturn, 1) := by decide +kernel
theorem own_d7_0 : decode prog_60_method_10_code 0 = .ok (.aload_n 0, 1) := by decide +kernel
theorem own_d7_1 : decode prog_60_method_10_code 1 = .ok (.getfield 16, 3) := by decide +kernel
theorem own_d7_4 : decode prog_60_method_10_code 4 = .ok (.ireturn, 1) := by decide +kernel
theorem own_d8_0 : decode prog_60_method_4_code 0 = .ok (.aload_n 0, 1) := by decide +kernel
theorem own_d8_1 : decode prog_60_method_4_code 1 = .ok (.getfield 7, 3) := by decide +kernel
theorem own_d8_4 : decode prog_60_method_4_code 4 = .ok (.aload_n 0, 1) := by decide +kernel
theorem own_d8_5 : decode prog_60_method_4_code 5 = .ok (.getfield 13, 3) := by decide +kernel
theorem own_d8_8 : decode prog_60_method_4_code 8 = .ok (.isub, 1) := by decide +kernel
theorem own_d8_9 : decode prog_60_method_4_code 9 = .ok (.aload_n 0, 1) := by decide +kernel
theorem own_d8_10 : decode prog_60_method_4_code 10 = .ok (.getfield 16, 3) := by decide +kernel
theorem own_d8_13 : decode prog_60_method_4_code 13 = .ok (.isub, 1) := by decide +kernel
theorem own_d8_14 : decode prog_60_method_4_code 14 = .ok (.ireturn, 1) := by decide +kernel
theorem own_pn0 : plainFor (⟨"java/lang/Record", "<init>", "()V"⟩ : MethodName) = true := by first | exact plainFor_of_name (by first | (simp [plainName, overriddenIn]; done) | decide +kernel) | decide +kernel
theorem own_pn1 : plainFor (⟨"com/example/assay_runner/assayrunner/report/ReportPage$Counts", "<init>", "(III)V"⟩ : MethodName) = true := by first | exact plainFor_of_name (by first | (simp [plainName, overriddenIn]; done) | decide +kernel) | decide +kernel
theorem own_pn2 : plainFor (⟨"com/example/assay_runner/assayrunner/report/ReportPage$Counts", "skipped", "()I"⟩ : MethodName) = true := by first | exact plainFor_of_name (by first | (simp [plainName, overriddenIn]; done) | decide +kernel) | decide +kernel
theorem own_pn3 : plainFor (⟨"com/example/assay_runner/assayrunner/report/ReportPage$Counts", "failed", "()I"⟩ : MethodName) = true := by first | exact plainFor_of_name (by first | (simp [plainName, overriddenIn]; done) | decide +kernel) | decide +kernel
theorem own_pn4 : plainFor (⟨"com/example/assay_runner/assayrunner/report/ReportPage$Counts", "tests", "()I"⟩ : MethodName) = true := by first | exact plainFor_of_name (by first | (simp [plainName, overriddenIn]; done) | decide +kernel) | decide +kernel
theorem own_pn5 : plainFor (⟨"com/example/assay_runner/assayrunner/report/ReportPage$Counts", "passed", "()I"⟩ : MethodName) = true := by first | exact plainFor_of_name (by first | (simp [plainName, overriddenIn]; done) | decide +kernel) | decide +kernel
theorem own_pn6 : plainFor (⟨"com/example/assay_runner/assayrunner/report/ReportPage$Counts", "with", "(Lcom/example/assay_runner/assayrunner/report/ReportPage$Status;)Lcom/example/assay_runner/assayrunner/report/ReportPage$Counts;"⟩ : MethodName) = true := by first | exact plainFor_of_name (by first | (simp [plainName, overriddenIn]; done) | decide +kernel) | decide +kernel
theorem own_pn7 : plainFor (⟨"com/example/assay_runner/assayrunner/report/CountsWithPinLaw", "law", "(IIII)Z"⟩ : MethodName) = true := by first | exact plainFor_of_name (by first | (simp [plainName, overriddenIn]; done) | decide +kernel) | decide +kernel
theorem own_pd0 : parseMethodDescriptor "()V" = some ⟨[], none⟩ := by decide +kernel
theorem own_pd1 : parseMethodDescriptor "(III)V" = some ⟨[.int, .int, .int], none⟩ := by decide +kernel
theorem own_pd2 : parseMethodDescriptor "(Lcom/example/assay_runner/assayrunner/report/ReportPage$Status;)Lcom/example/assay_runner/assayrunner/report/ReportPage$Counts;" = some ⟨[(.object "com/example/assay_runner/assayrunner/report/ReportPage$Status")], some (.object "com/example/assay_runner/assayrunner/report/ReportPage$Counts")⟩ := by decide +kernel
theorem own_pd3 : parseMethodDescriptor "()I" = some ⟨[], some .int⟩ := by decide +kernel
theorem own_ef_own_rec (m : MethodId) (x0 : Addr) : entryFrame m #[(.ref x0)] 1 = mkF m 0 #[.val (.ref x0)] [] := by first | (simp [entryFrame, mkF, argsToLocals, Value.category]; done) | rfl
theorem own_ef_own_ci (m : MethodId) (x0 : Addr) (x1 : Int32) (x2 : Int32) (x3 : Int32) : entryFrame m #[(.ref x0), (.int x1), (.int x2), (.int x3)] 4 = mkF m 0 #[.val (.ref x0), .val (.int x1), .val (.int x2), .val (.int x3)] [] := by first | (simp [entryFrame, mkF, argsToLocals, Value.category]; done) | rfl
theorem own_ef_own_skipped (m : MethodId) (x0 : Addr) : entryFrame m #[(.ref x0)] 1 = mkF m 0 #[.val (.ref x0)] [] := by first | (simp [entryFrame, mkF, argsToLocals, Value.category]; done) | rfl
theorem own_ef_own_failed (m : MethodId) (x0 : Addr) : entryFrame m #[(.ref x0)] 1 = mkF m 0 #[.val (.ref x0)] [] := by first | (simp [entryFrame, mkF, argsToLocals, Value.category]; done) | rfl
theorem own_ef_own_tests (m : MethodId) (x0 : Addr) : entryFrame m #[(.ref x0)] 1 = mkF m 0 #[.val (.ref x0)] [] := by first | (simp [entryFrame, mkF, argsToLocals, Value.category]; done) | rfl
theorem own_ef_own_passed (m : MethodId) (x0 : Addr) : entryFrame m #[(.ref x0)] 1 = mkF m 0 #[.val (.ref x0)] [] := by first | (simp [entryFrame, mkF, argsToLocals, Value.category]; done) | rfl
theorem own_ef_own_with (m : MethodId) (x0 : Addr) (x1 : Addr) : entryFrame m #[(.ref x0), (.ref x1)] 2 = mkF m 0 #[.val (.ref x0), .val (.ref x1)] [] := by first | (simp [entryFrame, mkF, argsToLocals, Value.category]; done) | rfl
theorem own_ef_own_law (m : MethodId) (x0 : Int32) (x1 : Int32) (x2 : Int32) (x3 : Int32) : entryFrame m #[(.int x0), (.int x1), (.int x2), (.int x3)] maxLocals = mkF m 0 #[.val (.int x0), .val (.int x1), .val (.int x2), .val (.int x3), .unset, .unset, .unset, .unset, .unset, .unset, .unset, .unset, .unset, .unset, .unset] [] := by first | (simp [entryFrame, mkF, argsToLocals, Value.category, maxLocals]; done) | rfl
set_option maxRecDepth 65536 in
set_option maxHeartbeats 40000000 in
theorem own_rec (l : Launch) (Z : State) (a0 : Array Value) (hw : ∀ d ∈ tables_1, d.before a0 Z = true) (ws : List Jvm.Cond) (a : Addr) (h0 : Heap) (n0 : Nat) (Z0 : n0 ≤ h0.size)  :
    own_Met l Z (⟨"java/lang/Record", "<init>", "()V"⟩ : MethodName) jdk_30_method_1_code 1 none ws ({ frames := 1, cells := 0, slots := 0, locals := 12 } : Room) #[(.ref a)] h0 (fun v h L => v = none ∧ Fr n0 L ∧ h = h0) := by
  refine own_body own_pn0 (fun m => mkF m 0 #[.val (.ref a)] []) (fun m => own_ef_own_rec m a) ?_
  intro p e s m below meth c T0 hx hby hml hlk hrt hZ hown hnm X0 e0
  have hown : s.vm.findClass "java/lang/Record" = some m.cls := hown
  have N0 := Fr.nil n0
  refine own_pre (S' := (T0.setTop (mkF m 1 #[.val (.ref a)] [(.ref a)]))) (fun t k => XS.aloadN X0.here hx rfl (hb hby own_d2_0) rfl rfl k) ?_
  obtain ⟨T1, X1, e1, st1⟩ := initO X0 hx hZ hown (hw _ (List.mem_of_getElem? (i := 15) rfl)) (hw _ (List.mem_of_getElem? (i := 16) rfl)) (hw _ (List.mem_of_getElem? (i := 17) rfl)) e0 (g := (mkF m 1 #[.val (.ref a)] [(.ref a)])) rfl (by rw [hml]; rfl) rfl (hb hby own_d2_1) (by decide) (W := 0) (by show 2 * 0 + _ ≤ _; exact Nat.le_of_eq rfl) (by decide)
  refine own_pre (S' := (T1.setTop (mkF m 4 #[.val (.ref a)] []))) st1 ?_
  refine own_retV X1 hx hlk hrt (hb hby own_d2_4) (by decide) (by decide) ?_
  exact ⟨rfl, N0, e1⟩
set_option maxRecDepth 65536 in
set_option maxHeartbeats 40000000 in
theorem own_ci (l : Launch) (Z : State) (a0 : Array Value) (hw : ∀ d ∈ tables_1, d.before a0 Z = true) (ws : List Jvm.Cond) (a : Addr) (t p1 f1 : Int32) (h0 : Heap) (n0 : Nat) (Z0 : n0 ≤ h0.size) (F_tests : Fld Z h0 a "com/example/assay_runner/assayrunner/report/ReportPage$Counts" "tests" "I" (.int (0 : Int32))) (F_passed : Fld Z h0 a "com/example/assay_runner/assayrunner/report/ReportPage$Counts" "passed" "I" (.int (0 : Int32))) (F_failed : Fld Z h0 a "com/example/assay_runner/assayrunner/report/ReportPage$Counts" "failed" "I" (.int (0 : Int32))) (E_a : Exa Z h0 a "com/example/assay_runner/assayrunner/report/ReportPage$Counts") (g_a : n0 ≤ a) :
    own_Met l Z (⟨"com/example/assay_runner/assayrunner/report/ReportPage$Counts", "<init>", "(III)V"⟩ : MethodName) prog_60_method_1_code 4 none ws ({ frames := 2, cells := 0, slots := 0, locals := 24 } : Room) #[(.ref a), (.int t), (.int p1), (.int f1)] h0 (fun v h L => v = none ∧ Fr n0 L ∧ Keep h0 h [a] ∧ Fld Z h a "com/example/assay_runner/assayrunner/report/ReportPage$Counts" "tests" "I" (.int t) ∧ Fld Z h a "com/example/assay_runner/assayrunner/report/ReportPage$Counts" "passed" "I" (.int p1) ∧ Fld Z h a "com/example/assay_runner/assayrunner/report/ReportPage$Counts" "failed" "I" (.int f1)) := by
  refine own_body own_pn1 (fun m => mkF m 0 #[.val (.ref a), .val (.int t), .val (.int p1), .val (.int f1)] []) (fun m => own_ef_own_ci m a t p1 f1) ?_
  intro p e s m below meth c T0 hx hby hml hlk hrt hZ hown hnm X0 e0
  have hown : s.vm.findClass "com/example/assay_runner/assayrunner/report/ReportPage$Counts" = some m.cls := hown
  have N0 := Fr.nil n0
  refine own_pre (S' := (T0.setTop (mkF m 1 #[.val (.ref a), .val (.int t), .val (.int p1), .val (.int f1)] [(.ref a)]))) (fun t k => XS.aloadN X0.here hx rfl (hb hby own_d1_0) rfl rfl k) ?_
  refine own_callI (y := (⟨"java/lang/Record", "<init>", "()V"⟩ : MethodName)) (b := a) X0 hx hZ hown rfl (hw _ (List.mem_of_getElem? (i := 10) rfl)) (hw _ (List.mem_of_getElem? (i := 11) rfl)) (hw _ (List.mem_of_getElem? (i := 14) rfl)) (hw _ (List.mem_of_getElem? (i := 13) rfl)) (by decide) e0 (hM := own_rec l Z a0 hw [] a h0 n0 Z0) (W := 0) (pc := 1) (Ls := #[.val (.ref a), .val (.int t), .val (.int p1), .val (.int f1)]) (argsL := []) (rest := []) (st0 := [(.ref a)]) (by rw [hml]; rfl) (lenOf own_pd0 rfl) rfl (Nat.le_of_eq rfl) (hb hby own_d1_1) (by decide) (by decide) (by decide) (by decide) ?_
  intro v1 T1 L1 X1 hQ1
  obtain ⟨rfl, Nq1, hh1⟩ := hQ1
  have N1 := Fr.app N0 Nq1
  show own_Ends p e below s _ _ _ (T1.setTop (mkF m 4 #[.val (.ref a), .val (.int t), .val (.int p1), .val (.int f1)] []))
  refine own_pre (S' := (T1.setTop (mkF m 5 #[.val (.ref a), .val (.int t), .val (.int p1), .val (.int f1)] [(.ref a)]))) (fun t k => XS.aloadN X1.here hx rfl (hb hby own_d1_4) rfl rfl k) ?_
  refine own_pre (S' := (T1.setTop (mkF m 6 #[.val (.ref a), .val (.int t), .val (.int p1), .val (.int f1)] [(.int t), (.ref a)]))) (fun t k => XS.iloadN X1.here hx rfl (hb hby own_d1_5) rfl k) ?_
  obtain ⟨T2, h2, X2, e2, W2, st2⟩ := putF X1 hx hZ hown (host := "") (Or.inl (hw _ (List.mem_of_getElem? (i := 18) rfl))) Via.refl hh1 F_tests E_a (Or.inr ⟨(hw _ (List.mem_of_getElem? (i := 19) rfl)), rfl, hnm⟩) (hw _ (List.mem_of_getElem? (i := 5) rfl)) (ty := .int) (by decide) rfl rfl (g := (mkF m 6 #[.val (.ref a), .val (.int t), .val (.int p1), .val (.int f1)] [(.int t), (.ref a)])) rfl rfl (hb hby own_d1_6)
  have N2 := Fr.snoc X2 N1 g_a
  have Fw2 := F_tests.same W2
  refine own_pre (S' := (T2.setTop (mkF m 9 #[.val (.ref a), .val (.int t), .val (.int p1), .val (.int f1)] []))) st2 ?_
  refine own_pre (S' := (T2.setTop (mkF m 10 #[.val (.ref a), .val (.int t), .val (.int p1), .val (.int f1)] [(.ref a)]))) (fun t k => XS.aloadN X2.here hx rfl (hb hby own_d1_9) rfl rfl k) ?_
  refine own_pre (S' := (T2.setTop (mkF m 11 #[.val (.ref a), .val (.int t), .val (.int p1), .val (.int f1)] [(.int p1), (.ref a)]))) (fun t k => XS.iloadN X2.here hx rfl (hb hby own_d1_10) rfl k) ?_
  obtain ⟨T3, h3, X3, e3, W3, st3⟩ := putF X2 hx hZ hown (host := "") (Or.inl (hw _ (List.mem_of_getElem? (i := 20) rfl))) Via.refl e2 (F_passed.other W2 (Or.inr (slot_ne (C := "com/example/assay_runner/assayrunner/report/ReportPage$Counts") (Or.inr (hw _ (List.mem_of_getElem? (i := 21) rfl))) (Or.inr (hw _ (List.mem_of_getElem? (i := 19) rfl))) (by decide) (t := .int) (t' := .int) (by decide) (by decide)))) (E_a.wr W2) (Or.inr ⟨(hw _ (List.mem_of_getElem? (i := 21) rfl)), rfl, hnm⟩) (hw _ (List.mem_of_getElem? (i := 5) rfl)) (ty := .int) (by decide) rfl rfl (g := (mkF m 11 #[.val (.ref a), .val (.int t), .val (.int p1), .val (.int f1)] [(.int p1), (.ref a)])) rfl rfl (hb hby own_d1_11)
  have N3 := Fr.snoc X3 N2 g_a
  have Fw3 := (F_passed.other W2 (Or.inr (slot_ne (C := "com/example/assay_runner/assayrunner/report/ReportPage$Counts") (Or.inr (hw _ (List.mem_of_getElem? (i := 21) rfl))) (Or.inr (hw _ (List.mem_of_getElem? (i := 19) rfl))) (by decide) (t := .int) (t' := .int) (by decide) (by decide)))).same W3
  refine own_pre (S' := (T3.setTop (mkF m 14 #[.val (.ref a), .val (.int t), .val (.int p1), .val (.int f1)] []))) st3 ?_
  refine own_pre (S' := (T3.setTop (mkF m 15 #[.val (.ref a), .val (.int t), .val (.int p1), .val (.int f1)] [(.ref a)]))) (fun t k => XS.aloadN X3.here hx rfl (hb hby own_d1_14) rfl rfl k) ?_
  refine own_pre (S' := (T3.setTop (mkF m 16 #[.val (.ref a), .val (.int t), .val (.int p1), .val (.int f1)] [(.int f1), (.ref a)]))) (fun t k => XS.iloadN X3.here hx rfl (hb hby own_d1_15) rfl k) ?_
  obtain ⟨T4, h4, X4, e4, W4, st4⟩ := putF X3 hx hZ hown (host := "") (Or.inl (hw _ (List.mem_of_getElem? (i := 22) rfl))) Via.refl e3 ((F_failed.other W2 (Or.inr (slot_ne (C := "com/example/assay_runner/assayrunner/report/ReportPage$Counts") (Or.inr (hw _ (List.mem_of_getElem? (i := 23) rfl))) (Or.inr (hw _ (List.mem_of_getElem? (i := 19) rfl))) (by decide) (t := .int) (t' := .int) (by decide) (by decide)))).other W3 (Or.inr (slot_ne (C := "com/example/assay_runner/assayrunner/report/ReportPage$Counts") (Or.inr (hw _ (List.mem_of_getElem? (i := 23) rfl))) (Or.inr (hw _ (List.mem_of_getElem? (i := 21) rfl))) (by decide) (t := .int) (t' := .int) (by decide) (by decide)))) ((E_a.wr W2).wr W3) (Or.inr ⟨(hw _ (List.mem_of_getElem? (i := 23) rfl)), rfl, hnm⟩) (hw _ (List.mem_of_getElem? (i := 5) rfl)) (ty := .int) (by decide) rfl rfl (g := (mkF m 16 #[.val (.ref a), .val (.int t), .val (.int p1), .val (.int f1)] [(.int f1), (.ref a)])) rfl rfl (hb hby own_d1_16)
  have N4 := Fr.snoc X4 N3 g_a
  have Fw4 := ((F_failed.other W2 (Or.inr (slot_ne (C := "com/example/assay_runner/assayrunner/report/ReportPage$Counts") (Or.inr (hw _ (List.mem_of_getElem? (i := 23) rfl))) (Or.inr (hw _ (List.mem_of_getElem? (i := 19) rfl))) (by decide) (t := .int) (t' := .int) (by decide) (by decide)))).other W3 (Or.inr (slot_ne (C := "com/example/assay_runner/assayrunner/report/ReportPage$Counts") (Or.inr (hw _ (List.mem_of_getElem? (i := 23) rfl))) (Or.inr (hw _ (List.mem_of_getElem? (i := 21) rfl))) (by decide) (t := .int) (t' := .int) (by decide) (by decide)))).same W4
  refine own_pre (S' := (T4.setTop (mkF m 19 #[.val (.ref a), .val (.int t), .val (.int p1), .val (.int f1)] []))) st4 ?_
  refine own_retV X4 hx hlk hrt (hb hby own_d1_19) (by decide) (by decide) ?_
  show _ ∧ Fr n0 _ ∧ Keep h0 T4.heap [a] ∧ _
  rw [e4]
  exact ⟨rfl, N4, ((((Keep.refl _ _).wr W2 (Or.inl (List.mem_of_getElem? (i := 0) rfl))).wr W3 (Or.inl (List.mem_of_getElem? (i := 0) rfl))).wr W4 (Or.inl (List.mem_of_getElem? (i := 0) rfl))), ((Fw2.other W3 (Or.inr (slot_ne (C := "com/example/assay_runner/assayrunner/report/ReportPage$Counts") (Or.inr (hw _ (List.mem_of_getElem? (i := 19) rfl))) (Or.inr (hw _ (List.mem_of_getElem? (i := 21) rfl))) (by decide) (t := .int) (t' := .int) (by decide) (by decide)))).other W4 (Or.inr (slot_ne (C := "com/example/assay_runner/assayrunner/report/ReportPage$Counts") (Or.inr (hw _ (List.mem_of_getElem? (i := 19) rfl))) (Or.inr (hw _ (List.mem_of_getElem? (i := 23) rfl))) (by decide) (t := .int) (t' := .int) (by decide) (by decide)))), (Fw3.other W4 (Or.inr (slot_ne (C := "com/example/assay_runner/assayrunner/report/ReportPage$Counts") (Or.inr (hw _ (List.mem_of_getElem? (i := 21) rfl))) (Or.inr (hw _ (List.mem_of_getElem? (i := 23) rfl))) (by decide) (t := .int) (t' := .int) (by decide) (by decide)))), Fw4⟩
set_option maxRecDepth 65536 in
set_option maxHeartbeats 40000000 in
theorem own_skipped (l : Launch) (Z : State) (a0 : Array Value) (hw : ∀ d ∈ tables_1, d.before a0 Z = true) (ws : List Jvm.Cond) (a : Addr) (x_tests x_passed x_failed : Int32) (h0 : Heap) (n0 : Nat) (Z0 : n0 ≤ h0.size) (F_tests : Fld Z h0 a "com/example/assay_runner/assayrunner/report/ReportPage$Counts" "tests" "I" (.int x_tests)) (F_passed : Fld Z h0 a "com/example/assay_runner/assayrunner/report/ReportPage$Counts" "passed" "I" (.int x_passed)) (F_failed : Fld Z h0 a "com/example/assay_runner/assayrunner/report/ReportPage$Counts" "failed" "I" (.int x_failed)) :
    own_Met l Z (⟨"com/example/assay_runner/assayrunner/report/ReportPage$Counts", "skipped", "()I"⟩ : MethodName) prog_60_method_4_code 1 (some .int) ws ({ frames := 0, cells := 0, slots := 0, locals := 0 } : Room) #[(.ref a)] h0 (fun v h L => v = some (.int ((x_tests - x_passed) - x_failed)) ∧ Fr n0 L ∧ h = h0) := by
  refine own_body own_pn2 (fun m => mkF m 0 #[.val (.ref a)] []) (fun m => own_ef_own_skipped m a) ?_
  intro p e s m below meth c T0 hx hby hml hlk hrt hZ hown hnm X0 e0
  have hown : s.vm.findClass "com/example/assay_runner/assayrunner/report/ReportPage$Counts" = some m.cls := hown
  have N0 := Fr.nil n0
  refine own_pre (S' := (T0.setTop (mkF m 1 #[.val (.ref a)] [(.ref a)]))) (fun t k => XS.aloadN X0.here hx rfl (hb hby own_d8_0) rfl rfl k) ?_
  obtain ⟨T1, X1, e1, st1⟩ := getF X0 hx hZ hown (host := "") (Or.inl (hw _ (List.mem_of_getElem? (i := 18) rfl))) Via.refl e0 F_tests (g := (mkF m 1 #[.val (.ref a)] [(.ref a)])) rfl rfl (hb hby own_d8_1)
  refine own_pre (S' := (T1.setTop (mkF m 4 #[.val (.ref a)] [(.int x_tests)]))) st1 ?_
  refine own_pre (S' := (T1.setTop (mkF m 5 #[.val (.ref a)] [(.ref a), (.int x_tests)]))) (fun t k => XS.aloadN X1.here hx rfl (hb hby own_d8_4) rfl rfl k) ?_
  obtain ⟨T2, X2, e2, st2⟩ := getF X1 hx hZ hown (host := "") (Or.inl (hw _ (List.mem_of_getElem? (i := 20) rfl))) Via.refl e1 F_passed (g := (mkF m 5 #[.val (.ref a)] [(.ref a), (.int x_tests)])) rfl rfl (hb hby own_d8_5)
  refine own_pre (S' := (T2.setTop (mkF m 8 #[.val (.ref a)] [(.int x_passed), (.int x_tests)]))) st2 ?_
  refine own_pre (S' := (T2.setTop (mkF m 9 #[.val (.ref a)] [(.int (x_tests - x_passed))]))) (fun t k => XS.isub X2.here hx rfl (hb hby own_d8_8) rfl k) ?_
  refine own_pre (S' := (T2.setTop (mkF m 10 #[.val (.ref a)] [(.ref a), (.int (x_tests - x_passed))]))) (fun t k => XS.aloadN X2.here hx rfl (hb hby own_d8_9) rfl rfl k) ?_
  obtain ⟨T3, X3, e3, st3⟩ := getF X2 hx hZ hown (host := "") (Or.inl (hw _ (List.mem_of_getElem? (i := 22) rfl))) Via.refl e2 F_failed (g := (mkF m 10 #[.val (.ref a)] [(.ref a), (.int (x_tests - x_passed))])) rfl rfl (hb hby own_d8_10)
  refine own_pre (S' := (T3.setTop (mkF m 13 #[.val (.ref a)] [(.int x_failed), (.int (x_tests - x_passed))]))) st3 ?_
  refine own_pre (S' := (T3.setTop (mkF m 14 #[.val (.ref a)] [(.int ((x_tests - x_passed) - x_failed))]))) (fun t k => XS.isub X3.here hx rfl (hb hby own_d8_13) rfl k) ?_
  refine own_ret (t := .int) X3 hx hlk hrt rfl (Or.inl ⟨rfl, by simp, _, rfl⟩) (hb hby own_d8_14) (by decide) (by decide) ?_
  exact ⟨rfl, N0, e3⟩
set_option maxRecDepth 65536 in
set_option maxHeartbeats 40000000 in
theorem own_failed (l : Launch) (Z : State) (a0 : Array Value) (hw : ∀ d ∈ tables_1, d.before a0 Z = true) (ws : List Jvm.Cond) (a : Addr) (x_failed : Int32) (h0 : Heap) (n0 : Nat) (Z0 : n0 ≤ h0.size) (F_failed : Fld Z h0 a "com/example/assay_runner/assayrunner/report/ReportPage$Counts" "failed" "I" (.int x_failed)) :
    own_Met l Z (⟨"com/example/assay_runner/assayrunner/report/ReportPage$Counts", "failed", "()I"⟩ : MethodName) prog_60_method_10_code 1 (some .int) ws ({ frames := 0, cells := 0, slots := 0, locals := 0 } : Room) #[(.ref a)] h0 (fun v h L => v = some (.int x_failed) ∧ Fr n0 L ∧ h = h0) := by
  refine own_body own_pn3 (fun m => mkF m 0 #[.val (.ref a)] []) (fun m => own_ef_own_failed m a) ?_
  intro p e s m below meth c T0 hx hby hml hlk hrt hZ hown hnm X0 e0
  have hown : s.vm.findClass "com/example/assay_runner/assayrunner/report/ReportPage$Counts" = some m.cls := hown
  have N0 := Fr.nil n0
  refine own_pre (S' := (T0.setTop (mkF m 1 #[.val (.ref a)] [(.ref a)]))) (fun t k => XS.aloadN X0.here hx rfl (hb hby own_d7_0) rfl rfl k) ?_
  obtain ⟨T1, X1, e1, st1⟩ := getF X0 hx hZ hown (host := "") (Or.inl (hw _ (List.mem_of_getElem? (i := 22) rfl))) Via.refl e0 F_failed (g := (mkF m 1 #[.val (.ref a)] [(.ref a)])) rfl rfl (hb hby own_d7_1)
  refine own_pre (S' := (T1.setTop (mkF m 4 #[.val (.ref a)] [(.int x_failed)]))) st1 ?_
  refine own_ret (t := .int) X1 hx hlk hrt rfl (Or.inl ⟨rfl, by simp, _, rfl⟩) (hb hby own_d7_4) (by decide) (by decide) ?_
  exact ⟨rfl, N0, e1⟩
set_option maxRecDepth 65536 in
set_option maxHeartbeats 40000000 in
theorem own_tests (l : Launch) (Z : State) (a0 : Array Value) (hw : ∀ d ∈ tables_1, d.before a0 Z = true) (ws : List Jvm.Cond) (a : Addr) (x_tests : Int32) (h0 : Heap) (n0 : Nat) (Z0 : n0 ≤ h0.size) (F_tests : Fld Z h0 a "com/example/assay_runner/assayrunner/report/ReportPage$Counts" "tests" "I" (.int x_tests)) :
    own_Met l Z (⟨"com/example/assay_runner/assayrunner/report/ReportPage$Counts", "tests", "()I"⟩ : MethodName) prog_60_method_8_code 1 (some .int) ws ({ frames := 0, cells := 0, slots := 0, locals := 0 } : Room) #[(.ref a)] h0 (fun v h L => v = some (.int x_tests) ∧ Fr n0 L ∧ h = h0) := by
  refine own_body own_pn4 (fun m => mkF m 0 #[.val (.ref a)] []) (fun m => own_ef_own_tests m a) ?_
  intro p e s m below meth c T0 hx hby hml hlk hrt hZ hown hnm X0 e0
  have hown : s.vm.findClass "com/example/assay_runner/assayrunner/report/ReportPage$Counts" = some m.cls := hown
  have N0 := Fr.nil n0
  refine own_pre (S' := (T0.setTop (mkF m 1 #[.val (.ref a)] [(.ref a)]))) (fun t k => XS.aloadN X0.here hx rfl (hb hby own_d5_0) rfl rfl k) ?_
  obtain ⟨T1, X1, e1, st1⟩ := getF X0 hx hZ hown (host := "") (Or.inl (hw _ (List.mem_of_getElem? (i := 18) rfl))) Via.refl e0 F_tests (g := (mkF m 1 #[.val (.ref a)] [(.ref a)])) rfl rfl (hb hby own_d5_1)
  refine own_pre (S' := (T1.setTop (mkF m 4 #[.val (.ref a)] [(.int x_tests)]))) st1 ?_
  refine own_ret (t := .int) X1 hx hlk hrt rfl (Or.inl ⟨rfl, by simp, _, rfl⟩) (hb hby own_d5_4) (by decide) (by decide) ?_
  exact ⟨rfl, N0, e1⟩
set_option maxRecDepth 65536 in
set_option maxHeartbeats 40000000 in
theorem own_passed (l : Launch) (Z : State) (a0 : Array Value) (hw : ∀ d ∈ tables_1, d.before a0 Z = true) (ws : List Jvm.Cond) (a : Addr) (x_passed : Int32) (h0 : Heap) (n0 : Nat) (Z0 : n0 ≤ h0.size) (F_passed : Fld Z h0 a "com/example/assay_runner/assayrunner/report/ReportPage$Counts" "passed" "I" (.int x_passed)) :
    own_Met l Z (⟨"com/example/assay_runner/assayrunner/report/ReportPage$Counts", "passed", "()I"⟩ : MethodName) prog_60_method_9_code 1 (some .int) ws ({ frames := 0, cells := 0, slots := 0, locals := 0 } : Room) #[(.ref a)] h0 (fun v h L => v = some (.int x_passed) ∧ Fr n0 L ∧ h = h0) := by
  refine own_body own_pn5 (fun m => mkF m 0 #[.val (.ref a)] []) (fun m => own_ef_own_passed m a) ?_
  intro p e s m below meth c T0 hx hby hml hlk hrt hZ hown hnm X0 e0
  have hown : s.vm.findClass "com/example/assay_runner/assayrunner/report/ReportPage$Counts" = some m.cls := hown
  have N0 := Fr.nil n0
  refine own_pre (S' := (T0.setTop (mkF m 1 #[.val (.ref a)] [(.ref a)]))) (fun t k => XS.aloadN X0.here hx rfl (hb hby own_d6_0) rfl rfl k) ?_
  obtain ⟨T1, X1, e1, st1⟩ := getF X0 hx hZ hown (host := "") (Or.inl (hw _ (List.mem_of_getElem? (i := 20) rfl))) Via.refl e0 F_passed (g := (mkF m 1 #[.val (.ref a)] [(.ref a)])) rfl rfl (hb hby own_d6_1)
  refine own_pre (S' := (T1.setTop (mkF m 4 #[.val (.ref a)] [(.int x_passed)]))) st1 ?_
  refine own_ret (t := .int) X1 hx hlk hrt rfl (Or.inl ⟨rfl, by simp, _, rfl⟩) (hb hby own_d6_4) (by decide) (by decide) ?_
  exact ⟨rfl, N0, e1⟩
set_option maxRecDepth 65536 in
set_option maxHeartbeats 40000000 in
theorem own_with (l : Launch) (Z : State) (a0 : Array Value) (hw : ∀ d ∈ tables_1, d.before a0 Z = true) (ws : List Jvm.Cond) (a sA a_PASSED a_FAILED : Addr) (x_tests x_passed x_failed p' f' : Int32) (h0 : Heap) (n0 : Nat) (Z0 : n0 ≤ h0.size) (F_tests : Fld Z h0 a "com/example/assay_runner/assayrunner/report/ReportPage$Counts" "tests" "I" (.int x_tests)) (F_passed : Fld Z h0 a "com/example/assay_runner/assayrunner/report/ReportPage$Counts" "passed" "I" (.int x_passed)) (F_failed : Fld Z h0 a "com/example/assay_runner/assayrunner/report/ReportPage$Counts" "failed" "I" (.int x_failed)) (S_PASSED : Sta Z h0 "com/example/assay_runner/assayrunner/report/ReportPage$Status" "PASSED" "Lcom/example/assay_runner/assayrunner/report/ReportPage$Status;" (.ref a_PASSED)) (S_FAILED : Sta Z h0 "com/example/assay_runner/assayrunner/report/ReportPage$Status" "FAILED" "Lcom/example/assay_runner/assayrunner/report/ReportPage$Status;" (.ref a_FAILED)) (hp : (if sA = a_PASSED then x_passed + 1 else x_passed) = p') (hf : (if sA = a_FAILED then x_failed + 1 else x_failed) = f') :
    own_Met l Z (⟨"com/example/assay_runner/assayrunner/report/ReportPage$Counts", "with", "(Lcom/example/assay_runner/assayrunner/report/ReportPage$Status;)Lcom/example/assay_runner/assayrunner/report/ReportPage$Counts;"⟩ : MethodName) prog_60_method_2_code 2 (some (.object "com/example/assay_runner/assayrunner/report/ReportPage$Counts")) ws ({ frames := 3, cells := 1, slots := 3, locals := 40 } : Room) #[(.ref a), (.ref sA)] h0 (fun v h L => ∃ b : Addr, v = some (.ref b) ∧ Fr n0 L ∧ Keep h0 h [] ∧ Exa Z h b "com/example/assay_runner/assayrunner/report/ReportPage$Counts" ∧ Fld Z h b "com/example/assay_runner/assayrunner/report/ReportPage$Counts" "tests" "I" (.int (x_tests + 1)) ∧ Fld Z h b "com/example/assay_runner/assayrunner/report/ReportPage$Counts" "passed" "I" (.int p') ∧ Fld Z h b "com/example/assay_runner/assayrunner/report/ReportPage$Counts" "failed" "I" (.int f') ∧ n0 ≤ b) := by
  refine own_body own_pn6 (fun m => mkF m 0 #[.val (.ref a), .val (.ref sA)] []) (fun m => own_ef_own_with m a sA) ?_
  intro p e s m below meth c T0 hx hby hml hlk hrt hZ hown hnm X0 e0
  have hown : s.vm.findClass "com/example/assay_runner/assayrunner/report/ReportPage$Counts" = some m.cls := hown
  have N0 := Fr.nil n0
  obtain ⟨T1, h1, X1, e1, E1, A1, D1, -, st1⟩ := newO X0 hx hZ hown (hw _ (List.mem_of_getElem? (i := 29) rfl)) (hw _ (List.mem_of_getElem? (i := 5) rfl)) (hw _ (List.mem_of_getElem? (i := 6) rfl)) e0 (g := (mkF m 0 #[.val (.ref a), .val (.ref sA)] [])) rfl (hb hby own_d4_0) (by decide) (by decide)
  obtain ⟨b1, g1⟩ : ∃ z, z = h0.size := ⟨_, rfl⟩
  rw [← g1] at A1 D1 st1
  have sz_b1 : h0.size ≤ b1 := Nat.le_trans (Nat.le_refl h0.size) (Nat.le_of_eq g1.symm)
  have ge_b1 : n0 ≤ b1 := Nat.le_trans Z0 (Nat.le_of_eq g1.symm)
  have ne_a_b1 : a ≠ b1 := Nat.ne_of_lt (Nat.lt_of_lt_of_le F_tests.lt (Nat.le_of_eq g1.symm))
  have F1_tests : Fld Z h1 b1 "com/example/assay_runner/assayrunner/report/ReportPage$Counts" "tests" "I" (.int (0 : Int32)) := D1 (Or.inr (hw _ (List.mem_of_getElem? (i := 19) rfl))) (ty := .int) (by decide)
  have F1_passed : Fld Z h1 b1 "com/example/assay_runner/assayrunner/report/ReportPage$Counts" "passed" "I" (.int (0 : Int32)) := D1 (Or.inr (hw _ (List.mem_of_getElem? (i := 21) rfl))) (ty := .int) (by decide)
  have F1_failed : Fld Z h1 b1 "com/example/assay_runner/assayrunner/report/ReportPage$Counts" "failed" "I" (.int (0 : Int32)) := D1 (Or.inr (hw _ (List.mem_of_getElem? (i := 23) rfl))) (ty := .int) (by decide)
  refine own_pre (S' := (T1.setTop (mkF m 3 #[.val (.ref a), .val (.ref sA)] [(.ref b1)]))) st1 ?_
  refine own_pre (S' := (T1.setTop (mkF m 4 #[.val (.ref a), .val (.ref sA)] [(.ref b1), (.ref b1)]))) (fun t k => XS.dup X1.here hx rfl (hb hby own_d4_3) rfl rfl k) ?_
  refine own_pre (S' := (T1.setTop (mkF m 5 #[.val (.ref a), .val (.ref sA)] [(.ref a), (.ref b1), (.ref b1)]))) (fun t k => XS.aloadN X1.here hx rfl (hb hby own_d4_4) rfl rfl k) ?_
  obtain ⟨T2, X2, e2, st2⟩ := getF X1 hx hZ hown (host := "") (Or.inl (hw _ (List.mem_of_getElem? (i := 18) rfl))) Via.refl e1 (F_tests.ext E1) (g := (mkF m 5 #[.val (.ref a), .val (.ref sA)] [(.ref a), (.ref b1), (.ref b1)])) rfl rfl (hb hby own_d4_5)
  refine own_pre (S' := (T2.setTop (mkF m 8 #[.val (.ref a), .val (.ref sA)] [(.int x_tests), (.ref b1), (.ref b1)]))) st2 ?_
  refine own_pre (S' := (T2.setTop (mkF m 9 #[.val (.ref a), .val (.ref sA)] [(.int (1 : Int32)), (.int x_tests), (.ref b1), (.ref b1)]))) (fun t k => XS.iconst X2.here hx rfl (hb hby own_d4_8) k) ?_
  refine own_pre (S' := (T2.setTop (mkF m 10 #[.val (.ref a), .val (.ref sA)] [(.int (x_tests + (1 : Int32))), (.ref b1), (.ref b1)]))) (fun t k => XS.iadd X2.here hx rfl (hb hby own_d4_9) rfl k) ?_
  refine own_pre (S' := (T2.setTop (mkF m 11 #[.val (.ref a), .val (.ref sA)] [(.ref sA), (.int (x_tests + (1 : Int32))), (.ref b1), (.ref b1)]))) (fun t k => XS.aloadN X2.here hx rfl (hb hby own_d4_10) rfl rfl k) ?_
  obtain ⟨T3, X3, e3, st3⟩ := getS2 X2 hx hZ hown (host := "") (Or.inl (hw _ (List.mem_of_getElem? (i := 30) rfl))) Via.refl e2 (S_PASSED.ext E1) (g := (mkF m 11 #[.val (.ref a), .val (.ref sA)] [(.ref sA), (.int (x_tests + (1 : Int32))), (.ref b1), (.ref b1)])) rfl (hb hby own_d4_11)
  refine own_pre (S' := (T3.setTop (mkF m 14 #[.val (.ref a), .val (.ref sA)] [(.ref a_PASSED), (.ref sA), (.int (x_tests + (1 : Int32))), (.ref b1), (.ref b1)]))) st3 ?_
  by_cases c14 : sA = a_PASSED
  · -- pc 14
    refine own_pre (S' := (T3.setTop (mkF m 17 #[.val (.ref a), .val (.ref sA)] [(.int (x_tests + (1 : Int32))), (.ref b1), (.ref b1)]))) (fun t k => Jvm.RoadKit.acmp (g := (mkF m 14 #[.val (.ref a), .val (.ref sA)] [(.ref a_PASSED), (.ref sA), (.int (x_tests + (1 : Int32))), (.ref b1), (.ref b1)])) X3 hx rfl rfl rfl (pc0 := 14) (pc' := 17) (same := true) rfl (hb hby own_d4_14) rfl (decide_eq_true (congrArg Value.ref c14)) (by decide) (by decide) k) ?_
    refine own_pre (S' := (T3.setTop (mkF m 18 #[.val (.ref a), .val (.ref sA)] [(.ref a), (.int (x_tests + (1 : Int32))), (.ref b1), (.ref b1)]))) (fun t k => XS.aloadN X3.here hx rfl (hb hby own_d4_17) rfl rfl k) ?_
    obtain ⟨T4, X4, e4, st4⟩ := getF X3 hx hZ hown (host := "") (Or.inl (hw _ (List.mem_of_getElem? (i := 20) rfl))) Via.refl e3 (F_passed.ext E1) (g := (mkF m 18 #[.val (.ref a), .val (.ref sA)] [(.ref a), (.int (x_tests + (1 : Int32))), (.ref b1), (.ref b1)])) rfl rfl (hb hby own_d4_18)
    refine own_pre (S' := (T4.setTop (mkF m 21 #[.val (.ref a), .val (.ref sA)] [(.int x_passed), (.int (x_tests + (1 : Int32))), (.ref b1), (.ref b1)]))) st4 ?_
    refine own_pre (S' := (T4.setTop (mkF m 22 #[.val (.ref a), .val (.ref sA)] [(.int (1 : Int32)), (.int x_passed), (.int (x_tests + (1 : Int32))), (.ref b1), (.ref b1)]))) (fun t k => XS.iconst X4.here hx rfl (hb hby own_d4_21) k) ?_
    refine own_pre (S' := (T4.setTop (mkF m 23 #[.val (.ref a), .val (.ref sA)] [(.int (x_passed + (1 : Int32))), (.int (x_tests + (1 : Int32))), (.ref b1), (.ref b1)]))) (fun t k => XS.iadd X4.here hx rfl (hb hby own_d4_22) rfl k) ?_
    refine own_pre (S' := (T4.setTop (mkF m 30 #[.val (.ref a), .val (.ref sA)] [(.int (x_passed + (1 : Int32))), (.int (x_tests + (1 : Int32))), (.ref b1), (.ref b1)]))) (fun t k => XS.goto X4.here hx rfl (pc0 := 23) (pc' := 30) rfl (hb hby own_d4_23) (by decide) (by decide) k) ?_
    refine own_pre (S' := (T4.setTop (mkF m 31 #[.val (.ref a), .val (.ref sA)] [(.ref sA), (.int (x_passed + (1 : Int32))), (.int (x_tests + (1 : Int32))), (.ref b1), (.ref b1)]))) (fun t k => XS.aloadN X4.here hx rfl (hb hby own_d4_30) rfl rfl k) ?_
    obtain ⟨T5, X5, e5, st5⟩ := getS2 X4 hx hZ hown (host := "") (Or.inl (hw _ (List.mem_of_getElem? (i := 32) rfl))) Via.refl e4 (S_FAILED.ext E1) (g := (mkF m 31 #[.val (.ref a), .val (.ref sA)] [(.ref sA), (.int (x_passed + (1 : Int32))), (.int (x_tests + (1 : Int32))), (.ref b1), (.ref b1)])) rfl (hb hby own_d4_31)
    refine own_pre (S' := (T5.setTop (mkF m 34 #[.val (.ref a), .val (.ref sA)] [(.ref a_FAILED), (.ref sA), (.int (x_passed + (1 : Int32))), (.int (x_tests + (1 : Int32))), (.ref b1), (.ref b1)]))) st5 ?_
    by_cases c34 : sA = a_FAILED
    · -- pc 34
      refine own_pre (S' := (T5.setTop (mkF m 37 #[.val (.ref a), .val (.ref sA)] [(.int (x_passed + (1 : Int32))), (.int (x_tests + (1 : Int32))), (.ref b1), (.ref b1)]))) (fun t k => Jvm.RoadKit.acmp (g := (mkF m 34 #[.val (.ref a), .val (.ref sA)] [(.ref a_FAILED), (.ref sA), (.int (x_passed + (1 : Int32))), (.int (x_tests + (1 : Int32))), (.ref b1), (.ref b1)])) X5 hx rfl rfl rfl (pc0 := 34) (pc' := 37) (same := true) rfl (hb hby own_d4_34) rfl (decide_eq_true (congrArg Value.ref c34)) (by decide) (by decide) k) ?_
      refine own_pre (S' := (T5.setTop (mkF m 38 #[.val (.ref a), .val (.ref sA)] [(.ref a), (.int (x_passed + (1 : Int32))), (.int (x_tests + (1 : Int32))), (.ref b1), (.ref b1)]))) (fun t k => XS.aloadN X5.here hx rfl (hb hby own_d4_37) rfl rfl k) ?_
      obtain ⟨T6, X6, e6, st6⟩ := getF X5 hx hZ hown (host := "") (Or.inl (hw _ (List.mem_of_getElem? (i := 22) rfl))) Via.refl e5 (F_failed.ext E1) (g := (mkF m 38 #[.val (.ref a), .val (.ref sA)] [(.ref a), (.int (x_passed + (1 : Int32))), (.int (x_tests + (1 : Int32))), (.ref b1), (.ref b1)])) rfl rfl (hb hby own_d4_38)
      refine own_pre (S' := (T6.setTop (mkF m 41 #[.val (.ref a), .val (.ref sA)] [(.int x_failed), (.int (x_passed + (1 : Int32))), (.int (x_tests + (1 : Int32))), (.ref b1), (.ref b1)]))) st6 ?_
      refine own_pre (S' := (T6.setTop (mkF m 42 #[.val (.ref a), .val (.ref sA)] [(.int (1 : Int32)), (.int x_failed), (.int (x_passed + (1 : Int32))), (.int (x_tests + (1 : Int32))), (.ref b1), (.ref b1)]))) (fun t k => XS.iconst X6.here hx rfl (hb hby own_d4_41) k) ?_
      refine own_pre (S' := (T6.setTop (mkF m 43 #[.val (.ref a), .val (.ref sA)] [(.int (x_failed + (1 : Int32))), (.int (x_passed + (1 : Int32))), (.int (x_tests + (1 : Int32))), (.ref b1), (.ref b1)]))) (fun t k => XS.iadd X6.here hx rfl (hb hby own_d4_42) rfl k) ?_
      refine own_pre (S' := (T6.setTop (mkF m 50 #[.val (.ref a), .val (.ref sA)] [(.int (x_failed + (1 : Int32))), (.int (x_passed + (1 : Int32))), (.int (x_tests + (1 : Int32))), (.ref b1), (.ref b1)]))) (fun t k => XS.goto X6.here hx rfl (pc0 := 43) (pc' := 50) rfl (hb hby own_d4_43) (by decide) (by decide) k) ?_
      refine own_callI (y := (⟨"com/example/assay_runner/assayrunner/report/ReportPage$Counts", "<init>", "(III)V"⟩ : MethodName)) (b := b1) X6 hx hZ hown rfl (hw _ (List.mem_of_getElem? (i := 33) rfl)) (hw _ (List.mem_of_getElem? (i := 8) rfl)) (hw _ (List.mem_of_getElem? (i := 9) rfl)) (hw _ (List.mem_of_getElem? (i := 6) rfl)) (by decide) e6 (hM := own_ci l Z a0 hw [] b1 (x_tests + (1 : Int32)) (x_passed + (1 : Int32)) (x_failed + (1 : Int32)) h1 n0 (Nat.le_trans Z0 E1.1) F1_tests F1_passed F1_failed A1 ge_b1) (W := 1) (pc := 50) (Ls := #[.val (.ref a), .val (.ref sA)]) (argsL := [(.int (x_tests + (1 : Int32))), (.int (x_passed + (1 : Int32))), (.int (x_failed + (1 : Int32)))]) (rest := [(.ref b1)]) (st0 := [(.int (x_failed + (1 : Int32))), (.int (x_passed + (1 : Int32))), (.int (x_tests + (1 : Int32))), (.ref b1), (.ref b1)]) (by rw [hml]; rfl) (lenOf own_pd1 rfl) rfl (Nat.le_of_eq rfl) (hb hby own_d4_50) (by decide) (by decide) (by decide) (by decide) ?_
      intro v7 T7 L7 X7 hQ7
      obtain ⟨rfl, Nq7, K7, Ft7, Fp7, Ff7⟩ := hQ7
      have N7 := Fr.app N0 Nq7
      show own_Ends p e below s _ _ _ (T7.setTop (mkF m 53 #[.val (.ref a), .val (.ref sA)] [(.ref b1)]))
      refine own_ret (t := (.object "com/example/assay_runner/assayrunner/report/ReportPage$Counts")) X7 hx hlk hrt rfl (Or.inr (Or.inr (Or.inr (Or.inr ⟨rfl, rfl, rfl⟩)))) (hb hby own_d4_53) (by decide) (by decide) ?_
      refine ⟨b1, rfl, N7, (((Keep.refl _ _).ext E1).trans K7 (allS (Or.inr sz_b1) all0)), (A1.keep K7), Ft7, ?_, ?_, ge_b1⟩
      · rw [← hp, if_pos c14]; exact Fp7
      · rw [← hf, if_pos c34]; exact Ff7
    · -- pc 34
      refine own_pre (S' := (T5.setTop (mkF m 46 #[.val (.ref a), .val (.ref sA)] [(.int (x_passed + (1 : Int32))), (.int (x_tests + (1 : Int32))), (.ref b1), (.ref b1)]))) (fun t k => Jvm.RoadKit.acmp (g := (mkF m 34 #[.val (.ref a), .val (.ref sA)] [(.ref a_FAILED), (.ref sA), (.int (x_passed + (1 : Int32))), (.int (x_tests + (1 : Int32))), (.ref b1), (.ref b1)])) X5 hx rfl rfl rfl (pc0 := 34) (pc' := 46) (same := false) rfl (hb hby own_d4_34) rfl (decide_eq_false fun q => c34 (Value.ref.inj q)) (by decide) (by decide) k) ?_
      refine own_pre (S' := (T5.setTop (mkF m 47 #[.val (.ref a), .val (.ref sA)] [(.ref a), (.int (x_passed + (1 : Int32))), (.int (x_tests + (1 : Int32))), (.ref b1), (.ref b1)]))) (fun t k => XS.aloadN X5.here hx rfl (hb hby own_d4_46) rfl rfl k) ?_
      obtain ⟨T8, X8, e8, st8⟩ := getF X5 hx hZ hown (host := "") (Or.inl (hw _ (List.mem_of_getElem? (i := 22) rfl))) Via.refl e5 (F_failed.ext E1) (g := (mkF m 47 #[.val (.ref a), .val (.ref sA)] [(.ref a), (.int (x_passed + (1 : Int32))), (.int (x_tests + (1 : Int32))), (.ref b1), (.ref b1)])) rfl rfl (hb hby own_d4_47)
      refine own_pre (S' := (T8.setTop (mkF m 50 #[.val (.ref a), .val (.ref sA)] [(.int x_failed), (.int (x_passed + (1 : Int32))), (.int (x_tests + (1 : Int32))), (.ref b1), (.ref b1)]))) st8 ?_
      refine own_callI (y := (⟨"com/example/assay_runner/assayrunner/report/ReportPage$Counts", "<init>", "(III)V"⟩ : MethodName)) (b := b1) X8 hx hZ hown rfl (hw _ (List.mem_of_getElem? (i := 33) rfl)) (hw _ (List.mem_of_getElem? (i := 8) rfl)) (hw _ (List.mem_of_getElem? (i := 9) rfl)) (hw _ (List.mem_of_getElem? (i := 6) rfl)) (by decide) e8 (hM := own_ci l Z a0 hw [] b1 (x_tests + (1 : Int32)) (x_passed + (1 : Int32)) x_failed h1 n0 (Nat.le_trans Z0 E1.1) F1_tests F1_passed F1_failed A1 ge_b1) (W := 1) (pc := 50) (Ls := #[.val (.ref a), .val (.ref sA)]) (argsL := [(.int (x_tests + (1 : Int32))), (.int (x_passed + (1 : Int32))), (.int x_failed)]) (rest := [(.ref b1)]) (st0 := [(.int x_failed), (.int (x_passed + (1 : Int32))), (.int (x_tests + (1 : Int32))), (.ref b1), (.ref b1)]) (by rw [hml]; rfl) (lenOf own_pd1 rfl) rfl (Nat.le_of_eq rfl) (hb hby own_d4_50) (by decide) (by decide) (by decide) (by decide) ?_
      intro v9 T9 L9 X9 hQ9
      obtain ⟨rfl, Nq9, K9, Ft9, Fp9, Ff9⟩ := hQ9
      have N9 := Fr.app N0 Nq9
      show own_Ends p e below s _ _ _ (T9.setTop (mkF m 53 #[.val (.ref a), .val (.ref sA)] [(.ref b1)]))
      refine own_ret (t := (.object "com/example/assay_runner/assayrunner/report/ReportPage$Counts")) X9 hx hlk hrt rfl (Or.inr (Or.inr (Or.inr (Or.inr ⟨rfl, rfl, rfl⟩)))) (hb hby own_d4_53) (by decide) (by decide) ?_
      refine ⟨b1, rfl, N9, (((Keep.refl _ _).ext E1).trans K9 (allS (Or.inr sz_b1) all0)), (A1.keep K9), Ft9, ?_, ?_, ge_b1⟩
      · rw [← hp, if_pos c14]; exact Fp9
      · rw [← hf, if_neg c34]; exact Ff9
  · -- pc 14
    refine own_pre (S' := (T3.setTop (mkF m 26 #[.val (.ref a), .val (.ref sA)] [(.int (x_tests + (1 : Int32))), (.ref b1), (.ref b1)]))) (fun t k => Jvm.RoadKit.acmp (g := (mkF m 14 #[.val (.ref a), .val (.ref sA)] [(.ref a_PASSED), (.ref sA), (.int (x_tests + (1 : Int32))), (.ref b1), (.ref b1)])) X3 hx rfl rfl rfl (pc0 := 14) (pc' := 26) (same := false) rfl (hb hby own_d4_14) rfl (decide_eq_false fun q => c14 (Value.ref.inj q)) (by decide) (by decide) k) ?_
    refine own_pre (S' := (T3.setTop (mkF m 27 #[.val (.ref a), .val (.ref sA)] [(.ref a), (.int (x_tests + (1 : Int32))), (.ref b1), (.ref b1)]))) (fun t k => XS.aloadN X3.here hx rfl (hb hby own_d4_26) rfl rfl k) ?_
    obtain ⟨T10, X10, e10, st10⟩ := getF X3 hx hZ hown (host := "") (Or.inl (hw _ (List.mem_of_getElem? (i := 20) rfl))) Via.refl e3 (F_passed.ext E1) (g := (mkF m 27 #[.val (.ref a), .val (.ref sA)] [(.ref a), (.int (x_tests + (1 : Int32))), (.ref b1), (.ref b1)])) rfl rfl (hb hby own_d4_27)
    refine own_pre (S' := (T10.setTop (mkF m 30 #[.val (.ref a), .val (.ref sA)] [(.int x_passed), (.int (x_tests + (1 : Int32))), (.ref b1), (.ref b1)]))) st10 ?_
    refine own_pre (S' := (T10.setTop (mkF m 31 #[.val (.ref a), .val (.ref sA)] [(.ref sA), (.int x_passed), (.int (x_tests + (1 : Int32))), (.ref b1), (.ref b1)]))) (fun t k => XS.aloadN X10.here hx rfl (hb hby own_d4_30) rfl rfl k) ?_
    obtain ⟨T11, X11, e11, st11⟩ := getS2 X10 hx hZ hown (host := "") (Or.inl (hw _ (List.mem_of_getElem? (i := 32) rfl))) Via.refl e10 (S_FAILED.ext E1) (g := (mkF m 31 #[.val (.ref a), .val (.ref sA)] [(.ref sA), (.int x_passed), (.int (x_tests + (1 : Int32))), (.ref b1), (.ref b1)])) rfl (hb hby own_d4_31)
    refine own_pre (S' := (T11.setTop (mkF m 34 #[.val (.ref a), .val (.ref sA)] [(.ref a_FAILED), (.ref sA), (.int x_passed), (.int (x_tests + (1 : Int32))), (.ref b1), (.ref b1)]))) st11 ?_
    by_cases c34 : sA = a_FAILED
    · -- pc 34
      refine own_pre (S' := (T11.setTop (mkF m 37 #[.val (.ref a), .val (.ref sA)] [(.int x_passed), (.int (x_tests + (1 : Int32))), (.ref b1), (.ref b1)]))) (fun t k => Jvm.RoadKit.acmp (g := (mkF m 34 #[.val (.ref a), .val (.ref sA)] [(.ref a_FAILED), (.ref sA), (.int x_passed), (.int (x_tests + (1 : Int32))), (.ref b1), (.ref b1)])) X11 hx rfl rfl rfl (pc0 := 34) (pc' := 37) (same := true) rfl (hb hby own_d4_34) rfl (decide_eq_true (congrArg Value.ref c34)) (by decide) (by decide) k) ?_
      refine own_pre (S' := (T11.setTop (mkF m 38 #[.val (.ref a), .val (.ref sA)] [(.ref a), (.int x_passed), (.int (x_tests + (1 : Int32))), (.ref b1), (.ref b1)]))) (fun t k => XS.aloadN X11.here hx rfl (hb hby own_d4_37) rfl rfl k) ?_
      obtain ⟨T12, X12, e12, st12⟩ := getF X11 hx hZ hown (host := "") (Or.inl (hw _ (List.mem_of_getElem? (i := 22) rfl))) Via.refl e11 (F_failed.ext E1) (g := (mkF m 38 #[.val (.ref a), .val (.ref sA)] [(.ref a), (.int x_passed), (.int (x_tests + (1 : Int32))), (.ref b1), (.ref b1)])) rfl rfl (hb hby own_d4_38)
      refine own_pre (S' := (T12.setTop (mkF m 41 #[.val (.ref a), .val (.ref sA)] [(.int x_failed), (.int x_passed), (.int (x_tests + (1 : Int32))), (.ref b1), (.ref b1)]))) st12 ?_
      refine own_pre (S' := (T12.setTop (mkF m 42 #[.val (.ref a), .val (.ref sA)] [(.int (1 : Int32)), (.int x_failed), (.int x_passed), (.int (x_tests + (1 : Int32))), (.ref b1), (.ref b1)]))) (fun t k => XS.iconst X12.here hx rfl (hb hby own_d4_41) k) ?_
      refine own_pre (S' := (T12.setTop (mkF m 43 #[.val (.ref a), .val (.ref sA)] [(.int (x_failed + (1 : Int32))), (.int x_passed), (.int (x_tests + (1 : Int32))), (.ref b1), (.ref b1)]))) (fun t k => XS.iadd X12.here hx rfl (hb hby own_d4_42) rfl k) ?_
      refine own_pre (S' := (T12.setTop (mkF m 50 #[.val (.ref a), .val (.ref sA)] [(.int (x_failed + (1 : Int32))), (.int x_passed), (.int (x_tests + (1 : Int32))), (.ref b1), (.ref b1)]))) (fun t k => XS.goto X12.here hx rfl (pc0 := 43) (pc' := 50) rfl (hb hby own_d4_43) (by decide) (by decide) k) ?_
      refine own_callI (y := (⟨"com/example/assay_runner/assayrunner/report/ReportPage$Counts", "<init>", "(III)V"⟩ : MethodName)) (b := b1) X12 hx hZ hown rfl (hw _ (List.mem_of_getElem? (i := 33) rfl)) (hw _ (List.mem_of_getElem? (i := 8) rfl)) (hw _ (List.mem_of_getElem? (i := 9) rfl)) (hw _ (List.mem_of_getElem? (i := 6) rfl)) (by decide) e12 (hM := own_ci l Z a0 hw [] b1 (x_tests + (1 : Int32)) x_passed (x_failed + (1 : Int32)) h1 n0 (Nat.le_trans Z0 E1.1) F1_tests F1_passed F1_failed A1 ge_b1) (W := 1) (pc := 50) (Ls := #[.val (.ref a), .val (.ref sA)]) (argsL := [(.int (x_tests + (1 : Int32))), (.int x_passed), (.int (x_failed + (1 : Int32)))]) (rest := [(.ref b1)]) (st0 := [(.int (x_failed + (1 : Int32))), (.int x_passed), (.int (x_tests + (1 : Int32))), (.ref b1), (.ref b1)]) (by rw [hml]; rfl) (lenOf own_pd1 rfl) rfl (Nat.le_of_eq rfl) (hb hby own_d4_50) (by decide) (by decide) (by decide) (by decide) ?_
      intro v13 T13 L13 X13 hQ13
      obtain ⟨rfl, Nq13, K13, Ft13, Fp13, Ff13⟩ := hQ13
      have N13 := Fr.app N0 Nq13
      show own_Ends p e below s _ _ _ (T13.setTop (mkF m 53 #[.val (.ref a), .val (.ref sA)] [(.ref b1)]))
      refine own_ret (t := (.object "com/example/assay_runner/assayrunner/report/ReportPage$Counts")) X13 hx hlk hrt rfl (Or.inr (Or.inr (Or.inr (Or.inr ⟨rfl, rfl, rfl⟩)))) (hb hby own_d4_53) (by decide) (by decide) ?_
      refine ⟨b1, rfl, N13, (((Keep.refl _ _).ext E1).trans K13 (allS (Or.inr sz_b1) all0)), (A1.keep K13), Ft13, ?_, ?_, ge_b1⟩
      · rw [← hp, if_neg c14]; exact Fp13
      · rw [← hf, if_pos c34]; exact Ff13
    · -- pc 34
      refine own_pre (S' := (T11.setTop (mkF m 46 #[.val (.ref a), .val (.ref sA)] [(.int x_passed), (.int (x_tests + (1 : Int32))), (.ref b1), (.ref b1)]))) (fun t k => Jvm.RoadKit.acmp (g := (mkF m 34 #[.val (.ref a), .val (.ref sA)] [(.ref a_FAILED), (.ref sA), (.int x_passed), (.int (x_tests + (1 : Int32))), (.ref b1), (.ref b1)])) X11 hx rfl rfl rfl (pc0 := 34) (pc' := 46) (same := false) rfl (hb hby own_d4_34) rfl (decide_eq_false fun q => c34 (Value.ref.inj q)) (by decide) (by decide) k) ?_
      refine own_pre (S' := (T11.setTop (mkF m 47 #[.val (.ref a), .val (.ref sA)] [(.ref a), (.int x_passed), (.int (x_tests + (1 : Int32))), (.ref b1), (.ref b1)]))) (fun t k => XS.aloadN X11.here hx rfl (hb hby own_d4_46) rfl rfl k) ?_
      obtain ⟨T14, X14, e14, st14⟩ := getF X11 hx hZ hown (host := "") (Or.inl (hw _ (List.mem_of_getElem? (i := 22) rfl))) Via.refl e11 (F_failed.ext E1) (g := (mkF m 47 #[.val (.ref a), .val (.ref sA)] [(.ref a), (.int x_passed), (.int (x_tests + (1 : Int32))), (.ref b1), (.ref b1)])) rfl rfl (hb hby own_d4_47)
      refine own_pre (S' := (T14.setTop (mkF m 50 #[.val (.ref a), .val (.ref sA)] [(.int x_failed), (.int x_passed), (.int (x_tests + (1 : Int32))), (.ref b1), (.ref b1)]))) st14 ?_
      refine own_callI (y := (⟨"com/example/assay_runner/assayrunner/report/ReportPage$Counts", "<init>", "(III)V"⟩ : MethodName)) (b := b1) X14 hx hZ hown rfl (hw _ (List.mem_of_getElem? (i := 33) rfl)) (hw _ (List.mem_of_getElem? (i := 8) rfl)) (hw _ (List.mem_of_getElem? (i := 9) rfl)) (hw _ (List.mem_of_getElem? (i := 6) rfl)) (by decide) e14 (hM := own_ci l Z a0 hw [] b1 (x_tests + (1 : Int32)) x_passed x_failed h1 n0 (Nat.le_trans Z0 E1.1) F1_tests F1_passed F1_failed A1 ge_b1) (W := 1) (pc := 50) (Ls := #[.val (.ref a), .val (.ref sA)]) (argsL := [(.int (x_tests + (1 : Int32))), (.int x_passed), (.int x_failed)]) (rest := [(.ref b1)]) (st0 := [(.int x_failed), (.int x_passed), (.int (x_tests + (1 : Int32))), (.ref b1), (.ref b1)]) (by rw [hml]; rfl) (lenOf own_pd1 rfl) rfl (Nat.le_of_eq rfl) (hb hby own_d4_50) (by decide) (by decide) (by decide) (by decide) ?_
      intro v15 T15 L15 X15 hQ15
      obtain ⟨rfl, Nq15, K15, Ft15, Fp15, Ff15⟩ := hQ15
      have N15 := Fr.app N0 Nq15
      show own_Ends p e below s _ _ _ (T15.setTop (mkF m 53 #[.val (.ref a), .val (.ref sA)] [(.ref b1)]))
      refine own_ret (t := (.object "com/example/assay_runner/assayrunner/report/ReportPage$Counts")) X15 hx hlk hrt rfl (Or.inr (Or.inr (Or.inr (Or.inr ⟨rfl, rfl, rfl⟩)))) (hb hby own_d4_53) (by decide) (by decide) ?_
      refine ⟨b1, rfl, N15, (((Keep.refl _ _).ext E1).trans K15 (allS (Or.inr sz_b1) all0)), (A1.keep K15), Ft15, ?_, ?_, ge_b1⟩
      · rw [← hp, if_neg c14]; exact Fp15
      · rw [← hf, if_neg c34]; exact Ff15
set_option maxRecDepth 65536 in
set_option maxHeartbeats 40000000 in
theorem own_law (l : Launch) (Z : State) (a0 : Array Value) (hw : ∀ d ∈ tables_1, d.before a0 Z = true) (ws : List Jvm.Cond) (i0 i1 i2 i3 : Int32) (a_FAILED : Addr) (a_PASSED : Addr) (a_SKIPPED : Addr) (h0 : Heap) (n0 : Nat) (Z0 : n0 ≤ h0.size) (S_FAILED : Sta Z h0 "com/example/assay_runner/assayrunner/report/ReportPage$Status" "FAILED" "Lcom/example/assay_runner/assayrunner/report/ReportPage$Status;" (.ref a_FAILED)) (E_FAILED : Exa Z h0 a_FAILED "com/example/assay_runner/assayrunner/report/ReportPage$Status") (S_PASSED : Sta Z h0 "com/example/assay_runner/assayrunner/report/ReportPage$Status" "PASSED" "Lcom/example/assay_runner/assayrunner/report/ReportPage$Status;" (.ref a_PASSED)) (E_PASSED : Exa Z h0 a_PASSED "com/example/assay_runner/assayrunner/report/ReportPage$Status") (S_SKIPPED : Sta Z h0 "com/example/assay_runner/assayrunner/report/ReportPage$Status" "SKIPPED" "Lcom/example/assay_runner/assayrunner/report/ReportPage$Status;" (.ref a_SKIPPED)) (E_SKIPPED : Exa Z h0 a_SKIPPED "com/example/assay_runner/assayrunner/report/ReportPage$Status") (ne_FAILED_PASSED : a_FAILED ≠ a_PASSED) (ne_FAILED_SKIPPED : a_FAILED ≠ a_SKIPPED) (ne_PASSED_SKIPPED : a_PASSED ≠ a_SKIPPED) :
    own_Met l Z x code maxLocals ret ws room_1 #[(.int i0), (.int i1), (.int i2), (.int i3)] h0 (fun v h L => v = some (.int 1) ∧ Fr n0 L) := by
  refine own_body own_pn7 (fun m => mkF m 0 #[.val (.int i0), .val (.int i1), .val (.int i2), .val (.int i3), .unset, .unset, .unset, .unset, .unset, .unset, .unset, .unset, .unset, .unset, .unset] []) (fun m => own_ef_own_law m i0 i1 i2 i3) ?_
  intro p e s m below meth c T0 hx hby hml hlk hrt hZ hown hnm X0 e0
  have hown : s.vm.findClass "com/example/assay_runner/assayrunner/report/CountsWithPinLaw" = some m.cls := hown
  have N0 := Fr.nil n0
  refine own_pre (S' := (T0.setTop (mkF m 1 #[.val (.int i0), .val (.int i1), .val (.int i2), .val (.int i3), .unset, .unset, .unset, .unset, .unset, .unset, .unset, .unset, .unset, .unset, .unset] [(.int i3)]))) (fun t k => XS.iloadN X0.here hx rfl (hb hby at_0) rfl k) ?_
  refine own_pre (S' := (T0.setTop (mkF m 3 #[.val (.int i0), .val (.int i1), .val (.int i2), .val (.int i3), .unset, .unset, .unset, .unset, .unset, .unset, .unset, .unset, .unset, .unset, .unset] [(.int (2147483647 : Int32)), (.int i3)]))) (X0.ldcInt hx hown (mvT hZ (hw _ (List.mem_of_getElem? (i := 0) rfl))) (g := (mkF m 1 #[.val (.int i0), .val (.int i1), .val (.int i2), .val (.int i3), .unset, .unset, .unset, .unset, .unset, .unset, .unset, .unset, .unset, .unset, .unset] [(.int i3)])) rfl (hb hby at_1)) ?_
  refine own_pre (S' := (T0.setTop (mkF m 4 #[.val (.int i0), .val (.int i1), .val (.int i2), .val (.int i3), .unset, .unset, .unset, .unset, .unset, .unset, .unset, .unset, .unset, .unset, .unset] [(.int (i3 &&& (2147483647 : Int32)))]))) (fun t k => XS.iand X0.here hx rfl (hb hby at_3) rfl k) ?_
  refine own_pre (S' := (T0.setTop (mkF m 5 #[.val (.int i0), .val (.int i1), .val (.int i2), .val (.int i3), .unset, .unset, .unset, .unset, .unset, .unset, .unset, .unset, .unset, .unset, .unset] [(.int (3 : Int32)), (.int (i3 &&& (2147483647 : Int32)))]))) (fun t k => XS.iconst X0.here hx rfl (hb hby at_4) k) ?_
  refine own_pre (S' := (T0.setTop (mkF m 6 #[.val (.int i0), .val (.int i1), .val (.int i2), .val (.int i3), .unset, .unset, .unset, .unset, .unset, .unset, .unset, .unset, .unset, .unset, .unset] [(.int ((i3 &&& (2147483647 : Int32)) % (3 : Int32)))]))) (fun t k => iremM X0 hx rfl (hb hby at_5) rfl (by decide) k) ?_
  generalize hkk : ((i3 &&& (2147483647 : Int32)) % (3 : Int32)) = kk
  refine own_pre (S' := (T0.setTop (mkF m 8 #[.val (.int i0), .val (.int i1), .val (.int i2), .val (.int i3), .val (.int kk), .unset, .unset, .unset, .unset, .unset, .unset, .unset, .unset, .unset, .unset] []))) (fun t k => XS.istore X0.here hx rfl (hb hby at_6) rfl (l' := #[.val (.int i0), .val (.int i1), .val (.int i2), .val (.int i3), .val (.int kk), .unset, .unset, .unset, .unset, .unset, .unset, .unset, .unset, .unset, .unset]) rfl k) ?_
  refine own_pre (S' := (T0.setTop (mkF m 10 #[.val (.int i0), .val (.int i1), .val (.int i2), .val (.int i3), .val (.int kk), .unset, .unset, .unset, .unset, .unset, .unset, .unset, .unset, .unset, .unset] [(.int kk)]))) (fun t k => XS.iload X0.here hx rfl (hb hby at_8) rfl k) ?_
  by_cases c10 : kk = (0 : Int32)
  · -- pc 10: kk = (0 : Int32)
    refine own_pre (S' := (T0.setTop (mkF m 13 #[.val (.int i0), .val (.int i1), .val (.int i2), .val (.int i3), .val (.int kk), .unset, .unset, .unset, .unset, .unset, .unset, .unset, .unset, .unset, .unset] []))) (fun t k => XS.ifNo X0.here hx rfl (hb hby at_10) rfl ((if0 _ _).trans (teq c10).2) k) ?_
    obtain ⟨T1, X1, e1, st1⟩ := getS2 X0 hx hZ hown (host := "") (Or.inl (hw _ (List.mem_of_getElem? (i := 56) rfl))) Via.refl e0 S_PASSED (g := (mkF m 13 #[.val (.int i0), .val (.int i1), .val (.int i2), .val (.int i3), .val (.int kk), .unset, .unset, .unset, .unset, .unset, .unset, .unset, .unset, .unset, .unset] [])) rfl (hb hby at_13)
    refine own_pre (S' := (T1.setTop (mkF m 16 #[.val (.int i0), .val (.int i1), .val (.int i2), .val (.int i3), .val (.int kk), .unset, .unset, .unset, .unset, .unset, .unset, .unset, .unset, .unset, .unset] [(.ref a_PASSED)]))) st1 ?_
    refine own_pre (S' := (T1.setTop (mkF m 34 #[.val (.int i0), .val (.int i1), .val (.int i2), .val (.int i3), .val (.int kk), .unset, .unset, .unset, .unset, .unset, .unset, .unset, .unset, .unset, .unset] [(.ref a_PASSED)]))) (fun t k => XS.goto X1.here hx rfl (pc0 := 16) (pc' := 34) rfl (hb hby at_16) (by decide) (by decide) k) ?_
    refine own_pre (S' := (T1.setTop (mkF m 36 #[.val (.int i0), .val (.int i1), .val (.int i2), .val (.int i3), .val (.int kk), .val (.ref a_PASSED), .unset, .unset, .unset, .unset, .unset, .unset, .unset, .unset, .unset] []))) (fun t k => XS.astore X1.here hx rfl (hb hby at_34) rfl rfl (l' := #[.val (.int i0), .val (.int i1), .val (.int i2), .val (.int i3), .val (.int kk), .val (.ref a_PASSED), .unset, .unset, .unset, .unset, .unset, .unset, .unset, .unset, .unset]) rfl k) ?_
    obtain ⟨T2, h2, X2, e2, E2, A2, D2, -, st2⟩ := newO X1 hx hZ hown (hw _ (List.mem_of_getElem? (i := 4) rfl)) (hw _ (List.mem_of_getElem? (i := 5) rfl)) (hw _ (List.mem_of_getElem? (i := 6) rfl)) e1 (g := (mkF m 36 #[.val (.int i0), .val (.int i1), .val (.int i2), .val (.int i3), .val (.int kk), .val (.ref a_PASSED), .unset, .unset, .unset, .unset, .unset, .unset, .unset, .unset, .unset] [])) rfl (hb hby at_36) (by decide) (by decide)
    obtain ⟨b2, g2⟩ : ∃ z, z = h0.size := ⟨_, rfl⟩
    rw [← g2] at A2 D2 st2
    have sz_b2 : h0.size ≤ b2 := Nat.le_trans (Nat.le_refl h0.size) (Nat.le_of_eq g2.symm)
    have ge_b2 : n0 ≤ b2 := Nat.le_trans Z0 (Nat.le_of_eq g2.symm)
    have ne_a_FAILED_b2 : a_FAILED ≠ b2 := Nat.ne_of_lt (Nat.lt_of_lt_of_le E_FAILED.lt (Nat.le_of_eq g2.symm))
    have ne_a_PASSED_b2 : a_PASSED ≠ b2 := Nat.ne_of_lt (Nat.lt_of_lt_of_le E_PASSED.lt (Nat.le_of_eq g2.symm))
    have ne_a_SKIPPED_b2 : a_SKIPPED ≠ b2 := Nat.ne_of_lt (Nat.lt_of_lt_of_le E_SKIPPED.lt (Nat.le_of_eq g2.symm))
    have F2_tests : Fld Z h2 b2 "com/example/assay_runner/assayrunner/report/ReportPage$Counts" "tests" "I" (.int (0 : Int32)) := D2 (Or.inr (hw _ (List.mem_of_getElem? (i := 19) rfl))) (ty := .int) (by decide)
    have F2_passed : Fld Z h2 b2 "com/example/assay_runner/assayrunner/report/ReportPage$Counts" "passed" "I" (.int (0 : Int32)) := D2 (Or.inr (hw _ (List.mem_of_getElem? (i := 21) rfl))) (ty := .int) (by decide)
    have F2_failed : Fld Z h2 b2 "com/example/assay_runner/assayrunner/report/ReportPage$Counts" "failed" "I" (.int (0 : Int32)) := D2 (Or.inr (hw _ (List.mem_of_getElem? (i := 23) rfl))) (ty := .int) (by decide)
    refine own_pre (S' := (T2.setTop (mkF m 39 #[.val (.int i0), .val (.int i1), .val (.int i2), .val (.int i3), .val (.int kk), .val (.ref a_PASSED), .unset, .unset, .unset, .unset, .unset, .unset, .unset, .unset, .unset] [(.ref b2)]))) st2 ?_
    refine own_pre (S' := (T2.setTop (mkF m 40 #[.val (.int i0), .val (.int i1), .val (.int i2), .val (.int i3), .val (.int kk), .val (.ref a_PASSED), .unset, .unset, .unset, .unset, .unset, .unset, .unset, .unset, .unset] [(.ref b2), (.ref b2)]))) (fun t k => XS.dup X2.here hx rfl (hb hby at_39) rfl rfl k) ?_
    refine own_pre (S' := (T2.setTop (mkF m 41 #[.val (.int i0), .val (.int i1), .val (.int i2), .val (.int i3), .val (.int kk), .val (.ref a_PASSED), .unset, .unset, .unset, .unset, .unset, .unset, .unset, .unset, .unset] [(.int i0), (.ref b2), (.ref b2)]))) (fun t k => XS.iloadN X2.here hx rfl (hb hby at_40) rfl k) ?_
    refine own_pre (S' := (T2.setTop (mkF m 42 #[.val (.int i0), .val (.int i1), .val (.int i2), .val (.int i3), .val (.int kk), .val (.ref a_PASSED), .unset, .unset, .unset, .unset, .unset, .unset, .unset, .unset, .unset] [(.int i1), (.int i0), (.ref b2), (.ref b2)]))) (fun t k => XS.iloadN X2.here hx rfl (hb hby at_41) rfl k) ?_
    refine own_pre (S' := (T2.setTop (mkF m 43 #[.val (.int i0), .val (.int i1), .val (.int i2), .val (.int i3), .val (.int kk), .val (.ref a_PASSED), .unset, .unset, .unset, .unset, .unset, .unset, .unset, .unset, .unset] [(.int i2), (.int i1), (.int i0), (.ref b2), (.ref b2)]))) (fun t k => XS.iloadN X2.here hx rfl (hb hby at_42) rfl k) ?_
    refine own_callI (y := (⟨"com/example/assay_runner/assayrunner/report/ReportPage$Counts", "<init>", "(III)V"⟩ : MethodName)) (b := b2) X2 hx hZ hown rfl (hw _ (List.mem_of_getElem? (i := 7) rfl)) (hw _ (List.mem_of_getElem? (i := 8) rfl)) (hw _ (List.mem_of_getElem? (i := 9) rfl)) (hw _ (List.mem_of_getElem? (i := 6) rfl)) (by decide) e2 (hM := own_ci l Z a0 hw [] b2 i0 i1 i2 h2 n0 (Nat.le_trans Z0 E2.1) F2_tests F2_passed F2_failed A2 ge_b2) (W := 1) (pc := 43) (Ls := #[.val (.int i0), .val (.int i1), .val (.int i2), .val (.int i3), .val (.int kk), .val (.ref a_PASSED), .unset, .unset, .unset, .unset, .unset, .unset, .unset, .unset, .unset]) (argsL := [(.int i0), (.int i1), (.int i2)]) (rest := [(.ref b2)]) (st0 := [(.int i2), (.int i1), (.int i0), (.ref b2), (.ref b2)]) (by rw [hml]; rfl) (lenOf own_pd1 rfl) rfl (Nat.le_of_eq rfl) (hb hby at_43) (by decide) (by decide) (by decide) (by decide) ?_
    intro v3 T3 L3 X3 hQ3
    obtain ⟨rfl, Nq3, K3, Ft3, Fp3, Ff3⟩ := hQ3
    have N3 := Fr.app N0 Nq3
    show own_Ends p e below s _ _ _ (T3.setTop (mkF m 46 #[.val (.int i0), .val (.int i1), .val (.int i2), .val (.int i3), .val (.int kk), .val (.ref a_PASSED), .unset, .unset, .unset, .unset, .unset, .unset, .unset, .unset, .unset] [(.ref b2)]))
    refine own_pre (S' := (T3.setTop (mkF m 48 #[.val (.int i0), .val (.int i1), .val (.int i2), .val (.int i3), .val (.int kk), .val (.ref a_PASSED), .val (.ref b2), .unset, .unset, .unset, .unset, .unset, .unset, .unset, .unset] []))) (fun t k => XS.astore X3.here hx rfl (hb hby at_46) rfl rfl (l' := #[.val (.int i0), .val (.int i1), .val (.int i2), .val (.int i3), .val (.int kk), .val (.ref a_PASSED), .val (.ref b2), .unset, .unset, .unset, .unset, .unset, .unset, .unset, .unset]) rfl k) ?_
    refine own_pre (S' := (T3.setTop (mkF m 50 #[.val (.int i0), .val (.int i1), .val (.int i2), .val (.int i3), .val (.int kk), .val (.ref a_PASSED), .val (.ref b2), .unset, .unset, .unset, .unset, .unset, .unset, .unset, .unset] [(.ref b2)]))) (fun t k => XS.aload X3.here hx rfl (hb hby at_48) rfl rfl k) ?_
    refine own_pre (S' := (T3.setTop (mkF m 52 #[.val (.int i0), .val (.int i1), .val (.int i2), .val (.int i3), .val (.int kk), .val (.ref a_PASSED), .val (.ref b2), .unset, .unset, .unset, .unset, .unset, .unset, .unset, .unset] [(.ref a_PASSED), (.ref b2)]))) (fun t k => XS.aload X3.here hx rfl (hb hby at_50) rfl rfl k) ?_
    refine own_callV (C := "com/example/assay_runner/assayrunner/report/ReportPage$Counts") (y := (⟨"com/example/assay_runner/assayrunner/report/ReportPage$Counts", "with", "(Lcom/example/assay_runner/assayrunner/report/ReportPage$Status;)Lcom/example/assay_runner/assayrunner/report/ReportPage$Counts;"⟩ : MethodName)) (b := b2) X3 hx hZ hown (hw _ (List.mem_of_getElem? (i := 24) rfl)) (hw _ (List.mem_of_getElem? (i := 25) rfl)) (hw _ (List.mem_of_getElem? (i := 27) rfl)) (hw _ (List.mem_of_getElem? (i := 26) rfl)) (hw _ (List.mem_of_getElem? (i := 28) rfl)) (hw _ (List.mem_of_getElem? (i := 6) rfl)) (by decide) (rfl : T3.heap = T3.heap) (A2.keep K3) (hM := own_with l Z a0 hw [] b2 a_PASSED a_PASSED a_FAILED i0 i1 i2 (i1 + 1) i2 T3.heap n0 (Nat.le_trans (Nat.le_trans Z0 E2.1) K3.1) Ft3 Fp3 Ff3 (own_sta_keep (S_PASSED.ext E2) K3 (allS (own_plainE A2) all0)) (own_sta_keep (S_FAILED.ext E2) K3 (allS (own_plainE A2) all0)) (if_pos rfl) (if_neg (Ne.symm ne_FAILED_PASSED))) (W := 0) (pc := 52) (Ls := #[.val (.int i0), .val (.int i1), .val (.int i2), .val (.int i3), .val (.int kk), .val (.ref a_PASSED), .val (.ref b2), .unset, .unset, .unset, .unset, .unset, .unset, .unset, .unset]) (argsL := [(.ref a_PASSED)]) (rest := []) (st0 := [(.ref a_PASSED), (.ref b2)]) (by rw [hml]; rfl) (lenOf own_pd2 rfl) rfl (Nat.le_of_eq rfl) (hb hby at_52) (by decide) (by decide) (by decide) (by decide) ?_
    intro v4 T4 L4 X4 hQ4
    obtain ⟨b4, rfl, Nq4, K4, Eb4, Ft4, Fp4, Ff4, ge_b4⟩ := hQ4
    have N4 := Fr.app N3 Nq4
    show own_Ends p e below s _ _ _ (T4.setTop (mkF m 55 #[.val (.int i0), .val (.int i1), .val (.int i2), .val (.int i3), .val (.int kk), .val (.ref a_PASSED), .val (.ref b2), .unset, .unset, .unset, .unset, .unset, .unset, .unset, .unset] [(.ref b4)]))
    refine own_pre (S' := (T4.setTop (mkF m 57 #[.val (.int i0), .val (.int i1), .val (.int i2), .val (.int i3), .val (.int kk), .val (.ref a_PASSED), .val (.ref b2), .val (.ref b4), .unset, .unset, .unset, .unset, .unset, .unset, .unset] []))) (fun t k => XS.astore X4.here hx rfl (hb hby at_55) rfl rfl (l' := #[.val (.int i0), .val (.int i1), .val (.int i2), .val (.int i3), .val (.int kk), .val (.ref a_PASSED), .val (.ref b2), .val (.ref b4), .unset, .unset, .unset, .unset, .unset, .unset, .unset]) rfl k) ?_
    refine own_pre (S' := (T4.setTop (mkF m 59 #[.val (.int i0), .val (.int i1), .val (.int i2), .val (.int i3), .val (.int kk), .val (.ref a_PASSED), .val (.ref b2), .val (.ref b4), .unset, .unset, .unset, .unset, .unset, .unset, .unset] [(.ref b4)]))) (fun t k => XS.aload X4.here hx rfl (hb hby at_57) rfl rfl k) ?_
    refine own_callV (C := "com/example/assay_runner/assayrunner/report/ReportPage$Counts") (y := (⟨"com/example/assay_runner/assayrunner/report/ReportPage$Counts", "tests", "()I"⟩ : MethodName)) (b := b4) X4 hx hZ hown (hw _ (List.mem_of_getElem? (i := 34) rfl)) (hw _ (List.mem_of_getElem? (i := 35) rfl)) (hw _ (List.mem_of_getElem? (i := 37) rfl)) (hw _ (List.mem_of_getElem? (i := 36) rfl)) (hw _ (List.mem_of_getElem? (i := 38) rfl)) (hw _ (List.mem_of_getElem? (i := 6) rfl)) (by decide) (rfl : T4.heap = T4.heap) Eb4 (hM := own_tests l Z a0 hw [] b4 (i0 + 1) T4.heap n0 (Nat.le_trans (Nat.le_trans (Nat.le_trans Z0 E2.1) K3.1) K4.1) Ft4) (W := 0) (pc := 59) (Ls := #[.val (.int i0), .val (.int i1), .val (.int i2), .val (.int i3), .val (.int kk), .val (.ref a_PASSED), .val (.ref b2), .val (.ref b4), .unset, .unset, .unset, .unset, .unset, .unset, .unset]) (argsL := []) (rest := []) (st0 := [(.ref b4)]) (by rw [hml]; rfl) (lenOf own_pd3 rfl) rfl (Nat.le_of_eq rfl) (hb hby at_59) (by decide) (by decide) (by decide) (by decide) ?_
    intro v5 T5 L5 X5 hQ5
    obtain ⟨rfl, Nq5, hh5⟩ := hQ5
    have N5 := Fr.app N4 Nq5
    show own_Ends p e below s _ _ _ (T5.setTop (mkF m 62 #[.val (.int i0), .val (.int i1), .val (.int i2), .val (.int i3), .val (.int kk), .val (.ref a_PASSED), .val (.ref b2), .val (.ref b4), .unset, .unset, .unset, .unset, .unset, .unset, .unset] [(.int (i0 + 1))]))
    refine own_pre (S' := (T5.setTop (mkF m 64 #[.val (.int i0), .val (.int i1), .val (.int i2), .val (.int i3), .val (.int kk), .val (.ref a_PASSED), .val (.ref b2), .val (.ref b4), .unset, .unset, .unset, .unset, .unset, .unset, .unset] [(.ref b2), (.int (i0 + 1))]))) (fun t k => XS.aload X5.here hx rfl (hb hby at_62) rfl rfl k) ?_
    refine own_callV (C := "com/example/assay_runner/assayrunner/report/ReportPage$Counts") (y := (⟨"com/example/assay_runner/assayrunner/report/ReportPage$Counts", "tests", "()I"⟩ : MethodName)) (b := b2) X5 hx hZ hown (hw _ (List.mem_of_getElem? (i := 34) rfl)) (hw _ (List.mem_of_getElem? (i := 35) rfl)) (hw _ (List.mem_of_getElem? (i := 37) rfl)) (hw _ (List.mem_of_getElem? (i := 36) rfl)) (hw _ (List.mem_of_getElem? (i := 38) rfl)) (hw _ (List.mem_of_getElem? (i := 6) rfl)) (by decide) hh5 ((A2.keep K3).keep K4) (hM := own_tests l Z a0 hw [] b2 i0 T4.heap n0 (Nat.le_trans (Nat.le_trans (Nat.le_trans Z0 E2.1) K3.1) K4.1) (Ft3.keep K4 nin0)) (W := 1) (pc := 64) (Ls := #[.val (.int i0), .val (.int i1), .val (.int i2), .val (.int i3), .val (.int kk), .val (.ref a_PASSED), .val (.ref b2), .val (.ref b4), .unset, .unset, .unset, .unset, .unset, .unset, .unset]) (argsL := []) (rest := [(.int (i0 + 1))]) (st0 := [(.ref b2), (.int (i0 + 1))]) (by rw [hml]; rfl) (lenOf own_pd3 rfl) rfl (Nat.le_of_eq rfl) (hb hby at_64) (by decide) (by decide) (by decide) (by decide) ?_
    intro v6 T6 L6 X6 hQ6
    obtain ⟨rfl, Nq6, hh6⟩ := hQ6
    have N6 := Fr.app N5 Nq6
    show own_Ends p e below s _ _ _ (T6.setTop (mkF m 67 #[.val (.int i0), .val (.int i1), .val (.int i2), .val (.int i3), .val (.int kk), .val (.ref a_PASSED), .val (.ref b2), .val (.ref b4), .unset, .unset, .unset, .unset, .unset, .unset, .unset] [(.int i0), (.int (i0 + 1))]))
    refine own_pre (S' := (T6.setTop (mkF m 68 #[.val (.int i0), .val (.int i1), .val (.int i2), .val (.int i3), .val (.int kk), .val (.ref a_PASSED), .val (.ref b2), .val (.ref b4), .unset, .unset, .unset, .unset, .unset, .unset, .unset] [(.int ((i0 + 1) - i0))]))) (fun t k => XS.isub X6.here hx rfl (hb hby at_67) rfl k) ?_
    refine own_pre (S' := (T6.setTop (mkF m 70 #[.val (.int i0), .val (.int i1), .val (.int i2), .val (.int i3), .val (.int kk), .val (.ref a_PASSED), .val (.ref b2), .val (.ref b4), .val (.int ((i0 + 1) - i0)), .unset, .unset, .unset, .unset, .unset, .unset] []))) (fun t k => XS.istore X6.here hx rfl (hb hby at_68) rfl (l' := #[.val (.int i0), .val (.int i1), .val (.int i2), .val (.int i3), .val (.int kk), .val (.ref a_PASSED), .val (.ref b2), .val (.ref b4), .val (.int ((i0 + 1) - i0)), .unset, .unset, .unset, .unset, .unset, .unset]) rfl k) ?_
    refine own_pre (S' := (T6.setTop (mkF m 72 #[.val (.int i0), .val (.int i1), .val (.int i2), .val (.int i3), .val (.int kk), .val (.ref a_PASSED), .val (.ref b2), .val (.ref b4), .val (.int ((i0 + 1) - i0)), .unset, .unset, .unset, .unset, .unset, .unset] [(.ref b4)]))) (fun t k => XS.aload X6.here hx rfl (hb hby at_70) rfl rfl k) ?_
    refine own_callV (C := "com/example/assay_runner/assayrunner/report/ReportPage$Counts") (y := (⟨"com/example/assay_runner/assayrunner/report/ReportPage$Counts", "passed", "()I"⟩ : MethodName)) (b := b4) X6 hx hZ hown (hw _ (List.mem_of_getElem? (i := 39) rfl)) (hw _ (List.mem_of_getElem? (i := 40) rfl)) (hw _ (List.mem_of_getElem? (i := 42) rfl)) (hw _ (List.mem_of_getElem? (i := 41) rfl)) (hw _ (List.mem_of_getElem? (i := 43) rfl)) (hw _ (List.mem_of_getElem? (i := 6) rfl)) (by decide) hh6 Eb4 (hM := own_passed l Z a0 hw [] b4 (i1 + 1) T4.heap n0 (Nat.le_trans (Nat.le_trans (Nat.le_trans Z0 E2.1) K3.1) K4.1) Fp4) (W := 0) (pc := 72) (Ls := #[.val (.int i0), .val (.int i1), .val (.int i2), .val (.int i3), .val (.int kk), .val (.ref a_PASSED), .val (.ref b2), .val (.ref b4), .val (.int ((i0 + 1) - i0)), .unset, .unset, .unset, .unset, .unset, .unset]) (argsL := []) (rest := []) (st0 := [(.ref b4)]) (by rw [hml]; rfl) (lenOf own_pd3 rfl) rfl (Nat.le_of_eq rfl) (hb hby at_72) (by decide) (by decide) (by decide) (by decide) ?_
    intro v7 T7 L7 X7 hQ7
    obtain ⟨rfl, Nq7, hh7⟩ := hQ7
    have N7 := Fr.app N6 Nq7
    show own_Ends p e below s _ _ _ (T7.setTop (mkF m 75 #[.val (.int i0), .val (.int i1), .val (.int i2), .val (.int i3), .val (.int kk), .val (.ref a_PASSED), .val (.ref b2), .val (.ref b4), .val (.int ((i0 + 1) - i0)), .unset, .unset, .unset, .unset, .unset, .unset] [(.int (i1 + 1))]))
    refine own_pre (S' := (T7.setTop (mkF m 77 #[.val (.int i0), .val (.int i1), .val (.int i2), .val (.int i3), .val (.int kk), .val (.ref a_PASSED), .val (.ref b2), .val (.ref b4), .val (.int ((i0 + 1) - i0)), .unset, .unset, .unset, .unset, .unset, .unset] [(.ref b2), (.int (i1 + 1))]))) (fun t k => XS.aload X7.here hx rfl (hb hby at_75) rfl rfl k) ?_
    refine own_callV (C := "com/example/assay_runner/assayrunner/report/ReportPage$Counts") (y := (⟨"com/example/assay_runner/assayrunner/report/ReportPage$Counts", "passed", "()I"⟩ : MethodName)) (b := b2) X7 hx hZ hown (hw _ (List.mem_of_getElem? (i := 39) rfl)) (hw _ (List.mem_of_getElem? (i := 40) rfl)) (hw _ (List.mem_of_getElem? (i := 42) rfl)) (hw _ (List.mem_of_getElem? (i := 41) rfl)) (hw _ (List.mem_of_getElem? (i := 43) rfl)) (hw _ (List.mem_of_getElem? (i := 6) rfl)) (by decide) hh7 ((A2.keep K3).keep K4) (hM := own_passed l Z a0 hw [] b2 i1 T4.heap n0 (Nat.le_trans (Nat.le_trans (Nat.le_trans Z0 E2.1) K3.1) K4.1) (Fp3.keep K4 nin0)) (W := 1) (pc := 77) (Ls := #[.val (.int i0), .val (.int i1), .val (.int i2), .val (.int i3), .val (.int kk), .val (.ref a_PASSED), .val (.ref b2), .val (.ref b4), .val (.int ((i0 + 1) - i0)), .unset, .unset, .unset, .unset, .unset, .unset]) (argsL := []) (rest := [(.int (i1 + 1))]) (st0 := [(.ref b2), (.int (i1 + 1))]) (by rw [hml]; rfl) (lenOf own_pd3 rfl) rfl (Nat.le_of_eq rfl) (hb hby at_77) (by decide) (by decide) (by decide) (by decide) ?_
    intro v8 T8 L8 X8 hQ8
    obtain ⟨rfl, Nq8, hh8⟩ := hQ8
    have N8 := Fr.app N7 Nq8
    show own_Ends p e below s _ _ _ (T8.setTop (mkF m 80 #[.val (.int i0), .val (.int i1), .val (.int i2), .val (.int i3), .val (.int kk), .val (.ref a_PASSED), .val (.ref b2), .val (.ref b4), .val (.int ((i0 + 1) - i0)), .unset, .unset, .unset, .unset, .unset, .unset] [(.int i1), (.int (i1 + 1))]))
    refine own_pre (S' := (T8.setTop (mkF m 81 #[.val (.int i0), .val (.int i1), .val (.int i2), .val (.int i3), .val (.int kk), .val (.ref a_PASSED), .val (.ref b2), .val (.ref b4), .val (.int ((i0 + 1) - i0)), .unset, .unset, .unset, .unset, .unset, .unset] [(.int ((i1 + 1) - i1))]))) (fun t k => XS.isub X8.here hx rfl (hb hby at_80) rfl k) ?_
    refine own_pre (S' := (T8.setTop (mkF m 83 #[.val (.int i0), .val (.int i1), .val (.int i2), .val (.int i3), .val (.int kk), .val (.ref a_PASSED), .val (.ref b2), .val (.ref b4), .val (.int ((i0 + 1) - i0)), .val (.int ((i1 + 1) - i1)), .unset, .unset, .unset, .unset, .unset] []))) (fun t k => XS.istore X8.here hx rfl (hb hby at_81) rfl (l' := #[.val (.int i0), .val (.int i1), .val (.int i2), .val (.int i3), .val (.int kk), .val (.ref a_PASSED), .val (.ref b2), .val (.ref b4), .val (.int ((i0 + 1) - i0)), .val (.int ((i1 + 1) - i1)), .unset, .unset, .unset, .unset, .unset]) rfl k) ?_
    refine own_pre (S' := (T8.setTop (mkF m 85 #[.val (.int i0), .val (.int i1), .val (.int i2), .val (.int i3), .val (.int kk), .val (.ref a_PASSED), .val (.ref b2), .val (.ref b4), .val (.int ((i0 + 1) - i0)), .val (.int ((i1 + 1) - i1)), .unset, .unset, .unset, .unset, .unset] [(.ref b4)]))) (fun t k => XS.aload X8.here hx rfl (hb hby at_83) rfl rfl k) ?_
    refine own_callV (C := "com/example/assay_runner/assayrunner/report/ReportPage$Counts") (y := (⟨"com/example/assay_runner/assayrunner/report/ReportPage$Counts", "failed", "()I"⟩ : MethodName)) (b := b4) X8 hx hZ hown (hw _ (List.mem_of_getElem? (i := 44) rfl)) (hw _ (List.mem_of_getElem? (i := 45) rfl)) (hw _ (List.mem_of_getElem? (i := 47) rfl)) (hw _ (List.mem_of_getElem? (i := 46) rfl)) (hw _ (List.mem_of_getElem? (i := 48) rfl)) (hw _ (List.mem_of_getElem? (i := 6) rfl)) (by decide) hh8 Eb4 (hM := own_failed l Z a0 hw [] b4 i2 T4.heap n0 (Nat.le_trans (Nat.le_trans (Nat.le_trans Z0 E2.1) K3.1) K4.1) Ff4) (W := 0) (pc := 85) (Ls := #[.val (.int i0), .val (.int i1), .val (.int i2), .val (.int i3), .val (.int kk), .val (.ref a_PASSED), .val (.ref b2), .val (.ref b4), .val (.int ((i0 + 1) - i0)), .val (.int ((i1 + 1) - i1)), .unset, .unset, .unset, .unset, .unset]) (argsL := []) (rest := []) (st0 := [(.ref b4)]) (by rw [hml]; rfl) (lenOf own_pd3 rfl) rfl (Nat.le_of_eq rfl) (hb hby at_85) (by decide) (by decide) (by decide) (by decide) ?_
    intro v9 T9 L9 X9 hQ9
    obtain ⟨rfl, Nq9, hh9⟩ := hQ9
    have N9 := Fr.app N8 Nq9
    show own_Ends p e below s _ _ _ (T9.setTop (mkF m 88 #[.val (.int i0), .val (.int i1), .val (.int i2), .val (.int i3), .val (.int kk), .val (.ref a_PASSED), .val (.ref b2), .val (.ref b4), .val (.int ((i0 + 1) - i0)), .val (.int ((i1 + 1) - i1)), .unset, .unset, .unset, .unset, .unset] [(.int i2)]))
    refine own_pre (S' := (T9.setTop (mkF m 90 #[.val (.int i0), .val (.int i1), .val (.int i2), .val (.int i3), .val (.int kk), .val (.ref a_PASSED), .val (.ref b2), .val (.ref b4), .val (.int ((i0 + 1) - i0)), .val (.int ((i1 + 1) - i1)), .unset, .unset, .unset, .unset, .unset] [(.ref b2), (.int i2)]))) (fun t k => XS.aload X9.here hx rfl (hb hby at_88) rfl rfl k) ?_
    refine own_callV (C := "com/example/assay_runner/assayrunner/report/ReportPage$Counts") (y := (⟨"com/example/assay_runner/assayrunner/report/ReportPage$Counts", "failed", "()I"⟩ : MethodName)) (b := b2) X9 hx hZ hown (hw _ (List.mem_of_getElem? (i := 44) rfl)) (hw _ (List.mem_of_getElem? (i := 45) rfl)) (hw _ (List.mem_of_getElem? (i := 47) rfl)) (hw _ (List.mem_of_getElem? (i := 46) rfl)) (hw _ (List.mem_of_getElem? (i := 48) rfl)) (hw _ (List.mem_of_getElem? (i := 6) rfl)) (by decide) hh9 ((A2.keep K3).keep K4) (hM := own_failed l Z a0 hw [] b2 i2 T4.heap n0 (Nat.le_trans (Nat.le_trans (Nat.le_trans Z0 E2.1) K3.1) K4.1) (Ff3.keep K4 nin0)) (W := 1) (pc := 90) (Ls := #[.val (.int i0), .val (.int i1), .val (.int i2), .val (.int i3), .val (.int kk), .val (.ref a_PASSED), .val (.ref b2), .val (.ref b4), .val (.int ((i0 + 1) - i0)), .val (.int ((i1 + 1) - i1)), .unset, .unset, .unset, .unset, .unset]) (argsL := []) (rest := [(.int i2)]) (st0 := [(.ref b2), (.int i2)]) (by rw [hml]; rfl) (lenOf own_pd3 rfl) rfl (Nat.le_of_eq rfl) (hb hby at_90) (by decide) (by decide) (by decide) (by decide) ?_
    intro v10 T10 L10 X10 hQ10
    obtain ⟨rfl, Nq10, hh10⟩ := hQ10
    have N10 := Fr.app N9 Nq10
    show own_Ends p e below s _ _ _ (T10.setTop (mkF m 93 #[.val (.int i0), .val (.int i1), .val (.int i2), .val (.int i3), .val (.int kk), .val (.ref a_PASSED), .val (.ref b2), .val (.ref b4), .val (.int ((i0 + 1) - i0)), .val (.int ((i1 + 1) - i1)), .unset, .unset, .unset, .unset, .unset] [(.int i2), (.int i2)]))
    refine own_pre (S' := (T10.setTop (mkF m 94 #[.val (.int i0), .val (.int i1), .val (.int i2), .val (.int i3), .val (.int kk), .val (.ref a_PASSED), .val (.ref b2), .val (.ref b4), .val (.int ((i0 + 1) - i0)), .val (.int ((i1 + 1) - i1)), .unset, .unset, .unset, .unset, .unset] [(.int (i2 - i2))]))) (fun t k => XS.isub X10.here hx rfl (hb hby at_93) rfl k) ?_
    refine own_pre (S' := (T10.setTop (mkF m 96 #[.val (.int i0), .val (.int i1), .val (.int i2), .val (.int i3), .val (.int kk), .val (.ref a_PASSED), .val (.ref b2), .val (.ref b4), .val (.int ((i0 + 1) - i0)), .val (.int ((i1 + 1) - i1)), .val (.int (i2 - i2)), .unset, .unset, .unset, .unset] []))) (fun t k => XS.istore X10.here hx rfl (hb hby at_94) rfl (l' := #[.val (.int i0), .val (.int i1), .val (.int i2), .val (.int i3), .val (.int kk), .val (.ref a_PASSED), .val (.ref b2), .val (.ref b4), .val (.int ((i0 + 1) - i0)), .val (.int ((i1 + 1) - i1)), .val (.int (i2 - i2)), .unset, .unset, .unset, .unset]) rfl k) ?_
    refine own_pre (S' := (T10.setTop (mkF m 98 #[.val (.int i0), .val (.int i1), .val (.int i2), .val (.int i3), .val (.int kk), .val (.ref a_PASSED), .val (.ref b2), .val (.ref b4), .val (.int ((i0 + 1) - i0)), .val (.int ((i1 + 1) - i1)), .val (.int (i2 - i2)), .unset, .unset, .unset, .unset] [(.ref b4)]))) (fun t k => XS.aload X10.here hx rfl (hb hby at_96) rfl rfl k) ?_
    refine own_callV (C := "com/example/assay_runner/assayrunner/report/ReportPage$Counts") (y := (⟨"com/example/assay_runner/assayrunner/report/ReportPage$Counts", "skipped", "()I"⟩ : MethodName)) (b := b4) X10 hx hZ hown (hw _ (List.mem_of_getElem? (i := 49) rfl)) (hw _ (List.mem_of_getElem? (i := 50) rfl)) (hw _ (List.mem_of_getElem? (i := 52) rfl)) (hw _ (List.mem_of_getElem? (i := 51) rfl)) (hw _ (List.mem_of_getElem? (i := 53) rfl)) (hw _ (List.mem_of_getElem? (i := 6) rfl)) (by decide) hh10 Eb4 (hM := own_skipped l Z a0 hw [] b4 (i0 + 1) (i1 + 1) i2 T4.heap n0 (Nat.le_trans (Nat.le_trans (Nat.le_trans Z0 E2.1) K3.1) K4.1) Ft4 Fp4 Ff4) (W := 0) (pc := 98) (Ls := #[.val (.int i0), .val (.int i1), .val (.int i2), .val (.int i3), .val (.int kk), .val (.ref a_PASSED), .val (.ref b2), .val (.ref b4), .val (.int ((i0 + 1) - i0)), .val (.int ((i1 + 1) - i1)), .val (.int (i2 - i2)), .unset, .unset, .unset, .unset]) (argsL := []) (rest := []) (st0 := [(.ref b4)]) (by rw [hml]; rfl) (lenOf own_pd3 rfl) rfl (Nat.le_of_eq rfl) (hb hby at_98) (by decide) (by decide) (by decide) (by decide) ?_
    intro v11 T11 L11 X11 hQ11
    obtain ⟨rfl, Nq11, hh11⟩ := hQ11
    have N11 := Fr.app N10 Nq11
    show own_Ends p e below s _ _ _ (T11.setTop (mkF m 101 #[.val (.int i0), .val (.int i1), .val (.int i2), .val (.int i3), .val (.int kk), .val (.ref a_PASSED), .val (.ref b2), .val (.ref b4), .val (.int ((i0 + 1) - i0)), .val (.int ((i1 + 1) - i1)), .val (.int (i2 - i2)), .unset, .unset, .unset, .unset] [(.int (((i0 + 1) - (i1 + 1)) - i2))]))
    refine own_pre (S' := (T11.setTop (mkF m 103 #[.val (.int i0), .val (.int i1), .val (.int i2), .val (.int i3), .val (.int kk), .val (.ref a_PASSED), .val (.ref b2), .val (.ref b4), .val (.int ((i0 + 1) - i0)), .val (.int ((i1 + 1) - i1)), .val (.int (i2 - i2)), .unset, .unset, .unset, .unset] [(.ref b2), (.int (((i0 + 1) - (i1 + 1)) - i2))]))) (fun t k => XS.aload X11.here hx rfl (hb hby at_101) rfl rfl k) ?_
    refine own_callV (C := "com/example/assay_runner/assayrunner/report/ReportPage$Counts") (y := (⟨"com/example/assay_runner/assayrunner/report/ReportPage$Counts", "skipped", "()I"⟩ : MethodName)) (b := b2) X11 hx hZ hown (hw _ (List.mem_of_getElem? (i := 49) rfl)) (hw _ (List.mem_of_getElem? (i := 50) rfl)) (hw _ (List.mem_of_getElem? (i := 52) rfl)) (hw _ (List.mem_of_getElem? (i := 51) rfl)) (hw _ (List.mem_of_getElem? (i := 53) rfl)) (hw _ (List.mem_of_getElem? (i := 6) rfl)) (by decide) hh11 ((A2.keep K3).keep K4) (hM := own_skipped l Z a0 hw [] b2 i0 i1 i2 T4.heap n0 (Nat.le_trans (Nat.le_trans (Nat.le_trans Z0 E2.1) K3.1) K4.1) (Ft3.keep K4 nin0) (Fp3.keep K4 nin0) (Ff3.keep K4 nin0)) (W := 1) (pc := 103) (Ls := #[.val (.int i0), .val (.int i1), .val (.int i2), .val (.int i3), .val (.int kk), .val (.ref a_PASSED), .val (.ref b2), .val (.ref b4), .val (.int ((i0 + 1) - i0)), .val (.int ((i1 + 1) - i1)), .val (.int (i2 - i2)), .unset, .unset, .unset, .unset]) (argsL := []) (rest := [(.int (((i0 + 1) - (i1 + 1)) - i2))]) (st0 := [(.ref b2), (.int (((i0 + 1) - (i1 + 1)) - i2))]) (by rw [hml]; rfl) (lenOf own_pd3 rfl) rfl (Nat.le_of_eq rfl) (hb hby at_103) (by decide) (by decide) (by decide) (by decide) ?_
    intro v12 T12 L12 X12 hQ12
    obtain ⟨rfl, Nq12, hh12⟩ := hQ12
    have N12 := Fr.app N11 Nq12
    show own_Ends p e below s _ _ _ (T12.setTop (mkF m 106 #[.val (.int i0), .val (.int i1), .val (.int i2), .val (.int i3), .val (.int kk), .val (.ref a_PASSED), .val (.ref b2), .val (.ref b4), .val (.int ((i0 + 1) - i0)), .val (.int ((i1 + 1) - i1)), .val (.int (i2 - i2)), .unset, .unset, .unset, .unset] [(.int ((i0 - i1) - i2)), (.int (((i0 + 1) - (i1 + 1)) - i2))]))
    refine own_pre (S' := (T12.setTop (mkF m 107 #[.val (.int i0), .val (.int i1), .val (.int i2), .val (.int i3), .val (.int kk), .val (.ref a_PASSED), .val (.ref b2), .val (.ref b4), .val (.int ((i0 + 1) - i0)), .val (.int ((i1 + 1) - i1)), .val (.int (i2 - i2)), .unset, .unset, .unset, .unset] [(.int ((((i0 + 1) - (i1 + 1)) - i2) - ((i0 - i1) - i2)))]))) (fun t k => XS.isub X12.here hx rfl (hb hby at_106) rfl k) ?_
    refine own_pre (S' := (T12.setTop (mkF m 109 #[.val (.int i0), .val (.int i1), .val (.int i2), .val (.int i3), .val (.int kk), .val (.ref a_PASSED), .val (.ref b2), .val (.ref b4), .val (.int ((i0 + 1) - i0)), .val (.int ((i1 + 1) - i1)), .val (.int (i2 - i2)), .val (.int ((((i0 + 1) - (i1 + 1)) - i2) - ((i0 - i1) - i2))), .unset, .unset, .unset] []))) (fun t k => XS.istore X12.here hx rfl (hb hby at_107) rfl (l' := #[.val (.int i0), .val (.int i1), .val (.int i2), .val (.int i3), .val (.int kk), .val (.ref a_PASSED), .val (.ref b2), .val (.ref b4), .val (.int ((i0 + 1) - i0)), .val (.int ((i1 + 1) - i1)), .val (.int (i2 - i2)), .val (.int ((((i0 + 1) - (i1 + 1)) - i2) - ((i0 - i1) - i2))), .unset, .unset, .unset]) rfl k) ?_
    refine own_pre (S' := (T12.setTop (mkF m 111 #[.val (.int i0), .val (.int i1), .val (.int i2), .val (.int i3), .val (.int kk), .val (.ref a_PASSED), .val (.ref b2), .val (.ref b4), .val (.int ((i0 + 1) - i0)), .val (.int ((i1 + 1) - i1)), .val (.int (i2 - i2)), .val (.int ((((i0 + 1) - (i1 + 1)) - i2) - ((i0 - i1) - i2))), .unset, .unset, .unset] [(.int kk)]))) (fun t k => XS.iload X12.here hx rfl (hb hby at_109) rfl k) ?_
    refine own_pre (S' := (T12.setTop (mkF m 114 #[.val (.int i0), .val (.int i1), .val (.int i2), .val (.int i3), .val (.int kk), .val (.ref a_PASSED), .val (.ref b2), .val (.ref b4), .val (.int ((i0 + 1) - i0)), .val (.int ((i1 + 1) - i1)), .val (.int (i2 - i2)), .val (.int ((((i0 + 1) - (i1 + 1)) - i2) - ((i0 - i1) - i2))), .unset, .unset, .unset] []))) (fun t k => XS.ifNo X12.here hx rfl (hb hby at_111) rfl ((if0 _ _).trans (teq c10).2) k) ?_
    refine own_pre (S' := (T12.setTop (mkF m 115 #[.val (.int i0), .val (.int i1), .val (.int i2), .val (.int i3), .val (.int kk), .val (.ref a_PASSED), .val (.ref b2), .val (.ref b4), .val (.int ((i0 + 1) - i0)), .val (.int ((i1 + 1) - i1)), .val (.int (i2 - i2)), .val (.int ((((i0 + 1) - (i1 + 1)) - i2) - ((i0 - i1) - i2))), .unset, .unset, .unset] [(.int (1 : Int32))]))) (fun t k => XS.iconst X12.here hx rfl (hb hby at_114) k) ?_
    refine own_pre (S' := (T12.setTop (mkF m 119 #[.val (.int i0), .val (.int i1), .val (.int i2), .val (.int i3), .val (.int kk), .val (.ref a_PASSED), .val (.ref b2), .val (.ref b4), .val (.int ((i0 + 1) - i0)), .val (.int ((i1 + 1) - i1)), .val (.int (i2 - i2)), .val (.int ((((i0 + 1) - (i1 + 1)) - i2) - ((i0 - i1) - i2))), .unset, .unset, .unset] [(.int (1 : Int32))]))) (fun t k => XS.goto X12.here hx rfl (pc0 := 115) (pc' := 119) rfl (hb hby at_115) (by decide) (by decide) k) ?_
    refine own_pre (S' := (T12.setTop (mkF m 121 #[.val (.int i0), .val (.int i1), .val (.int i2), .val (.int i3), .val (.int kk), .val (.ref a_PASSED), .val (.ref b2), .val (.ref b4), .val (.int ((i0 + 1) - i0)), .val (.int ((i1 + 1) - i1)), .val (.int (i2 - i2)), .val (.int ((((i0 + 1) - (i1 + 1)) - i2) - ((i0 - i1) - i2))), .val (.int (1 : Int32)), .unset, .unset] []))) (fun t k => XS.istore X12.here hx rfl (hb hby at_119) rfl (l' := #[.val (.int i0), .val (.int i1), .val (.int i2), .val (.int i3), .val (.int kk), .val (.ref a_PASSED), .val (.ref b2), .val (.ref b4), .val (.int ((i0 + 1) - i0)), .val (.int ((i1 + 1) - i1)), .val (.int (i2 - i2)), .val (.int ((((i0 + 1) - (i1 + 1)) - i2) - ((i0 - i1) - i2))), .val (.int (1 : Int32)), .unset, .unset]) rfl k) ?_
    refine own_pre (S' := (T12.setTop (mkF m 123 #[.val (.int i0), .val (.int i1), .val (.int i2), .val (.int i3), .val (.int kk), .val (.ref a_PASSED), .val (.ref b2), .val (.ref b4), .val (.int ((i0 + 1) - i0)), .val (.int ((i1 + 1) - i1)), .val (.int (i2 - i2)), .val (.int ((((i0 + 1) - (i1 + 1)) - i2) - ((i0 - i1) - i2))), .val (.int (1 : Int32)), .unset, .unset] [(.int kk)]))) (fun t k => XS.iload X12.here hx rfl (hb hby at_121) rfl k) ?_
    refine own_pre (S' := (T12.setTop (mkF m 124 #[.val (.int i0), .val (.int i1), .val (.int i2), .val (.int i3), .val (.int kk), .val (.ref a_PASSED), .val (.ref b2), .val (.ref b4), .val (.int ((i0 + 1) - i0)), .val (.int ((i1 + 1) - i1)), .val (.int (i2 - i2)), .val (.int ((((i0 + 1) - (i1 + 1)) - i2) - ((i0 - i1) - i2))), .val (.int (1 : Int32)), .unset, .unset] [(.int (1 : Int32)), (.int kk)]))) (fun t k => XS.iconst X12.here hx rfl (hb hby at_123) k) ?_
    refine own_pre (S' := (T12.setTop (mkF m 131 #[.val (.int i0), .val (.int i1), .val (.int i2), .val (.int i3), .val (.int kk), .val (.ref a_PASSED), .val (.ref b2), .val (.ref b4), .val (.int ((i0 + 1) - i0)), .val (.int ((i1 + 1) - i1)), .val (.int (i2 - i2)), .val (.int ((((i0 + 1) - (i1 + 1)) - i2) - ((i0 - i1) - i2))), .val (.int (1 : Int32)), .unset, .unset] []))) (fun t k => XS.icmpYes X12.here hx rfl (pc0 := 124) (pc' := 131) rfl (hb hby at_124) rfl (feq (by rw [c10]; decide)).2 (by decide) (by decide) k) ?_
    refine own_pre (S' := (T12.setTop (mkF m 132 #[.val (.int i0), .val (.int i1), .val (.int i2), .val (.int i3), .val (.int kk), .val (.ref a_PASSED), .val (.ref b2), .val (.ref b4), .val (.int ((i0 + 1) - i0)), .val (.int ((i1 + 1) - i1)), .val (.int (i2 - i2)), .val (.int ((((i0 + 1) - (i1 + 1)) - i2) - ((i0 - i1) - i2))), .val (.int (1 : Int32)), .unset, .unset] [(.int (0 : Int32))]))) (fun t k => XS.iconst X12.here hx rfl (hb hby at_131) k) ?_
    refine own_pre (S' := (T12.setTop (mkF m 134 #[.val (.int i0), .val (.int i1), .val (.int i2), .val (.int i3), .val (.int kk), .val (.ref a_PASSED), .val (.ref b2), .val (.ref b4), .val (.int ((i0 + 1) - i0)), .val (.int ((i1 + 1) - i1)), .val (.int (i2 - i2)), .val (.int ((((i0 + 1) - (i1 + 1)) - i2) - ((i0 - i1) - i2))), .val (.int (1 : Int32)), .val (.int (0 : Int32)), .unset] []))) (fun t k => XS.istore X12.here hx rfl (hb hby at_132) rfl (l' := #[.val (.int i0), .val (.int i1), .val (.int i2), .val (.int i3), .val (.int kk), .val (.ref a_PASSED), .val (.ref b2), .val (.ref b4), .val (.int ((i0 + 1) - i0)), .val (.int ((i1 + 1) - i1)), .val (.int (i2 - i2)), .val (.int ((((i0 + 1) - (i1 + 1)) - i2) - ((i0 - i1) - i2))), .val (.int (1 : Int32)), .val (.int (0 : Int32)), .unset]) rfl k) ?_
    refine own_pre (S' := (T12.setTop (mkF m 136 #[.val (.int i0), .val (.int i1), .val (.int i2), .val (.int i3), .val (.int kk), .val (.ref a_PASSED), .val (.ref b2), .val (.ref b4), .val (.int ((i0 + 1) - i0)), .val (.int ((i1 + 1) - i1)), .val (.int (i2 - i2)), .val (.int ((((i0 + 1) - (i1 + 1)) - i2) - ((i0 - i1) - i2))), .val (.int (1 : Int32)), .val (.int (0 : Int32)), .unset] [(.int kk)]))) (fun t k => XS.iload X12.here hx rfl (hb hby at_134) rfl k) ?_
    refine own_pre (S' := (T12.setTop (mkF m 137 #[.val (.int i0), .val (.int i1), .val (.int i2), .val (.int i3), .val (.int kk), .val (.ref a_PASSED), .val (.ref b2), .val (.ref b4), .val (.int ((i0 + 1) - i0)), .val (.int ((i1 + 1) - i1)), .val (.int (i2 - i2)), .val (.int ((((i0 + 1) - (i1 + 1)) - i2) - ((i0 - i1) - i2))), .val (.int (1 : Int32)), .val (.int (0 : Int32)), .unset] [(.int (2 : Int32)), (.int kk)]))) (fun t k => XS.iconst X12.here hx rfl (hb hby at_136) k) ?_
    refine own_pre (S' := (T12.setTop (mkF m 144 #[.val (.int i0), .val (.int i1), .val (.int i2), .val (.int i3), .val (.int kk), .val (.ref a_PASSED), .val (.ref b2), .val (.ref b4), .val (.int ((i0 + 1) - i0)), .val (.int ((i1 + 1) - i1)), .val (.int (i2 - i2)), .val (.int ((((i0 + 1) - (i1 + 1)) - i2) - ((i0 - i1) - i2))), .val (.int (1 : Int32)), .val (.int (0 : Int32)), .unset] []))) (fun t k => XS.icmpYes X12.here hx rfl (pc0 := 137) (pc' := 144) rfl (hb hby at_137) rfl (feq (by rw [c10]; decide)).2 (by decide) (by decide) k) ?_
    refine own_pre (S' := (T12.setTop (mkF m 145 #[.val (.int i0), .val (.int i1), .val (.int i2), .val (.int i3), .val (.int kk), .val (.ref a_PASSED), .val (.ref b2), .val (.ref b4), .val (.int ((i0 + 1) - i0)), .val (.int ((i1 + 1) - i1)), .val (.int (i2 - i2)), .val (.int ((((i0 + 1) - (i1 + 1)) - i2) - ((i0 - i1) - i2))), .val (.int (1 : Int32)), .val (.int (0 : Int32)), .unset] [(.int (0 : Int32))]))) (fun t k => XS.iconst X12.here hx rfl (hb hby at_144) k) ?_
    refine own_pre (S' := (T12.setTop (mkF m 147 #[.val (.int i0), .val (.int i1), .val (.int i2), .val (.int i3), .val (.int kk), .val (.ref a_PASSED), .val (.ref b2), .val (.ref b4), .val (.int ((i0 + 1) - i0)), .val (.int ((i1 + 1) - i1)), .val (.int (i2 - i2)), .val (.int ((((i0 + 1) - (i1 + 1)) - i2) - ((i0 - i1) - i2))), .val (.int (1 : Int32)), .val (.int (0 : Int32)), .val (.int (0 : Int32))] []))) (fun t k => XS.istore X12.here hx rfl (hb hby at_145) rfl (l' := #[.val (.int i0), .val (.int i1), .val (.int i2), .val (.int i3), .val (.int kk), .val (.ref a_PASSED), .val (.ref b2), .val (.ref b4), .val (.int ((i0 + 1) - i0)), .val (.int ((i1 + 1) - i1)), .val (.int (i2 - i2)), .val (.int ((((i0 + 1) - (i1 + 1)) - i2) - ((i0 - i1) - i2))), .val (.int (1 : Int32)), .val (.int (0 : Int32)), .val (.int (0 : Int32))]) rfl k) ?_
    refine own_pre (S' := (T12.setTop (mkF m 149 #[.val (.int i0), .val (.int i1), .val (.int i2), .val (.int i3), .val (.int kk), .val (.ref a_PASSED), .val (.ref b2), .val (.ref b4), .val (.int ((i0 + 1) - i0)), .val (.int ((i1 + 1) - i1)), .val (.int (i2 - i2)), .val (.int ((((i0 + 1) - (i1 + 1)) - i2) - ((i0 - i1) - i2))), .val (.int (1 : Int32)), .val (.int (0 : Int32)), .val (.int (0 : Int32))] [(.int ((i0 + 1) - i0))]))) (fun t k => XS.iload X12.here hx rfl (hb hby at_147) rfl k) ?_
    refine own_pre (S' := (T12.setTop (mkF m 150 #[.val (.int i0), .val (.int i1), .val (.int i2), .val (.int i3), .val (.int kk), .val (.ref a_PASSED), .val (.ref b2), .val (.ref b4), .val (.int ((i0 + 1) - i0)), .val (.int ((i1 + 1) - i1)), .val (.int (i2 - i2)), .val (.int ((((i0 + 1) - (i1 + 1)) - i2) - ((i0 - i1) - i2))), .val (.int (1 : Int32)), .val (.int (0 : Int32)), .val (.int (0 : Int32))] [(.int (1 : Int32)), (.int ((i0 + 1) - i0))]))) (fun t k => XS.iconst X12.here hx rfl (hb hby at_149) k) ?_
    refine own_pre (S' := (T12.setTop (mkF m 153 #[.val (.int i0), .val (.int i1), .val (.int i2), .val (.int i3), .val (.int kk), .val (.ref a_PASSED), .val (.ref b2), .val (.ref b4), .val (.int ((i0 + 1) - i0)), .val (.int ((i1 + 1) - i1)), .val (.int (i2 - i2)), .val (.int ((((i0 + 1) - (i1 + 1)) - i2) - ((i0 - i1) - i2))), .val (.int (1 : Int32)), .val (.int (0 : Int32)), .val (.int (0 : Int32))] []))) (fun t k => XS.icmpNo X12.here hx rfl (hb hby at_150) rfl (teq (own_s0 i0 i1 i2)).2 k) ?_
    refine own_pre (S' := (T12.setTop (mkF m 155 #[.val (.int i0), .val (.int i1), .val (.int i2), .val (.int i3), .val (.int kk), .val (.ref a_PASSED), .val (.ref b2), .val (.ref b4), .val (.int ((i0 + 1) - i0)), .val (.int ((i1 + 1) - i1)), .val (.int (i2 - i2)), .val (.int ((((i0 + 1) - (i1 + 1)) - i2) - ((i0 - i1) - i2))), .val (.int (1 : Int32)), .val (.int (0 : Int32)), .val (.int (0 : Int32))] [(.int ((i1 + 1) - i1))]))) (fun t k => XS.iload X12.here hx rfl (hb hby at_153) rfl k) ?_
    refine own_pre (S' := (T12.setTop (mkF m 157 #[.val (.int i0), .val (.int i1), .val (.int i2), .val (.int i3), .val (.int kk), .val (.ref a_PASSED), .val (.ref b2), .val (.ref b4), .val (.int ((i0 + 1) - i0)), .val (.int ((i1 + 1) - i1)), .val (.int (i2 - i2)), .val (.int ((((i0 + 1) - (i1 + 1)) - i2) - ((i0 - i1) - i2))), .val (.int (1 : Int32)), .val (.int (0 : Int32)), .val (.int (0 : Int32))] [(.int (1 : Int32)), (.int ((i1 + 1) - i1))]))) (fun t k => XS.iload X12.here hx rfl (hb hby at_155) rfl k) ?_
    refine own_pre (S' := (T12.setTop (mkF m 160 #[.val (.int i0), .val (.int i1), .val (.int i2), .val (.int i3), .val (.int kk), .val (.ref a_PASSED), .val (.ref b2), .val (.ref b4), .val (.int ((i0 + 1) - i0)), .val (.int ((i1 + 1) - i1)), .val (.int (i2 - i2)), .val (.int ((((i0 + 1) - (i1 + 1)) - i2) - ((i0 - i1) - i2))), .val (.int (1 : Int32)), .val (.int (0 : Int32)), .val (.int (0 : Int32))] []))) (fun t k => XS.icmpNo X12.here hx rfl (hb hby at_157) rfl (teq (own_s1 i0 i1 i2)).2 k) ?_
    refine own_pre (S' := (T12.setTop (mkF m 162 #[.val (.int i0), .val (.int i1), .val (.int i2), .val (.int i3), .val (.int kk), .val (.ref a_PASSED), .val (.ref b2), .val (.ref b4), .val (.int ((i0 + 1) - i0)), .val (.int ((i1 + 1) - i1)), .val (.int (i2 - i2)), .val (.int ((((i0 + 1) - (i1 + 1)) - i2) - ((i0 - i1) - i2))), .val (.int (1 : Int32)), .val (.int (0 : Int32)), .val (.int (0 : Int32))] [(.int (i2 - i2))]))) (fun t k => XS.iload X12.here hx rfl (hb hby at_160) rfl k) ?_
    refine own_pre (S' := (T12.setTop (mkF m 164 #[.val (.int i0), .val (.int i1), .val (.int i2), .val (.int i3), .val (.int kk), .val (.ref a_PASSED), .val (.ref b2), .val (.ref b4), .val (.int ((i0 + 1) - i0)), .val (.int ((i1 + 1) - i1)), .val (.int (i2 - i2)), .val (.int ((((i0 + 1) - (i1 + 1)) - i2) - ((i0 - i1) - i2))), .val (.int (1 : Int32)), .val (.int (0 : Int32)), .val (.int (0 : Int32))] [(.int (0 : Int32)), (.int (i2 - i2))]))) (fun t k => XS.iload X12.here hx rfl (hb hby at_162) rfl k) ?_
    refine own_pre (S' := (T12.setTop (mkF m 167 #[.val (.int i0), .val (.int i1), .val (.int i2), .val (.int i3), .val (.int kk), .val (.ref a_PASSED), .val (.ref b2), .val (.ref b4), .val (.int ((i0 + 1) - i0)), .val (.int ((i1 + 1) - i1)), .val (.int (i2 - i2)), .val (.int ((((i0 + 1) - (i1 + 1)) - i2) - ((i0 - i1) - i2))), .val (.int (1 : Int32)), .val (.int (0 : Int32)), .val (.int (0 : Int32))] []))) (fun t k => XS.icmpNo X12.here hx rfl (hb hby at_164) rfl (teq (own_s2 i0 i1 i2)).2 k) ?_
    refine own_pre (S' := (T12.setTop (mkF m 169 #[.val (.int i0), .val (.int i1), .val (.int i2), .val (.int i3), .val (.int kk), .val (.ref a_PASSED), .val (.ref b2), .val (.ref b4), .val (.int ((i0 + 1) - i0)), .val (.int ((i1 + 1) - i1)), .val (.int (i2 - i2)), .val (.int ((((i0 + 1) - (i1 + 1)) - i2) - ((i0 - i1) - i2))), .val (.int (1 : Int32)), .val (.int (0 : Int32)), .val (.int (0 : Int32))] [(.int ((((i0 + 1) - (i1 + 1)) - i2) - ((i0 - i1) - i2)))]))) (fun t k => XS.iload X12.here hx rfl (hb hby at_167) rfl k) ?_
    refine own_pre (S' := (T12.setTop (mkF m 171 #[.val (.int i0), .val (.int i1), .val (.int i2), .val (.int i3), .val (.int kk), .val (.ref a_PASSED), .val (.ref b2), .val (.ref b4), .val (.int ((i0 + 1) - i0)), .val (.int ((i1 + 1) - i1)), .val (.int (i2 - i2)), .val (.int ((((i0 + 1) - (i1 + 1)) - i2) - ((i0 - i1) - i2))), .val (.int (1 : Int32)), .val (.int (0 : Int32)), .val (.int (0 : Int32))] [(.int (0 : Int32)), (.int ((((i0 + 1) - (i1 + 1)) - i2) - ((i0 - i1) - i2)))]))) (fun t k => XS.iload X12.here hx rfl (hb hby at_169) rfl k) ?_
    refine own_pre (S' := (T12.setTop (mkF m 174 #[.val (.int i0), .val (.int i1), .val (.int i2), .val (.int i3), .val (.int kk), .val (.ref a_PASSED), .val (.ref b2), .val (.ref b4), .val (.int ((i0 + 1) - i0)), .val (.int ((i1 + 1) - i1)), .val (.int (i2 - i2)), .val (.int ((((i0 + 1) - (i1 + 1)) - i2) - ((i0 - i1) - i2))), .val (.int (1 : Int32)), .val (.int (0 : Int32)), .val (.int (0 : Int32))] []))) (fun t k => XS.icmpNo X12.here hx rfl (hb hby at_171) rfl (teq (own_s3 i0 i1 i2)).2 k) ?_
    refine own_pre (S' := (T12.setTop (mkF m 175 #[.val (.int i0), .val (.int i1), .val (.int i2), .val (.int i3), .val (.int kk), .val (.ref a_PASSED), .val (.ref b2), .val (.ref b4), .val (.int ((i0 + 1) - i0)), .val (.int ((i1 + 1) - i1)), .val (.int (i2 - i2)), .val (.int ((((i0 + 1) - (i1 + 1)) - i2) - ((i0 - i1) - i2))), .val (.int (1 : Int32)), .val (.int (0 : Int32)), .val (.int (0 : Int32))] [(.int (1 : Int32))]))) (fun t k => XS.iconst X12.here hx rfl (hb hby at_174) k) ?_
    refine own_pre (S' := (T12.setTop (mkF m 179 #[.val (.int i0), .val (.int i1), .val (.int i2), .val (.int i3), .val (.int kk), .val (.ref a_PASSED), .val (.ref b2), .val (.ref b4), .val (.int ((i0 + 1) - i0)), .val (.int ((i1 + 1) - i1)), .val (.int (i2 - i2)), .val (.int ((((i0 + 1) - (i1 + 1)) - i2) - ((i0 - i1) - i2))), .val (.int (1 : Int32)), .val (.int (0 : Int32)), .val (.int (0 : Int32))] [(.int (1 : Int32))]))) (fun t k => XS.goto X12.here hx rfl (pc0 := 175) (pc' := 179) rfl (hb hby at_175) (by decide) (by decide) k) ?_
    refine own_ret (t := .boolean) X12 hx hlk hrt rfl (Or.inl ⟨rfl, by simp, _, rfl⟩) (hb hby at_179) (by decide) (by decide) ?_
    exact ⟨rfl, N12⟩
  · -- pc 10: not kk = (0 : Int32)
    refine own_pre (S' := (T0.setTop (mkF m 19 #[.val (.int i0), .val (.int i1), .val (.int i2), .val (.int i3), .val (.int kk), .unset, .unset, .unset, .unset, .unset, .unset, .unset, .unset, .unset, .unset] []))) (fun t k => XS.ifYes X0.here hx rfl (pc0 := 10) (pc' := 19) rfl (hb hby at_10) rfl ((if0 _ _).trans (feq c10).2) (by decide) (by decide) k) ?_
    refine own_pre (S' := (T0.setTop (mkF m 21 #[.val (.int i0), .val (.int i1), .val (.int i2), .val (.int i3), .val (.int kk), .unset, .unset, .unset, .unset, .unset, .unset, .unset, .unset, .unset, .unset] [(.int kk)]))) (fun t k => XS.iload X0.here hx rfl (hb hby at_19) rfl k) ?_
    refine own_pre (S' := (T0.setTop (mkF m 22 #[.val (.int i0), .val (.int i1), .val (.int i2), .val (.int i3), .val (.int kk), .unset, .unset, .unset, .unset, .unset, .unset, .unset, .unset, .unset, .unset] [(.int (1 : Int32)), (.int kk)]))) (fun t k => XS.iconst X0.here hx rfl (hb hby at_21) k) ?_
    by_cases c22 : kk = (1 : Int32)
    · -- pc 22: kk = (1 : Int32)
      refine own_pre (S' := (T0.setTop (mkF m 25 #[.val (.int i0), .val (.int i1), .val (.int i2), .val (.int i3), .val (.int kk), .unset, .unset, .unset, .unset, .unset, .unset, .unset, .unset, .unset, .unset] []))) (fun t k => XS.icmpNo X0.here hx rfl (hb hby at_22) rfl (teq c22).2 k) ?_
      obtain ⟨T13, X13, e13, st13⟩ := getS2 X0 hx hZ hown (host := "") (Or.inl (hw _ (List.mem_of_getElem? (i := 1) rfl))) Via.refl e0 S_FAILED (g := (mkF m 25 #[.val (.int i0), .val (.int i1), .val (.int i2), .val (.int i3), .val (.int kk), .unset, .unset, .unset, .unset, .unset, .unset, .unset, .unset, .unset, .unset] [])) rfl (hb hby at_25)
      refine own_pre (S' := (T13.setTop (mkF m 28 #[.val (.int i0), .val (.int i1), .val (.int i2), .val (.int i3), .val (.int kk), .unset, .unset, .unset, .unset, .unset, .unset, .unset, .unset, .unset, .unset] [(.ref a_FAILED)]))) st13 ?_
      refine own_pre (S' := (T13.setTop (mkF m 34 #[.val (.int i0), .val (.int i1), .val (.int i2), .val (.int i3), .val (.int kk), .unset, .unset, .unset, .unset, .unset, .unset, .unset, .unset, .unset, .unset] [(.ref a_FAILED)]))) (fun t k => XS.goto X13.here hx rfl (pc0 := 28) (pc' := 34) rfl (hb hby at_28) (by decide) (by decide) k) ?_
      refine own_pre (S' := (T13.setTop (mkF m 36 #[.val (.int i0), .val (.int i1), .val (.int i2), .val (.int i3), .val (.int kk), .val (.ref a_FAILED), .unset, .unset, .unset, .unset, .unset, .unset, .unset, .unset, .unset] []))) (fun t k => XS.astore X13.here hx rfl (hb hby at_34) rfl rfl (l' := #[.val (.int i0), .val (.int i1), .val (.int i2), .val (.int i3), .val (.int kk), .val (.ref a_FAILED), .unset, .unset, .unset, .unset, .unset, .unset, .unset, .unset, .unset]) rfl k) ?_
      obtain ⟨T14, h14, X14, e14, E14, A14, D14, -, st14⟩ := newO X13 hx hZ hown (hw _ (List.mem_of_getElem? (i := 4) rfl)) (hw _ (List.mem_of_getElem? (i := 5) rfl)) (hw _ (List.mem_of_getElem? (i := 6) rfl)) e13 (g := (mkF m 36 #[.val (.int i0), .val (.int i1), .val (.int i2), .val (.int i3), .val (.int kk), .val (.ref a_FAILED), .unset, .unset, .unset, .unset, .unset, .unset, .unset, .unset, .unset] [])) rfl (hb hby at_36) (by decide) (by decide)
      obtain ⟨b14, g14⟩ : ∃ z, z = h0.size := ⟨_, rfl⟩
      rw [← g14] at A14 D14 st14
      have sz_b14 : h0.size ≤ b14 := Nat.le_trans (Nat.le_refl h0.size) (Nat.le_of_eq g14.symm)
      have ge_b14 : n0 ≤ b14 := Nat.le_trans Z0 (Nat.le_of_eq g14.symm)
      have ne_a_FAILED_b14 : a_FAILED ≠ b14 := Nat.ne_of_lt (Nat.lt_of_lt_of_le E_FAILED.lt (Nat.le_of_eq g14.symm))
      have ne_a_PASSED_b14 : a_PASSED ≠ b14 := Nat.ne_of_lt (Nat.lt_of_lt_of_le E_PASSED.lt (Nat.le_of_eq g14.symm))
      have ne_a_SKIPPED_b14 : a_SKIPPED ≠ b14 := Nat.ne_of_lt (Nat.lt_of_lt_of_le E_SKIPPED.lt (Nat.le_of_eq g14.symm))
      have F14_tests : Fld Z h14 b14 "com/example/assay_runner/assayrunner/report/ReportPage$Counts" "tests" "I" (.int (0 : Int32)) := D14 (Or.inr (hw _ (List.mem_of_getElem? (i := 19) rfl))) (ty := .int) (by decide)
      have F14_passed : Fld Z h14 b14 "com/example/assay_runner/assayrunner/report/ReportPage$Counts" "passed" "I" (.int (0 : Int32)) := D14 (Or.inr (hw _ (List.mem_of_getElem? (i := 21) rfl))) (ty := .int) (by decide)
      have F14_failed : Fld Z h14 b14 "com/example/assay_runner/assayrunner/report/ReportPage$Counts" "failed" "I" (.int (0 : Int32)) := D14 (Or.inr (hw _ (List.mem_of_getElem? (i := 23) rfl))) (ty := .int) (by decide)
      refine own_pre (S' := (T14.setTop (mkF m 39 #[.val (.int i0), .val (.int i1), .val (.int i2), .val (.int i3), .val (.int kk), .val (.ref a_FAILED), .unset, .unset, .unset, .unset, .unset, .unset, .unset, .unset, .unset] [(.ref b14)]))) st14 ?_
      refine own_pre (S' := (T14.setTop (mkF m 40 #[.val (.int i0), .val (.int i1), .val (.int i2), .val (.int i3), .val (.int kk), .val (.ref a_FAILED), .unset, .unset, .unset, .unset, .unset, .unset, .unset, .unset, .unset] [(.ref b14), (.ref b14)]))) (fun t k => XS.dup X14.here hx rfl (hb hby at_39) rfl rfl k) ?_
      refine own_pre (S' := (T14.setTop (mkF m 41 #[.val (.int i0), .val (.int i1), .val (.int i2), .val (.int i3), .val (.int kk), .val (.ref a_FAILED), .unset, .unset, .unset, .unset, .unset, .unset, .unset, .unset, .unset] [(.int i0), (.ref b14), (.ref b14)]))) (fun t k => XS.iloadN X14.here hx rfl (hb hby at_40) rfl k) ?_
      refine own_pre (S' := (T14.setTop (mkF m 42 #[.val (.int i0), .val (.int i1), .val (.int i2), .val (.int i3), .val (.int kk), .val (.ref a_FAILED), .unset, .unset, .unset, .unset, .unset, .unset, .unset, .unset, .unset] [(.int i1), (.int i0), (.ref b14), (.ref b14)]))) (fun t k => XS.iloadN X14.here hx rfl (hb hby at_41) rfl k) ?_
      refine own_pre (S' := (T14.setTop (mkF m 43 #[.val (.int i0), .val (.int i1), .val (.int i2), .val (.int i3), .val (.int kk), .val (.ref a_FAILED), .unset, .unset, .unset, .unset, .unset, .unset, .unset, .unset, .unset] [(.int i2), (.int i1), (.int i0), (.ref b14), (.ref b14)]))) (fun t k => XS.iloadN X14.here hx rfl (hb hby at_42) rfl k) ?_
      refine own_callI (y := (⟨"com/example/assay_runner/assayrunner/report/ReportPage$Counts", "<init>", "(III)V"⟩ : MethodName)) (b := b14) X14 hx hZ hown rfl (hw _ (List.mem_of_getElem? (i := 7) rfl)) (hw _ (List.mem_of_getElem? (i := 8) rfl)) (hw _ (List.mem_of_getElem? (i := 9) rfl)) (hw _ (List.mem_of_getElem? (i := 6) rfl)) (by decide) e14 (hM := own_ci l Z a0 hw [] b14 i0 i1 i2 h14 n0 (Nat.le_trans Z0 E14.1) F14_tests F14_passed F14_failed A14 ge_b14) (W := 1) (pc := 43) (Ls := #[.val (.int i0), .val (.int i1), .val (.int i2), .val (.int i3), .val (.int kk), .val (.ref a_FAILED), .unset, .unset, .unset, .unset, .unset, .unset, .unset, .unset, .unset]) (argsL := [(.int i0), (.int i1), (.int i2)]) (rest := [(.ref b14)]) (st0 := [(.int i2), (.int i1), (.int i0), (.ref b14), (.ref b14)]) (by rw [hml]; rfl) (lenOf own_pd1 rfl) rfl (Nat.le_of_eq rfl) (hb hby at_43) (by decide) (by decide) (by decide) (by decide) ?_
      intro v15 T15 L15 X15 hQ15
      obtain ⟨rfl, Nq15, K15, Ft15, Fp15, Ff15⟩ := hQ15
      have N15 := Fr.app N0 Nq15
      show own_Ends p e below s _ _ _ (T15.setTop (mkF m 46 #[.val (.int i0), .val (.int i1), .val (.int i2), .val (.int i3), .val (.int kk), .val (.ref a_FAILED), .unset, .unset, .unset, .unset, .unset, .unset, .unset, .unset, .unset] [(.ref b14)]))
      refine own_pre (S' := (T15.setTop (mkF m 48 #[.val (.int i0), .val (.int i1), .val (.int i2), .val (.int i3), .val (.int kk), .val (.ref a_FAILED), .val (.ref b14), .unset, .unset, .unset, .unset, .unset, .unset, .unset, .unset] []))) (fun t k => XS.astore X15.here hx rfl (hb hby at_46) rfl rfl (l' := #[.val (.int i0), .val (.int i1), .val (.int i2), .val (.int i3), .val (.int kk), .val (.ref a_FAILED), .val (.ref b14), .unset, .unset, .unset, .unset, .unset, .unset, .unset, .unset]) rfl k) ?_
      refine own_pre (S' := (T15.setTop (mkF m 50 #[.val (.int i0), .val (.int i1), .val (.int i2), .val (.int i3), .val (.int kk), .val (.ref a_FAILED), .val (.ref b14), .unset, .unset, .unset, .unset, .unset, .unset, .unset, .unset] [(.ref b14)]))) (fun t k => XS.aload X15.here hx rfl (hb hby at_48) rfl rfl k) ?_
      refine own_pre (S' := (T15.setTop (mkF m 52 #[.val (.int i0), .val (.int i1), .val (.int i2), .val (.int i3), .val (.int kk), .val (.ref a_FAILED), .val (.ref b14), .unset, .unset, .unset, .unset, .unset, .unset, .unset, .unset] [(.ref a_FAILED), (.ref b14)]))) (fun t k => XS.aload X15.here hx rfl (hb hby at_50) rfl rfl k) ?_
      refine own_callV (C := "com/example/assay_runner/assayrunner/report/ReportPage$Counts") (y := (⟨"com/example/assay_runner/assayrunner/report/ReportPage$Counts", "with", "(Lcom/example/assay_runner/assayrunner/report/ReportPage$Status;)Lcom/example/assay_runner/assayrunner/report/ReportPage$Counts;"⟩ : MethodName)) (b := b14) X15 hx hZ hown (hw _ (List.mem_of_getElem? (i := 24) rfl)) (hw _ (List.mem_of_getElem? (i := 25) rfl)) (hw _ (List.mem_of_getElem? (i := 27) rfl)) (hw _ (List.mem_of_getElem? (i := 26) rfl)) (hw _ (List.mem_of_getElem? (i := 28) rfl)) (hw _ (List.mem_of_getElem? (i := 6) rfl)) (by decide) (rfl : T15.heap = T15.heap) (A14.keep K15) (hM := own_with l Z a0 hw [] b14 a_FAILED a_PASSED a_FAILED i0 i1 i2 i1 (i2 + 1) T15.heap n0 (Nat.le_trans (Nat.le_trans Z0 E14.1) K15.1) Ft15 Fp15 Ff15 (own_sta_keep (S_PASSED.ext E14) K15 (allS (own_plainE A14) all0)) (own_sta_keep (S_FAILED.ext E14) K15 (allS (own_plainE A14) all0)) (if_neg ne_FAILED_PASSED) (if_pos rfl)) (W := 0) (pc := 52) (Ls := #[.val (.int i0), .val (.int i1), .val (.int i2), .val (.int i3), .val (.int kk), .val (.ref a_FAILED), .val (.ref b14), .unset, .unset, .unset, .unset, .unset, .unset, .unset, .unset]) (argsL := [(.ref a_FAILED)]) (rest := []) (st0 := [(.ref a_FAILED), (.ref b14)]) (by rw [hml]; rfl) (lenOf own_pd2 rfl) rfl (Nat.le_of_eq rfl) (hb hby at_52) (by decide) (by decide) (by decide) (by decide) ?_
      intro v16 T16 L16 X16 hQ16
      obtain ⟨b16, rfl, Nq16, K16, Eb16, Ft16, Fp16, Ff16, ge_b16⟩ := hQ16
      have N16 := Fr.app N15 Nq16
      show own_Ends p e below s _ _ _ (T16.setTop (mkF m 55 #[.val (.int i0), .val (.int i1), .val (.int i2), .val (.int i3), .val (.int kk), .val (.ref a_FAILED), .val (.ref b14), .unset, .unset, .unset, .unset, .unset, .unset, .unset, .unset] [(.ref b16)]))
      refine own_pre (S' := (T16.setTop (mkF m 57 #[.val (.int i0), .val (.int i1), .val (.int i2), .val (.int i3), .val (.int kk), .val (.ref a_FAILED), .val (.ref b14), .val (.ref b16), .unset, .unset, .unset, .unset, .unset, .unset, .unset] []))) (fun t k => XS.astore X16.here hx rfl (hb hby at_55) rfl rfl (l' := #[.val (.int i0), .val (.int i1), .val (.int i2), .val (.int i3), .val (.int kk), .val (.ref a_FAILED), .val (.ref b14), .val (.ref b16), .unset, .unset, .unset, .unset, .unset, .unset, .unset]) rfl k) ?_
      refine own_pre (S' := (T16.setTop (mkF m 59 #[.val (.int i0), .val (.int i1), .val (.int i2), .val (.int i3), .val (.int kk), .val (.ref a_FAILED), .val (.ref b14), .val (.ref b16), .unset, .unset, .unset, .unset, .unset, .unset, .unset] [(.ref b16)]))) (fun t k => XS.aload X16.here hx rfl (hb hby at_57) rfl rfl k) ?_
      refine own_callV (C := "com/example/assay_runner/assayrunner/report/ReportPage$Counts") (y := (⟨"com/example/assay_runner/assayrunner/report/ReportPage$Counts", "tests", "()I"⟩ : MethodName)) (b := b16) X16 hx hZ hown (hw _ (List.mem_of_getElem? (i := 34) rfl)) (hw _ (List.mem_of_getElem? (i := 35) rfl)) (hw _ (List.mem_of_getElem? (i := 37) rfl)) (hw _ (List.mem_of_getElem? (i := 36) rfl)) (hw _ (List.mem_of_getElem? (i := 38) rfl)) (hw _ (List.mem_of_getElem? (i := 6) rfl)) (by decide) (rfl : T16.heap = T16.heap) Eb16 (hM := own_tests l Z a0 hw [] b16 (i0 + 1) T16.heap n0 (Nat.le_trans (Nat.le_trans (Nat.le_trans Z0 E14.1) K15.1) K16.1) Ft16) (W := 0) (pc := 59) (Ls := #[.val (.int i0), .val (.int i1), .val (.int i2), .val (.int i3), .val (.int kk), .val (.ref a_FAILED), .val (.ref b14), .val (.ref b16), .unset, .unset, .unset, .unset, .unset, .unset, .unset]) (argsL := []) (rest := []) (st0 := [(.ref b16)]) (by rw [hml]; rfl) (lenOf own_pd3 rfl) rfl (Nat.le_of_eq rfl) (hb hby at_59) (by decide) (by decide) (by decide) (by decide) ?_
      intro v17 T17 L17 X17 hQ17
      obtain ⟨rfl, Nq17, hh17⟩ := hQ17
      have N17 := Fr.app N16 Nq17
      show own_Ends p e below s _ _ _ (T17.setTop (mkF m 62 #[.val (.int i0), .val (.int i1), .val (.int i2), .val (.int i3), .val (.int kk), .val (.ref a_FAILED), .val (.ref b14), .val (.ref b16), .unset, .unset, .unset, .unset, .unset, .unset, .unset] [(.int (i0 + 1))]))
      refine own_pre (S' := (T17.setTop (mkF m 64 #[.val (.int i0), .val (.int i1), .val (.int i2), .val (.int i3), .val (.int kk), .val (.ref a_FAILED), .val (.ref b14), .val (.ref b16), .unset, .unset, .unset, .unset, .unset, .unset, .unset] [(.ref b14), (.int (i0 + 1))]))) (fun t k => XS.aload X17.here hx rfl (hb hby at_62) rfl rfl k) ?_
      refine own_callV (C := "com/example/assay_runner/assayrunner/report/ReportPage$Counts") (y := (⟨"com/example/assay_runner/assayrunner/report/ReportPage$Counts", "tests", "()I"⟩ : MethodName)) (b := b14) X17 hx hZ hown (hw _ (List.mem_of_getElem? (i := 34) rfl)) (hw _ (List.mem_of_getElem? (i := 35) rfl)) (hw _ (List.mem_of_getElem? (i := 37) rfl)) (hw _ (List.mem_of_getElem? (i := 36) rfl)) (hw _ (List.mem_of_getElem? (i := 38) rfl)) (hw _ (List.mem_of_getElem? (i := 6) rfl)) (by decide) hh17 ((A14.keep K15).keep K16) (hM := own_tests l Z a0 hw [] b14 i0 T16.heap n0 (Nat.le_trans (Nat.le_trans (Nat.le_trans Z0 E14.1) K15.1) K16.1) (Ft15.keep K16 nin0)) (W := 1) (pc := 64) (Ls := #[.val (.int i0), .val (.int i1), .val (.int i2), .val (.int i3), .val (.int kk), .val (.ref a_FAILED), .val (.ref b14), .val (.ref b16), .unset, .unset, .unset, .unset, .unset, .unset, .unset]) (argsL := []) (rest := [(.int (i0 + 1))]) (st0 := [(.ref b14), (.int (i0 + 1))]) (by rw [hml]; rfl) (lenOf own_pd3 rfl) rfl (Nat.le_of_eq rfl) (hb hby at_64) (by decide) (by decide) (by decide) (by decide) ?_
      intro v18 T18 L18 X18 hQ18
      obtain ⟨rfl, Nq18, hh18⟩ := hQ18
      have N18 := Fr.app N17 Nq18
      show own_Ends p e below s _ _ _ (T18.setTop (mkF m 67 #[.val (.int i0), .val (.int i1), .val (.int i2), .val (.int i3), .val (.int kk), .val (.ref a_FAILED), .val (.ref b14), .val (.ref b16), .unset, .unset, .unset, .unset, .unset, .unset, .unset] [(.int i0), (.int (i0 + 1))]))
      refine own_pre (S' := (T18.setTop (mkF m 68 #[.val (.int i0), .val (.int i1), .val (.int i2), .val (.int i3), .val (.int kk), .val (.ref a_FAILED), .val (.ref b14), .val (.ref b16), .unset, .unset, .unset, .unset, .unset, .unset, .unset] [(.int ((i0 + 1) - i0))]))) (fun t k => XS.isub X18.here hx rfl (hb hby at_67) rfl k) ?_
      refine own_pre (S' := (T18.setTop (mkF m 70 #[.val (.int i0), .val (.int i1), .val (.int i2), .val (.int i3), .val (.int kk), .val (.ref a_FAILED), .val (.ref b14), .val (.ref b16), .val (.int ((i0 + 1) - i0)), .unset, .unset, .unset, .unset, .unset, .unset] []))) (fun t k => XS.istore X18.here hx rfl (hb hby at_68) rfl (l' := #[.val (.int i0), .val (.int i1), .val (.int i2), .val (.int i3), .val (.int kk), .val (.ref a_FAILED), .val (.ref b14), .val (.ref b16), .val (.int ((i0 + 1) - i0)), .unset, .unset, .unset, .unset, .unset, .unset]) rfl k) ?_
      refine own_pre (S' := (T18.setTop (mkF m 72 #[.val (.int i0), .val (.int i1), .val (.int i2), .val (.int i3), .val (.int kk), .val (.ref a_FAILED), .val (.ref b14), .val (.ref b16), .val (.int ((i0 + 1) - i0)), .unset, .unset, .unset, .unset, .unset, .unset] [(.ref b16)]))) (fun t k => XS.aload X18.here hx rfl (hb hby at_70) rfl rfl k) ?_
      refine own_callV (C := "com/example/assay_runner/assayrunner/report/ReportPage$Counts") (y := (⟨"com/example/assay_runner/assayrunner/report/ReportPage$Counts", "passed", "()I"⟩ : MethodName)) (b := b16) X18 hx hZ hown (hw _ (List.mem_of_getElem? (i := 39) rfl)) (hw _ (List.mem_of_getElem? (i := 40) rfl)) (hw _ (List.mem_of_getElem? (i := 42) rfl)) (hw _ (List.mem_of_getElem? (i := 41) rfl)) (hw _ (List.mem_of_getElem? (i := 43) rfl)) (hw _ (List.mem_of_getElem? (i := 6) rfl)) (by decide) hh18 Eb16 (hM := own_passed l Z a0 hw [] b16 i1 T16.heap n0 (Nat.le_trans (Nat.le_trans (Nat.le_trans Z0 E14.1) K15.1) K16.1) Fp16) (W := 0) (pc := 72) (Ls := #[.val (.int i0), .val (.int i1), .val (.int i2), .val (.int i3), .val (.int kk), .val (.ref a_FAILED), .val (.ref b14), .val (.ref b16), .val (.int ((i0 + 1) - i0)), .unset, .unset, .unset, .unset, .unset, .unset]) (argsL := []) (rest := []) (st0 := [(.ref b16)]) (by rw [hml]; rfl) (lenOf own_pd3 rfl) rfl (Nat.le_of_eq rfl) (hb hby at_72) (by decide) (by decide) (by decide) (by decide) ?_
      intro v19 T19 L19 X19 hQ19
      obtain ⟨rfl, Nq19, hh19⟩ := hQ19
      have N19 := Fr.app N18 Nq19
      show own_Ends p e below s _ _ _ (T19.setTop (mkF m 75 #[.val (.int i0), .val (.int i1), .val (.int i2), .val (.int i3), .val (.int kk), .val (.ref a_FAILED), .val (.ref b14), .val (.ref b16), .val (.int ((i0 + 1) - i0)), .unset, .unset, .unset, .unset, .unset, .unset] [(.int i1)]))
      refine own_pre (S' := (T19.setTop (mkF m 77 #[.val (.int i0), .val (.int i1), .val (.int i2), .val (.int i3), .val (.int kk), .val (.ref a_FAILED), .val (.ref b14), .val (.ref b16), .val (.int ((i0 + 1) - i0)), .unset, .unset, .unset, .unset, .unset, .unset] [(.ref b14), (.int i1)]))) (fun t k => XS.aload X19.here hx rfl (hb hby at_75) rfl rfl k) ?_
      refine own_callV (C := "com/example/assay_runner/assayrunner/report/ReportPage$Counts") (y := (⟨"com/example/assay_runner/assayrunner/report/ReportPage$Counts", "passed", "()I"⟩ : MethodName)) (b := b14) X19 hx hZ hown (hw _ (List.mem_of_getElem? (i := 39) rfl)) (hw _ (List.mem_of_getElem? (i := 40) rfl)) (hw _ (List.mem_of_getElem? (i := 42) rfl)) (hw _ (List.mem_of_getElem? (i := 41) rfl)) (hw _ (List.mem_of_getElem? (i := 43) rfl)) (hw _ (List.mem_of_getElem? (i := 6) rfl)) (by decide) hh19 ((A14.keep K15).keep K16) (hM := own_passed l Z a0 hw [] b14 i1 T16.heap n0 (Nat.le_trans (Nat.le_trans (Nat.le_trans Z0 E14.1) K15.1) K16.1) (Fp15.keep K16 nin0)) (W := 1) (pc := 77) (Ls := #[.val (.int i0), .val (.int i1), .val (.int i2), .val (.int i3), .val (.int kk), .val (.ref a_FAILED), .val (.ref b14), .val (.ref b16), .val (.int ((i0 + 1) - i0)), .unset, .unset, .unset, .unset, .unset, .unset]) (argsL := []) (rest := [(.int i1)]) (st0 := [(.ref b14), (.int i1)]) (by rw [hml]; rfl) (lenOf own_pd3 rfl) rfl (Nat.le_of_eq rfl) (hb hby at_77) (by decide) (by decide) (by decide) (by decide) ?_
      intro v20 T20 L20 X20 hQ20
      obtain ⟨rfl, Nq20, hh20⟩ := hQ20
      have N20 := Fr.app N19 Nq20
      show own_Ends p e below s _ _ _ (T20.setTop (mkF m 80 #[.val (.int i0), .val (.int i1), .val (.int i2), .val (.int i3), .val (.int kk), .val (.ref a_FAILED), .val (.ref b14), .val (.ref b16), .val (.int ((i0 + 1) - i0)), .unset, .unset, .unset, .unset, .unset, .unset] [(.int i1), (.int i1)]))
      refine own_pre (S' := (T20.setTop (mkF m 81 #[.val (.int i0), .val (.int i1), .val (.int i2), .val (.int i3), .val (.int kk), .val (.ref a_FAILED), .val (.ref b14), .val (.ref b16), .val (.int ((i0 + 1) - i0)), .unset, .unset, .unset, .unset, .unset, .unset] [(.int (i1 - i1))]))) (fun t k => XS.isub X20.here hx rfl (hb hby at_80) rfl k) ?_
      refine own_pre (S' := (T20.setTop (mkF m 83 #[.val (.int i0), .val (.int i1), .val (.int i2), .val (.int i3), .val (.int kk), .val (.ref a_FAILED), .val (.ref b14), .val (.ref b16), .val (.int ((i0 + 1) - i0)), .val (.int (i1 - i1)), .unset, .unset, .unset, .unset, .unset] []))) (fun t k => XS.istore X20.here hx rfl (hb hby at_81) rfl (l' := #[.val (.int i0), .val (.int i1), .val (.int i2), .val (.int i3), .val (.int kk), .val (.ref a_FAILED), .val (.ref b14), .val (.ref b16), .val (.int ((i0 + 1) - i0)), .val (.int (i1 - i1)), .unset, .unset, .unset, .unset, .unset]) rfl k) ?_
      refine own_pre (S' := (T20.setTop (mkF m 85 #[.val (.int i0), .val (.int i1), .val (.int i2), .val (.int i3), .val (.int kk), .val (.ref a_FAILED), .val (.ref b14), .val (.ref b16), .val (.int ((i0 + 1) - i0)), .val (.int (i1 - i1)), .unset, .unset, .unset, .unset, .unset] [(.ref b16)]))) (fun t k => XS.aload X20.here hx rfl (hb hby at_83) rfl rfl k) ?_
      refine own_callV (C := "com/example/assay_runner/assayrunner/report/ReportPage$Counts") (y := (⟨"com/example/assay_runner/assayrunner/report/ReportPage$Counts", "failed", "()I"⟩ : MethodName)) (b := b16) X20 hx hZ hown (hw _ (List.mem_of_getElem? (i := 44) rfl)) (hw _ (List.mem_of_getElem? (i := 45) rfl)) (hw _ (List.mem_of_getElem? (i := 47) rfl)) (hw _ (List.mem_of_getElem? (i := 46) rfl)) (hw _ (List.mem_of_getElem? (i := 48) rfl)) (hw _ (List.mem_of_getElem? (i := 6) rfl)) (by decide) hh20 Eb16 (hM := own_failed l Z a0 hw [] b16 (i2 + 1) T16.heap n0 (Nat.le_trans (Nat.le_trans (Nat.le_trans Z0 E14.1) K15.1) K16.1) Ff16) (W := 0) (pc := 85) (Ls := #[.val (.int i0), .val (.int i1), .val (.int i2), .val (.int i3), .val (.int kk), .val (.ref a_FAILED), .val (.ref b14), .val (.ref b16), .val (.int ((i0 + 1) - i0)), .val (.int (i1 - i1)), .unset, .unset, .unset, .unset, .unset]) (argsL := []) (rest := []) (st0 := [(.ref b16)]) (by rw [hml]; rfl) (lenOf own_pd3 rfl) rfl (Nat.le_of_eq rfl) (hb hby at_85) (by decide) (by decide) (by decide) (by decide) ?_
      intro v21 T21 L21 X21 hQ21
      obtain ⟨rfl, Nq21, hh21⟩ := hQ21
      have N21 := Fr.app N20 Nq21
      show own_Ends p e below s _ _ _ (T21.setTop (mkF m 88 #[.val (.int i0), .val (.int i1), .val (.int i2), .val (.int i3), .val (.int kk), .val (.ref a_FAILED), .val (.ref b14), .val (.ref b16), .val (.int ((i0 + 1) - i0)), .val (.int (i1 - i1)), .unset, .unset, .unset, .unset, .unset] [(.int (i2 + 1))]))
      refine own_pre (S' := (T21.setTop (mkF m 90 #[.val (.int i0), .val (.int i1), .val (.int i2), .val (.int i3), .val (.int kk), .val (.ref a_FAILED), .val (.ref b14), .val (.ref b16), .val (.int ((i0 + 1) - i0)), .val (.int (i1 - i1)), .unset, .unset, .unset, .unset, .unset] [(.ref b14), (.int (i2 + 1))]))) (fun t k => XS.aload X21.here hx rfl (hb hby at_88) rfl rfl k) ?_
      refine own_callV (C := "com/example/assay_runner/assayrunner/report/ReportPage$Counts") (y := (⟨"com/example/assay_runner/assayrunner/report/ReportPage$Counts", "failed", "()I"⟩ : MethodName)) (b := b14) X21 hx hZ hown (hw _ (List.mem_of_getElem? (i := 44) rfl)) (hw _ (List.mem_of_getElem? (i := 45) rfl)) (hw _ (List.mem_of_getElem? (i := 47) rfl)) (hw _ (List.mem_of_getElem? (i := 46) rfl)) (hw _ (List.mem_of_getElem? (i := 48) rfl)) (hw _ (List.mem_of_getElem? (i := 6) rfl)) (by decide) hh21 ((A14.keep K15).keep K16) (hM := own_failed l Z a0 hw [] b14 i2 T16.heap n0 (Nat.le_trans (Nat.le_trans (Nat.le_trans Z0 E14.1) K15.1) K16.1) (Ff15.keep K16 nin0)) (W := 1) (pc := 90) (Ls := #[.val (.int i0), .val (.int i1), .val (.int i2), .val (.int i3), .val (.int kk), .val (.ref a_FAILED), .val (.ref b14), .val (.ref b16), .val (.int ((i0 + 1) - i0)), .val (.int (i1 - i1)), .unset, .unset, .unset, .unset, .unset]) (argsL := []) (rest := [(.int (i2 + 1))]) (st0 := [(.ref b14), (.int (i2 + 1))]) (by rw [hml]; rfl) (lenOf own_pd3 rfl) rfl (Nat.le_of_eq rfl) (hb hby at_90) (by decide) (by decide) (by decide) (by decide) ?_
      intro v22 T22 L22 X22 hQ22
      obtain ⟨rfl, Nq22, hh22⟩ := hQ22
      have N22 := Fr.app N21 Nq22
      show own_Ends p e below s _ _ _ (T22.setTop (mkF m 93 #[.val (.int i0), .val (.int i1), .val (.int i2), .val (.int i3), .val (.int kk), .val (.ref a_FAILED), .val (.ref b14), .val (.ref b16), .val (.int ((i0 + 1) - i0)), .val (.int (i1 - i1)), .unset, .unset, .unset, .unset, .unset] [(.int i2), (.int (i2 + 1))]))
      refine own_pre (S' := (T22.setTop (mkF m 94 #[.val (.int i0), .val (.int i1), .val (.int i2), .val (.int i3), .val (.int kk), .val (.ref a_FAILED), .val (.ref b14), .val (.ref b16), .val (.int ((i0 + 1) - i0)), .val (.int (i1 - i1)), .unset, .unset, .unset, .unset, .unset] [(.int ((i2 + 1) - i2))]))) (fun t k => XS.isub X22.here hx rfl (hb hby at_93) rfl k) ?_
      refine own_pre (S' := (T22.setTop (mkF m 96 #[.val (.int i0), .val (.int i1), .val (.int i2), .val (.int i3), .val (.int kk), .val (.ref a_FAILED), .val (.ref b14), .val (.ref b16), .val (.int ((i0 + 1) - i0)), .val (.int (i1 - i1)), .val (.int ((i2 + 1) - i2)), .unset, .unset, .unset, .unset] []))) (fun t k => XS.istore X22.here hx rfl (hb hby at_94) rfl (l' := #[.val (.int i0), .val (.int i1), .val (.int i2), .val (.int i3), .val (.int kk), .val (.ref a_FAILED), .val (.ref b14), .val (.ref b16), .val (.int ((i0 + 1) - i0)), .val (.int (i1 - i1)), .val (.int ((i2 + 1) - i2)), .unset, .unset, .unset, .unset]) rfl k) ?_
      refine own_pre (S' := (T22.setTop (mkF m 98 #[.val (.int i0), .val (.int i1), .val (.int i2), .val (.int i3), .val (.int kk), .val (.ref a_FAILED), .val (.ref b14), .val (.ref b16), .val (.int ((i0 + 1) - i0)), .val (.int (i1 - i1)), .val (.int ((i2 + 1) - i2)), .unset, .unset, .unset, .unset] [(.ref b16)]))) (fun t k => XS.aload X22.here hx rfl (hb hby at_96) rfl rfl k) ?_
      refine own_callV (C := "com/example/assay_runner/assayrunner/report/ReportPage$Counts") (y := (⟨"com/example/assay_runner/assayrunner/report/ReportPage$Counts", "skipped", "()I"⟩ : MethodName)) (b := b16) X22 hx hZ hown (hw _ (List.mem_of_getElem? (i := 49) rfl)) (hw _ (List.mem_of_getElem? (i := 50) rfl)) (hw _ (List.mem_of_getElem? (i := 52) rfl)) (hw _ (List.mem_of_getElem? (i := 51) rfl)) (hw _ (List.mem_of_getElem? (i := 53) rfl)) (hw _ (List.mem_of_getElem? (i := 6) rfl)) (by decide) hh22 Eb16 (hM := own_skipped l Z a0 hw [] b16 (i0 + 1) i1 (i2 + 1) T16.heap n0 (Nat.le_trans (Nat.le_trans (Nat.le_trans Z0 E14.1) K15.1) K16.1) Ft16 Fp16 Ff16) (W := 0) (pc := 98) (Ls := #[.val (.int i0), .val (.int i1), .val (.int i2), .val (.int i3), .val (.int kk), .val (.ref a_FAILED), .val (.ref b14), .val (.ref b16), .val (.int ((i0 + 1) - i0)), .val (.int (i1 - i1)), .val (.int ((i2 + 1) - i2)), .unset, .unset, .unset, .unset]) (argsL := []) (rest := []) (st0 := [(.ref b16)]) (by rw [hml]; rfl) (lenOf own_pd3 rfl) rfl (Nat.le_of_eq rfl) (hb hby at_98) (by decide) (by decide) (by decide) (by decide) ?_
      intro v23 T23 L23 X23 hQ23
      obtain ⟨rfl, Nq23, hh23⟩ := hQ23
      have N23 := Fr.app N22 Nq23
      show own_Ends p e below s _ _ _ (T23.setTop (mkF m 101 #[.val (.int i0), .val (.int i1), .val (.int i2), .val (.int i3), .val (.int kk), .val (.ref a_FAILED), .val (.ref b14), .val (.ref b16), .val (.int ((i0 + 1) - i0)), .val (.int (i1 - i1)), .val (.int ((i2 + 1) - i2)), .unset, .unset, .unset, .unset] [(.int (((i0 + 1) - i1) - (i2 + 1)))]))
      refine own_pre (S' := (T23.setTop (mkF m 103 #[.val (.int i0), .val (.int i1), .val (.int i2), .val (.int i3), .val (.int kk), .val (.ref a_FAILED), .val (.ref b14), .val (.ref b16), .val (.int ((i0 + 1) - i0)), .val (.int (i1 - i1)), .val (.int ((i2 + 1) - i2)), .unset, .unset, .unset, .unset] [(.ref b14), (.int (((i0 + 1) - i1) - (i2 + 1)))]))) (fun t k => XS.aload X23.here hx rfl (hb hby at_101) rfl rfl k) ?_
      refine own_callV (C := "com/example/assay_runner/assayrunner/report/ReportPage$Counts") (y := (⟨"com/example/assay_runner/assayrunner/report/ReportPage$Counts", "skipped", "()I"⟩ : MethodName)) (b := b14) X23 hx hZ hown (hw _ (List.mem_of_getElem? (i := 49) rfl)) (hw _ (List.mem_of_getElem? (i := 50) rfl)) (hw _ (List.mem_of_getElem? (i := 52) rfl)) (hw _ (List.mem_of_getElem? (i := 51) rfl)) (hw _ (List.mem_of_getElem? (i := 53) rfl)) (hw _ (List.mem_of_getElem? (i := 6) rfl)) (by decide) hh23 ((A14.keep K15).keep K16) (hM := own_skipped l Z a0 hw [] b14 i0 i1 i2 T16.heap n0 (Nat.le_trans (Nat.le_trans (Nat.le_trans Z0 E14.1) K15.1) K16.1) (Ft15.keep K16 nin0) (Fp15.keep K16 nin0) (Ff15.keep K16 nin0)) (W := 1) (pc := 103) (Ls := #[.val (.int i0), .val (.int i1), .val (.int i2), .val (.int i3), .val (.int kk), .val (.ref a_FAILED), .val (.ref b14), .val (.ref b16), .val (.int ((i0 + 1) - i0)), .val (.int (i1 - i1)), .val (.int ((i2 + 1) - i2)), .unset, .unset, .unset, .unset]) (argsL := []) (rest := [(.int (((i0 + 1) - i1) - (i2 + 1)))]) (st0 := [(.ref b14), (.int (((i0 + 1) - i1) - (i2 + 1)))]) (by rw [hml]; rfl) (lenOf own_pd3 rfl) rfl (Nat.le_of_eq rfl) (hb hby at_103) (by decide) (by decide) (by decide) (by decide) ?_
      intro v24 T24 L24 X24 hQ24
      obtain ⟨rfl, Nq24, hh24⟩ := hQ24
      have N24 := Fr.app N23 Nq24
      show own_Ends p e below s _ _ _ (T24.setTop (mkF m 106 #[.val (.int i0), .val (.int i1), .val (.int i2), .val (.int i3), .val (.int kk), .val (.ref a_FAILED), .val (.ref b14), .val (.ref b16), .val (.int ((i0 + 1) - i0)), .val (.int (i1 - i1)), .val (.int ((i2 + 1) - i2)), .unset, .unset, .unset, .unset] [(.int ((i0 - i1) - i2)), (.int (((i0 + 1) - i1) - (i2 + 1)))]))
      refine own_pre (S' := (T24.setTop (mkF m 107 #[.val (.int i0), .val (.int i1), .val (.int i2), .val (.int i3), .val (.int kk), .val (.ref a_FAILED), .val (.ref b14), .val (.ref b16), .val (.int ((i0 + 1) - i0)), .val (.int (i1 - i1)), .val (.int ((i2 + 1) - i2)), .unset, .unset, .unset, .unset] [(.int ((((i0 + 1) - i1) - (i2 + 1)) - ((i0 - i1) - i2)))]))) (fun t k => XS.isub X24.here hx rfl (hb hby at_106) rfl k) ?_
      refine own_pre (S' := (T24.setTop (mkF m 109 #[.val (.int i0), .val (.int i1), .val (.int i2), .val (.int i3), .val (.int kk), .val (.ref a_FAILED), .val (.ref b14), .val (.ref b16), .val (.int ((i0 + 1) - i0)), .val (.int (i1 - i1)), .val (.int ((i2 + 1) - i2)), .val (.int ((((i0 + 1) - i1) - (i2 + 1)) - ((i0 - i1) - i2))), .unset, .unset, .unset] []))) (fun t k => XS.istore X24.here hx rfl (hb hby at_107) rfl (l' := #[.val (.int i0), .val (.int i1), .val (.int i2), .val (.int i3), .val (.int kk), .val (.ref a_FAILED), .val (.ref b14), .val (.ref b16), .val (.int ((i0 + 1) - i0)), .val (.int (i1 - i1)), .val (.int ((i2 + 1) - i2)), .val (.int ((((i0 + 1) - i1) - (i2 + 1)) - ((i0 - i1) - i2))), .unset, .unset, .unset]) rfl k) ?_
      refine own_pre (S' := (T24.setTop (mkF m 111 #[.val (.int i0), .val (.int i1), .val (.int i2), .val (.int i3), .val (.int kk), .val (.ref a_FAILED), .val (.ref b14), .val (.ref b16), .val (.int ((i0 + 1) - i0)), .val (.int (i1 - i1)), .val (.int ((i2 + 1) - i2)), .val (.int ((((i0 + 1) - i1) - (i2 + 1)) - ((i0 - i1) - i2))), .unset, .unset, .unset] [(.int kk)]))) (fun t k => XS.iload X24.here hx rfl (hb hby at_109) rfl k) ?_
      refine own_pre (S' := (T24.setTop (mkF m 118 #[.val (.int i0), .val (.int i1), .val (.int i2), .val (.int i3), .val (.int kk), .val (.ref a_FAILED), .val (.ref b14), .val (.ref b16), .val (.int ((i0 + 1) - i0)), .val (.int (i1 - i1)), .val (.int ((i2 + 1) - i2)), .val (.int ((((i0 + 1) - i1) - (i2 + 1)) - ((i0 - i1) - i2))), .unset, .unset, .unset] []))) (fun t k => XS.ifYes X24.here hx rfl (pc0 := 111) (pc' := 118) rfl (hb hby at_111) rfl ((if0 _ _).trans (feq c10).2) (by decide) (by decide) k) ?_
      refine own_pre (S' := (T24.setTop (mkF m 119 #[.val (.int i0), .val (.int i1), .val (.int i2), .val (.int i3), .val (.int kk), .val (.ref a_FAILED), .val (.ref b14), .val (.ref b16), .val (.int ((i0 + 1) - i0)), .val (.int (i1 - i1)), .val (.int ((i2 + 1) - i2)), .val (.int ((((i0 + 1) - i1) - (i2 + 1)) - ((i0 - i1) - i2))), .unset, .unset, .unset] [(.int (0 : Int32))]))) (fun t k => XS.iconst X24.here hx rfl (hb hby at_118) k) ?_
      refine own_pre (S' := (T24.setTop (mkF m 121 #[.val (.int i0), .val (.int i1), .val (.int i2), .val (.int i3), .val (.int kk), .val (.ref a_FAILED), .val (.ref b14), .val (.ref b16), .val (.int ((i0 + 1) - i0)), .val (.int (i1 - i1)), .val (.int ((i2 + 1) - i2)), .val (.int ((((i0 + 1) - i1) - (i2 + 1)) - ((i0 - i1) - i2))), .val (.int (0 : Int32)), .unset, .unset] []))) (fun t k => XS.istore X24.here hx rfl (hb hby at_119) rfl (l' := #[.val (.int i0), .val (.int i1), .val (.int i2), .val (.int i3), .val (.int kk), .val (.ref a_FAILED), .val (.ref b14), .val (.ref b16), .val (.int ((i0 + 1) - i0)), .val (.int (i1 - i1)), .val (.int ((i2 + 1) - i2)), .val (.int ((((i0 + 1) - i1) - (i2 + 1)) - ((i0 - i1) - i2))), .val (.int (0 : Int32)), .unset, .unset]) rfl k) ?_
      refine own_pre (S' := (T24.setTop (mkF m 123 #[.val (.int i0), .val (.int i1), .val (.int i2), .val (.int i3), .val (.int kk), .val (.ref a_FAILED), .val (.ref b14), .val (.ref b16), .val (.int ((i0 + 1) - i0)), .val (.int (i1 - i1)), .val (.int ((i2 + 1) - i2)), .val (.int ((((i0 + 1) - i1) - (i2 + 1)) - ((i0 - i1) - i2))), .val (.int (0 : Int32)), .unset, .unset] [(.int kk)]))) (fun t k => XS.iload X24.here hx rfl (hb hby at_121) rfl k) ?_
      refine own_pre (S' := (T24.setTop (mkF m 124 #[.val (.int i0), .val (.int i1), .val (.int i2), .val (.int i3), .val (.int kk), .val (.ref a_FAILED), .val (.ref b14), .val (.ref b16), .val (.int ((i0 + 1) - i0)), .val (.int (i1 - i1)), .val (.int ((i2 + 1) - i2)), .val (.int ((((i0 + 1) - i1) - (i2 + 1)) - ((i0 - i1) - i2))), .val (.int (0 : Int32)), .unset, .unset] [(.int (1 : Int32)), (.int kk)]))) (fun t k => XS.iconst X24.here hx rfl (hb hby at_123) k) ?_
      refine own_pre (S' := (T24.setTop (mkF m 127 #[.val (.int i0), .val (.int i1), .val (.int i2), .val (.int i3), .val (.int kk), .val (.ref a_FAILED), .val (.ref b14), .val (.ref b16), .val (.int ((i0 + 1) - i0)), .val (.int (i1 - i1)), .val (.int ((i2 + 1) - i2)), .val (.int ((((i0 + 1) - i1) - (i2 + 1)) - ((i0 - i1) - i2))), .val (.int (0 : Int32)), .unset, .unset] []))) (fun t k => XS.icmpNo X24.here hx rfl (hb hby at_124) rfl (teq c22).2 k) ?_
      refine own_pre (S' := (T24.setTop (mkF m 128 #[.val (.int i0), .val (.int i1), .val (.int i2), .val (.int i3), .val (.int kk), .val (.ref a_FAILED), .val (.ref b14), .val (.ref b16), .val (.int ((i0 + 1) - i0)), .val (.int (i1 - i1)), .val (.int ((i2 + 1) - i2)), .val (.int ((((i0 + 1) - i1) - (i2 + 1)) - ((i0 - i1) - i2))), .val (.int (0 : Int32)), .unset, .unset] [(.int (1 : Int32))]))) (fun t k => XS.iconst X24.here hx rfl (hb hby at_127) k) ?_
      refine own_pre (S' := (T24.setTop (mkF m 132 #[.val (.int i0), .val (.int i1), .val (.int i2), .val (.int i3), .val (.int kk), .val (.ref a_FAILED), .val (.ref b14), .val (.ref b16), .val (.int ((i0 + 1) - i0)), .val (.int (i1 - i1)), .val (.int ((i2 + 1) - i2)), .val (.int ((((i0 + 1) - i1) - (i2 + 1)) - ((i0 - i1) - i2))), .val (.int (0 : Int32)), .unset, .unset] [(.int (1 : Int32))]))) (fun t k => XS.goto X24.here hx rfl (pc0 := 128) (pc' := 132) rfl (hb hby at_128) (by decide) (by decide) k) ?_
      refine own_pre (S' := (T24.setTop (mkF m 134 #[.val (.int i0), .val (.int i1), .val (.int i2), .val (.int i3), .val (.int kk), .val (.ref a_FAILED), .val (.ref b14), .val (.ref b16), .val (.int ((i0 + 1) - i0)), .val (.int (i1 - i1)), .val (.int ((i2 + 1) - i2)), .val (.int ((((i0 + 1) - i1) - (i2 + 1)) - ((i0 - i1) - i2))), .val (.int (0 : Int32)), .val (.int (1 : Int32)), .unset] []))) (fun t k => XS.istore X24.here hx rfl (hb hby at_132) rfl (l' := #[.val (.int i0), .val (.int i1), .val (.int i2), .val (.int i3), .val (.int kk), .val (.ref a_FAILED), .val (.ref b14), .val (.ref b16), .val (.int ((i0 + 1) - i0)), .val (.int (i1 - i1)), .val (.int ((i2 + 1) - i2)), .val (.int ((((i0 + 1) - i1) - (i2 + 1)) - ((i0 - i1) - i2))), .val (.int (0 : Int32)), .val (.int (1 : Int32)), .unset]) rfl k) ?_
      refine own_pre (S' := (T24.setTop (mkF m 136 #[.val (.int i0), .val (.int i1), .val (.int i2), .val (.int i3), .val (.int kk), .val (.ref a_FAILED), .val (.ref b14), .val (.ref b16), .val (.int ((i0 + 1) - i0)), .val (.int (i1 - i1)), .val (.int ((i2 + 1) - i2)), .val (.int ((((i0 + 1) - i1) - (i2 + 1)) - ((i0 - i1) - i2))), .val (.int (0 : Int32)), .val (.int (1 : Int32)), .unset] [(.int kk)]))) (fun t k => XS.iload X24.here hx rfl (hb hby at_134) rfl k) ?_
      refine own_pre (S' := (T24.setTop (mkF m 137 #[.val (.int i0), .val (.int i1), .val (.int i2), .val (.int i3), .val (.int kk), .val (.ref a_FAILED), .val (.ref b14), .val (.ref b16), .val (.int ((i0 + 1) - i0)), .val (.int (i1 - i1)), .val (.int ((i2 + 1) - i2)), .val (.int ((((i0 + 1) - i1) - (i2 + 1)) - ((i0 - i1) - i2))), .val (.int (0 : Int32)), .val (.int (1 : Int32)), .unset] [(.int (2 : Int32)), (.int kk)]))) (fun t k => XS.iconst X24.here hx rfl (hb hby at_136) k) ?_
      refine own_pre (S' := (T24.setTop (mkF m 144 #[.val (.int i0), .val (.int i1), .val (.int i2), .val (.int i3), .val (.int kk), .val (.ref a_FAILED), .val (.ref b14), .val (.ref b16), .val (.int ((i0 + 1) - i0)), .val (.int (i1 - i1)), .val (.int ((i2 + 1) - i2)), .val (.int ((((i0 + 1) - i1) - (i2 + 1)) - ((i0 - i1) - i2))), .val (.int (0 : Int32)), .val (.int (1 : Int32)), .unset] []))) (fun t k => XS.icmpYes X24.here hx rfl (pc0 := 137) (pc' := 144) rfl (hb hby at_137) rfl (feq (by rw [c22]; decide)).2 (by decide) (by decide) k) ?_
      refine own_pre (S' := (T24.setTop (mkF m 145 #[.val (.int i0), .val (.int i1), .val (.int i2), .val (.int i3), .val (.int kk), .val (.ref a_FAILED), .val (.ref b14), .val (.ref b16), .val (.int ((i0 + 1) - i0)), .val (.int (i1 - i1)), .val (.int ((i2 + 1) - i2)), .val (.int ((((i0 + 1) - i1) - (i2 + 1)) - ((i0 - i1) - i2))), .val (.int (0 : Int32)), .val (.int (1 : Int32)), .unset] [(.int (0 : Int32))]))) (fun t k => XS.iconst X24.here hx rfl (hb hby at_144) k) ?_
      refine own_pre (S' := (T24.setTop (mkF m 147 #[.val (.int i0), .val (.int i1), .val (.int i2), .val (.int i3), .val (.int kk), .val (.ref a_FAILED), .val (.ref b14), .val (.ref b16), .val (.int ((i0 + 1) - i0)), .val (.int (i1 - i1)), .val (.int ((i2 + 1) - i2)), .val (.int ((((i0 + 1) - i1) - (i2 + 1)) - ((i0 - i1) - i2))), .val (.int (0 : Int32)), .val (.int (1 : Int32)), .val (.int (0 : Int32))] []))) (fun t k => XS.istore X24.here hx rfl (hb hby at_145) rfl (l' := #[.val (.int i0), .val (.int i1), .val (.int i2), .val (.int i3), .val (.int kk), .val (.ref a_FAILED), .val (.ref b14), .val (.ref b16), .val (.int ((i0 + 1) - i0)), .val (.int (i1 - i1)), .val (.int ((i2 + 1) - i2)), .val (.int ((((i0 + 1) - i1) - (i2 + 1)) - ((i0 - i1) - i2))), .val (.int (0 : Int32)), .val (.int (1 : Int32)), .val (.int (0 : Int32))]) rfl k) ?_
      refine own_pre (S' := (T24.setTop (mkF m 149 #[.val (.int i0), .val (.int i1), .val (.int i2), .val (.int i3), .val (.int kk), .val (.ref a_FAILED), .val (.ref b14), .val (.ref b16), .val (.int ((i0 + 1) - i0)), .val (.int (i1 - i1)), .val (.int ((i2 + 1) - i2)), .val (.int ((((i0 + 1) - i1) - (i2 + 1)) - ((i0 - i1) - i2))), .val (.int (0 : Int32)), .val (.int (1 : Int32)), .val (.int (0 : Int32))] [(.int ((i0 + 1) - i0))]))) (fun t k => XS.iload X24.here hx rfl (hb hby at_147) rfl k) ?_
      refine own_pre (S' := (T24.setTop (mkF m 150 #[.val (.int i0), .val (.int i1), .val (.int i2), .val (.int i3), .val (.int kk), .val (.ref a_FAILED), .val (.ref b14), .val (.ref b16), .val (.int ((i0 + 1) - i0)), .val (.int (i1 - i1)), .val (.int ((i2 + 1) - i2)), .val (.int ((((i0 + 1) - i1) - (i2 + 1)) - ((i0 - i1) - i2))), .val (.int (0 : Int32)), .val (.int (1 : Int32)), .val (.int (0 : Int32))] [(.int (1 : Int32)), (.int ((i0 + 1) - i0))]))) (fun t k => XS.iconst X24.here hx rfl (hb hby at_149) k) ?_
      refine own_pre (S' := (T24.setTop (mkF m 153 #[.val (.int i0), .val (.int i1), .val (.int i2), .val (.int i3), .val (.int kk), .val (.ref a_FAILED), .val (.ref b14), .val (.ref b16), .val (.int ((i0 + 1) - i0)), .val (.int (i1 - i1)), .val (.int ((i2 + 1) - i2)), .val (.int ((((i0 + 1) - i1) - (i2 + 1)) - ((i0 - i1) - i2))), .val (.int (0 : Int32)), .val (.int (1 : Int32)), .val (.int (0 : Int32))] []))) (fun t k => XS.icmpNo X24.here hx rfl (hb hby at_150) rfl (teq (own_s0 i0 i1 i2)).2 k) ?_
      refine own_pre (S' := (T24.setTop (mkF m 155 #[.val (.int i0), .val (.int i1), .val (.int i2), .val (.int i3), .val (.int kk), .val (.ref a_FAILED), .val (.ref b14), .val (.ref b16), .val (.int ((i0 + 1) - i0)), .val (.int (i1 - i1)), .val (.int ((i2 + 1) - i2)), .val (.int ((((i0 + 1) - i1) - (i2 + 1)) - ((i0 - i1) - i2))), .val (.int (0 : Int32)), .val (.int (1 : Int32)), .val (.int (0 : Int32))] [(.int (i1 - i1))]))) (fun t k => XS.iload X24.here hx rfl (hb hby at_153) rfl k) ?_
      refine own_pre (S' := (T24.setTop (mkF m 157 #[.val (.int i0), .val (.int i1), .val (.int i2), .val (.int i3), .val (.int kk), .val (.ref a_FAILED), .val (.ref b14), .val (.ref b16), .val (.int ((i0 + 1) - i0)), .val (.int (i1 - i1)), .val (.int ((i2 + 1) - i2)), .val (.int ((((i0 + 1) - i1) - (i2 + 1)) - ((i0 - i1) - i2))), .val (.int (0 : Int32)), .val (.int (1 : Int32)), .val (.int (0 : Int32))] [(.int (0 : Int32)), (.int (i1 - i1))]))) (fun t k => XS.iload X24.here hx rfl (hb hby at_155) rfl k) ?_
      refine own_pre (S' := (T24.setTop (mkF m 160 #[.val (.int i0), .val (.int i1), .val (.int i2), .val (.int i3), .val (.int kk), .val (.ref a_FAILED), .val (.ref b14), .val (.ref b16), .val (.int ((i0 + 1) - i0)), .val (.int (i1 - i1)), .val (.int ((i2 + 1) - i2)), .val (.int ((((i0 + 1) - i1) - (i2 + 1)) - ((i0 - i1) - i2))), .val (.int (0 : Int32)), .val (.int (1 : Int32)), .val (.int (0 : Int32))] []))) (fun t k => XS.icmpNo X24.here hx rfl (hb hby at_157) rfl (teq (own_s4 i0 i1 i2)).2 k) ?_
      refine own_pre (S' := (T24.setTop (mkF m 162 #[.val (.int i0), .val (.int i1), .val (.int i2), .val (.int i3), .val (.int kk), .val (.ref a_FAILED), .val (.ref b14), .val (.ref b16), .val (.int ((i0 + 1) - i0)), .val (.int (i1 - i1)), .val (.int ((i2 + 1) - i2)), .val (.int ((((i0 + 1) - i1) - (i2 + 1)) - ((i0 - i1) - i2))), .val (.int (0 : Int32)), .val (.int (1 : Int32)), .val (.int (0 : Int32))] [(.int ((i2 + 1) - i2))]))) (fun t k => XS.iload X24.here hx rfl (hb hby at_160) rfl k) ?_
      refine own_pre (S' := (T24.setTop (mkF m 164 #[.val (.int i0), .val (.int i1), .val (.int i2), .val (.int i3), .val (.int kk), .val (.ref a_FAILED), .val (.ref b14), .val (.ref b16), .val (.int ((i0 + 1) - i0)), .val (.int (i1 - i1)), .val (.int ((i2 + 1) - i2)), .val (.int ((((i0 + 1) - i1) - (i2 + 1)) - ((i0 - i1) - i2))), .val (.int (0 : Int32)), .val (.int (1 : Int32)), .val (.int (0 : Int32))] [(.int (1 : Int32)), (.int ((i2 + 1) - i2))]))) (fun t k => XS.iload X24.here hx rfl (hb hby at_162) rfl k) ?_
      refine own_pre (S' := (T24.setTop (mkF m 167 #[.val (.int i0), .val (.int i1), .val (.int i2), .val (.int i3), .val (.int kk), .val (.ref a_FAILED), .val (.ref b14), .val (.ref b16), .val (.int ((i0 + 1) - i0)), .val (.int (i1 - i1)), .val (.int ((i2 + 1) - i2)), .val (.int ((((i0 + 1) - i1) - (i2 + 1)) - ((i0 - i1) - i2))), .val (.int (0 : Int32)), .val (.int (1 : Int32)), .val (.int (0 : Int32))] []))) (fun t k => XS.icmpNo X24.here hx rfl (hb hby at_164) rfl (teq (own_s5 i0 i1 i2)).2 k) ?_
      refine own_pre (S' := (T24.setTop (mkF m 169 #[.val (.int i0), .val (.int i1), .val (.int i2), .val (.int i3), .val (.int kk), .val (.ref a_FAILED), .val (.ref b14), .val (.ref b16), .val (.int ((i0 + 1) - i0)), .val (.int (i1 - i1)), .val (.int ((i2 + 1) - i2)), .val (.int ((((i0 + 1) - i1) - (i2 + 1)) - ((i0 - i1) - i2))), .val (.int (0 : Int32)), .val (.int (1 : Int32)), .val (.int (0 : Int32))] [(.int ((((i0 + 1) - i1) - (i2 + 1)) - ((i0 - i1) - i2)))]))) (fun t k => XS.iload X24.here hx rfl (hb hby at_167) rfl k) ?_
      refine own_pre (S' := (T24.setTop (mkF m 171 #[.val (.int i0), .val (.int i1), .val (.int i2), .val (.int i3), .val (.int kk), .val (.ref a_FAILED), .val (.ref b14), .val (.ref b16), .val (.int ((i0 + 1) - i0)), .val (.int (i1 - i1)), .val (.int ((i2 + 1) - i2)), .val (.int ((((i0 + 1) - i1) - (i2 + 1)) - ((i0 - i1) - i2))), .val (.int (0 : Int32)), .val (.int (1 : Int32)), .val (.int (0 : Int32))] [(.int (0 : Int32)), (.int ((((i0 + 1) - i1) - (i2 + 1)) - ((i0 - i1) - i2)))]))) (fun t k => XS.iload X24.here hx rfl (hb hby at_169) rfl k) ?_
      refine own_pre (S' := (T24.setTop (mkF m 174 #[.val (.int i0), .val (.int i1), .val (.int i2), .val (.int i3), .val (.int kk), .val (.ref a_FAILED), .val (.ref b14), .val (.ref b16), .val (.int ((i0 + 1) - i0)), .val (.int (i1 - i1)), .val (.int ((i2 + 1) - i2)), .val (.int ((((i0 + 1) - i1) - (i2 + 1)) - ((i0 - i1) - i2))), .val (.int (0 : Int32)), .val (.int (1 : Int32)), .val (.int (0 : Int32))] []))) (fun t k => XS.icmpNo X24.here hx rfl (hb hby at_171) rfl (teq (own_s6 i0 i1 i2)).2 k) ?_
      refine own_pre (S' := (T24.setTop (mkF m 175 #[.val (.int i0), .val (.int i1), .val (.int i2), .val (.int i3), .val (.int kk), .val (.ref a_FAILED), .val (.ref b14), .val (.ref b16), .val (.int ((i0 + 1) - i0)), .val (.int (i1 - i1)), .val (.int ((i2 + 1) - i2)), .val (.int ((((i0 + 1) - i1) - (i2 + 1)) - ((i0 - i1) - i2))), .val (.int (0 : Int32)), .val (.int (1 : Int32)), .val (.int (0 : Int32))] [(.int (1 : Int32))]))) (fun t k => XS.iconst X24.here hx rfl (hb hby at_174) k) ?_
      refine own_pre (S' := (T24.setTop (mkF m 179 #[.val (.int i0), .val (.int i1), .val (.int i2), .val (.int i3), .val (.int kk), .val (.ref a_FAILED), .val (.ref b14), .val (.ref b16), .val (.int ((i0 + 1) - i0)), .val (.int (i1 - i1)), .val (.int ((i2 + 1) - i2)), .val (.int ((((i0 + 1) - i1) - (i2 + 1)) - ((i0 - i1) - i2))), .val (.int (0 : Int32)), .val (.int (1 : Int32)), .val (.int (0 : Int32))] [(.int (1 : Int32))]))) (fun t k => XS.goto X24.here hx rfl (pc0 := 175) (pc' := 179) rfl (hb hby at_175) (by decide) (by decide) k) ?_
      refine own_ret (t := .boolean) X24 hx hlk hrt rfl (Or.inl ⟨rfl, by simp, _, rfl⟩) (hb hby at_179) (by decide) (by decide) ?_
      exact ⟨rfl, N24⟩
    · -- pc 22: not kk = (1 : Int32)
      refine own_pre (S' := (T0.setTop (mkF m 31 #[.val (.int i0), .val (.int i1), .val (.int i2), .val (.int i3), .val (.int kk), .unset, .unset, .unset, .unset, .unset, .unset, .unset, .unset, .unset, .unset] []))) (fun t k => XS.icmpYes X0.here hx rfl (pc0 := 22) (pc' := 31) rfl (hb hby at_22) rfl (feq c22).2 (by decide) (by decide) k) ?_
      obtain ⟨T25, X25, e25, st25⟩ := getS2 X0 hx hZ hown (host := "") (Or.inl (hw _ (List.mem_of_getElem? (i := 54) rfl))) Via.refl e0 S_SKIPPED (g := (mkF m 31 #[.val (.int i0), .val (.int i1), .val (.int i2), .val (.int i3), .val (.int kk), .unset, .unset, .unset, .unset, .unset, .unset, .unset, .unset, .unset, .unset] [])) rfl (hb hby at_31)
      refine own_pre (S' := (T25.setTop (mkF m 34 #[.val (.int i0), .val (.int i1), .val (.int i2), .val (.int i3), .val (.int kk), .unset, .unset, .unset, .unset, .unset, .unset, .unset, .unset, .unset, .unset] [(.ref a_SKIPPED)]))) st25 ?_
      refine own_pre (S' := (T25.setTop (mkF m 36 #[.val (.int i0), .val (.int i1), .val (.int i2), .val (.int i3), .val (.int kk), .val (.ref a_SKIPPED), .unset, .unset, .unset, .unset, .unset, .unset, .unset, .unset, .unset] []))) (fun t k => XS.astore X25.here hx rfl (hb hby at_34) rfl rfl (l' := #[.val (.int i0), .val (.int i1), .val (.int i2), .val (.int i3), .val (.int kk), .val (.ref a_SKIPPED), .unset, .unset, .unset, .unset, .unset, .unset, .unset, .unset, .unset]) rfl k) ?_
      obtain ⟨T26, h26, X26, e26, E26, A26, D26, -, st26⟩ := newO X25 hx hZ hown (hw _ (List.mem_of_getElem? (i := 4) rfl)) (hw _ (List.mem_of_getElem? (i := 5) rfl)) (hw _ (List.mem_of_getElem? (i := 6) rfl)) e25 (g := (mkF m 36 #[.val (.int i0), .val (.int i1), .val (.int i2), .val (.int i3), .val (.int kk), .val (.ref a_SKIPPED), .unset, .unset, .unset, .unset, .unset, .unset, .unset, .unset, .unset] [])) rfl (hb hby at_36) (by decide) (by decide)
      obtain ⟨b26, g26⟩ : ∃ z, z = h0.size := ⟨_, rfl⟩
      rw [← g26] at A26 D26 st26
      have sz_b26 : h0.size ≤ b26 := Nat.le_trans (Nat.le_refl h0.size) (Nat.le_of_eq g26.symm)
      have ge_b26 : n0 ≤ b26 := Nat.le_trans Z0 (Nat.le_of_eq g26.symm)
      have ne_a_FAILED_b26 : a_FAILED ≠ b26 := Nat.ne_of_lt (Nat.lt_of_lt_of_le E_FAILED.lt (Nat.le_of_eq g26.symm))
      have ne_a_PASSED_b26 : a_PASSED ≠ b26 := Nat.ne_of_lt (Nat.lt_of_lt_of_le E_PASSED.lt (Nat.le_of_eq g26.symm))
      have ne_a_SKIPPED_b26 : a_SKIPPED ≠ b26 := Nat.ne_of_lt (Nat.lt_of_lt_of_le E_SKIPPED.lt (Nat.le_of_eq g26.symm))
      have F26_tests : Fld Z h26 b26 "com/example/assay_runner/assayrunner/report/ReportPage$Counts" "tests" "I" (.int (0 : Int32)) := D26 (Or.inr (hw _ (List.mem_of_getElem? (i := 19) rfl))) (ty := .int) (by decide)
      have F26_passed : Fld Z h26 b26 "com/example/assay_runner/assayrunner/report/ReportPage$Counts" "passed" "I" (.int (0 : Int32)) := D26 (Or.inr (hw _ (List.mem_of_getElem? (i := 21) rfl))) (ty := .int) (by decide)
      have F26_failed : Fld Z h26 b26 "com/example/assay_runner/assayrunner/report/ReportPage$Counts" "failed" "I" (.int (0 : Int32)) := D26 (Or.inr (hw _ (List.mem_of_getElem? (i := 23) rfl))) (ty := .int) (by decide)
      refine own_pre (S' := (T26.setTop (mkF m 39 #[.val (.int i0), .val (.int i1), .val (.int i2), .val (.int i3), .val (.int kk), .val (.ref a_SKIPPED), .unset, .unset, .unset, .unset, .unset, .unset, .unset, .unset, .unset] [(.ref b26)]))) st26 ?_
      refine own_pre (S' := (T26.setTop (mkF m 40 #[.val (.int i0), .val (.int i1), .val (.int i2), .val (.int i3), .val (.int kk), .val (.ref a_SKIPPED), .unset, .unset, .unset, .unset, .unset, .unset, .unset, .unset, .unset] [(.ref b26), (.ref b26)]))) (fun t k => XS.dup X26.here hx rfl (hb hby at_39) rfl rfl k) ?_
      refine own_pre (S' := (T26.setTop (mkF m 41 #[.val (.int i0), .val (.int i1), .val (.int i2), .val (.int i3), .val (.int kk), .val (.ref a_SKIPPED), .unset, .unset, .unset, .unset, .unset, .unset, .unset, .unset, .unset] [(.int i0), (.ref b26), (.ref b26)]))) (fun t k => XS.iloadN X26.here hx rfl (hb hby at_40) rfl k) ?_
      refine own_pre (S' := (T26.setTop (mkF m 42 #[.val (.int i0), .val (.int i1), .val (.int i2), .val (.int i3), .val (.int kk), .val (.ref a_SKIPPED), .unset, .unset, .unset, .unset, .unset, .unset, .unset, .unset, .unset] [(.int i1), (.int i0), (.ref b26), (.ref b26)]))) (fun t k => XS.iloadN X26.here hx rfl (hb hby at_41) rfl k) ?_
      refine own_pre (S' := (T26.setTop (mkF m 43 #[.val (.int i0), .val (.int i1), .val (.int i2), .val (.int i3), .val (.int kk), .val (.ref a_SKIPPED), .unset, .unset, .unset, .unset, .unset, .unset, .unset, .unset, .unset] [(.int i2), (.int i1), (.int i0), (.ref b26), (.ref b26)]))) (fun t k => XS.iloadN X26.here hx rfl (hb hby at_42) rfl k) ?_
      refine own_callI (y := (⟨"com/example/assay_runner/assayrunner/report/ReportPage$Counts", "<init>", "(III)V"⟩ : MethodName)) (b := b26) X26 hx hZ hown rfl (hw _ (List.mem_of_getElem? (i := 7) rfl)) (hw _ (List.mem_of_getElem? (i := 8) rfl)) (hw _ (List.mem_of_getElem? (i := 9) rfl)) (hw _ (List.mem_of_getElem? (i := 6) rfl)) (by decide) e26 (hM := own_ci l Z a0 hw [] b26 i0 i1 i2 h26 n0 (Nat.le_trans Z0 E26.1) F26_tests F26_passed F26_failed A26 ge_b26) (W := 1) (pc := 43) (Ls := #[.val (.int i0), .val (.int i1), .val (.int i2), .val (.int i3), .val (.int kk), .val (.ref a_SKIPPED), .unset, .unset, .unset, .unset, .unset, .unset, .unset, .unset, .unset]) (argsL := [(.int i0), (.int i1), (.int i2)]) (rest := [(.ref b26)]) (st0 := [(.int i2), (.int i1), (.int i0), (.ref b26), (.ref b26)]) (by rw [hml]; rfl) (lenOf own_pd1 rfl) rfl (Nat.le_of_eq rfl) (hb hby at_43) (by decide) (by decide) (by decide) (by decide) ?_
      intro v27 T27 L27 X27 hQ27
      obtain ⟨rfl, Nq27, K27, Ft27, Fp27, Ff27⟩ := hQ27
      have N27 := Fr.app N0 Nq27
      show own_Ends p e below s _ _ _ (T27.setTop (mkF m 46 #[.val (.int i0), .val (.int i1), .val (.int i2), .val (.int i3), .val (.int kk), .val (.ref a_SKIPPED), .unset, .unset, .unset, .unset, .unset, .unset, .unset, .unset, .unset] [(.ref b26)]))
      refine own_pre (S' := (T27.setTop (mkF m 48 #[.val (.int i0), .val (.int i1), .val (.int i2), .val (.int i3), .val (.int kk), .val (.ref a_SKIPPED), .val (.ref b26), .unset, .unset, .unset, .unset, .unset, .unset, .unset, .unset] []))) (fun t k => XS.astore X27.here hx rfl (hb hby at_46) rfl rfl (l' := #[.val (.int i0), .val (.int i1), .val (.int i2), .val (.int i3), .val (.int kk), .val (.ref a_SKIPPED), .val (.ref b26), .unset, .unset, .unset, .unset, .unset, .unset, .unset, .unset]) rfl k) ?_
      refine own_pre (S' := (T27.setTop (mkF m 50 #[.val (.int i0), .val (.int i1), .val (.int i2), .val (.int i3), .val (.int kk), .val (.ref a_SKIPPED), .val (.ref b26), .unset, .unset, .unset, .unset, .unset, .unset, .unset, .unset] [(.ref b26)]))) (fun t k => XS.aload X27.here hx rfl (hb hby at_48) rfl rfl k) ?_
      refine own_pre (S' := (T27.setTop (mkF m 52 #[.val (.int i0), .val (.int i1), .val (.int i2), .val (.int i3), .val (.int kk), .val (.ref a_SKIPPED), .val (.ref b26), .unset, .unset, .unset, .unset, .unset, .unset, .unset, .unset] [(.ref a_SKIPPED), (.ref b26)]))) (fun t k => XS.aload X27.here hx rfl (hb hby at_50) rfl rfl k) ?_
      refine own_callV (C := "com/example/assay_runner/assayrunner/report/ReportPage$Counts") (y := (⟨"com/example/assay_runner/assayrunner/report/ReportPage$Counts", "with", "(Lcom/example/assay_runner/assayrunner/report/ReportPage$Status;)Lcom/example/assay_runner/assayrunner/report/ReportPage$Counts;"⟩ : MethodName)) (b := b26) X27 hx hZ hown (hw _ (List.mem_of_getElem? (i := 24) rfl)) (hw _ (List.mem_of_getElem? (i := 25) rfl)) (hw _ (List.mem_of_getElem? (i := 27) rfl)) (hw _ (List.mem_of_getElem? (i := 26) rfl)) (hw _ (List.mem_of_getElem? (i := 28) rfl)) (hw _ (List.mem_of_getElem? (i := 6) rfl)) (by decide) (rfl : T27.heap = T27.heap) (A26.keep K27) (hM := own_with l Z a0 hw [] b26 a_SKIPPED a_PASSED a_FAILED i0 i1 i2 i1 i2 T27.heap n0 (Nat.le_trans (Nat.le_trans Z0 E26.1) K27.1) Ft27 Fp27 Ff27 (own_sta_keep (S_PASSED.ext E26) K27 (allS (own_plainE A26) all0)) (own_sta_keep (S_FAILED.ext E26) K27 (allS (own_plainE A26) all0)) (if_neg (Ne.symm ne_PASSED_SKIPPED)) (if_neg (Ne.symm ne_FAILED_SKIPPED))) (W := 0) (pc := 52) (Ls := #[.val (.int i0), .val (.int i1), .val (.int i2), .val (.int i3), .val (.int kk), .val (.ref a_SKIPPED), .val (.ref b26), .unset, .unset, .unset, .unset, .unset, .unset, .unset, .unset]) (argsL := [(.ref a_SKIPPED)]) (rest := []) (st0 := [(.ref a_SKIPPED), (.ref b26)]) (by rw [hml]; rfl) (lenOf own_pd2 rfl) rfl (Nat.le_of_eq rfl) (hb hby at_52) (by decide) (by decide) (by decide) (by decide) ?_
      intro v28 T28 L28 X28 hQ28
      obtain ⟨b28, rfl, Nq28, K28, Eb28, Ft28, Fp28, Ff28, ge_b28⟩ := hQ28
      have N28 := Fr.app N27 Nq28
      show own_Ends p e below s _ _ _ (T28.setTop (mkF m 55 #[.val (.int i0), .val (.int i1), .val (.int i2), .val (.int i3), .val (.int kk), .val (.ref a_SKIPPED), .val (.ref b26), .unset, .unset, .unset, .unset, .unset, .unset, .unset, .unset] [(.ref b28)]))
      refine own_pre (S' := (T28.setTop (mkF m 57 #[.val (.int i0), .val (.int i1), .val (.int i2), .val (.int i3), .val (.int kk), .val (.ref a_SKIPPED), .val (.ref b26), .val (.ref b28), .unset, .unset, .unset, .unset, .unset, .unset, .unset] []))) (fun t k => XS.astore X28.here hx rfl (hb hby at_55) rfl rfl (l' := #[.val (.int i0), .val (.int i1), .val (.int i2), .val (.int i3), .val (.int kk), .val (.ref a_SKIPPED), .val (.ref b26), .val (.ref b28), .unset, .unset, .unset, .unset, .unset, .unset, .unset]) rfl k) ?_
      refine own_pre (S' := (T28.setTop (mkF m 59 #[.val (.int i0), .val (.int i1), .val (.int i2), .val (.int i3), .val (.int kk), .val (.ref a_SKIPPED), .val (.ref b26), .val (.ref b28), .unset, .unset, .unset, .unset, .unset, .unset, .unset] [(.ref b28)]))) (fun t k => XS.aload X28.here hx rfl (hb hby at_57) rfl rfl k) ?_
      refine own_callV (C := "com/example/assay_runner/assayrunner/report/ReportPage$Counts") (y := (⟨"com/example/assay_runner/assayrunner/report/ReportPage$Counts", "tests", "()I"⟩ : MethodName)) (b := b28) X28 hx hZ hown (hw _ (List.mem_of_getElem? (i := 34) rfl)) (hw _ (List.mem_of_getElem? (i := 35) rfl)) (hw _ (List.mem_of_getElem? (i := 37) rfl)) (hw _ (List.mem_of_getElem? (i := 36) rfl)) (hw _ (List.mem_of_getElem? (i := 38) rfl)) (hw _ (List.mem_of_getElem? (i := 6) rfl)) (by decide) (rfl : T28.heap = T28.heap) Eb28 (hM := own_tests l Z a0 hw [] b28 (i0 + 1) T28.heap n0 (Nat.le_trans (Nat.le_trans (Nat.le_trans Z0 E26.1) K27.1) K28.1) Ft28) (W := 0) (pc := 59) (Ls := #[.val (.int i0), .val (.int i1), .val (.int i2), .val (.int i3), .val (.int kk), .val (.ref a_SKIPPED), .val (.ref b26), .val (.ref b28), .unset, .unset, .unset, .unset, .unset, .unset, .unset]) (argsL := []) (rest := []) (st0 := [(.ref b28)]) (by rw [hml]; rfl) (lenOf own_pd3 rfl) rfl (Nat.le_of_eq rfl) (hb hby at_59) (by decide) (by decide) (by decide) (by decide) ?_
      intro v29 T29 L29 X29 hQ29
      obtain ⟨rfl, Nq29, hh29⟩ := hQ29
      have N29 := Fr.app N28 Nq29
      show own_Ends p e below s _ _ _ (T29.setTop (mkF m 62 #[.val (.int i0), .val (.int i1), .val (.int i2), .val (.int i3), .val (.int kk), .val (.ref a_SKIPPED), .val (.ref b26), .val (.ref b28), .unset, .unset, .unset, .unset, .unset, .unset, .unset] [(.int (i0 + 1))]))
      refine own_pre (S' := (T29.setTop (mkF m 64 #[.val (.int i0), .val (.int i1), .val (.int i2), .val (.int i3), .val (.int kk), .val (.ref a_SKIPPED), .val (.ref b26), .val (.ref b28), .unset, .unset, .unset, .unset, .unset, .unset, .unset] [(.ref b26), (.int (i0 + 1))]))) (fun t k => XS.aload X29.here hx rfl (hb hby at_62) rfl rfl k) ?_
      refine own_callV (C := "com/example/assay_runner/assayrunner/report/ReportPage$Counts") (y := (⟨"com/example/assay_runner/assayrunner/report/ReportPage$Counts", "tests", "()I"⟩ : MethodName)) (b := b26) X29 hx hZ hown (hw _ (List.mem_of_getElem? (i := 34) rfl)) (hw _ (List.mem_of_getElem? (i := 35) rfl)) (hw _ (List.mem_of_getElem? (i := 37) rfl)) (hw _ (List.mem_of_getElem? (i := 36) rfl)) (hw _ (List.mem_of_getElem? (i := 38) rfl)) (hw _ (List.mem_of_getElem? (i := 6) rfl)) (by decide) hh29 ((A26.keep K27).keep K28) (hM := own_tests l Z a0 hw [] b26 i0 T28.heap n0 (Nat.le_trans (Nat.le_trans (Nat.le_trans Z0 E26.1) K27.1) K28.1) (Ft27.keep K28 nin0)) (W := 1) (pc := 64) (Ls := #[.val (.int i0), .val (.int i1), .val (.int i2), .val (.int i3), .val (.int kk), .val (.ref a_SKIPPED), .val (.ref b26), .val (.ref b28), .unset, .unset, .unset, .unset, .unset, .unset, .unset]) (argsL := []) (rest := [(.int (i0 + 1))]) (st0 := [(.ref b26), (.int (i0 + 1))]) (by rw [hml]; rfl) (lenOf own_pd3 rfl) rfl (Nat.le_of_eq rfl) (hb hby at_64) (by decide) (by decide) (by decide) (by decide) ?_
      intro v30 T30 L30 X30 hQ30
      obtain ⟨rfl, Nq30, hh30⟩ := hQ30
      have N30 := Fr.app N29 Nq30
      show own_Ends p e below s _ _ _ (T30.setTop (mkF m 67 #[.val (.int i0), .val (.int i1), .val (.int i2), .val (.int i3), .val (.int kk), .val (.ref a_SKIPPED), .val (.ref b26), .val (.ref b28), .unset, .unset, .unset, .unset, .unset, .unset, .unset] [(.int i0), (.int (i0 + 1))]))
      refine own_pre (S' := (T30.setTop (mkF m 68 #[.val (.int i0), .val (.int i1), .val (.int i2), .val (.int i3), .val (.int kk), .val (.ref a_SKIPPED), .val (.ref b26), .val (.ref b28), .unset, .unset, .unset, .unset, .unset, .unset, .unset] [(.int ((i0 + 1) - i0))]))) (fun t k => XS.isub X30.here hx rfl (hb hby at_67) rfl k) ?_
      refine own_pre (S' := (T30.setTop (mkF m 70 #[.val (.int i0), .val (.int i1), .val (.int i2), .val (.int i3), .val (.int kk), .val (.ref a_SKIPPED), .val (.ref b26), .val (.ref b28), .val (.int ((i0 + 1) - i0)), .unset, .unset, .unset, .unset, .unset, .unset] []))) (fun t k => XS.istore X30.here hx rfl (hb hby at_68) rfl (l' := #[.val (.int i0), .val (.int i1), .val (.int i2), .val (.int i3), .val (.int kk), .val (.ref a_SKIPPED), .val (.ref b26), .val (.ref b28), .val (.int ((i0 + 1) - i0)), .unset, .unset, .unset, .unset, .unset, .unset]) rfl k) ?_
      refine own_pre (S' := (T30.setTop (mkF m 72 #[.val (.int i0), .val (.int i1), .val (.int i2), .val (.int i3), .val (.int kk), .val (.ref a_SKIPPED), .val (.ref b26), .val (.ref b28), .val (.int ((i0 + 1) - i0)), .unset, .unset, .unset, .unset, .unset, .unset] [(.ref b28)]))) (fun t k => XS.aload X30.here hx rfl (hb hby at_70) rfl rfl k) ?_
      refine own_callV (C := "com/example/assay_runner/assayrunner/report/ReportPage$Counts") (y := (⟨"com/example/assay_runner/assayrunner/report/ReportPage$Counts", "passed", "()I"⟩ : MethodName)) (b := b28) X30 hx hZ hown (hw _ (List.mem_of_getElem? (i := 39) rfl)) (hw _ (List.mem_of_getElem? (i := 40) rfl)) (hw _ (List.mem_of_getElem? (i := 42) rfl)) (hw _ (List.mem_of_getElem? (i := 41) rfl)) (hw _ (List.mem_of_getElem? (i := 43) rfl)) (hw _ (List.mem_of_getElem? (i := 6) rfl)) (by decide) hh30 Eb28 (hM := own_passed l Z a0 hw [] b28 i1 T28.heap n0 (Nat.le_trans (Nat.le_trans (Nat.le_trans Z0 E26.1) K27.1) K28.1) Fp28) (W := 0) (pc := 72) (Ls := #[.val (.int i0), .val (.int i1), .val (.int i2), .val (.int i3), .val (.int kk), .val (.ref a_SKIPPED), .val (.ref b26), .val (.ref b28), .val (.int ((i0 + 1) - i0)), .unset, .unset, .unset, .unset, .unset, .unset]) (argsL := []) (rest := []) (st0 := [(.ref b28)]) (by rw [hml]; rfl) (lenOf own_pd3 rfl) rfl (Nat.le_of_eq rfl) (hb hby at_72) (by decide) (by decide) (by decide) (by decide) ?_
      intro v31 T31 L31 X31 hQ31
      obtain ⟨rfl, Nq31, hh31⟩ := hQ31
      have N31 := Fr.app N30 Nq31
      show own_Ends p e below s _ _ _ (T31.setTop (mkF m 75 #[.val (.int i0), .val (.int i1), .val (.int i2), .val (.int i3), .val (.int kk), .val (.ref a_SKIPPED), .val (.ref b26), .val (.ref b28), .val (.int ((i0 + 1) - i0)), .unset, .unset, .unset, .unset, .unset, .unset] [(.int i1)]))
      refine own_pre (S' := (T31.setTop (mkF m 77 #[.val (.int i0), .val (.int i1), .val (.int i2), .val (.int i3), .val (.int kk), .val (.ref a_SKIPPED), .val (.ref b26), .val (.ref b28), .val (.int ((i0 + 1) - i0)), .unset, .unset, .unset, .unset, .unset, .unset] [(.ref b26), (.int i1)]))) (fun t k => XS.aload X31.here hx rfl (hb hby at_75) rfl rfl k) ?_
      refine own_callV (C := "com/example/assay_runner/assayrunner/report/ReportPage$Counts") (y := (⟨"com/example/assay_runner/assayrunner/report/ReportPage$Counts", "passed", "()I"⟩ : MethodName)) (b := b26) X31 hx hZ hown (hw _ (List.mem_of_getElem? (i := 39) rfl)) (hw _ (List.mem_of_getElem? (i := 40) rfl)) (hw _ (List.mem_of_getElem? (i := 42) rfl)) (hw _ (List.mem_of_getElem? (i := 41) rfl)) (hw _ (List.mem_of_getElem? (i := 43) rfl)) (hw _ (List.mem_of_getElem? (i := 6) rfl)) (by decide) hh31 ((A26.keep K27).keep K28) (hM := own_passed l Z a0 hw [] b26 i1 T28.heap n0 (Nat.le_trans (Nat.le_trans (Nat.le_trans Z0 E26.1) K27.1) K28.1) (Fp27.keep K28 nin0)) (W := 1) (pc := 77) (Ls := #[.val (.int i0), .val (.int i1), .val (.int i2), .val (.int i3), .val (.int kk), .val (.ref a_SKIPPED), .val (.ref b26), .val (.ref b28), .val (.int ((i0 + 1) - i0)), .unset, .unset, .unset, .unset, .unset, .unset]) (argsL := []) (rest := [(.int i1)]) (st0 := [(.ref b26), (.int i1)]) (by rw [hml]; rfl) (lenOf own_pd3 rfl) rfl (Nat.le_of_eq rfl) (hb hby at_77) (by decide) (by decide) (by decide) (by decide) ?_
      intro v32 T32 L32 X32 hQ32
      obtain ⟨rfl, Nq32, hh32⟩ := hQ32
      have N32 := Fr.app N31 Nq32
      show own_Ends p e below s _ _ _ (T32.setTop (mkF m 80 #[.val (.int i0), .val (.int i1), .val (.int i2), .val (.int i3), .val (.int kk), .val (.ref a_SKIPPED), .val (.ref b26), .val (.ref b28), .val (.int ((i0 + 1) - i0)), .unset, .unset, .unset, .unset, .unset, .unset] [(.int i1), (.int i1)]))
      refine own_pre (S' := (T32.setTop (mkF m 81 #[.val (.int i0), .val (.int i1), .val (.int i2), .val (.int i3), .val (.int kk), .val (.ref a_SKIPPED), .val (.ref b26), .val (.ref b28), .val (.int ((i0 + 1) - i0)), .unset, .unset, .unset, .unset, .unset, .unset] [(.int (i1 - i1))]))) (fun t k => XS.isub X32.here hx rfl (hb hby at_80) rfl k) ?_
      refine own_pre (S' := (T32.setTop (mkF m 83 #[.val (.int i0), .val (.int i1), .val (.int i2), .val (.int i3), .val (.int kk), .val (.ref a_SKIPPED), .val (.ref b26), .val (.ref b28), .val (.int ((i0 + 1) - i0)), .val (.int (i1 - i1)), .unset, .unset, .unset, .unset, .unset] []))) (fun t k => XS.istore X32.here hx rfl (hb hby at_81) rfl (l' := #[.val (.int i0), .val (.int i1), .val (.int i2), .val (.int i3), .val (.int kk), .val (.ref a_SKIPPED), .val (.ref b26), .val (.ref b28), .val (.int ((i0 + 1) - i0)), .val (.int (i1 - i1)), .unset, .unset, .unset, .unset, .unset]) rfl k) ?_
      refine own_pre (S' := (T32.setTop (mkF m 85 #[.val (.int i0), .val (.int i1), .val (.int i2), .val (.int i3), .val (.int kk), .val (.ref a_SKIPPED), .val (.ref b26), .val (.ref b28), .val (.int ((i0 + 1) - i0)), .val (.int (i1 - i1)), .unset, .unset, .unset, .unset, .unset] [(.ref b28)]))) (fun t k => XS.aload X32.here hx rfl (hb hby at_83) rfl rfl k) ?_
      refine own_callV (C := "com/example/assay_runner/assayrunner/report/ReportPage$Counts") (y := (⟨"com/example/assay_runner/assayrunner/report/ReportPage$Counts", "failed", "()I"⟩ : MethodName)) (b := b28) X32 hx hZ hown (hw _ (List.mem_of_getElem? (i := 44) rfl)) (hw _ (List.mem_of_getElem? (i := 45) rfl)) (hw _ (List.mem_of_getElem? (i := 47) rfl)) (hw _ (List.mem_of_getElem? (i := 46) rfl)) (hw _ (List.mem_of_getElem? (i := 48) rfl)) (hw _ (List.mem_of_getElem? (i := 6) rfl)) (by decide) hh32 Eb28 (hM := own_failed l Z a0 hw [] b28 i2 T28.heap n0 (Nat.le_trans (Nat.le_trans (Nat.le_trans Z0 E26.1) K27.1) K28.1) Ff28) (W := 0) (pc := 85) (Ls := #[.val (.int i0), .val (.int i1), .val (.int i2), .val (.int i3), .val (.int kk), .val (.ref a_SKIPPED), .val (.ref b26), .val (.ref b28), .val (.int ((i0 + 1) - i0)), .val (.int (i1 - i1)), .unset, .unset, .unset, .unset, .unset]) (argsL := []) (rest := []) (st0 := [(.ref b28)]) (by rw [hml]; rfl) (lenOf own_pd3 rfl) rfl (Nat.le_of_eq rfl) (hb hby at_85) (by decide) (by decide) (by decide) (by decide) ?_
      intro v33 T33 L33 X33 hQ33
      obtain ⟨rfl, Nq33, hh33⟩ := hQ33
      have N33 := Fr.app N32 Nq33
      show own_Ends p e below s _ _ _ (T33.setTop (mkF m 88 #[.val (.int i0), .val (.int i1), .val (.int i2), .val (.int i3), .val (.int kk), .val (.ref a_SKIPPED), .val (.ref b26), .val (.ref b28), .val (.int ((i0 + 1) - i0)), .val (.int (i1 - i1)), .unset, .unset, .unset, .unset, .unset] [(.int i2)]))
      refine own_pre (S' := (T33.setTop (mkF m 90 #[.val (.int i0), .val (.int i1), .val (.int i2), .val (.int i3), .val (.int kk), .val (.ref a_SKIPPED), .val (.ref b26), .val (.ref b28), .val (.int ((i0 + 1) - i0)), .val (.int (i1 - i1)), .unset, .unset, .unset, .unset, .unset] [(.ref b26), (.int i2)]))) (fun t k => XS.aload X33.here hx rfl (hb hby at_88) rfl rfl k) ?_
      refine own_callV (C := "com/example/assay_runner/assayrunner/report/ReportPage$Counts") (y := (⟨"com/example/assay_runner/assayrunner/report/ReportPage$Counts", "failed", "()I"⟩ : MethodName)) (b := b26) X33 hx hZ hown (hw _ (List.mem_of_getElem? (i := 44) rfl)) (hw _ (List.mem_of_getElem? (i := 45) rfl)) (hw _ (List.mem_of_getElem? (i := 47) rfl)) (hw _ (List.mem_of_getElem? (i := 46) rfl)) (hw _ (List.mem_of_getElem? (i := 48) rfl)) (hw _ (List.mem_of_getElem? (i := 6) rfl)) (by decide) hh33 ((A26.keep K27).keep K28) (hM := own_failed l Z a0 hw [] b26 i2 T28.heap n0 (Nat.le_trans (Nat.le_trans (Nat.le_trans Z0 E26.1) K27.1) K28.1) (Ff27.keep K28 nin0)) (W := 1) (pc := 90) (Ls := #[.val (.int i0), .val (.int i1), .val (.int i2), .val (.int i3), .val (.int kk), .val (.ref a_SKIPPED), .val (.ref b26), .val (.ref b28), .val (.int ((i0 + 1) - i0)), .val (.int (i1 - i1)), .unset, .unset, .unset, .unset, .unset]) (argsL := []) (rest := [(.int i2)]) (st0 := [(.ref b26), (.int i2)]) (by rw [hml]; rfl) (lenOf own_pd3 rfl) rfl (Nat.le_of_eq rfl) (hb hby at_90) (by decide) (by decide) (by decide) (by decide) ?_
      intro v34 T34 L34 X34 hQ34
      obtain ⟨rfl, Nq34, hh34⟩ := hQ34
      have N34 := Fr.app N33 Nq34
      show own_Ends p e below s _ _ _ (T34.setTop (mkF m 93 #[.val (.int i0), .val (.int i1), .val (.int i2), .val (.int i3), .val (.int kk), .val (.ref a_SKIPPED), .val (.ref b26), .val (.ref b28), .val (.int ((i0 + 1) - i0)), .val (.int (i1 - i1)), .unset, .unset, .unset, .unset, .unset] [(.int i2), (.int i2)]))
      refine own_pre (S' := (T34.setTop (mkF m 94 #[.val (.int i0), .val (.int i1), .val (.int i2), .val (.int i3), .val (.int kk), .val (.ref a_SKIPPED), .val (.ref b26), .val (.ref b28), .val (.int ((i0 + 1) - i0)), .val (.int (i1 - i1)), .unset, .unset, .unset, .unset, .unset] [(.int (i2 - i2))]))) (fun t k => XS.isub X34.here hx rfl (hb hby at_93) rfl k) ?_
      refine own_pre (S' := (T34.setTop (mkF m 96 #[.val (.int i0), .val (.int i1), .val (.int i2), .val (.int i3), .val (.int kk), .val (.ref a_SKIPPED), .val (.ref b26), .val (.ref b28), .val (.int ((i0 + 1) - i0)), .val (.int (i1 - i1)), .val (.int (i2 - i2)), .unset, .unset, .unset, .unset] []))) (fun t k => XS.istore X34.here hx rfl (hb hby at_94) rfl (l' := #[.val (.int i0), .val (.int i1), .val (.int i2), .val (.int i3), .val (.int kk), .val (.ref a_SKIPPED), .val (.ref b26), .val (.ref b28), .val (.int ((i0 + 1) - i0)), .val (.int (i1 - i1)), .val (.int (i2 - i2)), .unset, .unset, .unset, .unset]) rfl k) ?_
      refine own_pre (S' := (T34.setTop (mkF m 98 #[.val (.int i0), .val (.int i1), .val (.int i2), .val (.int i3), .val (.int kk), .val (.ref a_SKIPPED), .val (.ref b26), .val (.ref b28), .val (.int ((i0 + 1) - i0)), .val (.int (i1 - i1)), .val (.int (i2 - i2)), .unset, .unset, .unset, .unset] [(.ref b28)]))) (fun t k => XS.aload X34.here hx rfl (hb hby at_96) rfl rfl k) ?_
      refine own_callV (C := "com/example/assay_runner/assayrunner/report/ReportPage$Counts") (y := (⟨"com/example/assay_runner/assayrunner/report/ReportPage$Counts", "skipped", "()I"⟩ : MethodName)) (b := b28) X34 hx hZ hown (hw _ (List.mem_of_getElem? (i := 49) rfl)) (hw _ (List.mem_of_getElem? (i := 50) rfl)) (hw _ (List.mem_of_getElem? (i := 52) rfl)) (hw _ (List.mem_of_getElem? (i := 51) rfl)) (hw _ (List.mem_of_getElem? (i := 53) rfl)) (hw _ (List.mem_of_getElem? (i := 6) rfl)) (by decide) hh34 Eb28 (hM := own_skipped l Z a0 hw [] b28 (i0 + 1) i1 i2 T28.heap n0 (Nat.le_trans (Nat.le_trans (Nat.le_trans Z0 E26.1) K27.1) K28.1) Ft28 Fp28 Ff28) (W := 0) (pc := 98) (Ls := #[.val (.int i0), .val (.int i1), .val (.int i2), .val (.int i3), .val (.int kk), .val (.ref a_SKIPPED), .val (.ref b26), .val (.ref b28), .val (.int ((i0 + 1) - i0)), .val (.int (i1 - i1)), .val (.int (i2 - i2)), .unset, .unset, .unset, .unset]) (argsL := []) (rest := []) (st0 := [(.ref b28)]) (by rw [hml]; rfl) (lenOf own_pd3 rfl) rfl (Nat.le_of_eq rfl) (hb hby at_98) (by decide) (by decide) (by decide) (by decide) ?_
      intro v35 T35 L35 X35 hQ35
      obtain ⟨rfl, Nq35, hh35⟩ := hQ35
      have N35 := Fr.app N34 Nq35
      show own_Ends p e below s _ _ _ (T35.setTop (mkF m 101 #[.val (.int i0), .val (.int i1), .val (.int i2), .val (.int i3), .val (.int kk), .val (.ref a_SKIPPED), .val (.ref b26), .val (.ref b28), .val (.int ((i0 + 1) - i0)), .val (.int (i1 - i1)), .val (.int (i2 - i2)), .unset, .unset, .unset, .unset] [(.int (((i0 + 1) - i1) - i2))]))
      refine own_pre (S' := (T35.setTop (mkF m 103 #[.val (.int i0), .val (.int i1), .val (.int i2), .val (.int i3), .val (.int kk), .val (.ref a_SKIPPED), .val (.ref b26), .val (.ref b28), .val (.int ((i0 + 1) - i0)), .val (.int (i1 - i1)), .val (.int (i2 - i2)), .unset, .unset, .unset, .unset] [(.ref b26), (.int (((i0 + 1) - i1) - i2))]))) (fun t k => XS.aload X35.here hx rfl (hb hby at_101) rfl rfl k) ?_
      refine own_callV (C := "com/example/assay_runner/assayrunner/report/ReportPage$Counts") (y := (⟨"com/example/assay_runner/assayrunner/report/ReportPage$Counts", "skipped", "()I"⟩ : MethodName)) (b := b26) X35 hx hZ hown (hw _ (List.mem_of_getElem? (i := 49) rfl)) (hw _ (List.mem_of_getElem? (i := 50) rfl)) (hw _ (List.mem_of_getElem? (i := 52) rfl)) (hw _ (List.mem_of_getElem? (i := 51) rfl)) (hw _ (List.mem_of_getElem? (i := 53) rfl)) (hw _ (List.mem_of_getElem? (i := 6) rfl)) (by decide) hh35 ((A26.keep K27).keep K28) (hM := own_skipped l Z a0 hw [] b26 i0 i1 i2 T28.heap n0 (Nat.le_trans (Nat.le_trans (Nat.le_trans Z0 E26.1) K27.1) K28.1) (Ft27.keep K28 nin0) (Fp27.keep K28 nin0) (Ff27.keep K28 nin0)) (W := 1) (pc := 103) (Ls := #[.val (.int i0), .val (.int i1), .val (.int i2), .val (.int i3), .val (.int kk), .val (.ref a_SKIPPED), .val (.ref b26), .val (.ref b28), .val (.int ((i0 + 1) - i0)), .val (.int (i1 - i1)), .val (.int (i2 - i2)), .unset, .unset, .unset, .unset]) (argsL := []) (rest := [(.int (((i0 + 1) - i1) - i2))]) (st0 := [(.ref b26), (.int (((i0 + 1) - i1) - i2))]) (by rw [hml]; rfl) (lenOf own_pd3 rfl) rfl (Nat.le_of_eq rfl) (hb hby at_103) (by decide) (by decide) (by decide) (by decide) ?_
      intro v36 T36 L36 X36 hQ36
      obtain ⟨rfl, Nq36, hh36⟩ := hQ36
      have N36 := Fr.app N35 Nq36
      show own_Ends p e below s _ _ _ (T36.setTop (mkF m 106 #[.val (.int i0), .val (.int i1), .val (.int i2), .val (.int i3), .val (.int kk), .val (.ref a_SKIPPED), .val (.ref b26), .val (.ref b28), .val (.int ((i0 + 1) - i0)), .val (.int (i1 - i1)), .val (.int (i2 - i2)), .unset, .unset, .unset, .unset] [(.int ((i0 - i1) - i2)), (.int (((i0 + 1) - i1) - i2))]))
      refine own_pre (S' := (T36.setTop (mkF m 107 #[.val (.int i0), .val (.int i1), .val (.int i2), .val (.int i3), .val (.int kk), .val (.ref a_SKIPPED), .val (.ref b26), .val (.ref b28), .val (.int ((i0 + 1) - i0)), .val (.int (i1 - i1)), .val (.int (i2 - i2)), .unset, .unset, .unset, .unset] [(.int ((((i0 + 1) - i1) - i2) - ((i0 - i1) - i2)))]))) (fun t k => XS.isub X36.here hx rfl (hb hby at_106) rfl k) ?_
      refine own_pre (S' := (T36.setTop (mkF m 109 #[.val (.int i0), .val (.int i1), .val (.int i2), .val (.int i3), .val (.int kk), .val (.ref a_SKIPPED), .val (.ref b26), .val (.ref b28), .val (.int ((i0 + 1) - i0)), .val (.int (i1 - i1)), .val (.int (i2 - i2)), .val (.int ((((i0 + 1) - i1) - i2) - ((i0 - i1) - i2))), .unset, .unset, .unset] []))) (fun t k => XS.istore X36.here hx rfl (hb hby at_107) rfl (l' := #[.val (.int i0), .val (.int i1), .val (.int i2), .val (.int i3), .val (.int kk), .val (.ref a_SKIPPED), .val (.ref b26), .val (.ref b28), .val (.int ((i0 + 1) - i0)), .val (.int (i1 - i1)), .val (.int (i2 - i2)), .val (.int ((((i0 + 1) - i1) - i2) - ((i0 - i1) - i2))), .unset, .unset, .unset]) rfl k) ?_
      refine own_pre (S' := (T36.setTop (mkF m 111 #[.val (.int i0), .val (.int i1), .val (.int i2), .val (.int i3), .val (.int kk), .val (.ref a_SKIPPED), .val (.ref b26), .val (.ref b28), .val (.int ((i0 + 1) - i0)), .val (.int (i1 - i1)), .val (.int (i2 - i2)), .val (.int ((((i0 + 1) - i1) - i2) - ((i0 - i1) - i2))), .unset, .unset, .unset] [(.int kk)]))) (fun t k => XS.iload X36.here hx rfl (hb hby at_109) rfl k) ?_
      refine own_pre (S' := (T36.setTop (mkF m 118 #[.val (.int i0), .val (.int i1), .val (.int i2), .val (.int i3), .val (.int kk), .val (.ref a_SKIPPED), .val (.ref b26), .val (.ref b28), .val (.int ((i0 + 1) - i0)), .val (.int (i1 - i1)), .val (.int (i2 - i2)), .val (.int ((((i0 + 1) - i1) - i2) - ((i0 - i1) - i2))), .unset, .unset, .unset] []))) (fun t k => XS.ifYes X36.here hx rfl (pc0 := 111) (pc' := 118) rfl (hb hby at_111) rfl ((if0 _ _).trans (feq c10).2) (by decide) (by decide) k) ?_
      refine own_pre (S' := (T36.setTop (mkF m 119 #[.val (.int i0), .val (.int i1), .val (.int i2), .val (.int i3), .val (.int kk), .val (.ref a_SKIPPED), .val (.ref b26), .val (.ref b28), .val (.int ((i0 + 1) - i0)), .val (.int (i1 - i1)), .val (.int (i2 - i2)), .val (.int ((((i0 + 1) - i1) - i2) - ((i0 - i1) - i2))), .unset, .unset, .unset] [(.int (0 : Int32))]))) (fun t k => XS.iconst X36.here hx rfl (hb hby at_118) k) ?_
      refine own_pre (S' := (T36.setTop (mkF m 121 #[.val (.int i0), .val (.int i1), .val (.int i2), .val (.int i3), .val (.int kk), .val (.ref a_SKIPPED), .val (.ref b26), .val (.ref b28), .val (.int ((i0 + 1) - i0)), .val (.int (i1 - i1)), .val (.int (i2 - i2)), .val (.int ((((i0 + 1) - i1) - i2) - ((i0 - i1) - i2))), .val (.int (0 : Int32)), .unset, .unset] []))) (fun t k => XS.istore X36.here hx rfl (hb hby at_119) rfl (l' := #[.val (.int i0), .val (.int i1), .val (.int i2), .val (.int i3), .val (.int kk), .val (.ref a_SKIPPED), .val (.ref b26), .val (.ref b28), .val (.int ((i0 + 1) - i0)), .val (.int (i1 - i1)), .val (.int (i2 - i2)), .val (.int ((((i0 + 1) - i1) - i2) - ((i0 - i1) - i2))), .val (.int (0 : Int32)), .unset, .unset]) rfl k) ?_
      refine own_pre (S' := (T36.setTop (mkF m 123 #[.val (.int i0), .val (.int i1), .val (.int i2), .val (.int i3), .val (.int kk), .val (.ref a_SKIPPED), .val (.ref b26), .val (.ref b28), .val (.int ((i0 + 1) - i0)), .val (.int (i1 - i1)), .val (.int (i2 - i2)), .val (.int ((((i0 + 1) - i1) - i2) - ((i0 - i1) - i2))), .val (.int (0 : Int32)), .unset, .unset] [(.int kk)]))) (fun t k => XS.iload X36.here hx rfl (hb hby at_121) rfl k) ?_
      refine own_pre (S' := (T36.setTop (mkF m 124 #[.val (.int i0), .val (.int i1), .val (.int i2), .val (.int i3), .val (.int kk), .val (.ref a_SKIPPED), .val (.ref b26), .val (.ref b28), .val (.int ((i0 + 1) - i0)), .val (.int (i1 - i1)), .val (.int (i2 - i2)), .val (.int ((((i0 + 1) - i1) - i2) - ((i0 - i1) - i2))), .val (.int (0 : Int32)), .unset, .unset] [(.int (1 : Int32)), (.int kk)]))) (fun t k => XS.iconst X36.here hx rfl (hb hby at_123) k) ?_
      refine own_pre (S' := (T36.setTop (mkF m 131 #[.val (.int i0), .val (.int i1), .val (.int i2), .val (.int i3), .val (.int kk), .val (.ref a_SKIPPED), .val (.ref b26), .val (.ref b28), .val (.int ((i0 + 1) - i0)), .val (.int (i1 - i1)), .val (.int (i2 - i2)), .val (.int ((((i0 + 1) - i1) - i2) - ((i0 - i1) - i2))), .val (.int (0 : Int32)), .unset, .unset] []))) (fun t k => XS.icmpYes X36.here hx rfl (pc0 := 124) (pc' := 131) rfl (hb hby at_124) rfl (feq c22).2 (by decide) (by decide) k) ?_
      refine own_pre (S' := (T36.setTop (mkF m 132 #[.val (.int i0), .val (.int i1), .val (.int i2), .val (.int i3), .val (.int kk), .val (.ref a_SKIPPED), .val (.ref b26), .val (.ref b28), .val (.int ((i0 + 1) - i0)), .val (.int (i1 - i1)), .val (.int (i2 - i2)), .val (.int ((((i0 + 1) - i1) - i2) - ((i0 - i1) - i2))), .val (.int (0 : Int32)), .unset, .unset] [(.int (0 : Int32))]))) (fun t k => XS.iconst X36.here hx rfl (hb hby at_131) k) ?_
      refine own_pre (S' := (T36.setTop (mkF m 134 #[.val (.int i0), .val (.int i1), .val (.int i2), .val (.int i3), .val (.int kk), .val (.ref a_SKIPPED), .val (.ref b26), .val (.ref b28), .val (.int ((i0 + 1) - i0)), .val (.int (i1 - i1)), .val (.int (i2 - i2)), .val (.int ((((i0 + 1) - i1) - i2) - ((i0 - i1) - i2))), .val (.int (0 : Int32)), .val (.int (0 : Int32)), .unset] []))) (fun t k => XS.istore X36.here hx rfl (hb hby at_132) rfl (l' := #[.val (.int i0), .val (.int i1), .val (.int i2), .val (.int i3), .val (.int kk), .val (.ref a_SKIPPED), .val (.ref b26), .val (.ref b28), .val (.int ((i0 + 1) - i0)), .val (.int (i1 - i1)), .val (.int (i2 - i2)), .val (.int ((((i0 + 1) - i1) - i2) - ((i0 - i1) - i2))), .val (.int (0 : Int32)), .val (.int (0 : Int32)), .unset]) rfl k) ?_
      refine own_pre (S' := (T36.setTop (mkF m 136 #[.val (.int i0), .val (.int i1), .val (.int i2), .val (.int i3), .val (.int kk), .val (.ref a_SKIPPED), .val (.ref b26), .val (.ref b28), .val (.int ((i0 + 1) - i0)), .val (.int (i1 - i1)), .val (.int (i2 - i2)), .val (.int ((((i0 + 1) - i1) - i2) - ((i0 - i1) - i2))), .val (.int (0 : Int32)), .val (.int (0 : Int32)), .unset] [(.int kk)]))) (fun t k => XS.iload X36.here hx rfl (hb hby at_134) rfl k) ?_
      refine own_pre (S' := (T36.setTop (mkF m 137 #[.val (.int i0), .val (.int i1), .val (.int i2), .val (.int i3), .val (.int kk), .val (.ref a_SKIPPED), .val (.ref b26), .val (.ref b28), .val (.int ((i0 + 1) - i0)), .val (.int (i1 - i1)), .val (.int (i2 - i2)), .val (.int ((((i0 + 1) - i1) - i2) - ((i0 - i1) - i2))), .val (.int (0 : Int32)), .val (.int (0 : Int32)), .unset] [(.int (2 : Int32)), (.int kk)]))) (fun t k => XS.iconst X36.here hx rfl (hb hby at_136) k) ?_
      refine own_pre (S' := (T36.setTop (mkF m 140 #[.val (.int i0), .val (.int i1), .val (.int i2), .val (.int i3), .val (.int kk), .val (.ref a_SKIPPED), .val (.ref b26), .val (.ref b28), .val (.int ((i0 + 1) - i0)), .val (.int (i1 - i1)), .val (.int (i2 - i2)), .val (.int ((((i0 + 1) - i1) - i2) - ((i0 - i1) - i2))), .val (.int (0 : Int32)), .val (.int (0 : Int32)), .unset] []))) (fun t k => XS.icmpNo X36.here hx rfl (hb hby at_137) rfl (teq (own_two hkk c10 c22)).2 k) ?_
      refine own_pre (S' := (T36.setTop (mkF m 141 #[.val (.int i0), .val (.int i1), .val (.int i2), .val (.int i3), .val (.int kk), .val (.ref a_SKIPPED), .val (.ref b26), .val (.ref b28), .val (.int ((i0 + 1) - i0)), .val (.int (i1 - i1)), .val (.int (i2 - i2)), .val (.int ((((i0 + 1) - i1) - i2) - ((i0 - i1) - i2))), .val (.int (0 : Int32)), .val (.int (0 : Int32)), .unset] [(.int (1 : Int32))]))) (fun t k => XS.iconst X36.here hx rfl (hb hby at_140) k) ?_
      refine own_pre (S' := (T36.setTop (mkF m 145 #[.val (.int i0), .val (.int i1), .val (.int i2), .val (.int i3), .val (.int kk), .val (.ref a_SKIPPED), .val (.ref b26), .val (.ref b28), .val (.int ((i0 + 1) - i0)), .val (.int (i1 - i1)), .val (.int (i2 - i2)), .val (.int ((((i0 + 1) - i1) - i2) - ((i0 - i1) - i2))), .val (.int (0 : Int32)), .val (.int (0 : Int32)), .unset] [(.int (1 : Int32))]))) (fun t k => XS.goto X36.here hx rfl (pc0 := 141) (pc' := 145) rfl (hb hby at_141) (by decide) (by decide) k) ?_
      refine own_pre (S' := (T36.setTop (mkF m 147 #[.val (.int i0), .val (.int i1), .val (.int i2), .val (.int i3), .val (.int kk), .val (.ref a_SKIPPED), .val (.ref b26), .val (.ref b28), .val (.int ((i0 + 1) - i0)), .val (.int (i1 - i1)), .val (.int (i2 - i2)), .val (.int ((((i0 + 1) - i1) - i2) - ((i0 - i1) - i2))), .val (.int (0 : Int32)), .val (.int (0 : Int32)), .val (.int (1 : Int32))] []))) (fun t k => XS.istore X36.here hx rfl (hb hby at_145) rfl (l' := #[.val (.int i0), .val (.int i1), .val (.int i2), .val (.int i3), .val (.int kk), .val (.ref a_SKIPPED), .val (.ref b26), .val (.ref b28), .val (.int ((i0 + 1) - i0)), .val (.int (i1 - i1)), .val (.int (i2 - i2)), .val (.int ((((i0 + 1) - i1) - i2) - ((i0 - i1) - i2))), .val (.int (0 : Int32)), .val (.int (0 : Int32)), .val (.int (1 : Int32))]) rfl k) ?_
      refine own_pre (S' := (T36.setTop (mkF m 149 #[.val (.int i0), .val (.int i1), .val (.int i2), .val (.int i3), .val (.int kk), .val (.ref a_SKIPPED), .val (.ref b26), .val (.ref b28), .val (.int ((i0 + 1) - i0)), .val (.int (i1 - i1)), .val (.int (i2 - i2)), .val (.int ((((i0 + 1) - i1) - i2) - ((i0 - i1) - i2))), .val (.int (0 : Int32)), .val (.int (0 : Int32)), .val (.int (1 : Int32))] [(.int ((i0 + 1) - i0))]))) (fun t k => XS.iload X36.here hx rfl (hb hby at_147) rfl k) ?_
      refine own_pre (S' := (T36.setTop (mkF m 150 #[.val (.int i0), .val (.int i1), .val (.int i2), .val (.int i3), .val (.int kk), .val (.ref a_SKIPPED), .val (.ref b26), .val (.ref b28), .val (.int ((i0 + 1) - i0)), .val (.int (i1 - i1)), .val (.int (i2 - i2)), .val (.int ((((i0 + 1) - i1) - i2) - ((i0 - i1) - i2))), .val (.int (0 : Int32)), .val (.int (0 : Int32)), .val (.int (1 : Int32))] [(.int (1 : Int32)), (.int ((i0 + 1) - i0))]))) (fun t k => XS.iconst X36.here hx rfl (hb hby at_149) k) ?_
      refine own_pre (S' := (T36.setTop (mkF m 153 #[.val (.int i0), .val (.int i1), .val (.int i2), .val (.int i3), .val (.int kk), .val (.ref a_SKIPPED), .val (.ref b26), .val (.ref b28), .val (.int ((i0 + 1) - i0)), .val (.int (i1 - i1)), .val (.int (i2 - i2)), .val (.int ((((i0 + 1) - i1) - i2) - ((i0 - i1) - i2))), .val (.int (0 : Int32)), .val (.int (0 : Int32)), .val (.int (1 : Int32))] []))) (fun t k => XS.icmpNo X36.here hx rfl (hb hby at_150) rfl (teq (own_s0 i0 i1 i2)).2 k) ?_
      refine own_pre (S' := (T36.setTop (mkF m 155 #[.val (.int i0), .val (.int i1), .val (.int i2), .val (.int i3), .val (.int kk), .val (.ref a_SKIPPED), .val (.ref b26), .val (.ref b28), .val (.int ((i0 + 1) - i0)), .val (.int (i1 - i1)), .val (.int (i2 - i2)), .val (.int ((((i0 + 1) - i1) - i2) - ((i0 - i1) - i2))), .val (.int (0 : Int32)), .val (.int (0 : Int32)), .val (.int (1 : Int32))] [(.int (i1 - i1))]))) (fun t k => XS.iload X36.here hx rfl (hb hby at_153) rfl k) ?_
      refine own_pre (S' := (T36.setTop (mkF m 157 #[.val (.int i0), .val (.int i1), .val (.int i2), .val (.int i3), .val (.int kk), .val (.ref a_SKIPPED), .val (.ref b26), .val (.ref b28), .val (.int ((i0 + 1) - i0)), .val (.int (i1 - i1)), .val (.int (i2 - i2)), .val (.int ((((i0 + 1) - i1) - i2) - ((i0 - i1) - i2))), .val (.int (0 : Int32)), .val (.int (0 : Int32)), .val (.int (1 : Int32))] [(.int (0 : Int32)), (.int (i1 - i1))]))) (fun t k => XS.iload X36.here hx rfl (hb hby at_155) rfl k) ?_
      refine own_pre (S' := (T36.setTop (mkF m 160 #[.val (.int i0), .val (.int i1), .val (.int i2), .val (.int i3), .val (.int kk), .val (.ref a_SKIPPED), .val (.ref b26), .val (.ref b28), .val (.int ((i0 + 1) - i0)), .val (.int (i1 - i1)), .val (.int (i2 - i2)), .val (.int ((((i0 + 1) - i1) - i2) - ((i0 - i1) - i2))), .val (.int (0 : Int32)), .val (.int (0 : Int32)), .val (.int (1 : Int32))] []))) (fun t k => XS.icmpNo X36.here hx rfl (hb hby at_157) rfl (teq (own_s4 i0 i1 i2)).2 k) ?_
      refine own_pre (S' := (T36.setTop (mkF m 162 #[.val (.int i0), .val (.int i1), .val (.int i2), .val (.int i3), .val (.int kk), .val (.ref a_SKIPPED), .val (.ref b26), .val (.ref b28), .val (.int ((i0 + 1) - i0)), .val (.int (i1 - i1)), .val (.int (i2 - i2)), .val (.int ((((i0 + 1) - i1) - i2) - ((i0 - i1) - i2))), .val (.int (0 : Int32)), .val (.int (0 : Int32)), .val (.int (1 : Int32))] [(.int (i2 - i2))]))) (fun t k => XS.iload X36.here hx rfl (hb hby at_160) rfl k) ?_
      refine own_pre (S' := (T36.setTop (mkF m 164 #[.val (.int i0), .val (.int i1), .val (.int i2), .val (.int i3), .val (.int kk), .val (.ref a_SKIPPED), .val (.ref b26), .val (.ref b28), .val (.int ((i0 + 1) - i0)), .val (.int (i1 - i1)), .val (.int (i2 - i2)), .val (.int ((((i0 + 1) - i1) - i2) - ((i0 - i1) - i2))), .val (.int (0 : Int32)), .val (.int (0 : Int32)), .val (.int (1 : Int32))] [(.int (0 : Int32)), (.int (i2 - i2))]))) (fun t k => XS.iload X36.here hx rfl (hb hby at_162) rfl k) ?_
      refine own_pre (S' := (T36.setTop (mkF m 167 #[.val (.int i0), .val (.int i1), .val (.int i2), .val (.int i3), .val (.int kk), .val (.ref a_SKIPPED), .val (.ref b26), .val (.ref b28), .val (.int ((i0 + 1) - i0)), .val (.int (i1 - i1)), .val (.int (i2 - i2)), .val (.int ((((i0 + 1) - i1) - i2) - ((i0 - i1) - i2))), .val (.int (0 : Int32)), .val (.int (0 : Int32)), .val (.int (1 : Int32))] []))) (fun t k => XS.icmpNo X36.here hx rfl (hb hby at_164) rfl (teq (own_s2 i0 i1 i2)).2 k) ?_
      refine own_pre (S' := (T36.setTop (mkF m 169 #[.val (.int i0), .val (.int i1), .val (.int i2), .val (.int i3), .val (.int kk), .val (.ref a_SKIPPED), .val (.ref b26), .val (.ref b28), .val (.int ((i0 + 1) - i0)), .val (.int (i1 - i1)), .val (.int (i2 - i2)), .val (.int ((((i0 + 1) - i1) - i2) - ((i0 - i1) - i2))), .val (.int (0 : Int32)), .val (.int (0 : Int32)), .val (.int (1 : Int32))] [(.int ((((i0 + 1) - i1) - i2) - ((i0 - i1) - i2)))]))) (fun t k => XS.iload X36.here hx rfl (hb hby at_167) rfl k) ?_
      refine own_pre (S' := (T36.setTop (mkF m 171 #[.val (.int i0), .val (.int i1), .val (.int i2), .val (.int i3), .val (.int kk), .val (.ref a_SKIPPED), .val (.ref b26), .val (.ref b28), .val (.int ((i0 + 1) - i0)), .val (.int (i1 - i1)), .val (.int (i2 - i2)), .val (.int ((((i0 + 1) - i1) - i2) - ((i0 - i1) - i2))), .val (.int (0 : Int32)), .val (.int (0 : Int32)), .val (.int (1 : Int32))] [(.int (1 : Int32)), (.int ((((i0 + 1) - i1) - i2) - ((i0 - i1) - i2)))]))) (fun t k => XS.iload X36.here hx rfl (hb hby at_169) rfl k) ?_
      refine own_pre (S' := (T36.setTop (mkF m 174 #[.val (.int i0), .val (.int i1), .val (.int i2), .val (.int i3), .val (.int kk), .val (.ref a_SKIPPED), .val (.ref b26), .val (.ref b28), .val (.int ((i0 + 1) - i0)), .val (.int (i1 - i1)), .val (.int (i2 - i2)), .val (.int ((((i0 + 1) - i1) - i2) - ((i0 - i1) - i2))), .val (.int (0 : Int32)), .val (.int (0 : Int32)), .val (.int (1 : Int32))] []))) (fun t k => XS.icmpNo X36.here hx rfl (hb hby at_171) rfl (teq (own_s7 i0 i1 i2)).2 k) ?_
      refine own_pre (S' := (T36.setTop (mkF m 175 #[.val (.int i0), .val (.int i1), .val (.int i2), .val (.int i3), .val (.int kk), .val (.ref a_SKIPPED), .val (.ref b26), .val (.ref b28), .val (.int ((i0 + 1) - i0)), .val (.int (i1 - i1)), .val (.int (i2 - i2)), .val (.int ((((i0 + 1) - i1) - i2) - ((i0 - i1) - i2))), .val (.int (0 : Int32)), .val (.int (0 : Int32)), .val (.int (1 : Int32))] [(.int (1 : Int32))]))) (fun t k => XS.iconst X36.here hx rfl (hb hby at_174) k) ?_
      refine own_pre (S' := (T36.setTop (mkF m 179 #[.val (.int i0), .val (.int i1), .val (.int i2), .val (.int i3), .val (.int kk), .val (.ref a_SKIPPED), .val (.ref b26), .val (.ref b28), .val (.int ((i0 + 1) - i0)), .val (.int (i1 - i1)), .val (.int (i2 - i2)), .val (.int ((((i0 + 1) - i1) - i2) - ((i0 - i1) - i2))), .val (.int (0 : Int32)), .val (.int (0 : Int32)), .val (.int (1 : Int32))] [(.int (1 : Int32))]))) (fun t k => XS.goto X36.here hx rfl (pc0 := 175) (pc' := 179) rfl (hb hby at_175) (by decide) (by decide) k) ?_
      refine own_ret (t := .boolean) X36 hx hlk hrt rfl (Or.inl ⟨rfl, by simp, _, rfl⟩) (hb hby at_179) (by decide) (by decide) ?_
      exact ⟨rfl, N36⟩
set_option maxRecDepth 65536 in
set_option maxHeartbeats 40000000 in
theorem comes_1 {Post : Tables → Env → Array Value → State → Outcome → State → Prop} (hpost : ∀ tb e args s v u, (limb_1_1.after args s (.returned v) u = true ∧ limb_1_2.after args s (.returned v) u = true ∧ True) → FrameEnd s (.returned v) u (Jvm.fieldLocs frame_1_writes args s ++ Jvm.arrayLocs frame_1_arrays args s ++ Jvm.staticLocs frame_1_statics s) 16 128 → Post tb e args s (.returned v) u) :
    ArmFor flags0 classFile x code maxLocals ret World_1 tables_1 room_1 Calls_1 rest_1 Pre_1 Post := by
  intro l hfl _ _ p e ha hc hk s m args below hf hA hF happ hP
  obtain ⟨hcalls, hrest, hpre⟩ := hP
  obtain ⟨-, -, -, hnamed, -, -, -, hat⟩ := (Spec.applies_iff hf).mp happ
  obtain ⟨hg, hn⟩ := and_e (Cond.before_iff.mp (show (Jvm.Cond.and given_1 narrow_1).before args s = true from hpre))
  obtain ⟨hcount, hgg⟩ := and_e hg
  obtain ⟨hk0, hgg0⟩ := and_e hgg
  obtain ⟨hk1, hgg1⟩ := and_e hgg0
  obtain ⟨hk2, hk3⟩ := and_e hgg1
  obtain ⟨w0, w1, w2, w3, rfl⟩ : ∃ w0 w1 w2 w3 : Value, args = #[w0, w1, w2, w3] := by
    have hs : args.size = 4 := by simpa [Cond.value, given_1] using hcount
    obtain ⟨L⟩ := args
    match L, hs with
    | [w0, w1, w2, w3], _ => exact ⟨w0, w1, w2, w3, rfl⟩
  have hw := fun d (hd : d ∈ tables_1) => atoms_spec (ws := Jvm.Cond.code x code maxLocals ret :: tables_1) hat d (List.mem_cons_of_mem _ hd)
  have hfit : Fit s := fun {y c} hc i hi => by
    obtain ⟨ha, rfl⟩ := Array.getElem?_eq_some_iff.mp hc
    have q := List.all_eq_true.mp ((Array.all_eq_true_iff_forall_mem.mp hF) _ (Array.getElem_mem ha)) i (List.mem_range.mpr hi)
    simpa [Array.getElem?_eq_getElem hi] using q
  obtain ⟨i0, ei0⟩ := is_v hk0
  obtain rfl : w0 = (.int i0) := Option.some.inj ei0
  obtain ⟨i1, ei1⟩ := is_v hk1
  obtain rfl : w1 = (.int i1) := Option.some.inj ei1
  obtain ⟨i2, ei2⟩ := is_v hk2
  obtain rfl : w2 = (.int i2) := Option.some.inj ei2
  obtain ⟨i3, ei3⟩ := is_v hk3
  obtain rfl : w3 = (.int i3) := Option.some.inj ei3
  obtain ⟨hn0, hr0⟩ := and_e hn
  obtain ⟨hn1, hr1⟩ := and_e hr0
  obtain ⟨hn2, hr2⟩ := and_e hr1
  obtain ⟨hn3, hr3⟩ := and_e hr2
  obtain ⟨hn4, hn5⟩ := and_e hr3
  obtain ⟨a_FAILED, ev_FAILED⟩ := exa_v hn0
  have S_FAILED : Sta s s.heap "com/example/assay_runner/assayrunner/report/ReportPage$Status" "FAILED" "Lcom/example/assay_runner/assayrunner/report/ReportPage$Status;" (.ref a_FAILED) := Sta.start ev_FAILED (Or.inr ⟨(hw _ (List.mem_of_getElem? (i := 2) rfl)), (hw _ (List.mem_of_getElem? (i := 3) rfl))⟩)
  have E_FAILED : Exa s s.heap a_FAILED "com/example/assay_runner/assayrunner/report/ReportPage$Status" := Exa.start ev_FAILED hn0
  obtain ⟨a_PASSED, ev_PASSED⟩ := exa_v hn1
  have S_PASSED : Sta s s.heap "com/example/assay_runner/assayrunner/report/ReportPage$Status" "PASSED" "Lcom/example/assay_runner/assayrunner/report/ReportPage$Status;" (.ref a_PASSED) := Sta.start ev_PASSED (Or.inr ⟨(hw _ (List.mem_of_getElem? (i := 2) rfl)), (hw _ (List.mem_of_getElem? (i := 31) rfl))⟩)
  have E_PASSED : Exa s s.heap a_PASSED "com/example/assay_runner/assayrunner/report/ReportPage$Status" := Exa.start ev_PASSED hn1
  obtain ⟨a_SKIPPED, ev_SKIPPED⟩ := exa_v hn4
  have S_SKIPPED : Sta s s.heap "com/example/assay_runner/assayrunner/report/ReportPage$Status" "SKIPPED" "Lcom/example/assay_runner/assayrunner/report/ReportPage$Status;" (.ref a_SKIPPED) := Sta.start ev_SKIPPED (Or.inr ⟨(hw _ (List.mem_of_getElem? (i := 2) rfl)), (hw _ (List.mem_of_getElem? (i := 55) rfl))⟩)
  have E_SKIPPED : Exa s s.heap a_SKIPPED "com/example/assay_runner/assayrunner/report/ReportPage$Status" := Exa.start ev_SKIPPED hn4
  have O_FAILED := own_fieldOf ev_FAILED hn2
  have O_PASSED := own_fieldOf ev_PASSED hn3
  have O_SKIPPED := own_fieldOf ev_SKIPPED hn5
  have ne_FAILED_PASSED : a_FAILED ≠ a_PASSED := Fld.ne O_FAILED O_PASSED (fun q => absurd (Value.int.inj q) (by decide))
  have ne_FAILED_SKIPPED : a_FAILED ≠ a_SKIPPED := Fld.ne O_FAILED O_SKIPPED (fun q => absurd (Value.int.inj q) (by decide))
  have ne_PASSED_SKIPPED : a_PASSED ≠ a_SKIPPED := Fld.ne O_PASSED O_SKIPPED (fun q => absurd (Value.int.inj q) (by decide))
  obtain ⟨n, o, h1, h2, h3, _, L, rfl, ⟨rfl, N⟩, hq⟩ := own_law l s _ hw tables_1 i0 i1 i2 i3 a_FAILED a_PASSED a_SKIPPED s.heap s.heap.size (Nat.le_refl _) S_FAILED E_FAILED S_PASSED E_PASSED S_SKIPPED E_SKIPPED ne_FAILED_PASSED ne_FAILED_SKIPPED ne_PASSED_SKIPPED p e ha hc hk s m _ below hf ((Spec.applies_iff_loose hf).mp happ).1 ⟨rfl, State.Warmed39.refl s, rfl⟩ trivial
  refine ⟨n, _, h1, h2, h3, hpost _ _ _ _ _ _ ⟨Cond.after_iff.mpr rfl, Cond.after_iff.mpr (eq_i res_at (Term.int_eval (1)) rfl), trivial⟩ ⟨hq.1, hq.2.1, (hq.2.2.sift fun y hy => Or.inr (N y hy)).mono (by decide) (by decide)⟩⟩
theorem main_1_1 : Claimed_1_1 := comes_1 fun _ _ _ _ _ _ h hF => ⟨h.1, hF⟩
theorem main_1_2 : Claimed_1_2 := comes_1 fun _ _ _ _ _ _ h hF => ⟨h.2.1, hF⟩
end Jvm.Pilot.@@N@@
namespace Jvm.Pilot.@@N@@
open Jvm Jvm.ClassFile Sem Op Lib Jvm.Free Jvm.Stand Jvm.Pilot.@@N@@.Jvm.D
/-! MADE BY PROGRAM (witnessworld.py) out of the Statement's table words and the real class files: 14 classes; the members and pool entries that the words name. The judged class is class 1, her method 1. -/
namespace start1
open Jvm.ClassFile
def u (s : String) : CpInfo := .utf8 (stringToUtf16 s)
/-- a pool by its gaps: so many unusable entries, then the entry; so many at the end -/
def gap : Nat → List CpInfo → List CpInfo
  | 0, r => r
  | n + 1, r => .unusable :: gap n r
def poolList (es : List (Nat × CpInfo)) (last : Nat) : List CpInfo := es.foldr (fun e r => gap e.1 (e.2 :: r)) (gap last [])
def pool (es : List (Nat × CpInfo)) (last : Nat) : Array CpInfo := ⟨poolList es last⟩
def fileOf (pool : Array CpInfo) (this : Nat) (attrs : Array Attribute := #[]) (ms : Array MethodInfo := #[]) (fl : Nat := 33) (sup : Nat := 0) (ifs : Array Nat := #[]) (fds : Array FieldInfo := #[]) : ClassFile where
  minorVersion := 0
  majorVersion := 65
  constantPool := pool
  accessFlags := fl
  thisClass := this
  superClass := sup
  interfaces := ifs
  fields := fds
  methods := ms
  attributes := attrs
def plain (name : String) (sup : Option ClassId) : Class where
  name := name
  kind := .ordinary
  loader := none
  accessFlags := 33
  super := sup
  interfaces := #[]
  cf := none
  fields := #[]
  methods := #[]
  instanceTypes := #[]
  staticTypes := #[]
  resolved := #[]
  callSites := []
  init := .initialized
  statics := none
  mirror := none

def pool0 : Array CpInfo := pool [(5, u "<init>"), (0, u "()V"), (1, .class_ 10), (1, u "java/lang/Object")] 113

def k0c0 : Code := { maxStack := 0, maxLocals := 1, code := object_method_1_code, exceptionTable := #[], attributes := #[] }
def k0m0 : Method := { name := "<init>", desc := "()V", sig := { parameters := [], returnType := none }, accessFlags := 1, code := some k0c0 }
/-- java/lang/Object -/
def k0 : Class := { plain "java/lang/Object" none with
  accessFlags := 33
  interfaces := #[]
  cf := some (fileOf pool0 8 #[] #[{ accessFlags := 1, nameIndex := 5, descriptorIndex := 6, attributes := #[] }] 33 0 #[] #[])
  fields := #[]
  methods := #[k0m0]
  instanceTypes := #[]
  staticTypes := #[]
  resolved := Array.replicate 124 none
  statics := none }

def pool1 : Array CpInfo := pool [(2, .class_ 4), (1, u "java/lang/Object"), (0, u "<init>"), (0, u "()V"), (0, .integer 2147483647), (0, .fieldref 9 10), (0, .class_ 11), (0, .nameAndType 12 13), (0, u "com/example/assay_runner/assayrunner/report/ReportPage$Status"), (0, u "PASSED"), (0, u "Lcom/example/assay_runner/assayrunner/report/ReportPage$Status;"), (0, .fieldref 9 15), (0, .nameAndType 16 13), (0, u "FAILED"), (0, .fieldref 9 18), (0, .nameAndType 19 13), (0, u "SKIPPED"), (0, .class_ 21), (0, u "com/example/assay_runner/assayrunner/report/ReportPage$Counts"), (0, .methodref 20 23), (0, .nameAndType 5 24), (0, u "(III)V"), (0, .methodref 20 26), (0, .nameAndType 27 28), (0, u "with"), (0, u "(Lcom/example/assay_runner/assayrunner/report/ReportPage$Status;)Lcom/example/assay_runner/assayrunner/report/ReportPage$Counts;"), (0, .methodref 20 30), (0, .nameAndType 31 32), (0, u "tests"), (0, u "()I"), (0, .methodref 20 34), (0, .nameAndType 35 32), (0, u "passed"), (0, .methodref 20 37), (0, .nameAndType 38 32), (0, u "failed"), (0, .methodref 20 40), (0, .nameAndType 41 32), (0, u "skipped"), (0, .class_ 43), (0, u "com/example/assay_runner/assayrunner/report/CountsWithPinLaw"), (2, u "law"), (0, u "(IIII)Z")] 8

def k1m0 : Method := { name := "<init>", desc := "()V", sig := { parameters := [], returnType := none }, accessFlags := 1, code := none }
def k1c1 : Code := { maxStack := 5, maxLocals := 15, code := code, exceptionTable := #[], attributes := #[] }
def k1m1 : Method := { name := "law", desc := "(IIII)Z", sig := { parameters := [.int, .int, .int, .int], returnType := some .boolean }, accessFlags := 9, code := some k1c1 }
/-- com/example/assay_runner/assayrunner/report/CountsWithPinLaw -/
def k1 : Class := { plain "com/example/assay_runner/assayrunner/report/CountsWithPinLaw" (some 0) with
  accessFlags := 49
  interfaces := #[]
  cf := some (fileOf pool1 42 #[] #[{ accessFlags := 1, nameIndex := 5, descriptorIndex := 6, attributes := #[] }, { accessFlags := 9, nameIndex := 46, descriptorIndex := 47, attributes := #[] }] 49 2 #[] #[])
  fields := #[]
  methods := #[k1m0, k1m1]
  instanceTypes := #[]
  staticTypes := #[]
  resolved := Array.replicate 56 none
  statics := none }

def pool2 : Array CpInfo := pool [(1, .class_ 2), (0, u "java/lang/constant/Constable"), (0, .class_ 4), (0, u "java/lang/Object")] 6

/-- java/lang/constant/Constable -/
def k2 : Class := { plain "java/lang/constant/Constable" (some 0) with
  accessFlags := 1537
  interfaces := #[]
  cf := some (fileOf pool2 1 #[] #[] 1537 3 #[] #[])
  fields := #[]
  methods := #[]
  instanceTypes := #[]
  staticTypes := #[]
  resolved := Array.replicate 11 none
  statics := none }

def pool3 : Array CpInfo := pool [(1, .class_ 2), (0, u "java/lang/Comparable"), (0, .class_ 4), (0, u "java/lang/Object")] 7

/-- java/lang/Comparable -/
def k3 : Class := { plain "java/lang/Comparable" (some 0) with
  accessFlags := 1537
  interfaces := #[]
  cf := some (fileOf pool3 1 #[] #[] 1537 3 #[] #[])
  fields := #[]
  methods := #[]
  instanceTypes := #[]
  staticTypes := #[]
  resolved := Array.replicate 12 none
  statics := none }

def pool4 : Array CpInfo := pool [(1, .class_ 2), (0, u "java/io/Serializable"), (0, .class_ 4), (0, u "java/lang/Object")] 2

/-- java/io/Serializable -/
def k4 : Class := { plain "java/io/Serializable" (some 0) with
  accessFlags := 1537
  interfaces := #[]
  cf := some (fileOf pool4 1 #[] #[] 1537 3 #[] #[])
  fields := #[]
  methods := #[]
  instanceTypes := #[]
  staticTypes := #[]
  resolved := Array.replicate 7 none
  statics := none }

def pool5 : Array CpInfo := pool [(2, .class_ 4), (1, u "java/lang/Enum"), (0, u "name"), (0, u "Ljava/lang/String;"), (2, u "ordinal"), (0, u "I"), (1, .class_ 14), (1, u "java/lang/Object"), (4, u "hash"), (86, .class_ 108), (1, u "java/lang/Enum$EnumDesc"), (2, .class_ 112), (0, u "java/lang/constant/Constable"), (0, .class_ 114), (0, u "java/lang/Comparable"), (0, .class_ 116), (0, u "java/io/Serializable")] 87

/-- java/lang/Enum -/
def k5 : Class := { plain "java/lang/Enum" (some 0) with
  accessFlags := 1057
  interfaces := #[2, 3, 4]
  cf := some (fileOf pool5 2 #[.nestMembers #[106]] #[] 1057 12 #[111, 113, 115] #[{ accessFlags := 18, nameIndex := 5, descriptorIndex := 6, attributes := #[] }, { accessFlags := 18, nameIndex := 9, descriptorIndex := 10, attributes := #[] }, { accessFlags := 2, nameIndex := 19, descriptorIndex := 10, attributes := #[] }])
  fields := #[{ name := "name", type := (.object "java/lang/String"), accessFlags := 18, slot := 0, constantValue := 0 }, { name := "ordinal", type := .int, accessFlags := 18, slot := 1, constantValue := 0 }, { name := "hash", type := .int, accessFlags := 2, slot := 2, constantValue := 0 }]
  methods := #[]
  instanceTypes := #[(.object "java/lang/String"), .int, .int]
  staticTypes := #[]
  resolved := Array.replicate 204 none
  statics := none }

def pool6 : Array CpInfo := pool [(1, .class_ 2), (0, u "com/example/assay_runner/assayrunner/report/ReportPage$Status"), (2, u "PASSED"), (0, u "Lcom/example/assay_runner/assayrunner/report/ReportPage$Status;"), (2, u "FAILED"), (2, u "SKIPPED"), (2, u "$VALUES"), (0, u "[Lcom/example/assay_runner/assayrunner/report/ReportPage$Status;"), (6, .class_ 25), (1, u "java/lang/Enum"), (26, .class_ 53), (0, u "com/example/assay_runner/assayrunner/report/ReportPage")] 2

/-- com/example/assay_runner/assayrunner/report/ReportPage$Status -/
def k6 : Class := { plain "com/example/assay_runner/assayrunner/report/ReportPage$Status" (some 5) with
  accessFlags := 16432
  interfaces := #[]
  cf := some (fileOf pool6 1 #[.nestHost 52] #[] 16432 23 #[] #[{ accessFlags := 16409, nameIndex := 5, descriptorIndex := 6, attributes := #[] }, { accessFlags := 16409, nameIndex := 9, descriptorIndex := 6, attributes := #[] }, { accessFlags := 16409, nameIndex := 12, descriptorIndex := 6, attributes := #[] }, { accessFlags := 4122, nameIndex := 15, descriptorIndex := 16, attributes := #[] }])
  fields := #[{ name := "PASSED", type := (.object "com/example/assay_runner/assayrunner/report/ReportPage$Status"), accessFlags := 16409, slot := 0, constantValue := 0 }, { name := "FAILED", type := (.object "com/example/assay_runner/assayrunner/report/ReportPage$Status"), accessFlags := 16409, slot := 1, constantValue := 0 }, { name := "SKIPPED", type := (.object "com/example/assay_runner/assayrunner/report/ReportPage$Status"), accessFlags := 16409, slot := 2, constantValue := 0 }, { name := "$VALUES", type := (.array (.object "com/example/assay_runner/assayrunner/report/ReportPage$Status")), accessFlags := 4122, slot := 3, constantValue := 0 }]
  methods := #[]
  instanceTypes := #[(.object "java/lang/String"), .int, .int]
  staticTypes := #[(.object "com/example/assay_runner/assayrunner/report/ReportPage$Status"), (.object "com/example/assay_runner/assayrunner/report/ReportPage$Status"), (.object "com/example/assay_runner/assayrunner/report/ReportPage$Status"), (.array (.object "com/example/assay_runner/assayrunner/report/ReportPage$Status"))]
  resolved := Array.replicate 56 none
  statics := some 0 }

def pool7 : Array CpInfo := pool [(1, .methodref 2 3), (0, .class_ 4), (0, .nameAndType 5 6), (0, u "java/lang/Object"), (0, u "<init>"), (0, u "()V"), (0, .class_ 8), (0, u "java/lang/Record")] 13

def k7c0 : Code := { maxStack := 1, maxLocals := 1, code := jdk_30_method_1_code, exceptionTable := #[], attributes := #[] }
def k7m0 : Method := { name := "<init>", desc := "()V", sig := { parameters := [], returnType := none }, accessFlags := 4, code := some k7c0 }
/-- java/lang/Record -/
def k7 : Class := { plain "java/lang/Record" (some 0) with
  accessFlags := 1057
  interfaces := #[]
  cf := some (fileOf pool7 7 #[] #[{ accessFlags := 4, nameIndex := 5, descriptorIndex := 6, attributes := #[] }] 1057 2 #[] #[])
  fields := #[]
  methods := #[k7m0]
  instanceTypes := #[]
  staticTypes := #[]
  resolved := Array.replicate 22 none
  statics := none }

def pool8 : Array CpInfo := pool [(1, .methodref 2 3), (0, .class_ 4), (0, .nameAndType 5 6), (0, u "java/lang/Record"), (0, u "<init>"), (0, u "()V"), (0, .fieldref 8 9), (0, .class_ 10), (0, .nameAndType 11 12), (0, u "com/example/assay_runner/assayrunner/report/ReportPage$Counts"), (0, u "tests"), (0, u "I"), (0, .fieldref 8 14), (0, .nameAndType 15 12), (0, u "passed"), (0, .fieldref 8 17), (0, .nameAndType 18 12), (0, u "failed"), (0, .fieldref 20 21), (0, .class_ 22), (0, .nameAndType 23 24), (0, u "com/example/assay_runner/assayrunner/report/ReportPage$Status"), (0, u "PASSED"), (0, u "Lcom/example/assay_runner/assayrunner/report/ReportPage$Status;"), (0, .fieldref 20 26), (0, .nameAndType 27 24), (0, u "FAILED"), (0, .methodref 8 29), (0, .nameAndType 5 30), (0, u "(III)V"), (14, u "NONE"), (0, u "Lcom/example/assay_runner/assayrunner/report/ReportPage$Counts;"), (3, u "with"), (0, u "(Lcom/example/assay_runner/assayrunner/report/ReportPage$Status;)Lcom/example/assay_runner/assayrunner/report/ReportPage$Counts;"), (2, u "()I"), (0, u "skipped"), (6, .class_ 63), (0, u "com/example/assay_runner/assayrunner/report/ReportPage")] 22

def k8c0 : Code := { maxStack := 2, maxLocals := 4, code := prog_60_method_1_code, exceptionTable := #[], attributes := #[] }
def k8m0 : Method := { name := "<init>", desc := "(III)V", sig := { parameters := [.int, .int, .int], returnType := none }, accessFlags := 0, code := some k8c0 }
def k8c1 : Code := { maxStack := 6, maxLocals := 2, code := prog_60_method_2_code, exceptionTable := #[], attributes := #[] }
def k8m1 : Method := { name := "with", desc := "(Lcom/example/assay_runner/assayrunner/report/ReportPage$Status;)Lcom/example/assay_runner/assayrunner/report/ReportPage$Counts;", sig := { parameters := [(.object "com/example/assay_runner/assayrunner/report/ReportPage$Status")], returnType := some (.object "com/example/assay_runner/assayrunner/report/ReportPage$Counts") }, accessFlags := 0, code := some k8c1 }
def k8c2 : Code := { maxStack := 2, maxLocals := 1, code := prog_60_method_4_code, exceptionTable := #[], attributes := #[] }
def k8m2 : Method := { name := "skipped", desc := "()I", sig := { parameters := [], returnType := some .int }, accessFlags := 0, code := some k8c2 }
def k8c3 : Code := { maxStack := 1, maxLocals := 1, code := prog_60_method_8_code, exceptionTable := #[], attributes := #[] }
def k8m3 : Method := { name := "tests", desc := "()I", sig := { parameters := [], returnType := some .int }, accessFlags := 1, code := some k8c3 }
def k8c4 : Code := { maxStack := 1, maxLocals := 1, code := prog_60_method_9_code, exceptionTable := #[], attributes := #[] }
def k8m4 : Method := { name := "passed", desc := "()I", sig := { parameters := [], returnType := some .int }, accessFlags := 1, code := some k8c4 }
def k8c5 : Code := { maxStack := 1, maxLocals := 1, code := prog_60_method_10_code, exceptionTable := #[], attributes := #[] }
def k8m5 : Method := { name := "failed", desc := "()I", sig := { parameters := [], returnType := some .int }, accessFlags := 1, code := some k8c5 }
/-- com/example/assay_runner/assayrunner/report/ReportPage$Counts -/
def k8 : Class := { plain "com/example/assay_runner/assayrunner/report/ReportPage$Counts" (some 7) with
  accessFlags := 48
  interfaces := #[]
  cf := some (fileOf pool8 8 #[.nestHost 62] #[{ accessFlags := 0, nameIndex := 5, descriptorIndex := 30, attributes := #[] }, { accessFlags := 0, nameIndex := 50, descriptorIndex := 51, attributes := #[] }, { accessFlags := 0, nameIndex := 55, descriptorIndex := 54, attributes := #[] }, { accessFlags := 1, nameIndex := 11, descriptorIndex := 54, attributes := #[] }, { accessFlags := 1, nameIndex := 15, descriptorIndex := 54, attributes := #[] }, { accessFlags := 1, nameIndex := 18, descriptorIndex := 54, attributes := #[] }] 48 2 #[] #[{ accessFlags := 18, nameIndex := 11, descriptorIndex := 12, attributes := #[] }, { accessFlags := 18, nameIndex := 15, descriptorIndex := 12, attributes := #[] }, { accessFlags := 18, nameIndex := 18, descriptorIndex := 12, attributes := #[] }, { accessFlags := 24, nameIndex := 45, descriptorIndex := 46, attributes := #[] }])
  fields := #[{ name := "tests", type := .int, accessFlags := 18, slot := 0, constantValue := 0 }, { name := "passed", type := .int, accessFlags := 18, slot := 1, constantValue := 0 }, { name := "failed", type := .int, accessFlags := 18, slot := 2, constantValue := 0 }, { name := "NONE", type := (.object "com/example/assay_runner/assayrunner/report/ReportPage$Counts"), accessFlags := 24, slot := 0, constantValue := 0 }]
  methods := #[k8m0, k8m1, k8m2, k8m3, k8m4, k8m5]
  instanceTypes := #[.int, .int, .int]
  staticTypes := #[(.object "com/example/assay_runner/assayrunner/report/ReportPage$Counts")]
  resolved := Array.replicate 86 none
  statics := none }

def pool9 : Array CpInfo := pool [(1, u "java/lang/Cloneable"), (0, .class_ 1), (0, u "java/lang/Object"), (0, .class_ 3)] 3

/-- java/lang/Cloneable -/
def k9 : Class := { plain "java/lang/Cloneable" (some 0) with
  accessFlags := 1537
  interfaces := #[]
  cf := some (fileOf pool9 2 #[] #[] 1537 4 #[] #[])
  fields := #[]
  methods := #[]
  instanceTypes := #[]
  staticTypes := #[]
  resolved := Array.replicate 8 none
  statics := none }

/-- the primitive byte -/
def k10 : Class := { plain "byte" none with kind := .primitive 'B', accessFlags := 0x411 }
/-- [B -/
def k11 : Class := { plain "[B" (some 0) with kind := .array 10 .byte, interfaces := #[9, 4], accessFlags := 1041 }

/-- the primitive int -/
def k12 : Class := { plain "int" none with kind := .primitive 'I', accessFlags := 0x411 }
/-- [I -/
def k13 : Class := { plain "[I" (some 0) with kind := .array 12 .int, interfaces := #[9, 4], accessFlags := 1041 }

def heap : Heap := #[{ cls := 6, slots := #[.ref 2, .ref 1, .ref 3, .null], vm := .statics 6 },
  { cls := 6, slots := #[.null, .int 1, .int 0], vm := .none },
  { cls := 6, slots := #[.null, .int 0, .int 0], vm := .none },
  { cls := 6, slots := #[.null, .int 2, .int 0], vm := .none }]
def classes : Array Class := #[k0, k1, k2, k3, k4, k5, k6, k7, k8, k9, k10, k11, k12, k13]
def interned : List (Array UInt16 × Addr) := []
def slotsUsed : Nat := 13
def theMethod : MethodId := ⟨1, 1⟩
def args0 : Array Value := #[.int 5, .int 7, .int 1, .int 2]
def aboutOver (below : List Frame) : State where
  vm := { classes := classes, interned := interned.toArray }
  heap := heap
  slotsUsed := slotsUsed
  threads := #[{ frames := .invoking theMethod args0 :: below }]
def below0 : List Frame := [.native { method := ⟨0, 0⟩, args := #[] }]
def about1 : State := aboutOver below0
def p0 : Program := .bare "" "" ""
def e0 : Env := launch0.env 0 0 0
theorem w_frames : about1.frames = Frame.invoking theMethod args0 :: below0 := rfl
set_option maxRecDepth 65536 in
theorem w_args : argsFit about1.vm theMethod args0 = true := by decide +kernel
set_option maxRecDepth 65536 in
theorem w_heap : heapFits about1 = true := by decide +kernel
set_option maxRecDepth 65536 in
theorem w_runnable : about1.curStatus? = some .runnable := by decide +kernel
set_option maxRecDepth 65536 in
theorem w_alone : about1.alone = true := by decide +kernel
set_option maxRecDepth 65536 in
theorem w_named : about1.methodNamed? x = some theMethod := by decide +kernel
set_option maxRecDepth 65536 in
theorem w_hears : about1.hears theMethod below0 = true := by decide +kernel
set_option maxRecDepth 65536 in
theorem w_ripe : about1.ripe theMethod args0 below0 = true := by decide +kernel
theorem w_running : about1.status = .running := rfl
set_option maxRecDepth 65536 in
theorem w_room : about1.hasRoom e0.platform room_1 = true :=
  launch0.hasRoom_least _ room_1 (by decide +kernel) (by decide +kernel) (by decide +kernel) (by decide +kernel) (by decide +kernel) (by decide +kernel)
theorem allAtoms_all (ts : List Jvm.Cond) (a : Array Jvm.Value) (st : Jvm.State) : (allAtoms ts).before a st = ts.all (fun c => c.before a st) := by
  induction ts with
  | nil => rfl
  | cons c t ih =>
    show (Jvm.Cond.and c (allAtoms t)).before a st = _
    rw [Jvm.Cond.before_and, ih, List.all_cons]
def words1 : List Jvm.Cond := Jvm.Cond.code x code maxLocals ret :: tables_1
/-- a 'code' word, met by the world's own term for the bytes: nothing is compared byte by byte -/
theorem code_word {y : MethodName} {bytes : ByteArray} {mx : Nat} {rt : Option FieldType} {a : Array Value} {s : State} {m : MethodId} {meth : Method} {c : Code} (h1 : s.methodNamed? y = some m) (h2 : s.vm.method? m = some meth) (h3 : meth.code = some c) (h4 : c.code = bytes)
    (h5 : (c.maxLocals == mx && c.exceptionTable.isEmpty && decide (c.maxStack ≤ mostOperands) && decide (meth.sig.returnType = rt) && !meth.locks && decide (parseMethodDescriptor y.desc = some meth.sig)) = true) : (Jvm.Cond.code y bytes mx rt).before a s = true := by
  simp only [Bool.and_eq_true, beq_iff_eq, Bool.not_eq_true', decide_eq_true_eq] at h5
  obtain ⟨⟨⟨⟨⟨g1, g2⟩, g3⟩, g4⟩, g5⟩, g6⟩ := h5
  simp [Cond.before, Cond.holds, Cond.value, h1, h2, h3, h4, g1, g2, g3, g4, g5, g6]
def isCode : Jvm.Cond → Bool
  | .code _ _ _ _ => true
  | _ => false
theorem all_split {L : List Jvm.Cond} {P : Jvm.Cond → Bool} (h1 : L.all (fun c => isCode c || P c) = true) (h2 : ∀ c ∈ L.filter isCode, P c = true) : L.all P = true := by
  refine List.all_eq_true.mpr fun c hc => ?_
  have h := List.all_eq_true.mp h1 c hc
  rcases Bool.eq_false_or_eq_true (isCode c) with hi | hi
  · exact h2 c (List.mem_filter.mpr ⟨hc, hi⟩)
  · simpa [hi] using h
set_option maxRecDepth 65536 in
theorem w_c0 : (Jvm.Cond.code x code maxLocals ret).before args0 about1 = true := code_word (m := ⟨1, 1⟩) (meth := k1m1) (c := k1c1) (by decide +kernel) rfl rfl rfl (by decide +kernel)
set_option maxRecDepth 65536 in
theorem w_c1 : (Jvm.Cond.code ({ cls := "com/example/assay_runner/assayrunner/report/ReportPage$Counts", name := "<init>", desc := "(III)V" } : Jvm.MethodName) prog_60_method_1_code (4 : Nat) (Option.none : Option Jvm.ClassFile.FieldType)).before args0 about1 = true := code_word (m := ⟨8, 0⟩) (meth := k8m0) (c := k8c0) (by decide +kernel) rfl rfl rfl (by decide +kernel)
set_option maxRecDepth 65536 in
theorem w_c2 : (Jvm.Cond.code ({ cls := "java/lang/Record", name := "<init>", desc := "()V" } : Jvm.MethodName) jdk_30_method_1_code (1 : Nat) (Option.none : Option Jvm.ClassFile.FieldType)).before args0 about1 = true := code_word (m := ⟨7, 0⟩) (meth := k7m0) (c := k7c0) (by decide +kernel) rfl rfl rfl (by decide +kernel)
set_option maxRecDepth 65536 in
theorem w_c3 : (Jvm.Cond.code ({ cls := "java/lang/Object", name := "<init>", desc := "()V" } : Jvm.MethodName) object_method_1_code (1 : Nat) (Option.none : Option Jvm.ClassFile.FieldType)).before args0 about1 = true := code_word (m := ⟨0, 0⟩) (meth := k0m0) (c := k0c0) (by decide +kernel) rfl rfl rfl (by decide +kernel)
set_option maxRecDepth 65536 in
theorem w_c4 : (Jvm.Cond.code ({ cls := "com/example/assay_runner/assayrunner/report/ReportPage$Counts", name := "with", desc := "(Lcom/example/assay_runner/assayrunner/report/ReportPage$Status;)Lcom/example/assay_runner/assayrunner/report/ReportPage$Counts;" } : Jvm.MethodName) prog_60_method_2_code (2 : Nat) (Option.some (Jvm.ClassFile.FieldType.object "com/example/assay_runner/assayrunner/report/ReportPage$Counts"))).before args0 about1 = true := code_word (m := ⟨8, 1⟩) (meth := k8m1) (c := k8c1) (by decide +kernel) rfl rfl rfl (by decide +kernel)
set_option maxRecDepth 65536 in
theorem w_c5 : (Jvm.Cond.code ({ cls := "com/example/assay_runner/assayrunner/report/ReportPage$Counts", name := "tests", desc := "()I" } : Jvm.MethodName) prog_60_method_8_code (1 : Nat) (Option.some Jvm.ClassFile.FieldType.int)).before args0 about1 = true := code_word (m := ⟨8, 3⟩) (meth := k8m3) (c := k8c3) (by decide +kernel) rfl rfl rfl (by decide +kernel)
set_option maxRecDepth 65536 in
theorem w_c6 : (Jvm.Cond.code ({ cls := "com/example/assay_runner/assayrunner/report/ReportPage$Counts", name := "passed", desc := "()I" } : Jvm.MethodName) prog_60_method_9_code (1 : Nat) (Option.some Jvm.ClassFile.FieldType.int)).before args0 about1 = true := code_word (m := ⟨8, 4⟩) (meth := k8m4) (c := k8c4) (by decide +kernel) rfl rfl rfl (by decide +kernel)
set_option maxRecDepth 65536 in
theorem w_c7 : (Jvm.Cond.code ({ cls := "com/example/assay_runner/assayrunner/report/ReportPage$Counts", name := "failed", desc := "()I" } : Jvm.MethodName) prog_60_method_10_code (1 : Nat) (Option.some Jvm.ClassFile.FieldType.int)).before args0 about1 = true := code_word (m := ⟨8, 5⟩) (meth := k8m5) (c := k8c5) (by decide +kernel) rfl rfl rfl (by decide +kernel)
set_option maxRecDepth 65536 in
theorem w_c8 : (Jvm.Cond.code ({ cls := "com/example/assay_runner/assayrunner/report/ReportPage$Counts", name := "skipped", desc := "()I" } : Jvm.MethodName) prog_60_method_4_code (1 : Nat) (Option.some Jvm.ClassFile.FieldType.int)).before args0 about1 = true := code_word (m := ⟨8, 2⟩) (meth := k8m2) (c := k8c2) (by decide +kernel) rfl rfl rfl (by decide +kernel)
def codes1 : List Jvm.Cond := [Jvm.Cond.code x code maxLocals ret, Jvm.Cond.code ({ cls := "com/example/assay_runner/assayrunner/report/ReportPage$Counts", name := "<init>", desc := "(III)V" } : Jvm.MethodName) prog_60_method_1_code (4 : Nat) (Option.none : Option Jvm.ClassFile.FieldType), Jvm.Cond.code ({ cls := "java/lang/Record", name := "<init>", desc := "()V" } : Jvm.MethodName) jdk_30_method_1_code (1 : Nat) (Option.none : Option Jvm.ClassFile.FieldType), Jvm.Cond.code ({ cls := "java/lang/Object", name := "<init>", desc := "()V" } : Jvm.MethodName) object_method_1_code (1 : Nat) (Option.none : Option Jvm.ClassFile.FieldType), Jvm.Cond.code ({ cls := "com/example/assay_runner/assayrunner/report/ReportPage$Counts", name := "with", desc := "(Lcom/example/assay_runner/assayrunner/report/ReportPage$Status;)Lcom/example/assay_runner/assayrunner/report/ReportPage$Counts;" } : Jvm.MethodName) prog_60_method_2_code (2 : Nat) (Option.some (Jvm.ClassFile.FieldType.object "com/example/assay_runner/assayrunner/report/ReportPage$Counts")), Jvm.Cond.code ({ cls := "com/example/assay_runner/assayrunner/report/ReportPage$Counts", name := "tests", desc := "()I" } : Jvm.MethodName) prog_60_method_8_code (1 : Nat) (Option.some Jvm.ClassFile.FieldType.int), Jvm.Cond.code ({ cls := "com/example/assay_runner/assayrunner/report/ReportPage$Counts", name := "passed", desc := "()I" } : Jvm.MethodName) prog_60_method_9_code (1 : Nat) (Option.some Jvm.ClassFile.FieldType.int), Jvm.Cond.code ({ cls := "com/example/assay_runner/assayrunner/report/ReportPage$Counts", name := "failed", desc := "()I" } : Jvm.MethodName) prog_60_method_10_code (1 : Nat) (Option.some Jvm.ClassFile.FieldType.int), Jvm.Cond.code ({ cls := "com/example/assay_runner/assayrunner/report/ReportPage$Counts", name := "skipped", desc := "()I" } : Jvm.MethodName) prog_60_method_4_code (1 : Nat) (Option.some Jvm.ClassFile.FieldType.int)]
set_option maxRecDepth 65536 in
theorem codes_eq : words1.filter isCode = codes1 := rfl
theorem w_codes : ∀ c ∈ words1.filter isCode, c.before args0 about1 = true := by
  rw [codes_eq]
  intro c hc
  simp only [codes1, List.mem_cons, List.not_mem_nil, or_false] at hc
  rcases hc with rfl | rfl | rfl | rfl | rfl | rfl | rfl | rfl | rfl
  · exact w_c0
  · exact w_c1
  · exact w_c2
  · exact w_c3
  · exact w_c4
  · exact w_c5
  · exact w_c6
  · exact w_c7
  · exact w_c8
set_option maxRecDepth 65536 in
theorem w_t1 : (words1.take 24).all (fun c => isCode c || c.before args0 about1) = true := by decide +kernel
set_option maxRecDepth 65536 in
theorem w_t2 : ((words1.drop 24).take 24).all (fun c => isCode c || c.before args0 about1) = true := by decide +kernel
set_option maxRecDepth 65536 in
theorem w_t3 : ((words1.drop 24).drop 24).all (fun c => isCode c || c.before args0 about1) = true := by decide +kernel
theorem w_tables : (allAtoms (Jvm.Cond.code x code maxLocals ret :: tables_1)).before args0 about1 = true := by
  rw [allAtoms_all]
  show words1.all (fun c => c.before args0 about1) = true
  refine all_split ?_ w_codes
  rw [← List.take_append_drop 24 words1, List.all_append, w_t1, ← List.take_append_drop 24 (words1.drop 24), List.all_append, w_t2, w_t3]
  rfl
set_option maxRecDepth 65536 in
theorem w_case : (Jvm.Cond.and given_1 narrow_1).before args0 about1 = true := by decide +kernel
theorem w_applies : (headSpec (Jvm.Cond.code x code maxLocals ret :: tables_1) room_1).applies x e0.platform about1 = true :=
  (Spec.applies_iff w_frames).mpr ⟨w_running, w_runnable, w_alone, w_named, w_hears, w_ripe, w_room, w_tables⟩
theorem atStart : AtStart classFile x code maxLocals ret World_1 tables_1 room_1 Calls_1 rest_1 Pre_1 launch0 p0 e0 about1 theMethod args0 below0 :=
  ⟨lists_1, trivial, launch0.admits_env _ _ _, launch0.least_env, fairChoices_fair.cas, fairChoices_fair.clock, w_frames, w_args, w_heap, w_applies, trivial, trivial, w_case⟩
end start1
theorem witness_1 : WitnessClaimed_1 := ⟨start1.p0, start1.e0, start1.about1, start1.theMethod, start1.args0, start1.below0, start1.atStart⟩
end Jvm.Pilot.@@N@@
