import JvmDerived
import JvmDerived.Pilot.@@N@@Statement
import JvmDerived.Pilot.@@N@@Code
set_option linter.unusedVariables false
set_option linter.unusedSimpArgs false
namespace Jvm.Pilot.@@N@@
open Jvm Jvm.ClassFile Sem Op Lib Jvm.Free Jvm.Stand Jvm.LawKit Jvm.RoadKit Bundle Jvm.Pilot.@@N@@.Jvm.D
section Own
variable {p : Program} {l : Launch} {e : Env} {R : Room} {s : State} {m : MethodId} {args : Array Value} {below : List Frame} {meth : Method} {c : Code} {T : State} {locs : List Loc} {cells slots : Nat} {Z : State} {a0 : Array Value} {h : Heap} {Q : Option Value → Heap → List Loc → Prop} {kc kn : Nat}
/-- from S the method comes to its end, and what it leaves answers to Q -/
def own_Ends (p : Program) (e : Env) (below : List Frame) (s : State) (Q : Option Value → Heap → List Loc → Prop) (kc kn : Nat) (S : State) : Prop :=
  ∃ s₂ o, Steps p.tables e below S s₂ ∧ s₂.status = .running ∧ Ended s₂ below o ∧ ∃ v L, o = .returned v ∧ Q v s₂.heap L ∧ FrameEnd s o s₂ L kc kn
theorem own_pre {S S' : State} (st : ∀ t, Steps p.tables e below S' t → Steps p.tables e below S t) (k : own_Ends p e below s Q kc kn S') : own_Ends p e below s Q kc kn S := by
  obtain ⟨s₂, o, h1, r⟩ := k
  exact ⟨s₂, o, st _ h1, r⟩
theorem own_ret (X : Stand p l e R s m args below meth c T locs cells slots) (hx : p.tables.exec = Jvm.exec) (hlk : meth.locks = false) {pc : Nat} {Ls : Array Slot} {w : Value} {t : FieldType} {i : Instr} {rest : List Value} (hret : meth.sig.returnType = some t) (hn : narrow t w = w)
    (hi : (i = .ireturn ∧ (t = .int ∨ t = .boolean ∨ t = .byte ∨ t = .char ∨ t = .short) ∧ ∃ z, w = .int z) ∨ (i = .lreturn ∧ t = .long ∧ ∃ z, w = .long z) ∨ (i = .dreturn ∧ t = .double ∧ ∃ z, w = .double z) ∨ (i = .freturn ∧ t = .float ∧ ∃ z, w = .float z) ∨ (i = .areturn ∧ t.isReference = true ∧ w.isRef = true))
    (hd : decode c.code pc = .ok (i, 1)) (h1 : cells ≤ kc) (h2 : slots ≤ kn) (hQ : Q (some w) T.heap locs) : own_Ends p e below s Q kc kn (T.setTop (mkF m pc Ls (w :: rest))) := by
  obtain ⟨fs, hr, hrun, hended, hW, hsame⟩ := X.leave (v := some w) (fun h => by rw [hret] at h; cases h) hlk
  exact ⟨_, _, retOut X hx hret hn hi hd hr, hrun, hended, _, _, rfl, hQ, ⟨_, rfl⟩, hW, hsame.mono h1 h2⟩
theorem own_retV (X : Stand p l e R s m args below meth c T locs cells slots) (hx : p.tables.exec = Jvm.exec) (hlk : meth.locks = false) {pc : Nat} {Ls : Array Slot} (hret : meth.sig.returnType = none)
    (hd : decode c.code pc = .ok (.return_, 1)) (h1 : cells ≤ kc) (h2 : slots ≤ kn) (hQ : Q none T.heap locs) : own_Ends p e below s Q kc kn (T.setTop (mkF m pc Ls [])) := by
  obtain ⟨fs, hr, hrun, hended, hW, hsame⟩ := X.leave (v := none) (fun _ => rfl) hlk
  exact ⟨_, _, X.returnOut hx hret hd hr, hrun, hended, _, _, rfl, hQ, ⟨_, rfl⟩, hW, hsame.mono h1 h2⟩
/-- a contract: called with these arguments over this heap it returns, and Q says what it left -/
abbrev own_Met (l : Launch) (Z : State) (y : MethodName) (bytes : ByteArray) (maxL : Nat) (ret : Option FieldType) (ws : List Jvm.Cond) (rm : Room) (as' : Array Value) (h0 : Heap) (Q : Option Value → Heap → List Loc → Prop) : Prop :=
  MetFree l y (head1 (Jvm.Cond.code y bytes maxL ret :: ws) rm) (fun a U => a = as' ∧ Z.Warmed39 U.vm ∧ U.heap = h0) (fun _ _ _ _ _ => True) (fun _ U o U' => ∃ v L, o = .returned v ∧ Q v U'.heap L ∧ FrameEnd U o U' L rm.cells rm.slots)
theorem own_body {y : MethodName} {bytes : ByteArray} {maxL : Nat} {ret : Option FieldType} {ws : List Jvm.Cond} {rm : Room} {as' : Array Value} {h0 : Heap} (pn : plainFor y = true) (F : MethodId → JFrame) (hF : ∀ m, entryFrame m as' maxL = F m)
    (body : ∀ (p : Program) (e : Env) (s : State) (m : MethodId) (below : List Frame) (meth : Method) (c : Code) (T : State), p.tables.exec = Jvm.exec → c.code = bytes → c.maxLocals = maxL → meth.locks = false → meth.sig.returnType = ret → Z.Warmed39 s.vm → s.vm.findClass y.cls = some m.cls → meth.name = y.name →
      Stand p l e rm s m as' below meth c T [] 0 0 → T.heap = h0 → own_Ends p e below s Q rm.cells rm.slots (T.setTop (F m))) : own_Met l Z y bytes maxL ret ws rm as' h0 Q := by
  refine MetFree.of_bodySF pn hisR ?_
  intro p e s m args below meth c s₁ Bd hml0 hP hK
  obtain ⟨rfl, hZ, hh⟩ := hP
  have := body p e s m below meth c s₁ Bd.exec Bd.bytes hml0 (BodyLoose.notSynchronized Bd) Bd.returns hZ (findClass_of_methodNamed Bd.named) (name_of_methodNamed Bd.named Bd.method).1 (Stand.of_body Bd) (by rw [← hh, Bd.state]; rfl)
  rw [← hF m] at this
  exact this
theorem own_callS (X : Stand p l e R s m args below meth c T locs cells slots) (hx : p.tables.exec = Jvm.exec) (hZ : Z.Warmed39 s.vm) {own : String} {index : Nat} {y : MethodName} {bytes : ByteArray} {maxL : Nat} {ret : Option FieldType} {rm : Room} {Qc : Option Value → Heap → List Loc → Prop}
    (hown : s.vm.findClass own = some m.cls) (w1 : (Cond.methodLink own index y).before a0 Z = true) (w2 : (Cond.static y).before a0 Z = true) (w3 : (Cond.initialized y.cls).before a0 Z = true) (w4 : (Cond.code y bytes maxL ret).before a0 Z = true)
    (hy : y.cls ≠ "java/lang/invoke/MethodHandle" ∧ y.cls ≠ "java/lang/invoke/VarHandle") (eT : T.heap = h) {argsL rest st0 : List Value} (hM : own_Met l Z y bytes maxL ret [] rm argsL.toArray h Qc) {W pc : Nat} {Ls : Array Slot}
    (hsz : Ls.size = c.maxLocals) (hlen : ∀ sig, parseMethodDescriptor y.desc = some sig → argsL.length = sig.parameters.length) (hst : st0 = argsL.reverse ++ rest) (hW : (rest.map fun v => v.category).sum ≤ W) (hd : decode c.code pc = .ok (.invokestatic index, 3))
    (hf : rm.frames + 1 ≤ R.frames) (hl : W + (maxL + 11) + rm.locals ≤ R.locals) (hc : cells + rm.cells ≤ R.cells) (hs : slots + rm.slots ≤ R.slots)
    (k : ∀ v T' L, Stand p l e R s m args below meth c T' (locs ++ L) (cells + rm.cells) (slots + rm.slots) → Qc v T'.heap L → own_Ends p e below s Q kc kn (T'.setTop (mkF m (pc + 3) Ls (v.toList ++ rest)))) :
    own_Ends p e below s Q kc kn (T.setTop (mkF m pc Ls st0)) := by
  obtain ⟨v, _, ⟨T', L', k', n'⟩, -, X', ⟨Lc, hQ, l1, y1, z1⟩, st⟩ := Jvm.LawKit.callS X hx (y := y) hown (mvT hZ w1) (mvT hZ w2) (mvT hZ w3) (mvT hZ w4) hy (backOf (W := W) hM hZ w4 w3 hf hl) (g := mkF m pc Ls st0) rfl hsz (argsL := argsL) (rest := rest) hlen hst (by show 2 * 0 + _ ≤ _; simpa using hW) hd (fun _ _ => ⟨rfl, eT, hc, hs⟩)
  dsimp only [Pt.U, Pt.locs, Pt.cells, Pt.slots] at X' l1 y1 z1 st hQ
  subst l1 y1 z1
  exact own_pre st (k v T' Lc X' hQ)
theorem own_callI (X : Stand p l e R s m args below meth c T locs cells slots) (hx : p.tables.exec = Jvm.exec) (hZ : Z.Warmed39 s.vm) {own : String} {index : Nat} {y : MethodName} {bytes : ByteArray} {maxL : Nat} {rm : Room} {Qc : Option Value → Heap → List Loc → Prop} {b : Addr}
    (hown : s.vm.findClass own = some m.cls) (hy1 : y.name = "<init>") (w1 : (Cond.methodLink own index y).before a0 Z = true) (w2 : (Cond.instanceMethod y).before a0 Z = true) (w4 : (Cond.code y bytes maxL none).before a0 Z = true) (w3 : (Cond.initialized y.cls).before a0 Z = true)
    (hy : y.cls ≠ "java/lang/invoke/MethodHandle" ∧ y.cls ≠ "java/lang/invoke/VarHandle") (eT : T.heap = h) {argsL rest st0 : List Value} (hM : own_Met l Z y bytes maxL none [] rm (.ref b :: argsL).toArray h Qc) {W pc : Nat} {Ls : Array Slot}
    (hsz : Ls.size = c.maxLocals) (hlen : ∀ sig, parseMethodDescriptor y.desc = some sig → argsL.length = sig.parameters.length) (hst : st0 = argsL.reverse ++ .ref b :: rest) (hW : (rest.map fun v => v.category).sum ≤ W) (hd : decode c.code pc = .ok (.invokespecial index, 3))
    (hf : rm.frames + 1 ≤ R.frames) (hl : W + (maxL + 11) + rm.locals ≤ R.locals) (hc : cells + rm.cells ≤ R.cells) (hs : slots + rm.slots ≤ R.slots)
    (k : ∀ v T' L, Stand p l e R s m args below meth c T' (locs ++ L) (cells + rm.cells) (slots + rm.slots) → Qc v T'.heap L → own_Ends p e below s Q kc kn (T'.setTop (mkF m (pc + 3) Ls (v.toList ++ rest)))) :
    own_Ends p e below s Q kc kn (T.setTop (mkF m pc Ls st0)) := by
  obtain ⟨v, _, ⟨T', L', k', n'⟩, -, X', ⟨Lc, hQ, l1, y1, z1⟩, st⟩ := X.specialBack hx (y := y) hy1 hown (mvT hZ w1) (mvT hZ w2) (mvT hZ w4) hy (backOf (W := W) hM hZ w4 w3 hf hl) (g := mkF m pc Ls st0) rfl hsz (Steps.refl _) (a := b) (argsL := argsL) (rest := rest) hlen hst (by show 2 * 0 + _ ≤ _; simpa using hW) hd (fun _ _ => ⟨rfl, eT, hc, hs⟩)
  dsimp only [Pt.U, Pt.locs, Pt.cells, Pt.slots] at X' l1 y1 z1 st hQ
  subst l1 y1 z1
  exact own_pre (fun t k => st.trans k) (k v T' Lc X' hQ)
theorem own_callV (X : Stand p l e R s m args below meth c T locs cells slots) (hx : p.tables.exec = Jvm.exec) (hZ : Z.Warmed39 s.vm) {own C : String} {index : Nat} {y : MethodName} {bytes : ByteArray} {maxL : Nat} {ret : Option FieldType} {rm : Room} {Qc : Option Value → Heap → List Loc → Prop} {b : Addr}
    (hown : s.vm.findClass own = some m.cls) (w1 : (Cond.methodLink own index y).before a0 Z = true) (w2 : (Cond.declares y).before a0 Z = true) (w3 : (Cond.selects C y y).before a0 Z = true) (w4 : (Cond.instanceMethod y).before a0 Z = true) (w5 : (Cond.code y bytes maxL ret).before a0 Z = true) (w6 : (Cond.initialized y.cls).before a0 Z = true)
    (hy : y.cls ≠ "java/lang/invoke/MethodHandle" ∧ y.cls ≠ "java/lang/invoke/VarHandle") (eT : T.heap = h) (E : Exa Z h b C) {argsL rest st0 : List Value} (hM : own_Met l Z y bytes maxL ret [] rm (.ref b :: argsL).toArray h Qc) {W pc : Nat} {Ls : Array Slot}
    (hsz : Ls.size = c.maxLocals) (hlen : ∀ sig, parseMethodDescriptor y.desc = some sig → argsL.length = sig.parameters.length) (hst : st0 = argsL.reverse ++ .ref b :: rest) (hW : (rest.map fun v => v.category).sum ≤ W) (hd : decode c.code pc = .ok (.invokevirtual index, 3))
    (hf : rm.frames + 1 ≤ R.frames) (hl : W + (maxL + 11) + rm.locals ≤ R.locals) (hc : cells + rm.cells ≤ R.cells) (hs : slots + rm.slots ≤ R.slots)
    (k : ∀ v T' L, Stand p l e R s m args below meth c T' (locs ++ L) (cells + rm.cells) (slots + rm.slots) → Qc v T'.heap L → own_Ends p e below s Q kc kn (T'.setTop (mkF m (pc + 3) Ls (v.toList ++ rest)))) :
    own_Ends p e below s Q kc kn (T.setTop (mkF m pc Ls st0)) := by
  obtain ⟨cq, kq, qa, qb, qc⟩ := isOf hZ eT E
  obtain ⟨v, _, ⟨T', L', k', n'⟩, -, X', ⟨Lc, hQ, l1, y1, z1⟩, st⟩ := X.virtualBack hx (y := y) (z := y) hown (mvT hZ w1) (mvT hZ w2) (notFace_of_selects (args := #[]) (mvT hZ w3)) (mvT hZ w3) (mvT hZ w4) hy (backOf (W := W) hM hZ w5 w6 hf hl) qa qc (g := mkF m pc Ls st0) rfl hsz (Steps.refl _) (argsL := argsL) (rest := rest) hlen hst (by show 2 * 0 + _ ≤ _; simpa using hW) hd (fun _ _ => ⟨rfl, eT, hc, hs⟩)
  dsimp only [Pt.U, Pt.locs, Pt.cells, Pt.slots] at X' l1 y1 z1 st hQ
  subst l1 y1 z1
  exact own_pre (fun t k => st.trans k) (k v T' Lc X' hQ)
theorem own_eqi {t : Term} {k : Int32} {args : Array Value} {s : State} (h : (Jvm.Cond.eq t (Term.int k)).value args s none s [] = some true) : t.eval args s none [] s = some (.int k) := by
  obtain ⟨x, y, h1, h2, -, h3⟩ := cmp_v (Or.inl h)
  have h4 : y = .int k := (Option.some.inj ((Term.int_eval k).symm.trans h2)).symm
  subst h4
  obtain ⟨z, rfl⟩ := h3
  have h5 : (Jvm.Cond.eq t (Term.int k)).value args s none s [] = some (decide (z = k)) := by simp [Cond.value, h1, h2]
  rw [h1, gotT h5 h]
theorem own_fieldOf {t : Term} {C n d : String} {k : Int32} {a : Addr} {args : Array Value} {s : State} (ht : t.eval args s none [] s = some (.ref a)) (h : (Jvm.Cond.eq (Term.field t C n d) (Term.int k)).value args s none s [] = some true) : Fld s s.heap a C n d (.int k) :=
  Fld.start ((fld_at ht).symm.trans (own_eqi h))
theorem own_st1 {Ls Ls' : Array Slot} {k : Nat} {o : Slot} {v : Value} (hold : Ls[k]? = some o) (ho : One o) (hv : v.category = 1) (he : Ls.setIfInBounds k (.val v) = Ls') : storeLocals Ls k v = some Ls' := he ▸ XS.store1 hold ho hv
theorem own_catV {v : Value} (hv : v.isRef = true) : v.category = 1 := by rcases ref_cases hv with rfl | ⟨_, rfl⟩ <;> rfl
theorem own_narV {v : Value} {t : FieldType} (hv : v.isRef = true) (ht : t.isReference = true) : narrow t v = v := by
  rcases ref_cases hv with rfl | ⟨_, rfl⟩ <;> cases t <;> first | rfl | (cases ht; done)
theorem own_narC {x : Int32} (h : 0 ≤ x.toInt ∧ x.toInt ≤ 65535) : nar .char x = x := by
  have q := c_i2c x
  rw [← Int32.toInt_inj]
  show (x.toUInt32.toUInt16.toUInt32.toInt32).toInt = x.toInt
  omega
theorem own_narZ {x : Int32} (h : x = 0 ∨ x = 1) : narrow .boolean (.int x) = .int x := by rcases h with rfl | rfl <;> rfl
def own_plain (h : Heap) (x : Addr) : Prop := ∃ c : Cell, h[x]? = some c ∧ c.vm.isStatics = false
theorem own_plainE {a : Addr} {C : String} (F : Exa Z h a C) : own_plain h a := by obtain ⟨c, k, h1, -, -, h4, -⟩ := F; exact ⟨c, h1, h4⟩
theorem own_sta_keep {h' : Heap} {ws : List Addr} {C n d : String} {v : Value} (F : Sta Z h C n d v) (K : Keep h h' ws) (q : ∀ x ∈ ws, own_plain h x) : Sta Z h' C n d v := by
  obtain ⟨cf, i, k, f, st, cell, h1, h2, h3, h4, h5, h6, h7⟩ := F
  refine ⟨cf, i, k, f, st, cell, h1, h2, h3, h4, K.2.1 _ _ h5 fun y => ?_, h6, h7⟩
  obtain ⟨c, z1, z2⟩ := q _ y
  cases h5.symm.trans z1
  rw [z2] at h6; cases h6
end Own
theorem own_r0 (x y z : Int32) : ((((x + y) + z) - x) - y) = z := by
  have h1 := c_iadd x y
  have h2 := c_iadd (x + y) z
  have h3 := c_isub ((x + y) + z) x
  have h4 := c_isub (((x + y) + z) - x) y
  have r1 := rng32 ((((x + y) + z) - x) - y)
  have r2 := rng32 z
  rw [← Int32.toInt_inj]
  omega
theorem own_r1 (x y z : Int32) : (((((x + y) + z) + 1) - (x + 1)) - y) = z := by
  have h1 := c_iadd x y
  have h2 := c_iadd (x + y) z
  have h0 := c_iadd ((x + y) + z) 1
  have h5 := c_iadd x 1
  have h3 := c_isub (((x + y) + z) + 1) (x + 1)
  have h4 := c_isub ((((x + y) + z) + 1) - (x + 1)) y
  have r1 := rng32 (((((x + y) + z) + 1) - (x + 1)) - y)
  have r2 := rng32 z
  rw [← Int32.toInt_inj]
  omega
theorem own_r2 (x y z : Int32) : (((((x + y) + z) + 1) - x) - (y + 1)) = z := by
  have h1 := c_iadd x y
  have h2 := c_iadd (x + y) z
  have h0 := c_iadd ((x + y) + z) 1
  have h5 := c_iadd y 1
  have h3 := c_isub (((x + y) + z) + 1) x
  have h4 := c_isub ((((x + y) + z) + 1) - x) (y + 1)
  have r1 := rng32 (((((x + y) + z) + 1) - x) - (y + 1))
  have r2 := rng32 z
  rw [← Int32.toInt_inj]
  omega
theorem own_r3 (x y z : Int32) : (((((x + y) + z) + 1) - x) - y) = (z + (1 : Int32)) := by
  have h1 := c_iadd x y
  have h2 := c_iadd (x + y) z
  have h0 := c_iadd ((x + y) + z) 1
  have h5 := c_iadd z 1
  have h3 := c_isub (((x + y) + z) + 1) x
  have h4 := c_isub ((((x + y) + z) + 1) - x) y
  have r1 := rng32 (((((x + y) + z) + 1) - x) - y)
  have r2 := rng32 (z + 1)
  rw [← Int32.toInt_inj]
  omega
theorem own_d1_0 : decode prog_60_method_1_code 0 = .ok (.aload_n 0, 1) := by decide +kernel
theorem own_d1_1 : decode prog_60_method_1_code 1 = .ok (.invokespecial 1, 3) := by decide +kernel
theorem own_d1_4 : decode prog_60_method_1_code 4 = .ok (.aload_n 0, 1) := by decide +kernel
theorem own_d1_5 : decode prog_60_method_1_code 5 = .ok (.iload_n 1, 1) := by decide +kernel
theorem own_d1_6 : decode prog_60_method_1_code 6 = .ok (.putfield 7, 3) := by decide +kernel
theorem own_d1_9 : decode prog_60_method_1_code 9 = .ok (.aload_n 0, 1) := by decide +kernel
theorem own_d1_10 : decode prog_60_method_1_code 10 = .ok (.iload_n 2, 1) := by decide +kernel
theorem own_d1_11 : decode prog_60_method_1_code 11 = .ok (.putfield 13, 3) := by decide +kernel
theorem own_d1_14 : decode prog_60_method_1_code 14 = .ok (.aload_n 0, 1) := by decide +kernel
theorem own_d1_15 : decode prog_60_method_1_code 15 = .ok (.iload_n 3, 1) := by decide +kernel
theorem own_d1_16 : decode prog_60_method_1_code 16 = .ok (.putfield 16, 3) := by decide +kernel
theorem own_d1_19 : decode prog_60_method_1_code 19 = .ok (.return_, 1) := by decide +kernel
theorem own_d2_0 : decode jdk_30_method_1_code 0 = .ok (.aload_n 0, 1) := by decide +kernel
theorem own_d2_1 : decode jdk_30_method_1_code 1 = .ok (.invokespecial 1, 3) := by decide +kernel
theorem own_d2_4 : decode jdk_30_method_1_code 4 = .ok (.return_, 1) := by decide +kernel
theorem own_d4_0 : decode prog_60_method_4_code 0 = .ok (.aload_n 0, 1) := by decide +kernel
theorem own_d4_1 : decode prog_60_method_4_code 1 = .ok (.getfield 7, 3) := by decide +kernel
theorem own_d4_4 : decode prog_60_method_4_code 4 = .ok (.aload_n 0, 1) := by decide +kernel
theorem own_d4_5 : decode prog_60_method_4_code 5 = .ok (.getfield 13, 3) := by decide +kernel
theorem own_d4_8 : decode prog_60_method_4_code 8 = .ok (.isub, 1) := by decide +kernel
theorem own_d4_9 : decode prog_60_method_4_code 9 = .ok (.aload_n 0, 1) := by decide +kernel
theorem own_d4_10 : decode prog_60_method_4_code 10 = .ok (.getfield 16, 3) := by decide +kernel
theorem own_d4_13 : decode prog_60_method_4_code 13 = .ok (.isub, 1) := by decide +kernel
theorem own_d4_14 : decode prog_60_method_4_code 14 = .ok (.ireturn, 1) := by decide +kernel
theorem own_d5_0 : decode prog_60_method_3_code 0 = .ok (.aload_n 0, 1) := by decide +kernel
theorem own_d5_1 : decode prog_60_method_3_code 1 = .ok (.getfield 7, 3) := by decide +kernel
theorem own_d5_4 : decode prog_60_method_3_code 4 = .ok (.aload_n 0, 1) := by decide +kernel
theorem own_d5_5 : decode prog_60_method_3_code 5 = .ok (.getfield 13, 3) := by decide +kernel
theorem own_d5_8 : decode prog_60_method_3_code 8 = .ok (.isub, 1) := by decide +kernel
theorem own_d5_9 : decode prog_60_method_3_code 9 = .ok (.ireturn, 1) := by decide +kernel
theorem own_d6_0 : decode prog_60_method_10_code 0 = .ok (.aload_n 0, 1) := by decide +kernel
theorem own_d6_1 : decode prog_60_method_10_code 1 = .ok (.getfield 16, 3) := by decide +kernel
theorem own_d6_4 : decode prog_60_method_10_code 4 = .ok (.ireturn, 1) := by decide +kernel
theorem own_d7_0 : decode method_2_code 0 = .ok (.iload_n 0, 1) := by decide +kernel
theorem own_d7_1 : decode method_2_code 1 = .ok (.ldc 7, 2) := by decide +kernel
theorem own_d7_3 : decode method_2_code 3 = .ok (.iand, 1) := by decide +kernel
theorem own_d7_4 : decode method_2_code 4 = .ok (.iconst 3, 1) := by decide +kernel
theorem own_d7_5 : decode method_2_code 5 = .ok (.irem, 1) := by decide +kernel
theorem own_d7_6 : decode method_2_code 6 = .ok (.istore_n 1, 1) := by decide +kernel
theorem own_d7_7 : decode method_2_code 7 = .ok (.iload_n 1, 1) := by decide +kernel
theorem own_d7_8 : decode method_2_code 8 = .ok (.ifCond .ne 7, 3) := by decide +kernel
theorem own_d7_11 : decode method_2_code 11 = .ok (.getstatic 8, 3) := by decide +kernel
theorem own_d7_14 : decode method_2_code 14 = .ok (.areturn, 1) := by decide +kernel
theorem own_d7_15 : decode method_2_code 15 = .ok (.iload_n 1, 1) := by decide +kernel
theorem own_d7_16 : decode method_2_code 16 = .ok (.iconst 1, 1) := by decide +kernel
theorem own_d7_17 : decode method_2_code 17 = .ok (.if_icmp .ne 7, 3) := by decide +kernel
theorem own_d7_20 : decode method_2_code 20 = .ok (.getstatic 14, 3) := by decide +kernel
theorem own_d7_23 : decode method_2_code 23 = .ok (.areturn, 1) := by decide +kernel
theorem own_d7_24 : decode method_2_code 24 = .ok (.getstatic 17, 3) := by decide +kernel
theorem own_d7_27 : decode method_2_code 27 = .ok (.areturn, 1) := by decide +kernel
theorem own_d8_0 : decode prog_60_method_2_code 0 = .ok (.new 8, 3) := by decide +kernel
theorem own_d8_3 : decode prog_60_method_2_code 3 = .ok (.dup, 1) := by decide +kernel
theorem own_d8_4 : decode prog_60_method_2_code 4 = .ok (.aload_n 0, 1) := by decide +kernel
theorem own_d8_5 : decode prog_60_method_2_code 5 = .ok (.getfield 7, 3) := by decide +kernel
theorem own_d8_8 : decode prog_60_method_2_code 8 = .ok (.iconst 1, 1) := by decide +kernel
theorem own_d8_9 : decode prog_60_method_2_code 9 = .ok (.iadd, 1) := by decide +kernel
theorem own_d8_10 : decode prog_60_method_2_code 10 = .ok (.aload_n 1, 1) := by decide +kernel
theorem own_d8_11 : decode prog_60_method_2_code 11 = .ok (.getstatic 19, 3) := by decide +kernel
theorem own_d8_14 : decode prog_60_method_2_code 14 = .ok (.if_acmp .ne 12, 3) := by decide +kernel
theorem own_d8_17 : decode prog_60_method_2_code 17 = .ok (.aload_n 0, 1) := by decide +kernel
theorem own_d8_18 : decode prog_60_method_2_code 18 = .ok (.getfield 13, 3) := by decide +kernel
theorem own_d8_21 : decode prog_60_method_2_code 21 = .ok (.iconst 1, 1) := by decide +kernel
theorem own_d8_22 : decode prog_60_method_2_code 22 = .ok (.iadd, 1) := by decide +kernel
theorem own_d8_23 : decode prog_60_method_2_code 23 = .ok (.goto 7, 3) := by decide +kernel
theorem own_d8_26 : decode prog_60_method_2_code 26 = .ok (.aload_n 0, 1) := by decide +kernel
theorem own_d8_27 : decode prog_60_method_2_code 27 = .ok (.getfield 13, 3) := by decide +kernel
theorem own_d8_30 : decode prog_60_method_2_code 30 = .ok (.aload_n 1, 1) := by decide +kernel
theorem own_d8_31 : decode prog_60_method_2_code 31 = .ok (.getstatic 25, 3) := by decide +kernel
theorem own_d8_34 : decode prog_60_method_2_code 34 = .ok (.if_acmp .ne 12, 3) := by decide +kernel
theorem own_d8_37 : decode prog_60_method_2_code 37 = .ok (.aload_n 0, 1) := by decide +kernel
theorem own_d8_38 : decode prog_60_method_2_code 38 = .ok (.getfield 16, 3) := by decide +kernel
theorem own_d8_41 : decode prog_60_method_2_code 41 = .ok (.iconst 1, 1) := by decide +kernel
theorem own_d8_42 : decode prog_60_method_2_code 42 = .ok (.iadd, 1) := by decide +kernel
theorem own_d8_43 : decode prog_60_method_2_code 43 = .ok (.goto 7, 3) := by decide +kernel
theorem own_d8_46 : decode prog_60_method_2_code 46 = .ok (.aload_n 0, 1) := by decide +kernel
theorem own_d8_47 : decode prog_60_method_2_code 47 = .ok (.getfield 16, 3) := by decide +kernel
theorem own_d8_50 : decode prog_60_method_2_code 50 = .ok (.invokespecial 28, 3) := by decide +kernel
theorem own_d8_53 : decode prog_60_method_2_code 53 = .ok (.areturn, 1) := by decide +kernel
theorem own_pn0 : plainFor (⟨"java/lang/Record", "<init>", "()V"⟩ : MethodName) = true := by first | exact plainFor_of_name (by first | (simp [plainName, overriddenIn]; done) | decide +kernel) | decide +kernel
theorem own_pn1 : plainFor (⟨"com/example/assay_runner/assayrunner/report/ReportPage$Counts", "<init>", "(III)V"⟩ : MethodName) = true := by first | exact plainFor_of_name (by first | (simp [plainName, overriddenIn]; done) | decide +kernel) | decide +kernel
theorem own_pn2 : plainFor (⟨"com/example/assay_runner/assayrunner/report/ReportPage$Counts", "skipped", "()I"⟩ : MethodName) = true := by first | exact plainFor_of_name (by first | (simp [plainName, overriddenIn]; done) | decide +kernel) | decide +kernel
theorem own_pn3 : plainFor (⟨"com/example/assay_runner/assayrunner/report/ReportPage$Counts", "unpassed", "()I"⟩ : MethodName) = true := by first | exact plainFor_of_name (by first | (simp [plainName, overriddenIn]; done) | decide +kernel) | decide +kernel
theorem own_pn4 : plainFor (⟨"com/example/assay_runner/assayrunner/report/ReportPage$Counts", "failed", "()I"⟩ : MethodName) = true := by first | exact plainFor_of_name (by first | (simp [plainName, overriddenIn]; done) | decide +kernel) | decide +kernel
theorem own_pn5 : plainFor (⟨"com/example/assay_runner/assayrunner/report/ReportPage$Counts", "with", "(Lcom/example/assay_runner/assayrunner/report/ReportPage$Status;)Lcom/example/assay_runner/assayrunner/report/ReportPage$Counts;"⟩ : MethodName) = true := by first | exact plainFor_of_name (by first | (simp [plainName, overriddenIn]; done) | decide +kernel) | decide +kernel
theorem own_pn6 : plainFor (⟨"com/example/assay_runner/assayrunner/report/CountsSkippedPinLaw", "status", "(I)Lcom/example/assay_runner/assayrunner/report/ReportPage$Status;"⟩ : MethodName) = true := by first | exact plainFor_of_name (by first | (simp [plainName, overriddenIn]; done) | decide +kernel) | decide +kernel
theorem own_pn7 : plainFor (⟨"com/example/assay_runner/assayrunner/report/CountsSkippedPinLaw", "law", "(IIII)Z"⟩ : MethodName) = true := by first | exact plainFor_of_name (by first | (simp [plainName, overriddenIn]; done) | decide +kernel) | decide +kernel
theorem own_pd0 : parseMethodDescriptor "()V" = some ⟨[], none⟩ := by decide +kernel
theorem own_pd1 : parseMethodDescriptor "(III)V" = some ⟨[.int, .int, .int], none⟩ := by decide +kernel
theorem own_pd2 : parseMethodDescriptor "()I" = some ⟨[], some .int⟩ := by decide +kernel
theorem own_pd3 : parseMethodDescriptor "(I)Lcom/example/assay_runner/assayrunner/report/ReportPage$Status;" = some ⟨[.int], some (.object "com/example/assay_runner/assayrunner/report/ReportPage$Status")⟩ := by decide +kernel
theorem own_pd4 : parseMethodDescriptor "(Lcom/example/assay_runner/assayrunner/report/ReportPage$Status;)Lcom/example/assay_runner/assayrunner/report/ReportPage$Counts;" = some ⟨[(.object "com/example/assay_runner/assayrunner/report/ReportPage$Status")], some (.object "com/example/assay_runner/assayrunner/report/ReportPage$Counts")⟩ := by decide +kernel
theorem own_ef_own_rec (m : MethodId) (x0 : Addr) : entryFrame m #[(.ref x0)] 1 = mkF m 0 #[.val (.ref x0)] [] := by first | (simp [entryFrame, mkF, argsToLocals, Value.category]; done) | rfl
theorem own_ef_own_ci (m : MethodId) (x0 : Addr) (x1 : Int32) (x2 : Int32) (x3 : Int32) : entryFrame m #[(.ref x0), (.int x1), (.int x2), (.int x3)] 4 = mkF m 0 #[.val (.ref x0), .val (.int x1), .val (.int x2), .val (.int x3)] [] := by first | (simp [entryFrame, mkF, argsToLocals, Value.category]; done) | rfl
theorem own_ef_own_skipped (m : MethodId) (x0 : Addr) : entryFrame m #[(.ref x0)] 1 = mkF m 0 #[.val (.ref x0)] [] := by first | (simp [entryFrame, mkF, argsToLocals, Value.category]; done) | rfl
theorem own_ef_own_unpassed (m : MethodId) (x0 : Addr) : entryFrame m #[(.ref x0)] 1 = mkF m 0 #[.val (.ref x0)] [] := by first | (simp [entryFrame, mkF, argsToLocals, Value.category]; done) | rfl
theorem own_ef_own_failed (m : MethodId) (x0 : Addr) : entryFrame m #[(.ref x0)] 1 = mkF m 0 #[.val (.ref x0)] [] := by first | (simp [entryFrame, mkF, argsToLocals, Value.category]; done) | rfl
theorem own_ef_own_with (m : MethodId) (x0 : Addr) (x1 : Addr) : entryFrame m #[(.ref x0), (.ref x1)] 2 = mkF m 0 #[.val (.ref x0), .val (.ref x1)] [] := by first | (simp [entryFrame, mkF, argsToLocals, Value.category]; done) | rfl
theorem own_ef_own_status (m : MethodId) (x0 : Int32) : entryFrame m #[(.int x0)] 2 = mkF m 0 #[.val (.int x0), .unset] [] := by first | (simp [entryFrame, mkF, argsToLocals, Value.category]; done) | rfl
theorem own_ef_own_law (m : MethodId) (x0 : Int32) (x1 : Int32) (x2 : Int32) (x3 : Int32) : entryFrame m #[(.int x0), (.int x1), (.int x2), (.int x3)] maxLocals = mkF m 0 #[.val (.int x0), .val (.int x1), .val (.int x2), .val (.int x3), .unset, .unset, .unset, .unset, .unset, .unset, .unset] [] := by first | (simp [entryFrame, mkF, argsToLocals, Value.category, maxLocals]; done) | rfl
set_option maxRecDepth 65536 in
set_option maxHeartbeats 40000000 in
theorem own_rec (l : Launch) (Z : State) (a0 : Array Value) (hw : ∀ d ∈ tables_1, d.before a0 Z = true) (ws : List Jvm.Cond) (a : Addr) (h0 : Heap) (n0 : Nat) (Z0 : n0 ≤ h0.size)  :
    own_Met l Z (⟨"java/lang/Record", "<init>", "()V"⟩ : MethodName) jdk_30_method_1_code 1 none ws ({ frames := 1, cells := 0, slots := 0, locals := 12 } : Room) #[(.ref a)] h0 (fun v h L => v = none ∧ Fr n0 L ∧ h = h0) := by
  refine own_body own_pn0 (fun m => mkF m 0 #[.val (.ref a)] []) (fun m => own_ef_own_rec m a) ?_
  intro p e s m below meth c T0 hx hby hml hlk hrt hZ hown hnm X0 e0
  have hown : s.vm.findClass "java/lang/Record" = some m.cls := hown
  have N0 := Fr.nil n0
  refine own_pre (S' := (T0.setTop (mkF m 1 #[.val (.ref a)] [(.ref a)]))) (fun tt_ kk_ => XS.aloadN X0.here hx rfl (hb hby own_d2_0) rfl rfl kk_) ?_
  obtain ⟨T1, X1, e1, st1⟩ := initO X0 hx hZ hown (hw _ (List.mem_of_getElem? (i := 11) rfl)) (hw _ (List.mem_of_getElem? (i := 12) rfl)) (hw _ (List.mem_of_getElem? (i := 13) rfl)) e0 (g := (mkF m 1 #[.val (.ref a)] [(.ref a)])) rfl (by rw [hml]; rfl) rfl (hb hby own_d2_1) (by decide) (W := 0) (by show 2 * 0 + _ ≤ _; exact Nat.le_of_eq rfl) (by decide)
  refine own_pre (S' := (T1.setTop (mkF m 4 #[.val (.ref a)] []))) st1 ?_
  refine own_retV X1 hx hlk hrt (hb hby own_d2_4) (by decide) (by decide) ?_
  exact ⟨rfl, N0, e1⟩
set_option maxRecDepth 65536 in
set_option maxHeartbeats 40000000 in
theorem own_ci (l : Launch) (Z : State) (a0 : Array Value) (hw : ∀ d ∈ tables_1, d.before a0 Z = true) (ws : List Jvm.Cond) (a : Addr) (t p1 f1 : Int32) (h0 : Heap) (n0 : Nat) (Z0 : n0 ≤ h0.size) (F_tests : Fld Z h0 a "com/example/assay_runner/assayrunner/report/ReportPage$Counts" "tests" "I" (.int (0 : Int32))) (F_passed : Fld Z h0 a "com/example/assay_runner/assayrunner/report/ReportPage$Counts" "passed" "I" (.int (0 : Int32))) (F_failed : Fld Z h0 a "com/example/assay_runner/assayrunner/report/ReportPage$Counts" "failed" "I" (.int (0 : Int32))) (E_a : Exa Z h0 a "com/example/assay_runner/assayrunner/report/ReportPage$Counts") (g_a : n0 ≤ a) :
    own_Met l Z (⟨"com/example/assay_runner/assayrunner/report/ReportPage$Counts", "<init>", "(III)V"⟩ : MethodName) prog_60_method_1_code 4 none ws ({ frames := 2, cells := 0, slots := 0, locals := 24 } : Room) #[(.ref a), (.int t), (.int p1), (.int f1)] h0 (fun v h L => v = none ∧ Fr n0 L ∧ Keep h0 h [a] ∧ Fld Z h a "com/example/assay_runner/assayrunner/report/ReportPage$Counts" "tests" "I" (.int t) ∧ Fld Z h a "com/example/assay_runner/assayrunner/report/ReportPage$Counts" "passed" "I" (.int p1) ∧ Fld Z h a "com/example/assay_runner/assayrunner/report/ReportPage$Counts" "failed" "I" (.int f1)) := by
  refine own_body own_pn1 (fun m => mkF m 0 #[.val (.ref a), .val (.int t), .val (.int p1), .val (.int f1)] []) (fun m => own_ef_own_ci m a t p1 f1) ?_
  intro p e s m below meth c T0 hx hby hml hlk hrt hZ hown hnm X0 e0
  have hown : s.vm.findClass "com/example/assay_runner/assayrunner/report/ReportPage$Counts" = some m.cls := hown
  have N0 := Fr.nil n0
  refine own_pre (S' := (T0.setTop (mkF m 1 #[.val (.ref a), .val (.int t), .val (.int p1), .val (.int f1)] [(.ref a)]))) (fun tt_ kk_ => XS.aloadN X0.here hx rfl (hb hby own_d1_0) rfl rfl kk_) ?_
  refine own_callI (y := (⟨"java/lang/Record", "<init>", "()V"⟩ : MethodName)) (b := a) X0 hx hZ hown rfl (hw _ (List.mem_of_getElem? (i := 6) rfl)) (hw _ (List.mem_of_getElem? (i := 7) rfl)) (hw _ (List.mem_of_getElem? (i := 10) rfl)) (hw _ (List.mem_of_getElem? (i := 9) rfl)) (by decide) e0 (hM := own_rec l Z a0 hw [] a h0 n0 Z0) (W := 0) (pc := 1) (Ls := #[.val (.ref a), .val (.int t), .val (.int p1), .val (.int f1)]) (argsL := []) (rest := []) (st0 := [(.ref a)]) (by rw [hml]; rfl) (lenOf own_pd0 rfl) rfl (Nat.le_of_eq rfl) (hb hby own_d1_1) (by decide) (by decide) (by decide) (by decide) ?_
  intro v1 T1 L1 X1 hQ1
  obtain ⟨rfl, Nq1, hh1⟩ := hQ1
  have N1 := Fr.app N0 Nq1
  show own_Ends p e below s _ _ _ (T1.setTop (mkF m 4 #[.val (.ref a), .val (.int t), .val (.int p1), .val (.int f1)] []))
  refine own_pre (S' := (T1.setTop (mkF m 5 #[.val (.ref a), .val (.int t), .val (.int p1), .val (.int f1)] [(.ref a)]))) (fun tt_ kk_ => XS.aloadN X1.here hx rfl (hb hby own_d1_4) rfl rfl kk_) ?_
  refine own_pre (S' := (T1.setTop (mkF m 6 #[.val (.ref a), .val (.int t), .val (.int p1), .val (.int f1)] [(.int t), (.ref a)]))) (fun tt_ kk_ => XS.iloadN X1.here hx rfl (hb hby own_d1_5) rfl kk_) ?_
  obtain ⟨T2, h2, X2, e2, W2, st2⟩ := putF X1 hx hZ hown (host := "") (Or.inl (hw _ (List.mem_of_getElem? (i := 14) rfl))) Via.refl hh1 F_tests E_a (Or.inr ⟨(hw _ (List.mem_of_getElem? (i := 15) rfl)), rfl, hnm⟩) (hw _ (List.mem_of_getElem? (i := 1) rfl)) (ty := .int) (by decide) rfl rfl (g := (mkF m 6 #[.val (.ref a), .val (.int t), .val (.int p1), .val (.int f1)] [(.int t), (.ref a)])) rfl rfl (hb hby own_d1_6)
  have N2 := Fr.snoc X2 N1 g_a
  have Fw2 := F_tests.same W2
  refine own_pre (S' := (T2.setTop (mkF m 9 #[.val (.ref a), .val (.int t), .val (.int p1), .val (.int f1)] []))) st2 ?_
  refine own_pre (S' := (T2.setTop (mkF m 10 #[.val (.ref a), .val (.int t), .val (.int p1), .val (.int f1)] [(.ref a)]))) (fun tt_ kk_ => XS.aloadN X2.here hx rfl (hb hby own_d1_9) rfl rfl kk_) ?_
  refine own_pre (S' := (T2.setTop (mkF m 11 #[.val (.ref a), .val (.int t), .val (.int p1), .val (.int f1)] [(.int p1), (.ref a)]))) (fun tt_ kk_ => XS.iloadN X2.here hx rfl (hb hby own_d1_10) rfl kk_) ?_
  obtain ⟨T3, h3, X3, e3, W3, st3⟩ := putF X2 hx hZ hown (host := "") (Or.inl (hw _ (List.mem_of_getElem? (i := 16) rfl))) Via.refl e2 (F_passed.other W2 (Or.inr (slot_ne (C := "com/example/assay_runner/assayrunner/report/ReportPage$Counts") (Or.inr (hw _ (List.mem_of_getElem? (i := 17) rfl))) (Or.inr (hw _ (List.mem_of_getElem? (i := 15) rfl))) (by decide) (t := .int) (t' := .int) (by decide) (by decide)))) (E_a.wr W2) (Or.inr ⟨(hw _ (List.mem_of_getElem? (i := 17) rfl)), rfl, hnm⟩) (hw _ (List.mem_of_getElem? (i := 1) rfl)) (ty := .int) (by decide) rfl rfl (g := (mkF m 11 #[.val (.ref a), .val (.int t), .val (.int p1), .val (.int f1)] [(.int p1), (.ref a)])) rfl rfl (hb hby own_d1_11)
  have N3 := Fr.snoc X3 N2 g_a
  have Fw3 := (F_passed.other W2 (Or.inr (slot_ne (C := "com/example/assay_runner/assayrunner/report/ReportPage$Counts") (Or.inr (hw _ (List.mem_of_getElem? (i := 17) rfl))) (Or.inr (hw _ (List.mem_of_getElem? (i := 15) rfl))) (by decide) (t := .int) (t' := .int) (by decide) (by decide)))).same W3
  refine own_pre (S' := (T3.setTop (mkF m 14 #[.val (.ref a), .val (.int t), .val (.int p1), .val (.int f1)] []))) st3 ?_
  refine own_pre (S' := (T3.setTop (mkF m 15 #[.val (.ref a), .val (.int t), .val (.int p1), .val (.int f1)] [(.ref a)]))) (fun tt_ kk_ => XS.aloadN X3.here hx rfl (hb hby own_d1_14) rfl rfl kk_) ?_
  refine own_pre (S' := (T3.setTop (mkF m 16 #[.val (.ref a), .val (.int t), .val (.int p1), .val (.int f1)] [(.int f1), (.ref a)]))) (fun tt_ kk_ => XS.iloadN X3.here hx rfl (hb hby own_d1_15) rfl kk_) ?_
  obtain ⟨T4, h4, X4, e4, W4, st4⟩ := putF X3 hx hZ hown (host := "") (Or.inl (hw _ (List.mem_of_getElem? (i := 18) rfl))) Via.refl e3 ((F_failed.other W2 (Or.inr (slot_ne (C := "com/example/assay_runner/assayrunner/report/ReportPage$Counts") (Or.inr (hw _ (List.mem_of_getElem? (i := 19) rfl))) (Or.inr (hw _ (List.mem_of_getElem? (i := 15) rfl))) (by decide) (t := .int) (t' := .int) (by decide) (by decide)))).other W3 (Or.inr (slot_ne (C := "com/example/assay_runner/assayrunner/report/ReportPage$Counts") (Or.inr (hw _ (List.mem_of_getElem? (i := 19) rfl))) (Or.inr (hw _ (List.mem_of_getElem? (i := 17) rfl))) (by decide) (t := .int) (t' := .int) (by decide) (by decide)))) ((E_a.wr W2).wr W3) (Or.inr ⟨(hw _ (List.mem_of_getElem? (i := 19) rfl)), rfl, hnm⟩) (hw _ (List.mem_of_getElem? (i := 1) rfl)) (ty := .int) (by decide) rfl rfl (g := (mkF m 16 #[.val (.ref a), .val (.int t), .val (.int p1), .val (.int f1)] [(.int f1), (.ref a)])) rfl rfl (hb hby own_d1_16)
  have N4 := Fr.snoc X4 N3 g_a
  have Fw4 := ((F_failed.other W2 (Or.inr (slot_ne (C := "com/example/assay_runner/assayrunner/report/ReportPage$Counts") (Or.inr (hw _ (List.mem_of_getElem? (i := 19) rfl))) (Or.inr (hw _ (List.mem_of_getElem? (i := 15) rfl))) (by decide) (t := .int) (t' := .int) (by decide) (by decide)))).other W3 (Or.inr (slot_ne (C := "com/example/assay_runner/assayrunner/report/ReportPage$Counts") (Or.inr (hw _ (List.mem_of_getElem? (i := 19) rfl))) (Or.inr (hw _ (List.mem_of_getElem? (i := 17) rfl))) (by decide) (t := .int) (t' := .int) (by decide) (by decide)))).same W4
  refine own_pre (S' := (T4.setTop (mkF m 19 #[.val (.ref a), .val (.int t), .val (.int p1), .val (.int f1)] []))) st4 ?_
  refine own_retV X4 hx hlk hrt (hb hby own_d1_19) (by decide) (by decide) ?_
  show _ ∧ Fr n0 _ ∧ Keep h0 T4.heap [a] ∧ _
  rw [e4]
  exact ⟨rfl, N4, ((((Keep.refl _ _).wr W2 (Or.inl (List.mem_of_getElem? (i := 0) rfl))).wr W3 (Or.inl (List.mem_of_getElem? (i := 0) rfl))).wr W4 (Or.inl (List.mem_of_getElem? (i := 0) rfl))), ((Fw2.other W3 (Or.inr (slot_ne (C := "com/example/assay_runner/assayrunner/report/ReportPage$Counts") (Or.inr (hw _ (List.mem_of_getElem? (i := 15) rfl))) (Or.inr (hw _ (List.mem_of_getElem? (i := 17) rfl))) (by decide) (t := .int) (t' := .int) (by decide) (by decide)))).other W4 (Or.inr (slot_ne (C := "com/example/assay_runner/assayrunner/report/ReportPage$Counts") (Or.inr (hw _ (List.mem_of_getElem? (i := 15) rfl))) (Or.inr (hw _ (List.mem_of_getElem? (i := 19) rfl))) (by decide) (t := .int) (t' := .int) (by decide) (by decide)))), (Fw3.other W4 (Or.inr (slot_ne (C := "com/example/assay_runner/assayrunner/report/ReportPage$Counts") (Or.inr (hw _ (List.mem_of_getElem? (i := 17) rfl))) (Or.inr (hw _ (List.mem_of_getElem? (i := 19) rfl))) (by decide) (t := .int) (t' := .int) (by decide) (by decide)))), Fw4⟩
set_option maxRecDepth 65536 in
set_option maxHeartbeats 40000000 in
theorem own_skipped (l : Launch) (Z : State) (a0 : Array Value) (hw : ∀ d ∈ tables_1, d.before a0 Z = true) (ws : List Jvm.Cond) (a : Addr) (x_tests x_passed x_failed : Int32) (h0 : Heap) (n0 : Nat) (Z0 : n0 ≤ h0.size) (F_tests : Fld Z h0 a "com/example/assay_runner/assayrunner/report/ReportPage$Counts" "tests" "I" (.int x_tests)) (F_passed : Fld Z h0 a "com/example/assay_runner/assayrunner/report/ReportPage$Counts" "passed" "I" (.int x_passed)) (F_failed : Fld Z h0 a "com/example/assay_runner/assayrunner/report/ReportPage$Counts" "failed" "I" (.int x_failed)) :
    own_Met l Z (⟨"com/example/assay_runner/assayrunner/report/ReportPage$Counts", "skipped", "()I"⟩ : MethodName) prog_60_method_4_code 1 (some .int) ws ({ frames := 0, cells := 0, slots := 0, locals := 0 } : Room) #[(.ref a)] h0 (fun v h L => v = some (.int ((x_tests - x_passed) - x_failed)) ∧ Fr n0 L ∧ h = h0) := by
  refine own_body own_pn2 (fun m => mkF m 0 #[.val (.ref a)] []) (fun m => own_ef_own_skipped m a) ?_
  intro p e s m below meth c T0 hx hby hml hlk hrt hZ hown hnm X0 e0
  have hown : s.vm.findClass "com/example/assay_runner/assayrunner/report/ReportPage$Counts" = some m.cls := hown
  have N0 := Fr.nil n0
  refine own_pre (S' := (T0.setTop (mkF m 1 #[.val (.ref a)] [(.ref a)]))) (fun tt_ kk_ => XS.aloadN X0.here hx rfl (hb hby own_d4_0) rfl rfl kk_) ?_
  obtain ⟨T1, X1, e1, st1⟩ := getF X0 hx hZ hown (host := "") (Or.inl (hw _ (List.mem_of_getElem? (i := 14) rfl))) Via.refl e0 F_tests (g := (mkF m 1 #[.val (.ref a)] [(.ref a)])) rfl rfl (hb hby own_d4_1)
  refine own_pre (S' := (T1.setTop (mkF m 4 #[.val (.ref a)] [(.int x_tests)]))) st1 ?_
  refine own_pre (S' := (T1.setTop (mkF m 5 #[.val (.ref a)] [(.ref a), (.int x_tests)]))) (fun tt_ kk_ => XS.aloadN X1.here hx rfl (hb hby own_d4_4) rfl rfl kk_) ?_
  obtain ⟨T2, X2, e2, st2⟩ := getF X1 hx hZ hown (host := "") (Or.inl (hw _ (List.mem_of_getElem? (i := 16) rfl))) Via.refl e1 F_passed (g := (mkF m 5 #[.val (.ref a)] [(.ref a), (.int x_tests)])) rfl rfl (hb hby own_d4_5)
  refine own_pre (S' := (T2.setTop (mkF m 8 #[.val (.ref a)] [(.int x_passed), (.int x_tests)]))) st2 ?_
  refine own_pre (S' := (T2.setTop (mkF m 9 #[.val (.ref a)] [(.int (x_tests - x_passed))]))) (fun tt_ kk_ => XS.isub X2.here hx rfl (hb hby own_d4_8) rfl kk_) ?_
  refine own_pre (S' := (T2.setTop (mkF m 10 #[.val (.ref a)] [(.ref a), (.int (x_tests - x_passed))]))) (fun tt_ kk_ => XS.aloadN X2.here hx rfl (hb hby own_d4_9) rfl rfl kk_) ?_
  obtain ⟨T3, X3, e3, st3⟩ := getF X2 hx hZ hown (host := "") (Or.inl (hw _ (List.mem_of_getElem? (i := 18) rfl))) Via.refl e2 F_failed (g := (mkF m 10 #[.val (.ref a)] [(.ref a), (.int (x_tests - x_passed))])) rfl rfl (hb hby own_d4_10)
  refine own_pre (S' := (T3.setTop (mkF m 13 #[.val (.ref a)] [(.int x_failed), (.int (x_tests - x_passed))]))) st3 ?_
  refine own_pre (S' := (T3.setTop (mkF m 14 #[.val (.ref a)] [(.int ((x_tests - x_passed) - x_failed))]))) (fun tt_ kk_ => XS.isub X3.here hx rfl (hb hby own_d4_13) rfl kk_) ?_
  refine own_ret (t := .int) X3 hx hlk hrt rfl (Or.inl ⟨rfl, by simp, _, rfl⟩) (hb hby own_d4_14) (by decide) (by decide) ?_
  exact ⟨rfl, N0, e3⟩
set_option maxRecDepth 65536 in
set_option maxHeartbeats 40000000 in
theorem own_unpassed (l : Launch) (Z : State) (a0 : Array Value) (hw : ∀ d ∈ tables_1, d.before a0 Z = true) (ws : List Jvm.Cond) (a : Addr) (x_tests x_passed : Int32) (h0 : Heap) (n0 : Nat) (Z0 : n0 ≤ h0.size) (F_tests : Fld Z h0 a "com/example/assay_runner/assayrunner/report/ReportPage$Counts" "tests" "I" (.int x_tests)) (F_passed : Fld Z h0 a "com/example/assay_runner/assayrunner/report/ReportPage$Counts" "passed" "I" (.int x_passed)) :
    own_Met l Z (⟨"com/example/assay_runner/assayrunner/report/ReportPage$Counts", "unpassed", "()I"⟩ : MethodName) prog_60_method_3_code 1 (some .int) ws ({ frames := 0, cells := 0, slots := 0, locals := 0 } : Room) #[(.ref a)] h0 (fun v h L => v = some (.int (x_tests - x_passed)) ∧ Fr n0 L ∧ h = h0) := by
  refine own_body own_pn3 (fun m => mkF m 0 #[.val (.ref a)] []) (fun m => own_ef_own_unpassed m a) ?_
  intro p e s m below meth c T0 hx hby hml hlk hrt hZ hown hnm X0 e0
  have hown : s.vm.findClass "com/example/assay_runner/assayrunner/report/ReportPage$Counts" = some m.cls := hown
  have N0 := Fr.nil n0
  refine own_pre (S' := (T0.setTop (mkF m 1 #[.val (.ref a)] [(.ref a)]))) (fun tt_ kk_ => XS.aloadN X0.here hx rfl (hb hby own_d5_0) rfl rfl kk_) ?_
  obtain ⟨T1, X1, e1, st1⟩ := getF X0 hx hZ hown (host := "") (Or.inl (hw _ (List.mem_of_getElem? (i := 14) rfl))) Via.refl e0 F_tests (g := (mkF m 1 #[.val (.ref a)] [(.ref a)])) rfl rfl (hb hby own_d5_1)
  refine own_pre (S' := (T1.setTop (mkF m 4 #[.val (.ref a)] [(.int x_tests)]))) st1 ?_
  refine own_pre (S' := (T1.setTop (mkF m 5 #[.val (.ref a)] [(.ref a), (.int x_tests)]))) (fun tt_ kk_ => XS.aloadN X1.here hx rfl (hb hby own_d5_4) rfl rfl kk_) ?_
  obtain ⟨T2, X2, e2, st2⟩ := getF X1 hx hZ hown (host := "") (Or.inl (hw _ (List.mem_of_getElem? (i := 16) rfl))) Via.refl e1 F_passed (g := (mkF m 5 #[.val (.ref a)] [(.ref a), (.int x_tests)])) rfl rfl (hb hby own_d5_5)
  refine own_pre (S' := (T2.setTop (mkF m 8 #[.val (.ref a)] [(.int x_passed), (.int x_tests)]))) st2 ?_
  refine own_pre (S' := (T2.setTop (mkF m 9 #[.val (.ref a)] [(.int (x_tests - x_passed))]))) (fun tt_ kk_ => XS.isub X2.here hx rfl (hb hby own_d5_8) rfl kk_) ?_
  refine own_ret (t := .int) X2 hx hlk hrt rfl (Or.inl ⟨rfl, by simp, _, rfl⟩) (hb hby own_d5_9) (by decide) (by decide) ?_
  exact ⟨rfl, N0, e2⟩
set_option maxRecDepth 65536 in
set_option maxHeartbeats 40000000 in
theorem own_failed (l : Launch) (Z : State) (a0 : Array Value) (hw : ∀ d ∈ tables_1, d.before a0 Z = true) (ws : List Jvm.Cond) (a : Addr) (x_failed : Int32) (h0 : Heap) (n0 : Nat) (Z0 : n0 ≤ h0.size) (F_failed : Fld Z h0 a "com/example/assay_runner/assayrunner/report/ReportPage$Counts" "failed" "I" (.int x_failed)) :
    own_Met l Z (⟨"com/example/assay_runner/assayrunner/report/ReportPage$Counts", "failed", "()I"⟩ : MethodName) prog_60_method_10_code 1 (some .int) ws ({ frames := 0, cells := 0, slots := 0, locals := 0 } : Room) #[(.ref a)] h0 (fun v h L => v = some (.int x_failed) ∧ Fr n0 L ∧ h = h0) := by
  refine own_body own_pn4 (fun m => mkF m 0 #[.val (.ref a)] []) (fun m => own_ef_own_failed m a) ?_
  intro p e s m below meth c T0 hx hby hml hlk hrt hZ hown hnm X0 e0
  have hown : s.vm.findClass "com/example/assay_runner/assayrunner/report/ReportPage$Counts" = some m.cls := hown
  have N0 := Fr.nil n0
  refine own_pre (S' := (T0.setTop (mkF m 1 #[.val (.ref a)] [(.ref a)]))) (fun tt_ kk_ => XS.aloadN X0.here hx rfl (hb hby own_d6_0) rfl rfl kk_) ?_
  obtain ⟨T1, X1, e1, st1⟩ := getF X0 hx hZ hown (host := "") (Or.inl (hw _ (List.mem_of_getElem? (i := 18) rfl))) Via.refl e0 F_failed (g := (mkF m 1 #[.val (.ref a)] [(.ref a)])) rfl rfl (hb hby own_d6_1)
  refine own_pre (S' := (T1.setTop (mkF m 4 #[.val (.ref a)] [(.int x_failed)]))) st1 ?_
  refine own_ret (t := .int) X1 hx hlk hrt rfl (Or.inl ⟨rfl, by simp, _, rfl⟩) (hb hby own_d6_4) (by decide) (by decide) ?_
  exact ⟨rfl, N0, e1⟩
set_option maxRecDepth 65536 in
set_option maxHeartbeats 40000000 in
theorem own_with (l : Launch) (Z : State) (a0 : Array Value) (hw : ∀ d ∈ tables_1, d.before a0 Z = true) (ws : List Jvm.Cond) (a sA a_PASSED a_FAILED : Addr) (x_tests x_passed x_failed p' f' : Int32) (h0 : Heap) (n0 : Nat) (Z0 : n0 ≤ h0.size) (F_tests : Fld Z h0 a "com/example/assay_runner/assayrunner/report/ReportPage$Counts" "tests" "I" (.int x_tests)) (F_passed : Fld Z h0 a "com/example/assay_runner/assayrunner/report/ReportPage$Counts" "passed" "I" (.int x_passed)) (F_failed : Fld Z h0 a "com/example/assay_runner/assayrunner/report/ReportPage$Counts" "failed" "I" (.int x_failed)) (S_PASSED : Sta Z h0 "com/example/assay_runner/assayrunner/report/ReportPage$Status" "PASSED" "Lcom/example/assay_runner/assayrunner/report/ReportPage$Status;" (.ref a_PASSED)) (S_FAILED : Sta Z h0 "com/example/assay_runner/assayrunner/report/ReportPage$Status" "FAILED" "Lcom/example/assay_runner/assayrunner/report/ReportPage$Status;" (.ref a_FAILED)) (hp : (if sA = a_PASSED then x_passed + 1 else x_passed) = p') (hf : (if sA = a_FAILED then x_failed + 1 else x_failed) = f') :
    own_Met l Z (⟨"com/example/assay_runner/assayrunner/report/ReportPage$Counts", "with", "(Lcom/example/assay_runner/assayrunner/report/ReportPage$Status;)Lcom/example/assay_runner/assayrunner/report/ReportPage$Counts;"⟩ : MethodName) prog_60_method_2_code 2 (some (.object "com/example/assay_runner/assayrunner/report/ReportPage$Counts")) ws ({ frames := 3, cells := 1, slots := 3, locals := 40 } : Room) #[(.ref a), (.ref sA)] h0 (fun v h L => ∃ b : Addr, v = some (.ref b) ∧ Fr n0 L ∧ Keep h0 h [] ∧ Exa Z h b "com/example/assay_runner/assayrunner/report/ReportPage$Counts" ∧ Fld Z h b "com/example/assay_runner/assayrunner/report/ReportPage$Counts" "tests" "I" (.int (x_tests + 1)) ∧ Fld Z h b "com/example/assay_runner/assayrunner/report/ReportPage$Counts" "passed" "I" (.int p') ∧ Fld Z h b "com/example/assay_runner/assayrunner/report/ReportPage$Counts" "failed" "I" (.int f') ∧ n0 ≤ b) := by
  refine own_body own_pn5 (fun m => mkF m 0 #[.val (.ref a), .val (.ref sA)] []) (fun m => own_ef_own_with m a sA) ?_
  intro p e s m below meth c T0 hx hby hml hlk hrt hZ hown hnm X0 e0
  have hown : s.vm.findClass "com/example/assay_runner/assayrunner/report/ReportPage$Counts" = some m.cls := hown
  have N0 := Fr.nil n0
  obtain ⟨T1, h1, X1, e1, E1, A1, D1, -, st1⟩ := newO X0 hx hZ hown (hw _ (List.mem_of_getElem? (i := 48) rfl)) (hw _ (List.mem_of_getElem? (i := 1) rfl)) (hw _ (List.mem_of_getElem? (i := 2) rfl)) e0 (g := (mkF m 0 #[.val (.ref a), .val (.ref sA)] [])) rfl (hb hby own_d8_0) (by decide) (by decide)
  obtain ⟨b1, g1⟩ : ∃ z, z = h0.size := ⟨_, rfl⟩
  rw [← g1] at A1 D1 st1
  have sz_b1 : h0.size ≤ b1 := Nat.le_trans (Nat.le_refl h0.size) (Nat.le_of_eq g1.symm)
  have ge_b1 : n0 ≤ b1 := Nat.le_trans Z0 (Nat.le_of_eq g1.symm)
  have ne_a_b1 : a ≠ b1 := Nat.ne_of_lt (Nat.lt_of_lt_of_le F_tests.lt (Nat.le_of_eq g1.symm))
  have F1_tests : Fld Z h1 b1 "com/example/assay_runner/assayrunner/report/ReportPage$Counts" "tests" "I" (.int (0 : Int32)) := D1 (Or.inr (hw _ (List.mem_of_getElem? (i := 15) rfl))) (ty := .int) (by decide)
  have F1_passed : Fld Z h1 b1 "com/example/assay_runner/assayrunner/report/ReportPage$Counts" "passed" "I" (.int (0 : Int32)) := D1 (Or.inr (hw _ (List.mem_of_getElem? (i := 17) rfl))) (ty := .int) (by decide)
  have F1_failed : Fld Z h1 b1 "com/example/assay_runner/assayrunner/report/ReportPage$Counts" "failed" "I" (.int (0 : Int32)) := D1 (Or.inr (hw _ (List.mem_of_getElem? (i := 19) rfl))) (ty := .int) (by decide)
  refine own_pre (S' := (T1.setTop (mkF m 3 #[.val (.ref a), .val (.ref sA)] [(.ref b1)]))) st1 ?_
  refine own_pre (S' := (T1.setTop (mkF m 4 #[.val (.ref a), .val (.ref sA)] [(.ref b1), (.ref b1)]))) (fun tt_ kk_ => XS.dup X1.here hx rfl (hb hby own_d8_3) rfl rfl kk_) ?_
  refine own_pre (S' := (T1.setTop (mkF m 5 #[.val (.ref a), .val (.ref sA)] [(.ref a), (.ref b1), (.ref b1)]))) (fun tt_ kk_ => XS.aloadN X1.here hx rfl (hb hby own_d8_4) rfl rfl kk_) ?_
  obtain ⟨T2, X2, e2, st2⟩ := getF X1 hx hZ hown (host := "") (Or.inl (hw _ (List.mem_of_getElem? (i := 14) rfl))) Via.refl e1 (F_tests.ext E1) (g := (mkF m 5 #[.val (.ref a), .val (.ref sA)] [(.ref a), (.ref b1), (.ref b1)])) rfl rfl (hb hby own_d8_5)
  refine own_pre (S' := (T2.setTop (mkF m 8 #[.val (.ref a), .val (.ref sA)] [(.int x_tests), (.ref b1), (.ref b1)]))) st2 ?_
  refine own_pre (S' := (T2.setTop (mkF m 9 #[.val (.ref a), .val (.ref sA)] [(.int (1 : Int32)), (.int x_tests), (.ref b1), (.ref b1)]))) (fun tt_ kk_ => XS.iconst X2.here hx rfl (hb hby own_d8_8) kk_) ?_
  refine own_pre (S' := (T2.setTop (mkF m 10 #[.val (.ref a), .val (.ref sA)] [(.int (x_tests + (1 : Int32))), (.ref b1), (.ref b1)]))) (fun tt_ kk_ => XS.iadd X2.here hx rfl (hb hby own_d8_9) rfl kk_) ?_
  refine own_pre (S' := (T2.setTop (mkF m 11 #[.val (.ref a), .val (.ref sA)] [(.ref sA), (.int (x_tests + (1 : Int32))), (.ref b1), (.ref b1)]))) (fun tt_ kk_ => XS.aloadN X2.here hx rfl (hb hby own_d8_10) rfl rfl kk_) ?_
  obtain ⟨T3, X3, e3, st3⟩ := getS2 X2 hx hZ hown (host := "") (Or.inl (hw _ (List.mem_of_getElem? (i := 49) rfl))) Via.refl e2 (S_PASSED.ext E1) (g := (mkF m 11 #[.val (.ref a), .val (.ref sA)] [(.ref sA), (.int (x_tests + (1 : Int32))), (.ref b1), (.ref b1)])) rfl (hb hby own_d8_11)
  refine own_pre (S' := (T3.setTop (mkF m 14 #[.val (.ref a), .val (.ref sA)] [(.ref a_PASSED), (.ref sA), (.int (x_tests + (1 : Int32))), (.ref b1), (.ref b1)]))) st3 ?_
  by_cases c14 : sA = a_PASSED
  · -- pc 14
    refine own_pre (S' := (T3.setTop (mkF m 17 #[.val (.ref a), .val (.ref sA)] [(.int (x_tests + (1 : Int32))), (.ref b1), (.ref b1)]))) (fun tt_ kk_ => Jvm.RoadKit.acmp (g := (mkF m 14 #[.val (.ref a), .val (.ref sA)] [(.ref a_PASSED), (.ref sA), (.int (x_tests + (1 : Int32))), (.ref b1), (.ref b1)])) X3 hx rfl rfl rfl (pc0 := 14) (pc' := 17) (same := true) rfl (hb hby own_d8_14) rfl (decide_eq_true (congrArg Value.ref c14)) (by decide) (by decide) kk_) ?_
    refine own_pre (S' := (T3.setTop (mkF m 18 #[.val (.ref a), .val (.ref sA)] [(.ref a), (.int (x_tests + (1 : Int32))), (.ref b1), (.ref b1)]))) (fun tt_ kk_ => XS.aloadN X3.here hx rfl (hb hby own_d8_17) rfl rfl kk_) ?_
    obtain ⟨T4, X4, e4, st4⟩ := getF X3 hx hZ hown (host := "") (Or.inl (hw _ (List.mem_of_getElem? (i := 16) rfl))) Via.refl e3 (F_passed.ext E1) (g := (mkF m 18 #[.val (.ref a), .val (.ref sA)] [(.ref a), (.int (x_tests + (1 : Int32))), (.ref b1), (.ref b1)])) rfl rfl (hb hby own_d8_18)
    refine own_pre (S' := (T4.setTop (mkF m 21 #[.val (.ref a), .val (.ref sA)] [(.int x_passed), (.int (x_tests + (1 : Int32))), (.ref b1), (.ref b1)]))) st4 ?_
    refine own_pre (S' := (T4.setTop (mkF m 22 #[.val (.ref a), .val (.ref sA)] [(.int (1 : Int32)), (.int x_passed), (.int (x_tests + (1 : Int32))), (.ref b1), (.ref b1)]))) (fun tt_ kk_ => XS.iconst X4.here hx rfl (hb hby own_d8_21) kk_) ?_
    refine own_pre (S' := (T4.setTop (mkF m 23 #[.val (.ref a), .val (.ref sA)] [(.int (x_passed + (1 : Int32))), (.int (x_tests + (1 : Int32))), (.ref b1), (.ref b1)]))) (fun tt_ kk_ => XS.iadd X4.here hx rfl (hb hby own_d8_22) rfl kk_) ?_
    refine own_pre (S' := (T4.setTop (mkF m 30 #[.val (.ref a), .val (.ref sA)] [(.int (x_passed + (1 : Int32))), (.int (x_tests + (1 : Int32))), (.ref b1), (.ref b1)]))) (fun tt_ kk_ => XS.goto X4.here hx rfl (pc0 := 23) (pc' := 30) rfl (hb hby own_d8_23) (by decide) (by decide) kk_) ?_
    refine own_pre (S' := (T4.setTop (mkF m 31 #[.val (.ref a), .val (.ref sA)] [(.ref sA), (.int (x_passed + (1 : Int32))), (.int (x_tests + (1 : Int32))), (.ref b1), (.ref b1)]))) (fun tt_ kk_ => XS.aloadN X4.here hx rfl (hb hby own_d8_30) rfl rfl kk_) ?_
    obtain ⟨T5, X5, e5, st5⟩ := getS2 X4 hx hZ hown (host := "") (Or.inl (hw _ (List.mem_of_getElem? (i := 51) rfl))) Via.refl e4 (S_FAILED.ext E1) (g := (mkF m 31 #[.val (.ref a), .val (.ref sA)] [(.ref sA), (.int (x_passed + (1 : Int32))), (.int (x_tests + (1 : Int32))), (.ref b1), (.ref b1)])) rfl (hb hby own_d8_31)
    refine own_pre (S' := (T5.setTop (mkF m 34 #[.val (.ref a), .val (.ref sA)] [(.ref a_FAILED), (.ref sA), (.int (x_passed + (1 : Int32))), (.int (x_tests + (1 : Int32))), (.ref b1), (.ref b1)]))) st5 ?_
    by_cases c34 : sA = a_FAILED
    · -- pc 34
      refine own_pre (S' := (T5.setTop (mkF m 37 #[.val (.ref a), .val (.ref sA)] [(.int (x_passed + (1 : Int32))), (.int (x_tests + (1 : Int32))), (.ref b1), (.ref b1)]))) (fun tt_ kk_ => Jvm.RoadKit.acmp (g := (mkF m 34 #[.val (.ref a), .val (.ref sA)] [(.ref a_FAILED), (.ref sA), (.int (x_passed + (1 : Int32))), (.int (x_tests + (1 : Int32))), (.ref b1), (.ref b1)])) X5 hx rfl rfl rfl (pc0 := 34) (pc' := 37) (same := true) rfl (hb hby own_d8_34) rfl (decide_eq_true (congrArg Value.ref c34)) (by decide) (by decide) kk_) ?_
      refine own_pre (S' := (T5.setTop (mkF m 38 #[.val (.ref a), .val (.ref sA)] [(.ref a), (.int (x_passed + (1 : Int32))), (.int (x_tests + (1 : Int32))), (.ref b1), (.ref b1)]))) (fun tt_ kk_ => XS.aloadN X5.here hx rfl (hb hby own_d8_37) rfl rfl kk_) ?_
      obtain ⟨T6, X6, e6, st6⟩ := getF X5 hx hZ hown (host := "") (Or.inl (hw _ (List.mem_of_getElem? (i := 18) rfl))) Via.refl e5 (F_failed.ext E1) (g := (mkF m 38 #[.val (.ref a), .val (.ref sA)] [(.ref a), (.int (x_passed + (1 : Int32))), (.int (x_tests + (1 : Int32))), (.ref b1), (.ref b1)])) rfl rfl (hb hby own_d8_38)
      refine own_pre (S' := (T6.setTop (mkF m 41 #[.val (.ref a), .val (.ref sA)] [(.int x_failed), (.int (x_passed + (1 : Int32))), (.int (x_tests + (1 : Int32))), (.ref b1), (.ref b1)]))) st6 ?_
      refine own_pre (S' := (T6.setTop (mkF m 42 #[.val (.ref a), .val (.ref sA)] [(.int (1 : Int32)), (.int x_failed), (.int (x_passed + (1 : Int32))), (.int (x_tests + (1 : Int32))), (.ref b1), (.ref b1)]))) (fun tt_ kk_ => XS.iconst X6.here hx rfl (hb hby own_d8_41) kk_) ?_
      refine own_pre (S' := (T6.setTop (mkF m 43 #[.val (.ref a), .val (.ref sA)] [(.int (x_failed + (1 : Int32))), (.int (x_passed + (1 : Int32))), (.int (x_tests + (1 : Int32))), (.ref b1), (.ref b1)]))) (fun tt_ kk_ => XS.iadd X6.here hx rfl (hb hby own_d8_42) rfl kk_) ?_
      refine own_pre (S' := (T6.setTop (mkF m 50 #[.val (.ref a), .val (.ref sA)] [(.int (x_failed + (1 : Int32))), (.int (x_passed + (1 : Int32))), (.int (x_tests + (1 : Int32))), (.ref b1), (.ref b1)]))) (fun tt_ kk_ => XS.goto X6.here hx rfl (pc0 := 43) (pc' := 50) rfl (hb hby own_d8_43) (by decide) (by decide) kk_) ?_
      refine own_callI (y := (⟨"com/example/assay_runner/assayrunner/report/ReportPage$Counts", "<init>", "(III)V"⟩ : MethodName)) (b := b1) X6 hx hZ hown rfl (hw _ (List.mem_of_getElem? (i := 52) rfl)) (hw _ (List.mem_of_getElem? (i := 4) rfl)) (hw _ (List.mem_of_getElem? (i := 5) rfl)) (hw _ (List.mem_of_getElem? (i := 2) rfl)) (by decide) e6 (hM := own_ci l Z a0 hw [] b1 (x_tests + (1 : Int32)) (x_passed + (1 : Int32)) (x_failed + (1 : Int32)) h1 n0 (Nat.le_trans Z0 E1.1) F1_tests F1_passed F1_failed A1 ge_b1) (W := 1) (pc := 50) (Ls := #[.val (.ref a), .val (.ref sA)]) (argsL := [(.int (x_tests + (1 : Int32))), (.int (x_passed + (1 : Int32))), (.int (x_failed + (1 : Int32)))]) (rest := [(.ref b1)]) (st0 := [(.int (x_failed + (1 : Int32))), (.int (x_passed + (1 : Int32))), (.int (x_tests + (1 : Int32))), (.ref b1), (.ref b1)]) (by rw [hml]; rfl) (lenOf own_pd1 rfl) rfl (Nat.le_of_eq rfl) (hb hby own_d8_50) (by decide) (by decide) (by decide) (by decide) ?_
      intro v7 T7 L7 X7 hQ7
      obtain ⟨rfl, Nq7, K7, Ft7, Fp7, Ff7⟩ := hQ7
      have N7 := Fr.app N0 Nq7
      show own_Ends p e below s _ _ _ (T7.setTop (mkF m 53 #[.val (.ref a), .val (.ref sA)] [(.ref b1)]))
      refine own_ret (t := (.object "com/example/assay_runner/assayrunner/report/ReportPage$Counts")) X7 hx hlk hrt rfl (Or.inr (Or.inr (Or.inr (Or.inr ⟨rfl, rfl, rfl⟩)))) (hb hby own_d8_53) (by decide) (by decide) ?_
      refine ⟨b1, rfl, N7, (((Keep.refl _ _).ext E1).trans K7 (allS (Or.inr sz_b1) all0)), (A1.keep K7), Ft7, ?_, ?_, ge_b1⟩
      · rw [← hp, if_pos c14]; exact Fp7
      · rw [← hf, if_pos c34]; exact Ff7
    · -- pc 34
      refine own_pre (S' := (T5.setTop (mkF m 46 #[.val (.ref a), .val (.ref sA)] [(.int (x_passed + (1 : Int32))), (.int (x_tests + (1 : Int32))), (.ref b1), (.ref b1)]))) (fun tt_ kk_ => Jvm.RoadKit.acmp (g := (mkF m 34 #[.val (.ref a), .val (.ref sA)] [(.ref a_FAILED), (.ref sA), (.int (x_passed + (1 : Int32))), (.int (x_tests + (1 : Int32))), (.ref b1), (.ref b1)])) X5 hx rfl rfl rfl (pc0 := 34) (pc' := 46) (same := false) rfl (hb hby own_d8_34) rfl (decide_eq_false fun q => c34 (Value.ref.inj q)) (by decide) (by decide) kk_) ?_
      refine own_pre (S' := (T5.setTop (mkF m 47 #[.val (.ref a), .val (.ref sA)] [(.ref a), (.int (x_passed + (1 : Int32))), (.int (x_tests + (1 : Int32))), (.ref b1), (.ref b1)]))) (fun tt_ kk_ => XS.aloadN X5.here hx rfl (hb hby own_d8_46) rfl rfl kk_) ?_
      obtain ⟨T8, X8, e8, st8⟩ := getF X5 hx hZ hown (host := "") (Or.inl (hw _ (List.mem_of_getElem? (i := 18) rfl))) Via.refl e5 (F_failed.ext E1) (g := (mkF m 47 #[.val (.ref a), .val (.ref sA)] [(.ref a), (.int (x_passed + (1 : Int32))), (.int (x_tests + (1 : Int32))), (.ref b1), (.ref b1)])) rfl rfl (hb hby own_d8_47)
      refine own_pre (S' := (T8.setTop (mkF m 50 #[.val (.ref a), .val (.ref sA)] [(.int x_failed), (.int (x_passed + (1 : Int32))), (.int (x_tests + (1 : Int32))), (.ref b1), (.ref b1)]))) st8 ?_
      refine own_callI (y := (⟨"com/example/assay_runner/assayrunner/report/ReportPage$Counts", "<init>", "(III)V"⟩ : MethodName)) (b := b1) X8 hx hZ hown rfl (hw _ (List.mem_of_getElem? (i := 52) rfl)) (hw _ (List.mem_of_getElem? (i := 4) rfl)) (hw _ (List.mem_of_getElem? (i := 5) rfl)) (hw _ (List.mem_of_getElem? (i := 2) rfl)) (by decide) e8 (hM := own_ci l Z a0 hw [] b1 (x_tests + (1 : Int32)) (x_passed + (1 : Int32)) x_failed h1 n0 (Nat.le_trans Z0 E1.1) F1_tests F1_passed F1_failed A1 ge_b1) (W := 1) (pc := 50) (Ls := #[.val (.ref a), .val (.ref sA)]) (argsL := [(.int (x_tests + (1 : Int32))), (.int (x_passed + (1 : Int32))), (.int x_failed)]) (rest := [(.ref b1)]) (st0 := [(.int x_failed), (.int (x_passed + (1 : Int32))), (.int (x_tests + (1 : Int32))), (.ref b1), (.ref b1)]) (by rw [hml]; rfl) (lenOf own_pd1 rfl) rfl (Nat.le_of_eq rfl) (hb hby own_d8_50) (by decide) (by decide) (by decide) (by decide) ?_
      intro v9 T9 L9 X9 hQ9
      obtain ⟨rfl, Nq9, K9, Ft9, Fp9, Ff9⟩ := hQ9
      have N9 := Fr.app N0 Nq9
      show own_Ends p e below s _ _ _ (T9.setTop (mkF m 53 #[.val (.ref a), .val (.ref sA)] [(.ref b1)]))
      refine own_ret (t := (.object "com/example/assay_runner/assayrunner/report/ReportPage$Counts")) X9 hx hlk hrt rfl (Or.inr (Or.inr (Or.inr (Or.inr ⟨rfl, rfl, rfl⟩)))) (hb hby own_d8_53) (by decide) (by decide) ?_
      refine ⟨b1, rfl, N9, (((Keep.refl _ _).ext E1).trans K9 (allS (Or.inr sz_b1) all0)), (A1.keep K9), Ft9, ?_, ?_, ge_b1⟩
      · rw [← hp, if_pos c14]; exact Fp9
      · rw [← hf, if_neg c34]; exact Ff9
  · -- pc 14
    refine own_pre (S' := (T3.setTop (mkF m 26 #[.val (.ref a), .val (.ref sA)] [(.int (x_tests + (1 : Int32))), (.ref b1), (.ref b1)]))) (fun tt_ kk_ => Jvm.RoadKit.acmp (g := (mkF m 14 #[.val (.ref a), .val (.ref sA)] [(.ref a_PASSED), (.ref sA), (.int (x_tests + (1 : Int32))), (.ref b1), (.ref b1)])) X3 hx rfl rfl rfl (pc0 := 14) (pc' := 26) (same := false) rfl (hb hby own_d8_14) rfl (decide_eq_false fun q => c14 (Value.ref.inj q)) (by decide) (by decide) kk_) ?_
    refine own_pre (S' := (T3.setTop (mkF m 27 #[.val (.ref a), .val (.ref sA)] [(.ref a), (.int (x_tests + (1 : Int32))), (.ref b1), (.ref b1)]))) (fun tt_ kk_ => XS.aloadN X3.here hx rfl (hb hby own_d8_26) rfl rfl kk_) ?_
    obtain ⟨T10, X10, e10, st10⟩ := getF X3 hx hZ hown (host := "") (Or.inl (hw _ (List.mem_of_getElem? (i := 16) rfl))) Via.refl e3 (F_passed.ext E1) (g := (mkF m 27 #[.val (.ref a), .val (.ref sA)] [(.ref a), (.int (x_tests + (1 : Int32))), (.ref b1), (.ref b1)])) rfl rfl (hb hby own_d8_27)
    refine own_pre (S' := (T10.setTop (mkF m 30 #[.val (.ref a), .val (.ref sA)] [(.int x_passed), (.int (x_tests + (1 : Int32))), (.ref b1), (.ref b1)]))) st10 ?_
    refine own_pre (S' := (T10.setTop (mkF m 31 #[.val (.ref a), .val (.ref sA)] [(.ref sA), (.int x_passed), (.int (x_tests + (1 : Int32))), (.ref b1), (.ref b1)]))) (fun tt_ kk_ => XS.aloadN X10.here hx rfl (hb hby own_d8_30) rfl rfl kk_) ?_
    obtain ⟨T11, X11, e11, st11⟩ := getS2 X10 hx hZ hown (host := "") (Or.inl (hw _ (List.mem_of_getElem? (i := 51) rfl))) Via.refl e10 (S_FAILED.ext E1) (g := (mkF m 31 #[.val (.ref a), .val (.ref sA)] [(.ref sA), (.int x_passed), (.int (x_tests + (1 : Int32))), (.ref b1), (.ref b1)])) rfl (hb hby own_d8_31)
    refine own_pre (S' := (T11.setTop (mkF m 34 #[.val (.ref a), .val (.ref sA)] [(.ref a_FAILED), (.ref sA), (.int x_passed), (.int (x_tests + (1 : Int32))), (.ref b1), (.ref b1)]))) st11 ?_
    by_cases c34 : sA = a_FAILED
    · -- pc 34
      refine own_pre (S' := (T11.setTop (mkF m 37 #[.val (.ref a), .val (.ref sA)] [(.int x_passed), (.int (x_tests + (1 : Int32))), (.ref b1), (.ref b1)]))) (fun tt_ kk_ => Jvm.RoadKit.acmp (g := (mkF m 34 #[.val (.ref a), .val (.ref sA)] [(.ref a_FAILED), (.ref sA), (.int x_passed), (.int (x_tests + (1 : Int32))), (.ref b1), (.ref b1)])) X11 hx rfl rfl rfl (pc0 := 34) (pc' := 37) (same := true) rfl (hb hby own_d8_34) rfl (decide_eq_true (congrArg Value.ref c34)) (by decide) (by decide) kk_) ?_
      refine own_pre (S' := (T11.setTop (mkF m 38 #[.val (.ref a), .val (.ref sA)] [(.ref a), (.int x_passed), (.int (x_tests + (1 : Int32))), (.ref b1), (.ref b1)]))) (fun tt_ kk_ => XS.aloadN X11.here hx rfl (hb hby own_d8_37) rfl rfl kk_) ?_
      obtain ⟨T12, X12, e12, st12⟩ := getF X11 hx hZ hown (host := "") (Or.inl (hw _ (List.mem_of_getElem? (i := 18) rfl))) Via.refl e11 (F_failed.ext E1) (g := (mkF m 38 #[.val (.ref a), .val (.ref sA)] [(.ref a), (.int x_passed), (.int (x_tests + (1 : Int32))), (.ref b1), (.ref b1)])) rfl rfl (hb hby own_d8_38)
      refine own_pre (S' := (T12.setTop (mkF m 41 #[.val (.ref a), .val (.ref sA)] [(.int x_failed), (.int x_passed), (.int (x_tests + (1 : Int32))), (.ref b1), (.ref b1)]))) st12 ?_
      refine own_pre (S' := (T12.setTop (mkF m 42 #[.val (.ref a), .val (.ref sA)] [(.int (1 : Int32)), (.int x_failed), (.int x_passed), (.int (x_tests + (1 : Int32))), (.ref b1), (.ref b1)]))) (fun tt_ kk_ => XS.iconst X12.here hx rfl (hb hby own_d8_41) kk_) ?_
      refine own_pre (S' := (T12.setTop (mkF m 43 #[.val (.ref a), .val (.ref sA)] [(.int (x_failed + (1 : Int32))), (.int x_passed), (.int (x_tests + (1 : Int32))), (.ref b1), (.ref b1)]))) (fun tt_ kk_ => XS.iadd X12.here hx rfl (hb hby own_d8_42) rfl kk_) ?_
      refine own_pre (S' := (T12.setTop (mkF m 50 #[.val (.ref a), .val (.ref sA)] [(.int (x_failed + (1 : Int32))), (.int x_passed), (.int (x_tests + (1 : Int32))), (.ref b1), (.ref b1)]))) (fun tt_ kk_ => XS.goto X12.here hx rfl (pc0 := 43) (pc' := 50) rfl (hb hby own_d8_43) (by decide) (by decide) kk_) ?_
      refine own_callI (y := (⟨"com/example/assay_runner/assayrunner/report/ReportPage$Counts", "<init>", "(III)V"⟩ : MethodName)) (b := b1) X12 hx hZ hown rfl (hw _ (List.mem_of_getElem? (i := 52) rfl)) (hw _ (List.mem_of_getElem? (i := 4) rfl)) (hw _ (List.mem_of_getElem? (i := 5) rfl)) (hw _ (List.mem_of_getElem? (i := 2) rfl)) (by decide) e12 (hM := own_ci l Z a0 hw [] b1 (x_tests + (1 : Int32)) x_passed (x_failed + (1 : Int32)) h1 n0 (Nat.le_trans Z0 E1.1) F1_tests F1_passed F1_failed A1 ge_b1) (W := 1) (pc := 50) (Ls := #[.val (.ref a), .val (.ref sA)]) (argsL := [(.int (x_tests + (1 : Int32))), (.int x_passed), (.int (x_failed + (1 : Int32)))]) (rest := [(.ref b1)]) (st0 := [(.int (x_failed + (1 : Int32))), (.int x_passed), (.int (x_tests + (1 : Int32))), (.ref b1), (.ref b1)]) (by rw [hml]; rfl) (lenOf own_pd1 rfl) rfl (Nat.le_of_eq rfl) (hb hby own_d8_50) (by decide) (by decide) (by decide) (by decide) ?_
      intro v13 T13 L13 X13 hQ13
      obtain ⟨rfl, Nq13, K13, Ft13, Fp13, Ff13⟩ := hQ13
      have N13 := Fr.app N0 Nq13
      show own_Ends p e below s _ _ _ (T13.setTop (mkF m 53 #[.val (.ref a), .val (.ref sA)] [(.ref b1)]))
      refine own_ret (t := (.object "com/example/assay_runner/assayrunner/report/ReportPage$Counts")) X13 hx hlk hrt rfl (Or.inr (Or.inr (Or.inr (Or.inr ⟨rfl, rfl, rfl⟩)))) (hb hby own_d8_53) (by decide) (by decide) ?_
      refine ⟨b1, rfl, N13, (((Keep.refl _ _).ext E1).trans K13 (allS (Or.inr sz_b1) all0)), (A1.keep K13), Ft13, ?_, ?_, ge_b1⟩
      · rw [← hp, if_neg c14]; exact Fp13
      · rw [← hf, if_pos c34]; exact Ff13
    · -- pc 34
      refine own_pre (S' := (T11.setTop (mkF m 46 #[.val (.ref a), .val (.ref sA)] [(.int x_passed), (.int (x_tests + (1 : Int32))), (.ref b1), (.ref b1)]))) (fun tt_ kk_ => Jvm.RoadKit.acmp (g := (mkF m 34 #[.val (.ref a), .val (.ref sA)] [(.ref a_FAILED), (.ref sA), (.int x_passed), (.int (x_tests + (1 : Int32))), (.ref b1), (.ref b1)])) X11 hx rfl rfl rfl (pc0 := 34) (pc' := 46) (same := false) rfl (hb hby own_d8_34) rfl (decide_eq_false fun q => c34 (Value.ref.inj q)) (by decide) (by decide) kk_) ?_
      refine own_pre (S' := (T11.setTop (mkF m 47 #[.val (.ref a), .val (.ref sA)] [(.ref a), (.int x_passed), (.int (x_tests + (1 : Int32))), (.ref b1), (.ref b1)]))) (fun tt_ kk_ => XS.aloadN X11.here hx rfl (hb hby own_d8_46) rfl rfl kk_) ?_
      obtain ⟨T14, X14, e14, st14⟩ := getF X11 hx hZ hown (host := "") (Or.inl (hw _ (List.mem_of_getElem? (i := 18) rfl))) Via.refl e11 (F_failed.ext E1) (g := (mkF m 47 #[.val (.ref a), .val (.ref sA)] [(.ref a), (.int x_passed), (.int (x_tests + (1 : Int32))), (.ref b1), (.ref b1)])) rfl rfl (hb hby own_d8_47)
      refine own_pre (S' := (T14.setTop (mkF m 50 #[.val (.ref a), .val (.ref sA)] [(.int x_failed), (.int x_passed), (.int (x_tests + (1 : Int32))), (.ref b1), (.ref b1)]))) st14 ?_
      refine own_callI (y := (⟨"com/example/assay_runner/assayrunner/report/ReportPage$Counts", "<init>", "(III)V"⟩ : MethodName)) (b := b1) X14 hx hZ hown rfl (hw _ (List.mem_of_getElem? (i := 52) rfl)) (hw _ (List.mem_of_getElem? (i := 4) rfl)) (hw _ (List.mem_of_getElem? (i := 5) rfl)) (hw _ (List.mem_of_getElem? (i := 2) rfl)) (by decide) e14 (hM := own_ci l Z a0 hw [] b1 (x_tests + (1 : Int32)) x_passed x_failed h1 n0 (Nat.le_trans Z0 E1.1) F1_tests F1_passed F1_failed A1 ge_b1) (W := 1) (pc := 50) (Ls := #[.val (.ref a), .val (.ref sA)]) (argsL := [(.int (x_tests + (1 : Int32))), (.int x_passed), (.int x_failed)]) (rest := [(.ref b1)]) (st0 := [(.int x_failed), (.int x_passed), (.int (x_tests + (1 : Int32))), (.ref b1), (.ref b1)]) (by rw [hml]; rfl) (lenOf own_pd1 rfl) rfl (Nat.le_of_eq rfl) (hb hby own_d8_50) (by decide) (by decide) (by decide) (by decide) ?_
      intro v15 T15 L15 X15 hQ15
      obtain ⟨rfl, Nq15, K15, Ft15, Fp15, Ff15⟩ := hQ15
      have N15 := Fr.app N0 Nq15
      show own_Ends p e below s _ _ _ (T15.setTop (mkF m 53 #[.val (.ref a), .val (.ref sA)] [(.ref b1)]))
      refine own_ret (t := (.object "com/example/assay_runner/assayrunner/report/ReportPage$Counts")) X15 hx hlk hrt rfl (Or.inr (Or.inr (Or.inr (Or.inr ⟨rfl, rfl, rfl⟩)))) (hb hby own_d8_53) (by decide) (by decide) ?_
      refine ⟨b1, rfl, N15, (((Keep.refl _ _).ext E1).trans K15 (allS (Or.inr sz_b1) all0)), (A1.keep K15), Ft15, ?_, ?_, ge_b1⟩
      · rw [← hp, if_neg c14]; exact Fp15
      · rw [← hf, if_neg c34]; exact Ff15
set_option maxRecDepth 65536 in
set_option maxHeartbeats 40000000 in
theorem own_status (l : Launch) (Z : State) (a0 : Array Value) (hw : ∀ d ∈ tables_1, d.before a0 Z = true) (ws : List Jvm.Cond) (i : Int32) (a_PASSED a_FAILED a_SKIPPED r : Addr) (h0 : Heap) (n0 : Nat) (Z0 : n0 ≤ h0.size) (hr : (if ((i &&& (2147483647 : Int32)) % (3 : Int32)) = (0 : Int32) then a_PASSED else if ((i &&& (2147483647 : Int32)) % (3 : Int32)) = (1 : Int32) then a_FAILED else a_SKIPPED) = r) (S_PASSED : Sta Z h0 "com/example/assay_runner/assayrunner/report/ReportPage$Status" "PASSED" "Lcom/example/assay_runner/assayrunner/report/ReportPage$Status;" (.ref a_PASSED)) (S_FAILED : Sta Z h0 "com/example/assay_runner/assayrunner/report/ReportPage$Status" "FAILED" "Lcom/example/assay_runner/assayrunner/report/ReportPage$Status;" (.ref a_FAILED)) (S_SKIPPED : Sta Z h0 "com/example/assay_runner/assayrunner/report/ReportPage$Status" "SKIPPED" "Lcom/example/assay_runner/assayrunner/report/ReportPage$Status;" (.ref a_SKIPPED)) :
    own_Met l Z (⟨"com/example/assay_runner/assayrunner/report/CountsSkippedPinLaw", "status", "(I)Lcom/example/assay_runner/assayrunner/report/ReportPage$Status;"⟩ : MethodName) method_2_code 2 (some (.object "com/example/assay_runner/assayrunner/report/ReportPage$Status")) ws ({ frames := 0, cells := 0, slots := 0, locals := 0 } : Room) #[(.int i)] h0 (fun v h L => v = some (.ref r) ∧ Fr n0 L ∧ h = h0) := by
  refine own_body own_pn6 (fun m => mkF m 0 #[.val (.int i), .unset] []) (fun m => own_ef_own_status m i) ?_
  intro p e s m below meth c T0 hx hby hml hlk hrt hZ hown hnm X0 e0
  have hown : s.vm.findClass "com/example/assay_runner/assayrunner/report/CountsSkippedPinLaw" = some m.cls := hown
  have N0 := Fr.nil n0
  refine own_pre (S' := (T0.setTop (mkF m 1 #[.val (.int i), .unset] [(.int i)]))) (fun tt_ kk_ => XS.iloadN X0.here hx rfl (hb hby own_d7_0) rfl kk_) ?_
  refine own_pre (S' := (T0.setTop (mkF m 3 #[.val (.int i), .unset] [(.int (2147483647 : Int32)), (.int i)]))) (X0.ldcInt hx hown (mvT hZ (hw _ (List.mem_of_getElem? (i := 39) rfl))) (g := (mkF m 1 #[.val (.int i), .unset] [(.int i)])) rfl (hb hby own_d7_1)) ?_
  refine own_pre (S' := (T0.setTop (mkF m 4 #[.val (.int i), .unset] [(.int (i &&& (2147483647 : Int32)))]))) (fun tt_ kk_ => XS.iand X0.here hx rfl (hb hby own_d7_3) rfl kk_) ?_
  refine own_pre (S' := (T0.setTop (mkF m 5 #[.val (.int i), .unset] [(.int (3 : Int32)), (.int (i &&& (2147483647 : Int32)))]))) (fun tt_ kk_ => XS.iconst X0.here hx rfl (hb hby own_d7_4) kk_) ?_
  refine own_pre (S' := (T0.setTop (mkF m 6 #[.val (.int i), .unset] [(.int ((i &&& (2147483647 : Int32)) % (3 : Int32)))]))) (fun tt_ kk_ => iremM X0 hx rfl (hb hby own_d7_5) rfl (by decide) kk_) ?_
  refine own_pre (S' := (T0.setTop (mkF m 7 #[.val (.int i), .val (.int ((i &&& (2147483647 : Int32)) % (3 : Int32)))] []))) (fun tt_ kk_ => XS.istoreN X0.here hx rfl (hb hby own_d7_6) rfl (l' := #[.val (.int i), .val (.int ((i &&& (2147483647 : Int32)) % (3 : Int32)))]) rfl kk_) ?_
  refine own_pre (S' := (T0.setTop (mkF m 8 #[.val (.int i), .val (.int ((i &&& (2147483647 : Int32)) % (3 : Int32)))] [(.int ((i &&& (2147483647 : Int32)) % (3 : Int32)))]))) (fun tt_ kk_ => XS.iloadN X0.here hx rfl (hb hby own_d7_7) rfl kk_) ?_
  by_cases c8 : ((i &&& (2147483647 : Int32)) % (3 : Int32)) = (0 : Int32)
  · -- pc 8: ((i &&& (2147483647 : Int32)) % (3 : Int32)) = (0 : Int32)
    refine own_pre (S' := (T0.setTop (mkF m 11 #[.val (.int i), .val (.int ((i &&& (2147483647 : Int32)) % (3 : Int32)))] []))) (fun tt_ kk_ => XS.ifNo X0.here hx rfl (hb hby own_d7_8) rfl ((if0 _ _).trans (teq c8).2) kk_) ?_
    obtain ⟨T1, X1, e1, st1⟩ := getS2 X0 hx hZ hown (host := "") (Or.inl (hw _ (List.mem_of_getElem? (i := 55) rfl))) Via.refl e0 S_PASSED (g := (mkF m 11 #[.val (.int i), .val (.int ((i &&& (2147483647 : Int32)) % (3 : Int32)))] [])) rfl (hb hby own_d7_11)
    refine own_pre (S' := (T1.setTop (mkF m 14 #[.val (.int i), .val (.int ((i &&& (2147483647 : Int32)) % (3 : Int32)))] [(.ref a_PASSED)]))) st1 ?_
    refine own_ret (t := (.object "com/example/assay_runner/assayrunner/report/ReportPage$Status")) X1 hx hlk hrt rfl (Or.inr (Or.inr (Or.inr (Or.inr ⟨rfl, rfl, rfl⟩)))) (hb hby own_d7_14) (by decide) (by decide) ?_
    exact ⟨by rw [← hr]; simp [c8], N0, e1⟩
  · -- pc 8: not ((i &&& (2147483647 : Int32)) % (3 : Int32)) = (0 : Int32)
    refine own_pre (S' := (T0.setTop (mkF m 15 #[.val (.int i), .val (.int ((i &&& (2147483647 : Int32)) % (3 : Int32)))] []))) (fun tt_ kk_ => XS.ifYes X0.here hx rfl (pc0 := 8) (pc' := 15) rfl (hb hby own_d7_8) rfl ((if0 _ _).trans (feq c8).2) (by decide) (by decide) kk_) ?_
    refine own_pre (S' := (T0.setTop (mkF m 16 #[.val (.int i), .val (.int ((i &&& (2147483647 : Int32)) % (3 : Int32)))] [(.int ((i &&& (2147483647 : Int32)) % (3 : Int32)))]))) (fun tt_ kk_ => XS.iloadN X0.here hx rfl (hb hby own_d7_15) rfl kk_) ?_
    refine own_pre (S' := (T0.setTop (mkF m 17 #[.val (.int i), .val (.int ((i &&& (2147483647 : Int32)) % (3 : Int32)))] [(.int (1 : Int32)), (.int ((i &&& (2147483647 : Int32)) % (3 : Int32)))]))) (fun tt_ kk_ => XS.iconst X0.here hx rfl (hb hby own_d7_16) kk_) ?_
    by_cases c17 : ((i &&& (2147483647 : Int32)) % (3 : Int32)) = (1 : Int32)
    · -- pc 17: ((i &&& (2147483647 : Int32)) % (3 : Int32)) = (1 : Int32)
      refine own_pre (S' := (T0.setTop (mkF m 20 #[.val (.int i), .val (.int ((i &&& (2147483647 : Int32)) % (3 : Int32)))] []))) (fun tt_ kk_ => XS.icmpNo X0.here hx rfl (hb hby own_d7_17) rfl (teq c17).2 kk_) ?_
      obtain ⟨T2, X2, e2, st2⟩ := getS2 X0 hx hZ hown (host := "") (Or.inl (hw _ (List.mem_of_getElem? (i := 40) rfl))) Via.refl e0 S_FAILED (g := (mkF m 20 #[.val (.int i), .val (.int ((i &&& (2147483647 : Int32)) % (3 : Int32)))] [])) rfl (hb hby own_d7_20)
      refine own_pre (S' := (T2.setTop (mkF m 23 #[.val (.int i), .val (.int ((i &&& (2147483647 : Int32)) % (3 : Int32)))] [(.ref a_FAILED)]))) st2 ?_
      refine own_ret (t := (.object "com/example/assay_runner/assayrunner/report/ReportPage$Status")) X2 hx hlk hrt rfl (Or.inr (Or.inr (Or.inr (Or.inr ⟨rfl, rfl, rfl⟩)))) (hb hby own_d7_23) (by decide) (by decide) ?_
      exact ⟨by rw [← hr]; simp [c8, c17], N0, e2⟩
    · -- pc 17: not ((i &&& (2147483647 : Int32)) % (3 : Int32)) = (1 : Int32)
      refine own_pre (S' := (T0.setTop (mkF m 24 #[.val (.int i), .val (.int ((i &&& (2147483647 : Int32)) % (3 : Int32)))] []))) (fun tt_ kk_ => XS.icmpYes X0.here hx rfl (pc0 := 17) (pc' := 24) rfl (hb hby own_d7_17) rfl (feq c17).2 (by decide) (by decide) kk_) ?_
      obtain ⟨T3, X3, e3, st3⟩ := getS2 X0 hx hZ hown (host := "") (Or.inl (hw _ (List.mem_of_getElem? (i := 53) rfl))) Via.refl e0 S_SKIPPED (g := (mkF m 24 #[.val (.int i), .val (.int ((i &&& (2147483647 : Int32)) % (3 : Int32)))] [])) rfl (hb hby own_d7_24)
      refine own_pre (S' := (T3.setTop (mkF m 27 #[.val (.int i), .val (.int ((i &&& (2147483647 : Int32)) % (3 : Int32)))] [(.ref a_SKIPPED)]))) st3 ?_
      refine own_ret (t := (.object "com/example/assay_runner/assayrunner/report/ReportPage$Status")) X3 hx hlk hrt rfl (Or.inr (Or.inr (Or.inr (Or.inr ⟨rfl, rfl, rfl⟩)))) (hb hby own_d7_27) (by decide) (by decide) ?_
      exact ⟨by rw [← hr]; simp [c8, c17], N0, e3⟩
set_option maxRecDepth 65536 in
set_option maxHeartbeats 40000000 in
theorem own_law (l : Launch) (Z : State) (a0 : Array Value) (hw : ∀ d ∈ tables_1, d.before a0 Z = true) (ws : List Jvm.Cond) (i0 i1 i2 i3 : Int32) (a_FAILED : Addr) (a_PASSED : Addr) (a_SKIPPED : Addr) (h0 : Heap) (n0 : Nat) (Z0 : n0 ≤ h0.size) (S_FAILED : Sta Z h0 "com/example/assay_runner/assayrunner/report/ReportPage$Status" "FAILED" "Lcom/example/assay_runner/assayrunner/report/ReportPage$Status;" (.ref a_FAILED)) (E_FAILED : Exa Z h0 a_FAILED "com/example/assay_runner/assayrunner/report/ReportPage$Status") (S_PASSED : Sta Z h0 "com/example/assay_runner/assayrunner/report/ReportPage$Status" "PASSED" "Lcom/example/assay_runner/assayrunner/report/ReportPage$Status;" (.ref a_PASSED)) (E_PASSED : Exa Z h0 a_PASSED "com/example/assay_runner/assayrunner/report/ReportPage$Status") (S_SKIPPED : Sta Z h0 "com/example/assay_runner/assayrunner/report/ReportPage$Status" "SKIPPED" "Lcom/example/assay_runner/assayrunner/report/ReportPage$Status;" (.ref a_SKIPPED)) (E_SKIPPED : Exa Z h0 a_SKIPPED "com/example/assay_runner/assayrunner/report/ReportPage$Status") (ne_FAILED_PASSED : a_FAILED ≠ a_PASSED) (ne_FAILED_SKIPPED : a_FAILED ≠ a_SKIPPED) (ne_PASSED_SKIPPED : a_PASSED ≠ a_SKIPPED) :
    own_Met l Z x code maxLocals ret ws room_1 #[(.int i0), (.int i1), (.int i2), (.int i3)] h0 (fun v h L => v = some (.int 1) ∧ Fr n0 L) := by
  refine own_body own_pn7 (fun m => mkF m 0 #[.val (.int i0), .val (.int i1), .val (.int i2), .val (.int i3), .unset, .unset, .unset, .unset, .unset, .unset, .unset] []) (fun m => own_ef_own_law m i0 i1 i2 i3) ?_
  intro p e s m below meth c T0 hx hby hml hlk hrt hZ hown hnm X0 e0
  have hown : s.vm.findClass "com/example/assay_runner/assayrunner/report/CountsSkippedPinLaw" = some m.cls := hown
  have N0 := Fr.nil n0
  obtain ⟨T1, h1, X1, e1, E1, A1, D1, -, st1⟩ := newO X0 hx hZ hown (hw _ (List.mem_of_getElem? (i := 0) rfl)) (hw _ (List.mem_of_getElem? (i := 1) rfl)) (hw _ (List.mem_of_getElem? (i := 2) rfl)) e0 (g := (mkF m 0 #[.val (.int i0), .val (.int i1), .val (.int i2), .val (.int i3), .unset, .unset, .unset, .unset, .unset, .unset, .unset] [])) rfl (hb hby at_0) (by decide) (by decide)
  obtain ⟨b1, g1⟩ : ∃ z, z = h0.size := ⟨_, rfl⟩
  rw [← g1] at A1 D1 st1
  have sz_b1 : h0.size ≤ b1 := Nat.le_trans (Nat.le_refl h0.size) (Nat.le_of_eq g1.symm)
  have ge_b1 : n0 ≤ b1 := Nat.le_trans Z0 (Nat.le_of_eq g1.symm)
  have ne_a_FAILED_b1 : a_FAILED ≠ b1 := Nat.ne_of_lt (Nat.lt_of_lt_of_le E_FAILED.lt (Nat.le_of_eq g1.symm))
  have ne_a_PASSED_b1 : a_PASSED ≠ b1 := Nat.ne_of_lt (Nat.lt_of_lt_of_le E_PASSED.lt (Nat.le_of_eq g1.symm))
  have ne_a_SKIPPED_b1 : a_SKIPPED ≠ b1 := Nat.ne_of_lt (Nat.lt_of_lt_of_le E_SKIPPED.lt (Nat.le_of_eq g1.symm))
  have F1_tests : Fld Z h1 b1 "com/example/assay_runner/assayrunner/report/ReportPage$Counts" "tests" "I" (.int (0 : Int32)) := D1 (Or.inr (hw _ (List.mem_of_getElem? (i := 15) rfl))) (ty := .int) (by decide)
  have F1_passed : Fld Z h1 b1 "com/example/assay_runner/assayrunner/report/ReportPage$Counts" "passed" "I" (.int (0 : Int32)) := D1 (Or.inr (hw _ (List.mem_of_getElem? (i := 17) rfl))) (ty := .int) (by decide)
  have F1_failed : Fld Z h1 b1 "com/example/assay_runner/assayrunner/report/ReportPage$Counts" "failed" "I" (.int (0 : Int32)) := D1 (Or.inr (hw _ (List.mem_of_getElem? (i := 19) rfl))) (ty := .int) (by decide)
  refine own_pre (S' := (T1.setTop (mkF m 3 #[.val (.int i0), .val (.int i1), .val (.int i2), .val (.int i3), .unset, .unset, .unset, .unset, .unset, .unset, .unset] [(.ref b1)]))) st1 ?_
  refine own_pre (S' := (T1.setTop (mkF m 4 #[.val (.int i0), .val (.int i1), .val (.int i2), .val (.int i3), .unset, .unset, .unset, .unset, .unset, .unset, .unset] [(.ref b1), (.ref b1)]))) (fun tt_ kk_ => XS.dup X1.here hx rfl (hb hby at_3) rfl rfl kk_) ?_
  refine own_pre (S' := (T1.setTop (mkF m 5 #[.val (.int i0), .val (.int i1), .val (.int i2), .val (.int i3), .unset, .unset, .unset, .unset, .unset, .unset, .unset] [(.int i0), (.ref b1), (.ref b1)]))) (fun tt_ kk_ => XS.iloadN X1.here hx rfl (hb hby at_4) rfl kk_) ?_
  refine own_pre (S' := (T1.setTop (mkF m 6 #[.val (.int i0), .val (.int i1), .val (.int i2), .val (.int i3), .unset, .unset, .unset, .unset, .unset, .unset, .unset] [(.int i1), (.int i0), (.ref b1), (.ref b1)]))) (fun tt_ kk_ => XS.iloadN X1.here hx rfl (hb hby at_5) rfl kk_) ?_
  refine own_pre (S' := (T1.setTop (mkF m 7 #[.val (.int i0), .val (.int i1), .val (.int i2), .val (.int i3), .unset, .unset, .unset, .unset, .unset, .unset, .unset] [(.int (i0 + i1)), (.ref b1), (.ref b1)]))) (fun tt_ kk_ => XS.iadd X1.here hx rfl (hb hby at_6) rfl kk_) ?_
  refine own_pre (S' := (T1.setTop (mkF m 8 #[.val (.int i0), .val (.int i1), .val (.int i2), .val (.int i3), .unset, .unset, .unset, .unset, .unset, .unset, .unset] [(.int i2), (.int (i0 + i1)), (.ref b1), (.ref b1)]))) (fun tt_ kk_ => XS.iloadN X1.here hx rfl (hb hby at_7) rfl kk_) ?_
  refine own_pre (S' := (T1.setTop (mkF m 9 #[.val (.int i0), .val (.int i1), .val (.int i2), .val (.int i3), .unset, .unset, .unset, .unset, .unset, .unset, .unset] [(.int ((i0 + i1) + i2)), (.ref b1), (.ref b1)]))) (fun tt_ kk_ => XS.iadd X1.here hx rfl (hb hby at_8) rfl kk_) ?_
  refine own_pre (S' := (T1.setTop (mkF m 10 #[.val (.int i0), .val (.int i1), .val (.int i2), .val (.int i3), .unset, .unset, .unset, .unset, .unset, .unset, .unset] [(.int i0), (.int ((i0 + i1) + i2)), (.ref b1), (.ref b1)]))) (fun tt_ kk_ => XS.iloadN X1.here hx rfl (hb hby at_9) rfl kk_) ?_
  refine own_pre (S' := (T1.setTop (mkF m 11 #[.val (.int i0), .val (.int i1), .val (.int i2), .val (.int i3), .unset, .unset, .unset, .unset, .unset, .unset, .unset] [(.int i1), (.int i0), (.int ((i0 + i1) + i2)), (.ref b1), (.ref b1)]))) (fun tt_ kk_ => XS.iloadN X1.here hx rfl (hb hby at_10) rfl kk_) ?_
  refine own_callI (y := (⟨"com/example/assay_runner/assayrunner/report/ReportPage$Counts", "<init>", "(III)V"⟩ : MethodName)) (b := b1) X1 hx hZ hown rfl (hw _ (List.mem_of_getElem? (i := 3) rfl)) (hw _ (List.mem_of_getElem? (i := 4) rfl)) (hw _ (List.mem_of_getElem? (i := 5) rfl)) (hw _ (List.mem_of_getElem? (i := 2) rfl)) (by decide) e1 (hM := own_ci l Z a0 hw [] b1 ((i0 + i1) + i2) i0 i1 h1 n0 (Nat.le_trans Z0 E1.1) F1_tests F1_passed F1_failed A1 ge_b1) (W := 1) (pc := 11) (Ls := #[.val (.int i0), .val (.int i1), .val (.int i2), .val (.int i3), .unset, .unset, .unset, .unset, .unset, .unset, .unset]) (argsL := [(.int ((i0 + i1) + i2)), (.int i0), (.int i1)]) (rest := [(.ref b1)]) (st0 := [(.int i1), (.int i0), (.int ((i0 + i1) + i2)), (.ref b1), (.ref b1)]) (by rw [hml]; rfl) (lenOf own_pd1 rfl) rfl (Nat.le_of_eq rfl) (hb hby at_11) (by decide) (by decide) (by decide) (by decide) ?_
  intro v2 T2 L2 X2 hQ2
  obtain ⟨rfl, Nq2, K2, Ft2, Fp2, Ff2⟩ := hQ2
  have N2 := Fr.app N0 Nq2
  show own_Ends p e below s _ _ _ (T2.setTop (mkF m 14 #[.val (.int i0), .val (.int i1), .val (.int i2), .val (.int i3), .unset, .unset, .unset, .unset, .unset, .unset, .unset] [(.ref b1)]))
  refine own_pre (S' := (T2.setTop (mkF m 16 #[.val (.int i0), .val (.int i1), .val (.int i2), .val (.int i3), .val (.ref b1), .unset, .unset, .unset, .unset, .unset, .unset] []))) (fun tt_ kk_ => XS.astore X2.here hx rfl (hb hby at_14) rfl rfl (l' := #[.val (.int i0), .val (.int i1), .val (.int i2), .val (.int i3), .val (.ref b1), .unset, .unset, .unset, .unset, .unset, .unset]) rfl kk_) ?_
  refine own_pre (S' := (T2.setTop (mkF m 18 #[.val (.int i0), .val (.int i1), .val (.int i2), .val (.int i3), .val (.ref b1), .unset, .unset, .unset, .unset, .unset, .unset] [(.ref b1)]))) (fun tt_ kk_ => XS.aload X2.here hx rfl (hb hby at_16) rfl rfl kk_) ?_
  refine own_callV (C := "com/example/assay_runner/assayrunner/report/ReportPage$Counts") (y := (⟨"com/example/assay_runner/assayrunner/report/ReportPage$Counts", "skipped", "()I"⟩ : MethodName)) (b := b1) X2 hx hZ hown (hw _ (List.mem_of_getElem? (i := 20) rfl)) (hw _ (List.mem_of_getElem? (i := 21) rfl)) (hw _ (List.mem_of_getElem? (i := 23) rfl)) (hw _ (List.mem_of_getElem? (i := 22) rfl)) (hw _ (List.mem_of_getElem? (i := 24) rfl)) (hw _ (List.mem_of_getElem? (i := 2) rfl)) (by decide) (rfl : T2.heap = T2.heap) (A1.keep K2) (hM := own_skipped l Z a0 hw [] b1 ((i0 + i1) + i2) i0 i1 T2.heap n0 (Nat.le_trans (Nat.le_trans Z0 E1.1) K2.1) Ft2 Fp2 Ff2) (W := 0) (pc := 18) (Ls := #[.val (.int i0), .val (.int i1), .val (.int i2), .val (.int i3), .val (.ref b1), .unset, .unset, .unset, .unset, .unset, .unset]) (argsL := []) (rest := []) (st0 := [(.ref b1)]) (by rw [hml]; rfl) (lenOf own_pd2 rfl) rfl (Nat.le_of_eq rfl) (hb hby at_18) (by decide) (by decide) (by decide) (by decide) ?_
  intro v3 T3 L3 X3 hQ3
  obtain ⟨rfl, Nq3, hh3⟩ := hQ3
  have N3 := Fr.app N2 Nq3
  show own_Ends p e below s _ _ _ (T3.setTop (mkF m 21 #[.val (.int i0), .val (.int i1), .val (.int i2), .val (.int i3), .val (.ref b1), .unset, .unset, .unset, .unset, .unset, .unset] [(.int ((((i0 + i1) + i2) - i0) - i1))]))
  refine own_pre (S' := (T3.setTop (mkF m 23 #[.val (.int i0), .val (.int i1), .val (.int i2), .val (.int i3), .val (.ref b1), .val (.int ((((i0 + i1) + i2) - i0) - i1)), .unset, .unset, .unset, .unset, .unset] []))) (fun tt_ kk_ => XS.istore X3.here hx rfl (hb hby at_21) rfl (l' := #[.val (.int i0), .val (.int i1), .val (.int i2), .val (.int i3), .val (.ref b1), .val (.int ((((i0 + i1) + i2) - i0) - i1)), .unset, .unset, .unset, .unset, .unset]) rfl kk_) ?_
  refine own_pre (S' := (T3.setTop (mkF m 25 #[.val (.int i0), .val (.int i1), .val (.int i2), .val (.int i3), .val (.ref b1), .val (.int ((((i0 + i1) + i2) - i0) - i1)), .unset, .unset, .unset, .unset, .unset] [(.int ((((i0 + i1) + i2) - i0) - i1))]))) (fun tt_ kk_ => XS.iload X3.here hx rfl (hb hby at_23) rfl kk_) ?_
  refine own_pre (S' := (T3.setTop (mkF m 26 #[.val (.int i0), .val (.int i1), .val (.int i2), .val (.int i3), .val (.ref b1), .val (.int ((((i0 + i1) + i2) - i0) - i1)), .unset, .unset, .unset, .unset, .unset] [(.int i2), (.int ((((i0 + i1) + i2) - i0) - i1))]))) (fun tt_ kk_ => XS.iloadN X3.here hx rfl (hb hby at_25) rfl kk_) ?_
  refine own_pre (S' := (T3.setTop (mkF m 29 #[.val (.int i0), .val (.int i1), .val (.int i2), .val (.int i3), .val (.ref b1), .val (.int ((((i0 + i1) + i2) - i0) - i1)), .unset, .unset, .unset, .unset, .unset] []))) (fun tt_ kk_ => XS.icmpNo X3.here hx rfl (hb hby at_26) rfl (teq (own_r0 i0 i1 i2)).2 kk_) ?_
  refine own_pre (S' := (T3.setTop (mkF m 30 #[.val (.int i0), .val (.int i1), .val (.int i2), .val (.int i3), .val (.ref b1), .val (.int ((((i0 + i1) + i2) - i0) - i1)), .unset, .unset, .unset, .unset, .unset] [(.int (1 : Int32))]))) (fun tt_ kk_ => XS.iconst X3.here hx rfl (hb hby at_29) kk_) ?_
  refine own_pre (S' := (T3.setTop (mkF m 34 #[.val (.int i0), .val (.int i1), .val (.int i2), .val (.int i3), .val (.ref b1), .val (.int ((((i0 + i1) + i2) - i0) - i1)), .unset, .unset, .unset, .unset, .unset] [(.int (1 : Int32))]))) (fun tt_ kk_ => XS.goto X3.here hx rfl (pc0 := 30) (pc' := 34) rfl (hb hby at_30) (by decide) (by decide) kk_) ?_
  refine own_pre (S' := (T3.setTop (mkF m 36 #[.val (.int i0), .val (.int i1), .val (.int i2), .val (.int i3), .val (.ref b1), .val (.int ((((i0 + i1) + i2) - i0) - i1)), .val (.int (1 : Int32)), .unset, .unset, .unset, .unset] []))) (fun tt_ kk_ => XS.istore X3.here hx rfl (hb hby at_34) rfl (l' := #[.val (.int i0), .val (.int i1), .val (.int i2), .val (.int i3), .val (.ref b1), .val (.int ((((i0 + i1) + i2) - i0) - i1)), .val (.int (1 : Int32)), .unset, .unset, .unset, .unset]) rfl kk_) ?_
  refine own_pre (S' := (T3.setTop (mkF m 38 #[.val (.int i0), .val (.int i1), .val (.int i2), .val (.int i3), .val (.ref b1), .val (.int ((((i0 + i1) + i2) - i0) - i1)), .val (.int (1 : Int32)), .unset, .unset, .unset, .unset] [(.int ((((i0 + i1) + i2) - i0) - i1))]))) (fun tt_ kk_ => XS.iload X3.here hx rfl (hb hby at_36) rfl kk_) ?_
  refine own_pre (S' := (T3.setTop (mkF m 40 #[.val (.int i0), .val (.int i1), .val (.int i2), .val (.int i3), .val (.ref b1), .val (.int ((((i0 + i1) + i2) - i0) - i1)), .val (.int (1 : Int32)), .unset, .unset, .unset, .unset] [(.ref b1), (.int ((((i0 + i1) + i2) - i0) - i1))]))) (fun tt_ kk_ => XS.aload X3.here hx rfl (hb hby at_38) rfl rfl kk_) ?_
  refine own_callV (C := "com/example/assay_runner/assayrunner/report/ReportPage$Counts") (y := (⟨"com/example/assay_runner/assayrunner/report/ReportPage$Counts", "unpassed", "()I"⟩ : MethodName)) (b := b1) X3 hx hZ hown (hw _ (List.mem_of_getElem? (i := 25) rfl)) (hw _ (List.mem_of_getElem? (i := 26) rfl)) (hw _ (List.mem_of_getElem? (i := 28) rfl)) (hw _ (List.mem_of_getElem? (i := 27) rfl)) (hw _ (List.mem_of_getElem? (i := 29) rfl)) (hw _ (List.mem_of_getElem? (i := 2) rfl)) (by decide) hh3 (A1.keep K2) (hM := own_unpassed l Z a0 hw [] b1 ((i0 + i1) + i2) i0 T2.heap n0 (Nat.le_trans (Nat.le_trans Z0 E1.1) K2.1) Ft2 Fp2) (W := 1) (pc := 40) (Ls := #[.val (.int i0), .val (.int i1), .val (.int i2), .val (.int i3), .val (.ref b1), .val (.int ((((i0 + i1) + i2) - i0) - i1)), .val (.int (1 : Int32)), .unset, .unset, .unset, .unset]) (argsL := []) (rest := [(.int ((((i0 + i1) + i2) - i0) - i1))]) (st0 := [(.ref b1), (.int ((((i0 + i1) + i2) - i0) - i1))]) (by rw [hml]; rfl) (lenOf own_pd2 rfl) rfl (Nat.le_of_eq rfl) (hb hby at_40) (by decide) (by decide) (by decide) (by decide) ?_
  intro v4 T4 L4 X4 hQ4
  obtain ⟨rfl, Nq4, hh4⟩ := hQ4
  have N4 := Fr.app N3 Nq4
  show own_Ends p e below s _ _ _ (T4.setTop (mkF m 43 #[.val (.int i0), .val (.int i1), .val (.int i2), .val (.int i3), .val (.ref b1), .val (.int ((((i0 + i1) + i2) - i0) - i1)), .val (.int (1 : Int32)), .unset, .unset, .unset, .unset] [(.int (((i0 + i1) + i2) - i0)), (.int ((((i0 + i1) + i2) - i0) - i1))]))
  refine own_pre (S' := (T4.setTop (mkF m 45 #[.val (.int i0), .val (.int i1), .val (.int i2), .val (.int i3), .val (.ref b1), .val (.int ((((i0 + i1) + i2) - i0) - i1)), .val (.int (1 : Int32)), .unset, .unset, .unset, .unset] [(.ref b1), (.int (((i0 + i1) + i2) - i0)), (.int ((((i0 + i1) + i2) - i0) - i1))]))) (fun tt_ kk_ => XS.aload X4.here hx rfl (hb hby at_43) rfl rfl kk_) ?_
  refine own_callV (C := "com/example/assay_runner/assayrunner/report/ReportPage$Counts") (y := (⟨"com/example/assay_runner/assayrunner/report/ReportPage$Counts", "failed", "()I"⟩ : MethodName)) (b := b1) X4 hx hZ hown (hw _ (List.mem_of_getElem? (i := 30) rfl)) (hw _ (List.mem_of_getElem? (i := 31) rfl)) (hw _ (List.mem_of_getElem? (i := 33) rfl)) (hw _ (List.mem_of_getElem? (i := 32) rfl)) (hw _ (List.mem_of_getElem? (i := 34) rfl)) (hw _ (List.mem_of_getElem? (i := 2) rfl)) (by decide) hh4 (A1.keep K2) (hM := own_failed l Z a0 hw [] b1 i1 T2.heap n0 (Nat.le_trans (Nat.le_trans Z0 E1.1) K2.1) Ff2) (W := 2) (pc := 45) (Ls := #[.val (.int i0), .val (.int i1), .val (.int i2), .val (.int i3), .val (.ref b1), .val (.int ((((i0 + i1) + i2) - i0) - i1)), .val (.int (1 : Int32)), .unset, .unset, .unset, .unset]) (argsL := []) (rest := [(.int (((i0 + i1) + i2) - i0)), (.int ((((i0 + i1) + i2) - i0) - i1))]) (st0 := [(.ref b1), (.int (((i0 + i1) + i2) - i0)), (.int ((((i0 + i1) + i2) - i0) - i1))]) (by rw [hml]; rfl) (lenOf own_pd2 rfl) rfl (Nat.le_of_eq rfl) (hb hby at_45) (by decide) (by decide) (by decide) (by decide) ?_
  intro v5 T5 L5 X5 hQ5
  obtain ⟨rfl, Nq5, hh5⟩ := hQ5
  have N5 := Fr.app N4 Nq5
  show own_Ends p e below s _ _ _ (T5.setTop (mkF m 48 #[.val (.int i0), .val (.int i1), .val (.int i2), .val (.int i3), .val (.ref b1), .val (.int ((((i0 + i1) + i2) - i0) - i1)), .val (.int (1 : Int32)), .unset, .unset, .unset, .unset] [(.int i1), (.int (((i0 + i1) + i2) - i0)), (.int ((((i0 + i1) + i2) - i0) - i1))]))
  refine own_pre (S' := (T5.setTop (mkF m 49 #[.val (.int i0), .val (.int i1), .val (.int i2), .val (.int i3), .val (.ref b1), .val (.int ((((i0 + i1) + i2) - i0) - i1)), .val (.int (1 : Int32)), .unset, .unset, .unset, .unset] [(.int ((((i0 + i1) + i2) - i0) - i1)), (.int ((((i0 + i1) + i2) - i0) - i1))]))) (fun tt_ kk_ => XS.isub X5.here hx rfl (hb hby at_48) rfl kk_) ?_
  refine own_pre (S' := (T5.setTop (mkF m 52 #[.val (.int i0), .val (.int i1), .val (.int i2), .val (.int i3), .val (.ref b1), .val (.int ((((i0 + i1) + i2) - i0) - i1)), .val (.int (1 : Int32)), .unset, .unset, .unset, .unset] []))) (fun tt_ kk_ => XS.icmpNo X5.here hx rfl (hb hby at_49) rfl (teq (rfl : ((((i0 + i1) + i2) - i0) - i1) = ((((i0 + i1) + i2) - i0) - i1))).2 kk_) ?_
  refine own_pre (S' := (T5.setTop (mkF m 53 #[.val (.int i0), .val (.int i1), .val (.int i2), .val (.int i3), .val (.ref b1), .val (.int ((((i0 + i1) + i2) - i0) - i1)), .val (.int (1 : Int32)), .unset, .unset, .unset, .unset] [(.int (1 : Int32))]))) (fun tt_ kk_ => XS.iconst X5.here hx rfl (hb hby at_52) kk_) ?_
  refine own_pre (S' := (T5.setTop (mkF m 57 #[.val (.int i0), .val (.int i1), .val (.int i2), .val (.int i3), .val (.ref b1), .val (.int ((((i0 + i1) + i2) - i0) - i1)), .val (.int (1 : Int32)), .unset, .unset, .unset, .unset] [(.int (1 : Int32))]))) (fun tt_ kk_ => XS.goto X5.here hx rfl (pc0 := 53) (pc' := 57) rfl (hb hby at_53) (by decide) (by decide) kk_) ?_
  refine own_pre (S' := (T5.setTop (mkF m 59 #[.val (.int i0), .val (.int i1), .val (.int i2), .val (.int i3), .val (.ref b1), .val (.int ((((i0 + i1) + i2) - i0) - i1)), .val (.int (1 : Int32)), .val (.int (1 : Int32)), .unset, .unset, .unset] []))) (fun tt_ kk_ => XS.istore X5.here hx rfl (hb hby at_57) rfl (l' := #[.val (.int i0), .val (.int i1), .val (.int i2), .val (.int i3), .val (.ref b1), .val (.int ((((i0 + i1) + i2) - i0) - i1)), .val (.int (1 : Int32)), .val (.int (1 : Int32)), .unset, .unset, .unset]) rfl kk_) ?_
  refine own_pre (S' := (T5.setTop (mkF m 60 #[.val (.int i0), .val (.int i1), .val (.int i2), .val (.int i3), .val (.ref b1), .val (.int ((((i0 + i1) + i2) - i0) - i1)), .val (.int (1 : Int32)), .val (.int (1 : Int32)), .unset, .unset, .unset] [(.int i3)]))) (fun tt_ kk_ => XS.iloadN X5.here hx rfl (hb hby at_59) rfl kk_) ?_
  by_cases k0 : ((i3 &&& (2147483647 : Int32)) % (3 : Int32)) = (0 : Int32)
  ·
    refine own_callS (y := (⟨"com/example/assay_runner/assayrunner/report/CountsSkippedPinLaw", "status", "(I)Lcom/example/assay_runner/assayrunner/report/ReportPage$Status;"⟩ : MethodName)) X5 hx hZ hown (hw _ (List.mem_of_getElem? (i := 35) rfl)) (hw _ (List.mem_of_getElem? (i := 36) rfl)) (hw _ (List.mem_of_getElem? (i := 37) rfl)) (hw _ (List.mem_of_getElem? (i := 38) rfl)) (by decide) hh5 (hM := own_status l Z a0 hw [] i3 a_PASSED a_FAILED a_SKIPPED a_PASSED T2.heap n0 (Nat.le_trans (Nat.le_trans Z0 E1.1) K2.1) (if_pos k0) (own_sta_keep (S_PASSED.ext E1) K2 (allS (own_plainE A1) all0)) (own_sta_keep (S_FAILED.ext E1) K2 (allS (own_plainE A1) all0)) (own_sta_keep (S_SKIPPED.ext E1) K2 (allS (own_plainE A1) all0))) (W := 0) (pc := 60) (Ls := #[.val (.int i0), .val (.int i1), .val (.int i2), .val (.int i3), .val (.ref b1), .val (.int ((((i0 + i1) + i2) - i0) - i1)), .val (.int (1 : Int32)), .val (.int (1 : Int32)), .unset, .unset, .unset]) (argsL := [(.int i3)]) (rest := []) (st0 := [(.int i3)]) (by rw [hml]; rfl) (lenOf own_pd3 rfl) rfl (Nat.le_of_eq rfl) (hb hby at_60) (by decide) (by decide) (by decide) (by decide) ?_
    intro v6 T6 L6 X6 hQ6
    obtain ⟨rfl, Nq6, hh6⟩ := hQ6
    have N6 := Fr.app N5 Nq6
    show own_Ends p e below s _ _ _ (T6.setTop (mkF m 63 #[.val (.int i0), .val (.int i1), .val (.int i2), .val (.int i3), .val (.ref b1), .val (.int ((((i0 + i1) + i2) - i0) - i1)), .val (.int (1 : Int32)), .val (.int (1 : Int32)), .unset, .unset, .unset] [(.ref a_PASSED)]))
    refine own_pre (S' := (T6.setTop (mkF m 65 #[.val (.int i0), .val (.int i1), .val (.int i2), .val (.int i3), .val (.ref b1), .val (.int ((((i0 + i1) + i2) - i0) - i1)), .val (.int (1 : Int32)), .val (.int (1 : Int32)), .val (.ref a_PASSED), .unset, .unset] []))) (fun tt_ kk_ => XS.astore X6.here hx rfl (hb hby at_63) rfl rfl (l' := #[.val (.int i0), .val (.int i1), .val (.int i2), .val (.int i3), .val (.ref b1), .val (.int ((((i0 + i1) + i2) - i0) - i1)), .val (.int (1 : Int32)), .val (.int (1 : Int32)), .val (.ref a_PASSED), .unset, .unset]) rfl kk_) ?_
    refine own_pre (S' := (T6.setTop (mkF m 67 #[.val (.int i0), .val (.int i1), .val (.int i2), .val (.int i3), .val (.ref b1), .val (.int ((((i0 + i1) + i2) - i0) - i1)), .val (.int (1 : Int32)), .val (.int (1 : Int32)), .val (.ref a_PASSED), .unset, .unset] [(.ref b1)]))) (fun tt_ kk_ => XS.aload X6.here hx rfl (hb hby at_65) rfl rfl kk_) ?_
    refine own_pre (S' := (T6.setTop (mkF m 69 #[.val (.int i0), .val (.int i1), .val (.int i2), .val (.int i3), .val (.ref b1), .val (.int ((((i0 + i1) + i2) - i0) - i1)), .val (.int (1 : Int32)), .val (.int (1 : Int32)), .val (.ref a_PASSED), .unset, .unset] [(.ref a_PASSED), (.ref b1)]))) (fun tt_ kk_ => XS.aload X6.here hx rfl (hb hby at_67) rfl rfl kk_) ?_
    refine own_callV (C := "com/example/assay_runner/assayrunner/report/ReportPage$Counts") (y := (⟨"com/example/assay_runner/assayrunner/report/ReportPage$Counts", "with", "(Lcom/example/assay_runner/assayrunner/report/ReportPage$Status;)Lcom/example/assay_runner/assayrunner/report/ReportPage$Counts;"⟩ : MethodName)) (b := b1) X6 hx hZ hown (hw _ (List.mem_of_getElem? (i := 43) rfl)) (hw _ (List.mem_of_getElem? (i := 44) rfl)) (hw _ (List.mem_of_getElem? (i := 46) rfl)) (hw _ (List.mem_of_getElem? (i := 45) rfl)) (hw _ (List.mem_of_getElem? (i := 47) rfl)) (hw _ (List.mem_of_getElem? (i := 2) rfl)) (by decide) hh6 (A1.keep K2) (hM := own_with l Z a0 hw [] b1 a_PASSED a_PASSED a_FAILED ((i0 + i1) + i2) i0 i1 (i0 + 1) i1 T2.heap n0 (Nat.le_trans (Nat.le_trans Z0 E1.1) K2.1) Ft2 Fp2 Ff2 (own_sta_keep (S_PASSED.ext E1) K2 (allS (own_plainE A1) all0)) (own_sta_keep (S_FAILED.ext E1) K2 (allS (own_plainE A1) all0)) (if_pos rfl) (if_neg (Ne.symm ne_FAILED_PASSED))) (W := 0) (pc := 69) (Ls := #[.val (.int i0), .val (.int i1), .val (.int i2), .val (.int i3), .val (.ref b1), .val (.int ((((i0 + i1) + i2) - i0) - i1)), .val (.int (1 : Int32)), .val (.int (1 : Int32)), .val (.ref a_PASSED), .unset, .unset]) (argsL := [(.ref a_PASSED)]) (rest := []) (st0 := [(.ref a_PASSED), (.ref b1)]) (by rw [hml]; rfl) (lenOf own_pd4 rfl) rfl (Nat.le_of_eq rfl) (hb hby at_69) (by decide) (by decide) (by decide) (by decide) ?_
    intro v7 T7 L7 X7 hQ7
    obtain ⟨b7, rfl, Nq7, K7, Eb7, Ft7, Fp7, Ff7, ge_b7⟩ := hQ7
    have N7 := Fr.app N6 Nq7
    show own_Ends p e below s _ _ _ (T7.setTop (mkF m 72 #[.val (.int i0), .val (.int i1), .val (.int i2), .val (.int i3), .val (.ref b1), .val (.int ((((i0 + i1) + i2) - i0) - i1)), .val (.int (1 : Int32)), .val (.int (1 : Int32)), .val (.ref a_PASSED), .unset, .unset] [(.ref b7)]))
    refine own_callV (C := "com/example/assay_runner/assayrunner/report/ReportPage$Counts") (y := (⟨"com/example/assay_runner/assayrunner/report/ReportPage$Counts", "skipped", "()I"⟩ : MethodName)) (b := b7) X7 hx hZ hown (hw _ (List.mem_of_getElem? (i := 20) rfl)) (hw _ (List.mem_of_getElem? (i := 21) rfl)) (hw _ (List.mem_of_getElem? (i := 23) rfl)) (hw _ (List.mem_of_getElem? (i := 22) rfl)) (hw _ (List.mem_of_getElem? (i := 24) rfl)) (hw _ (List.mem_of_getElem? (i := 2) rfl)) (by decide) (rfl : T7.heap = T7.heap) Eb7 (hM := own_skipped l Z a0 hw [] b7 (((i0 + i1) + i2) + 1) (i0 + 1) i1 T7.heap n0 (Nat.le_trans (Nat.le_trans (Nat.le_trans Z0 E1.1) K2.1) K7.1) Ft7 Fp7 Ff7) (W := 0) (pc := 72) (Ls := #[.val (.int i0), .val (.int i1), .val (.int i2), .val (.int i3), .val (.ref b1), .val (.int ((((i0 + i1) + i2) - i0) - i1)), .val (.int (1 : Int32)), .val (.int (1 : Int32)), .val (.ref a_PASSED), .unset, .unset]) (argsL := []) (rest := []) (st0 := [(.ref b7)]) (by rw [hml]; rfl) (lenOf own_pd2 rfl) rfl (Nat.le_of_eq rfl) (hb hby at_72) (by decide) (by decide) (by decide) (by decide) ?_
    intro v8 T8 L8 X8 hQ8
    obtain ⟨rfl, Nq8, hh8⟩ := hQ8
    have N8 := Fr.app N7 Nq8
    show own_Ends p e below s _ _ _ (T8.setTop (mkF m 75 #[.val (.int i0), .val (.int i1), .val (.int i2), .val (.int i3), .val (.ref b1), .val (.int ((((i0 + i1) + i2) - i0) - i1)), .val (.int (1 : Int32)), .val (.int (1 : Int32)), .val (.ref a_PASSED), .unset, .unset] [(.int (((((i0 + i1) + i2) + 1) - (i0 + 1)) - i1))]))
    refine own_pre (S' := (T8.setTop (mkF m 77 #[.val (.int i0), .val (.int i1), .val (.int i2), .val (.int i3), .val (.ref b1), .val (.int ((((i0 + i1) + i2) - i0) - i1)), .val (.int (1 : Int32)), .val (.int (1 : Int32)), .val (.ref a_PASSED), .val (.int (((((i0 + i1) + i2) + 1) - (i0 + 1)) - i1)), .unset] []))) (fun tt_ kk_ => XS.istore X8.here hx rfl (hb hby at_75) rfl (l' := #[.val (.int i0), .val (.int i1), .val (.int i2), .val (.int i3), .val (.ref b1), .val (.int ((((i0 + i1) + i2) - i0) - i1)), .val (.int (1 : Int32)), .val (.int (1 : Int32)), .val (.ref a_PASSED), .val (.int (((((i0 + i1) + i2) + 1) - (i0 + 1)) - i1)), .unset]) rfl kk_) ?_
    refine own_pre (S' := (T8.setTop (mkF m 79 #[.val (.int i0), .val (.int i1), .val (.int i2), .val (.int i3), .val (.ref b1), .val (.int ((((i0 + i1) + i2) - i0) - i1)), .val (.int (1 : Int32)), .val (.int (1 : Int32)), .val (.ref a_PASSED), .val (.int (((((i0 + i1) + i2) + 1) - (i0 + 1)) - i1)), .unset] [(.ref a_PASSED)]))) (fun tt_ kk_ => XS.aload X8.here hx rfl (hb hby at_77) rfl rfl kk_) ?_
    obtain ⟨T9, X9, e9, st9⟩ := getS2 X8 hx hZ hown (host := "") (Or.inl (hw _ (List.mem_of_getElem? (i := 53) rfl))) Via.refl hh8 (own_sta_keep (own_sta_keep (S_SKIPPED.ext E1) K2 (allS (own_plainE A1) all0)) K7 all0) (g := (mkF m 79 #[.val (.int i0), .val (.int i1), .val (.int i2), .val (.int i3), .val (.ref b1), .val (.int ((((i0 + i1) + i2) - i0) - i1)), .val (.int (1 : Int32)), .val (.int (1 : Int32)), .val (.ref a_PASSED), .val (.int (((((i0 + i1) + i2) + 1) - (i0 + 1)) - i1)), .unset] [(.ref a_PASSED)])) rfl (hb hby at_79)
    refine own_pre (S' := (T9.setTop (mkF m 82 #[.val (.int i0), .val (.int i1), .val (.int i2), .val (.int i3), .val (.ref b1), .val (.int ((((i0 + i1) + i2) - i0) - i1)), .val (.int (1 : Int32)), .val (.int (1 : Int32)), .val (.ref a_PASSED), .val (.int (((((i0 + i1) + i2) + 1) - (i0 + 1)) - i1)), .unset] [(.ref a_SKIPPED), (.ref a_PASSED)]))) st9 ?_
    refine own_pre (S' := (T9.setTop (mkF m 91 #[.val (.int i0), .val (.int i1), .val (.int i2), .val (.int i3), .val (.ref b1), .val (.int ((((i0 + i1) + i2) - i0) - i1)), .val (.int (1 : Int32)), .val (.int (1 : Int32)), .val (.ref a_PASSED), .val (.int (((((i0 + i1) + i2) + 1) - (i0 + 1)) - i1)), .unset] []))) (fun tt_ kk_ => Jvm.RoadKit.acmp (g := (mkF m 82 #[.val (.int i0), .val (.int i1), .val (.int i2), .val (.int i3), .val (.ref b1), .val (.int ((((i0 + i1) + i2) - i0) - i1)), .val (.int (1 : Int32)), .val (.int (1 : Int32)), .val (.ref a_PASSED), .val (.int (((((i0 + i1) + i2) + 1) - (i0 + 1)) - i1)), .unset] [(.ref a_SKIPPED), (.ref a_PASSED)])) X9 hx rfl rfl rfl (pc0 := 82) (pc' := 91) (same := false) rfl (hb hby at_82) rfl (decide_eq_false fun q => ne_PASSED_SKIPPED (Value.ref.inj q)) (by decide) (by decide) kk_) ?_
    refine own_pre (S' := (T9.setTop (mkF m 92 #[.val (.int i0), .val (.int i1), .val (.int i2), .val (.int i3), .val (.ref b1), .val (.int ((((i0 + i1) + i2) - i0) - i1)), .val (.int (1 : Int32)), .val (.int (1 : Int32)), .val (.ref a_PASSED), .val (.int (((((i0 + i1) + i2) + 1) - (i0 + 1)) - i1)), .unset] [(.int i2)]))) (fun tt_ kk_ => XS.iloadN X9.here hx rfl (hb hby at_91) rfl kk_) ?_
    refine own_pre (S' := (T9.setTop (mkF m 94 #[.val (.int i0), .val (.int i1), .val (.int i2), .val (.int i3), .val (.ref b1), .val (.int ((((i0 + i1) + i2) - i0) - i1)), .val (.int (1 : Int32)), .val (.int (1 : Int32)), .val (.ref a_PASSED), .val (.int (((((i0 + i1) + i2) + 1) - (i0 + 1)) - i1)), .val (.int i2)] []))) (fun tt_ kk_ => XS.istore X9.here hx rfl (hb hby at_92) rfl (l' := #[.val (.int i0), .val (.int i1), .val (.int i2), .val (.int i3), .val (.ref b1), .val (.int ((((i0 + i1) + i2) - i0) - i1)), .val (.int (1 : Int32)), .val (.int (1 : Int32)), .val (.ref a_PASSED), .val (.int (((((i0 + i1) + i2) + 1) - (i0 + 1)) - i1)), .val (.int i2)]) rfl kk_) ?_
    refine own_pre (S' := (T9.setTop (mkF m 96 #[.val (.int i0), .val (.int i1), .val (.int i2), .val (.int i3), .val (.ref b1), .val (.int ((((i0 + i1) + i2) - i0) - i1)), .val (.int (1 : Int32)), .val (.int (1 : Int32)), .val (.ref a_PASSED), .val (.int (((((i0 + i1) + i2) + 1) - (i0 + 1)) - i1)), .val (.int i2)] [(.int (1 : Int32))]))) (fun tt_ kk_ => XS.iload X9.here hx rfl (hb hby at_94) rfl kk_) ?_
    refine own_pre (S' := (T9.setTop (mkF m 99 #[.val (.int i0), .val (.int i1), .val (.int i2), .val (.int i3), .val (.ref b1), .val (.int ((((i0 + i1) + i2) - i0) - i1)), .val (.int (1 : Int32)), .val (.int (1 : Int32)), .val (.ref a_PASSED), .val (.int (((((i0 + i1) + i2) + 1) - (i0 + 1)) - i1)), .val (.int i2)] []))) (fun tt_ kk_ => XS.ifNo X9.here hx rfl (hb hby at_96) rfl ((if0 _ _).trans (feq (by decide : ¬ ((1 : Int32) = (0 : Int32)))).1) kk_) ?_
    refine own_pre (S' := (T9.setTop (mkF m 101 #[.val (.int i0), .val (.int i1), .val (.int i2), .val (.int i3), .val (.ref b1), .val (.int ((((i0 + i1) + i2) - i0) - i1)), .val (.int (1 : Int32)), .val (.int (1 : Int32)), .val (.ref a_PASSED), .val (.int (((((i0 + i1) + i2) + 1) - (i0 + 1)) - i1)), .val (.int i2)] [(.int (1 : Int32))]))) (fun tt_ kk_ => XS.iload X9.here hx rfl (hb hby at_99) rfl kk_) ?_
    refine own_pre (S' := (T9.setTop (mkF m 104 #[.val (.int i0), .val (.int i1), .val (.int i2), .val (.int i3), .val (.ref b1), .val (.int ((((i0 + i1) + i2) - i0) - i1)), .val (.int (1 : Int32)), .val (.int (1 : Int32)), .val (.ref a_PASSED), .val (.int (((((i0 + i1) + i2) + 1) - (i0 + 1)) - i1)), .val (.int i2)] []))) (fun tt_ kk_ => XS.ifNo X9.here hx rfl (hb hby at_101) rfl ((if0 _ _).trans (feq (by decide : ¬ ((1 : Int32) = (0 : Int32)))).1) kk_) ?_
    refine own_pre (S' := (T9.setTop (mkF m 106 #[.val (.int i0), .val (.int i1), .val (.int i2), .val (.int i3), .val (.ref b1), .val (.int ((((i0 + i1) + i2) - i0) - i1)), .val (.int (1 : Int32)), .val (.int (1 : Int32)), .val (.ref a_PASSED), .val (.int (((((i0 + i1) + i2) + 1) - (i0 + 1)) - i1)), .val (.int i2)] [(.int (((((i0 + i1) + i2) + 1) - (i0 + 1)) - i1))]))) (fun tt_ kk_ => XS.iload X9.here hx rfl (hb hby at_104) rfl kk_) ?_
    refine own_pre (S' := (T9.setTop (mkF m 108 #[.val (.int i0), .val (.int i1), .val (.int i2), .val (.int i3), .val (.ref b1), .val (.int ((((i0 + i1) + i2) - i0) - i1)), .val (.int (1 : Int32)), .val (.int (1 : Int32)), .val (.ref a_PASSED), .val (.int (((((i0 + i1) + i2) + 1) - (i0 + 1)) - i1)), .val (.int i2)] [(.int i2), (.int (((((i0 + i1) + i2) + 1) - (i0 + 1)) - i1))]))) (fun tt_ kk_ => XS.iload X9.here hx rfl (hb hby at_106) rfl kk_) ?_
    refine own_pre (S' := (T9.setTop (mkF m 111 #[.val (.int i0), .val (.int i1), .val (.int i2), .val (.int i3), .val (.ref b1), .val (.int ((((i0 + i1) + i2) - i0) - i1)), .val (.int (1 : Int32)), .val (.int (1 : Int32)), .val (.ref a_PASSED), .val (.int (((((i0 + i1) + i2) + 1) - (i0 + 1)) - i1)), .val (.int i2)] []))) (fun tt_ kk_ => XS.icmpNo X9.here hx rfl (hb hby at_108) rfl (teq (own_r1 i0 i1 i2)).2 kk_) ?_
    refine own_pre (S' := (T9.setTop (mkF m 112 #[.val (.int i0), .val (.int i1), .val (.int i2), .val (.int i3), .val (.ref b1), .val (.int ((((i0 + i1) + i2) - i0) - i1)), .val (.int (1 : Int32)), .val (.int (1 : Int32)), .val (.ref a_PASSED), .val (.int (((((i0 + i1) + i2) + 1) - (i0 + 1)) - i1)), .val (.int i2)] [(.int (1 : Int32))]))) (fun tt_ kk_ => XS.iconst X9.here hx rfl (hb hby at_111) kk_) ?_
    refine own_pre (S' := (T9.setTop (mkF m 116 #[.val (.int i0), .val (.int i1), .val (.int i2), .val (.int i3), .val (.ref b1), .val (.int ((((i0 + i1) + i2) - i0) - i1)), .val (.int (1 : Int32)), .val (.int (1 : Int32)), .val (.ref a_PASSED), .val (.int (((((i0 + i1) + i2) + 1) - (i0 + 1)) - i1)), .val (.int i2)] [(.int (1 : Int32))]))) (fun tt_ kk_ => XS.goto X9.here hx rfl (pc0 := 112) (pc' := 116) rfl (hb hby at_112) (by decide) (by decide) kk_) ?_
    refine own_ret (t := .boolean) X9 hx hlk hrt rfl (Or.inl ⟨rfl, by simp, _, rfl⟩) (hb hby at_116) (by decide) (by decide) ?_
    exact ⟨rfl, N8⟩
  ·
    by_cases k1 : ((i3 &&& (2147483647 : Int32)) % (3 : Int32)) = (1 : Int32)
    ·
      refine own_callS (y := (⟨"com/example/assay_runner/assayrunner/report/CountsSkippedPinLaw", "status", "(I)Lcom/example/assay_runner/assayrunner/report/ReportPage$Status;"⟩ : MethodName)) X5 hx hZ hown (hw _ (List.mem_of_getElem? (i := 35) rfl)) (hw _ (List.mem_of_getElem? (i := 36) rfl)) (hw _ (List.mem_of_getElem? (i := 37) rfl)) (hw _ (List.mem_of_getElem? (i := 38) rfl)) (by decide) hh5 (hM := own_status l Z a0 hw [] i3 a_PASSED a_FAILED a_SKIPPED a_FAILED T2.heap n0 (Nat.le_trans (Nat.le_trans Z0 E1.1) K2.1) ((if_neg k0).trans (if_pos k1)) (own_sta_keep (S_PASSED.ext E1) K2 (allS (own_plainE A1) all0)) (own_sta_keep (S_FAILED.ext E1) K2 (allS (own_plainE A1) all0)) (own_sta_keep (S_SKIPPED.ext E1) K2 (allS (own_plainE A1) all0))) (W := 0) (pc := 60) (Ls := #[.val (.int i0), .val (.int i1), .val (.int i2), .val (.int i3), .val (.ref b1), .val (.int ((((i0 + i1) + i2) - i0) - i1)), .val (.int (1 : Int32)), .val (.int (1 : Int32)), .unset, .unset, .unset]) (argsL := [(.int i3)]) (rest := []) (st0 := [(.int i3)]) (by rw [hml]; rfl) (lenOf own_pd3 rfl) rfl (Nat.le_of_eq rfl) (hb hby at_60) (by decide) (by decide) (by decide) (by decide) ?_
      intro v10 T10 L10 X10 hQ10
      obtain ⟨rfl, Nq10, hh10⟩ := hQ10
      have N10 := Fr.app N5 Nq10
      show own_Ends p e below s _ _ _ (T10.setTop (mkF m 63 #[.val (.int i0), .val (.int i1), .val (.int i2), .val (.int i3), .val (.ref b1), .val (.int ((((i0 + i1) + i2) - i0) - i1)), .val (.int (1 : Int32)), .val (.int (1 : Int32)), .unset, .unset, .unset] [(.ref a_FAILED)]))
      refine own_pre (S' := (T10.setTop (mkF m 65 #[.val (.int i0), .val (.int i1), .val (.int i2), .val (.int i3), .val (.ref b1), .val (.int ((((i0 + i1) + i2) - i0) - i1)), .val (.int (1 : Int32)), .val (.int (1 : Int32)), .val (.ref a_FAILED), .unset, .unset] []))) (fun tt_ kk_ => XS.astore X10.here hx rfl (hb hby at_63) rfl rfl (l' := #[.val (.int i0), .val (.int i1), .val (.int i2), .val (.int i3), .val (.ref b1), .val (.int ((((i0 + i1) + i2) - i0) - i1)), .val (.int (1 : Int32)), .val (.int (1 : Int32)), .val (.ref a_FAILED), .unset, .unset]) rfl kk_) ?_
      refine own_pre (S' := (T10.setTop (mkF m 67 #[.val (.int i0), .val (.int i1), .val (.int i2), .val (.int i3), .val (.ref b1), .val (.int ((((i0 + i1) + i2) - i0) - i1)), .val (.int (1 : Int32)), .val (.int (1 : Int32)), .val (.ref a_FAILED), .unset, .unset] [(.ref b1)]))) (fun tt_ kk_ => XS.aload X10.here hx rfl (hb hby at_65) rfl rfl kk_) ?_
      refine own_pre (S' := (T10.setTop (mkF m 69 #[.val (.int i0), .val (.int i1), .val (.int i2), .val (.int i3), .val (.ref b1), .val (.int ((((i0 + i1) + i2) - i0) - i1)), .val (.int (1 : Int32)), .val (.int (1 : Int32)), .val (.ref a_FAILED), .unset, .unset] [(.ref a_FAILED), (.ref b1)]))) (fun tt_ kk_ => XS.aload X10.here hx rfl (hb hby at_67) rfl rfl kk_) ?_
      refine own_callV (C := "com/example/assay_runner/assayrunner/report/ReportPage$Counts") (y := (⟨"com/example/assay_runner/assayrunner/report/ReportPage$Counts", "with", "(Lcom/example/assay_runner/assayrunner/report/ReportPage$Status;)Lcom/example/assay_runner/assayrunner/report/ReportPage$Counts;"⟩ : MethodName)) (b := b1) X10 hx hZ hown (hw _ (List.mem_of_getElem? (i := 43) rfl)) (hw _ (List.mem_of_getElem? (i := 44) rfl)) (hw _ (List.mem_of_getElem? (i := 46) rfl)) (hw _ (List.mem_of_getElem? (i := 45) rfl)) (hw _ (List.mem_of_getElem? (i := 47) rfl)) (hw _ (List.mem_of_getElem? (i := 2) rfl)) (by decide) hh10 (A1.keep K2) (hM := own_with l Z a0 hw [] b1 a_FAILED a_PASSED a_FAILED ((i0 + i1) + i2) i0 i1 i0 (i1 + 1) T2.heap n0 (Nat.le_trans (Nat.le_trans Z0 E1.1) K2.1) Ft2 Fp2 Ff2 (own_sta_keep (S_PASSED.ext E1) K2 (allS (own_plainE A1) all0)) (own_sta_keep (S_FAILED.ext E1) K2 (allS (own_plainE A1) all0)) (if_neg ne_FAILED_PASSED) (if_pos rfl)) (W := 0) (pc := 69) (Ls := #[.val (.int i0), .val (.int i1), .val (.int i2), .val (.int i3), .val (.ref b1), .val (.int ((((i0 + i1) + i2) - i0) - i1)), .val (.int (1 : Int32)), .val (.int (1 : Int32)), .val (.ref a_FAILED), .unset, .unset]) (argsL := [(.ref a_FAILED)]) (rest := []) (st0 := [(.ref a_FAILED), (.ref b1)]) (by rw [hml]; rfl) (lenOf own_pd4 rfl) rfl (Nat.le_of_eq rfl) (hb hby at_69) (by decide) (by decide) (by decide) (by decide) ?_
      intro v11 T11 L11 X11 hQ11
      obtain ⟨b11, rfl, Nq11, K11, Eb11, Ft11, Fp11, Ff11, ge_b11⟩ := hQ11
      have N11 := Fr.app N10 Nq11
      show own_Ends p e below s _ _ _ (T11.setTop (mkF m 72 #[.val (.int i0), .val (.int i1), .val (.int i2), .val (.int i3), .val (.ref b1), .val (.int ((((i0 + i1) + i2) - i0) - i1)), .val (.int (1 : Int32)), .val (.int (1 : Int32)), .val (.ref a_FAILED), .unset, .unset] [(.ref b11)]))
      refine own_callV (C := "com/example/assay_runner/assayrunner/report/ReportPage$Counts") (y := (⟨"com/example/assay_runner/assayrunner/report/ReportPage$Counts", "skipped", "()I"⟩ : MethodName)) (b := b11) X11 hx hZ hown (hw _ (List.mem_of_getElem? (i := 20) rfl)) (hw _ (List.mem_of_getElem? (i := 21) rfl)) (hw _ (List.mem_of_getElem? (i := 23) rfl)) (hw _ (List.mem_of_getElem? (i := 22) rfl)) (hw _ (List.mem_of_getElem? (i := 24) rfl)) (hw _ (List.mem_of_getElem? (i := 2) rfl)) (by decide) (rfl : T11.heap = T11.heap) Eb11 (hM := own_skipped l Z a0 hw [] b11 (((i0 + i1) + i2) + 1) i0 (i1 + 1) T11.heap n0 (Nat.le_trans (Nat.le_trans (Nat.le_trans Z0 E1.1) K2.1) K11.1) Ft11 Fp11 Ff11) (W := 0) (pc := 72) (Ls := #[.val (.int i0), .val (.int i1), .val (.int i2), .val (.int i3), .val (.ref b1), .val (.int ((((i0 + i1) + i2) - i0) - i1)), .val (.int (1 : Int32)), .val (.int (1 : Int32)), .val (.ref a_FAILED), .unset, .unset]) (argsL := []) (rest := []) (st0 := [(.ref b11)]) (by rw [hml]; rfl) (lenOf own_pd2 rfl) rfl (Nat.le_of_eq rfl) (hb hby at_72) (by decide) (by decide) (by decide) (by decide) ?_
      intro v12 T12 L12 X12 hQ12
      obtain ⟨rfl, Nq12, hh12⟩ := hQ12
      have N12 := Fr.app N11 Nq12
      show own_Ends p e below s _ _ _ (T12.setTop (mkF m 75 #[.val (.int i0), .val (.int i1), .val (.int i2), .val (.int i3), .val (.ref b1), .val (.int ((((i0 + i1) + i2) - i0) - i1)), .val (.int (1 : Int32)), .val (.int (1 : Int32)), .val (.ref a_FAILED), .unset, .unset] [(.int (((((i0 + i1) + i2) + 1) - i0) - (i1 + 1)))]))
      refine own_pre (S' := (T12.setTop (mkF m 77 #[.val (.int i0), .val (.int i1), .val (.int i2), .val (.int i3), .val (.ref b1), .val (.int ((((i0 + i1) + i2) - i0) - i1)), .val (.int (1 : Int32)), .val (.int (1 : Int32)), .val (.ref a_FAILED), .val (.int (((((i0 + i1) + i2) + 1) - i0) - (i1 + 1))), .unset] []))) (fun tt_ kk_ => XS.istore X12.here hx rfl (hb hby at_75) rfl (l' := #[.val (.int i0), .val (.int i1), .val (.int i2), .val (.int i3), .val (.ref b1), .val (.int ((((i0 + i1) + i2) - i0) - i1)), .val (.int (1 : Int32)), .val (.int (1 : Int32)), .val (.ref a_FAILED), .val (.int (((((i0 + i1) + i2) + 1) - i0) - (i1 + 1))), .unset]) rfl kk_) ?_
      refine own_pre (S' := (T12.setTop (mkF m 79 #[.val (.int i0), .val (.int i1), .val (.int i2), .val (.int i3), .val (.ref b1), .val (.int ((((i0 + i1) + i2) - i0) - i1)), .val (.int (1 : Int32)), .val (.int (1 : Int32)), .val (.ref a_FAILED), .val (.int (((((i0 + i1) + i2) + 1) - i0) - (i1 + 1))), .unset] [(.ref a_FAILED)]))) (fun tt_ kk_ => XS.aload X12.here hx rfl (hb hby at_77) rfl rfl kk_) ?_
      obtain ⟨T13, X13, e13, st13⟩ := getS2 X12 hx hZ hown (host := "") (Or.inl (hw _ (List.mem_of_getElem? (i := 53) rfl))) Via.refl hh12 (own_sta_keep (own_sta_keep (S_SKIPPED.ext E1) K2 (allS (own_plainE A1) all0)) K11 all0) (g := (mkF m 79 #[.val (.int i0), .val (.int i1), .val (.int i2), .val (.int i3), .val (.ref b1), .val (.int ((((i0 + i1) + i2) - i0) - i1)), .val (.int (1 : Int32)), .val (.int (1 : Int32)), .val (.ref a_FAILED), .val (.int (((((i0 + i1) + i2) + 1) - i0) - (i1 + 1))), .unset] [(.ref a_FAILED)])) rfl (hb hby at_79)
      refine own_pre (S' := (T13.setTop (mkF m 82 #[.val (.int i0), .val (.int i1), .val (.int i2), .val (.int i3), .val (.ref b1), .val (.int ((((i0 + i1) + i2) - i0) - i1)), .val (.int (1 : Int32)), .val (.int (1 : Int32)), .val (.ref a_FAILED), .val (.int (((((i0 + i1) + i2) + 1) - i0) - (i1 + 1))), .unset] [(.ref a_SKIPPED), (.ref a_FAILED)]))) st13 ?_
      refine own_pre (S' := (T13.setTop (mkF m 91 #[.val (.int i0), .val (.int i1), .val (.int i2), .val (.int i3), .val (.ref b1), .val (.int ((((i0 + i1) + i2) - i0) - i1)), .val (.int (1 : Int32)), .val (.int (1 : Int32)), .val (.ref a_FAILED), .val (.int (((((i0 + i1) + i2) + 1) - i0) - (i1 + 1))), .unset] []))) (fun tt_ kk_ => Jvm.RoadKit.acmp (g := (mkF m 82 #[.val (.int i0), .val (.int i1), .val (.int i2), .val (.int i3), .val (.ref b1), .val (.int ((((i0 + i1) + i2) - i0) - i1)), .val (.int (1 : Int32)), .val (.int (1 : Int32)), .val (.ref a_FAILED), .val (.int (((((i0 + i1) + i2) + 1) - i0) - (i1 + 1))), .unset] [(.ref a_SKIPPED), (.ref a_FAILED)])) X13 hx rfl rfl rfl (pc0 := 82) (pc' := 91) (same := false) rfl (hb hby at_82) rfl (decide_eq_false fun q => ne_FAILED_SKIPPED (Value.ref.inj q)) (by decide) (by decide) kk_) ?_
      refine own_pre (S' := (T13.setTop (mkF m 92 #[.val (.int i0), .val (.int i1), .val (.int i2), .val (.int i3), .val (.ref b1), .val (.int ((((i0 + i1) + i2) - i0) - i1)), .val (.int (1 : Int32)), .val (.int (1 : Int32)), .val (.ref a_FAILED), .val (.int (((((i0 + i1) + i2) + 1) - i0) - (i1 + 1))), .unset] [(.int i2)]))) (fun tt_ kk_ => XS.iloadN X13.here hx rfl (hb hby at_91) rfl kk_) ?_
      refine own_pre (S' := (T13.setTop (mkF m 94 #[.val (.int i0), .val (.int i1), .val (.int i2), .val (.int i3), .val (.ref b1), .val (.int ((((i0 + i1) + i2) - i0) - i1)), .val (.int (1 : Int32)), .val (.int (1 : Int32)), .val (.ref a_FAILED), .val (.int (((((i0 + i1) + i2) + 1) - i0) - (i1 + 1))), .val (.int i2)] []))) (fun tt_ kk_ => XS.istore X13.here hx rfl (hb hby at_92) rfl (l' := #[.val (.int i0), .val (.int i1), .val (.int i2), .val (.int i3), .val (.ref b1), .val (.int ((((i0 + i1) + i2) - i0) - i1)), .val (.int (1 : Int32)), .val (.int (1 : Int32)), .val (.ref a_FAILED), .val (.int (((((i0 + i1) + i2) + 1) - i0) - (i1 + 1))), .val (.int i2)]) rfl kk_) ?_
      refine own_pre (S' := (T13.setTop (mkF m 96 #[.val (.int i0), .val (.int i1), .val (.int i2), .val (.int i3), .val (.ref b1), .val (.int ((((i0 + i1) + i2) - i0) - i1)), .val (.int (1 : Int32)), .val (.int (1 : Int32)), .val (.ref a_FAILED), .val (.int (((((i0 + i1) + i2) + 1) - i0) - (i1 + 1))), .val (.int i2)] [(.int (1 : Int32))]))) (fun tt_ kk_ => XS.iload X13.here hx rfl (hb hby at_94) rfl kk_) ?_
      refine own_pre (S' := (T13.setTop (mkF m 99 #[.val (.int i0), .val (.int i1), .val (.int i2), .val (.int i3), .val (.ref b1), .val (.int ((((i0 + i1) + i2) - i0) - i1)), .val (.int (1 : Int32)), .val (.int (1 : Int32)), .val (.ref a_FAILED), .val (.int (((((i0 + i1) + i2) + 1) - i0) - (i1 + 1))), .val (.int i2)] []))) (fun tt_ kk_ => XS.ifNo X13.here hx rfl (hb hby at_96) rfl ((if0 _ _).trans (feq (by decide : ¬ ((1 : Int32) = (0 : Int32)))).1) kk_) ?_
      refine own_pre (S' := (T13.setTop (mkF m 101 #[.val (.int i0), .val (.int i1), .val (.int i2), .val (.int i3), .val (.ref b1), .val (.int ((((i0 + i1) + i2) - i0) - i1)), .val (.int (1 : Int32)), .val (.int (1 : Int32)), .val (.ref a_FAILED), .val (.int (((((i0 + i1) + i2) + 1) - i0) - (i1 + 1))), .val (.int i2)] [(.int (1 : Int32))]))) (fun tt_ kk_ => XS.iload X13.here hx rfl (hb hby at_99) rfl kk_) ?_
      refine own_pre (S' := (T13.setTop (mkF m 104 #[.val (.int i0), .val (.int i1), .val (.int i2), .val (.int i3), .val (.ref b1), .val (.int ((((i0 + i1) + i2) - i0) - i1)), .val (.int (1 : Int32)), .val (.int (1 : Int32)), .val (.ref a_FAILED), .val (.int (((((i0 + i1) + i2) + 1) - i0) - (i1 + 1))), .val (.int i2)] []))) (fun tt_ kk_ => XS.ifNo X13.here hx rfl (hb hby at_101) rfl ((if0 _ _).trans (feq (by decide : ¬ ((1 : Int32) = (0 : Int32)))).1) kk_) ?_
      refine own_pre (S' := (T13.setTop (mkF m 106 #[.val (.int i0), .val (.int i1), .val (.int i2), .val (.int i3), .val (.ref b1), .val (.int ((((i0 + i1) + i2) - i0) - i1)), .val (.int (1 : Int32)), .val (.int (1 : Int32)), .val (.ref a_FAILED), .val (.int (((((i0 + i1) + i2) + 1) - i0) - (i1 + 1))), .val (.int i2)] [(.int (((((i0 + i1) + i2) + 1) - i0) - (i1 + 1)))]))) (fun tt_ kk_ => XS.iload X13.here hx rfl (hb hby at_104) rfl kk_) ?_
      refine own_pre (S' := (T13.setTop (mkF m 108 #[.val (.int i0), .val (.int i1), .val (.int i2), .val (.int i3), .val (.ref b1), .val (.int ((((i0 + i1) + i2) - i0) - i1)), .val (.int (1 : Int32)), .val (.int (1 : Int32)), .val (.ref a_FAILED), .val (.int (((((i0 + i1) + i2) + 1) - i0) - (i1 + 1))), .val (.int i2)] [(.int i2), (.int (((((i0 + i1) + i2) + 1) - i0) - (i1 + 1)))]))) (fun tt_ kk_ => XS.iload X13.here hx rfl (hb hby at_106) rfl kk_) ?_
      refine own_pre (S' := (T13.setTop (mkF m 111 #[.val (.int i0), .val (.int i1), .val (.int i2), .val (.int i3), .val (.ref b1), .val (.int ((((i0 + i1) + i2) - i0) - i1)), .val (.int (1 : Int32)), .val (.int (1 : Int32)), .val (.ref a_FAILED), .val (.int (((((i0 + i1) + i2) + 1) - i0) - (i1 + 1))), .val (.int i2)] []))) (fun tt_ kk_ => XS.icmpNo X13.here hx rfl (hb hby at_108) rfl (teq (own_r2 i0 i1 i2)).2 kk_) ?_
      refine own_pre (S' := (T13.setTop (mkF m 112 #[.val (.int i0), .val (.int i1), .val (.int i2), .val (.int i3), .val (.ref b1), .val (.int ((((i0 + i1) + i2) - i0) - i1)), .val (.int (1 : Int32)), .val (.int (1 : Int32)), .val (.ref a_FAILED), .val (.int (((((i0 + i1) + i2) + 1) - i0) - (i1 + 1))), .val (.int i2)] [(.int (1 : Int32))]))) (fun tt_ kk_ => XS.iconst X13.here hx rfl (hb hby at_111) kk_) ?_
      refine own_pre (S' := (T13.setTop (mkF m 116 #[.val (.int i0), .val (.int i1), .val (.int i2), .val (.int i3), .val (.ref b1), .val (.int ((((i0 + i1) + i2) - i0) - i1)), .val (.int (1 : Int32)), .val (.int (1 : Int32)), .val (.ref a_FAILED), .val (.int (((((i0 + i1) + i2) + 1) - i0) - (i1 + 1))), .val (.int i2)] [(.int (1 : Int32))]))) (fun tt_ kk_ => XS.goto X13.here hx rfl (pc0 := 112) (pc' := 116) rfl (hb hby at_112) (by decide) (by decide) kk_) ?_
      refine own_ret (t := .boolean) X13 hx hlk hrt rfl (Or.inl ⟨rfl, by simp, _, rfl⟩) (hb hby at_116) (by decide) (by decide) ?_
      exact ⟨rfl, N12⟩
    ·
      refine own_callS (y := (⟨"com/example/assay_runner/assayrunner/report/CountsSkippedPinLaw", "status", "(I)Lcom/example/assay_runner/assayrunner/report/ReportPage$Status;"⟩ : MethodName)) X5 hx hZ hown (hw _ (List.mem_of_getElem? (i := 35) rfl)) (hw _ (List.mem_of_getElem? (i := 36) rfl)) (hw _ (List.mem_of_getElem? (i := 37) rfl)) (hw _ (List.mem_of_getElem? (i := 38) rfl)) (by decide) hh5 (hM := own_status l Z a0 hw [] i3 a_PASSED a_FAILED a_SKIPPED a_SKIPPED T2.heap n0 (Nat.le_trans (Nat.le_trans Z0 E1.1) K2.1) ((if_neg k0).trans (if_neg k1)) (own_sta_keep (S_PASSED.ext E1) K2 (allS (own_plainE A1) all0)) (own_sta_keep (S_FAILED.ext E1) K2 (allS (own_plainE A1) all0)) (own_sta_keep (S_SKIPPED.ext E1) K2 (allS (own_plainE A1) all0))) (W := 0) (pc := 60) (Ls := #[.val (.int i0), .val (.int i1), .val (.int i2), .val (.int i3), .val (.ref b1), .val (.int ((((i0 + i1) + i2) - i0) - i1)), .val (.int (1 : Int32)), .val (.int (1 : Int32)), .unset, .unset, .unset]) (argsL := [(.int i3)]) (rest := []) (st0 := [(.int i3)]) (by rw [hml]; rfl) (lenOf own_pd3 rfl) rfl (Nat.le_of_eq rfl) (hb hby at_60) (by decide) (by decide) (by decide) (by decide) ?_
      intro v14 T14 L14 X14 hQ14
      obtain ⟨rfl, Nq14, hh14⟩ := hQ14
      have N14 := Fr.app N5 Nq14
      show own_Ends p e below s _ _ _ (T14.setTop (mkF m 63 #[.val (.int i0), .val (.int i1), .val (.int i2), .val (.int i3), .val (.ref b1), .val (.int ((((i0 + i1) + i2) - i0) - i1)), .val (.int (1 : Int32)), .val (.int (1 : Int32)), .unset, .unset, .unset] [(.ref a_SKIPPED)]))
      refine own_pre (S' := (T14.setTop (mkF m 65 #[.val (.int i0), .val (.int i1), .val (.int i2), .val (.int i3), .val (.ref b1), .val (.int ((((i0 + i1) + i2) - i0) - i1)), .val (.int (1 : Int32)), .val (.int (1 : Int32)), .val (.ref a_SKIPPED), .unset, .unset] []))) (fun tt_ kk_ => XS.astore X14.here hx rfl (hb hby at_63) rfl rfl (l' := #[.val (.int i0), .val (.int i1), .val (.int i2), .val (.int i3), .val (.ref b1), .val (.int ((((i0 + i1) + i2) - i0) - i1)), .val (.int (1 : Int32)), .val (.int (1 : Int32)), .val (.ref a_SKIPPED), .unset, .unset]) rfl kk_) ?_
      refine own_pre (S' := (T14.setTop (mkF m 67 #[.val (.int i0), .val (.int i1), .val (.int i2), .val (.int i3), .val (.ref b1), .val (.int ((((i0 + i1) + i2) - i0) - i1)), .val (.int (1 : Int32)), .val (.int (1 : Int32)), .val (.ref a_SKIPPED), .unset, .unset] [(.ref b1)]))) (fun tt_ kk_ => XS.aload X14.here hx rfl (hb hby at_65) rfl rfl kk_) ?_
      refine own_pre (S' := (T14.setTop (mkF m 69 #[.val (.int i0), .val (.int i1), .val (.int i2), .val (.int i3), .val (.ref b1), .val (.int ((((i0 + i1) + i2) - i0) - i1)), .val (.int (1 : Int32)), .val (.int (1 : Int32)), .val (.ref a_SKIPPED), .unset, .unset] [(.ref a_SKIPPED), (.ref b1)]))) (fun tt_ kk_ => XS.aload X14.here hx rfl (hb hby at_67) rfl rfl kk_) ?_
      refine own_callV (C := "com/example/assay_runner/assayrunner/report/ReportPage$Counts") (y := (⟨"com/example/assay_runner/assayrunner/report/ReportPage$Counts", "with", "(Lcom/example/assay_runner/assayrunner/report/ReportPage$Status;)Lcom/example/assay_runner/assayrunner/report/ReportPage$Counts;"⟩ : MethodName)) (b := b1) X14 hx hZ hown (hw _ (List.mem_of_getElem? (i := 43) rfl)) (hw _ (List.mem_of_getElem? (i := 44) rfl)) (hw _ (List.mem_of_getElem? (i := 46) rfl)) (hw _ (List.mem_of_getElem? (i := 45) rfl)) (hw _ (List.mem_of_getElem? (i := 47) rfl)) (hw _ (List.mem_of_getElem? (i := 2) rfl)) (by decide) hh14 (A1.keep K2) (hM := own_with l Z a0 hw [] b1 a_SKIPPED a_PASSED a_FAILED ((i0 + i1) + i2) i0 i1 i0 i1 T2.heap n0 (Nat.le_trans (Nat.le_trans Z0 E1.1) K2.1) Ft2 Fp2 Ff2 (own_sta_keep (S_PASSED.ext E1) K2 (allS (own_plainE A1) all0)) (own_sta_keep (S_FAILED.ext E1) K2 (allS (own_plainE A1) all0)) (if_neg (Ne.symm ne_PASSED_SKIPPED)) (if_neg (Ne.symm ne_FAILED_SKIPPED))) (W := 0) (pc := 69) (Ls := #[.val (.int i0), .val (.int i1), .val (.int i2), .val (.int i3), .val (.ref b1), .val (.int ((((i0 + i1) + i2) - i0) - i1)), .val (.int (1 : Int32)), .val (.int (1 : Int32)), .val (.ref a_SKIPPED), .unset, .unset]) (argsL := [(.ref a_SKIPPED)]) (rest := []) (st0 := [(.ref a_SKIPPED), (.ref b1)]) (by rw [hml]; rfl) (lenOf own_pd4 rfl) rfl (Nat.le_of_eq rfl) (hb hby at_69) (by decide) (by decide) (by decide) (by decide) ?_
      intro v15 T15 L15 X15 hQ15
      obtain ⟨b15, rfl, Nq15, K15, Eb15, Ft15, Fp15, Ff15, ge_b15⟩ := hQ15
      have N15 := Fr.app N14 Nq15
      show own_Ends p e below s _ _ _ (T15.setTop (mkF m 72 #[.val (.int i0), .val (.int i1), .val (.int i2), .val (.int i3), .val (.ref b1), .val (.int ((((i0 + i1) + i2) - i0) - i1)), .val (.int (1 : Int32)), .val (.int (1 : Int32)), .val (.ref a_SKIPPED), .unset, .unset] [(.ref b15)]))
      refine own_callV (C := "com/example/assay_runner/assayrunner/report/ReportPage$Counts") (y := (⟨"com/example/assay_runner/assayrunner/report/ReportPage$Counts", "skipped", "()I"⟩ : MethodName)) (b := b15) X15 hx hZ hown (hw _ (List.mem_of_getElem? (i := 20) rfl)) (hw _ (List.mem_of_getElem? (i := 21) rfl)) (hw _ (List.mem_of_getElem? (i := 23) rfl)) (hw _ (List.mem_of_getElem? (i := 22) rfl)) (hw _ (List.mem_of_getElem? (i := 24) rfl)) (hw _ (List.mem_of_getElem? (i := 2) rfl)) (by decide) (rfl : T15.heap = T15.heap) Eb15 (hM := own_skipped l Z a0 hw [] b15 (((i0 + i1) + i2) + 1) i0 i1 T15.heap n0 (Nat.le_trans (Nat.le_trans (Nat.le_trans Z0 E1.1) K2.1) K15.1) Ft15 Fp15 Ff15) (W := 0) (pc := 72) (Ls := #[.val (.int i0), .val (.int i1), .val (.int i2), .val (.int i3), .val (.ref b1), .val (.int ((((i0 + i1) + i2) - i0) - i1)), .val (.int (1 : Int32)), .val (.int (1 : Int32)), .val (.ref a_SKIPPED), .unset, .unset]) (argsL := []) (rest := []) (st0 := [(.ref b15)]) (by rw [hml]; rfl) (lenOf own_pd2 rfl) rfl (Nat.le_of_eq rfl) (hb hby at_72) (by decide) (by decide) (by decide) (by decide) ?_
      intro v16 T16 L16 X16 hQ16
      obtain ⟨rfl, Nq16, hh16⟩ := hQ16
      have N16 := Fr.app N15 Nq16
      show own_Ends p e below s _ _ _ (T16.setTop (mkF m 75 #[.val (.int i0), .val (.int i1), .val (.int i2), .val (.int i3), .val (.ref b1), .val (.int ((((i0 + i1) + i2) - i0) - i1)), .val (.int (1 : Int32)), .val (.int (1 : Int32)), .val (.ref a_SKIPPED), .unset, .unset] [(.int (((((i0 + i1) + i2) + 1) - i0) - i1))]))
      refine own_pre (S' := (T16.setTop (mkF m 77 #[.val (.int i0), .val (.int i1), .val (.int i2), .val (.int i3), .val (.ref b1), .val (.int ((((i0 + i1) + i2) - i0) - i1)), .val (.int (1 : Int32)), .val (.int (1 : Int32)), .val (.ref a_SKIPPED), .val (.int (((((i0 + i1) + i2) + 1) - i0) - i1)), .unset] []))) (fun tt_ kk_ => XS.istore X16.here hx rfl (hb hby at_75) rfl (l' := #[.val (.int i0), .val (.int i1), .val (.int i2), .val (.int i3), .val (.ref b1), .val (.int ((((i0 + i1) + i2) - i0) - i1)), .val (.int (1 : Int32)), .val (.int (1 : Int32)), .val (.ref a_SKIPPED), .val (.int (((((i0 + i1) + i2) + 1) - i0) - i1)), .unset]) rfl kk_) ?_
      refine own_pre (S' := (T16.setTop (mkF m 79 #[.val (.int i0), .val (.int i1), .val (.int i2), .val (.int i3), .val (.ref b1), .val (.int ((((i0 + i1) + i2) - i0) - i1)), .val (.int (1 : Int32)), .val (.int (1 : Int32)), .val (.ref a_SKIPPED), .val (.int (((((i0 + i1) + i2) + 1) - i0) - i1)), .unset] [(.ref a_SKIPPED)]))) (fun tt_ kk_ => XS.aload X16.here hx rfl (hb hby at_77) rfl rfl kk_) ?_
      obtain ⟨T17, X17, e17, st17⟩ := getS2 X16 hx hZ hown (host := "") (Or.inl (hw _ (List.mem_of_getElem? (i := 53) rfl))) Via.refl hh16 (own_sta_keep (own_sta_keep (S_SKIPPED.ext E1) K2 (allS (own_plainE A1) all0)) K15 all0) (g := (mkF m 79 #[.val (.int i0), .val (.int i1), .val (.int i2), .val (.int i3), .val (.ref b1), .val (.int ((((i0 + i1) + i2) - i0) - i1)), .val (.int (1 : Int32)), .val (.int (1 : Int32)), .val (.ref a_SKIPPED), .val (.int (((((i0 + i1) + i2) + 1) - i0) - i1)), .unset] [(.ref a_SKIPPED)])) rfl (hb hby at_79)
      refine own_pre (S' := (T17.setTop (mkF m 82 #[.val (.int i0), .val (.int i1), .val (.int i2), .val (.int i3), .val (.ref b1), .val (.int ((((i0 + i1) + i2) - i0) - i1)), .val (.int (1 : Int32)), .val (.int (1 : Int32)), .val (.ref a_SKIPPED), .val (.int (((((i0 + i1) + i2) + 1) - i0) - i1)), .unset] [(.ref a_SKIPPED), (.ref a_SKIPPED)]))) st17 ?_
      refine own_pre (S' := (T17.setTop (mkF m 85 #[.val (.int i0), .val (.int i1), .val (.int i2), .val (.int i3), .val (.ref b1), .val (.int ((((i0 + i1) + i2) - i0) - i1)), .val (.int (1 : Int32)), .val (.int (1 : Int32)), .val (.ref a_SKIPPED), .val (.int (((((i0 + i1) + i2) + 1) - i0) - i1)), .unset] []))) (fun tt_ kk_ => Jvm.RoadKit.acmp (g := (mkF m 82 #[.val (.int i0), .val (.int i1), .val (.int i2), .val (.int i3), .val (.ref b1), .val (.int ((((i0 + i1) + i2) - i0) - i1)), .val (.int (1 : Int32)), .val (.int (1 : Int32)), .val (.ref a_SKIPPED), .val (.int (((((i0 + i1) + i2) + 1) - i0) - i1)), .unset] [(.ref a_SKIPPED), (.ref a_SKIPPED)])) X17 hx rfl rfl rfl (pc0 := 82) (pc' := 85) (same := true) rfl (hb hby at_82) rfl (decide_eq_true rfl) (by decide) (by decide) kk_) ?_
      refine own_pre (S' := (T17.setTop (mkF m 86 #[.val (.int i0), .val (.int i1), .val (.int i2), .val (.int i3), .val (.ref b1), .val (.int ((((i0 + i1) + i2) - i0) - i1)), .val (.int (1 : Int32)), .val (.int (1 : Int32)), .val (.ref a_SKIPPED), .val (.int (((((i0 + i1) + i2) + 1) - i0) - i1)), .unset] [(.int i2)]))) (fun tt_ kk_ => XS.iloadN X17.here hx rfl (hb hby at_85) rfl kk_) ?_
      refine own_pre (S' := (T17.setTop (mkF m 87 #[.val (.int i0), .val (.int i1), .val (.int i2), .val (.int i3), .val (.ref b1), .val (.int ((((i0 + i1) + i2) - i0) - i1)), .val (.int (1 : Int32)), .val (.int (1 : Int32)), .val (.ref a_SKIPPED), .val (.int (((((i0 + i1) + i2) + 1) - i0) - i1)), .unset] [(.int (1 : Int32)), (.int i2)]))) (fun tt_ kk_ => XS.iconst X17.here hx rfl (hb hby at_86) kk_) ?_
      refine own_pre (S' := (T17.setTop (mkF m 88 #[.val (.int i0), .val (.int i1), .val (.int i2), .val (.int i3), .val (.ref b1), .val (.int ((((i0 + i1) + i2) - i0) - i1)), .val (.int (1 : Int32)), .val (.int (1 : Int32)), .val (.ref a_SKIPPED), .val (.int (((((i0 + i1) + i2) + 1) - i0) - i1)), .unset] [(.int (i2 + (1 : Int32)))]))) (fun tt_ kk_ => XS.iadd X17.here hx rfl (hb hby at_87) rfl kk_) ?_
      refine own_pre (S' := (T17.setTop (mkF m 92 #[.val (.int i0), .val (.int i1), .val (.int i2), .val (.int i3), .val (.ref b1), .val (.int ((((i0 + i1) + i2) - i0) - i1)), .val (.int (1 : Int32)), .val (.int (1 : Int32)), .val (.ref a_SKIPPED), .val (.int (((((i0 + i1) + i2) + 1) - i0) - i1)), .unset] [(.int (i2 + (1 : Int32)))]))) (fun tt_ kk_ => XS.goto X17.here hx rfl (pc0 := 88) (pc' := 92) rfl (hb hby at_88) (by decide) (by decide) kk_) ?_
      refine own_pre (S' := (T17.setTop (mkF m 94 #[.val (.int i0), .val (.int i1), .val (.int i2), .val (.int i3), .val (.ref b1), .val (.int ((((i0 + i1) + i2) - i0) - i1)), .val (.int (1 : Int32)), .val (.int (1 : Int32)), .val (.ref a_SKIPPED), .val (.int (((((i0 + i1) + i2) + 1) - i0) - i1)), .val (.int (i2 + (1 : Int32)))] []))) (fun tt_ kk_ => XS.istore X17.here hx rfl (hb hby at_92) rfl (l' := #[.val (.int i0), .val (.int i1), .val (.int i2), .val (.int i3), .val (.ref b1), .val (.int ((((i0 + i1) + i2) - i0) - i1)), .val (.int (1 : Int32)), .val (.int (1 : Int32)), .val (.ref a_SKIPPED), .val (.int (((((i0 + i1) + i2) + 1) - i0) - i1)), .val (.int (i2 + (1 : Int32)))]) rfl kk_) ?_
      refine own_pre (S' := (T17.setTop (mkF m 96 #[.val (.int i0), .val (.int i1), .val (.int i2), .val (.int i3), .val (.ref b1), .val (.int ((((i0 + i1) + i2) - i0) - i1)), .val (.int (1 : Int32)), .val (.int (1 : Int32)), .val (.ref a_SKIPPED), .val (.int (((((i0 + i1) + i2) + 1) - i0) - i1)), .val (.int (i2 + (1 : Int32)))] [(.int (1 : Int32))]))) (fun tt_ kk_ => XS.iload X17.here hx rfl (hb hby at_94) rfl kk_) ?_
      refine own_pre (S' := (T17.setTop (mkF m 99 #[.val (.int i0), .val (.int i1), .val (.int i2), .val (.int i3), .val (.ref b1), .val (.int ((((i0 + i1) + i2) - i0) - i1)), .val (.int (1 : Int32)), .val (.int (1 : Int32)), .val (.ref a_SKIPPED), .val (.int (((((i0 + i1) + i2) + 1) - i0) - i1)), .val (.int (i2 + (1 : Int32)))] []))) (fun tt_ kk_ => XS.ifNo X17.here hx rfl (hb hby at_96) rfl ((if0 _ _).trans (feq (by decide : ¬ ((1 : Int32) = (0 : Int32)))).1) kk_) ?_
      refine own_pre (S' := (T17.setTop (mkF m 101 #[.val (.int i0), .val (.int i1), .val (.int i2), .val (.int i3), .val (.ref b1), .val (.int ((((i0 + i1) + i2) - i0) - i1)), .val (.int (1 : Int32)), .val (.int (1 : Int32)), .val (.ref a_SKIPPED), .val (.int (((((i0 + i1) + i2) + 1) - i0) - i1)), .val (.int (i2 + (1 : Int32)))] [(.int (1 : Int32))]))) (fun tt_ kk_ => XS.iload X17.here hx rfl (hb hby at_99) rfl kk_) ?_
      refine own_pre (S' := (T17.setTop (mkF m 104 #[.val (.int i0), .val (.int i1), .val (.int i2), .val (.int i3), .val (.ref b1), .val (.int ((((i0 + i1) + i2) - i0) - i1)), .val (.int (1 : Int32)), .val (.int (1 : Int32)), .val (.ref a_SKIPPED), .val (.int (((((i0 + i1) + i2) + 1) - i0) - i1)), .val (.int (i2 + (1 : Int32)))] []))) (fun tt_ kk_ => XS.ifNo X17.here hx rfl (hb hby at_101) rfl ((if0 _ _).trans (feq (by decide : ¬ ((1 : Int32) = (0 : Int32)))).1) kk_) ?_
      refine own_pre (S' := (T17.setTop (mkF m 106 #[.val (.int i0), .val (.int i1), .val (.int i2), .val (.int i3), .val (.ref b1), .val (.int ((((i0 + i1) + i2) - i0) - i1)), .val (.int (1 : Int32)), .val (.int (1 : Int32)), .val (.ref a_SKIPPED), .val (.int (((((i0 + i1) + i2) + 1) - i0) - i1)), .val (.int (i2 + (1 : Int32)))] [(.int (((((i0 + i1) + i2) + 1) - i0) - i1))]))) (fun tt_ kk_ => XS.iload X17.here hx rfl (hb hby at_104) rfl kk_) ?_
      refine own_pre (S' := (T17.setTop (mkF m 108 #[.val (.int i0), .val (.int i1), .val (.int i2), .val (.int i3), .val (.ref b1), .val (.int ((((i0 + i1) + i2) - i0) - i1)), .val (.int (1 : Int32)), .val (.int (1 : Int32)), .val (.ref a_SKIPPED), .val (.int (((((i0 + i1) + i2) + 1) - i0) - i1)), .val (.int (i2 + (1 : Int32)))] [(.int (i2 + (1 : Int32))), (.int (((((i0 + i1) + i2) + 1) - i0) - i1))]))) (fun tt_ kk_ => XS.iload X17.here hx rfl (hb hby at_106) rfl kk_) ?_
      refine own_pre (S' := (T17.setTop (mkF m 111 #[.val (.int i0), .val (.int i1), .val (.int i2), .val (.int i3), .val (.ref b1), .val (.int ((((i0 + i1) + i2) - i0) - i1)), .val (.int (1 : Int32)), .val (.int (1 : Int32)), .val (.ref a_SKIPPED), .val (.int (((((i0 + i1) + i2) + 1) - i0) - i1)), .val (.int (i2 + (1 : Int32)))] []))) (fun tt_ kk_ => XS.icmpNo X17.here hx rfl (hb hby at_108) rfl (teq (own_r3 i0 i1 i2)).2 kk_) ?_
      refine own_pre (S' := (T17.setTop (mkF m 112 #[.val (.int i0), .val (.int i1), .val (.int i2), .val (.int i3), .val (.ref b1), .val (.int ((((i0 + i1) + i2) - i0) - i1)), .val (.int (1 : Int32)), .val (.int (1 : Int32)), .val (.ref a_SKIPPED), .val (.int (((((i0 + i1) + i2) + 1) - i0) - i1)), .val (.int (i2 + (1 : Int32)))] [(.int (1 : Int32))]))) (fun tt_ kk_ => XS.iconst X17.here hx rfl (hb hby at_111) kk_) ?_
      refine own_pre (S' := (T17.setTop (mkF m 116 #[.val (.int i0), .val (.int i1), .val (.int i2), .val (.int i3), .val (.ref b1), .val (.int ((((i0 + i1) + i2) - i0) - i1)), .val (.int (1 : Int32)), .val (.int (1 : Int32)), .val (.ref a_SKIPPED), .val (.int (((((i0 + i1) + i2) + 1) - i0) - i1)), .val (.int (i2 + (1 : Int32)))] [(.int (1 : Int32))]))) (fun tt_ kk_ => XS.goto X17.here hx rfl (pc0 := 112) (pc' := 116) rfl (hb hby at_112) (by decide) (by decide) kk_) ?_
      refine own_ret (t := .boolean) X17 hx hlk hrt rfl (Or.inl ⟨rfl, by simp, _, rfl⟩) (hb hby at_116) (by decide) (by decide) ?_
      exact ⟨rfl, N16⟩
set_option maxRecDepth 65536 in
set_option maxHeartbeats 40000000 in
theorem comes_1 {Post : Tables → Env → Array Value → State → Outcome → State → Prop} (hpost : ∀ tb e args s v u, (limb_1_1.after args s (.returned v) u = true ∧ limb_1_2.after args s (.returned v) u = true ∧ True) → FrameEnd s (.returned v) u (Jvm.fieldLocs frame_1_writes args s ++ Jvm.arrayLocs frame_1_arrays args s ++ Jvm.staticLocs frame_1_statics s) 16 128 → Post tb e args s (.returned v) u) :
    ArmFor flags0 classFile x code maxLocals ret World_1 tables_1 room_1 Calls_1 rest_1 Pre_1 Post := by
  intro l hfl _ _ p e ha hc hk s m args below hf hA hF happ hP
  obtain ⟨hcalls, hrest, hpre⟩ := hP
  obtain ⟨-, -, -, hnamed, -, -, -, hat⟩ := (Spec.applies_iff hf).mp happ
  obtain ⟨hg, hn⟩ := and_e (Cond.before_iff.mp (show (Jvm.Cond.and given_1 narrow_1).before args s = true from hpre))
  obtain ⟨hcount, hgg⟩ := and_e hg
  obtain ⟨hk0, hgg0⟩ := and_e hgg
  obtain ⟨hk1, hgg1⟩ := and_e hgg0
  obtain ⟨hk2, hk3⟩ := and_e hgg1
  obtain ⟨w0, w1, w2, w3, rfl⟩ : ∃ w0 w1 w2 w3 : Value, args = #[w0, w1, w2, w3] := by
    have hs : args.size = 4 := by simpa [Cond.value, given_1] using hcount
    obtain ⟨L⟩ := args
    match L, hs with
    | [w0, w1, w2, w3], _ => exact ⟨w0, w1, w2, w3, rfl⟩
  have hw := fun d (hd : d ∈ tables_1) => atoms_spec (ws := Jvm.Cond.code x code maxLocals ret :: tables_1) hat d (List.mem_cons_of_mem _ hd)
  have hfit : Fit s := fun {y c} hc i hi => by
    obtain ⟨ha, rfl⟩ := Array.getElem?_eq_some_iff.mp hc
    have q := List.all_eq_true.mp ((Array.all_eq_true_iff_forall_mem.mp hF) _ (Array.getElem_mem ha)) i (List.mem_range.mpr hi)
    simpa [Array.getElem?_eq_getElem hi] using q
  obtain ⟨i0, ei0⟩ := is_v hk0
  obtain rfl : w0 = (.int i0) := Option.some.inj ei0
  obtain ⟨i1, ei1⟩ := is_v hk1
  obtain rfl : w1 = (.int i1) := Option.some.inj ei1
  obtain ⟨i2, ei2⟩ := is_v hk2
  obtain rfl : w2 = (.int i2) := Option.some.inj ei2
  obtain ⟨i3, ei3⟩ := is_v hk3
  obtain rfl : w3 = (.int i3) := Option.some.inj ei3
  obtain ⟨hn0, hr0⟩ := and_e hn
  obtain ⟨hn1, hr1⟩ := and_e hr0
  obtain ⟨hn2, hr2⟩ := and_e hr1
  obtain ⟨hn3, hr3⟩ := and_e hr2
  obtain ⟨hn4, hn5⟩ := and_e hr3
  obtain ⟨a_FAILED, ev_FAILED⟩ := exa_v hn0
  have S_FAILED : Sta s s.heap "com/example/assay_runner/assayrunner/report/ReportPage$Status" "FAILED" "Lcom/example/assay_runner/assayrunner/report/ReportPage$Status;" (.ref a_FAILED) := Sta.start ev_FAILED (Or.inr ⟨(hw _ (List.mem_of_getElem? (i := 41) rfl)), (hw _ (List.mem_of_getElem? (i := 42) rfl))⟩)
  have E_FAILED : Exa s s.heap a_FAILED "com/example/assay_runner/assayrunner/report/ReportPage$Status" := Exa.start ev_FAILED hn0
  obtain ⟨a_PASSED, ev_PASSED⟩ := exa_v hn1
  have S_PASSED : Sta s s.heap "com/example/assay_runner/assayrunner/report/ReportPage$Status" "PASSED" "Lcom/example/assay_runner/assayrunner/report/ReportPage$Status;" (.ref a_PASSED) := Sta.start ev_PASSED (Or.inr ⟨(hw _ (List.mem_of_getElem? (i := 41) rfl)), (hw _ (List.mem_of_getElem? (i := 50) rfl))⟩)
  have E_PASSED : Exa s s.heap a_PASSED "com/example/assay_runner/assayrunner/report/ReportPage$Status" := Exa.start ev_PASSED hn1
  obtain ⟨a_SKIPPED, ev_SKIPPED⟩ := exa_v hn4
  have S_SKIPPED : Sta s s.heap "com/example/assay_runner/assayrunner/report/ReportPage$Status" "SKIPPED" "Lcom/example/assay_runner/assayrunner/report/ReportPage$Status;" (.ref a_SKIPPED) := Sta.start ev_SKIPPED (Or.inr ⟨(hw _ (List.mem_of_getElem? (i := 41) rfl)), (hw _ (List.mem_of_getElem? (i := 54) rfl))⟩)
  have E_SKIPPED : Exa s s.heap a_SKIPPED "com/example/assay_runner/assayrunner/report/ReportPage$Status" := Exa.start ev_SKIPPED hn4
  have O_FAILED := own_fieldOf ev_FAILED hn2
  have O_PASSED := own_fieldOf ev_PASSED hn3
  have O_SKIPPED := own_fieldOf ev_SKIPPED hn5
  have ne_FAILED_PASSED : a_FAILED ≠ a_PASSED := Fld.ne O_FAILED O_PASSED (fun q => absurd (Value.int.inj q) (by decide))
  have ne_FAILED_SKIPPED : a_FAILED ≠ a_SKIPPED := Fld.ne O_FAILED O_SKIPPED (fun q => absurd (Value.int.inj q) (by decide))
  have ne_PASSED_SKIPPED : a_PASSED ≠ a_SKIPPED := Fld.ne O_PASSED O_SKIPPED (fun q => absurd (Value.int.inj q) (by decide))
  obtain ⟨n, o, h1, h2, h3, _, L, rfl, ⟨rfl, N⟩, hq⟩ := own_law l s _ hw tables_1 i0 i1 i2 i3 a_FAILED a_PASSED a_SKIPPED s.heap s.heap.size (Nat.le_refl _) S_FAILED E_FAILED S_PASSED E_PASSED S_SKIPPED E_SKIPPED ne_FAILED_PASSED ne_FAILED_SKIPPED ne_PASSED_SKIPPED p e ha hc hk s m _ below hf ((Spec.applies_iff_loose hf).mp happ).1 ⟨rfl, State.Warmed39.refl s, rfl⟩ trivial
  refine ⟨n, _, h1, h2, h3, hpost _ _ _ _ _ _ ⟨Cond.after_iff.mpr rfl, Cond.after_iff.mpr (eq_i res_at (Term.int_eval (1)) rfl), trivial⟩ ⟨hq.1, hq.2.1, (hq.2.2.sift fun y hy => Or.inr (N y hy)).mono (by decide) (by decide)⟩⟩
theorem main_1_1 : Claimed_1_1 := comes_1 fun _ _ _ _ _ _ h hF => ⟨h.1, hF⟩
theorem main_1_2 : Claimed_1_2 := comes_1 fun _ _ _ _ _ _ h hF => ⟨h.2.1, hF⟩
end Jvm.Pilot.@@N@@
namespace Jvm.Pilot.@@N@@
open Jvm Jvm.ClassFile Sem Op Lib Jvm.Free Jvm.Stand Jvm.Pilot.@@N@@.Jvm.D
/-! MADE BY PROGRAM (witnessworld.py) out of the Statement's table words and the real class files: 14 classes; the members and pool entries that the words name. The judged class is class 1, her method 2. -/
namespace start1
open Jvm.ClassFile
def u (s : String) : CpInfo := .utf8 (stringToUtf16 s)
/-- a pool by its gaps: so many unusable entries, then the entry; so many at the end -/
def gap : Nat → List CpInfo → List CpInfo
  | 0, r => r
  | n + 1, r => .unusable :: gap n r
def poolList (es : List (Nat × CpInfo)) (last : Nat) : List CpInfo := es.foldr (fun e r => gap e.1 (e.2 :: r)) (gap last [])
def pool (es : List (Nat × CpInfo)) (last : Nat) : Array CpInfo := ⟨poolList es last⟩
def fileOf (pool : Array CpInfo) (this : Nat) (attrs : Array Attribute := #[]) (ms : Array MethodInfo := #[]) (fl : Nat := 33) (sup : Nat := 0) (ifs : Array Nat := #[]) (fds : Array FieldInfo := #[]) : ClassFile where
  minorVersion := 0
  majorVersion := 65
  constantPool := pool
  accessFlags := fl
  thisClass := this
  superClass := sup
  interfaces := ifs
  fields := fds
  methods := ms
  attributes := attrs
def plain (name : String) (sup : Option ClassId) : Class where
  name := name
  kind := .ordinary
  loader := none
  accessFlags := 33
  super := sup
  interfaces := #[]
  cf := none
  fields := #[]
  methods := #[]
  instanceTypes := #[]
  staticTypes := #[]
  resolved := #[]
  callSites := []
  init := .initialized
  statics := none
  mirror := none

def pool0 : Array CpInfo := pool [(5, u "<init>"), (0, u "()V"), (1, .class_ 10), (1, u "java/lang/Object")] 113

def k0c0 : Code := { maxStack := 0, maxLocals := 1, code := object_method_1_code, exceptionTable := #[], attributes := #[] }
def k0m0 : Method := { name := "<init>", desc := "()V", sig := { parameters := [], returnType := none }, accessFlags := 1, code := some k0c0 }
/-- java/lang/Object -/
def k0 : Class := { plain "java/lang/Object" none with
  accessFlags := 33
  interfaces := #[]
  cf := some (fileOf pool0 8 #[] #[{ accessFlags := 1, nameIndex := 5, descriptorIndex := 6, attributes := #[] }] 33 0 #[] #[])
  fields := #[]
  methods := #[k0m0]
  instanceTypes := #[]
  staticTypes := #[]
  resolved := Array.replicate 124 none
  statics := none }

def pool1 : Array CpInfo := pool [(2, .class_ 4), (1, u "java/lang/Object"), (0, u "<init>"), (0, u "()V"), (0, .integer 2147483647), (0, .fieldref 9 10), (0, .class_ 11), (0, .nameAndType 12 13), (0, u "com/example/assay_runner/assayrunner/report/ReportPage$Status"), (0, u "PASSED"), (0, u "Lcom/example/assay_runner/assayrunner/report/ReportPage$Status;"), (0, .fieldref 9 15), (0, .nameAndType 16 13), (0, u "FAILED"), (0, .fieldref 9 18), (0, .nameAndType 19 13), (0, u "SKIPPED"), (0, .class_ 21), (0, u "com/example/assay_runner/assayrunner/report/ReportPage$Counts"), (0, .methodref 20 23), (0, .nameAndType 5 24), (0, u "(III)V"), (0, .methodref 20 26), (0, .nameAndType 27 28), (0, u "skipped"), (0, u "()I"), (0, .methodref 20 30), (0, .nameAndType 31 28), (0, u "unpassed"), (0, .methodref 20 33), (0, .nameAndType 34 28), (0, u "failed"), (0, .methodref 36 37), (0, .class_ 38), (0, .nameAndType 39 40), (0, u "com/example/assay_runner/assayrunner/report/CountsSkippedPinLaw"), (0, u "status"), (0, u "(I)Lcom/example/assay_runner/assayrunner/report/ReportPage$Status;"), (0, .methodref 20 42), (0, .nameAndType 43 44), (0, u "with"), (0, u "(Lcom/example/assay_runner/assayrunner/report/ReportPage$Status;)Lcom/example/assay_runner/assayrunner/report/ReportPage$Counts;"), (3, u "law"), (0, u "(IIII)Z")] 7

def k1m0 : Method := { name := "<init>", desc := "()V", sig := { parameters := [], returnType := none }, accessFlags := 1, code := none }
def k1c1 : Code := { maxStack := 2, maxLocals := 2, code := method_2_code, exceptionTable := #[], attributes := #[] }
def k1m1 : Method := { name := "status", desc := "(I)Lcom/example/assay_runner/assayrunner/report/ReportPage$Status;", sig := { parameters := [.int], returnType := some (.object "com/example/assay_runner/assayrunner/report/ReportPage$Status") }, accessFlags := 10, code := some k1c1 }
def k1c2 : Code := { maxStack := 5, maxLocals := 11, code := code, exceptionTable := #[], attributes := #[] }
def k1m2 : Method := { name := "law", desc := "(IIII)Z", sig := { parameters := [.int, .int, .int, .int], returnType := some .boolean }, accessFlags := 9, code := some k1c2 }
/-- com/example/assay_runner/assayrunner/report/CountsSkippedPinLaw -/
def k1 : Class := { plain "com/example/assay_runner/assayrunner/report/CountsSkippedPinLaw" (some 0) with
  accessFlags := 49
  interfaces := #[]
  cf := some (fileOf pool1 36 #[] #[{ accessFlags := 1, nameIndex := 5, descriptorIndex := 6, attributes := #[] }, { accessFlags := 10, nameIndex := 39, descriptorIndex := 40, attributes := #[] }, { accessFlags := 9, nameIndex := 48, descriptorIndex := 49, attributes := #[] }] 49 2 #[] #[])
  fields := #[]
  methods := #[k1m0, k1m1, k1m2]
  instanceTypes := #[]
  staticTypes := #[]
  resolved := Array.replicate 57 none
  statics := none }

def pool2 : Array CpInfo := pool [(1, .methodref 2 3), (0, .class_ 4), (0, .nameAndType 5 6), (0, u "java/lang/Object"), (0, u "<init>"), (0, u "()V"), (0, .class_ 8), (0, u "java/lang/Record")] 13

def k2c0 : Code := { maxStack := 1, maxLocals := 1, code := jdk_30_method_1_code, exceptionTable := #[], attributes := #[] }
def k2m0 : Method := { name := "<init>", desc := "()V", sig := { parameters := [], returnType := none }, accessFlags := 4, code := some k2c0 }
/-- java/lang/Record -/
def k2 : Class := { plain "java/lang/Record" (some 0) with
  accessFlags := 1057
  interfaces := #[]
  cf := some (fileOf pool2 7 #[] #[{ accessFlags := 4, nameIndex := 5, descriptorIndex := 6, attributes := #[] }] 1057 2 #[] #[])
  fields := #[]
  methods := #[k2m0]
  instanceTypes := #[]
  staticTypes := #[]
  resolved := Array.replicate 22 none
  statics := none }

def pool3 : Array CpInfo := pool [(1, .methodref 2 3), (0, .class_ 4), (0, .nameAndType 5 6), (0, u "java/lang/Record"), (0, u "<init>"), (0, u "()V"), (0, .fieldref 8 9), (0, .class_ 10), (0, .nameAndType 11 12), (0, u "com/example/assay_runner/assayrunner/report/ReportPage$Counts"), (0, u "tests"), (0, u "I"), (0, .fieldref 8 14), (0, .nameAndType 15 12), (0, u "passed"), (0, .fieldref 8 17), (0, .nameAndType 18 12), (0, u "failed"), (0, .fieldref 20 21), (0, .class_ 22), (0, .nameAndType 23 24), (0, u "com/example/assay_runner/assayrunner/report/ReportPage$Status"), (0, u "PASSED"), (0, u "Lcom/example/assay_runner/assayrunner/report/ReportPage$Status;"), (0, .fieldref 20 26), (0, .nameAndType 27 24), (0, u "FAILED"), (0, .methodref 8 29), (0, .nameAndType 5 30), (0, u "(III)V"), (14, u "NONE"), (0, u "Lcom/example/assay_runner/assayrunner/report/ReportPage$Counts;"), (3, u "with"), (0, u "(Lcom/example/assay_runner/assayrunner/report/ReportPage$Status;)Lcom/example/assay_runner/assayrunner/report/ReportPage$Counts;"), (1, u "unpassed"), (0, u "()I"), (0, u "skipped"), (6, .class_ 63), (0, u "com/example/assay_runner/assayrunner/report/ReportPage")] 22

def k3c0 : Code := { maxStack := 2, maxLocals := 4, code := prog_60_method_1_code, exceptionTable := #[], attributes := #[] }
def k3m0 : Method := { name := "<init>", desc := "(III)V", sig := { parameters := [.int, .int, .int], returnType := none }, accessFlags := 0, code := some k3c0 }
def k3c1 : Code := { maxStack := 6, maxLocals := 2, code := prog_60_method_2_code, exceptionTable := #[], attributes := #[] }
def k3m1 : Method := { name := "with", desc := "(Lcom/example/assay_runner/assayrunner/report/ReportPage$Status;)Lcom/example/assay_runner/assayrunner/report/ReportPage$Counts;", sig := { parameters := [(.object "com/example/assay_runner/assayrunner/report/ReportPage$Status")], returnType := some (.object "com/example/assay_runner/assayrunner/report/ReportPage$Counts") }, accessFlags := 0, code := some k3c1 }
def k3c2 : Code := { maxStack := 2, maxLocals := 1, code := prog_60_method_3_code, exceptionTable := #[], attributes := #[] }
def k3m2 : Method := { name := "unpassed", desc := "()I", sig := { parameters := [], returnType := some .int }, accessFlags := 0, code := some k3c2 }
def k3c3 : Code := { maxStack := 2, maxLocals := 1, code := prog_60_method_4_code, exceptionTable := #[], attributes := #[] }
def k3m3 : Method := { name := "skipped", desc := "()I", sig := { parameters := [], returnType := some .int }, accessFlags := 0, code := some k3c3 }
def k3c4 : Code := { maxStack := 1, maxLocals := 1, code := prog_60_method_10_code, exceptionTable := #[], attributes := #[] }
def k3m4 : Method := { name := "failed", desc := "()I", sig := { parameters := [], returnType := some .int }, accessFlags := 1, code := some k3c4 }
/-- com/example/assay_runner/assayrunner/report/ReportPage$Counts -/
def k3 : Class := { plain "com/example/assay_runner/assayrunner/report/ReportPage$Counts" (some 2) with
  accessFlags := 48
  interfaces := #[]
  cf := some (fileOf pool3 8 #[.nestHost 62] #[{ accessFlags := 0, nameIndex := 5, descriptorIndex := 30, attributes := #[] }, { accessFlags := 0, nameIndex := 50, descriptorIndex := 51, attributes := #[] }, { accessFlags := 0, nameIndex := 53, descriptorIndex := 54, attributes := #[] }, { accessFlags := 0, nameIndex := 55, descriptorIndex := 54, attributes := #[] }, { accessFlags := 1, nameIndex := 18, descriptorIndex := 54, attributes := #[] }] 48 2 #[] #[{ accessFlags := 18, nameIndex := 11, descriptorIndex := 12, attributes := #[] }, { accessFlags := 18, nameIndex := 15, descriptorIndex := 12, attributes := #[] }, { accessFlags := 18, nameIndex := 18, descriptorIndex := 12, attributes := #[] }, { accessFlags := 24, nameIndex := 45, descriptorIndex := 46, attributes := #[] }])
  fields := #[{ name := "tests", type := .int, accessFlags := 18, slot := 0, constantValue := 0 }, { name := "passed", type := .int, accessFlags := 18, slot := 1, constantValue := 0 }, { name := "failed", type := .int, accessFlags := 18, slot := 2, constantValue := 0 }, { name := "NONE", type := (.object "com/example/assay_runner/assayrunner/report/ReportPage$Counts"), accessFlags := 24, slot := 0, constantValue := 0 }]
  methods := #[k3m0, k3m1, k3m2, k3m3, k3m4]
  instanceTypes := #[.int, .int, .int]
  staticTypes := #[(.object "com/example/assay_runner/assayrunner/report/ReportPage$Counts")]
  resolved := Array.replicate 86 none
  statics := none }

def pool4 : Array CpInfo := pool [(1, .class_ 2), (0, u "java/lang/constant/Constable"), (0, .class_ 4), (0, u "java/lang/Object")] 6

/-- java/lang/constant/Constable -/
def k4 : Class := { plain "java/lang/constant/Constable" (some 0) with
  accessFlags := 1537
  interfaces := #[]
  cf := some (fileOf pool4 1 #[] #[] 1537 3 #[] #[])
  fields := #[]
  methods := #[]
  instanceTypes := #[]
  staticTypes := #[]
  resolved := Array.replicate 11 none
  statics := none }

def pool5 : Array CpInfo := pool [(1, .class_ 2), (0, u "java/lang/Comparable"), (0, .class_ 4), (0, u "java/lang/Object")] 7

/-- java/lang/Comparable -/
def k5 : Class := { plain "java/lang/Comparable" (some 0) with
  accessFlags := 1537
  interfaces := #[]
  cf := some (fileOf pool5 1 #[] #[] 1537 3 #[] #[])
  fields := #[]
  methods := #[]
  instanceTypes := #[]
  staticTypes := #[]
  resolved := Array.replicate 12 none
  statics := none }

def pool6 : Array CpInfo := pool [(1, .class_ 2), (0, u "java/io/Serializable"), (0, .class_ 4), (0, u "java/lang/Object")] 2

/-- java/io/Serializable -/
def k6 : Class := { plain "java/io/Serializable" (some 0) with
  accessFlags := 1537
  interfaces := #[]
  cf := some (fileOf pool6 1 #[] #[] 1537 3 #[] #[])
  fields := #[]
  methods := #[]
  instanceTypes := #[]
  staticTypes := #[]
  resolved := Array.replicate 7 none
  statics := none }

def pool7 : Array CpInfo := pool [(2, .class_ 4), (1, u "java/lang/Enum"), (0, u "name"), (0, u "Ljava/lang/String;"), (2, u "ordinal"), (0, u "I"), (1, .class_ 14), (1, u "java/lang/Object"), (4, u "hash"), (86, .class_ 108), (1, u "java/lang/Enum$EnumDesc"), (2, .class_ 112), (0, u "java/lang/constant/Constable"), (0, .class_ 114), (0, u "java/lang/Comparable"), (0, .class_ 116), (0, u "java/io/Serializable")] 87

/-- java/lang/Enum -/
def k7 : Class := { plain "java/lang/Enum" (some 0) with
  accessFlags := 1057
  interfaces := #[4, 5, 6]
  cf := some (fileOf pool7 2 #[.nestMembers #[106]] #[] 1057 12 #[111, 113, 115] #[{ accessFlags := 18, nameIndex := 5, descriptorIndex := 6, attributes := #[] }, { accessFlags := 18, nameIndex := 9, descriptorIndex := 10, attributes := #[] }, { accessFlags := 2, nameIndex := 19, descriptorIndex := 10, attributes := #[] }])
  fields := #[{ name := "name", type := (.object "java/lang/String"), accessFlags := 18, slot := 0, constantValue := 0 }, { name := "ordinal", type := .int, accessFlags := 18, slot := 1, constantValue := 0 }, { name := "hash", type := .int, accessFlags := 2, slot := 2, constantValue := 0 }]
  methods := #[]
  instanceTypes := #[(.object "java/lang/String"), .int, .int]
  staticTypes := #[]
  resolved := Array.replicate 204 none
  statics := none }

def pool8 : Array CpInfo := pool [(1, .class_ 2), (0, u "com/example/assay_runner/assayrunner/report/ReportPage$Status"), (2, u "PASSED"), (0, u "Lcom/example/assay_runner/assayrunner/report/ReportPage$Status;"), (2, u "FAILED"), (2, u "SKIPPED"), (2, u "$VALUES"), (0, u "[Lcom/example/assay_runner/assayrunner/report/ReportPage$Status;"), (6, .class_ 25), (1, u "java/lang/Enum"), (26, .class_ 53), (0, u "com/example/assay_runner/assayrunner/report/ReportPage")] 2

/-- com/example/assay_runner/assayrunner/report/ReportPage$Status -/
def k8 : Class := { plain "com/example/assay_runner/assayrunner/report/ReportPage$Status" (some 7) with
  accessFlags := 16432
  interfaces := #[]
  cf := some (fileOf pool8 1 #[.nestHost 52] #[] 16432 23 #[] #[{ accessFlags := 16409, nameIndex := 5, descriptorIndex := 6, attributes := #[] }, { accessFlags := 16409, nameIndex := 9, descriptorIndex := 6, attributes := #[] }, { accessFlags := 16409, nameIndex := 12, descriptorIndex := 6, attributes := #[] }, { accessFlags := 4122, nameIndex := 15, descriptorIndex := 16, attributes := #[] }])
  fields := #[{ name := "PASSED", type := (.object "com/example/assay_runner/assayrunner/report/ReportPage$Status"), accessFlags := 16409, slot := 0, constantValue := 0 }, { name := "FAILED", type := (.object "com/example/assay_runner/assayrunner/report/ReportPage$Status"), accessFlags := 16409, slot := 1, constantValue := 0 }, { name := "SKIPPED", type := (.object "com/example/assay_runner/assayrunner/report/ReportPage$Status"), accessFlags := 16409, slot := 2, constantValue := 0 }, { name := "$VALUES", type := (.array (.object "com/example/assay_runner/assayrunner/report/ReportPage$Status")), accessFlags := 4122, slot := 3, constantValue := 0 }]
  methods := #[]
  instanceTypes := #[(.object "java/lang/String"), .int, .int]
  staticTypes := #[(.object "com/example/assay_runner/assayrunner/report/ReportPage$Status"), (.object "com/example/assay_runner/assayrunner/report/ReportPage$Status"), (.object "com/example/assay_runner/assayrunner/report/ReportPage$Status"), (.array (.object "com/example/assay_runner/assayrunner/report/ReportPage$Status"))]
  resolved := Array.replicate 56 none
  statics := some 0 }

def pool9 : Array CpInfo := pool [(1, u "java/lang/Cloneable"), (0, .class_ 1), (0, u "java/lang/Object"), (0, .class_ 3)] 3

/-- java/lang/Cloneable -/
def k9 : Class := { plain "java/lang/Cloneable" (some 0) with
  accessFlags := 1537
  interfaces := #[]
  cf := some (fileOf pool9 2 #[] #[] 1537 4 #[] #[])
  fields := #[]
  methods := #[]
  instanceTypes := #[]
  staticTypes := #[]
  resolved := Array.replicate 8 none
  statics := none }

/-- the primitive byte -/
def k10 : Class := { plain "byte" none with kind := .primitive 'B', accessFlags := 0x411 }
/-- [B -/
def k11 : Class := { plain "[B" (some 0) with kind := .array 10 .byte, interfaces := #[9, 6], accessFlags := 1041 }

/-- the primitive int -/
def k12 : Class := { plain "int" none with kind := .primitive 'I', accessFlags := 0x411 }
/-- [I -/
def k13 : Class := { plain "[I" (some 0) with kind := .array 12 .int, interfaces := #[9, 6], accessFlags := 1041 }

def heap : Heap := #[{ cls := 8, slots := #[.ref 2, .ref 1, .ref 3, .null], vm := .statics 8 },
  { cls := 8, slots := #[.null, .int 1, .int 0], vm := .none },
  { cls := 8, slots := #[.null, .int 0, .int 0], vm := .none },
  { cls := 8, slots := #[.null, .int 2, .int 0], vm := .none }]
def classes : Array Class := #[k0, k1, k2, k3, k4, k5, k6, k7, k8, k9, k10, k11, k12, k13]
def interned : List (Array UInt16 × Addr) := []
def slotsUsed : Nat := 13
def theMethod : MethodId := ⟨1, 2⟩
def args0 : Array Value := #[.int 5, .int 7, .int 1, .int 2]
def aboutOver (below : List Frame) : State where
  vm := { classes := classes, interned := interned.toArray }
  heap := heap
  slotsUsed := slotsUsed
  threads := #[{ frames := .invoking theMethod args0 :: below }]
def below0 : List Frame := [.native { method := ⟨0, 0⟩, args := #[] }]
def about1 : State := aboutOver below0
def p0 : Program := .bare "" "" ""
def e0 : Env := launch0.env 0 0 0
theorem w_frames : about1.frames = Frame.invoking theMethod args0 :: below0 := rfl
set_option maxRecDepth 65536 in
theorem w_args : argsFit about1.vm theMethod args0 = true := by decide +kernel
set_option maxRecDepth 65536 in
theorem w_heap : heapFits about1 = true := by decide +kernel
set_option maxRecDepth 65536 in
theorem w_runnable : about1.curStatus? = some .runnable := by decide +kernel
set_option maxRecDepth 65536 in
theorem w_alone : about1.alone = true := by decide +kernel
set_option maxRecDepth 65536 in
theorem w_named : about1.methodNamed? x = some theMethod := by decide +kernel
set_option maxRecDepth 65536 in
theorem w_hears : about1.hears theMethod below0 = true := by decide +kernel
set_option maxRecDepth 65536 in
theorem w_ripe : about1.ripe theMethod args0 below0 = true := by decide +kernel
theorem w_running : about1.status = .running := rfl
set_option maxRecDepth 65536 in
theorem w_room : about1.hasRoom e0.platform room_1 = true :=
  launch0.hasRoom_least _ room_1 (by decide +kernel) (by decide +kernel) (by decide +kernel) (by decide +kernel) (by decide +kernel) (by decide +kernel)
theorem allAtoms_all (ts : List Jvm.Cond) (a : Array Jvm.Value) (st : Jvm.State) : (allAtoms ts).before a st = ts.all (fun c => c.before a st) := by
  induction ts with
  | nil => rfl
  | cons c t ih =>
    show (Jvm.Cond.and c (allAtoms t)).before a st = _
    rw [Jvm.Cond.before_and, ih, List.all_cons]
def words1 : List Jvm.Cond := Jvm.Cond.code x code maxLocals ret :: tables_1
/-- a 'code' word, met by the world's own term for the bytes: nothing is compared byte by byte -/
theorem code_word {y : MethodName} {bytes : ByteArray} {mx : Nat} {rt : Option FieldType} {a : Array Value} {s : State} {m : MethodId} {meth : Method} {c : Code} (h1 : s.methodNamed? y = some m) (h2 : s.vm.method? m = some meth) (h3 : meth.code = some c) (h4 : c.code = bytes)
    (h5 : (c.maxLocals == mx && c.exceptionTable.isEmpty && decide (c.maxStack ≤ mostOperands) && decide (meth.sig.returnType = rt) && !meth.locks && decide (parseMethodDescriptor y.desc = some meth.sig)) = true) : (Jvm.Cond.code y bytes mx rt).before a s = true := by
  simp only [Bool.and_eq_true, beq_iff_eq, Bool.not_eq_true', decide_eq_true_eq] at h5
  obtain ⟨⟨⟨⟨⟨g1, g2⟩, g3⟩, g4⟩, g5⟩, g6⟩ := h5
  simp [Cond.before, Cond.holds, Cond.value, h1, h2, h3, h4, g1, g2, g3, g4, g5, g6]
def isCode : Jvm.Cond → Bool
  | .code _ _ _ _ => true
  | _ => false
theorem all_split {L : List Jvm.Cond} {P : Jvm.Cond → Bool} (h1 : L.all (fun c => isCode c || P c) = true) (h2 : ∀ c ∈ L.filter isCode, P c = true) : L.all P = true := by
  refine List.all_eq_true.mpr fun c hc => ?_
  have h := List.all_eq_true.mp h1 c hc
  rcases Bool.eq_false_or_eq_true (isCode c) with hi | hi
  · exact h2 c (List.mem_filter.mpr ⟨hc, hi⟩)
  · simpa [hi] using h
set_option maxRecDepth 65536 in
theorem w_c0 : (Jvm.Cond.code x code maxLocals ret).before args0 about1 = true := code_word (m := ⟨1, 2⟩) (meth := k1m2) (c := k1c2) (by decide +kernel) rfl rfl rfl (by decide +kernel)
set_option maxRecDepth 65536 in
theorem w_c1 : (Jvm.Cond.code ({ cls := "com/example/assay_runner/assayrunner/report/ReportPage$Counts", name := "<init>", desc := "(III)V" } : Jvm.MethodName) prog_60_method_1_code (4 : Nat) (Option.none : Option Jvm.ClassFile.FieldType)).before args0 about1 = true := code_word (m := ⟨3, 0⟩) (meth := k3m0) (c := k3c0) (by decide +kernel) rfl rfl rfl (by decide +kernel)
set_option maxRecDepth 65536 in
theorem w_c2 : (Jvm.Cond.code ({ cls := "java/lang/Record", name := "<init>", desc := "()V" } : Jvm.MethodName) jdk_30_method_1_code (1 : Nat) (Option.none : Option Jvm.ClassFile.FieldType)).before args0 about1 = true := code_word (m := ⟨2, 0⟩) (meth := k2m0) (c := k2c0) (by decide +kernel) rfl rfl rfl (by decide +kernel)
set_option maxRecDepth 65536 in
theorem w_c3 : (Jvm.Cond.code ({ cls := "java/lang/Object", name := "<init>", desc := "()V" } : Jvm.MethodName) object_method_1_code (1 : Nat) (Option.none : Option Jvm.ClassFile.FieldType)).before args0 about1 = true := code_word (m := ⟨0, 0⟩) (meth := k0m0) (c := k0c0) (by decide +kernel) rfl rfl rfl (by decide +kernel)
set_option maxRecDepth 65536 in
theorem w_c4 : (Jvm.Cond.code ({ cls := "com/example/assay_runner/assayrunner/report/ReportPage$Counts", name := "skipped", desc := "()I" } : Jvm.MethodName) prog_60_method_4_code (1 : Nat) (Option.some Jvm.ClassFile.FieldType.int)).before args0 about1 = true := code_word (m := ⟨3, 3⟩) (meth := k3m3) (c := k3c3) (by decide +kernel) rfl rfl rfl (by decide +kernel)
set_option maxRecDepth 65536 in
theorem w_c5 : (Jvm.Cond.code ({ cls := "com/example/assay_runner/assayrunner/report/ReportPage$Counts", name := "unpassed", desc := "()I" } : Jvm.MethodName) prog_60_method_3_code (1 : Nat) (Option.some Jvm.ClassFile.FieldType.int)).before args0 about1 = true := code_word (m := ⟨3, 2⟩) (meth := k3m2) (c := k3c2) (by decide +kernel) rfl rfl rfl (by decide +kernel)
set_option maxRecDepth 65536 in
theorem w_c6 : (Jvm.Cond.code ({ cls := "com/example/assay_runner/assayrunner/report/ReportPage$Counts", name := "failed", desc := "()I" } : Jvm.MethodName) prog_60_method_10_code (1 : Nat) (Option.some Jvm.ClassFile.FieldType.int)).before args0 about1 = true := code_word (m := ⟨3, 4⟩) (meth := k3m4) (c := k3c4) (by decide +kernel) rfl rfl rfl (by decide +kernel)
set_option maxRecDepth 65536 in
theorem w_c7 : (Jvm.Cond.code ({ cls := "com/example/assay_runner/assayrunner/report/CountsSkippedPinLaw", name := "status", desc := "(I)Lcom/example/assay_runner/assayrunner/report/ReportPage$Status;" } : Jvm.MethodName) method_2_code (2 : Nat) (Option.some (Jvm.ClassFile.FieldType.object "com/example/assay_runner/assayrunner/report/ReportPage$Status"))).before args0 about1 = true := code_word (m := ⟨1, 1⟩) (meth := k1m1) (c := k1c1) (by decide +kernel) rfl rfl rfl (by decide +kernel)
set_option maxRecDepth 65536 in
theorem w_c8 : (Jvm.Cond.code ({ cls := "com/example/assay_runner/assayrunner/report/ReportPage$Counts", name := "with", desc := "(Lcom/example/assay_runner/assayrunner/report/ReportPage$Status;)Lcom/example/assay_runner/assayrunner/report/ReportPage$Counts;" } : Jvm.MethodName) prog_60_method_2_code (2 : Nat) (Option.some (Jvm.ClassFile.FieldType.object "com/example/assay_runner/assayrunner/report/ReportPage$Counts"))).before args0 about1 = true := code_word (m := ⟨3, 1⟩) (meth := k3m1) (c := k3c1) (by decide +kernel) rfl rfl rfl (by decide +kernel)
def codes1 : List Jvm.Cond := [Jvm.Cond.code x code maxLocals ret, Jvm.Cond.code ({ cls := "com/example/assay_runner/assayrunner/report/ReportPage$Counts", name := "<init>", desc := "(III)V" } : Jvm.MethodName) prog_60_method_1_code (4 : Nat) (Option.none : Option Jvm.ClassFile.FieldType), Jvm.Cond.code ({ cls := "java/lang/Record", name := "<init>", desc := "()V" } : Jvm.MethodName) jdk_30_method_1_code (1 : Nat) (Option.none : Option Jvm.ClassFile.FieldType), Jvm.Cond.code ({ cls := "java/lang/Object", name := "<init>", desc := "()V" } : Jvm.MethodName) object_method_1_code (1 : Nat) (Option.none : Option Jvm.ClassFile.FieldType), Jvm.Cond.code ({ cls := "com/example/assay_runner/assayrunner/report/ReportPage$Counts", name := "skipped", desc := "()I" } : Jvm.MethodName) prog_60_method_4_code (1 : Nat) (Option.some Jvm.ClassFile.FieldType.int), Jvm.Cond.code ({ cls := "com/example/assay_runner/assayrunner/report/ReportPage$Counts", name := "unpassed", desc := "()I" } : Jvm.MethodName) prog_60_method_3_code (1 : Nat) (Option.some Jvm.ClassFile.FieldType.int), Jvm.Cond.code ({ cls := "com/example/assay_runner/assayrunner/report/ReportPage$Counts", name := "failed", desc := "()I" } : Jvm.MethodName) prog_60_method_10_code (1 : Nat) (Option.some Jvm.ClassFile.FieldType.int), Jvm.Cond.code ({ cls := "com/example/assay_runner/assayrunner/report/CountsSkippedPinLaw", name := "status", desc := "(I)Lcom/example/assay_runner/assayrunner/report/ReportPage$Status;" } : Jvm.MethodName) method_2_code (2 : Nat) (Option.some (Jvm.ClassFile.FieldType.object "com/example/assay_runner/assayrunner/report/ReportPage$Status")), Jvm.Cond.code ({ cls := "com/example/assay_runner/assayrunner/report/ReportPage$Counts", name := "with", desc := "(Lcom/example/assay_runner/assayrunner/report/ReportPage$Status;)Lcom/example/assay_runner/assayrunner/report/ReportPage$Counts;" } : Jvm.MethodName) prog_60_method_2_code (2 : Nat) (Option.some (Jvm.ClassFile.FieldType.object "com/example/assay_runner/assayrunner/report/ReportPage$Counts"))]
set_option maxRecDepth 65536 in
theorem codes_eq : words1.filter isCode = codes1 := rfl
theorem w_codes : ∀ c ∈ words1.filter isCode, c.before args0 about1 = true := by
  rw [codes_eq]
  intro c hc
  simp only [codes1, List.mem_cons, List.not_mem_nil, or_false] at hc
  rcases hc with rfl | rfl | rfl | rfl | rfl | rfl | rfl | rfl | rfl
  · exact w_c0
  · exact w_c1
  · exact w_c2
  · exact w_c3
  · exact w_c4
  · exact w_c5
  · exact w_c6
  · exact w_c7
  · exact w_c8
set_option maxRecDepth 65536 in
theorem w_t1 : (words1.take 24).all (fun c => isCode c || c.before args0 about1) = true := by decide +kernel
set_option maxRecDepth 65536 in
theorem w_t2 : ((words1.drop 24).take 24).all (fun c => isCode c || c.before args0 about1) = true := by decide +kernel
set_option maxRecDepth 65536 in
theorem w_t3 : ((words1.drop 24).drop 24).all (fun c => isCode c || c.before args0 about1) = true := by decide +kernel
theorem w_tables : (allAtoms (Jvm.Cond.code x code maxLocals ret :: tables_1)).before args0 about1 = true := by
  rw [allAtoms_all]
  show words1.all (fun c => c.before args0 about1) = true
  refine all_split ?_ w_codes
  rw [← List.take_append_drop 24 words1, List.all_append, w_t1, ← List.take_append_drop 24 (words1.drop 24), List.all_append, w_t2, w_t3]
  rfl
set_option maxRecDepth 65536 in
theorem w_case : (Jvm.Cond.and given_1 narrow_1).before args0 about1 = true := by decide +kernel
theorem w_applies : (headSpec (Jvm.Cond.code x code maxLocals ret :: tables_1) room_1).applies x e0.platform about1 = true :=
  (Spec.applies_iff w_frames).mpr ⟨w_running, w_runnable, w_alone, w_named, w_hears, w_ripe, w_room, w_tables⟩
theorem atStart : AtStart classFile x code maxLocals ret World_1 tables_1 room_1 Calls_1 rest_1 Pre_1 launch0 p0 e0 about1 theMethod args0 below0 :=
  ⟨lists_1, trivial, launch0.admits_env _ _ _, launch0.least_env, fairChoices_fair.cas, fairChoices_fair.clock, w_frames, w_args, w_heap, w_applies, trivial, trivial, w_case⟩
end start1
theorem witness_1 : WitnessClaimed_1 := ⟨start1.p0, start1.e0, start1.about1, start1.theMethod, start1.args0, start1.below0, start1.atStart⟩
end Jvm.Pilot.@@N@@
