import JvmDerived
import JvmDerived.Pilot.@@N@@Statement
import JvmDerived.Pilot.@@N@@Code
set_option linter.unusedVariables false
set_option linter.unusedSimpArgs false
namespace Jvm.Pilot.@@N@@
open Jvm Jvm.ClassFile Sem Op Lib Jvm.Free Jvm.Stand Jvm.LawKit Jvm.RoadKit Bundle Jvm.Pilot.@@N@@.Jvm.D
/-! what is left of a run (own_Dn) and the steps towards it: a walk goes FORWARD, goal by goal, and may fork anywhere -/
section Own
variable {p : Program} {l : Launch} {e : Env} {R : Room} {s : State} {m : MethodId} {args : Array Value} {below : List Frame} {meth : Method} {c : Code} {T : State} {locs : List Loc} {cells slots : Nat} {Z : State} {a0 : Array Value} {h : Heap}
def own_Dn (p : Program) (e : Env) (below : List Frame) (G : State → Outcome → Prop) (A : State) : Prop :=
  ∃ s₂ o, Steps p.tables e below A s₂ ∧ s₂.status = .running ∧ Ended s₂ below o ∧ G s₂ o
abbrev own_Ret (s : State) (Q : Option Value → Heap → List Loc → Prop) (k n : Nat) : State → Outcome → Prop :=
  fun s₂ o => ∃ v L, o = .returned v ∧ Q v s₂.heap L ∧ FrameEnd s o s₂ L k n
theorem own_st {G : State → Outcome → Prop} {A B : State} (k : ∀ t, Steps p.tables e below B t → Steps p.tables e below A t) (d : own_Dn p e below G B) : own_Dn p e below G A := by
  obtain ⟨n, o, h1, h2⟩ := d
  exact ⟨n, o, k n h1, h2⟩
theorem own_to {G : State → Outcome → Prop} {A B : State} (k : Steps p.tables e below A B) (d : own_Dn p e below G B) : own_Dn p e below G A := by
  obtain ⟨n, o, h1, h2⟩ := d
  exact ⟨n, o, k.trans h1, h2⟩
theorem own_ret {Q : Option Value → Heap → List Loc → Prop} {v : Option Value} {k n : Nat} {g : JFrame} (X : Stand p l e R s m args below meth c T locs cells slots) (hlk : meth.locks = false) (hv : meth.sig.returnType = none → v = none)
    (hstep : ∀ fs, (∀ (f : JFrame) (acts : List Action), f.method = m → f.locked = none → f.entered = [] → (doReturn e (T.setTop f) acts v).1 = T.setFrames fs) → Steps p.tables e below (T.setTop g) (T.setFrames fs))
    (hQ : Q v T.heap locs) (hk : cells ≤ k) (hn : slots ≤ n) : own_Dn p e below (own_Ret s Q k n) (T.setTop g) := by
  obtain ⟨fs, hr, hrun, hended, hW, hsame⟩ := X.leave (v := v) hv hlk
  exact ⟨_, _, hstep fs hr, hrun, hended, v, locs, rfl, hQ, ⟨_, rfl⟩, hW, hsame.mono hk hn⟩
/-- a return of nothing -/
theorem own_retV {Q : Option Value → Heap → List Loc → Prop} {k n pc : Nat} {Ls : Array Slot} (X : Stand p l e R s m args below meth c T locs cells slots) (hx : p.tables.exec = Jvm.exec) (hlk : meth.locks = false) (hret : meth.sig.returnType = none)
    (hd : decode c.code pc = .ok (.return_, 1)) (hQ : Q none T.heap locs) (hk : cells ≤ k) (hn : slots ≤ n) : own_Dn p e below (own_Ret s Q k n) (T.setTop (mkF m pc Ls [])) :=
  own_ret X hlk (fun _ => rfl) (fun _ hr => X.returnOut hx hret hd hr) hQ hk hn
/-- a return of a value of the return type's kind -/
theorem own_retW {Q : Option Value → Heap → List Loc → Prop} {k n pc : Nat} {Ls : Array Slot} {w : Value} {t : FieldType} {i : Instr} {rest : List Value} (X : Stand p l e R s m args below meth c T locs cells slots) (hx : p.tables.exec = Jvm.exec) (hlk : meth.locks = false)
    (hret : meth.sig.returnType = some t) (hnr : narrow t w = w)
    (hi : (i = .ireturn ∧ (t = .int ∨ t = .boolean ∨ t = .byte ∨ t = .char ∨ t = .short) ∧ ∃ z, w = .int z) ∨ (i = .lreturn ∧ t = .long ∧ ∃ z, w = .long z) ∨ (i = .dreturn ∧ t = .double ∧ ∃ z, w = .double z) ∨ (i = .freturn ∧ t = .float ∧ ∃ z, w = .float z) ∨ (i = .areturn ∧ t.isReference = true ∧ w.isRef = true))
    (hd : decode c.code pc = .ok (i, 1)) (hQ : Q (some w) T.heap locs) (hk : cells ≤ k) (hn : slots ≤ n) : own_Dn p e below (own_Ret s Q k n) (T.setTop (mkF m pc Ls (w :: rest))) :=
  own_ret X hlk (fun h => by rw [hret] at h; cases h) (fun _ hr => retOut X hx hret hnr hi hd hr) hQ hk hn
theorem own_retI {Q : Option Value → Heap → List Loc → Prop} {k n pc : Nat} {Ls : Array Slot} {z : Int32} {rest : List Value} (X : Stand p l e R s m args below meth c T locs cells slots) (hx : p.tables.exec = Jvm.exec) (hlk : meth.locks = false)
    (hret : meth.sig.returnType = some .int) (hd : decode c.code pc = .ok (.ireturn, 1)) (hQ : Q (some (.int z)) T.heap locs) (hk : cells ≤ k) (hn : slots ≤ n) : own_Dn p e below (own_Ret s Q k n) (T.setTop (mkF m pc Ls (.int z :: rest))) :=
  own_retW X hx hlk hret rfl (Or.inl ⟨rfl, Or.inl rfl, z, rfl⟩) hd hQ hk hn
theorem own_retJ {Q : Option Value → Heap → List Loc → Prop} {k n pc : Nat} {Ls : Array Slot} {z : Int64} {rest : List Value} (X : Stand p l e R s m args below meth c T locs cells slots) (hx : p.tables.exec = Jvm.exec) (hlk : meth.locks = false)
    (hret : meth.sig.returnType = some .long) (hd : decode c.code pc = .ok (.lreturn, 1)) (hQ : Q (some (.long z)) T.heap locs) (hk : cells ≤ k) (hn : slots ≤ n) : own_Dn p e below (own_Ret s Q k n) (T.setTop (mkF m pc Ls (.long z :: rest))) :=
  own_retW X hx hlk hret rfl (Or.inr (Or.inl ⟨rfl, rfl, z, rfl⟩)) hd hQ hk hn
theorem own_retA {Q : Option Value → Heap → List Loc → Prop} {k n pc : Nat} {Ls : Array Slot} {a : Addr} {t : FieldType} {rest : List Value} (X : Stand p l e R s m args below meth c T locs cells slots) (hx : p.tables.exec = Jvm.exec) (hlk : meth.locks = false)
    (hret : meth.sig.returnType = some t) (ht : t.isReference = true) (hd : decode c.code pc = .ok (.areturn, 1)) (hQ : Q (some (.ref a)) T.heap locs) (hk : cells ≤ k) (hn : slots ≤ n) : own_Dn p e below (own_Ret s Q k n) (T.setTop (mkF m pc Ls (.ref a :: rest))) :=
  own_retW X hx hlk hret (by cases t <;> first | rfl | (simp [FieldType.isReference] at ht)) (Or.inr (Or.inr (Or.inr (Or.inr ⟨rfl, ht, rfl⟩)))) hd hQ hk hn
/-- a boolean, byte, char or short -/
theorem own_retN {Q : Option Value → Heap → List Loc → Prop} {k n pc : Nat} {Ls : Array Slot} {z : Int32} {t : FieldType} {rest : List Value} (X : Stand p l e R s m args below meth c T locs cells slots) (hx : p.tables.exec = Jvm.exec) (hlk : meth.locks = false)
    (hret : meth.sig.returnType = some t) (ht : t = .boolean ∨ t = .byte ∨ t = .char ∨ t = .short) (hd : decode c.code pc = .ok (.ireturn, 1)) (hQ : Q (some (.int (nar t z))) T.heap locs) (hk : cells ≤ k) (hn : slots ≤ n) : own_Dn p e below (own_Ret s Q k n) (T.setTop (mkF m pc Ls (.int z :: rest))) :=
  own_ret X hlk (fun h => by rw [hret] at h; cases h) (fun _ hr => retN X hx hret ht hd hr) hQ hk hn
/-- a static call by the callee's contract -/
theorem own_callS {rm : Room} {W : Nat} {as' : Array Value} {Q : Option Value → Heap → List Loc → Prop} {own : String} {index : Nat} {y : MethodName} {bytes : ByteArray} {maxL : Nat} {ret : Option FieldType} (X : Stand p l e R s m args below meth c T locs cells slots) (hx : p.tables.exec = Jvm.exec) (hZ : Z.Warmed39 s.vm)
    (hown : s.vm.findClass own = some m.cls) (w1 : (Cond.methodLink own index y).before a0 Z = true) (w2 : (Cond.static y).before a0 Z = true) (w3 : (Cond.initialized y.cls).before a0 Z = true) (w4 : (Cond.code y bytes maxL ret).before a0 Z = true) (hy : y.cls ≠ "java/lang/invoke/MethodHandle" ∧ y.cls ≠ "java/lang/invoke/VarHandle")
    (eT : T.heap = h) (hM : MetFree l y (head1 [Cond.code y bytes maxL ret] rm) (fun a U => a = as' ∧ Z.Warmed39 U.vm ∧ U.heap = h) (fun _ _ _ _ _ => True) (fun _ U o U' => ∃ v L, o = .returned v ∧ Q v U'.heap L ∧ FrameEnd U o U' L rm.cells rm.slots))
    {g : JFrame} (hg : g.method = m) (hsize : g.locals.size = c.maxLocals) {argsL rest : List Value} (hlen : ∀ sig, parseMethodDescriptor y.desc = some sig → argsL.length = sig.parameters.length) (hstack : g.stack = argsL.reverse ++ rest) (has : argsL.toArray = as') (hW : 2 * g.monitorRoom + (rest.map fun v => v.category).sum ≤ W)
    (hdg : decode c.code g.pc = .ok (.invokestatic index, 3)) (hf : rm.frames + 1 ≤ R.frames) (hl : W + (maxL + 11) + rm.locals ≤ R.locals) (hc : cells + rm.cells ≤ R.cells) (hsl : slots + rm.slots ≤ R.slots) :
    ∃ v T' L, Stand p l e R s m args below meth c T' (locs ++ L) (cells + rm.cells) (slots + rm.slots) ∧ Q v T'.heap L ∧
      ∀ t, Steps p.tables e below (T'.setTop { g with pc := g.pc + 3, stack := v.toList ++ rest }) t → Steps p.tables e below (T.setTop g) t := by
  obtain ⟨v, _, ⟨T', L, k', n'⟩, -, X', ⟨Lc, hQ, l1, l2, l3⟩, st⟩ := Jvm.LawKit.callS X hx hown (mvT hZ w1) (mvT hZ w2) (mvT hZ w3) (mvT hZ w4) hy (backOf (W := W) hM hZ w4 w3 hf hl) hg hsize hlen hstack hW hdg (fun _ _ => ⟨has, eT, hc, hsl⟩)
  dsimp only [Pt.U, Pt.locs, Pt.cells, Pt.slots] at X' l1 l2 l3 st hQ
  subst l1 l2 l3
  exact ⟨v, T', Lc, X', hQ, st⟩
/-- a constructor by its contract -/
theorem own_callN {rm : Room} {W : Nat} {as' : Array Value} {Q : Option Value → Heap → List Loc → Prop} {own : String} {index : Nat} {y : MethodName} {bytes : ByteArray} {maxL : Nat} (X : Stand p l e R s m args below meth c T locs cells slots) (hx : p.tables.exec = Jvm.exec) (hZ : Z.Warmed39 s.vm) (hy1 : y.name = "<init>")
    (hown : s.vm.findClass own = some m.cls) (w1 : (Cond.methodLink own index y).before a0 Z = true) (w2 : (Cond.instanceMethod y).before a0 Z = true) (w3 : (Cond.initialized y.cls).before a0 Z = true) (w4 : (Cond.code y bytes maxL none).before a0 Z = true) (hy : y.cls ≠ "java/lang/invoke/MethodHandle" ∧ y.cls ≠ "java/lang/invoke/VarHandle")
    (eT : T.heap = h) (hM : MetFree l y (head1 [Cond.code y bytes maxL none] rm) (fun a U => a = as' ∧ Z.Warmed39 U.vm ∧ U.heap = h) (fun _ _ _ _ _ => True) (fun _ U o U' => ∃ v L, o = .returned v ∧ Q v U'.heap L ∧ FrameEnd U o U' L rm.cells rm.slots))
    {g : JFrame} (hg : g.method = m) (hsize : g.locals.size = c.maxLocals) {a : Addr} {argsL rest : List Value} (hlen : ∀ sig, parseMethodDescriptor y.desc = some sig → argsL.length = sig.parameters.length) (hstack : g.stack = argsL.reverse ++ .ref a :: rest) (has : (.ref a :: argsL).toArray = as') (hW : 2 * g.monitorRoom + (rest.map fun v => v.category).sum ≤ W)
    (hdg : decode c.code g.pc = .ok (.invokespecial index, 3)) (hf : rm.frames + 1 ≤ R.frames) (hl : W + (maxL + 11) + rm.locals ≤ R.locals) (hc : cells + rm.cells ≤ R.cells) (hsl : slots + rm.slots ≤ R.slots) :
    ∃ v T' L, Stand p l e R s m args below meth c T' (locs ++ L) (cells + rm.cells) (slots + rm.slots) ∧ Q v T'.heap L ∧
      ∀ t, Steps p.tables e below (T'.setTop { g with pc := g.pc + 3, stack := v.toList ++ rest }) t → Steps p.tables e below (T.setTop g) t := by
  obtain ⟨v, _, ⟨T', L, k', n'⟩, -, X', ⟨Lc, hQ, l1, l2, l3⟩, st⟩ := X.specialBack hx hy1 hown (mvT hZ w1) (mvT hZ w2) (mvT hZ w4) hy (backOf (W := W) hM hZ w4 w3 hf hl) hg hsize (Steps.refl _) hlen hstack hW hdg (fun _ _ => ⟨has, eT, hc, hsl⟩)
  dsimp only [Pt.U, Pt.locs, Pt.cells, Pt.slots] at X' l1 l2 l3 st hQ
  subst l1 l2 l3
  exact ⟨v, T', Lc, X', hQ, fun t k => st.trans k⟩
/-- a constructor by a payer that is at hand -/
theorem own_callNK {mc ms W : Nat} {as' : Array Value} {Q : Option Value → Heap → List Loc → Prop} {own : String} {index : Nat} {y : MethodName} {bytes : ByteArray} {maxL : Nat} (X : Stand p l e R s m args below meth c T locs cells slots) (hx : p.tables.exec = Jvm.exec) (hZ : Z.Warmed39 s.vm) (hy1 : y.name = "<init>")
    (hown : s.vm.findClass own = some m.cls) (w1 : (Cond.methodLink own index y).before a0 Z = true) (w2 : (Cond.instanceMethod y).before a0 Z = true) (w4 : (Cond.code y bytes maxL none).before a0 Z = true) (hy : y.cls ≠ "java/lang/invoke/MethodHandle" ∧ y.cls ≠ "java/lang/invoke/VarHandle")
    (eT : T.heap = h) (hK : Back l R p e below s args y 3 W (fun A a => a = as' ∧ A.U.heap = h ∧ A.cells + mc ≤ R.cells ∧ A.slots + ms ≤ R.slots) (fun A _ v B => ∃ L, Q v B.U.heap L ∧ B.locs = A.locs ++ L ∧ B.cells = A.cells + mc ∧ B.slots = A.slots + ms))
    {g : JFrame} (hg : g.method = m) (hsize : g.locals.size = c.maxLocals) {a : Addr} {argsL rest : List Value} (hlen : ∀ sig, parseMethodDescriptor y.desc = some sig → argsL.length = sig.parameters.length) (hstack : g.stack = argsL.reverse ++ .ref a :: rest) (has : (.ref a :: argsL).toArray = as') (hW : 2 * g.monitorRoom + (rest.map fun v => v.category).sum ≤ W)
    (hdg : decode c.code g.pc = .ok (.invokespecial index, 3)) (hc : cells + mc ≤ R.cells) (hsl : slots + ms ≤ R.slots) :
    ∃ v T' L, Stand p l e R s m args below meth c T' (locs ++ L) (cells + mc) (slots + ms) ∧ Q v T'.heap L ∧
      ∀ t, Steps p.tables e below (T'.setTop { g with pc := g.pc + 3, stack := v.toList ++ rest }) t → Steps p.tables e below (T.setTop g) t := by
  obtain ⟨v, _, ⟨T', L, k', n'⟩, -, X', ⟨Lc, hQ, l1, l2, l3⟩, st⟩ := X.specialBack hx hy1 hown (mvT hZ w1) (mvT hZ w2) (mvT hZ w4) hy hK hg hsize (Steps.refl _) hlen hstack hW hdg (fun _ _ => ⟨has, eT, hc, hsl⟩)
  dsimp only [Pt.U, Pt.locs, Pt.cells, Pt.slots] at X' l1 l2 l3 st hQ
  subst l1 l2 l3
  exact ⟨v, T', Lc, X', hQ, fun t k => st.trans k⟩
/-- a virtual call by the contract of the method that is selected (declared by a class, the receiver exactly of the class C) -/
theorem own_callV {rm : Room} {W : Nat} {as' : Array Value} {Q : Option Value → Heap → List Loc → Prop} {own C : String} {index : Nat} {y z : MethodName} {bytes : ByteArray} {maxL : Nat} {ret : Option FieldType} (X : Stand p l e R s m args below meth c T locs cells slots) (hx : p.tables.exec = Jvm.exec) (hZ : Z.Warmed39 s.vm)
    (hown : s.vm.findClass own = some m.cls) (w1 : (Cond.methodLink own index y).before a0 Z = true) (w2 : (Cond.declares y).before a0 Z = true) (hnf : NotFace s y) (w5 : (Cond.selects C y z).before a0 Z = true) (w6 : (Cond.instanceMethod z).before a0 Z = true) (w3 : (Cond.initialized z.cls).before a0 Z = true) (w4 : (Cond.code z bytes maxL ret).before a0 Z = true) (hy : y.cls ≠ "java/lang/invoke/MethodHandle" ∧ y.cls ≠ "java/lang/invoke/VarHandle")
    (eT : T.heap = h) (hM : MetFree l z (head1 [Cond.code z bytes maxL ret] rm) (fun a U => a = as' ∧ Z.Warmed39 U.vm ∧ U.heap = h) (fun _ _ _ _ _ => True) (fun _ U o U' => ∃ v L, o = .returned v ∧ Q v U'.heap L ∧ FrameEnd U o U' L rm.cells rm.slots))
    {a : Addr} (E : Exa Z h a C) {g : JFrame} (hg : g.method = m) (hsize : g.locals.size = c.maxLocals) {argsL rest : List Value} (hlen : ∀ sig, parseMethodDescriptor y.desc = some sig → argsL.length = sig.parameters.length) (hstack : g.stack = argsL.reverse ++ .ref a :: rest) (has : (.ref a :: argsL).toArray = as') (hW : 2 * g.monitorRoom + (rest.map fun v => v.category).sum ≤ W)
    (hdg : decode c.code g.pc = .ok (.invokevirtual index, 3)) (hf : rm.frames + 1 ≤ R.frames) (hl : W + (maxL + 11) + rm.locals ≤ R.locals) (hc : cells + rm.cells ≤ R.cells) (hsl : slots + rm.slots ≤ R.slots) :
    ∃ v T' L, Stand p l e R s m args below meth c T' (locs ++ L) (cells + rm.cells) (slots + rm.slots) ∧ Q v T'.heap L ∧
      ∀ t, Steps p.tables e below (T'.setTop { g with pc := g.pc + 3, stack := v.toList ++ rest }) t → Steps p.tables e below (T.setTop g) t := by
  obtain ⟨cq, kq, qa, qb, qc⟩ := isOf hZ eT E
  obtain ⟨v, _, ⟨T', L, k', n'⟩, -, X', ⟨Lc, hQ, l1, l2, l3⟩, st⟩ := X.virtualBack hx hown (mvT hZ w1) (mvT hZ w2) hnf (mvT hZ w5) (mvT hZ w6) hy (backOf (W := W) hM hZ w4 w3 hf hl) qa qc hg hsize (Steps.refl _) hlen hstack hW hdg (fun _ _ => ⟨has, eT, hc, hsl⟩)
  dsimp only [Pt.U, Pt.locs, Pt.cells, Pt.slots] at X' l1 l2 l3 st hQ
  subst l1 l2 l3
  exact ⟨v, T', Lc, X', hQ, fun t k => st.trans k⟩
/-- a virtual call of a method that the named class inherits from 'owner' -/
theorem own_callU {rm : Room} {W : Nat} {as' : Array Value} {Q : Option Value → Heap → List Loc → Prop} {own C owner : String} {index : Nat} {y z : MethodName} {bytes : ByteArray} {maxL : Nat} {ret : Option FieldType} (X : Stand p l e R s m args below meth c T locs cells slots) (hx : p.tables.exec = Jvm.exec) (hZ : Z.Warmed39 s.vm)
    (hown : s.vm.findClass own = some m.cls) (w1 : (Cond.methodLink own index y).before a0 Z = true) (w2 : (Cond.sameMethod y.cls owner y.name y.desc).before a0 Z = true) (w7 : (Cond.declares ⟨owner, y.name, y.desc⟩).before a0 Z = true) (ho : owner ≠ "java/lang/invoke/MethodHandle" ∧ owner ≠ "java/lang/invoke/VarHandle") (w5 : (Cond.selects C y z).before a0 Z = true) (w6 : (Cond.instanceMethod z).before a0 Z = true) (w3 : (Cond.initialized z.cls).before a0 Z = true) (w4 : (Cond.code z bytes maxL ret).before a0 Z = true)
    (eT : T.heap = h) (hM : MetFree l z (head1 [Cond.code z bytes maxL ret] rm) (fun a U => a = as' ∧ Z.Warmed39 U.vm ∧ U.heap = h) (fun _ _ _ _ _ => True) (fun _ U o U' => ∃ v L, o = .returned v ∧ Q v U'.heap L ∧ FrameEnd U o U' L rm.cells rm.slots))
    {a : Addr} (E : Exa Z h a C) {g : JFrame} (hg : g.method = m) (hsize : g.locals.size = c.maxLocals) {argsL rest : List Value} (hlen : ∀ sig, parseMethodDescriptor y.desc = some sig → argsL.length = sig.parameters.length) (hstack : g.stack = argsL.reverse ++ .ref a :: rest) (has : (.ref a :: argsL).toArray = as') (hW : 2 * g.monitorRoom + (rest.map fun v => v.category).sum ≤ W)
    (hdg : decode c.code g.pc = .ok (.invokevirtual index, 3)) (hf : rm.frames + 1 ≤ R.frames) (hl : W + (maxL + 11) + rm.locals ≤ R.locals) (hc : cells + rm.cells ≤ R.cells) (hsl : slots + rm.slots ≤ R.slots) :
    ∃ v T' L, Stand p l e R s m args below meth c T' (locs ++ L) (cells + rm.cells) (slots + rm.slots) ∧ Q v T'.heap L ∧
      ∀ t, Steps p.tables e below (T'.setTop { g with pc := g.pc + 3, stack := v.toList ++ rest }) t → Steps p.tables e below (T.setTop g) t := by
  obtain ⟨cq, kq, qa, qb, qc⟩ := isOf hZ eT E
  obtain ⟨v, _, ⟨T', L, k', n'⟩, -, X', ⟨Lc, hQ, l1, l2, l3⟩, st⟩ := X.virtualBackUp hx hown (mvT hZ w1) (mvT hZ w2) (mvT hZ w7) ho (mvT hZ w5) (mvT hZ w6) (backOf (W := W) hM hZ w4 w3 hf hl) qa qc hg hsize (Steps.refl _) hlen hstack hW hdg (fun _ _ => ⟨has, eT, hc, hsl⟩)
  dsimp only [Pt.U, Pt.locs, Pt.cells, Pt.slots] at X' l1 l2 l3 st hQ
  subst l1 l2 l3
  exact ⟨v, T', Lc, X', hQ, fun t k => st.trans k⟩
theorem own_lrem {g : JFrame} {target : State} (X : Stand p l e R s m args below meth c T locs cells slots) (hx : p.tables.exec = Jvm.exec) (hg : g.method = m) {x y : Int64} {rest : List Value} (hd : decode c.code g.pc = .ok (.lrem, 1)) (hs : g.stack = .long y :: .long x :: rest) (hy : y ≠ 0)
    (hr : Steps p.tables e below (T.setTop { g with pc := g.pc + 1, stack := .long (x % y) :: rest }) target) : Steps p.tables e below (T.setTop g) target :=
  XS.lrem X.here hx hg hd hs hy (by rw [lrem_mod]; exact hr)
end Own
/-! ints as integers -/
theorem own_tL {x y : Int32} (h : x < y) : x.toInt < y.toInt := Int32.lt_iff_toInt_lt.mp h
theorem own_tLn {x y : Int32} (h : ¬ x < y) : ¬ x.toInt < y.toInt := fun q => h (Int32.lt_iff_toInt_lt.mpr q)
theorem own_tE {x y : Int32} (h : x = y) : x.toInt = y.toInt := congrArg _ h
theorem own_tEn {x y : Int32} (h : ¬ x = y) : ¬ x.toInt = y.toInt := fun q => h (Int32.toInt_inj.mp q)
theorem own_uL {x y : Int64} (h : x < y) : x.toInt < y.toInt := Int64.lt_iff_toInt_lt.mp h
theorem own_uLn {x y : Int64} (h : ¬ x < y) : ¬ x.toInt < y.toInt := fun q => h (Int64.lt_iff_toInt_lt.mpr q)
theorem own_uE {x y : Int64} (h : x = y) : x.toInt = y.toInt := congrArg _ h
theorem own_uEn {x y : Int64} (h : ¬ x = y) : ¬ x.toInt = y.toInt := fun q => h (Int64.toInt_inj.mp q)
def own_sel (x y : Int) (aS aX aL aN : Addr) : Addr := if x < 470 ∧ y < 470 then aS else if (960 ≤ x ∧ 720 ≤ y) ∨ (960 ≤ y ∧ 720 ≤ x) then aX else if (640 ≤ x ∧ 480 ≤ y) ∨ (640 ≤ y ∧ 480 ≤ x) then aL else aN
theorem own_sel_comm (x y : Int) (aS aX aL aN : Addr) : own_sel y x aS aX aL aN = own_sel x y aS aX aL aN := by
  unfold own_sel
  (repeat' split) <;> first | rfl | (exfalso; omega)
theorem own_flag1 {A : Prop} {z : Int32} (h : (z = 1 ∧ A) ∨ (z = 0 ∧ ¬ A)) (q : ¬ z = 0) : A := by
  rcases h with h | h
  · exact h.2
  · exact absurd h.1 q
theorem own_flag0 {A : Prop} {z : Int32} (h : (z = 1 ∧ A) ∨ (z = 0 ∧ ¬ A)) (q : z = 0) : ¬ A := by
  rcases h with h | h
  · rw [h.1] at q
    exact absurd q (by decide)
  · exact h.2
def own_QM (x y : Int64) (h0 : Heap) (v : Option Value) (h : Heap) (L : List Loc) : Prop := ∃ z : Int64, v = some (.long z) ∧ ((x.toInt < y.toInt ∧ z.toInt = y.toInt) ∨ (y.toInt ≤ x.toInt ∧ z.toInt = x.toInt)) ∧ L = [] ∧ h = h0
def own_Qm (x y : Int64) (h0 : Heap) (v : Option Value) (h : Heap) (L : List Loc) : Prop := ∃ z : Int64, v = some (.long z) ∧ ((x.toInt ≤ y.toInt ∧ z.toInt = x.toInt) ∨ (y.toInt < x.toInt ∧ z.toInt = y.toInt)) ∧ L = [] ∧ h = h0
def own_QR (r : Addr) (h0 : Heap) (v : Option Value) (h : Heap) (L : List Loc) : Prop := v = some (.ref r) ∧ L = [] ∧ h = h0
def own_Q0 (n0 : Nat) (v : Option Value) (h : Heap) (L : List Loc) : Prop := v = some (.int 1) ∧ Fr n0 L
theorem d1_0 : decode jdk_29_method_66_code 0 = .ok (.lload_n 0, 1) := by decide +kernel
theorem d1_1 : decode jdk_29_method_66_code 1 = .ok (.lload_n 2, 1) := by decide +kernel
theorem d1_2 : decode jdk_29_method_66_code 2 = .ok (.lcmp, 1) := by decide +kernel
theorem d1_3 : decode jdk_29_method_66_code 3 = .ok (.ifCond .lt 7, 3) := by decide +kernel
theorem d1_10 : decode jdk_29_method_66_code 10 = .ok (.lload_n 2, 1) := by decide +kernel
theorem d1_11 : decode jdk_29_method_66_code 11 = .ok (.lreturn, 1) := by decide +kernel
theorem d1_6 : decode jdk_29_method_66_code 6 = .ok (.lload_n 0, 1) := by decide +kernel
theorem d1_7 : decode jdk_29_method_66_code 7 = .ok (.goto 4, 3) := by decide +kernel
theorem ef_rm_max (m : MethodId) (x0 : Int64) (x1 : Int64) : entryFrame m #[(.long x0), (.long x1)] 4 = mkF m 0 #[.val (.long x0), .second, .val (.long x1), .second] [] := by first | (simp [entryFrame, mkF, argsToLocals, Value.category]; done) | rfl
set_option maxRecDepth 65536 in
set_option maxHeartbeats 40000000 in
theorem rm_max (l : Launch) (Z : State) (a0 : Array Value) (hw : ∀ d ∈ tables_1, d.before a0 Z = true) (ws : List Jvm.Cond) (x y : Int64) (h0 : Heap)  :
    MetFree l (⟨"java/lang/Math", "max", "(JJ)J"⟩ : MethodName) (head1 (Jvm.Cond.code (⟨"java/lang/Math", "max", "(JJ)J"⟩ : MethodName) jdk_29_method_66_code 4 (some .long) :: ws) ({ frames := 0, cells := 0, slots := 0, locals := 0 } : Room)) (fun a U => a = #[(.long x), (.long y)] ∧ Z.Warmed39 U.vm ∧ U.heap = h0) (fun _ _ _ _ _ => True) (fun _ U o U' => ∃ v L, o = .returned v ∧ own_QM x y h0 v U'.heap L ∧ FrameEnd U o U' L ({ frames := 0, cells := 0, slots := 0, locals := 0 } : Room).cells ({ frames := 0, cells := 0, slots := 0, locals := 0 } : Room).slots) := by
  refine MetFree.of_bodySF (Jvm.Free.JP.mathPlain rfl (by decide +kernel)) hisR ?_
  intro p e s m args below meth c s₁ Bd hml0 hP hK
  obtain ⟨rfl, hZ, hh⟩ := hP
  have hx := Bd.exec
  have hby := Bd.bytes
  have hlk := Bd.notSynchronized
  have hret := Bd.returns
  have hml : c.maxLocals = 4 := hml0
  have hown : s.vm.findClass "java/lang/Math" = some m.cls := findClass_of_methodNamed Bd.named
  have hnm := (name_of_methodNamed Bd.named Bd.method).1
  have X0 : Stand p l e ({ frames := 0, cells := 0, slots := 0, locals := 0 } : Room) s m #[(.long x), (.long y)] below meth c s₁ [] 0 0 := Stand.of_body Bd
  have e0 : s₁.heap = h0 := by rw [← hh, Bd.state]; rfl
  show own_Dn p e below (own_Ret s (own_QM x y h0) ({ frames := 0, cells := 0, slots := 0, locals := 0 } : Room).cells ({ frames := 0, cells := 0, slots := 0, locals := 0 } : Room).slots) (s₁.setTop (entryFrame m #[(.long x), (.long y)] 4))
  rw [ef_rm_max]
  refine own_st (B := (s₁.setTop (mkF m 1 #[.val (.long x), .second, .val (.long y), .second] [(.long x)]))) (fun _ k => XS.lloadN X0.here hx rfl (hb hby d1_0) rfl k) ?_
  refine own_st (B := (s₁.setTop (mkF m 2 #[.val (.long x), .second, .val (.long y), .second] [(.long y), (.long x)]))) (fun _ k => XS.lloadN X0.here hx rfl (hb hby d1_1) rfl k) ?_
  refine own_st (B := (s₁.setTop (mkF m 3 #[.val (.long x), .second, .val (.long y), .second] [(.int (lcmpW x y))]))) (fun _ k => XS.lcmp X0.here hx rfl (hb hby d1_2) rfl k) ?_
  by_cases c3_1 : x < y
  · refine own_st (B := (s₁.setTop (mkF m 10 #[.val (.long x), .second, .val (.long y), .second] []))) (fun _ k => XS.ifYes X0.here hx rfl (pc0 := 3) (pc' := 10) rfl (hb hby d1_3) rfl ((if0 _ _).trans (tlt ((lw_lt x y).mpr c3_1)).1) (by decide) (by decide) k) ?_
    refine own_st (B := (s₁.setTop (mkF m 11 #[.val (.long x), .second, .val (.long y), .second] [(.long y)]))) (fun _ k => XS.lloadN X0.here hx rfl (hb hby d1_10) rfl k) ?_
    have i_c3_1 : x.toInt < y.toInt := own_uL c3_1
    exact own_retJ X0 hx hlk hret (hb hby d1_11) (by show own_QM x y h0 _ s₁.heap _; rw [e0]; exact ⟨_, rfl, by omega, rfl, rfl⟩) (by decide) (by decide)
  · refine own_st (B := (s₁.setTop (mkF m 6 #[.val (.long x), .second, .val (.long y), .second] []))) (fun _ k => XS.ifNo X0.here hx rfl (hb hby d1_3) rfl ((if0 _ _).trans (flt (mt (lw_lt x y).mp c3_1)).1) k) ?_
    refine own_st (B := (s₁.setTop (mkF m 7 #[.val (.long x), .second, .val (.long y), .second] [(.long x)]))) (fun _ k => XS.lloadN X0.here hx rfl (hb hby d1_6) rfl k) ?_
    refine own_st (B := (s₁.setTop (mkF m 11 #[.val (.long x), .second, .val (.long y), .second] [(.long x)]))) (fun _ k => XS.goto X0.here hx rfl (pc0 := 7) (pc' := 11) rfl (hb hby d1_7) (by decide) (by decide) k) ?_
    have i_c3_1 : ¬ x.toInt < y.toInt := own_uLn c3_1
    exact own_retJ X0 hx hlk hret (hb hby d1_11) (by show own_QM x y h0 _ s₁.heap _; rw [e0]; exact ⟨_, rfl, by omega, rfl, rfl⟩) (by decide) (by decide)
theorem d2_0 : decode jdk_29_method_70_code 0 = .ok (.lload_n 0, 1) := by decide +kernel
theorem d2_1 : decode jdk_29_method_70_code 1 = .ok (.lload_n 2, 1) := by decide +kernel
theorem d2_2 : decode jdk_29_method_70_code 2 = .ok (.lcmp, 1) := by decide +kernel
theorem d2_3 : decode jdk_29_method_70_code 3 = .ok (.ifCond .gt 7, 3) := by decide +kernel
theorem d2_10 : decode jdk_29_method_70_code 10 = .ok (.lload_n 2, 1) := by decide +kernel
theorem d2_11 : decode jdk_29_method_70_code 11 = .ok (.lreturn, 1) := by decide +kernel
theorem d2_6 : decode jdk_29_method_70_code 6 = .ok (.lload_n 0, 1) := by decide +kernel
theorem d2_7 : decode jdk_29_method_70_code 7 = .ok (.goto 4, 3) := by decide +kernel
theorem ef_rm_min (m : MethodId) (x0 : Int64) (x1 : Int64) : entryFrame m #[(.long x0), (.long x1)] 4 = mkF m 0 #[.val (.long x0), .second, .val (.long x1), .second] [] := by first | (simp [entryFrame, mkF, argsToLocals, Value.category]; done) | rfl
set_option maxRecDepth 65536 in
set_option maxHeartbeats 40000000 in
theorem rm_min (l : Launch) (Z : State) (a0 : Array Value) (hw : ∀ d ∈ tables_1, d.before a0 Z = true) (ws : List Jvm.Cond) (x y : Int64) (h0 : Heap)  :
    MetFree l (⟨"java/lang/Math", "min", "(JJ)J"⟩ : MethodName) (head1 (Jvm.Cond.code (⟨"java/lang/Math", "min", "(JJ)J"⟩ : MethodName) jdk_29_method_70_code 4 (some .long) :: ws) ({ frames := 0, cells := 0, slots := 0, locals := 0 } : Room)) (fun a U => a = #[(.long x), (.long y)] ∧ Z.Warmed39 U.vm ∧ U.heap = h0) (fun _ _ _ _ _ => True) (fun _ U o U' => ∃ v L, o = .returned v ∧ own_Qm x y h0 v U'.heap L ∧ FrameEnd U o U' L ({ frames := 0, cells := 0, slots := 0, locals := 0 } : Room).cells ({ frames := 0, cells := 0, slots := 0, locals := 0 } : Room).slots) := by
  refine MetFree.of_bodySF (Jvm.Free.JP.mathPlain rfl (by decide +kernel)) hisR ?_
  intro p e s m args below meth c s₁ Bd hml0 hP hK
  obtain ⟨rfl, hZ, hh⟩ := hP
  have hx := Bd.exec
  have hby := Bd.bytes
  have hlk := Bd.notSynchronized
  have hret := Bd.returns
  have hml : c.maxLocals = 4 := hml0
  have hown : s.vm.findClass "java/lang/Math" = some m.cls := findClass_of_methodNamed Bd.named
  have hnm := (name_of_methodNamed Bd.named Bd.method).1
  have X0 : Stand p l e ({ frames := 0, cells := 0, slots := 0, locals := 0 } : Room) s m #[(.long x), (.long y)] below meth c s₁ [] 0 0 := Stand.of_body Bd
  have e0 : s₁.heap = h0 := by rw [← hh, Bd.state]; rfl
  show own_Dn p e below (own_Ret s (own_Qm x y h0) ({ frames := 0, cells := 0, slots := 0, locals := 0 } : Room).cells ({ frames := 0, cells := 0, slots := 0, locals := 0 } : Room).slots) (s₁.setTop (entryFrame m #[(.long x), (.long y)] 4))
  rw [ef_rm_min]
  refine own_st (B := (s₁.setTop (mkF m 1 #[.val (.long x), .second, .val (.long y), .second] [(.long x)]))) (fun _ k => XS.lloadN X0.here hx rfl (hb hby d2_0) rfl k) ?_
  refine own_st (B := (s₁.setTop (mkF m 2 #[.val (.long x), .second, .val (.long y), .second] [(.long y), (.long x)]))) (fun _ k => XS.lloadN X0.here hx rfl (hb hby d2_1) rfl k) ?_
  refine own_st (B := (s₁.setTop (mkF m 3 #[.val (.long x), .second, .val (.long y), .second] [(.int (lcmpW x y))]))) (fun _ k => XS.lcmp X0.here hx rfl (hb hby d2_2) rfl k) ?_
  by_cases c3_1 : y < x
  · refine own_st (B := (s₁.setTop (mkF m 10 #[.val (.long x), .second, .val (.long y), .second] []))) (fun _ k => XS.ifYes X0.here hx rfl (pc0 := 3) (pc' := 10) rfl (hb hby d2_3) rfl ((if0 _ _).trans (tlt ((lw_gt x y).mpr c3_1)).2.2.1) (by decide) (by decide) k) ?_
    refine own_st (B := (s₁.setTop (mkF m 11 #[.val (.long x), .second, .val (.long y), .second] [(.long y)]))) (fun _ k => XS.lloadN X0.here hx rfl (hb hby d2_10) rfl k) ?_
    have i_c3_1 : y.toInt < x.toInt := own_uL c3_1
    exact own_retJ X0 hx hlk hret (hb hby d2_11) (by show own_Qm x y h0 _ s₁.heap _; rw [e0]; exact ⟨_, rfl, by omega, rfl, rfl⟩) (by decide) (by decide)
  · refine own_st (B := (s₁.setTop (mkF m 6 #[.val (.long x), .second, .val (.long y), .second] []))) (fun _ k => XS.ifNo X0.here hx rfl (hb hby d2_3) rfl ((if0 _ _).trans (flt (mt (lw_gt x y).mp c3_1)).2.2.1) k) ?_
    refine own_st (B := (s₁.setTop (mkF m 7 #[.val (.long x), .second, .val (.long y), .second] [(.long x)]))) (fun _ k => XS.lloadN X0.here hx rfl (hb hby d2_6) rfl k) ?_
    refine own_st (B := (s₁.setTop (mkF m 11 #[.val (.long x), .second, .val (.long y), .second] [(.long x)]))) (fun _ k => XS.goto X0.here hx rfl (pc0 := 7) (pc' := 11) rfl (hb hby d2_7) (by decide) (by decide) k) ?_
    have i_c3_1 : ¬ y.toInt < x.toInt := own_uLn c3_1
    exact own_retJ X0 hx hlk hret (hb hby d2_11) (by show own_Qm x y h0 _ s₁.heap _; rw [e0]; exact ⟨_, rfl, by omega, rfl, rfl⟩) (by decide) (by decide)
theorem d3_0 : decode method_2_code 0 = .ok (.lload_n 0, 1) := by decide +kernel
theorem d3_1 : decode method_2_code 1 = .ok (.ldc2_w 7, 3) := by decide +kernel
theorem d3_4 : decode method_2_code 4 = .ok (.lcmp, 1) := by decide +kernel
theorem d3_5 : decode method_2_code 5 = .ok (.ifCond .ge 15, 3) := by decide +kernel
theorem d3_8 : decode method_2_code 8 = .ok (.lload_n 2, 1) := by decide +kernel
theorem d3_9 : decode method_2_code 9 = .ok (.ldc2_w 7, 3) := by decide +kernel
theorem d3_12 : decode method_2_code 12 = .ok (.lcmp, 1) := by decide +kernel
theorem d3_13 : decode method_2_code 13 = .ok (.ifCond .ge 7, 3) := by decide +kernel
theorem d3_16 : decode method_2_code 16 = .ok (.iconst 1, 1) := by decide +kernel
theorem d3_17 : decode method_2_code 17 = .ok (.goto 4, 3) := by decide +kernel
theorem d3_20 : decode method_2_code 20 = .ok (.iconst 0, 1) := by decide +kernel
theorem d3_21 : decode method_2_code 21 = .ok (.istore 4, 2) := by decide +kernel
theorem d3_23 : decode method_2_code 23 = .ok (.lload_n 0, 1) := by decide +kernel
theorem d3_24 : decode method_2_code 24 = .ok (.ldc2_w 9, 3) := by decide +kernel
theorem d3_27 : decode method_2_code 27 = .ok (.lcmp, 1) := by decide +kernel
theorem d3_28 : decode method_2_code 28 = .ok (.ifCond .lt 11, 3) := by decide +kernel
theorem d3_39 : decode method_2_code 39 = .ok (.lload_n 2, 1) := by decide +kernel
theorem d3_40 : decode method_2_code 40 = .ok (.ldc2_w 9, 3) := by decide +kernel
theorem d3_43 : decode method_2_code 43 = .ok (.lcmp, 1) := by decide +kernel
theorem d3_44 : decode method_2_code 44 = .ok (.ifCond .lt 15, 3) := by decide +kernel
theorem d3_59 : decode method_2_code 59 = .ok (.iconst 0, 1) := by decide +kernel
theorem d3_47 : decode method_2_code 47 = .ok (.lload_n 0, 1) := by decide +kernel
theorem d3_48 : decode method_2_code 48 = .ok (.ldc2_w 11, 3) := by decide +kernel
theorem d3_51 : decode method_2_code 51 = .ok (.lcmp, 1) := by decide +kernel
theorem d3_52 : decode method_2_code 52 = .ok (.ifCond .lt 7, 3) := by decide +kernel
theorem d3_55 : decode method_2_code 55 = .ok (.iconst 1, 1) := by decide +kernel
theorem d3_56 : decode method_2_code 56 = .ok (.goto 4, 3) := by decide +kernel
theorem d3_31 : decode method_2_code 31 = .ok (.lload_n 2, 1) := by decide +kernel
theorem d3_32 : decode method_2_code 32 = .ok (.ldc2_w 11, 3) := by decide +kernel
theorem d3_35 : decode method_2_code 35 = .ok (.lcmp, 1) := by decide +kernel
theorem d3_36 : decode method_2_code 36 = .ok (.ifCond .ge 19, 3) := by decide +kernel
theorem d3_60 : decode method_2_code 60 = .ok (.istore 5, 2) := by decide +kernel
theorem d3_62 : decode method_2_code 62 = .ok (.lload_n 0, 1) := by decide +kernel
theorem d3_63 : decode method_2_code 63 = .ok (.ldc2_w 13, 3) := by decide +kernel
theorem d3_66 : decode method_2_code 66 = .ok (.lcmp, 1) := by decide +kernel
theorem d3_67 : decode method_2_code 67 = .ok (.ifCond .lt 11, 3) := by decide +kernel
theorem d3_78 : decode method_2_code 78 = .ok (.lload_n 2, 1) := by decide +kernel
theorem d3_79 : decode method_2_code 79 = .ok (.ldc2_w 13, 3) := by decide +kernel
theorem d3_82 : decode method_2_code 82 = .ok (.lcmp, 1) := by decide +kernel
theorem d3_83 : decode method_2_code 83 = .ok (.ifCond .lt 15, 3) := by decide +kernel
theorem d3_98 : decode method_2_code 98 = .ok (.iconst 0, 1) := by decide +kernel
theorem d3_86 : decode method_2_code 86 = .ok (.lload_n 0, 1) := by decide +kernel
theorem d3_87 : decode method_2_code 87 = .ok (.ldc2_w 15, 3) := by decide +kernel
theorem d3_90 : decode method_2_code 90 = .ok (.lcmp, 1) := by decide +kernel
theorem d3_91 : decode method_2_code 91 = .ok (.ifCond .lt 7, 3) := by decide +kernel
theorem d3_94 : decode method_2_code 94 = .ok (.iconst 1, 1) := by decide +kernel
theorem d3_95 : decode method_2_code 95 = .ok (.goto 4, 3) := by decide +kernel
theorem d3_70 : decode method_2_code 70 = .ok (.lload_n 2, 1) := by decide +kernel
theorem d3_71 : decode method_2_code 71 = .ok (.ldc2_w 15, 3) := by decide +kernel
theorem d3_74 : decode method_2_code 74 = .ok (.lcmp, 1) := by decide +kernel
theorem d3_75 : decode method_2_code 75 = .ok (.ifCond .ge 19, 3) := by decide +kernel
theorem d3_99 : decode method_2_code 99 = .ok (.istore 6, 2) := by decide +kernel
theorem d3_101 : decode method_2_code 101 = .ok (.iload 4, 2) := by decide +kernel
theorem d3_103 : decode method_2_code 103 = .ok (.ifCond .eq 7, 3) := by decide +kernel
theorem d3_110 : decode method_2_code 110 = .ok (.iload 5, 2) := by decide +kernel
theorem d3_112 : decode method_2_code 112 = .ok (.ifCond .eq 7, 3) := by decide +kernel
theorem d3_119 : decode method_2_code 119 = .ok (.iload 6, 2) := by decide +kernel
theorem d3_121 : decode method_2_code 121 = .ok (.ifCond .eq 7, 3) := by decide +kernel
theorem d3_128 : decode method_2_code 128 = .ok (.getstatic 29, 3) := by decide +kernel
theorem d3_131 : decode method_2_code 131 = .ok (.areturn, 1) := by decide +kernel
theorem d3_124 : decode method_2_code 124 = .ok (.getstatic 26, 3) := by decide +kernel
theorem d3_127 : decode method_2_code 127 = .ok (.areturn, 1) := by decide +kernel
theorem d3_115 : decode method_2_code 115 = .ok (.getstatic 23, 3) := by decide +kernel
theorem d3_118 : decode method_2_code 118 = .ok (.areturn, 1) := by decide +kernel
theorem d3_106 : decode method_2_code 106 = .ok (.getstatic 17, 3) := by decide +kernel
theorem d3_109 : decode method_2_code 109 = .ok (.areturn, 1) := by decide +kernel
theorem ef_rm_exp (m : MethodId) (x0 : Int64) (x1 : Int64) : entryFrame m #[(.long x0), (.long x1)] 7 = mkF m 0 #[.val (.long x0), .second, .val (.long x1), .second, .unset, .unset, .unset] [] := by first | (simp [entryFrame, mkF, argsToLocals, Value.category]; done) | rfl
theorem pn_0 : plainName "com/example/scalewright/scalewright/ScreenSizeOfPinLaw" = true := by first | (simp [plainName, overriddenIn]; done) | decide +kernel
set_option maxRecDepth 65536 in
set_option maxHeartbeats 40000000 in
theorem rm_exp (l : Launch) (Z : State) (a0 : Array Value) (hw : ∀ d ∈ tables_1, d.before a0 Z = true) (ws : List Jvm.Cond) (x y : Int64) (aS aX aL aN r : Addr) (h0 : Heap) (S_SMALL : Sta Z h0 "com/example/scalewright/scalewright/ScreenSize" "SMALL" "Lcom/example/scalewright/scalewright/ScreenSize;" (.ref aS)) (S_XLARGE : Sta Z h0 "com/example/scalewright/scalewright/ScreenSize" "XLARGE" "Lcom/example/scalewright/scalewright/ScreenSize;" (.ref aX)) (S_LARGE : Sta Z h0 "com/example/scalewright/scalewright/ScreenSize" "LARGE" "Lcom/example/scalewright/scalewright/ScreenSize;" (.ref aL)) (S_NORMAL : Sta Z h0 "com/example/scalewright/scalewright/ScreenSize" "NORMAL" "Lcom/example/scalewright/scalewright/ScreenSize;" (.ref aN)) (hr : own_sel x.toInt y.toInt aS aX aL aN = r) :
    MetFree l (⟨"com/example/scalewright/scalewright/ScreenSizeOfPinLaw", "expected", "(JJ)Lcom/example/scalewright/scalewright/ScreenSize;"⟩ : MethodName) (head1 (Jvm.Cond.code (⟨"com/example/scalewright/scalewright/ScreenSizeOfPinLaw", "expected", "(JJ)Lcom/example/scalewright/scalewright/ScreenSize;"⟩ : MethodName) method_2_code 7 (some (.object "com/example/scalewright/scalewright/ScreenSize")) :: ws) ({ frames := 0, cells := 0, slots := 0, locals := 0 } : Room)) (fun a U => a = #[(.long x), (.long y)] ∧ Z.Warmed39 U.vm ∧ U.heap = h0) (fun _ _ _ _ _ => True) (fun _ U o U' => ∃ v L, o = .returned v ∧ own_QR r h0 v U'.heap L ∧ FrameEnd U o U' L ({ frames := 0, cells := 0, slots := 0, locals := 0 } : Room).cells ({ frames := 0, cells := 0, slots := 0, locals := 0 } : Room).slots) := by
  refine MetFree.of_bodySF (plainFor_of_name pn_0) hisR ?_
  intro p e s m args below meth c s₁ Bd hml0 hP hK
  obtain ⟨rfl, hZ, hh⟩ := hP
  have hx := Bd.exec
  have hby := Bd.bytes
  have hlk := Bd.notSynchronized
  have hret := Bd.returns
  have hml : c.maxLocals = 7 := hml0
  have hown : s.vm.findClass "com/example/scalewright/scalewright/ScreenSizeOfPinLaw" = some m.cls := findClass_of_methodNamed Bd.named
  have hnm := (name_of_methodNamed Bd.named Bd.method).1
  have X0 : Stand p l e ({ frames := 0, cells := 0, slots := 0, locals := 0 } : Room) s m #[(.long x), (.long y)] below meth c s₁ [] 0 0 := Stand.of_body Bd
  have e0 : s₁.heap = h0 := by rw [← hh, Bd.state]; rfl
  show own_Dn p e below (own_Ret s (own_QR r h0) ({ frames := 0, cells := 0, slots := 0, locals := 0 } : Room).cells ({ frames := 0, cells := 0, slots := 0, locals := 0 } : Room).slots) (s₁.setTop (entryFrame m #[(.long x), (.long y)] 7))
  rw [ef_rm_exp]
  suffices K4 : ∀ z4 : Int32, ((z4 = 1 ∧ (x.toInt < 470 ∧ y.toInt < 470)) ∨ (z4 = 0 ∧ ¬ (x.toInt < 470 ∧ y.toInt < 470))) → own_Dn p e below (own_Ret s (own_QR r h0) ({ frames := 0, cells := 0, slots := 0, locals := 0 } : Room).cells ({ frames := 0, cells := 0, slots := 0, locals := 0 } : Room).slots) (s₁.setTop (mkF m 21 #[.val (.long x), .second, .val (.long y), .second, .unset, .unset, .unset] [(.int z4)])) by
    refine own_st (B := (s₁.setTop (mkF m 1 #[.val (.long x), .second, .val (.long y), .second, .unset, .unset, .unset] [(.long x)]))) (fun _ k => XS.lloadN X0.here hx rfl (hb hby d3_0) rfl k) ?_
    refine own_st (B := (s₁.setTop (mkF m 4 #[.val (.long x), .second, .val (.long y), .second, .unset, .unset, .unset] [(.long (470 : Int64)), (.long x)]))) (fun _ k => X0.ldc2Long hx hown (mvT hZ (hw _ (List.mem_of_getElem? (i := 4) rfl))) (g := (mkF m 1 #[.val (.long x), .second, .val (.long y), .second, .unset, .unset, .unset] [(.long x)])) rfl (hb hby d3_1) _ k) ?_
    refine own_st (B := (s₁.setTop (mkF m 5 #[.val (.long x), .second, .val (.long y), .second, .unset, .unset, .unset] [(.int (lcmpW x (470 : Int64)))]))) (fun _ k => XS.lcmp X0.here hx rfl (hb hby d3_4) rfl k) ?_
    by_cases c5_1 : x < (470 : Int64)
    · refine own_st (B := (s₁.setTop (mkF m 8 #[.val (.long x), .second, .val (.long y), .second, .unset, .unset, .unset] []))) (fun _ k => XS.ifNo X0.here hx rfl (hb hby d3_5) rfl ((if0 _ _).trans (tlt ((lw_lt x (470 : Int64)).mpr c5_1)).2.1) k) ?_
      refine own_st (B := (s₁.setTop (mkF m 9 #[.val (.long x), .second, .val (.long y), .second, .unset, .unset, .unset] [(.long y)]))) (fun _ k => XS.lloadN X0.here hx rfl (hb hby d3_8) rfl k) ?_
      refine own_st (B := (s₁.setTop (mkF m 12 #[.val (.long x), .second, .val (.long y), .second, .unset, .unset, .unset] [(.long (470 : Int64)), (.long y)]))) (fun _ k => X0.ldc2Long hx hown (mvT hZ (hw _ (List.mem_of_getElem? (i := 4) rfl))) (g := (mkF m 9 #[.val (.long x), .second, .val (.long y), .second, .unset, .unset, .unset] [(.long y)])) rfl (hb hby d3_9) _ k) ?_
      refine own_st (B := (s₁.setTop (mkF m 13 #[.val (.long x), .second, .val (.long y), .second, .unset, .unset, .unset] [(.int (lcmpW y (470 : Int64)))]))) (fun _ k => XS.lcmp X0.here hx rfl (hb hby d3_12) rfl k) ?_
      by_cases c13_2 : y < (470 : Int64)
      · refine own_st (B := (s₁.setTop (mkF m 16 #[.val (.long x), .second, .val (.long y), .second, .unset, .unset, .unset] []))) (fun _ k => XS.ifNo X0.here hx rfl (hb hby d3_13) rfl ((if0 _ _).trans (tlt ((lw_lt y (470 : Int64)).mpr c13_2)).2.1) k) ?_
        refine own_st (B := (s₁.setTop (mkF m 17 #[.val (.long x), .second, .val (.long y), .second, .unset, .unset, .unset] [(.int (1 : Int32))]))) (fun _ k => XS.iconst X0.here hx rfl (hb hby d3_16) k) ?_
        refine own_st (B := (s₁.setTop (mkF m 21 #[.val (.long x), .second, .val (.long y), .second, .unset, .unset, .unset] [(.int (1 : Int32))]))) (fun _ k => XS.goto X0.here hx rfl (pc0 := 17) (pc' := 21) rfl (hb hby d3_17) (by decide) (by decide) k) ?_
        have i_c5_1 : x.toInt < 470 := own_uL c5_1
        have i_c13_2 : y.toInt < 470 := own_uL c13_2
        exact K4 _ (Or.inl ⟨rfl, by omega⟩)
      · refine own_st (B := (s₁.setTop (mkF m 20 #[.val (.long x), .second, .val (.long y), .second, .unset, .unset, .unset] []))) (fun _ k => XS.ifYes X0.here hx rfl (pc0 := 13) (pc' := 20) rfl (hb hby d3_13) rfl ((if0 _ _).trans (flt (mt (lw_lt y (470 : Int64)).mp c13_2)).2.1) (by decide) (by decide) k) ?_
        refine own_st (B := (s₁.setTop (mkF m 21 #[.val (.long x), .second, .val (.long y), .second, .unset, .unset, .unset] [(.int (0 : Int32))]))) (fun _ k => XS.iconst X0.here hx rfl (hb hby d3_20) k) ?_
        have i_c5_1 : x.toInt < 470 := own_uL c5_1
        have i_c13_2 : ¬ y.toInt < 470 := own_uLn c13_2
        exact K4 _ (Or.inr ⟨rfl, by omega⟩)
    · refine own_st (B := (s₁.setTop (mkF m 20 #[.val (.long x), .second, .val (.long y), .second, .unset, .unset, .unset] []))) (fun _ k => XS.ifYes X0.here hx rfl (pc0 := 5) (pc' := 20) rfl (hb hby d3_5) rfl ((if0 _ _).trans (flt (mt (lw_lt x (470 : Int64)).mp c5_1)).2.1) (by decide) (by decide) k) ?_
      refine own_st (B := (s₁.setTop (mkF m 21 #[.val (.long x), .second, .val (.long y), .second, .unset, .unset, .unset] [(.int (0 : Int32))]))) (fun _ k => XS.iconst X0.here hx rfl (hb hby d3_20) k) ?_
      have i_c5_1 : ¬ x.toInt < 470 := own_uLn c5_1
      exact K4 _ (Or.inr ⟨rfl, by omega⟩)
  intro z4 h_z4
  refine own_st (B := (s₁.setTop (mkF m 23 #[.val (.long x), .second, .val (.long y), .second, .val (.int z4), .unset, .unset] []))) (fun _ k => XS.istore X0.here hx rfl (hb hby d3_21) rfl (l' := #[.val (.long x), .second, .val (.long y), .second, .val (.int z4), .unset, .unset]) rfl k) ?_
  suffices K5 : ∀ z5 : Int32, ((z5 = 1 ∧ ((960 ≤ x.toInt ∧ 720 ≤ y.toInt) ∨ (960 ≤ y.toInt ∧ 720 ≤ x.toInt))) ∨ (z5 = 0 ∧ ¬ ((960 ≤ x.toInt ∧ 720 ≤ y.toInt) ∨ (960 ≤ y.toInt ∧ 720 ≤ x.toInt)))) → own_Dn p e below (own_Ret s (own_QR r h0) ({ frames := 0, cells := 0, slots := 0, locals := 0 } : Room).cells ({ frames := 0, cells := 0, slots := 0, locals := 0 } : Room).slots) (s₁.setTop (mkF m 60 #[.val (.long x), .second, .val (.long y), .second, .val (.int z4), .unset, .unset] [(.int z5)])) by
    refine own_st (B := (s₁.setTop (mkF m 24 #[.val (.long x), .second, .val (.long y), .second, .val (.int z4), .unset, .unset] [(.long x)]))) (fun _ k => XS.lloadN X0.here hx rfl (hb hby d3_23) rfl k) ?_
    refine own_st (B := (s₁.setTop (mkF m 27 #[.val (.long x), .second, .val (.long y), .second, .val (.int z4), .unset, .unset] [(.long (960 : Int64)), (.long x)]))) (fun _ k => X0.ldc2Long hx hown (mvT hZ (hw _ (List.mem_of_getElem? (i := 5) rfl))) (g := (mkF m 24 #[.val (.long x), .second, .val (.long y), .second, .val (.int z4), .unset, .unset] [(.long x)])) rfl (hb hby d3_24) _ k) ?_
    refine own_st (B := (s₁.setTop (mkF m 28 #[.val (.long x), .second, .val (.long y), .second, .val (.int z4), .unset, .unset] [(.int (lcmpW x (960 : Int64)))]))) (fun _ k => XS.lcmp X0.here hx rfl (hb hby d3_27) rfl k) ?_
    by_cases c28_3 : x < (960 : Int64)
    · refine own_st (B := (s₁.setTop (mkF m 39 #[.val (.long x), .second, .val (.long y), .second, .val (.int z4), .unset, .unset] []))) (fun _ k => XS.ifYes X0.here hx rfl (pc0 := 28) (pc' := 39) rfl (hb hby d3_28) rfl ((if0 _ _).trans (tlt ((lw_lt x (960 : Int64)).mpr c28_3)).1) (by decide) (by decide) k) ?_
      refine own_st (B := (s₁.setTop (mkF m 40 #[.val (.long x), .second, .val (.long y), .second, .val (.int z4), .unset, .unset] [(.long y)]))) (fun _ k => XS.lloadN X0.here hx rfl (hb hby d3_39) rfl k) ?_
      refine own_st (B := (s₁.setTop (mkF m 43 #[.val (.long x), .second, .val (.long y), .second, .val (.int z4), .unset, .unset] [(.long (960 : Int64)), (.long y)]))) (fun _ k => X0.ldc2Long hx hown (mvT hZ (hw _ (List.mem_of_getElem? (i := 5) rfl))) (g := (mkF m 40 #[.val (.long x), .second, .val (.long y), .second, .val (.int z4), .unset, .unset] [(.long y)])) rfl (hb hby d3_40) _ k) ?_
      refine own_st (B := (s₁.setTop (mkF m 44 #[.val (.long x), .second, .val (.long y), .second, .val (.int z4), .unset, .unset] [(.int (lcmpW y (960 : Int64)))]))) (fun _ k => XS.lcmp X0.here hx rfl (hb hby d3_43) rfl k) ?_
      by_cases c44_4 : y < (960 : Int64)
      · refine own_st (B := (s₁.setTop (mkF m 59 #[.val (.long x), .second, .val (.long y), .second, .val (.int z4), .unset, .unset] []))) (fun _ k => XS.ifYes X0.here hx rfl (pc0 := 44) (pc' := 59) rfl (hb hby d3_44) rfl ((if0 _ _).trans (tlt ((lw_lt y (960 : Int64)).mpr c44_4)).1) (by decide) (by decide) k) ?_
        refine own_st (B := (s₁.setTop (mkF m 60 #[.val (.long x), .second, .val (.long y), .second, .val (.int z4), .unset, .unset] [(.int (0 : Int32))]))) (fun _ k => XS.iconst X0.here hx rfl (hb hby d3_59) k) ?_
        have i_c28_3 : x.toInt < 960 := own_uL c28_3
        have i_c44_4 : y.toInt < 960 := own_uL c44_4
        exact K5 _ (Or.inr ⟨rfl, by omega⟩)
      · refine own_st (B := (s₁.setTop (mkF m 47 #[.val (.long x), .second, .val (.long y), .second, .val (.int z4), .unset, .unset] []))) (fun _ k => XS.ifNo X0.here hx rfl (hb hby d3_44) rfl ((if0 _ _).trans (flt (mt (lw_lt y (960 : Int64)).mp c44_4)).1) k) ?_
        refine own_st (B := (s₁.setTop (mkF m 48 #[.val (.long x), .second, .val (.long y), .second, .val (.int z4), .unset, .unset] [(.long x)]))) (fun _ k => XS.lloadN X0.here hx rfl (hb hby d3_47) rfl k) ?_
        refine own_st (B := (s₁.setTop (mkF m 51 #[.val (.long x), .second, .val (.long y), .second, .val (.int z4), .unset, .unset] [(.long (720 : Int64)), (.long x)]))) (fun _ k => X0.ldc2Long hx hown (mvT hZ (hw _ (List.mem_of_getElem? (i := 23) rfl))) (g := (mkF m 48 #[.val (.long x), .second, .val (.long y), .second, .val (.int z4), .unset, .unset] [(.long x)])) rfl (hb hby d3_48) _ k) ?_
        refine own_st (B := (s₁.setTop (mkF m 52 #[.val (.long x), .second, .val (.long y), .second, .val (.int z4), .unset, .unset] [(.int (lcmpW x (720 : Int64)))]))) (fun _ k => XS.lcmp X0.here hx rfl (hb hby d3_51) rfl k) ?_
        by_cases c52_5 : x < (720 : Int64)
        · refine own_st (B := (s₁.setTop (mkF m 59 #[.val (.long x), .second, .val (.long y), .second, .val (.int z4), .unset, .unset] []))) (fun _ k => XS.ifYes X0.here hx rfl (pc0 := 52) (pc' := 59) rfl (hb hby d3_52) rfl ((if0 _ _).trans (tlt ((lw_lt x (720 : Int64)).mpr c52_5)).1) (by decide) (by decide) k) ?_
          refine own_st (B := (s₁.setTop (mkF m 60 #[.val (.long x), .second, .val (.long y), .second, .val (.int z4), .unset, .unset] [(.int (0 : Int32))]))) (fun _ k => XS.iconst X0.here hx rfl (hb hby d3_59) k) ?_
          have i_c28_3 : x.toInt < 960 := own_uL c28_3
          have i_c44_4 : ¬ y.toInt < 960 := own_uLn c44_4
          have i_c52_5 : x.toInt < 720 := own_uL c52_5
          exact K5 _ (Or.inr ⟨rfl, by omega⟩)
        · refine own_st (B := (s₁.setTop (mkF m 55 #[.val (.long x), .second, .val (.long y), .second, .val (.int z4), .unset, .unset] []))) (fun _ k => XS.ifNo X0.here hx rfl (hb hby d3_52) rfl ((if0 _ _).trans (flt (mt (lw_lt x (720 : Int64)).mp c52_5)).1) k) ?_
          refine own_st (B := (s₁.setTop (mkF m 56 #[.val (.long x), .second, .val (.long y), .second, .val (.int z4), .unset, .unset] [(.int (1 : Int32))]))) (fun _ k => XS.iconst X0.here hx rfl (hb hby d3_55) k) ?_
          refine own_st (B := (s₁.setTop (mkF m 60 #[.val (.long x), .second, .val (.long y), .second, .val (.int z4), .unset, .unset] [(.int (1 : Int32))]))) (fun _ k => XS.goto X0.here hx rfl (pc0 := 56) (pc' := 60) rfl (hb hby d3_56) (by decide) (by decide) k) ?_
          have i_c28_3 : x.toInt < 960 := own_uL c28_3
          have i_c44_4 : ¬ y.toInt < 960 := own_uLn c44_4
          have i_c52_5 : ¬ x.toInt < 720 := own_uLn c52_5
          exact K5 _ (Or.inl ⟨rfl, by omega⟩)
    · refine own_st (B := (s₁.setTop (mkF m 31 #[.val (.long x), .second, .val (.long y), .second, .val (.int z4), .unset, .unset] []))) (fun _ k => XS.ifNo X0.here hx rfl (hb hby d3_28) rfl ((if0 _ _).trans (flt (mt (lw_lt x (960 : Int64)).mp c28_3)).1) k) ?_
      refine own_st (B := (s₁.setTop (mkF m 32 #[.val (.long x), .second, .val (.long y), .second, .val (.int z4), .unset, .unset] [(.long y)]))) (fun _ k => XS.lloadN X0.here hx rfl (hb hby d3_31) rfl k) ?_
      refine own_st (B := (s₁.setTop (mkF m 35 #[.val (.long x), .second, .val (.long y), .second, .val (.int z4), .unset, .unset] [(.long (720 : Int64)), (.long y)]))) (fun _ k => X0.ldc2Long hx hown (mvT hZ (hw _ (List.mem_of_getElem? (i := 23) rfl))) (g := (mkF m 32 #[.val (.long x), .second, .val (.long y), .second, .val (.int z4), .unset, .unset] [(.long y)])) rfl (hb hby d3_32) _ k) ?_
      refine own_st (B := (s₁.setTop (mkF m 36 #[.val (.long x), .second, .val (.long y), .second, .val (.int z4), .unset, .unset] [(.int (lcmpW y (720 : Int64)))]))) (fun _ k => XS.lcmp X0.here hx rfl (hb hby d3_35) rfl k) ?_
      by_cases c36_6 : y < (720 : Int64)
      · refine own_st (B := (s₁.setTop (mkF m 39 #[.val (.long x), .second, .val (.long y), .second, .val (.int z4), .unset, .unset] []))) (fun _ k => XS.ifNo X0.here hx rfl (hb hby d3_36) rfl ((if0 _ _).trans (tlt ((lw_lt y (720 : Int64)).mpr c36_6)).2.1) k) ?_
        refine own_st (B := (s₁.setTop (mkF m 40 #[.val (.long x), .second, .val (.long y), .second, .val (.int z4), .unset, .unset] [(.long y)]))) (fun _ k => XS.lloadN X0.here hx rfl (hb hby d3_39) rfl k) ?_
        refine own_st (B := (s₁.setTop (mkF m 43 #[.val (.long x), .second, .val (.long y), .second, .val (.int z4), .unset, .unset] [(.long (960 : Int64)), (.long y)]))) (fun _ k => X0.ldc2Long hx hown (mvT hZ (hw _ (List.mem_of_getElem? (i := 5) rfl))) (g := (mkF m 40 #[.val (.long x), .second, .val (.long y), .second, .val (.int z4), .unset, .unset] [(.long y)])) rfl (hb hby d3_40) _ k) ?_
        refine own_st (B := (s₁.setTop (mkF m 44 #[.val (.long x), .second, .val (.long y), .second, .val (.int z4), .unset, .unset] [(.int (lcmpW y (960 : Int64)))]))) (fun _ k => XS.lcmp X0.here hx rfl (hb hby d3_43) rfl k) ?_
        by_cases c44_7 : y < (960 : Int64)
        · refine own_st (B := (s₁.setTop (mkF m 59 #[.val (.long x), .second, .val (.long y), .second, .val (.int z4), .unset, .unset] []))) (fun _ k => XS.ifYes X0.here hx rfl (pc0 := 44) (pc' := 59) rfl (hb hby d3_44) rfl ((if0 _ _).trans (tlt ((lw_lt y (960 : Int64)).mpr c44_7)).1) (by decide) (by decide) k) ?_
          refine own_st (B := (s₁.setTop (mkF m 60 #[.val (.long x), .second, .val (.long y), .second, .val (.int z4), .unset, .unset] [(.int (0 : Int32))]))) (fun _ k => XS.iconst X0.here hx rfl (hb hby d3_59) k) ?_
          have i_c28_3 : ¬ x.toInt < 960 := own_uLn c28_3
          have i_c36_6 : y.toInt < 720 := own_uL c36_6
          have i_c44_7 : y.toInt < 960 := own_uL c44_7
          exact K5 _ (Or.inr ⟨rfl, by omega⟩)
        · refine own_st (B := (s₁.setTop (mkF m 47 #[.val (.long x), .second, .val (.long y), .second, .val (.int z4), .unset, .unset] []))) (fun _ k => XS.ifNo X0.here hx rfl (hb hby d3_44) rfl ((if0 _ _).trans (flt (mt (lw_lt y (960 : Int64)).mp c44_7)).1) k) ?_
          refine own_st (B := (s₁.setTop (mkF m 48 #[.val (.long x), .second, .val (.long y), .second, .val (.int z4), .unset, .unset] [(.long x)]))) (fun _ k => XS.lloadN X0.here hx rfl (hb hby d3_47) rfl k) ?_
          refine own_st (B := (s₁.setTop (mkF m 51 #[.val (.long x), .second, .val (.long y), .second, .val (.int z4), .unset, .unset] [(.long (720 : Int64)), (.long x)]))) (fun _ k => X0.ldc2Long hx hown (mvT hZ (hw _ (List.mem_of_getElem? (i := 23) rfl))) (g := (mkF m 48 #[.val (.long x), .second, .val (.long y), .second, .val (.int z4), .unset, .unset] [(.long x)])) rfl (hb hby d3_48) _ k) ?_
          refine own_st (B := (s₁.setTop (mkF m 52 #[.val (.long x), .second, .val (.long y), .second, .val (.int z4), .unset, .unset] [(.int (lcmpW x (720 : Int64)))]))) (fun _ k => XS.lcmp X0.here hx rfl (hb hby d3_51) rfl k) ?_
          by_cases c52_8 : x < (720 : Int64)
          · refine own_st (B := (s₁.setTop (mkF m 59 #[.val (.long x), .second, .val (.long y), .second, .val (.int z4), .unset, .unset] []))) (fun _ k => XS.ifYes X0.here hx rfl (pc0 := 52) (pc' := 59) rfl (hb hby d3_52) rfl ((if0 _ _).trans (tlt ((lw_lt x (720 : Int64)).mpr c52_8)).1) (by decide) (by decide) k) ?_
            refine own_st (B := (s₁.setTop (mkF m 60 #[.val (.long x), .second, .val (.long y), .second, .val (.int z4), .unset, .unset] [(.int (0 : Int32))]))) (fun _ k => XS.iconst X0.here hx rfl (hb hby d3_59) k) ?_
            have i_c28_3 : ¬ x.toInt < 960 := own_uLn c28_3
            have i_c36_6 : y.toInt < 720 := own_uL c36_6
            have i_c44_7 : ¬ y.toInt < 960 := own_uLn c44_7
            have i_c52_8 : x.toInt < 720 := own_uL c52_8
            exact K5 _ (Or.inr ⟨rfl, by omega⟩)
          · refine own_st (B := (s₁.setTop (mkF m 55 #[.val (.long x), .second, .val (.long y), .second, .val (.int z4), .unset, .unset] []))) (fun _ k => XS.ifNo X0.here hx rfl (hb hby d3_52) rfl ((if0 _ _).trans (flt (mt (lw_lt x (720 : Int64)).mp c52_8)).1) k) ?_
            refine own_st (B := (s₁.setTop (mkF m 56 #[.val (.long x), .second, .val (.long y), .second, .val (.int z4), .unset, .unset] [(.int (1 : Int32))]))) (fun _ k => XS.iconst X0.here hx rfl (hb hby d3_55) k) ?_
            refine own_st (B := (s₁.setTop (mkF m 60 #[.val (.long x), .second, .val (.long y), .second, .val (.int z4), .unset, .unset] [(.int (1 : Int32))]))) (fun _ k => XS.goto X0.here hx rfl (pc0 := 56) (pc' := 60) rfl (hb hby d3_56) (by decide) (by decide) k) ?_
            have i_c28_3 : ¬ x.toInt < 960 := own_uLn c28_3
            have i_c36_6 : y.toInt < 720 := own_uL c36_6
            have i_c44_7 : ¬ y.toInt < 960 := own_uLn c44_7
            have i_c52_8 : ¬ x.toInt < 720 := own_uLn c52_8
            exact K5 _ (Or.inl ⟨rfl, by omega⟩)
      · refine own_st (B := (s₁.setTop (mkF m 55 #[.val (.long x), .second, .val (.long y), .second, .val (.int z4), .unset, .unset] []))) (fun _ k => XS.ifYes X0.here hx rfl (pc0 := 36) (pc' := 55) rfl (hb hby d3_36) rfl ((if0 _ _).trans (flt (mt (lw_lt y (720 : Int64)).mp c36_6)).2.1) (by decide) (by decide) k) ?_
        refine own_st (B := (s₁.setTop (mkF m 56 #[.val (.long x), .second, .val (.long y), .second, .val (.int z4), .unset, .unset] [(.int (1 : Int32))]))) (fun _ k => XS.iconst X0.here hx rfl (hb hby d3_55) k) ?_
        refine own_st (B := (s₁.setTop (mkF m 60 #[.val (.long x), .second, .val (.long y), .second, .val (.int z4), .unset, .unset] [(.int (1 : Int32))]))) (fun _ k => XS.goto X0.here hx rfl (pc0 := 56) (pc' := 60) rfl (hb hby d3_56) (by decide) (by decide) k) ?_
        have i_c28_3 : ¬ x.toInt < 960 := own_uLn c28_3
        have i_c36_6 : ¬ y.toInt < 720 := own_uLn c36_6
        exact K5 _ (Or.inl ⟨rfl, by omega⟩)
  intro z5 h_z5
  refine own_st (B := (s₁.setTop (mkF m 62 #[.val (.long x), .second, .val (.long y), .second, .val (.int z4), .val (.int z5), .unset] []))) (fun _ k => XS.istore X0.here hx rfl (hb hby d3_60) rfl (l' := #[.val (.long x), .second, .val (.long y), .second, .val (.int z4), .val (.int z5), .unset]) rfl k) ?_
  suffices K6 : ∀ z6 : Int32, ((z6 = 1 ∧ ((640 ≤ x.toInt ∧ 480 ≤ y.toInt) ∨ (640 ≤ y.toInt ∧ 480 ≤ x.toInt))) ∨ (z6 = 0 ∧ ¬ ((640 ≤ x.toInt ∧ 480 ≤ y.toInt) ∨ (640 ≤ y.toInt ∧ 480 ≤ x.toInt)))) → own_Dn p e below (own_Ret s (own_QR r h0) ({ frames := 0, cells := 0, slots := 0, locals := 0 } : Room).cells ({ frames := 0, cells := 0, slots := 0, locals := 0 } : Room).slots) (s₁.setTop (mkF m 99 #[.val (.long x), .second, .val (.long y), .second, .val (.int z4), .val (.int z5), .unset] [(.int z6)])) by
    refine own_st (B := (s₁.setTop (mkF m 63 #[.val (.long x), .second, .val (.long y), .second, .val (.int z4), .val (.int z5), .unset] [(.long x)]))) (fun _ k => XS.lloadN X0.here hx rfl (hb hby d3_62) rfl k) ?_
    refine own_st (B := (s₁.setTop (mkF m 66 #[.val (.long x), .second, .val (.long y), .second, .val (.int z4), .val (.int z5), .unset] [(.long (640 : Int64)), (.long x)]))) (fun _ k => X0.ldc2Long hx hown (mvT hZ (hw _ (List.mem_of_getElem? (i := 6) rfl))) (g := (mkF m 63 #[.val (.long x), .second, .val (.long y), .second, .val (.int z4), .val (.int z5), .unset] [(.long x)])) rfl (hb hby d3_63) _ k) ?_
    refine own_st (B := (s₁.setTop (mkF m 67 #[.val (.long x), .second, .val (.long y), .second, .val (.int z4), .val (.int z5), .unset] [(.int (lcmpW x (640 : Int64)))]))) (fun _ k => XS.lcmp X0.here hx rfl (hb hby d3_66) rfl k) ?_
    by_cases c67_9 : x < (640 : Int64)
    · refine own_st (B := (s₁.setTop (mkF m 78 #[.val (.long x), .second, .val (.long y), .second, .val (.int z4), .val (.int z5), .unset] []))) (fun _ k => XS.ifYes X0.here hx rfl (pc0 := 67) (pc' := 78) rfl (hb hby d3_67) rfl ((if0 _ _).trans (tlt ((lw_lt x (640 : Int64)).mpr c67_9)).1) (by decide) (by decide) k) ?_
      refine own_st (B := (s₁.setTop (mkF m 79 #[.val (.long x), .second, .val (.long y), .second, .val (.int z4), .val (.int z5), .unset] [(.long y)]))) (fun _ k => XS.lloadN X0.here hx rfl (hb hby d3_78) rfl k) ?_
      refine own_st (B := (s₁.setTop (mkF m 82 #[.val (.long x), .second, .val (.long y), .second, .val (.int z4), .val (.int z5), .unset] [(.long (640 : Int64)), (.long y)]))) (fun _ k => X0.ldc2Long hx hown (mvT hZ (hw _ (List.mem_of_getElem? (i := 6) rfl))) (g := (mkF m 79 #[.val (.long x), .second, .val (.long y), .second, .val (.int z4), .val (.int z5), .unset] [(.long y)])) rfl (hb hby d3_79) _ k) ?_
      refine own_st (B := (s₁.setTop (mkF m 83 #[.val (.long x), .second, .val (.long y), .second, .val (.int z4), .val (.int z5), .unset] [(.int (lcmpW y (640 : Int64)))]))) (fun _ k => XS.lcmp X0.here hx rfl (hb hby d3_82) rfl k) ?_
      by_cases c83_10 : y < (640 : Int64)
      · refine own_st (B := (s₁.setTop (mkF m 98 #[.val (.long x), .second, .val (.long y), .second, .val (.int z4), .val (.int z5), .unset] []))) (fun _ k => XS.ifYes X0.here hx rfl (pc0 := 83) (pc' := 98) rfl (hb hby d3_83) rfl ((if0 _ _).trans (tlt ((lw_lt y (640 : Int64)).mpr c83_10)).1) (by decide) (by decide) k) ?_
        refine own_st (B := (s₁.setTop (mkF m 99 #[.val (.long x), .second, .val (.long y), .second, .val (.int z4), .val (.int z5), .unset] [(.int (0 : Int32))]))) (fun _ k => XS.iconst X0.here hx rfl (hb hby d3_98) k) ?_
        have i_c67_9 : x.toInt < 640 := own_uL c67_9
        have i_c83_10 : y.toInt < 640 := own_uL c83_10
        exact K6 _ (Or.inr ⟨rfl, by omega⟩)
      · refine own_st (B := (s₁.setTop (mkF m 86 #[.val (.long x), .second, .val (.long y), .second, .val (.int z4), .val (.int z5), .unset] []))) (fun _ k => XS.ifNo X0.here hx rfl (hb hby d3_83) rfl ((if0 _ _).trans (flt (mt (lw_lt y (640 : Int64)).mp c83_10)).1) k) ?_
        refine own_st (B := (s₁.setTop (mkF m 87 #[.val (.long x), .second, .val (.long y), .second, .val (.int z4), .val (.int z5), .unset] [(.long x)]))) (fun _ k => XS.lloadN X0.here hx rfl (hb hby d3_86) rfl k) ?_
        refine own_st (B := (s₁.setTop (mkF m 90 #[.val (.long x), .second, .val (.long y), .second, .val (.int z4), .val (.int z5), .unset] [(.long (480 : Int64)), (.long x)]))) (fun _ k => X0.ldc2Long hx hown (mvT hZ (hw _ (List.mem_of_getElem? (i := 24) rfl))) (g := (mkF m 87 #[.val (.long x), .second, .val (.long y), .second, .val (.int z4), .val (.int z5), .unset] [(.long x)])) rfl (hb hby d3_87) _ k) ?_
        refine own_st (B := (s₁.setTop (mkF m 91 #[.val (.long x), .second, .val (.long y), .second, .val (.int z4), .val (.int z5), .unset] [(.int (lcmpW x (480 : Int64)))]))) (fun _ k => XS.lcmp X0.here hx rfl (hb hby d3_90) rfl k) ?_
        by_cases c91_11 : x < (480 : Int64)
        · refine own_st (B := (s₁.setTop (mkF m 98 #[.val (.long x), .second, .val (.long y), .second, .val (.int z4), .val (.int z5), .unset] []))) (fun _ k => XS.ifYes X0.here hx rfl (pc0 := 91) (pc' := 98) rfl (hb hby d3_91) rfl ((if0 _ _).trans (tlt ((lw_lt x (480 : Int64)).mpr c91_11)).1) (by decide) (by decide) k) ?_
          refine own_st (B := (s₁.setTop (mkF m 99 #[.val (.long x), .second, .val (.long y), .second, .val (.int z4), .val (.int z5), .unset] [(.int (0 : Int32))]))) (fun _ k => XS.iconst X0.here hx rfl (hb hby d3_98) k) ?_
          have i_c67_9 : x.toInt < 640 := own_uL c67_9
          have i_c83_10 : ¬ y.toInt < 640 := own_uLn c83_10
          have i_c91_11 : x.toInt < 480 := own_uL c91_11
          exact K6 _ (Or.inr ⟨rfl, by omega⟩)
        · refine own_st (B := (s₁.setTop (mkF m 94 #[.val (.long x), .second, .val (.long y), .second, .val (.int z4), .val (.int z5), .unset] []))) (fun _ k => XS.ifNo X0.here hx rfl (hb hby d3_91) rfl ((if0 _ _).trans (flt (mt (lw_lt x (480 : Int64)).mp c91_11)).1) k) ?_
          refine own_st (B := (s₁.setTop (mkF m 95 #[.val (.long x), .second, .val (.long y), .second, .val (.int z4), .val (.int z5), .unset] [(.int (1 : Int32))]))) (fun _ k => XS.iconst X0.here hx rfl (hb hby d3_94) k) ?_
          refine own_st (B := (s₁.setTop (mkF m 99 #[.val (.long x), .second, .val (.long y), .second, .val (.int z4), .val (.int z5), .unset] [(.int (1 : Int32))]))) (fun _ k => XS.goto X0.here hx rfl (pc0 := 95) (pc' := 99) rfl (hb hby d3_95) (by decide) (by decide) k) ?_
          have i_c67_9 : x.toInt < 640 := own_uL c67_9
          have i_c83_10 : ¬ y.toInt < 640 := own_uLn c83_10
          have i_c91_11 : ¬ x.toInt < 480 := own_uLn c91_11
          exact K6 _ (Or.inl ⟨rfl, by omega⟩)
    · refine own_st (B := (s₁.setTop (mkF m 70 #[.val (.long x), .second, .val (.long y), .second, .val (.int z4), .val (.int z5), .unset] []))) (fun _ k => XS.ifNo X0.here hx rfl (hb hby d3_67) rfl ((if0 _ _).trans (flt (mt (lw_lt x (640 : Int64)).mp c67_9)).1) k) ?_
      refine own_st (B := (s₁.setTop (mkF m 71 #[.val (.long x), .second, .val (.long y), .second, .val (.int z4), .val (.int z5), .unset] [(.long y)]))) (fun _ k => XS.lloadN X0.here hx rfl (hb hby d3_70) rfl k) ?_
      refine own_st (B := (s₁.setTop (mkF m 74 #[.val (.long x), .second, .val (.long y), .second, .val (.int z4), .val (.int z5), .unset] [(.long (480 : Int64)), (.long y)]))) (fun _ k => X0.ldc2Long hx hown (mvT hZ (hw _ (List.mem_of_getElem? (i := 24) rfl))) (g := (mkF m 71 #[.val (.long x), .second, .val (.long y), .second, .val (.int z4), .val (.int z5), .unset] [(.long y)])) rfl (hb hby d3_71) _ k) ?_
      refine own_st (B := (s₁.setTop (mkF m 75 #[.val (.long x), .second, .val (.long y), .second, .val (.int z4), .val (.int z5), .unset] [(.int (lcmpW y (480 : Int64)))]))) (fun _ k => XS.lcmp X0.here hx rfl (hb hby d3_74) rfl k) ?_
      by_cases c75_12 : y < (480 : Int64)
      · refine own_st (B := (s₁.setTop (mkF m 78 #[.val (.long x), .second, .val (.long y), .second, .val (.int z4), .val (.int z5), .unset] []))) (fun _ k => XS.ifNo X0.here hx rfl (hb hby d3_75) rfl ((if0 _ _).trans (tlt ((lw_lt y (480 : Int64)).mpr c75_12)).2.1) k) ?_
        refine own_st (B := (s₁.setTop (mkF m 79 #[.val (.long x), .second, .val (.long y), .second, .val (.int z4), .val (.int z5), .unset] [(.long y)]))) (fun _ k => XS.lloadN X0.here hx rfl (hb hby d3_78) rfl k) ?_
        refine own_st (B := (s₁.setTop (mkF m 82 #[.val (.long x), .second, .val (.long y), .second, .val (.int z4), .val (.int z5), .unset] [(.long (640 : Int64)), (.long y)]))) (fun _ k => X0.ldc2Long hx hown (mvT hZ (hw _ (List.mem_of_getElem? (i := 6) rfl))) (g := (mkF m 79 #[.val (.long x), .second, .val (.long y), .second, .val (.int z4), .val (.int z5), .unset] [(.long y)])) rfl (hb hby d3_79) _ k) ?_
        refine own_st (B := (s₁.setTop (mkF m 83 #[.val (.long x), .second, .val (.long y), .second, .val (.int z4), .val (.int z5), .unset] [(.int (lcmpW y (640 : Int64)))]))) (fun _ k => XS.lcmp X0.here hx rfl (hb hby d3_82) rfl k) ?_
        by_cases c83_13 : y < (640 : Int64)
        · refine own_st (B := (s₁.setTop (mkF m 98 #[.val (.long x), .second, .val (.long y), .second, .val (.int z4), .val (.int z5), .unset] []))) (fun _ k => XS.ifYes X0.here hx rfl (pc0 := 83) (pc' := 98) rfl (hb hby d3_83) rfl ((if0 _ _).trans (tlt ((lw_lt y (640 : Int64)).mpr c83_13)).1) (by decide) (by decide) k) ?_
          refine own_st (B := (s₁.setTop (mkF m 99 #[.val (.long x), .second, .val (.long y), .second, .val (.int z4), .val (.int z5), .unset] [(.int (0 : Int32))]))) (fun _ k => XS.iconst X0.here hx rfl (hb hby d3_98) k) ?_
          have i_c67_9 : ¬ x.toInt < 640 := own_uLn c67_9
          have i_c75_12 : y.toInt < 480 := own_uL c75_12
          have i_c83_13 : y.toInt < 640 := own_uL c83_13
          exact K6 _ (Or.inr ⟨rfl, by omega⟩)
        · refine own_st (B := (s₁.setTop (mkF m 86 #[.val (.long x), .second, .val (.long y), .second, .val (.int z4), .val (.int z5), .unset] []))) (fun _ k => XS.ifNo X0.here hx rfl (hb hby d3_83) rfl ((if0 _ _).trans (flt (mt (lw_lt y (640 : Int64)).mp c83_13)).1) k) ?_
          refine own_st (B := (s₁.setTop (mkF m 87 #[.val (.long x), .second, .val (.long y), .second, .val (.int z4), .val (.int z5), .unset] [(.long x)]))) (fun _ k => XS.lloadN X0.here hx rfl (hb hby d3_86) rfl k) ?_
          refine own_st (B := (s₁.setTop (mkF m 90 #[.val (.long x), .second, .val (.long y), .second, .val (.int z4), .val (.int z5), .unset] [(.long (480 : Int64)), (.long x)]))) (fun _ k => X0.ldc2Long hx hown (mvT hZ (hw _ (List.mem_of_getElem? (i := 24) rfl))) (g := (mkF m 87 #[.val (.long x), .second, .val (.long y), .second, .val (.int z4), .val (.int z5), .unset] [(.long x)])) rfl (hb hby d3_87) _ k) ?_
          refine own_st (B := (s₁.setTop (mkF m 91 #[.val (.long x), .second, .val (.long y), .second, .val (.int z4), .val (.int z5), .unset] [(.int (lcmpW x (480 : Int64)))]))) (fun _ k => XS.lcmp X0.here hx rfl (hb hby d3_90) rfl k) ?_
          by_cases c91_14 : x < (480 : Int64)
          · refine own_st (B := (s₁.setTop (mkF m 98 #[.val (.long x), .second, .val (.long y), .second, .val (.int z4), .val (.int z5), .unset] []))) (fun _ k => XS.ifYes X0.here hx rfl (pc0 := 91) (pc' := 98) rfl (hb hby d3_91) rfl ((if0 _ _).trans (tlt ((lw_lt x (480 : Int64)).mpr c91_14)).1) (by decide) (by decide) k) ?_
            refine own_st (B := (s₁.setTop (mkF m 99 #[.val (.long x), .second, .val (.long y), .second, .val (.int z4), .val (.int z5), .unset] [(.int (0 : Int32))]))) (fun _ k => XS.iconst X0.here hx rfl (hb hby d3_98) k) ?_
            have i_c67_9 : ¬ x.toInt < 640 := own_uLn c67_9
            have i_c75_12 : y.toInt < 480 := own_uL c75_12
            have i_c83_13 : ¬ y.toInt < 640 := own_uLn c83_13
            have i_c91_14 : x.toInt < 480 := own_uL c91_14
            exact K6 _ (Or.inr ⟨rfl, by omega⟩)
          · refine own_st (B := (s₁.setTop (mkF m 94 #[.val (.long x), .second, .val (.long y), .second, .val (.int z4), .val (.int z5), .unset] []))) (fun _ k => XS.ifNo X0.here hx rfl (hb hby d3_91) rfl ((if0 _ _).trans (flt (mt (lw_lt x (480 : Int64)).mp c91_14)).1) k) ?_
            refine own_st (B := (s₁.setTop (mkF m 95 #[.val (.long x), .second, .val (.long y), .second, .val (.int z4), .val (.int z5), .unset] [(.int (1 : Int32))]))) (fun _ k => XS.iconst X0.here hx rfl (hb hby d3_94) k) ?_
            refine own_st (B := (s₁.setTop (mkF m 99 #[.val (.long x), .second, .val (.long y), .second, .val (.int z4), .val (.int z5), .unset] [(.int (1 : Int32))]))) (fun _ k => XS.goto X0.here hx rfl (pc0 := 95) (pc' := 99) rfl (hb hby d3_95) (by decide) (by decide) k) ?_
            have i_c67_9 : ¬ x.toInt < 640 := own_uLn c67_9
            have i_c75_12 : y.toInt < 480 := own_uL c75_12
            have i_c83_13 : ¬ y.toInt < 640 := own_uLn c83_13
            have i_c91_14 : ¬ x.toInt < 480 := own_uLn c91_14
            exact K6 _ (Or.inl ⟨rfl, by omega⟩)
      · refine own_st (B := (s₁.setTop (mkF m 94 #[.val (.long x), .second, .val (.long y), .second, .val (.int z4), .val (.int z5), .unset] []))) (fun _ k => XS.ifYes X0.here hx rfl (pc0 := 75) (pc' := 94) rfl (hb hby d3_75) rfl ((if0 _ _).trans (flt (mt (lw_lt y (480 : Int64)).mp c75_12)).2.1) (by decide) (by decide) k) ?_
        refine own_st (B := (s₁.setTop (mkF m 95 #[.val (.long x), .second, .val (.long y), .second, .val (.int z4), .val (.int z5), .unset] [(.int (1 : Int32))]))) (fun _ k => XS.iconst X0.here hx rfl (hb hby d3_94) k) ?_
        refine own_st (B := (s₁.setTop (mkF m 99 #[.val (.long x), .second, .val (.long y), .second, .val (.int z4), .val (.int z5), .unset] [(.int (1 : Int32))]))) (fun _ k => XS.goto X0.here hx rfl (pc0 := 95) (pc' := 99) rfl (hb hby d3_95) (by decide) (by decide) k) ?_
        have i_c67_9 : ¬ x.toInt < 640 := own_uLn c67_9
        have i_c75_12 : ¬ y.toInt < 480 := own_uLn c75_12
        exact K6 _ (Or.inl ⟨rfl, by omega⟩)
  intro z6 h_z6
  refine own_st (B := (s₁.setTop (mkF m 101 #[.val (.long x), .second, .val (.long y), .second, .val (.int z4), .val (.int z5), .val (.int z6)] []))) (fun _ k => XS.istore X0.here hx rfl (hb hby d3_99) rfl (l' := #[.val (.long x), .second, .val (.long y), .second, .val (.int z4), .val (.int z5), .val (.int z6)]) rfl k) ?_
  refine own_st (B := (s₁.setTop (mkF m 103 #[.val (.long x), .second, .val (.long y), .second, .val (.int z4), .val (.int z5), .val (.int z6)] [(.int z4)]))) (fun _ k => XS.iload X0.here hx rfl (hb hby d3_101) rfl k) ?_
  by_cases c103 : z4 = (0 : Int32)
  · refine own_st (B := (s₁.setTop (mkF m 110 #[.val (.long x), .second, .val (.long y), .second, .val (.int z4), .val (.int z5), .val (.int z6)] []))) (fun _ k => XS.ifYes X0.here hx rfl (pc0 := 103) (pc' := 110) rfl (hb hby d3_103) rfl ((if0 _ _).trans (teq c103).1) (by decide) (by decide) k) ?_
    refine own_st (B := (s₁.setTop (mkF m 112 #[.val (.long x), .second, .val (.long y), .second, .val (.int z4), .val (.int z5), .val (.int z6)] [(.int z5)]))) (fun _ k => XS.iload X0.here hx rfl (hb hby d3_110) rfl k) ?_
    by_cases c112 : z5 = (0 : Int32)
    · refine own_st (B := (s₁.setTop (mkF m 119 #[.val (.long x), .second, .val (.long y), .second, .val (.int z4), .val (.int z5), .val (.int z6)] []))) (fun _ k => XS.ifYes X0.here hx rfl (pc0 := 112) (pc' := 119) rfl (hb hby d3_112) rfl ((if0 _ _).trans (teq c112).1) (by decide) (by decide) k) ?_
      refine own_st (B := (s₁.setTop (mkF m 121 #[.val (.long x), .second, .val (.long y), .second, .val (.int z4), .val (.int z5), .val (.int z6)] [(.int z6)]))) (fun _ k => XS.iload X0.here hx rfl (hb hby d3_119) rfl k) ?_
      by_cases c121 : z6 = (0 : Int32)
      · refine own_st (B := (s₁.setTop (mkF m 128 #[.val (.long x), .second, .val (.long y), .second, .val (.int z4), .val (.int z5), .val (.int z6)] []))) (fun _ k => XS.ifYes X0.here hx rfl (pc0 := 121) (pc' := 128) rfl (hb hby d3_121) rfl ((if0 _ _).trans (teq c121).1) (by decide) (by decide) k) ?_
        obtain ⟨T15, X15, e15, st15⟩ := getS2 X0 hx hZ hown (host := "") (Or.inl (hw _ (List.mem_of_getElem? (i := 25) rfl))) Via.refl e0 S_NORMAL (g := (mkF m 128 #[.val (.long x), .second, .val (.long y), .second, .val (.int z4), .val (.int z5), .val (.int z6)] [])) rfl (hb hby d3_128)
        refine own_st (B := (T15.setTop (mkF m 131 #[.val (.long x), .second, .val (.long y), .second, .val (.int z4), .val (.int z5), .val (.int z6)] [(.ref aN)]))) st15 ?_
        have hsel : own_sel x.toInt y.toInt aS aX aL aN = aN := by
          unfold own_sel
          rw [if_neg (own_flag0 h_z4 c103), if_neg (own_flag0 h_z5 c112), if_neg (own_flag0 h_z6 c121)]
        subst hr
        exact own_retA X15 hx hlk hret rfl (hb hby d3_131) (by show own_QR (own_sel x.toInt y.toInt aS aX aL aN) h0 _ T15.heap _; rw [e15]; exact ⟨by rw [hsel], rfl, rfl⟩) (by decide) (by decide)
      · refine own_st (B := (s₁.setTop (mkF m 124 #[.val (.long x), .second, .val (.long y), .second, .val (.int z4), .val (.int z5), .val (.int z6)] []))) (fun _ k => XS.ifNo X0.here hx rfl (hb hby d3_121) rfl ((if0 _ _).trans (feq c121).1) k) ?_
        obtain ⟨T16, X16, e16, st16⟩ := getS2 X0 hx hZ hown (host := "") (Or.inl (hw _ (List.mem_of_getElem? (i := 35) rfl))) Via.refl e0 S_LARGE (g := (mkF m 124 #[.val (.long x), .second, .val (.long y), .second, .val (.int z4), .val (.int z5), .val (.int z6)] [])) rfl (hb hby d3_124)
        refine own_st (B := (T16.setTop (mkF m 127 #[.val (.long x), .second, .val (.long y), .second, .val (.int z4), .val (.int z5), .val (.int z6)] [(.ref aL)]))) st16 ?_
        have hsel : own_sel x.toInt y.toInt aS aX aL aN = aL := by
          unfold own_sel
          rw [if_neg (own_flag0 h_z4 c103), if_neg (own_flag0 h_z5 c112), if_pos (own_flag1 h_z6 c121)]
        subst hr
        exact own_retA X16 hx hlk hret rfl (hb hby d3_127) (by show own_QR (own_sel x.toInt y.toInt aS aX aL aN) h0 _ T16.heap _; rw [e16]; exact ⟨by rw [hsel], rfl, rfl⟩) (by decide) (by decide)
    · refine own_st (B := (s₁.setTop (mkF m 115 #[.val (.long x), .second, .val (.long y), .second, .val (.int z4), .val (.int z5), .val (.int z6)] []))) (fun _ k => XS.ifNo X0.here hx rfl (hb hby d3_112) rfl ((if0 _ _).trans (feq c112).1) k) ?_
      obtain ⟨T17, X17, e17, st17⟩ := getS2 X0 hx hZ hown (host := "") (Or.inl (hw _ (List.mem_of_getElem? (i := 32) rfl))) Via.refl e0 S_XLARGE (g := (mkF m 115 #[.val (.long x), .second, .val (.long y), .second, .val (.int z4), .val (.int z5), .val (.int z6)] [])) rfl (hb hby d3_115)
      refine own_st (B := (T17.setTop (mkF m 118 #[.val (.long x), .second, .val (.long y), .second, .val (.int z4), .val (.int z5), .val (.int z6)] [(.ref aX)]))) st17 ?_
      have hsel : own_sel x.toInt y.toInt aS aX aL aN = aX := by
        unfold own_sel
        rw [if_neg (own_flag0 h_z4 c103), if_pos (own_flag1 h_z5 c112)]
      subst hr
      exact own_retA X17 hx hlk hret rfl (hb hby d3_118) (by show own_QR (own_sel x.toInt y.toInt aS aX aL aN) h0 _ T17.heap _; rw [e17]; exact ⟨by rw [hsel], rfl, rfl⟩) (by decide) (by decide)
  · refine own_st (B := (s₁.setTop (mkF m 106 #[.val (.long x), .second, .val (.long y), .second, .val (.int z4), .val (.int z5), .val (.int z6)] []))) (fun _ k => XS.ifNo X0.here hx rfl (hb hby d3_103) rfl ((if0 _ _).trans (feq c103).1) k) ?_
    obtain ⟨T18, X18, e18, st18⟩ := getS2 X0 hx hZ hown (host := "") (Or.inl (hw _ (List.mem_of_getElem? (i := 7) rfl))) Via.refl e0 S_SMALL (g := (mkF m 106 #[.val (.long x), .second, .val (.long y), .second, .val (.int z4), .val (.int z5), .val (.int z6)] [])) rfl (hb hby d3_106)
    refine own_st (B := (T18.setTop (mkF m 109 #[.val (.long x), .second, .val (.long y), .second, .val (.int z4), .val (.int z5), .val (.int z6)] [(.ref aS)]))) st18 ?_
    have hsel : own_sel x.toInt y.toInt aS aX aL aN = aS := by
      unfold own_sel
      rw [if_pos (own_flag1 h_z4 c103)]
    subst hr
    exact own_retA X18 hx hlk hret rfl (hb hby d3_109) (by show own_QR (own_sel x.toInt y.toInt aS aX aL aN) h0 _ T18.heap _; rw [e18]; exact ⟨by rw [hsel], rfl, rfl⟩) (by decide) (by decide)
theorem d4_0 : decode prog_60_method_4_code 0 = .ok (.lload_n 0, 1) := by decide +kernel
theorem d4_1 : decode prog_60_method_4_code 1 = .ok (.lload_n 2, 1) := by decide +kernel
theorem pd_0 : parseMethodDescriptor "(JJ)J" = some ⟨[.long, .long], some .long⟩ := by decide +kernel
theorem d4_2 : decode prog_60_method_4_code 2 = .ok (.invokestatic 35, 3) := by decide +kernel
theorem d4_5 : decode prog_60_method_4_code 5 = .ok (.lstore 4, 2) := by decide +kernel
theorem d4_7 : decode prog_60_method_4_code 7 = .ok (.lload_n 0, 1) := by decide +kernel
theorem d4_8 : decode prog_60_method_4_code 8 = .ok (.lload_n 2, 1) := by decide +kernel
theorem d4_9 : decode prog_60_method_4_code 9 = .ok (.invokestatic 41, 3) := by decide +kernel
theorem d4_12 : decode prog_60_method_4_code 12 = .ok (.lstore 6, 2) := by decide +kernel
theorem d4_14 : decode prog_60_method_4_code 14 = .ok (.lload 4, 2) := by decide +kernel
theorem d4_16 : decode prog_60_method_4_code 16 = .ok (.ldc2_w 44, 3) := by decide +kernel
theorem d4_19 : decode prog_60_method_4_code 19 = .ok (.lcmp, 1) := by decide +kernel
theorem d4_20 : decode prog_60_method_4_code 20 = .ok (.ifCond .ge 7, 3) := by decide +kernel
theorem d4_23 : decode prog_60_method_4_code 23 = .ok (.getstatic 3, 3) := by decide +kernel
theorem d4_26 : decode prog_60_method_4_code 26 = .ok (.areturn, 1) := by decide +kernel
theorem d4_27 : decode prog_60_method_4_code 27 = .ok (.lload 4, 2) := by decide +kernel
theorem d4_29 : decode prog_60_method_4_code 29 = .ok (.ldc2_w 46, 3) := by decide +kernel
theorem d4_32 : decode prog_60_method_4_code 32 = .ok (.lcmp, 1) := by decide +kernel
theorem d4_33 : decode prog_60_method_4_code 33 = .ok (.ifCond .lt 16, 3) := by decide +kernel
theorem d4_49 : decode prog_60_method_4_code 49 = .ok (.lload 4, 2) := by decide +kernel
theorem d4_51 : decode prog_60_method_4_code 51 = .ok (.ldc2_w 50, 3) := by decide +kernel
theorem d4_54 : decode prog_60_method_4_code 54 = .ok (.lcmp, 1) := by decide +kernel
theorem d4_55 : decode prog_60_method_4_code 55 = .ok (.ifCond .lt 16, 3) := by decide +kernel
theorem d4_71 : decode prog_60_method_4_code 71 = .ok (.getstatic 7, 3) := by decide +kernel
theorem d4_74 : decode prog_60_method_4_code 74 = .ok (.areturn, 1) := by decide +kernel
theorem d4_58 : decode prog_60_method_4_code 58 = .ok (.lload 6, 2) := by decide +kernel
theorem d4_60 : decode prog_60_method_4_code 60 = .ok (.ldc2_w 52, 3) := by decide +kernel
theorem d4_63 : decode prog_60_method_4_code 63 = .ok (.lcmp, 1) := by decide +kernel
theorem d4_64 : decode prog_60_method_4_code 64 = .ok (.ifCond .lt 7, 3) := by decide +kernel
theorem d4_67 : decode prog_60_method_4_code 67 = .ok (.getstatic 10, 3) := by decide +kernel
theorem d4_70 : decode prog_60_method_4_code 70 = .ok (.areturn, 1) := by decide +kernel
theorem d4_36 : decode prog_60_method_4_code 36 = .ok (.lload 6, 2) := by decide +kernel
theorem d4_38 : decode prog_60_method_4_code 38 = .ok (.ldc2_w 48, 3) := by decide +kernel
theorem d4_41 : decode prog_60_method_4_code 41 = .ok (.lcmp, 1) := by decide +kernel
theorem d4_42 : decode prog_60_method_4_code 42 = .ok (.ifCond .lt 7, 3) := by decide +kernel
theorem d4_45 : decode prog_60_method_4_code 45 = .ok (.getstatic 13, 3) := by decide +kernel
theorem d4_48 : decode prog_60_method_4_code 48 = .ok (.areturn, 1) := by decide +kernel
theorem ef_rm_of (m : MethodId) (x0 : Int64) (x1 : Int64) : entryFrame m #[(.long x0), (.long x1)] 8 = mkF m 0 #[.val (.long x0), .second, .val (.long x1), .second, .unset, .unset, .unset, .unset] [] := by first | (simp [entryFrame, mkF, argsToLocals, Value.category]; done) | rfl
theorem pn_1 : plainName "com/example/scalewright/scalewright/ScreenSize" = true := by first | (simp [plainName, overriddenIn]; done) | decide +kernel
set_option maxRecDepth 65536 in
set_option maxHeartbeats 40000000 in
theorem rm_of (l : Launch) (Z : State) (a0 : Array Value) (hw : ∀ d ∈ tables_1, d.before a0 Z = true) (ws : List Jvm.Cond) (x y : Int64) (aS aX aL aN r : Addr) (h0 : Heap) (S_SMALL : Sta Z h0 "com/example/scalewright/scalewright/ScreenSize" "SMALL" "Lcom/example/scalewright/scalewright/ScreenSize;" (.ref aS)) (S_XLARGE : Sta Z h0 "com/example/scalewright/scalewright/ScreenSize" "XLARGE" "Lcom/example/scalewright/scalewright/ScreenSize;" (.ref aX)) (S_LARGE : Sta Z h0 "com/example/scalewright/scalewright/ScreenSize" "LARGE" "Lcom/example/scalewright/scalewright/ScreenSize;" (.ref aL)) (S_NORMAL : Sta Z h0 "com/example/scalewright/scalewright/ScreenSize" "NORMAL" "Lcom/example/scalewright/scalewright/ScreenSize;" (.ref aN)) (hr : own_sel x.toInt y.toInt aS aX aL aN = r) :
    MetFree l (⟨"com/example/scalewright/scalewright/ScreenSize", "of", "(JJ)Lcom/example/scalewright/scalewright/ScreenSize;"⟩ : MethodName) (head1 (Jvm.Cond.code (⟨"com/example/scalewright/scalewright/ScreenSize", "of", "(JJ)Lcom/example/scalewright/scalewright/ScreenSize;"⟩ : MethodName) prog_60_method_4_code 8 (some (.object "com/example/scalewright/scalewright/ScreenSize")) :: ws) ({ frames := 1, cells := 0, slots := 0, locals := 15 } : Room)) (fun a U => a = #[(.long x), (.long y)] ∧ Z.Warmed39 U.vm ∧ U.heap = h0) (fun _ _ _ _ _ => True) (fun _ U o U' => ∃ v L, o = .returned v ∧ own_QR r h0 v U'.heap L ∧ FrameEnd U o U' L ({ frames := 1, cells := 0, slots := 0, locals := 15 } : Room).cells ({ frames := 1, cells := 0, slots := 0, locals := 15 } : Room).slots) := by
  refine MetFree.of_bodySF (plainFor_of_name pn_1) hisR ?_
  intro p e s m args below meth c s₁ Bd hml0 hP hK
  obtain ⟨rfl, hZ, hh⟩ := hP
  have hx := Bd.exec
  have hby := Bd.bytes
  have hlk := Bd.notSynchronized
  have hret := Bd.returns
  have hml : c.maxLocals = 8 := hml0
  have hown : s.vm.findClass "com/example/scalewright/scalewright/ScreenSize" = some m.cls := findClass_of_methodNamed Bd.named
  have hnm := (name_of_methodNamed Bd.named Bd.method).1
  have X0 : Stand p l e ({ frames := 1, cells := 0, slots := 0, locals := 15 } : Room) s m #[(.long x), (.long y)] below meth c s₁ [] 0 0 := Stand.of_body Bd
  have e0 : s₁.heap = h0 := by rw [← hh, Bd.state]; rfl
  show own_Dn p e below (own_Ret s (own_QR r h0) ({ frames := 1, cells := 0, slots := 0, locals := 15 } : Room).cells ({ frames := 1, cells := 0, slots := 0, locals := 15 } : Room).slots) (s₁.setTop (entryFrame m #[(.long x), (.long y)] 8))
  rw [ef_rm_of]
  refine own_st (B := (s₁.setTop (mkF m 1 #[.val (.long x), .second, .val (.long y), .second, .unset, .unset, .unset, .unset] [(.long x)]))) (fun _ k => XS.lloadN X0.here hx rfl (hb hby d4_0) rfl k) ?_
  refine own_st (B := (s₁.setTop (mkF m 2 #[.val (.long x), .second, .val (.long y), .second, .unset, .unset, .unset, .unset] [(.long y), (.long x)]))) (fun _ k => XS.lloadN X0.here hx rfl (hb hby d4_1) rfl k) ?_
  obtain ⟨v1, T1, L1, X1, Q1, st1⟩ := own_callS (W := 0) X0 hx hZ (y := (⟨"java/lang/Math", "max", "(JJ)J"⟩ : MethodName)) hown (hw _ (List.mem_of_getElem? (i := 13) rfl)) (hw _ (List.mem_of_getElem? (i := 14) rfl)) (hw _ (List.mem_of_getElem? (i := 15) rfl)) (hw _ (List.mem_of_getElem? (i := 16) rfl)) (by decide) e0 (rm_max l Z a0 hw [] x y h0) (g := (mkF m 2 #[.val (.long x), .second, .val (.long y), .second, .unset, .unset, .unset, .unset] [(.long y), (.long x)])) rfl (by rw [hml]; rfl) (argsL := [(.long x), (.long y)]) (rest := []) (lenOf pd_0 rfl) rfl rfl (by show 2 * 0 + _ ≤ _; exact Nat.le_of_eq rfl) (hb hby d4_2) (by decide) (by decide) (by decide) (by decide)
  obtain ⟨mx, rfl, hmx, rfl, q1⟩ := Q1
  refine own_st (B := (T1.setTop (mkF m 5 #[.val (.long x), .second, .val (.long y), .second, .unset, .unset, .unset, .unset] [(.long mx)]))) st1 ?_
  refine own_st (B := (T1.setTop (mkF m 7 #[.val (.long x), .second, .val (.long y), .second, .val (.long mx), .second, .unset, .unset] []))) (fun _ k => XS.lstore X1.here hx rfl (hb hby d4_5) rfl (l' := #[.val (.long x), .second, .val (.long y), .second, .val (.long mx), .second, .unset, .unset]) rfl k) ?_
  refine own_st (B := (T1.setTop (mkF m 8 #[.val (.long x), .second, .val (.long y), .second, .val (.long mx), .second, .unset, .unset] [(.long x)]))) (fun _ k => XS.lloadN X1.here hx rfl (hb hby d4_7) rfl k) ?_
  refine own_st (B := (T1.setTop (mkF m 9 #[.val (.long x), .second, .val (.long y), .second, .val (.long mx), .second, .unset, .unset] [(.long y), (.long x)]))) (fun _ k => XS.lloadN X1.here hx rfl (hb hby d4_8) rfl k) ?_
  obtain ⟨v2, T2, L2, X2, Q2, st2⟩ := own_callS (W := 0) X1 hx hZ (y := (⟨"java/lang/Math", "min", "(JJ)J"⟩ : MethodName)) hown (hw _ (List.mem_of_getElem? (i := 17) rfl)) (hw _ (List.mem_of_getElem? (i := 18) rfl)) (hw _ (List.mem_of_getElem? (i := 15) rfl)) (hw _ (List.mem_of_getElem? (i := 19) rfl)) (by decide) q1 (rm_min l Z a0 hw [] x y h0) (g := (mkF m 9 #[.val (.long x), .second, .val (.long y), .second, .val (.long mx), .second, .unset, .unset] [(.long y), (.long x)])) rfl (by rw [hml]; rfl) (argsL := [(.long x), (.long y)]) (rest := []) (lenOf pd_0 rfl) rfl rfl (by show 2 * 0 + _ ≤ _; exact Nat.le_of_eq rfl) (hb hby d4_9) (by decide) (by decide) (by decide) (by decide)
  obtain ⟨mi, rfl, hmi, rfl, q2⟩ := Q2
  refine own_st (B := (T2.setTop (mkF m 12 #[.val (.long x), .second, .val (.long y), .second, .val (.long mx), .second, .unset, .unset] [(.long mi)]))) st2 ?_
  refine own_st (B := (T2.setTop (mkF m 14 #[.val (.long x), .second, .val (.long y), .second, .val (.long mx), .second, .val (.long mi), .second] []))) (fun _ k => XS.lstore X2.here hx rfl (hb hby d4_12) rfl (l' := #[.val (.long x), .second, .val (.long y), .second, .val (.long mx), .second, .val (.long mi), .second]) rfl k) ?_
  refine own_st (B := (T2.setTop (mkF m 16 #[.val (.long x), .second, .val (.long y), .second, .val (.long mx), .second, .val (.long mi), .second] [(.long mx)]))) (fun _ k => XS.lload X2.here hx rfl (hb hby d4_14) rfl k) ?_
  refine own_st (B := (T2.setTop (mkF m 19 #[.val (.long x), .second, .val (.long y), .second, .val (.long mx), .second, .val (.long mi), .second] [(.long (470 : Int64)), (.long mx)]))) (fun _ k => X2.ldc2Long hx hown (mvT hZ (hw _ (List.mem_of_getElem? (i := 20) rfl))) (g := (mkF m 16 #[.val (.long x), .second, .val (.long y), .second, .val (.long mx), .second, .val (.long mi), .second] [(.long mx)])) rfl (hb hby d4_16) _ k) ?_
  refine own_st (B := (T2.setTop (mkF m 20 #[.val (.long x), .second, .val (.long y), .second, .val (.long mx), .second, .val (.long mi), .second] [(.int (lcmpW mx (470 : Int64)))]))) (fun _ k => XS.lcmp X2.here hx rfl (hb hby d4_19) rfl k) ?_
  by_cases c20_3 : mx < (470 : Int64)
  · refine own_st (B := (T2.setTop (mkF m 23 #[.val (.long x), .second, .val (.long y), .second, .val (.long mx), .second, .val (.long mi), .second] []))) (fun _ k => XS.ifNo X2.here hx rfl (hb hby d4_20) rfl ((if0 _ _).trans (tlt ((lw_lt mx (470 : Int64)).mpr c20_3)).2.1) k) ?_
    obtain ⟨T4, X4, e4, st4⟩ := getS2 X2 hx hZ hown (host := "") (Or.inl (hw _ (List.mem_of_getElem? (i := 21) rfl))) Via.refl q2 S_SMALL (g := (mkF m 23 #[.val (.long x), .second, .val (.long y), .second, .val (.long mx), .second, .val (.long mi), .second] [])) rfl (hb hby d4_23)
    refine own_st (B := (T4.setTop (mkF m 26 #[.val (.long x), .second, .val (.long y), .second, .val (.long mx), .second, .val (.long mi), .second] [(.ref aS)]))) st4 ?_
    have i_c20_3 : mx.toInt < 470 := own_uL c20_3
    have hsel : own_sel x.toInt y.toInt aS aX aL aN = aS := by
      unfold own_sel
      (repeat' split) <;> first | rfl | (exfalso; omega)
    subst hr
    exact own_retA X4 hx hlk hret rfl (hb hby d4_26) (by show own_QR (own_sel x.toInt y.toInt aS aX aL aN) h0 _ T4.heap _; rw [e4]; exact ⟨by rw [hsel], rfl, rfl⟩) (by decide) (by decide)
  · refine own_st (B := (T2.setTop (mkF m 27 #[.val (.long x), .second, .val (.long y), .second, .val (.long mx), .second, .val (.long mi), .second] []))) (fun _ k => XS.ifYes X2.here hx rfl (pc0 := 20) (pc' := 27) rfl (hb hby d4_20) rfl ((if0 _ _).trans (flt (mt (lw_lt mx (470 : Int64)).mp c20_3)).2.1) (by decide) (by decide) k) ?_
    refine own_st (B := (T2.setTop (mkF m 29 #[.val (.long x), .second, .val (.long y), .second, .val (.long mx), .second, .val (.long mi), .second] [(.long mx)]))) (fun _ k => XS.lload X2.here hx rfl (hb hby d4_27) rfl k) ?_
    refine own_st (B := (T2.setTop (mkF m 32 #[.val (.long x), .second, .val (.long y), .second, .val (.long mx), .second, .val (.long mi), .second] [(.long (960 : Int64)), (.long mx)]))) (fun _ k => X2.ldc2Long hx hown (mvT hZ (hw _ (List.mem_of_getElem? (i := 27) rfl))) (g := (mkF m 29 #[.val (.long x), .second, .val (.long y), .second, .val (.long mx), .second, .val (.long mi), .second] [(.long mx)])) rfl (hb hby d4_29) _ k) ?_
    refine own_st (B := (T2.setTop (mkF m 33 #[.val (.long x), .second, .val (.long y), .second, .val (.long mx), .second, .val (.long mi), .second] [(.int (lcmpW mx (960 : Int64)))]))) (fun _ k => XS.lcmp X2.here hx rfl (hb hby d4_32) rfl k) ?_
    by_cases c33_5 : mx < (960 : Int64)
    · refine own_st (B := (T2.setTop (mkF m 49 #[.val (.long x), .second, .val (.long y), .second, .val (.long mx), .second, .val (.long mi), .second] []))) (fun _ k => XS.ifYes X2.here hx rfl (pc0 := 33) (pc' := 49) rfl (hb hby d4_33) rfl ((if0 _ _).trans (tlt ((lw_lt mx (960 : Int64)).mpr c33_5)).1) (by decide) (by decide) k) ?_
      refine own_st (B := (T2.setTop (mkF m 51 #[.val (.long x), .second, .val (.long y), .second, .val (.long mx), .second, .val (.long mi), .second] [(.long mx)]))) (fun _ k => XS.lload X2.here hx rfl (hb hby d4_49) rfl k) ?_
      refine own_st (B := (T2.setTop (mkF m 54 #[.val (.long x), .second, .val (.long y), .second, .val (.long mx), .second, .val (.long mi), .second] [(.long (640 : Int64)), (.long mx)]))) (fun _ k => X2.ldc2Long hx hown (mvT hZ (hw _ (List.mem_of_getElem? (i := 29) rfl))) (g := (mkF m 51 #[.val (.long x), .second, .val (.long y), .second, .val (.long mx), .second, .val (.long mi), .second] [(.long mx)])) rfl (hb hby d4_51) _ k) ?_
      refine own_st (B := (T2.setTop (mkF m 55 #[.val (.long x), .second, .val (.long y), .second, .val (.long mx), .second, .val (.long mi), .second] [(.int (lcmpW mx (640 : Int64)))]))) (fun _ k => XS.lcmp X2.here hx rfl (hb hby d4_54) rfl k) ?_
      by_cases c55_6 : mx < (640 : Int64)
      · refine own_st (B := (T2.setTop (mkF m 71 #[.val (.long x), .second, .val (.long y), .second, .val (.long mx), .second, .val (.long mi), .second] []))) (fun _ k => XS.ifYes X2.here hx rfl (pc0 := 55) (pc' := 71) rfl (hb hby d4_55) rfl ((if0 _ _).trans (tlt ((lw_lt mx (640 : Int64)).mpr c55_6)).1) (by decide) (by decide) k) ?_
        obtain ⟨T7, X7, e7, st7⟩ := getS2 X2 hx hZ hown (host := "") (Or.inl (hw _ (List.mem_of_getElem? (i := 31) rfl))) Via.refl q2 S_NORMAL (g := (mkF m 71 #[.val (.long x), .second, .val (.long y), .second, .val (.long mx), .second, .val (.long mi), .second] [])) rfl (hb hby d4_71)
        refine own_st (B := (T7.setTop (mkF m 74 #[.val (.long x), .second, .val (.long y), .second, .val (.long mx), .second, .val (.long mi), .second] [(.ref aN)]))) st7 ?_
        have i_c20_3 : ¬ mx.toInt < 470 := own_uLn c20_3
        have i_c33_5 : mx.toInt < 960 := own_uL c33_5
        have i_c55_6 : mx.toInt < 640 := own_uL c55_6
        have hsel : own_sel x.toInt y.toInt aS aX aL aN = aN := by
          unfold own_sel
          (repeat' split) <;> first | rfl | (exfalso; omega)
        subst hr
        exact own_retA X7 hx hlk hret rfl (hb hby d4_74) (by show own_QR (own_sel x.toInt y.toInt aS aX aL aN) h0 _ T7.heap _; rw [e7]; exact ⟨by rw [hsel], rfl, rfl⟩) (by decide) (by decide)
      · refine own_st (B := (T2.setTop (mkF m 58 #[.val (.long x), .second, .val (.long y), .second, .val (.long mx), .second, .val (.long mi), .second] []))) (fun _ k => XS.ifNo X2.here hx rfl (hb hby d4_55) rfl ((if0 _ _).trans (flt (mt (lw_lt mx (640 : Int64)).mp c55_6)).1) k) ?_
        refine own_st (B := (T2.setTop (mkF m 60 #[.val (.long x), .second, .val (.long y), .second, .val (.long mx), .second, .val (.long mi), .second] [(.long mi)]))) (fun _ k => XS.lload X2.here hx rfl (hb hby d4_58) rfl k) ?_
        refine own_st (B := (T2.setTop (mkF m 63 #[.val (.long x), .second, .val (.long y), .second, .val (.long mx), .second, .val (.long mi), .second] [(.long (480 : Int64)), (.long mi)]))) (fun _ k => X2.ldc2Long hx hown (mvT hZ (hw _ (List.mem_of_getElem? (i := 30) rfl))) (g := (mkF m 60 #[.val (.long x), .second, .val (.long y), .second, .val (.long mx), .second, .val (.long mi), .second] [(.long mi)])) rfl (hb hby d4_60) _ k) ?_
        refine own_st (B := (T2.setTop (mkF m 64 #[.val (.long x), .second, .val (.long y), .second, .val (.long mx), .second, .val (.long mi), .second] [(.int (lcmpW mi (480 : Int64)))]))) (fun _ k => XS.lcmp X2.here hx rfl (hb hby d4_63) rfl k) ?_
        by_cases c64_8 : mi < (480 : Int64)
        · refine own_st (B := (T2.setTop (mkF m 71 #[.val (.long x), .second, .val (.long y), .second, .val (.long mx), .second, .val (.long mi), .second] []))) (fun _ k => XS.ifYes X2.here hx rfl (pc0 := 64) (pc' := 71) rfl (hb hby d4_64) rfl ((if0 _ _).trans (tlt ((lw_lt mi (480 : Int64)).mpr c64_8)).1) (by decide) (by decide) k) ?_
          obtain ⟨T9, X9, e9, st9⟩ := getS2 X2 hx hZ hown (host := "") (Or.inl (hw _ (List.mem_of_getElem? (i := 31) rfl))) Via.refl q2 S_NORMAL (g := (mkF m 71 #[.val (.long x), .second, .val (.long y), .second, .val (.long mx), .second, .val (.long mi), .second] [])) rfl (hb hby d4_71)
          refine own_st (B := (T9.setTop (mkF m 74 #[.val (.long x), .second, .val (.long y), .second, .val (.long mx), .second, .val (.long mi), .second] [(.ref aN)]))) st9 ?_
          have i_c20_3 : ¬ mx.toInt < 470 := own_uLn c20_3
          have i_c33_5 : mx.toInt < 960 := own_uL c33_5
          have i_c55_6 : ¬ mx.toInt < 640 := own_uLn c55_6
          have i_c64_8 : mi.toInt < 480 := own_uL c64_8
          have hsel : own_sel x.toInt y.toInt aS aX aL aN = aN := by
            unfold own_sel
            (repeat' split) <;> first | rfl | (exfalso; omega)
          subst hr
          exact own_retA X9 hx hlk hret rfl (hb hby d4_74) (by show own_QR (own_sel x.toInt y.toInt aS aX aL aN) h0 _ T9.heap _; rw [e9]; exact ⟨by rw [hsel], rfl, rfl⟩) (by decide) (by decide)
        · refine own_st (B := (T2.setTop (mkF m 67 #[.val (.long x), .second, .val (.long y), .second, .val (.long mx), .second, .val (.long mi), .second] []))) (fun _ k => XS.ifNo X2.here hx rfl (hb hby d4_64) rfl ((if0 _ _).trans (flt (mt (lw_lt mi (480 : Int64)).mp c64_8)).1) k) ?_
          obtain ⟨T10, X10, e10, st10⟩ := getS2 X2 hx hZ hown (host := "") (Or.inl (hw _ (List.mem_of_getElem? (i := 37) rfl))) Via.refl q2 S_LARGE (g := (mkF m 67 #[.val (.long x), .second, .val (.long y), .second, .val (.long mx), .second, .val (.long mi), .second] [])) rfl (hb hby d4_67)
          refine own_st (B := (T10.setTop (mkF m 70 #[.val (.long x), .second, .val (.long y), .second, .val (.long mx), .second, .val (.long mi), .second] [(.ref aL)]))) st10 ?_
          have i_c20_3 : ¬ mx.toInt < 470 := own_uLn c20_3
          have i_c33_5 : mx.toInt < 960 := own_uL c33_5
          have i_c55_6 : ¬ mx.toInt < 640 := own_uLn c55_6
          have i_c64_8 : ¬ mi.toInt < 480 := own_uLn c64_8
          have hsel : own_sel x.toInt y.toInt aS aX aL aN = aL := by
            unfold own_sel
            (repeat' split) <;> first | rfl | (exfalso; omega)
          subst hr
          exact own_retA X10 hx hlk hret rfl (hb hby d4_70) (by show own_QR (own_sel x.toInt y.toInt aS aX aL aN) h0 _ T10.heap _; rw [e10]; exact ⟨by rw [hsel], rfl, rfl⟩) (by decide) (by decide)
    · refine own_st (B := (T2.setTop (mkF m 36 #[.val (.long x), .second, .val (.long y), .second, .val (.long mx), .second, .val (.long mi), .second] []))) (fun _ k => XS.ifNo X2.here hx rfl (hb hby d4_33) rfl ((if0 _ _).trans (flt (mt (lw_lt mx (960 : Int64)).mp c33_5)).1) k) ?_
      refine own_st (B := (T2.setTop (mkF m 38 #[.val (.long x), .second, .val (.long y), .second, .val (.long mx), .second, .val (.long mi), .second] [(.long mi)]))) (fun _ k => XS.lload X2.here hx rfl (hb hby d4_36) rfl k) ?_
      refine own_st (B := (T2.setTop (mkF m 41 #[.val (.long x), .second, .val (.long y), .second, .val (.long mx), .second, .val (.long mi), .second] [(.long (720 : Int64)), (.long mi)]))) (fun _ k => X2.ldc2Long hx hown (mvT hZ (hw _ (List.mem_of_getElem? (i := 28) rfl))) (g := (mkF m 38 #[.val (.long x), .second, .val (.long y), .second, .val (.long mx), .second, .val (.long mi), .second] [(.long mi)])) rfl (hb hby d4_38) _ k) ?_
      refine own_st (B := (T2.setTop (mkF m 42 #[.val (.long x), .second, .val (.long y), .second, .val (.long mx), .second, .val (.long mi), .second] [(.int (lcmpW mi (720 : Int64)))]))) (fun _ k => XS.lcmp X2.here hx rfl (hb hby d4_41) rfl k) ?_
      by_cases c42_11 : mi < (720 : Int64)
      · refine own_st (B := (T2.setTop (mkF m 49 #[.val (.long x), .second, .val (.long y), .second, .val (.long mx), .second, .val (.long mi), .second] []))) (fun _ k => XS.ifYes X2.here hx rfl (pc0 := 42) (pc' := 49) rfl (hb hby d4_42) rfl ((if0 _ _).trans (tlt ((lw_lt mi (720 : Int64)).mpr c42_11)).1) (by decide) (by decide) k) ?_
        refine own_st (B := (T2.setTop (mkF m 51 #[.val (.long x), .second, .val (.long y), .second, .val (.long mx), .second, .val (.long mi), .second] [(.long mx)]))) (fun _ k => XS.lload X2.here hx rfl (hb hby d4_49) rfl k) ?_
        refine own_st (B := (T2.setTop (mkF m 54 #[.val (.long x), .second, .val (.long y), .second, .val (.long mx), .second, .val (.long mi), .second] [(.long (640 : Int64)), (.long mx)]))) (fun _ k => X2.ldc2Long hx hown (mvT hZ (hw _ (List.mem_of_getElem? (i := 29) rfl))) (g := (mkF m 51 #[.val (.long x), .second, .val (.long y), .second, .val (.long mx), .second, .val (.long mi), .second] [(.long mx)])) rfl (hb hby d4_51) _ k) ?_
        refine own_st (B := (T2.setTop (mkF m 55 #[.val (.long x), .second, .val (.long y), .second, .val (.long mx), .second, .val (.long mi), .second] [(.int (lcmpW mx (640 : Int64)))]))) (fun _ k => XS.lcmp X2.here hx rfl (hb hby d4_54) rfl k) ?_
        by_cases c55_12 : mx < (640 : Int64)
        · refine own_st (B := (T2.setTop (mkF m 71 #[.val (.long x), .second, .val (.long y), .second, .val (.long mx), .second, .val (.long mi), .second] []))) (fun _ k => XS.ifYes X2.here hx rfl (pc0 := 55) (pc' := 71) rfl (hb hby d4_55) rfl ((if0 _ _).trans (tlt ((lw_lt mx (640 : Int64)).mpr c55_12)).1) (by decide) (by decide) k) ?_
          obtain ⟨T13, X13, e13, st13⟩ := getS2 X2 hx hZ hown (host := "") (Or.inl (hw _ (List.mem_of_getElem? (i := 31) rfl))) Via.refl q2 S_NORMAL (g := (mkF m 71 #[.val (.long x), .second, .val (.long y), .second, .val (.long mx), .second, .val (.long mi), .second] [])) rfl (hb hby d4_71)
          refine own_st (B := (T13.setTop (mkF m 74 #[.val (.long x), .second, .val (.long y), .second, .val (.long mx), .second, .val (.long mi), .second] [(.ref aN)]))) st13 ?_
          have i_c20_3 : ¬ mx.toInt < 470 := own_uLn c20_3
          have i_c33_5 : ¬ mx.toInt < 960 := own_uLn c33_5
          have i_c42_11 : mi.toInt < 720 := own_uL c42_11
          have i_c55_12 : mx.toInt < 640 := own_uL c55_12
          have hsel : own_sel x.toInt y.toInt aS aX aL aN = aN := by
            unfold own_sel
            (repeat' split) <;> first | rfl | (exfalso; omega)
          subst hr
          exact own_retA X13 hx hlk hret rfl (hb hby d4_74) (by show own_QR (own_sel x.toInt y.toInt aS aX aL aN) h0 _ T13.heap _; rw [e13]; exact ⟨by rw [hsel], rfl, rfl⟩) (by decide) (by decide)
        · refine own_st (B := (T2.setTop (mkF m 58 #[.val (.long x), .second, .val (.long y), .second, .val (.long mx), .second, .val (.long mi), .second] []))) (fun _ k => XS.ifNo X2.here hx rfl (hb hby d4_55) rfl ((if0 _ _).trans (flt (mt (lw_lt mx (640 : Int64)).mp c55_12)).1) k) ?_
          refine own_st (B := (T2.setTop (mkF m 60 #[.val (.long x), .second, .val (.long y), .second, .val (.long mx), .second, .val (.long mi), .second] [(.long mi)]))) (fun _ k => XS.lload X2.here hx rfl (hb hby d4_58) rfl k) ?_
          refine own_st (B := (T2.setTop (mkF m 63 #[.val (.long x), .second, .val (.long y), .second, .val (.long mx), .second, .val (.long mi), .second] [(.long (480 : Int64)), (.long mi)]))) (fun _ k => X2.ldc2Long hx hown (mvT hZ (hw _ (List.mem_of_getElem? (i := 30) rfl))) (g := (mkF m 60 #[.val (.long x), .second, .val (.long y), .second, .val (.long mx), .second, .val (.long mi), .second] [(.long mi)])) rfl (hb hby d4_60) _ k) ?_
          refine own_st (B := (T2.setTop (mkF m 64 #[.val (.long x), .second, .val (.long y), .second, .val (.long mx), .second, .val (.long mi), .second] [(.int (lcmpW mi (480 : Int64)))]))) (fun _ k => XS.lcmp X2.here hx rfl (hb hby d4_63) rfl k) ?_
          by_cases c64_14 : mi < (480 : Int64)
          · refine own_st (B := (T2.setTop (mkF m 71 #[.val (.long x), .second, .val (.long y), .second, .val (.long mx), .second, .val (.long mi), .second] []))) (fun _ k => XS.ifYes X2.here hx rfl (pc0 := 64) (pc' := 71) rfl (hb hby d4_64) rfl ((if0 _ _).trans (tlt ((lw_lt mi (480 : Int64)).mpr c64_14)).1) (by decide) (by decide) k) ?_
            obtain ⟨T15, X15, e15, st15⟩ := getS2 X2 hx hZ hown (host := "") (Or.inl (hw _ (List.mem_of_getElem? (i := 31) rfl))) Via.refl q2 S_NORMAL (g := (mkF m 71 #[.val (.long x), .second, .val (.long y), .second, .val (.long mx), .second, .val (.long mi), .second] [])) rfl (hb hby d4_71)
            refine own_st (B := (T15.setTop (mkF m 74 #[.val (.long x), .second, .val (.long y), .second, .val (.long mx), .second, .val (.long mi), .second] [(.ref aN)]))) st15 ?_
            have i_c20_3 : ¬ mx.toInt < 470 := own_uLn c20_3
            have i_c33_5 : ¬ mx.toInt < 960 := own_uLn c33_5
            have i_c42_11 : mi.toInt < 720 := own_uL c42_11
            have i_c55_12 : ¬ mx.toInt < 640 := own_uLn c55_12
            have i_c64_14 : mi.toInt < 480 := own_uL c64_14
            have hsel : own_sel x.toInt y.toInt aS aX aL aN = aN := by
              unfold own_sel
              (repeat' split) <;> first | rfl | (exfalso; omega)
            subst hr
            exact own_retA X15 hx hlk hret rfl (hb hby d4_74) (by show own_QR (own_sel x.toInt y.toInt aS aX aL aN) h0 _ T15.heap _; rw [e15]; exact ⟨by rw [hsel], rfl, rfl⟩) (by decide) (by decide)
          · refine own_st (B := (T2.setTop (mkF m 67 #[.val (.long x), .second, .val (.long y), .second, .val (.long mx), .second, .val (.long mi), .second] []))) (fun _ k => XS.ifNo X2.here hx rfl (hb hby d4_64) rfl ((if0 _ _).trans (flt (mt (lw_lt mi (480 : Int64)).mp c64_14)).1) k) ?_
            obtain ⟨T16, X16, e16, st16⟩ := getS2 X2 hx hZ hown (host := "") (Or.inl (hw _ (List.mem_of_getElem? (i := 37) rfl))) Via.refl q2 S_LARGE (g := (mkF m 67 #[.val (.long x), .second, .val (.long y), .second, .val (.long mx), .second, .val (.long mi), .second] [])) rfl (hb hby d4_67)
            refine own_st (B := (T16.setTop (mkF m 70 #[.val (.long x), .second, .val (.long y), .second, .val (.long mx), .second, .val (.long mi), .second] [(.ref aL)]))) st16 ?_
            have i_c20_3 : ¬ mx.toInt < 470 := own_uLn c20_3
            have i_c33_5 : ¬ mx.toInt < 960 := own_uLn c33_5
            have i_c42_11 : mi.toInt < 720 := own_uL c42_11
            have i_c55_12 : ¬ mx.toInt < 640 := own_uLn c55_12
            have i_c64_14 : ¬ mi.toInt < 480 := own_uLn c64_14
            have hsel : own_sel x.toInt y.toInt aS aX aL aN = aL := by
              unfold own_sel
              (repeat' split) <;> first | rfl | (exfalso; omega)
            subst hr
            exact own_retA X16 hx hlk hret rfl (hb hby d4_70) (by show own_QR (own_sel x.toInt y.toInt aS aX aL aN) h0 _ T16.heap _; rw [e16]; exact ⟨by rw [hsel], rfl, rfl⟩) (by decide) (by decide)
      · refine own_st (B := (T2.setTop (mkF m 45 #[.val (.long x), .second, .val (.long y), .second, .val (.long mx), .second, .val (.long mi), .second] []))) (fun _ k => XS.ifNo X2.here hx rfl (hb hby d4_42) rfl ((if0 _ _).trans (flt (mt (lw_lt mi (720 : Int64)).mp c42_11)).1) k) ?_
        obtain ⟨T17, X17, e17, st17⟩ := getS2 X2 hx hZ hown (host := "") (Or.inl (hw _ (List.mem_of_getElem? (i := 34) rfl))) Via.refl q2 S_XLARGE (g := (mkF m 45 #[.val (.long x), .second, .val (.long y), .second, .val (.long mx), .second, .val (.long mi), .second] [])) rfl (hb hby d4_45)
        refine own_st (B := (T17.setTop (mkF m 48 #[.val (.long x), .second, .val (.long y), .second, .val (.long mx), .second, .val (.long mi), .second] [(.ref aX)]))) st17 ?_
        have i_c20_3 : ¬ mx.toInt < 470 := own_uLn c20_3
        have i_c33_5 : ¬ mx.toInt < 960 := own_uLn c33_5
        have i_c42_11 : ¬ mi.toInt < 720 := own_uLn c42_11
        have hsel : own_sel x.toInt y.toInt aS aX aL aN = aX := by
          unfold own_sel
          (repeat' split) <;> first | rfl | (exfalso; omega)
        subst hr
        exact own_retA X17 hx hlk hret rfl (hb hby d4_48) (by show own_QR (own_sel x.toInt y.toInt aS aX aL aN) h0 _ T17.heap _; rw [e17]; exact ⟨by rw [hsel], rfl, rfl⟩) (by decide) (by decide)
theorem pd_1 : parseMethodDescriptor "(JJ)Lcom/example/scalewright/scalewright/ScreenSize;" = some ⟨[.long, .long], some (.object "com/example/scalewright/scalewright/ScreenSize")⟩ := by decide +kernel
theorem ef_rm_law (m : MethodId) (x0 : Int64) (x1 : Int64) (x2 : Int32) : entryFrame m #[(.long x0), (.long x1), (.int x2)] maxLocals = mkF m 0 #[.val (.long x0), .second, .val (.long x1), .second, .val (.int x2), .unset, .unset, .unset, .unset, .unset, .unset, .unset] [] := by first | (simp [entryFrame, mkF, argsToLocals, Value.category, maxLocals]; done) | rfl
set_option maxRecDepth 65536 in
set_option maxHeartbeats 40000000 in
theorem rm_law (l : Launch) (Z : State) (a0 : Array Value) (hw : ∀ d ∈ tables_1, d.before a0 Z = true) (ws : List Jvm.Cond) (p1 p2 : Int64) (p3 : Int32) (aS aX aL aN : Addr) (h0 : Heap) (n0 : Nat) (Z0 : n0 ≤ h0.size) (S_SMALL : Sta Z h0 "com/example/scalewright/scalewright/ScreenSize" "SMALL" "Lcom/example/scalewright/scalewright/ScreenSize;" (.ref aS)) (S_XLARGE : Sta Z h0 "com/example/scalewright/scalewright/ScreenSize" "XLARGE" "Lcom/example/scalewright/scalewright/ScreenSize;" (.ref aX)) (S_LARGE : Sta Z h0 "com/example/scalewright/scalewright/ScreenSize" "LARGE" "Lcom/example/scalewright/scalewright/ScreenSize;" (.ref aL)) (S_NORMAL : Sta Z h0 "com/example/scalewright/scalewright/ScreenSize" "NORMAL" "Lcom/example/scalewright/scalewright/ScreenSize;" (.ref aN)) :
    MetFree l x (head1 (Jvm.Cond.code x code maxLocals ret :: ws) room_1) (fun a U => a = #[(.long p1), (.long p2), (.int p3)] ∧ Z.Warmed39 U.vm ∧ U.heap = h0) (fun _ _ _ _ _ => True) (fun _ U o U' => ∃ v L, o = .returned v ∧ own_Q0 n0 v U'.heap L ∧ FrameEnd U o U' L 0 0) := by
  refine MetFree.of_bodySF (plainFor_of_name pn_0) hisR ?_
  intro p e s m args below meth c s₁ Bd hml0 hP hK
  obtain ⟨rfl, hZ, hh⟩ := hP
  have hx := Bd.exec
  have hby := Bd.bytes
  have hlk := Bd.notSynchronized
  have hret := Bd.returns
  have hml : c.maxLocals = 12 := hml0
  have hown : s.vm.findClass "com/example/scalewright/scalewright/ScreenSizeOfPinLaw" = some m.cls := findClass_of_methodNamed Bd.named
  have hnm := (name_of_methodNamed Bd.named Bd.method).1
  have X0 : Stand p l e room_1 s m #[(.long p1), (.long p2), (.int p3)] below meth c s₁ [] 0 0 := Stand.of_body Bd
  have e0 : s₁.heap = h0 := by rw [← hh, Bd.state]; rfl
  have N0 := Fr.nil n0
  show own_Dn p e below (own_Ret s (own_Q0 n0) 0 0) (s₁.setTop (entryFrame m #[(.long p1), (.long p2), (.int p3)] maxLocals))
  rw [ef_rm_law]
  suffices K0 : ∀ v0 : Int64, own_Dn p e below (own_Ret s (own_Q0 n0) 0 0) (s₁.setTop (mkF m 16 #[.val (.long p1), .second, .val (.long p2), .second, .val (.int p3), .unset, .unset, .unset, .unset, .unset, .unset, .unset] [(.long v0)])) by
    refine own_st (B := (s₁.setTop (mkF m 2 #[.val (.long p1), .second, .val (.long p2), .second, .val (.int p3), .unset, .unset, .unset, .unset, .unset, .unset, .unset] [(.int p3)]))) (fun _ k => XS.iload X0.here hx rfl (hb hby at_0) rfl k) ?_
    refine own_st (B := (s₁.setTop (mkF m 3 #[.val (.long p1), .second, .val (.long p2), .second, .val (.int p3), .unset, .unset, .unset, .unset, .unset, .unset, .unset] [(.int (1 : Int32)), (.int p3)]))) (fun _ k => XS.iconst X0.here hx rfl (hb hby at_2) k) ?_
    refine own_st (B := (s₁.setTop (mkF m 4 #[.val (.long p1), .second, .val (.long p2), .second, .val (.int p3), .unset, .unset, .unset, .unset, .unset, .unset, .unset] [(.int (p3 &&& (1 : Int32)))]))) (fun _ k => XS.iand X0.here hx rfl (hb hby at_3) rfl k) ?_
    by_cases c4_1 : (p3 &&& (1 : Int32)) = (0 : Int32)
    · refine own_st (B := (s₁.setTop (mkF m 15 #[.val (.long p1), .second, .val (.long p2), .second, .val (.int p3), .unset, .unset, .unset, .unset, .unset, .unset, .unset] []))) (fun _ k => XS.ifYes X0.here hx rfl (pc0 := 4) (pc' := 15) rfl (hb hby at_4) rfl ((if0 _ _).trans (teq c4_1).1) (by decide) (by decide) k) ?_
      refine own_st (B := (s₁.setTop (mkF m 16 #[.val (.long p1), .second, .val (.long p2), .second, .val (.int p3), .unset, .unset, .unset, .unset, .unset, .unset, .unset] [(.long p1)]))) (fun _ k => XS.lloadN X0.here hx rfl (hb hby at_15) rfl k) ?_
      exact K0 _
    · refine own_st (B := (s₁.setTop (mkF m 7 #[.val (.long p1), .second, .val (.long p2), .second, .val (.int p3), .unset, .unset, .unset, .unset, .unset, .unset, .unset] []))) (fun _ k => XS.ifNo X0.here hx rfl (hb hby at_4) rfl ((if0 _ _).trans (feq c4_1).1) k) ?_
      refine own_st (B := (s₁.setTop (mkF m 8 #[.val (.long p1), .second, .val (.long p2), .second, .val (.int p3), .unset, .unset, .unset, .unset, .unset, .unset, .unset] [(.long p1)]))) (fun _ k => XS.lloadN X0.here hx rfl (hb hby at_7) rfl k) ?_
      refine own_st (B := (s₁.setTop (mkF m 11 #[.val (.long p1), .second, .val (.long p2), .second, .val (.int p3), .unset, .unset, .unset, .unset, .unset, .unset, .unset] [(.long (1200 : Int64)), (.long p1)]))) (fun _ k => X0.ldc2Long hx hown (mvT hZ (hw _ (List.mem_of_getElem? (i := 22) rfl))) (g := (mkF m 8 #[.val (.long p1), .second, .val (.long p2), .second, .val (.int p3), .unset, .unset, .unset, .unset, .unset, .unset, .unset] [(.long p1)])) rfl (hb hby at_8) _ k) ?_
      refine own_st (B := (s₁.setTop (mkF m 12 #[.val (.long p1), .second, .val (.long p2), .second, .val (.int p3), .unset, .unset, .unset, .unset, .unset, .unset, .unset] [(.long (p1 % (1200 : Int64)))]))) (fun _ k => own_lrem X0 hx rfl (hb hby at_11) rfl (by decide) k) ?_
      refine own_st (B := (s₁.setTop (mkF m 16 #[.val (.long p1), .second, .val (.long p2), .second, .val (.int p3), .unset, .unset, .unset, .unset, .unset, .unset, .unset] [(.long (p1 % (1200 : Int64)))]))) (fun _ k => XS.goto X0.here hx rfl (pc0 := 12) (pc' := 16) rfl (hb hby at_12) (by decide) (by decide) k) ?_
      exact K0 _
  intro v0
  refine own_st (B := (s₁.setTop (mkF m 18 #[.val (.long p1), .second, .val (.long p2), .second, .val (.int p3), .val (.long v0), .second, .unset, .unset, .unset, .unset, .unset] []))) (fun _ k => XS.lstore X0.here hx rfl (hb hby at_16) rfl (l' := #[.val (.long p1), .second, .val (.long p2), .second, .val (.int p3), .val (.long v0), .second, .unset, .unset, .unset, .unset, .unset]) rfl k) ?_
  suffices K1 : ∀ v1 : Int64, own_Dn p e below (own_Ret s (own_Q0 n0) 0 0) (s₁.setTop (mkF m 34 #[.val (.long p1), .second, .val (.long p2), .second, .val (.int p3), .val (.long v0), .second, .unset, .unset, .unset, .unset, .unset] [(.long v1)])) by
    refine own_st (B := (s₁.setTop (mkF m 20 #[.val (.long p1), .second, .val (.long p2), .second, .val (.int p3), .val (.long v0), .second, .unset, .unset, .unset, .unset, .unset] [(.int p3)]))) (fun _ k => XS.iload X0.here hx rfl (hb hby at_18) rfl k) ?_
    refine own_st (B := (s₁.setTop (mkF m 21 #[.val (.long p1), .second, .val (.long p2), .second, .val (.int p3), .val (.long v0), .second, .unset, .unset, .unset, .unset, .unset] [(.int (2 : Int32)), (.int p3)]))) (fun _ k => XS.iconst X0.here hx rfl (hb hby at_20) k) ?_
    refine own_st (B := (s₁.setTop (mkF m 22 #[.val (.long p1), .second, .val (.long p2), .second, .val (.int p3), .val (.long v0), .second, .unset, .unset, .unset, .unset, .unset] [(.int (p3 &&& (2 : Int32)))]))) (fun _ k => XS.iand X0.here hx rfl (hb hby at_21) rfl k) ?_
    by_cases c22_2 : (p3 &&& (2 : Int32)) = (0 : Int32)
    · refine own_st (B := (s₁.setTop (mkF m 33 #[.val (.long p1), .second, .val (.long p2), .second, .val (.int p3), .val (.long v0), .second, .unset, .unset, .unset, .unset, .unset] []))) (fun _ k => XS.ifYes X0.here hx rfl (pc0 := 22) (pc' := 33) rfl (hb hby at_22) rfl ((if0 _ _).trans (teq c22_2).1) (by decide) (by decide) k) ?_
      refine own_st (B := (s₁.setTop (mkF m 34 #[.val (.long p1), .second, .val (.long p2), .second, .val (.int p3), .val (.long v0), .second, .unset, .unset, .unset, .unset, .unset] [(.long p2)]))) (fun _ k => XS.lloadN X0.here hx rfl (hb hby at_33) rfl k) ?_
      exact K1 _
    · refine own_st (B := (s₁.setTop (mkF m 25 #[.val (.long p1), .second, .val (.long p2), .second, .val (.int p3), .val (.long v0), .second, .unset, .unset, .unset, .unset, .unset] []))) (fun _ k => XS.ifNo X0.here hx rfl (hb hby at_22) rfl ((if0 _ _).trans (feq c22_2).1) k) ?_
      refine own_st (B := (s₁.setTop (mkF m 26 #[.val (.long p1), .second, .val (.long p2), .second, .val (.int p3), .val (.long v0), .second, .unset, .unset, .unset, .unset, .unset] [(.long p2)]))) (fun _ k => XS.lloadN X0.here hx rfl (hb hby at_25) rfl k) ?_
      refine own_st (B := (s₁.setTop (mkF m 29 #[.val (.long p1), .second, .val (.long p2), .second, .val (.int p3), .val (.long v0), .second, .unset, .unset, .unset, .unset, .unset] [(.long (1200 : Int64)), (.long p2)]))) (fun _ k => X0.ldc2Long hx hown (mvT hZ (hw _ (List.mem_of_getElem? (i := 22) rfl))) (g := (mkF m 26 #[.val (.long p1), .second, .val (.long p2), .second, .val (.int p3), .val (.long v0), .second, .unset, .unset, .unset, .unset, .unset] [(.long p2)])) rfl (hb hby at_26) _ k) ?_
      refine own_st (B := (s₁.setTop (mkF m 30 #[.val (.long p1), .second, .val (.long p2), .second, .val (.int p3), .val (.long v0), .second, .unset, .unset, .unset, .unset, .unset] [(.long (p2 % (1200 : Int64)))]))) (fun _ k => own_lrem X0 hx rfl (hb hby at_29) rfl (by decide) k) ?_
      refine own_st (B := (s₁.setTop (mkF m 34 #[.val (.long p1), .second, .val (.long p2), .second, .val (.int p3), .val (.long v0), .second, .unset, .unset, .unset, .unset, .unset] [(.long (p2 % (1200 : Int64)))]))) (fun _ k => XS.goto X0.here hx rfl (pc0 := 30) (pc' := 34) rfl (hb hby at_30) (by decide) (by decide) k) ?_
      exact K1 _
  intro v1
  refine own_st (B := (s₁.setTop (mkF m 36 #[.val (.long p1), .second, .val (.long p2), .second, .val (.int p3), .val (.long v0), .second, .val (.long v1), .second, .unset, .unset, .unset] []))) (fun _ k => XS.lstore X0.here hx rfl (hb hby at_34) rfl (l' := #[.val (.long p1), .second, .val (.long p2), .second, .val (.int p3), .val (.long v0), .second, .val (.long v1), .second, .unset, .unset, .unset]) rfl k) ?_
  generalize hsel : own_sel v0.toInt v1.toInt aS aX aL aN = r
  refine own_st (B := (s₁.setTop (mkF m 38 #[.val (.long p1), .second, .val (.long p2), .second, .val (.int p3), .val (.long v0), .second, .val (.long v1), .second, .unset, .unset, .unset] [(.long v0)]))) (fun _ k => XS.lload X0.here hx rfl (hb hby at_36) rfl k) ?_
  refine own_st (B := (s₁.setTop (mkF m 40 #[.val (.long p1), .second, .val (.long p2), .second, .val (.int p3), .val (.long v0), .second, .val (.long v1), .second, .unset, .unset, .unset] [(.long v1), (.long v0)]))) (fun _ k => XS.lload X0.here hx rfl (hb hby at_38) rfl k) ?_
  obtain ⟨v3, T3, L3, X3, Q3, st3⟩ := own_callS (W := 0) X0 hx hZ (y := (⟨"com/example/scalewright/scalewright/ScreenSizeOfPinLaw", "expected", "(JJ)Lcom/example/scalewright/scalewright/ScreenSize;"⟩ : MethodName)) hown (hw _ (List.mem_of_getElem? (i := 0) rfl)) (hw _ (List.mem_of_getElem? (i := 1) rfl)) (hw _ (List.mem_of_getElem? (i := 2) rfl)) (hw _ (List.mem_of_getElem? (i := 3) rfl)) (by decide) e0 (rm_exp l Z a0 hw [] v0 v1 aS aX aL aN r h0 S_SMALL S_XLARGE S_LARGE S_NORMAL hsel) (g := (mkF m 40 #[.val (.long p1), .second, .val (.long p2), .second, .val (.int p3), .val (.long v0), .second, .val (.long v1), .second, .unset, .unset, .unset] [(.long v1), (.long v0)])) rfl (by rw [hml]; rfl) (argsL := [(.long v0), (.long v1)]) (rest := []) (lenOf pd_1 rfl) rfl rfl (by show 2 * 0 + _ ≤ _; exact Nat.le_of_eq rfl) (hb hby at_40) (by decide) (by decide) (by decide) (by decide)
  obtain ⟨rfl, rfl, q3⟩ := Q3
  refine own_st (B := (T3.setTop (mkF m 43 #[.val (.long p1), .second, .val (.long p2), .second, .val (.int p3), .val (.long v0), .second, .val (.long v1), .second, .unset, .unset, .unset] [(.ref r)]))) st3 ?_
  refine own_st (B := (T3.setTop (mkF m 45 #[.val (.long p1), .second, .val (.long p2), .second, .val (.int p3), .val (.long v0), .second, .val (.long v1), .second, .val (.ref r), .unset, .unset] []))) (fun _ k => XS.astore X3.here hx rfl (hb hby at_43) rfl rfl (l' := #[.val (.long p1), .second, .val (.long p2), .second, .val (.int p3), .val (.long v0), .second, .val (.long v1), .second, .val (.ref r), .unset, .unset]) rfl k) ?_
  refine own_st (B := (T3.setTop (mkF m 47 #[.val (.long p1), .second, .val (.long p2), .second, .val (.int p3), .val (.long v0), .second, .val (.long v1), .second, .val (.ref r), .unset, .unset] [(.long v0)]))) (fun _ k => XS.lload X3.here hx rfl (hb hby at_45) rfl k) ?_
  refine own_st (B := (T3.setTop (mkF m 49 #[.val (.long p1), .second, .val (.long p2), .second, .val (.int p3), .val (.long v0), .second, .val (.long v1), .second, .val (.ref r), .unset, .unset] [(.long v1), (.long v0)]))) (fun _ k => XS.lload X3.here hx rfl (hb hby at_47) rfl k) ?_
  obtain ⟨v4, T4, L4, X4, Q4, st4⟩ := own_callS (W := 0) X3 hx hZ (y := (⟨"com/example/scalewright/scalewright/ScreenSize", "of", "(JJ)Lcom/example/scalewright/scalewright/ScreenSize;"⟩ : MethodName)) hown (hw _ (List.mem_of_getElem? (i := 10) rfl)) (hw _ (List.mem_of_getElem? (i := 11) rfl)) (hw _ (List.mem_of_getElem? (i := 8) rfl)) (hw _ (List.mem_of_getElem? (i := 12) rfl)) (by decide) q3 (rm_of l Z a0 hw [] v0 v1 aS aX aL aN r h0 S_SMALL S_XLARGE S_LARGE S_NORMAL hsel) (g := (mkF m 49 #[.val (.long p1), .second, .val (.long p2), .second, .val (.int p3), .val (.long v0), .second, .val (.long v1), .second, .val (.ref r), .unset, .unset] [(.long v1), (.long v0)])) rfl (by rw [hml]; rfl) (argsL := [(.long v0), (.long v1)]) (rest := []) (lenOf pd_1 rfl) rfl rfl (by show 2 * 0 + _ ≤ _; exact Nat.le_of_eq rfl) (hb hby at_49) (by decide) (by decide) (by decide) (by decide)
  obtain ⟨rfl, rfl, q4⟩ := Q4
  refine own_st (B := (T4.setTop (mkF m 52 #[.val (.long p1), .second, .val (.long p2), .second, .val (.int p3), .val (.long v0), .second, .val (.long v1), .second, .val (.ref r), .unset, .unset] [(.ref r)]))) st4 ?_
  refine own_st (B := (T4.setTop (mkF m 54 #[.val (.long p1), .second, .val (.long p2), .second, .val (.int p3), .val (.long v0), .second, .val (.long v1), .second, .val (.ref r), .val (.ref r), .unset] []))) (fun _ k => XS.astore X4.here hx rfl (hb hby at_52) rfl rfl (l' := #[.val (.long p1), .second, .val (.long p2), .second, .val (.int p3), .val (.long v0), .second, .val (.long v1), .second, .val (.ref r), .val (.ref r), .unset]) rfl k) ?_
  refine own_st (B := (T4.setTop (mkF m 56 #[.val (.long p1), .second, .val (.long p2), .second, .val (.int p3), .val (.long v0), .second, .val (.long v1), .second, .val (.ref r), .val (.ref r), .unset] [(.long v1)]))) (fun _ k => XS.lload X4.here hx rfl (hb hby at_54) rfl k) ?_
  refine own_st (B := (T4.setTop (mkF m 58 #[.val (.long p1), .second, .val (.long p2), .second, .val (.int p3), .val (.long v0), .second, .val (.long v1), .second, .val (.ref r), .val (.ref r), .unset] [(.long v0), (.long v1)]))) (fun _ k => XS.lload X4.here hx rfl (hb hby at_56) rfl k) ?_
  obtain ⟨v5, T5, L5, X5, Q5, st5⟩ := own_callS (W := 0) X4 hx hZ (y := (⟨"com/example/scalewright/scalewright/ScreenSize", "of", "(JJ)Lcom/example/scalewright/scalewright/ScreenSize;"⟩ : MethodName)) hown (hw _ (List.mem_of_getElem? (i := 10) rfl)) (hw _ (List.mem_of_getElem? (i := 11) rfl)) (hw _ (List.mem_of_getElem? (i := 8) rfl)) (hw _ (List.mem_of_getElem? (i := 12) rfl)) (by decide) q4 (rm_of l Z a0 hw [] v1 v0 aS aX aL aN r h0 S_SMALL S_XLARGE S_LARGE S_NORMAL ((own_sel_comm _ _ _ _ _ _).trans hsel)) (g := (mkF m 58 #[.val (.long p1), .second, .val (.long p2), .second, .val (.int p3), .val (.long v0), .second, .val (.long v1), .second, .val (.ref r), .val (.ref r), .unset] [(.long v0), (.long v1)])) rfl (by rw [hml]; rfl) (argsL := [(.long v1), (.long v0)]) (rest := []) (lenOf pd_1 rfl) rfl rfl (by show 2 * 0 + _ ≤ _; exact Nat.le_of_eq rfl) (hb hby at_58) (by decide) (by decide) (by decide) (by decide)
  obtain ⟨rfl, rfl, q5⟩ := Q5
  refine own_st (B := (T5.setTop (mkF m 61 #[.val (.long p1), .second, .val (.long p2), .second, .val (.int p3), .val (.long v0), .second, .val (.long v1), .second, .val (.ref r), .val (.ref r), .unset] [(.ref r)]))) st5 ?_
  refine own_st (B := (T5.setTop (mkF m 63 #[.val (.long p1), .second, .val (.long p2), .second, .val (.int p3), .val (.long v0), .second, .val (.long v1), .second, .val (.ref r), .val (.ref r), .val (.ref r)] []))) (fun _ k => XS.astore X5.here hx rfl (hb hby at_61) rfl rfl (l' := #[.val (.long p1), .second, .val (.long p2), .second, .val (.int p3), .val (.long v0), .second, .val (.long v1), .second, .val (.ref r), .val (.ref r), .val (.ref r)]) rfl k) ?_
  refine own_st (B := (T5.setTop (mkF m 65 #[.val (.long p1), .second, .val (.long p2), .second, .val (.int p3), .val (.long v0), .second, .val (.long v1), .second, .val (.ref r), .val (.ref r), .val (.ref r)] [(.ref r)]))) (fun _ k => XS.aload X5.here hx rfl (hb hby at_63) rfl rfl k) ?_
  refine own_st (B := (T5.setTop (mkF m 67 #[.val (.long p1), .second, .val (.long p2), .second, .val (.int p3), .val (.long v0), .second, .val (.long v1), .second, .val (.ref r), .val (.ref r), .val (.ref r)] [(.ref r), (.ref r)]))) (fun _ k => XS.aload X5.here hx rfl (hb hby at_65) rfl rfl k) ?_
  refine own_st (B := (T5.setTop (mkF m 70 #[.val (.long p1), .second, .val (.long p2), .second, .val (.int p3), .val (.long v0), .second, .val (.long v1), .second, .val (.ref r), .val (.ref r), .val (.ref r)] []))) (fun _ k => Jvm.RoadKit.acmp (g := (mkF m 67 #[.val (.long p1), .second, .val (.long p2), .second, .val (.int p3), .val (.long v0), .second, .val (.long v1), .second, .val (.ref r), .val (.ref r), .val (.ref r)] [(.ref r), (.ref r)])) X5 hx rfl rfl rfl (pc0 := 67) (pc' := 70) (same := true) rfl (hb hby at_67) rfl (decide_eq_true rfl) (by decide) (by decide) k) ?_
  refine own_st (B := (T5.setTop (mkF m 72 #[.val (.long p1), .second, .val (.long p2), .second, .val (.int p3), .val (.long v0), .second, .val (.long v1), .second, .val (.ref r), .val (.ref r), .val (.ref r)] [(.ref r)]))) (fun _ k => XS.aload X5.here hx rfl (hb hby at_70) rfl rfl k) ?_
  refine own_st (B := (T5.setTop (mkF m 74 #[.val (.long p1), .second, .val (.long p2), .second, .val (.int p3), .val (.long v0), .second, .val (.long v1), .second, .val (.ref r), .val (.ref r), .val (.ref r)] [(.ref r), (.ref r)]))) (fun _ k => XS.aload X5.here hx rfl (hb hby at_72) rfl rfl k) ?_
  refine own_st (B := (T5.setTop (mkF m 77 #[.val (.long p1), .second, .val (.long p2), .second, .val (.int p3), .val (.long v0), .second, .val (.long v1), .second, .val (.ref r), .val (.ref r), .val (.ref r)] []))) (fun _ k => Jvm.RoadKit.acmp (g := (mkF m 74 #[.val (.long p1), .second, .val (.long p2), .second, .val (.int p3), .val (.long v0), .second, .val (.long v1), .second, .val (.ref r), .val (.ref r), .val (.ref r)] [(.ref r), (.ref r)])) X5 hx rfl rfl rfl (pc0 := 74) (pc' := 77) (same := true) rfl (hb hby at_74) rfl (decide_eq_true rfl) (by decide) (by decide) k) ?_
  refine own_st (B := (T5.setTop (mkF m 78 #[.val (.long p1), .second, .val (.long p2), .second, .val (.int p3), .val (.long v0), .second, .val (.long v1), .second, .val (.ref r), .val (.ref r), .val (.ref r)] [(.int (1 : Int32))]))) (fun _ k => XS.iconst X5.here hx rfl (hb hby at_77) k) ?_
  refine own_st (B := (T5.setTop (mkF m 82 #[.val (.long p1), .second, .val (.long p2), .second, .val (.int p3), .val (.long v0), .second, .val (.long v1), .second, .val (.ref r), .val (.ref r), .val (.ref r)] [(.int (1 : Int32))]))) (fun _ k => XS.goto X5.here hx rfl (pc0 := 78) (pc' := 82) rfl (hb hby at_78) (by decide) (by decide) k) ?_
  exact own_retN X5 hx hlk (t := .boolean) hret (by simp) (hb hby at_82) (by show own_Q0 n0 _ T5.heap _; rw [q5]; exact ⟨rfl, by simpa using N0⟩) (by decide) (by decide)
set_option maxRecDepth 65536 in
set_option maxHeartbeats 40000000 in
theorem comes_1 {Post : Tables → Env → Array Value → State → Outcome → State → Prop} (hpost : ∀ tb e args s v u, (limb_1_1.after args s (.returned v) u = true ∧ limb_1_2.after args s (.returned v) u = true ∧ True) → FrameEnd s (.returned v) u (Jvm.fieldLocs frame_1_writes args s ++ Jvm.arrayLocs frame_1_arrays args s ++ Jvm.staticLocs frame_1_statics s) 0 0 → Post tb e args s (.returned v) u) :
    ArmFor flags0 classFile x code maxLocals ret World_1 tables_1 room_1 Calls_1 rest_1 Pre_1 Post := by
  intro l hfl _ _ p e ha hc hk s m args below hf hA hF happ hP
  obtain ⟨hcalls, hrest, hpre⟩ := hP
  obtain ⟨-, -, -, hnamed, -, -, -, hat⟩ := (Spec.applies_iff hf).mp happ
  obtain ⟨hg, hn⟩ := and_e (Cond.before_iff.mp (show (Jvm.Cond.and given_1 narrow_1).before args s = true from hpre))
  obtain ⟨g1, g2⟩ := and_e hg
  obtain ⟨g3, g4⟩ := and_e g2
  obtain ⟨g5, g6⟩ := and_e g4
  obtain ⟨w0, w1, w2, rfl⟩ : ∃ w0 w1 w2 : Value, args = #[w0, w1, w2] := by
    have hs : args.size = 3 := by simpa [Cond.value, given_1] using g1
    obtain ⟨L⟩ := args
    match L, hs with
    | [w0, w1, w2], _ => exact ⟨w0, w1, w2, rfl⟩
  have hw := fun d (hd : d ∈ tables_1) => atoms_spec (ws := Jvm.Cond.code x code maxLocals ret :: tables_1) hat d (List.mem_cons_of_mem _ hd)
  have hfit : Fit s := fun {y c} hc i hi => by
    obtain ⟨ha, rfl⟩ := Array.getElem?_eq_some_iff.mp hc
    have q := List.all_eq_true.mp ((Array.all_eq_true_iff_forall_mem.mp hF) _ (Array.getElem_mem ha)) i (List.mem_range.mpr hi)
    simpa [Array.getElem?_eq_getElem hi] using q
  obtain ⟨i0, ei0⟩ := isL_v g3
  obtain rfl : w0 = (.long i0) := Option.some.inj ei0
  obtain ⟨i1, ei1⟩ := isL_v g5
  obtain rfl : w1 = (.long i1) := Option.some.inj ei1
  obtain ⟨i2, ei2⟩ := is_v g6
  obtain rfl : w2 = (.int i2) := Option.some.inj ei2
  obtain ⟨m1, hn1⟩ := and_e hn
  obtain ⟨m2, hn2⟩ := and_e hn1
  obtain ⟨m3, m4⟩ := and_e hn2
  obtain ⟨aS, _, _, _, evm1, -⟩ := Cond.exactly_spec (Cond.before_iff.mpr m1)
  have S_SMALL : Sta s s.heap "com/example/scalewright/scalewright/ScreenSize" "SMALL" "Lcom/example/scalewright/scalewright/ScreenSize;" (.ref aS) := Sta.start evm1 (Or.inr ⟨(hw _ (List.mem_of_getElem? (i := 8) rfl)), (hw _ (List.mem_of_getElem? (i := 9) rfl))⟩)
  obtain ⟨aN, _, _, _, evm2, -⟩ := Cond.exactly_spec (Cond.before_iff.mpr m2)
  have S_NORMAL : Sta s s.heap "com/example/scalewright/scalewright/ScreenSize" "NORMAL" "Lcom/example/scalewright/scalewright/ScreenSize;" (.ref aN) := Sta.start evm2 (Or.inr ⟨(hw _ (List.mem_of_getElem? (i := 8) rfl)), (hw _ (List.mem_of_getElem? (i := 26) rfl))⟩)
  obtain ⟨aX, _, _, _, evm3, -⟩ := Cond.exactly_spec (Cond.before_iff.mpr m3)
  have S_XLARGE : Sta s s.heap "com/example/scalewright/scalewright/ScreenSize" "XLARGE" "Lcom/example/scalewright/scalewright/ScreenSize;" (.ref aX) := Sta.start evm3 (Or.inr ⟨(hw _ (List.mem_of_getElem? (i := 8) rfl)), (hw _ (List.mem_of_getElem? (i := 33) rfl))⟩)
  obtain ⟨aL, _, _, _, evm4, -⟩ := Cond.exactly_spec (Cond.before_iff.mpr m4)
  have S_LARGE : Sta s s.heap "com/example/scalewright/scalewright/ScreenSize" "LARGE" "Lcom/example/scalewright/scalewright/ScreenSize;" (.ref aL) := Sta.start evm4 (Or.inr ⟨(hw _ (List.mem_of_getElem? (i := 8) rfl)), (hw _ (List.mem_of_getElem? (i := 36) rfl))⟩)
  obtain ⟨n, o, h1, h2, h3, _, L, rfl, ⟨rfl, N⟩, hq⟩ := rm_law l s _ hw tables_1 i0 i1 i2 aS aX aL aN s.heap s.heap.size (Nat.le_refl _) S_SMALL S_XLARGE S_LARGE S_NORMAL p e ha hc hk s m _ below hf ((Spec.applies_iff_loose hf).mp happ).1 ⟨rfl, State.Warmed39.refl s, rfl⟩ trivial
  refine ⟨n, _, h1, h2, h3, hpost _ _ _ _ _ _ ⟨Cond.after_iff.mpr rfl, Cond.after_iff.mpr (eq_i res_at (Term.int_eval (1)) rfl), trivial⟩ ⟨hq.1, hq.2.1, (hq.2.2.sift fun y hy => Or.inr (N y hy)).mono (by decide) (by decide)⟩⟩
theorem main_1_1 : Claimed_1_1 := comes_1 fun _ _ _ _ _ _ h hF => ⟨h.1, hF⟩
theorem main_1_2 : Claimed_1_2 := comes_1 fun _ _ _ _ _ _ h hF => ⟨h.2.1, hF⟩
end Jvm.Pilot.@@N@@
namespace Jvm.Pilot.@@N@@
open Jvm Jvm.ClassFile Sem Op Lib Jvm.Free Jvm.Stand Jvm.Pilot.@@N@@.Jvm.D
/-! MADE BY PROGRAM (witnessworld.py) out of the Statement's table words and the real class files: 13 classes; the members and pool entries that the words name. The judged class is class 1, her method 2. -/
namespace start1
open Jvm.ClassFile
def u (s : String) : CpInfo := .utf8 (stringToUtf16 s)
/-- a pool by its gaps: so many unusable entries, then the entry; so many at the end -/
def gap : Nat → List CpInfo → List CpInfo
  | 0, r => r
  | n + 1, r => .unusable :: gap n r
def poolList (es : List (Nat × CpInfo)) (last : Nat) : List CpInfo := es.foldr (fun e r => gap e.1 (e.2 :: r)) (gap last [])
def pool (es : List (Nat × CpInfo)) (last : Nat) : Array CpInfo := ⟨poolList es last⟩
def fileOf (pool : Array CpInfo) (this : Nat) (attrs : Array Attribute := #[]) (ms : Array MethodInfo := #[]) (fl : Nat := 33) (sup : Nat := 0) (ifs : Array Nat := #[]) (fds : Array FieldInfo := #[]) : ClassFile where
  minorVersion := 0
  majorVersion := 65
  constantPool := pool
  accessFlags := fl
  thisClass := this
  superClass := sup
  interfaces := ifs
  fields := fds
  methods := ms
  attributes := attrs
def plain (name : String) (sup : Option ClassId) : Class where
  name := name
  kind := .ordinary
  loader := none
  accessFlags := 33
  super := sup
  interfaces := #[]
  cf := none
  fields := #[]
  methods := #[]
  instanceTypes := #[]
  staticTypes := #[]
  resolved := #[]
  callSites := []
  init := .initialized
  statics := none
  mirror := none

def pool0 : Array CpInfo := pool [(5, u "<init>"), (0, u "()V"), (1, .class_ 10), (1, u "java/lang/Object")] 113

def k0m0 : Method := { name := "<init>", desc := "()V", sig := { parameters := [], returnType := none }, accessFlags := 1, code := none }
/-- java/lang/Object -/
def k0 : Class := { plain "java/lang/Object" none with
  accessFlags := 33
  interfaces := #[]
  cf := some (fileOf pool0 8 #[] #[{ accessFlags := 1, nameIndex := 5, descriptorIndex := 6, attributes := #[] }] 33 0 #[] #[])
  fields := #[]
  methods := #[k0m0]
  instanceTypes := #[]
  staticTypes := #[]
  resolved := Array.replicate 124 none
  statics := none }

def pool1 : Array CpInfo := pool [(2, .class_ 4), (1, u "java/lang/Object"), (0, u "<init>"), (0, u "()V"), (0, .long 470), (1, .long 960), (1, .long 720), (1, .long 640), (1, .long 480), (1, .fieldref 18 19), (0, .class_ 20), (0, .nameAndType 21 22), (0, u "com/example/scalewright/scalewright/ScreenSize"), (0, u "SMALL"), (0, u "Lcom/example/scalewright/scalewright/ScreenSize;"), (0, .fieldref 18 24), (0, .nameAndType 25 22), (0, u "XLARGE"), (0, .fieldref 18 27), (0, .nameAndType 28 22), (0, u "LARGE"), (0, .fieldref 18 30), (0, .nameAndType 31 22), (0, u "NORMAL"), (0, .long 1200), (1, .methodref 35 36), (0, .class_ 37), (0, .nameAndType 38 39), (0, u "com/example/scalewright/scalewright/ScreenSizeOfPinLaw"), (0, u "expected"), (0, u "(JJ)Lcom/example/scalewright/scalewright/ScreenSize;"), (0, .methodref 18 41), (0, .nameAndType 42 39), (0, u "of"), (3, u "law"), (0, u "(JJI)Z")] 2

def k1m0 : Method := { name := "<init>", desc := "()V", sig := { parameters := [], returnType := none }, accessFlags := 2, code := none }
def k1c1 : Code := { maxStack := 4, maxLocals := 7, code := method_2_code, exceptionTable := #[], attributes := #[] }
def k1m1 : Method := { name := "expected", desc := "(JJ)Lcom/example/scalewright/scalewright/ScreenSize;", sig := { parameters := [.long, .long], returnType := some (.object "com/example/scalewright/scalewright/ScreenSize") }, accessFlags := 10, code := some k1c1 }
def k1c2 : Code := { maxStack := 4, maxLocals := 12, code := code, exceptionTable := #[], attributes := #[] }
def k1m2 : Method := { name := "law", desc := "(JJI)Z", sig := { parameters := [.long, .long, .int], returnType := some .boolean }, accessFlags := 9, code := some k1c2 }
/-- com/example/scalewright/scalewright/ScreenSizeOfPinLaw -/
def k1 : Class := { plain "com/example/scalewright/scalewright/ScreenSizeOfPinLaw" (some 0) with
  accessFlags := 49
  interfaces := #[]
  cf := some (fileOf pool1 35 #[] #[{ accessFlags := 2, nameIndex := 5, descriptorIndex := 6, attributes := #[] }, { accessFlags := 10, nameIndex := 38, descriptorIndex := 39, attributes := #[] }, { accessFlags := 9, nameIndex := 46, descriptorIndex := 47, attributes := #[] }] 49 2 #[] #[])
  fields := #[]
  methods := #[k1m0, k1m1, k1m2]
  instanceTypes := #[]
  staticTypes := #[]
  resolved := Array.replicate 50 none
  statics := none }

def pool2 : Array CpInfo := pool [(1, .class_ 2), (0, u "java/lang/constant/Constable"), (0, .class_ 4), (0, u "java/lang/Object")] 6

/-- java/lang/constant/Constable -/
def k2 : Class := { plain "java/lang/constant/Constable" (some 0) with
  accessFlags := 1537
  interfaces := #[]
  cf := some (fileOf pool2 1 #[] #[] 1537 3 #[] #[])
  fields := #[]
  methods := #[]
  instanceTypes := #[]
  staticTypes := #[]
  resolved := Array.replicate 11 none
  statics := none }

def pool3 : Array CpInfo := pool [(1, .class_ 2), (0, u "java/lang/Comparable"), (0, .class_ 4), (0, u "java/lang/Object")] 7

/-- java/lang/Comparable -/
def k3 : Class := { plain "java/lang/Comparable" (some 0) with
  accessFlags := 1537
  interfaces := #[]
  cf := some (fileOf pool3 1 #[] #[] 1537 3 #[] #[])
  fields := #[]
  methods := #[]
  instanceTypes := #[]
  staticTypes := #[]
  resolved := Array.replicate 12 none
  statics := none }

def pool4 : Array CpInfo := pool [(1, .class_ 2), (0, u "java/io/Serializable"), (0, .class_ 4), (0, u "java/lang/Object")] 2

/-- java/io/Serializable -/
def k4 : Class := { plain "java/io/Serializable" (some 0) with
  accessFlags := 1537
  interfaces := #[]
  cf := some (fileOf pool4 1 #[] #[] 1537 3 #[] #[])
  fields := #[]
  methods := #[]
  instanceTypes := #[]
  staticTypes := #[]
  resolved := Array.replicate 7 none
  statics := none }

def pool5 : Array CpInfo := pool [(2, .class_ 4), (1, u "java/lang/Enum"), (0, u "name"), (0, u "Ljava/lang/String;"), (2, u "ordinal"), (0, u "I"), (1, .class_ 14), (1, u "java/lang/Object"), (4, u "hash"), (86, .class_ 108), (1, u "java/lang/Enum$EnumDesc"), (2, .class_ 112), (0, u "java/lang/constant/Constable"), (0, .class_ 114), (0, u "java/lang/Comparable"), (0, .class_ 116), (0, u "java/io/Serializable")] 87

/-- java/lang/Enum -/
def k5 : Class := { plain "java/lang/Enum" (some 0) with
  accessFlags := 1057
  interfaces := #[2, 3, 4]
  cf := some (fileOf pool5 2 #[.nestMembers #[106]] #[] 1057 12 #[111, 113, 115] #[{ accessFlags := 18, nameIndex := 5, descriptorIndex := 6, attributes := #[] }, { accessFlags := 18, nameIndex := 9, descriptorIndex := 10, attributes := #[] }, { accessFlags := 2, nameIndex := 19, descriptorIndex := 10, attributes := #[] }])
  fields := #[{ name := "name", type := (.object "java/lang/String"), accessFlags := 18, slot := 0, constantValue := 0 }, { name := "ordinal", type := .int, accessFlags := 18, slot := 1, constantValue := 0 }, { name := "hash", type := .int, accessFlags := 2, slot := 2, constantValue := 0 }]
  methods := #[]
  instanceTypes := #[(.object "java/lang/String"), .int, .int]
  staticTypes := #[]
  resolved := Array.replicate 204 none
  statics := none }

def pool6 : Array CpInfo := pool [(1, .class_ 2), (0, u "com/example/scalewright/scalewright/ScreenSize"), (0, .fieldref 1 4), (0, .nameAndType 5 6), (0, u "SMALL"), (0, u "Lcom/example/scalewright/scalewright/ScreenSize;"), (0, .fieldref 1 8), (0, .nameAndType 9 6), (0, u "NORMAL"), (0, .fieldref 1 11), (0, .nameAndType 12 6), (0, u "LARGE"), (0, .fieldref 1 14), (0, .nameAndType 15 6), (0, u "XLARGE"), (2, u "$VALUES"), (0, u "[Lcom/example/scalewright/scalewright/ScreenSize;"), (6, .class_ 28), (1, u "java/lang/Enum"), (6, .methodref 36 37), (0, .class_ 38), (0, .nameAndType 39 40), (0, u "java/lang/Math"), (0, u "max"), (0, u "(JJ)J"), (0, .methodref 36 42), (0, .nameAndType 43 40), (0, u "min"), (0, .long 470), (1, .long 960), (1, .long 720), (1, .long 640), (1, .long 480), (36, u "of"), (0, u "(JJ)Lcom/example/scalewright/scalewright/ScreenSize;")] 6

def k6c0 : Code := { maxStack := 4, maxLocals := 8, code := prog_60_method_4_code, exceptionTable := #[], attributes := #[] }
def k6m0 : Method := { name := "of", desc := "(JJ)Lcom/example/scalewright/scalewright/ScreenSize;", sig := { parameters := [.long, .long], returnType := some (.object "com/example/scalewright/scalewright/ScreenSize") }, accessFlags := 9, code := some k6c0 }
/-- com/example/scalewright/scalewright/ScreenSize -/
def k6 : Class := { plain "com/example/scalewright/scalewright/ScreenSize" (some 5) with
  accessFlags := 16433
  interfaces := #[]
  cf := some (fileOf pool6 1 #[] #[{ accessFlags := 9, nameIndex := 89, descriptorIndex := 90, attributes := #[] }] 16433 26 #[] #[{ accessFlags := 16409, nameIndex := 5, descriptorIndex := 6, attributes := #[] }, { accessFlags := 16409, nameIndex := 9, descriptorIndex := 6, attributes := #[] }, { accessFlags := 16409, nameIndex := 12, descriptorIndex := 6, attributes := #[] }, { accessFlags := 16409, nameIndex := 15, descriptorIndex := 6, attributes := #[] }, { accessFlags := 4122, nameIndex := 18, descriptorIndex := 19, attributes := #[] }])
  fields := #[{ name := "SMALL", type := (.object "com/example/scalewright/scalewright/ScreenSize"), accessFlags := 16409, slot := 0, constantValue := 0 }, { name := "NORMAL", type := (.object "com/example/scalewright/scalewright/ScreenSize"), accessFlags := 16409, slot := 1, constantValue := 0 }, { name := "LARGE", type := (.object "com/example/scalewright/scalewright/ScreenSize"), accessFlags := 16409, slot := 2, constantValue := 0 }, { name := "XLARGE", type := (.object "com/example/scalewright/scalewright/ScreenSize"), accessFlags := 16409, slot := 3, constantValue := 0 }, { name := "$VALUES", type := (.array (.object "com/example/scalewright/scalewright/ScreenSize")), accessFlags := 4122, slot := 4, constantValue := 0 }]
  methods := #[k6m0]
  instanceTypes := #[(.object "java/lang/String"), .int, .int]
  staticTypes := #[(.object "com/example/scalewright/scalewright/ScreenSize"), (.object "com/example/scalewright/scalewright/ScreenSize"), (.object "com/example/scalewright/scalewright/ScreenSize"), (.object "com/example/scalewright/scalewright/ScreenSize"), (.array (.object "com/example/scalewright/scalewright/ScreenSize"))]
  resolved := Array.replicate 97 none
  statics := some 0 }

def pool7 : Array CpInfo := pool [(1, .class_ 2), (0, u "java/lang/Math"), (1, .class_ 6), (1, u "java/lang/Object"), (0, u "<init>"), (0, u "()V"), (89, .class_ 100), (1, u "java/lang/Math$RandomNumberGeneratorHolder"), (20, u "(JJ)J"), (50, u "negativeZeroFloatBits"), (0, u "J"), (2, u "negativeZeroDoubleBits"), (21, u "max"), (2, u "min"), (43, u "$assertionsDisabled"), (0, u "Z"), (91, u "twoToTheDoubleScaleDown"), (0, u "D"), (4, u "twoToTheDoubleScaleUp"), (9, u "E"), (3, u "PI"), (2, u "TAU"), (2, u "DEGREES_TO_RADIANS"), (0, u "RADIANS_TO_DEGREES")] 94

def k7m0 : Method := { name := "<init>", desc := "()V", sig := { parameters := [], returnType := none }, accessFlags := 2, code := none }
def k7c1 : Code := { maxStack := 4, maxLocals := 4, code := jdk_29_method_66_code, exceptionTable := #[], attributes := #[] }
def k7m1 : Method := { name := "max", desc := "(JJ)J", sig := { parameters := [.long, .long], returnType := some .long }, accessFlags := 9, code := some k7c1 }
def k7c2 : Code := { maxStack := 4, maxLocals := 4, code := jdk_29_method_70_code, exceptionTable := #[], attributes := #[] }
def k7m2 : Method := { name := "min", desc := "(JJ)J", sig := { parameters := [.long, .long], returnType := some .long }, accessFlags := 9, code := some k7c2 }
/-- java/lang/Math -/
def k7 : Class := { plain "java/lang/Math" (some 0) with
  accessFlags := 49
  interfaces := #[]
  cf := some (fileOf pool7 1 #[.nestMembers #[98]] #[{ accessFlags := 2, nameIndex := 7, descriptorIndex := 8, attributes := #[] }, { accessFlags := 9, nameIndex := 198, descriptorIndex := 121, attributes := #[] }, { accessFlags := 9, nameIndex := 201, descriptorIndex := 121, attributes := #[] }] 49 4 #[] #[{ accessFlags := 25, nameIndex := 354, descriptorIndex := 339, attributes := #[] }, { accessFlags := 25, nameIndex := 358, descriptorIndex := 339, attributes := #[] }, { accessFlags := 25, nameIndex := 361, descriptorIndex := 339, attributes := #[] }, { accessFlags := 26, nameIndex := 364, descriptorIndex := 339, attributes := #[] }, { accessFlags := 26, nameIndex := 365, descriptorIndex := 339, attributes := #[] }, { accessFlags := 26, nameIndex := 172, descriptorIndex := 173, attributes := #[] }, { accessFlags := 26, nameIndex := 176, descriptorIndex := 173, attributes := #[] }, { accessFlags := 8, nameIndex := 344, descriptorIndex := 339, attributes := #[] }, { accessFlags := 8, nameIndex := 338, descriptorIndex := 339, attributes := #[] }, { accessFlags := 4120, nameIndex := 245, descriptorIndex := 246, attributes := #[] }])
  fields := #[{ name := "E", type := .double, accessFlags := 25, slot := 0, constantValue := 0 }, { name := "PI", type := .double, accessFlags := 25, slot := 1, constantValue := 0 }, { name := "TAU", type := .double, accessFlags := 25, slot := 2, constantValue := 0 }, { name := "DEGREES_TO_RADIANS", type := .double, accessFlags := 26, slot := 3, constantValue := 0 }, { name := "RADIANS_TO_DEGREES", type := .double, accessFlags := 26, slot := 4, constantValue := 0 }, { name := "negativeZeroFloatBits", type := .long, accessFlags := 26, slot := 5, constantValue := 0 }, { name := "negativeZeroDoubleBits", type := .long, accessFlags := 26, slot := 6, constantValue := 0 }, { name := "twoToTheDoubleScaleUp", type := .double, accessFlags := 8, slot := 7, constantValue := 0 }, { name := "twoToTheDoubleScaleDown", type := .double, accessFlags := 8, slot := 8, constantValue := 0 }, { name := "$assertionsDisabled", type := .boolean, accessFlags := 4120, slot := 9, constantValue := 0 }]
  methods := #[k7m0, k7m1, k7m2]
  instanceTypes := #[]
  staticTypes := #[.double, .double, .double, .double, .double, .long, .long, .double, .double, .boolean]
  resolved := Array.replicate 460 none
  statics := none }

def pool8 : Array CpInfo := pool [(1, u "java/lang/Cloneable"), (0, .class_ 1), (0, u "java/lang/Object"), (0, .class_ 3)] 3

/-- java/lang/Cloneable -/
def k8 : Class := { plain "java/lang/Cloneable" (some 0) with
  accessFlags := 1537
  interfaces := #[]
  cf := some (fileOf pool8 2 #[] #[] 1537 4 #[] #[])
  fields := #[]
  methods := #[]
  instanceTypes := #[]
  staticTypes := #[]
  resolved := Array.replicate 8 none
  statics := none }

/-- the primitive byte -/
def k9 : Class := { plain "byte" none with kind := .primitive 'B', accessFlags := 0x411 }
/-- [B -/
def k10 : Class := { plain "[B" (some 0) with kind := .array 9 .byte, interfaces := #[8, 4], accessFlags := 1041 }

/-- the primitive int -/
def k11 : Class := { plain "int" none with kind := .primitive 'I', accessFlags := 0x411 }
/-- [I -/
def k12 : Class := { plain "[I" (some 0) with kind := .array 11 .int, interfaces := #[8, 4], accessFlags := 1041 }

def heap : Heap := #[{ cls := 6, slots := #[.ref 1, .ref 2, .ref 3, .ref 4, .null], vm := .statics 6 },
  { cls := 6, slots := #[.null, .int 0, .int 0], vm := .none },
  { cls := 6, slots := #[.null, .int 1, .int 0], vm := .none },
  { cls := 6, slots := #[.null, .int 2, .int 0], vm := .none },
  { cls := 6, slots := #[.null, .int 3, .int 0], vm := .none }]
def classes : Array Class := #[k0, k1, k2, k3, k4, k5, k6, k7, k8, k9, k10, k11, k12]
def interned : List (Array UInt16 × Addr) := []
def slotsUsed : Nat := 17
def theMethod : MethodId := ⟨1, 2⟩
def args0 : Array Value := #[.long 500, .long 500, .int 0]
def aboutOver (below : List Frame) : State where
  vm := { classes := classes, interned := interned.toArray }
  heap := heap
  slotsUsed := slotsUsed
  threads := #[{ frames := .invoking theMethod args0 :: below }]
def below0 : List Frame := [.native { method := ⟨0, 0⟩, args := #[] }]
def about1 : State := aboutOver below0
def p0 : Program := .bare "" "" ""
def e0 : Env := launch0.env 0 0 0
theorem w_frames : about1.frames = Frame.invoking theMethod args0 :: below0 := rfl
set_option maxRecDepth 65536 in
theorem w_args : argsFit about1.vm theMethod args0 = true := by decide +kernel
set_option maxRecDepth 65536 in
theorem w_heap : heapFits about1 = true := by decide +kernel
set_option maxRecDepth 65536 in
theorem w_runnable : about1.curStatus? = some .runnable := by decide +kernel
set_option maxRecDepth 65536 in
theorem w_alone : about1.alone = true := by decide +kernel
set_option maxRecDepth 65536 in
theorem w_named : about1.methodNamed? x = some theMethod := by decide +kernel
set_option maxRecDepth 65536 in
theorem w_hears : about1.hears theMethod below0 = true := by decide +kernel
set_option maxRecDepth 65536 in
theorem w_ripe : about1.ripe theMethod args0 below0 = true := by decide +kernel
theorem w_running : about1.status = .running := rfl
set_option maxRecDepth 65536 in
theorem w_room : about1.hasRoom e0.platform room_1 = true :=
  launch0.hasRoom_least _ room_1 (by decide +kernel) (by decide +kernel) (by decide +kernel) (by decide +kernel) (by decide +kernel) (by decide +kernel)
theorem allAtoms_all (ts : List Jvm.Cond) (a : Array Jvm.Value) (st : Jvm.State) : (allAtoms ts).before a st = ts.all (fun c => c.before a st) := by
  induction ts with
  | nil => rfl
  | cons c t ih =>
    show (Jvm.Cond.and c (allAtoms t)).before a st = _
    rw [Jvm.Cond.before_and, ih, List.all_cons]
def words1 : List Jvm.Cond := Jvm.Cond.code x code maxLocals ret :: tables_1
/-- a 'code' word, met by the world's own term for the bytes: nothing is compared byte by byte -/
theorem code_word {y : MethodName} {bytes : ByteArray} {mx : Nat} {rt : Option FieldType} {a : Array Value} {s : State} {m : MethodId} {meth : Method} {c : Code} (h1 : s.methodNamed? y = some m) (h2 : s.vm.method? m = some meth) (h3 : meth.code = some c) (h4 : c.code = bytes)
    (h5 : (c.maxLocals == mx && c.exceptionTable.isEmpty && decide (c.maxStack ≤ mostOperands) && decide (meth.sig.returnType = rt) && !meth.locks && decide (parseMethodDescriptor y.desc = some meth.sig)) = true) : (Jvm.Cond.code y bytes mx rt).before a s = true := by
  simp only [Bool.and_eq_true, beq_iff_eq, Bool.not_eq_true', decide_eq_true_eq] at h5
  obtain ⟨⟨⟨⟨⟨g1, g2⟩, g3⟩, g4⟩, g5⟩, g6⟩ := h5
  simp [Cond.before, Cond.holds, Cond.value, h1, h2, h3, h4, g1, g2, g3, g4, g5, g6]
def isCode : Jvm.Cond → Bool
  | .code _ _ _ _ => true
  | _ => false
theorem all_split {L : List Jvm.Cond} {P : Jvm.Cond → Bool} (h1 : L.all (fun c => isCode c || P c) = true) (h2 : ∀ c ∈ L.filter isCode, P c = true) : L.all P = true := by
  refine List.all_eq_true.mpr fun c hc => ?_
  have h := List.all_eq_true.mp h1 c hc
  rcases Bool.eq_false_or_eq_true (isCode c) with hi | hi
  · exact h2 c (List.mem_filter.mpr ⟨hc, hi⟩)
  · simpa [hi] using h
set_option maxRecDepth 65536 in
theorem w_c0 : (Jvm.Cond.code x code maxLocals ret).before args0 about1 = true := code_word (m := ⟨1, 2⟩) (meth := k1m2) (c := k1c2) (by decide +kernel) rfl rfl rfl (by decide +kernel)
set_option maxRecDepth 65536 in
theorem w_c1 : (Jvm.Cond.code ({ cls := "com/example/scalewright/scalewright/ScreenSizeOfPinLaw", name := "expected", desc := "(JJ)Lcom/example/scalewright/scalewright/ScreenSize;" } : Jvm.MethodName) method_2_code (7 : Nat) (Option.some (Jvm.ClassFile.FieldType.object "com/example/scalewright/scalewright/ScreenSize"))).before args0 about1 = true := code_word (m := ⟨1, 1⟩) (meth := k1m1) (c := k1c1) (by decide +kernel) rfl rfl rfl (by decide +kernel)
set_option maxRecDepth 65536 in
theorem w_c2 : (Jvm.Cond.code ({ cls := "com/example/scalewright/scalewright/ScreenSize", name := "of", desc := "(JJ)Lcom/example/scalewright/scalewright/ScreenSize;" } : Jvm.MethodName) prog_60_method_4_code (8 : Nat) (Option.some (Jvm.ClassFile.FieldType.object "com/example/scalewright/scalewright/ScreenSize"))).before args0 about1 = true := code_word (m := ⟨6, 0⟩) (meth := k6m0) (c := k6c0) (by decide +kernel) rfl rfl rfl (by decide +kernel)
set_option maxRecDepth 65536 in
theorem w_c3 : (Jvm.Cond.code ({ cls := "java/lang/Math", name := "max", desc := "(JJ)J" } : Jvm.MethodName) jdk_29_method_66_code (4 : Nat) (Option.some Jvm.ClassFile.FieldType.long)).before args0 about1 = true := code_word (m := ⟨7, 1⟩) (meth := k7m1) (c := k7c1) (by decide +kernel) rfl rfl rfl (by decide +kernel)
set_option maxRecDepth 65536 in
theorem w_c4 : (Jvm.Cond.code ({ cls := "java/lang/Math", name := "min", desc := "(JJ)J" } : Jvm.MethodName) jdk_29_method_70_code (4 : Nat) (Option.some Jvm.ClassFile.FieldType.long)).before args0 about1 = true := code_word (m := ⟨7, 2⟩) (meth := k7m2) (c := k7c2) (by decide +kernel) rfl rfl rfl (by decide +kernel)
def codes1 : List Jvm.Cond := [Jvm.Cond.code x code maxLocals ret, Jvm.Cond.code ({ cls := "com/example/scalewright/scalewright/ScreenSizeOfPinLaw", name := "expected", desc := "(JJ)Lcom/example/scalewright/scalewright/ScreenSize;" } : Jvm.MethodName) method_2_code (7 : Nat) (Option.some (Jvm.ClassFile.FieldType.object "com/example/scalewright/scalewright/ScreenSize")), Jvm.Cond.code ({ cls := "com/example/scalewright/scalewright/ScreenSize", name := "of", desc := "(JJ)Lcom/example/scalewright/scalewright/ScreenSize;" } : Jvm.MethodName) prog_60_method_4_code (8 : Nat) (Option.some (Jvm.ClassFile.FieldType.object "com/example/scalewright/scalewright/ScreenSize")), Jvm.Cond.code ({ cls := "java/lang/Math", name := "max", desc := "(JJ)J" } : Jvm.MethodName) jdk_29_method_66_code (4 : Nat) (Option.some Jvm.ClassFile.FieldType.long), Jvm.Cond.code ({ cls := "java/lang/Math", name := "min", desc := "(JJ)J" } : Jvm.MethodName) jdk_29_method_70_code (4 : Nat) (Option.some Jvm.ClassFile.FieldType.long)]
set_option maxRecDepth 65536 in
theorem codes_eq : words1.filter isCode = codes1 := rfl
theorem w_codes : ∀ c ∈ words1.filter isCode, c.before args0 about1 = true := by
  rw [codes_eq]
  intro c hc
  simp only [codes1, List.mem_cons, List.not_mem_nil, or_false] at hc
  rcases hc with rfl | rfl | rfl | rfl | rfl
  · exact w_c0
  · exact w_c1
  · exact w_c2
  · exact w_c3
  · exact w_c4
set_option maxRecDepth 65536 in
theorem w_t1 : (words1.take 24).all (fun c => isCode c || c.before args0 about1) = true := by decide +kernel
set_option maxRecDepth 65536 in
theorem w_t2 : (words1.drop 24).all (fun c => isCode c || c.before args0 about1) = true := by decide +kernel
theorem w_tables : (allAtoms (Jvm.Cond.code x code maxLocals ret :: tables_1)).before args0 about1 = true := by
  rw [allAtoms_all]
  show words1.all (fun c => c.before args0 about1) = true
  refine all_split ?_ w_codes
  rw [← List.take_append_drop 24 words1, List.all_append, w_t1, w_t2]
  rfl
set_option maxRecDepth 65536 in
theorem w_case : (Jvm.Cond.and given_1 narrow_1).before args0 about1 = true := by decide +kernel
theorem w_applies : (headSpec (Jvm.Cond.code x code maxLocals ret :: tables_1) room_1).applies x e0.platform about1 = true :=
  (Spec.applies_iff w_frames).mpr ⟨w_running, w_runnable, w_alone, w_named, w_hears, w_ripe, w_room, w_tables⟩
theorem atStart : AtStart classFile x code maxLocals ret World_1 tables_1 room_1 Calls_1 rest_1 Pre_1 launch0 p0 e0 about1 theMethod args0 below0 :=
  ⟨lists_1, trivial, launch0.admits_env _ _ _, launch0.least_env, fairChoices_fair.cas, fairChoices_fair.clock, w_frames, w_args, w_heap, w_applies, trivial, trivial, w_case⟩
end start1
theorem witness_1 : WitnessClaimed_1 := ⟨start1.p0, start1.e0, start1.about1, start1.theMethod, start1.args0, start1.below0, start1.atStart⟩
end Jvm.Pilot.@@N@@
