import JvmDerived
import JvmDerived.Pilot.@@N@@Statement
import JvmDerived.Pilot.@@N@@Code
set_option linter.unusedVariables false
set_option linter.unusedSimpArgs false
namespace Jvm.Pilot.@@N@@
open Jvm Jvm.ClassFile Sem Op Lib Jvm.Free Jvm.Stand Jvm.LawKit Jvm.RoadKit Bundle Jvm.Pilot.@@N@@.Jvm.D
/-! what is left of a run (own_Dn) and the steps towards it: a walk goes FORWARD, goal by goal, and may fork anywhere -/
section Own
variable {p : Program} {l : Launch} {e : Env} {R : Room} {s : State} {m : MethodId} {args : Array Value} {below : List Frame} {meth : Method} {c : Code} {T : State} {locs : List Loc} {cells slots : Nat} {Z : State} {a0 : Array Value} {h : Heap}
def own_Dn (p : Program) (e : Env) (below : List Frame) (G : State → Outcome → Prop) (A : State) : Prop :=
  ∃ s₂ o, Steps p.tables e below A s₂ ∧ s₂.status = .running ∧ Ended s₂ below o ∧ G s₂ o
abbrev own_Ret (s : State) (Q : Option Value → Heap → List Loc → Prop) (k n : Nat) : State → Outcome → Prop :=
  fun s₂ o => ∃ v L, o = .returned v ∧ Q v s₂.heap L ∧ FrameEnd s o s₂ L k n
theorem own_st {G : State → Outcome → Prop} {A B : State} (k : ∀ t, Steps p.tables e below B t → Steps p.tables e below A t) (d : own_Dn p e below G B) : own_Dn p e below G A := by
  obtain ⟨n, o, h1, h2⟩ := d
  exact ⟨n, o, k n h1, h2⟩
theorem own_to {G : State → Outcome → Prop} {A B : State} (k : Steps p.tables e below A B) (d : own_Dn p e below G B) : own_Dn p e below G A := by
  obtain ⟨n, o, h1, h2⟩ := d
  exact ⟨n, o, k.trans h1, h2⟩
theorem own_ret {Q : Option Value → Heap → List Loc → Prop} {v : Option Value} {k n : Nat} {g : JFrame} (X : Stand p l e R s m args below meth c T locs cells slots) (hlk : meth.locks = false) (hv : meth.sig.returnType = none → v = none)
    (hstep : ∀ fs, (∀ (f : JFrame) (acts : List Action), f.method = m → f.locked = none → f.entered = [] → (doReturn e (T.setTop f) acts v).1 = T.setFrames fs) → Steps p.tables e below (T.setTop g) (T.setFrames fs))
    (hQ : Q v T.heap locs) (hk : cells ≤ k) (hn : slots ≤ n) : own_Dn p e below (own_Ret s Q k n) (T.setTop g) := by
  obtain ⟨fs, hr, hrun, hended, hW, hsame⟩ := X.leave (v := v) hv hlk
  exact ⟨_, _, hstep fs hr, hrun, hended, v, locs, rfl, hQ, ⟨_, rfl⟩, hW, hsame.mono hk hn⟩
/-- a return of nothing -/
theorem own_retV {Q : Option Value → Heap → List Loc → Prop} {k n pc : Nat} {Ls : Array Slot} (X : Stand p l e R s m args below meth c T locs cells slots) (hx : p.tables.exec = Jvm.exec) (hlk : meth.locks = false) (hret : meth.sig.returnType = none)
    (hd : decode c.code pc = .ok (.return_, 1)) (hQ : Q none T.heap locs) (hk : cells ≤ k) (hn : slots ≤ n) : own_Dn p e below (own_Ret s Q k n) (T.setTop (mkF m pc Ls [])) :=
  own_ret X hlk (fun _ => rfl) (fun _ hr => X.returnOut hx hret hd hr) hQ hk hn
/-- a return of a value of the return type's kind -/
theorem own_retW {Q : Option Value → Heap → List Loc → Prop} {k n pc : Nat} {Ls : Array Slot} {w : Value} {t : FieldType} {i : Instr} {rest : List Value} (X : Stand p l e R s m args below meth c T locs cells slots) (hx : p.tables.exec = Jvm.exec) (hlk : meth.locks = false)
    (hret : meth.sig.returnType = some t) (hnr : narrow t w = w)
    (hi : (i = .ireturn ∧ (t = .int ∨ t = .boolean ∨ t = .byte ∨ t = .char ∨ t = .short) ∧ ∃ z, w = .int z) ∨ (i = .lreturn ∧ t = .long ∧ ∃ z, w = .long z) ∨ (i = .dreturn ∧ t = .double ∧ ∃ z, w = .double z) ∨ (i = .freturn ∧ t = .float ∧ ∃ z, w = .float z) ∨ (i = .areturn ∧ t.isReference = true ∧ w.isRef = true))
    (hd : decode c.code pc = .ok (i, 1)) (hQ : Q (some w) T.heap locs) (hk : cells ≤ k) (hn : slots ≤ n) : own_Dn p e below (own_Ret s Q k n) (T.setTop (mkF m pc Ls (w :: rest))) :=
  own_ret X hlk (fun h => by rw [hret] at h; cases h) (fun _ hr => retOut X hx hret hnr hi hd hr) hQ hk hn
theorem own_retI {Q : Option Value → Heap → List Loc → Prop} {k n pc : Nat} {Ls : Array Slot} {z : Int32} {rest : List Value} (X : Stand p l e R s m args below meth c T locs cells slots) (hx : p.tables.exec = Jvm.exec) (hlk : meth.locks = false)
    (hret : meth.sig.returnType = some .int) (hd : decode c.code pc = .ok (.ireturn, 1)) (hQ : Q (some (.int z)) T.heap locs) (hk : cells ≤ k) (hn : slots ≤ n) : own_Dn p e below (own_Ret s Q k n) (T.setTop (mkF m pc Ls (.int z :: rest))) :=
  own_retW X hx hlk hret rfl (Or.inl ⟨rfl, Or.inl rfl, z, rfl⟩) hd hQ hk hn
theorem own_retJ {Q : Option Value → Heap → List Loc → Prop} {k n pc : Nat} {Ls : Array Slot} {z : Int64} {rest : List Value} (X : Stand p l e R s m args below meth c T locs cells slots) (hx : p.tables.exec = Jvm.exec) (hlk : meth.locks = false)
    (hret : meth.sig.returnType = some .long) (hd : decode c.code pc = .ok (.lreturn, 1)) (hQ : Q (some (.long z)) T.heap locs) (hk : cells ≤ k) (hn : slots ≤ n) : own_Dn p e below (own_Ret s Q k n) (T.setTop (mkF m pc Ls (.long z :: rest))) :=
  own_retW X hx hlk hret rfl (Or.inr (Or.inl ⟨rfl, rfl, z, rfl⟩)) hd hQ hk hn
theorem own_retA {Q : Option Value → Heap → List Loc → Prop} {k n pc : Nat} {Ls : Array Slot} {a : Addr} {t : FieldType} {rest : List Value} (X : Stand p l e R s m args below meth c T locs cells slots) (hx : p.tables.exec = Jvm.exec) (hlk : meth.locks = false)
    (hret : meth.sig.returnType = some t) (ht : t.isReference = true) (hd : decode c.code pc = .ok (.areturn, 1)) (hQ : Q (some (.ref a)) T.heap locs) (hk : cells ≤ k) (hn : slots ≤ n) : own_Dn p e below (own_Ret s Q k n) (T.setTop (mkF m pc Ls (.ref a :: rest))) :=
  own_retW X hx hlk hret (by cases t <;> first | rfl | (simp [FieldType.isReference] at ht)) (Or.inr (Or.inr (Or.inr (Or.inr ⟨rfl, ht, rfl⟩)))) hd hQ hk hn
/-- a boolean, byte, char or short -/
theorem own_retN {Q : Option Value → Heap → List Loc → Prop} {k n pc : Nat} {Ls : Array Slot} {z : Int32} {t : FieldType} {rest : List Value} (X : Stand p l e R s m args below meth c T locs cells slots) (hx : p.tables.exec = Jvm.exec) (hlk : meth.locks = false)
    (hret : meth.sig.returnType = some t) (ht : t = .boolean ∨ t = .byte ∨ t = .char ∨ t = .short) (hd : decode c.code pc = .ok (.ireturn, 1)) (hQ : Q (some (.int (nar t z))) T.heap locs) (hk : cells ≤ k) (hn : slots ≤ n) : own_Dn p e below (own_Ret s Q k n) (T.setTop (mkF m pc Ls (.int z :: rest))) :=
  own_ret X hlk (fun h => by rw [hret] at h; cases h) (fun _ hr => retN X hx hret ht hd hr) hQ hk hn
/-- a static call by the callee's contract -/
theorem own_callS {rm : Room} {W : Nat} {as' : Array Value} {Q : Option Value → Heap → List Loc → Prop} {own : String} {index : Nat} {y : MethodName} {bytes : ByteArray} {maxL : Nat} {ret : Option FieldType} (X : Stand p l e R s m args below meth c T locs cells slots) (hx : p.tables.exec = Jvm.exec) (hZ : Z.Warmed39 s.vm)
    (hown : s.vm.findClass own = some m.cls) (w1 : (Cond.methodLink own index y).before a0 Z = true) (w2 : (Cond.static y).before a0 Z = true) (w3 : (Cond.initialized y.cls).before a0 Z = true) (w4 : (Cond.code y bytes maxL ret).before a0 Z = true) (hy : y.cls ≠ "java/lang/invoke/MethodHandle" ∧ y.cls ≠ "java/lang/invoke/VarHandle")
    (eT : T.heap = h) (hM : MetFree l y (head1 [Cond.code y bytes maxL ret] rm) (fun a U => a = as' ∧ Z.Warmed39 U.vm ∧ U.heap = h) (fun _ _ _ _ _ => True) (fun _ U o U' => ∃ v L, o = .returned v ∧ Q v U'.heap L ∧ FrameEnd U o U' L rm.cells rm.slots))
    {g : JFrame} (hg : g.method = m) (hsize : g.locals.size = c.maxLocals) {argsL rest : List Value} (hlen : ∀ sig, parseMethodDescriptor y.desc = some sig → argsL.length = sig.parameters.length) (hstack : g.stack = argsL.reverse ++ rest) (has : argsL.toArray = as') (hW : 2 * g.monitorRoom + (rest.map fun v => v.category).sum ≤ W)
    (hdg : decode c.code g.pc = .ok (.invokestatic index, 3)) (hf : rm.frames + 1 ≤ R.frames) (hl : W + (maxL + 11) + rm.locals ≤ R.locals) (hc : cells + rm.cells ≤ R.cells) (hsl : slots + rm.slots ≤ R.slots) :
    ∃ v T' L, Stand p l e R s m args below meth c T' (locs ++ L) (cells + rm.cells) (slots + rm.slots) ∧ Q v T'.heap L ∧
      ∀ t, Steps p.tables e below (T'.setTop { g with pc := g.pc + 3, stack := v.toList ++ rest }) t → Steps p.tables e below (T.setTop g) t := by
  obtain ⟨v, _, ⟨T', L, k', n'⟩, -, X', ⟨Lc, hQ, l1, l2, l3⟩, st⟩ := Jvm.LawKit.callS X hx hown (mvT hZ w1) (mvT hZ w2) (mvT hZ w3) (mvT hZ w4) hy (backOf (W := W) hM hZ w4 w3 hf hl) hg hsize hlen hstack hW hdg (fun _ _ => ⟨has, eT, hc, hsl⟩)
  dsimp only [Pt.U, Pt.locs, Pt.cells, Pt.slots] at X' l1 l2 l3 st hQ
  subst l1 l2 l3
  exact ⟨v, T', Lc, X', hQ, st⟩
/-- a constructor by its contract -/
theorem own_callN {rm : Room} {W : Nat} {as' : Array Value} {Q : Option Value → Heap → List Loc → Prop} {own : String} {index : Nat} {y : MethodName} {bytes : ByteArray} {maxL : Nat} (X : Stand p l e R s m args below meth c T locs cells slots) (hx : p.tables.exec = Jvm.exec) (hZ : Z.Warmed39 s.vm) (hy1 : y.name = "<init>")
    (hown : s.vm.findClass own = some m.cls) (w1 : (Cond.methodLink own index y).before a0 Z = true) (w2 : (Cond.instanceMethod y).before a0 Z = true) (w3 : (Cond.initialized y.cls).before a0 Z = true) (w4 : (Cond.code y bytes maxL none).before a0 Z = true) (hy : y.cls ≠ "java/lang/invoke/MethodHandle" ∧ y.cls ≠ "java/lang/invoke/VarHandle")
    (eT : T.heap = h) (hM : MetFree l y (head1 [Cond.code y bytes maxL none] rm) (fun a U => a = as' ∧ Z.Warmed39 U.vm ∧ U.heap = h) (fun _ _ _ _ _ => True) (fun _ U o U' => ∃ v L, o = .returned v ∧ Q v U'.heap L ∧ FrameEnd U o U' L rm.cells rm.slots))
    {g : JFrame} (hg : g.method = m) (hsize : g.locals.size = c.maxLocals) {a : Addr} {argsL rest : List Value} (hlen : ∀ sig, parseMethodDescriptor y.desc = some sig → argsL.length = sig.parameters.length) (hstack : g.stack = argsL.reverse ++ .ref a :: rest) (has : (.ref a :: argsL).toArray = as') (hW : 2 * g.monitorRoom + (rest.map fun v => v.category).sum ≤ W)
    (hdg : decode c.code g.pc = .ok (.invokespecial index, 3)) (hf : rm.frames + 1 ≤ R.frames) (hl : W + (maxL + 11) + rm.locals ≤ R.locals) (hc : cells + rm.cells ≤ R.cells) (hsl : slots + rm.slots ≤ R.slots) :
    ∃ v T' L, Stand p l e R s m args below meth c T' (locs ++ L) (cells + rm.cells) (slots + rm.slots) ∧ Q v T'.heap L ∧
      ∀ t, Steps p.tables e below (T'.setTop { g with pc := g.pc + 3, stack := v.toList ++ rest }) t → Steps p.tables e below (T.setTop g) t := by
  obtain ⟨v, _, ⟨T', L, k', n'⟩, -, X', ⟨Lc, hQ, l1, l2, l3⟩, st⟩ := X.specialBack hx hy1 hown (mvT hZ w1) (mvT hZ w2) (mvT hZ w4) hy (backOf (W := W) hM hZ w4 w3 hf hl) hg hsize (Steps.refl _) hlen hstack hW hdg (fun _ _ => ⟨has, eT, hc, hsl⟩)
  dsimp only [Pt.U, Pt.locs, Pt.cells, Pt.slots] at X' l1 l2 l3 st hQ
  subst l1 l2 l3
  exact ⟨v, T', Lc, X', hQ, fun t k => st.trans k⟩
/-- a constructor by a payer that is at hand -/
theorem own_callNK {mc ms W : Nat} {as' : Array Value} {Q : Option Value → Heap → List Loc → Prop} {own : String} {index : Nat} {y : MethodName} {bytes : ByteArray} {maxL : Nat} (X : Stand p l e R s m args below meth c T locs cells slots) (hx : p.tables.exec = Jvm.exec) (hZ : Z.Warmed39 s.vm) (hy1 : y.name = "<init>")
    (hown : s.vm.findClass own = some m.cls) (w1 : (Cond.methodLink own index y).before a0 Z = true) (w2 : (Cond.instanceMethod y).before a0 Z = true) (w4 : (Cond.code y bytes maxL none).before a0 Z = true) (hy : y.cls ≠ "java/lang/invoke/MethodHandle" ∧ y.cls ≠ "java/lang/invoke/VarHandle")
    (eT : T.heap = h) (hK : Back l R p e below s args y 3 W (fun A a => a = as' ∧ A.U.heap = h ∧ A.cells + mc ≤ R.cells ∧ A.slots + ms ≤ R.slots) (fun A _ v B => ∃ L, Q v B.U.heap L ∧ B.locs = A.locs ++ L ∧ B.cells = A.cells + mc ∧ B.slots = A.slots + ms))
    {g : JFrame} (hg : g.method = m) (hsize : g.locals.size = c.maxLocals) {a : Addr} {argsL rest : List Value} (hlen : ∀ sig, parseMethodDescriptor y.desc = some sig → argsL.length = sig.parameters.length) (hstack : g.stack = argsL.reverse ++ .ref a :: rest) (has : (.ref a :: argsL).toArray = as') (hW : 2 * g.monitorRoom + (rest.map fun v => v.category).sum ≤ W)
    (hdg : decode c.code g.pc = .ok (.invokespecial index, 3)) (hc : cells + mc ≤ R.cells) (hsl : slots + ms ≤ R.slots) :
    ∃ v T' L, Stand p l e R s m args below meth c T' (locs ++ L) (cells + mc) (slots + ms) ∧ Q v T'.heap L ∧
      ∀ t, Steps p.tables e below (T'.setTop { g with pc := g.pc + 3, stack := v.toList ++ rest }) t → Steps p.tables e below (T.setTop g) t := by
  obtain ⟨v, _, ⟨T', L, k', n'⟩, -, X', ⟨Lc, hQ, l1, l2, l3⟩, st⟩ := X.specialBack hx hy1 hown (mvT hZ w1) (mvT hZ w2) (mvT hZ w4) hy hK hg hsize (Steps.refl _) hlen hstack hW hdg (fun _ _ => ⟨has, eT, hc, hsl⟩)
  dsimp only [Pt.U, Pt.locs, Pt.cells, Pt.slots] at X' l1 l2 l3 st hQ
  subst l1 l2 l3
  exact ⟨v, T', Lc, X', hQ, fun t k => st.trans k⟩
/-- a virtual call by the contract of the method that is selected (declared by a class, the receiver exactly of the class C) -/
theorem own_callV {rm : Room} {W : Nat} {as' : Array Value} {Q : Option Value → Heap → List Loc → Prop} {own C : String} {index : Nat} {y z : MethodName} {bytes : ByteArray} {maxL : Nat} {ret : Option FieldType} (X : Stand p l e R s m args below meth c T locs cells slots) (hx : p.tables.exec = Jvm.exec) (hZ : Z.Warmed39 s.vm)
    (hown : s.vm.findClass own = some m.cls) (w1 : (Cond.methodLink own index y).before a0 Z = true) (w2 : (Cond.declares y).before a0 Z = true) (hnf : NotFace s y) (w5 : (Cond.selects C y z).before a0 Z = true) (w6 : (Cond.instanceMethod z).before a0 Z = true) (w3 : (Cond.initialized z.cls).before a0 Z = true) (w4 : (Cond.code z bytes maxL ret).before a0 Z = true) (hy : y.cls ≠ "java/lang/invoke/MethodHandle" ∧ y.cls ≠ "java/lang/invoke/VarHandle")
    (eT : T.heap = h) (hM : MetFree l z (head1 [Cond.code z bytes maxL ret] rm) (fun a U => a = as' ∧ Z.Warmed39 U.vm ∧ U.heap = h) (fun _ _ _ _ _ => True) (fun _ U o U' => ∃ v L, o = .returned v ∧ Q v U'.heap L ∧ FrameEnd U o U' L rm.cells rm.slots))
    {a : Addr} (E : Exa Z h a C) {g : JFrame} (hg : g.method = m) (hsize : g.locals.size = c.maxLocals) {argsL rest : List Value} (hlen : ∀ sig, parseMethodDescriptor y.desc = some sig → argsL.length = sig.parameters.length) (hstack : g.stack = argsL.reverse ++ .ref a :: rest) (has : (.ref a :: argsL).toArray = as') (hW : 2 * g.monitorRoom + (rest.map fun v => v.category).sum ≤ W)
    (hdg : decode c.code g.pc = .ok (.invokevirtual index, 3)) (hf : rm.frames + 1 ≤ R.frames) (hl : W + (maxL + 11) + rm.locals ≤ R.locals) (hc : cells + rm.cells ≤ R.cells) (hsl : slots + rm.slots ≤ R.slots) :
    ∃ v T' L, Stand p l e R s m args below meth c T' (locs ++ L) (cells + rm.cells) (slots + rm.slots) ∧ Q v T'.heap L ∧
      ∀ t, Steps p.tables e below (T'.setTop { g with pc := g.pc + 3, stack := v.toList ++ rest }) t → Steps p.tables e below (T.setTop g) t := by
  obtain ⟨cq, kq, qa, qb, qc⟩ := isOf hZ eT E
  obtain ⟨v, _, ⟨T', L, k', n'⟩, -, X', ⟨Lc, hQ, l1, l2, l3⟩, st⟩ := X.virtualBack hx hown (mvT hZ w1) (mvT hZ w2) hnf (mvT hZ w5) (mvT hZ w6) hy (backOf (W := W) hM hZ w4 w3 hf hl) qa qc hg hsize (Steps.refl _) hlen hstack hW hdg (fun _ _ => ⟨has, eT, hc, hsl⟩)
  dsimp only [Pt.U, Pt.locs, Pt.cells, Pt.slots] at X' l1 l2 l3 st hQ
  subst l1 l2 l3
  exact ⟨v, T', Lc, X', hQ, fun t k => st.trans k⟩
/-- a virtual call of a method that the named class inherits from 'owner' -/
theorem own_callU {rm : Room} {W : Nat} {as' : Array Value} {Q : Option Value → Heap → List Loc → Prop} {own C owner : String} {index : Nat} {y z : MethodName} {bytes : ByteArray} {maxL : Nat} {ret : Option FieldType} (X : Stand p l e R s m args below meth c T locs cells slots) (hx : p.tables.exec = Jvm.exec) (hZ : Z.Warmed39 s.vm)
    (hown : s.vm.findClass own = some m.cls) (w1 : (Cond.methodLink own index y).before a0 Z = true) (w2 : (Cond.sameMethod y.cls owner y.name y.desc).before a0 Z = true) (w7 : (Cond.declares ⟨owner, y.name, y.desc⟩).before a0 Z = true) (ho : owner ≠ "java/lang/invoke/MethodHandle" ∧ owner ≠ "java/lang/invoke/VarHandle") (w5 : (Cond.selects C y z).before a0 Z = true) (w6 : (Cond.instanceMethod z).before a0 Z = true) (w3 : (Cond.initialized z.cls).before a0 Z = true) (w4 : (Cond.code z bytes maxL ret).before a0 Z = true)
    (eT : T.heap = h) (hM : MetFree l z (head1 [Cond.code z bytes maxL ret] rm) (fun a U => a = as' ∧ Z.Warmed39 U.vm ∧ U.heap = h) (fun _ _ _ _ _ => True) (fun _ U o U' => ∃ v L, o = .returned v ∧ Q v U'.heap L ∧ FrameEnd U o U' L rm.cells rm.slots))
    {a : Addr} (E : Exa Z h a C) {g : JFrame} (hg : g.method = m) (hsize : g.locals.size = c.maxLocals) {argsL rest : List Value} (hlen : ∀ sig, parseMethodDescriptor y.desc = some sig → argsL.length = sig.parameters.length) (hstack : g.stack = argsL.reverse ++ .ref a :: rest) (has : (.ref a :: argsL).toArray = as') (hW : 2 * g.monitorRoom + (rest.map fun v => v.category).sum ≤ W)
    (hdg : decode c.code g.pc = .ok (.invokevirtual index, 3)) (hf : rm.frames + 1 ≤ R.frames) (hl : W + (maxL + 11) + rm.locals ≤ R.locals) (hc : cells + rm.cells ≤ R.cells) (hsl : slots + rm.slots ≤ R.slots) :
    ∃ v T' L, Stand p l e R s m args below meth c T' (locs ++ L) (cells + rm.cells) (slots + rm.slots) ∧ Q v T'.heap L ∧
      ∀ t, Steps p.tables e below (T'.setTop { g with pc := g.pc + 3, stack := v.toList ++ rest }) t → Steps p.tables e below (T.setTop g) t := by
  obtain ⟨cq, kq, qa, qb, qc⟩ := isOf hZ eT E
  obtain ⟨v, _, ⟨T', L, k', n'⟩, -, X', ⟨Lc, hQ, l1, l2, l3⟩, st⟩ := X.virtualBackUp hx hown (mvT hZ w1) (mvT hZ w2) (mvT hZ w7) ho (mvT hZ w5) (mvT hZ w6) (backOf (W := W) hM hZ w4 w3 hf hl) qa qc hg hsize (Steps.refl _) hlen hstack hW hdg (fun _ _ => ⟨has, eT, hc, hsl⟩)
  dsimp only [Pt.U, Pt.locs, Pt.cells, Pt.slots] at X' l1 l2 l3 st hQ
  subst l1 l2 l3
  exact ⟨v, T', Lc, X', hQ, fun t k => st.trans k⟩
theorem own_lrem {g : JFrame} {target : State} (X : Stand p l e R s m args below meth c T locs cells slots) (hx : p.tables.exec = Jvm.exec) (hg : g.method = m) {x y : Int64} {rest : List Value} (hd : decode c.code g.pc = .ok (.lrem, 1)) (hs : g.stack = .long y :: .long x :: rest) (hy : y ≠ 0)
    (hr : Steps p.tables e below (T.setTop { g with pc := g.pc + 1, stack := .long (x % y) :: rest }) target) : Steps p.tables e below (T.setTop g) target :=
  XS.lrem X.here hx hg hd hs hy (by rw [lrem_mod]; exact hr)
end Own
/-! ints as integers -/
theorem own_tL {x y : Int32} (h : x < y) : x.toInt < y.toInt := Int32.lt_iff_toInt_lt.mp h
theorem own_tLn {x y : Int32} (h : ¬ x < y) : ¬ x.toInt < y.toInt := fun q => h (Int32.lt_iff_toInt_lt.mpr q)
theorem own_tE {x y : Int32} (h : x = y) : x.toInt = y.toInt := congrArg _ h
theorem own_tEn {x y : Int32} (h : ¬ x = y) : ¬ x.toInt = y.toInt := fun q => h (Int32.toInt_inj.mp q)
theorem own_uL {x y : Int64} (h : x < y) : x.toInt < y.toInt := Int64.lt_iff_toInt_lt.mp h
theorem own_uLn {x y : Int64} (h : ¬ x < y) : ¬ x.toInt < y.toInt := fun q => h (Int64.lt_iff_toInt_lt.mpr q)
theorem own_uE {x y : Int64} (h : x = y) : x.toInt = y.toInt := congrArg _ h
theorem own_uEn {x y : Int64} (h : ¬ x = y) : ¬ x.toInt = y.toInt := fun q => h (Int64.toInt_inj.mp q)
/-! an array by its values: n places, place i holds f i -/
section OwnArr
variable {p : Program} {l : Launch} {e : Env} {R : Room} {s : State} {m : MethodId} {args : Array Value} {below : List Frame} {meth : Method} {c : Code} {T : State} {locs : List Loc} {cells slots : Nat} {Z : State} {a0 : Array Value} {h h' : Heap} {a b : Addr} {ty : FieldType} {n sl : Nat} {f : Nat → Value} {v : Value} {ws : List Addr}
def own_AV (Z : State) (h : Heap) (a : Addr) (ty : FieldType) (n : Nat) (f : Nat → Value) : Prop := ∃ cl : Cell, Arr Z h a cl ty ∧ cl.slots.size = n ∧ ∀ i, i < n → cl.slots[i]? = some (f i)
theorem own_AV.new {k : ClassId} {z : Int32} (A : Arr Z h a (newA k ty z) ty) (hn : z.toNatClampNeg = n) : own_AV Z h a ty n (fun _ => defaultValue ty) := by
  subst hn
  exact ⟨_, A, sz_new _ _ _, fun i hi => by simp [newA, hi]⟩
theorem own_AV.ext (F : own_AV Z h a ty n f) (E : Ext h h') : own_AV Z h' a ty n f := by
  obtain ⟨cl, A, r⟩ := F
  exact ⟨cl, A.ext E, r⟩
theorem own_AV.other (F : own_AV Z h b ty n f) (W : Wr h h' a sl v) (q : b ≠ a) : own_AV Z h' b ty n f := by
  obtain ⟨cl, A, r⟩ := F
  exact ⟨cl, A.other W q, r⟩
theorem own_AV.lt (F : own_AV Z h a ty n f) : a < h.size := by
  obtain ⟨cl, A, r⟩ := F
  exact A.lt
theorem own_AV.same {i : Nat} (F : own_AV Z h a ty n f) (W : Wr h h' a i v) (hi : i < n) : own_AV Z h' a ty n (fun k => if k = i then v else f k) := by
  obtain ⟨cl, A, S, H⟩ := F
  refine ⟨_, A.same W, (sz_set _ _ _).trans S, fun k hk => ?_⟩
  by_cases q : k = i
  · subst q
    simp [Cell.setSlot, S, hk]
  · simp only [Cell.setSlot, if_neg q]
    rw [Array.getElem?_setIfInBounds_ne (Ne.symm q)]
    exact H k hk
theorem own_AV.congr {f' : Nat → Value} (F : own_AV Z h a ty n f) (q : ∀ i, i < n → f i = f' i) : own_AV Z h a ty n f' := by
  obtain ⟨cl, A, S, H⟩ := F
  exact ⟨cl, A, S, fun i hi => (H i hi).trans (congrArg some (q i hi))⟩
theorem own_AV.keep (F : own_AV Z h a ty n f) (K : Keep h h' ws) (q : a ∉ ws) : own_AV Z h' a ty n f := by
  obtain ⟨cl, A, r⟩ := F
  exact ⟨cl, ⟨K.2.1 _ _ A.1 q, A.2⟩, r⟩
theorem own_AV.arv {z : Int32} {vs : List Value} {d : Value} (F : own_AV Z h a ty n f) (hz : z.toNatClampNeg = n) (h0 : ¬ z < 0) (hv : ∀ i, i < n → vs.getD i d = f i) (hf : ∀ i, i < n → fits ty (f i) = true) : ∃ k, Arv Z h a k ty z vs d := by
  obtain ⟨cl, A, S, H⟩ := F
  refine ⟨cl.cls, cl, A, rfl, S.trans hz.symm, h0, fun i hi => ?_, fun i hi => ?_⟩
  · rw [hv i (S ▸ hi)]
    exact H i (S ▸ hi)
  · rw [hv i (S ▸ hi)]
    exact hf i (S ▸ hi)
theorem own_AV.of_arv {k : ClassId} {z : Int32} {vs : List Value} {d : Value} (F : Arv Z h a k ty z vs d) (hz : z.toNatClampNeg = n) : own_AV Z h a ty n (fun i => vs.getD i d) := by
  obtain ⟨cl, A, -, S, -, H, -⟩ := F
  exact ⟨cl, A, S.trans hz, fun i hi => H i (by rw [S, hz]; exact hi)⟩
theorem own_inb {cl : Cell} {j : Int32} {i : Nat} (S : cl.slots.size = n) (hj : j.toNatClampNeg = i) (h0 : ¬ j < 0) (hi : i < n) : ¬ (j < 0 ∨ cl.slots.size ≤ j.toNatClampNeg) := by
  rintro (q | q)
  · exact h0 q
  · rw [S, hj] at q
    omega
theorem own_caload (X : Stand p l e R s m args below meth c T locs cells slots) (hx : p.tables.exec = Jvm.exec) (hZ : Z.Warmed39 s.vm) (eT : T.heap = h) (F : own_AV Z h a .char n f) {j : Int32} {i : Nat} (hj : j.toNatClampNeg = i) (h0 : ¬ j < 0) (hi : i < n) {g : JFrame} (hg : g.method = m) {rest : List Value} (hs : g.stack = .int j :: .ref a :: rest) (hd : decode c.code g.pc = .ok (.caload, 1)) :
    ∀ t, Steps p.tables e below (T.setTop { g with pc := g.pc + 1, stack := f i :: rest }) t → Steps p.tables e below (T.setTop g) t := by
  obtain ⟨cl, A, S, H⟩ := F
  exact fun t k => X.caload hx (by rw [eT]; exact A.1) (State.isArrayOf_alike hZ.alike A.2.1) A.2.2 (own_inb S hj h0 hi) (by rw [hj]; exact H i hi) hg hs hd t k
theorem own_iaload (X : Stand p l e R s m args below meth c T locs cells slots) (hx : p.tables.exec = Jvm.exec) (hZ : Z.Warmed39 s.vm) (eT : T.heap = h) (F : own_AV Z h a .int n f) {j : Int32} {i : Nat} (hj : j.toNatClampNeg = i) (h0 : ¬ j < 0) (hi : i < n) {g : JFrame} (hg : g.method = m) {rest : List Value} (hs : g.stack = .int j :: .ref a :: rest) (hd : decode c.code g.pc = .ok (.iaload, 1)) :
    ∀ t, Steps p.tables e below (T.setTop { g with pc := g.pc + 1, stack := f i :: rest }) t → Steps p.tables e below (T.setTop g) t := by
  obtain ⟨cl, A, S, H⟩ := F
  exact fun t k => X.iaload hx (by rw [eT]; exact A.1) (State.isArrayOf_alike hZ.alike A.2.1) A.2.2 (own_inb S hj h0 hi) (by rw [hj]; exact H i hi) hg hs hd t k
theorem own_laload (X : Stand p l e R s m args below meth c T locs cells slots) (hx : p.tables.exec = Jvm.exec) (hZ : Z.Warmed39 s.vm) (eT : T.heap = h) (F : own_AV Z h a .long n f) {j : Int32} {i : Nat} (hj : j.toNatClampNeg = i) (h0 : ¬ j < 0) (hi : i < n) {g : JFrame} (hg : g.method = m) {rest : List Value} (hs : g.stack = .int j :: .ref a :: rest) (hd : decode c.code g.pc = .ok (.laload, 1)) :
    ∀ t, Steps p.tables e below (T.setTop { g with pc := g.pc + 1, stack := f i :: rest }) t → Steps p.tables e below (T.setTop g) t := by
  obtain ⟨cl, A, S, H⟩ := F
  exact fun t k => X.laload hx (by rw [eT]; exact A.1) (State.isArrayOf_alike hZ.alike A.2.1) A.2.2 (own_inb S hj h0 hi) (by rw [hj]; exact H i hi) hg hs hd t k
theorem own_baload (X : Stand p l e R s m args below meth c T locs cells slots) (hx : p.tables.exec = Jvm.exec) (hZ : Z.Warmed39 s.vm) (eT : T.heap = h) (F : own_AV Z h a .byte n f) {j : Int32} {i : Nat} (hj : j.toNatClampNeg = i) (h0 : ¬ j < 0) (hi : i < n) {g : JFrame} (hg : g.method = m) {rest : List Value} (hs : g.stack = .int j :: .ref a :: rest) (hd : decode c.code g.pc = .ok (.baload, 1)) :
    ∀ t, Steps p.tables e below (T.setTop { g with pc := g.pc + 1, stack := f i :: rest }) t → Steps p.tables e below (T.setTop g) t := by
  obtain ⟨cl, A, S, H⟩ := F
  exact fun t k => X.baloadBytes hx (by rw [eT]; exact A.1) (State.isArrayOf_alike hZ.alike A.2.1) A.2.2 (own_inb S hj h0 hi) (by rw [hj]; exact H i hi) hg hs hd t k
theorem own_alen (X : Stand p l e R s m args below meth c T locs cells slots) (hx : p.tables.exec = Jvm.exec) (hZ : Z.Warmed39 s.vm) (eT : T.heap = h) (F : own_AV Z h a ty n f) {z : Int32} (hz : n.toInt32 = z) {g : JFrame} (hg : g.method = m) {rest : List Value} (hs : g.stack = .ref a :: rest) (hd : decode c.code g.pc = .ok (.arraylength, 1)) :
    ∀ t, Steps p.tables e below (T.setTop { g with pc := g.pc + 1, stack := .int z :: rest }) t → Steps p.tables e below (T.setTop g) t := by
  obtain ⟨cl, A, S, H⟩ := F
  refine fun t k => X.arraylength hx (by rw [eT]; exact A.1) (State.isArrayOf_alike hZ.alike A.2.1) hg hs hd t ?_
  rw [S, hz]
  exact k
theorem own_stI (X : Stand p l e R s m args below meth c T locs cells slots) (hx : p.tables.exec = Jvm.exec) (hZ : Z.Warmed39 s.vm) (eT : T.heap = h) (F : own_AV Z h a .int n f) {j x : Int32} {i : Nat} (hj : j.toNatClampNeg = i) (h0 : ¬ j < 0) (hi : i < n) {g : JFrame} (hg : g.method = m) {rest : List Value} (hs : g.stack = .int x :: .int j :: .ref a :: rest) (hd : decode c.code g.pc = .ok (.iastore, 1)) :
    ∃ T' h', Stand p l e R s m args below meth c T' (locs ++ [⟨a, i⟩]) cells slots ∧ T'.heap = h' ∧ Wr h h' a i (.int x) ∧ own_AV Z h' a .int n (fun k => if k = i then .int x else f k) ∧ ∀ target, Steps p.tables e below (T'.setTop { g with pc := g.pc + 1, stack := rest }) target → Steps p.tables e below (T.setTop g) target := by
  obtain ⟨cl, A, S, H⟩ := F
  subst hj
  obtain ⟨T', h', X', e', W, st⟩ := stI X hx hZ eT A (own_inb S rfl h0 hi) hg hs hd
  exact ⟨T', h', X', e', W, own_AV.same ⟨cl, A, S, H⟩ W hi, st⟩
theorem own_stJ (X : Stand p l e R s m args below meth c T locs cells slots) (hx : p.tables.exec = Jvm.exec) (hZ : Z.Warmed39 s.vm) (eT : T.heap = h) (F : own_AV Z h a .long n f) {j : Int32} {x : Int64} {i : Nat} (hj : j.toNatClampNeg = i) (h0 : ¬ j < 0) (hi : i < n) {g : JFrame} (hg : g.method = m) {rest : List Value} (hs : g.stack = .long x :: .int j :: .ref a :: rest) (hd : decode c.code g.pc = .ok (.lastore, 1)) :
    ∃ T' h', Stand p l e R s m args below meth c T' (locs ++ [⟨a, i⟩]) cells slots ∧ T'.heap = h' ∧ Wr h h' a i (.long x) ∧ own_AV Z h' a .long n (fun k => if k = i then .long x else f k) ∧ ∀ target, Steps p.tables e below (T'.setTop { g with pc := g.pc + 1, stack := rest }) target → Steps p.tables e below (T.setTop g) target := by
  obtain ⟨cl, A, S, H⟩ := F
  subst hj
  obtain ⟨T', h', X', e', W, st⟩ := stJ X hx hZ eT A (own_inb S rfl h0 hi) hg hs hd
  exact ⟨T', h', X', e', W, own_AV.same ⟨cl, A, S, H⟩ W hi, st⟩
theorem own_stC (X : Stand p l e R s m args below meth c T locs cells slots) (hx : p.tables.exec = Jvm.exec) (hZ : Z.Warmed39 s.vm) (eT : T.heap = h) (F : own_AV Z h a .char n f) {j x : Int32} {i : Nat} (hj : j.toNatClampNeg = i) (h0 : ¬ j < 0) (hi : i < n) {g : JFrame} (hg : g.method = m) {rest : List Value} (hs : g.stack = .int x :: .int j :: .ref a :: rest) (hd : decode c.code g.pc = .ok (.castore, 1)) :
    ∃ T' h', Stand p l e R s m args below meth c T' (locs ++ [⟨a, i⟩]) cells slots ∧ T'.heap = h' ∧ Wr h h' a i (.int (nar .char x)) ∧ own_AV Z h' a .char n (fun k => if k = i then .int (nar .char x) else f k) ∧ ∀ target, Steps p.tables e below (T'.setTop { g with pc := g.pc + 1, stack := rest }) target → Steps p.tables e below (T.setTop g) target := by
  obtain ⟨cl, A, S, H⟩ := F
  subst hj
  obtain ⟨T', h', X', e', W, st⟩ := stC X hx hZ eT A (own_inb S rfl h0 hi) hg hs hd
  exact ⟨T', h', X', e', W, own_AV.same ⟨cl, A, S, H⟩ W hi, st⟩
theorem own_stB (X : Stand p l e R s m args below meth c T locs cells slots) (hx : p.tables.exec = Jvm.exec) (hZ : Z.Warmed39 s.vm) (eT : T.heap = h) (F : own_AV Z h a .byte n f) {j x : Int32} {i : Nat} (hj : j.toNatClampNeg = i) (h0 : ¬ j < 0) (hi : i < n) {g : JFrame} (hg : g.method = m) {rest : List Value} (hs : g.stack = .int x :: .int j :: .ref a :: rest) (hd : decode c.code g.pc = .ok (.bastore, 1)) :
    ∃ T' h', Stand p l e R s m args below meth c T' (locs ++ [⟨a, i⟩]) cells slots ∧ T'.heap = h' ∧ Wr h h' a i (.int (nar .byte x)) ∧ own_AV Z h' a .byte n (fun k => if k = i then .int (nar .byte x) else f k) ∧ ∀ target, Steps p.tables e below (T'.setTop { g with pc := g.pc + 1, stack := rest }) target → Steps p.tables e below (T.setTop g) target := by
  obtain ⟨cl, A, S, H⟩ := F
  subst hj
  obtain ⟨T', h', X', e', W, st⟩ := stB X hx hZ eT A (own_inb S rfl h0 hi) hg hs hd
  exact ⟨T', h', X', e', W, own_AV.same ⟨cl, A, S, H⟩ W hi, st⟩
end OwnArr
theorem own_n32 {z : Int32} {n : Nat} (h : z.toInt = n) : n.toInt32 = z := by
  have q : ¬ z < 0 := fun q => by
    have q' := own_tL q
    have z0 : (0 : Int32).toInt = 0 := by decide
    rw [z0] at q'
    omega
  have b := (back32 q).1
  have e : z.toNatClampNeg = n := by
    show z.toInt.toNat = n
    omega
  rw [e] at b
  exact b
theorem own_fl1 {A : Prop} {r : Int32} (h : (r = 1 ∧ A) ∨ (r = 0 ∧ ¬ A)) (q : A) : r = 1 := by
  rcases h with h | h
  · exact h.1
  · exact absurd q h.2
theorem own_fl0 {A : Prop} {r : Int32} (h : (r = 1 ∧ A) ∨ (r = 0 ∧ ¬ A)) (q : ¬ A) : r = 0 := by
  rcases h with h | h
  · exact absurd h.2 q
  · exact h.1
theorem own_inc {i : Int32} {j n : Nat} (h : i.toInt = j) (hj : j < n) (hn : n < 2147483647) : (i + 1).toInt = (j + 1 : Nat) := by
  have a := c_iadd i 1
  have b := rng32 (i + 1)
  have z : (1 : Int32).toInt = 1 := by decide
  rw [z] at a
  omega
theorem own_i0 {i : Int32} {j : Nat} (h : i.toInt = j) : i.toNatClampNeg = j ∧ ¬ i < 0 := by
  constructor
  · show i.toInt.toNat = j
    omega
  · intro q
    have q' := own_tL q
    have z0 : (0 : Int32).toInt = 0 := by decide
    rw [z0] at q'
    omega
def own_St (Z : State) (cs : Int32) (vG : Value) : Prop := Sta Z Z.heap "java/lang/String" "COMPACT_STRINGS" "Z" (.int cs) ∧ Sta Z Z.heap "jdk/internal/util/Preconditions" "SIOOBE_FORMATTER" "Ljava/util/function/BiFunction;" vG ∧
  Sta Z Z.heap "java/lang/StringUTF16" "$assertionsDisabled" "Z" (.int 1) ∧ Sta Z Z.heap "java/lang/StringUTF16" "HI_BYTE_SHIFT" "I" (.int 0) ∧ Sta Z Z.heap "java/lang/StringUTF16" "LO_BYTE_SHIFT" "I" (.int 8)
abbrev own_lo (c : Int32) : Int32 := c.toInt8.toInt32
abbrev own_hi (c : Int32) : Int32 := (c >>> ((8 : Int32) &&& 31)).toInt8.toInt32
def own_u (f : Nat → Int32) (i : Nat) : Int32 := if i % 2 = 0 then own_lo (f (i / 2)) else own_hi (f (i / 2))
theorem own_narb (x : Int32) : nar .byte (x.toInt8.toInt32) = x.toInt8.toInt32 := by
  show x.toInt8.toInt32.toInt8.toInt32 = x.toInt8.toInt32
  simp
theorem own_sh0 (x : Int32) : x >>> ((0 : Int32) &&& 31) = x := by
  apply Int32.toInt_inj.mp
  rw [c_ishr x 0 0 (by decide)]
  simp
theorem own_shl0 (x : Int32) : x <<< ((0 : Int32) &&& 31) = x := by
  apply Int32.toInt_inj.mp
  have h := c_ishl x 0 0 (by decide)
  have r := rng32 x
  have r' := rng32 (x <<< ((0 : Int32) &&& 31))
  simp only [Nat.pow_zero, Int.ofNat_one, Int.mul_one] at h
  omega
def own_gc (lo hi : Int32) : Int32 := nar .char ((((lo &&& (255 : Int32)) <<< ((0 : Int32) &&& 31)) ||| ((hi &&& (255 : Int32)) <<< ((8 : Int32) &&& 31))).toUInt32.toUInt16.toUInt32.toInt32)
theorem own_chr {c d : Int32} (h : 0 ≤ c.toInt ∧ c.toInt < 65536) (e : (d.toInt - c.toInt) % 65536 = 0) : nar .char (d.toUInt32.toUInt16.toUInt32.toInt32) = c := by
  apply Int32.toInt_inj.mp
  show (d.toUInt32.toUInt16.toUInt32.toInt32).toUInt32.toUInt16.toUInt32.toInt32.toInt = c.toInt
  have a := c_i2c (d.toUInt32.toUInt16.toUInt32.toInt32)
  have b := c_i2c d
  omega
theorem own_nch {c : Int32} (h : 0 ≤ c.toInt ∧ c.toInt < 65536) : nar .char c = c := by
  apply Int32.toInt_inj.mp
  show c.toUInt32.toUInt16.toUInt32.toInt32.toInt = c.toInt
  have a := c_i2c c
  omega
theorem own_gc_eq {c : Int32} (h : 0 ≤ c.toInt ∧ c.toInt < 65536) : own_gc (own_lo c) (own_hi c) = c := by
  unfold own_gc
  rw [own_shl0, Int32.or_comm]
  apply own_chr h
  have a : ((own_lo c).toInt - c.toInt) % 256 = 0 ∧ -128 ≤ (own_lo c).toInt ∧ (own_lo c).toInt < 128 := c_i2b c
  have b : ((own_hi c).toInt - (c >>> ((8 : Int32) &&& 31)).toInt) % 256 = 0 ∧ -128 ≤ (own_hi c).toInt ∧ (own_hi c).toInt < 128 := c_i2b (c >>> ((8 : Int32) &&& 31))
  have s : (c >>> ((8 : Int32) &&& 31)).toInt = c.toInt / 256 := c_ishr c 8 8 (by decide)
  have m1 : ((own_lo c) &&& (255 : Int32)).toInt = (own_lo c).toInt % 256 := c_mask (own_lo c) 255 8 (by decide) (by decide)
  have m2 : ((own_hi c) &&& (255 : Int32)).toInt = (own_hi c).toInt % 256 := c_mask (own_hi c) 255 8 (by decide) (by decide)
  have l : ((((own_hi c) &&& (255 : Int32)) <<< ((8 : Int32) &&& 31)).toInt - ((own_hi c) &&& (255 : Int32)).toInt * 256) % 4294967296 = 0 := c_ishl ((own_hi c) &&& (255 : Int32)) 8 8 (by decide)
  have r := rng32 (((own_hi c) &&& (255 : Int32)) <<< ((8 : Int32) &&& 31))
  have oo := c_or (((own_hi c) &&& (255 : Int32)) <<< ((8 : Int32) &&& 31)) ((own_lo c) &&& (255 : Int32)) 8 (by decide) 256 (by decide) (by omega) (by omega) (by omega)
  have ro := rng32 ((((own_hi c) &&& (255 : Int32)) <<< ((8 : Int32) &&& 31)) ||| ((own_lo c) &&& (255 : Int32)))
  omega
theorem own_lat {c : Int32} (h : 0 ≤ c.toInt ∧ c.toInt < 65536) (h2 : ¬ 255 < c) : nar .char (((own_lo c) &&& (255 : Int32)).toUInt32.toUInt16.toUInt32.toInt32) = c := by
  apply own_chr h
  have a : ((own_lo c).toInt - c.toInt) % 256 = 0 ∧ -128 ≤ (own_lo c).toInt ∧ (own_lo c).toInt < 128 := c_i2b c
  have q := own_tLn h2
  have z : (255 : Int32).toInt = 255 := by decide
  rw [z] at q
  have m1 : ((own_lo c) &&& (255 : Int32)).toInt = (own_lo c).toInt % 256 := c_mask (own_lo c) 255 8 (by decide) (by decide)
  omega
theorem own_dbl {i : Int32} {k : Nat} (hi : i.toInt = k) (hk : k < 1000) : (i <<< ((1 : Int32) &&& 31)).toInt = (2 * k : Nat) ∧ ((i <<< ((1 : Int32) &&& 31)) + (1 : Int32)).toInt = (2 * k + 1 : Nat) := by
  have h : ((i <<< ((1 : Int32) &&& 31)).toInt - i.toInt * 2) % 4294967296 = 0 := c_ishl i 1 1 (by decide)
  have r := rng32 (i <<< ((1 : Int32) &&& 31))
  have a := c_iadd (i <<< ((1 : Int32) &&& 31)) 1
  have r' := rng32 ((i <<< ((1 : Int32) &&& 31)) + 1)
  have z : (1 : Int32).toInt = 1 := by decide
  rw [z] at a
  omega
/-- the String at x spells f 0 .. f (n - 1) -/
def own_Str (Z : State) (h : Heap) (x : Addr) (n : Nat) (f : Nat → Int32) : Prop := ∃ (t : Addr) (cd : Int32), Exa Z h x "java/lang/String" ∧ Fld Z h x "java/lang/String" "coder" "B" (.int cd) ∧ Fld Z h x "java/lang/String" "value" "[B" (.ref t) ∧
  ((cd = 0 ∧ (∀ i, i < n → ¬ 255 < f i) ∧ own_AV Z h t .byte n (fun i => .int (own_lo (f i)))) ∨ (cd = 1 ∧ own_AV Z h t .byte (2 * n) (fun i => .int (own_u f i))))
def own_stp (g : Nat → Int32) (k : Nat) (c : Int32) (q : Nat) : Int32 := if q = 2 * k + 1 then own_hi c else if q = 2 * k then own_lo c else g q
theorem own_stp_u {f g : Nat → Int32} {k : Nat} (h : ∀ q, q < 2 * k → g q = own_u f q) : ∀ q, q < 2 * (k + 1) → own_stp g k (f k) q = own_u f q := fun q hq => by
  unfold own_stp
  by_cases e1 : q = 2 * k + 1
  · rw [if_pos e1]
    unfold own_u
    rw [if_neg (by omega), show q / 2 = k by omega]
  · rw [if_neg e1]
    by_cases e2 : q = 2 * k
    · rw [if_pos e2]
      unfold own_u
      rw [if_pos (by omega), show q / 2 = k by omega]
    · rw [if_neg e2]
      exact h q (by omega)
def own_QN (h0 : Heap) (v : Option Value) (h : Heap) (L : List Loc) : Prop := v = none ∧ L = [] ∧ h = h0
def own_QP (x : Int32) (h0 : Heap) (v : Option Value) (h : Heap) (L : List Loc) : Prop := v = some (.int x) ∧ L = [] ∧ h = h0
def own_QL (n : Nat) (h0 : Heap) (v : Option Value) (h : Heap) (L : List Loc) : Prop := ∃ r : Int32, v = some (.int r) ∧ r.toInt = n ∧ L = [] ∧ h = h0
def own_QPut (Z : State) (b : Addr) (mz : Nat) (g : Nat → Int32) (k : Nat) (c : Int32) (h0 : Heap) (n0 : Nat) (v : Option Value) (h : Heap) (L : List Loc) : Prop := v = none ∧ Fr n0 L ∧ Keep h0 h [b] ∧ own_AV Z h b .byte mz (fun q => .int (own_stp g k c q))
def own_QC5 (Z : State) (b : Addr) (n : Nat) (f : Nat → Int32) (h0 : Heap) (n0 : Nat) (v : Option Value) (h : Heap) (L : List Loc) : Prop := ∃ r : Int32, v = some (.int r) ∧ Fr n0 L ∧ Keep h0 h [b] ∧
  ((r.toInt = n ∧ (∀ i, i < n → ¬ 255 < f i) ∧ own_AV Z h b .byte n (fun i => .int (own_lo (f i)))) ∨ ∃ k, k < n ∧ r.toInt = k ∧ 255 < f k)
def own_QTB (Z : State) (n : Nat) (f : Nat → Int32) (h0 : Heap) (n0 : Nat) (v : Option Value) (h : Heap) (L : List Loc) : Prop := ∃ b : Addr, v = some (.ref b) ∧ Fr n0 L ∧ Keep h0 h [] ∧ own_AV Z h b .byte (2 * n) (fun i => .int (own_u f i))
def own_QNB (Z : State) (m : Nat) (h0 : Heap) (n0 : Nat) (v : Option Value) (h : Heap) (L : List Loc) : Prop := ∃ b : Addr, v = some (.ref b) ∧ Fr n0 L ∧ Ext h0 h ∧ h0.size ≤ b ∧ own_AV Z h b .byte m (fun _ => .int 0)
def own_QC3 (Z : State) (n : Nat) (f : Nat → Int32) (h0 : Heap) (n0 : Nat) (v : Option Value) (h : Heap) (L : List Loc) : Prop := ∃ b : Addr, v = some (.ref b) ∧ Fr n0 L ∧ Keep h0 h [] ∧
  (((∀ i, i < n → ¬ 255 < f i) ∧ own_AV Z h b .byte n (fun i => .int (own_lo (f i)))) ∨ own_AV Z h b .byte (2 * n) (fun i => .int (own_u f i)))
def own_QS (Z : State) (x : Addr) (n : Nat) (f : Nat → Int32) (h0 : Heap) (n0 : Nat) (v : Option Value) (h : Heap) (L : List Loc) : Prop := v = none ∧ Fr n0 L ∧ Keep h0 h [x] ∧ own_Str Z h x n f
theorem d1_0 : decode jdk_52_method_3_code 0 = .ok (.iload_n 0, 1) := by decide +kernel
theorem d1_1 : decode jdk_52_method_3_code 1 = .ok (.ifCond .ge 11, 3) := by decide +kernel
theorem d1_12 : decode jdk_52_method_3_code 12 = .ok (.iload_n 0, 1) := by decide +kernel
theorem d1_13 : decode jdk_52_method_3_code 13 = .ok (.ldc 20, 2) := by decide +kernel
theorem d1_15 : decode jdk_52_method_3_code 15 = .ok (.if_icmp .lt 40, 3) := by decide +kernel
theorem d1_55 : decode jdk_52_method_3_code 55 = .ok (.iload_n 0, 1) := by decide +kernel
theorem d1_56 : decode jdk_52_method_3_code 56 = .ok (.iconst 1, 1) := by decide +kernel
theorem d1_57 : decode jdk_52_method_3_code 57 = .ok (.ishl, 1) := by decide +kernel
theorem d1_58 : decode jdk_52_method_3_code 58 = .ok (.ireturn, 1) := by decide +kernel
theorem ef_rm_nbl (m : MethodId) (x0 : Int32) : entryFrame m #[(.int x0)] 1 = mkF m 0 #[.val (.int x0)] [] := by first | (simp [entryFrame, mkF, argsToLocals, Value.category]; done) | rfl
theorem pn_0 : plainName "java/lang/StringUTF16" = true := by first | (simp [plainName, overriddenIn]; done) | decide +kernel
set_option maxRecDepth 65536 in
set_option maxHeartbeats 40000000 in
theorem rm_nbl (l : Launch) (Z : State) (a0 : Array Value) (hw : ∀ d ∈ tables_1, d.before a0 Z = true) (ws : List Jvm.Cond)  (h0 : Heap)  :
    MetFree l (⟨"java/lang/StringUTF16", "newBytesLength", "(I)I"⟩ : MethodName) (head1 (Jvm.Cond.code (⟨"java/lang/StringUTF16", "newBytesLength", "(I)I"⟩ : MethodName) jdk_52_method_3_code 1 (some .int) :: ws) ({ frames := 0, cells := 0, slots := 0, locals := 0 } : Room)) (fun a U => a = #[(.int (4 : Int32))] ∧ Z.Warmed39 U.vm ∧ U.heap = h0) (fun _ _ _ _ _ => True) (fun _ U o U' => ∃ v L, o = .returned v ∧ own_QP 8 h0 v U'.heap L ∧ FrameEnd U o U' L ({ frames := 0, cells := 0, slots := 0, locals := 0 } : Room).cells ({ frames := 0, cells := 0, slots := 0, locals := 0 } : Room).slots) := by
  refine MetFree.of_bodySF (plainFor_of_name pn_0) hisR ?_
  intro p e s m args below meth c s₁ Bd hml0 hP hK
  obtain ⟨rfl, hZ, hh⟩ := hP
  have hx := Bd.exec
  have hby := Bd.bytes
  have hlk := Bd.notSynchronized
  have hret := Bd.returns
  have hml : c.maxLocals = 1 := hml0
  have hown : s.vm.findClass "java/lang/StringUTF16" = some m.cls := findClass_of_methodNamed Bd.named
  have hnm := (name_of_methodNamed Bd.named Bd.method).1
  have X0 : Stand p l e ({ frames := 0, cells := 0, slots := 0, locals := 0 } : Room) s m #[(.int (4 : Int32))] below meth c s₁ [] 0 0 := Stand.of_body Bd
  have e0 : s₁.heap = h0 := by rw [← hh, Bd.state]; rfl
  show own_Dn p e below (own_Ret s (own_QP 8 h0) ({ frames := 0, cells := 0, slots := 0, locals := 0 } : Room).cells ({ frames := 0, cells := 0, slots := 0, locals := 0 } : Room).slots) (s₁.setTop (entryFrame m #[(.int (4 : Int32))] 1))
  rw [ef_rm_nbl]
  refine own_st (B := (s₁.setTop (mkF m 1 #[.val (.int (4 : Int32))] [(.int (4 : Int32))]))) (fun _ zk => XS.iloadN X0.here hx rfl (hb hby d1_0) rfl zk) ?_
  refine own_st (B := (s₁.setTop (mkF m 12 #[.val (.int (4 : Int32))] []))) (fun _ zk => XS.ifYes X0.here hx rfl (pc0 := 1) (pc' := 12) rfl (hb hby d1_1) rfl ((if0 _ _).trans (flt (by decide)).2.1) (by decide) (by decide) zk) ?_
  refine own_st (B := (s₁.setTop (mkF m 13 #[.val (.int (4 : Int32))] [(.int (4 : Int32))]))) (fun _ zk => XS.iloadN X0.here hx rfl (hb hby d1_12) rfl zk) ?_
  refine own_st (B := (s₁.setTop (mkF m 15 #[.val (.int (4 : Int32))] [(.int (1073741823 : Int32)), (.int (4 : Int32))]))) (fun _ zk => X0.ldcInt hx hown (mvT hZ (hw _ (List.mem_of_getElem? (i := 74) rfl))) (g := (mkF m 13 #[.val (.int (4 : Int32))] [(.int (4 : Int32))])) rfl (hb hby d1_13) _ zk) ?_
  refine own_st (B := (s₁.setTop (mkF m 55 #[.val (.int (4 : Int32))] []))) (fun _ zk => XS.icmpYes X0.here hx rfl (pc0 := 15) (pc' := 55) rfl (hb hby d1_15) rfl (tlt (by decide)).1 (by decide) (by decide) zk) ?_
  refine own_st (B := (s₁.setTop (mkF m 56 #[.val (.int (4 : Int32))] [(.int (4 : Int32))]))) (fun _ zk => XS.iloadN X0.here hx rfl (hb hby d1_55) rfl zk) ?_
  refine own_st (B := (s₁.setTop (mkF m 57 #[.val (.int (4 : Int32))] [(.int (1 : Int32)), (.int (4 : Int32))]))) (fun _ zk => XS.iconst X0.here hx rfl (hb hby d1_56) zk) ?_
  refine own_st (B := (s₁.setTop (mkF m 58 #[.val (.int (4 : Int32))] [(.int ((4 : Int32) <<< ((1 : Int32) &&& 31)))]))) (fun _ zk => XS.ishl X0.here hx rfl (hb hby d1_57) rfl zk) ?_
  exact own_retI X0 hx hlk hret (hb hby d1_58) (by show own_QP 8 h0 _ s₁.heap _; rw [e0]; exact ⟨by decide, rfl, rfl⟩) (by decide) (by decide)
theorem d2_0 : decode jdk_52_method_2_code 0 = .ok (.iload_n 0, 1) := by decide +kernel
theorem pd_0 : parseMethodDescriptor "(I)I" = some ⟨[.int], some .int⟩ := by decide +kernel
theorem d2_1 : decode jdk_52_method_2_code 1 = .ok (.invokestatic 11, 3) := by decide +kernel
theorem d2_4 : decode jdk_52_method_2_code 4 = .ok (.newarray .byte, 2) := by decide +kernel
theorem d2_6 : decode jdk_52_method_2_code 6 = .ok (.areturn, 1) := by decide +kernel
theorem ef_rm_nbf (m : MethodId) (x0 : Int32) : entryFrame m #[(.int x0)] 1 = mkF m 0 #[.val (.int x0)] [] := by first | (simp [entryFrame, mkF, argsToLocals, Value.category]; done) | rfl
set_option maxRecDepth 65536 in
set_option maxHeartbeats 40000000 in
theorem rm_nbf (l : Launch) (Z : State) (a0 : Array Value) (hw : ∀ d ∈ tables_1, d.before a0 Z = true) (ws : List Jvm.Cond)  (h0 : Heap) (n0 : Nat) (Z0 : n0 ≤ h0.size)  :
    MetFree l (⟨"java/lang/StringUTF16", "newBytesFor", "(I)[B"⟩ : MethodName) (head1 (Jvm.Cond.code (⟨"java/lang/StringUTF16", "newBytesFor", "(I)[B"⟩ : MethodName) jdk_52_method_2_code 1 (some (.array .byte)) :: ws) ({ frames := 1, cells := 1, slots := 8, locals := 12 } : Room)) (fun a U => a = #[(.int (4 : Int32))] ∧ Z.Warmed39 U.vm ∧ U.heap = h0) (fun _ _ _ _ _ => True) (fun _ U o U' => ∃ v L, o = .returned v ∧ own_QNB Z 8 h0 n0 v U'.heap L ∧ FrameEnd U o U' L ({ frames := 1, cells := 1, slots := 8, locals := 12 } : Room).cells ({ frames := 1, cells := 1, slots := 8, locals := 12 } : Room).slots) := by
  refine MetFree.of_bodySF (plainFor_of_name pn_0) hisR ?_
  intro p e s m args below meth c s₁ Bd hml0 hP hK
  obtain ⟨rfl, hZ, hh⟩ := hP
  have hx := Bd.exec
  have hby := Bd.bytes
  have hlk := Bd.notSynchronized
  have hret := Bd.returns
  have hml : c.maxLocals = 1 := hml0
  have hown : s.vm.findClass "java/lang/StringUTF16" = some m.cls := findClass_of_methodNamed Bd.named
  have hnm := (name_of_methodNamed Bd.named Bd.method).1
  have X0 : Stand p l e ({ frames := 1, cells := 1, slots := 8, locals := 12 } : Room) s m #[(.int (4 : Int32))] below meth c s₁ [] 0 0 := Stand.of_body Bd
  have e0 : s₁.heap = h0 := by rw [← hh, Bd.state]; rfl
  have N0 := Fr.nil n0
  show own_Dn p e below (own_Ret s (own_QNB Z 8 h0 n0) ({ frames := 1, cells := 1, slots := 8, locals := 12 } : Room).cells ({ frames := 1, cells := 1, slots := 8, locals := 12 } : Room).slots) (s₁.setTop (entryFrame m #[(.int (4 : Int32))] 1))
  rw [ef_rm_nbf]
  refine own_st (B := (s₁.setTop (mkF m 1 #[.val (.int (4 : Int32))] [(.int (4 : Int32))]))) (fun _ zk => XS.iloadN X0.here hx rfl (hb hby d2_0) rfl zk) ?_
  obtain ⟨v1, T1, L1, X1, Q1, st1⟩ := own_callS (W := 0) X0 hx hZ (y := (⟨"java/lang/StringUTF16", "newBytesLength", "(I)I"⟩ : MethodName)) hown (hw _ (List.mem_of_getElem? (i := 71) rfl)) (hw _ (List.mem_of_getElem? (i := 72) rfl)) (hw _ (List.mem_of_getElem? (i := 22) rfl)) (hw _ (List.mem_of_getElem? (i := 73) rfl)) (by decide) e0 (rm_nbl l Z a0 hw [] h0) (g := (mkF m 1 #[.val (.int (4 : Int32))] [(.int (4 : Int32))])) rfl (by rw [hml]; rfl) (argsL := [(.int (4 : Int32))]) (rest := []) (lenOf pd_0 rfl) rfl rfl (by show 2 * 0 + _ ≤ _; exact Nat.le_of_eq rfl) (hb hby d2_1) (by decide) (by decide) (by decide) (by decide)
  obtain ⟨rfl, rfl, qe1⟩ := Q1
  refine own_st (B := (T1.setTop (mkF m 4 #[.val (.int (4 : Int32))] [(.int (8 : Int32))]))) st1 ?_
  have N1 := Fr.app N0 (Fr.nil n0)
  obtain ⟨T2, h2, k2, X2, e2, E2, A2, st2⟩ := newP X1 hx hZ (hw _ (List.mem_of_getElem? (i := 24) rfl)) qe1 (g := (mkF m 4 #[.val (.int (4 : Int32))] [(.int (8 : Int32))])) rfl (hb hby d2_4) rfl (by decide) (cap := 8) (by decide) (by decide) (by decide) (by decide)
  obtain ⟨b2, g2⟩ : ∃ z, z = h0.size := ⟨_, rfl⟩
  rw [← g2] at A2 st2
  have g_b2 : n0 ≤ b2 := Nat.le_trans Z0 (Nat.le_of_eq g2.symm)
  have Z2 : n0 ≤ h2.size := Nat.le_trans Z0 E2.1
  refine own_st (B := (T2.setTop (mkF m 6 #[.val (.int (4 : Int32))] [(.ref b2)]))) st2 ?_
  have V0 : own_AV Z h2 b2 .byte 8 (fun _ => .int 0) := own_AV.new A2 (by decide)
  exact own_retA X2 hx hlk hret rfl (hb hby d2_6) (by show own_QNB Z 8 h0 n0 _ T2.heap _; rw [e2]; exact ⟨b2, rfl, by simpa using N0, E2, Nat.le_of_eq g2.symm, V0⟩) (by decide) (by decide)
theorem d3_0 : decode jdk_52_method_4_code 0 = .ok (.getstatic 44, 3) := by decide +kernel
theorem d3_3 : decode jdk_52_method_4_code 3 = .ok (.ifCond .ne 25, 3) := by decide +kernel
theorem d3_28 : decode jdk_52_method_4_code 28 = .ok (.iload_n 1, 1) := by decide +kernel
theorem d3_29 : decode jdk_52_method_4_code 29 = .ok (.iconst 1, 1) := by decide +kernel
theorem d3_30 : decode jdk_52_method_4_code 30 = .ok (.ishl, 1) := by decide +kernel
theorem d3_31 : decode jdk_52_method_4_code 31 = .ok (.istore_n 1, 1) := by decide +kernel
theorem d3_32 : decode jdk_52_method_4_code 32 = .ok (.aload_n 0, 1) := by decide +kernel
theorem d3_33 : decode jdk_52_method_4_code 33 = .ok (.iload_n 1, 1) := by decide +kernel
theorem d3_34 : decode jdk_52_method_4_code 34 = .ok (.iinc 1 1, 3) := by decide +kernel
theorem d3_37 : decode jdk_52_method_4_code 37 = .ok (.iload_n 2, 1) := by decide +kernel
theorem d3_38 : decode jdk_52_method_4_code 38 = .ok (.getstatic 59, 3) := by decide +kernel
theorem d3_41 : decode jdk_52_method_4_code 41 = .ok (.ishr, 1) := by decide +kernel
theorem d3_42 : decode jdk_52_method_4_code 42 = .ok (.i2b, 1) := by decide +kernel
theorem d3_43 : decode jdk_52_method_4_code 43 = .ok (.bastore, 1) := by decide +kernel
theorem d3_44 : decode jdk_52_method_4_code 44 = .ok (.aload_n 0, 1) := by decide +kernel
theorem d3_45 : decode jdk_52_method_4_code 45 = .ok (.iload_n 1, 1) := by decide +kernel
theorem d3_46 : decode jdk_52_method_4_code 46 = .ok (.iload_n 2, 1) := by decide +kernel
theorem d3_47 : decode jdk_52_method_4_code 47 = .ok (.getstatic 63, 3) := by decide +kernel
theorem d3_50 : decode jdk_52_method_4_code 50 = .ok (.ishr, 1) := by decide +kernel
theorem d3_51 : decode jdk_52_method_4_code 51 = .ok (.i2b, 1) := by decide +kernel
theorem d3_52 : decode jdk_52_method_4_code 52 = .ok (.bastore, 1) := by decide +kernel
theorem d3_53 : decode jdk_52_method_4_code 53 = .ok (.return_, 1) := by decide +kernel
theorem ef_rm_put (m : MethodId) (x0 : Addr) (x1 : Int32) (x2 : Int32) : entryFrame m #[(.ref x0), (.int x1), (.int x2)] 3 = mkF m 0 #[.val (.ref x0), .val (.int x1), .val (.int x2)] [] := by first | (simp [entryFrame, mkF, argsToLocals, Value.category]; done) | rfl
set_option maxRecDepth 65536 in
set_option maxHeartbeats 40000000 in
theorem rm_put (l : Launch) (Z : State) (a0 : Array Value) (hw : ∀ d ∈ tables_1, d.before a0 Z = true) (ws : List Jvm.Cond) (a1 : Addr) (p2 p3 : Int32) (mz k : Nat) (g : Nat → Int32) (cs : Int32) (vG : Value) (h0 : Heap) (n0 : Nat) (Z0 : n0 ≤ h0.size) (ST : own_St Z cs vG) (hcs : ¬ cs = 0) (hG : vG.isRef = true) (O : Old Z n0 h0) (gb : n0 ≤ a1) (VB : own_AV Z h0 a1 .byte mz (fun q => .int (g q))) (hi : p2.toInt = k) (hk : 2 * k + 1 < mz) (hm : mz < 1000) :
    MetFree l (⟨"java/lang/StringUTF16", "putChar", "([BII)V"⟩ : MethodName) (head1 (Jvm.Cond.code (⟨"java/lang/StringUTF16", "putChar", "([BII)V"⟩ : MethodName) jdk_52_method_4_code 3 none :: ws) ({ frames := 0, cells := 0, slots := 0, locals := 0 } : Room)) (fun a U => a = #[(.ref a1), (.int p2), (.int p3)] ∧ Z.Warmed39 U.vm ∧ U.heap = h0) (fun _ _ _ _ _ => True) (fun _ U o U' => ∃ v L, o = .returned v ∧ own_QPut Z a1 mz g k p3 h0 n0 v U'.heap L ∧ FrameEnd U o U' L ({ frames := 0, cells := 0, slots := 0, locals := 0 } : Room).cells ({ frames := 0, cells := 0, slots := 0, locals := 0 } : Room).slots) := by
  refine MetFree.of_bodySF (plainFor_of_name pn_0) hisR ?_
  intro p e s m args below meth c s₁ Bd hml0 hP hK
  obtain ⟨rfl, hZ, hh⟩ := hP
  have hx := Bd.exec
  have hby := Bd.bytes
  have hlk := Bd.notSynchronized
  have hret := Bd.returns
  have hml : c.maxLocals = 3 := hml0
  have hown : s.vm.findClass "java/lang/StringUTF16" = some m.cls := findClass_of_methodNamed Bd.named
  have hnm := (name_of_methodNamed Bd.named Bd.method).1
  have X0 : Stand p l e ({ frames := 0, cells := 0, slots := 0, locals := 0 } : Room) s m #[(.ref a1), (.int p2), (.int p3)] below meth c s₁ [] 0 0 := Stand.of_body Bd
  have e0 : s₁.heap = h0 := by rw [← hh, Bd.state]; rfl
  have N0 := Fr.nil n0
  show own_Dn p e below (own_Ret s (own_QPut Z a1 mz g k p3 h0 n0) ({ frames := 0, cells := 0, slots := 0, locals := 0 } : Room).cells ({ frames := 0, cells := 0, slots := 0, locals := 0 } : Room).slots) (s₁.setTop (entryFrame m #[(.ref a1), (.int p2), (.int p3)] 3))
  rw [ef_rm_put]
  obtain ⟨T1, X1, e1, st1⟩ := getS2 X0 hx hZ hown (host := "") (Or.inl (hw _ (List.mem_of_getElem? (i := 78) rfl))) Via.refl e0 ((ST.2.2.1).ext O.2) (g := (mkF m 0 #[.val (.ref a1), .val (.int p2), .val (.int p3)] [])) rfl (hb hby d3_0)
  refine own_st (B := (T1.setTop (mkF m 3 #[.val (.ref a1), .val (.int p2), .val (.int p3)] [(.int (1 : Int32))]))) st1 ?_
  refine own_st (B := (T1.setTop (mkF m 28 #[.val (.ref a1), .val (.int p2), .val (.int p3)] []))) (fun _ zk => XS.ifYes X1.here hx rfl (pc0 := 3) (pc' := 28) rfl (hb hby d3_3) rfl ((if0 _ _).trans (feq (by decide)).2) (by decide) (by decide) zk) ?_
  refine own_st (B := (T1.setTop (mkF m 29 #[.val (.ref a1), .val (.int p2), .val (.int p3)] [(.int p2)]))) (fun _ zk => XS.iloadN X1.here hx rfl (hb hby d3_28) rfl zk) ?_
  refine own_st (B := (T1.setTop (mkF m 30 #[.val (.ref a1), .val (.int p2), .val (.int p3)] [(.int (1 : Int32)), (.int p2)]))) (fun _ zk => XS.iconst X1.here hx rfl (hb hby d3_29) zk) ?_
  refine own_st (B := (T1.setTop (mkF m 31 #[.val (.ref a1), .val (.int p2), .val (.int p3)] [(.int (p2 <<< ((1 : Int32) &&& 31)))]))) (fun _ zk => XS.ishl X1.here hx rfl (hb hby d3_30) rfl zk) ?_
  refine own_st (B := (T1.setTop (mkF m 32 #[.val (.ref a1), .val (.int (p2 <<< ((1 : Int32) &&& 31))), .val (.int p3)] []))) (fun _ zk => XS.istoreN X1.here hx rfl (hb hby d3_31) rfl (l' := #[.val (.ref a1), .val (.int (p2 <<< ((1 : Int32) &&& 31))), .val (.int p3)]) rfl zk) ?_
  refine own_st (B := (T1.setTop (mkF m 33 #[.val (.ref a1), .val (.int (p2 <<< ((1 : Int32) &&& 31))), .val (.int p3)] [(.ref a1)]))) (fun _ zk => XS.aloadN X1.here hx rfl (hb hby d3_32) rfl rfl zk) ?_
  refine own_st (B := (T1.setTop (mkF m 34 #[.val (.ref a1), .val (.int (p2 <<< ((1 : Int32) &&& 31))), .val (.int p3)] [(.int (p2 <<< ((1 : Int32) &&& 31))), (.ref a1)]))) (fun _ zk => XS.iloadN X1.here hx rfl (hb hby d3_33) rfl zk) ?_
  refine own_st (B := (T1.setTop (mkF m 37 #[.val (.ref a1), .val (.int ((p2 <<< ((1 : Int32) &&& 31)) + (1 : Int32))), .val (.int p3)] [(.int (p2 <<< ((1 : Int32) &&& 31))), (.ref a1)]))) (fun _ zk => XS.iinc X1.here hx rfl (hb hby d3_34) rfl (l' := #[.val (.ref a1), .val (.int ((p2 <<< ((1 : Int32) &&& 31)) + (1 : Int32))), .val (.int p3)]) rfl zk) ?_
  refine own_st (B := (T1.setTop (mkF m 38 #[.val (.ref a1), .val (.int ((p2 <<< ((1 : Int32) &&& 31)) + (1 : Int32))), .val (.int p3)] [(.int p3), (.int (p2 <<< ((1 : Int32) &&& 31))), (.ref a1)]))) (fun _ zk => XS.iloadN X1.here hx rfl (hb hby d3_37) rfl zk) ?_
  obtain ⟨T2, X2, e2, st2⟩ := getS2 X1 hx hZ hown (host := "") (Or.inl (hw _ (List.mem_of_getElem? (i := 79) rfl))) Via.refl e1 ((ST.2.2.2.1).ext O.2) (g := (mkF m 38 #[.val (.ref a1), .val (.int ((p2 <<< ((1 : Int32) &&& 31)) + (1 : Int32))), .val (.int p3)] [(.int p3), (.int (p2 <<< ((1 : Int32) &&& 31))), (.ref a1)])) rfl (hb hby d3_38)
  refine own_st (B := (T2.setTop (mkF m 41 #[.val (.ref a1), .val (.int ((p2 <<< ((1 : Int32) &&& 31)) + (1 : Int32))), .val (.int p3)] [(.int (0 : Int32)), (.int p3), (.int (p2 <<< ((1 : Int32) &&& 31))), (.ref a1)]))) st2 ?_
  refine own_st (B := (T2.setTop (mkF m 42 #[.val (.ref a1), .val (.int ((p2 <<< ((1 : Int32) &&& 31)) + (1 : Int32))), .val (.int p3)] [(.int (p3 >>> ((0 : Int32) &&& 31))), (.int (p2 <<< ((1 : Int32) &&& 31))), (.ref a1)]))) (fun _ zk => XS.ishr X2.here hx rfl (hb hby d3_41) rfl zk) ?_
  refine own_st (B := (T2.setTop (mkF m 43 #[.val (.ref a1), .val (.int ((p2 <<< ((1 : Int32) &&& 31)) + (1 : Int32))), .val (.int p3)] [(.int ((p3 >>> ((0 : Int32) &&& 31)).toInt8.toInt32)), (.int (p2 <<< ((1 : Int32) &&& 31))), (.ref a1)]))) (fun _ zk => XS.i2b X2.here hx rfl (hb hby d3_42) rfl zk) ?_
  have hd := own_dbl hi (by omega)
  obtain ⟨T3, h3, X3, e3, W3, V3, st3⟩ := own_stB X2 hx hZ e2 VB (i := (2 * k)) (own_i0 hd.1).1 (own_i0 hd.1).2 (by omega) (g := (mkF m 43 #[.val (.ref a1), .val (.int ((p2 <<< ((1 : Int32) &&& 31)) + (1 : Int32))), .val (.int p3)] [(.int ((p3 >>> ((0 : Int32) &&& 31)).toInt8.toInt32)), (.int (p2 <<< ((1 : Int32) &&& 31))), (.ref a1)])) rfl rfl (hb hby d3_43)
  refine own_st (B := (T3.setTop (mkF m 44 #[.val (.ref a1), .val (.int ((p2 <<< ((1 : Int32) &&& 31)) + (1 : Int32))), .val (.int p3)] []))) st3 ?_
  have N3 := Fr.snoc X3 N0 gb
  refine own_st (B := (T3.setTop (mkF m 45 #[.val (.ref a1), .val (.int ((p2 <<< ((1 : Int32) &&& 31)) + (1 : Int32))), .val (.int p3)] [(.ref a1)]))) (fun _ zk => XS.aloadN X3.here hx rfl (hb hby d3_44) rfl rfl zk) ?_
  refine own_st (B := (T3.setTop (mkF m 46 #[.val (.ref a1), .val (.int ((p2 <<< ((1 : Int32) &&& 31)) + (1 : Int32))), .val (.int p3)] [(.int ((p2 <<< ((1 : Int32) &&& 31)) + (1 : Int32))), (.ref a1)]))) (fun _ zk => XS.iloadN X3.here hx rfl (hb hby d3_45) rfl zk) ?_
  refine own_st (B := (T3.setTop (mkF m 47 #[.val (.ref a1), .val (.int ((p2 <<< ((1 : Int32) &&& 31)) + (1 : Int32))), .val (.int p3)] [(.int p3), (.int ((p2 <<< ((1 : Int32) &&& 31)) + (1 : Int32))), (.ref a1)]))) (fun _ zk => XS.iloadN X3.here hx rfl (hb hby d3_46) rfl zk) ?_
  obtain ⟨T4, X4, e4, st4⟩ := getS2 X3 hx hZ hown (host := "") (Or.inl (hw _ (List.mem_of_getElem? (i := 80) rfl))) Via.refl e3 ((ST.2.2.2.2).ext (O.wr W3 gb).2) (g := (mkF m 47 #[.val (.ref a1), .val (.int ((p2 <<< ((1 : Int32) &&& 31)) + (1 : Int32))), .val (.int p3)] [(.int p3), (.int ((p2 <<< ((1 : Int32) &&& 31)) + (1 : Int32))), (.ref a1)])) rfl (hb hby d3_47)
  refine own_st (B := (T4.setTop (mkF m 50 #[.val (.ref a1), .val (.int ((p2 <<< ((1 : Int32) &&& 31)) + (1 : Int32))), .val (.int p3)] [(.int (8 : Int32)), (.int p3), (.int ((p2 <<< ((1 : Int32) &&& 31)) + (1 : Int32))), (.ref a1)]))) st4 ?_
  refine own_st (B := (T4.setTop (mkF m 51 #[.val (.ref a1), .val (.int ((p2 <<< ((1 : Int32) &&& 31)) + (1 : Int32))), .val (.int p3)] [(.int (p3 >>> ((8 : Int32) &&& 31))), (.int ((p2 <<< ((1 : Int32) &&& 31)) + (1 : Int32))), (.ref a1)]))) (fun _ zk => XS.ishr X4.here hx rfl (hb hby d3_50) rfl zk) ?_
  refine own_st (B := (T4.setTop (mkF m 52 #[.val (.ref a1), .val (.int ((p2 <<< ((1 : Int32) &&& 31)) + (1 : Int32))), .val (.int p3)] [(.int ((p3 >>> ((8 : Int32) &&& 31)).toInt8.toInt32)), (.int ((p2 <<< ((1 : Int32) &&& 31)) + (1 : Int32))), (.ref a1)]))) (fun _ zk => XS.i2b X4.here hx rfl (hb hby d3_51) rfl zk) ?_
  obtain ⟨T5, h5, X5, e5, W5, V5, st5⟩ := own_stB X4 hx hZ e4 V3 (i := (2 * k + 1)) (own_i0 hd.2).1 (own_i0 hd.2).2 (by omega) (g := (mkF m 52 #[.val (.ref a1), .val (.int ((p2 <<< ((1 : Int32) &&& 31)) + (1 : Int32))), .val (.int p3)] [(.int ((p3 >>> ((8 : Int32) &&& 31)).toInt8.toInt32)), (.int ((p2 <<< ((1 : Int32) &&& 31)) + (1 : Int32))), (.ref a1)])) rfl rfl (hb hby d3_52)
  refine own_st (B := (T5.setTop (mkF m 53 #[.val (.ref a1), .val (.int ((p2 <<< ((1 : Int32) &&& 31)) + (1 : Int32))), .val (.int p3)] []))) st5 ?_
  have N5 := Fr.snoc X5 N3 gb
  have VN : own_AV Z h5 a1 .byte mz (fun q => .int (own_stp g k p3 q)) := V5.congr fun q hq => by
    show (if q = 2 * k + 1 then Value.int (nar .byte (own_hi p3)) else if q = 2 * k then Value.int (nar .byte ((p3 >>> ((0 : Int32) &&& 31)).toInt8.toInt32)) else Value.int (g q)) = Value.int (if q = 2 * k + 1 then own_hi p3 else if q = 2 * k then own_lo p3 else g q)
    rw [own_sh0, own_narb, own_narb]
    (repeat' split) <;> rfl
  exact own_retV X5 hx hlk hret (hb hby d3_53) (by show own_QPut Z a1 mz g k p3 h0 n0 _ T5.heap _; rw [e5]; exact ⟨rfl, N5, ((Keep.refl h0 [a1]).wr W3 (Or.inl (List.mem_of_getElem? (i := 0) rfl))).wr W5 (Or.inl (List.mem_of_getElem? (i := 0) rfl)), VN⟩) (by decide) (by decide)
theorem d4_0 : decode jdk_52_method_5_code 0 = .ok (.getstatic 44, 3) := by decide +kernel
theorem d4_3 : decode jdk_52_method_5_code 3 = .ok (.ifCond .ne 25, 3) := by decide +kernel
theorem d4_28 : decode jdk_52_method_5_code 28 = .ok (.iload_n 1, 1) := by decide +kernel
theorem d4_29 : decode jdk_52_method_5_code 29 = .ok (.iconst 1, 1) := by decide +kernel
theorem d4_30 : decode jdk_52_method_5_code 30 = .ok (.ishl, 1) := by decide +kernel
theorem d4_31 : decode jdk_52_method_5_code 31 = .ok (.istore_n 1, 1) := by decide +kernel
theorem d4_32 : decode jdk_52_method_5_code 32 = .ok (.aload_n 0, 1) := by decide +kernel
theorem d4_33 : decode jdk_52_method_5_code 33 = .ok (.iload_n 1, 1) := by decide +kernel
theorem d4_34 : decode jdk_52_method_5_code 34 = .ok (.iinc 1 1, 3) := by decide +kernel
theorem d4_37 : decode jdk_52_method_5_code 37 = .ok (.baload, 1) := by decide +kernel
theorem d4_38 : decode jdk_52_method_5_code 38 = .ok (.sipush 255, 3) := by decide +kernel
theorem d4_41 : decode jdk_52_method_5_code 41 = .ok (.iand, 1) := by decide +kernel
theorem d4_42 : decode jdk_52_method_5_code 42 = .ok (.getstatic 59, 3) := by decide +kernel
theorem d4_45 : decode jdk_52_method_5_code 45 = .ok (.ishl, 1) := by decide +kernel
theorem d4_46 : decode jdk_52_method_5_code 46 = .ok (.aload_n 0, 1) := by decide +kernel
theorem d4_47 : decode jdk_52_method_5_code 47 = .ok (.iload_n 1, 1) := by decide +kernel
theorem d4_48 : decode jdk_52_method_5_code 48 = .ok (.baload, 1) := by decide +kernel
theorem d4_49 : decode jdk_52_method_5_code 49 = .ok (.sipush 255, 3) := by decide +kernel
theorem d4_52 : decode jdk_52_method_5_code 52 = .ok (.iand, 1) := by decide +kernel
theorem d4_53 : decode jdk_52_method_5_code 53 = .ok (.getstatic 63, 3) := by decide +kernel
theorem d4_56 : decode jdk_52_method_5_code 56 = .ok (.ishl, 1) := by decide +kernel
theorem d4_57 : decode jdk_52_method_5_code 57 = .ok (.ior, 1) := by decide +kernel
theorem d4_58 : decode jdk_52_method_5_code 58 = .ok (.i2c, 1) := by decide +kernel
theorem d4_59 : decode jdk_52_method_5_code 59 = .ok (.ireturn, 1) := by decide +kernel
theorem ef_rm_get (m : MethodId) (x0 : Addr) (x1 : Int32) : entryFrame m #[(.ref x0), (.int x1)] 2 = mkF m 0 #[.val (.ref x0), .val (.int x1)] [] := by first | (simp [entryFrame, mkF, argsToLocals, Value.category]; done) | rfl
set_option maxRecDepth 65536 in
set_option maxHeartbeats 40000000 in
theorem rm_get (l : Launch) (Z : State) (a0 : Array Value) (hw : ∀ d ∈ tables_1, d.before a0 Z = true) (ws : List Jvm.Cond) (a1 : Addr) (p2 : Int32) (mz k : Nat) (g : Nat → Int32) (p3 : Int32) (cs : Int32) (vG : Value) (h0 : Heap) (n0 : Nat) (Z0 : n0 ≤ h0.size) (ST : own_St Z cs vG) (hcs : ¬ cs = 0) (hG : vG.isRef = true) (O : Old Z n0 h0) (VB : own_AV Z h0 a1 .byte mz (fun q => .int (g q))) (hi : p2.toInt = k) (hk : 2 * k + 1 < mz) (hm : mz < 1000) (hc : own_gc (g (2 * k)) (g (2 * k + 1)) = p3) :
    MetFree l (⟨"java/lang/StringUTF16", "getChar", "([BI)C"⟩ : MethodName) (head1 (Jvm.Cond.code (⟨"java/lang/StringUTF16", "getChar", "([BI)C"⟩ : MethodName) jdk_52_method_5_code 2 (some .char) :: ws) ({ frames := 0, cells := 0, slots := 0, locals := 0 } : Room)) (fun a U => a = #[(.ref a1), (.int p2)] ∧ Z.Warmed39 U.vm ∧ U.heap = h0) (fun _ _ _ _ _ => True) (fun _ U o U' => ∃ v L, o = .returned v ∧ own_QP p3 h0 v U'.heap L ∧ FrameEnd U o U' L ({ frames := 0, cells := 0, slots := 0, locals := 0 } : Room).cells ({ frames := 0, cells := 0, slots := 0, locals := 0 } : Room).slots) := by
  refine MetFree.of_bodySF (plainFor_of_name pn_0) hisR ?_
  intro p e s m args below meth c s₁ Bd hml0 hP hK
  obtain ⟨rfl, hZ, hh⟩ := hP
  have hx := Bd.exec
  have hby := Bd.bytes
  have hlk := Bd.notSynchronized
  have hret := Bd.returns
  have hml : c.maxLocals = 2 := hml0
  have hown : s.vm.findClass "java/lang/StringUTF16" = some m.cls := findClass_of_methodNamed Bd.named
  have hnm := (name_of_methodNamed Bd.named Bd.method).1
  have X0 : Stand p l e ({ frames := 0, cells := 0, slots := 0, locals := 0 } : Room) s m #[(.ref a1), (.int p2)] below meth c s₁ [] 0 0 := Stand.of_body Bd
  have e0 : s₁.heap = h0 := by rw [← hh, Bd.state]; rfl
  have N0 := Fr.nil n0
  show own_Dn p e below (own_Ret s (own_QP p3 h0) ({ frames := 0, cells := 0, slots := 0, locals := 0 } : Room).cells ({ frames := 0, cells := 0, slots := 0, locals := 0 } : Room).slots) (s₁.setTop (entryFrame m #[(.ref a1), (.int p2)] 2))
  rw [ef_rm_get]
  have hd := own_dbl hi (by omega)
  obtain ⟨T1, X1, e1, st1⟩ := getS2 X0 hx hZ hown (host := "") (Or.inl (hw _ (List.mem_of_getElem? (i := 78) rfl))) Via.refl e0 ((ST.2.2.1).ext O.2) (g := (mkF m 0 #[.val (.ref a1), .val (.int p2)] [])) rfl (hb hby d4_0)
  refine own_st (B := (T1.setTop (mkF m 3 #[.val (.ref a1), .val (.int p2)] [(.int (1 : Int32))]))) st1 ?_
  refine own_st (B := (T1.setTop (mkF m 28 #[.val (.ref a1), .val (.int p2)] []))) (fun _ zk => XS.ifYes X1.here hx rfl (pc0 := 3) (pc' := 28) rfl (hb hby d4_3) rfl ((if0 _ _).trans (feq (by decide)).2) (by decide) (by decide) zk) ?_
  refine own_st (B := (T1.setTop (mkF m 29 #[.val (.ref a1), .val (.int p2)] [(.int p2)]))) (fun _ zk => XS.iloadN X1.here hx rfl (hb hby d4_28) rfl zk) ?_
  refine own_st (B := (T1.setTop (mkF m 30 #[.val (.ref a1), .val (.int p2)] [(.int (1 : Int32)), (.int p2)]))) (fun _ zk => XS.iconst X1.here hx rfl (hb hby d4_29) zk) ?_
  refine own_st (B := (T1.setTop (mkF m 31 #[.val (.ref a1), .val (.int p2)] [(.int (p2 <<< ((1 : Int32) &&& 31)))]))) (fun _ zk => XS.ishl X1.here hx rfl (hb hby d4_30) rfl zk) ?_
  refine own_st (B := (T1.setTop (mkF m 32 #[.val (.ref a1), .val (.int (p2 <<< ((1 : Int32) &&& 31)))] []))) (fun _ zk => XS.istoreN X1.here hx rfl (hb hby d4_31) rfl (l' := #[.val (.ref a1), .val (.int (p2 <<< ((1 : Int32) &&& 31)))]) rfl zk) ?_
  refine own_st (B := (T1.setTop (mkF m 33 #[.val (.ref a1), .val (.int (p2 <<< ((1 : Int32) &&& 31)))] [(.ref a1)]))) (fun _ zk => XS.aloadN X1.here hx rfl (hb hby d4_32) rfl rfl zk) ?_
  refine own_st (B := (T1.setTop (mkF m 34 #[.val (.ref a1), .val (.int (p2 <<< ((1 : Int32) &&& 31)))] [(.int (p2 <<< ((1 : Int32) &&& 31))), (.ref a1)]))) (fun _ zk => XS.iloadN X1.here hx rfl (hb hby d4_33) rfl zk) ?_
  refine own_st (B := (T1.setTop (mkF m 37 #[.val (.ref a1), .val (.int ((p2 <<< ((1 : Int32) &&& 31)) + (1 : Int32)))] [(.int (p2 <<< ((1 : Int32) &&& 31))), (.ref a1)]))) (fun _ zk => XS.iinc X1.here hx rfl (hb hby d4_34) rfl (l' := #[.val (.ref a1), .val (.int ((p2 <<< ((1 : Int32) &&& 31)) + (1 : Int32)))]) rfl zk) ?_
  refine own_st (B := (T1.setTop (mkF m 38 #[.val (.ref a1), .val (.int ((p2 <<< ((1 : Int32) &&& 31)) + (1 : Int32)))] [(.int (g (2 * k)))]))) (fun _ zk => own_baload X1 hx hZ e1 VB (i := (2 * k)) (own_i0 hd.1).1 (own_i0 hd.1).2 (by omega) (g := (mkF m 37 #[.val (.ref a1), .val (.int ((p2 <<< ((1 : Int32) &&& 31)) + (1 : Int32)))] [(.int (p2 <<< ((1 : Int32) &&& 31))), (.ref a1)])) rfl rfl (hb hby d4_37) _ zk) ?_
  refine own_st (B := (T1.setTop (mkF m 41 #[.val (.ref a1), .val (.int ((p2 <<< ((1 : Int32) &&& 31)) + (1 : Int32)))] [(.int (255 : Int32)), (.int (g (2 * k)))]))) (fun _ zk => XS.sipush X1.here hx rfl (hb hby d4_38) zk) ?_
  refine own_st (B := (T1.setTop (mkF m 42 #[.val (.ref a1), .val (.int ((p2 <<< ((1 : Int32) &&& 31)) + (1 : Int32)))] [(.int ((g (2 * k)) &&& (255 : Int32)))]))) (fun _ zk => XS.iand X1.here hx rfl (hb hby d4_41) rfl zk) ?_
  obtain ⟨T2, X2, e2, st2⟩ := getS2 X1 hx hZ hown (host := "") (Or.inl (hw _ (List.mem_of_getElem? (i := 79) rfl))) Via.refl e1 ((ST.2.2.2.1).ext O.2) (g := (mkF m 42 #[.val (.ref a1), .val (.int ((p2 <<< ((1 : Int32) &&& 31)) + (1 : Int32)))] [(.int ((g (2 * k)) &&& (255 : Int32)))])) rfl (hb hby d4_42)
  refine own_st (B := (T2.setTop (mkF m 45 #[.val (.ref a1), .val (.int ((p2 <<< ((1 : Int32) &&& 31)) + (1 : Int32)))] [(.int (0 : Int32)), (.int ((g (2 * k)) &&& (255 : Int32)))]))) st2 ?_
  refine own_st (B := (T2.setTop (mkF m 46 #[.val (.ref a1), .val (.int ((p2 <<< ((1 : Int32) &&& 31)) + (1 : Int32)))] [(.int (((g (2 * k)) &&& (255 : Int32)) <<< ((0 : Int32) &&& 31)))]))) (fun _ zk => XS.ishl X2.here hx rfl (hb hby d4_45) rfl zk) ?_
  refine own_st (B := (T2.setTop (mkF m 47 #[.val (.ref a1), .val (.int ((p2 <<< ((1 : Int32) &&& 31)) + (1 : Int32)))] [(.ref a1), (.int (((g (2 * k)) &&& (255 : Int32)) <<< ((0 : Int32) &&& 31)))]))) (fun _ zk => XS.aloadN X2.here hx rfl (hb hby d4_46) rfl rfl zk) ?_
  refine own_st (B := (T2.setTop (mkF m 48 #[.val (.ref a1), .val (.int ((p2 <<< ((1 : Int32) &&& 31)) + (1 : Int32)))] [(.int ((p2 <<< ((1 : Int32) &&& 31)) + (1 : Int32))), (.ref a1), (.int (((g (2 * k)) &&& (255 : Int32)) <<< ((0 : Int32) &&& 31)))]))) (fun _ zk => XS.iloadN X2.here hx rfl (hb hby d4_47) rfl zk) ?_
  refine own_st (B := (T2.setTop (mkF m 49 #[.val (.ref a1), .val (.int ((p2 <<< ((1 : Int32) &&& 31)) + (1 : Int32)))] [(.int (g (2 * k + 1))), (.int (((g (2 * k)) &&& (255 : Int32)) <<< ((0 : Int32) &&& 31)))]))) (fun _ zk => own_baload X2 hx hZ e2 VB (i := (2 * k + 1)) (own_i0 hd.2).1 (own_i0 hd.2).2 (by omega) (g := (mkF m 48 #[.val (.ref a1), .val (.int ((p2 <<< ((1 : Int32) &&& 31)) + (1 : Int32)))] [(.int ((p2 <<< ((1 : Int32) &&& 31)) + (1 : Int32))), (.ref a1), (.int (((g (2 * k)) &&& (255 : Int32)) <<< ((0 : Int32) &&& 31)))])) rfl rfl (hb hby d4_48) _ zk) ?_
  refine own_st (B := (T2.setTop (mkF m 52 #[.val (.ref a1), .val (.int ((p2 <<< ((1 : Int32) &&& 31)) + (1 : Int32)))] [(.int (255 : Int32)), (.int (g (2 * k + 1))), (.int (((g (2 * k)) &&& (255 : Int32)) <<< ((0 : Int32) &&& 31)))]))) (fun _ zk => XS.sipush X2.here hx rfl (hb hby d4_49) zk) ?_
  refine own_st (B := (T2.setTop (mkF m 53 #[.val (.ref a1), .val (.int ((p2 <<< ((1 : Int32) &&& 31)) + (1 : Int32)))] [(.int ((g (2 * k + 1)) &&& (255 : Int32))), (.int (((g (2 * k)) &&& (255 : Int32)) <<< ((0 : Int32) &&& 31)))]))) (fun _ zk => XS.iand X2.here hx rfl (hb hby d4_52) rfl zk) ?_
  obtain ⟨T3, X3, e3, st3⟩ := getS2 X2 hx hZ hown (host := "") (Or.inl (hw _ (List.mem_of_getElem? (i := 80) rfl))) Via.refl e2 ((ST.2.2.2.2).ext O.2) (g := (mkF m 53 #[.val (.ref a1), .val (.int ((p2 <<< ((1 : Int32) &&& 31)) + (1 : Int32)))] [(.int ((g (2 * k + 1)) &&& (255 : Int32))), (.int (((g (2 * k)) &&& (255 : Int32)) <<< ((0 : Int32) &&& 31)))])) rfl (hb hby d4_53)
  refine own_st (B := (T3.setTop (mkF m 56 #[.val (.ref a1), .val (.int ((p2 <<< ((1 : Int32) &&& 31)) + (1 : Int32)))] [(.int (8 : Int32)), (.int ((g (2 * k + 1)) &&& (255 : Int32))), (.int (((g (2 * k)) &&& (255 : Int32)) <<< ((0 : Int32) &&& 31)))]))) st3 ?_
  refine own_st (B := (T3.setTop (mkF m 57 #[.val (.ref a1), .val (.int ((p2 <<< ((1 : Int32) &&& 31)) + (1 : Int32)))] [(.int (((g (2 * k + 1)) &&& (255 : Int32)) <<< ((8 : Int32) &&& 31))), (.int (((g (2 * k)) &&& (255 : Int32)) <<< ((0 : Int32) &&& 31)))]))) (fun _ zk => XS.ishl X3.here hx rfl (hb hby d4_56) rfl zk) ?_
  refine own_st (B := (T3.setTop (mkF m 58 #[.val (.ref a1), .val (.int ((p2 <<< ((1 : Int32) &&& 31)) + (1 : Int32)))] [(.int ((((g (2 * k)) &&& (255 : Int32)) <<< ((0 : Int32) &&& 31)) ||| (((g (2 * k + 1)) &&& (255 : Int32)) <<< ((8 : Int32) &&& 31))))]))) (fun _ zk => XS.ior X3.here hx rfl (hb hby d4_57) rfl zk) ?_
  refine own_st (B := (T3.setTop (mkF m 59 #[.val (.ref a1), .val (.int ((p2 <<< ((1 : Int32) &&& 31)) + (1 : Int32)))] [(.int (((((g (2 * k)) &&& (255 : Int32)) <<< ((0 : Int32) &&& 31)) ||| (((g (2 * k + 1)) &&& (255 : Int32)) <<< ((8 : Int32) &&& 31))).toUInt32.toUInt16.toUInt32.toInt32))]))) (fun _ zk => XS.i2c X3.here hx rfl (hb hby d4_58) rfl zk) ?_
  exact own_retN X3 hx hlk (t := .char) hret (by simp) (hb hby d4_59) (by show own_QP p3 h0 _ T3.heap _; rw [e3]; exact ⟨congrArg (fun z => some (Value.int z)) hc, rfl, rfl⟩) (by decide) (by decide)
theorem d5_0 : decode jdk_52_method_14_code 0 = .ok (.iload_n 2, 1) := by decide +kernel
theorem pd_1 : parseMethodDescriptor "(I)[B" = some ⟨[.int], some (.array .byte)⟩ := by decide +kernel
theorem d5_1 : decode jdk_52_method_14_code 1 = .ok (.invokestatic 107, 3) := by decide +kernel
theorem d5_4 : decode jdk_52_method_14_code 4 = .ok (.astore_n 3, 1) := by decide +kernel
theorem d5_5 : decode jdk_52_method_14_code 5 = .ok (.iconst 0, 1) := by decide +kernel
theorem d5_6 : decode jdk_52_method_14_code 6 = .ok (.istore 4, 2) := by decide +kernel
theorem d5_8 : decode jdk_52_method_14_code 8 = .ok (.iload 4, 2) := by decide +kernel
theorem d5_10 : decode jdk_52_method_14_code 10 = .ok (.iload_n 2, 1) := by decide +kernel
theorem d5_11 : decode jdk_52_method_14_code 11 = .ok (.if_icmp .ge 21, 3) := by decide +kernel
theorem d5_14 : decode jdk_52_method_14_code 14 = .ok (.aload_n 3, 1) := by decide +kernel
theorem d5_15 : decode jdk_52_method_14_code 15 = .ok (.iload 4, 2) := by decide +kernel
theorem d5_17 : decode jdk_52_method_14_code 17 = .ok (.aload_n 0, 1) := by decide +kernel
theorem d5_18 : decode jdk_52_method_14_code 18 = .ok (.iload_n 1, 1) := by decide +kernel
theorem d5_19 : decode jdk_52_method_14_code 19 = .ok (.caload, 1) := by decide +kernel
theorem pd_2 : parseMethodDescriptor "([BII)V" = some ⟨[(.array .byte), .int, .int], none⟩ := by decide +kernel
theorem d5_20 : decode jdk_52_method_14_code 20 = .ok (.invokestatic 111, 3) := by decide +kernel
theorem d5_23 : decode jdk_52_method_14_code 23 = .ok (.iinc 1 1, 3) := by decide +kernel
theorem d5_26 : decode jdk_52_method_14_code 26 = .ok (.iinc 4 1, 3) := by decide +kernel
theorem d5_29 : decode jdk_52_method_14_code 29 = .ok (.goto (-21), 3) := by decide +kernel
theorem d5_32 : decode jdk_52_method_14_code 32 = .ok (.aload_n 3, 1) := by decide +kernel
theorem d5_33 : decode jdk_52_method_14_code 33 = .ok (.areturn, 1) := by decide +kernel
theorem ef_rm_tob (m : MethodId) (x0 : Addr) (x1 : Int32) (x2 : Int32) : entryFrame m #[(.ref x0), (.int x1), (.int x2)] 5 = mkF m 0 #[.val (.ref x0), .val (.int x1), .val (.int x2), .unset, .unset] [] := by first | (simp [entryFrame, mkF, argsToLocals, Value.category]; done) | rfl
set_option maxRecDepth 65536 in
set_option maxHeartbeats 40000000 in
theorem rm_tob (l : Launch) (Z : State) (a0 : Array Value) (hw : ∀ d ∈ tables_1, d.before a0 Z = true) (ws : List Jvm.Cond) (a1 : Addr) (f : Nat → Int32) (cs : Int32) (vG : Value) (h0 : Heap) (n0 : Nat) (Z0 : n0 ≤ h0.size) (ST : own_St Z cs vG) (hcs : ¬ cs = 0) (hG : vG.isRef = true) (O : Old Z n0 h0) (VA : own_AV Z h0 a1 .char 4 (fun i => .int (f i))) :
    MetFree l (⟨"java/lang/StringUTF16", "toBytes", "([CII)[B"⟩ : MethodName) (head1 (Jvm.Cond.code (⟨"java/lang/StringUTF16", "toBytes", "([CII)[B"⟩ : MethodName) jdk_52_method_14_code 5 (some (.array .byte)) :: ws) ({ frames := 2, cells := 1, slots := 8, locals := 24 } : Room)) (fun a U => a = #[(.ref a1), (.int (0 : Int32)), (.int (4 : Int32))] ∧ Z.Warmed39 U.vm ∧ U.heap = h0) (fun _ _ _ _ _ => True) (fun _ U o U' => ∃ v L, o = .returned v ∧ own_QTB Z 4 f h0 n0 v U'.heap L ∧ FrameEnd U o U' L ({ frames := 2, cells := 1, slots := 8, locals := 24 } : Room).cells ({ frames := 2, cells := 1, slots := 8, locals := 24 } : Room).slots) := by
  refine MetFree.of_bodySF (plainFor_of_name pn_0) hisR ?_
  intro p e s m args below meth c s₁ Bd hml0 hP hK
  obtain ⟨rfl, hZ, hh⟩ := hP
  have hx := Bd.exec
  have hby := Bd.bytes
  have hlk := Bd.notSynchronized
  have hret := Bd.returns
  have hml : c.maxLocals = 5 := hml0
  have hown : s.vm.findClass "java/lang/StringUTF16" = some m.cls := findClass_of_methodNamed Bd.named
  have hnm := (name_of_methodNamed Bd.named Bd.method).1
  have X0 : Stand p l e ({ frames := 2, cells := 1, slots := 8, locals := 24 } : Room) s m #[(.ref a1), (.int (0 : Int32)), (.int (4 : Int32))] below meth c s₁ [] 0 0 := Stand.of_body Bd
  have e0 : s₁.heap = h0 := by rw [← hh, Bd.state]; rfl
  have N0 := Fr.nil n0
  show own_Dn p e below (own_Ret s (own_QTB Z 4 f h0 n0) ({ frames := 2, cells := 1, slots := 8, locals := 24 } : Room).cells ({ frames := 2, cells := 1, slots := 8, locals := 24 } : Room).slots) (s₁.setTop (entryFrame m #[(.ref a1), (.int (0 : Int32)), (.int (4 : Int32))] 5))
  rw [ef_rm_tob]
  refine own_st (B := (s₁.setTop (mkF m 1 #[.val (.ref a1), .val (.int (0 : Int32)), .val (.int (4 : Int32)), .unset, .unset] [(.int (4 : Int32))]))) (fun _ zk => XS.iloadN X0.here hx rfl (hb hby d5_0) rfl zk) ?_
  obtain ⟨v1, T1, L1, X1, Q1, st1⟩ := own_callS (W := 0) X0 hx hZ (y := (⟨"java/lang/StringUTF16", "newBytesFor", "(I)[B"⟩ : MethodName)) hown (hw _ (List.mem_of_getElem? (i := 68) rfl)) (hw _ (List.mem_of_getElem? (i := 69) rfl)) (hw _ (List.mem_of_getElem? (i := 22) rfl)) (hw _ (List.mem_of_getElem? (i := 70) rfl)) (by decide) e0 (rm_nbf l Z a0 hw [] h0 n0 Z0) (g := (mkF m 1 #[.val (.ref a1), .val (.int (0 : Int32)), .val (.int (4 : Int32)), .unset, .unset] [(.int (4 : Int32))])) rfl (by rw [hml]; rfl) (argsL := [(.int (4 : Int32))]) (rest := []) (lenOf pd_1 rfl) rfl rfl (by show 2 * 0 + _ ≤ _; exact Nat.le_of_eq rfl) (hb hby d5_1) (by decide) (by decide) (by decide) (by decide)
  obtain ⟨bb, rfl, N1q, E1, gb', V1⟩ := Q1
  refine own_st (B := (T1.setTop (mkF m 4 #[.val (.ref a1), .val (.int (0 : Int32)), .val (.int (4 : Int32)), .unset, .unset] [(.ref bb)]))) st1 ?_
  have N1 := Fr.app N0 N1q
  have gb : n0 ≤ bb := Nat.le_trans Z0 gb'
  have O1 := O.ext E1
  have ZK : n0 ≤ T1.heap.size := Nat.le_trans Z0 E1.1
  have nab : a1 ∉ [bb] := ninS (Nat.ne_of_lt (Nat.lt_of_lt_of_le VA.lt gb')) nin0
  have hg0 : ∀ q, q < 2 * 0 → (fun _ => (0 : Int32)) q = own_u f q := fun q hq => absurd hq (by omega)
  refine own_st (B := (T1.setTop (mkF m 5 #[.val (.ref a1), .val (.int (0 : Int32)), .val (.int (4 : Int32)), .val (.ref bb), .unset] []))) (fun _ zk => XS.astoreN X1.here hx rfl (hb hby d5_4) rfl rfl (l' := #[.val (.ref a1), .val (.int (0 : Int32)), .val (.int (4 : Int32)), .val (.ref bb), .unset]) rfl zk) ?_
  refine own_st (B := (T1.setTop (mkF m 6 #[.val (.ref a1), .val (.int (0 : Int32)), .val (.int (4 : Int32)), .val (.ref bb), .unset] [(.int (0 : Int32))]))) (fun _ zk => XS.iconst X1.here hx rfl (hb hby d5_5) zk) ?_
  refine own_st (B := (T1.setTop (mkF m 8 #[.val (.ref a1), .val (.int (0 : Int32)), .val (.int (4 : Int32)), .val (.ref bb), .val (.int (0 : Int32))] []))) (fun _ zk => XS.istore X1.here hx rfl (hb hby d5_6) rfl (l' := #[.val (.ref a1), .val (.int (0 : Int32)), .val (.int (4 : Int32)), .val (.ref bb), .val (.int (0 : Int32))]) rfl zk) ?_
  refine own_st (B := (T1.setTop (mkF m 10 #[.val (.ref a1), .val (.int (0 : Int32)), .val (.int (4 : Int32)), .val (.ref bb), .val (.int (0 : Int32))] [(.int (0 : Int32))]))) (fun _ zk => XS.iload X1.here hx rfl (hb hby d5_8) rfl zk) ?_
  refine own_st (B := (T1.setTop (mkF m 11 #[.val (.ref a1), .val (.int (0 : Int32)), .val (.int (4 : Int32)), .val (.ref bb), .val (.int (0 : Int32))] [(.int (4 : Int32)), (.int (0 : Int32))]))) (fun _ zk => XS.iloadN X1.here hx rfl (hb hby d5_10) rfl zk) ?_
  refine own_st (B := (T1.setTop (mkF m 14 #[.val (.ref a1), .val (.int (0 : Int32)), .val (.int (4 : Int32)), .val (.ref bb), .val (.int (0 : Int32))] []))) (fun _ zk => XS.icmpNo X1.here hx rfl (hb hby d5_11) rfl (tlt (by decide)).2.1 zk) ?_
  refine own_st (B := (T1.setTop (mkF m 15 #[.val (.ref a1), .val (.int (0 : Int32)), .val (.int (4 : Int32)), .val (.ref bb), .val (.int (0 : Int32))] [(.ref bb)]))) (fun _ zk => XS.aloadN X1.here hx rfl (hb hby d5_14) rfl rfl zk) ?_
  refine own_st (B := (T1.setTop (mkF m 17 #[.val (.ref a1), .val (.int (0 : Int32)), .val (.int (4 : Int32)), .val (.ref bb), .val (.int (0 : Int32))] [(.int (0 : Int32)), (.ref bb)]))) (fun _ zk => XS.iload X1.here hx rfl (hb hby d5_15) rfl zk) ?_
  refine own_st (B := (T1.setTop (mkF m 18 #[.val (.ref a1), .val (.int (0 : Int32)), .val (.int (4 : Int32)), .val (.ref bb), .val (.int (0 : Int32))] [(.ref a1), (.int (0 : Int32)), (.ref bb)]))) (fun _ zk => XS.aloadN X1.here hx rfl (hb hby d5_17) rfl rfl zk) ?_
  refine own_st (B := (T1.setTop (mkF m 19 #[.val (.ref a1), .val (.int (0 : Int32)), .val (.int (4 : Int32)), .val (.ref bb), .val (.int (0 : Int32))] [(.int (0 : Int32)), (.ref a1), (.int (0 : Int32)), (.ref bb)]))) (fun _ zk => XS.iloadN X1.here hx rfl (hb hby d5_18) rfl zk) ?_
  refine own_st (B := (T1.setTop (mkF m 20 #[.val (.ref a1), .val (.int (0 : Int32)), .val (.int (4 : Int32)), .val (.ref bb), .val (.int (0 : Int32))] [(.int (f 0)), (.int (0 : Int32)), (.ref bb)]))) (fun _ zk => own_caload X1 hx hZ rfl (VA.ext E1) (i := 0) (by decide) (by decide) (by decide) (g := (mkF m 19 #[.val (.ref a1), .val (.int (0 : Int32)), .val (.int (4 : Int32)), .val (.ref bb), .val (.int (0 : Int32))] [(.int (0 : Int32)), (.ref a1), (.int (0 : Int32)), (.ref bb)])) rfl rfl (hb hby d5_19) _ zk) ?_
  obtain ⟨v2, T2, L2, X2, Q2, st2⟩ := own_callS (W := 0) X1 hx hZ (y := (⟨"java/lang/StringUTF16", "putChar", "([BII)V"⟩ : MethodName)) hown (hw _ (List.mem_of_getElem? (i := 75) rfl)) (hw _ (List.mem_of_getElem? (i := 76) rfl)) (hw _ (List.mem_of_getElem? (i := 22) rfl)) (hw _ (List.mem_of_getElem? (i := 77) rfl)) (by decide) rfl (rm_put l Z a0 hw [] bb 0 (f 0) 8 0 (fun _ => (0 : Int32)) cs vG T1.heap n0 ZK ST hcs hG O1 gb V1 (by decide) (by decide) (by decide)) (g := (mkF m 20 #[.val (.ref a1), .val (.int (0 : Int32)), .val (.int (4 : Int32)), .val (.ref bb), .val (.int (0 : Int32))] [(.int (f 0)), (.int (0 : Int32)), (.ref bb)])) rfl (by rw [hml]; rfl) (argsL := [(.ref bb), (.int (0 : Int32)), (.int (f 0))]) (rest := []) (lenOf pd_2 rfl) rfl rfl (by show 2 * 0 + _ ≤ _; exact Nat.le_of_eq rfl) (hb hby d5_20) (by decide) (by decide) (by decide) (by decide)
  obtain ⟨rfl, N2q, K2, V2⟩ := Q2
  refine own_st (B := (T2.setTop (mkF m 23 #[.val (.ref a1), .val (.int (0 : Int32)), .val (.int (4 : Int32)), .val (.ref bb), .val (.int (0 : Int32))] []))) st2 ?_
  have N2 := Fr.app N1 N2q
  have O2 := O1.keep K2 (allS gb all0)
  have VC2 := (VA.ext E1).keep K2 nab
  have KK2 : Keep h0 T2.heap [] := ((Keep.refl h0 []).ext E1).trans K2 (fun y hy => Or.inr (by rw [List.mem_singleton.mp hy]; exact gb'))
  have ZK2 : n0 ≤ T2.heap.size := Nat.le_trans ZK K2.1
  have hg1 : ∀ q, q < 2 * (0 + 1) → own_stp (fun _ => (0 : Int32)) 0 (f 0) q = own_u f q := own_stp_u hg0
  refine own_st (B := (T2.setTop (mkF m 26 #[.val (.ref a1), .val (.int (1 : Int32)), .val (.int (4 : Int32)), .val (.ref bb), .val (.int (0 : Int32))] []))) (fun _ zk => XS.iinc X2.here hx rfl (hb hby d5_23) rfl (l' := #[.val (.ref a1), .val (.int (1 : Int32)), .val (.int (4 : Int32)), .val (.ref bb), .val (.int (0 : Int32))]) rfl zk) ?_
  refine own_st (B := (T2.setTop (mkF m 29 #[.val (.ref a1), .val (.int (1 : Int32)), .val (.int (4 : Int32)), .val (.ref bb), .val (.int (1 : Int32))] []))) (fun _ zk => XS.iinc X2.here hx rfl (hb hby d5_26) rfl (l' := #[.val (.ref a1), .val (.int (1 : Int32)), .val (.int (4 : Int32)), .val (.ref bb), .val (.int (1 : Int32))]) rfl zk) ?_
  refine own_st (B := (T2.setTop (mkF m 8 #[.val (.ref a1), .val (.int (1 : Int32)), .val (.int (4 : Int32)), .val (.ref bb), .val (.int (1 : Int32))] []))) (fun _ zk => XS.goto X2.here hx rfl (pc0 := 29) (pc' := 8) rfl (hb hby d5_29) (by decide) (by decide) zk) ?_
  refine own_st (B := (T2.setTop (mkF m 10 #[.val (.ref a1), .val (.int (1 : Int32)), .val (.int (4 : Int32)), .val (.ref bb), .val (.int (1 : Int32))] [(.int (1 : Int32))]))) (fun _ zk => XS.iload X2.here hx rfl (hb hby d5_8) rfl zk) ?_
  refine own_st (B := (T2.setTop (mkF m 11 #[.val (.ref a1), .val (.int (1 : Int32)), .val (.int (4 : Int32)), .val (.ref bb), .val (.int (1 : Int32))] [(.int (4 : Int32)), (.int (1 : Int32))]))) (fun _ zk => XS.iloadN X2.here hx rfl (hb hby d5_10) rfl zk) ?_
  refine own_st (B := (T2.setTop (mkF m 14 #[.val (.ref a1), .val (.int (1 : Int32)), .val (.int (4 : Int32)), .val (.ref bb), .val (.int (1 : Int32))] []))) (fun _ zk => XS.icmpNo X2.here hx rfl (hb hby d5_11) rfl (tlt (by decide)).2.1 zk) ?_
  refine own_st (B := (T2.setTop (mkF m 15 #[.val (.ref a1), .val (.int (1 : Int32)), .val (.int (4 : Int32)), .val (.ref bb), .val (.int (1 : Int32))] [(.ref bb)]))) (fun _ zk => XS.aloadN X2.here hx rfl (hb hby d5_14) rfl rfl zk) ?_
  refine own_st (B := (T2.setTop (mkF m 17 #[.val (.ref a1), .val (.int (1 : Int32)), .val (.int (4 : Int32)), .val (.ref bb), .val (.int (1 : Int32))] [(.int (1 : Int32)), (.ref bb)]))) (fun _ zk => XS.iload X2.here hx rfl (hb hby d5_15) rfl zk) ?_
  refine own_st (B := (T2.setTop (mkF m 18 #[.val (.ref a1), .val (.int (1 : Int32)), .val (.int (4 : Int32)), .val (.ref bb), .val (.int (1 : Int32))] [(.ref a1), (.int (1 : Int32)), (.ref bb)]))) (fun _ zk => XS.aloadN X2.here hx rfl (hb hby d5_17) rfl rfl zk) ?_
  refine own_st (B := (T2.setTop (mkF m 19 #[.val (.ref a1), .val (.int (1 : Int32)), .val (.int (4 : Int32)), .val (.ref bb), .val (.int (1 : Int32))] [(.int (1 : Int32)), (.ref a1), (.int (1 : Int32)), (.ref bb)]))) (fun _ zk => XS.iloadN X2.here hx rfl (hb hby d5_18) rfl zk) ?_
  refine own_st (B := (T2.setTop (mkF m 20 #[.val (.ref a1), .val (.int (1 : Int32)), .val (.int (4 : Int32)), .val (.ref bb), .val (.int (1 : Int32))] [(.int (f 1)), (.int (1 : Int32)), (.ref bb)]))) (fun _ zk => own_caload X2 hx hZ rfl VC2 (i := 1) (by decide) (by decide) (by decide) (g := (mkF m 19 #[.val (.ref a1), .val (.int (1 : Int32)), .val (.int (4 : Int32)), .val (.ref bb), .val (.int (1 : Int32))] [(.int (1 : Int32)), (.ref a1), (.int (1 : Int32)), (.ref bb)])) rfl rfl (hb hby d5_19) _ zk) ?_
  obtain ⟨v3, T3, L3, X3, Q3, st3⟩ := own_callS (W := 0) X2 hx hZ (y := (⟨"java/lang/StringUTF16", "putChar", "([BII)V"⟩ : MethodName)) hown (hw _ (List.mem_of_getElem? (i := 75) rfl)) (hw _ (List.mem_of_getElem? (i := 76) rfl)) (hw _ (List.mem_of_getElem? (i := 22) rfl)) (hw _ (List.mem_of_getElem? (i := 77) rfl)) (by decide) rfl (rm_put l Z a0 hw [] bb 1 (f 1) 8 1 (own_stp (fun _ => (0 : Int32)) 0 (f 0)) cs vG T2.heap n0 ZK2 ST hcs hG O2 gb V2 (by decide) (by decide) (by decide)) (g := (mkF m 20 #[.val (.ref a1), .val (.int (1 : Int32)), .val (.int (4 : Int32)), .val (.ref bb), .val (.int (1 : Int32))] [(.int (f 1)), (.int (1 : Int32)), (.ref bb)])) rfl (by rw [hml]; rfl) (argsL := [(.ref bb), (.int (1 : Int32)), (.int (f 1))]) (rest := []) (lenOf pd_2 rfl) rfl rfl (by show 2 * 0 + _ ≤ _; exact Nat.le_of_eq rfl) (hb hby d5_20) (by decide) (by decide) (by decide) (by decide)
  obtain ⟨rfl, N3q, K3, V3⟩ := Q3
  refine own_st (B := (T3.setTop (mkF m 23 #[.val (.ref a1), .val (.int (1 : Int32)), .val (.int (4 : Int32)), .val (.ref bb), .val (.int (1 : Int32))] []))) st3 ?_
  have N3 := Fr.app N2 N3q
  have O3 := O2.keep K3 (allS gb all0)
  have VC3 := VC2.keep K3 nab
  have KK3 : Keep h0 T3.heap [] := KK2.trans K3 (fun y hy => Or.inr (by rw [List.mem_singleton.mp hy]; exact gb'))
  have ZK3 : n0 ≤ T3.heap.size := Nat.le_trans ZK2 K3.1
  have hg2 : ∀ q, q < 2 * (1 + 1) → own_stp (own_stp (fun _ => (0 : Int32)) 0 (f 0)) 1 (f 1) q = own_u f q := own_stp_u hg1
  refine own_st (B := (T3.setTop (mkF m 26 #[.val (.ref a1), .val (.int (2 : Int32)), .val (.int (4 : Int32)), .val (.ref bb), .val (.int (1 : Int32))] []))) (fun _ zk => XS.iinc X3.here hx rfl (hb hby d5_23) rfl (l' := #[.val (.ref a1), .val (.int (2 : Int32)), .val (.int (4 : Int32)), .val (.ref bb), .val (.int (1 : Int32))]) rfl zk) ?_
  refine own_st (B := (T3.setTop (mkF m 29 #[.val (.ref a1), .val (.int (2 : Int32)), .val (.int (4 : Int32)), .val (.ref bb), .val (.int (2 : Int32))] []))) (fun _ zk => XS.iinc X3.here hx rfl (hb hby d5_26) rfl (l' := #[.val (.ref a1), .val (.int (2 : Int32)), .val (.int (4 : Int32)), .val (.ref bb), .val (.int (2 : Int32))]) rfl zk) ?_
  refine own_st (B := (T3.setTop (mkF m 8 #[.val (.ref a1), .val (.int (2 : Int32)), .val (.int (4 : Int32)), .val (.ref bb), .val (.int (2 : Int32))] []))) (fun _ zk => XS.goto X3.here hx rfl (pc0 := 29) (pc' := 8) rfl (hb hby d5_29) (by decide) (by decide) zk) ?_
  refine own_st (B := (T3.setTop (mkF m 10 #[.val (.ref a1), .val (.int (2 : Int32)), .val (.int (4 : Int32)), .val (.ref bb), .val (.int (2 : Int32))] [(.int (2 : Int32))]))) (fun _ zk => XS.iload X3.here hx rfl (hb hby d5_8) rfl zk) ?_
  refine own_st (B := (T3.setTop (mkF m 11 #[.val (.ref a1), .val (.int (2 : Int32)), .val (.int (4 : Int32)), .val (.ref bb), .val (.int (2 : Int32))] [(.int (4 : Int32)), (.int (2 : Int32))]))) (fun _ zk => XS.iloadN X3.here hx rfl (hb hby d5_10) rfl zk) ?_
  refine own_st (B := (T3.setTop (mkF m 14 #[.val (.ref a1), .val (.int (2 : Int32)), .val (.int (4 : Int32)), .val (.ref bb), .val (.int (2 : Int32))] []))) (fun _ zk => XS.icmpNo X3.here hx rfl (hb hby d5_11) rfl (tlt (by decide)).2.1 zk) ?_
  refine own_st (B := (T3.setTop (mkF m 15 #[.val (.ref a1), .val (.int (2 : Int32)), .val (.int (4 : Int32)), .val (.ref bb), .val (.int (2 : Int32))] [(.ref bb)]))) (fun _ zk => XS.aloadN X3.here hx rfl (hb hby d5_14) rfl rfl zk) ?_
  refine own_st (B := (T3.setTop (mkF m 17 #[.val (.ref a1), .val (.int (2 : Int32)), .val (.int (4 : Int32)), .val (.ref bb), .val (.int (2 : Int32))] [(.int (2 : Int32)), (.ref bb)]))) (fun _ zk => XS.iload X3.here hx rfl (hb hby d5_15) rfl zk) ?_
  refine own_st (B := (T3.setTop (mkF m 18 #[.val (.ref a1), .val (.int (2 : Int32)), .val (.int (4 : Int32)), .val (.ref bb), .val (.int (2 : Int32))] [(.ref a1), (.int (2 : Int32)), (.ref bb)]))) (fun _ zk => XS.aloadN X3.here hx rfl (hb hby d5_17) rfl rfl zk) ?_
  refine own_st (B := (T3.setTop (mkF m 19 #[.val (.ref a1), .val (.int (2 : Int32)), .val (.int (4 : Int32)), .val (.ref bb), .val (.int (2 : Int32))] [(.int (2 : Int32)), (.ref a1), (.int (2 : Int32)), (.ref bb)]))) (fun _ zk => XS.iloadN X3.here hx rfl (hb hby d5_18) rfl zk) ?_
  refine own_st (B := (T3.setTop (mkF m 20 #[.val (.ref a1), .val (.int (2 : Int32)), .val (.int (4 : Int32)), .val (.ref bb), .val (.int (2 : Int32))] [(.int (f 2)), (.int (2 : Int32)), (.ref bb)]))) (fun _ zk => own_caload X3 hx hZ rfl VC3 (i := 2) (by decide) (by decide) (by decide) (g := (mkF m 19 #[.val (.ref a1), .val (.int (2 : Int32)), .val (.int (4 : Int32)), .val (.ref bb), .val (.int (2 : Int32))] [(.int (2 : Int32)), (.ref a1), (.int (2 : Int32)), (.ref bb)])) rfl rfl (hb hby d5_19) _ zk) ?_
  obtain ⟨v4, T4, L4, X4, Q4, st4⟩ := own_callS (W := 0) X3 hx hZ (y := (⟨"java/lang/StringUTF16", "putChar", "([BII)V"⟩ : MethodName)) hown (hw _ (List.mem_of_getElem? (i := 75) rfl)) (hw _ (List.mem_of_getElem? (i := 76) rfl)) (hw _ (List.mem_of_getElem? (i := 22) rfl)) (hw _ (List.mem_of_getElem? (i := 77) rfl)) (by decide) rfl (rm_put l Z a0 hw [] bb 2 (f 2) 8 2 (own_stp (own_stp (fun _ => (0 : Int32)) 0 (f 0)) 1 (f 1)) cs vG T3.heap n0 ZK3 ST hcs hG O3 gb V3 (by decide) (by decide) (by decide)) (g := (mkF m 20 #[.val (.ref a1), .val (.int (2 : Int32)), .val (.int (4 : Int32)), .val (.ref bb), .val (.int (2 : Int32))] [(.int (f 2)), (.int (2 : Int32)), (.ref bb)])) rfl (by rw [hml]; rfl) (argsL := [(.ref bb), (.int (2 : Int32)), (.int (f 2))]) (rest := []) (lenOf pd_2 rfl) rfl rfl (by show 2 * 0 + _ ≤ _; exact Nat.le_of_eq rfl) (hb hby d5_20) (by decide) (by decide) (by decide) (by decide)
  obtain ⟨rfl, N4q, K4, V4⟩ := Q4
  refine own_st (B := (T4.setTop (mkF m 23 #[.val (.ref a1), .val (.int (2 : Int32)), .val (.int (4 : Int32)), .val (.ref bb), .val (.int (2 : Int32))] []))) st4 ?_
  have N4 := Fr.app N3 N4q
  have O4 := O3.keep K4 (allS gb all0)
  have VC4 := VC3.keep K4 nab
  have KK4 : Keep h0 T4.heap [] := KK3.trans K4 (fun y hy => Or.inr (by rw [List.mem_singleton.mp hy]; exact gb'))
  have ZK4 : n0 ≤ T4.heap.size := Nat.le_trans ZK3 K4.1
  have hg3 : ∀ q, q < 2 * (2 + 1) → own_stp (own_stp (own_stp (fun _ => (0 : Int32)) 0 (f 0)) 1 (f 1)) 2 (f 2) q = own_u f q := own_stp_u hg2
  refine own_st (B := (T4.setTop (mkF m 26 #[.val (.ref a1), .val (.int (3 : Int32)), .val (.int (4 : Int32)), .val (.ref bb), .val (.int (2 : Int32))] []))) (fun _ zk => XS.iinc X4.here hx rfl (hb hby d5_23) rfl (l' := #[.val (.ref a1), .val (.int (3 : Int32)), .val (.int (4 : Int32)), .val (.ref bb), .val (.int (2 : Int32))]) rfl zk) ?_
  refine own_st (B := (T4.setTop (mkF m 29 #[.val (.ref a1), .val (.int (3 : Int32)), .val (.int (4 : Int32)), .val (.ref bb), .val (.int (3 : Int32))] []))) (fun _ zk => XS.iinc X4.here hx rfl (hb hby d5_26) rfl (l' := #[.val (.ref a1), .val (.int (3 : Int32)), .val (.int (4 : Int32)), .val (.ref bb), .val (.int (3 : Int32))]) rfl zk) ?_
  refine own_st (B := (T4.setTop (mkF m 8 #[.val (.ref a1), .val (.int (3 : Int32)), .val (.int (4 : Int32)), .val (.ref bb), .val (.int (3 : Int32))] []))) (fun _ zk => XS.goto X4.here hx rfl (pc0 := 29) (pc' := 8) rfl (hb hby d5_29) (by decide) (by decide) zk) ?_
  refine own_st (B := (T4.setTop (mkF m 10 #[.val (.ref a1), .val (.int (3 : Int32)), .val (.int (4 : Int32)), .val (.ref bb), .val (.int (3 : Int32))] [(.int (3 : Int32))]))) (fun _ zk => XS.iload X4.here hx rfl (hb hby d5_8) rfl zk) ?_
  refine own_st (B := (T4.setTop (mkF m 11 #[.val (.ref a1), .val (.int (3 : Int32)), .val (.int (4 : Int32)), .val (.ref bb), .val (.int (3 : Int32))] [(.int (4 : Int32)), (.int (3 : Int32))]))) (fun _ zk => XS.iloadN X4.here hx rfl (hb hby d5_10) rfl zk) ?_
  refine own_st (B := (T4.setTop (mkF m 14 #[.val (.ref a1), .val (.int (3 : Int32)), .val (.int (4 : Int32)), .val (.ref bb), .val (.int (3 : Int32))] []))) (fun _ zk => XS.icmpNo X4.here hx rfl (hb hby d5_11) rfl (tlt (by decide)).2.1 zk) ?_
  refine own_st (B := (T4.setTop (mkF m 15 #[.val (.ref a1), .val (.int (3 : Int32)), .val (.int (4 : Int32)), .val (.ref bb), .val (.int (3 : Int32))] [(.ref bb)]))) (fun _ zk => XS.aloadN X4.here hx rfl (hb hby d5_14) rfl rfl zk) ?_
  refine own_st (B := (T4.setTop (mkF m 17 #[.val (.ref a1), .val (.int (3 : Int32)), .val (.int (4 : Int32)), .val (.ref bb), .val (.int (3 : Int32))] [(.int (3 : Int32)), (.ref bb)]))) (fun _ zk => XS.iload X4.here hx rfl (hb hby d5_15) rfl zk) ?_
  refine own_st (B := (T4.setTop (mkF m 18 #[.val (.ref a1), .val (.int (3 : Int32)), .val (.int (4 : Int32)), .val (.ref bb), .val (.int (3 : Int32))] [(.ref a1), (.int (3 : Int32)), (.ref bb)]))) (fun _ zk => XS.aloadN X4.here hx rfl (hb hby d5_17) rfl rfl zk) ?_
  refine own_st (B := (T4.setTop (mkF m 19 #[.val (.ref a1), .val (.int (3 : Int32)), .val (.int (4 : Int32)), .val (.ref bb), .val (.int (3 : Int32))] [(.int (3 : Int32)), (.ref a1), (.int (3 : Int32)), (.ref bb)]))) (fun _ zk => XS.iloadN X4.here hx rfl (hb hby d5_18) rfl zk) ?_
  refine own_st (B := (T4.setTop (mkF m 20 #[.val (.ref a1), .val (.int (3 : Int32)), .val (.int (4 : Int32)), .val (.ref bb), .val (.int (3 : Int32))] [(.int (f 3)), (.int (3 : Int32)), (.ref bb)]))) (fun _ zk => own_caload X4 hx hZ rfl VC4 (i := 3) (by decide) (by decide) (by decide) (g := (mkF m 19 #[.val (.ref a1), .val (.int (3 : Int32)), .val (.int (4 : Int32)), .val (.ref bb), .val (.int (3 : Int32))] [(.int (3 : Int32)), (.ref a1), (.int (3 : Int32)), (.ref bb)])) rfl rfl (hb hby d5_19) _ zk) ?_
  obtain ⟨v5, T5, L5, X5, Q5, st5⟩ := own_callS (W := 0) X4 hx hZ (y := (⟨"java/lang/StringUTF16", "putChar", "([BII)V"⟩ : MethodName)) hown (hw _ (List.mem_of_getElem? (i := 75) rfl)) (hw _ (List.mem_of_getElem? (i := 76) rfl)) (hw _ (List.mem_of_getElem? (i := 22) rfl)) (hw _ (List.mem_of_getElem? (i := 77) rfl)) (by decide) rfl (rm_put l Z a0 hw [] bb 3 (f 3) 8 3 (own_stp (own_stp (own_stp (fun _ => (0 : Int32)) 0 (f 0)) 1 (f 1)) 2 (f 2)) cs vG T4.heap n0 ZK4 ST hcs hG O4 gb V4 (by decide) (by decide) (by decide)) (g := (mkF m 20 #[.val (.ref a1), .val (.int (3 : Int32)), .val (.int (4 : Int32)), .val (.ref bb), .val (.int (3 : Int32))] [(.int (f 3)), (.int (3 : Int32)), (.ref bb)])) rfl (by rw [hml]; rfl) (argsL := [(.ref bb), (.int (3 : Int32)), (.int (f 3))]) (rest := []) (lenOf pd_2 rfl) rfl rfl (by show 2 * 0 + _ ≤ _; exact Nat.le_of_eq rfl) (hb hby d5_20) (by decide) (by decide) (by decide) (by decide)
  obtain ⟨rfl, N5q, K5, V5⟩ := Q5
  refine own_st (B := (T5.setTop (mkF m 23 #[.val (.ref a1), .val (.int (3 : Int32)), .val (.int (4 : Int32)), .val (.ref bb), .val (.int (3 : Int32))] []))) st5 ?_
  have N5 := Fr.app N4 N5q
  have O5 := O4.keep K5 (allS gb all0)
  have VC5 := VC4.keep K5 nab
  have KK5 : Keep h0 T5.heap [] := KK4.trans K5 (fun y hy => Or.inr (by rw [List.mem_singleton.mp hy]; exact gb'))
  have ZK5 : n0 ≤ T5.heap.size := Nat.le_trans ZK4 K5.1
  have hg4 : ∀ q, q < 2 * (3 + 1) → own_stp (own_stp (own_stp (own_stp (fun _ => (0 : Int32)) 0 (f 0)) 1 (f 1)) 2 (f 2)) 3 (f 3) q = own_u f q := own_stp_u hg3
  refine own_st (B := (T5.setTop (mkF m 26 #[.val (.ref a1), .val (.int (4 : Int32)), .val (.int (4 : Int32)), .val (.ref bb), .val (.int (3 : Int32))] []))) (fun _ zk => XS.iinc X5.here hx rfl (hb hby d5_23) rfl (l' := #[.val (.ref a1), .val (.int (4 : Int32)), .val (.int (4 : Int32)), .val (.ref bb), .val (.int (3 : Int32))]) rfl zk) ?_
  refine own_st (B := (T5.setTop (mkF m 29 #[.val (.ref a1), .val (.int (4 : Int32)), .val (.int (4 : Int32)), .val (.ref bb), .val (.int (4 : Int32))] []))) (fun _ zk => XS.iinc X5.here hx rfl (hb hby d5_26) rfl (l' := #[.val (.ref a1), .val (.int (4 : Int32)), .val (.int (4 : Int32)), .val (.ref bb), .val (.int (4 : Int32))]) rfl zk) ?_
  refine own_st (B := (T5.setTop (mkF m 8 #[.val (.ref a1), .val (.int (4 : Int32)), .val (.int (4 : Int32)), .val (.ref bb), .val (.int (4 : Int32))] []))) (fun _ zk => XS.goto X5.here hx rfl (pc0 := 29) (pc' := 8) rfl (hb hby d5_29) (by decide) (by decide) zk) ?_
  refine own_st (B := (T5.setTop (mkF m 10 #[.val (.ref a1), .val (.int (4 : Int32)), .val (.int (4 : Int32)), .val (.ref bb), .val (.int (4 : Int32))] [(.int (4 : Int32))]))) (fun _ zk => XS.iload X5.here hx rfl (hb hby d5_8) rfl zk) ?_
  refine own_st (B := (T5.setTop (mkF m 11 #[.val (.ref a1), .val (.int (4 : Int32)), .val (.int (4 : Int32)), .val (.ref bb), .val (.int (4 : Int32))] [(.int (4 : Int32)), (.int (4 : Int32))]))) (fun _ zk => XS.iloadN X5.here hx rfl (hb hby d5_10) rfl zk) ?_
  refine own_st (B := (T5.setTop (mkF m 32 #[.val (.ref a1), .val (.int (4 : Int32)), .val (.int (4 : Int32)), .val (.ref bb), .val (.int (4 : Int32))] []))) (fun _ zk => XS.icmpYes X5.here hx rfl (pc0 := 11) (pc' := 32) rfl (hb hby d5_11) rfl (flt (by decide)).2.1 (by decide) (by decide) zk) ?_
  refine own_st (B := (T5.setTop (mkF m 33 #[.val (.ref a1), .val (.int (4 : Int32)), .val (.int (4 : Int32)), .val (.ref bb), .val (.int (4 : Int32))] [(.ref bb)]))) (fun _ zk => XS.aloadN X5.here hx rfl (hb hby d5_32) rfl rfl zk) ?_
  have VU : own_AV Z T5.heap bb .byte (2 * 4) (fun i => .int (own_u f i)) := V5.congr fun i hi => congrArg Value.int (hg4 i hi)
  exact own_retA X5 hx hlk hret rfl (hb hby d5_33) (show own_QTB Z 4 f h0 n0 _ T5.heap _ from ⟨bb, rfl, N5, KK5, VU⟩) (by decide) (by decide)
theorem d6_0 : decode jdk_52_method_21_code 0 = .ok (.iconst 0, 1) := by decide +kernel
theorem d6_1 : decode jdk_52_method_21_code 1 = .ok (.istore 5, 2) := by decide +kernel
theorem d6_3 : decode jdk_52_method_21_code 3 = .ok (.iload 5, 2) := by decide +kernel
theorem d6_5 : decode jdk_52_method_21_code 5 = .ok (.iload 4, 2) := by decide +kernel
theorem d6_7 : decode jdk_52_method_21_code 7 = .ok (.if_icmp .ge 37, 3) := by decide +kernel
theorem d6_10 : decode jdk_52_method_21_code 10 = .ok (.aload_n 0, 1) := by decide +kernel
theorem d6_11 : decode jdk_52_method_21_code 11 = .ok (.iload_n 1, 1) := by decide +kernel
theorem d6_12 : decode jdk_52_method_21_code 12 = .ok (.caload, 1) := by decide +kernel
theorem d6_13 : decode jdk_52_method_21_code 13 = .ok (.istore 6, 2) := by decide +kernel
theorem d6_15 : decode jdk_52_method_21_code 15 = .ok (.iload 6, 2) := by decide +kernel
theorem d6_17 : decode jdk_52_method_21_code 17 = .ok (.sipush 255, 3) := by decide +kernel
theorem d6_20 : decode jdk_52_method_21_code 20 = .ok (.if_icmp .le 6, 3) := by decide +kernel
theorem d6_23 : decode jdk_52_method_21_code 23 = .ok (.iload 5, 2) := by decide +kernel
theorem d6_25 : decode jdk_52_method_21_code 25 = .ok (.ireturn, 1) := by decide +kernel
theorem d6_26 : decode jdk_52_method_21_code 26 = .ok (.aload_n 2, 1) := by decide +kernel
theorem d6_27 : decode jdk_52_method_21_code 27 = .ok (.iload_n 3, 1) := by decide +kernel
theorem d6_28 : decode jdk_52_method_21_code 28 = .ok (.iload 6, 2) := by decide +kernel
theorem d6_30 : decode jdk_52_method_21_code 30 = .ok (.i2b, 1) := by decide +kernel
theorem d6_31 : decode jdk_52_method_21_code 31 = .ok (.bastore, 1) := by decide +kernel
theorem d6_32 : decode jdk_52_method_21_code 32 = .ok (.iinc 1 1, 3) := by decide +kernel
theorem d6_35 : decode jdk_52_method_21_code 35 = .ok (.iinc 3 1, 3) := by decide +kernel
theorem d6_38 : decode jdk_52_method_21_code 38 = .ok (.iinc 5 1, 3) := by decide +kernel
theorem d6_41 : decode jdk_52_method_21_code 41 = .ok (.goto (-38), 3) := by decide +kernel
theorem d6_44 : decode jdk_52_method_21_code 44 = .ok (.iload 4, 2) := by decide +kernel
theorem d6_46 : decode jdk_52_method_21_code 46 = .ok (.ireturn, 1) := by decide +kernel
theorem ef_rm_c5 (m : MethodId) (x0 : Addr) (x1 : Int32) (x2 : Addr) (x3 : Int32) (x4 : Int32) : entryFrame m #[(.ref x0), (.int x1), (.ref x2), (.int x3), (.int x4)] 7 = mkF m 0 #[.val (.ref x0), .val (.int x1), .val (.ref x2), .val (.int x3), .val (.int x4), .unset, .unset] [] := by first | (simp [entryFrame, mkF, argsToLocals, Value.category]; done) | rfl
set_option maxRecDepth 65536 in
set_option maxHeartbeats 40000000 in
theorem rm_c5 (l : Launch) (Z : State) (a0 : Array Value) (hw : ∀ d ∈ tables_1, d.before a0 Z = true) (ws : List Jvm.Cond) (a1 a3 : Addr) (f : Nat → Int32) (h0 : Heap) (n0 : Nat) (Z0 : n0 ≤ h0.size) (gb : n0 ≤ a3) (nab : a1 ≠ a3) (VA : own_AV Z h0 a1 .char 4 (fun i => .int (f i))) (VB : own_AV Z h0 a3 .byte 4 (fun _ => .int 0)) :
    MetFree l (⟨"java/lang/StringUTF16", "compress", "([CI[BII)I"⟩ : MethodName) (head1 (Jvm.Cond.code (⟨"java/lang/StringUTF16", "compress", "([CI[BII)I"⟩ : MethodName) jdk_52_method_21_code 7 (some .int) :: ws) ({ frames := 0, cells := 0, slots := 0, locals := 0 } : Room)) (fun a U => a = #[(.ref a1), (.int (0 : Int32)), (.ref a3), (.int (0 : Int32)), (.int (4 : Int32))] ∧ Z.Warmed39 U.vm ∧ U.heap = h0) (fun _ _ _ _ _ => True) (fun _ U o U' => ∃ v L, o = .returned v ∧ own_QC5 Z a3 4 f h0 n0 v U'.heap L ∧ FrameEnd U o U' L ({ frames := 0, cells := 0, slots := 0, locals := 0 } : Room).cells ({ frames := 0, cells := 0, slots := 0, locals := 0 } : Room).slots) := by
  refine MetFree.of_bodySF (plainFor_of_name pn_0) hisR ?_
  intro p e s m args below meth c s₁ Bd hml0 hP hK
  obtain ⟨rfl, hZ, hh⟩ := hP
  have hx := Bd.exec
  have hby := Bd.bytes
  have hlk := Bd.notSynchronized
  have hret := Bd.returns
  have hml : c.maxLocals = 7 := hml0
  have hown : s.vm.findClass "java/lang/StringUTF16" = some m.cls := findClass_of_methodNamed Bd.named
  have hnm := (name_of_methodNamed Bd.named Bd.method).1
  have X0 : Stand p l e ({ frames := 0, cells := 0, slots := 0, locals := 0 } : Room) s m #[(.ref a1), (.int (0 : Int32)), (.ref a3), (.int (0 : Int32)), (.int (4 : Int32))] below meth c s₁ [] 0 0 := Stand.of_body Bd
  have e0 : s₁.heap = h0 := by rw [← hh, Bd.state]; rfl
  have N0 := Fr.nil n0
  show own_Dn p e below (own_Ret s (own_QC5 Z a3 4 f h0 n0) ({ frames := 0, cells := 0, slots := 0, locals := 0 } : Room).cells ({ frames := 0, cells := 0, slots := 0, locals := 0 } : Room).slots) (s₁.setTop (entryFrame m #[(.ref a1), (.int (0 : Int32)), (.ref a3), (.int (0 : Int32)), (.int (4 : Int32))] 7))
  rw [ef_rm_c5]
  refine own_st (B := (s₁.setTop (mkF m 1 #[.val (.ref a1), .val (.int (0 : Int32)), .val (.ref a3), .val (.int (0 : Int32)), .val (.int (4 : Int32)), .unset, .unset] [(.int (0 : Int32))]))) (fun _ zk => XS.iconst X0.here hx rfl (hb hby d6_0) zk) ?_
  refine own_st (B := (s₁.setTop (mkF m 3 #[.val (.ref a1), .val (.int (0 : Int32)), .val (.ref a3), .val (.int (0 : Int32)), .val (.int (4 : Int32)), .val (.int (0 : Int32)), .unset] []))) (fun _ zk => XS.istore X0.here hx rfl (hb hby d6_1) rfl (l' := #[.val (.ref a1), .val (.int (0 : Int32)), .val (.ref a3), .val (.int (0 : Int32)), .val (.int (4 : Int32)), .val (.int (0 : Int32)), .unset]) rfl zk) ?_
  refine own_st (B := (s₁.setTop (mkF m 5 #[.val (.ref a1), .val (.int (0 : Int32)), .val (.ref a3), .val (.int (0 : Int32)), .val (.int (4 : Int32)), .val (.int (0 : Int32)), .unset] [(.int (0 : Int32))]))) (fun _ zk => XS.iload X0.here hx rfl (hb hby d6_3) rfl zk) ?_
  refine own_st (B := (s₁.setTop (mkF m 7 #[.val (.ref a1), .val (.int (0 : Int32)), .val (.ref a3), .val (.int (0 : Int32)), .val (.int (4 : Int32)), .val (.int (0 : Int32)), .unset] [(.int (4 : Int32)), (.int (0 : Int32))]))) (fun _ zk => XS.iload X0.here hx rfl (hb hby d6_5) rfl zk) ?_
  refine own_st (B := (s₁.setTop (mkF m 10 #[.val (.ref a1), .val (.int (0 : Int32)), .val (.ref a3), .val (.int (0 : Int32)), .val (.int (4 : Int32)), .val (.int (0 : Int32)), .unset] []))) (fun _ zk => XS.icmpNo X0.here hx rfl (hb hby d6_7) rfl (tlt (by decide)).2.1 zk) ?_
  refine own_st (B := (s₁.setTop (mkF m 11 #[.val (.ref a1), .val (.int (0 : Int32)), .val (.ref a3), .val (.int (0 : Int32)), .val (.int (4 : Int32)), .val (.int (0 : Int32)), .unset] [(.ref a1)]))) (fun _ zk => XS.aloadN X0.here hx rfl (hb hby d6_10) rfl rfl zk) ?_
  refine own_st (B := (s₁.setTop (mkF m 12 #[.val (.ref a1), .val (.int (0 : Int32)), .val (.ref a3), .val (.int (0 : Int32)), .val (.int (4 : Int32)), .val (.int (0 : Int32)), .unset] [(.int (0 : Int32)), (.ref a1)]))) (fun _ zk => XS.iloadN X0.here hx rfl (hb hby d6_11) rfl zk) ?_
  refine own_st (B := (s₁.setTop (mkF m 13 #[.val (.ref a1), .val (.int (0 : Int32)), .val (.ref a3), .val (.int (0 : Int32)), .val (.int (4 : Int32)), .val (.int (0 : Int32)), .unset] [(.int (f 0))]))) (fun _ zk => own_caload X0 hx hZ e0 VA (i := 0) (by decide) (by decide) (by decide) (g := (mkF m 12 #[.val (.ref a1), .val (.int (0 : Int32)), .val (.ref a3), .val (.int (0 : Int32)), .val (.int (4 : Int32)), .val (.int (0 : Int32)), .unset] [(.int (0 : Int32)), (.ref a1)])) rfl rfl (hb hby d6_12) _ zk) ?_
  refine own_st (B := (s₁.setTop (mkF m 15 #[.val (.ref a1), .val (.int (0 : Int32)), .val (.ref a3), .val (.int (0 : Int32)), .val (.int (4 : Int32)), .val (.int (0 : Int32)), .val (.int (f 0))] []))) (fun _ zk => XS.istore X0.here hx rfl (hb hby d6_13) rfl (l' := #[.val (.ref a1), .val (.int (0 : Int32)), .val (.ref a3), .val (.int (0 : Int32)), .val (.int (4 : Int32)), .val (.int (0 : Int32)), .val (.int (f 0))]) rfl zk) ?_
  refine own_st (B := (s₁.setTop (mkF m 17 #[.val (.ref a1), .val (.int (0 : Int32)), .val (.ref a3), .val (.int (0 : Int32)), .val (.int (4 : Int32)), .val (.int (0 : Int32)), .val (.int (f 0))] [(.int (f 0))]))) (fun _ zk => XS.iload X0.here hx rfl (hb hby d6_15) rfl zk) ?_
  refine own_st (B := (s₁.setTop (mkF m 20 #[.val (.ref a1), .val (.int (0 : Int32)), .val (.ref a3), .val (.int (0 : Int32)), .val (.int (4 : Int32)), .val (.int (0 : Int32)), .val (.int (f 0))] [(.int (255 : Int32)), (.int (f 0))]))) (fun _ zk => XS.sipush X0.here hx rfl (hb hby d6_17) zk) ?_
  by_cases g0 : (255 : Int32) < (f 0)
  · refine own_st (B := (s₁.setTop (mkF m 23 #[.val (.ref a1), .val (.int (0 : Int32)), .val (.ref a3), .val (.int (0 : Int32)), .val (.int (4 : Int32)), .val (.int (0 : Int32)), .val (.int (f 0))] []))) (fun _ zk => XS.icmpNo X0.here hx rfl (hb hby d6_20) rfl (tlt g0).2.2.2 zk) ?_
    refine own_st (B := (s₁.setTop (mkF m 25 #[.val (.ref a1), .val (.int (0 : Int32)), .val (.ref a3), .val (.int (0 : Int32)), .val (.int (4 : Int32)), .val (.int (0 : Int32)), .val (.int (f 0))] [(.int (0 : Int32))]))) (fun _ zk => XS.iload X0.here hx rfl (hb hby d6_23) rfl zk) ?_
    exact own_retI X0 hx hlk hret (hb hby d6_25) (by show own_QC5 Z a3 4 f h0 n0 _ s₁.heap _; rw [e0]; exact ⟨0, rfl, N0, (Keep.refl h0 [a3]), Or.inr ⟨0, by decide, by decide, g0⟩⟩) (by decide) (by decide)
  · refine own_st (B := (s₁.setTop (mkF m 26 #[.val (.ref a1), .val (.int (0 : Int32)), .val (.ref a3), .val (.int (0 : Int32)), .val (.int (4 : Int32)), .val (.int (0 : Int32)), .val (.int (f 0))] []))) (fun _ zk => XS.icmpYes X0.here hx rfl (pc0 := 20) (pc' := 26) rfl (hb hby d6_20) rfl (flt g0).2.2.2 (by decide) (by decide) zk) ?_
    refine own_st (B := (s₁.setTop (mkF m 27 #[.val (.ref a1), .val (.int (0 : Int32)), .val (.ref a3), .val (.int (0 : Int32)), .val (.int (4 : Int32)), .val (.int (0 : Int32)), .val (.int (f 0))] [(.ref a3)]))) (fun _ zk => XS.aloadN X0.here hx rfl (hb hby d6_26) rfl rfl zk) ?_
    refine own_st (B := (s₁.setTop (mkF m 28 #[.val (.ref a1), .val (.int (0 : Int32)), .val (.ref a3), .val (.int (0 : Int32)), .val (.int (4 : Int32)), .val (.int (0 : Int32)), .val (.int (f 0))] [(.int (0 : Int32)), (.ref a3)]))) (fun _ zk => XS.iloadN X0.here hx rfl (hb hby d6_27) rfl zk) ?_
    refine own_st (B := (s₁.setTop (mkF m 30 #[.val (.ref a1), .val (.int (0 : Int32)), .val (.ref a3), .val (.int (0 : Int32)), .val (.int (4 : Int32)), .val (.int (0 : Int32)), .val (.int (f 0))] [(.int (f 0)), (.int (0 : Int32)), (.ref a3)]))) (fun _ zk => XS.iload X0.here hx rfl (hb hby d6_28) rfl zk) ?_
    refine own_st (B := (s₁.setTop (mkF m 31 #[.val (.ref a1), .val (.int (0 : Int32)), .val (.ref a3), .val (.int (0 : Int32)), .val (.int (4 : Int32)), .val (.int (0 : Int32)), .val (.int (f 0))] [(.int ((f 0).toInt8.toInt32)), (.int (0 : Int32)), (.ref a3)]))) (fun _ zk => XS.i2b X0.here hx rfl (hb hby d6_30) rfl zk) ?_
    obtain ⟨T1, h1, X1, e1, W1, V1, st1⟩ := own_stB X0 hx hZ e0 VB (i := 0) (by decide) (by decide) (by decide) (g := (mkF m 31 #[.val (.ref a1), .val (.int (0 : Int32)), .val (.ref a3), .val (.int (0 : Int32)), .val (.int (4 : Int32)), .val (.int (0 : Int32)), .val (.int (f 0))] [(.int ((f 0).toInt8.toInt32)), (.int (0 : Int32)), (.ref a3)])) rfl rfl (hb hby d6_31)
    refine own_st (B := (T1.setTop (mkF m 32 #[.val (.ref a1), .val (.int (0 : Int32)), .val (.ref a3), .val (.int (0 : Int32)), .val (.int (4 : Int32)), .val (.int (0 : Int32)), .val (.int (f 0))] []))) st1 ?_
    have N1 := Fr.snoc X1 N0 gb
    have KK1 : Keep h0 h1 [a3] := (Keep.refl h0 [a3]).wr W1 (Or.inl (List.mem_of_getElem? (i := 0) rfl))
    have VC1 := VA.other W1 nab
    refine own_st (B := (T1.setTop (mkF m 35 #[.val (.ref a1), .val (.int (1 : Int32)), .val (.ref a3), .val (.int (0 : Int32)), .val (.int (4 : Int32)), .val (.int (0 : Int32)), .val (.int (f 0))] []))) (fun _ zk => XS.iinc X1.here hx rfl (hb hby d6_32) rfl (l' := #[.val (.ref a1), .val (.int (1 : Int32)), .val (.ref a3), .val (.int (0 : Int32)), .val (.int (4 : Int32)), .val (.int (0 : Int32)), .val (.int (f 0))]) rfl zk) ?_
    refine own_st (B := (T1.setTop (mkF m 38 #[.val (.ref a1), .val (.int (1 : Int32)), .val (.ref a3), .val (.int (1 : Int32)), .val (.int (4 : Int32)), .val (.int (0 : Int32)), .val (.int (f 0))] []))) (fun _ zk => XS.iinc X1.here hx rfl (hb hby d6_35) rfl (l' := #[.val (.ref a1), .val (.int (1 : Int32)), .val (.ref a3), .val (.int (1 : Int32)), .val (.int (4 : Int32)), .val (.int (0 : Int32)), .val (.int (f 0))]) rfl zk) ?_
    refine own_st (B := (T1.setTop (mkF m 41 #[.val (.ref a1), .val (.int (1 : Int32)), .val (.ref a3), .val (.int (1 : Int32)), .val (.int (4 : Int32)), .val (.int (1 : Int32)), .val (.int (f 0))] []))) (fun _ zk => XS.iinc X1.here hx rfl (hb hby d6_38) rfl (l' := #[.val (.ref a1), .val (.int (1 : Int32)), .val (.ref a3), .val (.int (1 : Int32)), .val (.int (4 : Int32)), .val (.int (1 : Int32)), .val (.int (f 0))]) rfl zk) ?_
    refine own_st (B := (T1.setTop (mkF m 3 #[.val (.ref a1), .val (.int (1 : Int32)), .val (.ref a3), .val (.int (1 : Int32)), .val (.int (4 : Int32)), .val (.int (1 : Int32)), .val (.int (f 0))] []))) (fun _ zk => XS.goto X1.here hx rfl (pc0 := 41) (pc' := 3) rfl (hb hby d6_41) (by decide) (by decide) zk) ?_
    refine own_st (B := (T1.setTop (mkF m 5 #[.val (.ref a1), .val (.int (1 : Int32)), .val (.ref a3), .val (.int (1 : Int32)), .val (.int (4 : Int32)), .val (.int (1 : Int32)), .val (.int (f 0))] [(.int (1 : Int32))]))) (fun _ zk => XS.iload X1.here hx rfl (hb hby d6_3) rfl zk) ?_
    refine own_st (B := (T1.setTop (mkF m 7 #[.val (.ref a1), .val (.int (1 : Int32)), .val (.ref a3), .val (.int (1 : Int32)), .val (.int (4 : Int32)), .val (.int (1 : Int32)), .val (.int (f 0))] [(.int (4 : Int32)), (.int (1 : Int32))]))) (fun _ zk => XS.iload X1.here hx rfl (hb hby d6_5) rfl zk) ?_
    refine own_st (B := (T1.setTop (mkF m 10 #[.val (.ref a1), .val (.int (1 : Int32)), .val (.ref a3), .val (.int (1 : Int32)), .val (.int (4 : Int32)), .val (.int (1 : Int32)), .val (.int (f 0))] []))) (fun _ zk => XS.icmpNo X1.here hx rfl (hb hby d6_7) rfl (tlt (by decide)).2.1 zk) ?_
    refine own_st (B := (T1.setTop (mkF m 11 #[.val (.ref a1), .val (.int (1 : Int32)), .val (.ref a3), .val (.int (1 : Int32)), .val (.int (4 : Int32)), .val (.int (1 : Int32)), .val (.int (f 0))] [(.ref a1)]))) (fun _ zk => XS.aloadN X1.here hx rfl (hb hby d6_10) rfl rfl zk) ?_
    refine own_st (B := (T1.setTop (mkF m 12 #[.val (.ref a1), .val (.int (1 : Int32)), .val (.ref a3), .val (.int (1 : Int32)), .val (.int (4 : Int32)), .val (.int (1 : Int32)), .val (.int (f 0))] [(.int (1 : Int32)), (.ref a1)]))) (fun _ zk => XS.iloadN X1.here hx rfl (hb hby d6_11) rfl zk) ?_
    refine own_st (B := (T1.setTop (mkF m 13 #[.val (.ref a1), .val (.int (1 : Int32)), .val (.ref a3), .val (.int (1 : Int32)), .val (.int (4 : Int32)), .val (.int (1 : Int32)), .val (.int (f 0))] [(.int (f 1))]))) (fun _ zk => own_caload X1 hx hZ e1 VC1 (i := 1) (by decide) (by decide) (by decide) (g := (mkF m 12 #[.val (.ref a1), .val (.int (1 : Int32)), .val (.ref a3), .val (.int (1 : Int32)), .val (.int (4 : Int32)), .val (.int (1 : Int32)), .val (.int (f 0))] [(.int (1 : Int32)), (.ref a1)])) rfl rfl (hb hby d6_12) _ zk) ?_
    refine own_st (B := (T1.setTop (mkF m 15 #[.val (.ref a1), .val (.int (1 : Int32)), .val (.ref a3), .val (.int (1 : Int32)), .val (.int (4 : Int32)), .val (.int (1 : Int32)), .val (.int (f 1))] []))) (fun _ zk => XS.istore X1.here hx rfl (hb hby d6_13) rfl (l' := #[.val (.ref a1), .val (.int (1 : Int32)), .val (.ref a3), .val (.int (1 : Int32)), .val (.int (4 : Int32)), .val (.int (1 : Int32)), .val (.int (f 1))]) rfl zk) ?_
    refine own_st (B := (T1.setTop (mkF m 17 #[.val (.ref a1), .val (.int (1 : Int32)), .val (.ref a3), .val (.int (1 : Int32)), .val (.int (4 : Int32)), .val (.int (1 : Int32)), .val (.int (f 1))] [(.int (f 1))]))) (fun _ zk => XS.iload X1.here hx rfl (hb hby d6_15) rfl zk) ?_
    refine own_st (B := (T1.setTop (mkF m 20 #[.val (.ref a1), .val (.int (1 : Int32)), .val (.ref a3), .val (.int (1 : Int32)), .val (.int (4 : Int32)), .val (.int (1 : Int32)), .val (.int (f 1))] [(.int (255 : Int32)), (.int (f 1))]))) (fun _ zk => XS.sipush X1.here hx rfl (hb hby d6_17) zk) ?_
    by_cases g1 : (255 : Int32) < (f 1)
    · refine own_st (B := (T1.setTop (mkF m 23 #[.val (.ref a1), .val (.int (1 : Int32)), .val (.ref a3), .val (.int (1 : Int32)), .val (.int (4 : Int32)), .val (.int (1 : Int32)), .val (.int (f 1))] []))) (fun _ zk => XS.icmpNo X1.here hx rfl (hb hby d6_20) rfl (tlt g1).2.2.2 zk) ?_
      refine own_st (B := (T1.setTop (mkF m 25 #[.val (.ref a1), .val (.int (1 : Int32)), .val (.ref a3), .val (.int (1 : Int32)), .val (.int (4 : Int32)), .val (.int (1 : Int32)), .val (.int (f 1))] [(.int (1 : Int32))]))) (fun _ zk => XS.iload X1.here hx rfl (hb hby d6_23) rfl zk) ?_
      exact own_retI X1 hx hlk hret (hb hby d6_25) (by show own_QC5 Z a3 4 f h0 n0 _ T1.heap _; rw [e1]; exact ⟨1, rfl, N1, KK1, Or.inr ⟨1, by decide, by decide, g1⟩⟩) (by decide) (by decide)
    · refine own_st (B := (T1.setTop (mkF m 26 #[.val (.ref a1), .val (.int (1 : Int32)), .val (.ref a3), .val (.int (1 : Int32)), .val (.int (4 : Int32)), .val (.int (1 : Int32)), .val (.int (f 1))] []))) (fun _ zk => XS.icmpYes X1.here hx rfl (pc0 := 20) (pc' := 26) rfl (hb hby d6_20) rfl (flt g1).2.2.2 (by decide) (by decide) zk) ?_
      refine own_st (B := (T1.setTop (mkF m 27 #[.val (.ref a1), .val (.int (1 : Int32)), .val (.ref a3), .val (.int (1 : Int32)), .val (.int (4 : Int32)), .val (.int (1 : Int32)), .val (.int (f 1))] [(.ref a3)]))) (fun _ zk => XS.aloadN X1.here hx rfl (hb hby d6_26) rfl rfl zk) ?_
      refine own_st (B := (T1.setTop (mkF m 28 #[.val (.ref a1), .val (.int (1 : Int32)), .val (.ref a3), .val (.int (1 : Int32)), .val (.int (4 : Int32)), .val (.int (1 : Int32)), .val (.int (f 1))] [(.int (1 : Int32)), (.ref a3)]))) (fun _ zk => XS.iloadN X1.here hx rfl (hb hby d6_27) rfl zk) ?_
      refine own_st (B := (T1.setTop (mkF m 30 #[.val (.ref a1), .val (.int (1 : Int32)), .val (.ref a3), .val (.int (1 : Int32)), .val (.int (4 : Int32)), .val (.int (1 : Int32)), .val (.int (f 1))] [(.int (f 1)), (.int (1 : Int32)), (.ref a3)]))) (fun _ zk => XS.iload X1.here hx rfl (hb hby d6_28) rfl zk) ?_
      refine own_st (B := (T1.setTop (mkF m 31 #[.val (.ref a1), .val (.int (1 : Int32)), .val (.ref a3), .val (.int (1 : Int32)), .val (.int (4 : Int32)), .val (.int (1 : Int32)), .val (.int (f 1))] [(.int ((f 1).toInt8.toInt32)), (.int (1 : Int32)), (.ref a3)]))) (fun _ zk => XS.i2b X1.here hx rfl (hb hby d6_30) rfl zk) ?_
      obtain ⟨T2, h2, X2, e2, W2, V2, st2⟩ := own_stB X1 hx hZ e1 V1 (i := 1) (by decide) (by decide) (by decide) (g := (mkF m 31 #[.val (.ref a1), .val (.int (1 : Int32)), .val (.ref a3), .val (.int (1 : Int32)), .val (.int (4 : Int32)), .val (.int (1 : Int32)), .val (.int (f 1))] [(.int ((f 1).toInt8.toInt32)), (.int (1 : Int32)), (.ref a3)])) rfl rfl (hb hby d6_31)
      refine own_st (B := (T2.setTop (mkF m 32 #[.val (.ref a1), .val (.int (1 : Int32)), .val (.ref a3), .val (.int (1 : Int32)), .val (.int (4 : Int32)), .val (.int (1 : Int32)), .val (.int (f 1))] []))) st2 ?_
      have N2 := Fr.snoc X2 N1 gb
      have KK2 : Keep h0 h2 [a3] := KK1.wr W2 (Or.inl (List.mem_of_getElem? (i := 0) rfl))
      have VC2 := VC1.other W2 nab
      refine own_st (B := (T2.setTop (mkF m 35 #[.val (.ref a1), .val (.int (2 : Int32)), .val (.ref a3), .val (.int (1 : Int32)), .val (.int (4 : Int32)), .val (.int (1 : Int32)), .val (.int (f 1))] []))) (fun _ zk => XS.iinc X2.here hx rfl (hb hby d6_32) rfl (l' := #[.val (.ref a1), .val (.int (2 : Int32)), .val (.ref a3), .val (.int (1 : Int32)), .val (.int (4 : Int32)), .val (.int (1 : Int32)), .val (.int (f 1))]) rfl zk) ?_
      refine own_st (B := (T2.setTop (mkF m 38 #[.val (.ref a1), .val (.int (2 : Int32)), .val (.ref a3), .val (.int (2 : Int32)), .val (.int (4 : Int32)), .val (.int (1 : Int32)), .val (.int (f 1))] []))) (fun _ zk => XS.iinc X2.here hx rfl (hb hby d6_35) rfl (l' := #[.val (.ref a1), .val (.int (2 : Int32)), .val (.ref a3), .val (.int (2 : Int32)), .val (.int (4 : Int32)), .val (.int (1 : Int32)), .val (.int (f 1))]) rfl zk) ?_
      refine own_st (B := (T2.setTop (mkF m 41 #[.val (.ref a1), .val (.int (2 : Int32)), .val (.ref a3), .val (.int (2 : Int32)), .val (.int (4 : Int32)), .val (.int (2 : Int32)), .val (.int (f 1))] []))) (fun _ zk => XS.iinc X2.here hx rfl (hb hby d6_38) rfl (l' := #[.val (.ref a1), .val (.int (2 : Int32)), .val (.ref a3), .val (.int (2 : Int32)), .val (.int (4 : Int32)), .val (.int (2 : Int32)), .val (.int (f 1))]) rfl zk) ?_
      refine own_st (B := (T2.setTop (mkF m 3 #[.val (.ref a1), .val (.int (2 : Int32)), .val (.ref a3), .val (.int (2 : Int32)), .val (.int (4 : Int32)), .val (.int (2 : Int32)), .val (.int (f 1))] []))) (fun _ zk => XS.goto X2.here hx rfl (pc0 := 41) (pc' := 3) rfl (hb hby d6_41) (by decide) (by decide) zk) ?_
      refine own_st (B := (T2.setTop (mkF m 5 #[.val (.ref a1), .val (.int (2 : Int32)), .val (.ref a3), .val (.int (2 : Int32)), .val (.int (4 : Int32)), .val (.int (2 : Int32)), .val (.int (f 1))] [(.int (2 : Int32))]))) (fun _ zk => XS.iload X2.here hx rfl (hb hby d6_3) rfl zk) ?_
      refine own_st (B := (T2.setTop (mkF m 7 #[.val (.ref a1), .val (.int (2 : Int32)), .val (.ref a3), .val (.int (2 : Int32)), .val (.int (4 : Int32)), .val (.int (2 : Int32)), .val (.int (f 1))] [(.int (4 : Int32)), (.int (2 : Int32))]))) (fun _ zk => XS.iload X2.here hx rfl (hb hby d6_5) rfl zk) ?_
      refine own_st (B := (T2.setTop (mkF m 10 #[.val (.ref a1), .val (.int (2 : Int32)), .val (.ref a3), .val (.int (2 : Int32)), .val (.int (4 : Int32)), .val (.int (2 : Int32)), .val (.int (f 1))] []))) (fun _ zk => XS.icmpNo X2.here hx rfl (hb hby d6_7) rfl (tlt (by decide)).2.1 zk) ?_
      refine own_st (B := (T2.setTop (mkF m 11 #[.val (.ref a1), .val (.int (2 : Int32)), .val (.ref a3), .val (.int (2 : Int32)), .val (.int (4 : Int32)), .val (.int (2 : Int32)), .val (.int (f 1))] [(.ref a1)]))) (fun _ zk => XS.aloadN X2.here hx rfl (hb hby d6_10) rfl rfl zk) ?_
      refine own_st (B := (T2.setTop (mkF m 12 #[.val (.ref a1), .val (.int (2 : Int32)), .val (.ref a3), .val (.int (2 : Int32)), .val (.int (4 : Int32)), .val (.int (2 : Int32)), .val (.int (f 1))] [(.int (2 : Int32)), (.ref a1)]))) (fun _ zk => XS.iloadN X2.here hx rfl (hb hby d6_11) rfl zk) ?_
      refine own_st (B := (T2.setTop (mkF m 13 #[.val (.ref a1), .val (.int (2 : Int32)), .val (.ref a3), .val (.int (2 : Int32)), .val (.int (4 : Int32)), .val (.int (2 : Int32)), .val (.int (f 1))] [(.int (f 2))]))) (fun _ zk => own_caload X2 hx hZ e2 VC2 (i := 2) (by decide) (by decide) (by decide) (g := (mkF m 12 #[.val (.ref a1), .val (.int (2 : Int32)), .val (.ref a3), .val (.int (2 : Int32)), .val (.int (4 : Int32)), .val (.int (2 : Int32)), .val (.int (f 1))] [(.int (2 : Int32)), (.ref a1)])) rfl rfl (hb hby d6_12) _ zk) ?_
      refine own_st (B := (T2.setTop (mkF m 15 #[.val (.ref a1), .val (.int (2 : Int32)), .val (.ref a3), .val (.int (2 : Int32)), .val (.int (4 : Int32)), .val (.int (2 : Int32)), .val (.int (f 2))] []))) (fun _ zk => XS.istore X2.here hx rfl (hb hby d6_13) rfl (l' := #[.val (.ref a1), .val (.int (2 : Int32)), .val (.ref a3), .val (.int (2 : Int32)), .val (.int (4 : Int32)), .val (.int (2 : Int32)), .val (.int (f 2))]) rfl zk) ?_
      refine own_st (B := (T2.setTop (mkF m 17 #[.val (.ref a1), .val (.int (2 : Int32)), .val (.ref a3), .val (.int (2 : Int32)), .val (.int (4 : Int32)), .val (.int (2 : Int32)), .val (.int (f 2))] [(.int (f 2))]))) (fun _ zk => XS.iload X2.here hx rfl (hb hby d6_15) rfl zk) ?_
      refine own_st (B := (T2.setTop (mkF m 20 #[.val (.ref a1), .val (.int (2 : Int32)), .val (.ref a3), .val (.int (2 : Int32)), .val (.int (4 : Int32)), .val (.int (2 : Int32)), .val (.int (f 2))] [(.int (255 : Int32)), (.int (f 2))]))) (fun _ zk => XS.sipush X2.here hx rfl (hb hby d6_17) zk) ?_
      by_cases g2 : (255 : Int32) < (f 2)
      · refine own_st (B := (T2.setTop (mkF m 23 #[.val (.ref a1), .val (.int (2 : Int32)), .val (.ref a3), .val (.int (2 : Int32)), .val (.int (4 : Int32)), .val (.int (2 : Int32)), .val (.int (f 2))] []))) (fun _ zk => XS.icmpNo X2.here hx rfl (hb hby d6_20) rfl (tlt g2).2.2.2 zk) ?_
        refine own_st (B := (T2.setTop (mkF m 25 #[.val (.ref a1), .val (.int (2 : Int32)), .val (.ref a3), .val (.int (2 : Int32)), .val (.int (4 : Int32)), .val (.int (2 : Int32)), .val (.int (f 2))] [(.int (2 : Int32))]))) (fun _ zk => XS.iload X2.here hx rfl (hb hby d6_23) rfl zk) ?_
        exact own_retI X2 hx hlk hret (hb hby d6_25) (by show own_QC5 Z a3 4 f h0 n0 _ T2.heap _; rw [e2]; exact ⟨2, rfl, N2, KK2, Or.inr ⟨2, by decide, by decide, g2⟩⟩) (by decide) (by decide)
      · refine own_st (B := (T2.setTop (mkF m 26 #[.val (.ref a1), .val (.int (2 : Int32)), .val (.ref a3), .val (.int (2 : Int32)), .val (.int (4 : Int32)), .val (.int (2 : Int32)), .val (.int (f 2))] []))) (fun _ zk => XS.icmpYes X2.here hx rfl (pc0 := 20) (pc' := 26) rfl (hb hby d6_20) rfl (flt g2).2.2.2 (by decide) (by decide) zk) ?_
        refine own_st (B := (T2.setTop (mkF m 27 #[.val (.ref a1), .val (.int (2 : Int32)), .val (.ref a3), .val (.int (2 : Int32)), .val (.int (4 : Int32)), .val (.int (2 : Int32)), .val (.int (f 2))] [(.ref a3)]))) (fun _ zk => XS.aloadN X2.here hx rfl (hb hby d6_26) rfl rfl zk) ?_
        refine own_st (B := (T2.setTop (mkF m 28 #[.val (.ref a1), .val (.int (2 : Int32)), .val (.ref a3), .val (.int (2 : Int32)), .val (.int (4 : Int32)), .val (.int (2 : Int32)), .val (.int (f 2))] [(.int (2 : Int32)), (.ref a3)]))) (fun _ zk => XS.iloadN X2.here hx rfl (hb hby d6_27) rfl zk) ?_
        refine own_st (B := (T2.setTop (mkF m 30 #[.val (.ref a1), .val (.int (2 : Int32)), .val (.ref a3), .val (.int (2 : Int32)), .val (.int (4 : Int32)), .val (.int (2 : Int32)), .val (.int (f 2))] [(.int (f 2)), (.int (2 : Int32)), (.ref a3)]))) (fun _ zk => XS.iload X2.here hx rfl (hb hby d6_28) rfl zk) ?_
        refine own_st (B := (T2.setTop (mkF m 31 #[.val (.ref a1), .val (.int (2 : Int32)), .val (.ref a3), .val (.int (2 : Int32)), .val (.int (4 : Int32)), .val (.int (2 : Int32)), .val (.int (f 2))] [(.int ((f 2).toInt8.toInt32)), (.int (2 : Int32)), (.ref a3)]))) (fun _ zk => XS.i2b X2.here hx rfl (hb hby d6_30) rfl zk) ?_
        obtain ⟨T3, h3, X3, e3, W3, V3, st3⟩ := own_stB X2 hx hZ e2 V2 (i := 2) (by decide) (by decide) (by decide) (g := (mkF m 31 #[.val (.ref a1), .val (.int (2 : Int32)), .val (.ref a3), .val (.int (2 : Int32)), .val (.int (4 : Int32)), .val (.int (2 : Int32)), .val (.int (f 2))] [(.int ((f 2).toInt8.toInt32)), (.int (2 : Int32)), (.ref a3)])) rfl rfl (hb hby d6_31)
        refine own_st (B := (T3.setTop (mkF m 32 #[.val (.ref a1), .val (.int (2 : Int32)), .val (.ref a3), .val (.int (2 : Int32)), .val (.int (4 : Int32)), .val (.int (2 : Int32)), .val (.int (f 2))] []))) st3 ?_
        have N3 := Fr.snoc X3 N2 gb
        have KK3 : Keep h0 h3 [a3] := KK2.wr W3 (Or.inl (List.mem_of_getElem? (i := 0) rfl))
        have VC3 := VC2.other W3 nab
        refine own_st (B := (T3.setTop (mkF m 35 #[.val (.ref a1), .val (.int (3 : Int32)), .val (.ref a3), .val (.int (2 : Int32)), .val (.int (4 : Int32)), .val (.int (2 : Int32)), .val (.int (f 2))] []))) (fun _ zk => XS.iinc X3.here hx rfl (hb hby d6_32) rfl (l' := #[.val (.ref a1), .val (.int (3 : Int32)), .val (.ref a3), .val (.int (2 : Int32)), .val (.int (4 : Int32)), .val (.int (2 : Int32)), .val (.int (f 2))]) rfl zk) ?_
        refine own_st (B := (T3.setTop (mkF m 38 #[.val (.ref a1), .val (.int (3 : Int32)), .val (.ref a3), .val (.int (3 : Int32)), .val (.int (4 : Int32)), .val (.int (2 : Int32)), .val (.int (f 2))] []))) (fun _ zk => XS.iinc X3.here hx rfl (hb hby d6_35) rfl (l' := #[.val (.ref a1), .val (.int (3 : Int32)), .val (.ref a3), .val (.int (3 : Int32)), .val (.int (4 : Int32)), .val (.int (2 : Int32)), .val (.int (f 2))]) rfl zk) ?_
        refine own_st (B := (T3.setTop (mkF m 41 #[.val (.ref a1), .val (.int (3 : Int32)), .val (.ref a3), .val (.int (3 : Int32)), .val (.int (4 : Int32)), .val (.int (3 : Int32)), .val (.int (f 2))] []))) (fun _ zk => XS.iinc X3.here hx rfl (hb hby d6_38) rfl (l' := #[.val (.ref a1), .val (.int (3 : Int32)), .val (.ref a3), .val (.int (3 : Int32)), .val (.int (4 : Int32)), .val (.int (3 : Int32)), .val (.int (f 2))]) rfl zk) ?_
        refine own_st (B := (T3.setTop (mkF m 3 #[.val (.ref a1), .val (.int (3 : Int32)), .val (.ref a3), .val (.int (3 : Int32)), .val (.int (4 : Int32)), .val (.int (3 : Int32)), .val (.int (f 2))] []))) (fun _ zk => XS.goto X3.here hx rfl (pc0 := 41) (pc' := 3) rfl (hb hby d6_41) (by decide) (by decide) zk) ?_
        refine own_st (B := (T3.setTop (mkF m 5 #[.val (.ref a1), .val (.int (3 : Int32)), .val (.ref a3), .val (.int (3 : Int32)), .val (.int (4 : Int32)), .val (.int (3 : Int32)), .val (.int (f 2))] [(.int (3 : Int32))]))) (fun _ zk => XS.iload X3.here hx rfl (hb hby d6_3) rfl zk) ?_
        refine own_st (B := (T3.setTop (mkF m 7 #[.val (.ref a1), .val (.int (3 : Int32)), .val (.ref a3), .val (.int (3 : Int32)), .val (.int (4 : Int32)), .val (.int (3 : Int32)), .val (.int (f 2))] [(.int (4 : Int32)), (.int (3 : Int32))]))) (fun _ zk => XS.iload X3.here hx rfl (hb hby d6_5) rfl zk) ?_
        refine own_st (B := (T3.setTop (mkF m 10 #[.val (.ref a1), .val (.int (3 : Int32)), .val (.ref a3), .val (.int (3 : Int32)), .val (.int (4 : Int32)), .val (.int (3 : Int32)), .val (.int (f 2))] []))) (fun _ zk => XS.icmpNo X3.here hx rfl (hb hby d6_7) rfl (tlt (by decide)).2.1 zk) ?_
        refine own_st (B := (T3.setTop (mkF m 11 #[.val (.ref a1), .val (.int (3 : Int32)), .val (.ref a3), .val (.int (3 : Int32)), .val (.int (4 : Int32)), .val (.int (3 : Int32)), .val (.int (f 2))] [(.ref a1)]))) (fun _ zk => XS.aloadN X3.here hx rfl (hb hby d6_10) rfl rfl zk) ?_
        refine own_st (B := (T3.setTop (mkF m 12 #[.val (.ref a1), .val (.int (3 : Int32)), .val (.ref a3), .val (.int (3 : Int32)), .val (.int (4 : Int32)), .val (.int (3 : Int32)), .val (.int (f 2))] [(.int (3 : Int32)), (.ref a1)]))) (fun _ zk => XS.iloadN X3.here hx rfl (hb hby d6_11) rfl zk) ?_
        refine own_st (B := (T3.setTop (mkF m 13 #[.val (.ref a1), .val (.int (3 : Int32)), .val (.ref a3), .val (.int (3 : Int32)), .val (.int (4 : Int32)), .val (.int (3 : Int32)), .val (.int (f 2))] [(.int (f 3))]))) (fun _ zk => own_caload X3 hx hZ e3 VC3 (i := 3) (by decide) (by decide) (by decide) (g := (mkF m 12 #[.val (.ref a1), .val (.int (3 : Int32)), .val (.ref a3), .val (.int (3 : Int32)), .val (.int (4 : Int32)), .val (.int (3 : Int32)), .val (.int (f 2))] [(.int (3 : Int32)), (.ref a1)])) rfl rfl (hb hby d6_12) _ zk) ?_
        refine own_st (B := (T3.setTop (mkF m 15 #[.val (.ref a1), .val (.int (3 : Int32)), .val (.ref a3), .val (.int (3 : Int32)), .val (.int (4 : Int32)), .val (.int (3 : Int32)), .val (.int (f 3))] []))) (fun _ zk => XS.istore X3.here hx rfl (hb hby d6_13) rfl (l' := #[.val (.ref a1), .val (.int (3 : Int32)), .val (.ref a3), .val (.int (3 : Int32)), .val (.int (4 : Int32)), .val (.int (3 : Int32)), .val (.int (f 3))]) rfl zk) ?_
        refine own_st (B := (T3.setTop (mkF m 17 #[.val (.ref a1), .val (.int (3 : Int32)), .val (.ref a3), .val (.int (3 : Int32)), .val (.int (4 : Int32)), .val (.int (3 : Int32)), .val (.int (f 3))] [(.int (f 3))]))) (fun _ zk => XS.iload X3.here hx rfl (hb hby d6_15) rfl zk) ?_
        refine own_st (B := (T3.setTop (mkF m 20 #[.val (.ref a1), .val (.int (3 : Int32)), .val (.ref a3), .val (.int (3 : Int32)), .val (.int (4 : Int32)), .val (.int (3 : Int32)), .val (.int (f 3))] [(.int (255 : Int32)), (.int (f 3))]))) (fun _ zk => XS.sipush X3.here hx rfl (hb hby d6_17) zk) ?_
        by_cases g3 : (255 : Int32) < (f 3)
        · refine own_st (B := (T3.setTop (mkF m 23 #[.val (.ref a1), .val (.int (3 : Int32)), .val (.ref a3), .val (.int (3 : Int32)), .val (.int (4 : Int32)), .val (.int (3 : Int32)), .val (.int (f 3))] []))) (fun _ zk => XS.icmpNo X3.here hx rfl (hb hby d6_20) rfl (tlt g3).2.2.2 zk) ?_
          refine own_st (B := (T3.setTop (mkF m 25 #[.val (.ref a1), .val (.int (3 : Int32)), .val (.ref a3), .val (.int (3 : Int32)), .val (.int (4 : Int32)), .val (.int (3 : Int32)), .val (.int (f 3))] [(.int (3 : Int32))]))) (fun _ zk => XS.iload X3.here hx rfl (hb hby d6_23) rfl zk) ?_
          exact own_retI X3 hx hlk hret (hb hby d6_25) (by show own_QC5 Z a3 4 f h0 n0 _ T3.heap _; rw [e3]; exact ⟨3, rfl, N3, KK3, Or.inr ⟨3, by decide, by decide, g3⟩⟩) (by decide) (by decide)
        · refine own_st (B := (T3.setTop (mkF m 26 #[.val (.ref a1), .val (.int (3 : Int32)), .val (.ref a3), .val (.int (3 : Int32)), .val (.int (4 : Int32)), .val (.int (3 : Int32)), .val (.int (f 3))] []))) (fun _ zk => XS.icmpYes X3.here hx rfl (pc0 := 20) (pc' := 26) rfl (hb hby d6_20) rfl (flt g3).2.2.2 (by decide) (by decide) zk) ?_
          refine own_st (B := (T3.setTop (mkF m 27 #[.val (.ref a1), .val (.int (3 : Int32)), .val (.ref a3), .val (.int (3 : Int32)), .val (.int (4 : Int32)), .val (.int (3 : Int32)), .val (.int (f 3))] [(.ref a3)]))) (fun _ zk => XS.aloadN X3.here hx rfl (hb hby d6_26) rfl rfl zk) ?_
          refine own_st (B := (T3.setTop (mkF m 28 #[.val (.ref a1), .val (.int (3 : Int32)), .val (.ref a3), .val (.int (3 : Int32)), .val (.int (4 : Int32)), .val (.int (3 : Int32)), .val (.int (f 3))] [(.int (3 : Int32)), (.ref a3)]))) (fun _ zk => XS.iloadN X3.here hx rfl (hb hby d6_27) rfl zk) ?_
          refine own_st (B := (T3.setTop (mkF m 30 #[.val (.ref a1), .val (.int (3 : Int32)), .val (.ref a3), .val (.int (3 : Int32)), .val (.int (4 : Int32)), .val (.int (3 : Int32)), .val (.int (f 3))] [(.int (f 3)), (.int (3 : Int32)), (.ref a3)]))) (fun _ zk => XS.iload X3.here hx rfl (hb hby d6_28) rfl zk) ?_
          refine own_st (B := (T3.setTop (mkF m 31 #[.val (.ref a1), .val (.int (3 : Int32)), .val (.ref a3), .val (.int (3 : Int32)), .val (.int (4 : Int32)), .val (.int (3 : Int32)), .val (.int (f 3))] [(.int ((f 3).toInt8.toInt32)), (.int (3 : Int32)), (.ref a3)]))) (fun _ zk => XS.i2b X3.here hx rfl (hb hby d6_30) rfl zk) ?_
          obtain ⟨T4, h4, X4, e4, W4, V4, st4⟩ := own_stB X3 hx hZ e3 V3 (i := 3) (by decide) (by decide) (by decide) (g := (mkF m 31 #[.val (.ref a1), .val (.int (3 : Int32)), .val (.ref a3), .val (.int (3 : Int32)), .val (.int (4 : Int32)), .val (.int (3 : Int32)), .val (.int (f 3))] [(.int ((f 3).toInt8.toInt32)), (.int (3 : Int32)), (.ref a3)])) rfl rfl (hb hby d6_31)
          refine own_st (B := (T4.setTop (mkF m 32 #[.val (.ref a1), .val (.int (3 : Int32)), .val (.ref a3), .val (.int (3 : Int32)), .val (.int (4 : Int32)), .val (.int (3 : Int32)), .val (.int (f 3))] []))) st4 ?_
          have N4 := Fr.snoc X4 N3 gb
          have KK4 : Keep h0 h4 [a3] := KK3.wr W4 (Or.inl (List.mem_of_getElem? (i := 0) rfl))
          have VC4 := VC3.other W4 nab
          refine own_st (B := (T4.setTop (mkF m 35 #[.val (.ref a1), .val (.int (4 : Int32)), .val (.ref a3), .val (.int (3 : Int32)), .val (.int (4 : Int32)), .val (.int (3 : Int32)), .val (.int (f 3))] []))) (fun _ zk => XS.iinc X4.here hx rfl (hb hby d6_32) rfl (l' := #[.val (.ref a1), .val (.int (4 : Int32)), .val (.ref a3), .val (.int (3 : Int32)), .val (.int (4 : Int32)), .val (.int (3 : Int32)), .val (.int (f 3))]) rfl zk) ?_
          refine own_st (B := (T4.setTop (mkF m 38 #[.val (.ref a1), .val (.int (4 : Int32)), .val (.ref a3), .val (.int (4 : Int32)), .val (.int (4 : Int32)), .val (.int (3 : Int32)), .val (.int (f 3))] []))) (fun _ zk => XS.iinc X4.here hx rfl (hb hby d6_35) rfl (l' := #[.val (.ref a1), .val (.int (4 : Int32)), .val (.ref a3), .val (.int (4 : Int32)), .val (.int (4 : Int32)), .val (.int (3 : Int32)), .val (.int (f 3))]) rfl zk) ?_
          refine own_st (B := (T4.setTop (mkF m 41 #[.val (.ref a1), .val (.int (4 : Int32)), .val (.ref a3), .val (.int (4 : Int32)), .val (.int (4 : Int32)), .val (.int (4 : Int32)), .val (.int (f 3))] []))) (fun _ zk => XS.iinc X4.here hx rfl (hb hby d6_38) rfl (l' := #[.val (.ref a1), .val (.int (4 : Int32)), .val (.ref a3), .val (.int (4 : Int32)), .val (.int (4 : Int32)), .val (.int (4 : Int32)), .val (.int (f 3))]) rfl zk) ?_
          refine own_st (B := (T4.setTop (mkF m 3 #[.val (.ref a1), .val (.int (4 : Int32)), .val (.ref a3), .val (.int (4 : Int32)), .val (.int (4 : Int32)), .val (.int (4 : Int32)), .val (.int (f 3))] []))) (fun _ zk => XS.goto X4.here hx rfl (pc0 := 41) (pc' := 3) rfl (hb hby d6_41) (by decide) (by decide) zk) ?_
          refine own_st (B := (T4.setTop (mkF m 5 #[.val (.ref a1), .val (.int (4 : Int32)), .val (.ref a3), .val (.int (4 : Int32)), .val (.int (4 : Int32)), .val (.int (4 : Int32)), .val (.int (f 3))] [(.int (4 : Int32))]))) (fun _ zk => XS.iload X4.here hx rfl (hb hby d6_3) rfl zk) ?_
          refine own_st (B := (T4.setTop (mkF m 7 #[.val (.ref a1), .val (.int (4 : Int32)), .val (.ref a3), .val (.int (4 : Int32)), .val (.int (4 : Int32)), .val (.int (4 : Int32)), .val (.int (f 3))] [(.int (4 : Int32)), (.int (4 : Int32))]))) (fun _ zk => XS.iload X4.here hx rfl (hb hby d6_5) rfl zk) ?_
          refine own_st (B := (T4.setTop (mkF m 44 #[.val (.ref a1), .val (.int (4 : Int32)), .val (.ref a3), .val (.int (4 : Int32)), .val (.int (4 : Int32)), .val (.int (4 : Int32)), .val (.int (f 3))] []))) (fun _ zk => XS.icmpYes X4.here hx rfl (pc0 := 7) (pc' := 44) rfl (hb hby d6_7) rfl (flt (by decide)).2.1 (by decide) (by decide) zk) ?_
          refine own_st (B := (T4.setTop (mkF m 46 #[.val (.ref a1), .val (.int (4 : Int32)), .val (.ref a3), .val (.int (4 : Int32)), .val (.int (4 : Int32)), .val (.int (4 : Int32)), .val (.int (f 3))] [(.int (4 : Int32))]))) (fun _ zk => XS.iload X4.here hx rfl (hb hby d6_44) rfl zk) ?_
          have VN : own_AV Z h4 a3 .byte 4 (fun i => .int (own_lo (f i))) := V4.congr fun i hi => by
            have hi' : i = 0 ∨ i = 1 ∨ i = 2 ∨ i = 3 := by omega
            rcases hi' with rfl | rfl | rfl | rfl
            · exact congrArg Value.int (own_narb (f 0))
            · exact congrArg Value.int (own_narb (f 1))
            · exact congrArg Value.int (own_narb (f 2))
            · exact congrArg Value.int (own_narb (f 3))
          have hall : ∀ i, i < 4 → ¬ 255 < f i := fun i hi => by
            have hi' : i = 0 ∨ i = 1 ∨ i = 2 ∨ i = 3 := by omega
            rcases hi' with rfl | rfl | rfl | rfl
            · exact g0
            · exact g1
            · exact g2
            · exact g3
          exact own_retI X4 hx hlk hret (hb hby d6_46) (by show own_QC5 Z a3 4 f h0 n0 _ T4.heap _; rw [e4]; exact ⟨4, rfl, N4, KK4, Or.inl ⟨by decide, hall, VN⟩⟩) (by decide) (by decide)
theorem d7_0 : decode jdk_52_method_16_code 0 = .ok (.iload_n 2, 1) := by decide +kernel
theorem d7_1 : decode jdk_52_method_16_code 1 = .ok (.newarray .byte, 2) := by decide +kernel
theorem d7_3 : decode jdk_52_method_16_code 3 = .ok (.astore_n 3, 1) := by decide +kernel
theorem d7_4 : decode jdk_52_method_16_code 4 = .ok (.aload_n 0, 1) := by decide +kernel
theorem d7_5 : decode jdk_52_method_16_code 5 = .ok (.iload_n 1, 1) := by decide +kernel
theorem d7_6 : decode jdk_52_method_16_code 6 = .ok (.aload_n 3, 1) := by decide +kernel
theorem d7_7 : decode jdk_52_method_16_code 7 = .ok (.iconst 0, 1) := by decide +kernel
theorem d7_8 : decode jdk_52_method_16_code 8 = .ok (.iload_n 2, 1) := by decide +kernel
theorem pd_3 : parseMethodDescriptor "([CI[BII)I" = some ⟨[(.array .char), .int, (.array .byte), .int, .int], some .int⟩ := by decide +kernel
theorem d7_9 : decode jdk_52_method_16_code 9 = .ok (.invokestatic 115, 3) := by decide +kernel
theorem d7_12 : decode jdk_52_method_16_code 12 = .ok (.istore 4, 2) := by decide +kernel
theorem d7_14 : decode jdk_52_method_16_code 14 = .ok (.iload 4, 2) := by decide +kernel
theorem d7_16 : decode jdk_52_method_16_code 16 = .ok (.iload_n 2, 1) := by decide +kernel
theorem d7_17 : decode jdk_52_method_16_code 17 = .ok (.if_icmp .eq 40, 3) := by decide +kernel
theorem d7_57 : decode jdk_52_method_16_code 57 = .ok (.aload_n 3, 1) := by decide +kernel
theorem d7_58 : decode jdk_52_method_16_code 58 = .ok (.areturn, 1) := by decide +kernel
theorem d7_20 : decode jdk_52_method_16_code 20 = .ok (.aload_n 0, 1) := by decide +kernel
theorem d7_21 : decode jdk_52_method_16_code 21 = .ok (.iload_n 1, 1) := by decide +kernel
theorem d7_22 : decode jdk_52_method_16_code 22 = .ok (.iload_n 2, 1) := by decide +kernel
theorem pd_4 : parseMethodDescriptor "([CII)[B" = some ⟨[(.array .char), .int, .int], some (.array .byte)⟩ := by decide +kernel
theorem d7_23 : decode jdk_52_method_16_code 23 = .ok (.invokestatic 119, 3) := by decide +kernel
theorem d7_26 : decode jdk_52_method_16_code 26 = .ok (.astore 5, 2) := by decide +kernel
theorem d7_28 : decode jdk_52_method_16_code 28 = .ok (.aload 5, 2) := by decide +kernel
theorem d7_30 : decode jdk_52_method_16_code 30 = .ok (.iload 4, 2) := by decide +kernel
theorem pd_5 : parseMethodDescriptor "([BI)C" = some ⟨[(.array .byte), .int], some .char⟩ := by decide +kernel
theorem d7_32 : decode jdk_52_method_16_code 32 = .ok (.invokestatic 71, 3) := by decide +kernel
theorem d7_35 : decode jdk_52_method_16_code 35 = .ok (.sipush 255, 3) := by decide +kernel
theorem d7_38 : decode jdk_52_method_16_code 38 = .ok (.if_icmp .gt 16, 3) := by decide +kernel
theorem d7_54 : decode jdk_52_method_16_code 54 = .ok (.aload 5, 2) := by decide +kernel
theorem d7_56 : decode jdk_52_method_16_code 56 = .ok (.areturn, 1) := by decide +kernel
theorem ef_rm_c3 (m : MethodId) (x0 : Addr) (x1 : Int32) (x2 : Int32) : entryFrame m #[(.ref x0), (.int x1), (.int x2)] 6 = mkF m 0 #[.val (.ref x0), .val (.int x1), .val (.int x2), .unset, .unset, .unset] [] := by first | (simp [entryFrame, mkF, argsToLocals, Value.category]; done) | rfl
set_option maxRecDepth 65536 in
set_option maxHeartbeats 40000000 in
theorem rm_c3 (l : Launch) (Z : State) (a0 : Array Value) (hw : ∀ d ∈ tables_1, d.before a0 Z = true) (ws : List Jvm.Cond) (a1 : Addr) (f : Nat → Int32) (cs : Int32) (vG : Value) (h0 : Heap) (n0 : Nat) (Z0 : n0 ≤ h0.size) (ST : own_St Z cs vG) (hcs : ¬ cs = 0) (hG : vG.isRef = true) (O : Old Z n0 h0) (hf : ∀ i, i < 4 → 0 ≤ (f i).toInt ∧ (f i).toInt < 65536) (VA : own_AV Z h0 a1 .char 4 (fun i => .int (f i))) :
    MetFree l (⟨"java/lang/StringUTF16", "compress", "([CII)[B"⟩ : MethodName) (head1 (Jvm.Cond.code (⟨"java/lang/StringUTF16", "compress", "([CII)[B"⟩ : MethodName) jdk_52_method_16_code 6 (some (.array .byte)) :: ws) ({ frames := 3, cells := 2, slots := 12, locals := 40 } : Room)) (fun a U => a = #[(.ref a1), (.int (0 : Int32)), (.int (4 : Int32))] ∧ Z.Warmed39 U.vm ∧ U.heap = h0) (fun _ _ _ _ _ => True) (fun _ U o U' => ∃ v L, o = .returned v ∧ own_QC3 Z 4 f h0 n0 v U'.heap L ∧ FrameEnd U o U' L ({ frames := 3, cells := 2, slots := 12, locals := 40 } : Room).cells ({ frames := 3, cells := 2, slots := 12, locals := 40 } : Room).slots) := by
  refine MetFree.of_bodySF (plainFor_of_name pn_0) hisR ?_
  intro p e s m args below meth c s₁ Bd hml0 hP hK
  obtain ⟨rfl, hZ, hh⟩ := hP
  have hx := Bd.exec
  have hby := Bd.bytes
  have hlk := Bd.notSynchronized
  have hret := Bd.returns
  have hml : c.maxLocals = 6 := hml0
  have hown : s.vm.findClass "java/lang/StringUTF16" = some m.cls := findClass_of_methodNamed Bd.named
  have hnm := (name_of_methodNamed Bd.named Bd.method).1
  have X0 : Stand p l e ({ frames := 3, cells := 2, slots := 12, locals := 40 } : Room) s m #[(.ref a1), (.int (0 : Int32)), (.int (4 : Int32))] below meth c s₁ [] 0 0 := Stand.of_body Bd
  have e0 : s₁.heap = h0 := by rw [← hh, Bd.state]; rfl
  have N0 := Fr.nil n0
  show own_Dn p e below (own_Ret s (own_QC3 Z 4 f h0 n0) ({ frames := 3, cells := 2, slots := 12, locals := 40 } : Room).cells ({ frames := 3, cells := 2, slots := 12, locals := 40 } : Room).slots) (s₁.setTop (entryFrame m #[(.ref a1), (.int (0 : Int32)), (.int (4 : Int32))] 6))
  rw [ef_rm_c3]
  refine own_st (B := (s₁.setTop (mkF m 1 #[.val (.ref a1), .val (.int (0 : Int32)), .val (.int (4 : Int32)), .unset, .unset, .unset] [(.int (4 : Int32))]))) (fun _ zk => XS.iloadN X0.here hx rfl (hb hby d7_0) rfl zk) ?_
  obtain ⟨T1, h1, k1, X1, e1, E1, A1, st1⟩ := newP X0 hx hZ (hw _ (List.mem_of_getElem? (i := 24) rfl)) e0 (g := (mkF m 1 #[.val (.ref a1), .val (.int (0 : Int32)), .val (.int (4 : Int32)), .unset, .unset, .unset] [(.int (4 : Int32))])) rfl (hb hby d7_1) rfl (by decide) (cap := 4) (by decide) (by decide) (by decide) (by decide)
  obtain ⟨b1, g1⟩ : ∃ z, z = h0.size := ⟨_, rfl⟩
  rw [← g1] at A1 st1
  have g_b1 : n0 ≤ b1 := Nat.le_trans Z0 (Nat.le_of_eq g1.symm)
  have Z1 : n0 ≤ h1.size := Nat.le_trans Z0 E1.1
  refine own_st (B := (T1.setTop (mkF m 3 #[.val (.ref a1), .val (.int (0 : Int32)), .val (.int (4 : Int32)), .unset, .unset, .unset] [(.ref b1)]))) st1 ?_
  have V0 : own_AV Z h1 b1 .byte 4 (fun _ => .int 0) := own_AV.new A1 (by decide)
  have nab : a1 ≠ b1 := Nat.ne_of_lt (Nat.lt_of_lt_of_le VA.lt (Nat.le_of_eq g1.symm))
  refine own_st (B := (T1.setTop (mkF m 4 #[.val (.ref a1), .val (.int (0 : Int32)), .val (.int (4 : Int32)), .val (.ref b1), .unset, .unset] []))) (fun _ zk => XS.astoreN X1.here hx rfl (hb hby d7_3) rfl rfl (l' := #[.val (.ref a1), .val (.int (0 : Int32)), .val (.int (4 : Int32)), .val (.ref b1), .unset, .unset]) rfl zk) ?_
  refine own_st (B := (T1.setTop (mkF m 5 #[.val (.ref a1), .val (.int (0 : Int32)), .val (.int (4 : Int32)), .val (.ref b1), .unset, .unset] [(.ref a1)]))) (fun _ zk => XS.aloadN X1.here hx rfl (hb hby d7_4) rfl rfl zk) ?_
  refine own_st (B := (T1.setTop (mkF m 6 #[.val (.ref a1), .val (.int (0 : Int32)), .val (.int (4 : Int32)), .val (.ref b1), .unset, .unset] [(.int (0 : Int32)), (.ref a1)]))) (fun _ zk => XS.iloadN X1.here hx rfl (hb hby d7_5) rfl zk) ?_
  refine own_st (B := (T1.setTop (mkF m 7 #[.val (.ref a1), .val (.int (0 : Int32)), .val (.int (4 : Int32)), .val (.ref b1), .unset, .unset] [(.ref b1), (.int (0 : Int32)), (.ref a1)]))) (fun _ zk => XS.aloadN X1.here hx rfl (hb hby d7_6) rfl rfl zk) ?_
  refine own_st (B := (T1.setTop (mkF m 8 #[.val (.ref a1), .val (.int (0 : Int32)), .val (.int (4 : Int32)), .val (.ref b1), .unset, .unset] [(.int (0 : Int32)), (.ref b1), (.int (0 : Int32)), (.ref a1)]))) (fun _ zk => XS.iconst X1.here hx rfl (hb hby d7_7) zk) ?_
  refine own_st (B := (T1.setTop (mkF m 9 #[.val (.ref a1), .val (.int (0 : Int32)), .val (.int (4 : Int32)), .val (.ref b1), .unset, .unset] [(.int (4 : Int32)), (.int (0 : Int32)), (.ref b1), (.int (0 : Int32)), (.ref a1)]))) (fun _ zk => XS.iloadN X1.here hx rfl (hb hby d7_8) rfl zk) ?_
  obtain ⟨v2, T2, L2, X2, Q2, st2⟩ := own_callS (W := 0) X1 hx hZ (y := (⟨"java/lang/StringUTF16", "compress", "([CI[BII)I"⟩ : MethodName)) hown (hw _ (List.mem_of_getElem? (i := 25) rfl)) (hw _ (List.mem_of_getElem? (i := 26) rfl)) (hw _ (List.mem_of_getElem? (i := 22) rfl)) (hw _ (List.mem_of_getElem? (i := 27) rfl)) (by decide) e1 (rm_c5 l Z a0 hw [] a1 b1 f h1 n0 Z1 g_b1 nab (VA.ext E1) V0) (g := (mkF m 9 #[.val (.ref a1), .val (.int (0 : Int32)), .val (.int (4 : Int32)), .val (.ref b1), .unset, .unset] [(.int (4 : Int32)), (.int (0 : Int32)), (.ref b1), (.int (0 : Int32)), (.ref a1)])) rfl (by rw [hml]; rfl) (argsL := [(.ref a1), (.int (0 : Int32)), (.ref b1), (.int (0 : Int32)), (.int (4 : Int32))]) (rest := []) (lenOf pd_3 rfl) rfl rfl (by show 2 * 0 + _ ≤ _; exact Nat.le_of_eq rfl) (hb hby d7_9) (by decide) (by decide) (by decide) (by decide)
  obtain ⟨r, rfl, N2q, K2, hr⟩ := Q2
  refine own_st (B := (T2.setTop (mkF m 12 #[.val (.ref a1), .val (.int (0 : Int32)), .val (.int (4 : Int32)), .val (.ref b1), .unset, .unset] [(.int r)]))) st2 ?_
  have N2 := Fr.app N0 N2q
  have KK : Keep h0 T2.heap [] := ((Keep.refl h0 []).ext E1).trans K2 (fun y hy => Or.inr (by rw [List.mem_singleton.mp hy]; exact Nat.le_of_eq g1.symm))
  have ZJ : n0 ≤ T2.heap.size := Nat.le_trans Z1 K2.1
  have OJ := (O.ext E1).keep K2 (allS g_b1 all0)
  have VJ := (VA.ext E1).keep K2 (ninS nab nin0)
  refine own_st (B := (T2.setTop (mkF m 14 #[.val (.ref a1), .val (.int (0 : Int32)), .val (.int (4 : Int32)), .val (.ref b1), .val (.int r), .unset] []))) (fun _ zk => XS.istore X2.here hx rfl (hb hby d7_12) rfl (l' := #[.val (.ref a1), .val (.int (0 : Int32)), .val (.int (4 : Int32)), .val (.ref b1), .val (.int r), .unset]) rfl zk) ?_
  refine own_st (B := (T2.setTop (mkF m 16 #[.val (.ref a1), .val (.int (0 : Int32)), .val (.int (4 : Int32)), .val (.ref b1), .val (.int r), .unset] [(.int r)]))) (fun _ zk => XS.iload X2.here hx rfl (hb hby d7_14) rfl zk) ?_
  refine own_st (B := (T2.setTop (mkF m 17 #[.val (.ref a1), .val (.int (0 : Int32)), .val (.int (4 : Int32)), .val (.ref b1), .val (.int r), .unset] [(.int (4 : Int32)), (.int r)]))) (fun _ zk => XS.iloadN X2.here hx rfl (hb hby d7_16) rfl zk) ?_
  rcases hr with ⟨h1, h2, h3⟩ | ⟨kk, h1, h2, h3⟩
  · have cE : r = 4 := Int32.toInt_inj.mp h1
    refine own_st (B := (T2.setTop (mkF m 57 #[.val (.ref a1), .val (.int (0 : Int32)), .val (.int (4 : Int32)), .val (.ref b1), .val (.int r), .unset] []))) (fun _ zk => XS.icmpYes X2.here hx rfl (pc0 := 17) (pc' := 57) rfl (hb hby d7_17) rfl (teq cE).1 (by decide) (by decide) zk) ?_
    refine own_st (B := (T2.setTop (mkF m 58 #[.val (.ref a1), .val (.int (0 : Int32)), .val (.int (4 : Int32)), .val (.ref b1), .val (.int r), .unset] [(.ref b1)]))) (fun _ zk => XS.aloadN X2.here hx rfl (hb hby d7_57) rfl rfl zk) ?_
    exact own_retA X2 hx hlk hret rfl (hb hby d7_58) (show own_QC3 Z 4 f h0 n0 _ T2.heap _ from ⟨b1, rfl, N2, KK, Or.inl ⟨h2, h3⟩⟩) (by decide) (by decide)
  · have cE : ¬ r = 4 := fun q => by
      have q' := own_tE q
      have z : (4 : Int32).toInt = 4 := by decide
      rw [z] at q'
      omega
    refine own_st (B := (T2.setTop (mkF m 20 #[.val (.ref a1), .val (.int (0 : Int32)), .val (.int (4 : Int32)), .val (.ref b1), .val (.int r), .unset] []))) (fun _ zk => XS.icmpNo X2.here hx rfl (hb hby d7_17) rfl (feq cE).1 zk) ?_
    refine own_st (B := (T2.setTop (mkF m 21 #[.val (.ref a1), .val (.int (0 : Int32)), .val (.int (4 : Int32)), .val (.ref b1), .val (.int r), .unset] [(.ref a1)]))) (fun _ zk => XS.aloadN X2.here hx rfl (hb hby d7_20) rfl rfl zk) ?_
    refine own_st (B := (T2.setTop (mkF m 22 #[.val (.ref a1), .val (.int (0 : Int32)), .val (.int (4 : Int32)), .val (.ref b1), .val (.int r), .unset] [(.int (0 : Int32)), (.ref a1)]))) (fun _ zk => XS.iloadN X2.here hx rfl (hb hby d7_21) rfl zk) ?_
    refine own_st (B := (T2.setTop (mkF m 23 #[.val (.ref a1), .val (.int (0 : Int32)), .val (.int (4 : Int32)), .val (.ref b1), .val (.int r), .unset] [(.int (4 : Int32)), (.int (0 : Int32)), (.ref a1)]))) (fun _ zk => XS.iloadN X2.here hx rfl (hb hby d7_22) rfl zk) ?_
    obtain ⟨v3, T3, L3, X3, Q3, st3⟩ := own_callS (W := 0) X2 hx hZ (y := (⟨"java/lang/StringUTF16", "toBytes", "([CII)[B"⟩ : MethodName)) hown (hw _ (List.mem_of_getElem? (i := 65) rfl)) (hw _ (List.mem_of_getElem? (i := 66) rfl)) (hw _ (List.mem_of_getElem? (i := 22) rfl)) (hw _ (List.mem_of_getElem? (i := 67) rfl)) (by decide) rfl (rm_tob l Z a0 hw [] a1 f cs vG T2.heap n0 ZJ ST hcs hG OJ VJ) (g := (mkF m 23 #[.val (.ref a1), .val (.int (0 : Int32)), .val (.int (4 : Int32)), .val (.ref b1), .val (.int r), .unset] [(.int (4 : Int32)), (.int (0 : Int32)), (.ref a1)])) rfl (by rw [hml]; rfl) (argsL := [(.ref a1), (.int (0 : Int32)), (.int (4 : Int32))]) (rest := []) (lenOf pd_4 rfl) rfl rfl (by show 2 * 0 + _ ≤ _; exact Nat.le_of_eq rfl) (hb hby d7_23) (by decide) (by decide) (by decide) (by decide)
    obtain ⟨bb, rfl, N3q, K3, V3⟩ := Q3
    refine own_st (B := (T3.setTop (mkF m 26 #[.val (.ref a1), .val (.int (0 : Int32)), .val (.int (4 : Int32)), .val (.ref b1), .val (.int r), .unset] [(.ref bb)]))) st3 ?_
    have N3 := Fr.app N2 N3q
    refine own_st (B := (T3.setTop (mkF m 28 #[.val (.ref a1), .val (.int (0 : Int32)), .val (.int (4 : Int32)), .val (.ref b1), .val (.int r), .val (.ref bb)] []))) (fun _ zk => XS.astore X3.here hx rfl (hb hby d7_26) rfl rfl (l' := #[.val (.ref a1), .val (.int (0 : Int32)), .val (.int (4 : Int32)), .val (.ref b1), .val (.int r), .val (.ref bb)]) rfl zk) ?_
    refine own_st (B := (T3.setTop (mkF m 30 #[.val (.ref a1), .val (.int (0 : Int32)), .val (.int (4 : Int32)), .val (.ref b1), .val (.int r), .val (.ref bb)] [(.ref bb)]))) (fun _ zk => XS.aload X3.here hx rfl (hb hby d7_28) rfl rfl zk) ?_
    refine own_st (B := (T3.setTop (mkF m 32 #[.val (.ref a1), .val (.int (0 : Int32)), .val (.int (4 : Int32)), .val (.ref b1), .val (.int r), .val (.ref bb)] [(.int r), (.ref bb)]))) (fun _ zk => XS.iload X3.here hx rfl (hb hby d7_30) rfl zk) ?_
    have ZQ : n0 ≤ T3.heap.size := Nat.le_trans ZJ K3.1
    have hgc : own_gc (own_u f (2 * kk)) (own_u f (2 * kk + 1)) = f kk := by
      have e1 : own_u f (2 * kk) = own_lo (f kk) := by
        unfold own_u
        rw [if_pos (by omega), show 2 * kk / 2 = kk by omega]
      have e2 : own_u f (2 * kk + 1) = own_hi (f kk) := by
        unfold own_u
        rw [if_neg (by omega), show (2 * kk + 1) / 2 = kk by omega]
      rw [e1, e2]
      exact own_gc_eq (hf kk h1)
    obtain ⟨v4, T4, L4, X4, Q4, st4⟩ := own_callS (W := 0) X3 hx hZ (y := (⟨"java/lang/StringUTF16", "getChar", "([BI)C"⟩ : MethodName)) hown (hw _ (List.mem_of_getElem? (i := 81) rfl)) (hw _ (List.mem_of_getElem? (i := 82) rfl)) (hw _ (List.mem_of_getElem? (i := 22) rfl)) (hw _ (List.mem_of_getElem? (i := 83) rfl)) (by decide) rfl (rm_get l Z a0 hw [] bb r 8 kk (own_u f) (f kk) cs vG T3.heap n0 ZQ ST hcs hG (OJ.keep K3 all0) V3 h2 (by omega) (by decide) hgc) (g := (mkF m 32 #[.val (.ref a1), .val (.int (0 : Int32)), .val (.int (4 : Int32)), .val (.ref b1), .val (.int r), .val (.ref bb)] [(.int r), (.ref bb)])) rfl (by rw [hml]; rfl) (argsL := [(.ref bb), (.int r)]) (rest := []) (lenOf pd_5 rfl) rfl rfl (by show 2 * 0 + _ ≤ _; exact Nat.le_of_eq rfl) (hb hby d7_32) (by decide) (by decide) (by decide) (by decide)
    obtain ⟨rfl, rfl, qe4⟩ := Q4
    refine own_st (B := (T4.setTop (mkF m 35 #[.val (.ref a1), .val (.int (0 : Int32)), .val (.int (4 : Int32)), .val (.ref b1), .val (.int r), .val (.ref bb)] [(.int (f kk))]))) st4 ?_
    have N4 := Fr.app N3 (Fr.nil n0)
    refine own_st (B := (T4.setTop (mkF m 38 #[.val (.ref a1), .val (.int (0 : Int32)), .val (.int (4 : Int32)), .val (.ref b1), .val (.int r), .val (.ref bb)] [(.int (255 : Int32)), (.int (f kk))]))) (fun _ zk => XS.sipush X4.here hx rfl (hb hby d7_35) zk) ?_
    refine own_st (B := (T4.setTop (mkF m 54 #[.val (.ref a1), .val (.int (0 : Int32)), .val (.int (4 : Int32)), .val (.ref b1), .val (.int r), .val (.ref bb)] []))) (fun _ zk => XS.icmpYes X4.here hx rfl (pc0 := 38) (pc' := 54) rfl (hb hby d7_38) rfl (tlt h3).2.2.1 (by decide) (by decide) zk) ?_
    refine own_st (B := (T4.setTop (mkF m 56 #[.val (.ref a1), .val (.int (0 : Int32)), .val (.int (4 : Int32)), .val (.ref b1), .val (.int r), .val (.ref bb)] [(.ref bb)]))) (fun _ zk => XS.aload X4.here hx rfl (hb hby d7_54) rfl rfl zk) ?_
    exact own_retA X4 hx hlk hret rfl (hb hby d7_56) (by show own_QC3 Z 4 f h0 n0 _ T4.heap _; rw [qe4]; exact ⟨bb, rfl, by simpa using N4, KK.trans K3 (fun y hy => nomatch hy), Or.inr V3⟩) (by decide) (by decide)
theorem d8_0 : decode jdk_52_method_15_code 0 = .ok (.iload_n 1, 1) := by decide +kernel
theorem d8_1 : decode jdk_52_method_15_code 1 = .ok (.aload_n 0, 1) := by decide +kernel
theorem d8_2 : decode jdk_52_method_15_code 2 = .ok (.arraylength, 1) := by decide +kernel
theorem d8_3 : decode jdk_52_method_15_code 3 = .ok (.isub, 1) := by decide +kernel
theorem d8_4 : decode jdk_52_method_15_code 4 = .ok (.bipush 31, 2) := by decide +kernel
theorem d8_6 : decode jdk_52_method_15_code 6 = .ok (.iushr, 1) := by decide +kernel
theorem d8_7 : decode jdk_52_method_15_code 7 = .ok (.i2b, 1) := by decide +kernel
theorem d8_8 : decode jdk_52_method_15_code 8 = .ok (.ireturn, 1) := by decide +kernel
theorem ef_rm_cfl (m : MethodId) (x0 : Addr) (x1 : Int32) : entryFrame m #[(.ref x0), (.int x1)] 2 = mkF m 0 #[.val (.ref x0), .val (.int x1)] [] := by first | (simp [entryFrame, mkF, argsToLocals, Value.category]; done) | rfl
set_option maxRecDepth 65536 in
set_option maxHeartbeats 40000000 in
theorem rm_cfl (l : Launch) (Z : State) (a0 : Array Value) (hw : ∀ d ∈ tables_1, d.before a0 Z = true) (ws : List Jvm.Cond) (a1 : Addr) (z : Int32) (mz : Nat) (g : Nat → Value) (r : Int32) (h0 : Heap) (VB : own_AV Z h0 a1 .byte mz g) (hz : z.toInt = mz) (hr : nar .byte (((((4 : Int32) - z).toUInt32 >>> ((31 : Int32) &&& 31).toUInt32).toInt32).toInt8.toInt32) = r) :
    MetFree l (⟨"java/lang/StringUTF16", "coderFromArrayLen", "([BI)B"⟩ : MethodName) (head1 (Jvm.Cond.code (⟨"java/lang/StringUTF16", "coderFromArrayLen", "([BI)B"⟩ : MethodName) jdk_52_method_15_code 2 (some .byte) :: ws) ({ frames := 0, cells := 0, slots := 0, locals := 0 } : Room)) (fun a U => a = #[(.ref a1), (.int (4 : Int32))] ∧ Z.Warmed39 U.vm ∧ U.heap = h0) (fun _ _ _ _ _ => True) (fun _ U o U' => ∃ v L, o = .returned v ∧ own_QP r h0 v U'.heap L ∧ FrameEnd U o U' L ({ frames := 0, cells := 0, slots := 0, locals := 0 } : Room).cells ({ frames := 0, cells := 0, slots := 0, locals := 0 } : Room).slots) := by
  refine MetFree.of_bodySF (plainFor_of_name pn_0) hisR ?_
  intro p e s m args below meth c s₁ Bd hml0 hP hK
  obtain ⟨rfl, hZ, hh⟩ := hP
  have hx := Bd.exec
  have hby := Bd.bytes
  have hlk := Bd.notSynchronized
  have hret := Bd.returns
  have hml : c.maxLocals = 2 := hml0
  have hown : s.vm.findClass "java/lang/StringUTF16" = some m.cls := findClass_of_methodNamed Bd.named
  have hnm := (name_of_methodNamed Bd.named Bd.method).1
  have X0 : Stand p l e ({ frames := 0, cells := 0, slots := 0, locals := 0 } : Room) s m #[(.ref a1), (.int (4 : Int32))] below meth c s₁ [] 0 0 := Stand.of_body Bd
  have e0 : s₁.heap = h0 := by rw [← hh, Bd.state]; rfl
  show own_Dn p e below (own_Ret s (own_QP r h0) ({ frames := 0, cells := 0, slots := 0, locals := 0 } : Room).cells ({ frames := 0, cells := 0, slots := 0, locals := 0 } : Room).slots) (s₁.setTop (entryFrame m #[(.ref a1), (.int (4 : Int32))] 2))
  rw [ef_rm_cfl]
  refine own_st (B := (s₁.setTop (mkF m 1 #[.val (.ref a1), .val (.int (4 : Int32))] [(.int (4 : Int32))]))) (fun _ zk => XS.iloadN X0.here hx rfl (hb hby d8_0) rfl zk) ?_
  refine own_st (B := (s₁.setTop (mkF m 2 #[.val (.ref a1), .val (.int (4 : Int32))] [(.ref a1), (.int (4 : Int32))]))) (fun _ zk => XS.aloadN X0.here hx rfl (hb hby d8_1) rfl rfl zk) ?_
  refine own_st (B := (s₁.setTop (mkF m 3 #[.val (.ref a1), .val (.int (4 : Int32))] [(.int z), (.int (4 : Int32))]))) (fun _ zk => own_alen X0 hx hZ e0 VB (z := z) (own_n32 hz) (g := (mkF m 2 #[.val (.ref a1), .val (.int (4 : Int32))] [(.ref a1), (.int (4 : Int32))])) rfl rfl (hb hby d8_2) _ zk) ?_
  refine own_st (B := (s₁.setTop (mkF m 4 #[.val (.ref a1), .val (.int (4 : Int32))] [(.int ((4 : Int32) - z))]))) (fun _ zk => XS.isub X0.here hx rfl (hb hby d8_3) rfl zk) ?_
  refine own_st (B := (s₁.setTop (mkF m 6 #[.val (.ref a1), .val (.int (4 : Int32))] [(.int (31 : Int32)), (.int ((4 : Int32) - z))]))) (fun _ zk => XS.bipush X0.here hx rfl (hb hby d8_4) zk) ?_
  refine own_st (B := (s₁.setTop (mkF m 7 #[.val (.ref a1), .val (.int (4 : Int32))] [(.int ((((4 : Int32) - z).toUInt32 >>> ((31 : Int32) &&& 31).toUInt32).toInt32))]))) (fun _ zk => XS.iushr X0.here hx rfl (hb hby d8_6) rfl zk) ?_
  refine own_st (B := (s₁.setTop (mkF m 8 #[.val (.ref a1), .val (.int (4 : Int32))] [(.int (((((4 : Int32) - z).toUInt32 >>> ((31 : Int32) &&& 31).toUInt32).toInt32).toInt8.toInt32))]))) (fun _ zk => XS.i2b X0.here hx rfl (hb hby d8_7) rfl zk) ?_
  exact own_retN X0 hx hlk (t := .byte) hret (by simp) (hb hby d8_8) (by show own_QP r h0 _ s₁.heap _; rw [e0]; exact ⟨congrArg (fun z => some (Value.int z)) hr, rfl, rfl⟩) (by decide) (by decide)
theorem d9_0 : decode jdk_42_method_149_code 0 = .ok (.aload_n 0, 1) := by decide +kernel
theorem d9_1 : decode jdk_42_method_149_code 1 = .ok (.invokespecial 1, 3) := by decide +kernel
theorem d9_4 : decode jdk_42_method_149_code 4 = .ok (.iload_n 3, 1) := by decide +kernel
theorem d9_5 : decode jdk_42_method_149_code 5 = .ok (.ifCond .ne 22, 3) := by decide +kernel
theorem d9_27 : decode jdk_42_method_149_code 27 = .ok (.getstatic 38, 3) := by decide +kernel
theorem d9_30 : decode jdk_42_method_149_code 30 = .ok (.ifCond .eq 28, 3) := by decide +kernel
theorem d9_33 : decode jdk_42_method_149_code 33 = .ok (.aload_n 1, 1) := by decide +kernel
theorem d9_34 : decode jdk_42_method_149_code 34 = .ok (.iload_n 2, 1) := by decide +kernel
theorem d9_35 : decode jdk_42_method_149_code 35 = .ok (.iload_n 3, 1) := by decide +kernel
theorem d9_36 : decode jdk_42_method_149_code 36 = .ok (.invokestatic 177, 3) := by decide +kernel
theorem d9_39 : decode jdk_42_method_149_code 39 = .ok (.astore 5, 2) := by decide +kernel
theorem d9_41 : decode jdk_42_method_149_code 41 = .ok (.aload_n 0, 1) := by decide +kernel
theorem d9_42 : decode jdk_42_method_149_code 42 = .ok (.aload 5, 2) := by decide +kernel
theorem d9_44 : decode jdk_42_method_149_code 44 = .ok (.iload_n 3, 1) := by decide +kernel
theorem pd_6 : parseMethodDescriptor "([BI)B" = some ⟨[(.array .byte), .int], some .byte⟩ := by decide +kernel
theorem d9_45 : decode jdk_42_method_149_code 45 = .ok (.invokestatic 47, 3) := by decide +kernel
theorem d9_48 : decode jdk_42_method_149_code 48 = .ok (.putfield 15, 3) := by decide +kernel
theorem d9_51 : decode jdk_42_method_149_code 51 = .ok (.aload_n 0, 1) := by decide +kernel
theorem d9_52 : decode jdk_42_method_149_code 52 = .ok (.aload 5, 2) := by decide +kernel
theorem d9_54 : decode jdk_42_method_149_code 54 = .ok (.putfield 9, 3) := by decide +kernel
theorem d9_57 : decode jdk_42_method_149_code 57 = .ok (.return_, 1) := by decide +kernel
theorem ef_rm_i4 (m : MethodId) (x0 : Addr) (x1 : Addr) (x2 : Int32) (x3 : Int32) : entryFrame m #[(.ref x0), (.ref x1), (.int x2), (.int x3), .null] 6 = mkF m 0 #[.val (.ref x0), .val (.ref x1), .val (.int x2), .val (.int x3), .val .null, .unset] [] := by first | (simp [entryFrame, mkF, argsToLocals, Value.category]; done) | rfl
theorem pn_1 : plainName "java/lang/String" = true := by first | (simp [plainName, overriddenIn]; done) | decide +kernel
set_option maxRecDepth 65536 in
set_option maxHeartbeats 40000000 in
theorem rm_i4 (l : Launch) (Z : State) (a0 : Array Value) (hw : ∀ d ∈ tables_1, d.before a0 Z = true) (ws : List Jvm.Cond) (a1 a2 : Addr) (f : Nat → Int32) (v0 : Value) (c0 : Value) (cs : Int32) (vG : Value) (h0 : Heap) (n0 : Nat) (Z0 : n0 ≤ h0.size) (ST : own_St Z cs vG) (hcs : ¬ cs = 0) (hG : vG.isRef = true) (O : Old Z n0 h0) (ga : n0 ≤ a1) (EX : Exa Z h0 a1 "java/lang/String") (FV : Fld Z h0 a1 "java/lang/String" "value" "[B" v0) (FC : Fld Z h0 a1 "java/lang/String" "coder" "B" c0) (hf : ∀ i, i < 4 → 0 ≤ (f i).toInt ∧ (f i).toInt < 65536) (VA : own_AV Z h0 a2 .char 4 (fun i => .int (f i))) :
    MetFree l (⟨"java/lang/String", "<init>", "([CIILjava/lang/Void;)V"⟩ : MethodName) (head1 (Jvm.Cond.code (⟨"java/lang/String", "<init>", "([CIILjava/lang/Void;)V"⟩ : MethodName) jdk_42_method_149_code 6 none :: ws) ({ frames := 4, cells := 2, slots := 12, locals := 57 } : Room)) (fun a U => a = #[(.ref a1), (.ref a2), (.int (0 : Int32)), (.int (4 : Int32)), .null] ∧ Z.Warmed39 U.vm ∧ U.heap = h0) (fun _ _ _ _ _ => True) (fun _ U o U' => ∃ v L, o = .returned v ∧ own_QS Z a1 4 f h0 n0 v U'.heap L ∧ FrameEnd U o U' L ({ frames := 4, cells := 2, slots := 12, locals := 57 } : Room).cells ({ frames := 4, cells := 2, slots := 12, locals := 57 } : Room).slots) := by
  refine MetFree.of_bodySF (plainFor_of_name pn_1) hisR ?_
  intro p e s m args below meth c s₁ Bd hml0 hP hK
  obtain ⟨rfl, hZ, hh⟩ := hP
  have hx := Bd.exec
  have hby := Bd.bytes
  have hlk := Bd.notSynchronized
  have hret := Bd.returns
  have hml : c.maxLocals = 6 := hml0
  have hown : s.vm.findClass "java/lang/String" = some m.cls := findClass_of_methodNamed Bd.named
  have hnm := (name_of_methodNamed Bd.named Bd.method).1
  have X0 : Stand p l e ({ frames := 4, cells := 2, slots := 12, locals := 57 } : Room) s m #[(.ref a1), (.ref a2), (.int (0 : Int32)), (.int (4 : Int32)), .null] below meth c s₁ [] 0 0 := Stand.of_body Bd
  have e0 : s₁.heap = h0 := by rw [← hh, Bd.state]; rfl
  have N0 := Fr.nil n0
  show own_Dn p e below (own_Ret s (own_QS Z a1 4 f h0 n0) ({ frames := 4, cells := 2, slots := 12, locals := 57 } : Room).cells ({ frames := 4, cells := 2, slots := 12, locals := 57 } : Room).slots) (s₁.setTop (entryFrame m #[(.ref a1), (.ref a2), (.int (0 : Int32)), (.int (4 : Int32)), .null] 6))
  rw [ef_rm_i4]
  refine own_st (B := (s₁.setTop (mkF m 1 #[.val (.ref a1), .val (.ref a2), .val (.int (0 : Int32)), .val (.int (4 : Int32)), .val .null, .unset] [(.ref a1)]))) (fun _ zk => XS.aloadN X0.here hx rfl (hb hby d9_0) rfl rfl zk) ?_
  obtain ⟨T1, X1, e1, st1⟩ := initO X0 hx hZ hown (hw _ (List.mem_of_getElem? (i := 16) rfl)) (hw _ (List.mem_of_getElem? (i := 17) rfl)) (hw _ (List.mem_of_getElem? (i := 18) rfl)) e0 (g := (mkF m 1 #[.val (.ref a1), .val (.ref a2), .val (.int (0 : Int32)), .val (.int (4 : Int32)), .val .null, .unset] [(.ref a1)])) rfl (by rw [hml]; rfl) rfl (hb hby d9_1) (by decide) (W := 0) (by show 2 * 0 + _ ≤ _; exact Nat.le_of_eq rfl) (by decide)
  refine own_st (B := (T1.setTop (mkF m 4 #[.val (.ref a1), .val (.ref a2), .val (.int (0 : Int32)), .val (.int (4 : Int32)), .val .null, .unset] []))) st1 ?_
  refine own_st (B := (T1.setTop (mkF m 5 #[.val (.ref a1), .val (.ref a2), .val (.int (0 : Int32)), .val (.int (4 : Int32)), .val .null, .unset] [(.int (4 : Int32))]))) (fun _ zk => XS.iloadN X1.here hx rfl (hb hby d9_4) rfl zk) ?_
  refine own_st (B := (T1.setTop (mkF m 27 #[.val (.ref a1), .val (.ref a2), .val (.int (0 : Int32)), .val (.int (4 : Int32)), .val .null, .unset] []))) (fun _ zk => XS.ifYes X1.here hx rfl (pc0 := 5) (pc' := 27) rfl (hb hby d9_5) rfl ((if0 _ _).trans (feq (by decide)).2) (by decide) (by decide) zk) ?_
  obtain ⟨T2, X2, e2, st2⟩ := getS2 X1 hx hZ hown (host := "") (Or.inl (hw _ (List.mem_of_getElem? (i := 19) rfl))) Via.refl e1 ((ST.1).ext O.2) (g := (mkF m 27 #[.val (.ref a1), .val (.ref a2), .val (.int (0 : Int32)), .val (.int (4 : Int32)), .val .null, .unset] [])) rfl (hb hby d9_27)
  refine own_st (B := (T2.setTop (mkF m 30 #[.val (.ref a1), .val (.ref a2), .val (.int (0 : Int32)), .val (.int (4 : Int32)), .val .null, .unset] [(.int cs)]))) st2 ?_
  refine own_st (B := (T2.setTop (mkF m 33 #[.val (.ref a1), .val (.ref a2), .val (.int (0 : Int32)), .val (.int (4 : Int32)), .val .null, .unset] []))) (fun _ zk => XS.ifNo X2.here hx rfl (hb hby d9_30) rfl ((if0 _ _).trans (feq hcs).1) zk) ?_
  refine own_st (B := (T2.setTop (mkF m 34 #[.val (.ref a1), .val (.ref a2), .val (.int (0 : Int32)), .val (.int (4 : Int32)), .val .null, .unset] [(.ref a2)]))) (fun _ zk => XS.aloadN X2.here hx rfl (hb hby d9_33) rfl rfl zk) ?_
  refine own_st (B := (T2.setTop (mkF m 35 #[.val (.ref a1), .val (.ref a2), .val (.int (0 : Int32)), .val (.int (4 : Int32)), .val .null, .unset] [(.int (0 : Int32)), (.ref a2)]))) (fun _ zk => XS.iloadN X2.here hx rfl (hb hby d9_34) rfl zk) ?_
  refine own_st (B := (T2.setTop (mkF m 36 #[.val (.ref a1), .val (.ref a2), .val (.int (0 : Int32)), .val (.int (4 : Int32)), .val .null, .unset] [(.int (4 : Int32)), (.int (0 : Int32)), (.ref a2)]))) (fun _ zk => XS.iloadN X2.here hx rfl (hb hby d9_35) rfl zk) ?_
  obtain ⟨v3, T3, L3, X3, Q3, st3⟩ := own_callS (W := 0) X2 hx hZ (y := (⟨"java/lang/StringUTF16", "compress", "([CII)[B"⟩ : MethodName)) hown (hw _ (List.mem_of_getElem? (i := 20) rfl)) (hw _ (List.mem_of_getElem? (i := 21) rfl)) (hw _ (List.mem_of_getElem? (i := 22) rfl)) (hw _ (List.mem_of_getElem? (i := 23) rfl)) (by decide) e2 (rm_c3 l Z a0 hw [] a2 f cs vG h0 n0 Z0 ST hcs hG O hf VA) (g := (mkF m 36 #[.val (.ref a1), .val (.ref a2), .val (.int (0 : Int32)), .val (.int (4 : Int32)), .val .null, .unset] [(.int (4 : Int32)), (.int (0 : Int32)), (.ref a2)])) rfl (by rw [hml]; rfl) (argsL := [(.ref a2), (.int (0 : Int32)), (.int (4 : Int32))]) (rest := []) (lenOf pd_4 rfl) rfl rfl (by show 2 * 0 + _ ≤ _; exact Nat.le_of_eq rfl) (hb hby d9_36) (by decide) (by decide) (by decide) (by decide)
  obtain ⟨bb, rfl, N3q, K3, hb'⟩ := Q3
  refine own_st (B := (T3.setTop (mkF m 39 #[.val (.ref a1), .val (.ref a2), .val (.int (0 : Int32)), .val (.int (4 : Int32)), .val .null, .unset] [(.ref bb)]))) st3 ?_
  have N3 := Fr.app N0 N3q
  have EX3 := EX.keep K3
  have FC3 := FC.keep K3 nin0
  have FV3 := FV.keep K3 nin0
  refine own_st (B := (T3.setTop (mkF m 41 #[.val (.ref a1), .val (.ref a2), .val (.int (0 : Int32)), .val (.int (4 : Int32)), .val .null, .val (.ref bb)] []))) (fun _ zk => XS.astore X3.here hx rfl (hb hby d9_39) rfl rfl (l' := #[.val (.ref a1), .val (.ref a2), .val (.int (0 : Int32)), .val (.int (4 : Int32)), .val .null, .val (.ref bb)]) rfl zk) ?_
  refine own_st (B := (T3.setTop (mkF m 42 #[.val (.ref a1), .val (.ref a2), .val (.int (0 : Int32)), .val (.int (4 : Int32)), .val .null, .val (.ref bb)] [(.ref a1)]))) (fun _ zk => XS.aloadN X3.here hx rfl (hb hby d9_41) rfl rfl zk) ?_
  refine own_st (B := (T3.setTop (mkF m 44 #[.val (.ref a1), .val (.ref a2), .val (.int (0 : Int32)), .val (.int (4 : Int32)), .val .null, .val (.ref bb)] [(.ref bb), (.ref a1)]))) (fun _ zk => XS.aload X3.here hx rfl (hb hby d9_42) rfl rfl zk) ?_
  refine own_st (B := (T3.setTop (mkF m 45 #[.val (.ref a1), .val (.ref a2), .val (.int (0 : Int32)), .val (.int (4 : Int32)), .val .null, .val (.ref bb)] [(.int (4 : Int32)), (.ref bb), (.ref a1)]))) (fun _ zk => XS.iloadN X3.here hx rfl (hb hby d9_44) rfl zk) ?_
  rcases hb' with ⟨h1, h2⟩ | h2
  · obtain ⟨v4, T4, L4, X4, Q4, st4⟩ := own_callS (W := 1) X3 hx hZ (y := (⟨"java/lang/StringUTF16", "coderFromArrayLen", "([BI)B"⟩ : MethodName)) hown (hw _ (List.mem_of_getElem? (i := 28) rfl)) (hw _ (List.mem_of_getElem? (i := 29) rfl)) (hw _ (List.mem_of_getElem? (i := 22) rfl)) (hw _ (List.mem_of_getElem? (i := 30) rfl)) (by decide) rfl (rm_cfl l Z a0 hw [] bb 4 4 _ 0 T3.heap h2 (by decide) (by decide)) (g := (mkF m 45 #[.val (.ref a1), .val (.ref a2), .val (.int (0 : Int32)), .val (.int (4 : Int32)), .val .null, .val (.ref bb)] [(.int (4 : Int32)), (.ref bb), (.ref a1)])) rfl (by rw [hml]; rfl) (argsL := [(.ref bb), (.int (4 : Int32))]) (rest := [(.ref a1)]) (lenOf pd_6 rfl) rfl rfl (by show 2 * 0 + _ ≤ _; exact Nat.le_of_eq rfl) (hb hby d9_45) (by decide) (by decide) (by decide) (by decide)
    obtain ⟨rfl, rfl, qe4⟩ := Q4
    refine own_st (B := (T4.setTop (mkF m 48 #[.val (.ref a1), .val (.ref a2), .val (.int (0 : Int32)), .val (.int (4 : Int32)), .val .null, .val (.ref bb)] [(.int (0 : Int32)), (.ref a1)]))) st4 ?_
    have N4 := Fr.app N3 (Fr.nil n0)
    have nb : bb ≠ a1 := fun q => by
      obtain ⟨cl1, A1, -⟩ := h2
      exact ne_arr EX3 (hw _ (List.mem_of_getElem? (i := 7) rfl)) A1 q.symm
    obtain ⟨T5, h5, X5, e5, W5, st5⟩ := putF X4 hx hZ hown (host := "") (Or.inl (hw _ (List.mem_of_getElem? (i := 31) rfl))) Via.refl qe4 FC3 EX3 (Or.inr ⟨(hw _ (List.mem_of_getElem? (i := 32) rfl)), rfl, hnm⟩) (hw _ (List.mem_of_getElem? (i := 7) rfl)) (ty := .byte) (by decide) rfl rfl (g := (mkF m 48 #[.val (.ref a1), .val (.ref a2), .val (.int (0 : Int32)), .val (.int (4 : Int32)), .val .null, .val (.ref bb)] [(.int (0 : Int32)), (.ref a1)])) rfl rfl (hb hby d9_48)
    refine own_st (B := (T5.setTop (mkF m 51 #[.val (.ref a1), .val (.ref a2), .val (.int (0 : Int32)), .val (.int (4 : Int32)), .val .null, .val (.ref bb)] []))) st5 ?_
    have N5 := Fr.snoc X5 N4 ga
    have F5_coder := FC3.same W5
    have F5_value := (FV3.other W5 (Or.inr (slot_ne (Or.inr (hw _ (List.mem_of_getElem? (i := 34) rfl))) (Or.inr (hw _ (List.mem_of_getElem? (i := 32) rfl))) (by decide) (t := (.array .byte)) (t' := .byte) (by decide) (by decide))))
    have EX5 := EX3.wr W5
    have KP5 := ((Keep.refl h0 [a1]).trans K3 (fun y hy => nomatch hy)).wr W5 (Or.inl (List.mem_of_getElem? (i := 0) rfl))
    refine own_st (B := (T5.setTop (mkF m 52 #[.val (.ref a1), .val (.ref a2), .val (.int (0 : Int32)), .val (.int (4 : Int32)), .val .null, .val (.ref bb)] [(.ref a1)]))) (fun _ zk => XS.aloadN X5.here hx rfl (hb hby d9_51) rfl rfl zk) ?_
    refine own_st (B := (T5.setTop (mkF m 54 #[.val (.ref a1), .val (.ref a2), .val (.int (0 : Int32)), .val (.int (4 : Int32)), .val .null, .val (.ref bb)] [(.ref bb), (.ref a1)]))) (fun _ zk => XS.aload X5.here hx rfl (hb hby d9_52) rfl rfl zk) ?_
    obtain ⟨T6, h6, X6, e6, W6, st6⟩ := putF X5 hx hZ hown (host := "") (Or.inl (hw _ (List.mem_of_getElem? (i := 33) rfl))) Via.refl e5 F5_value EX5 (Or.inr ⟨(hw _ (List.mem_of_getElem? (i := 34) rfl)), rfl, hnm⟩) (hw _ (List.mem_of_getElem? (i := 7) rfl)) (ty := (.array .byte)) (by decide) rfl rfl (g := (mkF m 54 #[.val (.ref a1), .val (.ref a2), .val (.int (0 : Int32)), .val (.int (4 : Int32)), .val .null, .val (.ref bb)] [(.ref bb), (.ref a1)])) rfl rfl (hb hby d9_54)
    refine own_st (B := (T6.setTop (mkF m 57 #[.val (.ref a1), .val (.ref a2), .val (.int (0 : Int32)), .val (.int (4 : Int32)), .val .null, .val (.ref bb)] []))) st6 ?_
    have N6 := Fr.snoc X6 N5 ga
    have F6_coder := (F5_coder.other W6 (Or.inr (slot_ne (Or.inr (hw _ (List.mem_of_getElem? (i := 32) rfl))) (Or.inr (hw _ (List.mem_of_getElem? (i := 34) rfl))) (by decide) (t := .byte) (t' := (.array .byte)) (by decide) (by decide))))
    have F6_value := F5_value.same W6
    have EX6 := EX5.wr W6
    have KP6 := KP5.wr W6 (Or.inl (List.mem_of_getElem? (i := 0) rfl))
    exact own_retV X6 hx hlk hret (hb hby d9_57) (by show own_QS Z a1 4 f h0 n0 _ T6.heap _; rw [e6]; exact ⟨rfl, by simpa using N6, KP6, bb, 0, EX6, F6_coder, F6_value, Or.inl ⟨rfl, h1, (h2.other W5 nb).other W6 nb⟩⟩) (by decide) (by decide)
  · obtain ⟨v7, T7, L7, X7, Q7, st7⟩ := own_callS (W := 1) X3 hx hZ (y := (⟨"java/lang/StringUTF16", "coderFromArrayLen", "([BI)B"⟩ : MethodName)) hown (hw _ (List.mem_of_getElem? (i := 28) rfl)) (hw _ (List.mem_of_getElem? (i := 29) rfl)) (hw _ (List.mem_of_getElem? (i := 22) rfl)) (hw _ (List.mem_of_getElem? (i := 30) rfl)) (by decide) rfl (rm_cfl l Z a0 hw [] bb 8 8 _ 1 T3.heap h2 (by decide) (by decide)) (g := (mkF m 45 #[.val (.ref a1), .val (.ref a2), .val (.int (0 : Int32)), .val (.int (4 : Int32)), .val .null, .val (.ref bb)] [(.int (4 : Int32)), (.ref bb), (.ref a1)])) rfl (by rw [hml]; rfl) (argsL := [(.ref bb), (.int (4 : Int32))]) (rest := [(.ref a1)]) (lenOf pd_6 rfl) rfl rfl (by show 2 * 0 + _ ≤ _; exact Nat.le_of_eq rfl) (hb hby d9_45) (by decide) (by decide) (by decide) (by decide)
    obtain ⟨rfl, rfl, qe7⟩ := Q7
    refine own_st (B := (T7.setTop (mkF m 48 #[.val (.ref a1), .val (.ref a2), .val (.int (0 : Int32)), .val (.int (4 : Int32)), .val .null, .val (.ref bb)] [(.int (1 : Int32)), (.ref a1)]))) st7 ?_
    have N7 := Fr.app N3 (Fr.nil n0)
    have nb : bb ≠ a1 := fun q => by
      obtain ⟨cl1, A1, -⟩ := h2
      exact ne_arr EX3 (hw _ (List.mem_of_getElem? (i := 7) rfl)) A1 q.symm
    obtain ⟨T8, h8, X8, e8, W8, st8⟩ := putF X7 hx hZ hown (host := "") (Or.inl (hw _ (List.mem_of_getElem? (i := 31) rfl))) Via.refl qe7 FC3 EX3 (Or.inr ⟨(hw _ (List.mem_of_getElem? (i := 32) rfl)), rfl, hnm⟩) (hw _ (List.mem_of_getElem? (i := 7) rfl)) (ty := .byte) (by decide) rfl rfl (g := (mkF m 48 #[.val (.ref a1), .val (.ref a2), .val (.int (0 : Int32)), .val (.int (4 : Int32)), .val .null, .val (.ref bb)] [(.int (1 : Int32)), (.ref a1)])) rfl rfl (hb hby d9_48)
    refine own_st (B := (T8.setTop (mkF m 51 #[.val (.ref a1), .val (.ref a2), .val (.int (0 : Int32)), .val (.int (4 : Int32)), .val .null, .val (.ref bb)] []))) st8 ?_
    have N8 := Fr.snoc X8 N7 ga
    have F8_coder := FC3.same W8
    have F8_value := (FV3.other W8 (Or.inr (slot_ne (Or.inr (hw _ (List.mem_of_getElem? (i := 34) rfl))) (Or.inr (hw _ (List.mem_of_getElem? (i := 32) rfl))) (by decide) (t := (.array .byte)) (t' := .byte) (by decide) (by decide))))
    have EX8 := EX3.wr W8
    have KP8 := ((Keep.refl h0 [a1]).trans K3 (fun y hy => nomatch hy)).wr W8 (Or.inl (List.mem_of_getElem? (i := 0) rfl))
    refine own_st (B := (T8.setTop (mkF m 52 #[.val (.ref a1), .val (.ref a2), .val (.int (0 : Int32)), .val (.int (4 : Int32)), .val .null, .val (.ref bb)] [(.ref a1)]))) (fun _ zk => XS.aloadN X8.here hx rfl (hb hby d9_51) rfl rfl zk) ?_
    refine own_st (B := (T8.setTop (mkF m 54 #[.val (.ref a1), .val (.ref a2), .val (.int (0 : Int32)), .val (.int (4 : Int32)), .val .null, .val (.ref bb)] [(.ref bb), (.ref a1)]))) (fun _ zk => XS.aload X8.here hx rfl (hb hby d9_52) rfl rfl zk) ?_
    obtain ⟨T9, h9, X9, e9, W9, st9⟩ := putF X8 hx hZ hown (host := "") (Or.inl (hw _ (List.mem_of_getElem? (i := 33) rfl))) Via.refl e8 F8_value EX8 (Or.inr ⟨(hw _ (List.mem_of_getElem? (i := 34) rfl)), rfl, hnm⟩) (hw _ (List.mem_of_getElem? (i := 7) rfl)) (ty := (.array .byte)) (by decide) rfl rfl (g := (mkF m 54 #[.val (.ref a1), .val (.ref a2), .val (.int (0 : Int32)), .val (.int (4 : Int32)), .val .null, .val (.ref bb)] [(.ref bb), (.ref a1)])) rfl rfl (hb hby d9_54)
    refine own_st (B := (T9.setTop (mkF m 57 #[.val (.ref a1), .val (.ref a2), .val (.int (0 : Int32)), .val (.int (4 : Int32)), .val .null, .val (.ref bb)] []))) st9 ?_
    have N9 := Fr.snoc X9 N8 ga
    have F9_coder := (F8_coder.other W9 (Or.inr (slot_ne (Or.inr (hw _ (List.mem_of_getElem? (i := 32) rfl))) (Or.inr (hw _ (List.mem_of_getElem? (i := 34) rfl))) (by decide) (t := .byte) (t' := (.array .byte)) (by decide) (by decide))))
    have F9_value := F8_value.same W9
    have EX9 := EX8.wr W9
    have KP9 := KP8.wr W9 (Or.inl (List.mem_of_getElem? (i := 0) rfl))
    exact own_retV X9 hx hlk hret (hb hby d9_57) (by show own_QS Z a1 4 f h0 n0 _ T9.heap _; rw [e9]; exact ⟨rfl, by simpa using N9, KP9, bb, 1, EX9, F9_coder, F9_value, Or.inr ⟨rfl, (h2.other W8 nb).other W9 nb⟩⟩) (by decide) (by decide)
theorem d10_0 : decode jdk_42_method_3_code 0 = .ok (.aload_n 0, 1) := by decide +kernel
theorem d10_1 : decode jdk_42_method_3_code 1 = .ok (.aload_n 1, 1) := by decide +kernel
theorem d10_2 : decode jdk_42_method_3_code 2 = .ok (.iconst 0, 1) := by decide +kernel
theorem d10_3 : decode jdk_42_method_3_code 3 = .ok (.aload_n 1, 1) := by decide +kernel
theorem d10_4 : decode jdk_42_method_3_code 4 = .ok (.arraylength, 1) := by decide +kernel
theorem d10_5 : decode jdk_42_method_3_code 5 = .ok (.aconst_null, 1) := by decide +kernel
theorem pd_7 : parseMethodDescriptor "([CIILjava/lang/Void;)V" = some ⟨[(.array .char), .int, .int, (.object "java/lang/Void")], none⟩ := by decide +kernel
theorem d10_6 : decode jdk_42_method_3_code 6 = .ok (.invokespecial 27, 3) := by decide +kernel
theorem d10_9 : decode jdk_42_method_3_code 9 = .ok (.return_, 1) := by decide +kernel
theorem ef_rm_i1 (m : MethodId) (x0 : Addr) (x1 : Addr) : entryFrame m #[(.ref x0), (.ref x1)] 2 = mkF m 0 #[.val (.ref x0), .val (.ref x1)] [] := by first | (simp [entryFrame, mkF, argsToLocals, Value.category]; done) | rfl
set_option maxRecDepth 65536 in
set_option maxHeartbeats 40000000 in
theorem rm_i1 (l : Launch) (Z : State) (a0 : Array Value) (hw : ∀ d ∈ tables_1, d.before a0 Z = true) (ws : List Jvm.Cond) (a1 a2 : Addr) (f : Nat → Int32) (v0 : Value) (c0 : Value) (cs : Int32) (vG : Value) (h0 : Heap) (n0 : Nat) (Z0 : n0 ≤ h0.size) (ST : own_St Z cs vG) (hcs : ¬ cs = 0) (hG : vG.isRef = true) (O : Old Z n0 h0) (ga : n0 ≤ a1) (EX : Exa Z h0 a1 "java/lang/String") (FV : Fld Z h0 a1 "java/lang/String" "value" "[B" v0) (FC : Fld Z h0 a1 "java/lang/String" "coder" "B" c0) (hf : ∀ i, i < 4 → 0 ≤ (f i).toInt ∧ (f i).toInt < 65536) (VA : own_AV Z h0 a2 .char 4 (fun i => .int (f i))) :
    MetFree l (⟨"java/lang/String", "<init>", "([C)V"⟩ : MethodName) (head1 (Jvm.Cond.code (⟨"java/lang/String", "<init>", "([C)V"⟩ : MethodName) jdk_42_method_3_code 2 none :: ws) ({ frames := 5, cells := 2, slots := 12, locals := 74 } : Room)) (fun a U => a = #[(.ref a1), (.ref a2)] ∧ Z.Warmed39 U.vm ∧ U.heap = h0) (fun _ _ _ _ _ => True) (fun _ U o U' => ∃ v L, o = .returned v ∧ own_QS Z a1 4 f h0 n0 v U'.heap L ∧ FrameEnd U o U' L ({ frames := 5, cells := 2, slots := 12, locals := 74 } : Room).cells ({ frames := 5, cells := 2, slots := 12, locals := 74 } : Room).slots) := by
  refine MetFree.of_bodySF (plainFor_of_name pn_1) hisR ?_
  intro p e s m args below meth c s₁ Bd hml0 hP hK
  obtain ⟨rfl, hZ, hh⟩ := hP
  have hx := Bd.exec
  have hby := Bd.bytes
  have hlk := Bd.notSynchronized
  have hret := Bd.returns
  have hml : c.maxLocals = 2 := hml0
  have hown : s.vm.findClass "java/lang/String" = some m.cls := findClass_of_methodNamed Bd.named
  have hnm := (name_of_methodNamed Bd.named Bd.method).1
  have X0 : Stand p l e ({ frames := 5, cells := 2, slots := 12, locals := 74 } : Room) s m #[(.ref a1), (.ref a2)] below meth c s₁ [] 0 0 := Stand.of_body Bd
  have e0 : s₁.heap = h0 := by rw [← hh, Bd.state]; rfl
  have N0 := Fr.nil n0
  show own_Dn p e below (own_Ret s (own_QS Z a1 4 f h0 n0) ({ frames := 5, cells := 2, slots := 12, locals := 74 } : Room).cells ({ frames := 5, cells := 2, slots := 12, locals := 74 } : Room).slots) (s₁.setTop (entryFrame m #[(.ref a1), (.ref a2)] 2))
  rw [ef_rm_i1]
  refine own_st (B := (s₁.setTop (mkF m 1 #[.val (.ref a1), .val (.ref a2)] [(.ref a1)]))) (fun _ zk => XS.aloadN X0.here hx rfl (hb hby d10_0) rfl rfl zk) ?_
  refine own_st (B := (s₁.setTop (mkF m 2 #[.val (.ref a1), .val (.ref a2)] [(.ref a2), (.ref a1)]))) (fun _ zk => XS.aloadN X0.here hx rfl (hb hby d10_1) rfl rfl zk) ?_
  refine own_st (B := (s₁.setTop (mkF m 3 #[.val (.ref a1), .val (.ref a2)] [(.int (0 : Int32)), (.ref a2), (.ref a1)]))) (fun _ zk => XS.iconst X0.here hx rfl (hb hby d10_2) zk) ?_
  refine own_st (B := (s₁.setTop (mkF m 4 #[.val (.ref a1), .val (.ref a2)] [(.ref a2), (.int (0 : Int32)), (.ref a2), (.ref a1)]))) (fun _ zk => XS.aloadN X0.here hx rfl (hb hby d10_3) rfl rfl zk) ?_
  refine own_st (B := (s₁.setTop (mkF m 5 #[.val (.ref a1), .val (.ref a2)] [(.int (4 : Int32)), (.int (0 : Int32)), (.ref a2), (.ref a1)]))) (fun _ zk => own_alen X0 hx hZ e0 VA (z := (4 : Int32)) (by decide) (g := (mkF m 4 #[.val (.ref a1), .val (.ref a2)] [(.ref a2), (.int (0 : Int32)), (.ref a2), (.ref a1)])) rfl rfl (hb hby d10_4) _ zk) ?_
  refine own_st (B := (s₁.setTop (mkF m 6 #[.val (.ref a1), .val (.ref a2)] [.null, (.int (4 : Int32)), (.int (0 : Int32)), (.ref a2), (.ref a1)]))) (fun _ zk => XS.aconstNull X0.here hx rfl (hb hby d10_5) zk) ?_
  obtain ⟨v1, T1, L1, X1, Q1, st1⟩ := own_callN (W := 0) X0 hx hZ (y := (⟨"java/lang/String", "<init>", "([CIILjava/lang/Void;)V"⟩ : MethodName)) rfl hown (hw _ (List.mem_of_getElem? (i := 12) rfl)) (hw _ (List.mem_of_getElem? (i := 13) rfl)) (hw _ (List.mem_of_getElem? (i := 8) rfl)) (hw _ (List.mem_of_getElem? (i := 15) rfl)) (by decide) e0 (rm_i4 l Z a0 hw [] a1 a2 f v0 c0 cs vG h0 n0 Z0 ST hcs hG O ga EX FV FC hf VA) (g := (mkF m 6 #[.val (.ref a1), .val (.ref a2)] [.null, (.int (4 : Int32)), (.int (0 : Int32)), (.ref a2), (.ref a1)])) rfl (by rw [hml]; rfl) (a := a1) (argsL := [(.ref a2), (.int (0 : Int32)), (.int (4 : Int32)), .null]) (rest := []) (lenOf pd_7 rfl) rfl rfl (by show 2 * 0 + _ ≤ _; exact Nat.le_of_eq rfl) (hb hby d10_6) (by decide) (by decide) (by decide) (by decide)
  obtain ⟨rfl, N1q, K1, S1⟩ := Q1
  refine own_st (B := (T1.setTop (mkF m 9 #[.val (.ref a1), .val (.ref a2)] []))) st1 ?_
  exact own_retV X1 hx hlk hret (hb hby d10_9) (show own_QS Z a1 4 f h0 n0 _ T1.heap _ from ⟨rfl, Fr.app N0 N1q, K1, S1⟩) (by decide) (by decide)
theorem d11_0 : decode jdk_52_method_6_code 0 = .ok (.aload_n 0, 1) := by decide +kernel
theorem d11_1 : decode jdk_52_method_6_code 1 = .ok (.arraylength, 1) := by decide +kernel
theorem d11_2 : decode jdk_52_method_6_code 2 = .ok (.iconst 1, 1) := by decide +kernel
theorem d11_3 : decode jdk_52_method_6_code 3 = .ok (.ishr, 1) := by decide +kernel
theorem d11_4 : decode jdk_52_method_6_code 4 = .ok (.ireturn, 1) := by decide +kernel
theorem ef_rm_ulen (m : MethodId) (x0 : Addr) : entryFrame m #[(.ref x0)] 1 = mkF m 0 #[.val (.ref x0)] [] := by first | (simp [entryFrame, mkF, argsToLocals, Value.category]; done) | rfl
set_option maxRecDepth 65536 in
set_option maxHeartbeats 40000000 in
theorem rm_ulen (l : Launch) (Z : State) (a0 : Array Value) (hw : ∀ d ∈ tables_1, d.before a0 Z = true) (ws : List Jvm.Cond) (a1 : Addr) (z : Int32) (mz k : Nat) (g : Nat → Value) (h0 : Heap) (VB : own_AV Z h0 a1 .byte mz g) (hz : z.toInt = mz) (hk : mz = 2 * k) :
    MetFree l (⟨"java/lang/StringUTF16", "length", "([B)I"⟩ : MethodName) (head1 (Jvm.Cond.code (⟨"java/lang/StringUTF16", "length", "([B)I"⟩ : MethodName) jdk_52_method_6_code 1 (some .int) :: ws) ({ frames := 0, cells := 0, slots := 0, locals := 0 } : Room)) (fun a U => a = #[(.ref a1)] ∧ Z.Warmed39 U.vm ∧ U.heap = h0) (fun _ _ _ _ _ => True) (fun _ U o U' => ∃ v L, o = .returned v ∧ own_QL k h0 v U'.heap L ∧ FrameEnd U o U' L ({ frames := 0, cells := 0, slots := 0, locals := 0 } : Room).cells ({ frames := 0, cells := 0, slots := 0, locals := 0 } : Room).slots) := by
  refine MetFree.of_bodySF (plainFor_of_name pn_0) hisR ?_
  intro p e s m args below meth c s₁ Bd hml0 hP hK
  obtain ⟨rfl, hZ, hh⟩ := hP
  have hx := Bd.exec
  have hby := Bd.bytes
  have hlk := Bd.notSynchronized
  have hret := Bd.returns
  have hml : c.maxLocals = 1 := hml0
  have hown : s.vm.findClass "java/lang/StringUTF16" = some m.cls := findClass_of_methodNamed Bd.named
  have hnm := (name_of_methodNamed Bd.named Bd.method).1
  have X0 : Stand p l e ({ frames := 0, cells := 0, slots := 0, locals := 0 } : Room) s m #[(.ref a1)] below meth c s₁ [] 0 0 := Stand.of_body Bd
  have e0 : s₁.heap = h0 := by rw [← hh, Bd.state]; rfl
  show own_Dn p e below (own_Ret s (own_QL k h0) ({ frames := 0, cells := 0, slots := 0, locals := 0 } : Room).cells ({ frames := 0, cells := 0, slots := 0, locals := 0 } : Room).slots) (s₁.setTop (entryFrame m #[(.ref a1)] 1))
  rw [ef_rm_ulen]
  refine own_st (B := (s₁.setTop (mkF m 1 #[.val (.ref a1)] [(.ref a1)]))) (fun _ zk => XS.aloadN X0.here hx rfl (hb hby d11_0) rfl rfl zk) ?_
  refine own_st (B := (s₁.setTop (mkF m 2 #[.val (.ref a1)] [(.int z)]))) (fun _ zk => own_alen X0 hx hZ e0 VB (z := z) (own_n32 hz) (g := (mkF m 1 #[.val (.ref a1)] [(.ref a1)])) rfl rfl (hb hby d11_1) _ zk) ?_
  refine own_st (B := (s₁.setTop (mkF m 3 #[.val (.ref a1)] [(.int (1 : Int32)), (.int z)]))) (fun _ zk => XS.iconst X0.here hx rfl (hb hby d11_2) zk) ?_
  refine own_st (B := (s₁.setTop (mkF m 4 #[.val (.ref a1)] [(.int (z >>> ((1 : Int32) &&& 31)))]))) (fun _ zk => XS.ishr X0.here hx rfl (hb hby d11_3) rfl zk) ?_
  have hh : (z >>> ((1 : Int32) &&& 31)).toInt = z.toInt / 2 := c_ishr z 1 1 (by decide)
  exact own_retI X0 hx hlk hret (hb hby d11_4) (by show own_QL k h0 _ s₁.heap _; rw [e0]; exact ⟨_, rfl, by omega, rfl, rfl⟩) (by decide) (by decide)
theorem d12_0 : decode jdk_41_method_11_code 0 = .ok (.iload_n 0, 1) := by decide +kernel
theorem d12_1 : decode jdk_41_method_11_code 1 = .ok (.ifCond .lt 8, 3) := by decide +kernel
theorem d12_4 : decode jdk_41_method_11_code 4 = .ok (.iload_n 0, 1) := by decide +kernel
theorem d12_5 : decode jdk_41_method_11_code 5 = .ok (.iload_n 1, 1) := by decide +kernel
theorem d12_6 : decode jdk_41_method_11_code 6 = .ok (.if_icmp .lt 10, 3) := by decide +kernel
theorem d12_16 : decode jdk_41_method_11_code 16 = .ok (.iload_n 0, 1) := by decide +kernel
theorem d12_17 : decode jdk_41_method_11_code 17 = .ok (.ireturn, 1) := by decide +kernel
theorem ef_rm_pci (m : MethodId) (x0 : Int32) (x1 : Int32) (x2 : Value) (hx2 : x2.isRef = true) : entryFrame m #[(.int x0), (.int x1), x2] 3 = mkF m 0 #[.val (.int x0), .val (.int x1), .val x2] [] := by rcases ref_cases hx2 with rfl | ⟨r2, rfl⟩ <;> rfl
theorem pn_2 : plainName "jdk/internal/util/Preconditions" = true := by first | (simp [plainName, overriddenIn]; done) | decide +kernel
set_option maxRecDepth 65536 in
set_option maxHeartbeats 40000000 in
theorem rm_pci (l : Launch) (Z : State) (a0 : Array Value) (hw : ∀ d ∈ tables_1, d.before a0 Z = true) (ws : List Jvm.Cond) (p1 p2 : Int32) (vG : Value) (k mz : Nat) (h0 : Heap) (hG : vG.isRef = true) (hi : p1.toInt = k) (hm : p2.toInt = mz) (hk : k < mz) :
    MetFree l (⟨"jdk/internal/util/Preconditions", "checkIndex", "(IILjava/util/function/BiFunction;)I"⟩ : MethodName) (head1 (Jvm.Cond.code (⟨"jdk/internal/util/Preconditions", "checkIndex", "(IILjava/util/function/BiFunction;)I"⟩ : MethodName) jdk_41_method_11_code 3 (some .int) :: ws) ({ frames := 0, cells := 0, slots := 0, locals := 0 } : Room)) (fun a U => a = #[(.int p1), (.int p2), vG] ∧ Z.Warmed39 U.vm ∧ U.heap = h0) (fun _ _ _ _ _ => True) (fun _ U o U' => ∃ v L, o = .returned v ∧ own_QP p1 h0 v U'.heap L ∧ FrameEnd U o U' L ({ frames := 0, cells := 0, slots := 0, locals := 0 } : Room).cells ({ frames := 0, cells := 0, slots := 0, locals := 0 } : Room).slots) := by
  refine MetFree.of_bodySF (plainFor_of_name pn_2) hisR ?_
  intro p e s m args below meth c s₁ Bd hml0 hP hK
  obtain ⟨rfl, hZ, hh⟩ := hP
  have hx := Bd.exec
  have hby := Bd.bytes
  have hlk := Bd.notSynchronized
  have hret := Bd.returns
  have hml : c.maxLocals = 3 := hml0
  have hown : s.vm.findClass "jdk/internal/util/Preconditions" = some m.cls := findClass_of_methodNamed Bd.named
  have hnm := (name_of_methodNamed Bd.named Bd.method).1
  have X0 : Stand p l e ({ frames := 0, cells := 0, slots := 0, locals := 0 } : Room) s m #[(.int p1), (.int p2), vG] below meth c s₁ [] 0 0 := Stand.of_body Bd
  have e0 : s₁.heap = h0 := by rw [← hh, Bd.state]; rfl
  show own_Dn p e below (own_Ret s (own_QP p1 h0) ({ frames := 0, cells := 0, slots := 0, locals := 0 } : Room).cells ({ frames := 0, cells := 0, slots := 0, locals := 0 } : Room).slots) (s₁.setTop (entryFrame m #[(.int p1), (.int p2), vG] 3))
  rw [ef_rm_pci m p1 p2 vG hG]
  refine own_st (B := (s₁.setTop (mkF m 1 #[.val (.int p1), .val (.int p2), .val vG] [(.int p1)]))) (fun _ zk => XS.iloadN X0.here hx rfl (hb hby d12_0) rfl zk) ?_
  refine own_st (B := (s₁.setTop (mkF m 4 #[.val (.int p1), .val (.int p2), .val vG] []))) (fun _ zk => XS.ifNo X0.here hx rfl (hb hby d12_1) rfl ((if0 _ _).trans (flt (own_i0 hi).2).1) zk) ?_
  refine own_st (B := (s₁.setTop (mkF m 5 #[.val (.int p1), .val (.int p2), .val vG] [(.int p1)]))) (fun _ zk => XS.iloadN X0.here hx rfl (hb hby d12_4) rfl zk) ?_
  refine own_st (B := (s₁.setTop (mkF m 6 #[.val (.int p1), .val (.int p2), .val vG] [(.int p2), (.int p1)]))) (fun _ zk => XS.iloadN X0.here hx rfl (hb hby d12_5) rfl zk) ?_
  refine own_st (B := (s₁.setTop (mkF m 16 #[.val (.int p1), .val (.int p2), .val vG] []))) (fun _ zk => XS.icmpYes X0.here hx rfl (pc0 := 6) (pc' := 16) rfl (hb hby d12_6) rfl (tlt (Int32.lt_iff_toInt_lt.mpr (by omega))).1 (by decide) (by decide) zk) ?_
  refine own_st (B := (s₁.setTop (mkF m 17 #[.val (.int p1), .val (.int p2), .val vG] [(.int p1)]))) (fun _ zk => XS.iloadN X0.here hx rfl (hb hby d12_16) rfl zk) ?_
  exact own_retI X0 hx hlk hret (hb hby d12_17) (by show own_QP p1 h0 _ s₁.heap _; rw [e0]; exact ⟨rfl, rfl, rfl⟩) (by decide) (by decide)
theorem d13_0 : decode jdk_42_method_155_code 0 = .ok (.iload_n 0, 1) := by decide +kernel
theorem d13_1 : decode jdk_42_method_155_code 1 = .ok (.iload_n 1, 1) := by decide +kernel
theorem d13_2 : decode jdk_42_method_155_code 2 = .ok (.getstatic 1053, 3) := by decide +kernel
theorem pd_8 : parseMethodDescriptor "(IILjava/util/function/BiFunction;)I" = some ⟨[.int, .int, (.object "java/util/function/BiFunction")], some .int⟩ := by decide +kernel
theorem d13_5 : decode jdk_42_method_155_code 5 = .ok (.invokestatic 1059, 3) := by decide +kernel
theorem d13_8 : decode jdk_42_method_155_code 8 = .ok (.pop, 1) := by decide +kernel
theorem d13_9 : decode jdk_42_method_155_code 9 = .ok (.return_, 1) := by decide +kernel
theorem ef_rm_sci (m : MethodId) (x0 : Int32) (x1 : Int32) : entryFrame m #[(.int x0), (.int x1)] 2 = mkF m 0 #[.val (.int x0), .val (.int x1)] [] := by first | (simp [entryFrame, mkF, argsToLocals, Value.category]; done) | rfl
set_option maxRecDepth 65536 in
set_option maxHeartbeats 40000000 in
theorem rm_sci (l : Launch) (Z : State) (a0 : Array Value) (hw : ∀ d ∈ tables_1, d.before a0 Z = true) (ws : List Jvm.Cond) (p1 p2 : Int32) (k mz : Nat) (cs : Int32) (vG : Value) (h0 : Heap) (n0 : Nat) (Z0 : n0 ≤ h0.size) (ST : own_St Z cs vG) (hcs : ¬ cs = 0) (hG : vG.isRef = true) (O : Old Z n0 h0) (hi : p1.toInt = k) (hm : p2.toInt = mz) (hk : k < mz) :
    MetFree l (⟨"java/lang/String", "checkIndex", "(II)V"⟩ : MethodName) (head1 (Jvm.Cond.code (⟨"java/lang/String", "checkIndex", "(II)V"⟩ : MethodName) jdk_42_method_155_code 2 none :: ws) ({ frames := 1, cells := 0, slots := 0, locals := 14 } : Room)) (fun a U => a = #[(.int p1), (.int p2)] ∧ Z.Warmed39 U.vm ∧ U.heap = h0) (fun _ _ _ _ _ => True) (fun _ U o U' => ∃ v L, o = .returned v ∧ own_QN h0 v U'.heap L ∧ FrameEnd U o U' L ({ frames := 1, cells := 0, slots := 0, locals := 14 } : Room).cells ({ frames := 1, cells := 0, slots := 0, locals := 14 } : Room).slots) := by
  refine MetFree.of_bodySF (plainFor_of_name pn_1) hisR ?_
  intro p e s m args below meth c s₁ Bd hml0 hP hK
  obtain ⟨rfl, hZ, hh⟩ := hP
  have hx := Bd.exec
  have hby := Bd.bytes
  have hlk := Bd.notSynchronized
  have hret := Bd.returns
  have hml : c.maxLocals = 2 := hml0
  have hown : s.vm.findClass "java/lang/String" = some m.cls := findClass_of_methodNamed Bd.named
  have hnm := (name_of_methodNamed Bd.named Bd.method).1
  have X0 : Stand p l e ({ frames := 1, cells := 0, slots := 0, locals := 14 } : Room) s m #[(.int p1), (.int p2)] below meth c s₁ [] 0 0 := Stand.of_body Bd
  have e0 : s₁.heap = h0 := by rw [← hh, Bd.state]; rfl
  have N0 := Fr.nil n0
  show own_Dn p e below (own_Ret s (own_QN h0) ({ frames := 1, cells := 0, slots := 0, locals := 14 } : Room).cells ({ frames := 1, cells := 0, slots := 0, locals := 14 } : Room).slots) (s₁.setTop (entryFrame m #[(.int p1), (.int p2)] 2))
  rw [ef_rm_sci]
  refine own_st (B := (s₁.setTop (mkF m 1 #[.val (.int p1), .val (.int p2)] [(.int p1)]))) (fun _ zk => XS.iloadN X0.here hx rfl (hb hby d13_0) rfl zk) ?_
  refine own_st (B := (s₁.setTop (mkF m 2 #[.val (.int p1), .val (.int p2)] [(.int p2), (.int p1)]))) (fun _ zk => XS.iloadN X0.here hx rfl (hb hby d13_1) rfl zk) ?_
  obtain ⟨T1, X1, e1, st1⟩ := getS2 X0 hx hZ hown (host := "") (Or.inl (hw _ (List.mem_of_getElem? (i := 60) rfl))) Via.refl e0 ((ST.2.1).ext O.2) (g := (mkF m 2 #[.val (.int p1), .val (.int p2)] [(.int p2), (.int p1)])) rfl (hb hby d13_2)
  refine own_st (B := (T1.setTop (mkF m 5 #[.val (.int p1), .val (.int p2)] [vG, (.int p2), (.int p1)]))) st1 ?_
  obtain ⟨v2, T2, L2, X2, Q2, st2⟩ := own_callS (W := 0) X1 hx hZ (y := (⟨"jdk/internal/util/Preconditions", "checkIndex", "(IILjava/util/function/BiFunction;)I"⟩ : MethodName)) hown (hw _ (List.mem_of_getElem? (i := 62) rfl)) (hw _ (List.mem_of_getElem? (i := 63) rfl)) (hw _ (List.mem_of_getElem? (i := 61) rfl)) (hw _ (List.mem_of_getElem? (i := 64) rfl)) (by decide) e1 (rm_pci l Z a0 hw [] p1 p2 vG k mz h0 hG hi hm hk) (g := (mkF m 5 #[.val (.int p1), .val (.int p2)] [vG, (.int p2), (.int p1)])) rfl (by rw [hml]; rfl) (argsL := [(.int p1), (.int p2), vG]) (rest := []) (lenOf pd_8 rfl) rfl rfl (by show 2 * 0 + _ ≤ _; exact Nat.le_of_eq rfl) (hb hby d13_5) (by decide) (by decide) (by decide) (by decide)
  obtain ⟨rfl, rfl, qe2⟩ := Q2
  refine own_st (B := (T2.setTop (mkF m 8 #[.val (.int p1), .val (.int p2)] [(.int p1)]))) st2 ?_
  have N2 := Fr.app N0 (Fr.nil n0)
  refine own_st (B := (T2.setTop (mkF m 9 #[.val (.int p1), .val (.int p2)] []))) (fun _ zk => XS.pop X2.here hx rfl (hb hby d13_8) rfl rfl zk) ?_
  exact own_retV X2 hx hlk hret (hb hby d13_9) (by show own_QN h0 _ T2.heap _; rw [qe2]; exact ⟨rfl, by simp, rfl⟩) (by decide) (by decide)
theorem d14_0 : decode jdk_52_method_91_code 0 = .ok (.iload_n 0, 1) := by decide +kernel
theorem d14_1 : decode jdk_52_method_91_code 1 = .ok (.aload_n 1, 1) := by decide +kernel
theorem pd_9 : parseMethodDescriptor "([B)I" = some ⟨[(.array .byte)], some .int⟩ := by decide +kernel
theorem d14_2 : decode jdk_52_method_91_code 2 = .ok (.invokestatic 48, 3) := by decide +kernel
theorem pd_10 : parseMethodDescriptor "(II)V" = some ⟨[.int, .int], none⟩ := by decide +kernel
theorem d14_5 : decode jdk_52_method_91_code 5 = .ok (.invokestatic 414, 3) := by decide +kernel
theorem d14_8 : decode jdk_52_method_91_code 8 = .ok (.return_, 1) := by decide +kernel
theorem ef_rm_uci (m : MethodId) (x0 : Int32) (x1 : Addr) : entryFrame m #[(.int x0), (.ref x1)] 2 = mkF m 0 #[.val (.int x0), .val (.ref x1)] [] := by first | (simp [entryFrame, mkF, argsToLocals, Value.category]; done) | rfl
set_option maxRecDepth 65536 in
set_option maxHeartbeats 40000000 in
theorem rm_uci (l : Launch) (Z : State) (a0 : Array Value) (hw : ∀ d ∈ tables_1, d.before a0 Z = true) (ws : List Jvm.Cond) (p1 : Int32) (a2 : Addr) (z : Int32) (mz kk k : Nat) (g : Nat → Value) (cs : Int32) (vG : Value) (h0 : Heap) (n0 : Nat) (Z0 : n0 ≤ h0.size) (ST : own_St Z cs vG) (hcs : ¬ cs = 0) (hG : vG.isRef = true) (O : Old Z n0 h0) (VB : own_AV Z h0 a2 .byte mz g) (hz : z.toInt = mz) (hkk : mz = 2 * kk) (hi : p1.toInt = k) (hk : k < kk) :
    MetFree l (⟨"java/lang/StringUTF16", "checkIndex", "(I[B)V"⟩ : MethodName) (head1 (Jvm.Cond.code (⟨"java/lang/StringUTF16", "checkIndex", "(I[B)V"⟩ : MethodName) jdk_52_method_91_code 2 none :: ws) ({ frames := 2, cells := 0, slots := 0, locals := 27 } : Room)) (fun a U => a = #[(.int p1), (.ref a2)] ∧ Z.Warmed39 U.vm ∧ U.heap = h0) (fun _ _ _ _ _ => True) (fun _ U o U' => ∃ v L, o = .returned v ∧ own_QN h0 v U'.heap L ∧ FrameEnd U o U' L ({ frames := 2, cells := 0, slots := 0, locals := 27 } : Room).cells ({ frames := 2, cells := 0, slots := 0, locals := 27 } : Room).slots) := by
  refine MetFree.of_bodySF (plainFor_of_name pn_0) hisR ?_
  intro p e s m args below meth c s₁ Bd hml0 hP hK
  obtain ⟨rfl, hZ, hh⟩ := hP
  have hx := Bd.exec
  have hby := Bd.bytes
  have hlk := Bd.notSynchronized
  have hret := Bd.returns
  have hml : c.maxLocals = 2 := hml0
  have hown : s.vm.findClass "java/lang/StringUTF16" = some m.cls := findClass_of_methodNamed Bd.named
  have hnm := (name_of_methodNamed Bd.named Bd.method).1
  have X0 : Stand p l e ({ frames := 2, cells := 0, slots := 0, locals := 27 } : Room) s m #[(.int p1), (.ref a2)] below meth c s₁ [] 0 0 := Stand.of_body Bd
  have e0 : s₁.heap = h0 := by rw [← hh, Bd.state]; rfl
  have N0 := Fr.nil n0
  show own_Dn p e below (own_Ret s (own_QN h0) ({ frames := 2, cells := 0, slots := 0, locals := 27 } : Room).cells ({ frames := 2, cells := 0, slots := 0, locals := 27 } : Room).slots) (s₁.setTop (entryFrame m #[(.int p1), (.ref a2)] 2))
  rw [ef_rm_uci]
  refine own_st (B := (s₁.setTop (mkF m 1 #[.val (.int p1), .val (.ref a2)] [(.int p1)]))) (fun _ zk => XS.iloadN X0.here hx rfl (hb hby d14_0) rfl zk) ?_
  refine own_st (B := (s₁.setTop (mkF m 2 #[.val (.int p1), .val (.ref a2)] [(.ref a2), (.int p1)]))) (fun _ zk => XS.aloadN X0.here hx rfl (hb hby d14_1) rfl rfl zk) ?_
  obtain ⟨v1, T1, L1, X1, Q1, st1⟩ := own_callS (W := 1) X0 hx hZ (y := (⟨"java/lang/StringUTF16", "length", "([B)I"⟩ : MethodName)) hown (hw _ (List.mem_of_getElem? (i := 90) rfl)) (hw _ (List.mem_of_getElem? (i := 91) rfl)) (hw _ (List.mem_of_getElem? (i := 22) rfl)) (hw _ (List.mem_of_getElem? (i := 92) rfl)) (by decide) e0 (rm_ulen l Z a0 hw [] a2 z mz kk g h0 VB hz hkk) (g := (mkF m 2 #[.val (.int p1), .val (.ref a2)] [(.ref a2), (.int p1)])) rfl (by rw [hml]; rfl) (argsL := [(.ref a2)]) (rest := [(.int p1)]) (lenOf pd_9 rfl) rfl rfl (by show 2 * 0 + _ ≤ _; exact Nat.le_of_eq rfl) (hb hby d14_2) (by decide) (by decide) (by decide) (by decide)
  obtain ⟨rl, rfl, hrl, rfl, qe1⟩ := Q1
  refine own_st (B := (T1.setTop (mkF m 5 #[.val (.int p1), .val (.ref a2)] [(.int rl), (.int p1)]))) st1 ?_
  have N1 := Fr.app N0 (Fr.nil n0)
  obtain ⟨v2, T2, L2, X2, Q2, st2⟩ := own_callS (W := 0) X1 hx hZ (y := (⟨"java/lang/String", "checkIndex", "(II)V"⟩ : MethodName)) hown (hw _ (List.mem_of_getElem? (i := 93) rfl)) (hw _ (List.mem_of_getElem? (i := 58) rfl)) (hw _ (List.mem_of_getElem? (i := 8) rfl)) (hw _ (List.mem_of_getElem? (i := 59) rfl)) (by decide) qe1 (rm_sci l Z a0 hw [] p1 rl k kk cs vG h0 n0 Z0 ST hcs hG O hi hrl hk) (g := (mkF m 5 #[.val (.int p1), .val (.ref a2)] [(.int rl), (.int p1)])) rfl (by rw [hml]; rfl) (argsL := [(.int p1), (.int rl)]) (rest := []) (lenOf pd_10 rfl) rfl rfl (by show 2 * 0 + _ ≤ _; exact Nat.le_of_eq rfl) (hb hby d14_5) (by decide) (by decide) (by decide) (by decide)
  obtain ⟨rfl, rfl, qe2⟩ := Q2
  refine own_st (B := (T2.setTop (mkF m 8 #[.val (.int p1), .val (.ref a2)] []))) st2 ?_
  have N2 := Fr.app N1 (Fr.nil n0)
  exact own_retV X2 hx hlk hret (hb hby d14_8) (by show own_QN h0 _ T2.heap _; rw [qe2]; exact ⟨rfl, by simp, rfl⟩) (by decide) (by decide)
theorem d15_0 : decode jdk_52_method_83_code 0 = .ok (.iload_n 1, 1) := by decide +kernel
theorem d15_1 : decode jdk_52_method_83_code 1 = .ok (.aload_n 0, 1) := by decide +kernel
theorem pd_11 : parseMethodDescriptor "(I[B)V" = some ⟨[.int, (.array .byte)], none⟩ := by decide +kernel
theorem d15_2 : decode jdk_52_method_83_code 2 = .ok (.invokestatic 67, 3) := by decide +kernel
theorem d15_5 : decode jdk_52_method_83_code 5 = .ok (.aload_n 0, 1) := by decide +kernel
theorem d15_6 : decode jdk_52_method_83_code 6 = .ok (.iload_n 1, 1) := by decide +kernel
theorem d15_7 : decode jdk_52_method_83_code 7 = .ok (.invokestatic 71, 3) := by decide +kernel
theorem d15_10 : decode jdk_52_method_83_code 10 = .ok (.ireturn, 1) := by decide +kernel
theorem ef_rm_uca (m : MethodId) (x0 : Addr) (x1 : Int32) : entryFrame m #[(.ref x0), (.int x1)] 2 = mkF m 0 #[.val (.ref x0), .val (.int x1)] [] := by first | (simp [entryFrame, mkF, argsToLocals, Value.category]; done) | rfl
set_option maxRecDepth 65536 in
set_option maxHeartbeats 40000000 in
theorem rm_uca (l : Launch) (Z : State) (a0 : Array Value) (hw : ∀ d ∈ tables_1, d.before a0 Z = true) (ws : List Jvm.Cond) (a1 : Addr) (p2 : Int32) (f : Nat → Int32) (k : Nat) (cs : Int32) (vG : Value) (h0 : Heap) (n0 : Nat) (Z0 : n0 ≤ h0.size) (ST : own_St Z cs vG) (hcs : ¬ cs = 0) (hG : vG.isRef = true) (O : Old Z n0 h0) (VB : own_AV Z h0 a1 .byte 8 (fun q => .int (own_u f q))) (hf : ∀ i, i < 4 → 0 ≤ (f i).toInt ∧ (f i).toInt < 65536) (hi : p2.toInt = k) (hk : k < 4) :
    MetFree l (⟨"java/lang/StringUTF16", "charAt", "([BI)C"⟩ : MethodName) (head1 (Jvm.Cond.code (⟨"java/lang/StringUTF16", "charAt", "([BI)C"⟩ : MethodName) jdk_52_method_83_code 2 (some .char) :: ws) ({ frames := 3, cells := 0, slots := 0, locals := 40 } : Room)) (fun a U => a = #[(.ref a1), (.int p2)] ∧ Z.Warmed39 U.vm ∧ U.heap = h0) (fun _ _ _ _ _ => True) (fun _ U o U' => ∃ v L, o = .returned v ∧ own_QP (f k) h0 v U'.heap L ∧ FrameEnd U o U' L ({ frames := 3, cells := 0, slots := 0, locals := 40 } : Room).cells ({ frames := 3, cells := 0, slots := 0, locals := 40 } : Room).slots) := by
  refine MetFree.of_bodySF (plainFor_of_name pn_0) hisR ?_
  intro p e s m args below meth c s₁ Bd hml0 hP hK
  obtain ⟨rfl, hZ, hh⟩ := hP
  have hx := Bd.exec
  have hby := Bd.bytes
  have hlk := Bd.notSynchronized
  have hret := Bd.returns
  have hml : c.maxLocals = 2 := hml0
  have hown : s.vm.findClass "java/lang/StringUTF16" = some m.cls := findClass_of_methodNamed Bd.named
  have hnm := (name_of_methodNamed Bd.named Bd.method).1
  have X0 : Stand p l e ({ frames := 3, cells := 0, slots := 0, locals := 40 } : Room) s m #[(.ref a1), (.int p2)] below meth c s₁ [] 0 0 := Stand.of_body Bd
  have e0 : s₁.heap = h0 := by rw [← hh, Bd.state]; rfl
  have N0 := Fr.nil n0
  show own_Dn p e below (own_Ret s (own_QP (f k) h0) ({ frames := 3, cells := 0, slots := 0, locals := 40 } : Room).cells ({ frames := 3, cells := 0, slots := 0, locals := 40 } : Room).slots) (s₁.setTop (entryFrame m #[(.ref a1), (.int p2)] 2))
  rw [ef_rm_uca]
  refine own_st (B := (s₁.setTop (mkF m 1 #[.val (.ref a1), .val (.int p2)] [(.int p2)]))) (fun _ zk => XS.iloadN X0.here hx rfl (hb hby d15_0) rfl zk) ?_
  refine own_st (B := (s₁.setTop (mkF m 2 #[.val (.ref a1), .val (.int p2)] [(.ref a1), (.int p2)]))) (fun _ zk => XS.aloadN X0.here hx rfl (hb hby d15_1) rfl rfl zk) ?_
  obtain ⟨v1, T1, L1, X1, Q1, st1⟩ := own_callS (W := 0) X0 hx hZ (y := (⟨"java/lang/StringUTF16", "checkIndex", "(I[B)V"⟩ : MethodName)) hown (hw _ (List.mem_of_getElem? (i := 87) rfl)) (hw _ (List.mem_of_getElem? (i := 88) rfl)) (hw _ (List.mem_of_getElem? (i := 22) rfl)) (hw _ (List.mem_of_getElem? (i := 89) rfl)) (by decide) e0 (rm_uci l Z a0 hw [] p2 a1 8 8 4 k (fun q => .int (own_u f q)) cs vG h0 n0 Z0 ST hcs hG O VB (by decide) (by decide) hi hk) (g := (mkF m 2 #[.val (.ref a1), .val (.int p2)] [(.ref a1), (.int p2)])) rfl (by rw [hml]; rfl) (argsL := [(.int p2), (.ref a1)]) (rest := []) (lenOf pd_11 rfl) rfl rfl (by show 2 * 0 + _ ≤ _; exact Nat.le_of_eq rfl) (hb hby d15_2) (by decide) (by decide) (by decide) (by decide)
  obtain ⟨rfl, rfl, qe1⟩ := Q1
  refine own_st (B := (T1.setTop (mkF m 5 #[.val (.ref a1), .val (.int p2)] []))) st1 ?_
  have N1 := Fr.app N0 (Fr.nil n0)
  refine own_st (B := (T1.setTop (mkF m 6 #[.val (.ref a1), .val (.int p2)] [(.ref a1)]))) (fun _ zk => XS.aloadN X1.here hx rfl (hb hby d15_5) rfl rfl zk) ?_
  refine own_st (B := (T1.setTop (mkF m 7 #[.val (.ref a1), .val (.int p2)] [(.int p2), (.ref a1)]))) (fun _ zk => XS.iloadN X1.here hx rfl (hb hby d15_6) rfl zk) ?_
  have hgc : own_gc (own_u f (2 * k)) (own_u f (2 * k + 1)) = f k := by
    have e1 : own_u f (2 * k) = own_lo (f k) := by
      unfold own_u
      rw [if_pos (by omega), show 2 * k / 2 = k by omega]
    have e2 : own_u f (2 * k + 1) = own_hi (f k) := by
      unfold own_u
      rw [if_neg (by omega), show (2 * k + 1) / 2 = k by omega]
    rw [e1, e2]
    exact own_gc_eq (hf k hk)
  obtain ⟨v2, T2, L2, X2, Q2, st2⟩ := own_callS (W := 0) X1 hx hZ (y := (⟨"java/lang/StringUTF16", "getChar", "([BI)C"⟩ : MethodName)) hown (hw _ (List.mem_of_getElem? (i := 81) rfl)) (hw _ (List.mem_of_getElem? (i := 82) rfl)) (hw _ (List.mem_of_getElem? (i := 22) rfl)) (hw _ (List.mem_of_getElem? (i := 83) rfl)) (by decide) qe1 (rm_get l Z a0 hw [] a1 p2 8 k (own_u f) (f k) cs vG h0 n0 Z0 ST hcs hG O VB hi (by omega) (by decide) hgc) (g := (mkF m 7 #[.val (.ref a1), .val (.int p2)] [(.int p2), (.ref a1)])) rfl (by rw [hml]; rfl) (argsL := [(.ref a1), (.int p2)]) (rest := []) (lenOf pd_5 rfl) rfl rfl (by show 2 * 0 + _ ≤ _; exact Nat.le_of_eq rfl) (hb hby d15_7) (by decide) (by decide) (by decide) (by decide)
  obtain ⟨rfl, rfl, qe2⟩ := Q2
  refine own_st (B := (T2.setTop (mkF m 10 #[.val (.ref a1), .val (.int p2)] [(.int (f k))]))) st2 ?_
  have N2 := Fr.app N1 (Fr.nil n0)
  exact own_retN X2 hx hlk (t := .char) hret (by simp) (hb hby d15_10) (by show own_QP (f k) h0 _ T2.heap _; rw [qe2]; exact ⟨congrArg (fun z => some (Value.int z)) (own_nch (hf k hk)), by simp, rfl⟩) (by decide) (by decide)
theorem d16_0 : decode jdk_43_method_2_code 0 = .ok (.iload_n 1, 1) := by decide +kernel
theorem d16_1 : decode jdk_43_method_2_code 1 = .ok (.aload_n 0, 1) := by decide +kernel
theorem d16_2 : decode jdk_43_method_2_code 2 = .ok (.arraylength, 1) := by decide +kernel
theorem d16_3 : decode jdk_43_method_2_code 3 = .ok (.invokestatic 9, 3) := by decide +kernel
theorem d16_6 : decode jdk_43_method_2_code 6 = .ok (.aload_n 0, 1) := by decide +kernel
theorem d16_7 : decode jdk_43_method_2_code 7 = .ok (.iload_n 1, 1) := by decide +kernel
theorem d16_8 : decode jdk_43_method_2_code 8 = .ok (.baload, 1) := by decide +kernel
theorem d16_9 : decode jdk_43_method_2_code 9 = .ok (.sipush 255, 3) := by decide +kernel
theorem d16_12 : decode jdk_43_method_2_code 12 = .ok (.iand, 1) := by decide +kernel
theorem d16_13 : decode jdk_43_method_2_code 13 = .ok (.i2c, 1) := by decide +kernel
theorem d16_14 : decode jdk_43_method_2_code 14 = .ok (.ireturn, 1) := by decide +kernel
theorem ef_rm_lca (m : MethodId) (x0 : Addr) (x1 : Int32) : entryFrame m #[(.ref x0), (.int x1)] 2 = mkF m 0 #[.val (.ref x0), .val (.int x1)] [] := by first | (simp [entryFrame, mkF, argsToLocals, Value.category]; done) | rfl
theorem pn_3 : plainName "java/lang/StringLatin1" = true := by first | (simp [plainName, overriddenIn]; done) | decide +kernel
set_option maxRecDepth 65536 in
set_option maxHeartbeats 40000000 in
theorem rm_lca (l : Launch) (Z : State) (a0 : Array Value) (hw : ∀ d ∈ tables_1, d.before a0 Z = true) (ws : List Jvm.Cond) (a1 : Addr) (p2 : Int32) (f : Nat → Int32) (k : Nat) (cs : Int32) (vG : Value) (h0 : Heap) (n0 : Nat) (Z0 : n0 ≤ h0.size) (ST : own_St Z cs vG) (hcs : ¬ cs = 0) (hG : vG.isRef = true) (O : Old Z n0 h0) (VB : own_AV Z h0 a1 .byte 4 (fun q => .int (own_lo (f q)))) (hf : ∀ i, i < 4 → 0 ≤ (f i).toInt ∧ (f i).toInt < 65536) (hl : ∀ i, i < 4 → ¬ 255 < f i) (hi : p2.toInt = k) (hk : k < 4) :
    MetFree l (⟨"java/lang/StringLatin1", "charAt", "([BI)C"⟩ : MethodName) (head1 (Jvm.Cond.code (⟨"java/lang/StringLatin1", "charAt", "([BI)C"⟩ : MethodName) jdk_43_method_2_code 2 (some .char) :: ws) ({ frames := 2, cells := 0, slots := 0, locals := 27 } : Room)) (fun a U => a = #[(.ref a1), (.int p2)] ∧ Z.Warmed39 U.vm ∧ U.heap = h0) (fun _ _ _ _ _ => True) (fun _ U o U' => ∃ v L, o = .returned v ∧ own_QP (f k) h0 v U'.heap L ∧ FrameEnd U o U' L ({ frames := 2, cells := 0, slots := 0, locals := 27 } : Room).cells ({ frames := 2, cells := 0, slots := 0, locals := 27 } : Room).slots) := by
  refine MetFree.of_bodySF (plainFor_of_name pn_3) hisR ?_
  intro p e s m args below meth c s₁ Bd hml0 hP hK
  obtain ⟨rfl, hZ, hh⟩ := hP
  have hx := Bd.exec
  have hby := Bd.bytes
  have hlk := Bd.notSynchronized
  have hret := Bd.returns
  have hml : c.maxLocals = 2 := hml0
  have hown : s.vm.findClass "java/lang/StringLatin1" = some m.cls := findClass_of_methodNamed Bd.named
  have hnm := (name_of_methodNamed Bd.named Bd.method).1
  have X0 : Stand p l e ({ frames := 2, cells := 0, slots := 0, locals := 27 } : Room) s m #[(.ref a1), (.int p2)] below meth c s₁ [] 0 0 := Stand.of_body Bd
  have e0 : s₁.heap = h0 := by rw [← hh, Bd.state]; rfl
  have N0 := Fr.nil n0
  show own_Dn p e below (own_Ret s (own_QP (f k) h0) ({ frames := 2, cells := 0, slots := 0, locals := 27 } : Room).cells ({ frames := 2, cells := 0, slots := 0, locals := 27 } : Room).slots) (s₁.setTop (entryFrame m #[(.ref a1), (.int p2)] 2))
  rw [ef_rm_lca]
  refine own_st (B := (s₁.setTop (mkF m 1 #[.val (.ref a1), .val (.int p2)] [(.int p2)]))) (fun _ zk => XS.iloadN X0.here hx rfl (hb hby d16_0) rfl zk) ?_
  refine own_st (B := (s₁.setTop (mkF m 2 #[.val (.ref a1), .val (.int p2)] [(.ref a1), (.int p2)]))) (fun _ zk => XS.aloadN X0.here hx rfl (hb hby d16_1) rfl rfl zk) ?_
  refine own_st (B := (s₁.setTop (mkF m 3 #[.val (.ref a1), .val (.int p2)] [(.int (4 : Int32)), (.int p2)]))) (fun _ zk => own_alen X0 hx hZ e0 VB (z := (4 : Int32)) (by decide) (g := (mkF m 2 #[.val (.ref a1), .val (.int p2)] [(.ref a1), (.int p2)])) rfl rfl (hb hby d16_2) _ zk) ?_
  obtain ⟨v1, T1, L1, X1, Q1, st1⟩ := own_callS (W := 0) X0 hx hZ (y := (⟨"java/lang/String", "checkIndex", "(II)V"⟩ : MethodName)) hown (hw _ (List.mem_of_getElem? (i := 57) rfl)) (hw _ (List.mem_of_getElem? (i := 58) rfl)) (hw _ (List.mem_of_getElem? (i := 8) rfl)) (hw _ (List.mem_of_getElem? (i := 59) rfl)) (by decide) e0 (rm_sci l Z a0 hw [] p2 4 k 4 cs vG h0 n0 Z0 ST hcs hG O hi (by decide) hk) (g := (mkF m 3 #[.val (.ref a1), .val (.int p2)] [(.int (4 : Int32)), (.int p2)])) rfl (by rw [hml]; rfl) (argsL := [(.int p2), (.int (4 : Int32))]) (rest := []) (lenOf pd_10 rfl) rfl rfl (by show 2 * 0 + _ ≤ _; exact Nat.le_of_eq rfl) (hb hby d16_3) (by decide) (by decide) (by decide) (by decide)
  obtain ⟨rfl, rfl, qe1⟩ := Q1
  refine own_st (B := (T1.setTop (mkF m 6 #[.val (.ref a1), .val (.int p2)] []))) st1 ?_
  have N1 := Fr.app N0 (Fr.nil n0)
  refine own_st (B := (T1.setTop (mkF m 7 #[.val (.ref a1), .val (.int p2)] [(.ref a1)]))) (fun _ zk => XS.aloadN X1.here hx rfl (hb hby d16_6) rfl rfl zk) ?_
  refine own_st (B := (T1.setTop (mkF m 8 #[.val (.ref a1), .val (.int p2)] [(.int p2), (.ref a1)]))) (fun _ zk => XS.iloadN X1.here hx rfl (hb hby d16_7) rfl zk) ?_
  refine own_st (B := (T1.setTop (mkF m 9 #[.val (.ref a1), .val (.int p2)] [(.int (own_lo (f k)))]))) (fun _ zk => own_baload X1 hx hZ qe1 VB (i := k) (own_i0 hi).1 (own_i0 hi).2 hk (g := (mkF m 8 #[.val (.ref a1), .val (.int p2)] [(.int p2), (.ref a1)])) rfl rfl (hb hby d16_8) _ zk) ?_
  refine own_st (B := (T1.setTop (mkF m 12 #[.val (.ref a1), .val (.int p2)] [(.int (255 : Int32)), (.int (own_lo (f k)))]))) (fun _ zk => XS.sipush X1.here hx rfl (hb hby d16_9) zk) ?_
  refine own_st (B := (T1.setTop (mkF m 13 #[.val (.ref a1), .val (.int p2)] [(.int ((own_lo (f k)) &&& (255 : Int32)))]))) (fun _ zk => XS.iand X1.here hx rfl (hb hby d16_12) rfl zk) ?_
  refine own_st (B := (T1.setTop (mkF m 14 #[.val (.ref a1), .val (.int p2)] [(.int (((own_lo (f k)) &&& (255 : Int32)).toUInt32.toUInt16.toUInt32.toInt32))]))) (fun _ zk => XS.i2c X1.here hx rfl (hb hby d16_13) rfl zk) ?_
  exact own_retN X1 hx hlk (t := .char) hret (by simp) (hb hby d16_14) (by show own_QP (f k) h0 _ T1.heap _; rw [qe1]; exact ⟨congrArg (fun z => some (Value.int z)) (own_lat (hf k hk) (hl k hk)), by simp, rfl⟩) (by decide) (by decide)
theorem d17_0 : decode jdk_42_method_154_code 0 = .ok (.getstatic 38, 3) := by decide +kernel
theorem d17_3 : decode jdk_42_method_154_code 3 = .ok (.ifCond .eq 14, 3) := by decide +kernel
theorem d17_6 : decode jdk_42_method_154_code 6 = .ok (.aload_n 0, 1) := by decide +kernel
theorem d17_7 : decode jdk_42_method_154_code 7 = .ok (.getfield 15, 3) := by decide +kernel
theorem d17_10 : decode jdk_42_method_154_code 10 = .ok (.ifCond .ne 7, 3) := by decide +kernel
theorem d17_13 : decode jdk_42_method_154_code 13 = .ok (.iconst 1, 1) := by decide +kernel
theorem d17_14 : decode jdk_42_method_154_code 14 = .ok (.goto 4, 3) := by decide +kernel
theorem d17_18 : decode jdk_42_method_154_code 18 = .ok (.ireturn, 1) := by decide +kernel
theorem d17_17 : decode jdk_42_method_154_code 17 = .ok (.iconst 0, 1) := by decide +kernel
theorem ef_rm_lat (m : MethodId) (x0 : Addr) : entryFrame m #[(.ref x0)] 1 = mkF m 0 #[.val (.ref x0)] [] := by first | (simp [entryFrame, mkF, argsToLocals, Value.category]; done) | rfl
set_option maxRecDepth 65536 in
set_option maxHeartbeats 40000000 in
theorem rm_lat (l : Launch) (Z : State) (a0 : Array Value) (hw : ∀ d ∈ tables_1, d.before a0 Z = true) (ws : List Jvm.Cond) (a1 : Addr) (cd r : Int32) (cs : Int32) (vG : Value) (h0 : Heap) (n0 : Nat) (Z0 : n0 ≤ h0.size) (ST : own_St Z cs vG) (hcs : ¬ cs = 0) (hG : vG.isRef = true) (O : Old Z n0 h0) (FC : Fld Z h0 a1 "java/lang/String" "coder" "B" (.int cd)) (hr : (cd = 0 ∧ r = 1) ∨ (¬ cd = 0 ∧ r = 0)) :
    MetFree l (⟨"java/lang/String", "isLatin1", "()Z"⟩ : MethodName) (head1 (Jvm.Cond.code (⟨"java/lang/String", "isLatin1", "()Z"⟩ : MethodName) jdk_42_method_154_code 1 (some .boolean) :: ws) ({ frames := 0, cells := 0, slots := 0, locals := 0 } : Room)) (fun a U => a = #[(.ref a1)] ∧ Z.Warmed39 U.vm ∧ U.heap = h0) (fun _ _ _ _ _ => True) (fun _ U o U' => ∃ v L, o = .returned v ∧ own_QP r h0 v U'.heap L ∧ FrameEnd U o U' L ({ frames := 0, cells := 0, slots := 0, locals := 0 } : Room).cells ({ frames := 0, cells := 0, slots := 0, locals := 0 } : Room).slots) := by
  refine MetFree.of_bodySF (plainFor_of_name pn_1) hisR ?_
  intro p e s m args below meth c s₁ Bd hml0 hP hK
  obtain ⟨rfl, hZ, hh⟩ := hP
  have hx := Bd.exec
  have hby := Bd.bytes
  have hlk := Bd.notSynchronized
  have hret := Bd.returns
  have hml : c.maxLocals = 1 := hml0
  have hown : s.vm.findClass "java/lang/String" = some m.cls := findClass_of_methodNamed Bd.named
  have hnm := (name_of_methodNamed Bd.named Bd.method).1
  have X0 : Stand p l e ({ frames := 0, cells := 0, slots := 0, locals := 0 } : Room) s m #[(.ref a1)] below meth c s₁ [] 0 0 := Stand.of_body Bd
  have e0 : s₁.heap = h0 := by rw [← hh, Bd.state]; rfl
  have N0 := Fr.nil n0
  show own_Dn p e below (own_Ret s (own_QP r h0) ({ frames := 0, cells := 0, slots := 0, locals := 0 } : Room).cells ({ frames := 0, cells := 0, slots := 0, locals := 0 } : Room).slots) (s₁.setTop (entryFrame m #[(.ref a1)] 1))
  rw [ef_rm_lat]
  obtain ⟨T1, X1, e1, st1⟩ := getS2 X0 hx hZ hown (host := "") (Or.inl (hw _ (List.mem_of_getElem? (i := 19) rfl))) Via.refl e0 ((ST.1).ext O.2) (g := (mkF m 0 #[.val (.ref a1)] [])) rfl (hb hby d17_0)
  refine own_st (B := (T1.setTop (mkF m 3 #[.val (.ref a1)] [(.int cs)]))) st1 ?_
  refine own_st (B := (T1.setTop (mkF m 6 #[.val (.ref a1)] []))) (fun _ zk => XS.ifNo X1.here hx rfl (hb hby d17_3) rfl ((if0 _ _).trans (feq hcs).1) zk) ?_
  refine own_st (B := (T1.setTop (mkF m 7 #[.val (.ref a1)] [(.ref a1)]))) (fun _ zk => XS.aloadN X1.here hx rfl (hb hby d17_6) rfl rfl zk) ?_
  obtain ⟨T2, X2, e2, st2⟩ := getF X1 hx hZ hown (host := "") (Or.inl (hw _ (List.mem_of_getElem? (i := 31) rfl))) Via.refl e1 FC (g := (mkF m 7 #[.val (.ref a1)] [(.ref a1)])) rfl rfl (hb hby d17_7)
  refine own_st (B := (T2.setTop (mkF m 10 #[.val (.ref a1)] [(.int cd)]))) st2 ?_
  by_cases c10 : cd = (0 : Int32)
  · refine own_st (B := (T2.setTop (mkF m 13 #[.val (.ref a1)] []))) (fun _ zk => XS.ifNo X2.here hx rfl (hb hby d17_10) rfl ((if0 _ _).trans (teq c10).2) zk) ?_
    refine own_st (B := (T2.setTop (mkF m 14 #[.val (.ref a1)] [(.int (1 : Int32))]))) (fun _ zk => XS.iconst X2.here hx rfl (hb hby d17_13) zk) ?_
    refine own_st (B := (T2.setTop (mkF m 18 #[.val (.ref a1)] [(.int (1 : Int32))]))) (fun _ zk => XS.goto X2.here hx rfl (pc0 := 14) (pc' := 18) rfl (hb hby d17_14) (by decide) (by decide) zk) ?_
    obtain ⟨-, rfl⟩ : cd = 0 ∧ r = 1 := hr.resolve_right (fun q => q.1 c10)
    exact own_retN X2 hx hlk (t := .boolean) hret (by simp) (hb hby d17_18) (by show own_QP 1 h0 _ T2.heap _; rw [e2]; exact ⟨rfl, rfl, rfl⟩) (by decide) (by decide)
  · refine own_st (B := (T2.setTop (mkF m 17 #[.val (.ref a1)] []))) (fun _ zk => XS.ifYes X2.here hx rfl (pc0 := 10) (pc' := 17) rfl (hb hby d17_10) rfl ((if0 _ _).trans (feq c10).2) (by decide) (by decide) zk) ?_
    refine own_st (B := (T2.setTop (mkF m 18 #[.val (.ref a1)] [(.int (0 : Int32))]))) (fun _ zk => XS.iconst X2.here hx rfl (hb hby d17_17) zk) ?_
    obtain ⟨-, rfl⟩ : ¬ cd = 0 ∧ r = 0 := hr.resolve_left (fun q => c10 q.1)
    exact own_retN X2 hx hlk (t := .boolean) hret (by simp) (hb hby d17_18) (by show own_QP 0 h0 _ T2.heap _; rw [e2]; exact ⟨rfl, rfl, rfl⟩) (by decide) (by decide)
theorem d18_0 : decode jdk_42_method_56_code 0 = .ok (.aload_n 0, 1) := by decide +kernel
theorem pd_12 : parseMethodDescriptor "()Z" = some ⟨[], some .boolean⟩ := by decide +kernel
theorem d18_1 : decode jdk_42_method_56_code 1 = .ok (.invokevirtual 492, 3) := by decide +kernel
theorem d18_4 : decode jdk_42_method_56_code 4 = .ok (.ifCond .eq 12, 3) := by decide +kernel
theorem d18_7 : decode jdk_42_method_56_code 7 = .ok (.aload_n 0, 1) := by decide +kernel
theorem d18_8 : decode jdk_42_method_56_code 8 = .ok (.getfield 9, 3) := by decide +kernel
theorem d18_11 : decode jdk_42_method_56_code 11 = .ok (.iload_n 1, 1) := by decide +kernel
theorem d18_12 : decode jdk_42_method_56_code 12 = .ok (.invokestatic 495, 3) := by decide +kernel
theorem d18_15 : decode jdk_42_method_56_code 15 = .ok (.ireturn, 1) := by decide +kernel
theorem d18_16 : decode jdk_42_method_56_code 16 = .ok (.aload_n 0, 1) := by decide +kernel
theorem d18_17 : decode jdk_42_method_56_code 17 = .ok (.getfield 9, 3) := by decide +kernel
theorem d18_20 : decode jdk_42_method_56_code 20 = .ok (.iload_n 1, 1) := by decide +kernel
theorem d18_21 : decode jdk_42_method_56_code 21 = .ok (.invokestatic 498, 3) := by decide +kernel
theorem d18_24 : decode jdk_42_method_56_code 24 = .ok (.ireturn, 1) := by decide +kernel
theorem ef_rm_cha (m : MethodId) (x0 : Addr) (x1 : Int32) : entryFrame m #[(.ref x0), (.int x1)] 2 = mkF m 0 #[.val (.ref x0), .val (.int x1)] [] := by first | (simp [entryFrame, mkF, argsToLocals, Value.category]; done) | rfl
set_option maxRecDepth 65536 in
set_option maxHeartbeats 40000000 in
theorem rm_cha (l : Launch) (Z : State) (a0 : Array Value) (hw : ∀ d ∈ tables_1, d.before a0 Z = true) (ws : List Jvm.Cond) (a1 : Addr) (p2 : Int32) (f : Nat → Int32) (k : Nat) (cs : Int32) (vG : Value) (h0 : Heap) (n0 : Nat) (Z0 : n0 ≤ h0.size) (ST : own_St Z cs vG) (hcs : ¬ cs = 0) (hG : vG.isRef = true) (O : Old Z n0 h0) (HS : own_Str Z h0 a1 4 f) (hf : ∀ i, i < 4 → 0 ≤ (f i).toInt ∧ (f i).toInt < 65536) (hi : p2.toInt = k) (hk : k < 4) :
    MetFree l (⟨"java/lang/String", "charAt", "(I)C"⟩ : MethodName) (head1 (Jvm.Cond.code (⟨"java/lang/String", "charAt", "(I)C"⟩ : MethodName) jdk_42_method_56_code 2 (some .char) :: ws) ({ frames := 4, cells := 0, slots := 0, locals := 53 } : Room)) (fun a U => a = #[(.ref a1), (.int p2)] ∧ Z.Warmed39 U.vm ∧ U.heap = h0) (fun _ _ _ _ _ => True) (fun _ U o U' => ∃ v L, o = .returned v ∧ own_QP (f k) h0 v U'.heap L ∧ FrameEnd U o U' L ({ frames := 4, cells := 0, slots := 0, locals := 53 } : Room).cells ({ frames := 4, cells := 0, slots := 0, locals := 53 } : Room).slots) := by
  refine MetFree.of_bodySF (plainFor_of_name pn_1) hisR ?_
  intro p e s m args below meth c s₁ Bd hml0 hP hK
  obtain ⟨rfl, hZ, hh⟩ := hP
  have hx := Bd.exec
  have hby := Bd.bytes
  have hlk := Bd.notSynchronized
  have hret := Bd.returns
  have hml : c.maxLocals = 2 := hml0
  have hown : s.vm.findClass "java/lang/String" = some m.cls := findClass_of_methodNamed Bd.named
  have hnm := (name_of_methodNamed Bd.named Bd.method).1
  have X0 : Stand p l e ({ frames := 4, cells := 0, slots := 0, locals := 53 } : Room) s m #[(.ref a1), (.int p2)] below meth c s₁ [] 0 0 := Stand.of_body Bd
  have e0 : s₁.heap = h0 := by rw [← hh, Bd.state]; rfl
  have N0 := Fr.nil n0
  show own_Dn p e below (own_Ret s (own_QP (f k) h0) ({ frames := 4, cells := 0, slots := 0, locals := 53 } : Room).cells ({ frames := 4, cells := 0, slots := 0, locals := 53 } : Room).slots) (s₁.setTop (entryFrame m #[(.ref a1), (.int p2)] 2))
  rw [ef_rm_cha]
  obtain ⟨t, cd, EX, FC, FV, ⟨rfl, h1, h2⟩ | ⟨rfl, h2⟩⟩ := HS
  · refine own_st (B := (s₁.setTop (mkF m 1 #[.val (.ref a1), .val (.int p2)] [(.ref a1)]))) (fun _ zk => XS.aloadN X0.here hx rfl (hb hby d18_0) rfl rfl zk) ?_
    obtain ⟨v1, T1, L1, X1, Q1, st1⟩ := own_callV (W := 0) X0 hx hZ (y := (⟨"java/lang/String", "isLatin1", "()Z"⟩ : MethodName)) (z := (⟨"java/lang/String", "isLatin1", "()Z"⟩ : MethodName)) hown (hw _ (List.mem_of_getElem? (i := 48) rfl)) (hw _ (List.mem_of_getElem? (i := 49) rfl)) (notFace_of_selects (args := #[]) (mvT hZ (hw _ (List.mem_of_getElem? (i := 51) rfl)))) (hw _ (List.mem_of_getElem? (i := 51) rfl)) (hw _ (List.mem_of_getElem? (i := 50) rfl)) (hw _ (List.mem_of_getElem? (i := 8) rfl)) (hw _ (List.mem_of_getElem? (i := 52) rfl)) (by decide) e0 (rm_lat l Z a0 hw [] a1 0 1 cs vG h0 n0 Z0 ST hcs hG O FC (by decide)) EX (g := (mkF m 1 #[.val (.ref a1), .val (.int p2)] [(.ref a1)])) rfl (by rw [hml]; rfl) (argsL := []) (rest := []) (lenOf pd_12 rfl) rfl rfl (by show 2 * 0 + _ ≤ _; exact Nat.le_of_eq rfl) (hb hby d18_1) (by decide) (by decide) (by decide) (by decide)
    obtain ⟨rfl, rfl, qe1⟩ := Q1
    refine own_st (B := (T1.setTop (mkF m 4 #[.val (.ref a1), .val (.int p2)] [(.int (1 : Int32))]))) st1 ?_
    have N1 := Fr.app N0 (Fr.nil n0)
    refine own_st (B := (T1.setTop (mkF m 7 #[.val (.ref a1), .val (.int p2)] []))) (fun _ zk => XS.ifNo X1.here hx rfl (hb hby d18_4) rfl ((if0 _ _).trans (feq (by decide)).1) zk) ?_
    refine own_st (B := (T1.setTop (mkF m 8 #[.val (.ref a1), .val (.int p2)] [(.ref a1)]))) (fun _ zk => XS.aloadN X1.here hx rfl (hb hby d18_7) rfl rfl zk) ?_
    obtain ⟨T2, X2, e2, st2⟩ := getF X1 hx hZ hown (host := "") (Or.inl (hw _ (List.mem_of_getElem? (i := 33) rfl))) Via.refl qe1 FV (g := (mkF m 8 #[.val (.ref a1), .val (.int p2)] [(.ref a1)])) rfl rfl (hb hby d18_8)
    refine own_st (B := (T2.setTop (mkF m 11 #[.val (.ref a1), .val (.int p2)] [(.ref t)]))) st2 ?_
    refine own_st (B := (T2.setTop (mkF m 12 #[.val (.ref a1), .val (.int p2)] [(.int p2), (.ref t)]))) (fun _ zk => XS.iloadN X2.here hx rfl (hb hby d18_11) rfl zk) ?_
    obtain ⟨v3, T3, L3, X3, Q3, st3⟩ := own_callS (W := 0) X2 hx hZ (y := (⟨"java/lang/StringLatin1", "charAt", "([BI)C"⟩ : MethodName)) hown (hw _ (List.mem_of_getElem? (i := 53) rfl)) (hw _ (List.mem_of_getElem? (i := 54) rfl)) (hw _ (List.mem_of_getElem? (i := 55) rfl)) (hw _ (List.mem_of_getElem? (i := 56) rfl)) (by decide) e2 (rm_lca l Z a0 hw [] t p2 f k cs vG h0 n0 Z0 ST hcs hG O h2 hf h1 hi hk) (g := (mkF m 12 #[.val (.ref a1), .val (.int p2)] [(.int p2), (.ref t)])) rfl (by rw [hml]; rfl) (argsL := [(.ref t), (.int p2)]) (rest := []) (lenOf pd_5 rfl) rfl rfl (by show 2 * 0 + _ ≤ _; exact Nat.le_of_eq rfl) (hb hby d18_12) (by decide) (by decide) (by decide) (by decide)
    obtain ⟨rfl, rfl, qe3⟩ := Q3
    refine own_st (B := (T3.setTop (mkF m 15 #[.val (.ref a1), .val (.int p2)] [(.int (f k))]))) st3 ?_
    have N3 := Fr.app N1 (Fr.nil n0)
    exact own_retN X3 hx hlk (t := .char) hret (by simp) (hb hby d18_15) (by show own_QP (f k) h0 _ T3.heap _; rw [qe3]; exact ⟨congrArg (fun z => some (Value.int z)) (own_nch (hf k hk)), by simp, rfl⟩) (by decide) (by decide)
  · refine own_st (B := (s₁.setTop (mkF m 1 #[.val (.ref a1), .val (.int p2)] [(.ref a1)]))) (fun _ zk => XS.aloadN X0.here hx rfl (hb hby d18_0) rfl rfl zk) ?_
    obtain ⟨v4, T4, L4, X4, Q4, st4⟩ := own_callV (W := 0) X0 hx hZ (y := (⟨"java/lang/String", "isLatin1", "()Z"⟩ : MethodName)) (z := (⟨"java/lang/String", "isLatin1", "()Z"⟩ : MethodName)) hown (hw _ (List.mem_of_getElem? (i := 48) rfl)) (hw _ (List.mem_of_getElem? (i := 49) rfl)) (notFace_of_selects (args := #[]) (mvT hZ (hw _ (List.mem_of_getElem? (i := 51) rfl)))) (hw _ (List.mem_of_getElem? (i := 51) rfl)) (hw _ (List.mem_of_getElem? (i := 50) rfl)) (hw _ (List.mem_of_getElem? (i := 8) rfl)) (hw _ (List.mem_of_getElem? (i := 52) rfl)) (by decide) e0 (rm_lat l Z a0 hw [] a1 1 0 cs vG h0 n0 Z0 ST hcs hG O FC (by decide)) EX (g := (mkF m 1 #[.val (.ref a1), .val (.int p2)] [(.ref a1)])) rfl (by rw [hml]; rfl) (argsL := []) (rest := []) (lenOf pd_12 rfl) rfl rfl (by show 2 * 0 + _ ≤ _; exact Nat.le_of_eq rfl) (hb hby d18_1) (by decide) (by decide) (by decide) (by decide)
    obtain ⟨rfl, rfl, qe4⟩ := Q4
    refine own_st (B := (T4.setTop (mkF m 4 #[.val (.ref a1), .val (.int p2)] [(.int (0 : Int32))]))) st4 ?_
    have N4 := Fr.app N0 (Fr.nil n0)
    refine own_st (B := (T4.setTop (mkF m 16 #[.val (.ref a1), .val (.int p2)] []))) (fun _ zk => XS.ifYes X4.here hx rfl (pc0 := 4) (pc' := 16) rfl (hb hby d18_4) rfl ((if0 _ _).trans (teq (by decide)).1) (by decide) (by decide) zk) ?_
    refine own_st (B := (T4.setTop (mkF m 17 #[.val (.ref a1), .val (.int p2)] [(.ref a1)]))) (fun _ zk => XS.aloadN X4.here hx rfl (hb hby d18_16) rfl rfl zk) ?_
    obtain ⟨T5, X5, e5, st5⟩ := getF X4 hx hZ hown (host := "") (Or.inl (hw _ (List.mem_of_getElem? (i := 33) rfl))) Via.refl qe4 FV (g := (mkF m 17 #[.val (.ref a1), .val (.int p2)] [(.ref a1)])) rfl rfl (hb hby d18_17)
    refine own_st (B := (T5.setTop (mkF m 20 #[.val (.ref a1), .val (.int p2)] [(.ref t)]))) st5 ?_
    refine own_st (B := (T5.setTop (mkF m 21 #[.val (.ref a1), .val (.int p2)] [(.int p2), (.ref t)]))) (fun _ zk => XS.iloadN X5.here hx rfl (hb hby d18_20) rfl zk) ?_
    obtain ⟨v6, T6, L6, X6, Q6, st6⟩ := own_callS (W := 0) X5 hx hZ (y := (⟨"java/lang/StringUTF16", "charAt", "([BI)C"⟩ : MethodName)) hown (hw _ (List.mem_of_getElem? (i := 84) rfl)) (hw _ (List.mem_of_getElem? (i := 85) rfl)) (hw _ (List.mem_of_getElem? (i := 22) rfl)) (hw _ (List.mem_of_getElem? (i := 86) rfl)) (by decide) e5 (rm_uca l Z a0 hw [] t p2 f k cs vG h0 n0 Z0 ST hcs hG O h2 hf hi hk) (g := (mkF m 21 #[.val (.ref a1), .val (.int p2)] [(.int p2), (.ref t)])) rfl (by rw [hml]; rfl) (argsL := [(.ref t), (.int p2)]) (rest := []) (lenOf pd_5 rfl) rfl rfl (by show 2 * 0 + _ ≤ _; exact Nat.le_of_eq rfl) (hb hby d18_21) (by decide) (by decide) (by decide) (by decide)
    obtain ⟨rfl, rfl, qe6⟩ := Q6
    refine own_st (B := (T6.setTop (mkF m 24 #[.val (.ref a1), .val (.int p2)] [(.int (f k))]))) st6 ?_
    have N6 := Fr.app N4 (Fr.nil n0)
    exact own_retN X6 hx hlk (t := .char) hret (by simp) (hb hby d18_24) (by show own_QP (f k) h0 _ T6.heap _; rw [qe6]; exact ⟨congrArg (fun z => some (Value.int z)) (own_nch (hf k hk)), by simp, rfl⟩) (by decide) (by decide)
def own_QK (h0 : Heap) (v : Option Value) (h : Heap) (L : List Loc) : Prop := ∃ c : Int32, v = some (.int c) ∧ (0 ≤ c.toInt ∧ c.toInt < 65536) ∧ L = [] ∧ h = h0
def own_dig (c : Int32) : Prop := 48 ≤ c.toInt ∧ c.toInt ≤ 57
def own_Q0 (n0 : Nat) (v : Option Value) (h : Heap) (L : List Loc) : Prop := v = some (.int 1) ∧ Fr n0 L
theorem own_rngc (x : Int32) : 0 ≤ (nar .char x).toInt ∧ (nar .char x).toInt < 65536 := by
  have a := c_i2c x
  show 0 ≤ x.toUInt32.toUInt16.toUInt32.toInt32.toInt ∧ x.toUInt32.toUInt16.toUInt32.toInt32.toInt < 65536
  omega
theorem own_mod5 (x : Int32) : ∃ k : Nat, k < 5 ∧ ((x &&& 2147483647) % 5).toInt = k := by
  have h := c_mask x 2147483647 31 (by decide) (by decide)
  have z : (5 : Int32).toInt = 5 := by decide
  have r := (c_irem (x &&& 2147483647) 5 5 z).1 (by omega)
  exact ⟨((x &&& 2147483647) % 5).toInt.toNat, by omega, by omega⟩
theorem d19_0 : decode method_2_code 0 = .ok (.iload_n 0, 1) := by decide +kernel
theorem d19_1 : decode method_2_code 1 = .ok (.bipush 16, 2) := by decide +kernel
theorem d19_3 : decode method_2_code 3 = .ok (.iushr, 1) := by decide +kernel
theorem d19_4 : decode method_2_code 4 = .ok (.iconst 1, 1) := by decide +kernel
theorem d19_5 : decode method_2_code 5 = .ok (.iand, 1) := by decide +kernel
theorem d19_6 : decode method_2_code 6 = .ok (.ifCond .eq 15, 3) := by decide +kernel
theorem d19_21 : decode method_2_code 21 = .ok (.iload_n 0, 1) := by decide +kernel
theorem d19_22 : decode method_2_code 22 = .ok (.ldc 7, 2) := by decide +kernel
theorem d19_24 : decode method_2_code 24 = .ok (.iand, 1) := by decide +kernel
theorem d19_25 : decode method_2_code 25 = .ok (.i2c, 1) := by decide +kernel
theorem d19_26 : decode method_2_code 26 = .ok (.ireturn, 1) := by decide +kernel
theorem d19_9 : decode method_2_code 9 = .ok (.bipush 47, 2) := by decide +kernel
theorem d19_11 : decode method_2_code 11 = .ok (.iload_n 0, 1) := by decide +kernel
theorem d19_12 : decode method_2_code 12 = .ok (.ldc 7, 2) := by decide +kernel
theorem d19_14 : decode method_2_code 14 = .ok (.iand, 1) := by decide +kernel
theorem d19_15 : decode method_2_code 15 = .ok (.bipush 12, 2) := by decide +kernel
theorem d19_17 : decode method_2_code 17 = .ok (.irem, 1) := by decide +kernel
theorem d19_18 : decode method_2_code 18 = .ok (.iadd, 1) := by decide +kernel
theorem d19_19 : decode method_2_code 19 = .ok (.i2c, 1) := by decide +kernel
theorem d19_20 : decode method_2_code 20 = .ok (.ireturn, 1) := by decide +kernel
theorem ef_rm_pick (m : MethodId) (x0 : Int32) : entryFrame m #[(.int x0)] 1 = mkF m 0 #[.val (.int x0)] [] := by first | (simp [entryFrame, mkF, argsToLocals, Value.category]; done) | rfl
theorem pn_4 : plainName "com/example/ratable/ratable/TextParserDigitsPinLaw" = true := by first | (simp [plainName, overriddenIn]; done) | decide +kernel
set_option maxRecDepth 65536 in
set_option maxHeartbeats 40000000 in
theorem rm_pick (l : Launch) (Z : State) (a0 : Array Value) (hw : ∀ d ∈ tables_1, d.before a0 Z = true) (ws : List Jvm.Cond) (p1 : Int32) (h0 : Heap)  :
    MetFree l (⟨"com/example/ratable/ratable/TextParserDigitsPinLaw", "pick", "(I)C"⟩ : MethodName) (head1 (Jvm.Cond.code (⟨"com/example/ratable/ratable/TextParserDigitsPinLaw", "pick", "(I)C"⟩ : MethodName) method_2_code 1 (some .char) :: ws) ({ frames := 0, cells := 0, slots := 0, locals := 0 } : Room)) (fun a U => a = #[(.int p1)] ∧ Z.Warmed39 U.vm ∧ U.heap = h0) (fun _ _ _ _ _ => True) (fun _ U o U' => ∃ v L, o = .returned v ∧ own_QK h0 v U'.heap L ∧ FrameEnd U o U' L ({ frames := 0, cells := 0, slots := 0, locals := 0 } : Room).cells ({ frames := 0, cells := 0, slots := 0, locals := 0 } : Room).slots) := by
  refine MetFree.of_bodySF (plainFor_of_name pn_4) hisR ?_
  intro p e s m args below meth c s₁ Bd hml0 hP hK
  obtain ⟨rfl, hZ, hh⟩ := hP
  have hx := Bd.exec
  have hby := Bd.bytes
  have hlk := Bd.notSynchronized
  have hret := Bd.returns
  have hml : c.maxLocals = 1 := hml0
  have hown : s.vm.findClass "com/example/ratable/ratable/TextParserDigitsPinLaw" = some m.cls := findClass_of_methodNamed Bd.named
  have hnm := (name_of_methodNamed Bd.named Bd.method).1
  have X0 : Stand p l e ({ frames := 0, cells := 0, slots := 0, locals := 0 } : Room) s m #[(.int p1)] below meth c s₁ [] 0 0 := Stand.of_body Bd
  have e0 : s₁.heap = h0 := by rw [← hh, Bd.state]; rfl
  show own_Dn p e below (own_Ret s (own_QK h0) ({ frames := 0, cells := 0, slots := 0, locals := 0 } : Room).cells ({ frames := 0, cells := 0, slots := 0, locals := 0 } : Room).slots) (s₁.setTop (entryFrame m #[(.int p1)] 1))
  rw [ef_rm_pick]
  refine own_st (B := (s₁.setTop (mkF m 1 #[.val (.int p1)] [(.int p1)]))) (fun _ zk => XS.iloadN X0.here hx rfl (hb hby d19_0) rfl zk) ?_
  refine own_st (B := (s₁.setTop (mkF m 3 #[.val (.int p1)] [(.int (16 : Int32)), (.int p1)]))) (fun _ zk => XS.bipush X0.here hx rfl (hb hby d19_1) zk) ?_
  refine own_st (B := (s₁.setTop (mkF m 4 #[.val (.int p1)] [(.int ((p1.toUInt32 >>> ((16 : Int32) &&& 31).toUInt32).toInt32))]))) (fun _ zk => XS.iushr X0.here hx rfl (hb hby d19_3) rfl zk) ?_
  refine own_st (B := (s₁.setTop (mkF m 5 #[.val (.int p1)] [(.int (1 : Int32)), (.int ((p1.toUInt32 >>> ((16 : Int32) &&& 31).toUInt32).toInt32))]))) (fun _ zk => XS.iconst X0.here hx rfl (hb hby d19_4) zk) ?_
  refine own_st (B := (s₁.setTop (mkF m 6 #[.val (.int p1)] [(.int (((p1.toUInt32 >>> ((16 : Int32) &&& 31).toUInt32).toInt32) &&& (1 : Int32)))]))) (fun _ zk => XS.iand X0.here hx rfl (hb hby d19_5) rfl zk) ?_
  by_cases c6_1 : (((p1.toUInt32 >>> ((16 : Int32) &&& 31).toUInt32).toInt32) &&& (1 : Int32)) = (0 : Int32)
  · refine own_st (B := (s₁.setTop (mkF m 21 #[.val (.int p1)] []))) (fun _ zk => XS.ifYes X0.here hx rfl (pc0 := 6) (pc' := 21) rfl (hb hby d19_6) rfl ((if0 _ _).trans (teq c6_1).1) (by decide) (by decide) zk) ?_
    refine own_st (B := (s₁.setTop (mkF m 22 #[.val (.int p1)] [(.int p1)]))) (fun _ zk => XS.iloadN X0.here hx rfl (hb hby d19_21) rfl zk) ?_
    refine own_st (B := (s₁.setTop (mkF m 24 #[.val (.int p1)] [(.int (65535 : Int32)), (.int p1)]))) (fun _ zk => X0.ldcInt hx hown (mvT hZ (hw _ (List.mem_of_getElem? (i := 5) rfl))) (g := (mkF m 22 #[.val (.int p1)] [(.int p1)])) rfl (hb hby d19_22) _ zk) ?_
    refine own_st (B := (s₁.setTop (mkF m 25 #[.val (.int p1)] [(.int (p1 &&& (65535 : Int32)))]))) (fun _ zk => XS.iand X0.here hx rfl (hb hby d19_24) rfl zk) ?_
    refine own_st (B := (s₁.setTop (mkF m 26 #[.val (.int p1)] [(.int ((p1 &&& (65535 : Int32)).toUInt32.toUInt16.toUInt32.toInt32))]))) (fun _ zk => XS.i2c X0.here hx rfl (hb hby d19_25) rfl zk) ?_
    exact own_retN X0 hx hlk (t := .char) hret (by simp) (hb hby d19_26) (by show own_QK h0 _ s₁.heap _; rw [e0]; exact ⟨_, rfl, own_rngc _, rfl, rfl⟩) (by decide) (by decide)
  · refine own_st (B := (s₁.setTop (mkF m 9 #[.val (.int p1)] []))) (fun _ zk => XS.ifNo X0.here hx rfl (hb hby d19_6) rfl ((if0 _ _).trans (feq c6_1).1) zk) ?_
    refine own_st (B := (s₁.setTop (mkF m 11 #[.val (.int p1)] [(.int (47 : Int32))]))) (fun _ zk => XS.bipush X0.here hx rfl (hb hby d19_9) zk) ?_
    refine own_st (B := (s₁.setTop (mkF m 12 #[.val (.int p1)] [(.int p1), (.int (47 : Int32))]))) (fun _ zk => XS.iloadN X0.here hx rfl (hb hby d19_11) rfl zk) ?_
    refine own_st (B := (s₁.setTop (mkF m 14 #[.val (.int p1)] [(.int (65535 : Int32)), (.int p1), (.int (47 : Int32))]))) (fun _ zk => X0.ldcInt hx hown (mvT hZ (hw _ (List.mem_of_getElem? (i := 5) rfl))) (g := (mkF m 12 #[.val (.int p1)] [(.int p1), (.int (47 : Int32))])) rfl (hb hby d19_12) _ zk) ?_
    refine own_st (B := (s₁.setTop (mkF m 15 #[.val (.int p1)] [(.int (p1 &&& (65535 : Int32))), (.int (47 : Int32))]))) (fun _ zk => XS.iand X0.here hx rfl (hb hby d19_14) rfl zk) ?_
    refine own_st (B := (s₁.setTop (mkF m 17 #[.val (.int p1)] [(.int (12 : Int32)), (.int (p1 &&& (65535 : Int32))), (.int (47 : Int32))]))) (fun _ zk => XS.bipush X0.here hx rfl (hb hby d19_15) zk) ?_
    refine own_st (B := (s₁.setTop (mkF m 18 #[.val (.int p1)] [(.int ((p1 &&& (65535 : Int32)) % (12 : Int32))), (.int (47 : Int32))]))) (fun _ zk => iremM X0 hx rfl (hb hby d19_17) rfl (by decide) zk) ?_
    refine own_st (B := (s₁.setTop (mkF m 19 #[.val (.int p1)] [(.int ((47 : Int32) + ((p1 &&& (65535 : Int32)) % (12 : Int32))))]))) (fun _ zk => XS.iadd X0.here hx rfl (hb hby d19_18) rfl zk) ?_
    refine own_st (B := (s₁.setTop (mkF m 20 #[.val (.int p1)] [(.int (((47 : Int32) + ((p1 &&& (65535 : Int32)) % (12 : Int32))).toUInt32.toUInt16.toUInt32.toInt32))]))) (fun _ zk => XS.i2c X0.here hx rfl (hb hby d19_19) rfl zk) ?_
    exact own_retN X0 hx hlk (t := .char) hret (by simp) (hb hby d19_20) (by show own_QK h0 _ s₁.heap _; rw [e0]; exact ⟨_, rfl, own_rngc _, rfl, rfl⟩) (by decide) (by decide)
theorem d20_0 : decode method_3_code 0 = .ok (.iload_n 1, 1) := by decide +kernel
theorem d20_1 : decode method_3_code 1 = .ok (.iload_n 2, 1) := by decide +kernel
theorem d20_2 : decode method_3_code 2 = .ok (.if_icmp .lt 8, 3) := by decide +kernel
theorem d20_10 : decode method_3_code 10 = .ok (.iconst 1, 1) := by decide +kernel
theorem d20_11 : decode method_3_code 11 = .ok (.ireturn, 1) := by decide +kernel
theorem d20_5 : decode method_3_code 5 = .ok (.iload_n 1, 1) := by decide +kernel
theorem d20_6 : decode method_3_code 6 = .ok (.iload_n 3, 1) := by decide +kernel
theorem d20_7 : decode method_3_code 7 = .ok (.if_icmp .lt 5, 3) := by decide +kernel
theorem d20_12 : decode method_3_code 12 = .ok (.iload_n 0, 1) := by decide +kernel
theorem d20_13 : decode method_3_code 13 = .ok (.bipush 48, 2) := by decide +kernel
theorem d20_15 : decode method_3_code 15 = .ok (.if_icmp .lt 13, 3) := by decide +kernel
theorem d20_28 : decode method_3_code 28 = .ok (.iconst 0, 1) := by decide +kernel
theorem d20_29 : decode method_3_code 29 = .ok (.ireturn, 1) := by decide +kernel
theorem d20_18 : decode method_3_code 18 = .ok (.iload_n 0, 1) := by decide +kernel
theorem d20_19 : decode method_3_code 19 = .ok (.bipush 57, 2) := by decide +kernel
theorem d20_21 : decode method_3_code 21 = .ok (.if_icmp .gt 7, 3) := by decide +kernel
theorem d20_24 : decode method_3_code 24 = .ok (.iconst 1, 1) := by decide +kernel
theorem d20_25 : decode method_3_code 25 = .ok (.goto 4, 3) := by decide +kernel
theorem ef_rm_fine (m : MethodId) (x0 : Int32) (x1 : Int32) (x2 : Int32) (x3 : Int32) : entryFrame m #[(.int x0), (.int x1), (.int x2), (.int x3)] 4 = mkF m 0 #[.val (.int x0), .val (.int x1), .val (.int x2), .val (.int x3)] [] := by first | (simp [entryFrame, mkF, argsToLocals, Value.category]; done) | rfl
set_option maxRecDepth 65536 in
set_option maxHeartbeats 40000000 in
theorem rm_fine (l : Launch) (Z : State) (a0 : Array Value) (hw : ∀ d ∈ tables_1, d.before a0 Z = true) (ws : List Jvm.Cond) (c' i' b' e' r : Int32) (h0 : Heap) (hr : (r = 1 ∧ ((b'.toInt ≤ i'.toInt ∧ i'.toInt < e'.toInt) → own_dig c')) ∨ (r = 0 ∧ ¬ ((b'.toInt ≤ i'.toInt ∧ i'.toInt < e'.toInt) → own_dig c'))) :
    MetFree l (⟨"com/example/ratable/ratable/TextParserDigitsPinLaw", "fine", "(CIII)Z"⟩ : MethodName) (head1 (Jvm.Cond.code (⟨"com/example/ratable/ratable/TextParserDigitsPinLaw", "fine", "(CIII)Z"⟩ : MethodName) method_3_code 4 (some .boolean) :: ws) ({ frames := 0, cells := 0, slots := 0, locals := 0 } : Room)) (fun a U => a = #[(.int c'), (.int i'), (.int b'), (.int e')] ∧ Z.Warmed39 U.vm ∧ U.heap = h0) (fun _ _ _ _ _ => True) (fun _ U o U' => ∃ v L, o = .returned v ∧ own_QP r h0 v U'.heap L ∧ FrameEnd U o U' L ({ frames := 0, cells := 0, slots := 0, locals := 0 } : Room).cells ({ frames := 0, cells := 0, slots := 0, locals := 0 } : Room).slots) := by
  refine MetFree.of_bodySF (plainFor_of_name pn_4) hisR ?_
  intro p e s m args below meth c s₁ Bd hml0 hP hK
  obtain ⟨rfl, hZ, hh⟩ := hP
  have hx := Bd.exec
  have hby := Bd.bytes
  have hlk := Bd.notSynchronized
  have hret := Bd.returns
  have hml : c.maxLocals = 4 := hml0
  have hown : s.vm.findClass "com/example/ratable/ratable/TextParserDigitsPinLaw" = some m.cls := findClass_of_methodNamed Bd.named
  have hnm := (name_of_methodNamed Bd.named Bd.method).1
  have X0 : Stand p l e ({ frames := 0, cells := 0, slots := 0, locals := 0 } : Room) s m #[(.int c'), (.int i'), (.int b'), (.int e')] below meth c s₁ [] 0 0 := Stand.of_body Bd
  have e0 : s₁.heap = h0 := by rw [← hh, Bd.state]; rfl
  show own_Dn p e below (own_Ret s (own_QP r h0) ({ frames := 0, cells := 0, slots := 0, locals := 0 } : Room).cells ({ frames := 0, cells := 0, slots := 0, locals := 0 } : Room).slots) (s₁.setTop (entryFrame m #[(.int c'), (.int i'), (.int b'), (.int e')] 4))
  rw [ef_rm_fine]
  refine own_st (B := (s₁.setTop (mkF m 1 #[.val (.int c'), .val (.int i'), .val (.int b'), .val (.int e')] [(.int i')]))) (fun _ zk => XS.iloadN X0.here hx rfl (hb hby d20_0) rfl zk) ?_
  refine own_st (B := (s₁.setTop (mkF m 2 #[.val (.int c'), .val (.int i'), .val (.int b'), .val (.int e')] [(.int b'), (.int i')]))) (fun _ zk => XS.iloadN X0.here hx rfl (hb hby d20_1) rfl zk) ?_
  by_cases c2_1 : i' < b'
  · refine own_st (B := (s₁.setTop (mkF m 10 #[.val (.int c'), .val (.int i'), .val (.int b'), .val (.int e')] []))) (fun _ zk => XS.icmpYes X0.here hx rfl (pc0 := 2) (pc' := 10) rfl (hb hby d20_2) rfl (tlt c2_1).1 (by decide) (by decide) zk) ?_
    refine own_st (B := (s₁.setTop (mkF m 11 #[.val (.int c'), .val (.int i'), .val (.int b'), .val (.int e')] [(.int (1 : Int32))]))) (fun _ zk => XS.iconst X0.here hx rfl (hb hby d20_10) zk) ?_
    have i_c2_1 : i'.toInt < b'.toInt := own_tL c2_1
    obtain rfl := own_fl1 hr (fun q => by unfold own_dig; omega)
    exact own_retN X0 hx hlk (t := .boolean) hret (by simp) (hb hby d20_11) (by show own_QP 1 h0 _ s₁.heap _; rw [e0]; exact ⟨rfl, rfl, rfl⟩) (by decide) (by decide)
  · refine own_st (B := (s₁.setTop (mkF m 5 #[.val (.int c'), .val (.int i'), .val (.int b'), .val (.int e')] []))) (fun _ zk => XS.icmpNo X0.here hx rfl (hb hby d20_2) rfl (flt c2_1).1 zk) ?_
    refine own_st (B := (s₁.setTop (mkF m 6 #[.val (.int c'), .val (.int i'), .val (.int b'), .val (.int e')] [(.int i')]))) (fun _ zk => XS.iloadN X0.here hx rfl (hb hby d20_5) rfl zk) ?_
    refine own_st (B := (s₁.setTop (mkF m 7 #[.val (.int c'), .val (.int i'), .val (.int b'), .val (.int e')] [(.int e'), (.int i')]))) (fun _ zk => XS.iloadN X0.here hx rfl (hb hby d20_6) rfl zk) ?_
    by_cases c7_2 : i' < e'
    · refine own_st (B := (s₁.setTop (mkF m 12 #[.val (.int c'), .val (.int i'), .val (.int b'), .val (.int e')] []))) (fun _ zk => XS.icmpYes X0.here hx rfl (pc0 := 7) (pc' := 12) rfl (hb hby d20_7) rfl (tlt c7_2).1 (by decide) (by decide) zk) ?_
      refine own_st (B := (s₁.setTop (mkF m 13 #[.val (.int c'), .val (.int i'), .val (.int b'), .val (.int e')] [(.int c')]))) (fun _ zk => XS.iloadN X0.here hx rfl (hb hby d20_12) rfl zk) ?_
      refine own_st (B := (s₁.setTop (mkF m 15 #[.val (.int c'), .val (.int i'), .val (.int b'), .val (.int e')] [(.int (48 : Int32)), (.int c')]))) (fun _ zk => XS.bipush X0.here hx rfl (hb hby d20_13) zk) ?_
      by_cases c15_3 : c' < (48 : Int32)
      · refine own_st (B := (s₁.setTop (mkF m 28 #[.val (.int c'), .val (.int i'), .val (.int b'), .val (.int e')] []))) (fun _ zk => XS.icmpYes X0.here hx rfl (pc0 := 15) (pc' := 28) rfl (hb hby d20_15) rfl (tlt c15_3).1 (by decide) (by decide) zk) ?_
        refine own_st (B := (s₁.setTop (mkF m 29 #[.val (.int c'), .val (.int i'), .val (.int b'), .val (.int e')] [(.int (0 : Int32))]))) (fun _ zk => XS.iconst X0.here hx rfl (hb hby d20_28) zk) ?_
        have i_c2_1 : ¬ i'.toInt < b'.toInt := own_tLn c2_1
        have i_c7_2 : i'.toInt < e'.toInt := own_tL c7_2
        have i_c15_3 : c'.toInt < 48 := own_tL c15_3
        obtain rfl := own_fl0 hr (fun q => by have q2 := q (by omega); unfold own_dig at q2; omega)
        exact own_retN X0 hx hlk (t := .boolean) hret (by simp) (hb hby d20_29) (by show own_QP 0 h0 _ s₁.heap _; rw [e0]; exact ⟨rfl, rfl, rfl⟩) (by decide) (by decide)
      · refine own_st (B := (s₁.setTop (mkF m 18 #[.val (.int c'), .val (.int i'), .val (.int b'), .val (.int e')] []))) (fun _ zk => XS.icmpNo X0.here hx rfl (hb hby d20_15) rfl (flt c15_3).1 zk) ?_
        refine own_st (B := (s₁.setTop (mkF m 19 #[.val (.int c'), .val (.int i'), .val (.int b'), .val (.int e')] [(.int c')]))) (fun _ zk => XS.iloadN X0.here hx rfl (hb hby d20_18) rfl zk) ?_
        refine own_st (B := (s₁.setTop (mkF m 21 #[.val (.int c'), .val (.int i'), .val (.int b'), .val (.int e')] [(.int (57 : Int32)), (.int c')]))) (fun _ zk => XS.bipush X0.here hx rfl (hb hby d20_19) zk) ?_
        by_cases c21_4 : (57 : Int32) < c'
        · refine own_st (B := (s₁.setTop (mkF m 28 #[.val (.int c'), .val (.int i'), .val (.int b'), .val (.int e')] []))) (fun _ zk => XS.icmpYes X0.here hx rfl (pc0 := 21) (pc' := 28) rfl (hb hby d20_21) rfl (tlt c21_4).2.2.1 (by decide) (by decide) zk) ?_
          refine own_st (B := (s₁.setTop (mkF m 29 #[.val (.int c'), .val (.int i'), .val (.int b'), .val (.int e')] [(.int (0 : Int32))]))) (fun _ zk => XS.iconst X0.here hx rfl (hb hby d20_28) zk) ?_
          have i_c2_1 : ¬ i'.toInt < b'.toInt := own_tLn c2_1
          have i_c7_2 : i'.toInt < e'.toInt := own_tL c7_2
          have i_c15_3 : ¬ c'.toInt < 48 := own_tLn c15_3
          have i_c21_4 : 57 < c'.toInt := own_tL c21_4
          obtain rfl := own_fl0 hr (fun q => by have q2 := q (by omega); unfold own_dig at q2; omega)
          exact own_retN X0 hx hlk (t := .boolean) hret (by simp) (hb hby d20_29) (by show own_QP 0 h0 _ s₁.heap _; rw [e0]; exact ⟨rfl, rfl, rfl⟩) (by decide) (by decide)
        · refine own_st (B := (s₁.setTop (mkF m 24 #[.val (.int c'), .val (.int i'), .val (.int b'), .val (.int e')] []))) (fun _ zk => XS.icmpNo X0.here hx rfl (hb hby d20_21) rfl (flt c21_4).2.2.1 zk) ?_
          refine own_st (B := (s₁.setTop (mkF m 25 #[.val (.int c'), .val (.int i'), .val (.int b'), .val (.int e')] [(.int (1 : Int32))]))) (fun _ zk => XS.iconst X0.here hx rfl (hb hby d20_24) zk) ?_
          refine own_st (B := (s₁.setTop (mkF m 29 #[.val (.int c'), .val (.int i'), .val (.int b'), .val (.int e')] [(.int (1 : Int32))]))) (fun _ zk => XS.goto X0.here hx rfl (pc0 := 25) (pc' := 29) rfl (hb hby d20_25) (by decide) (by decide) zk) ?_
          have i_c2_1 : ¬ i'.toInt < b'.toInt := own_tLn c2_1
          have i_c7_2 : i'.toInt < e'.toInt := own_tL c7_2
          have i_c15_3 : ¬ c'.toInt < 48 := own_tLn c15_3
          have i_c21_4 : ¬ 57 < c'.toInt := own_tLn c21_4
          obtain rfl := own_fl1 hr (fun q => by unfold own_dig; omega)
          exact own_retN X0 hx hlk (t := .boolean) hret (by simp) (hb hby d20_29) (by show own_QP 1 h0 _ s₁.heap _; rw [e0]; exact ⟨rfl, rfl, rfl⟩) (by decide) (by decide)
    · refine own_st (B := (s₁.setTop (mkF m 10 #[.val (.int c'), .val (.int i'), .val (.int b'), .val (.int e')] []))) (fun _ zk => XS.icmpNo X0.here hx rfl (hb hby d20_7) rfl (flt c7_2).1 zk) ?_
      refine own_st (B := (s₁.setTop (mkF m 11 #[.val (.int c'), .val (.int i'), .val (.int b'), .val (.int e')] [(.int (1 : Int32))]))) (fun _ zk => XS.iconst X0.here hx rfl (hb hby d20_10) zk) ?_
      have i_c2_1 : ¬ i'.toInt < b'.toInt := own_tLn c2_1
      have i_c7_2 : ¬ i'.toInt < e'.toInt := own_tLn c7_2
      obtain rfl := own_fl1 hr (fun q => by unfold own_dig; omega)
      exact own_retN X0 hx hlk (t := .boolean) hret (by simp) (hb hby d20_11) (by show own_QP 1 h0 _ s₁.heap _; rw [e0]; exact ⟨rfl, rfl, rfl⟩) (by decide) (by decide)
theorem d21_0 : decode prog_27_method_4_code 0 = .ok (.iload_n 1, 1) := by decide +kernel
theorem d21_1 : decode prog_27_method_4_code 1 = .ok (.istore_n 3, 1) := by decide +kernel
theorem d21_2 : decode prog_27_method_4_code 2 = .ok (.iload_n 3, 1) := by decide +kernel
theorem d21_3 : decode prog_27_method_4_code 3 = .ok (.iload_n 2, 1) := by decide +kernel
theorem d21_4 : decode prog_27_method_4_code 4 = .ok (.if_icmp .ge 31, 3) := by decide +kernel
theorem d21_35 : decode prog_27_method_4_code 35 = .ok (.iconst 1, 1) := by decide +kernel
theorem d21_36 : decode prog_27_method_4_code 36 = .ok (.ireturn, 1) := by decide +kernel
theorem d21_7 : decode prog_27_method_4_code 7 = .ok (.aload_n 0, 1) := by decide +kernel
theorem d21_8 : decode prog_27_method_4_code 8 = .ok (.iload_n 3, 1) := by decide +kernel
theorem pd_13 : parseMethodDescriptor "(I)C" = some ⟨[.int], some .char⟩ := by decide +kernel
theorem d21_9 : decode prog_27_method_4_code 9 = .ok (.invokevirtual 35, 3) := by decide +kernel
theorem d21_12 : decode prog_27_method_4_code 12 = .ok (.bipush 48, 2) := by decide +kernel
theorem d21_14 : decode prog_27_method_4_code 14 = .ok (.if_icmp .lt 13, 3) := by decide +kernel
theorem d21_27 : decode prog_27_method_4_code 27 = .ok (.iconst 0, 1) := by decide +kernel
theorem d21_28 : decode prog_27_method_4_code 28 = .ok (.ireturn, 1) := by decide +kernel
theorem d21_17 : decode prog_27_method_4_code 17 = .ok (.aload_n 0, 1) := by decide +kernel
theorem d21_18 : decode prog_27_method_4_code 18 = .ok (.iload_n 3, 1) := by decide +kernel
theorem d21_19 : decode prog_27_method_4_code 19 = .ok (.invokevirtual 35, 3) := by decide +kernel
theorem d21_22 : decode prog_27_method_4_code 22 = .ok (.bipush 57, 2) := by decide +kernel
theorem d21_24 : decode prog_27_method_4_code 24 = .ok (.if_icmp .le 5, 3) := by decide +kernel
theorem d21_29 : decode prog_27_method_4_code 29 = .ok (.iinc 3 1, 3) := by decide +kernel
theorem d21_32 : decode prog_27_method_4_code 32 = .ok (.goto (-30), 3) := by decide +kernel
theorem ef_rm_dig (m : MethodId) (x0 : Addr) (x1 : Int32) (x2 : Int32) : entryFrame m #[(.ref x0), (.int x1), (.int x2)] 4 = mkF m 0 #[.val (.ref x0), .val (.int x1), .val (.int x2), .unset] [] := by first | (simp [entryFrame, mkF, argsToLocals, Value.category]; done) | rfl
theorem pn_5 : plainName "com/example/ratable/ratable/TextParser" = true := by first | (simp [plainName, overriddenIn]; done) | decide +kernel
set_option maxRecDepth 65536 in
set_option maxHeartbeats 40000000 in
theorem rm_dig (l : Launch) (Z : State) (a0 : Array Value) (hw : ∀ d ∈ tables_1, d.before a0 Z = true) (ws : List Jvm.Cond) (a1 : Addr) (p2 p3 : Int32) (f : Nat → Int32) (kb ke : Nat) (r : Int32) (cs : Int32) (vG : Value) (h0 : Heap) (n0 : Nat) (Z0 : n0 ≤ h0.size) (ST : own_St Z cs vG) (hcs : ¬ cs = 0) (hG : vG.isRef = true) (O : Old Z n0 h0) (HS : own_Str Z h0 a1 4 f) (hf : ∀ i, i < 4 → 0 ≤ (f i).toInt ∧ (f i).toInt < 65536) (h2 : p2.toInt = kb) (h3 : p3.toInt = ke) (hke : ke ≤ 4) (hr : (r = 1 ∧ (∀ q, kb ≤ q → q < ke → own_dig (f q))) ∨ (r = 0 ∧ ¬ (∀ q, kb ≤ q → q < ke → own_dig (f q)))) :
    MetFree l (⟨"com/example/ratable/ratable/TextParser", "digits", "(Ljava/lang/String;II)Z"⟩ : MethodName) (head1 (Jvm.Cond.code (⟨"com/example/ratable/ratable/TextParser", "digits", "(Ljava/lang/String;II)Z"⟩ : MethodName) prog_27_method_4_code 4 (some .boolean) :: ws) ({ frames := 5, cells := 0, slots := 0, locals := 66 } : Room)) (fun a U => a = #[(.ref a1), (.int p2), (.int p3)] ∧ Z.Warmed39 U.vm ∧ U.heap = h0) (fun _ _ _ _ _ => True) (fun _ U o U' => ∃ v L, o = .returned v ∧ own_QP r h0 v U'.heap L ∧ FrameEnd U o U' L ({ frames := 5, cells := 0, slots := 0, locals := 66 } : Room).cells ({ frames := 5, cells := 0, slots := 0, locals := 66 } : Room).slots) := by
  refine MetFree.of_bodySF (plainFor_of_name pn_5) hisR ?_
  intro p e s m args below meth c s₁ Bd hml0 hP hK
  obtain ⟨rfl, hZ, hh⟩ := hP
  have hx := Bd.exec
  have hby := Bd.bytes
  have hlk := Bd.notSynchronized
  have hret := Bd.returns
  have hml : c.maxLocals = 4 := hml0
  have hown : s.vm.findClass "com/example/ratable/ratable/TextParser" = some m.cls := findClass_of_methodNamed Bd.named
  have hnm := (name_of_methodNamed Bd.named Bd.method).1
  have X0 : Stand p l e ({ frames := 5, cells := 0, slots := 0, locals := 66 } : Room) s m #[(.ref a1), (.int p2), (.int p3)] below meth c s₁ [] 0 0 := Stand.of_body Bd
  have e0 : s₁.heap = h0 := by rw [← hh, Bd.state]; rfl
  have N0 := Fr.nil n0
  show own_Dn p e below (own_Ret s (own_QP r h0) ({ frames := 5, cells := 0, slots := 0, locals := 66 } : Room).cells ({ frames := 5, cells := 0, slots := 0, locals := 66 } : Room).slots) (s₁.setTop (entryFrame m #[(.ref a1), (.int p2), (.int p3)] 4))
  rw [ef_rm_dig]
  have EX : Exa Z h0 a1 "java/lang/String" := by
    obtain ⟨t, cd, E, -⟩ := HS
    exact E
  refine own_st (B := (s₁.setTop (mkF m 1 #[.val (.ref a1), .val (.int p2), .val (.int p3), .unset] [(.int p2)]))) (fun _ zk => XS.iloadN X0.here hx rfl (hb hby d21_0) rfl zk) ?_
  refine own_st (B := (s₁.setTop (mkF m 2 #[.val (.ref a1), .val (.int p2), .val (.int p3), .val (.int p2)] []))) (fun _ zk => XS.istoreN X0.here hx rfl (hb hby d21_1) rfl (l' := #[.val (.ref a1), .val (.int p2), .val (.int p3), .val (.int p2)]) rfl zk) ?_
  have loop : ∀ (k : Nat) (T : State) (XT : Stand p l e ({ frames := 5, cells := 0, slots := 0, locals := 66 } : Room) s m #[(.ref a1), (.int p2), (.int p3)] below meth c T [] 0 0) (eT : T.heap = h0) (i : Int32) (j : Nat), i.toInt = j → (j + k = ke ∨ (k = 0 ∧ ke ≤ j)) → (∀ q, kb ≤ q → q < j → q < ke → own_dig (f q)) → kb ≤ j → own_Dn p e below (own_Ret s (own_QP r h0) ({ frames := 5, cells := 0, slots := 0, locals := 66 } : Room).cells ({ frames := 5, cells := 0, slots := 0, locals := 66 } : Room).slots) (T.setTop (mkF m 2 #[.val (.ref a1), .val (.int p2), .val (.int p3), .val (.int i)] [])) := by
    intro k
    induction k with
    | zero =>
      intro T XT eT i j hi hjk hd hb'
      refine own_st (B := (T.setTop (mkF m 3 #[.val (.ref a1), .val (.int p2), .val (.int p3), .val (.int i)] [(.int i)]))) (fun _ zk => XS.iloadN XT.here hx rfl (hb hby d21_2) rfl zk) ?_
      refine own_st (B := (T.setTop (mkF m 4 #[.val (.ref a1), .val (.int p2), .val (.int p3), .val (.int i)] [(.int p3), (.int i)]))) (fun _ zk => XS.iloadN XT.here hx rfl (hb hby d21_3) rfl zk) ?_
      have c4 : ¬ i < p3 := fun q => by
        have q' := own_tL q
        omega
      refine own_st (B := (T.setTop (mkF m 35 #[.val (.ref a1), .val (.int p2), .val (.int p3), .val (.int i)] []))) (fun _ zk => XS.icmpYes XT.here hx rfl (pc0 := 4) (pc' := 35) rfl (hb hby d21_4) rfl (flt c4).2.1 (by decide) (by decide) zk) ?_
      refine own_st (B := (T.setTop (mkF m 36 #[.val (.ref a1), .val (.int p2), .val (.int p3), .val (.int i)] [(.int (1 : Int32))]))) (fun _ zk => XS.iconst XT.here hx rfl (hb hby d21_35) zk) ?_
      obtain rfl := own_fl1 hr (fun q q1 q2 => hd q q1 (by omega) q2)
      exact own_retN XT hx hlk (t := .boolean) hret (by simp) (hb hby d21_36) (by show own_QP 1 h0 _ T.heap _; rw [eT]; exact ⟨rfl, rfl, rfl⟩) (by decide) (by decide)
    | succ k ih =>
      intro T XT eT i j hi hjk hd hb'
      refine own_st (B := (T.setTop (mkF m 3 #[.val (.ref a1), .val (.int p2), .val (.int p3), .val (.int i)] [(.int i)]))) (fun _ zk => XS.iloadN XT.here hx rfl (hb hby d21_2) rfl zk) ?_
      refine own_st (B := (T.setTop (mkF m 4 #[.val (.ref a1), .val (.int p2), .val (.int p3), .val (.int i)] [(.int p3), (.int i)]))) (fun _ zk => XS.iloadN XT.here hx rfl (hb hby d21_3) rfl zk) ?_
      have c4 : i < p3 := Int32.lt_iff_toInt_lt.mpr (by omega)
      refine own_st (B := (T.setTop (mkF m 7 #[.val (.ref a1), .val (.int p2), .val (.int p3), .val (.int i)] []))) (fun _ zk => XS.icmpNo XT.here hx rfl (hb hby d21_4) rfl (tlt c4).2.1 zk) ?_
      refine own_st (B := (T.setTop (mkF m 8 #[.val (.ref a1), .val (.int p2), .val (.int p3), .val (.int i)] [(.ref a1)]))) (fun _ zk => XS.aloadN XT.here hx rfl (hb hby d21_7) rfl rfl zk) ?_
      refine own_st (B := (T.setTop (mkF m 9 #[.val (.ref a1), .val (.int p2), .val (.int p3), .val (.int i)] [(.int i), (.ref a1)]))) (fun _ zk => XS.iloadN XT.here hx rfl (hb hby d21_8) rfl zk) ?_
      obtain ⟨v1, T1, L1, X1, Q1, st1⟩ := own_callV (W := 0) XT hx hZ (y := (⟨"java/lang/String", "charAt", "(I)C"⟩ : MethodName)) (z := (⟨"java/lang/String", "charAt", "(I)C"⟩ : MethodName)) hown (hw _ (List.mem_of_getElem? (i := 43) rfl)) (hw _ (List.mem_of_getElem? (i := 44) rfl)) (notFace_of_selects (args := #[]) (mvT hZ (hw _ (List.mem_of_getElem? (i := 46) rfl)))) (hw _ (List.mem_of_getElem? (i := 46) rfl)) (hw _ (List.mem_of_getElem? (i := 45) rfl)) (hw _ (List.mem_of_getElem? (i := 8) rfl)) (hw _ (List.mem_of_getElem? (i := 47) rfl)) (by decide) eT (rm_cha l Z a0 hw [] a1 i f j cs vG h0 n0 Z0 ST hcs hG O HS hf hi (by omega)) EX (g := (mkF m 9 #[.val (.ref a1), .val (.int p2), .val (.int p3), .val (.int i)] [(.int i), (.ref a1)])) rfl (by rw [hml]; rfl) (argsL := [(.int i)]) (rest := []) (lenOf pd_13 rfl) rfl rfl (by show 2 * 0 + _ ≤ _; exact Nat.le_of_eq rfl) (hb hby d21_9) (by decide) (by decide) (by decide) (by decide)
      obtain ⟨rfl, rfl, qe1⟩ := Q1
      refine own_st (B := (T1.setTop (mkF m 12 #[.val (.ref a1), .val (.int p2), .val (.int p3), .val (.int i)] [(.int (f j))]))) st1 ?_
      have N1 := Fr.app N0 (Fr.nil n0)
      have X1' : Stand p l e ({ frames := 5, cells := 0, slots := 0, locals := 66 } : Room) s m #[(.ref a1), (.int p2), (.int p3)] below meth c T1 [] 0 0 := X1
      refine own_st (B := (T1.setTop (mkF m 14 #[.val (.ref a1), .val (.int p2), .val (.int p3), .val (.int i)] [(.int (48 : Int32)), (.int (f j))]))) (fun _ zk => XS.bipush X1'.here hx rfl (hb hby d21_12) zk) ?_
      by_cases c14 : (f j) < (48 : Int32)
      · refine own_st (B := (T1.setTop (mkF m 27 #[.val (.ref a1), .val (.int p2), .val (.int p3), .val (.int i)] []))) (fun _ zk => XS.icmpYes X1'.here hx rfl (pc0 := 14) (pc' := 27) rfl (hb hby d21_14) rfl (tlt c14).1 (by decide) (by decide) zk) ?_
        refine own_st (B := (T1.setTop (mkF m 28 #[.val (.ref a1), .val (.int p2), .val (.int p3), .val (.int i)] [(.int (0 : Int32))]))) (fun _ zk => XS.iconst X1'.here hx rfl (hb hby d21_27) zk) ?_
        have i_c14 : (f j).toInt < 48 := own_tL c14
        obtain rfl := own_fl0 hr (fun q => by have q2 := q j hb' (by omega); unfold own_dig at q2; omega)
        exact own_retN X1' hx hlk (t := .boolean) hret (by simp) (hb hby d21_28) (by show own_QP 0 h0 _ T1.heap _; rw [qe1]; exact ⟨rfl, by simp, rfl⟩) (by decide) (by decide)
      · refine own_st (B := (T1.setTop (mkF m 17 #[.val (.ref a1), .val (.int p2), .val (.int p3), .val (.int i)] []))) (fun _ zk => XS.icmpNo X1'.here hx rfl (hb hby d21_14) rfl (flt c14).1 zk) ?_
        refine own_st (B := (T1.setTop (mkF m 18 #[.val (.ref a1), .val (.int p2), .val (.int p3), .val (.int i)] [(.ref a1)]))) (fun _ zk => XS.aloadN X1'.here hx rfl (hb hby d21_17) rfl rfl zk) ?_
        refine own_st (B := (T1.setTop (mkF m 19 #[.val (.ref a1), .val (.int p2), .val (.int p3), .val (.int i)] [(.int i), (.ref a1)]))) (fun _ zk => XS.iloadN X1'.here hx rfl (hb hby d21_18) rfl zk) ?_
        obtain ⟨v2, T2, L2, X2, Q2, st2⟩ := own_callV (W := 0) X1' hx hZ (y := (⟨"java/lang/String", "charAt", "(I)C"⟩ : MethodName)) (z := (⟨"java/lang/String", "charAt", "(I)C"⟩ : MethodName)) hown (hw _ (List.mem_of_getElem? (i := 43) rfl)) (hw _ (List.mem_of_getElem? (i := 44) rfl)) (notFace_of_selects (args := #[]) (mvT hZ (hw _ (List.mem_of_getElem? (i := 46) rfl)))) (hw _ (List.mem_of_getElem? (i := 46) rfl)) (hw _ (List.mem_of_getElem? (i := 45) rfl)) (hw _ (List.mem_of_getElem? (i := 8) rfl)) (hw _ (List.mem_of_getElem? (i := 47) rfl)) (by decide) qe1 (rm_cha l Z a0 hw [] a1 i f j cs vG h0 n0 Z0 ST hcs hG O HS hf hi (by omega)) EX (g := (mkF m 19 #[.val (.ref a1), .val (.int p2), .val (.int p3), .val (.int i)] [(.int i), (.ref a1)])) rfl (by rw [hml]; rfl) (argsL := [(.int i)]) (rest := []) (lenOf pd_13 rfl) rfl rfl (by show 2 * 0 + _ ≤ _; exact Nat.le_of_eq rfl) (hb hby d21_19) (by decide) (by decide) (by decide) (by decide)
        obtain ⟨rfl, rfl, qe2⟩ := Q2
        refine own_st (B := (T2.setTop (mkF m 22 #[.val (.ref a1), .val (.int p2), .val (.int p3), .val (.int i)] [(.int (f j))]))) st2 ?_
        have N2 := Fr.app N1 (Fr.nil n0)
        have X2' : Stand p l e ({ frames := 5, cells := 0, slots := 0, locals := 66 } : Room) s m #[(.ref a1), (.int p2), (.int p3)] below meth c T2 [] 0 0 := X2
        refine own_st (B := (T2.setTop (mkF m 24 #[.val (.ref a1), .val (.int p2), .val (.int p3), .val (.int i)] [(.int (57 : Int32)), (.int (f j))]))) (fun _ zk => XS.bipush X2'.here hx rfl (hb hby d21_22) zk) ?_
        by_cases c24 : (57 : Int32) < (f j)
        · refine own_st (B := (T2.setTop (mkF m 27 #[.val (.ref a1), .val (.int p2), .val (.int p3), .val (.int i)] []))) (fun _ zk => XS.icmpNo X2'.here hx rfl (hb hby d21_24) rfl (tlt c24).2.2.2 zk) ?_
          refine own_st (B := (T2.setTop (mkF m 28 #[.val (.ref a1), .val (.int p2), .val (.int p3), .val (.int i)] [(.int (0 : Int32))]))) (fun _ zk => XS.iconst X2'.here hx rfl (hb hby d21_27) zk) ?_
          have i_c14 : ¬ (f j).toInt < 48 := own_tLn c14
          have i_c24 : 57 < (f j).toInt := own_tL c24
          obtain rfl := own_fl0 hr (fun q => by have q2 := q j hb' (by omega); unfold own_dig at q2; omega)
          exact own_retN X2' hx hlk (t := .boolean) hret (by simp) (hb hby d21_28) (by show own_QP 0 h0 _ T2.heap _; rw [qe2]; exact ⟨rfl, by simp, rfl⟩) (by decide) (by decide)
        · refine own_st (B := (T2.setTop (mkF m 29 #[.val (.ref a1), .val (.int p2), .val (.int p3), .val (.int i)] []))) (fun _ zk => XS.icmpYes X2'.here hx rfl (pc0 := 24) (pc' := 29) rfl (hb hby d21_24) rfl (flt c24).2.2.2 (by decide) (by decide) zk) ?_
          refine own_st (B := (T2.setTop (mkF m 32 #[.val (.ref a1), .val (.int p2), .val (.int p3), .val (.int (i + (1 : Int32)))] []))) (fun _ zk => XS.iinc X2'.here hx rfl (hb hby d21_29) rfl (l' := #[.val (.ref a1), .val (.int p2), .val (.int p3), .val (.int (i + (1 : Int32)))]) rfl zk) ?_
          refine own_st (B := (T2.setTop (mkF m 2 #[.val (.ref a1), .val (.int p2), .val (.int p3), .val (.int (i + (1 : Int32)))] []))) (fun _ zk => XS.goto X2'.here hx rfl (pc0 := 32) (pc' := 2) rfl (hb hby d21_32) (by decide) (by decide) zk) ?_
          have i_c14 : ¬ (f j).toInt < 48 := own_tLn c14
          have i_c24 : ¬ 57 < (f j).toInt := own_tLn c24
          exact ih T2 X2' qe2 (i + 1) (j + 1) (own_inc hi (n := ke) (by omega) (by omega)) (by omega) (fun q q1 q2 q3 => by
            by_cases e2 : q = j
            · rw [e2]
              unfold own_dig
              omega
            · exact hd q q1 (by omega) q3) (by omega)
  exact loop (ke - kb) s₁ X0 e0 p2 kb h2 (by omega) (fun q q1 q2 => absurd q2 (by omega)) (Nat.le_refl _)
theorem pd_14 : parseMethodDescriptor "([C)V" = some ⟨[(.array .char)], none⟩ := by decide +kernel
theorem pd_15 : parseMethodDescriptor "(CIII)Z" = some ⟨[.char, .int, .int, .int], some .boolean⟩ := by decide +kernel
theorem pd_16 : parseMethodDescriptor "(Ljava/lang/String;II)Z" = some ⟨[(.object "java/lang/String"), .int, .int], some .boolean⟩ := by decide +kernel
theorem ef_rm_law (m : MethodId) (x0 : Int32) (x1 : Int32) (x2 : Int32) (x3 : Int32) (x4 : Int32) (x5 : Int32) : entryFrame m #[(.int x0), (.int x1), (.int x2), (.int x3), (.int x4), (.int x5)] maxLocals = mkF m 0 #[.val (.int x0), .val (.int x1), .val (.int x2), .val (.int x3), .val (.int x4), .val (.int x5), .unset, .unset, .unset, .unset, .unset] [] := by first | (simp [entryFrame, mkF, argsToLocals, Value.category, maxLocals]; done) | rfl
set_option maxRecDepth 65536 in
set_option maxHeartbeats 40000000 in
theorem rm_law (l : Launch) (Z : State) (a0 : Array Value) (hw : ∀ d ∈ tables_1, d.before a0 Z = true) (ws : List Jvm.Cond) (p0 p1 p2 p3 p4 p5 : Int32) (cs : Int32) (vG : Value) (h0 : Heap) (n0 : Nat) (Z0 : n0 ≤ h0.size) (ST : own_St Z cs vG) (hcs : ¬ cs = 0) (hG : vG.isRef = true) (O : Old Z n0 h0) :
    MetFree l x (head1 (Jvm.Cond.code x code maxLocals ret :: ws) room_1) (fun a U => a = #[(.int p0), (.int p1), (.int p2), (.int p3), (.int p4), (.int p5)] ∧ Z.Warmed39 U.vm ∧ U.heap = h0) (fun _ _ _ _ _ => True) (fun _ U o U' => ∃ v L, o = .returned v ∧ own_Q0 n0 v U'.heap L ∧ FrameEnd U o U' L 16 128) := by
  refine MetFree.of_bodySF (plainFor_of_name pn_4) hisR ?_
  intro p e s m args below meth c s₁ Bd hml0 hP hK
  obtain ⟨rfl, hZ, hh⟩ := hP
  have hx := Bd.exec
  have hby := Bd.bytes
  have hlk := Bd.notSynchronized
  have hret := Bd.returns
  have hml : c.maxLocals = 11 := hml0
  have hown : s.vm.findClass "com/example/ratable/ratable/TextParserDigitsPinLaw" = some m.cls := findClass_of_methodNamed Bd.named
  have hnm := (name_of_methodNamed Bd.named Bd.method).1
  have X0 : Stand p l e room_1 s m #[(.int p0), (.int p1), (.int p2), (.int p3), (.int p4), (.int p5)] below meth c s₁ [] 0 0 := Stand.of_body Bd
  have e0 : s₁.heap = h0 := by rw [← hh, Bd.state]; rfl
  have N0 := Fr.nil n0
  show own_Dn p e below (own_Ret s (own_Q0 n0) 16 128) (s₁.setTop (entryFrame m #[(.int p0), (.int p1), (.int p2), (.int p3), (.int p4), (.int p5)] maxLocals))
  rw [ef_rm_law]
  refine own_st (B := (s₁.setTop (mkF m 1 #[.val (.int p0), .val (.int p1), .val (.int p2), .val (.int p3), .val (.int p4), .val (.int p5), .unset, .unset, .unset, .unset, .unset] [(.int (4 : Int32))]))) (fun _ zk => XS.iconst X0.here hx rfl (hb hby at_0) zk) ?_
  obtain ⟨T1, h1, k1, X1, e1, E1, A1, st1⟩ := newP X0 hx hZ (hw _ (List.mem_of_getElem? (i := 0) rfl)) e0 (g := (mkF m 1 #[.val (.int p0), .val (.int p1), .val (.int p2), .val (.int p3), .val (.int p4), .val (.int p5), .unset, .unset, .unset, .unset, .unset] [(.int (4 : Int32))])) rfl (hb hby at_1) rfl (by decide) (cap := 4) (by decide) (by decide) (by decide) (by decide)
  obtain ⟨b1, g1⟩ : ∃ z, z = h0.size := ⟨_, rfl⟩
  rw [← g1] at A1 st1
  have g_b1 : n0 ≤ b1 := Nat.le_trans Z0 (Nat.le_of_eq g1.symm)
  have Z1 : n0 ≤ h1.size := Nat.le_trans Z0 E1.1
  refine own_st (B := (T1.setTop (mkF m 3 #[.val (.int p0), .val (.int p1), .val (.int p2), .val (.int p3), .val (.int p4), .val (.int p5), .unset, .unset, .unset, .unset, .unset] [(.ref b1)]))) st1 ?_
  have V0 : own_AV Z h1 b1 .char 4 (fun _ => defaultValue .char) := own_AV.new A1 (by decide)
  refine own_st (B := (T1.setTop (mkF m 5 #[.val (.int p0), .val (.int p1), .val (.int p2), .val (.int p3), .val (.int p4), .val (.int p5), .val (.ref b1), .unset, .unset, .unset, .unset] []))) (fun _ zk => XS.astore X1.here hx rfl (hb hby at_3) rfl rfl (l' := #[.val (.int p0), .val (.int p1), .val (.int p2), .val (.int p3), .val (.int p4), .val (.int p5), .val (.ref b1), .unset, .unset, .unset, .unset]) rfl zk) ?_
  refine own_st (B := (T1.setTop (mkF m 7 #[.val (.int p0), .val (.int p1), .val (.int p2), .val (.int p3), .val (.int p4), .val (.int p5), .val (.ref b1), .unset, .unset, .unset, .unset] [(.ref b1)]))) (fun _ zk => XS.aload X1.here hx rfl (hb hby at_5) rfl rfl zk) ?_
  refine own_st (B := (T1.setTop (mkF m 8 #[.val (.int p0), .val (.int p1), .val (.int p2), .val (.int p3), .val (.int p4), .val (.int p5), .val (.ref b1), .unset, .unset, .unset, .unset] [(.int (0 : Int32)), (.ref b1)]))) (fun _ zk => XS.iconst X1.here hx rfl (hb hby at_7) zk) ?_
  refine own_st (B := (T1.setTop (mkF m 9 #[.val (.int p0), .val (.int p1), .val (.int p2), .val (.int p3), .val (.int p4), .val (.int p5), .val (.ref b1), .unset, .unset, .unset, .unset] [(.int p0), (.int (0 : Int32)), (.ref b1)]))) (fun _ zk => XS.iloadN X1.here hx rfl (hb hby at_8) rfl zk) ?_
  obtain ⟨v2, T2, L2, X2, Q2, st2⟩ := own_callS (W := 2) X1 hx hZ (y := (⟨"com/example/ratable/ratable/TextParserDigitsPinLaw", "pick", "(I)C"⟩ : MethodName)) hown (hw _ (List.mem_of_getElem? (i := 1) rfl)) (hw _ (List.mem_of_getElem? (i := 2) rfl)) (hw _ (List.mem_of_getElem? (i := 3) rfl)) (hw _ (List.mem_of_getElem? (i := 4) rfl)) (by decide) e1 (rm_pick l Z a0 hw [] p0 h1) (g := (mkF m 9 #[.val (.int p0), .val (.int p1), .val (.int p2), .val (.int p3), .val (.int p4), .val (.int p5), .val (.ref b1), .unset, .unset, .unset, .unset] [(.int p0), (.int (0 : Int32)), (.ref b1)])) rfl (by rw [hml]; rfl) (argsL := [(.int p0)]) (rest := [(.int (0 : Int32)), (.ref b1)]) (lenOf pd_13 rfl) rfl rfl (by show 2 * 0 + _ ≤ _; exact Nat.le_of_eq rfl) (hb hby at_9) (by decide) (by decide) (by decide) (by decide)
  obtain ⟨ch0, rfl, hch0, rfl, qe2⟩ := Q2
  refine own_st (B := (T2.setTop (mkF m 12 #[.val (.int p0), .val (.int p1), .val (.int p2), .val (.int p3), .val (.int p4), .val (.int p5), .val (.ref b1), .unset, .unset, .unset, .unset] [(.int ch0), (.int (0 : Int32)), (.ref b1)]))) st2 ?_
  have N2 := Fr.app N0 (Fr.nil n0)
  obtain ⟨T3, h3, X3, e3, W3, V3, st3⟩ := own_stC X2 hx hZ qe2 V0 (i := 0) (by decide) (by decide) (by decide) (g := (mkF m 12 #[.val (.int p0), .val (.int p1), .val (.int p2), .val (.int p3), .val (.int p4), .val (.int p5), .val (.ref b1), .unset, .unset, .unset, .unset] [(.int ch0), (.int (0 : Int32)), (.ref b1)])) rfl rfl (hb hby at_12)
  refine own_st (B := (T3.setTop (mkF m 13 #[.val (.int p0), .val (.int p1), .val (.int p2), .val (.int p3), .val (.int p4), .val (.int p5), .val (.ref b1), .unset, .unset, .unset, .unset] []))) st3 ?_
  have N3 := Fr.snoc X3 N2 g_b1
  have O3 := (O.ext E1).wr W3 g_b1
  have ZZ3 : n0 ≤ h3.size := by rw [W3.size]; exact Z1
  refine own_st (B := (T3.setTop (mkF m 15 #[.val (.int p0), .val (.int p1), .val (.int p2), .val (.int p3), .val (.int p4), .val (.int p5), .val (.ref b1), .unset, .unset, .unset, .unset] [(.ref b1)]))) (fun _ zk => XS.aload X3.here hx rfl (hb hby at_13) rfl rfl zk) ?_
  refine own_st (B := (T3.setTop (mkF m 16 #[.val (.int p0), .val (.int p1), .val (.int p2), .val (.int p3), .val (.int p4), .val (.int p5), .val (.ref b1), .unset, .unset, .unset, .unset] [(.int (1 : Int32)), (.ref b1)]))) (fun _ zk => XS.iconst X3.here hx rfl (hb hby at_15) zk) ?_
  refine own_st (B := (T3.setTop (mkF m 17 #[.val (.int p0), .val (.int p1), .val (.int p2), .val (.int p3), .val (.int p4), .val (.int p5), .val (.ref b1), .unset, .unset, .unset, .unset] [(.int p1), (.int (1 : Int32)), (.ref b1)]))) (fun _ zk => XS.iloadN X3.here hx rfl (hb hby at_16) rfl zk) ?_
  obtain ⟨v4, T4, L4, X4, Q4, st4⟩ := own_callS (W := 2) X3 hx hZ (y := (⟨"com/example/ratable/ratable/TextParserDigitsPinLaw", "pick", "(I)C"⟩ : MethodName)) hown (hw _ (List.mem_of_getElem? (i := 1) rfl)) (hw _ (List.mem_of_getElem? (i := 2) rfl)) (hw _ (List.mem_of_getElem? (i := 3) rfl)) (hw _ (List.mem_of_getElem? (i := 4) rfl)) (by decide) e3 (rm_pick l Z a0 hw [] p1 h3) (g := (mkF m 17 #[.val (.int p0), .val (.int p1), .val (.int p2), .val (.int p3), .val (.int p4), .val (.int p5), .val (.ref b1), .unset, .unset, .unset, .unset] [(.int p1), (.int (1 : Int32)), (.ref b1)])) rfl (by rw [hml]; rfl) (argsL := [(.int p1)]) (rest := [(.int (1 : Int32)), (.ref b1)]) (lenOf pd_13 rfl) rfl rfl (by show 2 * 0 + _ ≤ _; exact Nat.le_of_eq rfl) (hb hby at_17) (by decide) (by decide) (by decide) (by decide)
  obtain ⟨ch1, rfl, hch1, rfl, qe4⟩ := Q4
  refine own_st (B := (T4.setTop (mkF m 20 #[.val (.int p0), .val (.int p1), .val (.int p2), .val (.int p3), .val (.int p4), .val (.int p5), .val (.ref b1), .unset, .unset, .unset, .unset] [(.int ch1), (.int (1 : Int32)), (.ref b1)]))) st4 ?_
  have N4 := Fr.app N3 (Fr.nil n0)
  obtain ⟨T5, h5, X5, e5, W5, V5, st5⟩ := own_stC X4 hx hZ qe4 V3 (i := 1) (by decide) (by decide) (by decide) (g := (mkF m 20 #[.val (.int p0), .val (.int p1), .val (.int p2), .val (.int p3), .val (.int p4), .val (.int p5), .val (.ref b1), .unset, .unset, .unset, .unset] [(.int ch1), (.int (1 : Int32)), (.ref b1)])) rfl rfl (hb hby at_20)
  refine own_st (B := (T5.setTop (mkF m 21 #[.val (.int p0), .val (.int p1), .val (.int p2), .val (.int p3), .val (.int p4), .val (.int p5), .val (.ref b1), .unset, .unset, .unset, .unset] []))) st5 ?_
  have N5 := Fr.snoc X5 N4 g_b1
  have O5 := O3.wr W5 g_b1
  have ZZ5 : n0 ≤ h5.size := by rw [W5.size]; exact ZZ3
  refine own_st (B := (T5.setTop (mkF m 23 #[.val (.int p0), .val (.int p1), .val (.int p2), .val (.int p3), .val (.int p4), .val (.int p5), .val (.ref b1), .unset, .unset, .unset, .unset] [(.ref b1)]))) (fun _ zk => XS.aload X5.here hx rfl (hb hby at_21) rfl rfl zk) ?_
  refine own_st (B := (T5.setTop (mkF m 24 #[.val (.int p0), .val (.int p1), .val (.int p2), .val (.int p3), .val (.int p4), .val (.int p5), .val (.ref b1), .unset, .unset, .unset, .unset] [(.int (2 : Int32)), (.ref b1)]))) (fun _ zk => XS.iconst X5.here hx rfl (hb hby at_23) zk) ?_
  refine own_st (B := (T5.setTop (mkF m 25 #[.val (.int p0), .val (.int p1), .val (.int p2), .val (.int p3), .val (.int p4), .val (.int p5), .val (.ref b1), .unset, .unset, .unset, .unset] [(.int p2), (.int (2 : Int32)), (.ref b1)]))) (fun _ zk => XS.iloadN X5.here hx rfl (hb hby at_24) rfl zk) ?_
  obtain ⟨v6, T6, L6, X6, Q6, st6⟩ := own_callS (W := 2) X5 hx hZ (y := (⟨"com/example/ratable/ratable/TextParserDigitsPinLaw", "pick", "(I)C"⟩ : MethodName)) hown (hw _ (List.mem_of_getElem? (i := 1) rfl)) (hw _ (List.mem_of_getElem? (i := 2) rfl)) (hw _ (List.mem_of_getElem? (i := 3) rfl)) (hw _ (List.mem_of_getElem? (i := 4) rfl)) (by decide) e5 (rm_pick l Z a0 hw [] p2 h5) (g := (mkF m 25 #[.val (.int p0), .val (.int p1), .val (.int p2), .val (.int p3), .val (.int p4), .val (.int p5), .val (.ref b1), .unset, .unset, .unset, .unset] [(.int p2), (.int (2 : Int32)), (.ref b1)])) rfl (by rw [hml]; rfl) (argsL := [(.int p2)]) (rest := [(.int (2 : Int32)), (.ref b1)]) (lenOf pd_13 rfl) rfl rfl (by show 2 * 0 + _ ≤ _; exact Nat.le_of_eq rfl) (hb hby at_25) (by decide) (by decide) (by decide) (by decide)
  obtain ⟨ch2, rfl, hch2, rfl, qe6⟩ := Q6
  refine own_st (B := (T6.setTop (mkF m 28 #[.val (.int p0), .val (.int p1), .val (.int p2), .val (.int p3), .val (.int p4), .val (.int p5), .val (.ref b1), .unset, .unset, .unset, .unset] [(.int ch2), (.int (2 : Int32)), (.ref b1)]))) st6 ?_
  have N6 := Fr.app N5 (Fr.nil n0)
  obtain ⟨T7, h7, X7, e7, W7, V7, st7⟩ := own_stC X6 hx hZ qe6 V5 (i := 2) (by decide) (by decide) (by decide) (g := (mkF m 28 #[.val (.int p0), .val (.int p1), .val (.int p2), .val (.int p3), .val (.int p4), .val (.int p5), .val (.ref b1), .unset, .unset, .unset, .unset] [(.int ch2), (.int (2 : Int32)), (.ref b1)])) rfl rfl (hb hby at_28)
  refine own_st (B := (T7.setTop (mkF m 29 #[.val (.int p0), .val (.int p1), .val (.int p2), .val (.int p3), .val (.int p4), .val (.int p5), .val (.ref b1), .unset, .unset, .unset, .unset] []))) st7 ?_
  have N7 := Fr.snoc X7 N6 g_b1
  have O7 := O5.wr W7 g_b1
  have ZZ7 : n0 ≤ h7.size := by rw [W7.size]; exact ZZ5
  refine own_st (B := (T7.setTop (mkF m 31 #[.val (.int p0), .val (.int p1), .val (.int p2), .val (.int p3), .val (.int p4), .val (.int p5), .val (.ref b1), .unset, .unset, .unset, .unset] [(.ref b1)]))) (fun _ zk => XS.aload X7.here hx rfl (hb hby at_29) rfl rfl zk) ?_
  refine own_st (B := (T7.setTop (mkF m 32 #[.val (.int p0), .val (.int p1), .val (.int p2), .val (.int p3), .val (.int p4), .val (.int p5), .val (.ref b1), .unset, .unset, .unset, .unset] [(.int (3 : Int32)), (.ref b1)]))) (fun _ zk => XS.iconst X7.here hx rfl (hb hby at_31) zk) ?_
  refine own_st (B := (T7.setTop (mkF m 33 #[.val (.int p0), .val (.int p1), .val (.int p2), .val (.int p3), .val (.int p4), .val (.int p5), .val (.ref b1), .unset, .unset, .unset, .unset] [(.int p3), (.int (3 : Int32)), (.ref b1)]))) (fun _ zk => XS.iloadN X7.here hx rfl (hb hby at_32) rfl zk) ?_
  obtain ⟨v8, T8, L8, X8, Q8, st8⟩ := own_callS (W := 2) X7 hx hZ (y := (⟨"com/example/ratable/ratable/TextParserDigitsPinLaw", "pick", "(I)C"⟩ : MethodName)) hown (hw _ (List.mem_of_getElem? (i := 1) rfl)) (hw _ (List.mem_of_getElem? (i := 2) rfl)) (hw _ (List.mem_of_getElem? (i := 3) rfl)) (hw _ (List.mem_of_getElem? (i := 4) rfl)) (by decide) e7 (rm_pick l Z a0 hw [] p3 h7) (g := (mkF m 33 #[.val (.int p0), .val (.int p1), .val (.int p2), .val (.int p3), .val (.int p4), .val (.int p5), .val (.ref b1), .unset, .unset, .unset, .unset] [(.int p3), (.int (3 : Int32)), (.ref b1)])) rfl (by rw [hml]; rfl) (argsL := [(.int p3)]) (rest := [(.int (3 : Int32)), (.ref b1)]) (lenOf pd_13 rfl) rfl rfl (by show 2 * 0 + _ ≤ _; exact Nat.le_of_eq rfl) (hb hby at_33) (by decide) (by decide) (by decide) (by decide)
  obtain ⟨ch3, rfl, hch3, rfl, qe8⟩ := Q8
  refine own_st (B := (T8.setTop (mkF m 36 #[.val (.int p0), .val (.int p1), .val (.int p2), .val (.int p3), .val (.int p4), .val (.int p5), .val (.ref b1), .unset, .unset, .unset, .unset] [(.int ch3), (.int (3 : Int32)), (.ref b1)]))) st8 ?_
  have N8 := Fr.app N7 (Fr.nil n0)
  obtain ⟨T9, h9, X9, e9, W9, V9, st9⟩ := own_stC X8 hx hZ qe8 V7 (i := 3) (by decide) (by decide) (by decide) (g := (mkF m 36 #[.val (.int p0), .val (.int p1), .val (.int p2), .val (.int p3), .val (.int p4), .val (.int p5), .val (.ref b1), .unset, .unset, .unset, .unset] [(.int ch3), (.int (3 : Int32)), (.ref b1)])) rfl rfl (hb hby at_36)
  refine own_st (B := (T9.setTop (mkF m 37 #[.val (.int p0), .val (.int p1), .val (.int p2), .val (.int p3), .val (.int p4), .val (.int p5), .val (.ref b1), .unset, .unset, .unset, .unset] []))) st9 ?_
  have N9 := Fr.snoc X9 N8 g_b1
  have O9 := O7.wr W9 g_b1
  have ZZ9 : n0 ≤ h9.size := by rw [W9.size]; exact ZZ7
  have VF : own_AV Z h9 b1 .char 4 (fun i => .int ((fun i => if i = 3 then ch3 else if i = 2 then ch2 else if i = 1 then ch1 else ch0) i)) := V9.congr fun i hi => by
    have hi' : i = 0 ∨ i = 1 ∨ i = 2 ∨ i = 3 := by omega
    rcases hi' with rfl | rfl | rfl | rfl
    · exact congrArg Value.int (own_nch hch0)
    · exact congrArg Value.int (own_nch hch1)
    · exact congrArg Value.int (own_nch hch2)
    · exact congrArg Value.int (own_nch hch3)
  have hf : ∀ i, i < 4 → 0 ≤ ((fun i => if i = 3 then ch3 else if i = 2 then ch2 else if i = 1 then ch1 else ch0) i).toInt ∧ ((fun i => if i = 3 then ch3 else if i = 2 then ch2 else if i = 1 then ch1 else ch0) i).toInt < 65536 := fun i hi => by
    have hi' : i = 0 ∨ i = 1 ∨ i = 2 ∨ i = 3 := by omega
    rcases hi' with rfl | rfl | rfl | rfl
    · exact hch0
    · exact hch1
    · exact hch2
    · exact hch3
  obtain ⟨T10, h10, X10, e10, E10, A10, D10, -, st10⟩ := newO X9 hx hZ hown (hw _ (List.mem_of_getElem? (i := 6) rfl)) (hw _ (List.mem_of_getElem? (i := 7) rfl)) (hw _ (List.mem_of_getElem? (i := 8) rfl)) e9 (g := (mkF m 37 #[.val (.int p0), .val (.int p1), .val (.int p2), .val (.int p3), .val (.int p4), .val (.int p5), .val (.ref b1), .unset, .unset, .unset, .unset] [])) rfl (hb hby at_37) (by decide) (by decide)
  obtain ⟨b10, g10⟩ : ∃ z, z = h9.size := ⟨_, rfl⟩
  rw [← g10] at A10 D10 st10
  have g_b10 : n0 ≤ b10 := Nat.le_trans ZZ9 (Nat.le_of_eq g10.symm)
  have F_coder_b10 : Fld Z h10 b10 "java/lang/String" "coder" "B" (.int (0 : Int32)) := D10 (Or.inr (hw _ (List.mem_of_getElem? (i := 32) rfl))) (ty := .byte) (by decide)
  have F_value_b10 : Fld Z h10 b10 "java/lang/String" "value" "[B" .null := D10 (Or.inr (hw _ (List.mem_of_getElem? (i := 34) rfl))) (ty := (.array .byte)) (by decide)
  have Z10 : n0 ≤ h10.size := Nat.le_trans ZZ9 E10.1
  refine own_st (B := (T10.setTop (mkF m 40 #[.val (.int p0), .val (.int p1), .val (.int p2), .val (.int p3), .val (.int p4), .val (.int p5), .val (.ref b1), .unset, .unset, .unset, .unset] [(.ref b10)]))) st10 ?_
  refine own_st (B := (T10.setTop (mkF m 41 #[.val (.int p0), .val (.int p1), .val (.int p2), .val (.int p3), .val (.int p4), .val (.int p5), .val (.ref b1), .unset, .unset, .unset, .unset] [(.ref b10), (.ref b10)]))) (fun _ zk => XS.dup X10.here hx rfl (hb hby at_40) rfl rfl zk) ?_
  refine own_st (B := (T10.setTop (mkF m 43 #[.val (.int p0), .val (.int p1), .val (.int p2), .val (.int p3), .val (.int p4), .val (.int p5), .val (.ref b1), .unset, .unset, .unset, .unset] [(.ref b1), (.ref b10), (.ref b10)]))) (fun _ zk => XS.aload X10.here hx rfl (hb hby at_41) rfl rfl zk) ?_
  have OJ := O9.ext E10
  obtain ⟨v11, T11, L11, X11, Q11, st11⟩ := own_callN (W := 1) X10 hx hZ (y := (⟨"java/lang/String", "<init>", "([C)V"⟩ : MethodName)) rfl hown (hw _ (List.mem_of_getElem? (i := 9) rfl)) (hw _ (List.mem_of_getElem? (i := 10) rfl)) (hw _ (List.mem_of_getElem? (i := 8) rfl)) (hw _ (List.mem_of_getElem? (i := 11) rfl)) (by decide) e10 (rm_i1 l Z a0 hw [] b10 b1 (fun i => if i = 3 then ch3 else if i = 2 then ch2 else if i = 1 then ch1 else ch0) .null (.int 0) cs vG h10 n0 Z10 ST hcs hG OJ g_b10 A10 F_value_b10 F_coder_b10 hf (VF.ext E10)) (g := (mkF m 43 #[.val (.int p0), .val (.int p1), .val (.int p2), .val (.int p3), .val (.int p4), .val (.int p5), .val (.ref b1), .unset, .unset, .unset, .unset] [(.ref b1), (.ref b10), (.ref b10)])) rfl (by rw [hml]; rfl) (a := b10) (argsL := [(.ref b1)]) (rest := [(.ref b10)]) (lenOf pd_14 rfl) rfl rfl (by show 2 * 0 + _ ≤ _; exact Nat.le_of_eq rfl) (hb hby at_43) (by decide) (by decide) (by decide) (by decide)
  obtain ⟨rfl, N11q, K11, HS11⟩ := Q11
  refine own_st (B := (T11.setTop (mkF m 46 #[.val (.int p0), .val (.int p1), .val (.int p2), .val (.int p3), .val (.int p4), .val (.int p5), .val (.ref b1), .unset, .unset, .unset, .unset] [(.ref b10)]))) st11 ?_
  have N11 := Fr.app N9 N11q
  have OC := OJ.keep K11 (allS g_b10 all0)
  have ZC : n0 ≤ T11.heap.size := Nat.le_trans Z10 K11.1
  have VC := (VF.ext E10).keep K11 (ninS (Nat.ne_of_lt (Nat.lt_of_lt_of_le VF.lt (Nat.le_of_eq g10.symm))) nin0)
  refine own_st (B := (T11.setTop (mkF m 48 #[.val (.int p0), .val (.int p1), .val (.int p2), .val (.int p3), .val (.int p4), .val (.int p5), .val (.ref b1), .val (.ref b10), .unset, .unset, .unset] []))) (fun _ zk => XS.astore X11.here hx rfl (hb hby at_46) rfl rfl (l' := #[.val (.int p0), .val (.int p1), .val (.int p2), .val (.int p3), .val (.int p4), .val (.int p5), .val (.ref b1), .val (.ref b10), .unset, .unset, .unset]) rfl zk) ?_
  refine own_st (B := (T11.setTop (mkF m 50 #[.val (.int p0), .val (.int p1), .val (.int p2), .val (.int p3), .val (.int p4), .val (.int p5), .val (.ref b1), .val (.ref b10), .unset, .unset, .unset] [(.int p4)]))) (fun _ zk => XS.iload X11.here hx rfl (hb hby at_48) rfl zk) ?_
  refine own_st (B := (T11.setTop (mkF m 52 #[.val (.int p0), .val (.int p1), .val (.int p2), .val (.int p3), .val (.int p4), .val (.int p5), .val (.ref b1), .val (.ref b10), .unset, .unset, .unset] [(.int (2147483647 : Int32)), (.int p4)]))) (fun _ zk => X11.ldcInt hx hown (mvT hZ (hw _ (List.mem_of_getElem? (i := 35) rfl))) (g := (mkF m 50 #[.val (.int p0), .val (.int p1), .val (.int p2), .val (.int p3), .val (.int p4), .val (.int p5), .val (.ref b1), .val (.ref b10), .unset, .unset, .unset] [(.int p4)])) rfl (hb hby at_50) _ zk) ?_
  refine own_st (B := (T11.setTop (mkF m 53 #[.val (.int p0), .val (.int p1), .val (.int p2), .val (.int p3), .val (.int p4), .val (.int p5), .val (.ref b1), .val (.ref b10), .unset, .unset, .unset] [(.int (p4 &&& (2147483647 : Int32)))]))) (fun _ zk => XS.iand X11.here hx rfl (hb hby at_52) rfl zk) ?_
  refine own_st (B := (T11.setTop (mkF m 54 #[.val (.int p0), .val (.int p1), .val (.int p2), .val (.int p3), .val (.int p4), .val (.int p5), .val (.ref b1), .val (.ref b10), .unset, .unset, .unset] [(.int (5 : Int32)), (.int (p4 &&& (2147483647 : Int32)))]))) (fun _ zk => XS.iconst X11.here hx rfl (hb hby at_53) zk) ?_
  refine own_st (B := (T11.setTop (mkF m 55 #[.val (.int p0), .val (.int p1), .val (.int p2), .val (.int p3), .val (.int p4), .val (.int p5), .val (.ref b1), .val (.ref b10), .unset, .unset, .unset] [(.int ((p4 &&& (2147483647 : Int32)) % (5 : Int32)))]))) (fun _ zk => iremM X11 hx rfl (hb hby at_54) rfl (by decide) zk) ?_
  refine own_st (B := (T11.setTop (mkF m 57 #[.val (.int p0), .val (.int p1), .val (.int p2), .val (.int p3), .val (.int p4), .val (.int p5), .val (.ref b1), .val (.ref b10), .val (.int ((p4 &&& (2147483647 : Int32)) % (5 : Int32))), .unset, .unset] []))) (fun _ zk => XS.istore X11.here hx rfl (hb hby at_55) rfl (l' := #[.val (.int p0), .val (.int p1), .val (.int p2), .val (.int p3), .val (.int p4), .val (.int p5), .val (.ref b1), .val (.ref b10), .val (.int ((p4 &&& (2147483647 : Int32)) % (5 : Int32))), .unset, .unset]) rfl zk) ?_
  obtain ⟨kb, hkb, hb1⟩ := own_mod5 p4
  generalize ((p4 &&& (2147483647 : Int32)) % (5 : Int32)) = ub at *
  refine own_st (B := (T11.setTop (mkF m 59 #[.val (.int p0), .val (.int p1), .val (.int p2), .val (.int p3), .val (.int p4), .val (.int p5), .val (.ref b1), .val (.ref b10), .val (.int ub), .unset, .unset] [(.int p5)]))) (fun _ zk => XS.iload X11.here hx rfl (hb hby at_57) rfl zk) ?_
  refine own_st (B := (T11.setTop (mkF m 61 #[.val (.int p0), .val (.int p1), .val (.int p2), .val (.int p3), .val (.int p4), .val (.int p5), .val (.ref b1), .val (.ref b10), .val (.int ub), .unset, .unset] [(.int (2147483647 : Int32)), (.int p5)]))) (fun _ zk => X11.ldcInt hx hown (mvT hZ (hw _ (List.mem_of_getElem? (i := 35) rfl))) (g := (mkF m 59 #[.val (.int p0), .val (.int p1), .val (.int p2), .val (.int p3), .val (.int p4), .val (.int p5), .val (.ref b1), .val (.ref b10), .val (.int ub), .unset, .unset] [(.int p5)])) rfl (hb hby at_59) _ zk) ?_
  refine own_st (B := (T11.setTop (mkF m 62 #[.val (.int p0), .val (.int p1), .val (.int p2), .val (.int p3), .val (.int p4), .val (.int p5), .val (.ref b1), .val (.ref b10), .val (.int ub), .unset, .unset] [(.int (p5 &&& (2147483647 : Int32)))]))) (fun _ zk => XS.iand X11.here hx rfl (hb hby at_61) rfl zk) ?_
  refine own_st (B := (T11.setTop (mkF m 63 #[.val (.int p0), .val (.int p1), .val (.int p2), .val (.int p3), .val (.int p4), .val (.int p5), .val (.ref b1), .val (.ref b10), .val (.int ub), .unset, .unset] [(.int (5 : Int32)), (.int (p5 &&& (2147483647 : Int32)))]))) (fun _ zk => XS.iconst X11.here hx rfl (hb hby at_62) zk) ?_
  refine own_st (B := (T11.setTop (mkF m 64 #[.val (.int p0), .val (.int p1), .val (.int p2), .val (.int p3), .val (.int p4), .val (.int p5), .val (.ref b1), .val (.ref b10), .val (.int ub), .unset, .unset] [(.int ((p5 &&& (2147483647 : Int32)) % (5 : Int32)))]))) (fun _ zk => iremM X11 hx rfl (hb hby at_63) rfl (by decide) zk) ?_
  refine own_st (B := (T11.setTop (mkF m 66 #[.val (.int p0), .val (.int p1), .val (.int p2), .val (.int p3), .val (.int p4), .val (.int p5), .val (.ref b1), .val (.ref b10), .val (.int ub), .val (.int ((p5 &&& (2147483647 : Int32)) % (5 : Int32))), .unset] []))) (fun _ zk => XS.istore X11.here hx rfl (hb hby at_64) rfl (l' := #[.val (.int p0), .val (.int p1), .val (.int p2), .val (.int p3), .val (.int p4), .val (.int p5), .val (.ref b1), .val (.ref b10), .val (.int ub), .val (.int ((p5 &&& (2147483647 : Int32)) % (5 : Int32))), .unset]) rfl zk) ?_
  obtain ⟨ke, hke, he1⟩ := own_mod5 p5
  generalize ((p5 &&& (2147483647 : Int32)) % (5 : Int32)) = ue at *
  have zi0 : (0 : Int32).toInt = 0 := by decide
  have zi1 : (1 : Int32).toInt = 1 := by decide
  have zi2 : (2 : Int32).toInt = 2 := by decide
  have zi3 : (3 : Int32).toInt = 3 := by decide
  refine own_st (B := (T11.setTop (mkF m 68 #[.val (.int p0), .val (.int p1), .val (.int p2), .val (.int p3), .val (.int p4), .val (.int p5), .val (.ref b1), .val (.ref b10), .val (.int ub), .val (.int ue), .unset] [(.ref b1)]))) (fun _ zk => XS.aload X11.here hx rfl (hb hby at_66) rfl rfl zk) ?_
  refine own_st (B := (T11.setTop (mkF m 69 #[.val (.int p0), .val (.int p1), .val (.int p2), .val (.int p3), .val (.int p4), .val (.int p5), .val (.ref b1), .val (.ref b10), .val (.int ub), .val (.int ue), .unset] [(.int (0 : Int32)), (.ref b1)]))) (fun _ zk => XS.iconst X11.here hx rfl (hb hby at_68) zk) ?_
  refine own_st (B := (T11.setTop (mkF m 70 #[.val (.int p0), .val (.int p1), .val (.int p2), .val (.int p3), .val (.int p4), .val (.int p5), .val (.ref b1), .val (.ref b10), .val (.int ub), .val (.int ue), .unset] [(.int ch0)]))) (fun _ zk => own_caload X11 hx hZ rfl VC (i := 0) (by decide) (by decide) (by decide) (g := (mkF m 69 #[.val (.int p0), .val (.int p1), .val (.int p2), .val (.int p3), .val (.int p4), .val (.int p5), .val (.ref b1), .val (.ref b10), .val (.int ub), .val (.int ue), .unset] [(.int (0 : Int32)), (.ref b1)])) rfl rfl (hb hby at_69) _ zk) ?_
  refine own_st (B := (T11.setTop (mkF m 71 #[.val (.int p0), .val (.int p1), .val (.int p2), .val (.int p3), .val (.int p4), .val (.int p5), .val (.ref b1), .val (.ref b10), .val (.int ub), .val (.int ue), .unset] [(.int (0 : Int32)), (.int ch0)]))) (fun _ zk => XS.iconst X11.here hx rfl (hb hby at_70) zk) ?_
  refine own_st (B := (T11.setTop (mkF m 73 #[.val (.int p0), .val (.int p1), .val (.int p2), .val (.int p3), .val (.int p4), .val (.int p5), .val (.ref b1), .val (.ref b10), .val (.int ub), .val (.int ue), .unset] [(.int ub), (.int (0 : Int32)), (.int ch0)]))) (fun _ zk => XS.iload X11.here hx rfl (hb hby at_71) rfl zk) ?_
  refine own_st (B := (T11.setTop (mkF m 75 #[.val (.int p0), .val (.int p1), .val (.int p2), .val (.int p3), .val (.int p4), .val (.int p5), .val (.ref b1), .val (.ref b10), .val (.int ub), .val (.int ue), .unset] [(.int ue), (.int ub), (.int (0 : Int32)), (.int ch0)]))) (fun _ zk => XS.iload X11.here hx rfl (hb hby at_73) rfl zk) ?_
  by_cases ok0 : ((ub.toInt ≤ (0 : Int32).toInt ∧ (0 : Int32).toInt < ue.toInt) → own_dig ch0)
  · obtain ⟨v12, T12, L12, X12, Q12, st12⟩ := own_callS (W := 0) X11 hx hZ (y := (⟨"com/example/ratable/ratable/TextParserDigitsPinLaw", "fine", "(CIII)Z"⟩ : MethodName)) hown (hw _ (List.mem_of_getElem? (i := 36) rfl)) (hw _ (List.mem_of_getElem? (i := 37) rfl)) (hw _ (List.mem_of_getElem? (i := 3) rfl)) (hw _ (List.mem_of_getElem? (i := 38) rfl)) (by decide) rfl (rm_fine l Z a0 hw [] ch0 0 ub ue 1 T11.heap (Or.inl ⟨rfl, ok0⟩)) (g := (mkF m 75 #[.val (.int p0), .val (.int p1), .val (.int p2), .val (.int p3), .val (.int p4), .val (.int p5), .val (.ref b1), .val (.ref b10), .val (.int ub), .val (.int ue), .unset] [(.int ue), (.int ub), (.int (0 : Int32)), (.int ch0)])) rfl (by rw [hml]; rfl) (argsL := [(.int ch0), (.int (0 : Int32)), (.int ub), (.int ue)]) (rest := []) (lenOf pd_15 rfl) rfl rfl (by show 2 * 0 + _ ≤ _; exact Nat.le_of_eq rfl) (hb hby at_75) (by decide) (by decide) (by decide) (by decide)
    obtain ⟨rfl, rfl, qe12⟩ := Q12
    refine own_st (B := (T12.setTop (mkF m 78 #[.val (.int p0), .val (.int p1), .val (.int p2), .val (.int p3), .val (.int p4), .val (.int p5), .val (.ref b1), .val (.ref b10), .val (.int ub), .val (.int ue), .unset] [(.int (1 : Int32))]))) st12 ?_
    have N12 := Fr.app N11 (Fr.nil n0)
    refine own_st (B := (T12.setTop (mkF m 81 #[.val (.int p0), .val (.int p1), .val (.int p2), .val (.int p3), .val (.int p4), .val (.int p5), .val (.ref b1), .val (.ref b10), .val (.int ub), .val (.int ue), .unset] []))) (fun _ zk => XS.ifNo X12.here hx rfl (hb hby at_78) rfl ((if0 _ _).trans (feq (by decide)).1) zk) ?_
    refine own_st (B := (T12.setTop (mkF m 83 #[.val (.int p0), .val (.int p1), .val (.int p2), .val (.int p3), .val (.int p4), .val (.int p5), .val (.ref b1), .val (.ref b10), .val (.int ub), .val (.int ue), .unset] [(.ref b1)]))) (fun _ zk => XS.aload X12.here hx rfl (hb hby at_81) rfl rfl zk) ?_
    refine own_st (B := (T12.setTop (mkF m 84 #[.val (.int p0), .val (.int p1), .val (.int p2), .val (.int p3), .val (.int p4), .val (.int p5), .val (.ref b1), .val (.ref b10), .val (.int ub), .val (.int ue), .unset] [(.int (1 : Int32)), (.ref b1)]))) (fun _ zk => XS.iconst X12.here hx rfl (hb hby at_83) zk) ?_
    refine own_st (B := (T12.setTop (mkF m 85 #[.val (.int p0), .val (.int p1), .val (.int p2), .val (.int p3), .val (.int p4), .val (.int p5), .val (.ref b1), .val (.ref b10), .val (.int ub), .val (.int ue), .unset] [(.int ch1)]))) (fun _ zk => own_caload X12 hx hZ qe12 VC (i := 1) (by decide) (by decide) (by decide) (g := (mkF m 84 #[.val (.int p0), .val (.int p1), .val (.int p2), .val (.int p3), .val (.int p4), .val (.int p5), .val (.ref b1), .val (.ref b10), .val (.int ub), .val (.int ue), .unset] [(.int (1 : Int32)), (.ref b1)])) rfl rfl (hb hby at_84) _ zk) ?_
    refine own_st (B := (T12.setTop (mkF m 86 #[.val (.int p0), .val (.int p1), .val (.int p2), .val (.int p3), .val (.int p4), .val (.int p5), .val (.ref b1), .val (.ref b10), .val (.int ub), .val (.int ue), .unset] [(.int (1 : Int32)), (.int ch1)]))) (fun _ zk => XS.iconst X12.here hx rfl (hb hby at_85) zk) ?_
    refine own_st (B := (T12.setTop (mkF m 88 #[.val (.int p0), .val (.int p1), .val (.int p2), .val (.int p3), .val (.int p4), .val (.int p5), .val (.ref b1), .val (.ref b10), .val (.int ub), .val (.int ue), .unset] [(.int ub), (.int (1 : Int32)), (.int ch1)]))) (fun _ zk => XS.iload X12.here hx rfl (hb hby at_86) rfl zk) ?_
    refine own_st (B := (T12.setTop (mkF m 90 #[.val (.int p0), .val (.int p1), .val (.int p2), .val (.int p3), .val (.int p4), .val (.int p5), .val (.ref b1), .val (.ref b10), .val (.int ub), .val (.int ue), .unset] [(.int ue), (.int ub), (.int (1 : Int32)), (.int ch1)]))) (fun _ zk => XS.iload X12.here hx rfl (hb hby at_88) rfl zk) ?_
    by_cases ok1 : ((ub.toInt ≤ (1 : Int32).toInt ∧ (1 : Int32).toInt < ue.toInt) → own_dig ch1)
    · obtain ⟨v13, T13, L13, X13, Q13, st13⟩ := own_callS (W := 0) X12 hx hZ (y := (⟨"com/example/ratable/ratable/TextParserDigitsPinLaw", "fine", "(CIII)Z"⟩ : MethodName)) hown (hw _ (List.mem_of_getElem? (i := 36) rfl)) (hw _ (List.mem_of_getElem? (i := 37) rfl)) (hw _ (List.mem_of_getElem? (i := 3) rfl)) (hw _ (List.mem_of_getElem? (i := 38) rfl)) (by decide) qe12 (rm_fine l Z a0 hw [] ch1 1 ub ue 1 T11.heap (Or.inl ⟨rfl, ok1⟩)) (g := (mkF m 90 #[.val (.int p0), .val (.int p1), .val (.int p2), .val (.int p3), .val (.int p4), .val (.int p5), .val (.ref b1), .val (.ref b10), .val (.int ub), .val (.int ue), .unset] [(.int ue), (.int ub), (.int (1 : Int32)), (.int ch1)])) rfl (by rw [hml]; rfl) (argsL := [(.int ch1), (.int (1 : Int32)), (.int ub), (.int ue)]) (rest := []) (lenOf pd_15 rfl) rfl rfl (by show 2 * 0 + _ ≤ _; exact Nat.le_of_eq rfl) (hb hby at_90) (by decide) (by decide) (by decide) (by decide)
      obtain ⟨rfl, rfl, qe13⟩ := Q13
      refine own_st (B := (T13.setTop (mkF m 93 #[.val (.int p0), .val (.int p1), .val (.int p2), .val (.int p3), .val (.int p4), .val (.int p5), .val (.ref b1), .val (.ref b10), .val (.int ub), .val (.int ue), .unset] [(.int (1 : Int32))]))) st13 ?_
      have N13 := Fr.app N12 (Fr.nil n0)
      refine own_st (B := (T13.setTop (mkF m 96 #[.val (.int p0), .val (.int p1), .val (.int p2), .val (.int p3), .val (.int p4), .val (.int p5), .val (.ref b1), .val (.ref b10), .val (.int ub), .val (.int ue), .unset] []))) (fun _ zk => XS.ifNo X13.here hx rfl (hb hby at_93) rfl ((if0 _ _).trans (feq (by decide)).1) zk) ?_
      refine own_st (B := (T13.setTop (mkF m 98 #[.val (.int p0), .val (.int p1), .val (.int p2), .val (.int p3), .val (.int p4), .val (.int p5), .val (.ref b1), .val (.ref b10), .val (.int ub), .val (.int ue), .unset] [(.ref b1)]))) (fun _ zk => XS.aload X13.here hx rfl (hb hby at_96) rfl rfl zk) ?_
      refine own_st (B := (T13.setTop (mkF m 99 #[.val (.int p0), .val (.int p1), .val (.int p2), .val (.int p3), .val (.int p4), .val (.int p5), .val (.ref b1), .val (.ref b10), .val (.int ub), .val (.int ue), .unset] [(.int (2 : Int32)), (.ref b1)]))) (fun _ zk => XS.iconst X13.here hx rfl (hb hby at_98) zk) ?_
      refine own_st (B := (T13.setTop (mkF m 100 #[.val (.int p0), .val (.int p1), .val (.int p2), .val (.int p3), .val (.int p4), .val (.int p5), .val (.ref b1), .val (.ref b10), .val (.int ub), .val (.int ue), .unset] [(.int ch2)]))) (fun _ zk => own_caload X13 hx hZ qe13 VC (i := 2) (by decide) (by decide) (by decide) (g := (mkF m 99 #[.val (.int p0), .val (.int p1), .val (.int p2), .val (.int p3), .val (.int p4), .val (.int p5), .val (.ref b1), .val (.ref b10), .val (.int ub), .val (.int ue), .unset] [(.int (2 : Int32)), (.ref b1)])) rfl rfl (hb hby at_99) _ zk) ?_
      refine own_st (B := (T13.setTop (mkF m 101 #[.val (.int p0), .val (.int p1), .val (.int p2), .val (.int p3), .val (.int p4), .val (.int p5), .val (.ref b1), .val (.ref b10), .val (.int ub), .val (.int ue), .unset] [(.int (2 : Int32)), (.int ch2)]))) (fun _ zk => XS.iconst X13.here hx rfl (hb hby at_100) zk) ?_
      refine own_st (B := (T13.setTop (mkF m 103 #[.val (.int p0), .val (.int p1), .val (.int p2), .val (.int p3), .val (.int p4), .val (.int p5), .val (.ref b1), .val (.ref b10), .val (.int ub), .val (.int ue), .unset] [(.int ub), (.int (2 : Int32)), (.int ch2)]))) (fun _ zk => XS.iload X13.here hx rfl (hb hby at_101) rfl zk) ?_
      refine own_st (B := (T13.setTop (mkF m 105 #[.val (.int p0), .val (.int p1), .val (.int p2), .val (.int p3), .val (.int p4), .val (.int p5), .val (.ref b1), .val (.ref b10), .val (.int ub), .val (.int ue), .unset] [(.int ue), (.int ub), (.int (2 : Int32)), (.int ch2)]))) (fun _ zk => XS.iload X13.here hx rfl (hb hby at_103) rfl zk) ?_
      by_cases ok2 : ((ub.toInt ≤ (2 : Int32).toInt ∧ (2 : Int32).toInt < ue.toInt) → own_dig ch2)
      · obtain ⟨v14, T14, L14, X14, Q14, st14⟩ := own_callS (W := 0) X13 hx hZ (y := (⟨"com/example/ratable/ratable/TextParserDigitsPinLaw", "fine", "(CIII)Z"⟩ : MethodName)) hown (hw _ (List.mem_of_getElem? (i := 36) rfl)) (hw _ (List.mem_of_getElem? (i := 37) rfl)) (hw _ (List.mem_of_getElem? (i := 3) rfl)) (hw _ (List.mem_of_getElem? (i := 38) rfl)) (by decide) qe13 (rm_fine l Z a0 hw [] ch2 2 ub ue 1 T11.heap (Or.inl ⟨rfl, ok2⟩)) (g := (mkF m 105 #[.val (.int p0), .val (.int p1), .val (.int p2), .val (.int p3), .val (.int p4), .val (.int p5), .val (.ref b1), .val (.ref b10), .val (.int ub), .val (.int ue), .unset] [(.int ue), (.int ub), (.int (2 : Int32)), (.int ch2)])) rfl (by rw [hml]; rfl) (argsL := [(.int ch2), (.int (2 : Int32)), (.int ub), (.int ue)]) (rest := []) (lenOf pd_15 rfl) rfl rfl (by show 2 * 0 + _ ≤ _; exact Nat.le_of_eq rfl) (hb hby at_105) (by decide) (by decide) (by decide) (by decide)
        obtain ⟨rfl, rfl, qe14⟩ := Q14
        refine own_st (B := (T14.setTop (mkF m 108 #[.val (.int p0), .val (.int p1), .val (.int p2), .val (.int p3), .val (.int p4), .val (.int p5), .val (.ref b1), .val (.ref b10), .val (.int ub), .val (.int ue), .unset] [(.int (1 : Int32))]))) st14 ?_
        have N14 := Fr.app N13 (Fr.nil n0)
        refine own_st (B := (T14.setTop (mkF m 111 #[.val (.int p0), .val (.int p1), .val (.int p2), .val (.int p3), .val (.int p4), .val (.int p5), .val (.ref b1), .val (.ref b10), .val (.int ub), .val (.int ue), .unset] []))) (fun _ zk => XS.ifNo X14.here hx rfl (hb hby at_108) rfl ((if0 _ _).trans (feq (by decide)).1) zk) ?_
        refine own_st (B := (T14.setTop (mkF m 113 #[.val (.int p0), .val (.int p1), .val (.int p2), .val (.int p3), .val (.int p4), .val (.int p5), .val (.ref b1), .val (.ref b10), .val (.int ub), .val (.int ue), .unset] [(.ref b1)]))) (fun _ zk => XS.aload X14.here hx rfl (hb hby at_111) rfl rfl zk) ?_
        refine own_st (B := (T14.setTop (mkF m 114 #[.val (.int p0), .val (.int p1), .val (.int p2), .val (.int p3), .val (.int p4), .val (.int p5), .val (.ref b1), .val (.ref b10), .val (.int ub), .val (.int ue), .unset] [(.int (3 : Int32)), (.ref b1)]))) (fun _ zk => XS.iconst X14.here hx rfl (hb hby at_113) zk) ?_
        refine own_st (B := (T14.setTop (mkF m 115 #[.val (.int p0), .val (.int p1), .val (.int p2), .val (.int p3), .val (.int p4), .val (.int p5), .val (.ref b1), .val (.ref b10), .val (.int ub), .val (.int ue), .unset] [(.int ch3)]))) (fun _ zk => own_caload X14 hx hZ qe14 VC (i := 3) (by decide) (by decide) (by decide) (g := (mkF m 114 #[.val (.int p0), .val (.int p1), .val (.int p2), .val (.int p3), .val (.int p4), .val (.int p5), .val (.ref b1), .val (.ref b10), .val (.int ub), .val (.int ue), .unset] [(.int (3 : Int32)), (.ref b1)])) rfl rfl (hb hby at_114) _ zk) ?_
        refine own_st (B := (T14.setTop (mkF m 116 #[.val (.int p0), .val (.int p1), .val (.int p2), .val (.int p3), .val (.int p4), .val (.int p5), .val (.ref b1), .val (.ref b10), .val (.int ub), .val (.int ue), .unset] [(.int (3 : Int32)), (.int ch3)]))) (fun _ zk => XS.iconst X14.here hx rfl (hb hby at_115) zk) ?_
        refine own_st (B := (T14.setTop (mkF m 118 #[.val (.int p0), .val (.int p1), .val (.int p2), .val (.int p3), .val (.int p4), .val (.int p5), .val (.ref b1), .val (.ref b10), .val (.int ub), .val (.int ue), .unset] [(.int ub), (.int (3 : Int32)), (.int ch3)]))) (fun _ zk => XS.iload X14.here hx rfl (hb hby at_116) rfl zk) ?_
        refine own_st (B := (T14.setTop (mkF m 120 #[.val (.int p0), .val (.int p1), .val (.int p2), .val (.int p3), .val (.int p4), .val (.int p5), .val (.ref b1), .val (.ref b10), .val (.int ub), .val (.int ue), .unset] [(.int ue), (.int ub), (.int (3 : Int32)), (.int ch3)]))) (fun _ zk => XS.iload X14.here hx rfl (hb hby at_118) rfl zk) ?_
        by_cases ok3 : ((ub.toInt ≤ (3 : Int32).toInt ∧ (3 : Int32).toInt < ue.toInt) → own_dig ch3)
        · obtain ⟨v15, T15, L15, X15, Q15, st15⟩ := own_callS (W := 0) X14 hx hZ (y := (⟨"com/example/ratable/ratable/TextParserDigitsPinLaw", "fine", "(CIII)Z"⟩ : MethodName)) hown (hw _ (List.mem_of_getElem? (i := 36) rfl)) (hw _ (List.mem_of_getElem? (i := 37) rfl)) (hw _ (List.mem_of_getElem? (i := 3) rfl)) (hw _ (List.mem_of_getElem? (i := 38) rfl)) (by decide) qe14 (rm_fine l Z a0 hw [] ch3 3 ub ue 1 T11.heap (Or.inl ⟨rfl, ok3⟩)) (g := (mkF m 120 #[.val (.int p0), .val (.int p1), .val (.int p2), .val (.int p3), .val (.int p4), .val (.int p5), .val (.ref b1), .val (.ref b10), .val (.int ub), .val (.int ue), .unset] [(.int ue), (.int ub), (.int (3 : Int32)), (.int ch3)])) rfl (by rw [hml]; rfl) (argsL := [(.int ch3), (.int (3 : Int32)), (.int ub), (.int ue)]) (rest := []) (lenOf pd_15 rfl) rfl rfl (by show 2 * 0 + _ ≤ _; exact Nat.le_of_eq rfl) (hb hby at_120) (by decide) (by decide) (by decide) (by decide)
          obtain ⟨rfl, rfl, qe15⟩ := Q15
          refine own_st (B := (T15.setTop (mkF m 123 #[.val (.int p0), .val (.int p1), .val (.int p2), .val (.int p3), .val (.int p4), .val (.int p5), .val (.ref b1), .val (.ref b10), .val (.int ub), .val (.int ue), .unset] [(.int (1 : Int32))]))) st15 ?_
          have N15 := Fr.app N14 (Fr.nil n0)
          have hall : ∀ q, kb ≤ q → q < ke → own_dig ((fun i => if i = 3 then ch3 else if i = 2 then ch2 else if i = 1 then ch1 else ch0) q) := fun q q1 q2 => by
            have hq' : q = 0 ∨ q = 1 ∨ q = 2 ∨ q = 3 := by omega
            rcases hq' with rfl | rfl | rfl | rfl
            · exact ok0 (by omega)
            · exact ok1 (by omega)
            · exact ok2 (by omega)
            · exact ok3 (by omega)
          refine own_st (B := (T15.setTop (mkF m 126 #[.val (.int p0), .val (.int p1), .val (.int p2), .val (.int p3), .val (.int p4), .val (.int p5), .val (.ref b1), .val (.ref b10), .val (.int ub), .val (.int ue), .unset] []))) (fun _ zk => XS.ifNo X15.here hx rfl (hb hby at_123) rfl ((if0 _ _).trans (feq (by decide)).1) zk) ?_
          refine own_st (B := (T15.setTop (mkF m 127 #[.val (.int p0), .val (.int p1), .val (.int p2), .val (.int p3), .val (.int p4), .val (.int p5), .val (.ref b1), .val (.ref b10), .val (.int ub), .val (.int ue), .unset] [(.int (1 : Int32))]))) (fun _ zk => XS.iconst X15.here hx rfl (hb hby at_126) zk) ?_
          refine own_st (B := (T15.setTop (mkF m 131 #[.val (.int p0), .val (.int p1), .val (.int p2), .val (.int p3), .val (.int p4), .val (.int p5), .val (.ref b1), .val (.ref b10), .val (.int ub), .val (.int ue), .unset] [(.int (1 : Int32))]))) (fun _ zk => XS.goto X15.here hx rfl (pc0 := 127) (pc' := 131) rfl (hb hby at_127) (by decide) (by decide) zk) ?_
          refine own_st (B := (T15.setTop (mkF m 133 #[.val (.int p0), .val (.int p1), .val (.int p2), .val (.int p3), .val (.int p4), .val (.int p5), .val (.ref b1), .val (.ref b10), .val (.int ub), .val (.int ue), .val (.int (1 : Int32))] []))) (fun _ zk => XS.istore X15.here hx rfl (hb hby at_131) rfl (l' := #[.val (.int p0), .val (.int p1), .val (.int p2), .val (.int p3), .val (.int p4), .val (.int p5), .val (.ref b1), .val (.ref b10), .val (.int ub), .val (.int ue), .val (.int (1 : Int32))]) rfl zk) ?_
          refine own_st (B := (T15.setTop (mkF m 135 #[.val (.int p0), .val (.int p1), .val (.int p2), .val (.int p3), .val (.int p4), .val (.int p5), .val (.ref b1), .val (.ref b10), .val (.int ub), .val (.int ue), .val (.int (1 : Int32))] [(.ref b10)]))) (fun _ zk => XS.aload X15.here hx rfl (hb hby at_133) rfl rfl zk) ?_
          refine own_st (B := (T15.setTop (mkF m 137 #[.val (.int p0), .val (.int p1), .val (.int p2), .val (.int p3), .val (.int p4), .val (.int p5), .val (.ref b1), .val (.ref b10), .val (.int ub), .val (.int ue), .val (.int (1 : Int32))] [(.int ub), (.ref b10)]))) (fun _ zk => XS.iload X15.here hx rfl (hb hby at_135) rfl zk) ?_
          refine own_st (B := (T15.setTop (mkF m 139 #[.val (.int p0), .val (.int p1), .val (.int p2), .val (.int p3), .val (.int p4), .val (.int p5), .val (.ref b1), .val (.ref b10), .val (.int ub), .val (.int ue), .val (.int (1 : Int32))] [(.int ue), (.int ub), (.ref b10)]))) (fun _ zk => XS.iload X15.here hx rfl (hb hby at_137) rfl zk) ?_
          obtain ⟨v16, T16, L16, X16, Q16, st16⟩ := own_callS (W := 0) X15 hx hZ (y := (⟨"com/example/ratable/ratable/TextParser", "digits", "(Ljava/lang/String;II)Z"⟩ : MethodName)) hown (hw _ (List.mem_of_getElem? (i := 39) rfl)) (hw _ (List.mem_of_getElem? (i := 40) rfl)) (hw _ (List.mem_of_getElem? (i := 41) rfl)) (hw _ (List.mem_of_getElem? (i := 42) rfl)) (by decide) qe15 (rm_dig l Z a0 hw [] b10 ub ue (fun i => if i = 3 then ch3 else if i = 2 then ch2 else if i = 1 then ch1 else ch0) kb ke 1 cs vG T11.heap n0 ZC ST hcs hG OC HS11 hf hb1 he1 (by omega) (Or.inl ⟨rfl, hall⟩)) (g := (mkF m 139 #[.val (.int p0), .val (.int p1), .val (.int p2), .val (.int p3), .val (.int p4), .val (.int p5), .val (.ref b1), .val (.ref b10), .val (.int ub), .val (.int ue), .val (.int (1 : Int32))] [(.int ue), (.int ub), (.ref b10)])) rfl (by rw [hml]; rfl) (argsL := [(.ref b10), (.int ub), (.int ue)]) (rest := []) (lenOf pd_16 rfl) rfl rfl (by show 2 * 0 + _ ≤ _; exact Nat.le_of_eq rfl) (hb hby at_139) (by decide) (by decide) (by decide) (by decide)
          obtain ⟨rfl, rfl, qe16⟩ := Q16
          refine own_st (B := (T16.setTop (mkF m 142 #[.val (.int p0), .val (.int p1), .val (.int p2), .val (.int p3), .val (.int p4), .val (.int p5), .val (.ref b1), .val (.ref b10), .val (.int ub), .val (.int ue), .val (.int (1 : Int32))] [(.int (1 : Int32))]))) st16 ?_
          have N16 := Fr.app N15 (Fr.nil n0)
          refine own_st (B := (T16.setTop (mkF m 144 #[.val (.int p0), .val (.int p1), .val (.int p2), .val (.int p3), .val (.int p4), .val (.int p5), .val (.ref b1), .val (.ref b10), .val (.int ub), .val (.int ue), .val (.int (1 : Int32))] [(.int (1 : Int32)), (.int (1 : Int32))]))) (fun _ zk => XS.iload X16.here hx rfl (hb hby at_142) rfl zk) ?_
          refine own_st (B := (T16.setTop (mkF m 147 #[.val (.int p0), .val (.int p1), .val (.int p2), .val (.int p3), .val (.int p4), .val (.int p5), .val (.ref b1), .val (.ref b10), .val (.int ub), .val (.int ue), .val (.int (1 : Int32))] []))) (fun _ zk => XS.icmpNo X16.here hx rfl (hb hby at_144) rfl (teq (by decide)).2 zk) ?_
          refine own_st (B := (T16.setTop (mkF m 148 #[.val (.int p0), .val (.int p1), .val (.int p2), .val (.int p3), .val (.int p4), .val (.int p5), .val (.ref b1), .val (.ref b10), .val (.int ub), .val (.int ue), .val (.int (1 : Int32))] [(.int (1 : Int32))]))) (fun _ zk => XS.iconst X16.here hx rfl (hb hby at_147) zk) ?_
          refine own_st (B := (T16.setTop (mkF m 152 #[.val (.int p0), .val (.int p1), .val (.int p2), .val (.int p3), .val (.int p4), .val (.int p5), .val (.ref b1), .val (.ref b10), .val (.int ub), .val (.int ue), .val (.int (1 : Int32))] [(.int (1 : Int32))]))) (fun _ zk => XS.goto X16.here hx rfl (pc0 := 148) (pc' := 152) rfl (hb hby at_148) (by decide) (by decide) zk) ?_
          exact own_retN X16 hx hlk (t := .boolean) hret (by simp) (hb hby at_152) (by show own_Q0 n0 _ T16.heap _; rw [qe16]; exact ⟨rfl, N16⟩) (by decide) (by decide)
        · obtain ⟨v17, T17, L17, X17, Q17, st17⟩ := own_callS (W := 0) X14 hx hZ (y := (⟨"com/example/ratable/ratable/TextParserDigitsPinLaw", "fine", "(CIII)Z"⟩ : MethodName)) hown (hw _ (List.mem_of_getElem? (i := 36) rfl)) (hw _ (List.mem_of_getElem? (i := 37) rfl)) (hw _ (List.mem_of_getElem? (i := 3) rfl)) (hw _ (List.mem_of_getElem? (i := 38) rfl)) (by decide) qe14 (rm_fine l Z a0 hw [] ch3 3 ub ue 0 T11.heap (Or.inr ⟨rfl, ok3⟩)) (g := (mkF m 120 #[.val (.int p0), .val (.int p1), .val (.int p2), .val (.int p3), .val (.int p4), .val (.int p5), .val (.ref b1), .val (.ref b10), .val (.int ub), .val (.int ue), .unset] [(.int ue), (.int ub), (.int (3 : Int32)), (.int ch3)])) rfl (by rw [hml]; rfl) (argsL := [(.int ch3), (.int (3 : Int32)), (.int ub), (.int ue)]) (rest := []) (lenOf pd_15 rfl) rfl rfl (by show 2 * 0 + _ ≤ _; exact Nat.le_of_eq rfl) (hb hby at_120) (by decide) (by decide) (by decide) (by decide)
          obtain ⟨rfl, rfl, qe17⟩ := Q17
          refine own_st (B := (T17.setTop (mkF m 123 #[.val (.int p0), .val (.int p1), .val (.int p2), .val (.int p3), .val (.int p4), .val (.int p5), .val (.ref b1), .val (.ref b10), .val (.int ub), .val (.int ue), .unset] [(.int (0 : Int32))]))) st17 ?_
          have N17 := Fr.app N14 (Fr.nil n0)
          refine own_st (B := (T17.setTop (mkF m 130 #[.val (.int p0), .val (.int p1), .val (.int p2), .val (.int p3), .val (.int p4), .val (.int p5), .val (.ref b1), .val (.ref b10), .val (.int ub), .val (.int ue), .unset] []))) (fun _ zk => XS.ifYes X17.here hx rfl (pc0 := 123) (pc' := 130) rfl (hb hby at_123) rfl ((if0 _ _).trans (teq (by decide)).1) (by decide) (by decide) zk) ?_
          refine own_st (B := (T17.setTop (mkF m 131 #[.val (.int p0), .val (.int p1), .val (.int p2), .val (.int p3), .val (.int p4), .val (.int p5), .val (.ref b1), .val (.ref b10), .val (.int ub), .val (.int ue), .unset] [(.int (0 : Int32))]))) (fun _ zk => XS.iconst X17.here hx rfl (hb hby at_130) zk) ?_
          refine own_st (B := (T17.setTop (mkF m 133 #[.val (.int p0), .val (.int p1), .val (.int p2), .val (.int p3), .val (.int p4), .val (.int p5), .val (.ref b1), .val (.ref b10), .val (.int ub), .val (.int ue), .val (.int (0 : Int32))] []))) (fun _ zk => XS.istore X17.here hx rfl (hb hby at_131) rfl (l' := #[.val (.int p0), .val (.int p1), .val (.int p2), .val (.int p3), .val (.int p4), .val (.int p5), .val (.ref b1), .val (.ref b10), .val (.int ub), .val (.int ue), .val (.int (0 : Int32))]) rfl zk) ?_
          refine own_st (B := (T17.setTop (mkF m 135 #[.val (.int p0), .val (.int p1), .val (.int p2), .val (.int p3), .val (.int p4), .val (.int p5), .val (.ref b1), .val (.ref b10), .val (.int ub), .val (.int ue), .val (.int (0 : Int32))] [(.ref b10)]))) (fun _ zk => XS.aload X17.here hx rfl (hb hby at_133) rfl rfl zk) ?_
          refine own_st (B := (T17.setTop (mkF m 137 #[.val (.int p0), .val (.int p1), .val (.int p2), .val (.int p3), .val (.int p4), .val (.int p5), .val (.ref b1), .val (.ref b10), .val (.int ub), .val (.int ue), .val (.int (0 : Int32))] [(.int ub), (.ref b10)]))) (fun _ zk => XS.iload X17.here hx rfl (hb hby at_135) rfl zk) ?_
          refine own_st (B := (T17.setTop (mkF m 139 #[.val (.int p0), .val (.int p1), .val (.int p2), .val (.int p3), .val (.int p4), .val (.int p5), .val (.ref b1), .val (.ref b10), .val (.int ub), .val (.int ue), .val (.int (0 : Int32))] [(.int ue), (.int ub), (.ref b10)]))) (fun _ zk => XS.iload X17.here hx rfl (hb hby at_137) rfl zk) ?_
          obtain ⟨v18, T18, L18, X18, Q18, st18⟩ := own_callS (W := 0) X17 hx hZ (y := (⟨"com/example/ratable/ratable/TextParser", "digits", "(Ljava/lang/String;II)Z"⟩ : MethodName)) hown (hw _ (List.mem_of_getElem? (i := 39) rfl)) (hw _ (List.mem_of_getElem? (i := 40) rfl)) (hw _ (List.mem_of_getElem? (i := 41) rfl)) (hw _ (List.mem_of_getElem? (i := 42) rfl)) (by decide) qe17 (rm_dig l Z a0 hw [] b10 ub ue (fun i => if i = 3 then ch3 else if i = 2 then ch2 else if i = 1 then ch1 else ch0) kb ke 0 cs vG T11.heap n0 ZC ST hcs hG OC HS11 hf hb1 he1 (by omega) (Or.inr ⟨rfl, fun q => ok3 (fun q3 => q 3 (by omega) (by omega))⟩)) (g := (mkF m 139 #[.val (.int p0), .val (.int p1), .val (.int p2), .val (.int p3), .val (.int p4), .val (.int p5), .val (.ref b1), .val (.ref b10), .val (.int ub), .val (.int ue), .val (.int (0 : Int32))] [(.int ue), (.int ub), (.ref b10)])) rfl (by rw [hml]; rfl) (argsL := [(.ref b10), (.int ub), (.int ue)]) (rest := []) (lenOf pd_16 rfl) rfl rfl (by show 2 * 0 + _ ≤ _; exact Nat.le_of_eq rfl) (hb hby at_139) (by decide) (by decide) (by decide) (by decide)
          obtain ⟨rfl, rfl, qe18⟩ := Q18
          refine own_st (B := (T18.setTop (mkF m 142 #[.val (.int p0), .val (.int p1), .val (.int p2), .val (.int p3), .val (.int p4), .val (.int p5), .val (.ref b1), .val (.ref b10), .val (.int ub), .val (.int ue), .val (.int (0 : Int32))] [(.int (0 : Int32))]))) st18 ?_
          have N18 := Fr.app N17 (Fr.nil n0)
          refine own_st (B := (T18.setTop (mkF m 144 #[.val (.int p0), .val (.int p1), .val (.int p2), .val (.int p3), .val (.int p4), .val (.int p5), .val (.ref b1), .val (.ref b10), .val (.int ub), .val (.int ue), .val (.int (0 : Int32))] [(.int (0 : Int32)), (.int (0 : Int32))]))) (fun _ zk => XS.iload X18.here hx rfl (hb hby at_142) rfl zk) ?_
          refine own_st (B := (T18.setTop (mkF m 147 #[.val (.int p0), .val (.int p1), .val (.int p2), .val (.int p3), .val (.int p4), .val (.int p5), .val (.ref b1), .val (.ref b10), .val (.int ub), .val (.int ue), .val (.int (0 : Int32))] []))) (fun _ zk => XS.icmpNo X18.here hx rfl (hb hby at_144) rfl (teq (by decide)).2 zk) ?_
          refine own_st (B := (T18.setTop (mkF m 148 #[.val (.int p0), .val (.int p1), .val (.int p2), .val (.int p3), .val (.int p4), .val (.int p5), .val (.ref b1), .val (.ref b10), .val (.int ub), .val (.int ue), .val (.int (0 : Int32))] [(.int (1 : Int32))]))) (fun _ zk => XS.iconst X18.here hx rfl (hb hby at_147) zk) ?_
          refine own_st (B := (T18.setTop (mkF m 152 #[.val (.int p0), .val (.int p1), .val (.int p2), .val (.int p3), .val (.int p4), .val (.int p5), .val (.ref b1), .val (.ref b10), .val (.int ub), .val (.int ue), .val (.int (0 : Int32))] [(.int (1 : Int32))]))) (fun _ zk => XS.goto X18.here hx rfl (pc0 := 148) (pc' := 152) rfl (hb hby at_148) (by decide) (by decide) zk) ?_
          exact own_retN X18 hx hlk (t := .boolean) hret (by simp) (hb hby at_152) (by show own_Q0 n0 _ T18.heap _; rw [qe18]; exact ⟨rfl, N18⟩) (by decide) (by decide)
      · obtain ⟨v19, T19, L19, X19, Q19, st19⟩ := own_callS (W := 0) X13 hx hZ (y := (⟨"com/example/ratable/ratable/TextParserDigitsPinLaw", "fine", "(CIII)Z"⟩ : MethodName)) hown (hw _ (List.mem_of_getElem? (i := 36) rfl)) (hw _ (List.mem_of_getElem? (i := 37) rfl)) (hw _ (List.mem_of_getElem? (i := 3) rfl)) (hw _ (List.mem_of_getElem? (i := 38) rfl)) (by decide) qe13 (rm_fine l Z a0 hw [] ch2 2 ub ue 0 T11.heap (Or.inr ⟨rfl, ok2⟩)) (g := (mkF m 105 #[.val (.int p0), .val (.int p1), .val (.int p2), .val (.int p3), .val (.int p4), .val (.int p5), .val (.ref b1), .val (.ref b10), .val (.int ub), .val (.int ue), .unset] [(.int ue), (.int ub), (.int (2 : Int32)), (.int ch2)])) rfl (by rw [hml]; rfl) (argsL := [(.int ch2), (.int (2 : Int32)), (.int ub), (.int ue)]) (rest := []) (lenOf pd_15 rfl) rfl rfl (by show 2 * 0 + _ ≤ _; exact Nat.le_of_eq rfl) (hb hby at_105) (by decide) (by decide) (by decide) (by decide)
        obtain ⟨rfl, rfl, qe19⟩ := Q19
        refine own_st (B := (T19.setTop (mkF m 108 #[.val (.int p0), .val (.int p1), .val (.int p2), .val (.int p3), .val (.int p4), .val (.int p5), .val (.ref b1), .val (.ref b10), .val (.int ub), .val (.int ue), .unset] [(.int (0 : Int32))]))) st19 ?_
        have N19 := Fr.app N13 (Fr.nil n0)
        refine own_st (B := (T19.setTop (mkF m 130 #[.val (.int p0), .val (.int p1), .val (.int p2), .val (.int p3), .val (.int p4), .val (.int p5), .val (.ref b1), .val (.ref b10), .val (.int ub), .val (.int ue), .unset] []))) (fun _ zk => XS.ifYes X19.here hx rfl (pc0 := 108) (pc' := 130) rfl (hb hby at_108) rfl ((if0 _ _).trans (teq (by decide)).1) (by decide) (by decide) zk) ?_
        refine own_st (B := (T19.setTop (mkF m 131 #[.val (.int p0), .val (.int p1), .val (.int p2), .val (.int p3), .val (.int p4), .val (.int p5), .val (.ref b1), .val (.ref b10), .val (.int ub), .val (.int ue), .unset] [(.int (0 : Int32))]))) (fun _ zk => XS.iconst X19.here hx rfl (hb hby at_130) zk) ?_
        refine own_st (B := (T19.setTop (mkF m 133 #[.val (.int p0), .val (.int p1), .val (.int p2), .val (.int p3), .val (.int p4), .val (.int p5), .val (.ref b1), .val (.ref b10), .val (.int ub), .val (.int ue), .val (.int (0 : Int32))] []))) (fun _ zk => XS.istore X19.here hx rfl (hb hby at_131) rfl (l' := #[.val (.int p0), .val (.int p1), .val (.int p2), .val (.int p3), .val (.int p4), .val (.int p5), .val (.ref b1), .val (.ref b10), .val (.int ub), .val (.int ue), .val (.int (0 : Int32))]) rfl zk) ?_
        refine own_st (B := (T19.setTop (mkF m 135 #[.val (.int p0), .val (.int p1), .val (.int p2), .val (.int p3), .val (.int p4), .val (.int p5), .val (.ref b1), .val (.ref b10), .val (.int ub), .val (.int ue), .val (.int (0 : Int32))] [(.ref b10)]))) (fun _ zk => XS.aload X19.here hx rfl (hb hby at_133) rfl rfl zk) ?_
        refine own_st (B := (T19.setTop (mkF m 137 #[.val (.int p0), .val (.int p1), .val (.int p2), .val (.int p3), .val (.int p4), .val (.int p5), .val (.ref b1), .val (.ref b10), .val (.int ub), .val (.int ue), .val (.int (0 : Int32))] [(.int ub), (.ref b10)]))) (fun _ zk => XS.iload X19.here hx rfl (hb hby at_135) rfl zk) ?_
        refine own_st (B := (T19.setTop (mkF m 139 #[.val (.int p0), .val (.int p1), .val (.int p2), .val (.int p3), .val (.int p4), .val (.int p5), .val (.ref b1), .val (.ref b10), .val (.int ub), .val (.int ue), .val (.int (0 : Int32))] [(.int ue), (.int ub), (.ref b10)]))) (fun _ zk => XS.iload X19.here hx rfl (hb hby at_137) rfl zk) ?_
        obtain ⟨v20, T20, L20, X20, Q20, st20⟩ := own_callS (W := 0) X19 hx hZ (y := (⟨"com/example/ratable/ratable/TextParser", "digits", "(Ljava/lang/String;II)Z"⟩ : MethodName)) hown (hw _ (List.mem_of_getElem? (i := 39) rfl)) (hw _ (List.mem_of_getElem? (i := 40) rfl)) (hw _ (List.mem_of_getElem? (i := 41) rfl)) (hw _ (List.mem_of_getElem? (i := 42) rfl)) (by decide) qe19 (rm_dig l Z a0 hw [] b10 ub ue (fun i => if i = 3 then ch3 else if i = 2 then ch2 else if i = 1 then ch1 else ch0) kb ke 0 cs vG T11.heap n0 ZC ST hcs hG OC HS11 hf hb1 he1 (by omega) (Or.inr ⟨rfl, fun q => ok2 (fun q3 => q 2 (by omega) (by omega))⟩)) (g := (mkF m 139 #[.val (.int p0), .val (.int p1), .val (.int p2), .val (.int p3), .val (.int p4), .val (.int p5), .val (.ref b1), .val (.ref b10), .val (.int ub), .val (.int ue), .val (.int (0 : Int32))] [(.int ue), (.int ub), (.ref b10)])) rfl (by rw [hml]; rfl) (argsL := [(.ref b10), (.int ub), (.int ue)]) (rest := []) (lenOf pd_16 rfl) rfl rfl (by show 2 * 0 + _ ≤ _; exact Nat.le_of_eq rfl) (hb hby at_139) (by decide) (by decide) (by decide) (by decide)
        obtain ⟨rfl, rfl, qe20⟩ := Q20
        refine own_st (B := (T20.setTop (mkF m 142 #[.val (.int p0), .val (.int p1), .val (.int p2), .val (.int p3), .val (.int p4), .val (.int p5), .val (.ref b1), .val (.ref b10), .val (.int ub), .val (.int ue), .val (.int (0 : Int32))] [(.int (0 : Int32))]))) st20 ?_
        have N20 := Fr.app N19 (Fr.nil n0)
        refine own_st (B := (T20.setTop (mkF m 144 #[.val (.int p0), .val (.int p1), .val (.int p2), .val (.int p3), .val (.int p4), .val (.int p5), .val (.ref b1), .val (.ref b10), .val (.int ub), .val (.int ue), .val (.int (0 : Int32))] [(.int (0 : Int32)), (.int (0 : Int32))]))) (fun _ zk => XS.iload X20.here hx rfl (hb hby at_142) rfl zk) ?_
        refine own_st (B := (T20.setTop (mkF m 147 #[.val (.int p0), .val (.int p1), .val (.int p2), .val (.int p3), .val (.int p4), .val (.int p5), .val (.ref b1), .val (.ref b10), .val (.int ub), .val (.int ue), .val (.int (0 : Int32))] []))) (fun _ zk => XS.icmpNo X20.here hx rfl (hb hby at_144) rfl (teq (by decide)).2 zk) ?_
        refine own_st (B := (T20.setTop (mkF m 148 #[.val (.int p0), .val (.int p1), .val (.int p2), .val (.int p3), .val (.int p4), .val (.int p5), .val (.ref b1), .val (.ref b10), .val (.int ub), .val (.int ue), .val (.int (0 : Int32))] [(.int (1 : Int32))]))) (fun _ zk => XS.iconst X20.here hx rfl (hb hby at_147) zk) ?_
        refine own_st (B := (T20.setTop (mkF m 152 #[.val (.int p0), .val (.int p1), .val (.int p2), .val (.int p3), .val (.int p4), .val (.int p5), .val (.ref b1), .val (.ref b10), .val (.int ub), .val (.int ue), .val (.int (0 : Int32))] [(.int (1 : Int32))]))) (fun _ zk => XS.goto X20.here hx rfl (pc0 := 148) (pc' := 152) rfl (hb hby at_148) (by decide) (by decide) zk) ?_
        exact own_retN X20 hx hlk (t := .boolean) hret (by simp) (hb hby at_152) (by show own_Q0 n0 _ T20.heap _; rw [qe20]; exact ⟨rfl, N20⟩) (by decide) (by decide)
    · obtain ⟨v21, T21, L21, X21, Q21, st21⟩ := own_callS (W := 0) X12 hx hZ (y := (⟨"com/example/ratable/ratable/TextParserDigitsPinLaw", "fine", "(CIII)Z"⟩ : MethodName)) hown (hw _ (List.mem_of_getElem? (i := 36) rfl)) (hw _ (List.mem_of_getElem? (i := 37) rfl)) (hw _ (List.mem_of_getElem? (i := 3) rfl)) (hw _ (List.mem_of_getElem? (i := 38) rfl)) (by decide) qe12 (rm_fine l Z a0 hw [] ch1 1 ub ue 0 T11.heap (Or.inr ⟨rfl, ok1⟩)) (g := (mkF m 90 #[.val (.int p0), .val (.int p1), .val (.int p2), .val (.int p3), .val (.int p4), .val (.int p5), .val (.ref b1), .val (.ref b10), .val (.int ub), .val (.int ue), .unset] [(.int ue), (.int ub), (.int (1 : Int32)), (.int ch1)])) rfl (by rw [hml]; rfl) (argsL := [(.int ch1), (.int (1 : Int32)), (.int ub), (.int ue)]) (rest := []) (lenOf pd_15 rfl) rfl rfl (by show 2 * 0 + _ ≤ _; exact Nat.le_of_eq rfl) (hb hby at_90) (by decide) (by decide) (by decide) (by decide)
      obtain ⟨rfl, rfl, qe21⟩ := Q21
      refine own_st (B := (T21.setTop (mkF m 93 #[.val (.int p0), .val (.int p1), .val (.int p2), .val (.int p3), .val (.int p4), .val (.int p5), .val (.ref b1), .val (.ref b10), .val (.int ub), .val (.int ue), .unset] [(.int (0 : Int32))]))) st21 ?_
      have N21 := Fr.app N12 (Fr.nil n0)
      refine own_st (B := (T21.setTop (mkF m 130 #[.val (.int p0), .val (.int p1), .val (.int p2), .val (.int p3), .val (.int p4), .val (.int p5), .val (.ref b1), .val (.ref b10), .val (.int ub), .val (.int ue), .unset] []))) (fun _ zk => XS.ifYes X21.here hx rfl (pc0 := 93) (pc' := 130) rfl (hb hby at_93) rfl ((if0 _ _).trans (teq (by decide)).1) (by decide) (by decide) zk) ?_
      refine own_st (B := (T21.setTop (mkF m 131 #[.val (.int p0), .val (.int p1), .val (.int p2), .val (.int p3), .val (.int p4), .val (.int p5), .val (.ref b1), .val (.ref b10), .val (.int ub), .val (.int ue), .unset] [(.int (0 : Int32))]))) (fun _ zk => XS.iconst X21.here hx rfl (hb hby at_130) zk) ?_
      refine own_st (B := (T21.setTop (mkF m 133 #[.val (.int p0), .val (.int p1), .val (.int p2), .val (.int p3), .val (.int p4), .val (.int p5), .val (.ref b1), .val (.ref b10), .val (.int ub), .val (.int ue), .val (.int (0 : Int32))] []))) (fun _ zk => XS.istore X21.here hx rfl (hb hby at_131) rfl (l' := #[.val (.int p0), .val (.int p1), .val (.int p2), .val (.int p3), .val (.int p4), .val (.int p5), .val (.ref b1), .val (.ref b10), .val (.int ub), .val (.int ue), .val (.int (0 : Int32))]) rfl zk) ?_
      refine own_st (B := (T21.setTop (mkF m 135 #[.val (.int p0), .val (.int p1), .val (.int p2), .val (.int p3), .val (.int p4), .val (.int p5), .val (.ref b1), .val (.ref b10), .val (.int ub), .val (.int ue), .val (.int (0 : Int32))] [(.ref b10)]))) (fun _ zk => XS.aload X21.here hx rfl (hb hby at_133) rfl rfl zk) ?_
      refine own_st (B := (T21.setTop (mkF m 137 #[.val (.int p0), .val (.int p1), .val (.int p2), .val (.int p3), .val (.int p4), .val (.int p5), .val (.ref b1), .val (.ref b10), .val (.int ub), .val (.int ue), .val (.int (0 : Int32))] [(.int ub), (.ref b10)]))) (fun _ zk => XS.iload X21.here hx rfl (hb hby at_135) rfl zk) ?_
      refine own_st (B := (T21.setTop (mkF m 139 #[.val (.int p0), .val (.int p1), .val (.int p2), .val (.int p3), .val (.int p4), .val (.int p5), .val (.ref b1), .val (.ref b10), .val (.int ub), .val (.int ue), .val (.int (0 : Int32))] [(.int ue), (.int ub), (.ref b10)]))) (fun _ zk => XS.iload X21.here hx rfl (hb hby at_137) rfl zk) ?_
      obtain ⟨v22, T22, L22, X22, Q22, st22⟩ := own_callS (W := 0) X21 hx hZ (y := (⟨"com/example/ratable/ratable/TextParser", "digits", "(Ljava/lang/String;II)Z"⟩ : MethodName)) hown (hw _ (List.mem_of_getElem? (i := 39) rfl)) (hw _ (List.mem_of_getElem? (i := 40) rfl)) (hw _ (List.mem_of_getElem? (i := 41) rfl)) (hw _ (List.mem_of_getElem? (i := 42) rfl)) (by decide) qe21 (rm_dig l Z a0 hw [] b10 ub ue (fun i => if i = 3 then ch3 else if i = 2 then ch2 else if i = 1 then ch1 else ch0) kb ke 0 cs vG T11.heap n0 ZC ST hcs hG OC HS11 hf hb1 he1 (by omega) (Or.inr ⟨rfl, fun q => ok1 (fun q3 => q 1 (by omega) (by omega))⟩)) (g := (mkF m 139 #[.val (.int p0), .val (.int p1), .val (.int p2), .val (.int p3), .val (.int p4), .val (.int p5), .val (.ref b1), .val (.ref b10), .val (.int ub), .val (.int ue), .val (.int (0 : Int32))] [(.int ue), (.int ub), (.ref b10)])) rfl (by rw [hml]; rfl) (argsL := [(.ref b10), (.int ub), (.int ue)]) (rest := []) (lenOf pd_16 rfl) rfl rfl (by show 2 * 0 + _ ≤ _; exact Nat.le_of_eq rfl) (hb hby at_139) (by decide) (by decide) (by decide) (by decide)
      obtain ⟨rfl, rfl, qe22⟩ := Q22
      refine own_st (B := (T22.setTop (mkF m 142 #[.val (.int p0), .val (.int p1), .val (.int p2), .val (.int p3), .val (.int p4), .val (.int p5), .val (.ref b1), .val (.ref b10), .val (.int ub), .val (.int ue), .val (.int (0 : Int32))] [(.int (0 : Int32))]))) st22 ?_
      have N22 := Fr.app N21 (Fr.nil n0)
      refine own_st (B := (T22.setTop (mkF m 144 #[.val (.int p0), .val (.int p1), .val (.int p2), .val (.int p3), .val (.int p4), .val (.int p5), .val (.ref b1), .val (.ref b10), .val (.int ub), .val (.int ue), .val (.int (0 : Int32))] [(.int (0 : Int32)), (.int (0 : Int32))]))) (fun _ zk => XS.iload X22.here hx rfl (hb hby at_142) rfl zk) ?_
      refine own_st (B := (T22.setTop (mkF m 147 #[.val (.int p0), .val (.int p1), .val (.int p2), .val (.int p3), .val (.int p4), .val (.int p5), .val (.ref b1), .val (.ref b10), .val (.int ub), .val (.int ue), .val (.int (0 : Int32))] []))) (fun _ zk => XS.icmpNo X22.here hx rfl (hb hby at_144) rfl (teq (by decide)).2 zk) ?_
      refine own_st (B := (T22.setTop (mkF m 148 #[.val (.int p0), .val (.int p1), .val (.int p2), .val (.int p3), .val (.int p4), .val (.int p5), .val (.ref b1), .val (.ref b10), .val (.int ub), .val (.int ue), .val (.int (0 : Int32))] [(.int (1 : Int32))]))) (fun _ zk => XS.iconst X22.here hx rfl (hb hby at_147) zk) ?_
      refine own_st (B := (T22.setTop (mkF m 152 #[.val (.int p0), .val (.int p1), .val (.int p2), .val (.int p3), .val (.int p4), .val (.int p5), .val (.ref b1), .val (.ref b10), .val (.int ub), .val (.int ue), .val (.int (0 : Int32))] [(.int (1 : Int32))]))) (fun _ zk => XS.goto X22.here hx rfl (pc0 := 148) (pc' := 152) rfl (hb hby at_148) (by decide) (by decide) zk) ?_
      exact own_retN X22 hx hlk (t := .boolean) hret (by simp) (hb hby at_152) (by show own_Q0 n0 _ T22.heap _; rw [qe22]; exact ⟨rfl, N22⟩) (by decide) (by decide)
  · obtain ⟨v23, T23, L23, X23, Q23, st23⟩ := own_callS (W := 0) X11 hx hZ (y := (⟨"com/example/ratable/ratable/TextParserDigitsPinLaw", "fine", "(CIII)Z"⟩ : MethodName)) hown (hw _ (List.mem_of_getElem? (i := 36) rfl)) (hw _ (List.mem_of_getElem? (i := 37) rfl)) (hw _ (List.mem_of_getElem? (i := 3) rfl)) (hw _ (List.mem_of_getElem? (i := 38) rfl)) (by decide) rfl (rm_fine l Z a0 hw [] ch0 0 ub ue 0 T11.heap (Or.inr ⟨rfl, ok0⟩)) (g := (mkF m 75 #[.val (.int p0), .val (.int p1), .val (.int p2), .val (.int p3), .val (.int p4), .val (.int p5), .val (.ref b1), .val (.ref b10), .val (.int ub), .val (.int ue), .unset] [(.int ue), (.int ub), (.int (0 : Int32)), (.int ch0)])) rfl (by rw [hml]; rfl) (argsL := [(.int ch0), (.int (0 : Int32)), (.int ub), (.int ue)]) (rest := []) (lenOf pd_15 rfl) rfl rfl (by show 2 * 0 + _ ≤ _; exact Nat.le_of_eq rfl) (hb hby at_75) (by decide) (by decide) (by decide) (by decide)
    obtain ⟨rfl, rfl, qe23⟩ := Q23
    refine own_st (B := (T23.setTop (mkF m 78 #[.val (.int p0), .val (.int p1), .val (.int p2), .val (.int p3), .val (.int p4), .val (.int p5), .val (.ref b1), .val (.ref b10), .val (.int ub), .val (.int ue), .unset] [(.int (0 : Int32))]))) st23 ?_
    have N23 := Fr.app N11 (Fr.nil n0)
    refine own_st (B := (T23.setTop (mkF m 130 #[.val (.int p0), .val (.int p1), .val (.int p2), .val (.int p3), .val (.int p4), .val (.int p5), .val (.ref b1), .val (.ref b10), .val (.int ub), .val (.int ue), .unset] []))) (fun _ zk => XS.ifYes X23.here hx rfl (pc0 := 78) (pc' := 130) rfl (hb hby at_78) rfl ((if0 _ _).trans (teq (by decide)).1) (by decide) (by decide) zk) ?_
    refine own_st (B := (T23.setTop (mkF m 131 #[.val (.int p0), .val (.int p1), .val (.int p2), .val (.int p3), .val (.int p4), .val (.int p5), .val (.ref b1), .val (.ref b10), .val (.int ub), .val (.int ue), .unset] [(.int (0 : Int32))]))) (fun _ zk => XS.iconst X23.here hx rfl (hb hby at_130) zk) ?_
    refine own_st (B := (T23.setTop (mkF m 133 #[.val (.int p0), .val (.int p1), .val (.int p2), .val (.int p3), .val (.int p4), .val (.int p5), .val (.ref b1), .val (.ref b10), .val (.int ub), .val (.int ue), .val (.int (0 : Int32))] []))) (fun _ zk => XS.istore X23.here hx rfl (hb hby at_131) rfl (l' := #[.val (.int p0), .val (.int p1), .val (.int p2), .val (.int p3), .val (.int p4), .val (.int p5), .val (.ref b1), .val (.ref b10), .val (.int ub), .val (.int ue), .val (.int (0 : Int32))]) rfl zk) ?_
    refine own_st (B := (T23.setTop (mkF m 135 #[.val (.int p0), .val (.int p1), .val (.int p2), .val (.int p3), .val (.int p4), .val (.int p5), .val (.ref b1), .val (.ref b10), .val (.int ub), .val (.int ue), .val (.int (0 : Int32))] [(.ref b10)]))) (fun _ zk => XS.aload X23.here hx rfl (hb hby at_133) rfl rfl zk) ?_
    refine own_st (B := (T23.setTop (mkF m 137 #[.val (.int p0), .val (.int p1), .val (.int p2), .val (.int p3), .val (.int p4), .val (.int p5), .val (.ref b1), .val (.ref b10), .val (.int ub), .val (.int ue), .val (.int (0 : Int32))] [(.int ub), (.ref b10)]))) (fun _ zk => XS.iload X23.here hx rfl (hb hby at_135) rfl zk) ?_
    refine own_st (B := (T23.setTop (mkF m 139 #[.val (.int p0), .val (.int p1), .val (.int p2), .val (.int p3), .val (.int p4), .val (.int p5), .val (.ref b1), .val (.ref b10), .val (.int ub), .val (.int ue), .val (.int (0 : Int32))] [(.int ue), (.int ub), (.ref b10)]))) (fun _ zk => XS.iload X23.here hx rfl (hb hby at_137) rfl zk) ?_
    obtain ⟨v24, T24, L24, X24, Q24, st24⟩ := own_callS (W := 0) X23 hx hZ (y := (⟨"com/example/ratable/ratable/TextParser", "digits", "(Ljava/lang/String;II)Z"⟩ : MethodName)) hown (hw _ (List.mem_of_getElem? (i := 39) rfl)) (hw _ (List.mem_of_getElem? (i := 40) rfl)) (hw _ (List.mem_of_getElem? (i := 41) rfl)) (hw _ (List.mem_of_getElem? (i := 42) rfl)) (by decide) qe23 (rm_dig l Z a0 hw [] b10 ub ue (fun i => if i = 3 then ch3 else if i = 2 then ch2 else if i = 1 then ch1 else ch0) kb ke 0 cs vG T11.heap n0 ZC ST hcs hG OC HS11 hf hb1 he1 (by omega) (Or.inr ⟨rfl, fun q => ok0 (fun q3 => q 0 (by omega) (by omega))⟩)) (g := (mkF m 139 #[.val (.int p0), .val (.int p1), .val (.int p2), .val (.int p3), .val (.int p4), .val (.int p5), .val (.ref b1), .val (.ref b10), .val (.int ub), .val (.int ue), .val (.int (0 : Int32))] [(.int ue), (.int ub), (.ref b10)])) rfl (by rw [hml]; rfl) (argsL := [(.ref b10), (.int ub), (.int ue)]) (rest := []) (lenOf pd_16 rfl) rfl rfl (by show 2 * 0 + _ ≤ _; exact Nat.le_of_eq rfl) (hb hby at_139) (by decide) (by decide) (by decide) (by decide)
    obtain ⟨rfl, rfl, qe24⟩ := Q24
    refine own_st (B := (T24.setTop (mkF m 142 #[.val (.int p0), .val (.int p1), .val (.int p2), .val (.int p3), .val (.int p4), .val (.int p5), .val (.ref b1), .val (.ref b10), .val (.int ub), .val (.int ue), .val (.int (0 : Int32))] [(.int (0 : Int32))]))) st24 ?_
    have N24 := Fr.app N23 (Fr.nil n0)
    refine own_st (B := (T24.setTop (mkF m 144 #[.val (.int p0), .val (.int p1), .val (.int p2), .val (.int p3), .val (.int p4), .val (.int p5), .val (.ref b1), .val (.ref b10), .val (.int ub), .val (.int ue), .val (.int (0 : Int32))] [(.int (0 : Int32)), (.int (0 : Int32))]))) (fun _ zk => XS.iload X24.here hx rfl (hb hby at_142) rfl zk) ?_
    refine own_st (B := (T24.setTop (mkF m 147 #[.val (.int p0), .val (.int p1), .val (.int p2), .val (.int p3), .val (.int p4), .val (.int p5), .val (.ref b1), .val (.ref b10), .val (.int ub), .val (.int ue), .val (.int (0 : Int32))] []))) (fun _ zk => XS.icmpNo X24.here hx rfl (hb hby at_144) rfl (teq (by decide)).2 zk) ?_
    refine own_st (B := (T24.setTop (mkF m 148 #[.val (.int p0), .val (.int p1), .val (.int p2), .val (.int p3), .val (.int p4), .val (.int p5), .val (.ref b1), .val (.ref b10), .val (.int ub), .val (.int ue), .val (.int (0 : Int32))] [(.int (1 : Int32))]))) (fun _ zk => XS.iconst X24.here hx rfl (hb hby at_147) zk) ?_
    refine own_st (B := (T24.setTop (mkF m 152 #[.val (.int p0), .val (.int p1), .val (.int p2), .val (.int p3), .val (.int p4), .val (.int p5), .val (.ref b1), .val (.ref b10), .val (.int ub), .val (.int ue), .val (.int (0 : Int32))] [(.int (1 : Int32))]))) (fun _ zk => XS.goto X24.here hx rfl (pc0 := 148) (pc' := 152) rfl (hb hby at_148) (by decide) (by decide) zk) ?_
    exact own_retN X24 hx hlk (t := .boolean) hret (by simp) (hb hby at_152) (by show own_Q0 n0 _ T24.heap _; rw [qe24]; exact ⟨rfl, N24⟩) (by decide) (by decide)
set_option maxRecDepth 65536 in
set_option maxHeartbeats 40000000 in
theorem comes_1 {Post : Tables → Env → Array Value → State → Outcome → State → Prop} (hpost : ∀ tb e args s v u, (limb_1_1.after args s (.returned v) u = true ∧ limb_1_2.after args s (.returned v) u = true ∧ True) → FrameEnd s (.returned v) u (Jvm.fieldLocs frame_1_writes args s ++ Jvm.arrayLocs frame_1_arrays args s ++ Jvm.staticLocs frame_1_statics s) 16 128 → Post tb e args s (.returned v) u) :
    ArmFor flags0 classFile x code maxLocals ret World_1 tables_1 room_1 Calls_1 rest_1 Pre_1 Post := by
  intro l hfl _ _ p e ha hc hk s m args below hf hA hF happ hP
  obtain ⟨hcalls, hrest, hpre⟩ := hP
  obtain ⟨-, -, -, hnamed, -, -, -, hat⟩ := (Spec.applies_iff hf).mp happ
  obtain ⟨hg, hn⟩ := and_e (Cond.before_iff.mp (show (Jvm.Cond.and given_1 narrow_1).before args s = true from hpre))
  obtain ⟨g1, g2⟩ := and_e hg
  obtain ⟨g3, g4⟩ := and_e g2
  obtain ⟨g5, g6⟩ := and_e g4
  obtain ⟨g7, g8⟩ := and_e g6
  obtain ⟨g9, g10⟩ := and_e g8
  obtain ⟨g11, g12⟩ := and_e g10
  obtain ⟨w0, w1, w2, w3, w4, w5, rfl⟩ : ∃ w0 w1 w2 w3 w4 w5 : Value, args = #[w0, w1, w2, w3, w4, w5] := by
    have hs : args.size = 6 := by simpa [Cond.value, given_1] using g1
    obtain ⟨L⟩ := args
    match L, hs with
    | [w0, w1, w2, w3, w4, w5], _ => exact ⟨w0, w1, w2, w3, w4, w5, rfl⟩
  have hw := fun d (hd : d ∈ tables_1) => atoms_spec (ws := Jvm.Cond.code x code maxLocals ret :: tables_1) hat d (List.mem_cons_of_mem _ hd)
  have hfit : Fit s := fun {y c} hc i hi => by
    obtain ⟨ha, rfl⟩ := Array.getElem?_eq_some_iff.mp hc
    have q := List.all_eq_true.mp ((Array.all_eq_true_iff_forall_mem.mp hF) _ (Array.getElem_mem ha)) i (List.mem_range.mpr hi)
    simpa [Array.getElem?_eq_getElem hi] using q
  obtain ⟨hsets, hown0⟩ := atoms_of _ (rest_1_c_eq ▸ (show rest_1_c.before _ s = true from hrest))
  have hr0 := Cond.before_iff.mp hown0
  obtain ⟨i0, ei0⟩ := is_v g3
  obtain rfl : w0 = (.int i0) := Option.some.inj ei0
  obtain ⟨i1, ei1⟩ := is_v g5
  obtain rfl : w1 = (.int i1) := Option.some.inj ei1
  obtain ⟨i2, ei2⟩ := is_v g7
  obtain rfl : w2 = (.int i2) := Option.some.inj ei2
  obtain ⟨i3, ei3⟩ := is_v g9
  obtain rfl : w3 = (.int i3) := Option.some.inj ei3
  obtain ⟨i4, ei4⟩ := is_v g11
  obtain rfl : w4 = (.int i4) := Option.some.inj ei4
  obtain ⟨i5, ei5⟩ := is_v g12
  obtain rfl : w5 = (.int i5) := Option.some.inj ei5
  obtain ⟨cs, ecs⟩ := is_v (Cond.before_iff.mp (hsets _ (List.mem_of_getElem? (i := 1) rfl)))
  have hcs : ¬ (cs = (0 : Int32)) := gotF (Cond.eq_ints ecs (Term.int_eval (0))) (not_v (Cond.before_iff.mp (hsets _ (List.mem_of_getElem? (i := 2) rfl))))
  obtain ⟨vG, eG, hG⟩ := isR_v (Cond.before_iff.mp (hsets _ (List.mem_of_getElem? (i := 8) rfl)))
  have ST : own_St s cs vG := ⟨Sta.start ecs (Or.inl (hsets _ (List.mem_of_getElem? (i := 0) rfl))), Sta.start eG (Or.inl (hsets _ (List.mem_of_getElem? (i := 7) rfl))), Sta.start (eqv_i (Term.int_eval _) (Cond.before_iff.mp (hsets _ (List.mem_of_getElem? (i := 12) rfl)))) (Or.inl (hsets _ (List.mem_of_getElem? (i := 11) rfl))), Sta.start (eqv_i (Term.int_eval _) (Cond.before_iff.mp (hsets _ (List.mem_of_getElem? (i := 15) rfl)))) (Or.inl (hsets _ (List.mem_of_getElem? (i := 14) rfl))), Sta.start (eqv_i (Term.int_eval _) (Cond.before_iff.mp (hsets _ (List.mem_of_getElem? (i := 18) rfl)))) (Or.inl (hsets _ (List.mem_of_getElem? (i := 17) rfl)))⟩
  obtain ⟨n, o, h1, h2, h3, _, L, rfl, ⟨rfl, N⟩, hq⟩ := rm_law l s _ hw tables_1 i0 i1 i2 i3 i4 i5 cs vG s.heap s.heap.size (Nat.le_refl _) ST hcs hG (Old.start s) p e ha hc hk s m _ below hf ((Spec.applies_iff_loose hf).mp happ).1 ⟨rfl, State.Warmed39.refl s, rfl⟩ trivial
  refine ⟨n, _, h1, h2, h3, hpost _ _ _ _ _ _ ⟨Cond.after_iff.mpr rfl, Cond.after_iff.mpr (eq_i res_at (Term.int_eval (1)) rfl), trivial⟩ ⟨hq.1, hq.2.1, (hq.2.2.sift fun y hy => Or.inr (N y hy)).mono (by decide) (by decide)⟩⟩
theorem main_1_1 : Claimed_1_1 := comes_1 fun _ _ _ _ _ _ h hF => ⟨h.1, hF⟩
theorem main_1_2 : Claimed_1_2 := comes_1 fun _ _ _ _ _ _ h hF => ⟨h.2.1, hF⟩
end Jvm.Pilot.@@N@@
namespace Jvm.Pilot.@@N@@
open Jvm Jvm.ClassFile Sem Op Lib Jvm.Free Jvm.Stand Jvm.Pilot.@@N@@.Jvm.D
/-! MADE BY PROGRAM (witnessworld.py) out of the Statement's table words and the real class files: 20 classes; the members and pool entries that the words name. The judged class is class 1, her method 3. -/
namespace start1
open Jvm.ClassFile
def u (s : String) : CpInfo := .utf8 (stringToUtf16 s)
/-- a pool by its gaps: so many unusable entries, then the entry; so many at the end -/
def gap : Nat → List CpInfo → List CpInfo
  | 0, r => r
  | n + 1, r => .unusable :: gap n r
def poolList (es : List (Nat × CpInfo)) (last : Nat) : List CpInfo := es.foldr (fun e r => gap e.1 (e.2 :: r)) (gap last [])
def pool (es : List (Nat × CpInfo)) (last : Nat) : Array CpInfo := ⟨poolList es last⟩
def fileOf (pool : Array CpInfo) (this : Nat) (attrs : Array Attribute := #[]) (ms : Array MethodInfo := #[]) (fl : Nat := 33) (sup : Nat := 0) (ifs : Array Nat := #[]) (fds : Array FieldInfo := #[]) : ClassFile where
  minorVersion := 0
  majorVersion := 65
  constantPool := pool
  accessFlags := fl
  thisClass := this
  superClass := sup
  interfaces := ifs
  fields := fds
  methods := ms
  attributes := attrs
def plain (name : String) (sup : Option ClassId) : Class where
  name := name
  kind := .ordinary
  loader := none
  accessFlags := 33
  super := sup
  interfaces := #[]
  cf := none
  fields := #[]
  methods := #[]
  instanceTypes := #[]
  staticTypes := #[]
  resolved := #[]
  callSites := []
  init := .initialized
  statics := none
  mirror := none

def pool0 : Array CpInfo := pool [(5, u "<init>"), (0, u "()V"), (1, .class_ 10), (1, u "java/lang/Object")] 113

def k0c0 : Code := { maxStack := 0, maxLocals := 1, code := object_method_1_code, exceptionTable := #[], attributes := #[] }
def k0m0 : Method := { name := "<init>", desc := "()V", sig := { parameters := [], returnType := none }, accessFlags := 1, code := some k0c0 }
/-- java/lang/Object -/
def k0 : Class := { plain "java/lang/Object" none with
  accessFlags := 33
  interfaces := #[]
  cf := some (fileOf pool0 8 #[] #[{ accessFlags := 1, nameIndex := 5, descriptorIndex := 6, attributes := #[] }] 33 0 #[] #[])
  fields := #[]
  methods := #[k0m0]
  instanceTypes := #[]
  staticTypes := #[]
  resolved := Array.replicate 124 none
  statics := none }

def pool1 : Array CpInfo := pool [(2, .class_ 4), (1, u "java/lang/Object"), (0, u "<init>"), (0, u "()V"), (0, .integer 65535), (0, .methodref 9 10), (0, .class_ 11), (0, .nameAndType 12 13), (0, u "com/example/ratable/ratable/TextParserDigitsPinLaw"), (0, u "pick"), (0, u "(I)C"), (0, .class_ 15), (0, u "java/lang/String"), (0, .methodref 14 17), (0, .nameAndType 5 18), (0, u "([C)V"), (0, .integer 2147483647), (0, .methodref 9 21), (0, .nameAndType 22 23), (0, u "fine"), (0, u "(CIII)Z"), (0, .interfaceMethodref 25 26), (0, .class_ 27), (0, .nameAndType 28 29), (0, u "com/example/ratable/ratable/TextParser"), (0, u "digits"), (0, u "(Ljava/lang/String;II)Z"), (3, u "law"), (0, u "(IIIIII)Z")] 4

def k1m0 : Method := { name := "<init>", desc := "()V", sig := { parameters := [], returnType := none }, accessFlags := 1, code := none }
def k1c1 : Code := { maxStack := 3, maxLocals := 1, code := method_2_code, exceptionTable := #[], attributes := #[] }
def k1m1 : Method := { name := "pick", desc := "(I)C", sig := { parameters := [.int], returnType := some .char }, accessFlags := 10, code := some k1c1 }
def k1c2 : Code := { maxStack := 2, maxLocals := 4, code := method_3_code, exceptionTable := #[], attributes := #[] }
def k1m2 : Method := { name := "fine", desc := "(CIII)Z", sig := { parameters := [.char, .int, .int, .int], returnType := some .boolean }, accessFlags := 10, code := some k1c2 }
def k1c3 : Code := { maxStack := 4, maxLocals := 11, code := code, exceptionTable := #[], attributes := #[] }
def k1m3 : Method := { name := "law", desc := "(IIIIII)Z", sig := { parameters := [.int, .int, .int, .int, .int, .int], returnType := some .boolean }, accessFlags := 9, code := some k1c3 }
/-- com/example/ratable/ratable/TextParserDigitsPinLaw -/
def k1 : Class := { plain "com/example/ratable/ratable/TextParserDigitsPinLaw" (some 0) with
  accessFlags := 49
  interfaces := #[]
  cf := some (fileOf pool1 9 #[] #[{ accessFlags := 1, nameIndex := 5, descriptorIndex := 6, attributes := #[] }, { accessFlags := 10, nameIndex := 12, descriptorIndex := 13, attributes := #[] }, { accessFlags := 10, nameIndex := 22, descriptorIndex := 23, attributes := #[] }, { accessFlags := 9, nameIndex := 33, descriptorIndex := 34, attributes := #[] }] 49 2 #[] #[])
  fields := #[]
  methods := #[k1m0, k1m1, k1m2, k1m3]
  instanceTypes := #[]
  staticTypes := #[]
  resolved := Array.replicate 39 none
  statics := none }

def pool2 : Array CpInfo := pool [(1, .class_ 2), (0, u "java/io/Serializable"), (0, .class_ 4), (0, u "java/lang/Object")] 2

/-- java/io/Serializable -/
def k2 : Class := { plain "java/io/Serializable" (some 0) with
  accessFlags := 1537
  interfaces := #[]
  cf := some (fileOf pool2 1 #[] #[] 1537 3 #[] #[])
  fields := #[]
  methods := #[]
  instanceTypes := #[]
  staticTypes := #[]
  resolved := Array.replicate 7 none
  statics := none }

def pool3 : Array CpInfo := pool [(1, .class_ 2), (0, u "java/lang/Comparable"), (0, .class_ 4), (0, u "java/lang/Object")] 7

/-- java/lang/Comparable -/
def k3 : Class := { plain "java/lang/Comparable" (some 0) with
  accessFlags := 1537
  interfaces := #[]
  cf := some (fileOf pool3 1 #[] #[] 1537 3 #[] #[])
  fields := #[]
  methods := #[]
  instanceTypes := #[]
  staticTypes := #[]
  resolved := Array.replicate 12 none
  statics := none }

def pool4 : Array CpInfo := pool [(2, .class_ 4), (1, u "java/lang/CharSequence"), (42, .class_ 48), (0, u "java/lang/CharSequence$1CodePointIterator"), (10, .class_ 60), (0, u "java/lang/CharSequence$1CharIterator"), (5, .class_ 67), (0, u "java/lang/Object")] 63

/-- java/lang/CharSequence -/
def k4 : Class := { plain "java/lang/CharSequence" (some 0) with
  accessFlags := 1537
  interfaces := #[]
  cf := some (fileOf pool4 2 #[.nestMembers #[47, 59]] #[] 1537 66 #[] #[])
  fields := #[]
  methods := #[]
  instanceTypes := #[]
  staticTypes := #[]
  resolved := Array.replicate 131 none
  statics := none }

def pool5 : Array CpInfo := pool [(1, .class_ 2), (0, u "java/lang/constant/Constable"), (0, .class_ 4), (0, u "java/lang/Object")] 6

/-- java/lang/constant/Constable -/
def k5 : Class := { plain "java/lang/constant/Constable" (some 0) with
  accessFlags := 1537
  interfaces := #[]
  cf := some (fileOf pool5 1 #[] #[] 1537 3 #[] #[])
  fields := #[]
  methods := #[]
  instanceTypes := #[]
  staticTypes := #[]
  resolved := Array.replicate 11 none
  statics := none }

def pool6 : Array CpInfo := pool [(1, .class_ 2), (0, u "java/lang/constant/ConstantDesc"), (0, .class_ 4), (0, u "java/lang/Object")] 32

/-- java/lang/constant/ConstantDesc -/
def k6 : Class := { plain "java/lang/constant/ConstantDesc" (some 0) with
  accessFlags := 1537
  interfaces := #[]
  cf := some (fileOf pool6 1 #[] #[] 1537 3 #[] #[])
  fields := #[]
  methods := #[]
  instanceTypes := #[]
  staticTypes := #[]
  resolved := Array.replicate 37 none
  statics := none }

def pool7 : Array CpInfo := pool [(1, .methodref 2 3), (0, .class_ 4), (0, .nameAndType 5 6), (0, u "java/lang/Object"), (0, u "<init>"), (0, u "()V"), (2, .fieldref 10 11), (0, .class_ 12), (0, .nameAndType 13 14), (0, u "java/lang/String"), (0, u "value"), (0, u "[B"), (0, .fieldref 10 16), (0, .nameAndType 17 18), (0, u "coder"), (0, u "B"), (2, u "hash"), (0, u "I"), (2, u "hashIsZero"), (0, u "Z"), (0, .methodref 10 28), (0, .nameAndType 5 29), (0, u "([CIILjava/lang/Void;)V"), (8, .fieldref 10 39), (0, .nameAndType 40 26), (0, u "COMPACT_STRINGS"), (1, .class_ 44), (1, u "java/lang/StringUTF16"), (0, u "compress"), (1, .methodref 42 48), (0, .nameAndType 49 50), (0, u "coderFromArrayLen"), (0, u "([BI)B"), (56, .class_ 109), (1, u "java/lang/StringLatin1"), (32, u "()Z"), (34, .methodref 42 178), (0, .nameAndType 45 179), (0, u "([CII)[B"), (183, u "([BI)C"), (27, u "(II)V"), (35, u "(I)C"), (64, .methodref 10 493), (0, .nameAndType 494 142), (0, u "isLatin1"), (0, .methodref 107 496), (0, .nameAndType 497 363), (0, u "charAt"), (0, .methodref 42 496), (2, u "checkIndex"), (73, .class_ 576), (0, u "java/lang/CharSequence"), (22, u "CASE_INSENSITIVE_ORDER"), (0, u "Ljava/util/Comparator;"), (409, u "([C)V"), (42, .fieldref 1054 1055), (0, .class_ 1056), (0, .nameAndType 1057 1058), (0, u "jdk/internal/util/Preconditions"), (0, u "SIOOBE_FORMATTER"), (0, u "Ljava/util/function/BiFunction;"), (0, .methodref 1054 1060), (0, .nameAndType 501 1061), (0, u "(IILjava/util/function/BiFunction;)I"), (39, u "serialPersistentFields"), (0, u "[Ljava/io/ObjectStreamField;"), (0, .class_ 1104), (0, u "java/lang/String$CaseInsensitiveComparator"), (1, .class_ 1107), (0, u "java/io/Serializable"), (0, .class_ 1109), (0, u "java/lang/Comparable"), (0, .class_ 1111), (0, u "java/lang/constant/Constable"), (0, .class_ 1113), (0, u "java/lang/constant/ConstantDesc"), (2, u "serialVersionUID"), (0, u "J"), (3, u "REPL"), (0, u "C"), (2, u "LATIN1"), (1, u "UTF16")] 323

def k7m0 : Method := { name := "<init>", desc := "()V", sig := { parameters := [], returnType := none }, accessFlags := 1, code := none }
def k7c1 : Code := { maxStack := 5, maxLocals := 2, code := jdk_42_method_3_code, exceptionTable := #[], attributes := #[] }
def k7m1 : Method := { name := "<init>", desc := "([C)V", sig := { parameters := [(.array .char)], returnType := none }, accessFlags := 1, code := some k7c1 }
def k7c2 : Code := { maxStack := 2, maxLocals := 2, code := jdk_42_method_56_code, exceptionTable := #[], attributes := #[] }
def k7m2 : Method := { name := "charAt", desc := "(I)C", sig := { parameters := [.int], returnType := some .char }, accessFlags := 1, code := some k7c2 }
def k7c3 : Code := { maxStack := 4, maxLocals := 6, code := jdk_42_method_149_code, exceptionTable := #[], attributes := #[] }
def k7m3 : Method := { name := "<init>", desc := "([CIILjava/lang/Void;)V", sig := { parameters := [(.array .char), .int, .int, (.object "java/lang/Void")], returnType := none }, accessFlags := 2, code := some k7c3 }
def k7c4 : Code := { maxStack := 1, maxLocals := 1, code := jdk_42_method_154_code, exceptionTable := #[], attributes := #[] }
def k7m4 : Method := { name := "isLatin1", desc := "()Z", sig := { parameters := [], returnType := some .boolean }, accessFlags := 0, code := some k7c4 }
def k7c5 : Code := { maxStack := 3, maxLocals := 2, code := jdk_42_method_155_code, exceptionTable := #[], attributes := #[] }
def k7m5 : Method := { name := "checkIndex", desc := "(II)V", sig := { parameters := [.int, .int], returnType := none }, accessFlags := 8, code := some k7c5 }
/-- java/lang/String -/
def k7 : Class := { plain "java/lang/String" (some 0) with
  accessFlags := 49
  interfaces := #[2, 3, 4, 5, 6]
  cf := some (fileOf pool7 10 #[.nestMembers #[1103]] #[{ accessFlags := 1, nameIndex := 5, descriptorIndex := 6, attributes := #[] }, { accessFlags := 1, nameIndex := 5, descriptorIndex := 1010, attributes := #[] }, { accessFlags := 1, nameIndex := 497, descriptorIndex := 427, attributes := #[] }, { accessFlags := 2, nameIndex := 5, descriptorIndex := 29, attributes := #[] }, { accessFlags := 0, nameIndex := 494, descriptorIndex := 142, attributes := #[] }, { accessFlags := 8, nameIndex := 501, descriptorIndex := 391, attributes := #[] }] 49 2 #[1106, 1108, 575, 1110, 1112] #[{ accessFlags := 18, nameIndex := 13, descriptorIndex := 14, attributes := #[] }, { accessFlags := 18, nameIndex := 17, descriptorIndex := 18, attributes := #[] }, { accessFlags := 2, nameIndex := 21, descriptorIndex := 22, attributes := #[] }, { accessFlags := 2, nameIndex := 25, descriptorIndex := 26, attributes := #[] }, { accessFlags := 26, nameIndex := 1116, descriptorIndex := 1117, attributes := #[] }, { accessFlags := 24, nameIndex := 40, descriptorIndex := 26, attributes := #[] }, { accessFlags := 26, nameIndex := 1101, descriptorIndex := 1102, attributes := #[] }, { accessFlags := 26, nameIndex := 1121, descriptorIndex := 1122, attributes := #[] }, { accessFlags := 25, nameIndex := 599, descriptorIndex := 600, attributes := #[] }, { accessFlags := 24, nameIndex := 1125, descriptorIndex := 18, attributes := #[] }, { accessFlags := 24, nameIndex := 1127, descriptorIndex := 18, attributes := #[] }])
  fields := #[{ name := "value", type := (.array .byte), accessFlags := 18, slot := 0, constantValue := 0 }, { name := "coder", type := .byte, accessFlags := 18, slot := 1, constantValue := 0 }, { name := "hash", type := .int, accessFlags := 2, slot := 2, constantValue := 0 }, { name := "hashIsZero", type := .boolean, accessFlags := 2, slot := 3, constantValue := 0 }, { name := "serialVersionUID", type := .long, accessFlags := 26, slot := 0, constantValue := 0 }, { name := "COMPACT_STRINGS", type := .boolean, accessFlags := 24, slot := 1, constantValue := 0 }, { name := "serialPersistentFields", type := (.array (.object "java/io/ObjectStreamField")), accessFlags := 26, slot := 2, constantValue := 0 }, { name := "REPL", type := .char, accessFlags := 26, slot := 3, constantValue := 0 }, { name := "CASE_INSENSITIVE_ORDER", type := (.object "java/util/Comparator"), accessFlags := 25, slot := 4, constantValue := 0 }, { name := "LATIN1", type := .byte, accessFlags := 24, slot := 5, constantValue := 0 }, { name := "UTF16", type := .byte, accessFlags := 24, slot := 6, constantValue := 0 }]
  methods := #[k7m0, k7m1, k7m2, k7m3, k7m4, k7m5]
  instanceTypes := #[(.array .byte), .byte, .int, .boolean]
  staticTypes := #[.long, .boolean, (.array (.object "java/io/ObjectStreamField")), .char, (.object "java/util/Comparator"), .byte, .byte]
  resolved := Array.replicate 1451 none
  statics := some 0 }

def pool8 : Array CpInfo := pool [(3, .class_ 4), (0, u "java/lang/String"), (1, .class_ 8), (1, u "java/lang/Object"), (0, u "<init>"), (0, u "()V"), (0, .methodref 12 13), (0, .class_ 14), (0, .nameAndType 15 16), (0, u "java/lang/StringUTF16"), (0, u "newBytesLength"), (0, u "(I)I"), (3, .integer 1073741823), (23, .fieldref 12 45), (0, .nameAndType 46 47), (0, u "$assertionsDisabled"), (0, u "Z"), (0, .methodref 12 49), (0, .nameAndType 50 51), (0, u "length"), (0, u "([B)I"), (7, .fieldref 12 60), (0, .nameAndType 61 62), (0, u "HI_BYTE_SHIFT"), (0, u "I"), (0, .fieldref 12 64), (0, .nameAndType 65 62), (0, u "LO_BYTE_SHIFT"), (1, .methodref 12 68), (0, .nameAndType 69 70), (0, u "checkIndex"), (0, u "(I[B)V"), (0, .methodref 12 72), (0, .nameAndType 73 74), (0, u "getChar"), (0, u "([BI)C"), (32, .methodref 12 108), (0, .nameAndType 109 110), (0, u "newBytesFor"), (0, u "(I)[B"), (0, .methodref 12 112), (0, .nameAndType 113 114), (0, u "putChar"), (0, u "([BII)V"), (0, .methodref 12 116), (0, .nameAndType 117 118), (0, u "compress"), (0, u "([CI[BII)I"), (0, .methodref 12 120), (0, .nameAndType 121 122), (0, u "toBytes"), (0, u "([CII)[B"), (138, u "coderFromArrayLen"), (0, u "([BI)B"), (106, .class_ 371), (1, u "java/lang/StringUTF16$LinesSpliterator"), (20, u "charAt"), (21, .methodref 3 415), (0, .nameAndType 69 416), (0, u "(II)V"), (13, u "MAX_LENGTH"), (196, .class_ 628), (0, u "java/lang/StringUTF16$CodePointsSpliterator"), (0, .class_ 630), (0, u "java/lang/StringUTF16$CharsSpliterator")] 4

def k8m0 : Method := { name := "<init>", desc := "()V", sig := { parameters := [], returnType := none }, accessFlags := 0, code := none }
def k8c1 : Code := { maxStack := 1, maxLocals := 1, code := jdk_52_method_2_code, exceptionTable := #[], attributes := #[] }
def k8m1 : Method := { name := "newBytesFor", desc := "(I)[B", sig := { parameters := [.int], returnType := some (.array .byte) }, accessFlags := 9, code := some k8c1 }
def k8c2 : Code := { maxStack := 4, maxLocals := 1, code := jdk_52_method_3_code, exceptionTable := #[], attributes := #[] }
def k8m2 : Method := { name := "newBytesLength", desc := "(I)I", sig := { parameters := [.int], returnType := some .int }, accessFlags := 9, code := some k8c2 }
def k8c3 : Code := { maxStack := 4, maxLocals := 3, code := jdk_52_method_4_code, exceptionTable := #[], attributes := #[] }
def k8m3 : Method := { name := "putChar", desc := "([BII)V", sig := { parameters := [(.array .byte), .int, .int], returnType := none }, accessFlags := 8, code := some k8c3 }
def k8c4 : Code := { maxStack := 3, maxLocals := 2, code := jdk_52_method_5_code, exceptionTable := #[], attributes := #[] }
def k8m4 : Method := { name := "getChar", desc := "([BI)C", sig := { parameters := [(.array .byte), .int], returnType := some .char }, accessFlags := 8, code := some k8c4 }
def k8c5 : Code := { maxStack := 2, maxLocals := 1, code := jdk_52_method_6_code, exceptionTable := #[], attributes := #[] }
def k8m5 : Method := { name := "length", desc := "([B)I", sig := { parameters := [(.array .byte)], returnType := some .int }, accessFlags := 9, code := some k8c5 }
def k8c6 : Code := { maxStack := 4, maxLocals := 5, code := jdk_52_method_14_code, exceptionTable := #[], attributes := #[] }
def k8m6 : Method := { name := "toBytes", desc := "([CII)[B", sig := { parameters := [(.array .char), .int, .int], returnType := some (.array .byte) }, accessFlags := 9, code := some k8c6 }
def k8c7 : Code := { maxStack := 2, maxLocals := 2, code := jdk_52_method_15_code, exceptionTable := #[], attributes := #[] }
def k8m7 : Method := { name := "coderFromArrayLen", desc := "([BI)B", sig := { parameters := [(.array .byte), .int], returnType := some .byte }, accessFlags := 8, code := some k8c7 }
def k8c8 : Code := { maxStack := 5, maxLocals := 6, code := jdk_52_method_16_code, exceptionTable := #[], attributes := #[] }
def k8m8 : Method := { name := "compress", desc := "([CII)[B", sig := { parameters := [(.array .char), .int, .int], returnType := some (.array .byte) }, accessFlags := 9, code := some k8c8 }
def k8c9 : Code := { maxStack := 3, maxLocals := 7, code := jdk_52_method_21_code, exceptionTable := #[], attributes := #[] }
def k8m9 : Method := { name := "compress", desc := "([CI[BII)I", sig := { parameters := [(.array .char), .int, (.array .byte), .int, .int], returnType := some .int }, accessFlags := 9, code := some k8c9 }
def k8c10 : Code := { maxStack := 2, maxLocals := 2, code := jdk_52_method_83_code, exceptionTable := #[], attributes := #[] }
def k8m10 : Method := { name := "charAt", desc := "([BI)C", sig := { parameters := [(.array .byte), .int], returnType := some .char }, accessFlags := 9, code := some k8c10 }
def k8c11 : Code := { maxStack := 2, maxLocals := 2, code := jdk_52_method_91_code, exceptionTable := #[], attributes := #[] }
def k8m11 : Method := { name := "checkIndex", desc := "(I[B)V", sig := { parameters := [.int, (.array .byte)], returnType := none }, accessFlags := 9, code := some k8c11 }
/-- java/lang/StringUTF16 -/
def k8 : Class := { plain "java/lang/StringUTF16" (some 0) with
  accessFlags := 48
  interfaces := #[]
  cf := some (fileOf pool8 12 #[.nestMembers #[627, 629, 369]] #[{ accessFlags := 0, nameIndex := 9, descriptorIndex := 10, attributes := #[] }, { accessFlags := 9, nameIndex := 109, descriptorIndex := 110, attributes := #[] }, { accessFlags := 9, nameIndex := 15, descriptorIndex := 16, attributes := #[] }, { accessFlags := 8, nameIndex := 113, descriptorIndex := 114, attributes := #[] }, { accessFlags := 8, nameIndex := 73, descriptorIndex := 74, attributes := #[] }, { accessFlags := 9, nameIndex := 50, descriptorIndex := 51, attributes := #[] }, { accessFlags := 9, nameIndex := 121, descriptorIndex := 122, attributes := #[] }, { accessFlags := 8, nameIndex := 261, descriptorIndex := 262, attributes := #[] }, { accessFlags := 9, nameIndex := 117, descriptorIndex := 122, attributes := #[] }, { accessFlags := 9, nameIndex := 117, descriptorIndex := 118, attributes := #[] }, { accessFlags := 9, nameIndex := 392, descriptorIndex := 74, attributes := #[] }, { accessFlags := 9, nameIndex := 69, descriptorIndex := 70, attributes := #[] }] 48 6 #[] #[{ accessFlags := 26, nameIndex := 61, descriptorIndex := 62, attributes := #[] }, { accessFlags := 26, nameIndex := 65, descriptorIndex := 62, attributes := #[] }, { accessFlags := 24, nameIndex := 430, descriptorIndex := 62, attributes := #[] }, { accessFlags := 4120, nameIndex := 46, descriptorIndex := 47, attributes := #[] }])
  fields := #[{ name := "HI_BYTE_SHIFT", type := .int, accessFlags := 26, slot := 0, constantValue := 0 }, { name := "LO_BYTE_SHIFT", type := .int, accessFlags := 26, slot := 1, constantValue := 0 }, { name := "MAX_LENGTH", type := .int, accessFlags := 24, slot := 2, constantValue := 0 }, { name := "$assertionsDisabled", type := .boolean, accessFlags := 4120, slot := 3, constantValue := 0 }]
  methods := #[k8m0, k8m1, k8m2, k8m3, k8m4, k8m5, k8m6, k8m7, k8m8, k8m9, k8m10, k8m11]
  instanceTypes := #[]
  staticTypes := #[.int, .int, .int, .boolean]
  resolved := Array.replicate 635 none
  statics := some 1 }

def pool9 : Array CpInfo := pool [(20, .class_ 22), (1, u "java/lang/String"), (7, .class_ 32), (1, u "com/example/ratable/ratable/TextParser"), (0, u "digits"), (0, u "(Ljava/lang/String;II)Z"), (0, .methodref 20 36), (0, .nameAndType 37 38), (0, u "charAt"), (0, u "(I)C"), (18, .class_ 58), (0, u "com/example/ratable/ratable/TextParser$Named"), (57, .class_ 117), (0, u "java/lang/Object")] 58

def k9c0 : Code := { maxStack := 2, maxLocals := 4, code := prog_27_method_4_code, exceptionTable := #[], attributes := #[] }
def k9m0 : Method := { name := "digits", desc := "(Ljava/lang/String;II)Z", sig := { parameters := [(.object "java/lang/String"), .int, .int], returnType := some .boolean }, accessFlags := 9, code := some k9c0 }
/-- com/example/ratable/ratable/TextParser -/
def k9 : Class := { plain "com/example/ratable/ratable/TextParser" (some 0) with
  accessFlags := 1536
  interfaces := #[]
  cf := some (fileOf pool9 30 #[.nestMembers #[57]] #[{ accessFlags := 9, nameIndex := 33, descriptorIndex := 34, attributes := #[] }] 1536 116 #[] #[])
  fields := #[]
  methods := #[k9m0]
  instanceTypes := #[]
  staticTypes := #[]
  resolved := Array.replicate 176 none
  statics := none }

def pool10 : Array CpInfo := pool [(1, .class_ 2), (0, u "java/lang/String"), (1, .class_ 6), (1, u "java/lang/Object"), (0, u "<init>"), (0, u "()V"), (0, .methodref 1 10), (0, .nameAndType 11 12), (0, u "checkIndex"), (0, u "(II)V"), (1, .class_ 16), (1, u "java/lang/StringLatin1"), (36, u "([BI)C"), (67, u "$assertionsDisabled"), (0, u "Z"), (98, .class_ 223), (1, u "java/lang/StringLatin1$LinesSpliterator"), (28, u "charAt"), (137, .class_ 391), (0, u "java/lang/StringLatin1$CharsSpliterator")] 3

def k10m0 : Method := { name := "<init>", desc := "()V", sig := { parameters := [], returnType := none }, accessFlags := 0, code := none }
def k10c1 : Code := { maxStack := 2, maxLocals := 2, code := jdk_43_method_2_code, exceptionTable := #[], attributes := #[] }
def k10m1 : Method := { name := "charAt", desc := "([BI)C", sig := { parameters := [(.array .byte), .int], returnType := some .char }, accessFlags := 9, code := some k10c1 }
/-- java/lang/StringLatin1 -/
def k10 : Class := { plain "java/lang/StringLatin1" (some 0) with
  accessFlags := 48
  interfaces := #[]
  cf := some (fileOf pool10 14 #[.nestMembers #[390, 221]] #[{ accessFlags := 0, nameIndex := 7, descriptorIndex := 8, attributes := #[] }, { accessFlags := 9, nameIndex := 252, descriptorIndex := 53, attributes := #[] }] 48 4 #[] #[{ accessFlags := 4120, nameIndex := 121, descriptorIndex := 122, attributes := #[] }])
  fields := #[{ name := "$assertionsDisabled", type := .boolean, accessFlags := 4120, slot := 0, constantValue := 0 }]
  methods := #[k10m0, k10m1]
  instanceTypes := #[]
  staticTypes := #[.boolean]
  resolved := Array.replicate 395 none
  statics := none }

def pool11 : Array CpInfo := pool [(2, .class_ 4), (1, u "java/lang/Object"), (0, u "<init>"), (0, u "()V"), (17, .class_ 26), (1, u "jdk/internal/util/Preconditions"), (6, u "checkIndex"), (21, .class_ 56), (0, u "jdk/internal/util/Preconditions$4"), (57, .class_ 115), (0, u "jdk/internal/util/Preconditions$1"), (7, u "SIOOBE_FORMATTER"), (0, u "Ljava/util/function/BiFunction;"), (0, .class_ 126), (0, u "jdk/internal/util/Preconditions$2"), (3, u "AIOOBE_FORMATTER"), (0, .class_ 132), (0, u "jdk/internal/util/Preconditions$3"), (3, u "IOOBE_FORMATTER"), (41, u "(IILjava/util/function/BiFunction;)I")] 15

def k11m0 : Method := { name := "<init>", desc := "()V", sig := { parameters := [], returnType := none }, accessFlags := 1, code := none }
def k11c1 : Code := { maxStack := 3, maxLocals := 3, code := jdk_41_method_11_code, exceptionTable := #[], attributes := #[] }
def k11m1 : Method := { name := "checkIndex", desc := "(IILjava/util/function/BiFunction;)I", sig := { parameters := [.int, .int, (.object "java/util/function/BiFunction")], returnType := some .int }, accessFlags := 9, code := some k11c1 }
/-- jdk/internal/util/Preconditions -/
def k11 : Class := { plain "jdk/internal/util/Preconditions" (some 0) with
  accessFlags := 33
  interfaces := #[]
  cf := some (fileOf pool11 24 #[.nestMembers #[55, 131, 125, 114]] #[{ accessFlags := 1, nameIndex := 5, descriptorIndex := 6, attributes := #[] }, { accessFlags := 9, nameIndex := 33, descriptorIndex := 178, attributes := #[] }] 33 2 #[] #[{ accessFlags := 25, nameIndex := 123, descriptorIndex := 124, attributes := #[] }, { accessFlags := 25, nameIndex := 130, descriptorIndex := 124, attributes := #[] }, { accessFlags := 25, nameIndex := 136, descriptorIndex := 124, attributes := #[] }])
  fields := #[{ name := "SIOOBE_FORMATTER", type := (.object "java/util/function/BiFunction"), accessFlags := 25, slot := 0, constantValue := 0 }, { name := "AIOOBE_FORMATTER", type := (.object "java/util/function/BiFunction"), accessFlags := 25, slot := 1, constantValue := 0 }, { name := "IOOBE_FORMATTER", type := (.object "java/util/function/BiFunction"), accessFlags := 25, slot := 2, constantValue := 0 }]
  methods := #[k11m0, k11m1]
  instanceTypes := #[]
  staticTypes := #[(.object "java/util/function/BiFunction"), (.object "java/util/function/BiFunction"), (.object "java/util/function/BiFunction")]
  resolved := Array.replicate 194 none
  statics := some 2 }

def pool12 : Array CpInfo := pool [(9, u "<init>"), (6, .class_ 18), (1, u "java/lang/Object"), (0, u "()V"), (1, .class_ 23), (1, u "jdk/internal/util/ArraysSupport"), (0, u "LOG2_ARRAY_LONG_INDEX_SCALE"), (0, u "I"), (2, u "U"), (0, u "Ljdk/internal/misc/Unsafe;"), (8, u "BIG_ENDIAN"), (0, u "Z"), (8, u "LOG2_BYTE_BIT_SIZE"), (4, u "LOG2_ARRAY_INT_INDEX_SCALE"), (54, u "JLA"), (0, u "Ljdk/internal/access/JavaLangAccess;"), (11, u "LOG2_ARRAY_BOOLEAN_INDEX_SCALE"), (9, u "LOG2_ARRAY_BYTE_INDEX_SCALE"), (5, u "LOG2_ARRAY_CHAR_INDEX_SCALE"), (5, u "LOG2_ARRAY_SHORT_INDEX_SCALE"), (18, u "LOG2_ARRAY_FLOAT_INDEX_SCALE"), (24, u "LOG2_ARRAY_DOUBLE_INDEX_SCALE"), (89, u "T_BOOLEAN"), (2, u "T_CHAR"), (1, u "T_FLOAT"), (1, u "T_DOUBLE"), (1, u "T_BYTE"), (1, u "T_SHORT"), (1, u "T_INT"), (1, u "T_LONG"), (1, u "SOFT_MAX_ARRAY_LENGTH")] 83

def k12m0 : Method := { name := "<init>", desc := "()V", sig := { parameters := [], returnType := none }, accessFlags := 2, code := none }
/-- jdk/internal/util/ArraysSupport -/
def k12 : Class := { plain "jdk/internal/util/ArraysSupport" (some 0) with
  accessFlags := 33
  interfaces := #[]
  cf := some (fileOf pool12 21 #[] #[{ accessFlags := 2, nameIndex := 9, descriptorIndex := 19, attributes := #[] }] 33 16 #[] #[{ accessFlags := 24, nameIndex := 28, descriptorIndex := 29, attributes := #[] }, { accessFlags := 26, nameIndex := 38, descriptorIndex := 39, attributes := #[] }, { accessFlags := 25, nameIndex := 121, descriptorIndex := 25, attributes := #[] }, { accessFlags := 25, nameIndex := 131, descriptorIndex := 25, attributes := #[] }, { accessFlags := 25, nameIndex := 137, descriptorIndex := 25, attributes := #[] }, { accessFlags := 25, nameIndex := 143, descriptorIndex := 25, attributes := #[] }, { accessFlags := 25, nameIndex := 53, descriptorIndex := 25, attributes := #[] }, { accessFlags := 25, nameIndex := 24, descriptorIndex := 25, attributes := #[] }, { accessFlags := 25, nameIndex := 162, descriptorIndex := 25, attributes := #[] }, { accessFlags := 25, nameIndex := 187, descriptorIndex := 25, attributes := #[] }, { accessFlags := 26, nameIndex := 48, descriptorIndex := 25, attributes := #[] }, { accessFlags := 25, nameIndex := 277, descriptorIndex := 25, attributes := #[] }, { accessFlags := 25, nameIndex := 280, descriptorIndex := 25, attributes := #[] }, { accessFlags := 25, nameIndex := 282, descriptorIndex := 25, attributes := #[] }, { accessFlags := 25, nameIndex := 284, descriptorIndex := 25, attributes := #[] }, { accessFlags := 25, nameIndex := 286, descriptorIndex := 25, attributes := #[] }, { accessFlags := 25, nameIndex := 288, descriptorIndex := 25, attributes := #[] }, { accessFlags := 25, nameIndex := 290, descriptorIndex := 25, attributes := #[] }, { accessFlags := 25, nameIndex := 292, descriptorIndex := 25, attributes := #[] }, { accessFlags := 26, nameIndex := 108, descriptorIndex := 109, attributes := #[] }, { accessFlags := 25, nameIndex := 294, descriptorIndex := 25, attributes := #[] }])
  fields := #[{ name := "U", type := (.object "jdk/internal/misc/Unsafe"), accessFlags := 24, slot := 0, constantValue := 0 }, { name := "BIG_ENDIAN", type := .boolean, accessFlags := 26, slot := 1, constantValue := 0 }, { name := "LOG2_ARRAY_BOOLEAN_INDEX_SCALE", type := .int, accessFlags := 25, slot := 2, constantValue := 0 }, { name := "LOG2_ARRAY_BYTE_INDEX_SCALE", type := .int, accessFlags := 25, slot := 3, constantValue := 0 }, { name := "LOG2_ARRAY_CHAR_INDEX_SCALE", type := .int, accessFlags := 25, slot := 4, constantValue := 0 }, { name := "LOG2_ARRAY_SHORT_INDEX_SCALE", type := .int, accessFlags := 25, slot := 5, constantValue := 0 }, { name := "LOG2_ARRAY_INT_INDEX_SCALE", type := .int, accessFlags := 25, slot := 6, constantValue := 0 }, { name := "LOG2_ARRAY_LONG_INDEX_SCALE", type := .int, accessFlags := 25, slot := 7, constantValue := 0 }, { name := "LOG2_ARRAY_FLOAT_INDEX_SCALE", type := .int, accessFlags := 25, slot := 8, constantValue := 0 }, { name := "LOG2_ARRAY_DOUBLE_INDEX_SCALE", type := .int, accessFlags := 25, slot := 9, constantValue := 0 }, { name := "LOG2_BYTE_BIT_SIZE", type := .int, accessFlags := 26, slot := 10, constantValue := 0 }, { name := "T_BOOLEAN", type := .int, accessFlags := 25, slot := 11, constantValue := 0 }, { name := "T_CHAR", type := .int, accessFlags := 25, slot := 12, constantValue := 0 }, { name := "T_FLOAT", type := .int, accessFlags := 25, slot := 13, constantValue := 0 }, { name := "T_DOUBLE", type := .int, accessFlags := 25, slot := 14, constantValue := 0 }, { name := "T_BYTE", type := .int, accessFlags := 25, slot := 15, constantValue := 0 }, { name := "T_SHORT", type := .int, accessFlags := 25, slot := 16, constantValue := 0 }, { name := "T_INT", type := .int, accessFlags := 25, slot := 17, constantValue := 0 }, { name := "T_LONG", type := .int, accessFlags := 25, slot := 18, constantValue := 0 }, { name := "JLA", type := (.object "jdk/internal/access/JavaLangAccess"), accessFlags := 26, slot := 19, constantValue := 0 }, { name := "SOFT_MAX_ARRAY_LENGTH", type := .int, accessFlags := 25, slot := 20, constantValue := 0 }]
  methods := #[k12m0]
  instanceTypes := #[]
  staticTypes := #[(.object "jdk/internal/misc/Unsafe"), .boolean, .int, .int, .int, .int, .int, .int, .int, .int, .int, .int, .int, .int, .int, .int, .int, .int, .int, (.object "jdk/internal/access/JavaLangAccess"), .int]
  resolved := Array.replicate 378 none
  statics := none }

def pool13 : Array CpInfo := pool [(1, u "java/lang/Cloneable"), (0, .class_ 1), (0, u "java/lang/Object"), (0, .class_ 3)] 3

/-- java/lang/Cloneable -/
def k13 : Class := { plain "java/lang/Cloneable" (some 0) with
  accessFlags := 1537
  interfaces := #[]
  cf := some (fileOf pool13 2 #[] #[] 1537 4 #[] #[])
  fields := #[]
  methods := #[]
  instanceTypes := #[]
  staticTypes := #[]
  resolved := Array.replicate 8 none
  statics := none }

/-- the primitive byte -/
def k14 : Class := { plain "byte" none with kind := .primitive 'B', accessFlags := 0x411 }
/-- [B -/
def k15 : Class := { plain "[B" (some 0) with kind := .array 14 .byte, interfaces := #[13, 2], accessFlags := 1041 }

/-- the primitive char -/
def k16 : Class := { plain "char" none with kind := .primitive 'C', accessFlags := 0x411 }
/-- [C -/
def k17 : Class := { plain "[C" (some 0) with kind := .array 16 .char, interfaces := #[13, 2], accessFlags := 1041 }

/-- the primitive int -/
def k18 : Class := { plain "int" none with kind := .primitive 'I', accessFlags := 0x411 }
/-- [I -/
def k19 : Class := { plain "[I" (some 0) with kind := .array 18 .int, interfaces := #[13, 2], accessFlags := 1041 }

def heap : Heap := #[{ cls := 7, slots := #[.long 0, .int 1, .null, .int 0, .null, .int 0, .int 0], vm := .statics 7 },
  { cls := 8, slots := #[.int 0, .int 8, .int 0, .int 1], vm := .statics 8 },
  { cls := 11, slots := #[.null, .null, .null], vm := .statics 11 }]
def classes : Array Class := #[k0, k1, k2, k3, k4, k5, k6, k7, k8, k9, k10, k11, k12, k13, k14, k15, k16, k17, k18, k19]
def interned : List (Array UInt16 × Addr) := []
def slotsUsed : Nat := 14
def theMethod : MethodId := ⟨1, 3⟩
def args0 : Array Value := #[.int 48, .int 49, .int 50, .int 300, .int 0, .int 3]
def aboutOver (below : List Frame) : State where
  vm := { classes := classes, interned := interned.toArray }
  heap := heap
  slotsUsed := slotsUsed
  threads := #[{ frames := .invoking theMethod args0 :: below }]
def below0 : List Frame := [.native { method := ⟨0, 0⟩, args := #[] }]
def about1 : State := aboutOver below0
def p0 : Program := .bare "" "" ""
def e0 : Env := launch0.env 0 0 0
theorem w_frames : about1.frames = Frame.invoking theMethod args0 :: below0 := rfl
set_option maxRecDepth 65536 in
theorem w_args : argsFit about1.vm theMethod args0 = true := by decide +kernel
set_option maxRecDepth 65536 in
theorem w_heap : heapFits about1 = true := by decide +kernel
set_option maxRecDepth 65536 in
theorem w_runnable : about1.curStatus? = some .runnable := by decide +kernel
set_option maxRecDepth 65536 in
theorem w_alone : about1.alone = true := by decide +kernel
set_option maxRecDepth 65536 in
theorem w_named : about1.methodNamed? x = some theMethod := by decide +kernel
set_option maxRecDepth 65536 in
theorem w_hears : about1.hears theMethod below0 = true := by decide +kernel
set_option maxRecDepth 65536 in
theorem w_ripe : about1.ripe theMethod args0 below0 = true := by decide +kernel
theorem w_running : about1.status = .running := rfl
set_option maxRecDepth 65536 in
theorem w_room : about1.hasRoom e0.platform room_1 = true :=
  launch0.hasRoom_least _ room_1 (by decide +kernel) (by decide +kernel) (by decide +kernel) (by decide +kernel) (by decide +kernel) (by decide +kernel)
theorem allAtoms_all (ts : List Jvm.Cond) (a : Array Jvm.Value) (st : Jvm.State) : (allAtoms ts).before a st = ts.all (fun c => c.before a st) := by
  induction ts with
  | nil => rfl
  | cons c t ih =>
    show (Jvm.Cond.and c (allAtoms t)).before a st = _
    rw [Jvm.Cond.before_and, ih, List.all_cons]
def words1 : List Jvm.Cond := Jvm.Cond.code x code maxLocals ret :: tables_1
/-- a 'code' word, met by the world's own term for the bytes: nothing is compared byte by byte -/
theorem code_word {y : MethodName} {bytes : ByteArray} {mx : Nat} {rt : Option FieldType} {a : Array Value} {s : State} {m : MethodId} {meth : Method} {c : Code} (h1 : s.methodNamed? y = some m) (h2 : s.vm.method? m = some meth) (h3 : meth.code = some c) (h4 : c.code = bytes)
    (h5 : (c.maxLocals == mx && c.exceptionTable.isEmpty && decide (c.maxStack ≤ mostOperands) && decide (meth.sig.returnType = rt) && !meth.locks && decide (parseMethodDescriptor y.desc = some meth.sig)) = true) : (Jvm.Cond.code y bytes mx rt).before a s = true := by
  simp only [Bool.and_eq_true, beq_iff_eq, Bool.not_eq_true', decide_eq_true_eq] at h5
  obtain ⟨⟨⟨⟨⟨g1, g2⟩, g3⟩, g4⟩, g5⟩, g6⟩ := h5
  simp [Cond.before, Cond.holds, Cond.value, h1, h2, h3, h4, g1, g2, g3, g4, g5, g6]
def isCode : Jvm.Cond → Bool
  | .code _ _ _ _ => true
  | _ => false
theorem all_split {L : List Jvm.Cond} {P : Jvm.Cond → Bool} (h1 : L.all (fun c => isCode c || P c) = true) (h2 : ∀ c ∈ L.filter isCode, P c = true) : L.all P = true := by
  refine List.all_eq_true.mpr fun c hc => ?_
  have h := List.all_eq_true.mp h1 c hc
  rcases Bool.eq_false_or_eq_true (isCode c) with hi | hi
  · exact h2 c (List.mem_filter.mpr ⟨hc, hi⟩)
  · simpa [hi] using h
set_option maxRecDepth 65536 in
theorem w_c0 : (Jvm.Cond.code x code maxLocals ret).before args0 about1 = true := code_word (m := ⟨1, 3⟩) (meth := k1m3) (c := k1c3) (by decide +kernel) rfl rfl rfl (by decide +kernel)
set_option maxRecDepth 65536 in
theorem w_c1 : (Jvm.Cond.code ({ cls := "com/example/ratable/ratable/TextParserDigitsPinLaw", name := "pick", desc := "(I)C" } : Jvm.MethodName) method_2_code (1 : Nat) (Option.some Jvm.ClassFile.FieldType.char)).before args0 about1 = true := code_word (m := ⟨1, 1⟩) (meth := k1m1) (c := k1c1) (by decide +kernel) rfl rfl rfl (by decide +kernel)
set_option maxRecDepth 65536 in
theorem w_c2 : (Jvm.Cond.code ({ cls := "java/lang/String", name := "<init>", desc := "([C)V" } : Jvm.MethodName) jdk_42_method_3_code (2 : Nat) (Option.none : Option Jvm.ClassFile.FieldType)).before args0 about1 = true := code_word (m := ⟨7, 1⟩) (meth := k7m1) (c := k7c1) (by decide +kernel) rfl rfl rfl (by decide +kernel)
set_option maxRecDepth 65536 in
theorem w_c3 : (Jvm.Cond.code ({ cls := "java/lang/String", name := "<init>", desc := "([CIILjava/lang/Void;)V" } : Jvm.MethodName) jdk_42_method_149_code (6 : Nat) (Option.none : Option Jvm.ClassFile.FieldType)).before args0 about1 = true := code_word (m := ⟨7, 3⟩) (meth := k7m3) (c := k7c3) (by decide +kernel) rfl rfl rfl (by decide +kernel)
set_option maxRecDepth 65536 in
theorem w_c4 : (Jvm.Cond.code ({ cls := "java/lang/Object", name := "<init>", desc := "()V" } : Jvm.MethodName) object_method_1_code (1 : Nat) (Option.none : Option Jvm.ClassFile.FieldType)).before args0 about1 = true := code_word (m := ⟨0, 0⟩) (meth := k0m0) (c := k0c0) (by decide +kernel) rfl rfl rfl (by decide +kernel)
set_option maxRecDepth 65536 in
theorem w_c5 : (Jvm.Cond.code ({ cls := "java/lang/StringUTF16", name := "compress", desc := "([CII)[B" } : Jvm.MethodName) jdk_52_method_16_code (6 : Nat) (Option.some (Jvm.ClassFile.FieldType.array Jvm.ClassFile.FieldType.byte))).before args0 about1 = true := code_word (m := ⟨8, 8⟩) (meth := k8m8) (c := k8c8) (by decide +kernel) rfl rfl rfl (by decide +kernel)
set_option maxRecDepth 65536 in
theorem w_c6 : (Jvm.Cond.code ({ cls := "java/lang/StringUTF16", name := "compress", desc := "([CI[BII)I" } : Jvm.MethodName) jdk_52_method_21_code (7 : Nat) (Option.some Jvm.ClassFile.FieldType.int)).before args0 about1 = true := code_word (m := ⟨8, 9⟩) (meth := k8m9) (c := k8c9) (by decide +kernel) rfl rfl rfl (by decide +kernel)
set_option maxRecDepth 65536 in
theorem w_c7 : (Jvm.Cond.code ({ cls := "java/lang/StringUTF16", name := "coderFromArrayLen", desc := "([BI)B" } : Jvm.MethodName) jdk_52_method_15_code (2 : Nat) (Option.some Jvm.ClassFile.FieldType.byte)).before args0 about1 = true := code_word (m := ⟨8, 7⟩) (meth := k8m7) (c := k8c7) (by decide +kernel) rfl rfl rfl (by decide +kernel)
set_option maxRecDepth 65536 in
theorem w_c8 : (Jvm.Cond.code ({ cls := "com/example/ratable/ratable/TextParserDigitsPinLaw", name := "fine", desc := "(CIII)Z" } : Jvm.MethodName) method_3_code (4 : Nat) (Option.some Jvm.ClassFile.FieldType.boolean)).before args0 about1 = true := code_word (m := ⟨1, 2⟩) (meth := k1m2) (c := k1c2) (by decide +kernel) rfl rfl rfl (by decide +kernel)
set_option maxRecDepth 65536 in
theorem w_c9 : (Jvm.Cond.code ({ cls := "com/example/ratable/ratable/TextParser", name := "digits", desc := "(Ljava/lang/String;II)Z" } : Jvm.MethodName) prog_27_method_4_code (4 : Nat) (Option.some Jvm.ClassFile.FieldType.boolean)).before args0 about1 = true := code_word (m := ⟨9, 0⟩) (meth := k9m0) (c := k9c0) (by decide +kernel) rfl rfl rfl (by decide +kernel)
set_option maxRecDepth 65536 in
theorem w_c10 : (Jvm.Cond.code ({ cls := "java/lang/String", name := "charAt", desc := "(I)C" } : Jvm.MethodName) jdk_42_method_56_code (2 : Nat) (Option.some Jvm.ClassFile.FieldType.char)).before args0 about1 = true := code_word (m := ⟨7, 2⟩) (meth := k7m2) (c := k7c2) (by decide +kernel) rfl rfl rfl (by decide +kernel)
set_option maxRecDepth 65536 in
theorem w_c11 : (Jvm.Cond.code ({ cls := "java/lang/String", name := "isLatin1", desc := "()Z" } : Jvm.MethodName) jdk_42_method_154_code (1 : Nat) (Option.some Jvm.ClassFile.FieldType.boolean)).before args0 about1 = true := code_word (m := ⟨7, 4⟩) (meth := k7m4) (c := k7c4) (by decide +kernel) rfl rfl rfl (by decide +kernel)
set_option maxRecDepth 65536 in
theorem w_c12 : (Jvm.Cond.code ({ cls := "java/lang/StringLatin1", name := "charAt", desc := "([BI)C" } : Jvm.MethodName) jdk_43_method_2_code (2 : Nat) (Option.some Jvm.ClassFile.FieldType.char)).before args0 about1 = true := code_word (m := ⟨10, 1⟩) (meth := k10m1) (c := k10c1) (by decide +kernel) rfl rfl rfl (by decide +kernel)
set_option maxRecDepth 65536 in
theorem w_c13 : (Jvm.Cond.code ({ cls := "java/lang/String", name := "checkIndex", desc := "(II)V" } : Jvm.MethodName) jdk_42_method_155_code (2 : Nat) (Option.none : Option Jvm.ClassFile.FieldType)).before args0 about1 = true := code_word (m := ⟨7, 5⟩) (meth := k7m5) (c := k7c5) (by decide +kernel) rfl rfl rfl (by decide +kernel)
set_option maxRecDepth 65536 in
theorem w_c14 : (Jvm.Cond.code ({ cls := "jdk/internal/util/Preconditions", name := "checkIndex", desc := "(IILjava/util/function/BiFunction;)I" } : Jvm.MethodName) jdk_41_method_11_code (3 : Nat) (Option.some Jvm.ClassFile.FieldType.int)).before args0 about1 = true := code_word (m := ⟨11, 1⟩) (meth := k11m1) (c := k11c1) (by decide +kernel) rfl rfl rfl (by decide +kernel)
set_option maxRecDepth 65536 in
theorem w_c15 : (Jvm.Cond.code ({ cls := "java/lang/StringUTF16", name := "toBytes", desc := "([CII)[B" } : Jvm.MethodName) jdk_52_method_14_code (5 : Nat) (Option.some (Jvm.ClassFile.FieldType.array Jvm.ClassFile.FieldType.byte))).before args0 about1 = true := code_word (m := ⟨8, 6⟩) (meth := k8m6) (c := k8c6) (by decide +kernel) rfl rfl rfl (by decide +kernel)
set_option maxRecDepth 65536 in
theorem w_c16 : (Jvm.Cond.code ({ cls := "java/lang/StringUTF16", name := "newBytesFor", desc := "(I)[B" } : Jvm.MethodName) jdk_52_method_2_code (1 : Nat) (Option.some (Jvm.ClassFile.FieldType.array Jvm.ClassFile.FieldType.byte))).before args0 about1 = true := code_word (m := ⟨8, 1⟩) (meth := k8m1) (c := k8c1) (by decide +kernel) rfl rfl rfl (by decide +kernel)
set_option maxRecDepth 65536 in
theorem w_c17 : (Jvm.Cond.code ({ cls := "java/lang/StringUTF16", name := "newBytesLength", desc := "(I)I" } : Jvm.MethodName) jdk_52_method_3_code (1 : Nat) (Option.some Jvm.ClassFile.FieldType.int)).before args0 about1 = true := code_word (m := ⟨8, 2⟩) (meth := k8m2) (c := k8c2) (by decide +kernel) rfl rfl rfl (by decide +kernel)
set_option maxRecDepth 65536 in
theorem w_c18 : (Jvm.Cond.code ({ cls := "java/lang/StringUTF16", name := "putChar", desc := "([BII)V" } : Jvm.MethodName) jdk_52_method_4_code (3 : Nat) (Option.none : Option Jvm.ClassFile.FieldType)).before args0 about1 = true := code_word (m := ⟨8, 3⟩) (meth := k8m3) (c := k8c3) (by decide +kernel) rfl rfl rfl (by decide +kernel)
set_option maxRecDepth 65536 in
theorem w_c19 : (Jvm.Cond.code ({ cls := "java/lang/StringUTF16", name := "getChar", desc := "([BI)C" } : Jvm.MethodName) jdk_52_method_5_code (2 : Nat) (Option.some Jvm.ClassFile.FieldType.char)).before args0 about1 = true := code_word (m := ⟨8, 4⟩) (meth := k8m4) (c := k8c4) (by decide +kernel) rfl rfl rfl (by decide +kernel)
set_option maxRecDepth 65536 in
theorem w_c20 : (Jvm.Cond.code ({ cls := "java/lang/StringUTF16", name := "charAt", desc := "([BI)C" } : Jvm.MethodName) jdk_52_method_83_code (2 : Nat) (Option.some Jvm.ClassFile.FieldType.char)).before args0 about1 = true := code_word (m := ⟨8, 10⟩) (meth := k8m10) (c := k8c10) (by decide +kernel) rfl rfl rfl (by decide +kernel)
set_option maxRecDepth 65536 in
theorem w_c21 : (Jvm.Cond.code ({ cls := "java/lang/StringUTF16", name := "checkIndex", desc := "(I[B)V" } : Jvm.MethodName) jdk_52_method_91_code (2 : Nat) (Option.none : Option Jvm.ClassFile.FieldType)).before args0 about1 = true := code_word (m := ⟨8, 11⟩) (meth := k8m11) (c := k8c11) (by decide +kernel) rfl rfl rfl (by decide +kernel)
set_option maxRecDepth 65536 in
theorem w_c22 : (Jvm.Cond.code ({ cls := "java/lang/StringUTF16", name := "length", desc := "([B)I" } : Jvm.MethodName) jdk_52_method_6_code (1 : Nat) (Option.some Jvm.ClassFile.FieldType.int)).before args0 about1 = true := code_word (m := ⟨8, 5⟩) (meth := k8m5) (c := k8c5) (by decide +kernel) rfl rfl rfl (by decide +kernel)
def codes1 : List Jvm.Cond := [Jvm.Cond.code x code maxLocals ret, Jvm.Cond.code ({ cls := "com/example/ratable/ratable/TextParserDigitsPinLaw", name := "pick", desc := "(I)C" } : Jvm.MethodName) method_2_code (1 : Nat) (Option.some Jvm.ClassFile.FieldType.char), Jvm.Cond.code ({ cls := "java/lang/String", name := "<init>", desc := "([C)V" } : Jvm.MethodName) jdk_42_method_3_code (2 : Nat) (Option.none : Option Jvm.ClassFile.FieldType), Jvm.Cond.code ({ cls := "java/lang/String", name := "<init>", desc := "([CIILjava/lang/Void;)V" } : Jvm.MethodName) jdk_42_method_149_code (6 : Nat) (Option.none : Option Jvm.ClassFile.FieldType), Jvm.Cond.code ({ cls := "java/lang/Object", name := "<init>", desc := "()V" } : Jvm.MethodName) object_method_1_code (1 : Nat) (Option.none : Option Jvm.ClassFile.FieldType), Jvm.Cond.code ({ cls := "java/lang/StringUTF16", name := "compress", desc := "([CII)[B" } : Jvm.MethodName) jdk_52_method_16_code (6 : Nat) (Option.some (Jvm.ClassFile.FieldType.array Jvm.ClassFile.FieldType.byte)), Jvm.Cond.code ({ cls := "java/lang/StringUTF16", name := "compress", desc := "([CI[BII)I" } : Jvm.MethodName) jdk_52_method_21_code (7 : Nat) (Option.some Jvm.ClassFile.FieldType.int), Jvm.Cond.code ({ cls := "java/lang/StringUTF16", name := "coderFromArrayLen", desc := "([BI)B" } : Jvm.MethodName) jdk_52_method_15_code (2 : Nat) (Option.some Jvm.ClassFile.FieldType.byte), Jvm.Cond.code ({ cls := "com/example/ratable/ratable/TextParserDigitsPinLaw", name := "fine", desc := "(CIII)Z" } : Jvm.MethodName) method_3_code (4 : Nat) (Option.some Jvm.ClassFile.FieldType.boolean), Jvm.Cond.code ({ cls := "com/example/ratable/ratable/TextParser", name := "digits", desc := "(Ljava/lang/String;II)Z" } : Jvm.MethodName) prog_27_method_4_code (4 : Nat) (Option.some Jvm.ClassFile.FieldType.boolean), Jvm.Cond.code ({ cls := "java/lang/String", name := "charAt", desc := "(I)C" } : Jvm.MethodName) jdk_42_method_56_code (2 : Nat) (Option.some Jvm.ClassFile.FieldType.char), Jvm.Cond.code ({ cls := "java/lang/String", name := "isLatin1", desc := "()Z" } : Jvm.MethodName) jdk_42_method_154_code (1 : Nat) (Option.some Jvm.ClassFile.FieldType.boolean), Jvm.Cond.code ({ cls := "java/lang/StringLatin1", name := "charAt", desc := "([BI)C" } : Jvm.MethodName) jdk_43_method_2_code (2 : Nat) (Option.some Jvm.ClassFile.FieldType.char), Jvm.Cond.code ({ cls := "java/lang/String", name := "checkIndex", desc := "(II)V" } : Jvm.MethodName) jdk_42_method_155_code (2 : Nat) (Option.none : Option Jvm.ClassFile.FieldType), Jvm.Cond.code ({ cls := "jdk/internal/util/Preconditions", name := "checkIndex", desc := "(IILjava/util/function/BiFunction;)I" } : Jvm.MethodName) jdk_41_method_11_code (3 : Nat) (Option.some Jvm.ClassFile.FieldType.int), Jvm.Cond.code ({ cls := "java/lang/StringUTF16", name := "toBytes", desc := "([CII)[B" } : Jvm.MethodName) jdk_52_method_14_code (5 : Nat) (Option.some (Jvm.ClassFile.FieldType.array Jvm.ClassFile.FieldType.byte)), Jvm.Cond.code ({ cls := "java/lang/StringUTF16", name := "newBytesFor", desc := "(I)[B" } : Jvm.MethodName) jdk_52_method_2_code (1 : Nat) (Option.some (Jvm.ClassFile.FieldType.array Jvm.ClassFile.FieldType.byte)), Jvm.Cond.code ({ cls := "java/lang/StringUTF16", name := "newBytesLength", desc := "(I)I" } : Jvm.MethodName) jdk_52_method_3_code (1 : Nat) (Option.some Jvm.ClassFile.FieldType.int), Jvm.Cond.code ({ cls := "java/lang/StringUTF16", name := "putChar", desc := "([BII)V" } : Jvm.MethodName) jdk_52_method_4_code (3 : Nat) (Option.none : Option Jvm.ClassFile.FieldType), Jvm.Cond.code ({ cls := "java/lang/StringUTF16", name := "getChar", desc := "([BI)C" } : Jvm.MethodName) jdk_52_method_5_code (2 : Nat) (Option.some Jvm.ClassFile.FieldType.char), Jvm.Cond.code ({ cls := "java/lang/StringUTF16", name := "charAt", desc := "([BI)C" } : Jvm.MethodName) jdk_52_method_83_code (2 : Nat) (Option.some Jvm.ClassFile.FieldType.char), Jvm.Cond.code ({ cls := "java/lang/StringUTF16", name := "checkIndex", desc := "(I[B)V" } : Jvm.MethodName) jdk_52_method_91_code (2 : Nat) (Option.none : Option Jvm.ClassFile.FieldType), Jvm.Cond.code ({ cls := "java/lang/StringUTF16", name := "length", desc := "([B)I" } : Jvm.MethodName) jdk_52_method_6_code (1 : Nat) (Option.some Jvm.ClassFile.FieldType.int)]
set_option maxRecDepth 65536 in
theorem codes_eq : words1.filter isCode = codes1 := rfl
theorem w_codes : ∀ c ∈ words1.filter isCode, c.before args0 about1 = true := by
  rw [codes_eq]
  intro c hc
  simp only [codes1, List.mem_cons, List.not_mem_nil, or_false] at hc
  rcases hc with rfl | rfl | rfl | rfl | rfl | rfl | rfl | rfl | rfl | rfl | rfl | rfl | rfl | rfl | rfl | rfl | rfl | rfl | rfl | rfl | rfl | rfl | rfl
  · exact w_c0
  · exact w_c1
  · exact w_c2
  · exact w_c3
  · exact w_c4
  · exact w_c5
  · exact w_c6
  · exact w_c7
  · exact w_c8
  · exact w_c9
  · exact w_c10
  · exact w_c11
  · exact w_c12
  · exact w_c13
  · exact w_c14
  · exact w_c15
  · exact w_c16
  · exact w_c17
  · exact w_c18
  · exact w_c19
  · exact w_c20
  · exact w_c21
  · exact w_c22
set_option maxRecDepth 65536 in
theorem w_t1 : (words1.take 24).all (fun c => isCode c || c.before args0 about1) = true := by decide +kernel
set_option maxRecDepth 65536 in
theorem w_t2 : ((words1.drop 24).take 24).all (fun c => isCode c || c.before args0 about1) = true := by decide +kernel
set_option maxRecDepth 65536 in
theorem w_t3 : (((words1.drop 24).drop 24).take 24).all (fun c => isCode c || c.before args0 about1) = true := by decide +kernel
set_option maxRecDepth 65536 in
theorem w_t4 : (((words1.drop 24).drop 24).drop 24).all (fun c => isCode c || c.before args0 about1) = true := by decide +kernel
theorem w_tables : (allAtoms (Jvm.Cond.code x code maxLocals ret :: tables_1)).before args0 about1 = true := by
  rw [allAtoms_all]
  show words1.all (fun c => c.before args0 about1) = true
  refine all_split ?_ w_codes
  rw [← List.take_append_drop 24 words1, List.all_append, w_t1, ← List.take_append_drop 24 (words1.drop 24), List.all_append, w_t2, ← List.take_append_drop 24 ((words1.drop 24).drop 24), List.all_append, w_t3, w_t4]
  rfl
set_option maxRecDepth 65536 in
theorem w_rest : rest_1_c.before args0 about1 = true := by decide +kernel
set_option maxRecDepth 65536 in
theorem w_case : (Jvm.Cond.and given_1 narrow_1).before args0 about1 = true := by decide +kernel
theorem w_applies : (headSpec (Jvm.Cond.code x code maxLocals ret :: tables_1) room_1).applies x e0.platform about1 = true :=
  (Spec.applies_iff w_frames).mpr ⟨w_running, w_runnable, w_alone, w_named, w_hears, w_ripe, w_room, w_tables⟩
theorem atStart : AtStart classFile x code maxLocals ret World_1 tables_1 room_1 Calls_1 rest_1 Pre_1 launch0 p0 e0 about1 theMethod args0 below0 :=
  ⟨lists_1, trivial, launch0.admits_env _ _ _, launch0.least_env, fairChoices_fair.cas, fairChoices_fair.clock, w_frames, w_args, w_heap, w_applies, trivial, w_rest, w_case⟩
end start1
theorem witness_1 : WitnessClaimed_1 := ⟨start1.p0, start1.e0, start1.about1, start1.theMethod, start1.args0, start1.below0, start1.atStart⟩
end Jvm.Pilot.@@N@@
