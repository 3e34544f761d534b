import JvmDerived
import JvmDerived.Pilot.@@N@@Statement
import JvmDerived.Pilot.@@N@@Code
set_option linter.unusedVariables false
set_option linter.unusedSimpArgs false
namespace Jvm.Pilot.@@N@@
open Jvm Jvm.ClassFile Sem Op Lib Jvm.Free Jvm.Stand Jvm.LawKit Jvm.RoadKit Bundle Jvm.Pilot.@@N@@.Jvm.D
/-! what is left of a run (own_Dn) and the steps towards it: a walk goes FORWARD, goal by goal, and may fork anywhere -/
section Own
variable {p : Program} {l : Launch} {e : Env} {R : Room} {s : State} {m : MethodId} {args : Array Value} {below : List Frame} {meth : Method} {c : Code} {T : State} {locs : List Loc} {cells slots : Nat} {Z : State} {a0 : Array Value} {h : Heap}
def own_Dn (p : Program) (e : Env) (below : List Frame) (G : State → Outcome → Prop) (A : State) : Prop :=
  ∃ s₂ o, Steps p.tables e below A s₂ ∧ s₂.status = .running ∧ Ended s₂ below o ∧ G s₂ o
abbrev own_Ret (s : State) (Q : Option Value → Heap → List Loc → Prop) (k n : Nat) : State → Outcome → Prop :=
  fun s₂ o => ∃ v L, o = .returned v ∧ Q v s₂.heap L ∧ FrameEnd s o s₂ L k n
theorem own_st {G : State → Outcome → Prop} {A B : State} (k : ∀ t, Steps p.tables e below B t → Steps p.tables e below A t) (d : own_Dn p e below G B) : own_Dn p e below G A := by
  obtain ⟨n, o, h1, h2⟩ := d
  exact ⟨n, o, k n h1, h2⟩
theorem own_to {G : State → Outcome → Prop} {A B : State} (k : Steps p.tables e below A B) (d : own_Dn p e below G B) : own_Dn p e below G A := by
  obtain ⟨n, o, h1, h2⟩ := d
  exact ⟨n, o, k.trans h1, h2⟩
theorem own_ret {Q : Option Value → Heap → List Loc → Prop} {v : Option Value} {k n : Nat} {g : JFrame} (X : Stand p l e R s m args below meth c T locs cells slots) (hlk : meth.locks = false) (hv : meth.sig.returnType = none → v = none)
    (hstep : ∀ fs, (∀ (f : JFrame) (acts : List Action), f.method = m → f.locked = none → f.entered = [] → (doReturn e (T.setTop f) acts v).1 = T.setFrames fs) → Steps p.tables e below (T.setTop g) (T.setFrames fs))
    (hQ : Q v T.heap locs) (hk : cells ≤ k) (hn : slots ≤ n) : own_Dn p e below (own_Ret s Q k n) (T.setTop g) := by
  obtain ⟨fs, hr, hrun, hended, hW, hsame⟩ := X.leave (v := v) hv hlk
  exact ⟨_, _, hstep fs hr, hrun, hended, v, locs, rfl, hQ, ⟨_, rfl⟩, hW, hsame.mono hk hn⟩
/-- a return of nothing -/
theorem own_retV {Q : Option Value → Heap → List Loc → Prop} {k n pc : Nat} {Ls : Array Slot} (X : Stand p l e R s m args below meth c T locs cells slots) (hx : p.tables.exec = Jvm.exec) (hlk : meth.locks = false) (hret : meth.sig.returnType = none)
    (hd : decode c.code pc = .ok (.return_, 1)) (hQ : Q none T.heap locs) (hk : cells ≤ k) (hn : slots ≤ n) : own_Dn p e below (own_Ret s Q k n) (T.setTop (mkF m pc Ls [])) :=
  own_ret X hlk (fun _ => rfl) (fun _ hr => X.returnOut hx hret hd hr) hQ hk hn
/-- a return of a value of the return type's kind -/
theorem own_retW {Q : Option Value → Heap → List Loc → Prop} {k n pc : Nat} {Ls : Array Slot} {w : Value} {t : FieldType} {i : Instr} {rest : List Value} (X : Stand p l e R s m args below meth c T locs cells slots) (hx : p.tables.exec = Jvm.exec) (hlk : meth.locks = false)
    (hret : meth.sig.returnType = some t) (hnr : narrow t w = w)
    (hi : (i = .ireturn ∧ (t = .int ∨ t = .boolean ∨ t = .byte ∨ t = .char ∨ t = .short) ∧ ∃ z, w = .int z) ∨ (i = .lreturn ∧ t = .long ∧ ∃ z, w = .long z) ∨ (i = .dreturn ∧ t = .double ∧ ∃ z, w = .double z) ∨ (i = .freturn ∧ t = .float ∧ ∃ z, w = .float z) ∨ (i = .areturn ∧ t.isReference = true ∧ w.isRef = true))
    (hd : decode c.code pc = .ok (i, 1)) (hQ : Q (some w) T.heap locs) (hk : cells ≤ k) (hn : slots ≤ n) : own_Dn p e below (own_Ret s Q k n) (T.setTop (mkF m pc Ls (w :: rest))) :=
  own_ret X hlk (fun h => by rw [hret] at h; cases h) (fun _ hr => retOut X hx hret hnr hi hd hr) hQ hk hn
theorem own_retI {Q : Option Value → Heap → List Loc → Prop} {k n pc : Nat} {Ls : Array Slot} {z : Int32} {rest : List Value} (X : Stand p l e R s m args below meth c T locs cells slots) (hx : p.tables.exec = Jvm.exec) (hlk : meth.locks = false)
    (hret : meth.sig.returnType = some .int) (hd : decode c.code pc = .ok (.ireturn, 1)) (hQ : Q (some (.int z)) T.heap locs) (hk : cells ≤ k) (hn : slots ≤ n) : own_Dn p e below (own_Ret s Q k n) (T.setTop (mkF m pc Ls (.int z :: rest))) :=
  own_retW X hx hlk hret rfl (Or.inl ⟨rfl, Or.inl rfl, z, rfl⟩) hd hQ hk hn
theorem own_retJ {Q : Option Value → Heap → List Loc → Prop} {k n pc : Nat} {Ls : Array Slot} {z : Int64} {rest : List Value} (X : Stand p l e R s m args below meth c T locs cells slots) (hx : p.tables.exec = Jvm.exec) (hlk : meth.locks = false)
    (hret : meth.sig.returnType = some .long) (hd : decode c.code pc = .ok (.lreturn, 1)) (hQ : Q (some (.long z)) T.heap locs) (hk : cells ≤ k) (hn : slots ≤ n) : own_Dn p e below (own_Ret s Q k n) (T.setTop (mkF m pc Ls (.long z :: rest))) :=
  own_retW X hx hlk hret rfl (Or.inr (Or.inl ⟨rfl, rfl, z, rfl⟩)) hd hQ hk hn
theorem own_retA {Q : Option Value → Heap → List Loc → Prop} {k n pc : Nat} {Ls : Array Slot} {a : Addr} {t : FieldType} {rest : List Value} (X : Stand p l e R s m args below meth c T locs cells slots) (hx : p.tables.exec = Jvm.exec) (hlk : meth.locks = false)
    (hret : meth.sig.returnType = some t) (ht : t.isReference = true) (hd : decode c.code pc = .ok (.areturn, 1)) (hQ : Q (some (.ref a)) T.heap locs) (hk : cells ≤ k) (hn : slots ≤ n) : own_Dn p e below (own_Ret s Q k n) (T.setTop (mkF m pc Ls (.ref a :: rest))) :=
  own_retW X hx hlk hret (by cases t <;> first | rfl | (simp [FieldType.isReference] at ht)) (Or.inr (Or.inr (Or.inr (Or.inr ⟨rfl, ht, rfl⟩)))) hd hQ hk hn
/-- a boolean, byte, char or short -/
theorem own_retN {Q : Option Value → Heap → List Loc → Prop} {k n pc : Nat} {Ls : Array Slot} {z : Int32} {t : FieldType} {rest : List Value} (X : Stand p l e R s m args below meth c T locs cells slots) (hx : p.tables.exec = Jvm.exec) (hlk : meth.locks = false)
    (hret : meth.sig.returnType = some t) (ht : t = .boolean ∨ t = .byte ∨ t = .char ∨ t = .short) (hd : decode c.code pc = .ok (.ireturn, 1)) (hQ : Q (some (.int (nar t z))) T.heap locs) (hk : cells ≤ k) (hn : slots ≤ n) : own_Dn p e below (own_Ret s Q k n) (T.setTop (mkF m pc Ls (.int z :: rest))) :=
  own_ret X hlk (fun h => by rw [hret] at h; cases h) (fun _ hr => retN X hx hret ht hd hr) hQ hk hn
/-- a static call by the callee's contract -/
theorem own_callS {rm : Room} {W : Nat} {as' : Array Value} {Q : Option Value → Heap → List Loc → Prop} {own : String} {index : Nat} {y : MethodName} {bytes : ByteArray} {maxL : Nat} {ret : Option FieldType} (X : Stand p l e R s m args below meth c T locs cells slots) (hx : p.tables.exec = Jvm.exec) (hZ : Z.Warmed39 s.vm)
    (hown : s.vm.findClass own = some m.cls) (w1 : (Cond.methodLink own index y).before a0 Z = true) (w2 : (Cond.static y).before a0 Z = true) (w3 : (Cond.initialized y.cls).before a0 Z = true) (w4 : (Cond.code y bytes maxL ret).before a0 Z = true) (hy : y.cls ≠ "java/lang/invoke/MethodHandle" ∧ y.cls ≠ "java/lang/invoke/VarHandle")
    (eT : T.heap = h) (hM : MetFree l y (head1 [Cond.code y bytes maxL ret] rm) (fun a U => a = as' ∧ Z.Warmed39 U.vm ∧ U.heap = h) (fun _ _ _ _ _ => True) (fun _ U o U' => ∃ v L, o = .returned v ∧ Q v U'.heap L ∧ FrameEnd U o U' L rm.cells rm.slots))
    {g : JFrame} (hg : g.method = m) (hsize : g.locals.size = c.maxLocals) {argsL rest : List Value} (hlen : ∀ sig, parseMethodDescriptor y.desc = some sig → argsL.length = sig.parameters.length) (hstack : g.stack = argsL.reverse ++ rest) (has : argsL.toArray = as') (hW : 2 * g.monitorRoom + (rest.map fun v => v.category).sum ≤ W)
    (hdg : decode c.code g.pc = .ok (.invokestatic index, 3)) (hf : rm.frames + 1 ≤ R.frames) (hl : W + (maxL + 11) + rm.locals ≤ R.locals) (hc : cells + rm.cells ≤ R.cells) (hsl : slots + rm.slots ≤ R.slots) :
    ∃ v T' L, Stand p l e R s m args below meth c T' (locs ++ L) (cells + rm.cells) (slots + rm.slots) ∧ Q v T'.heap L ∧
      ∀ t, Steps p.tables e below (T'.setTop { g with pc := g.pc + 3, stack := v.toList ++ rest }) t → Steps p.tables e below (T.setTop g) t := by
  obtain ⟨v, _, ⟨T', L, k', n'⟩, -, X', ⟨Lc, hQ, l1, l2, l3⟩, st⟩ := Jvm.LawKit.callS X hx hown (mvT hZ w1) (mvT hZ w2) (mvT hZ w3) (mvT hZ w4) hy (backOf (W := W) hM hZ w4 w3 hf hl) hg hsize hlen hstack hW hdg (fun _ _ => ⟨has, eT, hc, hsl⟩)
  dsimp only [Pt.U, Pt.locs, Pt.cells, Pt.slots] at X' l1 l2 l3 st hQ
  subst l1 l2 l3
  exact ⟨v, T', Lc, X', hQ, st⟩
/-- a constructor by its contract -/
theorem own_callN {rm : Room} {W : Nat} {as' : Array Value} {Q : Option Value → Heap → List Loc → Prop} {own : String} {index : Nat} {y : MethodName} {bytes : ByteArray} {maxL : Nat} (X : Stand p l e R s m args below meth c T locs cells slots) (hx : p.tables.exec = Jvm.exec) (hZ : Z.Warmed39 s.vm) (hy1 : y.name = "<init>")
    (hown : s.vm.findClass own = some m.cls) (w1 : (Cond.methodLink own index y).before a0 Z = true) (w2 : (Cond.instanceMethod y).before a0 Z = true) (w3 : (Cond.initialized y.cls).before a0 Z = true) (w4 : (Cond.code y bytes maxL none).before a0 Z = true) (hy : y.cls ≠ "java/lang/invoke/MethodHandle" ∧ y.cls ≠ "java/lang/invoke/VarHandle")
    (eT : T.heap = h) (hM : MetFree l y (head1 [Cond.code y bytes maxL none] rm) (fun a U => a = as' ∧ Z.Warmed39 U.vm ∧ U.heap = h) (fun _ _ _ _ _ => True) (fun _ U o U' => ∃ v L, o = .returned v ∧ Q v U'.heap L ∧ FrameEnd U o U' L rm.cells rm.slots))
    {g : JFrame} (hg : g.method = m) (hsize : g.locals.size = c.maxLocals) {a : Addr} {argsL rest : List Value} (hlen : ∀ sig, parseMethodDescriptor y.desc = some sig → argsL.length = sig.parameters.length) (hstack : g.stack = argsL.reverse ++ .ref a :: rest) (has : (.ref a :: argsL).toArray = as') (hW : 2 * g.monitorRoom + (rest.map fun v => v.category).sum ≤ W)
    (hdg : decode c.code g.pc = .ok (.invokespecial index, 3)) (hf : rm.frames + 1 ≤ R.frames) (hl : W + (maxL + 11) + rm.locals ≤ R.locals) (hc : cells + rm.cells ≤ R.cells) (hsl : slots + rm.slots ≤ R.slots) :
    ∃ v T' L, Stand p l e R s m args below meth c T' (locs ++ L) (cells + rm.cells) (slots + rm.slots) ∧ Q v T'.heap L ∧
      ∀ t, Steps p.tables e below (T'.setTop { g with pc := g.pc + 3, stack := v.toList ++ rest }) t → Steps p.tables e below (T.setTop g) t := by
  obtain ⟨v, _, ⟨T', L, k', n'⟩, -, X', ⟨Lc, hQ, l1, l2, l3⟩, st⟩ := X.specialBack hx hy1 hown (mvT hZ w1) (mvT hZ w2) (mvT hZ w4) hy (backOf (W := W) hM hZ w4 w3 hf hl) hg hsize (Steps.refl _) hlen hstack hW hdg (fun _ _ => ⟨has, eT, hc, hsl⟩)
  dsimp only [Pt.U, Pt.locs, Pt.cells, Pt.slots] at X' l1 l2 l3 st hQ
  subst l1 l2 l3
  exact ⟨v, T', Lc, X', hQ, fun t k => st.trans k⟩
/-- a constructor by a payer that is at hand -/
theorem own_callNK {mc ms W : Nat} {as' : Array Value} {Q : Option Value → Heap → List Loc → Prop} {own : String} {index : Nat} {y : MethodName} {bytes : ByteArray} {maxL : Nat} (X : Stand p l e R s m args below meth c T locs cells slots) (hx : p.tables.exec = Jvm.exec) (hZ : Z.Warmed39 s.vm) (hy1 : y.name = "<init>")
    (hown : s.vm.findClass own = some m.cls) (w1 : (Cond.methodLink own index y).before a0 Z = true) (w2 : (Cond.instanceMethod y).before a0 Z = true) (w4 : (Cond.code y bytes maxL none).before a0 Z = true) (hy : y.cls ≠ "java/lang/invoke/MethodHandle" ∧ y.cls ≠ "java/lang/invoke/VarHandle")
    (eT : T.heap = h) (hK : Back l R p e below s args y 3 W (fun A a => a = as' ∧ A.U.heap = h ∧ A.cells + mc ≤ R.cells ∧ A.slots + ms ≤ R.slots) (fun A _ v B => ∃ L, Q v B.U.heap L ∧ B.locs = A.locs ++ L ∧ B.cells = A.cells + mc ∧ B.slots = A.slots + ms))
    {g : JFrame} (hg : g.method = m) (hsize : g.locals.size = c.maxLocals) {a : Addr} {argsL rest : List Value} (hlen : ∀ sig, parseMethodDescriptor y.desc = some sig → argsL.length = sig.parameters.length) (hstack : g.stack = argsL.reverse ++ .ref a :: rest) (has : (.ref a :: argsL).toArray = as') (hW : 2 * g.monitorRoom + (rest.map fun v => v.category).sum ≤ W)
    (hdg : decode c.code g.pc = .ok (.invokespecial index, 3)) (hc : cells + mc ≤ R.cells) (hsl : slots + ms ≤ R.slots) :
    ∃ v T' L, Stand p l e R s m args below meth c T' (locs ++ L) (cells + mc) (slots + ms) ∧ Q v T'.heap L ∧
      ∀ t, Steps p.tables e below (T'.setTop { g with pc := g.pc + 3, stack := v.toList ++ rest }) t → Steps p.tables e below (T.setTop g) t := by
  obtain ⟨v, _, ⟨T', L, k', n'⟩, -, X', ⟨Lc, hQ, l1, l2, l3⟩, st⟩ := X.specialBack hx hy1 hown (mvT hZ w1) (mvT hZ w2) (mvT hZ w4) hy hK hg hsize (Steps.refl _) hlen hstack hW hdg (fun _ _ => ⟨has, eT, hc, hsl⟩)
  dsimp only [Pt.U, Pt.locs, Pt.cells, Pt.slots] at X' l1 l2 l3 st hQ
  subst l1 l2 l3
  exact ⟨v, T', Lc, X', hQ, fun t k => st.trans k⟩
/-- a virtual call by the contract of the method that is selected (declared by a class, the receiver exactly of the class C) -/
theorem own_callV {rm : Room} {W : Nat} {as' : Array Value} {Q : Option Value → Heap → List Loc → Prop} {own C : String} {index : Nat} {y z : MethodName} {bytes : ByteArray} {maxL : Nat} {ret : Option FieldType} (X : Stand p l e R s m args below meth c T locs cells slots) (hx : p.tables.exec = Jvm.exec) (hZ : Z.Warmed39 s.vm)
    (hown : s.vm.findClass own = some m.cls) (w1 : (Cond.methodLink own index y).before a0 Z = true) (w2 : (Cond.declares y).before a0 Z = true) (hnf : NotFace s y) (w5 : (Cond.selects C y z).before a0 Z = true) (w6 : (Cond.instanceMethod z).before a0 Z = true) (w3 : (Cond.initialized z.cls).before a0 Z = true) (w4 : (Cond.code z bytes maxL ret).before a0 Z = true) (hy : y.cls ≠ "java/lang/invoke/MethodHandle" ∧ y.cls ≠ "java/lang/invoke/VarHandle")
    (eT : T.heap = h) (hM : MetFree l z (head1 [Cond.code z bytes maxL ret] rm) (fun a U => a = as' ∧ Z.Warmed39 U.vm ∧ U.heap = h) (fun _ _ _ _ _ => True) (fun _ U o U' => ∃ v L, o = .returned v ∧ Q v U'.heap L ∧ FrameEnd U o U' L rm.cells rm.slots))
    {a : Addr} (E : Exa Z h a C) {g : JFrame} (hg : g.method = m) (hsize : g.locals.size = c.maxLocals) {argsL rest : List Value} (hlen : ∀ sig, parseMethodDescriptor y.desc = some sig → argsL.length = sig.parameters.length) (hstack : g.stack = argsL.reverse ++ .ref a :: rest) (has : (.ref a :: argsL).toArray = as') (hW : 2 * g.monitorRoom + (rest.map fun v => v.category).sum ≤ W)
    (hdg : decode c.code g.pc = .ok (.invokevirtual index, 3)) (hf : rm.frames + 1 ≤ R.frames) (hl : W + (maxL + 11) + rm.locals ≤ R.locals) (hc : cells + rm.cells ≤ R.cells) (hsl : slots + rm.slots ≤ R.slots) :
    ∃ v T' L, Stand p l e R s m args below meth c T' (locs ++ L) (cells + rm.cells) (slots + rm.slots) ∧ Q v T'.heap L ∧
      ∀ t, Steps p.tables e below (T'.setTop { g with pc := g.pc + 3, stack := v.toList ++ rest }) t → Steps p.tables e below (T.setTop g) t := by
  obtain ⟨cq, kq, qa, qb, qc⟩ := isOf hZ eT E
  obtain ⟨v, _, ⟨T', L, k', n'⟩, -, X', ⟨Lc, hQ, l1, l2, l3⟩, st⟩ := X.virtualBack hx hown (mvT hZ w1) (mvT hZ w2) hnf (mvT hZ w5) (mvT hZ w6) hy (backOf (W := W) hM hZ w4 w3 hf hl) qa qc hg hsize (Steps.refl _) hlen hstack hW hdg (fun _ _ => ⟨has, eT, hc, hsl⟩)
  dsimp only [Pt.U, Pt.locs, Pt.cells, Pt.slots] at X' l1 l2 l3 st hQ
  subst l1 l2 l3
  exact ⟨v, T', Lc, X', hQ, fun t k => st.trans k⟩
/-- a virtual call of a method that the named class inherits from 'owner' -/
theorem own_callU {rm : Room} {W : Nat} {as' : Array Value} {Q : Option Value → Heap → List Loc → Prop} {own C owner : String} {index : Nat} {y z : MethodName} {bytes : ByteArray} {maxL : Nat} {ret : Option FieldType} (X : Stand p l e R s m args below meth c T locs cells slots) (hx : p.tables.exec = Jvm.exec) (hZ : Z.Warmed39 s.vm)
    (hown : s.vm.findClass own = some m.cls) (w1 : (Cond.methodLink own index y).before a0 Z = true) (w2 : (Cond.sameMethod y.cls owner y.name y.desc).before a0 Z = true) (w7 : (Cond.declares ⟨owner, y.name, y.desc⟩).before a0 Z = true) (ho : owner ≠ "java/lang/invoke/MethodHandle" ∧ owner ≠ "java/lang/invoke/VarHandle") (w5 : (Cond.selects C y z).before a0 Z = true) (w6 : (Cond.instanceMethod z).before a0 Z = true) (w3 : (Cond.initialized z.cls).before a0 Z = true) (w4 : (Cond.code z bytes maxL ret).before a0 Z = true)
    (eT : T.heap = h) (hM : MetFree l z (head1 [Cond.code z bytes maxL ret] rm) (fun a U => a = as' ∧ Z.Warmed39 U.vm ∧ U.heap = h) (fun _ _ _ _ _ => True) (fun _ U o U' => ∃ v L, o = .returned v ∧ Q v U'.heap L ∧ FrameEnd U o U' L rm.cells rm.slots))
    {a : Addr} (E : Exa Z h a C) {g : JFrame} (hg : g.method = m) (hsize : g.locals.size = c.maxLocals) {argsL rest : List Value} (hlen : ∀ sig, parseMethodDescriptor y.desc = some sig → argsL.length = sig.parameters.length) (hstack : g.stack = argsL.reverse ++ .ref a :: rest) (has : (.ref a :: argsL).toArray = as') (hW : 2 * g.monitorRoom + (rest.map fun v => v.category).sum ≤ W)
    (hdg : decode c.code g.pc = .ok (.invokevirtual index, 3)) (hf : rm.frames + 1 ≤ R.frames) (hl : W + (maxL + 11) + rm.locals ≤ R.locals) (hc : cells + rm.cells ≤ R.cells) (hsl : slots + rm.slots ≤ R.slots) :
    ∃ v T' L, Stand p l e R s m args below meth c T' (locs ++ L) (cells + rm.cells) (slots + rm.slots) ∧ Q v T'.heap L ∧
      ∀ t, Steps p.tables e below (T'.setTop { g with pc := g.pc + 3, stack := v.toList ++ rest }) t → Steps p.tables e below (T.setTop g) t := by
  obtain ⟨cq, kq, qa, qb, qc⟩ := isOf hZ eT E
  obtain ⟨v, _, ⟨T', L, k', n'⟩, -, X', ⟨Lc, hQ, l1, l2, l3⟩, st⟩ := X.virtualBackUp hx hown (mvT hZ w1) (mvT hZ w2) (mvT hZ w7) ho (mvT hZ w5) (mvT hZ w6) (backOf (W := W) hM hZ w4 w3 hf hl) qa qc hg hsize (Steps.refl _) hlen hstack hW hdg (fun _ _ => ⟨has, eT, hc, hsl⟩)
  dsimp only [Pt.U, Pt.locs, Pt.cells, Pt.slots] at X' l1 l2 l3 st hQ
  subst l1 l2 l3
  exact ⟨v, T', Lc, X', hQ, fun t k => st.trans k⟩
theorem own_lrem {g : JFrame} {target : State} (X : Stand p l e R s m args below meth c T locs cells slots) (hx : p.tables.exec = Jvm.exec) (hg : g.method = m) {x y : Int64} {rest : List Value} (hd : decode c.code g.pc = .ok (.lrem, 1)) (hs : g.stack = .long y :: .long x :: rest) (hy : y ≠ 0)
    (hr : Steps p.tables e below (T.setTop { g with pc := g.pc + 1, stack := .long (x % y) :: rest }) target) : Steps p.tables e below (T.setTop g) target :=
  XS.lrem X.here hx hg hd hs hy (by rw [lrem_mod]; exact hr)
end Own
/-! ints as integers -/
theorem own_tL {x y : Int32} (h : x < y) : x.toInt < y.toInt := Int32.lt_iff_toInt_lt.mp h
theorem own_tLn {x y : Int32} (h : ¬ x < y) : ¬ x.toInt < y.toInt := fun q => h (Int32.lt_iff_toInt_lt.mpr q)
theorem own_tE {x y : Int32} (h : x = y) : x.toInt = y.toInt := congrArg _ h
theorem own_tEn {x y : Int32} (h : ¬ x = y) : ¬ x.toInt = y.toInt := fun q => h (Int32.toInt_inj.mp q)
theorem own_uL {x y : Int64} (h : x < y) : x.toInt < y.toInt := Int64.lt_iff_toInt_lt.mp h
theorem own_uLn {x y : Int64} (h : ¬ x < y) : ¬ x.toInt < y.toInt := fun q => h (Int64.lt_iff_toInt_lt.mpr q)
theorem own_uE {x y : Int64} (h : x = y) : x.toInt = y.toInt := congrArg _ h
theorem own_uEn {x y : Int64} (h : ¬ x = y) : ¬ x.toInt = y.toInt := fun q => h (Int64.toInt_inj.mp q)
/-! an array by its values: n places, place i holds f i -/
section OwnArr
variable {p : Program} {l : Launch} {e : Env} {R : Room} {s : State} {m : MethodId} {args : Array Value} {below : List Frame} {meth : Method} {c : Code} {T : State} {locs : List Loc} {cells slots : Nat} {Z : State} {a0 : Array Value} {h h' : Heap} {a b : Addr} {ty : FieldType} {n sl : Nat} {f : Nat → Value} {v : Value} {ws : List Addr}
def own_AV (Z : State) (h : Heap) (a : Addr) (ty : FieldType) (n : Nat) (f : Nat → Value) : Prop := ∃ cl : Cell, Arr Z h a cl ty ∧ cl.slots.size = n ∧ ∀ i, i < n → cl.slots[i]? = some (f i)
theorem own_AV.new {k : ClassId} {z : Int32} (A : Arr Z h a (newA k ty z) ty) (hn : z.toNatClampNeg = n) : own_AV Z h a ty n (fun _ => defaultValue ty) := by
  subst hn
  exact ⟨_, A, sz_new _ _ _, fun i hi => by simp [newA, hi]⟩
theorem own_AV.ext (F : own_AV Z h a ty n f) (E : Ext h h') : own_AV Z h' a ty n f := by
  obtain ⟨cl, A, r⟩ := F
  exact ⟨cl, A.ext E, r⟩
theorem own_AV.other (F : own_AV Z h b ty n f) (W : Wr h h' a sl v) (q : b ≠ a) : own_AV Z h' b ty n f := by
  obtain ⟨cl, A, r⟩ := F
  exact ⟨cl, A.other W q, r⟩
theorem own_AV.lt (F : own_AV Z h a ty n f) : a < h.size := by
  obtain ⟨cl, A, r⟩ := F
  exact A.lt
theorem own_AV.same {i : Nat} (F : own_AV Z h a ty n f) (W : Wr h h' a i v) (hi : i < n) : own_AV Z h' a ty n (fun k => if k = i then v else f k) := by
  obtain ⟨cl, A, S, H⟩ := F
  refine ⟨_, A.same W, (sz_set _ _ _).trans S, fun k hk => ?_⟩
  by_cases q : k = i
  · subst q
    simp [Cell.setSlot, S, hk]
  · simp only [Cell.setSlot, if_neg q]
    rw [Array.getElem?_setIfInBounds_ne (Ne.symm q)]
    exact H k hk
theorem own_AV.congr {f' : Nat → Value} (F : own_AV Z h a ty n f) (q : ∀ i, i < n → f i = f' i) : own_AV Z h a ty n f' := by
  obtain ⟨cl, A, S, H⟩ := F
  exact ⟨cl, A, S, fun i hi => (H i hi).trans (congrArg some (q i hi))⟩
theorem own_AV.keep (F : own_AV Z h a ty n f) (K : Keep h h' ws) (q : a ∉ ws) : own_AV Z h' a ty n f := by
  obtain ⟨cl, A, r⟩ := F
  exact ⟨cl, ⟨K.2.1 _ _ A.1 q, A.2⟩, r⟩
theorem own_AV.arv {z : Int32} {vs : List Value} {d : Value} (F : own_AV Z h a ty n f) (hz : z.toNatClampNeg = n) (h0 : ¬ z < 0) (hv : ∀ i, i < n → vs.getD i d = f i) (hf : ∀ i, i < n → fits ty (f i) = true) : ∃ k, Arv Z h a k ty z vs d := by
  obtain ⟨cl, A, S, H⟩ := F
  refine ⟨cl.cls, cl, A, rfl, S.trans hz.symm, h0, fun i hi => ?_, fun i hi => ?_⟩
  · rw [hv i (S ▸ hi)]
    exact H i (S ▸ hi)
  · rw [hv i (S ▸ hi)]
    exact hf i (S ▸ hi)
theorem own_AV.of_arv {k : ClassId} {z : Int32} {vs : List Value} {d : Value} (F : Arv Z h a k ty z vs d) (hz : z.toNatClampNeg = n) : own_AV Z h a ty n (fun i => vs.getD i d) := by
  obtain ⟨cl, A, -, S, -, H, -⟩ := F
  exact ⟨cl, A, S.trans hz, fun i hi => H i (by rw [S, hz]; exact hi)⟩
theorem own_inb {cl : Cell} {j : Int32} {i : Nat} (S : cl.slots.size = n) (hj : j.toNatClampNeg = i) (h0 : ¬ j < 0) (hi : i < n) : ¬ (j < 0 ∨ cl.slots.size ≤ j.toNatClampNeg) := by
  rintro (q | q)
  · exact h0 q
  · rw [S, hj] at q
    omega
theorem own_caload (X : Stand p l e R s m args below meth c T locs cells slots) (hx : p.tables.exec = Jvm.exec) (hZ : Z.Warmed39 s.vm) (eT : T.heap = h) (F : own_AV Z h a .char n f) {j : Int32} {i : Nat} (hj : j.toNatClampNeg = i) (h0 : ¬ j < 0) (hi : i < n) {g : JFrame} (hg : g.method = m) {rest : List Value} (hs : g.stack = .int j :: .ref a :: rest) (hd : decode c.code g.pc = .ok (.caload, 1)) :
    ∀ t, Steps p.tables e below (T.setTop { g with pc := g.pc + 1, stack := f i :: rest }) t → Steps p.tables e below (T.setTop g) t := by
  obtain ⟨cl, A, S, H⟩ := F
  exact fun t k => X.caload hx (by rw [eT]; exact A.1) (State.isArrayOf_alike hZ.alike A.2.1) A.2.2 (own_inb S hj h0 hi) (by rw [hj]; exact H i hi) hg hs hd t k
theorem own_iaload (X : Stand p l e R s m args below meth c T locs cells slots) (hx : p.tables.exec = Jvm.exec) (hZ : Z.Warmed39 s.vm) (eT : T.heap = h) (F : own_AV Z h a .int n f) {j : Int32} {i : Nat} (hj : j.toNatClampNeg = i) (h0 : ¬ j < 0) (hi : i < n) {g : JFrame} (hg : g.method = m) {rest : List Value} (hs : g.stack = .int j :: .ref a :: rest) (hd : decode c.code g.pc = .ok (.iaload, 1)) :
    ∀ t, Steps p.tables e below (T.setTop { g with pc := g.pc + 1, stack := f i :: rest }) t → Steps p.tables e below (T.setTop g) t := by
  obtain ⟨cl, A, S, H⟩ := F
  exact fun t k => X.iaload hx (by rw [eT]; exact A.1) (State.isArrayOf_alike hZ.alike A.2.1) A.2.2 (own_inb S hj h0 hi) (by rw [hj]; exact H i hi) hg hs hd t k
theorem own_laload (X : Stand p l e R s m args below meth c T locs cells slots) (hx : p.tables.exec = Jvm.exec) (hZ : Z.Warmed39 s.vm) (eT : T.heap = h) (F : own_AV Z h a .long n f) {j : Int32} {i : Nat} (hj : j.toNatClampNeg = i) (h0 : ¬ j < 0) (hi : i < n) {g : JFrame} (hg : g.method = m) {rest : List Value} (hs : g.stack = .int j :: .ref a :: rest) (hd : decode c.code g.pc = .ok (.laload, 1)) :
    ∀ t, Steps p.tables e below (T.setTop { g with pc := g.pc + 1, stack := f i :: rest }) t → Steps p.tables e below (T.setTop g) t := by
  obtain ⟨cl, A, S, H⟩ := F
  exact fun t k => X.laload hx (by rw [eT]; exact A.1) (State.isArrayOf_alike hZ.alike A.2.1) A.2.2 (own_inb S hj h0 hi) (by rw [hj]; exact H i hi) hg hs hd t k
theorem own_baload (X : Stand p l e R s m args below meth c T locs cells slots) (hx : p.tables.exec = Jvm.exec) (hZ : Z.Warmed39 s.vm) (eT : T.heap = h) (F : own_AV Z h a .byte n f) {j : Int32} {i : Nat} (hj : j.toNatClampNeg = i) (h0 : ¬ j < 0) (hi : i < n) {g : JFrame} (hg : g.method = m) {rest : List Value} (hs : g.stack = .int j :: .ref a :: rest) (hd : decode c.code g.pc = .ok (.baload, 1)) :
    ∀ t, Steps p.tables e below (T.setTop { g with pc := g.pc + 1, stack := f i :: rest }) t → Steps p.tables e below (T.setTop g) t := by
  obtain ⟨cl, A, S, H⟩ := F
  exact fun t k => X.baloadBytes hx (by rw [eT]; exact A.1) (State.isArrayOf_alike hZ.alike A.2.1) A.2.2 (own_inb S hj h0 hi) (by rw [hj]; exact H i hi) hg hs hd t k
theorem own_alen (X : Stand p l e R s m args below meth c T locs cells slots) (hx : p.tables.exec = Jvm.exec) (hZ : Z.Warmed39 s.vm) (eT : T.heap = h) (F : own_AV Z h a ty n f) {z : Int32} (hz : n.toInt32 = z) {g : JFrame} (hg : g.method = m) {rest : List Value} (hs : g.stack = .ref a :: rest) (hd : decode c.code g.pc = .ok (.arraylength, 1)) :
    ∀ t, Steps p.tables e below (T.setTop { g with pc := g.pc + 1, stack := .int z :: rest }) t → Steps p.tables e below (T.setTop g) t := by
  obtain ⟨cl, A, S, H⟩ := F
  refine fun t k => X.arraylength hx (by rw [eT]; exact A.1) (State.isArrayOf_alike hZ.alike A.2.1) hg hs hd t ?_
  rw [S, hz]
  exact k
theorem own_stI (X : Stand p l e R s m args below meth c T locs cells slots) (hx : p.tables.exec = Jvm.exec) (hZ : Z.Warmed39 s.vm) (eT : T.heap = h) (F : own_AV Z h a .int n f) {j x : Int32} {i : Nat} (hj : j.toNatClampNeg = i) (h0 : ¬ j < 0) (hi : i < n) {g : JFrame} (hg : g.method = m) {rest : List Value} (hs : g.stack = .int x :: .int j :: .ref a :: rest) (hd : decode c.code g.pc = .ok (.iastore, 1)) :
    ∃ T' h', Stand p l e R s m args below meth c T' (locs ++ [⟨a, i⟩]) cells slots ∧ T'.heap = h' ∧ Wr h h' a i (.int x) ∧ own_AV Z h' a .int n (fun k => if k = i then .int x else f k) ∧ ∀ target, Steps p.tables e below (T'.setTop { g with pc := g.pc + 1, stack := rest }) target → Steps p.tables e below (T.setTop g) target := by
  obtain ⟨cl, A, S, H⟩ := F
  subst hj
  obtain ⟨T', h', X', e', W, st⟩ := stI X hx hZ eT A (own_inb S rfl h0 hi) hg hs hd
  exact ⟨T', h', X', e', W, own_AV.same ⟨cl, A, S, H⟩ W hi, st⟩
theorem own_stJ (X : Stand p l e R s m args below meth c T locs cells slots) (hx : p.tables.exec = Jvm.exec) (hZ : Z.Warmed39 s.vm) (eT : T.heap = h) (F : own_AV Z h a .long n f) {j : Int32} {x : Int64} {i : Nat} (hj : j.toNatClampNeg = i) (h0 : ¬ j < 0) (hi : i < n) {g : JFrame} (hg : g.method = m) {rest : List Value} (hs : g.stack = .long x :: .int j :: .ref a :: rest) (hd : decode c.code g.pc = .ok (.lastore, 1)) :
    ∃ T' h', Stand p l e R s m args below meth c T' (locs ++ [⟨a, i⟩]) cells slots ∧ T'.heap = h' ∧ Wr h h' a i (.long x) ∧ own_AV Z h' a .long n (fun k => if k = i then .long x else f k) ∧ ∀ target, Steps p.tables e below (T'.setTop { g with pc := g.pc + 1, stack := rest }) target → Steps p.tables e below (T.setTop g) target := by
  obtain ⟨cl, A, S, H⟩ := F
  subst hj
  obtain ⟨T', h', X', e', W, st⟩ := stJ X hx hZ eT A (own_inb S rfl h0 hi) hg hs hd
  exact ⟨T', h', X', e', W, own_AV.same ⟨cl, A, S, H⟩ W hi, st⟩
theorem own_stC (X : Stand p l e R s m args below meth c T locs cells slots) (hx : p.tables.exec = Jvm.exec) (hZ : Z.Warmed39 s.vm) (eT : T.heap = h) (F : own_AV Z h a .char n f) {j x : Int32} {i : Nat} (hj : j.toNatClampNeg = i) (h0 : ¬ j < 0) (hi : i < n) {g : JFrame} (hg : g.method = m) {rest : List Value} (hs : g.stack = .int x :: .int j :: .ref a :: rest) (hd : decode c.code g.pc = .ok (.castore, 1)) :
    ∃ T' h', Stand p l e R s m args below meth c T' (locs ++ [⟨a, i⟩]) cells slots ∧ T'.heap = h' ∧ Wr h h' a i (.int (nar .char x)) ∧ own_AV Z h' a .char n (fun k => if k = i then .int (nar .char x) else f k) ∧ ∀ target, Steps p.tables e below (T'.setTop { g with pc := g.pc + 1, stack := rest }) target → Steps p.tables e below (T.setTop g) target := by
  obtain ⟨cl, A, S, H⟩ := F
  subst hj
  obtain ⟨T', h', X', e', W, st⟩ := stC X hx hZ eT A (own_inb S rfl h0 hi) hg hs hd
  exact ⟨T', h', X', e', W, own_AV.same ⟨cl, A, S, H⟩ W hi, st⟩
theorem own_stB (X : Stand p l e R s m args below meth c T locs cells slots) (hx : p.tables.exec = Jvm.exec) (hZ : Z.Warmed39 s.vm) (eT : T.heap = h) (F : own_AV Z h a .byte n f) {j x : Int32} {i : Nat} (hj : j.toNatClampNeg = i) (h0 : ¬ j < 0) (hi : i < n) {g : JFrame} (hg : g.method = m) {rest : List Value} (hs : g.stack = .int x :: .int j :: .ref a :: rest) (hd : decode c.code g.pc = .ok (.bastore, 1)) :
    ∃ T' h', Stand p l e R s m args below meth c T' (locs ++ [⟨a, i⟩]) cells slots ∧ T'.heap = h' ∧ Wr h h' a i (.int (nar .byte x)) ∧ own_AV Z h' a .byte n (fun k => if k = i then .int (nar .byte x) else f k) ∧ ∀ target, Steps p.tables e below (T'.setTop { g with pc := g.pc + 1, stack := rest }) target → Steps p.tables e below (T.setTop g) target := by
  obtain ⟨cl, A, S, H⟩ := F
  subst hj
  obtain ⟨T', h', X', e', W, st⟩ := stB X hx hZ eT A (own_inb S rfl h0 hi) hg hs hd
  exact ⟨T', h', X', e', W, own_AV.same ⟨cl, A, S, H⟩ W hi, st⟩
end OwnArr
theorem own_n32 {z : Int32} {n : Nat} (h : z.toInt = n) : n.toInt32 = z := by
  have q : ¬ z < 0 := fun q => by
    have q' := own_tL q
    have z0 : (0 : Int32).toInt = 0 := by decide
    rw [z0] at q'
    omega
  have b := (back32 q).1
  have e : z.toNatClampNeg = n := by
    show z.toInt.toNat = n
    omega
  rw [e] at b
  exact b
theorem own_fl1 {A : Prop} {r : Int32} (h : (r = 1 ∧ A) ∨ (r = 0 ∧ ¬ A)) (q : A) : r = 1 := by
  rcases h with h | h
  · exact h.1
  · exact absurd q h.2
theorem own_fl0 {A : Prop} {r : Int32} (h : (r = 1 ∧ A) ∨ (r = 0 ∧ ¬ A)) (q : ¬ A) : r = 0 := by
  rcases h with h | h
  · exact absurd h.2 q
  · exact h.1
theorem own_inc {i : Int32} {j n : Nat} (h : i.toInt = j) (hj : j < n) (hn : n < 2147483647) : (i + 1).toInt = (j + 1 : Nat) := by
  have a := c_iadd i 1
  have b := rng32 (i + 1)
  have z : (1 : Int32).toInt = 1 := by decide
  rw [z] at a
  omega
theorem own_i0 {i : Int32} {j : Nat} (h : i.toInt = j) : i.toNatClampNeg = j ∧ ¬ i < 0 := by
  constructor
  · show i.toInt.toNat = j
    omega
  · intro q
    have q' := own_tL q
    have z0 : (0 : Int32).toInt = 0 := by decide
    rw [z0] at q'
    omega
theorem own_and3 (x : Int32) : x &&& 3 = 0 ∨ x &&& 3 = 1 ∨ x &&& 3 = 2 ∨ x &&& 3 = 3 := by
  have h := c_mask x 3 2 (by decide) (by decide)
  have h' : (x &&& 3).toInt = 0 ∨ (x &&& 3).toInt = 1 ∨ (x &&& 3).toInt = 2 ∨ (x &&& 3).toInt = 3 := by omega
  rcases h' with q | q | q | q
  · exact Or.inl (Int32.toInt_inj.mp q)
  · exact Or.inr (Or.inl (Int32.toInt_inj.mp q))
  · exact Or.inr (Or.inr (Or.inl (Int32.toInt_inj.mp q)))
  · exact Or.inr (Or.inr (Or.inr (Int32.toInt_inj.mp q)))
def own_QP (x : Int32) (h0 : Heap) (v : Option Value) (h : Heap) (L : List Loc) : Prop := v = some (.int x) ∧ L = [] ∧ h = h0
def own_Q0 (n0 : Nat) (v : Option Value) (h : Heap) (L : List Loc) : Prop := v = some (.int 1) ∧ Fr n0 L
theorem d1_0 : decode prog_13_method_9_code 0 = .ok (.aload_n 0, 1) := by decide +kernel
theorem d1_1 : decode prog_13_method_9_code 1 = .ok (.astore_n 1, 1) := by decide +kernel
theorem d1_2 : decode prog_13_method_9_code 2 = .ok (.aload_n 1, 1) := by decide +kernel
theorem d1_3 : decode prog_13_method_9_code 3 = .ok (.arraylength, 1) := by decide +kernel
theorem d1_4 : decode prog_13_method_9_code 4 = .ok (.istore_n 2, 1) := by decide +kernel
theorem d1_5 : decode prog_13_method_9_code 5 = .ok (.iconst 0, 1) := by decide +kernel
theorem d1_6 : decode prog_13_method_9_code 6 = .ok (.istore_n 3, 1) := by decide +kernel
theorem d1_7 : decode prog_13_method_9_code 7 = .ok (.iload_n 3, 1) := by decide +kernel
theorem d1_8 : decode prog_13_method_9_code 8 = .ok (.iload_n 2, 1) := by decide +kernel
theorem d1_9 : decode prog_13_method_9_code 9 = .ok (.if_icmp .ge 23, 3) := by decide +kernel
theorem d1_32 : decode prog_13_method_9_code 32 = .ok (.iconst 1, 1) := by decide +kernel
theorem d1_33 : decode prog_13_method_9_code 33 = .ok (.ireturn, 1) := by decide +kernel
theorem d1_12 : decode prog_13_method_9_code 12 = .ok (.aload_n 1, 1) := by decide +kernel
theorem d1_13 : decode prog_13_method_9_code 13 = .ok (.iload_n 3, 1) := by decide +kernel
theorem d1_14 : decode prog_13_method_9_code 14 = .ok (.laload, 1) := by decide +kernel
theorem d1_15 : decode prog_13_method_9_code 15 = .ok (.lstore 4, 2) := by decide +kernel
theorem d1_17 : decode prog_13_method_9_code 17 = .ok (.lload 4, 2) := by decide +kernel
theorem d1_19 : decode prog_13_method_9_code 19 = .ok (.lconst 0, 1) := by decide +kernel
theorem d1_20 : decode prog_13_method_9_code 20 = .ok (.lcmp, 1) := by decide +kernel
theorem d1_21 : decode prog_13_method_9_code 21 = .ok (.ifCond .eq 5, 3) := by decide +kernel
theorem d1_26 : decode prog_13_method_9_code 26 = .ok (.iinc 3 1, 3) := by decide +kernel
theorem d1_29 : decode prog_13_method_9_code 29 = .ok (.goto (-22), 3) := by decide +kernel
theorem d1_24 : decode prog_13_method_9_code 24 = .ok (.iconst 0, 1) := by decide +kernel
theorem d1_25 : decode prog_13_method_9_code 25 = .ok (.ireturn, 1) := by decide +kernel
theorem ef_rm_emp (m : MethodId) (x0 : Addr) : entryFrame m #[(.ref x0)] 6 = mkF m 0 #[.val (.ref x0), .unset, .unset, .unset, .unset, .unset] [] := by first | (simp [entryFrame, mkF, argsToLocals, Value.category]; done) | rfl
theorem pn_0 : plainName "com/example/parley/parley/Bits" = true := by first | (simp [plainName, overriddenIn]; done) | decide +kernel
set_option maxRecDepth 65536 in
set_option maxHeartbeats 40000000 in
theorem rm_emp (l : Launch) (Z : State) (a0 : Array Value) (hw : ∀ d ∈ tables_1, d.before a0 Z = true) (ws : List Jvm.Cond) (a1 : Addr) (z : Int32) (n : Nat) (g : Nat → Int64) (A : Prop) (r : Int32) (h0 : Heap) (VF : own_AV Z h0 a1 .long n (fun i => .long (g i))) (hz : z.toInt = n) (hn : n < 2147483647) (hA : A ↔ ∀ q, q < n → g q = 0) (hr : (r = 1 ∧ A) ∨ (r = 0 ∧ ¬ A)) :
    MetFree l (⟨"com/example/parley/parley/Bits", "isEmpty", "([J)Z"⟩ : MethodName) (head1 (Jvm.Cond.code (⟨"com/example/parley/parley/Bits", "isEmpty", "([J)Z"⟩ : MethodName) prog_13_method_9_code 6 (some .boolean) :: ws) ({ frames := 0, cells := 0, slots := 0, locals := 0 } : Room)) (fun a U => a = #[(.ref a1)] ∧ Z.Warmed39 U.vm ∧ U.heap = h0) (fun _ _ _ _ _ => True) (fun _ U o U' => ∃ v L, o = .returned v ∧ own_QP r h0 v U'.heap L ∧ FrameEnd U o U' L ({ frames := 0, cells := 0, slots := 0, locals := 0 } : Room).cells ({ frames := 0, cells := 0, slots := 0, locals := 0 } : Room).slots) := by
  refine MetFree.of_bodySF (plainFor_of_name pn_0) hisR ?_
  intro p e s m args below meth c s₁ Bd hml0 hP hK
  obtain ⟨rfl, hZ, hh⟩ := hP
  have hx := Bd.exec
  have hby := Bd.bytes
  have hlk := Bd.notSynchronized
  have hret := Bd.returns
  have hml : c.maxLocals = 6 := hml0
  have hown : s.vm.findClass "com/example/parley/parley/Bits" = some m.cls := findClass_of_methodNamed Bd.named
  have hnm := (name_of_methodNamed Bd.named Bd.method).1
  have X0 : Stand p l e ({ frames := 0, cells := 0, slots := 0, locals := 0 } : Room) s m #[(.ref a1)] below meth c s₁ [] 0 0 := Stand.of_body Bd
  have e0 : s₁.heap = h0 := by rw [← hh, Bd.state]; rfl
  show own_Dn p e below (own_Ret s (own_QP r h0) ({ frames := 0, cells := 0, slots := 0, locals := 0 } : Room).cells ({ frames := 0, cells := 0, slots := 0, locals := 0 } : Room).slots) (s₁.setTop (entryFrame m #[(.ref a1)] 6))
  rw [ef_rm_emp]
  refine own_st (B := (s₁.setTop (mkF m 1 #[.val (.ref a1), .unset, .unset, .unset, .unset, .unset] [(.ref a1)]))) (fun _ k => XS.aloadN X0.here hx rfl (hb hby d1_0) rfl rfl k) ?_
  refine own_st (B := (s₁.setTop (mkF m 2 #[.val (.ref a1), .val (.ref a1), .unset, .unset, .unset, .unset] []))) (fun _ k => XS.astoreN X0.here hx rfl (hb hby d1_1) rfl rfl (l' := #[.val (.ref a1), .val (.ref a1), .unset, .unset, .unset, .unset]) rfl k) ?_
  refine own_st (B := (s₁.setTop (mkF m 3 #[.val (.ref a1), .val (.ref a1), .unset, .unset, .unset, .unset] [(.ref a1)]))) (fun _ k => XS.aloadN X0.here hx rfl (hb hby d1_2) rfl rfl k) ?_
  refine own_st (B := (s₁.setTop (mkF m 4 #[.val (.ref a1), .val (.ref a1), .unset, .unset, .unset, .unset] [(.int z)]))) (fun _ k => own_alen X0 hx hZ e0 VF (z := z) (own_n32 hz) (g := (mkF m 3 #[.val (.ref a1), .val (.ref a1), .unset, .unset, .unset, .unset] [(.ref a1)])) rfl rfl (hb hby d1_3) _ k) ?_
  refine own_st (B := (s₁.setTop (mkF m 5 #[.val (.ref a1), .val (.ref a1), .val (.int z), .unset, .unset, .unset] []))) (fun _ k => XS.istoreN X0.here hx rfl (hb hby d1_4) rfl (l' := #[.val (.ref a1), .val (.ref a1), .val (.int z), .unset, .unset, .unset]) rfl k) ?_
  refine own_st (B := (s₁.setTop (mkF m 6 #[.val (.ref a1), .val (.ref a1), .val (.int z), .unset, .unset, .unset] [(.int (0 : Int32))]))) (fun _ k => XS.iconst X0.here hx rfl (hb hby d1_5) k) ?_
  refine own_st (B := (s₁.setTop (mkF m 7 #[.val (.ref a1), .val (.ref a1), .val (.int z), .val (.int (0 : Int32)), .unset, .unset] []))) (fun _ k => XS.istoreN X0.here hx rfl (hb hby d1_6) rfl (l' := #[.val (.ref a1), .val (.ref a1), .val (.int z), .val (.int (0 : Int32)), .unset, .unset]) rfl k) ?_
  have loop : ∀ (k : Nat) (i : Int32) (j : Nat) (s4 s5 : Slot), i.toInt = j → j + k = n → (∀ q, q < j → g q = 0) → ((s4 = .unset ∧ s5 = .unset) ∨ ∃ t, s4 = .val (.long t) ∧ s5 = .second) → own_Dn p e below (own_Ret s (own_QP r h0) ({ frames := 0, cells := 0, slots := 0, locals := 0 } : Room).cells ({ frames := 0, cells := 0, slots := 0, locals := 0 } : Room).slots) (s₁.setTop (mkF m 7 #[.val (.ref a1), .val (.ref a1), .val (.int z), .val (.int i), s4, s5] [])) := by
    intro k
    induction k with
    | zero =>
      intro i j s4 s5 hi hjk hb' hs
      refine own_st (B := (s₁.setTop (mkF m 8 #[.val (.ref a1), .val (.ref a1), .val (.int z), .val (.int i), s4, s5] [(.int i)]))) (fun _ k => XS.iloadN X0.here hx rfl (hb hby d1_7) rfl k) ?_
      refine own_st (B := (s₁.setTop (mkF m 9 #[.val (.ref a1), .val (.ref a1), .val (.int z), .val (.int i), s4, s5] [(.int z), (.int i)]))) (fun _ k => XS.iloadN X0.here hx rfl (hb hby d1_8) rfl k) ?_
      have c9 : ¬ i < z := fun q => by
        have q' := own_tL q
        omega
      refine own_st (B := (s₁.setTop (mkF m 32 #[.val (.ref a1), .val (.ref a1), .val (.int z), .val (.int i), s4, s5] []))) (fun _ k => XS.icmpYes X0.here hx rfl (pc0 := 9) (pc' := 32) rfl (hb hby d1_9) rfl (flt c9).2.1 (by decide) (by decide) k) ?_
      refine own_st (B := (s₁.setTop (mkF m 33 #[.val (.ref a1), .val (.ref a1), .val (.int z), .val (.int i), s4, s5] [(.int (1 : Int32))]))) (fun _ k => XS.iconst X0.here hx rfl (hb hby d1_32) k) ?_
      obtain rfl := own_fl1 hr (hA.mpr fun q hq => hb' q (by omega))
      exact own_retN X0 hx hlk (t := .boolean) hret (by simp) (hb hby d1_33) (by show own_QP 1 h0 _ s₁.heap _; rw [e0]; exact ⟨rfl, rfl, rfl⟩) (by decide) (by decide)
    | succ k ih =>
      intro i j s4 s5 hi hjk hb' hs
      refine own_st (B := (s₁.setTop (mkF m 8 #[.val (.ref a1), .val (.ref a1), .val (.int z), .val (.int i), s4, s5] [(.int i)]))) (fun _ k => XS.iloadN X0.here hx rfl (hb hby d1_7) rfl k) ?_
      refine own_st (B := (s₁.setTop (mkF m 9 #[.val (.ref a1), .val (.ref a1), .val (.int z), .val (.int i), s4, s5] [(.int z), (.int i)]))) (fun _ k => XS.iloadN X0.here hx rfl (hb hby d1_8) rfl k) ?_
      have c9 : i < z := Int32.lt_iff_toInt_lt.mpr (by omega)
      refine own_st (B := (s₁.setTop (mkF m 12 #[.val (.ref a1), .val (.ref a1), .val (.int z), .val (.int i), s4, s5] []))) (fun _ k => XS.icmpNo X0.here hx rfl (hb hby d1_9) rfl (tlt c9).2.1 k) ?_
      refine own_st (B := (s₁.setTop (mkF m 13 #[.val (.ref a1), .val (.ref a1), .val (.int z), .val (.int i), s4, s5] [(.ref a1)]))) (fun _ k => XS.aloadN X0.here hx rfl (hb hby d1_12) rfl rfl k) ?_
      refine own_st (B := (s₁.setTop (mkF m 14 #[.val (.ref a1), .val (.ref a1), .val (.int z), .val (.int i), s4, s5] [(.int i), (.ref a1)]))) (fun _ k => XS.iloadN X0.here hx rfl (hb hby d1_13) rfl k) ?_
      refine own_st (B := (s₁.setTop (mkF m 15 #[.val (.ref a1), .val (.ref a1), .val (.int z), .val (.int i), s4, s5] [(.long (g j))]))) (fun _ k => own_laload X0 hx hZ e0 VF (i := j) (own_i0 hi).1 (own_i0 hi).2 (by omega) (g := (mkF m 14 #[.val (.ref a1), .val (.ref a1), .val (.int z), .val (.int i), s4, s5] [(.int i), (.ref a1)])) rfl rfl (hb hby d1_14) _ k) ?_
      refine own_st (B := (s₁.setTop (mkF m 17 #[.val (.ref a1), .val (.ref a1), .val (.int z), .val (.int i), .val (.long (g j)), .second] []))) (fun _ k => XS.lstore X0.here hx rfl (hb hby d1_15) rfl (l' := #[.val (.ref a1), .val (.ref a1), .val (.int z), .val (.int i), .val (.long (g j)), .second]) (by rcases hs with ⟨rfl, rfl⟩ | ⟨t, rfl, rfl⟩ <;> rfl) k) ?_
      refine own_st (B := (s₁.setTop (mkF m 19 #[.val (.ref a1), .val (.ref a1), .val (.int z), .val (.int i), .val (.long (g j)), .second] [(.long (g j))]))) (fun _ k => XS.lload X0.here hx rfl (hb hby d1_17) rfl k) ?_
      refine own_st (B := (s₁.setTop (mkF m 20 #[.val (.ref a1), .val (.ref a1), .val (.int z), .val (.int i), .val (.long (g j)), .second] [(.long (0 : Int64)), (.long (g j))]))) (fun _ k => XS.lconst X0.here hx rfl (hb hby d1_19) k) ?_
      refine own_st (B := (s₁.setTop (mkF m 21 #[.val (.ref a1), .val (.ref a1), .val (.int z), .val (.int i), .val (.long (g j)), .second] [(.int (lcmpW (g j) (0 : Int64)))]))) (fun _ k => XS.lcmp X0.here hx rfl (hb hby d1_20) rfl k) ?_
      by_cases c21 : (g j) = (0 : Int64)
      · refine own_st (B := (s₁.setTop (mkF m 26 #[.val (.ref a1), .val (.ref a1), .val (.int z), .val (.int i), .val (.long (g j)), .second] []))) (fun _ k => XS.ifYes X0.here hx rfl (pc0 := 21) (pc' := 26) rfl (hb hby d1_21) rfl ((if0 _ _).trans (teq ((lw_eq (g j) (0 : Int64)).mpr c21)).1) (by decide) (by decide) k) ?_
        refine own_st (B := (s₁.setTop (mkF m 29 #[.val (.ref a1), .val (.ref a1), .val (.int z), .val (.int (i + (1 : Int32))), .val (.long (g j)), .second] []))) (fun _ k => XS.iinc X0.here hx rfl (hb hby d1_26) rfl (l' := #[.val (.ref a1), .val (.ref a1), .val (.int z), .val (.int (i + (1 : Int32))), .val (.long (g j)), .second]) rfl k) ?_
        refine own_st (B := (s₁.setTop (mkF m 7 #[.val (.ref a1), .val (.ref a1), .val (.int z), .val (.int (i + (1 : Int32))), .val (.long (g j)), .second] []))) (fun _ k => XS.goto X0.here hx rfl (pc0 := 29) (pc' := 7) rfl (hb hby d1_29) (by decide) (by decide) k) ?_
        refine ih (i + 1) (j + 1) _ _ (own_inc hi (by omega) hn) (by omega) (fun q hq => ?_) (Or.inr ⟨_, rfl, rfl⟩)
        by_cases e : q = j
        · rw [e]
          exact c21
        · exact hb' q (by omega)
      · refine own_st (B := (s₁.setTop (mkF m 24 #[.val (.ref a1), .val (.ref a1), .val (.int z), .val (.int i), .val (.long (g j)), .second] []))) (fun _ k => XS.ifNo X0.here hx rfl (hb hby d1_21) rfl ((if0 _ _).trans (feq (mt (lw_eq (g j) (0 : Int64)).mp c21)).1) k) ?_
        refine own_st (B := (s₁.setTop (mkF m 25 #[.val (.ref a1), .val (.ref a1), .val (.int z), .val (.int i), .val (.long (g j)), .second] [(.int (0 : Int32))]))) (fun _ k => XS.iconst X0.here hx rfl (hb hby d1_24) k) ?_
        obtain rfl := own_fl0 hr (fun q => c21 (hA.mp q j (by omega)))
        exact own_retN X0 hx hlk (t := .boolean) hret (by simp) (hb hby d1_25) (by show own_QP 0 h0 _ s₁.heap _; rw [e0]; exact ⟨rfl, rfl, rfl⟩) (by decide) (by decide)
  exact loop n 0 0 .unset .unset (by decide) (by omega) (fun q hq => absurd hq (by omega)) (Or.inl ⟨rfl, rfl⟩)
theorem pd_0 : parseMethodDescriptor "([J)Z" = some ⟨[(.array .long)], some .boolean⟩ := by decide +kernel
theorem ef_rm_law (m : MethodId) (x0 : Int32) (x1 : Int32) (x2 : Int64) (x3 : Int64) (x4 : Int64) : entryFrame m #[(.int x0), (.int x1), (.long x2), (.long x3), (.long x4)] maxLocals = mkF m 0 #[.val (.int x0), .val (.int x1), .val (.long x2), .second, .val (.long x3), .second, .val (.long x4), .second, .unset, .unset, .unset, .unset, .unset, .unset, .unset, .unset, .unset] [] := by first | (simp [entryFrame, mkF, argsToLocals, Value.category, maxLocals]; done) | rfl
theorem pn_1 : plainName "com/example/parley/parley/BitsIsEmptyPinLaw" = true := by first | (simp [plainName, overriddenIn]; done) | decide +kernel
set_option maxRecDepth 65536 in
set_option maxHeartbeats 40000000 in
theorem rm_law (l : Launch) (Z : State) (a0 : Array Value) (hw : ∀ d ∈ tables_1, d.before a0 Z = true) (ws : List Jvm.Cond) (p1 p2 : Int32) (p3 p4 p5 : Int64) (h0 : Heap) (n0 : Nat) (Z0 : n0 ≤ h0.size)  :
    MetFree l x (head1 (Jvm.Cond.code x code maxLocals ret :: ws) room_1) (fun a U => a = #[(.int p1), (.int p2), (.long p3), (.long p4), (.long p5)] ∧ Z.Warmed39 U.vm ∧ U.heap = h0) (fun _ _ _ _ _ => True) (fun _ U o U' => ∃ v L, o = .returned v ∧ own_Q0 n0 v U'.heap L ∧ FrameEnd U o U' L 16 128) := by
  refine MetFree.of_bodySF (plainFor_of_name pn_1) hisR ?_
  intro p e s m args below meth c s₁ Bd hml0 hP hK
  obtain ⟨rfl, hZ, hh⟩ := hP
  have hx := Bd.exec
  have hby := Bd.bytes
  have hlk := Bd.notSynchronized
  have hret := Bd.returns
  have hml : c.maxLocals = 17 := hml0
  have hown : s.vm.findClass "com/example/parley/parley/BitsIsEmptyPinLaw" = some m.cls := findClass_of_methodNamed Bd.named
  have hnm := (name_of_methodNamed Bd.named Bd.method).1
  have X0 : Stand p l e room_1 s m #[(.int p1), (.int p2), (.long p3), (.long p4), (.long p5)] below meth c s₁ [] 0 0 := Stand.of_body Bd
  have e0 : s₁.heap = h0 := by rw [← hh, Bd.state]; rfl
  have N0 := Fr.nil n0
  show own_Dn p e below (own_Ret s (own_Q0 n0) 16 128) (s₁.setTop (entryFrame m #[(.int p1), (.int p2), (.long p3), (.long p4), (.long p5)] maxLocals))
  rw [ef_rm_law]
  refine own_st (B := (s₁.setTop (mkF m 1 #[.val (.int p1), .val (.int p2), .val (.long p3), .second, .val (.long p4), .second, .val (.long p5), .second, .unset, .unset, .unset, .unset, .unset, .unset, .unset, .unset, .unset] [(.int p1)]))) (fun _ k => XS.iloadN X0.here hx rfl (hb hby at_0) rfl k) ?_
  refine own_st (B := (s₁.setTop (mkF m 2 #[.val (.int p1), .val (.int p2), .val (.long p3), .second, .val (.long p4), .second, .val (.long p5), .second, .unset, .unset, .unset, .unset, .unset, .unset, .unset, .unset, .unset] [(.int (3 : Int32)), (.int p1)]))) (fun _ k => XS.iconst X0.here hx rfl (hb hby at_1) k) ?_
  refine own_st (B := (s₁.setTop (mkF m 3 #[.val (.int p1), .val (.int p2), .val (.long p3), .second, .val (.long p4), .second, .val (.long p5), .second, .unset, .unset, .unset, .unset, .unset, .unset, .unset, .unset, .unset] [(.int (p1 &&& (3 : Int32)))]))) (fun _ k => XS.iand X0.here hx rfl (hb hby at_2) rfl k) ?_
  refine own_st (B := (s₁.setTop (mkF m 5 #[.val (.int p1), .val (.int p2), .val (.long p3), .second, .val (.long p4), .second, .val (.long p5), .second, .val (.int (p1 &&& (3 : Int32))), .unset, .unset, .unset, .unset, .unset, .unset, .unset, .unset] []))) (fun _ k => XS.istore X0.here hx rfl (hb hby at_3) rfl (l' := #[.val (.int p1), .val (.int p2), .val (.long p3), .second, .val (.long p4), .second, .val (.long p5), .second, .val (.int (p1 &&& (3 : Int32))), .unset, .unset, .unset, .unset, .unset, .unset, .unset, .unset]) rfl k) ?_
  have h3 := own_and3 p1
  generalize (p1 &&& (3 : Int32)) = ul at *
  suffices K0 : ∀ v0 : Int64, own_Dn p e below (own_Ret s (own_Q0 n0) 16 128) (s₁.setTop (mkF m 16 #[.val (.int p1), .val (.int p2), .val (.long p3), .second, .val (.long p4), .second, .val (.long p5), .second, .val (.int ul), .unset, .unset, .unset, .unset, .unset, .unset, .unset, .unset] [(.long v0)])) by
    refine own_st (B := (s₁.setTop (mkF m 6 #[.val (.int p1), .val (.int p2), .val (.long p3), .second, .val (.long p4), .second, .val (.long p5), .second, .val (.int ul), .unset, .unset, .unset, .unset, .unset, .unset, .unset, .unset] [(.int p2)]))) (fun _ k => XS.iloadN X0.here hx rfl (hb hby at_5) rfl k) ?_
    refine own_st (B := (s₁.setTop (mkF m 7 #[.val (.int p1), .val (.int p2), .val (.long p3), .second, .val (.long p4), .second, .val (.long p5), .second, .val (.int ul), .unset, .unset, .unset, .unset, .unset, .unset, .unset, .unset] [(.int (1 : Int32)), (.int p2)]))) (fun _ k => XS.iconst X0.here hx rfl (hb hby at_6) k) ?_
    refine own_st (B := (s₁.setTop (mkF m 8 #[.val (.int p1), .val (.int p2), .val (.long p3), .second, .val (.long p4), .second, .val (.long p5), .second, .val (.int ul), .unset, .unset, .unset, .unset, .unset, .unset, .unset, .unset] [(.int (p2 &&& (1 : Int32)))]))) (fun _ k => XS.iand X0.here hx rfl (hb hby at_7) rfl k) ?_
    by_cases c8_1 : (p2 &&& (1 : Int32)) = (0 : Int32)
    · refine own_st (B := (s₁.setTop (mkF m 15 #[.val (.int p1), .val (.int p2), .val (.long p3), .second, .val (.long p4), .second, .val (.long p5), .second, .val (.int ul), .unset, .unset, .unset, .unset, .unset, .unset, .unset, .unset] []))) (fun _ k => XS.ifYes X0.here hx rfl (pc0 := 8) (pc' := 15) rfl (hb hby at_8) rfl ((if0 _ _).trans (teq c8_1).1) (by decide) (by decide) k) ?_
      refine own_st (B := (s₁.setTop (mkF m 16 #[.val (.int p1), .val (.int p2), .val (.long p3), .second, .val (.long p4), .second, .val (.long p5), .second, .val (.int ul), .unset, .unset, .unset, .unset, .unset, .unset, .unset, .unset] [(.long p3)]))) (fun _ k => XS.lloadN X0.here hx rfl (hb hby at_15) rfl k) ?_
      exact K0 _
    · refine own_st (B := (s₁.setTop (mkF m 11 #[.val (.int p1), .val (.int p2), .val (.long p3), .second, .val (.long p4), .second, .val (.long p5), .second, .val (.int ul), .unset, .unset, .unset, .unset, .unset, .unset, .unset, .unset] []))) (fun _ k => XS.ifNo X0.here hx rfl (hb hby at_8) rfl ((if0 _ _).trans (feq c8_1).1) k) ?_
      refine own_st (B := (s₁.setTop (mkF m 12 #[.val (.int p1), .val (.int p2), .val (.long p3), .second, .val (.long p4), .second, .val (.long p5), .second, .val (.int ul), .unset, .unset, .unset, .unset, .unset, .unset, .unset, .unset] [(.long (0 : Int64))]))) (fun _ k => XS.lconst X0.here hx rfl (hb hby at_11) k) ?_
      refine own_st (B := (s₁.setTop (mkF m 16 #[.val (.int p1), .val (.int p2), .val (.long p3), .second, .val (.long p4), .second, .val (.long p5), .second, .val (.int ul), .unset, .unset, .unset, .unset, .unset, .unset, .unset, .unset] [(.long (0 : Int64))]))) (fun _ k => XS.goto X0.here hx rfl (pc0 := 12) (pc' := 16) rfl (hb hby at_12) (by decide) (by decide) k) ?_
      exact K0 _
  intro v0
  refine own_st (B := (s₁.setTop (mkF m 18 #[.val (.int p1), .val (.int p2), .val (.long p3), .second, .val (.long p4), .second, .val (.long p5), .second, .val (.int ul), .val (.long v0), .second, .unset, .unset, .unset, .unset, .unset, .unset] []))) (fun _ k => XS.lstore X0.here hx rfl (hb hby at_16) rfl (l' := #[.val (.int p1), .val (.int p2), .val (.long p3), .second, .val (.long p4), .second, .val (.long p5), .second, .val (.int ul), .val (.long v0), .second, .unset, .unset, .unset, .unset, .unset, .unset]) rfl k) ?_
  suffices K1 : ∀ v1 : Int64, own_Dn p e below (own_Ret s (own_Q0 n0) 16 128) (s₁.setTop (mkF m 30 #[.val (.int p1), .val (.int p2), .val (.long p3), .second, .val (.long p4), .second, .val (.long p5), .second, .val (.int ul), .val (.long v0), .second, .unset, .unset, .unset, .unset, .unset, .unset] [(.long v1)])) by
    refine own_st (B := (s₁.setTop (mkF m 19 #[.val (.int p1), .val (.int p2), .val (.long p3), .second, .val (.long p4), .second, .val (.long p5), .second, .val (.int ul), .val (.long v0), .second, .unset, .unset, .unset, .unset, .unset, .unset] [(.int p2)]))) (fun _ k => XS.iloadN X0.here hx rfl (hb hby at_18) rfl k) ?_
    refine own_st (B := (s₁.setTop (mkF m 20 #[.val (.int p1), .val (.int p2), .val (.long p3), .second, .val (.long p4), .second, .val (.long p5), .second, .val (.int ul), .val (.long v0), .second, .unset, .unset, .unset, .unset, .unset, .unset] [(.int (2 : Int32)), (.int p2)]))) (fun _ k => XS.iconst X0.here hx rfl (hb hby at_19) k) ?_
    refine own_st (B := (s₁.setTop (mkF m 21 #[.val (.int p1), .val (.int p2), .val (.long p3), .second, .val (.long p4), .second, .val (.long p5), .second, .val (.int ul), .val (.long v0), .second, .unset, .unset, .unset, .unset, .unset, .unset] [(.int (p2 &&& (2 : Int32)))]))) (fun _ k => XS.iand X0.here hx rfl (hb hby at_20) rfl k) ?_
    by_cases c21_2 : (p2 &&& (2 : Int32)) = (0 : Int32)
    · refine own_st (B := (s₁.setTop (mkF m 28 #[.val (.int p1), .val (.int p2), .val (.long p3), .second, .val (.long p4), .second, .val (.long p5), .second, .val (.int ul), .val (.long v0), .second, .unset, .unset, .unset, .unset, .unset, .unset] []))) (fun _ k => XS.ifYes X0.here hx rfl (pc0 := 21) (pc' := 28) rfl (hb hby at_21) rfl ((if0 _ _).trans (teq c21_2).1) (by decide) (by decide) k) ?_
      refine own_st (B := (s₁.setTop (mkF m 30 #[.val (.int p1), .val (.int p2), .val (.long p3), .second, .val (.long p4), .second, .val (.long p5), .second, .val (.int ul), .val (.long v0), .second, .unset, .unset, .unset, .unset, .unset, .unset] [(.long p4)]))) (fun _ k => XS.lload X0.here hx rfl (hb hby at_28) rfl k) ?_
      exact K1 _
    · refine own_st (B := (s₁.setTop (mkF m 24 #[.val (.int p1), .val (.int p2), .val (.long p3), .second, .val (.long p4), .second, .val (.long p5), .second, .val (.int ul), .val (.long v0), .second, .unset, .unset, .unset, .unset, .unset, .unset] []))) (fun _ k => XS.ifNo X0.here hx rfl (hb hby at_21) rfl ((if0 _ _).trans (feq c21_2).1) k) ?_
      refine own_st (B := (s₁.setTop (mkF m 25 #[.val (.int p1), .val (.int p2), .val (.long p3), .second, .val (.long p4), .second, .val (.long p5), .second, .val (.int ul), .val (.long v0), .second, .unset, .unset, .unset, .unset, .unset, .unset] [(.long (0 : Int64))]))) (fun _ k => XS.lconst X0.here hx rfl (hb hby at_24) k) ?_
      refine own_st (B := (s₁.setTop (mkF m 30 #[.val (.int p1), .val (.int p2), .val (.long p3), .second, .val (.long p4), .second, .val (.long p5), .second, .val (.int ul), .val (.long v0), .second, .unset, .unset, .unset, .unset, .unset, .unset] [(.long (0 : Int64))]))) (fun _ k => XS.goto X0.here hx rfl (pc0 := 25) (pc' := 30) rfl (hb hby at_25) (by decide) (by decide) k) ?_
      exact K1 _
  intro v1
  refine own_st (B := (s₁.setTop (mkF m 32 #[.val (.int p1), .val (.int p2), .val (.long p3), .second, .val (.long p4), .second, .val (.long p5), .second, .val (.int ul), .val (.long v0), .second, .val (.long v1), .second, .unset, .unset, .unset, .unset] []))) (fun _ k => XS.lstore X0.here hx rfl (hb hby at_30) rfl (l' := #[.val (.int p1), .val (.int p2), .val (.long p3), .second, .val (.long p4), .second, .val (.long p5), .second, .val (.int ul), .val (.long v0), .second, .val (.long v1), .second, .unset, .unset, .unset, .unset]) rfl k) ?_
  suffices K2 : ∀ v2 : Int64, own_Dn p e below (own_Ret s (own_Q0 n0) 16 128) (s₁.setTop (mkF m 44 #[.val (.int p1), .val (.int p2), .val (.long p3), .second, .val (.long p4), .second, .val (.long p5), .second, .val (.int ul), .val (.long v0), .second, .val (.long v1), .second, .unset, .unset, .unset, .unset] [(.long v2)])) by
    refine own_st (B := (s₁.setTop (mkF m 33 #[.val (.int p1), .val (.int p2), .val (.long p3), .second, .val (.long p4), .second, .val (.long p5), .second, .val (.int ul), .val (.long v0), .second, .val (.long v1), .second, .unset, .unset, .unset, .unset] [(.int p2)]))) (fun _ k => XS.iloadN X0.here hx rfl (hb hby at_32) rfl k) ?_
    refine own_st (B := (s₁.setTop (mkF m 34 #[.val (.int p1), .val (.int p2), .val (.long p3), .second, .val (.long p4), .second, .val (.long p5), .second, .val (.int ul), .val (.long v0), .second, .val (.long v1), .second, .unset, .unset, .unset, .unset] [(.int (4 : Int32)), (.int p2)]))) (fun _ k => XS.iconst X0.here hx rfl (hb hby at_33) k) ?_
    refine own_st (B := (s₁.setTop (mkF m 35 #[.val (.int p1), .val (.int p2), .val (.long p3), .second, .val (.long p4), .second, .val (.long p5), .second, .val (.int ul), .val (.long v0), .second, .val (.long v1), .second, .unset, .unset, .unset, .unset] [(.int (p2 &&& (4 : Int32)))]))) (fun _ k => XS.iand X0.here hx rfl (hb hby at_34) rfl k) ?_
    by_cases c35_3 : (p2 &&& (4 : Int32)) = (0 : Int32)
    · refine own_st (B := (s₁.setTop (mkF m 42 #[.val (.int p1), .val (.int p2), .val (.long p3), .second, .val (.long p4), .second, .val (.long p5), .second, .val (.int ul), .val (.long v0), .second, .val (.long v1), .second, .unset, .unset, .unset, .unset] []))) (fun _ k => XS.ifYes X0.here hx rfl (pc0 := 35) (pc' := 42) rfl (hb hby at_35) rfl ((if0 _ _).trans (teq c35_3).1) (by decide) (by decide) k) ?_
      refine own_st (B := (s₁.setTop (mkF m 44 #[.val (.int p1), .val (.int p2), .val (.long p3), .second, .val (.long p4), .second, .val (.long p5), .second, .val (.int ul), .val (.long v0), .second, .val (.long v1), .second, .unset, .unset, .unset, .unset] [(.long p5)]))) (fun _ k => XS.lload X0.here hx rfl (hb hby at_42) rfl k) ?_
      exact K2 _
    · refine own_st (B := (s₁.setTop (mkF m 38 #[.val (.int p1), .val (.int p2), .val (.long p3), .second, .val (.long p4), .second, .val (.long p5), .second, .val (.int ul), .val (.long v0), .second, .val (.long v1), .second, .unset, .unset, .unset, .unset] []))) (fun _ k => XS.ifNo X0.here hx rfl (hb hby at_35) rfl ((if0 _ _).trans (feq c35_3).1) k) ?_
      refine own_st (B := (s₁.setTop (mkF m 39 #[.val (.int p1), .val (.int p2), .val (.long p3), .second, .val (.long p4), .second, .val (.long p5), .second, .val (.int ul), .val (.long v0), .second, .val (.long v1), .second, .unset, .unset, .unset, .unset] [(.long (0 : Int64))]))) (fun _ k => XS.lconst X0.here hx rfl (hb hby at_38) k) ?_
      refine own_st (B := (s₁.setTop (mkF m 44 #[.val (.int p1), .val (.int p2), .val (.long p3), .second, .val (.long p4), .second, .val (.long p5), .second, .val (.int ul), .val (.long v0), .second, .val (.long v1), .second, .unset, .unset, .unset, .unset] [(.long (0 : Int64))]))) (fun _ k => XS.goto X0.here hx rfl (pc0 := 39) (pc' := 44) rfl (hb hby at_39) (by decide) (by decide) k) ?_
      exact K2 _
  intro v2
  refine own_st (B := (s₁.setTop (mkF m 46 #[.val (.int p1), .val (.int p2), .val (.long p3), .second, .val (.long p4), .second, .val (.long p5), .second, .val (.int ul), .val (.long v0), .second, .val (.long v1), .second, .val (.long v2), .second, .unset, .unset] []))) (fun _ k => XS.lstore X0.here hx rfl (hb hby at_44) rfl (l' := #[.val (.int p1), .val (.int p2), .val (.long p3), .second, .val (.long p4), .second, .val (.long p5), .second, .val (.int ul), .val (.long v0), .second, .val (.long v1), .second, .val (.long v2), .second, .unset, .unset]) rfl k) ?_
  rcases h3 with rfl | rfl | rfl | rfl
  · refine own_st (B := (s₁.setTop (mkF m 48 #[.val (.int p1), .val (.int p2), .val (.long p3), .second, .val (.long p4), .second, .val (.long p5), .second, .val (.int (0 : Int32)), .val (.long v0), .second, .val (.long v1), .second, .val (.long v2), .second, .unset, .unset] [(.int (0 : Int32))]))) (fun _ k => XS.iload X0.here hx rfl (hb hby at_46) rfl k) ?_
    refine own_st (B := (s₁.setTop (mkF m 51 #[.val (.int p1), .val (.int p2), .val (.long p3), .second, .val (.long p4), .second, .val (.long p5), .second, .val (.int (0 : Int32)), .val (.long v0), .second, .val (.long v1), .second, .val (.long v2), .second, .unset, .unset] []))) (fun _ k => XS.ifNo X0.here hx rfl (hb hby at_48) rfl ((if0 _ _).trans (teq (by decide)).2) k) ?_
    refine own_st (B := (s₁.setTop (mkF m 52 #[.val (.int p1), .val (.int p2), .val (.long p3), .second, .val (.long p4), .second, .val (.long p5), .second, .val (.int (0 : Int32)), .val (.long v0), .second, .val (.long v1), .second, .val (.long v2), .second, .unset, .unset] [(.int (0 : Int32))]))) (fun _ k => XS.iconst X0.here hx rfl (hb hby at_51) k) ?_
    obtain ⟨T4, h4, k4, X4, e4, E4, A4, st4⟩ := newP X0 hx hZ (hw _ (List.mem_of_getElem? (i := 0) rfl)) e0 (g := (mkF m 52 #[.val (.int p1), .val (.int p2), .val (.long p3), .second, .val (.long p4), .second, .val (.long p5), .second, .val (.int (0 : Int32)), .val (.long v0), .second, .val (.long v1), .second, .val (.long v2), .second, .unset, .unset] [(.int (0 : Int32))])) rfl (hb hby at_52) rfl (by decide) (cap := 0) (by decide) (by decide) (by decide) (by decide)
    obtain ⟨b4, g4⟩ : ∃ z, z = h0.size := ⟨_, rfl⟩
    rw [← g4] at A4 st4
    have g_b4 : n0 ≤ b4 := Nat.le_trans Z0 (Nat.le_of_eq g4.symm)
    have Z4 : n0 ≤ h4.size := Nat.le_trans Z0 E4.1
    refine own_st (B := (T4.setTop (mkF m 54 #[.val (.int p1), .val (.int p2), .val (.long p3), .second, .val (.long p4), .second, .val (.long p5), .second, .val (.int (0 : Int32)), .val (.long v0), .second, .val (.long v1), .second, .val (.long v2), .second, .unset, .unset] [(.ref b4)]))) st4 ?_
    have V0 : own_AV Z h4 b4 .long 0 (fun _ => defaultValue .long) := own_AV.new A4 (by decide)
    have VF : own_AV Z h4 b4 .long 0 (fun i => .long ((fun _ => (0 : Int64)) i)) := V0.congr fun i hi => by
      exact absurd hi (by omega)
    have hA : (True) ↔ ∀ q, q < 0 → (fun _ => (0 : Int64)) q = 0 := by
      exact ⟨fun _ q hq => absurd hq (by omega), fun _ => trivial⟩
    refine own_st (B := (T4.setTop (mkF m 56 #[.val (.int p1), .val (.int p2), .val (.long p3), .second, .val (.long p4), .second, .val (.long p5), .second, .val (.int (0 : Int32)), .val (.long v0), .second, .val (.long v1), .second, .val (.long v2), .second, .val (.ref b4), .unset] []))) (fun _ k => XS.astore X4.here hx rfl (hb hby at_54) rfl rfl (l' := #[.val (.int p1), .val (.int p2), .val (.long p3), .second, .val (.long p4), .second, .val (.long p5), .second, .val (.int (0 : Int32)), .val (.long v0), .second, .val (.long v1), .second, .val (.long v2), .second, .val (.ref b4), .unset]) rfl k) ?_
    refine own_st (B := (T4.setTop (mkF m 122 #[.val (.int p1), .val (.int p2), .val (.long p3), .second, .val (.long p4), .second, .val (.long p5), .second, .val (.int (0 : Int32)), .val (.long v0), .second, .val (.long v1), .second, .val (.long v2), .second, .val (.ref b4), .unset] []))) (fun _ k => XS.goto X4.here hx rfl (pc0 := 56) (pc' := 122) rfl (hb hby at_56) (by decide) (by decide) k) ?_
    suffices KF : ∀ fz : Int32, ((fz = 1 ∧ (True)) ∨ (fz = 0 ∧ ¬ (True))) → own_Dn p e below (own_Ret s (own_Q0 n0) 16 128) (T4.setTop (mkF m 166 #[.val (.int p1), .val (.int p2), .val (.long p3), .second, .val (.long p4), .second, .val (.long p5), .second, .val (.int (0 : Int32)), .val (.long v0), .second, .val (.long v1), .second, .val (.long v2), .second, .val (.ref b4), .unset] [(.int fz)])) by
      refine own_st (B := (T4.setTop (mkF m 124 #[.val (.int p1), .val (.int p2), .val (.long p3), .second, .val (.long p4), .second, .val (.long p5), .second, .val (.int (0 : Int32)), .val (.long v0), .second, .val (.long v1), .second, .val (.long v2), .second, .val (.ref b4), .unset] [(.int (0 : Int32))]))) (fun _ k => XS.iload X4.here hx rfl (hb hby at_122) rfl k) ?_
      refine own_st (B := (T4.setTop (mkF m 125 #[.val (.int p1), .val (.int p2), .val (.long p3), .second, .val (.long p4), .second, .val (.long p5), .second, .val (.int (0 : Int32)), .val (.long v0), .second, .val (.long v1), .second, .val (.long v2), .second, .val (.ref b4), .unset] [(.int (1 : Int32)), (.int (0 : Int32))]))) (fun _ k => XS.iconst X4.here hx rfl (hb hby at_124) k) ?_
      refine own_st (B := (T4.setTop (mkF m 135 #[.val (.int p1), .val (.int p2), .val (.long p3), .second, .val (.long p4), .second, .val (.long p5), .second, .val (.int (0 : Int32)), .val (.long v0), .second, .val (.long v1), .second, .val (.long v2), .second, .val (.ref b4), .unset] []))) (fun _ k => XS.icmpYes X4.here hx rfl (pc0 := 125) (pc' := 135) rfl (hb hby at_125) rfl (tlt (by decide)).1 (by decide) (by decide) k) ?_
      refine own_st (B := (T4.setTop (mkF m 137 #[.val (.int p1), .val (.int p2), .val (.long p3), .second, .val (.long p4), .second, .val (.long p5), .second, .val (.int (0 : Int32)), .val (.long v0), .second, .val (.long v1), .second, .val (.long v2), .second, .val (.ref b4), .unset] [(.int (0 : Int32))]))) (fun _ k => XS.iload X4.here hx rfl (hb hby at_135) rfl k) ?_
      refine own_st (B := (T4.setTop (mkF m 138 #[.val (.int p1), .val (.int p2), .val (.long p3), .second, .val (.long p4), .second, .val (.long p5), .second, .val (.int (0 : Int32)), .val (.long v0), .second, .val (.long v1), .second, .val (.long v2), .second, .val (.ref b4), .unset] [(.int (2 : Int32)), (.int (0 : Int32))]))) (fun _ k => XS.iconst X4.here hx rfl (hb hby at_137) k) ?_
      refine own_st (B := (T4.setTop (mkF m 148 #[.val (.int p1), .val (.int p2), .val (.long p3), .second, .val (.long p4), .second, .val (.long p5), .second, .val (.int (0 : Int32)), .val (.long v0), .second, .val (.long v1), .second, .val (.long v2), .second, .val (.ref b4), .unset] []))) (fun _ k => XS.icmpYes X4.here hx rfl (pc0 := 138) (pc' := 148) rfl (hb hby at_138) rfl (tlt (by decide)).1 (by decide) (by decide) k) ?_
      refine own_st (B := (T4.setTop (mkF m 150 #[.val (.int p1), .val (.int p2), .val (.long p3), .second, .val (.long p4), .second, .val (.long p5), .second, .val (.int (0 : Int32)), .val (.long v0), .second, .val (.long v1), .second, .val (.long v2), .second, .val (.ref b4), .unset] [(.int (0 : Int32))]))) (fun _ k => XS.iload X4.here hx rfl (hb hby at_148) rfl k) ?_
      refine own_st (B := (T4.setTop (mkF m 151 #[.val (.int p1), .val (.int p2), .val (.long p3), .second, .val (.long p4), .second, .val (.long p5), .second, .val (.int (0 : Int32)), .val (.long v0), .second, .val (.long v1), .second, .val (.long v2), .second, .val (.ref b4), .unset] [(.int (3 : Int32)), (.int (0 : Int32))]))) (fun _ k => XS.iconst X4.here hx rfl (hb hby at_150) k) ?_
      refine own_st (B := (T4.setTop (mkF m 161 #[.val (.int p1), .val (.int p2), .val (.long p3), .second, .val (.long p4), .second, .val (.long p5), .second, .val (.int (0 : Int32)), .val (.long v0), .second, .val (.long v1), .second, .val (.long v2), .second, .val (.ref b4), .unset] []))) (fun _ k => XS.icmpYes X4.here hx rfl (pc0 := 151) (pc' := 161) rfl (hb hby at_151) rfl (tlt (by decide)).1 (by decide) (by decide) k) ?_
      refine own_st (B := (T4.setTop (mkF m 162 #[.val (.int p1), .val (.int p2), .val (.long p3), .second, .val (.long p4), .second, .val (.long p5), .second, .val (.int (0 : Int32)), .val (.long v0), .second, .val (.long v1), .second, .val (.long v2), .second, .val (.ref b4), .unset] [(.int (1 : Int32))]))) (fun _ k => XS.iconst X4.here hx rfl (hb hby at_161) k) ?_
      refine own_st (B := (T4.setTop (mkF m 166 #[.val (.int p1), .val (.int p2), .val (.long p3), .second, .val (.long p4), .second, .val (.long p5), .second, .val (.int (0 : Int32)), .val (.long v0), .second, .val (.long v1), .second, .val (.long v2), .second, .val (.ref b4), .unset] [(.int (1 : Int32))]))) (fun _ k => XS.goto X4.here hx rfl (pc0 := 162) (pc' := 166) rfl (hb hby at_162) (by decide) (by decide) k) ?_
      exact KF _ (Or.inl ⟨rfl, trivial⟩)
    intro fz h_fz
    refine own_st (B := (T4.setTop (mkF m 168 #[.val (.int p1), .val (.int p2), .val (.long p3), .second, .val (.long p4), .second, .val (.long p5), .second, .val (.int (0 : Int32)), .val (.long v0), .second, .val (.long v1), .second, .val (.long v2), .second, .val (.ref b4), .val (.int fz)] []))) (fun _ k => XS.istore X4.here hx rfl (hb hby at_166) rfl (l' := #[.val (.int p1), .val (.int p2), .val (.long p3), .second, .val (.long p4), .second, .val (.long p5), .second, .val (.int (0 : Int32)), .val (.long v0), .second, .val (.long v1), .second, .val (.long v2), .second, .val (.ref b4), .val (.int fz)]) rfl k) ?_
    refine own_st (B := (T4.setTop (mkF m 170 #[.val (.int p1), .val (.int p2), .val (.long p3), .second, .val (.long p4), .second, .val (.long p5), .second, .val (.int (0 : Int32)), .val (.long v0), .second, .val (.long v1), .second, .val (.long v2), .second, .val (.ref b4), .val (.int fz)] [(.ref b4)]))) (fun _ k => XS.aload X4.here hx rfl (hb hby at_168) rfl rfl k) ?_
    obtain ⟨v5, T5, L5, X5, Q5, st5⟩ := own_callS (W := 0) X4 hx hZ (y := (⟨"com/example/parley/parley/Bits", "isEmpty", "([J)Z"⟩ : MethodName)) hown (hw _ (List.mem_of_getElem? (i := 1) rfl)) (hw _ (List.mem_of_getElem? (i := 2) rfl)) (hw _ (List.mem_of_getElem? (i := 3) rfl)) (hw _ (List.mem_of_getElem? (i := 4) rfl)) (by decide) e4 (rm_emp l Z a0 hw [] b4 0 0 (fun _ => (0 : Int64)) (True) fz h4 VF (by decide) (by decide) hA h_fz) (g := (mkF m 170 #[.val (.int p1), .val (.int p2), .val (.long p3), .second, .val (.long p4), .second, .val (.long p5), .second, .val (.int (0 : Int32)), .val (.long v0), .second, .val (.long v1), .second, .val (.long v2), .second, .val (.ref b4), .val (.int fz)] [(.ref b4)])) rfl (by rw [hml]; rfl) (argsL := [(.ref b4)]) (rest := []) (lenOf pd_0 rfl) rfl rfl (by show 2 * 0 + _ ≤ _; exact Nat.le_of_eq rfl) (hb hby at_170) (by decide) (by decide) (by decide) (by decide)
    obtain ⟨rfl, rfl, q5⟩ := Q5
    refine own_st (B := (T5.setTop (mkF m 173 #[.val (.int p1), .val (.int p2), .val (.long p3), .second, .val (.long p4), .second, .val (.long p5), .second, .val (.int (0 : Int32)), .val (.long v0), .second, .val (.long v1), .second, .val (.long v2), .second, .val (.ref b4), .val (.int fz)] [(.int fz)]))) st5 ?_
    refine own_st (B := (T5.setTop (mkF m 175 #[.val (.int p1), .val (.int p2), .val (.long p3), .second, .val (.long p4), .second, .val (.long p5), .second, .val (.int (0 : Int32)), .val (.long v0), .second, .val (.long v1), .second, .val (.long v2), .second, .val (.ref b4), .val (.int fz)] [(.int fz), (.int fz)]))) (fun _ k => XS.iload X5.here hx rfl (hb hby at_173) rfl k) ?_
    refine own_st (B := (T5.setTop (mkF m 178 #[.val (.int p1), .val (.int p2), .val (.long p3), .second, .val (.long p4), .second, .val (.long p5), .second, .val (.int (0 : Int32)), .val (.long v0), .second, .val (.long v1), .second, .val (.long v2), .second, .val (.ref b4), .val (.int fz)] []))) (fun _ k => XS.icmpNo X5.here hx rfl (hb hby at_175) rfl (teq rfl).2 k) ?_
    refine own_st (B := (T5.setTop (mkF m 179 #[.val (.int p1), .val (.int p2), .val (.long p3), .second, .val (.long p4), .second, .val (.long p5), .second, .val (.int (0 : Int32)), .val (.long v0), .second, .val (.long v1), .second, .val (.long v2), .second, .val (.ref b4), .val (.int fz)] [(.int (1 : Int32))]))) (fun _ k => XS.iconst X5.here hx rfl (hb hby at_178) k) ?_
    refine own_st (B := (T5.setTop (mkF m 183 #[.val (.int p1), .val (.int p2), .val (.long p3), .second, .val (.long p4), .second, .val (.long p5), .second, .val (.int (0 : Int32)), .val (.long v0), .second, .val (.long v1), .second, .val (.long v2), .second, .val (.ref b4), .val (.int fz)] [(.int (1 : Int32))]))) (fun _ k => XS.goto X5.here hx rfl (pc0 := 179) (pc' := 183) rfl (hb hby at_179) (by decide) (by decide) k) ?_
    exact own_retN X5 hx hlk (t := .boolean) hret (by simp) (hb hby at_183) (by show own_Q0 n0 _ T5.heap _; rw [q5]; exact ⟨rfl, Fr.app N0 (Fr.nil n0)⟩) (by decide) (by decide)
  · refine own_st (B := (s₁.setTop (mkF m 48 #[.val (.int p1), .val (.int p2), .val (.long p3), .second, .val (.long p4), .second, .val (.long p5), .second, .val (.int (1 : Int32)), .val (.long v0), .second, .val (.long v1), .second, .val (.long v2), .second, .unset, .unset] [(.int (1 : Int32))]))) (fun _ k => XS.iload X0.here hx rfl (hb hby at_46) rfl k) ?_
    refine own_st (B := (s₁.setTop (mkF m 59 #[.val (.int p1), .val (.int p2), .val (.long p3), .second, .val (.long p4), .second, .val (.long p5), .second, .val (.int (1 : Int32)), .val (.long v0), .second, .val (.long v1), .second, .val (.long v2), .second, .unset, .unset] []))) (fun _ k => XS.ifYes X0.here hx rfl (pc0 := 48) (pc' := 59) rfl (hb hby at_48) rfl ((if0 _ _).trans (feq (by decide)).2) (by decide) (by decide) k) ?_
    refine own_st (B := (s₁.setTop (mkF m 61 #[.val (.int p1), .val (.int p2), .val (.long p3), .second, .val (.long p4), .second, .val (.long p5), .second, .val (.int (1 : Int32)), .val (.long v0), .second, .val (.long v1), .second, .val (.long v2), .second, .unset, .unset] [(.int (1 : Int32))]))) (fun _ k => XS.iload X0.here hx rfl (hb hby at_59) rfl k) ?_
    refine own_st (B := (s₁.setTop (mkF m 62 #[.val (.int p1), .val (.int p2), .val (.long p3), .second, .val (.long p4), .second, .val (.long p5), .second, .val (.int (1 : Int32)), .val (.long v0), .second, .val (.long v1), .second, .val (.long v2), .second, .unset, .unset] [(.int (1 : Int32)), (.int (1 : Int32))]))) (fun _ k => XS.iconst X0.here hx rfl (hb hby at_61) k) ?_
    refine own_st (B := (s₁.setTop (mkF m 65 #[.val (.int p1), .val (.int p2), .val (.long p3), .second, .val (.long p4), .second, .val (.long p5), .second, .val (.int (1 : Int32)), .val (.long v0), .second, .val (.long v1), .second, .val (.long v2), .second, .unset, .unset] []))) (fun _ k => XS.icmpNo X0.here hx rfl (hb hby at_62) rfl (teq (by decide)).2 k) ?_
    refine own_st (B := (s₁.setTop (mkF m 66 #[.val (.int p1), .val (.int p2), .val (.long p3), .second, .val (.long p4), .second, .val (.long p5), .second, .val (.int (1 : Int32)), .val (.long v0), .second, .val (.long v1), .second, .val (.long v2), .second, .unset, .unset] [(.int (1 : Int32))]))) (fun _ k => XS.iconst X0.here hx rfl (hb hby at_65) k) ?_
    obtain ⟨T6, h6, k6, X6, e6, E6, A6, st6⟩ := newP X0 hx hZ (hw _ (List.mem_of_getElem? (i := 0) rfl)) e0 (g := (mkF m 66 #[.val (.int p1), .val (.int p2), .val (.long p3), .second, .val (.long p4), .second, .val (.long p5), .second, .val (.int (1 : Int32)), .val (.long v0), .second, .val (.long v1), .second, .val (.long v2), .second, .unset, .unset] [(.int (1 : Int32))])) rfl (hb hby at_66) rfl (by decide) (cap := 1) (by decide) (by decide) (by decide) (by decide)
    obtain ⟨b6, g6⟩ : ∃ z, z = h0.size := ⟨_, rfl⟩
    rw [← g6] at A6 st6
    have g_b6 : n0 ≤ b6 := Nat.le_trans Z0 (Nat.le_of_eq g6.symm)
    have Z6 : n0 ≤ h6.size := Nat.le_trans Z0 E6.1
    refine own_st (B := (T6.setTop (mkF m 68 #[.val (.int p1), .val (.int p2), .val (.long p3), .second, .val (.long p4), .second, .val (.long p5), .second, .val (.int (1 : Int32)), .val (.long v0), .second, .val (.long v1), .second, .val (.long v2), .second, .unset, .unset] [(.ref b6)]))) st6 ?_
    have V0 : own_AV Z h6 b6 .long 1 (fun _ => defaultValue .long) := own_AV.new A6 (by decide)
    refine own_st (B := (T6.setTop (mkF m 69 #[.val (.int p1), .val (.int p2), .val (.long p3), .second, .val (.long p4), .second, .val (.long p5), .second, .val (.int (1 : Int32)), .val (.long v0), .second, .val (.long v1), .second, .val (.long v2), .second, .unset, .unset] [(.ref b6), (.ref b6)]))) (fun _ k => XS.dup X6.here hx rfl (hb hby at_68) rfl rfl k) ?_
    refine own_st (B := (T6.setTop (mkF m 70 #[.val (.int p1), .val (.int p2), .val (.long p3), .second, .val (.long p4), .second, .val (.long p5), .second, .val (.int (1 : Int32)), .val (.long v0), .second, .val (.long v1), .second, .val (.long v2), .second, .unset, .unset] [(.int (0 : Int32)), (.ref b6), (.ref b6)]))) (fun _ k => XS.iconst X6.here hx rfl (hb hby at_69) k) ?_
    refine own_st (B := (T6.setTop (mkF m 72 #[.val (.int p1), .val (.int p2), .val (.long p3), .second, .val (.long p4), .second, .val (.long p5), .second, .val (.int (1 : Int32)), .val (.long v0), .second, .val (.long v1), .second, .val (.long v2), .second, .unset, .unset] [(.long v0), (.int (0 : Int32)), (.ref b6), (.ref b6)]))) (fun _ k => XS.lload X6.here hx rfl (hb hby at_70) rfl k) ?_
    obtain ⟨T7, h7, X7, e7, W7, V7, st7⟩ := own_stJ X6 hx hZ e6 V0 (i := 0) (by decide) (by decide) (by decide) (g := (mkF m 72 #[.val (.int p1), .val (.int p2), .val (.long p3), .second, .val (.long p4), .second, .val (.long p5), .second, .val (.int (1 : Int32)), .val (.long v0), .second, .val (.long v1), .second, .val (.long v2), .second, .unset, .unset] [(.long v0), (.int (0 : Int32)), (.ref b6), (.ref b6)])) rfl rfl (hb hby at_72)
    refine own_st (B := (T7.setTop (mkF m 73 #[.val (.int p1), .val (.int p2), .val (.long p3), .second, .val (.long p4), .second, .val (.long p5), .second, .val (.int (1 : Int32)), .val (.long v0), .second, .val (.long v1), .second, .val (.long v2), .second, .unset, .unset] [(.ref b6)]))) st7 ?_
    have N7 := Fr.snoc X7 N0 g_b6
    have VF : own_AV Z h7 b6 .long 1 (fun i => .long ((fun _ => v0) i)) := V7.congr fun i hi => by
      have hi' : i = 0 := by omega
      rcases hi' with rfl <;> rfl
    have hA : (v0 = 0) ↔ ∀ q, q < 1 → (fun _ => v0) q = 0 := by
      constructor
      · intro h q hq
        have hq' : q = 0 := by omega
        rcases hq' with rfl
        · exact h
      · intro h
        exact h 0 (by decide)
    refine own_st (B := (T7.setTop (mkF m 75 #[.val (.int p1), .val (.int p2), .val (.long p3), .second, .val (.long p4), .second, .val (.long p5), .second, .val (.int (1 : Int32)), .val (.long v0), .second, .val (.long v1), .second, .val (.long v2), .second, .val (.ref b6), .unset] []))) (fun _ k => XS.astore X7.here hx rfl (hb hby at_73) rfl rfl (l' := #[.val (.int p1), .val (.int p2), .val (.long p3), .second, .val (.long p4), .second, .val (.long p5), .second, .val (.int (1 : Int32)), .val (.long v0), .second, .val (.long v1), .second, .val (.long v2), .second, .val (.ref b6), .unset]) rfl k) ?_
    refine own_st (B := (T7.setTop (mkF m 122 #[.val (.int p1), .val (.int p2), .val (.long p3), .second, .val (.long p4), .second, .val (.long p5), .second, .val (.int (1 : Int32)), .val (.long v0), .second, .val (.long v1), .second, .val (.long v2), .second, .val (.ref b6), .unset] []))) (fun _ k => XS.goto X7.here hx rfl (pc0 := 75) (pc' := 122) rfl (hb hby at_75) (by decide) (by decide) k) ?_
    suffices KF : ∀ fz : Int32, ((fz = 1 ∧ (v0 = 0)) ∨ (fz = 0 ∧ ¬ (v0 = 0))) → own_Dn p e below (own_Ret s (own_Q0 n0) 16 128) (T7.setTop (mkF m 166 #[.val (.int p1), .val (.int p2), .val (.long p3), .second, .val (.long p4), .second, .val (.long p5), .second, .val (.int (1 : Int32)), .val (.long v0), .second, .val (.long v1), .second, .val (.long v2), .second, .val (.ref b6), .unset] [(.int fz)])) by
      refine own_st (B := (T7.setTop (mkF m 124 #[.val (.int p1), .val (.int p2), .val (.long p3), .second, .val (.long p4), .second, .val (.long p5), .second, .val (.int (1 : Int32)), .val (.long v0), .second, .val (.long v1), .second, .val (.long v2), .second, .val (.ref b6), .unset] [(.int (1 : Int32))]))) (fun _ k => XS.iload X7.here hx rfl (hb hby at_122) rfl k) ?_
      refine own_st (B := (T7.setTop (mkF m 125 #[.val (.int p1), .val (.int p2), .val (.long p3), .second, .val (.long p4), .second, .val (.long p5), .second, .val (.int (1 : Int32)), .val (.long v0), .second, .val (.long v1), .second, .val (.long v2), .second, .val (.ref b6), .unset] [(.int (1 : Int32)), (.int (1 : Int32))]))) (fun _ k => XS.iconst X7.here hx rfl (hb hby at_124) k) ?_
      refine own_st (B := (T7.setTop (mkF m 128 #[.val (.int p1), .val (.int p2), .val (.long p3), .second, .val (.long p4), .second, .val (.long p5), .second, .val (.int (1 : Int32)), .val (.long v0), .second, .val (.long v1), .second, .val (.long v2), .second, .val (.ref b6), .unset] []))) (fun _ k => XS.icmpNo X7.here hx rfl (hb hby at_125) rfl (flt (by decide)).1 k) ?_
      refine own_st (B := (T7.setTop (mkF m 130 #[.val (.int p1), .val (.int p2), .val (.long p3), .second, .val (.long p4), .second, .val (.long p5), .second, .val (.int (1 : Int32)), .val (.long v0), .second, .val (.long v1), .second, .val (.long v2), .second, .val (.ref b6), .unset] [(.long v0)]))) (fun _ k => XS.lload X7.here hx rfl (hb hby at_128) rfl k) ?_
      refine own_st (B := (T7.setTop (mkF m 131 #[.val (.int p1), .val (.int p2), .val (.long p3), .second, .val (.long p4), .second, .val (.long p5), .second, .val (.int (1 : Int32)), .val (.long v0), .second, .val (.long v1), .second, .val (.long v2), .second, .val (.ref b6), .unset] [(.long (0 : Int64)), (.long v0)]))) (fun _ k => XS.lconst X7.here hx rfl (hb hby at_130) k) ?_
      refine own_st (B := (T7.setTop (mkF m 132 #[.val (.int p1), .val (.int p2), .val (.long p3), .second, .val (.long p4), .second, .val (.long p5), .second, .val (.int (1 : Int32)), .val (.long v0), .second, .val (.long v1), .second, .val (.long v2), .second, .val (.ref b6), .unset] [(.int (lcmpW v0 (0 : Int64)))]))) (fun _ k => XS.lcmp X7.here hx rfl (hb hby at_131) rfl k) ?_
      by_cases c132_8 : v0 = (0 : Int64)
      · refine own_st (B := (T7.setTop (mkF m 135 #[.val (.int p1), .val (.int p2), .val (.long p3), .second, .val (.long p4), .second, .val (.long p5), .second, .val (.int (1 : Int32)), .val (.long v0), .second, .val (.long v1), .second, .val (.long v2), .second, .val (.ref b6), .unset] []))) (fun _ k => XS.ifNo X7.here hx rfl (hb hby at_132) rfl ((if0 _ _).trans (teq ((lw_eq v0 (0 : Int64)).mpr c132_8)).2) k) ?_
        refine own_st (B := (T7.setTop (mkF m 137 #[.val (.int p1), .val (.int p2), .val (.long p3), .second, .val (.long p4), .second, .val (.long p5), .second, .val (.int (1 : Int32)), .val (.long v0), .second, .val (.long v1), .second, .val (.long v2), .second, .val (.ref b6), .unset] [(.int (1 : Int32))]))) (fun _ k => XS.iload X7.here hx rfl (hb hby at_135) rfl k) ?_
        refine own_st (B := (T7.setTop (mkF m 138 #[.val (.int p1), .val (.int p2), .val (.long p3), .second, .val (.long p4), .second, .val (.long p5), .second, .val (.int (1 : Int32)), .val (.long v0), .second, .val (.long v1), .second, .val (.long v2), .second, .val (.ref b6), .unset] [(.int (2 : Int32)), (.int (1 : Int32))]))) (fun _ k => XS.iconst X7.here hx rfl (hb hby at_137) k) ?_
        refine own_st (B := (T7.setTop (mkF m 148 #[.val (.int p1), .val (.int p2), .val (.long p3), .second, .val (.long p4), .second, .val (.long p5), .second, .val (.int (1 : Int32)), .val (.long v0), .second, .val (.long v1), .second, .val (.long v2), .second, .val (.ref b6), .unset] []))) (fun _ k => XS.icmpYes X7.here hx rfl (pc0 := 138) (pc' := 148) rfl (hb hby at_138) rfl (tlt (by decide)).1 (by decide) (by decide) k) ?_
        refine own_st (B := (T7.setTop (mkF m 150 #[.val (.int p1), .val (.int p2), .val (.long p3), .second, .val (.long p4), .second, .val (.long p5), .second, .val (.int (1 : Int32)), .val (.long v0), .second, .val (.long v1), .second, .val (.long v2), .second, .val (.ref b6), .unset] [(.int (1 : Int32))]))) (fun _ k => XS.iload X7.here hx rfl (hb hby at_148) rfl k) ?_
        refine own_st (B := (T7.setTop (mkF m 151 #[.val (.int p1), .val (.int p2), .val (.long p3), .second, .val (.long p4), .second, .val (.long p5), .second, .val (.int (1 : Int32)), .val (.long v0), .second, .val (.long v1), .second, .val (.long v2), .second, .val (.ref b6), .unset] [(.int (3 : Int32)), (.int (1 : Int32))]))) (fun _ k => XS.iconst X7.here hx rfl (hb hby at_150) k) ?_
        refine own_st (B := (T7.setTop (mkF m 161 #[.val (.int p1), .val (.int p2), .val (.long p3), .second, .val (.long p4), .second, .val (.long p5), .second, .val (.int (1 : Int32)), .val (.long v0), .second, .val (.long v1), .second, .val (.long v2), .second, .val (.ref b6), .unset] []))) (fun _ k => XS.icmpYes X7.here hx rfl (pc0 := 151) (pc' := 161) rfl (hb hby at_151) rfl (tlt (by decide)).1 (by decide) (by decide) k) ?_
        refine own_st (B := (T7.setTop (mkF m 162 #[.val (.int p1), .val (.int p2), .val (.long p3), .second, .val (.long p4), .second, .val (.long p5), .second, .val (.int (1 : Int32)), .val (.long v0), .second, .val (.long v1), .second, .val (.long v2), .second, .val (.ref b6), .unset] [(.int (1 : Int32))]))) (fun _ k => XS.iconst X7.here hx rfl (hb hby at_161) k) ?_
        refine own_st (B := (T7.setTop (mkF m 166 #[.val (.int p1), .val (.int p2), .val (.long p3), .second, .val (.long p4), .second, .val (.long p5), .second, .val (.int (1 : Int32)), .val (.long v0), .second, .val (.long v1), .second, .val (.long v2), .second, .val (.ref b6), .unset] [(.int (1 : Int32))]))) (fun _ k => XS.goto X7.here hx rfl (pc0 := 162) (pc' := 166) rfl (hb hby at_162) (by decide) (by decide) k) ?_
        exact KF _ (Or.inl ⟨rfl, c132_8⟩)
      · refine own_st (B := (T7.setTop (mkF m 165 #[.val (.int p1), .val (.int p2), .val (.long p3), .second, .val (.long p4), .second, .val (.long p5), .second, .val (.int (1 : Int32)), .val (.long v0), .second, .val (.long v1), .second, .val (.long v2), .second, .val (.ref b6), .unset] []))) (fun _ k => XS.ifYes X7.here hx rfl (pc0 := 132) (pc' := 165) rfl (hb hby at_132) rfl ((if0 _ _).trans (feq (mt (lw_eq v0 (0 : Int64)).mp c132_8)).2) (by decide) (by decide) k) ?_
        refine own_st (B := (T7.setTop (mkF m 166 #[.val (.int p1), .val (.int p2), .val (.long p3), .second, .val (.long p4), .second, .val (.long p5), .second, .val (.int (1 : Int32)), .val (.long v0), .second, .val (.long v1), .second, .val (.long v2), .second, .val (.ref b6), .unset] [(.int (0 : Int32))]))) (fun _ k => XS.iconst X7.here hx rfl (hb hby at_165) k) ?_
        exact KF _ (Or.inr ⟨rfl, fun q => c132_8 q⟩)
    intro fz h_fz
    refine own_st (B := (T7.setTop (mkF m 168 #[.val (.int p1), .val (.int p2), .val (.long p3), .second, .val (.long p4), .second, .val (.long p5), .second, .val (.int (1 : Int32)), .val (.long v0), .second, .val (.long v1), .second, .val (.long v2), .second, .val (.ref b6), .val (.int fz)] []))) (fun _ k => XS.istore X7.here hx rfl (hb hby at_166) rfl (l' := #[.val (.int p1), .val (.int p2), .val (.long p3), .second, .val (.long p4), .second, .val (.long p5), .second, .val (.int (1 : Int32)), .val (.long v0), .second, .val (.long v1), .second, .val (.long v2), .second, .val (.ref b6), .val (.int fz)]) rfl k) ?_
    refine own_st (B := (T7.setTop (mkF m 170 #[.val (.int p1), .val (.int p2), .val (.long p3), .second, .val (.long p4), .second, .val (.long p5), .second, .val (.int (1 : Int32)), .val (.long v0), .second, .val (.long v1), .second, .val (.long v2), .second, .val (.ref b6), .val (.int fz)] [(.ref b6)]))) (fun _ k => XS.aload X7.here hx rfl (hb hby at_168) rfl rfl k) ?_
    obtain ⟨v9, T9, L9, X9, Q9, st9⟩ := own_callS (W := 0) X7 hx hZ (y := (⟨"com/example/parley/parley/Bits", "isEmpty", "([J)Z"⟩ : MethodName)) hown (hw _ (List.mem_of_getElem? (i := 1) rfl)) (hw _ (List.mem_of_getElem? (i := 2) rfl)) (hw _ (List.mem_of_getElem? (i := 3) rfl)) (hw _ (List.mem_of_getElem? (i := 4) rfl)) (by decide) e7 (rm_emp l Z a0 hw [] b6 1 1 (fun _ => v0) (v0 = 0) fz h7 VF (by decide) (by decide) hA h_fz) (g := (mkF m 170 #[.val (.int p1), .val (.int p2), .val (.long p3), .second, .val (.long p4), .second, .val (.long p5), .second, .val (.int (1 : Int32)), .val (.long v0), .second, .val (.long v1), .second, .val (.long v2), .second, .val (.ref b6), .val (.int fz)] [(.ref b6)])) rfl (by rw [hml]; rfl) (argsL := [(.ref b6)]) (rest := []) (lenOf pd_0 rfl) rfl rfl (by show 2 * 0 + _ ≤ _; exact Nat.le_of_eq rfl) (hb hby at_170) (by decide) (by decide) (by decide) (by decide)
    obtain ⟨rfl, rfl, q9⟩ := Q9
    refine own_st (B := (T9.setTop (mkF m 173 #[.val (.int p1), .val (.int p2), .val (.long p3), .second, .val (.long p4), .second, .val (.long p5), .second, .val (.int (1 : Int32)), .val (.long v0), .second, .val (.long v1), .second, .val (.long v2), .second, .val (.ref b6), .val (.int fz)] [(.int fz)]))) st9 ?_
    refine own_st (B := (T9.setTop (mkF m 175 #[.val (.int p1), .val (.int p2), .val (.long p3), .second, .val (.long p4), .second, .val (.long p5), .second, .val (.int (1 : Int32)), .val (.long v0), .second, .val (.long v1), .second, .val (.long v2), .second, .val (.ref b6), .val (.int fz)] [(.int fz), (.int fz)]))) (fun _ k => XS.iload X9.here hx rfl (hb hby at_173) rfl k) ?_
    refine own_st (B := (T9.setTop (mkF m 178 #[.val (.int p1), .val (.int p2), .val (.long p3), .second, .val (.long p4), .second, .val (.long p5), .second, .val (.int (1 : Int32)), .val (.long v0), .second, .val (.long v1), .second, .val (.long v2), .second, .val (.ref b6), .val (.int fz)] []))) (fun _ k => XS.icmpNo X9.here hx rfl (hb hby at_175) rfl (teq rfl).2 k) ?_
    refine own_st (B := (T9.setTop (mkF m 179 #[.val (.int p1), .val (.int p2), .val (.long p3), .second, .val (.long p4), .second, .val (.long p5), .second, .val (.int (1 : Int32)), .val (.long v0), .second, .val (.long v1), .second, .val (.long v2), .second, .val (.ref b6), .val (.int fz)] [(.int (1 : Int32))]))) (fun _ k => XS.iconst X9.here hx rfl (hb hby at_178) k) ?_
    refine own_st (B := (T9.setTop (mkF m 183 #[.val (.int p1), .val (.int p2), .val (.long p3), .second, .val (.long p4), .second, .val (.long p5), .second, .val (.int (1 : Int32)), .val (.long v0), .second, .val (.long v1), .second, .val (.long v2), .second, .val (.ref b6), .val (.int fz)] [(.int (1 : Int32))]))) (fun _ k => XS.goto X9.here hx rfl (pc0 := 179) (pc' := 183) rfl (hb hby at_179) (by decide) (by decide) k) ?_
    exact own_retN X9 hx hlk (t := .boolean) hret (by simp) (hb hby at_183) (by show own_Q0 n0 _ T9.heap _; rw [q9]; exact ⟨rfl, Fr.app N7 (Fr.nil n0)⟩) (by decide) (by decide)
  · refine own_st (B := (s₁.setTop (mkF m 48 #[.val (.int p1), .val (.int p2), .val (.long p3), .second, .val (.long p4), .second, .val (.long p5), .second, .val (.int (2 : Int32)), .val (.long v0), .second, .val (.long v1), .second, .val (.long v2), .second, .unset, .unset] [(.int (2 : Int32))]))) (fun _ k => XS.iload X0.here hx rfl (hb hby at_46) rfl k) ?_
    refine own_st (B := (s₁.setTop (mkF m 59 #[.val (.int p1), .val (.int p2), .val (.long p3), .second, .val (.long p4), .second, .val (.long p5), .second, .val (.int (2 : Int32)), .val (.long v0), .second, .val (.long v1), .second, .val (.long v2), .second, .unset, .unset] []))) (fun _ k => XS.ifYes X0.here hx rfl (pc0 := 48) (pc' := 59) rfl (hb hby at_48) rfl ((if0 _ _).trans (feq (by decide)).2) (by decide) (by decide) k) ?_
    refine own_st (B := (s₁.setTop (mkF m 61 #[.val (.int p1), .val (.int p2), .val (.long p3), .second, .val (.long p4), .second, .val (.long p5), .second, .val (.int (2 : Int32)), .val (.long v0), .second, .val (.long v1), .second, .val (.long v2), .second, .unset, .unset] [(.int (2 : Int32))]))) (fun _ k => XS.iload X0.here hx rfl (hb hby at_59) rfl k) ?_
    refine own_st (B := (s₁.setTop (mkF m 62 #[.val (.int p1), .val (.int p2), .val (.long p3), .second, .val (.long p4), .second, .val (.long p5), .second, .val (.int (2 : Int32)), .val (.long v0), .second, .val (.long v1), .second, .val (.long v2), .second, .unset, .unset] [(.int (1 : Int32)), (.int (2 : Int32))]))) (fun _ k => XS.iconst X0.here hx rfl (hb hby at_61) k) ?_
    refine own_st (B := (s₁.setTop (mkF m 78 #[.val (.int p1), .val (.int p2), .val (.long p3), .second, .val (.long p4), .second, .val (.long p5), .second, .val (.int (2 : Int32)), .val (.long v0), .second, .val (.long v1), .second, .val (.long v2), .second, .unset, .unset] []))) (fun _ k => XS.icmpYes X0.here hx rfl (pc0 := 62) (pc' := 78) rfl (hb hby at_62) rfl (feq (by decide)).2 (by decide) (by decide) k) ?_
    refine own_st (B := (s₁.setTop (mkF m 80 #[.val (.int p1), .val (.int p2), .val (.long p3), .second, .val (.long p4), .second, .val (.long p5), .second, .val (.int (2 : Int32)), .val (.long v0), .second, .val (.long v1), .second, .val (.long v2), .second, .unset, .unset] [(.int (2 : Int32))]))) (fun _ k => XS.iload X0.here hx rfl (hb hby at_78) rfl k) ?_
    refine own_st (B := (s₁.setTop (mkF m 81 #[.val (.int p1), .val (.int p2), .val (.long p3), .second, .val (.long p4), .second, .val (.long p5), .second, .val (.int (2 : Int32)), .val (.long v0), .second, .val (.long v1), .second, .val (.long v2), .second, .unset, .unset] [(.int (2 : Int32)), (.int (2 : Int32))]))) (fun _ k => XS.iconst X0.here hx rfl (hb hby at_80) k) ?_
    refine own_st (B := (s₁.setTop (mkF m 84 #[.val (.int p1), .val (.int p2), .val (.long p3), .second, .val (.long p4), .second, .val (.long p5), .second, .val (.int (2 : Int32)), .val (.long v0), .second, .val (.long v1), .second, .val (.long v2), .second, .unset, .unset] []))) (fun _ k => XS.icmpNo X0.here hx rfl (hb hby at_81) rfl (teq (by decide)).2 k) ?_
    refine own_st (B := (s₁.setTop (mkF m 85 #[.val (.int p1), .val (.int p2), .val (.long p3), .second, .val (.long p4), .second, .val (.long p5), .second, .val (.int (2 : Int32)), .val (.long v0), .second, .val (.long v1), .second, .val (.long v2), .second, .unset, .unset] [(.int (2 : Int32))]))) (fun _ k => XS.iconst X0.here hx rfl (hb hby at_84) k) ?_
    obtain ⟨T10, h10, k10, X10, e10, E10, A10, st10⟩ := newP X0 hx hZ (hw _ (List.mem_of_getElem? (i := 0) rfl)) e0 (g := (mkF m 85 #[.val (.int p1), .val (.int p2), .val (.long p3), .second, .val (.long p4), .second, .val (.long p5), .second, .val (.int (2 : Int32)), .val (.long v0), .second, .val (.long v1), .second, .val (.long v2), .second, .unset, .unset] [(.int (2 : Int32))])) rfl (hb hby at_85) rfl (by decide) (cap := 2) (by decide) (by decide) (by decide) (by decide)
    obtain ⟨b10, g10⟩ : ∃ z, z = h0.size := ⟨_, rfl⟩
    rw [← g10] at A10 st10
    have g_b10 : n0 ≤ b10 := Nat.le_trans Z0 (Nat.le_of_eq g10.symm)
    have Z10 : n0 ≤ h10.size := Nat.le_trans Z0 E10.1
    refine own_st (B := (T10.setTop (mkF m 87 #[.val (.int p1), .val (.int p2), .val (.long p3), .second, .val (.long p4), .second, .val (.long p5), .second, .val (.int (2 : Int32)), .val (.long v0), .second, .val (.long v1), .second, .val (.long v2), .second, .unset, .unset] [(.ref b10)]))) st10 ?_
    have V0 : own_AV Z h10 b10 .long 2 (fun _ => defaultValue .long) := own_AV.new A10 (by decide)
    refine own_st (B := (T10.setTop (mkF m 88 #[.val (.int p1), .val (.int p2), .val (.long p3), .second, .val (.long p4), .second, .val (.long p5), .second, .val (.int (2 : Int32)), .val (.long v0), .second, .val (.long v1), .second, .val (.long v2), .second, .unset, .unset] [(.ref b10), (.ref b10)]))) (fun _ k => XS.dup X10.here hx rfl (hb hby at_87) rfl rfl k) ?_
    refine own_st (B := (T10.setTop (mkF m 89 #[.val (.int p1), .val (.int p2), .val (.long p3), .second, .val (.long p4), .second, .val (.long p5), .second, .val (.int (2 : Int32)), .val (.long v0), .second, .val (.long v1), .second, .val (.long v2), .second, .unset, .unset] [(.int (0 : Int32)), (.ref b10), (.ref b10)]))) (fun _ k => XS.iconst X10.here hx rfl (hb hby at_88) k) ?_
    refine own_st (B := (T10.setTop (mkF m 91 #[.val (.int p1), .val (.int p2), .val (.long p3), .second, .val (.long p4), .second, .val (.long p5), .second, .val (.int (2 : Int32)), .val (.long v0), .second, .val (.long v1), .second, .val (.long v2), .second, .unset, .unset] [(.long v0), (.int (0 : Int32)), (.ref b10), (.ref b10)]))) (fun _ k => XS.lload X10.here hx rfl (hb hby at_89) rfl k) ?_
    obtain ⟨T11, h11, X11, e11, W11, V11, st11⟩ := own_stJ X10 hx hZ e10 V0 (i := 0) (by decide) (by decide) (by decide) (g := (mkF m 91 #[.val (.int p1), .val (.int p2), .val (.long p3), .second, .val (.long p4), .second, .val (.long p5), .second, .val (.int (2 : Int32)), .val (.long v0), .second, .val (.long v1), .second, .val (.long v2), .second, .unset, .unset] [(.long v0), (.int (0 : Int32)), (.ref b10), (.ref b10)])) rfl rfl (hb hby at_91)
    refine own_st (B := (T11.setTop (mkF m 92 #[.val (.int p1), .val (.int p2), .val (.long p3), .second, .val (.long p4), .second, .val (.long p5), .second, .val (.int (2 : Int32)), .val (.long v0), .second, .val (.long v1), .second, .val (.long v2), .second, .unset, .unset] [(.ref b10)]))) st11 ?_
    have N11 := Fr.snoc X11 N0 g_b10
    refine own_st (B := (T11.setTop (mkF m 93 #[.val (.int p1), .val (.int p2), .val (.long p3), .second, .val (.long p4), .second, .val (.long p5), .second, .val (.int (2 : Int32)), .val (.long v0), .second, .val (.long v1), .second, .val (.long v2), .second, .unset, .unset] [(.ref b10), (.ref b10)]))) (fun _ k => XS.dup X11.here hx rfl (hb hby at_92) rfl rfl k) ?_
    refine own_st (B := (T11.setTop (mkF m 94 #[.val (.int p1), .val (.int p2), .val (.long p3), .second, .val (.long p4), .second, .val (.long p5), .second, .val (.int (2 : Int32)), .val (.long v0), .second, .val (.long v1), .second, .val (.long v2), .second, .unset, .unset] [(.int (1 : Int32)), (.ref b10), (.ref b10)]))) (fun _ k => XS.iconst X11.here hx rfl (hb hby at_93) k) ?_
    refine own_st (B := (T11.setTop (mkF m 96 #[.val (.int p1), .val (.int p2), .val (.long p3), .second, .val (.long p4), .second, .val (.long p5), .second, .val (.int (2 : Int32)), .val (.long v0), .second, .val (.long v1), .second, .val (.long v2), .second, .unset, .unset] [(.long v1), (.int (1 : Int32)), (.ref b10), (.ref b10)]))) (fun _ k => XS.lload X11.here hx rfl (hb hby at_94) rfl k) ?_
    obtain ⟨T12, h12, X12, e12, W12, V12, st12⟩ := own_stJ X11 hx hZ e11 V11 (i := 1) (by decide) (by decide) (by decide) (g := (mkF m 96 #[.val (.int p1), .val (.int p2), .val (.long p3), .second, .val (.long p4), .second, .val (.long p5), .second, .val (.int (2 : Int32)), .val (.long v0), .second, .val (.long v1), .second, .val (.long v2), .second, .unset, .unset] [(.long v1), (.int (1 : Int32)), (.ref b10), (.ref b10)])) rfl rfl (hb hby at_96)
    refine own_st (B := (T12.setTop (mkF m 97 #[.val (.int p1), .val (.int p2), .val (.long p3), .second, .val (.long p4), .second, .val (.long p5), .second, .val (.int (2 : Int32)), .val (.long v0), .second, .val (.long v1), .second, .val (.long v2), .second, .unset, .unset] [(.ref b10)]))) st12 ?_
    have N12 := Fr.snoc X12 N11 g_b10
    have VF : own_AV Z h12 b10 .long 2 (fun i => .long ((fun i => if i = 1 then v1 else v0) i)) := V12.congr fun i hi => by
      have hi' : i = 0 ∨ i = 1 := by omega
      rcases hi' with rfl | rfl <;> rfl
    have hA : (v0 = 0 ∧ v1 = 0) ↔ ∀ q, q < 2 → (fun i => if i = 1 then v1 else v0) q = 0 := by
      constructor
      · intro h q hq
        have hq' : q = 0 ∨ q = 1 := by omega
        rcases hq' with rfl | rfl
        · exact h.1
        · exact h.2
      · intro h
        exact ⟨h 0 (by decide), h 1 (by decide)⟩
    refine own_st (B := (T12.setTop (mkF m 99 #[.val (.int p1), .val (.int p2), .val (.long p3), .second, .val (.long p4), .second, .val (.long p5), .second, .val (.int (2 : Int32)), .val (.long v0), .second, .val (.long v1), .second, .val (.long v2), .second, .val (.ref b10), .unset] []))) (fun _ k => XS.astore X12.here hx rfl (hb hby at_97) rfl rfl (l' := #[.val (.int p1), .val (.int p2), .val (.long p3), .second, .val (.long p4), .second, .val (.long p5), .second, .val (.int (2 : Int32)), .val (.long v0), .second, .val (.long v1), .second, .val (.long v2), .second, .val (.ref b10), .unset]) rfl k) ?_
    refine own_st (B := (T12.setTop (mkF m 122 #[.val (.int p1), .val (.int p2), .val (.long p3), .second, .val (.long p4), .second, .val (.long p5), .second, .val (.int (2 : Int32)), .val (.long v0), .second, .val (.long v1), .second, .val (.long v2), .second, .val (.ref b10), .unset] []))) (fun _ k => XS.goto X12.here hx rfl (pc0 := 99) (pc' := 122) rfl (hb hby at_99) (by decide) (by decide) k) ?_
    suffices KF : ∀ fz : Int32, ((fz = 1 ∧ (v0 = 0 ∧ v1 = 0)) ∨ (fz = 0 ∧ ¬ (v0 = 0 ∧ v1 = 0))) → own_Dn p e below (own_Ret s (own_Q0 n0) 16 128) (T12.setTop (mkF m 166 #[.val (.int p1), .val (.int p2), .val (.long p3), .second, .val (.long p4), .second, .val (.long p5), .second, .val (.int (2 : Int32)), .val (.long v0), .second, .val (.long v1), .second, .val (.long v2), .second, .val (.ref b10), .unset] [(.int fz)])) by
      refine own_st (B := (T12.setTop (mkF m 124 #[.val (.int p1), .val (.int p2), .val (.long p3), .second, .val (.long p4), .second, .val (.long p5), .second, .val (.int (2 : Int32)), .val (.long v0), .second, .val (.long v1), .second, .val (.long v2), .second, .val (.ref b10), .unset] [(.int (2 : Int32))]))) (fun _ k => XS.iload X12.here hx rfl (hb hby at_122) rfl k) ?_
      refine own_st (B := (T12.setTop (mkF m 125 #[.val (.int p1), .val (.int p2), .val (.long p3), .second, .val (.long p4), .second, .val (.long p5), .second, .val (.int (2 : Int32)), .val (.long v0), .second, .val (.long v1), .second, .val (.long v2), .second, .val (.ref b10), .unset] [(.int (1 : Int32)), (.int (2 : Int32))]))) (fun _ k => XS.iconst X12.here hx rfl (hb hby at_124) k) ?_
      refine own_st (B := (T12.setTop (mkF m 128 #[.val (.int p1), .val (.int p2), .val (.long p3), .second, .val (.long p4), .second, .val (.long p5), .second, .val (.int (2 : Int32)), .val (.long v0), .second, .val (.long v1), .second, .val (.long v2), .second, .val (.ref b10), .unset] []))) (fun _ k => XS.icmpNo X12.here hx rfl (hb hby at_125) rfl (flt (by decide)).1 k) ?_
      refine own_st (B := (T12.setTop (mkF m 130 #[.val (.int p1), .val (.int p2), .val (.long p3), .second, .val (.long p4), .second, .val (.long p5), .second, .val (.int (2 : Int32)), .val (.long v0), .second, .val (.long v1), .second, .val (.long v2), .second, .val (.ref b10), .unset] [(.long v0)]))) (fun _ k => XS.lload X12.here hx rfl (hb hby at_128) rfl k) ?_
      refine own_st (B := (T12.setTop (mkF m 131 #[.val (.int p1), .val (.int p2), .val (.long p3), .second, .val (.long p4), .second, .val (.long p5), .second, .val (.int (2 : Int32)), .val (.long v0), .second, .val (.long v1), .second, .val (.long v2), .second, .val (.ref b10), .unset] [(.long (0 : Int64)), (.long v0)]))) (fun _ k => XS.lconst X12.here hx rfl (hb hby at_130) k) ?_
      refine own_st (B := (T12.setTop (mkF m 132 #[.val (.int p1), .val (.int p2), .val (.long p3), .second, .val (.long p4), .second, .val (.long p5), .second, .val (.int (2 : Int32)), .val (.long v0), .second, .val (.long v1), .second, .val (.long v2), .second, .val (.ref b10), .unset] [(.int (lcmpW v0 (0 : Int64)))]))) (fun _ k => XS.lcmp X12.here hx rfl (hb hby at_131) rfl k) ?_
      by_cases c132_13 : v0 = (0 : Int64)
      · refine own_st (B := (T12.setTop (mkF m 135 #[.val (.int p1), .val (.int p2), .val (.long p3), .second, .val (.long p4), .second, .val (.long p5), .second, .val (.int (2 : Int32)), .val (.long v0), .second, .val (.long v1), .second, .val (.long v2), .second, .val (.ref b10), .unset] []))) (fun _ k => XS.ifNo X12.here hx rfl (hb hby at_132) rfl ((if0 _ _).trans (teq ((lw_eq v0 (0 : Int64)).mpr c132_13)).2) k) ?_
        refine own_st (B := (T12.setTop (mkF m 137 #[.val (.int p1), .val (.int p2), .val (.long p3), .second, .val (.long p4), .second, .val (.long p5), .second, .val (.int (2 : Int32)), .val (.long v0), .second, .val (.long v1), .second, .val (.long v2), .second, .val (.ref b10), .unset] [(.int (2 : Int32))]))) (fun _ k => XS.iload X12.here hx rfl (hb hby at_135) rfl k) ?_
        refine own_st (B := (T12.setTop (mkF m 138 #[.val (.int p1), .val (.int p2), .val (.long p3), .second, .val (.long p4), .second, .val (.long p5), .second, .val (.int (2 : Int32)), .val (.long v0), .second, .val (.long v1), .second, .val (.long v2), .second, .val (.ref b10), .unset] [(.int (2 : Int32)), (.int (2 : Int32))]))) (fun _ k => XS.iconst X12.here hx rfl (hb hby at_137) k) ?_
        refine own_st (B := (T12.setTop (mkF m 141 #[.val (.int p1), .val (.int p2), .val (.long p3), .second, .val (.long p4), .second, .val (.long p5), .second, .val (.int (2 : Int32)), .val (.long v0), .second, .val (.long v1), .second, .val (.long v2), .second, .val (.ref b10), .unset] []))) (fun _ k => XS.icmpNo X12.here hx rfl (hb hby at_138) rfl (flt (by decide)).1 k) ?_
        refine own_st (B := (T12.setTop (mkF m 143 #[.val (.int p1), .val (.int p2), .val (.long p3), .second, .val (.long p4), .second, .val (.long p5), .second, .val (.int (2 : Int32)), .val (.long v0), .second, .val (.long v1), .second, .val (.long v2), .second, .val (.ref b10), .unset] [(.long v1)]))) (fun _ k => XS.lload X12.here hx rfl (hb hby at_141) rfl k) ?_
        refine own_st (B := (T12.setTop (mkF m 144 #[.val (.int p1), .val (.int p2), .val (.long p3), .second, .val (.long p4), .second, .val (.long p5), .second, .val (.int (2 : Int32)), .val (.long v0), .second, .val (.long v1), .second, .val (.long v2), .second, .val (.ref b10), .unset] [(.long (0 : Int64)), (.long v1)]))) (fun _ k => XS.lconst X12.here hx rfl (hb hby at_143) k) ?_
        refine own_st (B := (T12.setTop (mkF m 145 #[.val (.int p1), .val (.int p2), .val (.long p3), .second, .val (.long p4), .second, .val (.long p5), .second, .val (.int (2 : Int32)), .val (.long v0), .second, .val (.long v1), .second, .val (.long v2), .second, .val (.ref b10), .unset] [(.int (lcmpW v1 (0 : Int64)))]))) (fun _ k => XS.lcmp X12.here hx rfl (hb hby at_144) rfl k) ?_
        by_cases c145_14 : v1 = (0 : Int64)
        · refine own_st (B := (T12.setTop (mkF m 148 #[.val (.int p1), .val (.int p2), .val (.long p3), .second, .val (.long p4), .second, .val (.long p5), .second, .val (.int (2 : Int32)), .val (.long v0), .second, .val (.long v1), .second, .val (.long v2), .second, .val (.ref b10), .unset] []))) (fun _ k => XS.ifNo X12.here hx rfl (hb hby at_145) rfl ((if0 _ _).trans (teq ((lw_eq v1 (0 : Int64)).mpr c145_14)).2) k) ?_
          refine own_st (B := (T12.setTop (mkF m 150 #[.val (.int p1), .val (.int p2), .val (.long p3), .second, .val (.long p4), .second, .val (.long p5), .second, .val (.int (2 : Int32)), .val (.long v0), .second, .val (.long v1), .second, .val (.long v2), .second, .val (.ref b10), .unset] [(.int (2 : Int32))]))) (fun _ k => XS.iload X12.here hx rfl (hb hby at_148) rfl k) ?_
          refine own_st (B := (T12.setTop (mkF m 151 #[.val (.int p1), .val (.int p2), .val (.long p3), .second, .val (.long p4), .second, .val (.long p5), .second, .val (.int (2 : Int32)), .val (.long v0), .second, .val (.long v1), .second, .val (.long v2), .second, .val (.ref b10), .unset] [(.int (3 : Int32)), (.int (2 : Int32))]))) (fun _ k => XS.iconst X12.here hx rfl (hb hby at_150) k) ?_
          refine own_st (B := (T12.setTop (mkF m 161 #[.val (.int p1), .val (.int p2), .val (.long p3), .second, .val (.long p4), .second, .val (.long p5), .second, .val (.int (2 : Int32)), .val (.long v0), .second, .val (.long v1), .second, .val (.long v2), .second, .val (.ref b10), .unset] []))) (fun _ k => XS.icmpYes X12.here hx rfl (pc0 := 151) (pc' := 161) rfl (hb hby at_151) rfl (tlt (by decide)).1 (by decide) (by decide) k) ?_
          refine own_st (B := (T12.setTop (mkF m 162 #[.val (.int p1), .val (.int p2), .val (.long p3), .second, .val (.long p4), .second, .val (.long p5), .second, .val (.int (2 : Int32)), .val (.long v0), .second, .val (.long v1), .second, .val (.long v2), .second, .val (.ref b10), .unset] [(.int (1 : Int32))]))) (fun _ k => XS.iconst X12.here hx rfl (hb hby at_161) k) ?_
          refine own_st (B := (T12.setTop (mkF m 166 #[.val (.int p1), .val (.int p2), .val (.long p3), .second, .val (.long p4), .second, .val (.long p5), .second, .val (.int (2 : Int32)), .val (.long v0), .second, .val (.long v1), .second, .val (.long v2), .second, .val (.ref b10), .unset] [(.int (1 : Int32))]))) (fun _ k => XS.goto X12.here hx rfl (pc0 := 162) (pc' := 166) rfl (hb hby at_162) (by decide) (by decide) k) ?_
          exact KF _ (Or.inl ⟨rfl, ⟨c132_13, c145_14⟩⟩)
        · refine own_st (B := (T12.setTop (mkF m 165 #[.val (.int p1), .val (.int p2), .val (.long p3), .second, .val (.long p4), .second, .val (.long p5), .second, .val (.int (2 : Int32)), .val (.long v0), .second, .val (.long v1), .second, .val (.long v2), .second, .val (.ref b10), .unset] []))) (fun _ k => XS.ifYes X12.here hx rfl (pc0 := 145) (pc' := 165) rfl (hb hby at_145) rfl ((if0 _ _).trans (feq (mt (lw_eq v1 (0 : Int64)).mp c145_14)).2) (by decide) (by decide) k) ?_
          refine own_st (B := (T12.setTop (mkF m 166 #[.val (.int p1), .val (.int p2), .val (.long p3), .second, .val (.long p4), .second, .val (.long p5), .second, .val (.int (2 : Int32)), .val (.long v0), .second, .val (.long v1), .second, .val (.long v2), .second, .val (.ref b10), .unset] [(.int (0 : Int32))]))) (fun _ k => XS.iconst X12.here hx rfl (hb hby at_165) k) ?_
          exact KF _ (Or.inr ⟨rfl, fun q => c145_14 q.2⟩)
      · refine own_st (B := (T12.setTop (mkF m 165 #[.val (.int p1), .val (.int p2), .val (.long p3), .second, .val (.long p4), .second, .val (.long p5), .second, .val (.int (2 : Int32)), .val (.long v0), .second, .val (.long v1), .second, .val (.long v2), .second, .val (.ref b10), .unset] []))) (fun _ k => XS.ifYes X12.here hx rfl (pc0 := 132) (pc' := 165) rfl (hb hby at_132) rfl ((if0 _ _).trans (feq (mt (lw_eq v0 (0 : Int64)).mp c132_13)).2) (by decide) (by decide) k) ?_
        refine own_st (B := (T12.setTop (mkF m 166 #[.val (.int p1), .val (.int p2), .val (.long p3), .second, .val (.long p4), .second, .val (.long p5), .second, .val (.int (2 : Int32)), .val (.long v0), .second, .val (.long v1), .second, .val (.long v2), .second, .val (.ref b10), .unset] [(.int (0 : Int32))]))) (fun _ k => XS.iconst X12.here hx rfl (hb hby at_165) k) ?_
        exact KF _ (Or.inr ⟨rfl, fun q => c132_13 q.1⟩)
    intro fz h_fz
    refine own_st (B := (T12.setTop (mkF m 168 #[.val (.int p1), .val (.int p2), .val (.long p3), .second, .val (.long p4), .second, .val (.long p5), .second, .val (.int (2 : Int32)), .val (.long v0), .second, .val (.long v1), .second, .val (.long v2), .second, .val (.ref b10), .val (.int fz)] []))) (fun _ k => XS.istore X12.here hx rfl (hb hby at_166) rfl (l' := #[.val (.int p1), .val (.int p2), .val (.long p3), .second, .val (.long p4), .second, .val (.long p5), .second, .val (.int (2 : Int32)), .val (.long v0), .second, .val (.long v1), .second, .val (.long v2), .second, .val (.ref b10), .val (.int fz)]) rfl k) ?_
    refine own_st (B := (T12.setTop (mkF m 170 #[.val (.int p1), .val (.int p2), .val (.long p3), .second, .val (.long p4), .second, .val (.long p5), .second, .val (.int (2 : Int32)), .val (.long v0), .second, .val (.long v1), .second, .val (.long v2), .second, .val (.ref b10), .val (.int fz)] [(.ref b10)]))) (fun _ k => XS.aload X12.here hx rfl (hb hby at_168) rfl rfl k) ?_
    obtain ⟨v15, T15, L15, X15, Q15, st15⟩ := own_callS (W := 0) X12 hx hZ (y := (⟨"com/example/parley/parley/Bits", "isEmpty", "([J)Z"⟩ : MethodName)) hown (hw _ (List.mem_of_getElem? (i := 1) rfl)) (hw _ (List.mem_of_getElem? (i := 2) rfl)) (hw _ (List.mem_of_getElem? (i := 3) rfl)) (hw _ (List.mem_of_getElem? (i := 4) rfl)) (by decide) e12 (rm_emp l Z a0 hw [] b10 2 2 (fun i => if i = 1 then v1 else v0) (v0 = 0 ∧ v1 = 0) fz h12 VF (by decide) (by decide) hA h_fz) (g := (mkF m 170 #[.val (.int p1), .val (.int p2), .val (.long p3), .second, .val (.long p4), .second, .val (.long p5), .second, .val (.int (2 : Int32)), .val (.long v0), .second, .val (.long v1), .second, .val (.long v2), .second, .val (.ref b10), .val (.int fz)] [(.ref b10)])) rfl (by rw [hml]; rfl) (argsL := [(.ref b10)]) (rest := []) (lenOf pd_0 rfl) rfl rfl (by show 2 * 0 + _ ≤ _; exact Nat.le_of_eq rfl) (hb hby at_170) (by decide) (by decide) (by decide) (by decide)
    obtain ⟨rfl, rfl, q15⟩ := Q15
    refine own_st (B := (T15.setTop (mkF m 173 #[.val (.int p1), .val (.int p2), .val (.long p3), .second, .val (.long p4), .second, .val (.long p5), .second, .val (.int (2 : Int32)), .val (.long v0), .second, .val (.long v1), .second, .val (.long v2), .second, .val (.ref b10), .val (.int fz)] [(.int fz)]))) st15 ?_
    refine own_st (B := (T15.setTop (mkF m 175 #[.val (.int p1), .val (.int p2), .val (.long p3), .second, .val (.long p4), .second, .val (.long p5), .second, .val (.int (2 : Int32)), .val (.long v0), .second, .val (.long v1), .second, .val (.long v2), .second, .val (.ref b10), .val (.int fz)] [(.int fz), (.int fz)]))) (fun _ k => XS.iload X15.here hx rfl (hb hby at_173) rfl k) ?_
    refine own_st (B := (T15.setTop (mkF m 178 #[.val (.int p1), .val (.int p2), .val (.long p3), .second, .val (.long p4), .second, .val (.long p5), .second, .val (.int (2 : Int32)), .val (.long v0), .second, .val (.long v1), .second, .val (.long v2), .second, .val (.ref b10), .val (.int fz)] []))) (fun _ k => XS.icmpNo X15.here hx rfl (hb hby at_175) rfl (teq rfl).2 k) ?_
    refine own_st (B := (T15.setTop (mkF m 179 #[.val (.int p1), .val (.int p2), .val (.long p3), .second, .val (.long p4), .second, .val (.long p5), .second, .val (.int (2 : Int32)), .val (.long v0), .second, .val (.long v1), .second, .val (.long v2), .second, .val (.ref b10), .val (.int fz)] [(.int (1 : Int32))]))) (fun _ k => XS.iconst X15.here hx rfl (hb hby at_178) k) ?_
    refine own_st (B := (T15.setTop (mkF m 183 #[.val (.int p1), .val (.int p2), .val (.long p3), .second, .val (.long p4), .second, .val (.long p5), .second, .val (.int (2 : Int32)), .val (.long v0), .second, .val (.long v1), .second, .val (.long v2), .second, .val (.ref b10), .val (.int fz)] [(.int (1 : Int32))]))) (fun _ k => XS.goto X15.here hx rfl (pc0 := 179) (pc' := 183) rfl (hb hby at_179) (by decide) (by decide) k) ?_
    exact own_retN X15 hx hlk (t := .boolean) hret (by simp) (hb hby at_183) (by show own_Q0 n0 _ T15.heap _; rw [q15]; exact ⟨rfl, Fr.app N12 (Fr.nil n0)⟩) (by decide) (by decide)
  · refine own_st (B := (s₁.setTop (mkF m 48 #[.val (.int p1), .val (.int p2), .val (.long p3), .second, .val (.long p4), .second, .val (.long p5), .second, .val (.int (3 : Int32)), .val (.long v0), .second, .val (.long v1), .second, .val (.long v2), .second, .unset, .unset] [(.int (3 : Int32))]))) (fun _ k => XS.iload X0.here hx rfl (hb hby at_46) rfl k) ?_
    refine own_st (B := (s₁.setTop (mkF m 59 #[.val (.int p1), .val (.int p2), .val (.long p3), .second, .val (.long p4), .second, .val (.long p5), .second, .val (.int (3 : Int32)), .val (.long v0), .second, .val (.long v1), .second, .val (.long v2), .second, .unset, .unset] []))) (fun _ k => XS.ifYes X0.here hx rfl (pc0 := 48) (pc' := 59) rfl (hb hby at_48) rfl ((if0 _ _).trans (feq (by decide)).2) (by decide) (by decide) k) ?_
    refine own_st (B := (s₁.setTop (mkF m 61 #[.val (.int p1), .val (.int p2), .val (.long p3), .second, .val (.long p4), .second, .val (.long p5), .second, .val (.int (3 : Int32)), .val (.long v0), .second, .val (.long v1), .second, .val (.long v2), .second, .unset, .unset] [(.int (3 : Int32))]))) (fun _ k => XS.iload X0.here hx rfl (hb hby at_59) rfl k) ?_
    refine own_st (B := (s₁.setTop (mkF m 62 #[.val (.int p1), .val (.int p2), .val (.long p3), .second, .val (.long p4), .second, .val (.long p5), .second, .val (.int (3 : Int32)), .val (.long v0), .second, .val (.long v1), .second, .val (.long v2), .second, .unset, .unset] [(.int (1 : Int32)), (.int (3 : Int32))]))) (fun _ k => XS.iconst X0.here hx rfl (hb hby at_61) k) ?_
    refine own_st (B := (s₁.setTop (mkF m 78 #[.val (.int p1), .val (.int p2), .val (.long p3), .second, .val (.long p4), .second, .val (.long p5), .second, .val (.int (3 : Int32)), .val (.long v0), .second, .val (.long v1), .second, .val (.long v2), .second, .unset, .unset] []))) (fun _ k => XS.icmpYes X0.here hx rfl (pc0 := 62) (pc' := 78) rfl (hb hby at_62) rfl (feq (by decide)).2 (by decide) (by decide) k) ?_
    refine own_st (B := (s₁.setTop (mkF m 80 #[.val (.int p1), .val (.int p2), .val (.long p3), .second, .val (.long p4), .second, .val (.long p5), .second, .val (.int (3 : Int32)), .val (.long v0), .second, .val (.long v1), .second, .val (.long v2), .second, .unset, .unset] [(.int (3 : Int32))]))) (fun _ k => XS.iload X0.here hx rfl (hb hby at_78) rfl k) ?_
    refine own_st (B := (s₁.setTop (mkF m 81 #[.val (.int p1), .val (.int p2), .val (.long p3), .second, .val (.long p4), .second, .val (.long p5), .second, .val (.int (3 : Int32)), .val (.long v0), .second, .val (.long v1), .second, .val (.long v2), .second, .unset, .unset] [(.int (2 : Int32)), (.int (3 : Int32))]))) (fun _ k => XS.iconst X0.here hx rfl (hb hby at_80) k) ?_
    refine own_st (B := (s₁.setTop (mkF m 102 #[.val (.int p1), .val (.int p2), .val (.long p3), .second, .val (.long p4), .second, .val (.long p5), .second, .val (.int (3 : Int32)), .val (.long v0), .second, .val (.long v1), .second, .val (.long v2), .second, .unset, .unset] []))) (fun _ k => XS.icmpYes X0.here hx rfl (pc0 := 81) (pc' := 102) rfl (hb hby at_81) rfl (feq (by decide)).2 (by decide) (by decide) k) ?_
    refine own_st (B := (s₁.setTop (mkF m 103 #[.val (.int p1), .val (.int p2), .val (.long p3), .second, .val (.long p4), .second, .val (.long p5), .second, .val (.int (3 : Int32)), .val (.long v0), .second, .val (.long v1), .second, .val (.long v2), .second, .unset, .unset] [(.int (3 : Int32))]))) (fun _ k => XS.iconst X0.here hx rfl (hb hby at_102) k) ?_
    obtain ⟨T16, h16, k16, X16, e16, E16, A16, st16⟩ := newP X0 hx hZ (hw _ (List.mem_of_getElem? (i := 0) rfl)) e0 (g := (mkF m 103 #[.val (.int p1), .val (.int p2), .val (.long p3), .second, .val (.long p4), .second, .val (.long p5), .second, .val (.int (3 : Int32)), .val (.long v0), .second, .val (.long v1), .second, .val (.long v2), .second, .unset, .unset] [(.int (3 : Int32))])) rfl (hb hby at_103) rfl (by decide) (cap := 3) (by decide) (by decide) (by decide) (by decide)
    obtain ⟨b16, g16⟩ : ∃ z, z = h0.size := ⟨_, rfl⟩
    rw [← g16] at A16 st16
    have g_b16 : n0 ≤ b16 := Nat.le_trans Z0 (Nat.le_of_eq g16.symm)
    have Z16 : n0 ≤ h16.size := Nat.le_trans Z0 E16.1
    refine own_st (B := (T16.setTop (mkF m 105 #[.val (.int p1), .val (.int p2), .val (.long p3), .second, .val (.long p4), .second, .val (.long p5), .second, .val (.int (3 : Int32)), .val (.long v0), .second, .val (.long v1), .second, .val (.long v2), .second, .unset, .unset] [(.ref b16)]))) st16 ?_
    have V0 : own_AV Z h16 b16 .long 3 (fun _ => defaultValue .long) := own_AV.new A16 (by decide)
    refine own_st (B := (T16.setTop (mkF m 106 #[.val (.int p1), .val (.int p2), .val (.long p3), .second, .val (.long p4), .second, .val (.long p5), .second, .val (.int (3 : Int32)), .val (.long v0), .second, .val (.long v1), .second, .val (.long v2), .second, .unset, .unset] [(.ref b16), (.ref b16)]))) (fun _ k => XS.dup X16.here hx rfl (hb hby at_105) rfl rfl k) ?_
    refine own_st (B := (T16.setTop (mkF m 107 #[.val (.int p1), .val (.int p2), .val (.long p3), .second, .val (.long p4), .second, .val (.long p5), .second, .val (.int (3 : Int32)), .val (.long v0), .second, .val (.long v1), .second, .val (.long v2), .second, .unset, .unset] [(.int (0 : Int32)), (.ref b16), (.ref b16)]))) (fun _ k => XS.iconst X16.here hx rfl (hb hby at_106) k) ?_
    refine own_st (B := (T16.setTop (mkF m 109 #[.val (.int p1), .val (.int p2), .val (.long p3), .second, .val (.long p4), .second, .val (.long p5), .second, .val (.int (3 : Int32)), .val (.long v0), .second, .val (.long v1), .second, .val (.long v2), .second, .unset, .unset] [(.long v0), (.int (0 : Int32)), (.ref b16), (.ref b16)]))) (fun _ k => XS.lload X16.here hx rfl (hb hby at_107) rfl k) ?_
    obtain ⟨T17, h17, X17, e17, W17, V17, st17⟩ := own_stJ X16 hx hZ e16 V0 (i := 0) (by decide) (by decide) (by decide) (g := (mkF m 109 #[.val (.int p1), .val (.int p2), .val (.long p3), .second, .val (.long p4), .second, .val (.long p5), .second, .val (.int (3 : Int32)), .val (.long v0), .second, .val (.long v1), .second, .val (.long v2), .second, .unset, .unset] [(.long v0), (.int (0 : Int32)), (.ref b16), (.ref b16)])) rfl rfl (hb hby at_109)
    refine own_st (B := (T17.setTop (mkF m 110 #[.val (.int p1), .val (.int p2), .val (.long p3), .second, .val (.long p4), .second, .val (.long p5), .second, .val (.int (3 : Int32)), .val (.long v0), .second, .val (.long v1), .second, .val (.long v2), .second, .unset, .unset] [(.ref b16)]))) st17 ?_
    have N17 := Fr.snoc X17 N0 g_b16
    refine own_st (B := (T17.setTop (mkF m 111 #[.val (.int p1), .val (.int p2), .val (.long p3), .second, .val (.long p4), .second, .val (.long p5), .second, .val (.int (3 : Int32)), .val (.long v0), .second, .val (.long v1), .second, .val (.long v2), .second, .unset, .unset] [(.ref b16), (.ref b16)]))) (fun _ k => XS.dup X17.here hx rfl (hb hby at_110) rfl rfl k) ?_
    refine own_st (B := (T17.setTop (mkF m 112 #[.val (.int p1), .val (.int p2), .val (.long p3), .second, .val (.long p4), .second, .val (.long p5), .second, .val (.int (3 : Int32)), .val (.long v0), .second, .val (.long v1), .second, .val (.long v2), .second, .unset, .unset] [(.int (1 : Int32)), (.ref b16), (.ref b16)]))) (fun _ k => XS.iconst X17.here hx rfl (hb hby at_111) k) ?_
    refine own_st (B := (T17.setTop (mkF m 114 #[.val (.int p1), .val (.int p2), .val (.long p3), .second, .val (.long p4), .second, .val (.long p5), .second, .val (.int (3 : Int32)), .val (.long v0), .second, .val (.long v1), .second, .val (.long v2), .second, .unset, .unset] [(.long v1), (.int (1 : Int32)), (.ref b16), (.ref b16)]))) (fun _ k => XS.lload X17.here hx rfl (hb hby at_112) rfl k) ?_
    obtain ⟨T18, h18, X18, e18, W18, V18, st18⟩ := own_stJ X17 hx hZ e17 V17 (i := 1) (by decide) (by decide) (by decide) (g := (mkF m 114 #[.val (.int p1), .val (.int p2), .val (.long p3), .second, .val (.long p4), .second, .val (.long p5), .second, .val (.int (3 : Int32)), .val (.long v0), .second, .val (.long v1), .second, .val (.long v2), .second, .unset, .unset] [(.long v1), (.int (1 : Int32)), (.ref b16), (.ref b16)])) rfl rfl (hb hby at_114)
    refine own_st (B := (T18.setTop (mkF m 115 #[.val (.int p1), .val (.int p2), .val (.long p3), .second, .val (.long p4), .second, .val (.long p5), .second, .val (.int (3 : Int32)), .val (.long v0), .second, .val (.long v1), .second, .val (.long v2), .second, .unset, .unset] [(.ref b16)]))) st18 ?_
    have N18 := Fr.snoc X18 N17 g_b16
    refine own_st (B := (T18.setTop (mkF m 116 #[.val (.int p1), .val (.int p2), .val (.long p3), .second, .val (.long p4), .second, .val (.long p5), .second, .val (.int (3 : Int32)), .val (.long v0), .second, .val (.long v1), .second, .val (.long v2), .second, .unset, .unset] [(.ref b16), (.ref b16)]))) (fun _ k => XS.dup X18.here hx rfl (hb hby at_115) rfl rfl k) ?_
    refine own_st (B := (T18.setTop (mkF m 117 #[.val (.int p1), .val (.int p2), .val (.long p3), .second, .val (.long p4), .second, .val (.long p5), .second, .val (.int (3 : Int32)), .val (.long v0), .second, .val (.long v1), .second, .val (.long v2), .second, .unset, .unset] [(.int (2 : Int32)), (.ref b16), (.ref b16)]))) (fun _ k => XS.iconst X18.here hx rfl (hb hby at_116) k) ?_
    refine own_st (B := (T18.setTop (mkF m 119 #[.val (.int p1), .val (.int p2), .val (.long p3), .second, .val (.long p4), .second, .val (.long p5), .second, .val (.int (3 : Int32)), .val (.long v0), .second, .val (.long v1), .second, .val (.long v2), .second, .unset, .unset] [(.long v2), (.int (2 : Int32)), (.ref b16), (.ref b16)]))) (fun _ k => XS.lload X18.here hx rfl (hb hby at_117) rfl k) ?_
    obtain ⟨T19, h19, X19, e19, W19, V19, st19⟩ := own_stJ X18 hx hZ e18 V18 (i := 2) (by decide) (by decide) (by decide) (g := (mkF m 119 #[.val (.int p1), .val (.int p2), .val (.long p3), .second, .val (.long p4), .second, .val (.long p5), .second, .val (.int (3 : Int32)), .val (.long v0), .second, .val (.long v1), .second, .val (.long v2), .second, .unset, .unset] [(.long v2), (.int (2 : Int32)), (.ref b16), (.ref b16)])) rfl rfl (hb hby at_119)
    refine own_st (B := (T19.setTop (mkF m 120 #[.val (.int p1), .val (.int p2), .val (.long p3), .second, .val (.long p4), .second, .val (.long p5), .second, .val (.int (3 : Int32)), .val (.long v0), .second, .val (.long v1), .second, .val (.long v2), .second, .unset, .unset] [(.ref b16)]))) st19 ?_
    have N19 := Fr.snoc X19 N18 g_b16
    have VF : own_AV Z h19 b16 .long 3 (fun i => .long ((fun i => if i = 2 then v2 else if i = 1 then v1 else v0) i)) := V19.congr fun i hi => by
      have hi' : i = 0 ∨ i = 1 ∨ i = 2 := by omega
      rcases hi' with rfl | rfl | rfl <;> rfl
    have hA : (v0 = 0 ∧ v1 = 0 ∧ v2 = 0) ↔ ∀ q, q < 3 → (fun i => if i = 2 then v2 else if i = 1 then v1 else v0) q = 0 := by
      constructor
      · intro h q hq
        have hq' : q = 0 ∨ q = 1 ∨ q = 2 := by omega
        rcases hq' with rfl | rfl | rfl
        · exact h.1
        · exact h.2.1
        · exact h.2.2
      · intro h
        exact ⟨h 0 (by decide), h 1 (by decide), h 2 (by decide)⟩
    refine own_st (B := (T19.setTop (mkF m 122 #[.val (.int p1), .val (.int p2), .val (.long p3), .second, .val (.long p4), .second, .val (.long p5), .second, .val (.int (3 : Int32)), .val (.long v0), .second, .val (.long v1), .second, .val (.long v2), .second, .val (.ref b16), .unset] []))) (fun _ k => XS.astore X19.here hx rfl (hb hby at_120) rfl rfl (l' := #[.val (.int p1), .val (.int p2), .val (.long p3), .second, .val (.long p4), .second, .val (.long p5), .second, .val (.int (3 : Int32)), .val (.long v0), .second, .val (.long v1), .second, .val (.long v2), .second, .val (.ref b16), .unset]) rfl k) ?_
    suffices KF : ∀ fz : Int32, ((fz = 1 ∧ (v0 = 0 ∧ v1 = 0 ∧ v2 = 0)) ∨ (fz = 0 ∧ ¬ (v0 = 0 ∧ v1 = 0 ∧ v2 = 0))) → own_Dn p e below (own_Ret s (own_Q0 n0) 16 128) (T19.setTop (mkF m 166 #[.val (.int p1), .val (.int p2), .val (.long p3), .second, .val (.long p4), .second, .val (.long p5), .second, .val (.int (3 : Int32)), .val (.long v0), .second, .val (.long v1), .second, .val (.long v2), .second, .val (.ref b16), .unset] [(.int fz)])) by
      refine own_st (B := (T19.setTop (mkF m 124 #[.val (.int p1), .val (.int p2), .val (.long p3), .second, .val (.long p4), .second, .val (.long p5), .second, .val (.int (3 : Int32)), .val (.long v0), .second, .val (.long v1), .second, .val (.long v2), .second, .val (.ref b16), .unset] [(.int (3 : Int32))]))) (fun _ k => XS.iload X19.here hx rfl (hb hby at_122) rfl k) ?_
      refine own_st (B := (T19.setTop (mkF m 125 #[.val (.int p1), .val (.int p2), .val (.long p3), .second, .val (.long p4), .second, .val (.long p5), .second, .val (.int (3 : Int32)), .val (.long v0), .second, .val (.long v1), .second, .val (.long v2), .second, .val (.ref b16), .unset] [(.int (1 : Int32)), (.int (3 : Int32))]))) (fun _ k => XS.iconst X19.here hx rfl (hb hby at_124) k) ?_
      refine own_st (B := (T19.setTop (mkF m 128 #[.val (.int p1), .val (.int p2), .val (.long p3), .second, .val (.long p4), .second, .val (.long p5), .second, .val (.int (3 : Int32)), .val (.long v0), .second, .val (.long v1), .second, .val (.long v2), .second, .val (.ref b16), .unset] []))) (fun _ k => XS.icmpNo X19.here hx rfl (hb hby at_125) rfl (flt (by decide)).1 k) ?_
      refine own_st (B := (T19.setTop (mkF m 130 #[.val (.int p1), .val (.int p2), .val (.long p3), .second, .val (.long p4), .second, .val (.long p5), .second, .val (.int (3 : Int32)), .val (.long v0), .second, .val (.long v1), .second, .val (.long v2), .second, .val (.ref b16), .unset] [(.long v0)]))) (fun _ k => XS.lload X19.here hx rfl (hb hby at_128) rfl k) ?_
      refine own_st (B := (T19.setTop (mkF m 131 #[.val (.int p1), .val (.int p2), .val (.long p3), .second, .val (.long p4), .second, .val (.long p5), .second, .val (.int (3 : Int32)), .val (.long v0), .second, .val (.long v1), .second, .val (.long v2), .second, .val (.ref b16), .unset] [(.long (0 : Int64)), (.long v0)]))) (fun _ k => XS.lconst X19.here hx rfl (hb hby at_130) k) ?_
      refine own_st (B := (T19.setTop (mkF m 132 #[.val (.int p1), .val (.int p2), .val (.long p3), .second, .val (.long p4), .second, .val (.long p5), .second, .val (.int (3 : Int32)), .val (.long v0), .second, .val (.long v1), .second, .val (.long v2), .second, .val (.ref b16), .unset] [(.int (lcmpW v0 (0 : Int64)))]))) (fun _ k => XS.lcmp X19.here hx rfl (hb hby at_131) rfl k) ?_
      by_cases c132_20 : v0 = (0 : Int64)
      · refine own_st (B := (T19.setTop (mkF m 135 #[.val (.int p1), .val (.int p2), .val (.long p3), .second, .val (.long p4), .second, .val (.long p5), .second, .val (.int (3 : Int32)), .val (.long v0), .second, .val (.long v1), .second, .val (.long v2), .second, .val (.ref b16), .unset] []))) (fun _ k => XS.ifNo X19.here hx rfl (hb hby at_132) rfl ((if0 _ _).trans (teq ((lw_eq v0 (0 : Int64)).mpr c132_20)).2) k) ?_
        refine own_st (B := (T19.setTop (mkF m 137 #[.val (.int p1), .val (.int p2), .val (.long p3), .second, .val (.long p4), .second, .val (.long p5), .second, .val (.int (3 : Int32)), .val (.long v0), .second, .val (.long v1), .second, .val (.long v2), .second, .val (.ref b16), .unset] [(.int (3 : Int32))]))) (fun _ k => XS.iload X19.here hx rfl (hb hby at_135) rfl k) ?_
        refine own_st (B := (T19.setTop (mkF m 138 #[.val (.int p1), .val (.int p2), .val (.long p3), .second, .val (.long p4), .second, .val (.long p5), .second, .val (.int (3 : Int32)), .val (.long v0), .second, .val (.long v1), .second, .val (.long v2), .second, .val (.ref b16), .unset] [(.int (2 : Int32)), (.int (3 : Int32))]))) (fun _ k => XS.iconst X19.here hx rfl (hb hby at_137) k) ?_
        refine own_st (B := (T19.setTop (mkF m 141 #[.val (.int p1), .val (.int p2), .val (.long p3), .second, .val (.long p4), .second, .val (.long p5), .second, .val (.int (3 : Int32)), .val (.long v0), .second, .val (.long v1), .second, .val (.long v2), .second, .val (.ref b16), .unset] []))) (fun _ k => XS.icmpNo X19.here hx rfl (hb hby at_138) rfl (flt (by decide)).1 k) ?_
        refine own_st (B := (T19.setTop (mkF m 143 #[.val (.int p1), .val (.int p2), .val (.long p3), .second, .val (.long p4), .second, .val (.long p5), .second, .val (.int (3 : Int32)), .val (.long v0), .second, .val (.long v1), .second, .val (.long v2), .second, .val (.ref b16), .unset] [(.long v1)]))) (fun _ k => XS.lload X19.here hx rfl (hb hby at_141) rfl k) ?_
        refine own_st (B := (T19.setTop (mkF m 144 #[.val (.int p1), .val (.int p2), .val (.long p3), .second, .val (.long p4), .second, .val (.long p5), .second, .val (.int (3 : Int32)), .val (.long v0), .second, .val (.long v1), .second, .val (.long v2), .second, .val (.ref b16), .unset] [(.long (0 : Int64)), (.long v1)]))) (fun _ k => XS.lconst X19.here hx rfl (hb hby at_143) k) ?_
        refine own_st (B := (T19.setTop (mkF m 145 #[.val (.int p1), .val (.int p2), .val (.long p3), .second, .val (.long p4), .second, .val (.long p5), .second, .val (.int (3 : Int32)), .val (.long v0), .second, .val (.long v1), .second, .val (.long v2), .second, .val (.ref b16), .unset] [(.int (lcmpW v1 (0 : Int64)))]))) (fun _ k => XS.lcmp X19.here hx rfl (hb hby at_144) rfl k) ?_
        by_cases c145_21 : v1 = (0 : Int64)
        · refine own_st (B := (T19.setTop (mkF m 148 #[.val (.int p1), .val (.int p2), .val (.long p3), .second, .val (.long p4), .second, .val (.long p5), .second, .val (.int (3 : Int32)), .val (.long v0), .second, .val (.long v1), .second, .val (.long v2), .second, .val (.ref b16), .unset] []))) (fun _ k => XS.ifNo X19.here hx rfl (hb hby at_145) rfl ((if0 _ _).trans (teq ((lw_eq v1 (0 : Int64)).mpr c145_21)).2) k) ?_
          refine own_st (B := (T19.setTop (mkF m 150 #[.val (.int p1), .val (.int p2), .val (.long p3), .second, .val (.long p4), .second, .val (.long p5), .second, .val (.int (3 : Int32)), .val (.long v0), .second, .val (.long v1), .second, .val (.long v2), .second, .val (.ref b16), .unset] [(.int (3 : Int32))]))) (fun _ k => XS.iload X19.here hx rfl (hb hby at_148) rfl k) ?_
          refine own_st (B := (T19.setTop (mkF m 151 #[.val (.int p1), .val (.int p2), .val (.long p3), .second, .val (.long p4), .second, .val (.long p5), .second, .val (.int (3 : Int32)), .val (.long v0), .second, .val (.long v1), .second, .val (.long v2), .second, .val (.ref b16), .unset] [(.int (3 : Int32)), (.int (3 : Int32))]))) (fun _ k => XS.iconst X19.here hx rfl (hb hby at_150) k) ?_
          refine own_st (B := (T19.setTop (mkF m 154 #[.val (.int p1), .val (.int p2), .val (.long p3), .second, .val (.long p4), .second, .val (.long p5), .second, .val (.int (3 : Int32)), .val (.long v0), .second, .val (.long v1), .second, .val (.long v2), .second, .val (.ref b16), .unset] []))) (fun _ k => XS.icmpNo X19.here hx rfl (hb hby at_151) rfl (flt (by decide)).1 k) ?_
          refine own_st (B := (T19.setTop (mkF m 156 #[.val (.int p1), .val (.int p2), .val (.long p3), .second, .val (.long p4), .second, .val (.long p5), .second, .val (.int (3 : Int32)), .val (.long v0), .second, .val (.long v1), .second, .val (.long v2), .second, .val (.ref b16), .unset] [(.long v2)]))) (fun _ k => XS.lload X19.here hx rfl (hb hby at_154) rfl k) ?_
          refine own_st (B := (T19.setTop (mkF m 157 #[.val (.int p1), .val (.int p2), .val (.long p3), .second, .val (.long p4), .second, .val (.long p5), .second, .val (.int (3 : Int32)), .val (.long v0), .second, .val (.long v1), .second, .val (.long v2), .second, .val (.ref b16), .unset] [(.long (0 : Int64)), (.long v2)]))) (fun _ k => XS.lconst X19.here hx rfl (hb hby at_156) k) ?_
          refine own_st (B := (T19.setTop (mkF m 158 #[.val (.int p1), .val (.int p2), .val (.long p3), .second, .val (.long p4), .second, .val (.long p5), .second, .val (.int (3 : Int32)), .val (.long v0), .second, .val (.long v1), .second, .val (.long v2), .second, .val (.ref b16), .unset] [(.int (lcmpW v2 (0 : Int64)))]))) (fun _ k => XS.lcmp X19.here hx rfl (hb hby at_157) rfl k) ?_
          by_cases c158_22 : v2 = (0 : Int64)
          · refine own_st (B := (T19.setTop (mkF m 161 #[.val (.int p1), .val (.int p2), .val (.long p3), .second, .val (.long p4), .second, .val (.long p5), .second, .val (.int (3 : Int32)), .val (.long v0), .second, .val (.long v1), .second, .val (.long v2), .second, .val (.ref b16), .unset] []))) (fun _ k => XS.ifNo X19.here hx rfl (hb hby at_158) rfl ((if0 _ _).trans (teq ((lw_eq v2 (0 : Int64)).mpr c158_22)).2) k) ?_
            refine own_st (B := (T19.setTop (mkF m 162 #[.val (.int p1), .val (.int p2), .val (.long p3), .second, .val (.long p4), .second, .val (.long p5), .second, .val (.int (3 : Int32)), .val (.long v0), .second, .val (.long v1), .second, .val (.long v2), .second, .val (.ref b16), .unset] [(.int (1 : Int32))]))) (fun _ k => XS.iconst X19.here hx rfl (hb hby at_161) k) ?_
            refine own_st (B := (T19.setTop (mkF m 166 #[.val (.int p1), .val (.int p2), .val (.long p3), .second, .val (.long p4), .second, .val (.long p5), .second, .val (.int (3 : Int32)), .val (.long v0), .second, .val (.long v1), .second, .val (.long v2), .second, .val (.ref b16), .unset] [(.int (1 : Int32))]))) (fun _ k => XS.goto X19.here hx rfl (pc0 := 162) (pc' := 166) rfl (hb hby at_162) (by decide) (by decide) k) ?_
            exact KF _ (Or.inl ⟨rfl, ⟨c132_20, c145_21, c158_22⟩⟩)
          · refine own_st (B := (T19.setTop (mkF m 165 #[.val (.int p1), .val (.int p2), .val (.long p3), .second, .val (.long p4), .second, .val (.long p5), .second, .val (.int (3 : Int32)), .val (.long v0), .second, .val (.long v1), .second, .val (.long v2), .second, .val (.ref b16), .unset] []))) (fun _ k => XS.ifYes X19.here hx rfl (pc0 := 158) (pc' := 165) rfl (hb hby at_158) rfl ((if0 _ _).trans (feq (mt (lw_eq v2 (0 : Int64)).mp c158_22)).2) (by decide) (by decide) k) ?_
            refine own_st (B := (T19.setTop (mkF m 166 #[.val (.int p1), .val (.int p2), .val (.long p3), .second, .val (.long p4), .second, .val (.long p5), .second, .val (.int (3 : Int32)), .val (.long v0), .second, .val (.long v1), .second, .val (.long v2), .second, .val (.ref b16), .unset] [(.int (0 : Int32))]))) (fun _ k => XS.iconst X19.here hx rfl (hb hby at_165) k) ?_
            exact KF _ (Or.inr ⟨rfl, fun q => c158_22 q.2.2⟩)
        · refine own_st (B := (T19.setTop (mkF m 165 #[.val (.int p1), .val (.int p2), .val (.long p3), .second, .val (.long p4), .second, .val (.long p5), .second, .val (.int (3 : Int32)), .val (.long v0), .second, .val (.long v1), .second, .val (.long v2), .second, .val (.ref b16), .unset] []))) (fun _ k => XS.ifYes X19.here hx rfl (pc0 := 145) (pc' := 165) rfl (hb hby at_145) rfl ((if0 _ _).trans (feq (mt (lw_eq v1 (0 : Int64)).mp c145_21)).2) (by decide) (by decide) k) ?_
          refine own_st (B := (T19.setTop (mkF m 166 #[.val (.int p1), .val (.int p2), .val (.long p3), .second, .val (.long p4), .second, .val (.long p5), .second, .val (.int (3 : Int32)), .val (.long v0), .second, .val (.long v1), .second, .val (.long v2), .second, .val (.ref b16), .unset] [(.int (0 : Int32))]))) (fun _ k => XS.iconst X19.here hx rfl (hb hby at_165) k) ?_
          exact KF _ (Or.inr ⟨rfl, fun q => c145_21 q.2.1⟩)
      · refine own_st (B := (T19.setTop (mkF m 165 #[.val (.int p1), .val (.int p2), .val (.long p3), .second, .val (.long p4), .second, .val (.long p5), .second, .val (.int (3 : Int32)), .val (.long v0), .second, .val (.long v1), .second, .val (.long v2), .second, .val (.ref b16), .unset] []))) (fun _ k => XS.ifYes X19.here hx rfl (pc0 := 132) (pc' := 165) rfl (hb hby at_132) rfl ((if0 _ _).trans (feq (mt (lw_eq v0 (0 : Int64)).mp c132_20)).2) (by decide) (by decide) k) ?_
        refine own_st (B := (T19.setTop (mkF m 166 #[.val (.int p1), .val (.int p2), .val (.long p3), .second, .val (.long p4), .second, .val (.long p5), .second, .val (.int (3 : Int32)), .val (.long v0), .second, .val (.long v1), .second, .val (.long v2), .second, .val (.ref b16), .unset] [(.int (0 : Int32))]))) (fun _ k => XS.iconst X19.here hx rfl (hb hby at_165) k) ?_
        exact KF _ (Or.inr ⟨rfl, fun q => c132_20 q.1⟩)
    intro fz h_fz
    refine own_st (B := (T19.setTop (mkF m 168 #[.val (.int p1), .val (.int p2), .val (.long p3), .second, .val (.long p4), .second, .val (.long p5), .second, .val (.int (3 : Int32)), .val (.long v0), .second, .val (.long v1), .second, .val (.long v2), .second, .val (.ref b16), .val (.int fz)] []))) (fun _ k => XS.istore X19.here hx rfl (hb hby at_166) rfl (l' := #[.val (.int p1), .val (.int p2), .val (.long p3), .second, .val (.long p4), .second, .val (.long p5), .second, .val (.int (3 : Int32)), .val (.long v0), .second, .val (.long v1), .second, .val (.long v2), .second, .val (.ref b16), .val (.int fz)]) rfl k) ?_
    refine own_st (B := (T19.setTop (mkF m 170 #[.val (.int p1), .val (.int p2), .val (.long p3), .second, .val (.long p4), .second, .val (.long p5), .second, .val (.int (3 : Int32)), .val (.long v0), .second, .val (.long v1), .second, .val (.long v2), .second, .val (.ref b16), .val (.int fz)] [(.ref b16)]))) (fun _ k => XS.aload X19.here hx rfl (hb hby at_168) rfl rfl k) ?_
    obtain ⟨v23, T23, L23, X23, Q23, st23⟩ := own_callS (W := 0) X19 hx hZ (y := (⟨"com/example/parley/parley/Bits", "isEmpty", "([J)Z"⟩ : MethodName)) hown (hw _ (List.mem_of_getElem? (i := 1) rfl)) (hw _ (List.mem_of_getElem? (i := 2) rfl)) (hw _ (List.mem_of_getElem? (i := 3) rfl)) (hw _ (List.mem_of_getElem? (i := 4) rfl)) (by decide) e19 (rm_emp l Z a0 hw [] b16 3 3 (fun i => if i = 2 then v2 else if i = 1 then v1 else v0) (v0 = 0 ∧ v1 = 0 ∧ v2 = 0) fz h19 VF (by decide) (by decide) hA h_fz) (g := (mkF m 170 #[.val (.int p1), .val (.int p2), .val (.long p3), .second, .val (.long p4), .second, .val (.long p5), .second, .val (.int (3 : Int32)), .val (.long v0), .second, .val (.long v1), .second, .val (.long v2), .second, .val (.ref b16), .val (.int fz)] [(.ref b16)])) rfl (by rw [hml]; rfl) (argsL := [(.ref b16)]) (rest := []) (lenOf pd_0 rfl) rfl rfl (by show 2 * 0 + _ ≤ _; exact Nat.le_of_eq rfl) (hb hby at_170) (by decide) (by decide) (by decide) (by decide)
    obtain ⟨rfl, rfl, q23⟩ := Q23
    refine own_st (B := (T23.setTop (mkF m 173 #[.val (.int p1), .val (.int p2), .val (.long p3), .second, .val (.long p4), .second, .val (.long p5), .second, .val (.int (3 : Int32)), .val (.long v0), .second, .val (.long v1), .second, .val (.long v2), .second, .val (.ref b16), .val (.int fz)] [(.int fz)]))) st23 ?_
    refine own_st (B := (T23.setTop (mkF m 175 #[.val (.int p1), .val (.int p2), .val (.long p3), .second, .val (.long p4), .second, .val (.long p5), .second, .val (.int (3 : Int32)), .val (.long v0), .second, .val (.long v1), .second, .val (.long v2), .second, .val (.ref b16), .val (.int fz)] [(.int fz), (.int fz)]))) (fun _ k => XS.iload X23.here hx rfl (hb hby at_173) rfl k) ?_
    refine own_st (B := (T23.setTop (mkF m 178 #[.val (.int p1), .val (.int p2), .val (.long p3), .second, .val (.long p4), .second, .val (.long p5), .second, .val (.int (3 : Int32)), .val (.long v0), .second, .val (.long v1), .second, .val (.long v2), .second, .val (.ref b16), .val (.int fz)] []))) (fun _ k => XS.icmpNo X23.here hx rfl (hb hby at_175) rfl (teq rfl).2 k) ?_
    refine own_st (B := (T23.setTop (mkF m 179 #[.val (.int p1), .val (.int p2), .val (.long p3), .second, .val (.long p4), .second, .val (.long p5), .second, .val (.int (3 : Int32)), .val (.long v0), .second, .val (.long v1), .second, .val (.long v2), .second, .val (.ref b16), .val (.int fz)] [(.int (1 : Int32))]))) (fun _ k => XS.iconst X23.here hx rfl (hb hby at_178) k) ?_
    refine own_st (B := (T23.setTop (mkF m 183 #[.val (.int p1), .val (.int p2), .val (.long p3), .second, .val (.long p4), .second, .val (.long p5), .second, .val (.int (3 : Int32)), .val (.long v0), .second, .val (.long v1), .second, .val (.long v2), .second, .val (.ref b16), .val (.int fz)] [(.int (1 : Int32))]))) (fun _ k => XS.goto X23.here hx rfl (pc0 := 179) (pc' := 183) rfl (hb hby at_179) (by decide) (by decide) k) ?_
    exact own_retN X23 hx hlk (t := .boolean) hret (by simp) (hb hby at_183) (by show own_Q0 n0 _ T23.heap _; rw [q23]; exact ⟨rfl, Fr.app N19 (Fr.nil n0)⟩) (by decide) (by decide)
set_option maxRecDepth 65536 in
set_option maxHeartbeats 40000000 in
theorem comes_1 {Post : Tables → Env → Array Value → State → Outcome → State → Prop} (hpost : ∀ tb e args s v u, (limb_1_1.after args s (.returned v) u = true ∧ limb_1_2.after args s (.returned v) u = true ∧ True) → FrameEnd s (.returned v) u (Jvm.fieldLocs frame_1_writes args s ++ Jvm.arrayLocs frame_1_arrays args s ++ Jvm.staticLocs frame_1_statics s) 16 128 → Post tb e args s (.returned v) u) :
    ArmFor flags0 classFile x code maxLocals ret World_1 tables_1 room_1 Calls_1 rest_1 Pre_1 Post := by
  intro l hfl _ _ p e ha hc hk s m args below hf hA hF happ hP
  obtain ⟨hcalls, hrest, hpre⟩ := hP
  obtain ⟨-, -, -, hnamed, -, -, -, hat⟩ := (Spec.applies_iff hf).mp happ
  obtain ⟨hg, hn⟩ := and_e (Cond.before_iff.mp (show (Jvm.Cond.and given_1 narrow_1).before args s = true from hpre))
  obtain ⟨g1, g2⟩ := and_e hg
  obtain ⟨g3, g4⟩ := and_e g2
  obtain ⟨g5, g6⟩ := and_e g4
  obtain ⟨g7, g8⟩ := and_e g6
  obtain ⟨g9, g10⟩ := and_e g8
  obtain ⟨w0, w1, w2, w3, w4, rfl⟩ : ∃ w0 w1 w2 w3 w4 : Value, args = #[w0, w1, w2, w3, w4] := by
    have hs : args.size = 5 := by simpa [Cond.value, given_1] using g1
    obtain ⟨L⟩ := args
    match L, hs with
    | [w0, w1, w2, w3, w4], _ => exact ⟨w0, w1, w2, w3, w4, rfl⟩
  have hw := fun d (hd : d ∈ tables_1) => atoms_spec (ws := Jvm.Cond.code x code maxLocals ret :: tables_1) hat d (List.mem_cons_of_mem _ hd)
  have hfit : Fit s := fun {y c} hc i hi => by
    obtain ⟨ha, rfl⟩ := Array.getElem?_eq_some_iff.mp hc
    have q := List.all_eq_true.mp ((Array.all_eq_true_iff_forall_mem.mp hF) _ (Array.getElem_mem ha)) i (List.mem_range.mpr hi)
    simpa [Array.getElem?_eq_getElem hi] using q
  obtain ⟨i0, ei0⟩ := is_v g3
  obtain rfl : w0 = (.int i0) := Option.some.inj ei0
  obtain ⟨i1, ei1⟩ := is_v g5
  obtain rfl : w1 = (.int i1) := Option.some.inj ei1
  obtain ⟨i2, ei2⟩ := isL_v g7
  obtain rfl : w2 = (.long i2) := Option.some.inj ei2
  obtain ⟨i3, ei3⟩ := isL_v g9
  obtain rfl : w3 = (.long i3) := Option.some.inj ei3
  obtain ⟨i4, ei4⟩ := isL_v g10
  obtain rfl : w4 = (.long i4) := Option.some.inj ei4
  obtain ⟨n, o, h1, h2, h3, _, L, rfl, ⟨rfl, N⟩, hq⟩ := rm_law l s _ hw tables_1 i0 i1 i2 i3 i4 s.heap s.heap.size (Nat.le_refl _) p e ha hc hk s m _ below hf ((Spec.applies_iff_loose hf).mp happ).1 ⟨rfl, State.Warmed39.refl s, rfl⟩ trivial
  refine ⟨n, _, h1, h2, h3, hpost _ _ _ _ _ _ ⟨Cond.after_iff.mpr rfl, Cond.after_iff.mpr (eq_i res_at (Term.int_eval (1)) rfl), trivial⟩ ⟨hq.1, hq.2.1, (hq.2.2.sift fun y hy => Or.inr (N y hy)).mono (by decide) (by decide)⟩⟩
theorem main_1_1 : Claimed_1_1 := comes_1 fun _ _ _ _ _ _ h hF => ⟨h.1, hF⟩
theorem main_1_2 : Claimed_1_2 := comes_1 fun _ _ _ _ _ _ h hF => ⟨h.2.1, hF⟩
end Jvm.Pilot.@@N@@
namespace Jvm.Pilot.@@N@@
open Jvm Jvm.ClassFile Sem Op Lib Jvm.Free Jvm.Stand Jvm.Pilot.@@N@@.Jvm.D
/-! MADE BY PROGRAM (witnessworld.py) out of the Statement's table words and the real class files: 11 classes; the members and pool entries that the words name. The judged class is class 1, her method 1. -/
namespace start1
open Jvm.ClassFile
def u (s : String) : CpInfo := .utf8 (stringToUtf16 s)
/-- a pool by its gaps: so many unusable entries, then the entry; so many at the end -/
def gap : Nat → List CpInfo → List CpInfo
  | 0, r => r
  | n + 1, r => .unusable :: gap n r
def poolList (es : List (Nat × CpInfo)) (last : Nat) : List CpInfo := es.foldr (fun e r => gap e.1 (e.2 :: r)) (gap last [])
def pool (es : List (Nat × CpInfo)) (last : Nat) : Array CpInfo := ⟨poolList es last⟩
def fileOf (pool : Array CpInfo) (this : Nat) (attrs : Array Attribute := #[]) (ms : Array MethodInfo := #[]) (fl : Nat := 33) (sup : Nat := 0) (ifs : Array Nat := #[]) (fds : Array FieldInfo := #[]) : ClassFile where
  minorVersion := 0
  majorVersion := 65
  constantPool := pool
  accessFlags := fl
  thisClass := this
  superClass := sup
  interfaces := ifs
  fields := fds
  methods := ms
  attributes := attrs
def plain (name : String) (sup : Option ClassId) : Class where
  name := name
  kind := .ordinary
  loader := none
  accessFlags := 33
  super := sup
  interfaces := #[]
  cf := none
  fields := #[]
  methods := #[]
  instanceTypes := #[]
  staticTypes := #[]
  resolved := #[]
  callSites := []
  init := .initialized
  statics := none
  mirror := none

def pool0 : Array CpInfo := pool [(5, u "<init>"), (0, u "()V"), (1, .class_ 10), (1, u "java/lang/Object")] 113

def k0m0 : Method := { name := "<init>", desc := "()V", sig := { parameters := [], returnType := none }, accessFlags := 1, code := none }
/-- java/lang/Object -/
def k0 : Class := { plain "java/lang/Object" none with
  accessFlags := 33
  interfaces := #[]
  cf := some (fileOf pool0 8 #[] #[{ accessFlags := 1, nameIndex := 5, descriptorIndex := 6, attributes := #[] }] 33 0 #[] #[])
  fields := #[]
  methods := #[k0m0]
  instanceTypes := #[]
  staticTypes := #[]
  resolved := Array.replicate 124 none
  statics := none }

def pool1 : Array CpInfo := pool [(2, .class_ 4), (1, u "java/lang/Object"), (0, u "<init>"), (0, u "()V"), (0, .methodref 8 9), (0, .class_ 10), (0, .nameAndType 11 12), (0, u "com/example/parley/parley/Bits"), (0, u "isEmpty"), (0, u "([J)Z"), (0, .class_ 14), (0, u "com/example/parley/parley/BitsIsEmptyPinLaw"), (2, u "law"), (0, u "(IIJJJ)Z")] 5

def k1m0 : Method := { name := "<init>", desc := "()V", sig := { parameters := [], returnType := none }, accessFlags := 2, code := none }
def k1c1 : Code := { maxStack := 5, maxLocals := 17, code := code, exceptionTable := #[], attributes := #[] }
def k1m1 : Method := { name := "law", desc := "(IIJJJ)Z", sig := { parameters := [.int, .int, .long, .long, .long], returnType := some .boolean }, accessFlags := 9, code := some k1c1 }
/-- com/example/parley/parley/BitsIsEmptyPinLaw -/
def k1 : Class := { plain "com/example/parley/parley/BitsIsEmptyPinLaw" (some 0) with
  accessFlags := 49
  interfaces := #[]
  cf := some (fileOf pool1 13 #[] #[{ accessFlags := 2, nameIndex := 5, descriptorIndex := 6, attributes := #[] }, { accessFlags := 9, nameIndex := 17, descriptorIndex := 18, attributes := #[] }] 49 2 #[] #[])
  fields := #[]
  methods := #[k1m0, k1m1]
  instanceTypes := #[]
  staticTypes := #[]
  resolved := Array.replicate 24 none
  statics := none }

def pool2 : Array CpInfo := pool [(2, .class_ 4), (1, u "java/lang/Object"), (0, u "<init>"), (0, u "()V"), (12, .class_ 21), (1, u "com/example/parley/parley/Bits"), (19, u "isEmpty"), (0, u "([J)Z")] 4

def k2m0 : Method := { name := "<init>", desc := "()V", sig := { parameters := [], returnType := none }, accessFlags := 2, code := none }
def k2c1 : Code := { maxStack := 4, maxLocals := 6, code := prog_13_method_9_code, exceptionTable := #[], attributes := #[] }
def k2m1 : Method := { name := "isEmpty", desc := "([J)Z", sig := { parameters := [(.array .long)], returnType := some .boolean }, accessFlags := 8, code := some k2c1 }
/-- com/example/parley/parley/Bits -/
def k2 : Class := { plain "com/example/parley/parley/Bits" (some 0) with
  accessFlags := 48
  interfaces := #[]
  cf := some (fileOf pool2 19 #[] #[{ accessFlags := 2, nameIndex := 5, descriptorIndex := 6, attributes := #[] }, { accessFlags := 8, nameIndex := 41, descriptorIndex := 42, attributes := #[] }] 48 2 #[] #[])
  fields := #[]
  methods := #[k2m0, k2m1]
  instanceTypes := #[]
  staticTypes := #[]
  resolved := Array.replicate 47 none
  statics := none }

def pool3 : Array CpInfo := pool [(1, u "java/lang/Cloneable"), (0, .class_ 1), (0, u "java/lang/Object"), (0, .class_ 3)] 3

/-- java/lang/Cloneable -/
def k3 : Class := { plain "java/lang/Cloneable" (some 0) with
  accessFlags := 1537
  interfaces := #[]
  cf := some (fileOf pool3 2 #[] #[] 1537 4 #[] #[])
  fields := #[]
  methods := #[]
  instanceTypes := #[]
  staticTypes := #[]
  resolved := Array.replicate 8 none
  statics := none }

def pool4 : Array CpInfo := pool [(1, u "java/io/Serializable"), (0, .class_ 1), (0, u "java/lang/Object"), (0, .class_ 3)] 3

/-- java/io/Serializable -/
def k4 : Class := { plain "java/io/Serializable" (some 0) with
  accessFlags := 1537
  interfaces := #[]
  cf := some (fileOf pool4 2 #[] #[] 1537 4 #[] #[])
  fields := #[]
  methods := #[]
  instanceTypes := #[]
  staticTypes := #[]
  resolved := Array.replicate 8 none
  statics := none }

/-- the primitive byte -/
def k5 : Class := { plain "byte" none with kind := .primitive 'B', accessFlags := 0x411 }
/-- [B -/
def k6 : Class := { plain "[B" (some 0) with kind := .array 5 .byte, interfaces := #[3, 4], accessFlags := 1041 }

/-- the primitive int -/
def k7 : Class := { plain "int" none with kind := .primitive 'I', accessFlags := 0x411 }
/-- [I -/
def k8 : Class := { plain "[I" (some 0) with kind := .array 7 .int, interfaces := #[3, 4], accessFlags := 1041 }

/-- the primitive long -/
def k9 : Class := { plain "long" none with kind := .primitive 'J', accessFlags := 0x411 }
/-- [J -/
def k10 : Class := { plain "[J" (some 0) with kind := .array 9 .long, interfaces := #[3, 4], accessFlags := 1041 }

def heap : Heap := #[]
def classes : Array Class := #[k0, k1, k2, k3, k4, k5, k6, k7, k8, k9, k10]
def interned : List (Array UInt16 × Addr) := []
def slotsUsed : Nat := 0
def theMethod : MethodId := ⟨1, 1⟩
def args0 : Array Value := #[.int 2, .int 1, .long 5, .long 6, .long 7]
def aboutOver (below : List Frame) : State where
  vm := { classes := classes, interned := interned.toArray }
  heap := heap
  slotsUsed := slotsUsed
  threads := #[{ frames := .invoking theMethod args0 :: below }]
def below0 : List Frame := [.native { method := ⟨0, 0⟩, args := #[] }]
def about1 : State := aboutOver below0
def p0 : Program := .bare "" "" ""
def e0 : Env := launch0.env 0 0 0
theorem w_frames : about1.frames = Frame.invoking theMethod args0 :: below0 := rfl
set_option maxRecDepth 65536 in
theorem w_args : argsFit about1.vm theMethod args0 = true := by decide +kernel
set_option maxRecDepth 65536 in
theorem w_heap : heapFits about1 = true := by decide +kernel
set_option maxRecDepth 65536 in
theorem w_runnable : about1.curStatus? = some .runnable := by decide +kernel
set_option maxRecDepth 65536 in
theorem w_alone : about1.alone = true := by decide +kernel
set_option maxRecDepth 65536 in
theorem w_named : about1.methodNamed? x = some theMethod := by decide +kernel
set_option maxRecDepth 65536 in
theorem w_hears : about1.hears theMethod below0 = true := by decide +kernel
set_option maxRecDepth 65536 in
theorem w_ripe : about1.ripe theMethod args0 below0 = true := by decide +kernel
theorem w_running : about1.status = .running := rfl
set_option maxRecDepth 65536 in
theorem w_room : about1.hasRoom e0.platform room_1 = true :=
  launch0.hasRoom_least _ room_1 (by decide +kernel) (by decide +kernel) (by decide +kernel) (by decide +kernel) (by decide +kernel) (by decide +kernel)
theorem allAtoms_all (ts : List Jvm.Cond) (a : Array Jvm.Value) (st : Jvm.State) : (allAtoms ts).before a st = ts.all (fun c => c.before a st) := by
  induction ts with
  | nil => rfl
  | cons c t ih =>
    show (Jvm.Cond.and c (allAtoms t)).before a st = _
    rw [Jvm.Cond.before_and, ih, List.all_cons]
def words1 : List Jvm.Cond := Jvm.Cond.code x code maxLocals ret :: tables_1
/-- a 'code' word, met by the world's own term for the bytes: nothing is compared byte by byte -/
theorem code_word {y : MethodName} {bytes : ByteArray} {mx : Nat} {rt : Option FieldType} {a : Array Value} {s : State} {m : MethodId} {meth : Method} {c : Code} (h1 : s.methodNamed? y = some m) (h2 : s.vm.method? m = some meth) (h3 : meth.code = some c) (h4 : c.code = bytes)
    (h5 : (c.maxLocals == mx && c.exceptionTable.isEmpty && decide (c.maxStack ≤ mostOperands) && decide (meth.sig.returnType = rt) && !meth.locks && decide (parseMethodDescriptor y.desc = some meth.sig)) = true) : (Jvm.Cond.code y bytes mx rt).before a s = true := by
  simp only [Bool.and_eq_true, beq_iff_eq, Bool.not_eq_true', decide_eq_true_eq] at h5
  obtain ⟨⟨⟨⟨⟨g1, g2⟩, g3⟩, g4⟩, g5⟩, g6⟩ := h5
  simp [Cond.before, Cond.holds, Cond.value, h1, h2, h3, h4, g1, g2, g3, g4, g5, g6]
def isCode : Jvm.Cond → Bool
  | .code _ _ _ _ => true
  | _ => false
theorem all_split {L : List Jvm.Cond} {P : Jvm.Cond → Bool} (h1 : L.all (fun c => isCode c || P c) = true) (h2 : ∀ c ∈ L.filter isCode, P c = true) : L.all P = true := by
  refine List.all_eq_true.mpr fun c hc => ?_
  have h := List.all_eq_true.mp h1 c hc
  rcases Bool.eq_false_or_eq_true (isCode c) with hi | hi
  · exact h2 c (List.mem_filter.mpr ⟨hc, hi⟩)
  · simpa [hi] using h
set_option maxRecDepth 65536 in
theorem w_c0 : (Jvm.Cond.code x code maxLocals ret).before args0 about1 = true := code_word (m := ⟨1, 1⟩) (meth := k1m1) (c := k1c1) (by decide +kernel) rfl rfl rfl (by decide +kernel)
set_option maxRecDepth 65536 in
theorem w_c1 : (Jvm.Cond.code ({ cls := "com/example/parley/parley/Bits", name := "isEmpty", desc := "([J)Z" } : Jvm.MethodName) prog_13_method_9_code (6 : Nat) (Option.some Jvm.ClassFile.FieldType.boolean)).before args0 about1 = true := code_word (m := ⟨2, 1⟩) (meth := k2m1) (c := k2c1) (by decide +kernel) rfl rfl rfl (by decide +kernel)
def codes1 : List Jvm.Cond := [Jvm.Cond.code x code maxLocals ret, Jvm.Cond.code ({ cls := "com/example/parley/parley/Bits", name := "isEmpty", desc := "([J)Z" } : Jvm.MethodName) prog_13_method_9_code (6 : Nat) (Option.some Jvm.ClassFile.FieldType.boolean)]
set_option maxRecDepth 65536 in
theorem codes_eq : words1.filter isCode = codes1 := rfl
theorem w_codes : ∀ c ∈ words1.filter isCode, c.before args0 about1 = true := by
  rw [codes_eq]
  intro c hc
  simp only [codes1, List.mem_cons, List.not_mem_nil, or_false] at hc
  rcases hc with rfl | rfl
  · exact w_c0
  · exact w_c1
set_option maxRecDepth 65536 in
theorem w_t1 : words1.all (fun c => isCode c || c.before args0 about1) = true := by decide +kernel
theorem w_tables : (allAtoms (Jvm.Cond.code x code maxLocals ret :: tables_1)).before args0 about1 = true := by
  rw [allAtoms_all]
  show words1.all (fun c => c.before args0 about1) = true
  refine all_split ?_ w_codes
  rw [w_t1]
set_option maxRecDepth 65536 in
theorem w_case : (Jvm.Cond.and given_1 narrow_1).before args0 about1 = true := by decide +kernel
theorem w_applies : (headSpec (Jvm.Cond.code x code maxLocals ret :: tables_1) room_1).applies x e0.platform about1 = true :=
  (Spec.applies_iff w_frames).mpr ⟨w_running, w_runnable, w_alone, w_named, w_hears, w_ripe, w_room, w_tables⟩
theorem atStart : AtStart classFile x code maxLocals ret World_1 tables_1 room_1 Calls_1 rest_1 Pre_1 launch0 p0 e0 about1 theMethod args0 below0 :=
  ⟨lists_1, trivial, launch0.admits_env _ _ _, launch0.least_env, fairChoices_fair.cas, fairChoices_fair.clock, w_frames, w_args, w_heap, w_applies, trivial, trivial, w_case⟩
end start1
theorem witness_1 : WitnessClaimed_1 := ⟨start1.p0, start1.e0, start1.about1, start1.theMethod, start1.args0, start1.below0, start1.atStart⟩
end Jvm.Pilot.@@N@@
