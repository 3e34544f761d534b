import JvmDerived
import JvmDerived.Pilot.@@N@@Statement
import JvmDerived.Pilot.@@N@@Code
set_option linter.unusedVariables false
set_option linter.unusedSimpArgs false
namespace Jvm.Pilot.@@N@@
open Jvm Jvm.ClassFile Sem Op Lib Jvm.Free Jvm.Stand Jvm.LawKit Jvm.RoadKit Bundle Jvm.Pilot.@@N@@.Jvm.D
/-! what is left of a run (own_Dn) and the steps towards it: a walk goes FORWARD, goal by goal, and may fork anywhere -/
section Own
variable {p : Program} {l : Launch} {e : Env} {R : Room} {s : State} {m : MethodId} {args : Array Value} {below : List Frame} {meth : Method} {c : Code} {T : State} {locs : List Loc} {cells slots : Nat} {Z : State} {a0 : Array Value} {h : Heap}
def own_Dn (p : Program) (e : Env) (below : List Frame) (G : State → Outcome → Prop) (A : State) : Prop :=
  ∃ s₂ o, Steps p.tables e below A s₂ ∧ s₂.status = .running ∧ Ended s₂ below o ∧ G s₂ o
abbrev own_Ret (s : State) (Q : Option Value → Heap → List Loc → Prop) (k n : Nat) : State → Outcome → Prop :=
  fun s₂ o => ∃ v L, o = .returned v ∧ Q v s₂.heap L ∧ FrameEnd s o s₂ L k n
theorem own_st {G : State → Outcome → Prop} {A B : State} (k : ∀ t, Steps p.tables e below B t → Steps p.tables e below A t) (d : own_Dn p e below G B) : own_Dn p e below G A := by
  obtain ⟨n, o, h1, h2⟩ := d
  exact ⟨n, o, k n h1, h2⟩
theorem own_to {G : State → Outcome → Prop} {A B : State} (k : Steps p.tables e below A B) (d : own_Dn p e below G B) : own_Dn p e below G A := by
  obtain ⟨n, o, h1, h2⟩ := d
  exact ⟨n, o, k.trans h1, h2⟩
theorem own_ret {Q : Option Value → Heap → List Loc → Prop} {v : Option Value} {k n : Nat} {g : JFrame} (X : Stand p l e R s m args below meth c T locs cells slots) (hlk : meth.locks = false) (hv : meth.sig.returnType = none → v = none)
    (hstep : ∀ fs, (∀ (f : JFrame) (acts : List Action), f.method = m → f.locked = none → f.entered = [] → (doReturn e (T.setTop f) acts v).1 = T.setFrames fs) → Steps p.tables e below (T.setTop g) (T.setFrames fs))
    (hQ : Q v T.heap locs) (hk : cells ≤ k) (hn : slots ≤ n) : own_Dn p e below (own_Ret s Q k n) (T.setTop g) := by
  obtain ⟨fs, hr, hrun, hended, hW, hsame⟩ := X.leave (v := v) hv hlk
  exact ⟨_, _, hstep fs hr, hrun, hended, v, locs, rfl, hQ, ⟨_, rfl⟩, hW, hsame.mono hk hn⟩
/-- a return of nothing -/
theorem own_retV {Q : Option Value → Heap → List Loc → Prop} {k n pc : Nat} {Ls : Array Slot} (X : Stand p l e R s m args below meth c T locs cells slots) (hx : p.tables.exec = Jvm.exec) (hlk : meth.locks = false) (hret : meth.sig.returnType = none)
    (hd : decode c.code pc = .ok (.return_, 1)) (hQ : Q none T.heap locs) (hk : cells ≤ k) (hn : slots ≤ n) : own_Dn p e below (own_Ret s Q k n) (T.setTop (mkF m pc Ls [])) :=
  own_ret X hlk (fun _ => rfl) (fun _ hr => X.returnOut hx hret hd hr) hQ hk hn
/-- a return of a value of the return type's kind -/
theorem own_retW {Q : Option Value → Heap → List Loc → Prop} {k n pc : Nat} {Ls : Array Slot} {w : Value} {t : FieldType} {i : Instr} {rest : List Value} (X : Stand p l e R s m args below meth c T locs cells slots) (hx : p.tables.exec = Jvm.exec) (hlk : meth.locks = false)
    (hret : meth.sig.returnType = some t) (hnr : narrow t w = w)
    (hi : (i = .ireturn ∧ (t = .int ∨ t = .boolean ∨ t = .byte ∨ t = .char ∨ t = .short) ∧ ∃ z, w = .int z) ∨ (i = .lreturn ∧ t = .long ∧ ∃ z, w = .long z) ∨ (i = .dreturn ∧ t = .double ∧ ∃ z, w = .double z) ∨ (i = .freturn ∧ t = .float ∧ ∃ z, w = .float z) ∨ (i = .areturn ∧ t.isReference = true ∧ w.isRef = true))
    (hd : decode c.code pc = .ok (i, 1)) (hQ : Q (some w) T.heap locs) (hk : cells ≤ k) (hn : slots ≤ n) : own_Dn p e below (own_Ret s Q k n) (T.setTop (mkF m pc Ls (w :: rest))) :=
  own_ret X hlk (fun h => by rw [hret] at h; cases h) (fun _ hr => retOut X hx hret hnr hi hd hr) hQ hk hn
theorem own_retI {Q : Option Value → Heap → List Loc → Prop} {k n pc : Nat} {Ls : Array Slot} {z : Int32} {rest : List Value} (X : Stand p l e R s m args below meth c T locs cells slots) (hx : p.tables.exec = Jvm.exec) (hlk : meth.locks = false)
    (hret : meth.sig.returnType = some .int) (hd : decode c.code pc = .ok (.ireturn, 1)) (hQ : Q (some (.int z)) T.heap locs) (hk : cells ≤ k) (hn : slots ≤ n) : own_Dn p e below (own_Ret s Q k n) (T.setTop (mkF m pc Ls (.int z :: rest))) :=
  own_retW X hx hlk hret rfl (Or.inl ⟨rfl, Or.inl rfl, z, rfl⟩) hd hQ hk hn
theorem own_retJ {Q : Option Value → Heap → List Loc → Prop} {k n pc : Nat} {Ls : Array Slot} {z : Int64} {rest : List Value} (X : Stand p l e R s m args below meth c T locs cells slots) (hx : p.tables.exec = Jvm.exec) (hlk : meth.locks = false)
    (hret : meth.sig.returnType = some .long) (hd : decode c.code pc = .ok (.lreturn, 1)) (hQ : Q (some (.long z)) T.heap locs) (hk : cells ≤ k) (hn : slots ≤ n) : own_Dn p e below (own_Ret s Q k n) (T.setTop (mkF m pc Ls (.long z :: rest))) :=
  own_retW X hx hlk hret rfl (Or.inr (Or.inl ⟨rfl, rfl, z, rfl⟩)) hd hQ hk hn
theorem own_retA {Q : Option Value → Heap → List Loc → Prop} {k n pc : Nat} {Ls : Array Slot} {a : Addr} {t : FieldType} {rest : List Value} (X : Stand p l e R s m args below meth c T locs cells slots) (hx : p.tables.exec = Jvm.exec) (hlk : meth.locks = false)
    (hret : meth.sig.returnType = some t) (ht : t.isReference = true) (hd : decode c.code pc = .ok (.areturn, 1)) (hQ : Q (some (.ref a)) T.heap locs) (hk : cells ≤ k) (hn : slots ≤ n) : own_Dn p e below (own_Ret s Q k n) (T.setTop (mkF m pc Ls (.ref a :: rest))) :=
  own_retW X hx hlk hret (by cases t <;> first | rfl | (simp [FieldType.isReference] at ht)) (Or.inr (Or.inr (Or.inr (Or.inr ⟨rfl, ht, rfl⟩)))) hd hQ hk hn
/-- a boolean, byte, char or short -/
theorem own_retN {Q : Option Value → Heap → List Loc → Prop} {k n pc : Nat} {Ls : Array Slot} {z : Int32} {t : FieldType} {rest : List Value} (X : Stand p l e R s m args below meth c T locs cells slots) (hx : p.tables.exec = Jvm.exec) (hlk : meth.locks = false)
    (hret : meth.sig.returnType = some t) (ht : t = .boolean ∨ t = .byte ∨ t = .char ∨ t = .short) (hd : decode c.code pc = .ok (.ireturn, 1)) (hQ : Q (some (.int (nar t z))) T.heap locs) (hk : cells ≤ k) (hn : slots ≤ n) : own_Dn p e below (own_Ret s Q k n) (T.setTop (mkF m pc Ls (.int z :: rest))) :=
  own_ret X hlk (fun h => by rw [hret] at h; cases h) (fun _ hr => retN X hx hret ht hd hr) hQ hk hn
/-- a static call by the callee's contract -/
theorem own_callS {rm : Room} {W : Nat} {as' : Array Value} {Q : Option Value → Heap → List Loc → Prop} {own : String} {index : Nat} {y : MethodName} {bytes : ByteArray} {maxL : Nat} {ret : Option FieldType} (X : Stand p l e R s m args below meth c T locs cells slots) (hx : p.tables.exec = Jvm.exec) (hZ : Z.Warmed39 s.vm)
    (hown : s.vm.findClass own = some m.cls) (w1 : (Cond.methodLink own index y).before a0 Z = true) (w2 : (Cond.static y).before a0 Z = true) (w3 : (Cond.initialized y.cls).before a0 Z = true) (w4 : (Cond.code y bytes maxL ret).before a0 Z = true) (hy : y.cls ≠ "java/lang/invoke/MethodHandle" ∧ y.cls ≠ "java/lang/invoke/VarHandle")
    (eT : T.heap = h) (hM : MetFree l y (head1 [Cond.code y bytes maxL ret] rm) (fun a U => a = as' ∧ Z.Warmed39 U.vm ∧ U.heap = h) (fun _ _ _ _ _ => True) (fun _ U o U' => ∃ v L, o = .returned v ∧ Q v U'.heap L ∧ FrameEnd U o U' L rm.cells rm.slots))
    {g : JFrame} (hg : g.method = m) (hsize : g.locals.size = c.maxLocals) {argsL rest : List Value} (hlen : ∀ sig, parseMethodDescriptor y.desc = some sig → argsL.length = sig.parameters.length) (hstack : g.stack = argsL.reverse ++ rest) (has : argsL.toArray = as') (hW : 2 * g.monitorRoom + (rest.map fun v => v.category).sum ≤ W)
    (hdg : decode c.code g.pc = .ok (.invokestatic index, 3)) (hf : rm.frames + 1 ≤ R.frames) (hl : W + (maxL + 11) + rm.locals ≤ R.locals) (hc : cells + rm.cells ≤ R.cells) (hsl : slots + rm.slots ≤ R.slots) :
    ∃ v T' L, Stand p l e R s m args below meth c T' (locs ++ L) (cells + rm.cells) (slots + rm.slots) ∧ Q v T'.heap L ∧
      ∀ t, Steps p.tables e below (T'.setTop { g with pc := g.pc + 3, stack := v.toList ++ rest }) t → Steps p.tables e below (T.setTop g) t := by
  obtain ⟨v, _, ⟨T', L, k', n'⟩, -, X', ⟨Lc, hQ, l1, l2, l3⟩, st⟩ := Jvm.LawKit.callS X hx hown (mvT hZ w1) (mvT hZ w2) (mvT hZ w3) (mvT hZ w4) hy (backOf (W := W) hM hZ w4 w3 hf hl) hg hsize hlen hstack hW hdg (fun _ _ => ⟨has, eT, hc, hsl⟩)
  dsimp only [Pt.U, Pt.locs, Pt.cells, Pt.slots] at X' l1 l2 l3 st hQ
  subst l1 l2 l3
  exact ⟨v, T', Lc, X', hQ, st⟩
/-- a constructor by its contract -/
theorem own_callN {rm : Room} {W : Nat} {as' : Array Value} {Q : Option Value → Heap → List Loc → Prop} {own : String} {index : Nat} {y : MethodName} {bytes : ByteArray} {maxL : Nat} (X : Stand p l e R s m args below meth c T locs cells slots) (hx : p.tables.exec = Jvm.exec) (hZ : Z.Warmed39 s.vm) (hy1 : y.name = "<init>")
    (hown : s.vm.findClass own = some m.cls) (w1 : (Cond.methodLink own index y).before a0 Z = true) (w2 : (Cond.instanceMethod y).before a0 Z = true) (w3 : (Cond.initialized y.cls).before a0 Z = true) (w4 : (Cond.code y bytes maxL none).before a0 Z = true) (hy : y.cls ≠ "java/lang/invoke/MethodHandle" ∧ y.cls ≠ "java/lang/invoke/VarHandle")
    (eT : T.heap = h) (hM : MetFree l y (head1 [Cond.code y bytes maxL none] rm) (fun a U => a = as' ∧ Z.Warmed39 U.vm ∧ U.heap = h) (fun _ _ _ _ _ => True) (fun _ U o U' => ∃ v L, o = .returned v ∧ Q v U'.heap L ∧ FrameEnd U o U' L rm.cells rm.slots))
    {g : JFrame} (hg : g.method = m) (hsize : g.locals.size = c.maxLocals) {a : Addr} {argsL rest : List Value} (hlen : ∀ sig, parseMethodDescriptor y.desc = some sig → argsL.length = sig.parameters.length) (hstack : g.stack = argsL.reverse ++ .ref a :: rest) (has : (.ref a :: argsL).toArray = as') (hW : 2 * g.monitorRoom + (rest.map fun v => v.category).sum ≤ W)
    (hdg : decode c.code g.pc = .ok (.invokespecial index, 3)) (hf : rm.frames + 1 ≤ R.frames) (hl : W + (maxL + 11) + rm.locals ≤ R.locals) (hc : cells + rm.cells ≤ R.cells) (hsl : slots + rm.slots ≤ R.slots) :
    ∃ v T' L, Stand p l e R s m args below meth c T' (locs ++ L) (cells + rm.cells) (slots + rm.slots) ∧ Q v T'.heap L ∧
      ∀ t, Steps p.tables e below (T'.setTop { g with pc := g.pc + 3, stack := v.toList ++ rest }) t → Steps p.tables e below (T.setTop g) t := by
  obtain ⟨v, _, ⟨T', L, k', n'⟩, -, X', ⟨Lc, hQ, l1, l2, l3⟩, st⟩ := X.specialBack hx hy1 hown (mvT hZ w1) (mvT hZ w2) (mvT hZ w4) hy (backOf (W := W) hM hZ w4 w3 hf hl) hg hsize (Steps.refl _) hlen hstack hW hdg (fun _ _ => ⟨has, eT, hc, hsl⟩)
  dsimp only [Pt.U, Pt.locs, Pt.cells, Pt.slots] at X' l1 l2 l3 st hQ
  subst l1 l2 l3
  exact ⟨v, T', Lc, X', hQ, fun t k => st.trans k⟩
/-- a constructor by a payer that is at hand -/
theorem own_callNK {mc ms W : Nat} {as' : Array Value} {Q : Option Value → Heap → List Loc → Prop} {own : String} {index : Nat} {y : MethodName} {bytes : ByteArray} {maxL : Nat} (X : Stand p l e R s m args below meth c T locs cells slots) (hx : p.tables.exec = Jvm.exec) (hZ : Z.Warmed39 s.vm) (hy1 : y.name = "<init>")
    (hown : s.vm.findClass own = some m.cls) (w1 : (Cond.methodLink own index y).before a0 Z = true) (w2 : (Cond.instanceMethod y).before a0 Z = true) (w4 : (Cond.code y bytes maxL none).before a0 Z = true) (hy : y.cls ≠ "java/lang/invoke/MethodHandle" ∧ y.cls ≠ "java/lang/invoke/VarHandle")
    (eT : T.heap = h) (hK : Back l R p e below s args y 3 W (fun A a => a = as' ∧ A.U.heap = h ∧ A.cells + mc ≤ R.cells ∧ A.slots + ms ≤ R.slots) (fun A _ v B => ∃ L, Q v B.U.heap L ∧ B.locs = A.locs ++ L ∧ B.cells = A.cells + mc ∧ B.slots = A.slots + ms))
    {g : JFrame} (hg : g.method = m) (hsize : g.locals.size = c.maxLocals) {a : Addr} {argsL rest : List Value} (hlen : ∀ sig, parseMethodDescriptor y.desc = some sig → argsL.length = sig.parameters.length) (hstack : g.stack = argsL.reverse ++ .ref a :: rest) (has : (.ref a :: argsL).toArray = as') (hW : 2 * g.monitorRoom + (rest.map fun v => v.category).sum ≤ W)
    (hdg : decode c.code g.pc = .ok (.invokespecial index, 3)) (hc : cells + mc ≤ R.cells) (hsl : slots + ms ≤ R.slots) :
    ∃ v T' L, Stand p l e R s m args below meth c T' (locs ++ L) (cells + mc) (slots + ms) ∧ Q v T'.heap L ∧
      ∀ t, Steps p.tables e below (T'.setTop { g with pc := g.pc + 3, stack := v.toList ++ rest }) t → Steps p.tables e below (T.setTop g) t := by
  obtain ⟨v, _, ⟨T', L, k', n'⟩, -, X', ⟨Lc, hQ, l1, l2, l3⟩, st⟩ := X.specialBack hx hy1 hown (mvT hZ w1) (mvT hZ w2) (mvT hZ w4) hy hK hg hsize (Steps.refl _) hlen hstack hW hdg (fun _ _ => ⟨has, eT, hc, hsl⟩)
  dsimp only [Pt.U, Pt.locs, Pt.cells, Pt.slots] at X' l1 l2 l3 st hQ
  subst l1 l2 l3
  exact ⟨v, T', Lc, X', hQ, fun t k => st.trans k⟩
/-- a virtual call by the contract of the method that is selected (declared by a class, the receiver exactly of the class C) -/
theorem own_callV {rm : Room} {W : Nat} {as' : Array Value} {Q : Option Value → Heap → List Loc → Prop} {own C : String} {index : Nat} {y z : MethodName} {bytes : ByteArray} {maxL : Nat} {ret : Option FieldType} (X : Stand p l e R s m args below meth c T locs cells slots) (hx : p.tables.exec = Jvm.exec) (hZ : Z.Warmed39 s.vm)
    (hown : s.vm.findClass own = some m.cls) (w1 : (Cond.methodLink own index y).before a0 Z = true) (w2 : (Cond.declares y).before a0 Z = true) (hnf : NotFace s y) (w5 : (Cond.selects C y z).before a0 Z = true) (w6 : (Cond.instanceMethod z).before a0 Z = true) (w3 : (Cond.initialized z.cls).before a0 Z = true) (w4 : (Cond.code z bytes maxL ret).before a0 Z = true) (hy : y.cls ≠ "java/lang/invoke/MethodHandle" ∧ y.cls ≠ "java/lang/invoke/VarHandle")
    (eT : T.heap = h) (hM : MetFree l z (head1 [Cond.code z bytes maxL ret] rm) (fun a U => a = as' ∧ Z.Warmed39 U.vm ∧ U.heap = h) (fun _ _ _ _ _ => True) (fun _ U o U' => ∃ v L, o = .returned v ∧ Q v U'.heap L ∧ FrameEnd U o U' L rm.cells rm.slots))
    {a : Addr} (E : Exa Z h a C) {g : JFrame} (hg : g.method = m) (hsize : g.locals.size = c.maxLocals) {argsL rest : List Value} (hlen : ∀ sig, parseMethodDescriptor y.desc = some sig → argsL.length = sig.parameters.length) (hstack : g.stack = argsL.reverse ++ .ref a :: rest) (has : (.ref a :: argsL).toArray = as') (hW : 2 * g.monitorRoom + (rest.map fun v => v.category).sum ≤ W)
    (hdg : decode c.code g.pc = .ok (.invokevirtual index, 3)) (hf : rm.frames + 1 ≤ R.frames) (hl : W + (maxL + 11) + rm.locals ≤ R.locals) (hc : cells + rm.cells ≤ R.cells) (hsl : slots + rm.slots ≤ R.slots) :
    ∃ v T' L, Stand p l e R s m args below meth c T' (locs ++ L) (cells + rm.cells) (slots + rm.slots) ∧ Q v T'.heap L ∧
      ∀ t, Steps p.tables e below (T'.setTop { g with pc := g.pc + 3, stack := v.toList ++ rest }) t → Steps p.tables e below (T.setTop g) t := by
  obtain ⟨cq, kq, qa, qb, qc⟩ := isOf hZ eT E
  obtain ⟨v, _, ⟨T', L, k', n'⟩, -, X', ⟨Lc, hQ, l1, l2, l3⟩, st⟩ := X.virtualBack hx hown (mvT hZ w1) (mvT hZ w2) hnf (mvT hZ w5) (mvT hZ w6) hy (backOf (W := W) hM hZ w4 w3 hf hl) qa qc hg hsize (Steps.refl _) hlen hstack hW hdg (fun _ _ => ⟨has, eT, hc, hsl⟩)
  dsimp only [Pt.U, Pt.locs, Pt.cells, Pt.slots] at X' l1 l2 l3 st hQ
  subst l1 l2 l3
  exact ⟨v, T', Lc, X', hQ, fun t k => st.trans k⟩
/-- a virtual call of a method that the named class inherits from 'owner' -/
theorem own_callU {rm : Room} {W : Nat} {as' : Array Value} {Q : Option Value → Heap → List Loc → Prop} {own C owner : String} {index : Nat} {y z : MethodName} {bytes : ByteArray} {maxL : Nat} {ret : Option FieldType} (X : Stand p l e R s m args below meth c T locs cells slots) (hx : p.tables.exec = Jvm.exec) (hZ : Z.Warmed39 s.vm)
    (hown : s.vm.findClass own = some m.cls) (w1 : (Cond.methodLink own index y).before a0 Z = true) (w2 : (Cond.sameMethod y.cls owner y.name y.desc).before a0 Z = true) (w7 : (Cond.declares ⟨owner, y.name, y.desc⟩).before a0 Z = true) (ho : owner ≠ "java/lang/invoke/MethodHandle" ∧ owner ≠ "java/lang/invoke/VarHandle") (w5 : (Cond.selects C y z).before a0 Z = true) (w6 : (Cond.instanceMethod z).before a0 Z = true) (w3 : (Cond.initialized z.cls).before a0 Z = true) (w4 : (Cond.code z bytes maxL ret).before a0 Z = true)
    (eT : T.heap = h) (hM : MetFree l z (head1 [Cond.code z bytes maxL ret] rm) (fun a U => a = as' ∧ Z.Warmed39 U.vm ∧ U.heap = h) (fun _ _ _ _ _ => True) (fun _ U o U' => ∃ v L, o = .returned v ∧ Q v U'.heap L ∧ FrameEnd U o U' L rm.cells rm.slots))
    {a : Addr} (E : Exa Z h a C) {g : JFrame} (hg : g.method = m) (hsize : g.locals.size = c.maxLocals) {argsL rest : List Value} (hlen : ∀ sig, parseMethodDescriptor y.desc = some sig → argsL.length = sig.parameters.length) (hstack : g.stack = argsL.reverse ++ .ref a :: rest) (has : (.ref a :: argsL).toArray = as') (hW : 2 * g.monitorRoom + (rest.map fun v => v.category).sum ≤ W)
    (hdg : decode c.code g.pc = .ok (.invokevirtual index, 3)) (hf : rm.frames + 1 ≤ R.frames) (hl : W + (maxL + 11) + rm.locals ≤ R.locals) (hc : cells + rm.cells ≤ R.cells) (hsl : slots + rm.slots ≤ R.slots) :
    ∃ v T' L, Stand p l e R s m args below meth c T' (locs ++ L) (cells + rm.cells) (slots + rm.slots) ∧ Q v T'.heap L ∧
      ∀ t, Steps p.tables e below (T'.setTop { g with pc := g.pc + 3, stack := v.toList ++ rest }) t → Steps p.tables e below (T.setTop g) t := by
  obtain ⟨cq, kq, qa, qb, qc⟩ := isOf hZ eT E
  obtain ⟨v, _, ⟨T', L, k', n'⟩, -, X', ⟨Lc, hQ, l1, l2, l3⟩, st⟩ := X.virtualBackUp hx hown (mvT hZ w1) (mvT hZ w2) (mvT hZ w7) ho (mvT hZ w5) (mvT hZ w6) (backOf (W := W) hM hZ w4 w3 hf hl) qa qc hg hsize (Steps.refl _) hlen hstack hW hdg (fun _ _ => ⟨has, eT, hc, hsl⟩)
  dsimp only [Pt.U, Pt.locs, Pt.cells, Pt.slots] at X' l1 l2 l3 st hQ
  subst l1 l2 l3
  exact ⟨v, T', Lc, X', hQ, fun t k => st.trans k⟩
theorem own_lrem {g : JFrame} {target : State} (X : Stand p l e R s m args below meth c T locs cells slots) (hx : p.tables.exec = Jvm.exec) (hg : g.method = m) {x y : Int64} {rest : List Value} (hd : decode c.code g.pc = .ok (.lrem, 1)) (hs : g.stack = .long y :: .long x :: rest) (hy : y ≠ 0)
    (hr : Steps p.tables e below (T.setTop { g with pc := g.pc + 1, stack := .long (x % y) :: rest }) target) : Steps p.tables e below (T.setTop g) target :=
  XS.lrem X.here hx hg hd hs hy (by rw [lrem_mod]; exact hr)
end Own
/-! ints as integers -/
theorem own_tL {x y : Int32} (h : x < y) : x.toInt < y.toInt := Int32.lt_iff_toInt_lt.mp h
theorem own_tLn {x y : Int32} (h : ¬ x < y) : ¬ x.toInt < y.toInt := fun q => h (Int32.lt_iff_toInt_lt.mpr q)
theorem own_tE {x y : Int32} (h : x = y) : x.toInt = y.toInt := congrArg _ h
theorem own_tEn {x y : Int32} (h : ¬ x = y) : ¬ x.toInt = y.toInt := fun q => h (Int32.toInt_inj.mp q)
theorem own_uL {x y : Int64} (h : x < y) : x.toInt < y.toInt := Int64.lt_iff_toInt_lt.mp h
theorem own_uLn {x y : Int64} (h : ¬ x < y) : ¬ x.toInt < y.toInt := fun q => h (Int64.lt_iff_toInt_lt.mpr q)
theorem own_uE {x y : Int64} (h : x = y) : x.toInt = y.toInt := congrArg _ h
theorem own_uEn {x y : Int64} (h : ¬ x = y) : ¬ x.toInt = y.toInt := fun q => h (Int64.toInt_inj.mp q)
/-! an array by its values: n places, place i holds f i -/
section OwnArr
variable {p : Program} {l : Launch} {e : Env} {R : Room} {s : State} {m : MethodId} {args : Array Value} {below : List Frame} {meth : Method} {c : Code} {T : State} {locs : List Loc} {cells slots : Nat} {Z : State} {a0 : Array Value} {h h' : Heap} {a b : Addr} {ty : FieldType} {n sl : Nat} {f : Nat → Value} {v : Value} {ws : List Addr}
def own_AV (Z : State) (h : Heap) (a : Addr) (ty : FieldType) (n : Nat) (f : Nat → Value) : Prop := ∃ cl : Cell, Arr Z h a cl ty ∧ cl.slots.size = n ∧ ∀ i, i < n → cl.slots[i]? = some (f i)
theorem own_AV.new {k : ClassId} {z : Int32} (A : Arr Z h a (newA k ty z) ty) (hn : z.toNatClampNeg = n) : own_AV Z h a ty n (fun _ => defaultValue ty) := by
  subst hn
  exact ⟨_, A, sz_new _ _ _, fun i hi => by simp [newA, hi]⟩
theorem own_AV.ext (F : own_AV Z h a ty n f) (E : Ext h h') : own_AV Z h' a ty n f := by
  obtain ⟨cl, A, r⟩ := F
  exact ⟨cl, A.ext E, r⟩
theorem own_AV.other (F : own_AV Z h b ty n f) (W : Wr h h' a sl v) (q : b ≠ a) : own_AV Z h' b ty n f := by
  obtain ⟨cl, A, r⟩ := F
  exact ⟨cl, A.other W q, r⟩
theorem own_AV.lt (F : own_AV Z h a ty n f) : a < h.size := by
  obtain ⟨cl, A, r⟩ := F
  exact A.lt
theorem own_AV.same {i : Nat} (F : own_AV Z h a ty n f) (W : Wr h h' a i v) (hi : i < n) : own_AV Z h' a ty n (fun k => if k = i then v else f k) := by
  obtain ⟨cl, A, S, H⟩ := F
  refine ⟨_, A.same W, (sz_set _ _ _).trans S, fun k hk => ?_⟩
  by_cases q : k = i
  · subst q
    simp [Cell.setSlot, S, hk]
  · simp only [Cell.setSlot, if_neg q]
    rw [Array.getElem?_setIfInBounds_ne (Ne.symm q)]
    exact H k hk
theorem own_AV.congr {f' : Nat → Value} (F : own_AV Z h a ty n f) (q : ∀ i, i < n → f i = f' i) : own_AV Z h a ty n f' := by
  obtain ⟨cl, A, S, H⟩ := F
  exact ⟨cl, A, S, fun i hi => (H i hi).trans (congrArg some (q i hi))⟩
theorem own_AV.keep (F : own_AV Z h a ty n f) (K : Keep h h' ws) (q : a ∉ ws) : own_AV Z h' a ty n f := by
  obtain ⟨cl, A, r⟩ := F
  exact ⟨cl, ⟨K.2.1 _ _ A.1 q, A.2⟩, r⟩
theorem own_AV.arv {z : Int32} {vs : List Value} {d : Value} (F : own_AV Z h a ty n f) (hz : z.toNatClampNeg = n) (h0 : ¬ z < 0) (hv : ∀ i, i < n → vs.getD i d = f i) (hf : ∀ i, i < n → fits ty (f i) = true) : ∃ k, Arv Z h a k ty z vs d := by
  obtain ⟨cl, A, S, H⟩ := F
  refine ⟨cl.cls, cl, A, rfl, S.trans hz.symm, h0, fun i hi => ?_, fun i hi => ?_⟩
  · rw [hv i (S ▸ hi)]
    exact H i (S ▸ hi)
  · rw [hv i (S ▸ hi)]
    exact hf i (S ▸ hi)
theorem own_AV.of_arv {k : ClassId} {z : Int32} {vs : List Value} {d : Value} (F : Arv Z h a k ty z vs d) (hz : z.toNatClampNeg = n) : own_AV Z h a ty n (fun i => vs.getD i d) := by
  obtain ⟨cl, A, -, S, -, H, -⟩ := F
  exact ⟨cl, A, S.trans hz, fun i hi => H i (by rw [S, hz]; exact hi)⟩
theorem own_inb {cl : Cell} {j : Int32} {i : Nat} (S : cl.slots.size = n) (hj : j.toNatClampNeg = i) (h0 : ¬ j < 0) (hi : i < n) : ¬ (j < 0 ∨ cl.slots.size ≤ j.toNatClampNeg) := by
  rintro (q | q)
  · exact h0 q
  · rw [S, hj] at q
    omega
theorem own_caload (X : Stand p l e R s m args below meth c T locs cells slots) (hx : p.tables.exec = Jvm.exec) (hZ : Z.Warmed39 s.vm) (eT : T.heap = h) (F : own_AV Z h a .char n f) {j : Int32} {i : Nat} (hj : j.toNatClampNeg = i) (h0 : ¬ j < 0) (hi : i < n) {g : JFrame} (hg : g.method = m) {rest : List Value} (hs : g.stack = .int j :: .ref a :: rest) (hd : decode c.code g.pc = .ok (.caload, 1)) :
    ∀ t, Steps p.tables e below (T.setTop { g with pc := g.pc + 1, stack := f i :: rest }) t → Steps p.tables e below (T.setTop g) t := by
  obtain ⟨cl, A, S, H⟩ := F
  exact fun t k => X.caload hx (by rw [eT]; exact A.1) (State.isArrayOf_alike hZ.alike A.2.1) A.2.2 (own_inb S hj h0 hi) (by rw [hj]; exact H i hi) hg hs hd t k
theorem own_iaload (X : Stand p l e R s m args below meth c T locs cells slots) (hx : p.tables.exec = Jvm.exec) (hZ : Z.Warmed39 s.vm) (eT : T.heap = h) (F : own_AV Z h a .int n f) {j : Int32} {i : Nat} (hj : j.toNatClampNeg = i) (h0 : ¬ j < 0) (hi : i < n) {g : JFrame} (hg : g.method = m) {rest : List Value} (hs : g.stack = .int j :: .ref a :: rest) (hd : decode c.code g.pc = .ok (.iaload, 1)) :
    ∀ t, Steps p.tables e below (T.setTop { g with pc := g.pc + 1, stack := f i :: rest }) t → Steps p.tables e below (T.setTop g) t := by
  obtain ⟨cl, A, S, H⟩ := F
  exact fun t k => X.iaload hx (by rw [eT]; exact A.1) (State.isArrayOf_alike hZ.alike A.2.1) A.2.2 (own_inb S hj h0 hi) (by rw [hj]; exact H i hi) hg hs hd t k
theorem own_laload (X : Stand p l e R s m args below meth c T locs cells slots) (hx : p.tables.exec = Jvm.exec) (hZ : Z.Warmed39 s.vm) (eT : T.heap = h) (F : own_AV Z h a .long n f) {j : Int32} {i : Nat} (hj : j.toNatClampNeg = i) (h0 : ¬ j < 0) (hi : i < n) {g : JFrame} (hg : g.method = m) {rest : List Value} (hs : g.stack = .int j :: .ref a :: rest) (hd : decode c.code g.pc = .ok (.laload, 1)) :
    ∀ t, Steps p.tables e below (T.setTop { g with pc := g.pc + 1, stack := f i :: rest }) t → Steps p.tables e below (T.setTop g) t := by
  obtain ⟨cl, A, S, H⟩ := F
  exact fun t k => X.laload hx (by rw [eT]; exact A.1) (State.isArrayOf_alike hZ.alike A.2.1) A.2.2 (own_inb S hj h0 hi) (by rw [hj]; exact H i hi) hg hs hd t k
theorem own_baload (X : Stand p l e R s m args below meth c T locs cells slots) (hx : p.tables.exec = Jvm.exec) (hZ : Z.Warmed39 s.vm) (eT : T.heap = h) (F : own_AV Z h a .byte n f) {j : Int32} {i : Nat} (hj : j.toNatClampNeg = i) (h0 : ¬ j < 0) (hi : i < n) {g : JFrame} (hg : g.method = m) {rest : List Value} (hs : g.stack = .int j :: .ref a :: rest) (hd : decode c.code g.pc = .ok (.baload, 1)) :
    ∀ t, Steps p.tables e below (T.setTop { g with pc := g.pc + 1, stack := f i :: rest }) t → Steps p.tables e below (T.setTop g) t := by
  obtain ⟨cl, A, S, H⟩ := F
  exact fun t k => X.baloadBytes hx (by rw [eT]; exact A.1) (State.isArrayOf_alike hZ.alike A.2.1) A.2.2 (own_inb S hj h0 hi) (by rw [hj]; exact H i hi) hg hs hd t k
theorem own_alen (X : Stand p l e R s m args below meth c T locs cells slots) (hx : p.tables.exec = Jvm.exec) (hZ : Z.Warmed39 s.vm) (eT : T.heap = h) (F : own_AV Z h a ty n f) {z : Int32} (hz : n.toInt32 = z) {g : JFrame} (hg : g.method = m) {rest : List Value} (hs : g.stack = .ref a :: rest) (hd : decode c.code g.pc = .ok (.arraylength, 1)) :
    ∀ t, Steps p.tables e below (T.setTop { g with pc := g.pc + 1, stack := .int z :: rest }) t → Steps p.tables e below (T.setTop g) t := by
  obtain ⟨cl, A, S, H⟩ := F
  refine fun t k => X.arraylength hx (by rw [eT]; exact A.1) (State.isArrayOf_alike hZ.alike A.2.1) hg hs hd t ?_
  rw [S, hz]
  exact k
theorem own_stI (X : Stand p l e R s m args below meth c T locs cells slots) (hx : p.tables.exec = Jvm.exec) (hZ : Z.Warmed39 s.vm) (eT : T.heap = h) (F : own_AV Z h a .int n f) {j x : Int32} {i : Nat} (hj : j.toNatClampNeg = i) (h0 : ¬ j < 0) (hi : i < n) {g : JFrame} (hg : g.method = m) {rest : List Value} (hs : g.stack = .int x :: .int j :: .ref a :: rest) (hd : decode c.code g.pc = .ok (.iastore, 1)) :
    ∃ T' h', Stand p l e R s m args below meth c T' (locs ++ [⟨a, i⟩]) cells slots ∧ T'.heap = h' ∧ Wr h h' a i (.int x) ∧ own_AV Z h' a .int n (fun k => if k = i then .int x else f k) ∧ ∀ target, Steps p.tables e below (T'.setTop { g with pc := g.pc + 1, stack := rest }) target → Steps p.tables e below (T.setTop g) target := by
  obtain ⟨cl, A, S, H⟩ := F
  subst hj
  obtain ⟨T', h', X', e', W, st⟩ := stI X hx hZ eT A (own_inb S rfl h0 hi) hg hs hd
  exact ⟨T', h', X', e', W, own_AV.same ⟨cl, A, S, H⟩ W hi, st⟩
theorem own_stJ (X : Stand p l e R s m args below meth c T locs cells slots) (hx : p.tables.exec = Jvm.exec) (hZ : Z.Warmed39 s.vm) (eT : T.heap = h) (F : own_AV Z h a .long n f) {j : Int32} {x : Int64} {i : Nat} (hj : j.toNatClampNeg = i) (h0 : ¬ j < 0) (hi : i < n) {g : JFrame} (hg : g.method = m) {rest : List Value} (hs : g.stack = .long x :: .int j :: .ref a :: rest) (hd : decode c.code g.pc = .ok (.lastore, 1)) :
    ∃ T' h', Stand p l e R s m args below meth c T' (locs ++ [⟨a, i⟩]) cells slots ∧ T'.heap = h' ∧ Wr h h' a i (.long x) ∧ own_AV Z h' a .long n (fun k => if k = i then .long x else f k) ∧ ∀ target, Steps p.tables e below (T'.setTop { g with pc := g.pc + 1, stack := rest }) target → Steps p.tables e below (T.setTop g) target := by
  obtain ⟨cl, A, S, H⟩ := F
  subst hj
  obtain ⟨T', h', X', e', W, st⟩ := stJ X hx hZ eT A (own_inb S rfl h0 hi) hg hs hd
  exact ⟨T', h', X', e', W, own_AV.same ⟨cl, A, S, H⟩ W hi, st⟩
theorem own_stC (X : Stand p l e R s m args below meth c T locs cells slots) (hx : p.tables.exec = Jvm.exec) (hZ : Z.Warmed39 s.vm) (eT : T.heap = h) (F : own_AV Z h a .char n f) {j x : Int32} {i : Nat} (hj : j.toNatClampNeg = i) (h0 : ¬ j < 0) (hi : i < n) {g : JFrame} (hg : g.method = m) {rest : List Value} (hs : g.stack = .int x :: .int j :: .ref a :: rest) (hd : decode c.code g.pc = .ok (.castore, 1)) :
    ∃ T' h', Stand p l e R s m args below meth c T' (locs ++ [⟨a, i⟩]) cells slots ∧ T'.heap = h' ∧ Wr h h' a i (.int (nar .char x)) ∧ own_AV Z h' a .char n (fun k => if k = i then .int (nar .char x) else f k) ∧ ∀ target, Steps p.tables e below (T'.setTop { g with pc := g.pc + 1, stack := rest }) target → Steps p.tables e below (T.setTop g) target := by
  obtain ⟨cl, A, S, H⟩ := F
  subst hj
  obtain ⟨T', h', X', e', W, st⟩ := stC X hx hZ eT A (own_inb S rfl h0 hi) hg hs hd
  exact ⟨T', h', X', e', W, own_AV.same ⟨cl, A, S, H⟩ W hi, st⟩
theorem own_stB (X : Stand p l e R s m args below meth c T locs cells slots) (hx : p.tables.exec = Jvm.exec) (hZ : Z.Warmed39 s.vm) (eT : T.heap = h) (F : own_AV Z h a .byte n f) {j x : Int32} {i : Nat} (hj : j.toNatClampNeg = i) (h0 : ¬ j < 0) (hi : i < n) {g : JFrame} (hg : g.method = m) {rest : List Value} (hs : g.stack = .int x :: .int j :: .ref a :: rest) (hd : decode c.code g.pc = .ok (.bastore, 1)) :
    ∃ T' h', Stand p l e R s m args below meth c T' (locs ++ [⟨a, i⟩]) cells slots ∧ T'.heap = h' ∧ Wr h h' a i (.int (nar .byte x)) ∧ own_AV Z h' a .byte n (fun k => if k = i then .int (nar .byte x) else f k) ∧ ∀ target, Steps p.tables e below (T'.setTop { g with pc := g.pc + 1, stack := rest }) target → Steps p.tables e below (T.setTop g) target := by
  obtain ⟨cl, A, S, H⟩ := F
  subst hj
  obtain ⟨T', h', X', e', W, st⟩ := stB X hx hZ eT A (own_inb S rfl h0 hi) hg hs hd
  exact ⟨T', h', X', e', W, own_AV.same ⟨cl, A, S, H⟩ W hi, st⟩
end OwnArr
/-! doubles -/
section OwnDbl
variable {p : Program} {l : Launch} {e : Env} {R : Room} {s : State} {m : MethodId} {args : Array Value} {below : List Frame} {meth : Method} {c : Code} {T : State} {locs : List Loc} {cells slots : Nat} {Z : State} {a0 : Array Value} {h h' : Heap} {a b : Addr} {n sl : Nat} {f : Nat → Value} {v : Value}
theorem own_daload (X : Stand p l e R s m args below meth c T locs cells slots) (hx : p.tables.exec = Jvm.exec) (hZ : Z.Warmed39 s.vm) (eT : T.heap = h) (F : own_AV Z h a .double n f) {j : Int32} {i : Nat} (hj : j.toNatClampNeg = i) (h0 : ¬ j < 0) (hi : i < n) {g : JFrame} (hg : g.method = m) {rest : List Value} (hs : g.stack = .int j :: .ref a :: rest) (hd : decode c.code g.pc = .ok (.daload, 1)) :
    ∀ t, Steps p.tables e below (T.setTop { g with pc := g.pc + 1, stack := f i :: rest }) t → Steps p.tables e below (T.setTop g) t := by
  obtain ⟨cl, A, S, H⟩ := F
  exact fun t k => X.daload hx (by rw [eT]; exact A.1) (State.isArrayOf_alike hZ.alike A.2.1) A.2.2 (own_inb S hj h0 hi) (by rw [hj]; exact H i hi) hg hs hd t k
theorem own_stD (X : Stand p l e R s m args below meth c T locs cells slots) (hx : p.tables.exec = Jvm.exec) (hZ : Z.Warmed39 s.vm) (eT : T.heap = h) (F : own_AV Z h a .double n f) {j : Int32} {x : UInt64} {i : Nat} (hj : j.toNatClampNeg = i) (h0 : ¬ j < 0) (hi : i < n) {g : JFrame} (hg : g.method = m) {rest : List Value} (hs : g.stack = .double x :: .int j :: .ref a :: rest) (hd : decode c.code g.pc = .ok (.dastore, 1)) :
    ∃ T' h', Stand p l e R s m args below meth c T' (locs ++ [⟨a, i⟩]) cells slots ∧ T'.heap = h' ∧ Wr h h' a i (.double x) ∧ own_AV Z h' a .double n (fun k => if k = i then .double x else f k) ∧ ∀ target, Steps p.tables e below (T'.setTop { g with pc := g.pc + 1, stack := rest }) target → Steps p.tables e below (T.setTop g) target := by
  obtain ⟨cl, A, S, H⟩ := F
  subst hj
  obtain ⟨T', h', X', e', W, st⟩ := stD X hx hZ eT A (own_inb S rfl h0 hi) hg hs hd
  exact ⟨T', h', X', e', W, own_AV.same ⟨cl, A, S, H⟩ W hi, st⟩
theorem own_retD {Q : Option Value → Heap → List Loc → Prop} {k n pc : Nat} {Ls : Array Slot} {z : UInt64} {rest : List Value} (X : Stand p l e R s m args below meth c T locs cells slots) (hx : p.tables.exec = Jvm.exec) (hlk : meth.locks = false)
    (hret : meth.sig.returnType = some .double) (hd : decode c.code pc = .ok (.dreturn, 1)) (hQ : Q (some (.double z)) T.heap locs) (hk : cells ≤ k) (hn : slots ≤ n) : own_Dn p e below (own_Ret s Q k n) (T.setTop (mkF m pc Ls (.double z :: rest))) :=
  own_retW X hx hlk hret rfl (Or.inr (Or.inr (Or.inl ⟨rfl, rfl, z, rfl⟩))) hd hQ hk hn
end OwnDbl
/-! sums of doubles that are whole numbers, rounded to the nearest: what a compensated sum loses is a whole number too -/
section OwnRound
def own_Rep (n : Int) : Prop := ∃ m k : Nat, n.natAbs = m * 2 ^ k ∧ m ≤ 2 ^ 53
def own_RN (n r : Int) : Prop := own_Rep r ∧ ∀ r', own_Rep r' → (n - r).natAbs ≤ (n - r').natAbs
theorem own_rep_small {n : Int} (h : n.natAbs ≤ 2 ^ 53) : own_Rep n := ⟨n.natAbs, 0, by simp, h⟩
theorem own_rn_self {n : Int} (h : own_Rep n) : own_RN n n := ⟨h, fun r' _ => by simp⟩
theorem own_rn_exact {n r : Int} (h : own_RN n r) (q : own_Rep n) : r = n := by
  have := h.2 n q
  simp at this
  omega
theorem own_rn_err {n r : Int} (h : own_RN n r) (q : n.natAbs ≤ 2 ^ 63) : (n - r).natAbs ≤ 512 := by
  have hb : ((n + 512) / 1024).natAbs ≤ 2 ^ 53 := by omega
  have := h.2 (1024 * ((n + 512) / 1024)) ⟨((n + 512) / 1024).natAbs, 10, by rw [Int.natAbs_mul]; show 1024 * _ = _ * 1024; omega, hb⟩
  omega
theorem own_dvd_of {n : Int} {m k j : Nat} (h : n.natAbs = m * 2 ^ k) (q : j ≤ k) : ((2 ^ j : Nat) : Int) ∣ n := by
  rw [Int.ofNat_dvd_left, h]
  exact Nat.dvd_trans (Nat.pow_dvd_pow 2 q) (Nat.dvd_mul_left _ _)
theorem own_rep_of {n : Int} {j : Nat} (h : ((2 ^ j : Nat) : Int) ∣ n) (q : n.natAbs ≤ 2 ^ 53 * 2 ^ j) : own_Rep n := by
  obtain ⟨w, hw⟩ := Int.ofNat_dvd_left.mp h
  refine ⟨w, j, by rw [hw, Nat.mul_comm], ?_⟩
  rw [hw, Nat.mul_comm] at q
  exact Nat.le_of_mul_le_mul_right q (Nat.two_pow_pos j)
theorem own_grid {n r : Int} {j : Nat} (h : own_RN n r) (d : ((2 ^ j : Nat) : Int) ∣ n) (ne : r ≠ n) : ((2 ^ (j + 1) : Nat) : Int) ∣ r := by
  have big : 2 ^ 53 * 2 ^ j < n.natAbs := Nat.lt_of_not_le fun q => ne (own_rn_exact h (own_rep_of d q))
  obtain ⟨m, k, hr, hm⟩ := h.1
  have hB : 2 ^ 53 * 2 ^ j ≤ r.natAbs := by
    generalize hP : 2 ^ 53 * 2 ^ j = P at big
    have h1 := h.2 (P : Int) ⟨2 ^ 53, j, by rw [← hP]; rfl, Nat.le_refl _⟩
    have h2 := h.2 (-(P : Int)) ⟨2 ^ 53, j, by rw [Int.natAbs_neg, ← hP]; rfl, Nat.le_refl _⟩
    omega
  by_cases hk : j + 1 ≤ k
  · exact own_dvd_of hr hk
  · have hk' : k ≤ j := by omega
    have l1 : m * 2 ^ k ≤ 2 ^ 53 * 2 ^ k := Nat.mul_le_mul_right _ hm
    have l2 : 2 ^ 53 * 2 ^ k ≤ 2 ^ 53 * 2 ^ j := Nat.mul_le_mul_left _ (Nat.pow_le_pow_right (by decide) hk')
    have hre : r.natAbs = 2 ^ 53 * 2 ^ j := by omega
    rw [Int.ofNat_dvd_left, hre]
    refine ⟨2 ^ 52, ?_⟩
    rw [Nat.pow_succ 2 j]
    generalize 2 ^ j = y
    omega
theorem own_two {s x T B C : Int} (hs : own_Rep s) (hx : own_Rep x) (bs : s.natAbs ≤ 2 ^ 62 + 4096) (bx : x.natAbs ≤ 2 ^ 61) (hT : own_RN (s + x) T) (hB : own_RN (T - s) B) (hC : own_RN (T - B) C) : C = T - B := by
  refine own_rn_exact hC ?_
  have e1 := own_rn_err hT (by omega)
  have e2 := own_rn_err hB (by omega)
  by_cases c1 : B = T - s
  · rw [c1, show T - (T - s) = s by omega]
    exact hs
  by_cases c2 : T = s + x
  · exact absurd (own_rn_exact hB (by rw [c2, show s + x - s = x by omega]; exact hx)) c1
  obtain ⟨ms, ks, hs1, hs2⟩ := hs
  obtain ⟨mx, kx, hx1, hx2⟩ := hx
  have p1 := Nat.two_pow_pos ks
  have p2 := Nat.two_pow_pos kx
  by_cases hk : ks ≤ kx
  · have d1 : ((2 ^ ks : Nat) : Int) ∣ s := own_dvd_of hs1 (Nat.le_refl _)
    have d2 : ((2 ^ ks : Nat) : Int) ∣ x := own_dvd_of hx1 hk
    have d3 := own_grid hT (Int.dvd_add d1 d2) c2
    have d4 : ((2 ^ ks : Nat) : Int) ∣ T := Int.dvd_trans (Int.natCast_dvd_natCast.mpr (Nat.pow_dvd_pow 2 (Nat.le_succ ks))) d3
    have d5 := own_grid hB (Int.dvd_sub d4 d1) c1
    refine own_rep_of (Int.dvd_sub d3 d5) ?_
    have l1 : ms * 2 ^ ks ≤ 2 ^ 53 * 2 ^ ks := Nat.mul_le_mul_right _ hs2
    have l2 : 2 ^ 53 * 2 ^ (ks + 1) = 2 * (2 ^ 53 * 2 ^ ks) := by rw [Nat.pow_succ 2 ks]; generalize 2 ^ ks = y; omega
    have l3 : 2 ^ 53 * 1 ≤ 2 ^ 53 * 2 ^ ks := Nat.mul_le_mul_left _ p1
    rw [l2]
    generalize 2 ^ 53 * 2 ^ ks = P at *
    omega
  · have d1 : ((2 ^ (kx + 1) : Nat) : Int) ∣ s := own_dvd_of hs1 (by omega)
    have d0 : ((2 ^ kx : Nat) : Int) ∣ s := own_dvd_of hs1 (by omega)
    have d2 : ((2 ^ kx : Nat) : Int) ∣ x := own_dvd_of hx1 (Nat.le_refl _)
    have d3 := own_grid hT (Int.dvd_add d0 d2) c2
    refine absurd (own_rn_exact hB (own_rep_of (Int.dvd_sub d3 d1) ?_)) c1
    have l1 : mx * 2 ^ kx ≤ 2 ^ 53 * 2 ^ kx := Nat.mul_le_mul_right _ hx2
    have l2 : 2 ^ 53 * 2 ^ (kx + 1) = 2 * (2 ^ 53 * 2 ^ kx) := by rw [Nat.pow_succ 2 kx]; generalize 2 ^ kx = y; omega
    have l3 : 2 ^ 53 * 1 ≤ 2 ^ 53 * 2 ^ kx := Nat.mul_le_mul_left _ p2
    rw [l2]
    generalize 2 ^ 53 * 2 ^ kx = P at *
    omega
open Jvm.FP.Core
theorem own_round {s : Bool} {n : Nat} (h1 : 2 ^ 53 < n) (h2 : n ≤ 2 ^ 63) : ∃ (c : Nat) (q : Nat), roundRatio b64 s n 1 0 = .fin s c q ∧ c < 2 ^ 53 ∧ ∀ (m k : Nat), m ≤ 2 ^ 53 → ((n : Int) - (c * 2 ^ q : Nat)).natAbs ≤ ((n : Int) - (m * 2 ^ k : Nat)).natAbs := by
  have hn0 : n ≠ 0 := by omega
  have hL1 : 2 ^ n.log2 ≤ n := Nat.log2_self_le hn0
  have hL2 : n < 2 ^ (n.log2 + 1) := Nat.lt_log2_self
  have hL3 : n.log2 ≤ 63 := by
    refine Nat.le_of_not_lt fun q => ?_
    have := Nat.pow_le_pow_right (n := 2) (by decide) q
    omega
  have hL4 : 53 ≤ n.log2 := by
    refine Nat.le_of_not_lt fun q => ?_
    have := Nat.pow_le_pow_right (n := 2) (by decide) (show n.log2 + 1 ≤ 53 by omega)
    omega
  have hq : quantum b64 n 1 0 = ((n.log2 - 52 : Nat) : Int) := by
    have hk : leading n 1 = (n.log2 : Int) := by
      unfold leading
      have e1 : Nat.log2 1 = 0 := by decide
      simp only [e1]
      rw [if_pos]
      · omega
      · rw [show ((n.log2 : Int) - ((0 : Nat) : Int)).toNat = n.log2 by omega, show (-((n.log2 : Int) - ((0 : Nat) : Int))).toNat = 0 by omega]
        simpa using hL1
    unfold quantum
    rw [hk]
    have e2 : b64.qmin = -1074 := by decide
    have e3 : ((b64.p : Nat) : Int) = 53 := by decide
    rw [e2, e3]
    omega
  have hfin : ∃ (c : Nat) (q : Nat), roundRatio b64 s n 1 0 = .fin s c q ∧ c < 2 ^ 53 := by
    unfold roundRatio
    rw [if_neg hn0, hq]
    unfold roundAt settle bound
    have e4 : b64.qmax = 971 := by decide
    have e5 : b64.p = 53 := rfl
    have e6 : b64.tails = 2 ^ 52 := rfl
    rw [e4, e5, e6]
    split
    · rename_i hc
      rw [if_pos (by omega)]
      exact ⟨_, n.log2 - 52, rfl, hc⟩
    · rw [if_pos (by omega)]
      exact ⟨_, n.log2 - 52 + 1, rfl, by decide⟩
  obtain ⟨c, q, hr, hc⟩ := hfin
  refine ⟨c, q, hr, hc, fun m k hm => ?_⟩
  have key : ∀ (c' : Nat) (k' : Nat), c' < 2 ^ 53 → ((n : Int) - (c * 2 ^ q : Nat)).natAbs ≤ ((n : Int) - (c' * 2 ^ k' : Nat)).natAbs := fun c' k' hc' => by
    have e2 : b64.qmin = -1074 := by decide
    have d := roundRatio_nearest good_b64 (e0 := -1074) (q' := (k' : Int)) (by decide) hr hc' (by rw [e2]; omega) (by decide) (by decide)
    unfold distance inUnits at d
    rw [show ((0 : Int) - -1074).toNat = 1074 by omega, show ((q : Int) - -1074).toNat = q + 1074 by omega, show ((k' : Int) - -1074).toNat = k' + 1074 by omega, Nat.pow_add, Nat.pow_add] at d
    have hP := Nat.two_pow_pos 1074
    generalize (2 : Nat) ^ 1074 = P at d hP
    generalize (2 : Nat) ^ q = y at d ⊢
    generalize (2 : Nat) ^ k' = z at d ⊢
    have f1 : ∀ w : Nat, ((n * P : Nat) : Int) - ((c * (w * P) : Nat) : Int) * ((1 : Nat) : Int) = ((n : Int) - ((c * w : Nat) : Int)) * (P : Int) := fun w => by
      rw [Int.sub_mul, ← Int.natCast_mul, ← Int.natCast_mul, Nat.mul_assoc]
      simp [Int.mul_assoc]
    have f2 : ∀ w : Nat, ((n * P : Nat) : Int) - ((c' * (w * P) : Nat) : Int) * ((1 : Nat) : Int) = ((n : Int) - ((c' * w : Nat) : Int)) * (P : Int) := fun w => by
      rw [Int.sub_mul, ← Int.natCast_mul, ← Int.natCast_mul, Nat.mul_assoc]
      simp [Int.mul_assoc]
    rw [f1, f2, Int.natAbs_mul, Int.natAbs_mul, Int.natAbs_natCast] at d
    exact Nat.le_of_mul_le_mul_right d hP
  by_cases hm2 : m < 2 ^ 53
  · exact key m k hm2
  · have := key (2 ^ 52) (k + 1) (by decide)
    have e : 2 ^ 52 * 2 ^ (k + 1) = m * 2 ^ k := by
      have hm3 : m = 2 ^ 53 := by omega
      rw [hm3, Nat.pow_succ 2 k]
      generalize (2 : Nat) ^ k = y
      omega
    rw [e] at this
    exact this
theorem own_whole_round {n : Int} {d : Datum} (h : Whole n d) (b : n.natAbs ≤ 2 ^ 63) : ∃ r, Whole r (round b64 d) ∧ own_RN n r := by
  by_cases hs : n.natAbs ≤ 2 ^ 53
  · exact ⟨n, whole_round good_b64 wide_b64 hs h, own_rn_self (own_rep_small hs)⟩
  · cases d with
    | nan => exact h.elim
    | inf => exact h.elim
    | fin s c q =>
      have hn : n ≠ 0 := by omega
      have hsg := whole_sign h hn
      obtain ⟨c', q', hr, hc, near⟩ := own_round (s := s) (n := n.natAbs) (by omega) b
      rw [round_whole h, hr]
      have hmag : ∀ r : Int, own_Rep r → ((n.natAbs : Int) - (c' * 2 ^ q' : Nat)).natAbs ≤ (n - r).natAbs := fun r ⟨m, k, e1, e2⟩ => by
        have := near m k e2
        rw [← e1] at this
        omega
      generalize hP : c' * 2 ^ q' = P at hmag
      refine ⟨if n < 0 then -(P : Int) else (P : Int), ?_, ⟨c', q', by split <;> omega, by omega⟩, fun r hr' => ?_⟩
      · show signed s (c' * 2 ^ (q' : Int).toNat) = _ * ((2 ^ (-(q' : Int)).toNat : Nat) : Int)
        rw [show (q' : Int).toNat = q' by omega, show (-(q' : Int)).toNat = 0 by omega, hP, hsg]
        unfold signed
        by_cases hneg : n < 0 <;> simp [hneg]
      · have := hmag r hr'
        have hp : P ≤ 2 * n.natAbs := by
          have := hmag 0 ⟨0, 0, rfl, by decide⟩
          omega
        split <;> omega
theorem own_dadd {i j : Int} {a b : UInt64} (ha : DInt i a) (hb : DInt j b) (h : (i + j).natAbs ≤ 2 ^ 63) : ∃ r, DInt r (dadd a b) ∧ own_RN (i + j) r := by
  unfold DInt
  rw [val64_dadd]
  exact own_whole_round (whole_sum ha hb) h
theorem own_dsub {i j : Int} {a b : UInt64} (ha : DInt i a) (hb : DInt j b) (h : (i - j).natAbs ≤ 2 ^ 63) : ∃ r, DInt r (dsub a b) ∧ own_RN (i - j) r := by
  unfold DInt
  rw [val64_dsub]
  have := own_whole_round (whole_sum ha (whole_negate hb)) h
  exact this
def own_drp (a b t : UInt64) : UInt64 := dadd (dsub a (dsub t (dsub t a))) (dsub b (dsub t a))
theorem own_nn {i : Int} {a : UInt64} (h : DInt i a) : Jvm.Free.Fl.NoNaN64 a := by
  have hf : DFin a := by
    unfold DInt at h
    cases hv : val64 a with
    | nan => rw [hv] at h; exact h.elim
    | inf s => rw [hv] at h; exact h.elim
    | fin s c q => exact ⟨s, c, q, hv⟩
  exact Jvm.Free.Fl.noNaN64_no.mpr (DFin.notNaN hf)
theorem own_drop {s x T : Int} {a b t : UInt64} (ha : DInt s a) (hb : DInt x b) (ht : DInt T t) (hs : own_Rep s) (hx : own_Rep x) (bs : s.natAbs ≤ 2 ^ 62 + 4096) (bx : x.natAbs ≤ 2 ^ 61) (hT : own_RN (s + x) T) :
    ∃ B C D E : Int, DInt B (dsub t a) ∧ DInt C (dsub t (dsub t a)) ∧ DInt D (dsub a (dsub t (dsub t a))) ∧ DInt E (dsub b (dsub t a)) ∧ DInt (s + x - T) (own_drp a b t) := by
  have e1 := own_rn_err hT (by omega)
  obtain ⟨B, hB1, hB2⟩ := own_dsub ht ha (by omega)
  have e2 := own_rn_err hB2 (by omega)
  obtain ⟨C, hC1, hC2⟩ := own_dsub ht hB1 (by omega)
  have hC3 := own_two hs hx bs bx hT hB2 hC2
  obtain ⟨D, hD1, hD2⟩ := own_dsub ha hC1 (by omega)
  have hD3 := own_rn_exact hD2 (own_rep_small (by omega))
  obtain ⟨E, hE1, hE2⟩ := own_dsub hb hB1 (by omega)
  have hE3 := own_rn_exact hE2 (own_rep_small (by omega))
  obtain ⟨F, hF1, hF2⟩ := own_dadd hD1 hE1 (by omega)
  have hF3 := own_rn_exact hF2 (own_rep_small (by omega))
  refine ⟨B, C, D, E, hB1, hC1, hD1, hE1, ?_⟩
  have : F = s + x - T := by omega
  rw [← this]
  exact hF1
/-- the whole sum is what the long's own rounding is -/
theorem own_last {i j : Int} {a b : UInt64} {k : Int64} (ha : DInt i a) (hb : DInt j b) (hk : k.toInt = i + j) : dcmp (dadd a b) (l2d k) = some .eq := by
  by_cases hz : i + j = 0
  · have h1 := dadd_int ha hb (by omega)
    have h2 : DInt k.toInt (l2d k) := l2d_int (by omega)
    rw [dcmp_int h1 h2, hk]
    exact congrArg some (compare_self_int _)
  · have hw := whole_sum ha hb
    have hv : val64 (dadd a b) = val64 (l2d k) := by
      rw [val64_dadd, val64_l2d, hk]
      cases hd : exactSum (val64 a) (val64 b) with
      | nan => rw [hd] at hw; exact hw.elim
      | inf s => rw [hd] at hw; exact hw.elim
      | fin s c q =>
        rw [hd] at hw
        rw [round_whole hw, whole_sign hw hz]
        exact (round_whole (whole_ofInt (i + j))).symm
    show order (val64 (dadd a b)) (val64 (l2d k)) = some .eq
    rw [hv]
    exact order_self (l2d_fin k).ne_nan
theorem own_l2d {k : Int64} (h : own_Rep k.toInt) (b : k.toInt.natAbs ≤ 2 ^ 63) : DInt k.toInt (l2d k) := by
  unfold DInt
  rw [val64_l2d]
  obtain ⟨r, h1, h2⟩ := own_whole_round (whole_ofInt k.toInt) b
  rw [own_rn_exact h2 h] at h1
  exact h1
theorem own_d0 : DInt 0 (0 : UInt64) := by
  have h := l2d_int (a := 0) (by decide)
  rw [Jvm.FP.Core.l2d_zero] at h
  exact h
theorem own_dfin {i : Int} {a : UInt64} (h : DInt i a) : DFin a := by
  unfold DInt at h
  cases hv : val64 a with
  | nan => rw [hv] at h; exact h.elim
  | inf s => rw [hv] at h; exact h.elim
  | fin s c q => exact ⟨s, c, q, hv⟩
theorem own_fin1 {a : UInt64} (h : DFin a) : ∃ r : Int32, cmpValue (Jvm.FP.dcmp (a &&& 0x7fffffffffffffff) (9218868437227405311 : UInt64)) .g = r ∧ ¬ 0 < r := by
  rcases (le_max (DFin.notNaN h)).mpr h with q | q
  · exact ⟨_, rfl, by rw [show Jvm.FP.dcmp (a &&& 0x7fffffffffffffff) (9218868437227405311 : UInt64) = some .lt from q]; decide⟩
  · exact ⟨_, rfl, by rw [show Jvm.FP.dcmp (a &&& 0x7fffffffffffffff) (9218868437227405311 : UInt64) = some .eq from q]; decide⟩
end OwnRound
section OwnAbs
variable {p : Program} {l : Launch} {e : Env} {R : Room} {s : State} {m : MethodId} {args : Array Value} {below : List Frame} {meth : Method} {c : Code} {T : State} {locs : List Loc} {cells slots : Nat} {Z : State} {a0 : Array Value} {h : Heap}
/-- Math.abs of a double that is no NaN -/
theorem own_abs {own : String} {index W : Nat} (X : Stand p l e R s m args below meth c T locs cells slots) (hx : p.tables.exec = Jvm.exec) (hZ : Z.Warmed39 s.vm) (hown : s.vm.findClass own = some m.cls) (w1 : (Cond.methodLink own index Jvm.Free.Fl.Abs.absDN).before a0 Z = true) (w2 : (Cond.static Jvm.Free.Fl.Abs.absDN).before a0 Z = true) (w3 : (Cond.initialized "java/lang/Math").before a0 Z = true) (w4 : (Cond.code Jvm.Free.Fl.Abs.absDN Jvm.Free.Fl.Abs.absDCode 2 (some .double)).before a0 Z = true)
    (eT : T.heap = h) {a : UInt64} (ha : Jvm.Free.Fl.NoNaN64 a) {g : JFrame} (hg : g.method = m) (hsize : g.locals.size = c.maxLocals) {rest : List Value} (hstack : g.stack = .double a :: rest) (hW : 2 * g.monitorRoom + (rest.map fun v => v.category).sum ≤ W) (hdg : decode c.code g.pc = .ok (.invokestatic index, 3)) (hf : 1 ≤ R.frames) (hl : W + 13 ≤ R.locals) (hc : cells ≤ R.cells) (hsl : slots ≤ R.slots) :
    ∃ T', Stand p l e R s m args below meth c T' locs cells slots ∧ T'.heap = h ∧ ∀ t, Steps p.tables e below (T'.setTop { g with pc := g.pc + 3, stack := .double (a &&& 0x7fffffffffffffff) :: rest }) t → Steps p.tables e below (T.setTop g) t := by
  obtain ⟨v, vm₁, B, -, X', ⟨hv, hB⟩, st⟩ := Jvm.LawKit.callS X hx hown (mvT hZ w1) (mvT hZ w2) (mvT hZ w3) (mvT hZ w4) (by decide) (Jvm.Free.Fl.Abs.absD_pays (W := W) a (mvT hZ w4) hf hl) hg hsize (argsL := [.double a]) (lenOf (d := "(D)D") (ps := [.double]) (r := some .double) (by decide +kernel) rfl) hstack hW hdg (fun _ _ => ⟨hc, hsl, rfl, ha⟩)
  subst hv hB
  exact ⟨_, X', eT, st⟩
end OwnAbs
def own_QN (h0 : Heap) (v : Option Value) (h : Heap) (L : List Loc) : Prop := v = none ∧ L = [] ∧ h = h0
def own_QP (x : Int32) (h0 : Heap) (v : Option Value) (h : Heap) (L : List Loc) : Prop := v = some (.int x) ∧ L = [] ∧ h = h0
def own_QD (x : UInt64) (h0 : Heap) (v : Option Value) (h : Heap) (L : List Loc) : Prop := v = some (.double x) ∧ L = [] ∧ h = h0
def own_Q0 (n0 : Nat) (v : Option Value) (h : Heap) (L : List Loc) : Prop := v = some (.int 1) ∧ Fr n0 L
/-- the sum at a1 stands for tot, within w of what was put in -/
def own_Cs (Z : State) (h : Heap) (a1 : Addr) (tot : Int) (S Lo : Int) : Prop := ∃ us ul : UInt64, Exa Z h a1 "com/example/patient_surfer/patientsurfer/graph/CompensatedSum" ∧ Fld Z h a1 "com/example/patient_surfer/patientsurfer/graph/CompensatedSum" "sum" "D" (.double us) ∧ Fld Z h a1 "com/example/patient_surfer/patientsurfer/graph/CompensatedSum" "lost" "D" (.double ul) ∧ FP.Core.DInt S us ∧ own_Rep S ∧ FP.Core.DInt Lo ul ∧ S + Lo = tot
def own_QA (Z : State) (a1 : Addr) (tot S Lo Xv : Int) (n0 : Nat) (v : Option Value) (h : Heap) (L : List Loc) : Prop := v = none ∧ Fr n0 L ∧ ∃ S' Lo' : Int, own_Cs Z h a1 (tot + Xv) S' Lo' ∧ (S' - (S + Xv)).natAbs ≤ 512 ∧ Lo'.natAbs ≤ Lo.natAbs + 512
theorem own_m31 (x : Int32) : 0 ≤ ((x &&& 31) % 31).toInt ∧ ((x &&& 31) % 31).toInt ≤ 30 := by
  have h := c_mask x 31 5 (by decide) (by decide)
  have z : (31 : Int32).toInt = 31 := by decide
  have r := (c_irem (x &&& 31) 31 31 z).1 (by omega)
  omega
theorem own_and3 (x : Int32) : 0 ≤ (x &&& 3).toInt ∧ (x &&& 3).toInt ≤ 3 := by
  have h := c_mask x 3 2 (by decide) (by decide)
  omega
theorem own_sh (x k : Int32) (hk : 0 ≤ k.toInt ∧ k.toInt ≤ 30) : own_Rep (x.toInt64 <<< (k &&& 0x3f).toInt64).toInt ∧ (x.toInt64 <<< (k &&& 0x3f).toInt64).toInt.natAbs ≤ 2 ^ 61 := by
  have hx := rng32 x
  have h' : k.toInt = 0 ∨ k.toInt = 1 ∨ k.toInt = 2 ∨ k.toInt = 3 ∨ k.toInt = 4 ∨ k.toInt = 5 ∨ k.toInt = 6 ∨ k.toInt = 7 ∨ k.toInt = 8 ∨ k.toInt = 9 ∨ k.toInt = 10 ∨ k.toInt = 11 ∨ k.toInt = 12 ∨ k.toInt = 13 ∨ k.toInt = 14 ∨ k.toInt = 15 ∨ k.toInt = 16 ∨ k.toInt = 17 ∨ k.toInt = 18 ∨ k.toInt = 19 ∨ k.toInt = 20 ∨ k.toInt = 21 ∨ k.toInt = 22 ∨ k.toInt = 23 ∨ k.toInt = 24 ∨ k.toInt = 25 ∨ k.toInt = 26 ∨ k.toInt = 27 ∨ k.toInt = 28 ∨ k.toInt = 29 ∨ k.toInt = 30 := by omega
  rcases h' with z | z | z | z | z | z | z | z | z | z | z | z | z | z | z | z | z | z | z | z | z | z | z | z | z | z | z | z | z | z | z
  · obtain rfl : k = 0 := Int32.toInt_inj.mp z
    have h := c_lshl x.toInt64 0 0 (by decide)
    rw [c_i2l, show ((2 ^ 0 : Nat) : Int) = 1 by decide] at h
    have r := rng64 (x.toInt64 <<< ((0 : Int32) &&& 0x3f).toInt64)
    have e : (x.toInt64 <<< ((0 : Int32) &&& 0x3f).toInt64).toInt = x.toInt * 1 := by omega
    rw [e]
    exact ⟨⟨x.toInt.natAbs, 0, by rw [Int.natAbs_mul]; rfl, by omega⟩, by omega⟩
  · obtain rfl : k = 1 := Int32.toInt_inj.mp z
    have h := c_lshl x.toInt64 1 1 (by decide)
    rw [c_i2l, show ((2 ^ 1 : Nat) : Int) = 2 by decide] at h
    have r := rng64 (x.toInt64 <<< ((1 : Int32) &&& 0x3f).toInt64)
    have e : (x.toInt64 <<< ((1 : Int32) &&& 0x3f).toInt64).toInt = x.toInt * 2 := by omega
    rw [e]
    exact ⟨⟨x.toInt.natAbs, 1, by rw [Int.natAbs_mul]; rfl, by omega⟩, by omega⟩
  · obtain rfl : k = 2 := Int32.toInt_inj.mp z
    have h := c_lshl x.toInt64 2 2 (by decide)
    rw [c_i2l, show ((2 ^ 2 : Nat) : Int) = 4 by decide] at h
    have r := rng64 (x.toInt64 <<< ((2 : Int32) &&& 0x3f).toInt64)
    have e : (x.toInt64 <<< ((2 : Int32) &&& 0x3f).toInt64).toInt = x.toInt * 4 := by omega
    rw [e]
    exact ⟨⟨x.toInt.natAbs, 2, by rw [Int.natAbs_mul]; rfl, by omega⟩, by omega⟩
  · obtain rfl : k = 3 := Int32.toInt_inj.mp z
    have h := c_lshl x.toInt64 3 3 (by decide)
    rw [c_i2l, show ((2 ^ 3 : Nat) : Int) = 8 by decide] at h
    have r := rng64 (x.toInt64 <<< ((3 : Int32) &&& 0x3f).toInt64)
    have e : (x.toInt64 <<< ((3 : Int32) &&& 0x3f).toInt64).toInt = x.toInt * 8 := by omega
    rw [e]
    exact ⟨⟨x.toInt.natAbs, 3, by rw [Int.natAbs_mul]; rfl, by omega⟩, by omega⟩
  · obtain rfl : k = 4 := Int32.toInt_inj.mp z
    have h := c_lshl x.toInt64 4 4 (by decide)
    rw [c_i2l, show ((2 ^ 4 : Nat) : Int) = 16 by decide] at h
    have r := rng64 (x.toInt64 <<< ((4 : Int32) &&& 0x3f).toInt64)
    have e : (x.toInt64 <<< ((4 : Int32) &&& 0x3f).toInt64).toInt = x.toInt * 16 := by omega
    rw [e]
    exact ⟨⟨x.toInt.natAbs, 4, by rw [Int.natAbs_mul]; rfl, by omega⟩, by omega⟩
  · obtain rfl : k = 5 := Int32.toInt_inj.mp z
    have h := c_lshl x.toInt64 5 5 (by decide)
    rw [c_i2l, show ((2 ^ 5 : Nat) : Int) = 32 by decide] at h
    have r := rng64 (x.toInt64 <<< ((5 : Int32) &&& 0x3f).toInt64)
    have e : (x.toInt64 <<< ((5 : Int32) &&& 0x3f).toInt64).toInt = x.toInt * 32 := by omega
    rw [e]
    exact ⟨⟨x.toInt.natAbs, 5, by rw [Int.natAbs_mul]; rfl, by omega⟩, by omega⟩
  · obtain rfl : k = 6 := Int32.toInt_inj.mp z
    have h := c_lshl x.toInt64 6 6 (by decide)
    rw [c_i2l, show ((2 ^ 6 : Nat) : Int) = 64 by decide] at h
    have r := rng64 (x.toInt64 <<< ((6 : Int32) &&& 0x3f).toInt64)
    have e : (x.toInt64 <<< ((6 : Int32) &&& 0x3f).toInt64).toInt = x.toInt * 64 := by omega
    rw [e]
    exact ⟨⟨x.toInt.natAbs, 6, by rw [Int.natAbs_mul]; rfl, by omega⟩, by omega⟩
  · obtain rfl : k = 7 := Int32.toInt_inj.mp z
    have h := c_lshl x.toInt64 7 7 (by decide)
    rw [c_i2l, show ((2 ^ 7 : Nat) : Int) = 128 by decide] at h
    have r := rng64 (x.toInt64 <<< ((7 : Int32) &&& 0x3f).toInt64)
    have e : (x.toInt64 <<< ((7 : Int32) &&& 0x3f).toInt64).toInt = x.toInt * 128 := by omega
    rw [e]
    exact ⟨⟨x.toInt.natAbs, 7, by rw [Int.natAbs_mul]; rfl, by omega⟩, by omega⟩
  · obtain rfl : k = 8 := Int32.toInt_inj.mp z
    have h := c_lshl x.toInt64 8 8 (by decide)
    rw [c_i2l, show ((2 ^ 8 : Nat) : Int) = 256 by decide] at h
    have r := rng64 (x.toInt64 <<< ((8 : Int32) &&& 0x3f).toInt64)
    have e : (x.toInt64 <<< ((8 : Int32) &&& 0x3f).toInt64).toInt = x.toInt * 256 := by omega
    rw [e]
    exact ⟨⟨x.toInt.natAbs, 8, by rw [Int.natAbs_mul]; rfl, by omega⟩, by omega⟩
  · obtain rfl : k = 9 := Int32.toInt_inj.mp z
    have h := c_lshl x.toInt64 9 9 (by decide)
    rw [c_i2l, show ((2 ^ 9 : Nat) : Int) = 512 by decide] at h
    have r := rng64 (x.toInt64 <<< ((9 : Int32) &&& 0x3f).toInt64)
    have e : (x.toInt64 <<< ((9 : Int32) &&& 0x3f).toInt64).toInt = x.toInt * 512 := by omega
    rw [e]
    exact ⟨⟨x.toInt.natAbs, 9, by rw [Int.natAbs_mul]; rfl, by omega⟩, by omega⟩
  · obtain rfl : k = 10 := Int32.toInt_inj.mp z
    have h := c_lshl x.toInt64 10 10 (by decide)
    rw [c_i2l, show ((2 ^ 10 : Nat) : Int) = 1024 by decide] at h
    have r := rng64 (x.toInt64 <<< ((10 : Int32) &&& 0x3f).toInt64)
    have e : (x.toInt64 <<< ((10 : Int32) &&& 0x3f).toInt64).toInt = x.toInt * 1024 := by omega
    rw [e]
    exact ⟨⟨x.toInt.natAbs, 10, by rw [Int.natAbs_mul]; rfl, by omega⟩, by omega⟩
  · obtain rfl : k = 11 := Int32.toInt_inj.mp z
    have h := c_lshl x.toInt64 11 11 (by decide)
    rw [c_i2l, show ((2 ^ 11 : Nat) : Int) = 2048 by decide] at h
    have r := rng64 (x.toInt64 <<< ((11 : Int32) &&& 0x3f).toInt64)
    have e : (x.toInt64 <<< ((11 : Int32) &&& 0x3f).toInt64).toInt = x.toInt * 2048 := by omega
    rw [e]
    exact ⟨⟨x.toInt.natAbs, 11, by rw [Int.natAbs_mul]; rfl, by omega⟩, by omega⟩
  · obtain rfl : k = 12 := Int32.toInt_inj.mp z
    have h := c_lshl x.toInt64 12 12 (by decide)
    rw [c_i2l, show ((2 ^ 12 : Nat) : Int) = 4096 by decide] at h
    have r := rng64 (x.toInt64 <<< ((12 : Int32) &&& 0x3f).toInt64)
    have e : (x.toInt64 <<< ((12 : Int32) &&& 0x3f).toInt64).toInt = x.toInt * 4096 := by omega
    rw [e]
    exact ⟨⟨x.toInt.natAbs, 12, by rw [Int.natAbs_mul]; rfl, by omega⟩, by omega⟩
  · obtain rfl : k = 13 := Int32.toInt_inj.mp z
    have h := c_lshl x.toInt64 13 13 (by decide)
    rw [c_i2l, show ((2 ^ 13 : Nat) : Int) = 8192 by decide] at h
    have r := rng64 (x.toInt64 <<< ((13 : Int32) &&& 0x3f).toInt64)
    have e : (x.toInt64 <<< ((13 : Int32) &&& 0x3f).toInt64).toInt = x.toInt * 8192 := by omega
    rw [e]
    exact ⟨⟨x.toInt.natAbs, 13, by rw [Int.natAbs_mul]; rfl, by omega⟩, by omega⟩
  · obtain rfl : k = 14 := Int32.toInt_inj.mp z
    have h := c_lshl x.toInt64 14 14 (by decide)
    rw [c_i2l, show ((2 ^ 14 : Nat) : Int) = 16384 by decide] at h
    have r := rng64 (x.toInt64 <<< ((14 : Int32) &&& 0x3f).toInt64)
    have e : (x.toInt64 <<< ((14 : Int32) &&& 0x3f).toInt64).toInt = x.toInt * 16384 := by omega
    rw [e]
    exact ⟨⟨x.toInt.natAbs, 14, by rw [Int.natAbs_mul]; rfl, by omega⟩, by omega⟩
  · obtain rfl : k = 15 := Int32.toInt_inj.mp z
    have h := c_lshl x.toInt64 15 15 (by decide)
    rw [c_i2l, show ((2 ^ 15 : Nat) : Int) = 32768 by decide] at h
    have r := rng64 (x.toInt64 <<< ((15 : Int32) &&& 0x3f).toInt64)
    have e : (x.toInt64 <<< ((15 : Int32) &&& 0x3f).toInt64).toInt = x.toInt * 32768 := by omega
    rw [e]
    exact ⟨⟨x.toInt.natAbs, 15, by rw [Int.natAbs_mul]; rfl, by omega⟩, by omega⟩
  · obtain rfl : k = 16 := Int32.toInt_inj.mp z
    have h := c_lshl x.toInt64 16 16 (by decide)
    rw [c_i2l, show ((2 ^ 16 : Nat) : Int) = 65536 by decide] at h
    have r := rng64 (x.toInt64 <<< ((16 : Int32) &&& 0x3f).toInt64)
    have e : (x.toInt64 <<< ((16 : Int32) &&& 0x3f).toInt64).toInt = x.toInt * 65536 := by omega
    rw [e]
    exact ⟨⟨x.toInt.natAbs, 16, by rw [Int.natAbs_mul]; rfl, by omega⟩, by omega⟩
  · obtain rfl : k = 17 := Int32.toInt_inj.mp z
    have h := c_lshl x.toInt64 17 17 (by decide)
    rw [c_i2l, show ((2 ^ 17 : Nat) : Int) = 131072 by decide] at h
    have r := rng64 (x.toInt64 <<< ((17 : Int32) &&& 0x3f).toInt64)
    have e : (x.toInt64 <<< ((17 : Int32) &&& 0x3f).toInt64).toInt = x.toInt * 131072 := by omega
    rw [e]
    exact ⟨⟨x.toInt.natAbs, 17, by rw [Int.natAbs_mul]; rfl, by omega⟩, by omega⟩
  · obtain rfl : k = 18 := Int32.toInt_inj.mp z
    have h := c_lshl x.toInt64 18 18 (by decide)
    rw [c_i2l, show ((2 ^ 18 : Nat) : Int) = 262144 by decide] at h
    have r := rng64 (x.toInt64 <<< ((18 : Int32) &&& 0x3f).toInt64)
    have e : (x.toInt64 <<< ((18 : Int32) &&& 0x3f).toInt64).toInt = x.toInt * 262144 := by omega
    rw [e]
    exact ⟨⟨x.toInt.natAbs, 18, by rw [Int.natAbs_mul]; rfl, by omega⟩, by omega⟩
  · obtain rfl : k = 19 := Int32.toInt_inj.mp z
    have h := c_lshl x.toInt64 19 19 (by decide)
    rw [c_i2l, show ((2 ^ 19 : Nat) : Int) = 524288 by decide] at h
    have r := rng64 (x.toInt64 <<< ((19 : Int32) &&& 0x3f).toInt64)
    have e : (x.toInt64 <<< ((19 : Int32) &&& 0x3f).toInt64).toInt = x.toInt * 524288 := by omega
    rw [e]
    exact ⟨⟨x.toInt.natAbs, 19, by rw [Int.natAbs_mul]; rfl, by omega⟩, by omega⟩
  · obtain rfl : k = 20 := Int32.toInt_inj.mp z
    have h := c_lshl x.toInt64 20 20 (by decide)
    rw [c_i2l, show ((2 ^ 20 : Nat) : Int) = 1048576 by decide] at h
    have r := rng64 (x.toInt64 <<< ((20 : Int32) &&& 0x3f).toInt64)
    have e : (x.toInt64 <<< ((20 : Int32) &&& 0x3f).toInt64).toInt = x.toInt * 1048576 := by omega
    rw [e]
    exact ⟨⟨x.toInt.natAbs, 20, by rw [Int.natAbs_mul]; rfl, by omega⟩, by omega⟩
  · obtain rfl : k = 21 := Int32.toInt_inj.mp z
    have h := c_lshl x.toInt64 21 21 (by decide)
    rw [c_i2l, show ((2 ^ 21 : Nat) : Int) = 2097152 by decide] at h
    have r := rng64 (x.toInt64 <<< ((21 : Int32) &&& 0x3f).toInt64)
    have e : (x.toInt64 <<< ((21 : Int32) &&& 0x3f).toInt64).toInt = x.toInt * 2097152 := by omega
    rw [e]
    exact ⟨⟨x.toInt.natAbs, 21, by rw [Int.natAbs_mul]; rfl, by omega⟩, by omega⟩
  · obtain rfl : k = 22 := Int32.toInt_inj.mp z
    have h := c_lshl x.toInt64 22 22 (by decide)
    rw [c_i2l, show ((2 ^ 22 : Nat) : Int) = 4194304 by decide] at h
    have r := rng64 (x.toInt64 <<< ((22 : Int32) &&& 0x3f).toInt64)
    have e : (x.toInt64 <<< ((22 : Int32) &&& 0x3f).toInt64).toInt = x.toInt * 4194304 := by omega
    rw [e]
    exact ⟨⟨x.toInt.natAbs, 22, by rw [Int.natAbs_mul]; rfl, by omega⟩, by omega⟩
  · obtain rfl : k = 23 := Int32.toInt_inj.mp z
    have h := c_lshl x.toInt64 23 23 (by decide)
    rw [c_i2l, show ((2 ^ 23 : Nat) : Int) = 8388608 by decide] at h
    have r := rng64 (x.toInt64 <<< ((23 : Int32) &&& 0x3f).toInt64)
    have e : (x.toInt64 <<< ((23 : Int32) &&& 0x3f).toInt64).toInt = x.toInt * 8388608 := by omega
    rw [e]
    exact ⟨⟨x.toInt.natAbs, 23, by rw [Int.natAbs_mul]; rfl, by omega⟩, by omega⟩
  · obtain rfl : k = 24 := Int32.toInt_inj.mp z
    have h := c_lshl x.toInt64 24 24 (by decide)
    rw [c_i2l, show ((2 ^ 24 : Nat) : Int) = 16777216 by decide] at h
    have r := rng64 (x.toInt64 <<< ((24 : Int32) &&& 0x3f).toInt64)
    have e : (x.toInt64 <<< ((24 : Int32) &&& 0x3f).toInt64).toInt = x.toInt * 16777216 := by omega
    rw [e]
    exact ⟨⟨x.toInt.natAbs, 24, by rw [Int.natAbs_mul]; rfl, by omega⟩, by omega⟩
  · obtain rfl : k = 25 := Int32.toInt_inj.mp z
    have h := c_lshl x.toInt64 25 25 (by decide)
    rw [c_i2l, show ((2 ^ 25 : Nat) : Int) = 33554432 by decide] at h
    have r := rng64 (x.toInt64 <<< ((25 : Int32) &&& 0x3f).toInt64)
    have e : (x.toInt64 <<< ((25 : Int32) &&& 0x3f).toInt64).toInt = x.toInt * 33554432 := by omega
    rw [e]
    exact ⟨⟨x.toInt.natAbs, 25, by rw [Int.natAbs_mul]; rfl, by omega⟩, by omega⟩
  · obtain rfl : k = 26 := Int32.toInt_inj.mp z
    have h := c_lshl x.toInt64 26 26 (by decide)
    rw [c_i2l, show ((2 ^ 26 : Nat) : Int) = 67108864 by decide] at h
    have r := rng64 (x.toInt64 <<< ((26 : Int32) &&& 0x3f).toInt64)
    have e : (x.toInt64 <<< ((26 : Int32) &&& 0x3f).toInt64).toInt = x.toInt * 67108864 := by omega
    rw [e]
    exact ⟨⟨x.toInt.natAbs, 26, by rw [Int.natAbs_mul]; rfl, by omega⟩, by omega⟩
  · obtain rfl : k = 27 := Int32.toInt_inj.mp z
    have h := c_lshl x.toInt64 27 27 (by decide)
    rw [c_i2l, show ((2 ^ 27 : Nat) : Int) = 134217728 by decide] at h
    have r := rng64 (x.toInt64 <<< ((27 : Int32) &&& 0x3f).toInt64)
    have e : (x.toInt64 <<< ((27 : Int32) &&& 0x3f).toInt64).toInt = x.toInt * 134217728 := by omega
    rw [e]
    exact ⟨⟨x.toInt.natAbs, 27, by rw [Int.natAbs_mul]; rfl, by omega⟩, by omega⟩
  · obtain rfl : k = 28 := Int32.toInt_inj.mp z
    have h := c_lshl x.toInt64 28 28 (by decide)
    rw [c_i2l, show ((2 ^ 28 : Nat) : Int) = 268435456 by decide] at h
    have r := rng64 (x.toInt64 <<< ((28 : Int32) &&& 0x3f).toInt64)
    have e : (x.toInt64 <<< ((28 : Int32) &&& 0x3f).toInt64).toInt = x.toInt * 268435456 := by omega
    rw [e]
    exact ⟨⟨x.toInt.natAbs, 28, by rw [Int.natAbs_mul]; rfl, by omega⟩, by omega⟩
  · obtain rfl : k = 29 := Int32.toInt_inj.mp z
    have h := c_lshl x.toInt64 29 29 (by decide)
    rw [c_i2l, show ((2 ^ 29 : Nat) : Int) = 536870912 by decide] at h
    have r := rng64 (x.toInt64 <<< ((29 : Int32) &&& 0x3f).toInt64)
    have e : (x.toInt64 <<< ((29 : Int32) &&& 0x3f).toInt64).toInt = x.toInt * 536870912 := by omega
    rw [e]
    exact ⟨⟨x.toInt.natAbs, 29, by rw [Int.natAbs_mul]; rfl, by omega⟩, by omega⟩
  · obtain rfl : k = 30 := Int32.toInt_inj.mp z
    have h := c_lshl x.toInt64 30 30 (by decide)
    rw [c_i2l, show ((2 ^ 30 : Nat) : Int) = 1073741824 by decide] at h
    have r := rng64 (x.toInt64 <<< ((30 : Int32) &&& 0x3f).toInt64)
    have e : (x.toInt64 <<< ((30 : Int32) &&& 0x3f).toInt64).toInt = x.toInt * 1073741824 := by omega
    rw [e]
    exact ⟨⟨x.toInt.natAbs, 30, by rw [Int.natAbs_mul]; rfl, by omega⟩, by omega⟩
theorem d1_0 : decode prog_2_method_1_code 0 = .ok (.aload_n 0, 1) := by decide +kernel
theorem d1_1 : decode prog_2_method_1_code 1 = .ok (.invokespecial 1, 3) := by decide +kernel
theorem d1_4 : decode prog_2_method_1_code 4 = .ok (.return_, 1) := by decide +kernel
theorem ef_rm_init (m : MethodId) (x0 : Addr) : entryFrame m #[(.ref x0)] 1 = mkF m 0 #[.val (.ref x0)] [] := by first | (simp [entryFrame, mkF, argsToLocals, Value.category]; done) | rfl
theorem pn_0 : plainName "com/example/patient_surfer/patientsurfer/graph/CompensatedSum" = true := by first | (simp [plainName, overriddenIn]; done) | decide +kernel
set_option maxRecDepth 65536 in
set_option maxHeartbeats 40000000 in
theorem rm_init (l : Launch) (Z : State) (a0 : Array Value) (hw : ∀ d ∈ tables_1, d.before a0 Z = true) (ws : List Jvm.Cond) (a1 : Addr) (h0 : Heap)  :
    MetFree l (⟨"com/example/patient_surfer/patientsurfer/graph/CompensatedSum", "<init>", "()V"⟩ : MethodName) (head1 (Jvm.Cond.code (⟨"com/example/patient_surfer/patientsurfer/graph/CompensatedSum", "<init>", "()V"⟩ : MethodName) prog_2_method_1_code 1 none :: ws) ({ frames := 1, cells := 0, slots := 0, locals := 12 } : Room)) (fun a U => a = #[(.ref a1)] ∧ Z.Warmed39 U.vm ∧ U.heap = h0) (fun _ _ _ _ _ => True) (fun _ U o U' => ∃ v L, o = .returned v ∧ own_QN h0 v U'.heap L ∧ FrameEnd U o U' L ({ frames := 1, cells := 0, slots := 0, locals := 12 } : Room).cells ({ frames := 1, cells := 0, slots := 0, locals := 12 } : Room).slots) := by
  refine MetFree.of_bodySF (plainFor_of_name pn_0) hisR ?_
  intro p e s m args below meth c s₁ Bd hml0 hP hK
  obtain ⟨rfl, hZ, hh⟩ := hP
  have hx := Bd.exec
  have hby := Bd.bytes
  have hlk := Bd.notSynchronized
  have hret := Bd.returns
  have hml : c.maxLocals = 1 := hml0
  have hown : s.vm.findClass "com/example/patient_surfer/patientsurfer/graph/CompensatedSum" = some m.cls := findClass_of_methodNamed Bd.named
  have hnm := (name_of_methodNamed Bd.named Bd.method).1
  have X0 : Stand p l e ({ frames := 1, cells := 0, slots := 0, locals := 12 } : Room) s m #[(.ref a1)] below meth c s₁ [] 0 0 := Stand.of_body Bd
  have e0 : s₁.heap = h0 := by rw [← hh, Bd.state]; rfl
  show own_Dn p e below (own_Ret s (own_QN h0) ({ frames := 1, cells := 0, slots := 0, locals := 12 } : Room).cells ({ frames := 1, cells := 0, slots := 0, locals := 12 } : Room).slots) (s₁.setTop (entryFrame m #[(.ref a1)] 1))
  rw [ef_rm_init]
  refine own_st (B := (s₁.setTop (mkF m 1 #[.val (.ref a1)] [(.ref a1)]))) (fun _ zk => XS.aloadN X0.here hx rfl (hb hby d1_0) rfl rfl zk) ?_
  obtain ⟨T1, X1, e1, st1⟩ := initO X0 hx hZ hown (hw _ (List.mem_of_getElem? (i := 6) rfl)) (hw _ (List.mem_of_getElem? (i := 7) rfl)) (hw _ (List.mem_of_getElem? (i := 8) rfl)) e0 (g := (mkF m 1 #[.val (.ref a1)] [(.ref a1)])) rfl (by rw [hml]; rfl) rfl (hb hby d1_1) (by decide) (W := 0) (by show 2 * 0 + _ ≤ _; exact Nat.le_of_eq rfl) (by decide)
  refine own_st (B := (T1.setTop (mkF m 4 #[.val (.ref a1)] []))) st1 ?_
  exact own_retV X1 hx hlk hret (hb hby d1_4) (by show own_QN h0 _ T1.heap _; rw [e1]; exact ⟨rfl, rfl, rfl⟩) (by decide) (by decide)
theorem d2_0 : decode jdk_117_method_8_code 0 = .ok (.dload_n 0, 1) := by decide +kernel
theorem d2_1 : decode jdk_117_method_8_code 1 = .ok (.invokestatic 38, 3) := by decide +kernel
theorem d2_4 : decode jdk_117_method_8_code 4 = .ok (.ldc2_w 111, 3) := by decide +kernel
theorem d2_7 : decode jdk_117_method_8_code 7 = .ok (.dcmp .g, 1) := by decide +kernel
theorem d2_8 : decode jdk_117_method_8_code 8 = .ok (.ifCond .gt 7, 3) := by decide +kernel
theorem d2_11 : decode jdk_117_method_8_code 11 = .ok (.iconst 1, 1) := by decide +kernel
theorem d2_12 : decode jdk_117_method_8_code 12 = .ok (.goto 4, 3) := by decide +kernel
theorem d2_16 : decode jdk_117_method_8_code 16 = .ok (.ireturn, 1) := by decide +kernel
theorem ef_rm_fin (m : MethodId) (x0 : UInt64) : entryFrame m #[(.double x0)] 2 = mkF m 0 #[.val (.double x0), .second] [] := by first | (simp [entryFrame, mkF, argsToLocals, Value.category]; done) | rfl
theorem pn_1 : plainName "java/lang/Double" = true := by first | (simp [plainName, overriddenIn]; done) | decide +kernel
set_option maxRecDepth 65536 in
set_option maxHeartbeats 40000000 in
theorem rm_fin (l : Launch) (Z : State) (a0 : Array Value) (hw : ∀ d ∈ tables_1, d.before a0 Z = true) (ws : List Jvm.Cond) (u : UInt64) (h0 : Heap) (hn : Jvm.Free.Fl.NoNaN64 u) (hd : FP.Core.DFin u) :
    MetFree l (⟨"java/lang/Double", "isFinite", "(D)Z"⟩ : MethodName) (head1 (Jvm.Cond.code (⟨"java/lang/Double", "isFinite", "(D)Z"⟩ : MethodName) jdk_117_method_8_code 2 (some .boolean) :: ws) ({ frames := 1, cells := 0, slots := 0, locals := 13 } : Room)) (fun a U => a = #[(.double u)] ∧ Z.Warmed39 U.vm ∧ U.heap = h0) (fun _ _ _ _ _ => True) (fun _ U o U' => ∃ v L, o = .returned v ∧ own_QP 1 h0 v U'.heap L ∧ FrameEnd U o U' L ({ frames := 1, cells := 0, slots := 0, locals := 13 } : Room).cells ({ frames := 1, cells := 0, slots := 0, locals := 13 } : Room).slots) := by
  refine MetFree.of_bodySF (plainFor_of_name pn_1) hisR ?_
  intro p e s m args below meth c s₁ Bd hml0 hP hK
  obtain ⟨rfl, hZ, hh⟩ := hP
  have hx := Bd.exec
  have hby := Bd.bytes
  have hlk := Bd.notSynchronized
  have hret := Bd.returns
  have hml : c.maxLocals = 2 := hml0
  have hown : s.vm.findClass "java/lang/Double" = some m.cls := findClass_of_methodNamed Bd.named
  have hnm := (name_of_methodNamed Bd.named Bd.method).1
  have X0 : Stand p l e ({ frames := 1, cells := 0, slots := 0, locals := 13 } : Room) s m #[(.double u)] below meth c s₁ [] 0 0 := Stand.of_body Bd
  have e0 : s₁.heap = h0 := by rw [← hh, Bd.state]; rfl
  show own_Dn p e below (own_Ret s (own_QP 1 h0) ({ frames := 1, cells := 0, slots := 0, locals := 13 } : Room).cells ({ frames := 1, cells := 0, slots := 0, locals := 13 } : Room).slots) (s₁.setTop (entryFrame m #[(.double u)] 2))
  rw [ef_rm_fin]
  refine own_st (B := (s₁.setTop (mkF m 1 #[.val (.double u), .second] [(.double u)]))) (fun _ zk => XS.dloadN X0.here hx rfl (hb hby d2_0) rfl zk) ?_
  obtain ⟨T1, X1, e1, st1⟩ := own_abs (W := 0) X0 hx hZ hown (hw _ (List.mem_of_getElem? (i := 25) rfl)) (hw _ (List.mem_of_getElem? (i := 26) rfl)) (hw _ (List.mem_of_getElem? (i := 27) rfl)) (hw _ (List.mem_of_getElem? (i := 28) rfl)) e0 hn (g := (mkF m 1 #[.val (.double u), .second] [(.double u)])) rfl (by rw [hml]; rfl) (rest := []) rfl (by show 2 * 0 + _ ≤ _; exact Nat.le_of_eq rfl) (hb hby d2_1) (by decide) (by decide) (by decide) (by decide)
  refine own_st (B := (T1.setTop (mkF m 4 #[.val (.double u), .second] [(.double (u &&& 0x7fffffffffffffff))]))) st1 ?_
  refine own_st (B := (T1.setTop (mkF m 7 #[.val (.double u), .second] [(.double (9218868437227405311 : UInt64)), (.double (u &&& 0x7fffffffffffffff))]))) (fun _ zk => X1.ldc2DoubleC hx hown (mvT hZ (hw _ (List.mem_of_getElem? (i := 29) rfl))) (g := (mkF m 4 #[.val (.double u), .second] [(.double (u &&& 0x7fffffffffffffff))])) rfl (hb hby d2_4) _ zk) ?_
  obtain ⟨r, hr1, hr2⟩ := own_fin1 hd
  refine own_st (B := (T1.setTop (mkF m 8 #[.val (.double u), .second] [(.int r)]))) (fun _ zk => XS.dcmpS X1.here hx rfl (hb hby d2_7) rfl hr1 zk) ?_
  refine own_st (B := (T1.setTop (mkF m 11 #[.val (.double u), .second] []))) (fun _ zk => XS.ifNo X1.here hx rfl (hb hby d2_8) rfl ((if0 _ _).trans (flt hr2).2.2.1) zk) ?_
  refine own_st (B := (T1.setTop (mkF m 12 #[.val (.double u), .second] [(.int (1 : Int32))]))) (fun _ zk => XS.iconst X1.here hx rfl (hb hby d2_11) zk) ?_
  refine own_st (B := (T1.setTop (mkF m 16 #[.val (.double u), .second] [(.int (1 : Int32))]))) (fun _ zk => XS.goto X1.here hx rfl (pc0 := 12) (pc' := 16) rfl (hb hby d2_12) (by decide) (by decide) zk) ?_
  exact own_retN X1 hx hlk (t := .boolean) hret (by simp) (hb hby d2_16) (by show own_QP 1 h0 _ T1.heap _; rw [e1]; exact ⟨rfl, rfl, rfl⟩) (by decide) (by decide)
theorem d3_0 : decode prog_2_method_5_code 0 = .ok (.dload_n 0, 1) := by decide +kernel
theorem pd_0 : parseMethodDescriptor "(D)Z" = some ⟨[.double], some .boolean⟩ := by decide +kernel
theorem d3_1 : decode prog_2_method_5_code 1 = .ok (.invokestatic 29, 3) := by decide +kernel
theorem d3_4 : decode prog_2_method_5_code 4 = .ok (.ifCond .eq 9, 3) := by decide +kernel
theorem d3_7 : decode prog_2_method_5_code 7 = .ok (.dload_n 0, 1) := by decide +kernel
theorem d3_8 : decode prog_2_method_5_code 8 = .ok (.dload_n 2, 1) := by decide +kernel
theorem d3_9 : decode prog_2_method_5_code 9 = .ok (.dadd, 1) := by decide +kernel
theorem d3_10 : decode prog_2_method_5_code 10 = .ok (.goto 4, 3) := by decide +kernel
theorem d3_14 : decode prog_2_method_5_code 14 = .ok (.dreturn, 1) := by decide +kernel
theorem ef_rm_val2 (m : MethodId) (x0 : UInt64) (x1 : UInt64) : entryFrame m #[(.double x0), (.double x1)] 4 = mkF m 0 #[.val (.double x0), .second, .val (.double x1), .second] [] := by first | (simp [entryFrame, mkF, argsToLocals, Value.category]; done) | rfl
set_option maxRecDepth 65536 in
set_option maxHeartbeats 40000000 in
theorem rm_val2 (l : Launch) (Z : State) (a0 : Array Value) (hw : ∀ d ∈ tables_1, d.before a0 Z = true) (ws : List Jvm.Cond) (us ul : UInt64) (h0 : Heap) (hn : Jvm.Free.Fl.NoNaN64 us) (hd : FP.Core.DFin us) (hv : Jvm.Free.Fl.NoNaN64 (FP.dadd us ul)) :
    MetFree l (⟨"com/example/patient_surfer/patientsurfer/graph/CompensatedSum", "value", "(DD)D"⟩ : MethodName) (head1 (Jvm.Cond.code (⟨"com/example/patient_surfer/patientsurfer/graph/CompensatedSum", "value", "(DD)D"⟩ : MethodName) prog_2_method_5_code 4 (some .double) :: ws) ({ frames := 2, cells := 0, slots := 0, locals := 26 } : Room)) (fun a U => a = #[(.double us), (.double ul)] ∧ Z.Warmed39 U.vm ∧ U.heap = h0) (fun _ _ _ _ _ => True) (fun _ U o U' => ∃ v L, o = .returned v ∧ own_QD (FP.dadd us ul) h0 v U'.heap L ∧ FrameEnd U o U' L ({ frames := 2, cells := 0, slots := 0, locals := 26 } : Room).cells ({ frames := 2, cells := 0, slots := 0, locals := 26 } : Room).slots) := by
  refine MetFree.of_bodySF (plainFor_of_name pn_0) hisR ?_
  intro p e s m args below meth c s₁ Bd hml0 hP hK
  obtain ⟨rfl, hZ, hh⟩ := hP
  have hx := Bd.exec
  have hby := Bd.bytes
  have hlk := Bd.notSynchronized
  have hret := Bd.returns
  have hml : c.maxLocals = 4 := hml0
  have hown : s.vm.findClass "com/example/patient_surfer/patientsurfer/graph/CompensatedSum" = some m.cls := findClass_of_methodNamed Bd.named
  have hnm := (name_of_methodNamed Bd.named Bd.method).1
  have X0 : Stand p l e ({ frames := 2, cells := 0, slots := 0, locals := 26 } : Room) s m #[(.double us), (.double ul)] below meth c s₁ [] 0 0 := Stand.of_body Bd
  have e0 : s₁.heap = h0 := by rw [← hh, Bd.state]; rfl
  show own_Dn p e below (own_Ret s (own_QD (FP.dadd us ul) h0) ({ frames := 2, cells := 0, slots := 0, locals := 26 } : Room).cells ({ frames := 2, cells := 0, slots := 0, locals := 26 } : Room).slots) (s₁.setTop (entryFrame m #[(.double us), (.double ul)] 4))
  rw [ef_rm_val2]
  refine own_st (B := (s₁.setTop (mkF m 1 #[.val (.double us), .second, .val (.double ul), .second] [(.double us)]))) (fun _ zk => XS.dloadN X0.here hx rfl (hb hby d3_0) rfl zk) ?_
  obtain ⟨v1, T1, L1, X1, Q1, st1⟩ := own_callS (W := 0) X0 hx hZ (y := (⟨"java/lang/Double", "isFinite", "(D)Z"⟩ : MethodName)) hown (hw _ (List.mem_of_getElem? (i := 21) rfl)) (hw _ (List.mem_of_getElem? (i := 22) rfl)) (hw _ (List.mem_of_getElem? (i := 23) rfl)) (hw _ (List.mem_of_getElem? (i := 24) rfl)) (by decide) e0 (rm_fin l Z a0 hw [] us h0 hn hd) (g := (mkF m 1 #[.val (.double us), .second, .val (.double ul), .second] [(.double us)])) rfl (by rw [hml]; rfl) (argsL := [(.double us)]) (rest := []) (lenOf pd_0 rfl) rfl rfl (by show 2 * 0 + _ ≤ _; exact Nat.le_of_eq rfl) (hb hby d3_1) (by decide) (by decide) (by decide) (by decide)
  obtain ⟨rfl, rfl, qe1⟩ := Q1
  refine own_st (B := (T1.setTop (mkF m 4 #[.val (.double us), .second, .val (.double ul), .second] [(.int (1 : Int32))]))) st1 ?_
  refine own_st (B := (T1.setTop (mkF m 7 #[.val (.double us), .second, .val (.double ul), .second] []))) (fun _ zk => XS.ifNo X1.here hx rfl (hb hby d3_4) rfl ((if0 _ _).trans (feq (by decide)).1) zk) ?_
  refine own_st (B := (T1.setTop (mkF m 8 #[.val (.double us), .second, .val (.double ul), .second] [(.double us)]))) (fun _ zk => XS.dloadN X1.here hx rfl (hb hby d3_7) rfl zk) ?_
  refine own_st (B := (T1.setTop (mkF m 9 #[.val (.double us), .second, .val (.double ul), .second] [(.double ul), (.double us)]))) (fun _ zk => XS.dloadN X1.here hx rfl (hb hby d3_8) rfl zk) ?_
  refine own_st (B := (T1.setTop (mkF m 10 #[.val (.double us), .second, .val (.double ul), .second] [(.double (FP.dadd us ul))]))) (fun _ zk => XS.daddS X1.here hx rfl (hb hby d3_9) rfl hv rfl zk) ?_
  refine own_st (B := (T1.setTop (mkF m 14 #[.val (.double us), .second, .val (.double ul), .second] [(.double (FP.dadd us ul))]))) (fun _ zk => XS.goto X1.here hx rfl (pc0 := 10) (pc' := 14) rfl (hb hby d3_10) (by decide) (by decide) zk) ?_
  exact own_retD X1 hx hlk hret (hb hby d3_14) (by show own_QD (FP.dadd us ul) h0 _ T1.heap _; rw [qe1]; exact ⟨rfl, rfl, rfl⟩) (by decide) (by decide)
theorem d4_0 : decode prog_2_method_7_code 0 = .ok (.aload_n 0, 1) := by decide +kernel
theorem d4_1 : decode prog_2_method_7_code 1 = .ok (.getfield 18, 3) := by decide +kernel
theorem d4_4 : decode prog_2_method_7_code 4 = .ok (.aload_n 0, 1) := by decide +kernel
theorem d4_5 : decode prog_2_method_7_code 5 = .ok (.getfield 22, 3) := by decide +kernel
theorem pd_1 : parseMethodDescriptor "(DD)D" = some ⟨[.double, .double], some .double⟩ := by decide +kernel
theorem d4_8 : decode prog_2_method_7_code 8 = .ok (.invokestatic 35, 3) := by decide +kernel
theorem d4_11 : decode prog_2_method_7_code 11 = .ok (.dreturn, 1) := by decide +kernel
theorem ef_rm_val (m : MethodId) (x0 : Addr) : entryFrame m #[(.ref x0)] 1 = mkF m 0 #[.val (.ref x0)] [] := by first | (simp [entryFrame, mkF, argsToLocals, Value.category]; done) | rfl
set_option maxRecDepth 65536 in
set_option maxHeartbeats 40000000 in
theorem rm_val (l : Launch) (Z : State) (a0 : Array Value) (hw : ∀ d ∈ tables_1, d.before a0 Z = true) (ws : List Jvm.Cond) (a1 : Addr) (us ul : UInt64) (h0 : Heap) (F1 : Fld Z h0 a1 "com/example/patient_surfer/patientsurfer/graph/CompensatedSum" "sum" "D" (.double us)) (F2 : Fld Z h0 a1 "com/example/patient_surfer/patientsurfer/graph/CompensatedSum" "lost" "D" (.double ul)) (hn : Jvm.Free.Fl.NoNaN64 us) (hd : FP.Core.DFin us) (hv : Jvm.Free.Fl.NoNaN64 (FP.dadd us ul)) :
    MetFree l (⟨"com/example/patient_surfer/patientsurfer/graph/CompensatedSum", "value", "()D"⟩ : MethodName) (head1 (Jvm.Cond.code (⟨"com/example/patient_surfer/patientsurfer/graph/CompensatedSum", "value", "()D"⟩ : MethodName) prog_2_method_7_code 1 (some .double) :: ws) ({ frames := 3, cells := 0, slots := 0, locals := 41 } : Room)) (fun a U => a = #[(.ref a1)] ∧ Z.Warmed39 U.vm ∧ U.heap = h0) (fun _ _ _ _ _ => True) (fun _ U o U' => ∃ v L, o = .returned v ∧ own_QD (FP.dadd us ul) h0 v U'.heap L ∧ FrameEnd U o U' L ({ frames := 3, cells := 0, slots := 0, locals := 41 } : Room).cells ({ frames := 3, cells := 0, slots := 0, locals := 41 } : Room).slots) := by
  refine MetFree.of_bodySF (plainFor_of_name pn_0) hisR ?_
  intro p e s m args below meth c s₁ Bd hml0 hP hK
  obtain ⟨rfl, hZ, hh⟩ := hP
  have hx := Bd.exec
  have hby := Bd.bytes
  have hlk := Bd.notSynchronized
  have hret := Bd.returns
  have hml : c.maxLocals = 1 := hml0
  have hown : s.vm.findClass "com/example/patient_surfer/patientsurfer/graph/CompensatedSum" = some m.cls := findClass_of_methodNamed Bd.named
  have hnm := (name_of_methodNamed Bd.named Bd.method).1
  have X0 : Stand p l e ({ frames := 3, cells := 0, slots := 0, locals := 41 } : Room) s m #[(.ref a1)] below meth c s₁ [] 0 0 := Stand.of_body Bd
  have e0 : s₁.heap = h0 := by rw [← hh, Bd.state]; rfl
  show own_Dn p e below (own_Ret s (own_QD (FP.dadd us ul) h0) ({ frames := 3, cells := 0, slots := 0, locals := 41 } : Room).cells ({ frames := 3, cells := 0, slots := 0, locals := 41 } : Room).slots) (s₁.setTop (entryFrame m #[(.ref a1)] 1))
  rw [ef_rm_val]
  refine own_st (B := (s₁.setTop (mkF m 1 #[.val (.ref a1)] [(.ref a1)]))) (fun _ zk => XS.aloadN X0.here hx rfl (hb hby d4_0) rfl rfl zk) ?_
  obtain ⟨T1, X1, e1, st1⟩ := getF X0 hx hZ hown (host := "") (Or.inl (hw _ (List.mem_of_getElem? (i := 14) rfl))) Via.refl e0 F1 (g := (mkF m 1 #[.val (.ref a1)] [(.ref a1)])) rfl rfl (hb hby d4_1)
  refine own_st (B := (T1.setTop (mkF m 4 #[.val (.ref a1)] [(.double us)]))) st1 ?_
  refine own_st (B := (T1.setTop (mkF m 5 #[.val (.ref a1)] [(.ref a1), (.double us)]))) (fun _ zk => XS.aloadN X1.here hx rfl (hb hby d4_4) rfl rfl zk) ?_
  obtain ⟨T2, X2, e2, st2⟩ := getF X1 hx hZ hown (host := "") (Or.inl (hw _ (List.mem_of_getElem? (i := 16) rfl))) Via.refl e1 F2 (g := (mkF m 5 #[.val (.ref a1)] [(.ref a1), (.double us)])) rfl rfl (hb hby d4_5)
  refine own_st (B := (T2.setTop (mkF m 8 #[.val (.ref a1)] [(.double ul), (.double us)]))) st2 ?_
  obtain ⟨v3, T3, L3, X3, Q3, st3⟩ := own_callS (W := 0) X2 hx hZ (y := (⟨"com/example/patient_surfer/patientsurfer/graph/CompensatedSum", "value", "(DD)D"⟩ : MethodName)) hown (hw _ (List.mem_of_getElem? (i := 18) rfl)) (hw _ (List.mem_of_getElem? (i := 19) rfl)) (hw _ (List.mem_of_getElem? (i := 2) rfl)) (hw _ (List.mem_of_getElem? (i := 20) rfl)) (by decide) e2 (rm_val2 l Z a0 hw [] us ul h0 hn hd hv) (g := (mkF m 8 #[.val (.ref a1)] [(.double ul), (.double us)])) rfl (by rw [hml]; rfl) (argsL := [(.double us), (.double ul)]) (rest := []) (lenOf pd_1 rfl) rfl rfl (by show 2 * 0 + _ ≤ _; exact Nat.le_of_eq rfl) (hb hby d4_8) (by decide) (by decide) (by decide) (by decide)
  obtain ⟨rfl, rfl, qe3⟩ := Q3
  refine own_st (B := (T3.setTop (mkF m 11 #[.val (.ref a1)] [(.double (FP.dadd us ul))]))) st3 ?_
  exact own_retD X3 hx hlk hret (hb hby d4_11) (by show own_QD (FP.dadd us ul) h0 _ T3.heap _; rw [qe3]; exact ⟨rfl, rfl, rfl⟩) (by decide) (by decide)
theorem d5_0 : decode prog_2_method_8_code 0 = .ok (.dload 4, 2) := by decide +kernel
theorem d5_2 : decode prog_2_method_8_code 2 = .ok (.dload_n 0, 1) := by decide +kernel
theorem d5_3 : decode prog_2_method_8_code 3 = .ok (.dsub, 1) := by decide +kernel
theorem d5_4 : decode prog_2_method_8_code 4 = .ok (.dstore 6, 2) := by decide +kernel
theorem d5_6 : decode prog_2_method_8_code 6 = .ok (.dload_n 0, 1) := by decide +kernel
theorem d5_7 : decode prog_2_method_8_code 7 = .ok (.dload 4, 2) := by decide +kernel
theorem d5_9 : decode prog_2_method_8_code 9 = .ok (.dload 6, 2) := by decide +kernel
theorem d5_11 : decode prog_2_method_8_code 11 = .ok (.dsub, 1) := by decide +kernel
theorem d5_12 : decode prog_2_method_8_code 12 = .ok (.dsub, 1) := by decide +kernel
theorem d5_13 : decode prog_2_method_8_code 13 = .ok (.dload_n 2, 1) := by decide +kernel
theorem d5_14 : decode prog_2_method_8_code 14 = .ok (.dload 6, 2) := by decide +kernel
theorem d5_16 : decode prog_2_method_8_code 16 = .ok (.dsub, 1) := by decide +kernel
theorem d5_17 : decode prog_2_method_8_code 17 = .ok (.dadd, 1) := by decide +kernel
theorem d5_18 : decode prog_2_method_8_code 18 = .ok (.dreturn, 1) := by decide +kernel
theorem ef_rm_drop (m : MethodId) (x0 : UInt64) (x1 : UInt64) (x2 : UInt64) : entryFrame m #[(.double x0), (.double x1), (.double x2)] 8 = mkF m 0 #[.val (.double x0), .second, .val (.double x1), .second, .val (.double x2), .second, .unset, .unset] [] := by first | (simp [entryFrame, mkF, argsToLocals, Value.category]; done) | rfl
set_option maxRecDepth 65536 in
set_option maxHeartbeats 40000000 in
theorem rm_drop (l : Launch) (Z : State) (a0 : Array Value) (hw : ∀ d ∈ tables_1, d.before a0 Z = true) (ws : List Jvm.Cond) (ua ub ut : UInt64) (h0 : Heap) (n1 : Jvm.Free.Fl.NoNaN64 (FP.dsub ut ua)) (n2 : Jvm.Free.Fl.NoNaN64 (FP.dsub ut (FP.dsub ut ua))) (n3 : Jvm.Free.Fl.NoNaN64 (FP.dsub ua (FP.dsub ut (FP.dsub ut ua)))) (n4 : Jvm.Free.Fl.NoNaN64 (FP.dsub ub (FP.dsub ut ua))) (n5 : Jvm.Free.Fl.NoNaN64 (own_drp ua ub ut)) :
    MetFree l (⟨"com/example/patient_surfer/patientsurfer/graph/CompensatedSum", "dropped", "(DDD)D"⟩ : MethodName) (head1 (Jvm.Cond.code (⟨"com/example/patient_surfer/patientsurfer/graph/CompensatedSum", "dropped", "(DDD)D"⟩ : MethodName) prog_2_method_8_code 8 (some .double) :: ws) ({ frames := 0, cells := 0, slots := 0, locals := 0 } : Room)) (fun a U => a = #[(.double ua), (.double ub), (.double ut)] ∧ Z.Warmed39 U.vm ∧ U.heap = h0) (fun _ _ _ _ _ => True) (fun _ U o U' => ∃ v L, o = .returned v ∧ own_QD (own_drp ua ub ut) h0 v U'.heap L ∧ FrameEnd U o U' L ({ frames := 0, cells := 0, slots := 0, locals := 0 } : Room).cells ({ frames := 0, cells := 0, slots := 0, locals := 0 } : Room).slots) := by
  refine MetFree.of_bodySF (plainFor_of_name pn_0) hisR ?_
  intro p e s m args below meth c s₁ Bd hml0 hP hK
  obtain ⟨rfl, hZ, hh⟩ := hP
  have hx := Bd.exec
  have hby := Bd.bytes
  have hlk := Bd.notSynchronized
  have hret := Bd.returns
  have hml : c.maxLocals = 8 := hml0
  have hown : s.vm.findClass "com/example/patient_surfer/patientsurfer/graph/CompensatedSum" = some m.cls := findClass_of_methodNamed Bd.named
  have hnm := (name_of_methodNamed Bd.named Bd.method).1
  have X0 : Stand p l e ({ frames := 0, cells := 0, slots := 0, locals := 0 } : Room) s m #[(.double ua), (.double ub), (.double ut)] below meth c s₁ [] 0 0 := Stand.of_body Bd
  have e0 : s₁.heap = h0 := by rw [← hh, Bd.state]; rfl
  show own_Dn p e below (own_Ret s (own_QD (own_drp ua ub ut) h0) ({ frames := 0, cells := 0, slots := 0, locals := 0 } : Room).cells ({ frames := 0, cells := 0, slots := 0, locals := 0 } : Room).slots) (s₁.setTop (entryFrame m #[(.double ua), (.double ub), (.double ut)] 8))
  rw [ef_rm_drop]
  refine own_st (B := (s₁.setTop (mkF m 2 #[.val (.double ua), .second, .val (.double ub), .second, .val (.double ut), .second, .unset, .unset] [(.double ut)]))) (fun _ zk => XS.dload X0.here hx rfl (hb hby d5_0) rfl zk) ?_
  refine own_st (B := (s₁.setTop (mkF m 3 #[.val (.double ua), .second, .val (.double ub), .second, .val (.double ut), .second, .unset, .unset] [(.double ua), (.double ut)]))) (fun _ zk => XS.dloadN X0.here hx rfl (hb hby d5_2) rfl zk) ?_
  refine own_st (B := (s₁.setTop (mkF m 4 #[.val (.double ua), .second, .val (.double ub), .second, .val (.double ut), .second, .unset, .unset] [(.double (FP.dsub ut ua))]))) (fun _ zk => XS.dsubS X0.here hx rfl (hb hby d5_3) rfl n1 rfl zk) ?_
  refine own_st (B := (s₁.setTop (mkF m 6 #[.val (.double ua), .second, .val (.double ub), .second, .val (.double ut), .second, .val (.double (FP.dsub ut ua)), .second] []))) (fun _ zk => XS.dstore X0.here hx rfl (hb hby d5_4) rfl (l' := #[.val (.double ua), .second, .val (.double ub), .second, .val (.double ut), .second, .val (.double (FP.dsub ut ua)), .second]) rfl zk) ?_
  refine own_st (B := (s₁.setTop (mkF m 7 #[.val (.double ua), .second, .val (.double ub), .second, .val (.double ut), .second, .val (.double (FP.dsub ut ua)), .second] [(.double ua)]))) (fun _ zk => XS.dloadN X0.here hx rfl (hb hby d5_6) rfl zk) ?_
  refine own_st (B := (s₁.setTop (mkF m 9 #[.val (.double ua), .second, .val (.double ub), .second, .val (.double ut), .second, .val (.double (FP.dsub ut ua)), .second] [(.double ut), (.double ua)]))) (fun _ zk => XS.dload X0.here hx rfl (hb hby d5_7) rfl zk) ?_
  refine own_st (B := (s₁.setTop (mkF m 11 #[.val (.double ua), .second, .val (.double ub), .second, .val (.double ut), .second, .val (.double (FP.dsub ut ua)), .second] [(.double (FP.dsub ut ua)), (.double ut), (.double ua)]))) (fun _ zk => XS.dload X0.here hx rfl (hb hby d5_9) rfl zk) ?_
  refine own_st (B := (s₁.setTop (mkF m 12 #[.val (.double ua), .second, .val (.double ub), .second, .val (.double ut), .second, .val (.double (FP.dsub ut ua)), .second] [(.double (FP.dsub ut (FP.dsub ut ua))), (.double ua)]))) (fun _ zk => XS.dsubS X0.here hx rfl (hb hby d5_11) rfl n2 rfl zk) ?_
  refine own_st (B := (s₁.setTop (mkF m 13 #[.val (.double ua), .second, .val (.double ub), .second, .val (.double ut), .second, .val (.double (FP.dsub ut ua)), .second] [(.double (FP.dsub ua (FP.dsub ut (FP.dsub ut ua))))]))) (fun _ zk => XS.dsubS X0.here hx rfl (hb hby d5_12) rfl n3 rfl zk) ?_
  refine own_st (B := (s₁.setTop (mkF m 14 #[.val (.double ua), .second, .val (.double ub), .second, .val (.double ut), .second, .val (.double (FP.dsub ut ua)), .second] [(.double ub), (.double (FP.dsub ua (FP.dsub ut (FP.dsub ut ua))))]))) (fun _ zk => XS.dloadN X0.here hx rfl (hb hby d5_13) rfl zk) ?_
  refine own_st (B := (s₁.setTop (mkF m 16 #[.val (.double ua), .second, .val (.double ub), .second, .val (.double ut), .second, .val (.double (FP.dsub ut ua)), .second] [(.double (FP.dsub ut ua)), (.double ub), (.double (FP.dsub ua (FP.dsub ut (FP.dsub ut ua))))]))) (fun _ zk => XS.dload X0.here hx rfl (hb hby d5_14) rfl zk) ?_
  refine own_st (B := (s₁.setTop (mkF m 17 #[.val (.double ua), .second, .val (.double ub), .second, .val (.double ut), .second, .val (.double (FP.dsub ut ua)), .second] [(.double (FP.dsub ub (FP.dsub ut ua))), (.double (FP.dsub ua (FP.dsub ut (FP.dsub ut ua))))]))) (fun _ zk => XS.dsubS X0.here hx rfl (hb hby d5_16) rfl n4 rfl zk) ?_
  refine own_st (B := (s₁.setTop (mkF m 18 #[.val (.double ua), .second, .val (.double ub), .second, .val (.double ut), .second, .val (.double (FP.dsub ut ua)), .second] [(.double (FP.dadd (FP.dsub ua (FP.dsub ut (FP.dsub ut ua))) (FP.dsub ub (FP.dsub ut ua))))]))) (fun _ zk => XS.daddS X0.here hx rfl (hb hby d5_17) rfl n5 rfl zk) ?_
  exact own_retD X0 hx hlk hret (hb hby d5_18) (by show own_QD (own_drp ua ub ut) h0 _ s₁.heap _; rw [e0]; exact ⟨rfl, rfl, rfl⟩) (by decide) (by decide)
theorem d6_0 : decode prog_2_method_3_code 0 = .ok (.aload_n 0, 1) := by decide +kernel
theorem d6_1 : decode prog_2_method_3_code 1 = .ok (.getfield 18, 3) := by decide +kernel
theorem d6_4 : decode prog_2_method_3_code 4 = .ok (.dload_n 1, 1) := by decide +kernel
theorem d6_5 : decode prog_2_method_3_code 5 = .ok (.dadd, 1) := by decide +kernel
theorem d6_6 : decode prog_2_method_3_code 6 = .ok (.dstore_n 3, 1) := by decide +kernel
theorem d6_7 : decode prog_2_method_3_code 7 = .ok (.aload_n 0, 1) := by decide +kernel
theorem d6_8 : decode prog_2_method_3_code 8 = .ok (.dup, 1) := by decide +kernel
theorem d6_9 : decode prog_2_method_3_code 9 = .ok (.getfield 22, 3) := by decide +kernel
theorem d6_12 : decode prog_2_method_3_code 12 = .ok (.aload_n 0, 1) := by decide +kernel
theorem d6_13 : decode prog_2_method_3_code 13 = .ok (.getfield 18, 3) := by decide +kernel
theorem d6_16 : decode prog_2_method_3_code 16 = .ok (.dload_n 1, 1) := by decide +kernel
theorem d6_17 : decode prog_2_method_3_code 17 = .ok (.dload_n 3, 1) := by decide +kernel
theorem pd_2 : parseMethodDescriptor "(DDD)D" = some ⟨[.double, .double, .double], some .double⟩ := by decide +kernel
theorem d6_18 : decode prog_2_method_3_code 18 = .ok (.invokestatic 25, 3) := by decide +kernel
theorem d6_21 : decode prog_2_method_3_code 21 = .ok (.dadd, 1) := by decide +kernel
theorem d6_22 : decode prog_2_method_3_code 22 = .ok (.putfield 22, 3) := by decide +kernel
theorem d6_25 : decode prog_2_method_3_code 25 = .ok (.aload_n 0, 1) := by decide +kernel
theorem d6_26 : decode prog_2_method_3_code 26 = .ok (.dload_n 3, 1) := by decide +kernel
theorem d6_27 : decode prog_2_method_3_code 27 = .ok (.putfield 18, 3) := by decide +kernel
theorem d6_30 : decode prog_2_method_3_code 30 = .ok (.return_, 1) := by decide +kernel
theorem ef_rm_add (m : MethodId) (x0 : Addr) (x1 : UInt64) : entryFrame m #[(.ref x0), (.double x1)] 5 = mkF m 0 #[.val (.ref x0), .val (.double x1), .second, .unset, .unset] [] := by first | (simp [entryFrame, mkF, argsToLocals, Value.category]; done) | rfl
set_option maxRecDepth 65536 in
set_option maxHeartbeats 40000000 in
theorem rm_add (l : Launch) (Z : State) (a0 : Array Value) (hw : ∀ d ∈ tables_1, d.before a0 Z = true) (ws : List Jvm.Cond) (a1 : Addr) (ux : UInt64) (tot S Lo Xv : Int) (h0 : Heap) (n0 : Nat) (Z0 : n0 ≤ h0.size) (ga : n0 ≤ a1) (CC : own_Cs Z h0 a1 tot S Lo) (bS : S.natAbs ≤ 2 ^ 62 + 4096) (bL : Lo.natAbs ≤ 4096) (hX : FP.Core.DInt Xv ux) (rX : own_Rep Xv) (bX : Xv.natAbs ≤ 2 ^ 61) :
    MetFree l (⟨"com/example/patient_surfer/patientsurfer/graph/CompensatedSum", "add", "(D)V"⟩ : MethodName) (head1 (Jvm.Cond.code (⟨"com/example/patient_surfer/patientsurfer/graph/CompensatedSum", "add", "(D)V"⟩ : MethodName) prog_2_method_3_code 5 none :: ws) ({ frames := 1, cells := 0, slots := 0, locals := 22 } : Room)) (fun a U => a = #[(.ref a1), (.double ux)] ∧ Z.Warmed39 U.vm ∧ U.heap = h0) (fun _ _ _ _ _ => True) (fun _ U o U' => ∃ v L, o = .returned v ∧ own_QA Z a1 tot S Lo Xv n0 v U'.heap L ∧ FrameEnd U o U' L ({ frames := 1, cells := 0, slots := 0, locals := 22 } : Room).cells ({ frames := 1, cells := 0, slots := 0, locals := 22 } : Room).slots) := by
  refine MetFree.of_bodySF (plainFor_of_name pn_0) hisR ?_
  intro p e s m args below meth c s₁ Bd hml0 hP hK
  obtain ⟨rfl, hZ, hh⟩ := hP
  have hx := Bd.exec
  have hby := Bd.bytes
  have hlk := Bd.notSynchronized
  have hret := Bd.returns
  have hml : c.maxLocals = 5 := hml0
  have hown : s.vm.findClass "com/example/patient_surfer/patientsurfer/graph/CompensatedSum" = some m.cls := findClass_of_methodNamed Bd.named
  have hnm := (name_of_methodNamed Bd.named Bd.method).1
  have X0 : Stand p l e ({ frames := 1, cells := 0, slots := 0, locals := 22 } : Room) s m #[(.ref a1), (.double ux)] below meth c s₁ [] 0 0 := Stand.of_body Bd
  have e0 : s₁.heap = h0 := by rw [← hh, Bd.state]; rfl
  have N0 := Fr.nil n0
  show own_Dn p e below (own_Ret s (own_QA Z a1 tot S Lo Xv n0) ({ frames := 1, cells := 0, slots := 0, locals := 22 } : Room).cells ({ frames := 1, cells := 0, slots := 0, locals := 22 } : Room).slots) (s₁.setTop (entryFrame m #[(.ref a1), (.double ux)] 5))
  rw [ef_rm_add]
  obtain ⟨us, ul, EX, F1, F2, hS, rS, hL, hSL⟩ := CC
  obtain ⟨zT, hT1, hT2⟩ := own_dadd hS hX (by omega)
  obtain ⟨zB, zC, zD, zE, hB, hC, hD, hE, hF⟩ := own_drop hS hX hT1 rS rX bS bX hT2
  have er := own_rn_err hT2 (by omega)
  obtain ⟨zL, hL1, hL2⟩ := own_dadd hL hF (by omega)
  have hL3 := own_rn_exact hL2 (own_rep_small (by omega))
  refine own_st (B := (s₁.setTop (mkF m 1 #[.val (.ref a1), .val (.double ux), .second, .unset, .unset] [(.ref a1)]))) (fun _ zk => XS.aloadN X0.here hx rfl (hb hby d6_0) rfl rfl zk) ?_
  obtain ⟨T1, X1, e1, st1⟩ := getF X0 hx hZ hown (host := "") (Or.inl (hw _ (List.mem_of_getElem? (i := 14) rfl))) Via.refl e0 F1 (g := (mkF m 1 #[.val (.ref a1), .val (.double ux), .second, .unset, .unset] [(.ref a1)])) rfl rfl (hb hby d6_1)
  refine own_st (B := (T1.setTop (mkF m 4 #[.val (.ref a1), .val (.double ux), .second, .unset, .unset] [(.double us)]))) st1 ?_
  refine own_st (B := (T1.setTop (mkF m 5 #[.val (.ref a1), .val (.double ux), .second, .unset, .unset] [(.double ux), (.double us)]))) (fun _ zk => XS.dloadN X1.here hx rfl (hb hby d6_4) rfl zk) ?_
  refine own_st (B := (T1.setTop (mkF m 6 #[.val (.ref a1), .val (.double ux), .second, .unset, .unset] [(.double (FP.dadd us ux))]))) (fun _ zk => XS.daddS X1.here hx rfl (hb hby d6_5) rfl (own_nn hT1) rfl zk) ?_
  refine own_st (B := (T1.setTop (mkF m 7 #[.val (.ref a1), .val (.double ux), .second, .val (.double (FP.dadd us ux)), .second] []))) (fun _ zk => XS.dstoreN X1.here hx rfl (hb hby d6_6) rfl (l' := #[.val (.ref a1), .val (.double ux), .second, .val (.double (FP.dadd us ux)), .second]) rfl zk) ?_
  refine own_st (B := (T1.setTop (mkF m 8 #[.val (.ref a1), .val (.double ux), .second, .val (.double (FP.dadd us ux)), .second] [(.ref a1)]))) (fun _ zk => XS.aloadN X1.here hx rfl (hb hby d6_7) rfl rfl zk) ?_
  refine own_st (B := (T1.setTop (mkF m 9 #[.val (.ref a1), .val (.double ux), .second, .val (.double (FP.dadd us ux)), .second] [(.ref a1), (.ref a1)]))) (fun _ zk => XS.dup X1.here hx rfl (hb hby d6_8) rfl rfl zk) ?_
  obtain ⟨T2, X2, e2, st2⟩ := getF X1 hx hZ hown (host := "") (Or.inl (hw _ (List.mem_of_getElem? (i := 16) rfl))) Via.refl e1 F2 (g := (mkF m 9 #[.val (.ref a1), .val (.double ux), .second, .val (.double (FP.dadd us ux)), .second] [(.ref a1), (.ref a1)])) rfl rfl (hb hby d6_9)
  refine own_st (B := (T2.setTop (mkF m 12 #[.val (.ref a1), .val (.double ux), .second, .val (.double (FP.dadd us ux)), .second] [(.double ul), (.ref a1)]))) st2 ?_
  refine own_st (B := (T2.setTop (mkF m 13 #[.val (.ref a1), .val (.double ux), .second, .val (.double (FP.dadd us ux)), .second] [(.ref a1), (.double ul), (.ref a1)]))) (fun _ zk => XS.aloadN X2.here hx rfl (hb hby d6_12) rfl rfl zk) ?_
  obtain ⟨T3, X3, e3, st3⟩ := getF X2 hx hZ hown (host := "") (Or.inl (hw _ (List.mem_of_getElem? (i := 14) rfl))) Via.refl e2 F1 (g := (mkF m 13 #[.val (.ref a1), .val (.double ux), .second, .val (.double (FP.dadd us ux)), .second] [(.ref a1), (.double ul), (.ref a1)])) rfl rfl (hb hby d6_13)
  refine own_st (B := (T3.setTop (mkF m 16 #[.val (.ref a1), .val (.double ux), .second, .val (.double (FP.dadd us ux)), .second] [(.double us), (.double ul), (.ref a1)]))) st3 ?_
  refine own_st (B := (T3.setTop (mkF m 17 #[.val (.ref a1), .val (.double ux), .second, .val (.double (FP.dadd us ux)), .second] [(.double ux), (.double us), (.double ul), (.ref a1)]))) (fun _ zk => XS.dloadN X3.here hx rfl (hb hby d6_16) rfl zk) ?_
  refine own_st (B := (T3.setTop (mkF m 18 #[.val (.ref a1), .val (.double ux), .second, .val (.double (FP.dadd us ux)), .second] [(.double (FP.dadd us ux)), (.double ux), (.double us), (.double ul), (.ref a1)]))) (fun _ zk => XS.dloadN X3.here hx rfl (hb hby d6_17) rfl zk) ?_
  obtain ⟨v4, T4, L4, X4, Q4, st4⟩ := own_callS (W := 3) X3 hx hZ (y := (⟨"com/example/patient_surfer/patientsurfer/graph/CompensatedSum", "dropped", "(DDD)D"⟩ : MethodName)) hown (hw _ (List.mem_of_getElem? (i := 35) rfl)) (hw _ (List.mem_of_getElem? (i := 36) rfl)) (hw _ (List.mem_of_getElem? (i := 2) rfl)) (hw _ (List.mem_of_getElem? (i := 37) rfl)) (by decide) e3 (rm_drop l Z a0 hw [] us ux (FP.dadd us ux) h0 (own_nn hB) (own_nn hC) (own_nn hD) (own_nn hE) (own_nn hF)) (g := (mkF m 18 #[.val (.ref a1), .val (.double ux), .second, .val (.double (FP.dadd us ux)), .second] [(.double (FP.dadd us ux)), (.double ux), (.double us), (.double ul), (.ref a1)])) rfl (by rw [hml]; rfl) (argsL := [(.double us), (.double ux), (.double (FP.dadd us ux))]) (rest := [(.double ul), (.ref a1)]) (lenOf pd_2 rfl) rfl rfl (by show 2 * 0 + _ ≤ _; exact Nat.le_of_eq rfl) (hb hby d6_18) (by decide) (by decide) (by decide) (by decide)
  obtain ⟨rfl, rfl, qe4⟩ := Q4
  refine own_st (B := (T4.setTop (mkF m 21 #[.val (.ref a1), .val (.double ux), .second, .val (.double (FP.dadd us ux)), .second] [(.double (own_drp us ux (FP.dadd us ux))), (.double ul), (.ref a1)]))) st4 ?_
  have N1 := Fr.app N0 (Fr.nil n0)
  refine own_st (B := (T4.setTop (mkF m 22 #[.val (.ref a1), .val (.double ux), .second, .val (.double (FP.dadd us ux)), .second] [(.double (FP.dadd ul (own_drp us ux (FP.dadd us ux)))), (.ref a1)]))) (fun _ zk => XS.daddS X4.here hx rfl (hb hby d6_21) rfl (own_nn hL1) rfl zk) ?_
  obtain ⟨T5, h5, X5, e5, W5, st5⟩ := putF X4 hx hZ hown (host := "") (Or.inl (hw _ (List.mem_of_getElem? (i := 16) rfl))) Via.refl qe4 F2 EX (Or.inl (hw _ (List.mem_of_getElem? (i := 17) rfl))) (hw _ (List.mem_of_getElem? (i := 1) rfl)) (ty := .double) (by decide) rfl rfl (g := (mkF m 22 #[.val (.ref a1), .val (.double ux), .second, .val (.double (FP.dadd us ux)), .second] [(.double (FP.dadd ul (own_drp us ux (FP.dadd us ux)))), (.ref a1)])) rfl rfl (hb hby d6_22)
  refine own_st (B := (T5.setTop (mkF m 25 #[.val (.ref a1), .val (.double ux), .second, .val (.double (FP.dadd us ux)), .second] []))) st5 ?_
  have N5 := Fr.snoc X5 N1 ga
  have F5_sum := (F1.other W5 (Or.inr (slot_ne (Or.inl (hw _ (List.mem_of_getElem? (i := 15) rfl))) (Or.inl (hw _ (List.mem_of_getElem? (i := 17) rfl))) (by decide) (t := .double) (t' := .double) (by decide) (by decide))))
  have F5_lost := F2.same W5
  have EX5 := EX.wr W5
  refine own_st (B := (T5.setTop (mkF m 26 #[.val (.ref a1), .val (.double ux), .second, .val (.double (FP.dadd us ux)), .second] [(.ref a1)]))) (fun _ zk => XS.aloadN X5.here hx rfl (hb hby d6_25) rfl rfl zk) ?_
  refine own_st (B := (T5.setTop (mkF m 27 #[.val (.ref a1), .val (.double ux), .second, .val (.double (FP.dadd us ux)), .second] [(.double (FP.dadd us ux)), (.ref a1)]))) (fun _ zk => XS.dloadN X5.here hx rfl (hb hby d6_26) rfl zk) ?_
  obtain ⟨T6, h6, X6, e6, W6, st6⟩ := putF X5 hx hZ hown (host := "") (Or.inl (hw _ (List.mem_of_getElem? (i := 14) rfl))) Via.refl e5 F5_sum EX5 (Or.inl (hw _ (List.mem_of_getElem? (i := 15) rfl))) (hw _ (List.mem_of_getElem? (i := 1) rfl)) (ty := .double) (by decide) rfl rfl (g := (mkF m 27 #[.val (.ref a1), .val (.double ux), .second, .val (.double (FP.dadd us ux)), .second] [(.double (FP.dadd us ux)), (.ref a1)])) rfl rfl (hb hby d6_27)
  refine own_st (B := (T6.setTop (mkF m 30 #[.val (.ref a1), .val (.double ux), .second, .val (.double (FP.dadd us ux)), .second] []))) st6 ?_
  have N6 := Fr.snoc X6 N5 ga
  have F6_sum := F5_sum.same W6
  have F6_lost := (F5_lost.other W6 (Or.inr (slot_ne (Or.inl (hw _ (List.mem_of_getElem? (i := 17) rfl))) (Or.inl (hw _ (List.mem_of_getElem? (i := 15) rfl))) (by decide) (t := .double) (t' := .double) (by decide) (by decide))))
  have EX6 := EX5.wr W6
  exact own_retV X6 hx hlk hret (hb hby d6_30) (by show own_QA Z a1 tot S Lo Xv n0 _ T6.heap _; rw [e6]; exact ⟨rfl, N6, zT, zL, ⟨_, _, EX6, F6_sum, F6_lost, hT1, hT2.1, hL1, by omega⟩, by omega, by omega⟩) (by decide) (by decide)
theorem own_Cs_exa {Z : State} {h : Heap} {a1 : Addr} {tot S Lo : Int} (F : own_Cs Z h a1 tot S Lo) : Exa Z h a1 "com/example/patient_surfer/patientsurfer/graph/CompensatedSum" := by
  obtain ⟨us, ul, E, -⟩ := F
  exact E
theorem own_Cs_lt {Z : State} {h : Heap} {a1 : Addr} {tot S Lo : Int} (F : own_Cs Z h a1 tot S Lo) : a1 < h.size := by
  obtain ⟨us, ul, ⟨c, k, q, -⟩, -⟩ := F
  exact (Array.getElem?_eq_some_iff.mp q).1
theorem pd_3 : parseMethodDescriptor "()V" = some ⟨[], none⟩ := by decide +kernel
theorem pd_4 : parseMethodDescriptor "()D" = some ⟨[], some .double⟩ := by decide +kernel
theorem pd_5 : parseMethodDescriptor "(D)V" = some ⟨[.double], none⟩ := by decide +kernel
theorem ef_rm_law (m : MethodId) (x0 : Int32) (x1 : Int32) (x2 : Int32) (x3 : Int32) : entryFrame m #[(.int x0), (.int x1), (.int x2), (.int x3)] maxLocals = mkF m 0 #[.val (.int x0), .val (.int x1), .val (.int x2), .val (.int x3), .unset, .unset, .unset, .unset, .unset, .unset, .unset, .unset, .unset, .unset] [] := by first | (simp [entryFrame, mkF, argsToLocals, Value.category, maxLocals]; done) | rfl
theorem pn_2 : plainName "com/example/patient_surfer/patientsurfer/graph/CompensatedSumAddPinLaw" = true := by first | (simp [plainName, overriddenIn]; done) | decide +kernel
set_option maxRecDepth 65536 in
set_option maxHeartbeats 40000000 in
theorem rm_law (l : Launch) (Z : State) (a0 : Array Value) (hw : ∀ d ∈ tables_1, d.before a0 Z = true) (ws : List Jvm.Cond) (p0 p1 p2 p3 : Int32) (h0 : Heap) (n0 : Nat) (Z0 : n0 ≤ h0.size)  :
    MetFree l x (head1 (Jvm.Cond.code x code maxLocals ret :: ws) room_1) (fun a U => a = #[(.int p0), (.int p1), (.int p2), (.int p3)] ∧ Z.Warmed39 U.vm ∧ U.heap = h0) (fun _ _ _ _ _ => True) (fun _ U o U' => ∃ v L, o = .returned v ∧ own_Q0 n0 v U'.heap L ∧ FrameEnd U o U' L 16 128) := by
  refine MetFree.of_bodySF (plainFor_of_name pn_2) hisR ?_
  intro p e s m args below meth c s₁ Bd hml0 hP hK
  obtain ⟨rfl, hZ, hh⟩ := hP
  have hx := Bd.exec
  have hby := Bd.bytes
  have hlk := Bd.notSynchronized
  have hret := Bd.returns
  have hml : c.maxLocals = 14 := hml0
  have hown : s.vm.findClass "com/example/patient_surfer/patientsurfer/graph/CompensatedSumAddPinLaw" = some m.cls := findClass_of_methodNamed Bd.named
  have hnm := (name_of_methodNamed Bd.named Bd.method).1
  have X0 : Stand p l e room_1 s m #[(.int p0), (.int p1), (.int p2), (.int p3)] below meth c s₁ [] 0 0 := Stand.of_body Bd
  have e0 : s₁.heap = h0 := by rw [← hh, Bd.state]; rfl
  have N0 := Fr.nil n0
  show own_Dn p e below (own_Ret s (own_Q0 n0) 16 128) (s₁.setTop (entryFrame m #[(.int p0), (.int p1), (.int p2), (.int p3)] maxLocals))
  rw [ef_rm_law]
  refine own_st (B := (s₁.setTop (mkF m 1 #[.val (.int p0), .val (.int p1), .val (.int p2), .val (.int p3), .unset, .unset, .unset, .unset, .unset, .unset, .unset, .unset, .unset, .unset] [(.int p0)]))) (fun _ zk => XS.iloadN X0.here hx rfl (hb hby at_0) rfl zk) ?_
  refine own_st (B := (s₁.setTop (mkF m 2 #[.val (.int p0), .val (.int p1), .val (.int p2), .val (.int p3), .unset, .unset, .unset, .unset, .unset, .unset, .unset, .unset, .unset, .unset] [(.long (p0.toInt64))]))) (fun _ zk => XS.i2l X0.here hx rfl (hb hby at_1) rfl zk) ?_
  refine own_st (B := (s₁.setTop (mkF m 3 #[.val (.int p0), .val (.int p1), .val (.int p2), .val (.int p3), .unset, .unset, .unset, .unset, .unset, .unset, .unset, .unset, .unset, .unset] [(.int p3), (.long (p0.toInt64))]))) (fun _ zk => XS.iloadN X0.here hx rfl (hb hby at_2) rfl zk) ?_
  refine own_st (B := (s₁.setTop (mkF m 5 #[.val (.int p0), .val (.int p1), .val (.int p2), .val (.int p3), .unset, .unset, .unset, .unset, .unset, .unset, .unset, .unset, .unset, .unset] [(.int (31 : Int32)), (.int p3), (.long (p0.toInt64))]))) (fun _ zk => XS.bipush X0.here hx rfl (hb hby at_3) zk) ?_
  refine own_st (B := (s₁.setTop (mkF m 6 #[.val (.int p0), .val (.int p1), .val (.int p2), .val (.int p3), .unset, .unset, .unset, .unset, .unset, .unset, .unset, .unset, .unset, .unset] [(.int (p3 &&& (31 : Int32))), (.long (p0.toInt64))]))) (fun _ zk => XS.iand X0.here hx rfl (hb hby at_5) rfl zk) ?_
  refine own_st (B := (s₁.setTop (mkF m 8 #[.val (.int p0), .val (.int p1), .val (.int p2), .val (.int p3), .unset, .unset, .unset, .unset, .unset, .unset, .unset, .unset, .unset, .unset] [(.int (31 : Int32)), (.int (p3 &&& (31 : Int32))), (.long (p0.toInt64))]))) (fun _ zk => XS.bipush X0.here hx rfl (hb hby at_6) zk) ?_
  refine own_st (B := (s₁.setTop (mkF m 9 #[.val (.int p0), .val (.int p1), .val (.int p2), .val (.int p3), .unset, .unset, .unset, .unset, .unset, .unset, .unset, .unset, .unset, .unset] [(.int ((p3 &&& (31 : Int32)) % (31 : Int32))), (.long (p0.toInt64))]))) (fun _ zk => iremM X0 hx rfl (hb hby at_8) rfl (by decide) zk) ?_
  refine own_st (B := (s₁.setTop (mkF m 10 #[.val (.int p0), .val (.int p1), .val (.int p2), .val (.int p3), .unset, .unset, .unset, .unset, .unset, .unset, .unset, .unset, .unset, .unset] [(.long ((p0.toInt64) <<< (((p3 &&& (31 : Int32)) % (31 : Int32)) &&& 0x3f).toInt64))]))) (fun _ zk => XS.lshl X0.here hx rfl (hb hby at_9) rfl zk) ?_
  have sh0 := own_sh p0 ((p3 &&& (31 : Int32)) % (31 : Int32)) (own_m31 p3)
  generalize ((p0.toInt64) <<< (((p3 &&& (31 : Int32)) % (31 : Int32)) &&& 0x3f).toInt64) = y0 at *
  refine own_st (B := (s₁.setTop (mkF m 12 #[.val (.int p0), .val (.int p1), .val (.int p2), .val (.int p3), .val (.long y0), .second, .unset, .unset, .unset, .unset, .unset, .unset, .unset, .unset] []))) (fun _ zk => XS.lstore X0.here hx rfl (hb hby at_10) rfl (l' := #[.val (.int p0), .val (.int p1), .val (.int p2), .val (.int p3), .val (.long y0), .second, .unset, .unset, .unset, .unset, .unset, .unset, .unset, .unset]) rfl zk) ?_
  refine own_st (B := (s₁.setTop (mkF m 13 #[.val (.int p0), .val (.int p1), .val (.int p2), .val (.int p3), .val (.long y0), .second, .unset, .unset, .unset, .unset, .unset, .unset, .unset, .unset] [(.int p1)]))) (fun _ zk => XS.iloadN X0.here hx rfl (hb hby at_12) rfl zk) ?_
  refine own_st (B := (s₁.setTop (mkF m 14 #[.val (.int p0), .val (.int p1), .val (.int p2), .val (.int p3), .val (.long y0), .second, .unset, .unset, .unset, .unset, .unset, .unset, .unset, .unset] [(.long (p1.toInt64))]))) (fun _ zk => XS.i2l X0.here hx rfl (hb hby at_13) rfl zk) ?_
  refine own_st (B := (s₁.setTop (mkF m 15 #[.val (.int p0), .val (.int p1), .val (.int p2), .val (.int p3), .val (.long y0), .second, .unset, .unset, .unset, .unset, .unset, .unset, .unset, .unset] [(.int p3), (.long (p1.toInt64))]))) (fun _ zk => XS.iloadN X0.here hx rfl (hb hby at_14) rfl zk) ?_
  refine own_st (B := (s₁.setTop (mkF m 16 #[.val (.int p0), .val (.int p1), .val (.int p2), .val (.int p3), .val (.long y0), .second, .unset, .unset, .unset, .unset, .unset, .unset, .unset, .unset] [(.int (5 : Int32)), (.int p3), (.long (p1.toInt64))]))) (fun _ zk => XS.iconst X0.here hx rfl (hb hby at_15) zk) ?_
  refine own_st (B := (s₁.setTop (mkF m 17 #[.val (.int p0), .val (.int p1), .val (.int p2), .val (.int p3), .val (.long y0), .second, .unset, .unset, .unset, .unset, .unset, .unset, .unset, .unset] [(.int ((p3.toUInt32 >>> ((5 : Int32) &&& 31).toUInt32).toInt32)), (.long (p1.toInt64))]))) (fun _ zk => XS.iushr X0.here hx rfl (hb hby at_16) rfl zk) ?_
  refine own_st (B := (s₁.setTop (mkF m 19 #[.val (.int p0), .val (.int p1), .val (.int p2), .val (.int p3), .val (.long y0), .second, .unset, .unset, .unset, .unset, .unset, .unset, .unset, .unset] [(.int (31 : Int32)), (.int ((p3.toUInt32 >>> ((5 : Int32) &&& 31).toUInt32).toInt32)), (.long (p1.toInt64))]))) (fun _ zk => XS.bipush X0.here hx rfl (hb hby at_17) zk) ?_
  refine own_st (B := (s₁.setTop (mkF m 20 #[.val (.int p0), .val (.int p1), .val (.int p2), .val (.int p3), .val (.long y0), .second, .unset, .unset, .unset, .unset, .unset, .unset, .unset, .unset] [(.int (((p3.toUInt32 >>> ((5 : Int32) &&& 31).toUInt32).toInt32) &&& (31 : Int32))), (.long (p1.toInt64))]))) (fun _ zk => XS.iand X0.here hx rfl (hb hby at_19) rfl zk) ?_
  refine own_st (B := (s₁.setTop (mkF m 22 #[.val (.int p0), .val (.int p1), .val (.int p2), .val (.int p3), .val (.long y0), .second, .unset, .unset, .unset, .unset, .unset, .unset, .unset, .unset] [(.int (31 : Int32)), (.int (((p3.toUInt32 >>> ((5 : Int32) &&& 31).toUInt32).toInt32) &&& (31 : Int32))), (.long (p1.toInt64))]))) (fun _ zk => XS.bipush X0.here hx rfl (hb hby at_20) zk) ?_
  refine own_st (B := (s₁.setTop (mkF m 23 #[.val (.int p0), .val (.int p1), .val (.int p2), .val (.int p3), .val (.long y0), .second, .unset, .unset, .unset, .unset, .unset, .unset, .unset, .unset] [(.int ((((p3.toUInt32 >>> ((5 : Int32) &&& 31).toUInt32).toInt32) &&& (31 : Int32)) % (31 : Int32))), (.long (p1.toInt64))]))) (fun _ zk => iremM X0 hx rfl (hb hby at_22) rfl (by decide) zk) ?_
  refine own_st (B := (s₁.setTop (mkF m 24 #[.val (.int p0), .val (.int p1), .val (.int p2), .val (.int p3), .val (.long y0), .second, .unset, .unset, .unset, .unset, .unset, .unset, .unset, .unset] [(.long ((p1.toInt64) <<< (((((p3.toUInt32 >>> ((5 : Int32) &&& 31).toUInt32).toInt32) &&& (31 : Int32)) % (31 : Int32)) &&& 0x3f).toInt64))]))) (fun _ zk => XS.lshl X0.here hx rfl (hb hby at_23) rfl zk) ?_
  have sh1 := own_sh p1 ((((p3.toUInt32 >>> ((5 : Int32) &&& 31).toUInt32).toInt32) &&& (31 : Int32)) % (31 : Int32)) (own_m31 ((p3.toUInt32 >>> ((5 : Int32) &&& 31).toUInt32).toInt32))
  generalize ((p1.toInt64) <<< (((((p3.toUInt32 >>> ((5 : Int32) &&& 31).toUInt32).toInt32) &&& (31 : Int32)) % (31 : Int32)) &&& 0x3f).toInt64) = y1 at *
  refine own_st (B := (s₁.setTop (mkF m 26 #[.val (.int p0), .val (.int p1), .val (.int p2), .val (.int p3), .val (.long y0), .second, .val (.long y1), .second, .unset, .unset, .unset, .unset, .unset, .unset] []))) (fun _ zk => XS.lstore X0.here hx rfl (hb hby at_24) rfl (l' := #[.val (.int p0), .val (.int p1), .val (.int p2), .val (.int p3), .val (.long y0), .second, .val (.long y1), .second, .unset, .unset, .unset, .unset, .unset, .unset]) rfl zk) ?_
  refine own_st (B := (s₁.setTop (mkF m 27 #[.val (.int p0), .val (.int p1), .val (.int p2), .val (.int p3), .val (.long y0), .second, .val (.long y1), .second, .unset, .unset, .unset, .unset, .unset, .unset] [(.int p2)]))) (fun _ zk => XS.iloadN X0.here hx rfl (hb hby at_26) rfl zk) ?_
  refine own_st (B := (s₁.setTop (mkF m 28 #[.val (.int p0), .val (.int p1), .val (.int p2), .val (.int p3), .val (.long y0), .second, .val (.long y1), .second, .unset, .unset, .unset, .unset, .unset, .unset] [(.long (p2.toInt64))]))) (fun _ zk => XS.i2l X0.here hx rfl (hb hby at_27) rfl zk) ?_
  refine own_st (B := (s₁.setTop (mkF m 29 #[.val (.int p0), .val (.int p1), .val (.int p2), .val (.int p3), .val (.long y0), .second, .val (.long y1), .second, .unset, .unset, .unset, .unset, .unset, .unset] [(.int p3), (.long (p2.toInt64))]))) (fun _ zk => XS.iloadN X0.here hx rfl (hb hby at_28) rfl zk) ?_
  refine own_st (B := (s₁.setTop (mkF m 31 #[.val (.int p0), .val (.int p1), .val (.int p2), .val (.int p3), .val (.long y0), .second, .val (.long y1), .second, .unset, .unset, .unset, .unset, .unset, .unset] [(.int (10 : Int32)), (.int p3), (.long (p2.toInt64))]))) (fun _ zk => XS.bipush X0.here hx rfl (hb hby at_29) zk) ?_
  refine own_st (B := (s₁.setTop (mkF m 32 #[.val (.int p0), .val (.int p1), .val (.int p2), .val (.int p3), .val (.long y0), .second, .val (.long y1), .second, .unset, .unset, .unset, .unset, .unset, .unset] [(.int ((p3.toUInt32 >>> ((10 : Int32) &&& 31).toUInt32).toInt32)), (.long (p2.toInt64))]))) (fun _ zk => XS.iushr X0.here hx rfl (hb hby at_31) rfl zk) ?_
  refine own_st (B := (s₁.setTop (mkF m 34 #[.val (.int p0), .val (.int p1), .val (.int p2), .val (.int p3), .val (.long y0), .second, .val (.long y1), .second, .unset, .unset, .unset, .unset, .unset, .unset] [(.int (31 : Int32)), (.int ((p3.toUInt32 >>> ((10 : Int32) &&& 31).toUInt32).toInt32)), (.long (p2.toInt64))]))) (fun _ zk => XS.bipush X0.here hx rfl (hb hby at_32) zk) ?_
  refine own_st (B := (s₁.setTop (mkF m 35 #[.val (.int p0), .val (.int p1), .val (.int p2), .val (.int p3), .val (.long y0), .second, .val (.long y1), .second, .unset, .unset, .unset, .unset, .unset, .unset] [(.int (((p3.toUInt32 >>> ((10 : Int32) &&& 31).toUInt32).toInt32) &&& (31 : Int32))), (.long (p2.toInt64))]))) (fun _ zk => XS.iand X0.here hx rfl (hb hby at_34) rfl zk) ?_
  refine own_st (B := (s₁.setTop (mkF m 37 #[.val (.int p0), .val (.int p1), .val (.int p2), .val (.int p3), .val (.long y0), .second, .val (.long y1), .second, .unset, .unset, .unset, .unset, .unset, .unset] [(.int (31 : Int32)), (.int (((p3.toUInt32 >>> ((10 : Int32) &&& 31).toUInt32).toInt32) &&& (31 : Int32))), (.long (p2.toInt64))]))) (fun _ zk => XS.bipush X0.here hx rfl (hb hby at_35) zk) ?_
  refine own_st (B := (s₁.setTop (mkF m 38 #[.val (.int p0), .val (.int p1), .val (.int p2), .val (.int p3), .val (.long y0), .second, .val (.long y1), .second, .unset, .unset, .unset, .unset, .unset, .unset] [(.int ((((p3.toUInt32 >>> ((10 : Int32) &&& 31).toUInt32).toInt32) &&& (31 : Int32)) % (31 : Int32))), (.long (p2.toInt64))]))) (fun _ zk => iremM X0 hx rfl (hb hby at_37) rfl (by decide) zk) ?_
  refine own_st (B := (s₁.setTop (mkF m 39 #[.val (.int p0), .val (.int p1), .val (.int p2), .val (.int p3), .val (.long y0), .second, .val (.long y1), .second, .unset, .unset, .unset, .unset, .unset, .unset] [(.long ((p2.toInt64) <<< (((((p3.toUInt32 >>> ((10 : Int32) &&& 31).toUInt32).toInt32) &&& (31 : Int32)) % (31 : Int32)) &&& 0x3f).toInt64))]))) (fun _ zk => XS.lshl X0.here hx rfl (hb hby at_38) rfl zk) ?_
  have sh2 := own_sh p2 ((((p3.toUInt32 >>> ((10 : Int32) &&& 31).toUInt32).toInt32) &&& (31 : Int32)) % (31 : Int32)) (own_m31 ((p3.toUInt32 >>> ((10 : Int32) &&& 31).toUInt32).toInt32))
  generalize ((p2.toInt64) <<< (((((p3.toUInt32 >>> ((10 : Int32) &&& 31).toUInt32).toInt32) &&& (31 : Int32)) % (31 : Int32)) &&& 0x3f).toInt64) = y2 at *
  refine own_st (B := (s₁.setTop (mkF m 41 #[.val (.int p0), .val (.int p1), .val (.int p2), .val (.int p3), .val (.long y0), .second, .val (.long y1), .second, .val (.long y2), .second, .unset, .unset, .unset, .unset] []))) (fun _ zk => XS.lstore X0.here hx rfl (hb hby at_39) rfl (l' := #[.val (.int p0), .val (.int p1), .val (.int p2), .val (.int p3), .val (.long y0), .second, .val (.long y1), .second, .val (.long y2), .second, .unset, .unset, .unset, .unset]) rfl zk) ?_
  refine own_st (B := (s₁.setTop (mkF m 42 #[.val (.int p0), .val (.int p1), .val (.int p2), .val (.int p3), .val (.long y0), .second, .val (.long y1), .second, .val (.long y2), .second, .unset, .unset, .unset, .unset] [(.int p3)]))) (fun _ zk => XS.iloadN X0.here hx rfl (hb hby at_41) rfl zk) ?_
  refine own_st (B := (s₁.setTop (mkF m 44 #[.val (.int p0), .val (.int p1), .val (.int p2), .val (.int p3), .val (.long y0), .second, .val (.long y1), .second, .val (.long y2), .second, .unset, .unset, .unset, .unset] [(.int (15 : Int32)), (.int p3)]))) (fun _ zk => XS.bipush X0.here hx rfl (hb hby at_42) zk) ?_
  refine own_st (B := (s₁.setTop (mkF m 45 #[.val (.int p0), .val (.int p1), .val (.int p2), .val (.int p3), .val (.long y0), .second, .val (.long y1), .second, .val (.long y2), .second, .unset, .unset, .unset, .unset] [(.int ((p3.toUInt32 >>> ((15 : Int32) &&& 31).toUInt32).toInt32))]))) (fun _ zk => XS.iushr X0.here hx rfl (hb hby at_44) rfl zk) ?_
  refine own_st (B := (s₁.setTop (mkF m 46 #[.val (.int p0), .val (.int p1), .val (.int p2), .val (.int p3), .val (.long y0), .second, .val (.long y1), .second, .val (.long y2), .second, .unset, .unset, .unset, .unset] [(.int (3 : Int32)), (.int ((p3.toUInt32 >>> ((15 : Int32) &&& 31).toUInt32).toInt32))]))) (fun _ zk => XS.iconst X0.here hx rfl (hb hby at_45) zk) ?_
  refine own_st (B := (s₁.setTop (mkF m 47 #[.val (.int p0), .val (.int p1), .val (.int p2), .val (.int p3), .val (.long y0), .second, .val (.long y1), .second, .val (.long y2), .second, .unset, .unset, .unset, .unset] [(.int (((p3.toUInt32 >>> ((15 : Int32) &&& 31).toUInt32).toInt32) &&& (3 : Int32)))]))) (fun _ zk => XS.iand X0.here hx rfl (hb hby at_46) rfl zk) ?_
  have hn := own_and3 ((p3.toUInt32 >>> ((15 : Int32) &&& 31).toUInt32).toInt32)
  generalize (((p3.toUInt32 >>> ((15 : Int32) &&& 31).toUInt32).toInt32) &&& (3 : Int32)) = nn at *
  refine own_st (B := (s₁.setTop (mkF m 49 #[.val (.int p0), .val (.int p1), .val (.int p2), .val (.int p3), .val (.long y0), .second, .val (.long y1), .second, .val (.long y2), .second, .val (.int nn), .unset, .unset, .unset] []))) (fun _ zk => XS.istore X0.here hx rfl (hb hby at_47) rfl (l' := #[.val (.int p0), .val (.int p1), .val (.int p2), .val (.int p3), .val (.long y0), .second, .val (.long y1), .second, .val (.long y2), .second, .val (.int nn), .unset, .unset, .unset]) rfl zk) ?_
  have dy0 := own_l2d sh0.1 (by have := sh0.2; omega)
  have dy1 := own_l2d sh1.1 (by have := sh1.2; omega)
  have dy2 := own_l2d sh2.1 (by have := sh2.2; omega)
  obtain ⟨T1, h1, X1, e1, E1, A1, D1, U1, st1⟩ := newO X0 hx hZ hown (hw _ (List.mem_of_getElem? (i := 0) rfl)) (hw _ (List.mem_of_getElem? (i := 1) rfl)) (hw _ (List.mem_of_getElem? (i := 2) rfl)) e0 (g := (mkF m 49 #[.val (.int p0), .val (.int p1), .val (.int p2), .val (.int p3), .val (.long y0), .second, .val (.long y1), .second, .val (.long y2), .second, .val (.int nn), .unset, .unset, .unset] [])) rfl (hb hby at_49) (by decide) (by decide)
  obtain ⟨b1, g1⟩ : ∃ z, z = h0.size := ⟨_, rfl⟩
  rw [← g1] at A1 D1 U1 st1
  have g_b1 : n0 ≤ b1 := Nat.le_trans Z0 (Nat.le_of_eq g1.symm)
  have F_sum_b1 : Fld Z h1 b1 "com/example/patient_surfer/patientsurfer/graph/CompensatedSum" "sum" "D" (.double (0 : UInt64)) := D1 (Or.inl (hw _ (List.mem_of_getElem? (i := 15) rfl))) (ty := .double) (by decide)
  have F_lost_b1 : Fld Z h1 b1 "com/example/patient_surfer/patientsurfer/graph/CompensatedSum" "lost" "D" (.double (0 : UInt64)) := D1 (Or.inl (hw _ (List.mem_of_getElem? (i := 17) rfl))) (ty := .double) (by decide)
  have Z1 : n0 ≤ h1.size := Nat.le_trans Z0 E1.1
  refine own_st (B := (T1.setTop (mkF m 52 #[.val (.int p0), .val (.int p1), .val (.int p2), .val (.int p3), .val (.long y0), .second, .val (.long y1), .second, .val (.long y2), .second, .val (.int nn), .unset, .unset, .unset] [(.ref b1)]))) st1 ?_
  refine own_st (B := (T1.setTop (mkF m 53 #[.val (.int p0), .val (.int p1), .val (.int p2), .val (.int p3), .val (.long y0), .second, .val (.long y1), .second, .val (.long y2), .second, .val (.int nn), .unset, .unset, .unset] [(.ref b1), (.ref b1)]))) (fun _ zk => XS.dup X1.here hx rfl (hb hby at_52) rfl rfl zk) ?_
  obtain ⟨v2, T2, L2, X2, Q2, st2⟩ := own_callN (W := 1) X1 hx hZ (y := (⟨"com/example/patient_surfer/patientsurfer/graph/CompensatedSum", "<init>", "()V"⟩ : MethodName)) rfl hown (hw _ (List.mem_of_getElem? (i := 3) rfl)) (hw _ (List.mem_of_getElem? (i := 4) rfl)) (hw _ (List.mem_of_getElem? (i := 2) rfl)) (hw _ (List.mem_of_getElem? (i := 5) rfl)) (by decide) e1 (rm_init l Z a0 hw [] b1 h1) (g := (mkF m 53 #[.val (.int p0), .val (.int p1), .val (.int p2), .val (.int p3), .val (.long y0), .second, .val (.long y1), .second, .val (.long y2), .second, .val (.int nn), .unset, .unset, .unset] [(.ref b1), (.ref b1)])) rfl (by rw [hml]; rfl) (a := b1) (argsL := []) (rest := [(.ref b1)]) (lenOf pd_3 rfl) rfl rfl (by show 2 * 0 + _ ≤ _; exact Nat.le_of_eq rfl) (hb hby at_53) (by decide) (by decide) (by decide) (by decide)
  obtain ⟨rfl, rfl, qe2⟩ := Q2
  refine own_st (B := (T2.setTop (mkF m 56 #[.val (.int p0), .val (.int p1), .val (.int p2), .val (.int p3), .val (.long y0), .second, .val (.long y1), .second, .val (.long y2), .second, .val (.int nn), .unset, .unset, .unset] [(.ref b1)]))) st2 ?_
  have N1 := Fr.app N0 (Fr.nil n0)
  have CC0 : own_Cs Z h1 b1 0 0 0 := ⟨_, _, A1, F_sum_b1, F_lost_b1, own_d0, own_rep_small (by decide), own_d0, rfl⟩
  have tt0 : (0 : Int64).toInt = 0 := by decide
  have bS0 : (0 : Int).natAbs ≤ 0 := by decide
  have zi0 : (0 : Int32).toInt = 0 := by decide
  have zi1 : (1 : Int32).toInt = 1 := by decide
  have zi2 : (2 : Int32).toInt = 2 := by decide
  have zi3 : (3 : Int32).toInt = 3 := by decide
  have bL0 : (0 : Int).natAbs ≤ 0 := by decide
  have s0 := sh0.2
  have s1 := sh1.2
  have s2 := sh2.2
  refine own_st (B := (T2.setTop (mkF m 58 #[.val (.int p0), .val (.int p1), .val (.int p2), .val (.int p3), .val (.long y0), .second, .val (.long y1), .second, .val (.long y2), .second, .val (.int nn), .val (.ref b1), .unset, .unset] []))) (fun _ zk => XS.astore X2.here hx rfl (hb hby at_56) rfl rfl (l' := #[.val (.int p0), .val (.int p1), .val (.int p2), .val (.int p3), .val (.long y0), .second, .val (.long y1), .second, .val (.long y2), .second, .val (.int nn), .val (.ref b1), .unset, .unset]) rfl zk) ?_
  refine own_st (B := (T2.setTop (mkF m 59 #[.val (.int p0), .val (.int p1), .val (.int p2), .val (.int p3), .val (.long y0), .second, .val (.long y1), .second, .val (.long y2), .second, .val (.int nn), .val (.ref b1), .unset, .unset] [(.long (0 : Int64))]))) (fun _ zk => XS.lconst X2.here hx rfl (hb hby at_58) zk) ?_
  refine own_st (B := (T2.setTop (mkF m 61 #[.val (.int p0), .val (.int p1), .val (.int p2), .val (.int p3), .val (.long y0), .second, .val (.long y1), .second, .val (.long y2), .second, .val (.int nn), .val (.ref b1), .val (.long (0 : Int64)), .second] []))) (fun _ zk => XS.lstore X2.here hx rfl (hb hby at_59) rfl (l' := #[.val (.int p0), .val (.int p1), .val (.int p2), .val (.int p3), .val (.long y0), .second, .val (.long y1), .second, .val (.long y2), .second, .val (.int nn), .val (.ref b1), .val (.long (0 : Int64)), .second]) rfl zk) ?_
  refine own_st (B := (T2.setTop (mkF m 63 #[.val (.int p0), .val (.int p1), .val (.int p2), .val (.int p3), .val (.long y0), .second, .val (.long y1), .second, .val (.long y2), .second, .val (.int nn), .val (.ref b1), .val (.long (0 : Int64)), .second] [(.int nn)]))) (fun _ zk => XS.iload X2.here hx rfl (hb hby at_61) rfl zk) ?_
  refine own_st (B := (T2.setTop (mkF m 64 #[.val (.int p0), .val (.int p1), .val (.int p2), .val (.int p3), .val (.long y0), .second, .val (.long y1), .second, .val (.long y2), .second, .val (.int nn), .val (.ref b1), .val (.long (0 : Int64)), .second] [(.int (1 : Int32)), (.int nn)]))) (fun _ zk => XS.iconst X2.here hx rfl (hb hby at_63) zk) ?_
  by_cases c0 : nn < (1 : Int32)
  · refine own_st (B := (T2.setTop (mkF m 82 #[.val (.int p0), .val (.int p1), .val (.int p2), .val (.int p3), .val (.long y0), .second, .val (.long y1), .second, .val (.long y2), .second, .val (.int nn), .val (.ref b1), .val (.long (0 : Int64)), .second] []))) (fun _ zk => XS.icmpYes X2.here hx rfl (pc0 := 64) (pc' := 82) rfl (hb hby at_64) rfl (tlt c0).1 (by decide) (by decide) zk) ?_
    have i_c0 : nn.toInt < 1 := own_tL c0
    refine own_st (B := (T2.setTop (mkF m 84 #[.val (.int p0), .val (.int p1), .val (.int p2), .val (.int p3), .val (.long y0), .second, .val (.long y1), .second, .val (.long y2), .second, .val (.int nn), .val (.ref b1), .val (.long (0 : Int64)), .second] [(.int nn)]))) (fun _ zk => XS.iload X2.here hx rfl (hb hby at_82) rfl zk) ?_
    refine own_st (B := (T2.setTop (mkF m 85 #[.val (.int p0), .val (.int p1), .val (.int p2), .val (.int p3), .val (.long y0), .second, .val (.long y1), .second, .val (.long y2), .second, .val (.int nn), .val (.ref b1), .val (.long (0 : Int64)), .second] [(.int (2 : Int32)), (.int nn)]))) (fun _ zk => XS.iconst X2.here hx rfl (hb hby at_84) zk) ?_
    refine own_st (B := (T2.setTop (mkF m 103 #[.val (.int p0), .val (.int p1), .val (.int p2), .val (.int p3), .val (.long y0), .second, .val (.long y1), .second, .val (.long y2), .second, .val (.int nn), .val (.ref b1), .val (.long (0 : Int64)), .second] []))) (fun _ zk => XS.icmpYes X2.here hx rfl (pc0 := 85) (pc' := 103) rfl (hb hby at_85) rfl (tlt (Int32.lt_iff_toInt_lt.mpr (by omega))).1 (by decide) (by decide) zk) ?_
    refine own_st (B := (T2.setTop (mkF m 105 #[.val (.int p0), .val (.int p1), .val (.int p2), .val (.int p3), .val (.long y0), .second, .val (.long y1), .second, .val (.long y2), .second, .val (.int nn), .val (.ref b1), .val (.long (0 : Int64)), .second] [(.int nn)]))) (fun _ zk => XS.iload X2.here hx rfl (hb hby at_103) rfl zk) ?_
    refine own_st (B := (T2.setTop (mkF m 106 #[.val (.int p0), .val (.int p1), .val (.int p2), .val (.int p3), .val (.long y0), .second, .val (.long y1), .second, .val (.long y2), .second, .val (.int nn), .val (.ref b1), .val (.long (0 : Int64)), .second] [(.int (3 : Int32)), (.int nn)]))) (fun _ zk => XS.iconst X2.here hx rfl (hb hby at_105) zk) ?_
    refine own_st (B := (T2.setTop (mkF m 124 #[.val (.int p0), .val (.int p1), .val (.int p2), .val (.int p3), .val (.long y0), .second, .val (.long y1), .second, .val (.long y2), .second, .val (.int nn), .val (.ref b1), .val (.long (0 : Int64)), .second] []))) (fun _ zk => XS.icmpYes X2.here hx rfl (pc0 := 106) (pc' := 124) rfl (hb hby at_106) rfl (tlt (Int32.lt_iff_toInt_lt.mpr (by omega))).1 (by decide) (by decide) zk) ?_
    refine own_st (B := (T2.setTop (mkF m 126 #[.val (.int p0), .val (.int p1), .val (.int p2), .val (.int p3), .val (.long y0), .second, .val (.long y1), .second, .val (.long y2), .second, .val (.int nn), .val (.ref b1), .val (.long (0 : Int64)), .second] [(.ref b1)]))) (fun _ zk => XS.aload X2.here hx rfl (hb hby at_124) rfl rfl zk) ?_
    obtain ⟨us, ul, EXv, F1, F2, hS, rS, hL, hSL⟩ := CC0
    have hdv := own_dadd hS hL (by omega)
    obtain ⟨zV, hV1, -⟩ := hdv
    obtain ⟨v3, T3, L3, X3, Q3, st3⟩ := own_callV (W := 0) X2 hx hZ (y := (⟨"com/example/patient_surfer/patientsurfer/graph/CompensatedSum", "value", "()D"⟩ : MethodName)) (z := (⟨"com/example/patient_surfer/patientsurfer/graph/CompensatedSum", "value", "()D"⟩ : MethodName)) hown (hw _ (List.mem_of_getElem? (i := 9) rfl)) (hw _ (List.mem_of_getElem? (i := 10) rfl)) (notFace_of_selects (args := #[]) (mvT hZ (hw _ (List.mem_of_getElem? (i := 12) rfl)))) (hw _ (List.mem_of_getElem? (i := 12) rfl)) (hw _ (List.mem_of_getElem? (i := 11) rfl)) (hw _ (List.mem_of_getElem? (i := 2) rfl)) (hw _ (List.mem_of_getElem? (i := 13) rfl)) (by decide) qe2 (rm_val l Z a0 hw [] b1 us ul h1 F1 F2 (own_nn hS) (own_dfin hS) (own_nn hV1)) EXv (g := (mkF m 126 #[.val (.int p0), .val (.int p1), .val (.int p2), .val (.int p3), .val (.long y0), .second, .val (.long y1), .second, .val (.long y2), .second, .val (.int nn), .val (.ref b1), .val (.long (0 : Int64)), .second] [(.ref b1)])) rfl (by rw [hml]; rfl) (argsL := []) (rest := []) (lenOf pd_4 rfl) rfl rfl (by show 2 * 0 + _ ≤ _; exact Nat.le_of_eq rfl) (hb hby at_126) (by decide) (by decide) (by decide) (by decide)
    obtain ⟨rfl, rfl, qe3⟩ := Q3
    refine own_st (B := (T3.setTop (mkF m 129 #[.val (.int p0), .val (.int p1), .val (.int p2), .val (.int p3), .val (.long y0), .second, .val (.long y1), .second, .val (.long y2), .second, .val (.int nn), .val (.ref b1), .val (.long (0 : Int64)), .second] [(.double (FP.dadd us ul))]))) st3 ?_
    refine own_st (B := (T3.setTop (mkF m 131 #[.val (.int p0), .val (.int p1), .val (.int p2), .val (.int p3), .val (.long y0), .second, .val (.long y1), .second, .val (.long y2), .second, .val (.int nn), .val (.ref b1), .val (.long (0 : Int64)), .second] [(.long (0 : Int64)), (.double (FP.dadd us ul))]))) (fun _ zk => XS.lload X3.here hx rfl (hb hby at_129) rfl zk) ?_
    refine own_st (B := (T3.setTop (mkF m 132 #[.val (.int p0), .val (.int p1), .val (.int p2), .val (.int p3), .val (.long y0), .second, .val (.long y1), .second, .val (.long y2), .second, .val (.int nn), .val (.ref b1), .val (.long (0 : Int64)), .second] [(.double (FP.l2d (0 : Int64))), (.double (FP.dadd us ul))]))) (fun _ zk => XS.l2dS X3.here hx rfl (hb hby at_131) rfl rfl zk) ?_
    have hcmp : cmpValue (FP.dcmp (FP.dadd us ul) (FP.l2d (0 : Int64))) .l = 0 := by
      rw [show FP.dcmp (FP.dadd us ul) (FP.l2d (0 : Int64)) = some .eq from own_last hS hL (by rw [hSL]; exact tt0)]
      rfl
    refine own_st (B := (T3.setTop (mkF m 133 #[.val (.int p0), .val (.int p1), .val (.int p2), .val (.int p3), .val (.long y0), .second, .val (.long y1), .second, .val (.long y2), .second, .val (.int nn), .val (.ref b1), .val (.long (0 : Int64)), .second] [(.int (0 : Int32))]))) (fun _ zk => XS.dcmpS X3.here hx rfl (hb hby at_132) rfl hcmp zk) ?_
    refine own_st (B := (T3.setTop (mkF m 136 #[.val (.int p0), .val (.int p1), .val (.int p2), .val (.int p3), .val (.long y0), .second, .val (.long y1), .second, .val (.long y2), .second, .val (.int nn), .val (.ref b1), .val (.long (0 : Int64)), .second] []))) (fun _ zk => XS.ifNo X3.here hx rfl (hb hby at_133) rfl ((if0 _ _).trans (teq (by decide)).2) zk) ?_
    refine own_st (B := (T3.setTop (mkF m 137 #[.val (.int p0), .val (.int p1), .val (.int p2), .val (.int p3), .val (.long y0), .second, .val (.long y1), .second, .val (.long y2), .second, .val (.int nn), .val (.ref b1), .val (.long (0 : Int64)), .second] [(.int (1 : Int32))]))) (fun _ zk => XS.iconst X3.here hx rfl (hb hby at_136) zk) ?_
    refine own_st (B := (T3.setTop (mkF m 141 #[.val (.int p0), .val (.int p1), .val (.int p2), .val (.int p3), .val (.long y0), .second, .val (.long y1), .second, .val (.long y2), .second, .val (.int nn), .val (.ref b1), .val (.long (0 : Int64)), .second] [(.int (1 : Int32))]))) (fun _ zk => XS.goto X3.here hx rfl (pc0 := 137) (pc' := 141) rfl (hb hby at_137) (by decide) (by decide) zk) ?_
    exact own_retN X3 hx hlk (t := .boolean) hret (by simp) (hb hby at_141) (by show own_Q0 n0 _ T3.heap _; rw [qe3]; exact ⟨rfl, by simpa using N1⟩) (by decide) (by decide)
  · refine own_st (B := (T2.setTop (mkF m 67 #[.val (.int p0), .val (.int p1), .val (.int p2), .val (.int p3), .val (.long y0), .second, .val (.long y1), .second, .val (.long y2), .second, .val (.int nn), .val (.ref b1), .val (.long (0 : Int64)), .second] []))) (fun _ zk => XS.icmpNo X2.here hx rfl (hb hby at_64) rfl (flt c0).1 zk) ?_
    refine own_st (B := (T2.setTop (mkF m 69 #[.val (.int p0), .val (.int p1), .val (.int p2), .val (.int p3), .val (.long y0), .second, .val (.long y1), .second, .val (.long y2), .second, .val (.int nn), .val (.ref b1), .val (.long (0 : Int64)), .second] [(.ref b1)]))) (fun _ zk => XS.aload X2.here hx rfl (hb hby at_67) rfl rfl zk) ?_
    refine own_st (B := (T2.setTop (mkF m 71 #[.val (.int p0), .val (.int p1), .val (.int p2), .val (.int p3), .val (.long y0), .second, .val (.long y1), .second, .val (.long y2), .second, .val (.int nn), .val (.ref b1), .val (.long (0 : Int64)), .second] [(.long y0), (.ref b1)]))) (fun _ zk => XS.lload X2.here hx rfl (hb hby at_69) rfl zk) ?_
    refine own_st (B := (T2.setTop (mkF m 72 #[.val (.int p0), .val (.int p1), .val (.int p2), .val (.int p3), .val (.long y0), .second, .val (.long y1), .second, .val (.long y2), .second, .val (.int nn), .val (.ref b1), .val (.long (0 : Int64)), .second] [(.double (FP.l2d y0)), (.ref b1)]))) (fun _ zk => XS.l2dS X2.here hx rfl (hb hby at_71) rfl rfl zk) ?_
    obtain ⟨v4, T4, L4, X4, Q4, st4⟩ := own_callV (W := 0) X2 hx hZ (y := (⟨"com/example/patient_surfer/patientsurfer/graph/CompensatedSum", "add", "(D)V"⟩ : MethodName)) (z := (⟨"com/example/patient_surfer/patientsurfer/graph/CompensatedSum", "add", "(D)V"⟩ : MethodName)) hown (hw _ (List.mem_of_getElem? (i := 30) rfl)) (hw _ (List.mem_of_getElem? (i := 31) rfl)) (notFace_of_selects (args := #[]) (mvT hZ (hw _ (List.mem_of_getElem? (i := 33) rfl)))) (hw _ (List.mem_of_getElem? (i := 33) rfl)) (hw _ (List.mem_of_getElem? (i := 32) rfl)) (hw _ (List.mem_of_getElem? (i := 2) rfl)) (hw _ (List.mem_of_getElem? (i := 34) rfl)) (by decide) qe2 (rm_add l Z a0 hw [] b1 (FP.l2d y0) _ _ _ _ h1 n0 Z1 g_b1 CC0 (by omega) (by omega) dy0 sh0.1 sh0.2) (own_Cs_exa CC0) (g := (mkF m 72 #[.val (.int p0), .val (.int p1), .val (.int p2), .val (.int p3), .val (.long y0), .second, .val (.long y1), .second, .val (.long y2), .second, .val (.int nn), .val (.ref b1), .val (.long (0 : Int64)), .second] [(.double (FP.l2d y0)), (.ref b1)])) rfl (by rw [hml]; rfl) (argsL := [(.double (FP.l2d y0))]) (rest := []) (lenOf pd_5 rfl) rfl rfl (by show 2 * 0 + _ ≤ _; exact Nat.le_of_eq rfl) (hb hby at_72) (by decide) (by decide) (by decide) (by decide)
    obtain ⟨rfl, N4q, S1, Lo1, CC1, bS1, bL1⟩ := Q4
    refine own_st (B := (T4.setTop (mkF m 75 #[.val (.int p0), .val (.int p1), .val (.int p2), .val (.int p3), .val (.long y0), .second, .val (.long y1), .second, .val (.long y2), .second, .val (.int nn), .val (.ref b1), .val (.long (0 : Int64)), .second] []))) st4 ?_
    have N4 := Fr.app N1 N4q
    refine own_st (B := (T4.setTop (mkF m 77 #[.val (.int p0), .val (.int p1), .val (.int p2), .val (.int p3), .val (.long y0), .second, .val (.long y1), .second, .val (.long y2), .second, .val (.int nn), .val (.ref b1), .val (.long (0 : Int64)), .second] [(.long (0 : Int64))]))) (fun _ zk => XS.lload X4.here hx rfl (hb hby at_75) rfl zk) ?_
    refine own_st (B := (T4.setTop (mkF m 79 #[.val (.int p0), .val (.int p1), .val (.int p2), .val (.int p3), .val (.long y0), .second, .val (.long y1), .second, .val (.long y2), .second, .val (.int nn), .val (.ref b1), .val (.long (0 : Int64)), .second] [(.long y0), (.long (0 : Int64))]))) (fun _ zk => XS.lload X4.here hx rfl (hb hby at_77) rfl zk) ?_
    refine own_st (B := (T4.setTop (mkF m 80 #[.val (.int p0), .val (.int p1), .val (.int p2), .val (.int p3), .val (.long y0), .second, .val (.long y1), .second, .val (.long y2), .second, .val (.int nn), .val (.ref b1), .val (.long (0 : Int64)), .second] [(.long ((0 : Int64) + y0))]))) (fun _ zk => XS.ladd X4.here hx rfl (hb hby at_79) rfl zk) ?_
    have tt1 : ((0 : Int64) + y0).toInt = 0 + y0.toInt := by
      rw [FP.Core.int64_add (by omega) (by omega), tt0]
    have ZZ1 : n0 ≤ T4.heap.size := Nat.le_trans (Nat.le_of_lt (Nat.lt_of_le_of_lt g_b1 (own_Cs_lt CC1))) (Nat.le_refl _)
    refine own_st (B := (T4.setTop (mkF m 82 #[.val (.int p0), .val (.int p1), .val (.int p2), .val (.int p3), .val (.long y0), .second, .val (.long y1), .second, .val (.long y2), .second, .val (.int nn), .val (.ref b1), .val (.long ((0 : Int64) + y0)), .second] []))) (fun _ zk => XS.lstore X4.here hx rfl (hb hby at_80) rfl (l' := #[.val (.int p0), .val (.int p1), .val (.int p2), .val (.int p3), .val (.long y0), .second, .val (.long y1), .second, .val (.long y2), .second, .val (.int nn), .val (.ref b1), .val (.long ((0 : Int64) + y0)), .second]) rfl zk) ?_
    refine own_st (B := (T4.setTop (mkF m 84 #[.val (.int p0), .val (.int p1), .val (.int p2), .val (.int p3), .val (.long y0), .second, .val (.long y1), .second, .val (.long y2), .second, .val (.int nn), .val (.ref b1), .val (.long ((0 : Int64) + y0)), .second] [(.int nn)]))) (fun _ zk => XS.iload X4.here hx rfl (hb hby at_82) rfl zk) ?_
    refine own_st (B := (T4.setTop (mkF m 85 #[.val (.int p0), .val (.int p1), .val (.int p2), .val (.int p3), .val (.long y0), .second, .val (.long y1), .second, .val (.long y2), .second, .val (.int nn), .val (.ref b1), .val (.long ((0 : Int64) + y0)), .second] [(.int (2 : Int32)), (.int nn)]))) (fun _ zk => XS.iconst X4.here hx rfl (hb hby at_84) zk) ?_
    by_cases c1 : nn < (2 : Int32)
    · refine own_st (B := (T4.setTop (mkF m 103 #[.val (.int p0), .val (.int p1), .val (.int p2), .val (.int p3), .val (.long y0), .second, .val (.long y1), .second, .val (.long y2), .second, .val (.int nn), .val (.ref b1), .val (.long ((0 : Int64) + y0)), .second] []))) (fun _ zk => XS.icmpYes X4.here hx rfl (pc0 := 85) (pc' := 103) rfl (hb hby at_85) rfl (tlt c1).1 (by decide) (by decide) zk) ?_
      have i_c0 : ¬ nn.toInt < 1 := own_tLn c0
      have i_c1 : nn.toInt < 2 := own_tL c1
      refine own_st (B := (T4.setTop (mkF m 105 #[.val (.int p0), .val (.int p1), .val (.int p2), .val (.int p3), .val (.long y0), .second, .val (.long y1), .second, .val (.long y2), .second, .val (.int nn), .val (.ref b1), .val (.long ((0 : Int64) + y0)), .second] [(.int nn)]))) (fun _ zk => XS.iload X4.here hx rfl (hb hby at_103) rfl zk) ?_
      refine own_st (B := (T4.setTop (mkF m 106 #[.val (.int p0), .val (.int p1), .val (.int p2), .val (.int p3), .val (.long y0), .second, .val (.long y1), .second, .val (.long y2), .second, .val (.int nn), .val (.ref b1), .val (.long ((0 : Int64) + y0)), .second] [(.int (3 : Int32)), (.int nn)]))) (fun _ zk => XS.iconst X4.here hx rfl (hb hby at_105) zk) ?_
      refine own_st (B := (T4.setTop (mkF m 124 #[.val (.int p0), .val (.int p1), .val (.int p2), .val (.int p3), .val (.long y0), .second, .val (.long y1), .second, .val (.long y2), .second, .val (.int nn), .val (.ref b1), .val (.long ((0 : Int64) + y0)), .second] []))) (fun _ zk => XS.icmpYes X4.here hx rfl (pc0 := 106) (pc' := 124) rfl (hb hby at_106) rfl (tlt (Int32.lt_iff_toInt_lt.mpr (by omega))).1 (by decide) (by decide) zk) ?_
      refine own_st (B := (T4.setTop (mkF m 126 #[.val (.int p0), .val (.int p1), .val (.int p2), .val (.int p3), .val (.long y0), .second, .val (.long y1), .second, .val (.long y2), .second, .val (.int nn), .val (.ref b1), .val (.long ((0 : Int64) + y0)), .second] [(.ref b1)]))) (fun _ zk => XS.aload X4.here hx rfl (hb hby at_124) rfl rfl zk) ?_
      obtain ⟨us, ul, EXv, F1, F2, hS, rS, hL, hSL⟩ := CC1
      have hdv := own_dadd hS hL (by omega)
      obtain ⟨zV, hV1, -⟩ := hdv
      obtain ⟨v5, T5, L5, X5, Q5, st5⟩ := own_callV (W := 0) X4 hx hZ (y := (⟨"com/example/patient_surfer/patientsurfer/graph/CompensatedSum", "value", "()D"⟩ : MethodName)) (z := (⟨"com/example/patient_surfer/patientsurfer/graph/CompensatedSum", "value", "()D"⟩ : MethodName)) hown (hw _ (List.mem_of_getElem? (i := 9) rfl)) (hw _ (List.mem_of_getElem? (i := 10) rfl)) (notFace_of_selects (args := #[]) (mvT hZ (hw _ (List.mem_of_getElem? (i := 12) rfl)))) (hw _ (List.mem_of_getElem? (i := 12) rfl)) (hw _ (List.mem_of_getElem? (i := 11) rfl)) (hw _ (List.mem_of_getElem? (i := 2) rfl)) (hw _ (List.mem_of_getElem? (i := 13) rfl)) (by decide) rfl (rm_val l Z a0 hw [] b1 us ul T4.heap F1 F2 (own_nn hS) (own_dfin hS) (own_nn hV1)) EXv (g := (mkF m 126 #[.val (.int p0), .val (.int p1), .val (.int p2), .val (.int p3), .val (.long y0), .second, .val (.long y1), .second, .val (.long y2), .second, .val (.int nn), .val (.ref b1), .val (.long ((0 : Int64) + y0)), .second] [(.ref b1)])) rfl (by rw [hml]; rfl) (argsL := []) (rest := []) (lenOf pd_4 rfl) rfl rfl (by show 2 * 0 + _ ≤ _; exact Nat.le_of_eq rfl) (hb hby at_126) (by decide) (by decide) (by decide) (by decide)
      obtain ⟨rfl, rfl, qe5⟩ := Q5
      refine own_st (B := (T5.setTop (mkF m 129 #[.val (.int p0), .val (.int p1), .val (.int p2), .val (.int p3), .val (.long y0), .second, .val (.long y1), .second, .val (.long y2), .second, .val (.int nn), .val (.ref b1), .val (.long ((0 : Int64) + y0)), .second] [(.double (FP.dadd us ul))]))) st5 ?_
      refine own_st (B := (T5.setTop (mkF m 131 #[.val (.int p0), .val (.int p1), .val (.int p2), .val (.int p3), .val (.long y0), .second, .val (.long y1), .second, .val (.long y2), .second, .val (.int nn), .val (.ref b1), .val (.long ((0 : Int64) + y0)), .second] [(.long ((0 : Int64) + y0)), (.double (FP.dadd us ul))]))) (fun _ zk => XS.lload X5.here hx rfl (hb hby at_129) rfl zk) ?_
      refine own_st (B := (T5.setTop (mkF m 132 #[.val (.int p0), .val (.int p1), .val (.int p2), .val (.int p3), .val (.long y0), .second, .val (.long y1), .second, .val (.long y2), .second, .val (.int nn), .val (.ref b1), .val (.long ((0 : Int64) + y0)), .second] [(.double (FP.l2d ((0 : Int64) + y0))), (.double (FP.dadd us ul))]))) (fun _ zk => XS.l2dS X5.here hx rfl (hb hby at_131) rfl rfl zk) ?_
      have hcmp : cmpValue (FP.dcmp (FP.dadd us ul) (FP.l2d ((0 : Int64) + y0))) .l = 0 := by
        rw [show FP.dcmp (FP.dadd us ul) (FP.l2d ((0 : Int64) + y0)) = some .eq from own_last hS hL (by rw [hSL]; exact tt1)]
        rfl
      refine own_st (B := (T5.setTop (mkF m 133 #[.val (.int p0), .val (.int p1), .val (.int p2), .val (.int p3), .val (.long y0), .second, .val (.long y1), .second, .val (.long y2), .second, .val (.int nn), .val (.ref b1), .val (.long ((0 : Int64) + y0)), .second] [(.int (0 : Int32))]))) (fun _ zk => XS.dcmpS X5.here hx rfl (hb hby at_132) rfl hcmp zk) ?_
      refine own_st (B := (T5.setTop (mkF m 136 #[.val (.int p0), .val (.int p1), .val (.int p2), .val (.int p3), .val (.long y0), .second, .val (.long y1), .second, .val (.long y2), .second, .val (.int nn), .val (.ref b1), .val (.long ((0 : Int64) + y0)), .second] []))) (fun _ zk => XS.ifNo X5.here hx rfl (hb hby at_133) rfl ((if0 _ _).trans (teq (by decide)).2) zk) ?_
      refine own_st (B := (T5.setTop (mkF m 137 #[.val (.int p0), .val (.int p1), .val (.int p2), .val (.int p3), .val (.long y0), .second, .val (.long y1), .second, .val (.long y2), .second, .val (.int nn), .val (.ref b1), .val (.long ((0 : Int64) + y0)), .second] [(.int (1 : Int32))]))) (fun _ zk => XS.iconst X5.here hx rfl (hb hby at_136) zk) ?_
      refine own_st (B := (T5.setTop (mkF m 141 #[.val (.int p0), .val (.int p1), .val (.int p2), .val (.int p3), .val (.long y0), .second, .val (.long y1), .second, .val (.long y2), .second, .val (.int nn), .val (.ref b1), .val (.long ((0 : Int64) + y0)), .second] [(.int (1 : Int32))]))) (fun _ zk => XS.goto X5.here hx rfl (pc0 := 137) (pc' := 141) rfl (hb hby at_137) (by decide) (by decide) zk) ?_
      exact own_retN X5 hx hlk (t := .boolean) hret (by simp) (hb hby at_141) (by show own_Q0 n0 _ T5.heap _; rw [qe5]; exact ⟨rfl, by simpa using N4⟩) (by decide) (by decide)
    · refine own_st (B := (T4.setTop (mkF m 88 #[.val (.int p0), .val (.int p1), .val (.int p2), .val (.int p3), .val (.long y0), .second, .val (.long y1), .second, .val (.long y2), .second, .val (.int nn), .val (.ref b1), .val (.long ((0 : Int64) + y0)), .second] []))) (fun _ zk => XS.icmpNo X4.here hx rfl (hb hby at_85) rfl (flt c1).1 zk) ?_
      refine own_st (B := (T4.setTop (mkF m 90 #[.val (.int p0), .val (.int p1), .val (.int p2), .val (.int p3), .val (.long y0), .second, .val (.long y1), .second, .val (.long y2), .second, .val (.int nn), .val (.ref b1), .val (.long ((0 : Int64) + y0)), .second] [(.ref b1)]))) (fun _ zk => XS.aload X4.here hx rfl (hb hby at_88) rfl rfl zk) ?_
      refine own_st (B := (T4.setTop (mkF m 92 #[.val (.int p0), .val (.int p1), .val (.int p2), .val (.int p3), .val (.long y0), .second, .val (.long y1), .second, .val (.long y2), .second, .val (.int nn), .val (.ref b1), .val (.long ((0 : Int64) + y0)), .second] [(.long y1), (.ref b1)]))) (fun _ zk => XS.lload X4.here hx rfl (hb hby at_90) rfl zk) ?_
      refine own_st (B := (T4.setTop (mkF m 93 #[.val (.int p0), .val (.int p1), .val (.int p2), .val (.int p3), .val (.long y0), .second, .val (.long y1), .second, .val (.long y2), .second, .val (.int nn), .val (.ref b1), .val (.long ((0 : Int64) + y0)), .second] [(.double (FP.l2d y1)), (.ref b1)]))) (fun _ zk => XS.l2dS X4.here hx rfl (hb hby at_92) rfl rfl zk) ?_
      obtain ⟨v6, T6, L6, X6, Q6, st6⟩ := own_callV (W := 0) X4 hx hZ (y := (⟨"com/example/patient_surfer/patientsurfer/graph/CompensatedSum", "add", "(D)V"⟩ : MethodName)) (z := (⟨"com/example/patient_surfer/patientsurfer/graph/CompensatedSum", "add", "(D)V"⟩ : MethodName)) hown (hw _ (List.mem_of_getElem? (i := 30) rfl)) (hw _ (List.mem_of_getElem? (i := 31) rfl)) (notFace_of_selects (args := #[]) (mvT hZ (hw _ (List.mem_of_getElem? (i := 33) rfl)))) (hw _ (List.mem_of_getElem? (i := 33) rfl)) (hw _ (List.mem_of_getElem? (i := 32) rfl)) (hw _ (List.mem_of_getElem? (i := 2) rfl)) (hw _ (List.mem_of_getElem? (i := 34) rfl)) (by decide) rfl (rm_add l Z a0 hw [] b1 (FP.l2d y1) _ _ _ _ T4.heap n0 ZZ1 g_b1 CC1 (by omega) (by omega) dy1 sh1.1 sh1.2) (own_Cs_exa CC1) (g := (mkF m 93 #[.val (.int p0), .val (.int p1), .val (.int p2), .val (.int p3), .val (.long y0), .second, .val (.long y1), .second, .val (.long y2), .second, .val (.int nn), .val (.ref b1), .val (.long ((0 : Int64) + y0)), .second] [(.double (FP.l2d y1)), (.ref b1)])) rfl (by rw [hml]; rfl) (argsL := [(.double (FP.l2d y1))]) (rest := []) (lenOf pd_5 rfl) rfl rfl (by show 2 * 0 + _ ≤ _; exact Nat.le_of_eq rfl) (hb hby at_93) (by decide) (by decide) (by decide) (by decide)
      obtain ⟨rfl, N6q, S2, Lo2, CC2, bS2, bL2⟩ := Q6
      refine own_st (B := (T6.setTop (mkF m 96 #[.val (.int p0), .val (.int p1), .val (.int p2), .val (.int p3), .val (.long y0), .second, .val (.long y1), .second, .val (.long y2), .second, .val (.int nn), .val (.ref b1), .val (.long ((0 : Int64) + y0)), .second] []))) st6 ?_
      have N6 := Fr.app N4 N6q
      refine own_st (B := (T6.setTop (mkF m 98 #[.val (.int p0), .val (.int p1), .val (.int p2), .val (.int p3), .val (.long y0), .second, .val (.long y1), .second, .val (.long y2), .second, .val (.int nn), .val (.ref b1), .val (.long ((0 : Int64) + y0)), .second] [(.long ((0 : Int64) + y0))]))) (fun _ zk => XS.lload X6.here hx rfl (hb hby at_96) rfl zk) ?_
      refine own_st (B := (T6.setTop (mkF m 100 #[.val (.int p0), .val (.int p1), .val (.int p2), .val (.int p3), .val (.long y0), .second, .val (.long y1), .second, .val (.long y2), .second, .val (.int nn), .val (.ref b1), .val (.long ((0 : Int64) + y0)), .second] [(.long y1), (.long ((0 : Int64) + y0))]))) (fun _ zk => XS.lload X6.here hx rfl (hb hby at_98) rfl zk) ?_
      refine own_st (B := (T6.setTop (mkF m 101 #[.val (.int p0), .val (.int p1), .val (.int p2), .val (.int p3), .val (.long y0), .second, .val (.long y1), .second, .val (.long y2), .second, .val (.int nn), .val (.ref b1), .val (.long ((0 : Int64) + y0)), .second] [(.long (((0 : Int64) + y0) + y1))]))) (fun _ zk => XS.ladd X6.here hx rfl (hb hby at_100) rfl zk) ?_
      have tt2 : (((0 : Int64) + y0) + y1).toInt = 0 + y0.toInt + y1.toInt := by
        rw [FP.Core.int64_add (by omega) (by omega), tt1]
      have ZZ2 : n0 ≤ T6.heap.size := Nat.le_trans (Nat.le_of_lt (Nat.lt_of_le_of_lt g_b1 (own_Cs_lt CC2))) (Nat.le_refl _)
      refine own_st (B := (T6.setTop (mkF m 103 #[.val (.int p0), .val (.int p1), .val (.int p2), .val (.int p3), .val (.long y0), .second, .val (.long y1), .second, .val (.long y2), .second, .val (.int nn), .val (.ref b1), .val (.long (((0 : Int64) + y0) + y1)), .second] []))) (fun _ zk => XS.lstore X6.here hx rfl (hb hby at_101) rfl (l' := #[.val (.int p0), .val (.int p1), .val (.int p2), .val (.int p3), .val (.long y0), .second, .val (.long y1), .second, .val (.long y2), .second, .val (.int nn), .val (.ref b1), .val (.long (((0 : Int64) + y0) + y1)), .second]) rfl zk) ?_
      refine own_st (B := (T6.setTop (mkF m 105 #[.val (.int p0), .val (.int p1), .val (.int p2), .val (.int p3), .val (.long y0), .second, .val (.long y1), .second, .val (.long y2), .second, .val (.int nn), .val (.ref b1), .val (.long (((0 : Int64) + y0) + y1)), .second] [(.int nn)]))) (fun _ zk => XS.iload X6.here hx rfl (hb hby at_103) rfl zk) ?_
      refine own_st (B := (T6.setTop (mkF m 106 #[.val (.int p0), .val (.int p1), .val (.int p2), .val (.int p3), .val (.long y0), .second, .val (.long y1), .second, .val (.long y2), .second, .val (.int nn), .val (.ref b1), .val (.long (((0 : Int64) + y0) + y1)), .second] [(.int (3 : Int32)), (.int nn)]))) (fun _ zk => XS.iconst X6.here hx rfl (hb hby at_105) zk) ?_
      by_cases c2 : nn < (3 : Int32)
      · refine own_st (B := (T6.setTop (mkF m 124 #[.val (.int p0), .val (.int p1), .val (.int p2), .val (.int p3), .val (.long y0), .second, .val (.long y1), .second, .val (.long y2), .second, .val (.int nn), .val (.ref b1), .val (.long (((0 : Int64) + y0) + y1)), .second] []))) (fun _ zk => XS.icmpYes X6.here hx rfl (pc0 := 106) (pc' := 124) rfl (hb hby at_106) rfl (tlt c2).1 (by decide) (by decide) zk) ?_
        have i_c0 : ¬ nn.toInt < 1 := own_tLn c0
        have i_c1 : ¬ nn.toInt < 2 := own_tLn c1
        have i_c2 : nn.toInt < 3 := own_tL c2
        refine own_st (B := (T6.setTop (mkF m 126 #[.val (.int p0), .val (.int p1), .val (.int p2), .val (.int p3), .val (.long y0), .second, .val (.long y1), .second, .val (.long y2), .second, .val (.int nn), .val (.ref b1), .val (.long (((0 : Int64) + y0) + y1)), .second] [(.ref b1)]))) (fun _ zk => XS.aload X6.here hx rfl (hb hby at_124) rfl rfl zk) ?_
        obtain ⟨us, ul, EXv, F1, F2, hS, rS, hL, hSL⟩ := CC2
        have hdv := own_dadd hS hL (by omega)
        obtain ⟨zV, hV1, -⟩ := hdv
        obtain ⟨v7, T7, L7, X7, Q7, st7⟩ := own_callV (W := 0) X6 hx hZ (y := (⟨"com/example/patient_surfer/patientsurfer/graph/CompensatedSum", "value", "()D"⟩ : MethodName)) (z := (⟨"com/example/patient_surfer/patientsurfer/graph/CompensatedSum", "value", "()D"⟩ : MethodName)) hown (hw _ (List.mem_of_getElem? (i := 9) rfl)) (hw _ (List.mem_of_getElem? (i := 10) rfl)) (notFace_of_selects (args := #[]) (mvT hZ (hw _ (List.mem_of_getElem? (i := 12) rfl)))) (hw _ (List.mem_of_getElem? (i := 12) rfl)) (hw _ (List.mem_of_getElem? (i := 11) rfl)) (hw _ (List.mem_of_getElem? (i := 2) rfl)) (hw _ (List.mem_of_getElem? (i := 13) rfl)) (by decide) rfl (rm_val l Z a0 hw [] b1 us ul T6.heap F1 F2 (own_nn hS) (own_dfin hS) (own_nn hV1)) EXv (g := (mkF m 126 #[.val (.int p0), .val (.int p1), .val (.int p2), .val (.int p3), .val (.long y0), .second, .val (.long y1), .second, .val (.long y2), .second, .val (.int nn), .val (.ref b1), .val (.long (((0 : Int64) + y0) + y1)), .second] [(.ref b1)])) rfl (by rw [hml]; rfl) (argsL := []) (rest := []) (lenOf pd_4 rfl) rfl rfl (by show 2 * 0 + _ ≤ _; exact Nat.le_of_eq rfl) (hb hby at_126) (by decide) (by decide) (by decide) (by decide)
        obtain ⟨rfl, rfl, qe7⟩ := Q7
        refine own_st (B := (T7.setTop (mkF m 129 #[.val (.int p0), .val (.int p1), .val (.int p2), .val (.int p3), .val (.long y0), .second, .val (.long y1), .second, .val (.long y2), .second, .val (.int nn), .val (.ref b1), .val (.long (((0 : Int64) + y0) + y1)), .second] [(.double (FP.dadd us ul))]))) st7 ?_
        refine own_st (B := (T7.setTop (mkF m 131 #[.val (.int p0), .val (.int p1), .val (.int p2), .val (.int p3), .val (.long y0), .second, .val (.long y1), .second, .val (.long y2), .second, .val (.int nn), .val (.ref b1), .val (.long (((0 : Int64) + y0) + y1)), .second] [(.long (((0 : Int64) + y0) + y1)), (.double (FP.dadd us ul))]))) (fun _ zk => XS.lload X7.here hx rfl (hb hby at_129) rfl zk) ?_
        refine own_st (B := (T7.setTop (mkF m 132 #[.val (.int p0), .val (.int p1), .val (.int p2), .val (.int p3), .val (.long y0), .second, .val (.long y1), .second, .val (.long y2), .second, .val (.int nn), .val (.ref b1), .val (.long (((0 : Int64) + y0) + y1)), .second] [(.double (FP.l2d (((0 : Int64) + y0) + y1))), (.double (FP.dadd us ul))]))) (fun _ zk => XS.l2dS X7.here hx rfl (hb hby at_131) rfl rfl zk) ?_
        have hcmp : cmpValue (FP.dcmp (FP.dadd us ul) (FP.l2d (((0 : Int64) + y0) + y1))) .l = 0 := by
          rw [show FP.dcmp (FP.dadd us ul) (FP.l2d (((0 : Int64) + y0) + y1)) = some .eq from own_last hS hL (by rw [hSL]; exact tt2)]
          rfl
        refine own_st (B := (T7.setTop (mkF m 133 #[.val (.int p0), .val (.int p1), .val (.int p2), .val (.int p3), .val (.long y0), .second, .val (.long y1), .second, .val (.long y2), .second, .val (.int nn), .val (.ref b1), .val (.long (((0 : Int64) + y0) + y1)), .second] [(.int (0 : Int32))]))) (fun _ zk => XS.dcmpS X7.here hx rfl (hb hby at_132) rfl hcmp zk) ?_
        refine own_st (B := (T7.setTop (mkF m 136 #[.val (.int p0), .val (.int p1), .val (.int p2), .val (.int p3), .val (.long y0), .second, .val (.long y1), .second, .val (.long y2), .second, .val (.int nn), .val (.ref b1), .val (.long (((0 : Int64) + y0) + y1)), .second] []))) (fun _ zk => XS.ifNo X7.here hx rfl (hb hby at_133) rfl ((if0 _ _).trans (teq (by decide)).2) zk) ?_
        refine own_st (B := (T7.setTop (mkF m 137 #[.val (.int p0), .val (.int p1), .val (.int p2), .val (.int p3), .val (.long y0), .second, .val (.long y1), .second, .val (.long y2), .second, .val (.int nn), .val (.ref b1), .val (.long (((0 : Int64) + y0) + y1)), .second] [(.int (1 : Int32))]))) (fun _ zk => XS.iconst X7.here hx rfl (hb hby at_136) zk) ?_
        refine own_st (B := (T7.setTop (mkF m 141 #[.val (.int p0), .val (.int p1), .val (.int p2), .val (.int p3), .val (.long y0), .second, .val (.long y1), .second, .val (.long y2), .second, .val (.int nn), .val (.ref b1), .val (.long (((0 : Int64) + y0) + y1)), .second] [(.int (1 : Int32))]))) (fun _ zk => XS.goto X7.here hx rfl (pc0 := 137) (pc' := 141) rfl (hb hby at_137) (by decide) (by decide) zk) ?_
        exact own_retN X7 hx hlk (t := .boolean) hret (by simp) (hb hby at_141) (by show own_Q0 n0 _ T7.heap _; rw [qe7]; exact ⟨rfl, by simpa using N6⟩) (by decide) (by decide)
      · refine own_st (B := (T6.setTop (mkF m 109 #[.val (.int p0), .val (.int p1), .val (.int p2), .val (.int p3), .val (.long y0), .second, .val (.long y1), .second, .val (.long y2), .second, .val (.int nn), .val (.ref b1), .val (.long (((0 : Int64) + y0) + y1)), .second] []))) (fun _ zk => XS.icmpNo X6.here hx rfl (hb hby at_106) rfl (flt c2).1 zk) ?_
        refine own_st (B := (T6.setTop (mkF m 111 #[.val (.int p0), .val (.int p1), .val (.int p2), .val (.int p3), .val (.long y0), .second, .val (.long y1), .second, .val (.long y2), .second, .val (.int nn), .val (.ref b1), .val (.long (((0 : Int64) + y0) + y1)), .second] [(.ref b1)]))) (fun _ zk => XS.aload X6.here hx rfl (hb hby at_109) rfl rfl zk) ?_
        refine own_st (B := (T6.setTop (mkF m 113 #[.val (.int p0), .val (.int p1), .val (.int p2), .val (.int p3), .val (.long y0), .second, .val (.long y1), .second, .val (.long y2), .second, .val (.int nn), .val (.ref b1), .val (.long (((0 : Int64) + y0) + y1)), .second] [(.long y2), (.ref b1)]))) (fun _ zk => XS.lload X6.here hx rfl (hb hby at_111) rfl zk) ?_
        refine own_st (B := (T6.setTop (mkF m 114 #[.val (.int p0), .val (.int p1), .val (.int p2), .val (.int p3), .val (.long y0), .second, .val (.long y1), .second, .val (.long y2), .second, .val (.int nn), .val (.ref b1), .val (.long (((0 : Int64) + y0) + y1)), .second] [(.double (FP.l2d y2)), (.ref b1)]))) (fun _ zk => XS.l2dS X6.here hx rfl (hb hby at_113) rfl rfl zk) ?_
        obtain ⟨v8, T8, L8, X8, Q8, st8⟩ := own_callV (W := 0) X6 hx hZ (y := (⟨"com/example/patient_surfer/patientsurfer/graph/CompensatedSum", "add", "(D)V"⟩ : MethodName)) (z := (⟨"com/example/patient_surfer/patientsurfer/graph/CompensatedSum", "add", "(D)V"⟩ : MethodName)) hown (hw _ (List.mem_of_getElem? (i := 30) rfl)) (hw _ (List.mem_of_getElem? (i := 31) rfl)) (notFace_of_selects (args := #[]) (mvT hZ (hw _ (List.mem_of_getElem? (i := 33) rfl)))) (hw _ (List.mem_of_getElem? (i := 33) rfl)) (hw _ (List.mem_of_getElem? (i := 32) rfl)) (hw _ (List.mem_of_getElem? (i := 2) rfl)) (hw _ (List.mem_of_getElem? (i := 34) rfl)) (by decide) rfl (rm_add l Z a0 hw [] b1 (FP.l2d y2) _ _ _ _ T6.heap n0 ZZ2 g_b1 CC2 (by omega) (by omega) dy2 sh2.1 sh2.2) (own_Cs_exa CC2) (g := (mkF m 114 #[.val (.int p0), .val (.int p1), .val (.int p2), .val (.int p3), .val (.long y0), .second, .val (.long y1), .second, .val (.long y2), .second, .val (.int nn), .val (.ref b1), .val (.long (((0 : Int64) + y0) + y1)), .second] [(.double (FP.l2d y2)), (.ref b1)])) rfl (by rw [hml]; rfl) (argsL := [(.double (FP.l2d y2))]) (rest := []) (lenOf pd_5 rfl) rfl rfl (by show 2 * 0 + _ ≤ _; exact Nat.le_of_eq rfl) (hb hby at_114) (by decide) (by decide) (by decide) (by decide)
        obtain ⟨rfl, N8q, S3, Lo3, CC3, bS3, bL3⟩ := Q8
        refine own_st (B := (T8.setTop (mkF m 117 #[.val (.int p0), .val (.int p1), .val (.int p2), .val (.int p3), .val (.long y0), .second, .val (.long y1), .second, .val (.long y2), .second, .val (.int nn), .val (.ref b1), .val (.long (((0 : Int64) + y0) + y1)), .second] []))) st8 ?_
        have N8 := Fr.app N6 N8q
        refine own_st (B := (T8.setTop (mkF m 119 #[.val (.int p0), .val (.int p1), .val (.int p2), .val (.int p3), .val (.long y0), .second, .val (.long y1), .second, .val (.long y2), .second, .val (.int nn), .val (.ref b1), .val (.long (((0 : Int64) + y0) + y1)), .second] [(.long (((0 : Int64) + y0) + y1))]))) (fun _ zk => XS.lload X8.here hx rfl (hb hby at_117) rfl zk) ?_
        refine own_st (B := (T8.setTop (mkF m 121 #[.val (.int p0), .val (.int p1), .val (.int p2), .val (.int p3), .val (.long y0), .second, .val (.long y1), .second, .val (.long y2), .second, .val (.int nn), .val (.ref b1), .val (.long (((0 : Int64) + y0) + y1)), .second] [(.long y2), (.long (((0 : Int64) + y0) + y1))]))) (fun _ zk => XS.lload X8.here hx rfl (hb hby at_119) rfl zk) ?_
        refine own_st (B := (T8.setTop (mkF m 122 #[.val (.int p0), .val (.int p1), .val (.int p2), .val (.int p3), .val (.long y0), .second, .val (.long y1), .second, .val (.long y2), .second, .val (.int nn), .val (.ref b1), .val (.long (((0 : Int64) + y0) + y1)), .second] [(.long ((((0 : Int64) + y0) + y1) + y2))]))) (fun _ zk => XS.ladd X8.here hx rfl (hb hby at_121) rfl zk) ?_
        have tt3 : ((((0 : Int64) + y0) + y1) + y2).toInt = 0 + y0.toInt + y1.toInt + y2.toInt := by
          rw [FP.Core.int64_add (by omega) (by omega), tt2]
        have ZZ3 : n0 ≤ T8.heap.size := Nat.le_trans (Nat.le_of_lt (Nat.lt_of_le_of_lt g_b1 (own_Cs_lt CC3))) (Nat.le_refl _)
        refine own_st (B := (T8.setTop (mkF m 124 #[.val (.int p0), .val (.int p1), .val (.int p2), .val (.int p3), .val (.long y0), .second, .val (.long y1), .second, .val (.long y2), .second, .val (.int nn), .val (.ref b1), .val (.long ((((0 : Int64) + y0) + y1) + y2)), .second] []))) (fun _ zk => XS.lstore X8.here hx rfl (hb hby at_122) rfl (l' := #[.val (.int p0), .val (.int p1), .val (.int p2), .val (.int p3), .val (.long y0), .second, .val (.long y1), .second, .val (.long y2), .second, .val (.int nn), .val (.ref b1), .val (.long ((((0 : Int64) + y0) + y1) + y2)), .second]) rfl zk) ?_
        refine own_st (B := (T8.setTop (mkF m 126 #[.val (.int p0), .val (.int p1), .val (.int p2), .val (.int p3), .val (.long y0), .second, .val (.long y1), .second, .val (.long y2), .second, .val (.int nn), .val (.ref b1), .val (.long ((((0 : Int64) + y0) + y1) + y2)), .second] [(.ref b1)]))) (fun _ zk => XS.aload X8.here hx rfl (hb hby at_124) rfl rfl zk) ?_
        obtain ⟨us, ul, EXv, F1, F2, hS, rS, hL, hSL⟩ := CC3
        have hdv := own_dadd hS hL (by omega)
        obtain ⟨zV, hV1, -⟩ := hdv
        obtain ⟨v9, T9, L9, X9, Q9, st9⟩ := own_callV (W := 0) X8 hx hZ (y := (⟨"com/example/patient_surfer/patientsurfer/graph/CompensatedSum", "value", "()D"⟩ : MethodName)) (z := (⟨"com/example/patient_surfer/patientsurfer/graph/CompensatedSum", "value", "()D"⟩ : MethodName)) hown (hw _ (List.mem_of_getElem? (i := 9) rfl)) (hw _ (List.mem_of_getElem? (i := 10) rfl)) (notFace_of_selects (args := #[]) (mvT hZ (hw _ (List.mem_of_getElem? (i := 12) rfl)))) (hw _ (List.mem_of_getElem? (i := 12) rfl)) (hw _ (List.mem_of_getElem? (i := 11) rfl)) (hw _ (List.mem_of_getElem? (i := 2) rfl)) (hw _ (List.mem_of_getElem? (i := 13) rfl)) (by decide) rfl (rm_val l Z a0 hw [] b1 us ul T8.heap F1 F2 (own_nn hS) (own_dfin hS) (own_nn hV1)) EXv (g := (mkF m 126 #[.val (.int p0), .val (.int p1), .val (.int p2), .val (.int p3), .val (.long y0), .second, .val (.long y1), .second, .val (.long y2), .second, .val (.int nn), .val (.ref b1), .val (.long ((((0 : Int64) + y0) + y1) + y2)), .second] [(.ref b1)])) rfl (by rw [hml]; rfl) (argsL := []) (rest := []) (lenOf pd_4 rfl) rfl rfl (by show 2 * 0 + _ ≤ _; exact Nat.le_of_eq rfl) (hb hby at_126) (by decide) (by decide) (by decide) (by decide)
        obtain ⟨rfl, rfl, qe9⟩ := Q9
        refine own_st (B := (T9.setTop (mkF m 129 #[.val (.int p0), .val (.int p1), .val (.int p2), .val (.int p3), .val (.long y0), .second, .val (.long y1), .second, .val (.long y2), .second, .val (.int nn), .val (.ref b1), .val (.long ((((0 : Int64) + y0) + y1) + y2)), .second] [(.double (FP.dadd us ul))]))) st9 ?_
        refine own_st (B := (T9.setTop (mkF m 131 #[.val (.int p0), .val (.int p1), .val (.int p2), .val (.int p3), .val (.long y0), .second, .val (.long y1), .second, .val (.long y2), .second, .val (.int nn), .val (.ref b1), .val (.long ((((0 : Int64) + y0) + y1) + y2)), .second] [(.long ((((0 : Int64) + y0) + y1) + y2)), (.double (FP.dadd us ul))]))) (fun _ zk => XS.lload X9.here hx rfl (hb hby at_129) rfl zk) ?_
        refine own_st (B := (T9.setTop (mkF m 132 #[.val (.int p0), .val (.int p1), .val (.int p2), .val (.int p3), .val (.long y0), .second, .val (.long y1), .second, .val (.long y2), .second, .val (.int nn), .val (.ref b1), .val (.long ((((0 : Int64) + y0) + y1) + y2)), .second] [(.double (FP.l2d ((((0 : Int64) + y0) + y1) + y2))), (.double (FP.dadd us ul))]))) (fun _ zk => XS.l2dS X9.here hx rfl (hb hby at_131) rfl rfl zk) ?_
        have hcmp : cmpValue (FP.dcmp (FP.dadd us ul) (FP.l2d ((((0 : Int64) + y0) + y1) + y2))) .l = 0 := by
          rw [show FP.dcmp (FP.dadd us ul) (FP.l2d ((((0 : Int64) + y0) + y1) + y2)) = some .eq from own_last hS hL (by rw [hSL]; exact tt3)]
          rfl
        refine own_st (B := (T9.setTop (mkF m 133 #[.val (.int p0), .val (.int p1), .val (.int p2), .val (.int p3), .val (.long y0), .second, .val (.long y1), .second, .val (.long y2), .second, .val (.int nn), .val (.ref b1), .val (.long ((((0 : Int64) + y0) + y1) + y2)), .second] [(.int (0 : Int32))]))) (fun _ zk => XS.dcmpS X9.here hx rfl (hb hby at_132) rfl hcmp zk) ?_
        refine own_st (B := (T9.setTop (mkF m 136 #[.val (.int p0), .val (.int p1), .val (.int p2), .val (.int p3), .val (.long y0), .second, .val (.long y1), .second, .val (.long y2), .second, .val (.int nn), .val (.ref b1), .val (.long ((((0 : Int64) + y0) + y1) + y2)), .second] []))) (fun _ zk => XS.ifNo X9.here hx rfl (hb hby at_133) rfl ((if0 _ _).trans (teq (by decide)).2) zk) ?_
        refine own_st (B := (T9.setTop (mkF m 137 #[.val (.int p0), .val (.int p1), .val (.int p2), .val (.int p3), .val (.long y0), .second, .val (.long y1), .second, .val (.long y2), .second, .val (.int nn), .val (.ref b1), .val (.long ((((0 : Int64) + y0) + y1) + y2)), .second] [(.int (1 : Int32))]))) (fun _ zk => XS.iconst X9.here hx rfl (hb hby at_136) zk) ?_
        refine own_st (B := (T9.setTop (mkF m 141 #[.val (.int p0), .val (.int p1), .val (.int p2), .val (.int p3), .val (.long y0), .second, .val (.long y1), .second, .val (.long y2), .second, .val (.int nn), .val (.ref b1), .val (.long ((((0 : Int64) + y0) + y1) + y2)), .second] [(.int (1 : Int32))]))) (fun _ zk => XS.goto X9.here hx rfl (pc0 := 137) (pc' := 141) rfl (hb hby at_137) (by decide) (by decide) zk) ?_
        exact own_retN X9 hx hlk (t := .boolean) hret (by simp) (hb hby at_141) (by show own_Q0 n0 _ T9.heap _; rw [qe9]; exact ⟨rfl, by simpa using N8⟩) (by decide) (by decide)
set_option maxRecDepth 65536 in
set_option maxHeartbeats 40000000 in
theorem comes_1 {Post : Tables → Env → Array Value → State → Outcome → State → Prop} (hpost : ∀ tb e args s v u, (limb_1_1.after args s (.returned v) u = true ∧ limb_1_2.after args s (.returned v) u = true ∧ True) → FrameEnd s (.returned v) u (Jvm.fieldLocs frame_1_writes args s ++ Jvm.arrayLocs frame_1_arrays args s ++ Jvm.staticLocs frame_1_statics s) 16 128 → Post tb e args s (.returned v) u) :
    ArmFor flags0 classFile x code maxLocals ret World_1 tables_1 room_1 Calls_1 rest_1 Pre_1 Post := by
  intro l hfl _ _ p e ha hc hk s m args below hf hA hF happ hP
  obtain ⟨hcalls, hrest, hpre⟩ := hP
  obtain ⟨-, -, -, hnamed, -, -, -, hat⟩ := (Spec.applies_iff hf).mp happ
  obtain ⟨hg, hn⟩ := and_e (Cond.before_iff.mp (show (Jvm.Cond.and given_1 narrow_1).before args s = true from hpre))
  obtain ⟨g1, g2⟩ := and_e hg
  obtain ⟨g3, g4⟩ := and_e g2
  obtain ⟨g5, g6⟩ := and_e g4
  obtain ⟨g7, g8⟩ := and_e g6
  obtain ⟨w0, w1, w2, w3, rfl⟩ : ∃ w0 w1 w2 w3 : Value, args = #[w0, w1, w2, w3] := by
    have hs : args.size = 4 := by simpa [Cond.value, given_1] using g1
    obtain ⟨L⟩ := args
    match L, hs with
    | [w0, w1, w2, w3], _ => exact ⟨w0, w1, w2, w3, rfl⟩
  have hw := fun d (hd : d ∈ tables_1) => atoms_spec (ws := Jvm.Cond.code x code maxLocals ret :: tables_1) hat d (List.mem_cons_of_mem _ hd)
  have hfit : Fit s := fun {y c} hc i hi => by
    obtain ⟨ha, rfl⟩ := Array.getElem?_eq_some_iff.mp hc
    have q := List.all_eq_true.mp ((Array.all_eq_true_iff_forall_mem.mp hF) _ (Array.getElem_mem ha)) i (List.mem_range.mpr hi)
    simpa [Array.getElem?_eq_getElem hi] using q
  obtain ⟨i0, ei0⟩ := is_v g3
  obtain rfl : w0 = (.int i0) := Option.some.inj ei0
  obtain ⟨i1, ei1⟩ := is_v g5
  obtain rfl : w1 = (.int i1) := Option.some.inj ei1
  obtain ⟨i2, ei2⟩ := is_v g7
  obtain rfl : w2 = (.int i2) := Option.some.inj ei2
  obtain ⟨i3, ei3⟩ := is_v g8
  obtain rfl : w3 = (.int i3) := Option.some.inj ei3
  obtain ⟨n, o, h1, h2, h3, _, L, rfl, ⟨rfl, N⟩, hq⟩ := rm_law l s _ hw tables_1 i0 i1 i2 i3 s.heap s.heap.size (Nat.le_refl _) p e ha hc hk s m _ below hf ((Spec.applies_iff_loose hf).mp happ).1 ⟨rfl, State.Warmed39.refl s, rfl⟩ trivial
  refine ⟨n, _, h1, h2, h3, hpost _ _ _ _ _ _ ⟨Cond.after_iff.mpr rfl, Cond.after_iff.mpr (eq_i res_at (Term.int_eval (1)) rfl), trivial⟩ ⟨hq.1, hq.2.1, (hq.2.2.sift fun y hy => Or.inr (N y hy)).mono (by decide) (by decide)⟩⟩
theorem main_1_1 : Claimed_1_1 := comes_1 fun _ _ _ _ _ _ h hF => ⟨h.1, hF⟩
theorem main_1_2 : Claimed_1_2 := comes_1 fun _ _ _ _ _ _ h hF => ⟨h.2.1, hF⟩
end Jvm.Pilot.@@N@@
namespace Jvm.Pilot.@@N@@
open Jvm Jvm.ClassFile Sem Op Lib Jvm.Free Jvm.Stand Jvm.Pilot.@@N@@.Jvm.D
/-! MADE BY PROGRAM (witnessworld.py) out of the Statement's table words and the real class files: 15 classes; the members and pool entries that the words name. The judged class is class 1, her method 1. -/
namespace start1
open Jvm.ClassFile
def u (s : String) : CpInfo := .utf8 (stringToUtf16 s)
/-- a pool by its gaps: so many unusable entries, then the entry; so many at the end -/
def gap : Nat → List CpInfo → List CpInfo
  | 0, r => r
  | n + 1, r => .unusable :: gap n r
def poolList (es : List (Nat × CpInfo)) (last : Nat) : List CpInfo := es.foldr (fun e r => gap e.1 (e.2 :: r)) (gap last [])
def pool (es : List (Nat × CpInfo)) (last : Nat) : Array CpInfo := ⟨poolList es last⟩
def fileOf (pool : Array CpInfo) (this : Nat) (attrs : Array Attribute := #[]) (ms : Array MethodInfo := #[]) (fl : Nat := 33) (sup : Nat := 0) (ifs : Array Nat := #[]) (fds : Array FieldInfo := #[]) : ClassFile where
  minorVersion := 0
  majorVersion := 65
  constantPool := pool
  accessFlags := fl
  thisClass := this
  superClass := sup
  interfaces := ifs
  fields := fds
  methods := ms
  attributes := attrs
def plain (name : String) (sup : Option ClassId) : Class where
  name := name
  kind := .ordinary
  loader := none
  accessFlags := 33
  super := sup
  interfaces := #[]
  cf := none
  fields := #[]
  methods := #[]
  instanceTypes := #[]
  staticTypes := #[]
  resolved := #[]
  callSites := []
  init := .initialized
  statics := none
  mirror := none

def pool0 : Array CpInfo := pool [(5, u "<init>"), (0, u "()V"), (1, .class_ 10), (1, u "java/lang/Object")] 113

def k0c0 : Code := { maxStack := 0, maxLocals := 1, code := object_method_1_code, exceptionTable := #[], attributes := #[] }
def k0m0 : Method := { name := "<init>", desc := "()V", sig := { parameters := [], returnType := none }, accessFlags := 1, code := some k0c0 }
/-- java/lang/Object -/
def k0 : Class := { plain "java/lang/Object" none with
  accessFlags := 33
  interfaces := #[]
  cf := some (fileOf pool0 8 #[] #[{ accessFlags := 1, nameIndex := 5, descriptorIndex := 6, attributes := #[] }] 33 0 #[] #[])
  fields := #[]
  methods := #[k0m0]
  instanceTypes := #[]
  staticTypes := #[]
  resolved := Array.replicate 124 none
  statics := none }

def pool1 : Array CpInfo := pool [(2, .class_ 4), (0, .nameAndType 5 6), (0, u "java/lang/Object"), (0, u "<init>"), (0, u "()V"), (0, .class_ 8), (0, u "com/example/patient_surfer/patientsurfer/graph/CompensatedSum"), (0, .methodref 7 3), (0, .methodref 7 11), (0, .nameAndType 12 13), (0, u "add"), (0, u "(D)V"), (0, .methodref 7 15), (0, .nameAndType 16 17), (0, u "value"), (0, u "()D"), (0, .class_ 19), (0, u "com/example/patient_surfer/patientsurfer/graph/CompensatedSumAddPinLaw"), (2, u "law"), (0, u "(IIII)Z")] 3

def k1m0 : Method := { name := "<init>", desc := "()V", sig := { parameters := [], returnType := none }, accessFlags := 1, code := none }
def k1c1 : Code := { maxStack := 4, maxLocals := 14, code := code, exceptionTable := #[], attributes := #[] }
def k1m1 : Method := { name := "law", desc := "(IIII)Z", sig := { parameters := [.int, .int, .int, .int], returnType := some .boolean }, accessFlags := 9, code := some k1c1 }
/-- com/example/patient_surfer/patientsurfer/graph/CompensatedSumAddPinLaw -/
def k1 : Class := { plain "com/example/patient_surfer/patientsurfer/graph/CompensatedSumAddPinLaw" (some 0) with
  accessFlags := 49
  interfaces := #[]
  cf := some (fileOf pool1 18 #[] #[{ accessFlags := 1, nameIndex := 5, descriptorIndex := 6, attributes := #[] }, { accessFlags := 9, nameIndex := 22, descriptorIndex := 23, attributes := #[] }] 49 2 #[] #[])
  fields := #[]
  methods := #[k1m0, k1m1]
  instanceTypes := #[]
  staticTypes := #[]
  resolved := Array.replicate 27 none
  statics := none }

def pool2 : Array CpInfo := pool [(1, .methodref 2 3), (0, .class_ 4), (0, .nameAndType 5 6), (0, u "java/lang/Object"), (0, u "<init>"), (0, u "()V"), (0, .class_ 8), (0, u "com/example/patient_surfer/patientsurfer/graph/CompensatedSum"), (3, u "add"), (0, u "(D)V"), (2, u "value"), (0, u "()D"), (0, .fieldref 7 19), (0, .nameAndType 20 21), (0, u "sum"), (0, u "D"), (0, .fieldref 7 23), (0, .nameAndType 24 21), (0, u "lost"), (0, .methodref 7 26), (0, .nameAndType 27 28), (0, u "dropped"), (0, u "(DDD)D"), (0, .methodref 30 31), (0, .class_ 32), (0, .nameAndType 33 34), (0, u "java/lang/Double"), (0, u "isFinite"), (0, u "(D)Z"), (0, .methodref 7 36), (0, .nameAndType 16 37), (0, u "(DD)D")] 11

def k2c0 : Code := { maxStack := 1, maxLocals := 1, code := prog_2_method_1_code, exceptionTable := #[], attributes := #[] }
def k2m0 : Method := { name := "<init>", desc := "()V", sig := { parameters := [], returnType := none }, accessFlags := 1, code := some k2c0 }
def k2c1 : Code := { maxStack := 9, maxLocals := 5, code := prog_2_method_3_code, exceptionTable := #[], attributes := #[] }
def k2m1 : Method := { name := "add", desc := "(D)V", sig := { parameters := [.double], returnType := none }, accessFlags := 1, code := some k2c1 }
def k2c2 : Code := { maxStack := 4, maxLocals := 4, code := prog_2_method_5_code, exceptionTable := #[], attributes := #[] }
def k2m2 : Method := { name := "value", desc := "(DD)D", sig := { parameters := [.double, .double], returnType := some .double }, accessFlags := 9, code := some k2c2 }
def k2c3 : Code := { maxStack := 4, maxLocals := 1, code := prog_2_method_7_code, exceptionTable := #[], attributes := #[] }
def k2m3 : Method := { name := "value", desc := "()D", sig := { parameters := [], returnType := some .double }, accessFlags := 1, code := some k2c3 }
def k2c4 : Code := { maxStack := 6, maxLocals := 8, code := prog_2_method_8_code, exceptionTable := #[], attributes := #[] }
def k2m4 : Method := { name := "dropped", desc := "(DDD)D", sig := { parameters := [.double, .double, .double], returnType := some .double }, accessFlags := 10, code := some k2c4 }
/-- com/example/patient_surfer/patientsurfer/graph/CompensatedSum -/
def k2 : Class := { plain "com/example/patient_surfer/patientsurfer/graph/CompensatedSum" (some 0) with
  accessFlags := 49
  interfaces := #[]
  cf := some (fileOf pool2 7 #[] #[{ accessFlags := 1, nameIndex := 5, descriptorIndex := 6, attributes := #[] }, { accessFlags := 1, nameIndex := 12, descriptorIndex := 13, attributes := #[] }, { accessFlags := 9, nameIndex := 16, descriptorIndex := 37, attributes := #[] }, { accessFlags := 1, nameIndex := 16, descriptorIndex := 17, attributes := #[] }, { accessFlags := 10, nameIndex := 27, descriptorIndex := 28, attributes := #[] }] 49 2 #[] #[{ accessFlags := 2, nameIndex := 20, descriptorIndex := 21, attributes := #[] }, { accessFlags := 2, nameIndex := 24, descriptorIndex := 21, attributes := #[] }])
  fields := #[{ name := "sum", type := .double, accessFlags := 2, slot := 0, constantValue := 0 }, { name := "lost", type := .double, accessFlags := 2, slot := 1, constantValue := 0 }]
  methods := #[k2m0, k2m1, k2m2, k2m3, k2m4]
  instanceTypes := #[.double, .double]
  staticTypes := #[]
  resolved := Array.replicate 49 none
  statics := none }

def pool3 : Array CpInfo := pool [(1, .class_ 2), (0, u "java/io/Serializable"), (0, .class_ 4), (0, u "java/lang/Object")] 2

/-- java/io/Serializable -/
def k3 : Class := { plain "java/io/Serializable" (some 0) with
  accessFlags := 1537
  interfaces := #[]
  cf := some (fileOf pool3 1 #[] #[] 1537 3 #[] #[])
  fields := #[]
  methods := #[]
  instanceTypes := #[]
  staticTypes := #[]
  resolved := Array.replicate 7 none
  statics := none }

def pool4 : Array CpInfo := pool [(2, .class_ 4), (1, u "java/lang/Object"), (0, u "<init>"), (0, u "()V"), (1, .class_ 10), (1, u "java/lang/Number"), (2, .class_ 14), (0, u "java/io/Serializable"), (0, u "serialVersionUID"), (0, u "J")] 20

def k4m0 : Method := { name := "<init>", desc := "()V", sig := { parameters := [], returnType := none }, accessFlags := 1, code := none }
/-- java/lang/Number -/
def k4 : Class := { plain "java/lang/Number" (some 0) with
  accessFlags := 1057
  interfaces := #[3]
  cf := some (fileOf pool4 8 #[] #[{ accessFlags := 1, nameIndex := 5, descriptorIndex := 6, attributes := #[] }] 1057 2 #[13] #[{ accessFlags := 26, nameIndex := 15, descriptorIndex := 16, attributes := #[] }])
  fields := #[{ name := "serialVersionUID", type := .long, accessFlags := 26, slot := 0, constantValue := 0 }]
  methods := #[k4m0]
  instanceTypes := #[]
  staticTypes := #[.long]
  resolved := Array.replicate 37 none
  statics := none }

def pool5 : Array CpInfo := pool [(1, .class_ 2), (0, u "java/lang/Comparable"), (0, .class_ 4), (0, u "java/lang/Object")] 7

/-- java/lang/Comparable -/
def k5 : Class := { plain "java/lang/Comparable" (some 0) with
  accessFlags := 1537
  interfaces := #[]
  cf := some (fileOf pool5 1 #[] #[] 1537 3 #[] #[])
  fields := #[]
  methods := #[]
  instanceTypes := #[]
  staticTypes := #[]
  resolved := Array.replicate 12 none
  statics := none }

def pool6 : Array CpInfo := pool [(1, .class_ 2), (0, u "java/lang/constant/Constable"), (0, .class_ 4), (0, u "java/lang/Object")] 6

/-- java/lang/constant/Constable -/
def k6 : Class := { plain "java/lang/constant/Constable" (some 0) with
  accessFlags := 1537
  interfaces := #[]
  cf := some (fileOf pool6 1 #[] #[] 1537 3 #[] #[])
  fields := #[]
  methods := #[]
  instanceTypes := #[]
  staticTypes := #[]
  resolved := Array.replicate 11 none
  statics := none }

def pool7 : Array CpInfo := pool [(1, .class_ 2), (0, u "java/lang/constant/ConstantDesc"), (0, .class_ 4), (0, u "java/lang/Object")] 32

/-- java/lang/constant/ConstantDesc -/
def k7 : Class := { plain "java/lang/constant/ConstantDesc" (some 0) with
  accessFlags := 1537
  interfaces := #[]
  cf := some (fileOf pool7 1 #[] #[] 1537 3 #[] #[])
  fields := #[]
  methods := #[]
  instanceTypes := #[]
  staticTypes := #[]
  resolved := Array.replicate 37 none
  statics := none }

def pool8 : Array CpInfo := pool [(1, .class_ 2), (0, u "java/lang/Double"), (10, u "isFinite"), (0, u "(D)Z"), (8, .class_ 25), (1, u "java/lang/Math"), (12, .methodref 23 39), (0, .nameAndType 40 41), (0, u "abs"), (0, u "(D)D"), (69, .double 9218868437227405311), (2, .class_ 116), (1, u "java/lang/Number"), (3, u "value"), (0, u "D"), (51, u "TYPE"), (0, u "Ljava/lang/Class;"), (0, .class_ 176), (0, u "java/lang/Comparable"), (0, .class_ 178), (0, u "java/lang/constant/Constable"), (0, .class_ 180), (0, u "java/lang/constant/ConstantDesc"), (0, u "POSITIVE_INFINITY"), (3, u "NEGATIVE_INFINITY"), (2, u "NaN"), (2, u "MAX_VALUE"), (0, u "MIN_NORMAL"), (0, u "MIN_VALUE"), (2, u "SIZE"), (0, u "I"), (1, u "PRECISION"), (1, u "MAX_EXPONENT"), (1, u "MIN_EXPONENT"), (1, u "BYTES"), (3, u "serialVersionUID"), (0, u "J")] 79

def k8c0 : Code := { maxStack := 4, maxLocals := 2, code := jdk_117_method_8_code, exceptionTable := #[], attributes := #[] }
def k8m0 : Method := { name := "isFinite", desc := "(D)Z", sig := { parameters := [.double], returnType := some .boolean }, accessFlags := 9, code := some k8c0 }
/-- java/lang/Double -/
def k8 : Class := { plain "java/lang/Double" (some 4) with
  accessFlags := 49
  interfaces := #[5, 6, 7]
  cf := some (fileOf pool8 1 #[] #[{ accessFlags := 9, nameIndex := 13, descriptorIndex := 14, attributes := #[] }] 49 114 #[175, 177, 179] #[{ accessFlags := 25, nameIndex := 181, descriptorIndex := 121, attributes := #[] }, { accessFlags := 25, nameIndex := 185, descriptorIndex := 121, attributes := #[] }, { accessFlags := 25, nameIndex := 188, descriptorIndex := 121, attributes := #[] }, { accessFlags := 25, nameIndex := 191, descriptorIndex := 121, attributes := #[] }, { accessFlags := 25, nameIndex := 192, descriptorIndex := 121, attributes := #[] }, { accessFlags := 25, nameIndex := 193, descriptorIndex := 121, attributes := #[] }, { accessFlags := 25, nameIndex := 196, descriptorIndex := 197, attributes := #[] }, { accessFlags := 25, nameIndex := 199, descriptorIndex := 197, attributes := #[] }, { accessFlags := 25, nameIndex := 201, descriptorIndex := 197, attributes := #[] }, { accessFlags := 25, nameIndex := 203, descriptorIndex := 197, attributes := #[] }, { accessFlags := 25, nameIndex := 205, descriptorIndex := 197, attributes := #[] }, { accessFlags := 25, nameIndex := 173, descriptorIndex := 174, attributes := #[] }, { accessFlags := 18, nameIndex := 120, descriptorIndex := 121, attributes := #[] }, { accessFlags := 26, nameIndex := 209, descriptorIndex := 210, attributes := #[] }])
  fields := #[{ name := "POSITIVE_INFINITY", type := .double, accessFlags := 25, slot := 0, constantValue := 0 }, { name := "NEGATIVE_INFINITY", type := .double, accessFlags := 25, slot := 1, constantValue := 0 }, { name := "NaN", type := .double, accessFlags := 25, slot := 2, constantValue := 0 }, { name := "MAX_VALUE", type := .double, accessFlags := 25, slot := 3, constantValue := 0 }, { name := "MIN_NORMAL", type := .double, accessFlags := 25, slot := 4, constantValue := 0 }, { name := "MIN_VALUE", type := .double, accessFlags := 25, slot := 5, constantValue := 0 }, { name := "SIZE", type := .int, accessFlags := 25, slot := 6, constantValue := 0 }, { name := "PRECISION", type := .int, accessFlags := 25, slot := 7, constantValue := 0 }, { name := "MAX_EXPONENT", type := .int, accessFlags := 25, slot := 8, constantValue := 0 }, { name := "MIN_EXPONENT", type := .int, accessFlags := 25, slot := 9, constantValue := 0 }, { name := "BYTES", type := .int, accessFlags := 25, slot := 10, constantValue := 0 }, { name := "TYPE", type := (.object "java/lang/Class"), accessFlags := 25, slot := 11, constantValue := 0 }, { name := "value", type := .double, accessFlags := 18, slot := 0, constantValue := 0 }, { name := "serialVersionUID", type := .long, accessFlags := 26, slot := 12, constantValue := 0 }]
  methods := #[k8m0]
  instanceTypes := #[.double]
  staticTypes := #[.double, .double, .double, .double, .double, .double, .int, .int, .int, .int, .int, (.object "java/lang/Class"), .long]
  resolved := Array.replicate 290 none
  statics := none }

def pool9 : Array CpInfo := pool [(1, .class_ 2), (0, u "java/lang/Math"), (1, .class_ 6), (1, u "java/lang/Object"), (0, u "<init>"), (0, u "()V"), (5, u "(D)D"), (83, .class_ 100), (1, u "java/lang/Math$RandomNumberGeneratorHolder"), (23, u "abs"), (47, u "negativeZeroFloatBits"), (0, u "J"), (2, u "negativeZeroDoubleBits"), (68, u "$assertionsDisabled"), (0, u "Z"), (91, u "twoToTheDoubleScaleDown"), (0, u "D"), (4, u "twoToTheDoubleScaleUp"), (9, u "E"), (3, u "PI"), (2, u "TAU"), (2, u "DEGREES_TO_RADIANS"), (0, u "RADIANS_TO_DEGREES")] 94

def k9m0 : Method := { name := "<init>", desc := "()V", sig := { parameters := [], returnType := none }, accessFlags := 2, code := none }
def k9c1 : Code := { maxStack := 4, maxLocals := 2, code := jdk_29_method_64_code, exceptionTable := #[], attributes := #[] }
def k9m1 : Method := { name := "abs", desc := "(D)D", sig := { parameters := [.double], returnType := some .double }, accessFlags := 9, code := some k9c1 }
/-- java/lang/Math -/
def k9 : Class := { plain "java/lang/Math" (some 0) with
  accessFlags := 49
  interfaces := #[]
  cf := some (fileOf pool9 1 #[.nestMembers #[98]] #[{ accessFlags := 2, nameIndex := 7, descriptorIndex := 8, attributes := #[] }, { accessFlags := 9, nameIndex := 124, descriptorIndex := 14, attributes := #[] }] 49 4 #[] #[{ accessFlags := 25, nameIndex := 354, descriptorIndex := 339, attributes := #[] }, { accessFlags := 25, nameIndex := 358, descriptorIndex := 339, attributes := #[] }, { accessFlags := 25, nameIndex := 361, descriptorIndex := 339, attributes := #[] }, { accessFlags := 26, nameIndex := 364, descriptorIndex := 339, attributes := #[] }, { accessFlags := 26, nameIndex := 365, descriptorIndex := 339, attributes := #[] }, { accessFlags := 26, nameIndex := 172, descriptorIndex := 173, attributes := #[] }, { accessFlags := 26, nameIndex := 176, descriptorIndex := 173, attributes := #[] }, { accessFlags := 8, nameIndex := 344, descriptorIndex := 339, attributes := #[] }, { accessFlags := 8, nameIndex := 338, descriptorIndex := 339, attributes := #[] }, { accessFlags := 4120, nameIndex := 245, descriptorIndex := 246, attributes := #[] }])
  fields := #[{ name := "E", type := .double, accessFlags := 25, slot := 0, constantValue := 0 }, { name := "PI", type := .double, accessFlags := 25, slot := 1, constantValue := 0 }, { name := "TAU", type := .double, accessFlags := 25, slot := 2, constantValue := 0 }, { name := "DEGREES_TO_RADIANS", type := .double, accessFlags := 26, slot := 3, constantValue := 0 }, { name := "RADIANS_TO_DEGREES", type := .double, accessFlags := 26, slot := 4, constantValue := 0 }, { name := "negativeZeroFloatBits", type := .long, accessFlags := 26, slot := 5, constantValue := 0 }, { name := "negativeZeroDoubleBits", type := .long, accessFlags := 26, slot := 6, constantValue := 0 }, { name := "twoToTheDoubleScaleUp", type := .double, accessFlags := 8, slot := 7, constantValue := 0 }, { name := "twoToTheDoubleScaleDown", type := .double, accessFlags := 8, slot := 8, constantValue := 0 }, { name := "$assertionsDisabled", type := .boolean, accessFlags := 4120, slot := 9, constantValue := 0 }]
  methods := #[k9m0, k9m1]
  instanceTypes := #[]
  staticTypes := #[.double, .double, .double, .double, .double, .long, .long, .double, .double, .boolean]
  resolved := Array.replicate 460 none
  statics := none }

def pool10 : Array CpInfo := pool [(1, u "java/lang/Cloneable"), (0, .class_ 1), (0, u "java/lang/Object"), (0, .class_ 3)] 3

/-- java/lang/Cloneable -/
def k10 : Class := { plain "java/lang/Cloneable" (some 0) with
  accessFlags := 1537
  interfaces := #[]
  cf := some (fileOf pool10 2 #[] #[] 1537 4 #[] #[])
  fields := #[]
  methods := #[]
  instanceTypes := #[]
  staticTypes := #[]
  resolved := Array.replicate 8 none
  statics := none }

/-- the primitive byte -/
def k11 : Class := { plain "byte" none with kind := .primitive 'B', accessFlags := 0x411 }
/-- [B -/
def k12 : Class := { plain "[B" (some 0) with kind := .array 11 .byte, interfaces := #[10, 3], accessFlags := 1041 }

/-- the primitive int -/
def k13 : Class := { plain "int" none with kind := .primitive 'I', accessFlags := 0x411 }
/-- [I -/
def k14 : Class := { plain "[I" (some 0) with kind := .array 13 .int, interfaces := #[10, 3], accessFlags := 1041 }

def heap : Heap := #[]
def classes : Array Class := #[k0, k1, k2, k3, k4, k5, k6, k7, k8, k9, k10, k11, k12, k13, k14]
def interned : List (Array UInt16 × Addr) := []
def slotsUsed : Nat := 0
def theMethod : MethodId := ⟨1, 1⟩
def args0 : Array Value := #[.int 3, .int 5, .int 7, .int 98304]
def aboutOver (below : List Frame) : State where
  vm := { classes := classes, interned := interned.toArray }
  heap := heap
  slotsUsed := slotsUsed
  threads := #[{ frames := .invoking theMethod args0 :: below }]
def below0 : List Frame := [.native { method := ⟨0, 0⟩, args := #[] }]
def about1 : State := aboutOver below0
def p0 : Program := .bare "" "" ""
def e0 : Env := launch0.env 0 0 0
theorem w_frames : about1.frames = Frame.invoking theMethod args0 :: below0 := rfl
set_option maxRecDepth 65536 in
theorem w_args : argsFit about1.vm theMethod args0 = true := by decide +kernel
set_option maxRecDepth 65536 in
theorem w_heap : heapFits about1 = true := by decide +kernel
set_option maxRecDepth 65536 in
theorem w_runnable : about1.curStatus? = some .runnable := by decide +kernel
set_option maxRecDepth 65536 in
theorem w_alone : about1.alone = true := by decide +kernel
set_option maxRecDepth 65536 in
theorem w_named : about1.methodNamed? x = some theMethod := by decide +kernel
set_option maxRecDepth 65536 in
theorem w_hears : about1.hears theMethod below0 = true := by decide +kernel
set_option maxRecDepth 65536 in
theorem w_ripe : about1.ripe theMethod args0 below0 = true := by decide +kernel
theorem w_running : about1.status = .running := rfl
set_option maxRecDepth 65536 in
theorem w_room : about1.hasRoom e0.platform room_1 = true :=
  launch0.hasRoom_least _ room_1 (by decide +kernel) (by decide +kernel) (by decide +kernel) (by decide +kernel) (by decide +kernel) (by decide +kernel)
theorem allAtoms_all (ts : List Jvm.Cond) (a : Array Jvm.Value) (st : Jvm.State) : (allAtoms ts).before a st = ts.all (fun c => c.before a st) := by
  induction ts with
  | nil => rfl
  | cons c t ih =>
    show (Jvm.Cond.and c (allAtoms t)).before a st = _
    rw [Jvm.Cond.before_and, ih, List.all_cons]
def words1 : List Jvm.Cond := Jvm.Cond.code x code maxLocals ret :: tables_1
/-- a 'code' word, met by the world's own term for the bytes: nothing is compared byte by byte -/
theorem code_word {y : MethodName} {bytes : ByteArray} {mx : Nat} {rt : Option FieldType} {a : Array Value} {s : State} {m : MethodId} {meth : Method} {c : Code} (h1 : s.methodNamed? y = some m) (h2 : s.vm.method? m = some meth) (h3 : meth.code = some c) (h4 : c.code = bytes)
    (h5 : (c.maxLocals == mx && c.exceptionTable.isEmpty && decide (c.maxStack ≤ mostOperands) && decide (meth.sig.returnType = rt) && !meth.locks && decide (parseMethodDescriptor y.desc = some meth.sig)) = true) : (Jvm.Cond.code y bytes mx rt).before a s = true := by
  simp only [Bool.and_eq_true, beq_iff_eq, Bool.not_eq_true', decide_eq_true_eq] at h5
  obtain ⟨⟨⟨⟨⟨g1, g2⟩, g3⟩, g4⟩, g5⟩, g6⟩ := h5
  simp [Cond.before, Cond.holds, Cond.value, h1, h2, h3, h4, g1, g2, g3, g4, g5, g6]
def isCode : Jvm.Cond → Bool
  | .code _ _ _ _ => true
  | _ => false
theorem all_split {L : List Jvm.Cond} {P : Jvm.Cond → Bool} (h1 : L.all (fun c => isCode c || P c) = true) (h2 : ∀ c ∈ L.filter isCode, P c = true) : L.all P = true := by
  refine List.all_eq_true.mpr fun c hc => ?_
  have h := List.all_eq_true.mp h1 c hc
  rcases Bool.eq_false_or_eq_true (isCode c) with hi | hi
  · exact h2 c (List.mem_filter.mpr ⟨hc, hi⟩)
  · simpa [hi] using h
set_option maxRecDepth 65536 in
theorem w_c0 : (Jvm.Cond.code x code maxLocals ret).before args0 about1 = true := code_word (m := ⟨1, 1⟩) (meth := k1m1) (c := k1c1) (by decide +kernel) rfl rfl rfl (by decide +kernel)
set_option maxRecDepth 65536 in
theorem w_c1 : (Jvm.Cond.code ({ cls := "com/example/patient_surfer/patientsurfer/graph/CompensatedSum", name := "<init>", desc := "()V" } : Jvm.MethodName) prog_2_method_1_code (1 : Nat) (Option.none : Option Jvm.ClassFile.FieldType)).before args0 about1 = true := code_word (m := ⟨2, 0⟩) (meth := k2m0) (c := k2c0) (by decide +kernel) rfl rfl rfl (by decide +kernel)
set_option maxRecDepth 65536 in
theorem w_c2 : (Jvm.Cond.code ({ cls := "java/lang/Object", name := "<init>", desc := "()V" } : Jvm.MethodName) object_method_1_code (1 : Nat) (Option.none : Option Jvm.ClassFile.FieldType)).before args0 about1 = true := code_word (m := ⟨0, 0⟩) (meth := k0m0) (c := k0c0) (by decide +kernel) rfl rfl rfl (by decide +kernel)
set_option maxRecDepth 65536 in
theorem w_c3 : (Jvm.Cond.code ({ cls := "com/example/patient_surfer/patientsurfer/graph/CompensatedSum", name := "value", desc := "()D" } : Jvm.MethodName) prog_2_method_7_code (1 : Nat) (Option.some Jvm.ClassFile.FieldType.double)).before args0 about1 = true := code_word (m := ⟨2, 3⟩) (meth := k2m3) (c := k2c3) (by decide +kernel) rfl rfl rfl (by decide +kernel)
set_option maxRecDepth 65536 in
theorem w_c4 : (Jvm.Cond.code ({ cls := "com/example/patient_surfer/patientsurfer/graph/CompensatedSum", name := "value", desc := "(DD)D" } : Jvm.MethodName) prog_2_method_5_code (4 : Nat) (Option.some Jvm.ClassFile.FieldType.double)).before args0 about1 = true := code_word (m := ⟨2, 2⟩) (meth := k2m2) (c := k2c2) (by decide +kernel) rfl rfl rfl (by decide +kernel)
set_option maxRecDepth 65536 in
theorem w_c5 : (Jvm.Cond.code ({ cls := "java/lang/Double", name := "isFinite", desc := "(D)Z" } : Jvm.MethodName) jdk_117_method_8_code (2 : Nat) (Option.some Jvm.ClassFile.FieldType.boolean)).before args0 about1 = true := code_word (m := ⟨8, 0⟩) (meth := k8m0) (c := k8c0) (by decide +kernel) rfl rfl rfl (by decide +kernel)
set_option maxRecDepth 65536 in
theorem w_c6 : (Jvm.Cond.code ({ cls := "java/lang/Math", name := "abs", desc := "(D)D" } : Jvm.MethodName) jdk_29_method_64_code (2 : Nat) (Option.some Jvm.ClassFile.FieldType.double)).before args0 about1 = true := code_word (m := ⟨9, 1⟩) (meth := k9m1) (c := k9c1) (by decide +kernel) rfl rfl rfl (by decide +kernel)
set_option maxRecDepth 65536 in
theorem w_c7 : (Jvm.Cond.code ({ cls := "com/example/patient_surfer/patientsurfer/graph/CompensatedSum", name := "add", desc := "(D)V" } : Jvm.MethodName) prog_2_method_3_code (5 : Nat) (Option.none : Option Jvm.ClassFile.FieldType)).before args0 about1 = true := code_word (m := ⟨2, 1⟩) (meth := k2m1) (c := k2c1) (by decide +kernel) rfl rfl rfl (by decide +kernel)
set_option maxRecDepth 65536 in
theorem w_c8 : (Jvm.Cond.code ({ cls := "com/example/patient_surfer/patientsurfer/graph/CompensatedSum", name := "dropped", desc := "(DDD)D" } : Jvm.MethodName) prog_2_method_8_code (8 : Nat) (Option.some Jvm.ClassFile.FieldType.double)).before args0 about1 = true := code_word (m := ⟨2, 4⟩) (meth := k2m4) (c := k2c4) (by decide +kernel) rfl rfl rfl (by decide +kernel)
def codes1 : List Jvm.Cond := [Jvm.Cond.code x code maxLocals ret, Jvm.Cond.code ({ cls := "com/example/patient_surfer/patientsurfer/graph/CompensatedSum", name := "<init>", desc := "()V" } : Jvm.MethodName) prog_2_method_1_code (1 : Nat) (Option.none : Option Jvm.ClassFile.FieldType), Jvm.Cond.code ({ cls := "java/lang/Object", name := "<init>", desc := "()V" } : Jvm.MethodName) object_method_1_code (1 : Nat) (Option.none : Option Jvm.ClassFile.FieldType), Jvm.Cond.code ({ cls := "com/example/patient_surfer/patientsurfer/graph/CompensatedSum", name := "value", desc := "()D" } : Jvm.MethodName) prog_2_method_7_code (1 : Nat) (Option.some Jvm.ClassFile.FieldType.double), Jvm.Cond.code ({ cls := "com/example/patient_surfer/patientsurfer/graph/CompensatedSum", name := "value", desc := "(DD)D" } : Jvm.MethodName) prog_2_method_5_code (4 : Nat) (Option.some Jvm.ClassFile.FieldType.double), Jvm.Cond.code ({ cls := "java/lang/Double", name := "isFinite", desc := "(D)Z" } : Jvm.MethodName) jdk_117_method_8_code (2 : Nat) (Option.some Jvm.ClassFile.FieldType.boolean), Jvm.Cond.code ({ cls := "java/lang/Math", name := "abs", desc := "(D)D" } : Jvm.MethodName) jdk_29_method_64_code (2 : Nat) (Option.some Jvm.ClassFile.FieldType.double), Jvm.Cond.code ({ cls := "com/example/patient_surfer/patientsurfer/graph/CompensatedSum", name := "add", desc := "(D)V" } : Jvm.MethodName) prog_2_method_3_code (5 : Nat) (Option.none : Option Jvm.ClassFile.FieldType), Jvm.Cond.code ({ cls := "com/example/patient_surfer/patientsurfer/graph/CompensatedSum", name := "dropped", desc := "(DDD)D" } : Jvm.MethodName) prog_2_method_8_code (8 : Nat) (Option.some Jvm.ClassFile.FieldType.double)]
set_option maxRecDepth 65536 in
theorem codes_eq : words1.filter isCode = codes1 := rfl
theorem w_codes : ∀ c ∈ words1.filter isCode, c.before args0 about1 = true := by
  rw [codes_eq]
  intro c hc
  simp only [codes1, List.mem_cons, List.not_mem_nil, or_false] at hc
  rcases hc with rfl | rfl | rfl | rfl | rfl | rfl | rfl | rfl | rfl
  · exact w_c0
  · exact w_c1
  · exact w_c2
  · exact w_c3
  · exact w_c4
  · exact w_c5
  · exact w_c6
  · exact w_c7
  · exact w_c8
set_option maxRecDepth 65536 in
theorem w_t1 : (words1.take 24).all (fun c => isCode c || c.before args0 about1) = true := by decide +kernel
set_option maxRecDepth 65536 in
theorem w_t2 : (words1.drop 24).all (fun c => isCode c || c.before args0 about1) = true := by decide +kernel
theorem w_tables : (allAtoms (Jvm.Cond.code x code maxLocals ret :: tables_1)).before args0 about1 = true := by
  rw [allAtoms_all]
  show words1.all (fun c => c.before args0 about1) = true
  refine all_split ?_ w_codes
  rw [← List.take_append_drop 24 words1, List.all_append, w_t1, w_t2]
  rfl
set_option maxRecDepth 65536 in
theorem w_case : (Jvm.Cond.and given_1 narrow_1).before args0 about1 = true := by decide +kernel
theorem w_applies : (headSpec (Jvm.Cond.code x code maxLocals ret :: tables_1) room_1).applies x e0.platform about1 = true :=
  (Spec.applies_iff w_frames).mpr ⟨w_running, w_runnable, w_alone, w_named, w_hears, w_ripe, w_room, w_tables⟩
theorem atStart : AtStart classFile x code maxLocals ret World_1 tables_1 room_1 Calls_1 rest_1 Pre_1 launch0 p0 e0 about1 theMethod args0 below0 :=
  ⟨lists_1, trivial, launch0.admits_env _ _ _, launch0.least_env, fairChoices_fair.cas, fairChoices_fair.clock, w_frames, w_args, w_heap, w_applies, trivial, trivial, w_case⟩
end start1
theorem witness_1 : WitnessClaimed_1 := ⟨start1.p0, start1.e0, start1.about1, start1.theMethod, start1.args0, start1.below0, start1.atStart⟩
end Jvm.Pilot.@@N@@
