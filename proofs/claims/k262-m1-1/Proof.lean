import JvmDerived
import JvmDerived.Pilot.@@N@@Statement
import JvmDerived.Pilot.@@N@@Code
set_option linter.unusedVariables false
set_option linter.unusedSimpArgs false
namespace Jvm.Pilot.@@N@@
open Jvm Jvm.ClassFile Sem Op Lib Jvm.Free Jvm.Stand Jvm.LawKit Jvm.RoadKit Bundle Jvm.Pilot.@@N@@.Jvm.D
/-- whatever is reached from v is reached from u -/
abbrev To (tb : Tables) (e : Env) (below : List Frame) (u v : State) : Prop := ∀ t, Steps tb e below v t → Steps tb e below u t
/-- a body's contract: called with as' over the heap h0 it returns, and Q holds of what it returns, of the heap and of the places written -/
abbrev Con (l : Launch) (Z : State) (y : MethodName) (bs : ByteArray) (ml : Nat) (rt : Option FieldType) (ws : List Jvm.Cond) (R : Room) (as' : Array Value) (h0 : Heap) (Q : Option Value → Heap → List Loc → Prop) : Prop :=
  MetFree l y (head1 (Jvm.Cond.code y bs ml rt :: ws) R) (fun a U => a = as' ∧ Z.Warmed39 U.vm ∧ U.heap = h0) (fun _ _ _ _ _ => True) (fun _ U o U' => ∃ v L, o = .returned v ∧ Q v U'.heap L ∧ FrameEnd U o U' L R.cells R.slots)
/-- the walk from S0 has ended well -/
def Fin (p : Program) (e : Env) (below : List Frame) (s : State) (R : Room) (S0 : State) (Q : Option Value → Heap → List Loc → Prop) : Prop :=
  ∃ s₂ o, Steps p.tables e below S0 s₂ ∧ s₂.status = .running ∧ Ended s₂ below o ∧ ∃ v L, o = .returned v ∧ Q v s₂.heap L ∧ FrameEnd s o s₂ L R.cells R.slots
section Own
variable {p : Program} {l : Launch} {e : Env} {R : Room} {s : State} {m : MethodId} {args : Array Value} {below : List Frame} {meth : Method} {c : Code} {T S0 : State} {locs : List Loc} {cells slots : Nat} {Z : State} {a0 : Array Value} {h : Heap} {Q : Option Value → Heap → List Loc → Prop}
theorem enter {y : MethodName} {bs : ByteArray} {ml : Nat} {rt : Option FieldType} {ws : List Jvm.Cond} {as' : Array Value} {h0 : Heap} {Ls : Array Slot} (hpl : plainFor y = true) (hef : ∀ m, entryFrame m as' ml = mkF m 0 Ls [])
    (body : ∀ (p : Program) (e : Env) (s : State) (m : MethodId) (below : List Frame) (meth : Method) (c : Code) (s₁ S0 : State), p.tables.exec = Jvm.exec → c.code = bs → c.maxLocals = ml → meth.sig.returnType = rt → meth.locks = false → meth.name = y.name →
      s.vm.findClass y.cls = some m.cls → Z.Warmed39 s.vm → Stand p l e R s m as' below meth c s₁ [] 0 0 → s₁.heap = h0 → To p.tables e below S0 (s₁.setTop (mkF m 0 Ls [])) → Fin p e below s R S0 Q) : Con l Z y bs ml rt ws R as' h0 Q := by
  refine MetFree.of_bodySF hpl hisR ?_
  intro p e s m args below meth c s₁ Bd hml0 hP hK
  obtain ⟨rfl, hZ, hh⟩ := hP
  exact body p e s m below meth c s₁ _ Bd.exec Bd.bytes hml0 Bd.returns Bd.notSynchronized (name_of_methodNamed Bd.named Bd.method).1 (findClass_of_methodNamed Bd.named) hZ (Stand.of_body Bd) (by rw [← hh, Bd.state]; rfl) (fun t k => castTop (hef m) k)
theorem retV (X : Stand p l e R s m args below meth c T locs cells slots) (hx : p.tables.exec = Jvm.exec) {pc : Nat} {Ls : Array Slot} {w : Value} {t : FieldType} {i : Instr} {rest : List Value} (hret : meth.sig.returnType = some t) (hlk : meth.locks = false) (hn : narrow t w = w)
    (hi : (i = .ireturn ∧ (t = .int ∨ t = .boolean ∨ t = .byte ∨ t = .char ∨ t = .short) ∧ ∃ z, w = .int z) ∨ (i = .lreturn ∧ t = .long ∧ ∃ z, w = .long z) ∨ (i = .dreturn ∧ t = .double ∧ ∃ z, w = .double z) ∨ (i = .freturn ∧ t = .float ∧ ∃ z, w = .float z) ∨ (i = .areturn ∧ t.isReference = true ∧ w.isRef = true))
    (hd : decode c.code pc = .ok (i, 1)) (k : To p.tables e below S0 (T.setTop (mkF m pc Ls (w :: rest)))) (hQ : Q (some w) T.heap locs) (hc : cells ≤ R.cells) (hs : slots ≤ R.slots) : Fin p e below s R S0 Q := by
  obtain ⟨fs, hr, hrun, hended, hW, hsame⟩ := X.leave (v := some w) (fun h => by rw [hret] at h; cases h) hlk
  exact ⟨_, _, k _ (retOut X hx hret hn hi hd hr), hrun, hended, _, _, rfl, hQ, ⟨_, rfl⟩, hW, hsame.mono hc hs⟩
theorem retInt (X : Stand p l e R s m args below meth c T locs cells slots) (hx : p.tables.exec = Jvm.exec) {pc : Nat} {Ls : Array Slot} {z : Int32} {t : FieldType} {rest : List Value} (hret : meth.sig.returnType = some t) (hlk : meth.locks = false) (ht : t = .int ∨ t = .boolean ∨ t = .byte ∨ t = .char ∨ t = .short) (hn : narrow t (.int z) = .int z)
    (hd : decode c.code pc = .ok (.ireturn, 1)) (k : To p.tables e below S0 (T.setTop (mkF m pc Ls (.int z :: rest)))) (hQ : Q (some (.int z)) T.heap locs) (hc : cells ≤ R.cells) (hs : slots ≤ R.slots) : Fin p e below s R S0 Q :=
  retV X hx hret hlk hn (Or.inl ⟨rfl, ht, z, rfl⟩) hd k hQ hc hs
theorem retRef (X : Stand p l e R s m args below meth c T locs cells slots) (hx : p.tables.exec = Jvm.exec) {pc : Nat} {Ls : Array Slot} {w : Value} {t : FieldType} {rest : List Value} (hret : meth.sig.returnType = some t) (hlk : meth.locks = false) (ht : t.isReference = true) (hw : w.isRef = true)
    (hd : decode c.code pc = .ok (.areturn, 1)) (k : To p.tables e below S0 (T.setTop (mkF m pc Ls (w :: rest)))) (hQ : Q (some w) T.heap locs) (hc : cells ≤ R.cells) (hs : slots ≤ R.slots) : Fin p e below s R S0 Q :=
  retV X hx hret hlk (by rcases ref_cases hw with rfl | ⟨z, rfl⟩ <;> cases t <;> first | rfl | (cases ht; done)) (Or.inr (Or.inr (Or.inr (Or.inr ⟨rfl, ht, hw⟩)))) hd k hQ hc hs
theorem retLong (X : Stand p l e R s m args below meth c T locs cells slots) (hx : p.tables.exec = Jvm.exec) {pc : Nat} {Ls : Array Slot} {z : Int64} {rest : List Value} (hret : meth.sig.returnType = some .long) (hlk : meth.locks = false)
    (hd : decode c.code pc = .ok (.lreturn, 1)) (k : To p.tables e below S0 (T.setTop (mkF m pc Ls (.long z :: rest)))) (hQ : Q (some (.long z)) T.heap locs) (hc : cells ≤ R.cells) (hs : slots ≤ R.slots) : Fin p e below s R S0 Q :=
  retV X hx hret hlk rfl (Or.inr (Or.inl ⟨rfl, rfl, z, rfl⟩)) hd k hQ hc hs
theorem retVoid (X : Stand p l e R s m args below meth c T locs cells slots) (hx : p.tables.exec = Jvm.exec) {pc : Nat} {Ls : Array Slot} (hret : meth.sig.returnType = none) (hlk : meth.locks = false)
    (hd : decode c.code pc = .ok (.return_, 1)) (k : To p.tables e below S0 (T.setTop (mkF m pc Ls []))) (hQ : Q none T.heap locs) (hc : cells ≤ R.cells) (hs : slots ≤ R.slots) : Fin p e below s R S0 Q := by
  obtain ⟨fs, hr, hrun, hended, hW, hsame⟩ := X.leave (v := none) (fun _ => rfl) hlk
  exact ⟨_, _, k _ (X.returnOut hx hret hd hr), hrun, hended, _, _, rfl, hQ, ⟨_, rfl⟩, hW, hsame.mono hc hs⟩
theorem backC {y : MethodName} {bs : ByteArray} {ml : Nat} {rt : Option FieldType} {rm : Room} {len W : Nat} {as' : Array Value} (hM : Con l Z y bs ml rt [] rm as' h Q) (hZ : Z.Warmed39 s.vm) (wc : (Cond.code y bs ml rt).before a0 Z = true) (wz : (Cond.initialized y.cls).before a0 Z = true) (hf : rm.frames + 1 ≤ R.frames) (hl : W + (ml + 11) + rm.locals ≤ R.locals) :
    Back l R p e below s args y len W (fun A a => a = as' ∧ A.U.heap = h ∧ A.cells + rm.cells ≤ R.cells ∧ A.slots + rm.slots ≤ R.slots) (fun A _ v B => ∃ L, Q v B.U.heap L ∧ B.locs = A.locs ++ L ∧ B.cells = A.cells + rm.cells ∧ B.slots = A.slots + rm.slots) :=
  backOf (Q := Q) hM hZ wc wz hf hl
/-! calls by a contract -/
theorem callS' (X : Stand p l e R s m args below meth c T locs cells slots) (hx : p.tables.exec = Jvm.exec) (hZ : Z.Warmed39 s.vm) {own : String} {index : Nat} {y : MethodName} {bs : ByteArray} {ml : Nat} {rt : Option FieldType} {cc ss W : Nat} {as' : Array Value} {Q : Option Value → Heap → List Loc → Prop}
    (hown : s.vm.findClass own = some m.cls) (w1 : (Cond.methodLink own index y).before a0 Z = true) (w2 : (Cond.static y).before a0 Z = true) (w3 : (Cond.initialized y.cls).before a0 Z = true) (w4 : (Cond.code y bs ml rt).before a0 Z = true) (hy : y.cls ≠ "java/lang/invoke/MethodHandle" ∧ y.cls ≠ "java/lang/invoke/VarHandle")
    (hK : Back l R p e below s args y 3 W (fun A a => a = as' ∧ A.U.heap = h ∧ A.cells + cc ≤ R.cells ∧ A.slots + ss ≤ R.slots) (fun A _ v B => ∃ L, Q v B.U.heap L ∧ B.locs = A.locs ++ L ∧ B.cells = A.cells + cc ∧ B.slots = A.slots + ss)) (eT : T.heap = h) {pc : Nat} {Ls : Array Slot} {st argsL rest : List Value} (hst : st = argsL.reverse ++ rest) (has : argsL.toArray = as') {ps : List FieldType} {r : Option FieldType} (hpd : parseMethodDescriptor y.desc = some ⟨ps, r⟩) (hlen : argsL.length = ps.length) (hsize : Ls.size = c.maxLocals)
    (hd : decode c.code pc = .ok (.invokestatic index, 3)) (hW : (rest.map fun v => v.category).sum ≤ W) (hc : cells + cc ≤ R.cells) (hs : slots + ss ≤ R.slots) (k : To p.tables e below S0 (T.setTop (mkF m pc Ls st))) :
    ∃ v T' L, Stand p l e R s m args below meth c T' (locs ++ L) (cells + cc) (slots + ss) ∧ Q v T'.heap L ∧ To p.tables e below S0 (T'.setTop (mkF m (pc + 3) Ls (v.toList ++ rest))) := by
  obtain ⟨v, vm₁, ⟨T', L', k', n'⟩, -, X', ⟨L, hQ, q1, q2, q3⟩, stp⟩ := Jvm.LawKit.callS X hx hown (mvT hZ w1) (mvT hZ w2) (mvT hZ w3) (mvT hZ w4) hy hK (g := mkF m pc Ls st) rfl hsize (argsL := argsL) (rest := rest) (lenOf hpd hlen) hst (by show 2 * 0 + _ ≤ _; omega) hd (fun _ _ => ⟨has, eT, hc, hs⟩)
  dsimp only [Pt.U, Pt.locs, Pt.cells, Pt.slots] at X' q1 q2 q3 stp hQ
  subst q1 q2 q3
  exact ⟨v, T', L, X', hQ, fun t q => k t (stp t q)⟩
theorem callC' (X : Stand p l e R s m args below meth c T locs cells slots) (hx : p.tables.exec = Jvm.exec) (hZ : Z.Warmed39 s.vm) {own : String} {index : Nat} {y : MethodName} {bs : ByteArray} {ml : Nat} {cc ss W : Nat} {as' : Array Value} {Q : Option Value → Heap → List Loc → Prop}
    (hy1 : y.name = "<init>") (hown : s.vm.findClass own = some m.cls) (w1 : (Cond.methodLink own index y).before a0 Z = true) (w2 : (Cond.instanceMethod y).before a0 Z = true) (w4 : (Cond.code y bs ml none).before a0 Z = true) (hy : y.cls ≠ "java/lang/invoke/MethodHandle" ∧ y.cls ≠ "java/lang/invoke/VarHandle")
    (hK : Back l R p e below s args y 3 W (fun A a => a = as' ∧ A.U.heap = h ∧ A.cells + cc ≤ R.cells ∧ A.slots + ss ≤ R.slots) (fun A _ v B => ∃ L, Q v B.U.heap L ∧ B.locs = A.locs ++ L ∧ B.cells = A.cells + cc ∧ B.slots = A.slots + ss)) (eT : T.heap = h) {pc : Nat} {Ls : Array Slot} {a : Addr} {st argsL rest : List Value} (hst : st = argsL.reverse ++ .ref a :: rest) (has : (.ref a :: argsL).toArray = as') {ps : List FieldType} {r : Option FieldType} (hpd : parseMethodDescriptor y.desc = some ⟨ps, r⟩) (hlen : argsL.length = ps.length) (hsize : Ls.size = c.maxLocals)
    (hd : decode c.code pc = .ok (.invokespecial index, 3)) (hW : (rest.map fun v => v.category).sum ≤ W) (hc : cells + cc ≤ R.cells) (hs : slots + ss ≤ R.slots) (k : To p.tables e below S0 (T.setTop (mkF m pc Ls st))) :
    ∃ v T' L, Stand p l e R s m args below meth c T' (locs ++ L) (cells + cc) (slots + ss) ∧ Q v T'.heap L ∧ To p.tables e below S0 (T'.setTop (mkF m (pc + 3) Ls (v.toList ++ rest))) := by
  obtain ⟨v, vm₁, ⟨T', L', k', n'⟩, -, X', ⟨L, hQ, q1, q2, q3⟩, stp⟩ := X.specialBack hx hy1 hown (mvT hZ w1) (mvT hZ w2) (mvT hZ w4) hy hK (g := mkF m pc Ls st) rfl hsize (Steps.refl _) (a := a) (argsL := argsL) (rest := rest) (lenOf hpd hlen) hst (by show 2 * 0 + _ ≤ _; omega) hd (fun _ _ => ⟨has, eT, hc, hs⟩)
  dsimp only [Pt.U, Pt.locs, Pt.cells, Pt.slots] at X' q1 q2 q3 stp hQ
  subst q1 q2 q3
  exact ⟨v, T', L, X', hQ, fun t q => k t (stp.trans q)⟩
theorem callV' (X : Stand p l e R s m args below meth c T locs cells slots) (hx : p.tables.exec = Jvm.exec) (hZ : Z.Warmed39 s.vm) {own C : String} {index : Nat} {y z : MethodName} {cc ss W : Nat} {as' : Array Value} {Q : Option Value → Heap → List Loc → Prop}
    (hown : s.vm.findClass own = some m.cls) (w1 : (Cond.methodLink own index y).before a0 Z = true) (w2 : (Cond.declares y).before a0 Z = true) (hnf : NotFace s y) (w5 : (Cond.selects C y z).before a0 Z = true) (w6 : (Cond.instanceMethod z).before a0 Z = true)
    (hy : y.cls ≠ "java/lang/invoke/MethodHandle" ∧ y.cls ≠ "java/lang/invoke/VarHandle") {b : Addr} (E : Exa Z h b C)
    (hK : Back l R p e below s args z 3 W (fun A a => a = as' ∧ A.U.heap = h ∧ A.cells + cc ≤ R.cells ∧ A.slots + ss ≤ R.slots) (fun A _ v B => ∃ L, Q v B.U.heap L ∧ B.locs = A.locs ++ L ∧ B.cells = A.cells + cc ∧ B.slots = A.slots + ss)) (eT : T.heap = h) {pc : Nat} {Ls : Array Slot} {st argsL rest : List Value} (hst : st = argsL.reverse ++ .ref b :: rest) (has : (.ref b :: argsL).toArray = as') {ps : List FieldType} {r : Option FieldType} (hpd : parseMethodDescriptor y.desc = some ⟨ps, r⟩) (hlen : argsL.length = ps.length) (hsize : Ls.size = c.maxLocals)
    (hd : decode c.code pc = .ok (.invokevirtual index, 3)) (hW : (rest.map fun v => v.category).sum ≤ W) (hc : cells + cc ≤ R.cells) (hs : slots + ss ≤ R.slots) (k : To p.tables e below S0 (T.setTop (mkF m pc Ls st))) :
    ∃ v T' L, Stand p l e R s m args below meth c T' (locs ++ L) (cells + cc) (slots + ss) ∧ Q v T'.heap L ∧ To p.tables e below S0 (T'.setTop (mkF m (pc + 3) Ls (v.toList ++ rest))) := by
  obtain ⟨cq, kq, qa, qb, qc⟩ := isOf hZ eT E
  obtain ⟨v, vm₁, ⟨T', L', k', n'⟩, -, X', ⟨L, hQ, q1, q2, q3⟩, stp⟩ := X.virtualBack hx hown (mvT hZ w1) (mvT hZ w2) hnf (mvT hZ w5) (mvT hZ w6) hy hK qa qc (g := mkF m pc Ls st) rfl hsize (Steps.refl _) (argsL := argsL) (rest := rest) (lenOf hpd hlen) hst (by show 2 * 0 + _ ≤ _; omega) hd (fun _ _ => ⟨has, eT, hc, hs⟩)
  dsimp only [Pt.U, Pt.locs, Pt.cells, Pt.slots] at X' q1 q2 q3 stp hQ
  subst q1 q2 q3
  exact ⟨v, T', L, X', hQ, fun t q => k t (stp.trans q)⟩
theorem callU' (X : Stand p l e R s m args below meth c T locs cells slots) (hx : p.tables.exec = Jvm.exec) (hZ : Z.Warmed39 s.vm) {own C owner : String} {index : Nat} {y z : MethodName} {cc ss W : Nat} {as' : Array Value} {Q : Option Value → Heap → List Loc → Prop}
    (hown : s.vm.findClass own = some m.cls) (w1 : (Cond.methodLink own index y).before a0 Z = true) (w7 : (Cond.sameMethod y.cls owner y.name y.desc).before a0 Z = true) (w2 : (Cond.declares ⟨owner, y.name, y.desc⟩).before a0 Z = true) (w5 : (Cond.selects C y z).before a0 Z = true) (w6 : (Cond.instanceMethod z).before a0 Z = true)
    (hy : owner ≠ "java/lang/invoke/MethodHandle" ∧ owner ≠ "java/lang/invoke/VarHandle") {b : Addr} (E : Exa Z h b C)
    (hK : Back l R p e below s args z 3 W (fun A a => a = as' ∧ A.U.heap = h ∧ A.cells + cc ≤ R.cells ∧ A.slots + ss ≤ R.slots) (fun A _ v B => ∃ L, Q v B.U.heap L ∧ B.locs = A.locs ++ L ∧ B.cells = A.cells + cc ∧ B.slots = A.slots + ss)) (eT : T.heap = h) {pc : Nat} {Ls : Array Slot} {st argsL rest : List Value} (hst : st = argsL.reverse ++ .ref b :: rest) (has : (.ref b :: argsL).toArray = as') {ps : List FieldType} {r : Option FieldType} (hpd : parseMethodDescriptor y.desc = some ⟨ps, r⟩) (hlen : argsL.length = ps.length) (hsize : Ls.size = c.maxLocals)
    (hd : decode c.code pc = .ok (.invokevirtual index, 3)) (hW : (rest.map fun v => v.category).sum ≤ W) (hc : cells + cc ≤ R.cells) (hs : slots + ss ≤ R.slots) (k : To p.tables e below S0 (T.setTop (mkF m pc Ls st))) :
    ∃ v T' L, Stand p l e R s m args below meth c T' (locs ++ L) (cells + cc) (slots + ss) ∧ Q v T'.heap L ∧ To p.tables e below S0 (T'.setTop (mkF m (pc + 3) Ls (v.toList ++ rest))) := by
  obtain ⟨cq, kq, qa, qb, qc⟩ := isOf hZ eT E
  obtain ⟨v, vm₁, ⟨T', L', k', n'⟩, -, X', ⟨L, hQ, q1, q2, q3⟩, stp⟩ := X.virtualBackUp hx hown (mvT hZ w1) (mvT hZ w7) (mvT hZ w2) hy (mvT hZ w5) (mvT hZ w6) hK qa qc (g := mkF m pc Ls st) rfl hsize (Steps.refl _) (argsL := argsL) (rest := rest) (lenOf hpd hlen) hst (by show 2 * 0 + _ ≤ _; omega) hd (fun _ _ => ⟨has, eT, hc, hs⟩)
  dsimp only [Pt.U, Pt.locs, Pt.cells, Pt.slots] at X' q1 q2 q3 stp hQ
  subst q1 q2 q3
  exact ⟨v, T', L, X', hQ, fun t q => k t (stp.trans q)⟩
theorem callI' (X : Stand p l e R s m args below meth c T locs cells slots) (hx : p.tables.exec = Jvm.exec) (hZ : Z.Warmed39 s.vm) {own C : String} {index count : Nat} {y z : MethodName} {cc ss W : Nat} {as' : Array Value} {Q : Option Value → Heap → List Loc → Prop}
    (hown : s.vm.findClass own = some m.cls) (w1 : (Cond.methodLink own index y).before a0 Z = true) (w2 : (Cond.declares y).before a0 Z = true) (w7 : (Cond.interfaceMethod y.cls y.cls y.name y.desc).before a0 Z = true) (hd7 : ((Cond.interfaceMethod y.cls y.cls y.name y.desc).onTables && (Cond.interfaceMethod y.cls y.cls y.name y.desc).keepsFace) = true) (w5 : (Cond.selects C y z).before a0 Z = true) (w6 : (Cond.instanceMethod z).before a0 Z = true) (w8 : (Cond.publicMethod z).before a0 Z = true) (w9 : (Cond.unhidden C y.name y.desc).before a0 Z = true) (w10 : (Cond.castable C y.cls).before a0 Z = true)
    (hy : y.cls ≠ "java/lang/invoke/MethodHandle" ∧ y.cls ≠ "java/lang/invoke/VarHandle") {b : Addr} (E : Exa Z h b C)
    (hK : Back l R p e below s args z 5 W (fun A a => a = as' ∧ A.U.heap = h ∧ A.cells + cc ≤ R.cells ∧ A.slots + ss ≤ R.slots) (fun A _ v B => ∃ L, Q v B.U.heap L ∧ B.locs = A.locs ++ L ∧ B.cells = A.cells + cc ∧ B.slots = A.slots + ss)) (eT : T.heap = h) {pc : Nat} {Ls : Array Slot} {st argsL rest : List Value} (hst : st = argsL.reverse ++ .ref b :: rest) (has : (.ref b :: argsL).toArray = as') {ps : List FieldType} {r : Option FieldType} (hpd : parseMethodDescriptor y.desc = some ⟨ps, r⟩) (hlen : argsL.length = ps.length) (hsize : Ls.size = c.maxLocals)
    (hd : decode c.code pc = .ok (.invokeinterface index count, 5)) (hW : (rest.map fun v => v.category).sum ≤ W) (hc : cells + cc ≤ R.cells) (hs : slots + ss ≤ R.slots) (k : To p.tables e below S0 (T.setTop (mkF m pc Ls st))) :
    ∃ v T' L, Stand p l e R s m args below meth c T' (locs ++ L) (cells + cc) (slots + ss) ∧ Q v T'.heap L ∧ To p.tables e below S0 (T'.setTop (mkF m (pc + 5) Ls (v.toList ++ rest))) := by
  obtain ⟨cq, kq, qa, qb, qc⟩ := isOf hZ eT E
  obtain ⟨v, vm₁, ⟨T', L', k', n'⟩, -, X', ⟨L, hQ, q1, q2, q3⟩, stp⟩ := X.interfaceBack hx hown (mvT hZ w1) (mvT hZ w2) (mvT hZ w7 hd7) (mvT hZ w5) (mvT hZ w6) (mvT hZ w8) (mvT hZ w9) (mvT hZ w10) hy hK qa qb qc (g := mkF m pc Ls st) rfl hsize (Steps.refl _) (argsL := argsL) (rest := rest) (lenOf hpd hlen) hst (by show 2 * 0 + _ ≤ _; omega) hd (fun _ _ => ⟨has, eT, hc, hs⟩)
  dsimp only [Pt.U, Pt.locs, Pt.cells, Pt.slots] at X' q1 q2 q3 stp hQ
  subst q1 q2 q3
  exact ⟨v, T', L, X', hQ, fun t q => k t (stp.trans q)⟩
theorem staOld {n0 : Nat} {C n d : String} {v : Value} (F : Sta Z Z.heap C n d v) (O : Old Z n0 h) : Sta Z h C n d v := F.ext O.2
theorem exaOld {n0 : Nat} {C : String} {a : Addr} (F : Exa Z Z.heap a C) (O : Old Z n0 h) : Exa Z h a C := F.ext O.2
theorem fldOld {n0 : Nat} {C n d : String} {a : Addr} {v : Value} (F : Fld Z Z.heap a C n d v) (O : Old Z n0 h) : Fld Z h a C n d v := F.ext O.2
theorem joinT (X : Stand p l e R s m args below meth c T locs cells slots) (eT : T.heap = h) (F : JFrame) {G : Prop} (br : (∀ T', Stand p l e R s m args below meth c T' locs cells slots → T'.heap = h → To p.tables e below S0 (T'.setTop F) → G) → G)
    (rest : ∀ T', Stand p l e R s m args below meth c T' locs cells slots → T'.heap = h → To p.tables e below S0 (T'.setTop F) → G) : G := br rest
theorem own_nz {s : State} {args : Array Value} {t : Term} {z : Int32} (e : t.eval args s none [] s = some (.int z)) (h : (Jvm.Cond.not (.eq t (.int 0))).value args s none s [] = some true) : ¬ z = (0 : Int32) := fun q => by
  subst q; have h2 := not_v h; simp [Cond.value, e, Term.eval] at h2
theorem fits_isref {C : String} {w : Value} (h : w.isRef = true) : fits (.object C) w = true := by rcases ref_cases h with rfl | ⟨z, rfl⟩ <;> rfl
theorem narrow_ref {t : FieldType} {w : Value} (h : w.isRef = true) : narrow t w = w := by rcases ref_cases h with rfl | ⟨z, rfl⟩ <;> cases t <;> rfl
end Own
def own_pick (q0 q1 q2 q3 q4 q5 : Addr) (k : Int32) : Addr := if k = 0 then q0 else if k = 1 then q1 else if k = 2 then q2 else if k = 3 then q3 else if k = 4 then q4 else q5
theorem d_method_2_code_0 : decode method_2_code 0 = .ok (.iload_n 0, 1) := by decide +kernel
theorem d_method_2_code_1 : decode method_2_code 1 = .ok (.ifCond .ne 7, 3) := by decide +kernel
theorem d_method_2_code_4 : decode method_2_code 4 = .ok (.getstatic 7, 3) := by decide +kernel
theorem d_method_2_code_7 : decode method_2_code 7 = .ok (.areturn, 1) := by decide +kernel
theorem d_method_2_code_8 : decode method_2_code 8 = .ok (.iload_n 0, 1) := by decide +kernel
theorem d_method_2_code_9 : decode method_2_code 9 = .ok (.iconst 1, 1) := by decide +kernel
theorem d_method_2_code_10 : decode method_2_code 10 = .ok (.if_icmp .ne 7, 3) := by decide +kernel
theorem d_method_2_code_13 : decode method_2_code 13 = .ok (.getstatic 13, 3) := by decide +kernel
theorem d_method_2_code_16 : decode method_2_code 16 = .ok (.areturn, 1) := by decide +kernel
theorem d_method_2_code_17 : decode method_2_code 17 = .ok (.iload_n 0, 1) := by decide +kernel
theorem d_method_2_code_18 : decode method_2_code 18 = .ok (.iconst 2, 1) := by decide +kernel
theorem d_method_2_code_19 : decode method_2_code 19 = .ok (.if_icmp .ne 7, 3) := by decide +kernel
theorem d_method_2_code_22 : decode method_2_code 22 = .ok (.getstatic 16, 3) := by decide +kernel
theorem d_method_2_code_25 : decode method_2_code 25 = .ok (.areturn, 1) := by decide +kernel
theorem d_method_2_code_26 : decode method_2_code 26 = .ok (.iload_n 0, 1) := by decide +kernel
theorem d_method_2_code_27 : decode method_2_code 27 = .ok (.iconst 3, 1) := by decide +kernel
theorem d_method_2_code_28 : decode method_2_code 28 = .ok (.if_icmp .ne 7, 3) := by decide +kernel
theorem d_method_2_code_31 : decode method_2_code 31 = .ok (.getstatic 19, 3) := by decide +kernel
theorem d_method_2_code_34 : decode method_2_code 34 = .ok (.areturn, 1) := by decide +kernel
theorem d_method_2_code_35 : decode method_2_code 35 = .ok (.iload_n 0, 1) := by decide +kernel
theorem d_method_2_code_36 : decode method_2_code 36 = .ok (.iconst 4, 1) := by decide +kernel
theorem d_method_2_code_37 : decode method_2_code 37 = .ok (.if_icmp .ne 7, 3) := by decide +kernel
theorem d_method_2_code_40 : decode method_2_code 40 = .ok (.getstatic 22, 3) := by decide +kernel
theorem d_method_2_code_43 : decode method_2_code 43 = .ok (.areturn, 1) := by decide +kernel
theorem d_method_2_code_44 : decode method_2_code 44 = .ok (.getstatic 25, 3) := by decide +kernel
theorem d_method_2_code_47 : decode method_2_code 47 = .ok (.areturn, 1) := by decide +kernel
theorem pn_0 : plainName "com/example/ceruline/ceruline/program/RelationNegationPinLaw" = true := by first | (simp [plainName, overriddenIn]; done) | decide +kernel
set_option maxRecDepth 65536 in
set_option maxHeartbeats 40000000 in
theorem rmpick (l : Launch) (Z : State) (a0 : Array Value) (hw : ∀ d ∈ tables_1, d.before a0 Z = true) (q0 : Addr) (q1 : Addr) (q2 : Addr) (q3 : Addr) (q4 : Addr) (q5 : Addr) (g : Int32) (h0 : Heap) (n0 : Nat) (hn0 : n0 ≤ h0.size) (St0 : Sta Z Z.heap "com/example/ceruline/ceruline/program/Expression$Comparison$Relation" "LESS" "Lcom/example/ceruline/ceruline/program/Expression$Comparison$Relation;" (.ref q0)) (St1 : Sta Z Z.heap "com/example/ceruline/ceruline/program/Expression$Comparison$Relation" "LESS_OR_EQUAL" "Lcom/example/ceruline/ceruline/program/Expression$Comparison$Relation;" (.ref q1)) (St2 : Sta Z Z.heap "com/example/ceruline/ceruline/program/Expression$Comparison$Relation" "GREATER" "Lcom/example/ceruline/ceruline/program/Expression$Comparison$Relation;" (.ref q2)) (St3 : Sta Z Z.heap "com/example/ceruline/ceruline/program/Expression$Comparison$Relation" "GREATER_OR_EQUAL" "Lcom/example/ceruline/ceruline/program/Expression$Comparison$Relation;" (.ref q3)) (St4 : Sta Z Z.heap "com/example/ceruline/ceruline/program/Expression$Comparison$Relation" "EQUAL" "Lcom/example/ceruline/ceruline/program/Expression$Comparison$Relation;" (.ref q4)) (St5 : Sta Z Z.heap "com/example/ceruline/ceruline/program/Expression$Comparison$Relation" "NOT_EQUAL" "Lcom/example/ceruline/ceruline/program/Expression$Comparison$Relation;" (.ref q5)) (O0 : Old Z n0 h0) :
    Con l Z (⟨"com/example/ceruline/ceruline/program/RelationNegationPinLaw", "pick", "(I)Lcom/example/ceruline/ceruline/program/Expression$Comparison$Relation;"⟩ : MethodName) method_2_code 1 (some (.object "com/example/ceruline/ceruline/program/Expression$Comparison$Relation")) [] ({ frames := 0, cells := 0, slots := 0, locals := 0 } : Room) #[(.int g)] h0 (fun v h L => v = some (.ref (own_pick q0 q1 q2 q3 q4 q5 g)) ∧ Fr n0 L ∧ h = h0) := by
  refine enter (Ls := #[.val (.int g)]) (plainFor_of_name pn_0) (fun m => by first | rfl | (simp [entryFrame, mkF, argsToLocals, Value.category]; done)) ?_
  intro p e s m below meth c s₁ S0 hx hby hml hret hlk hnm hown hZ X0 e0 k0
  have N0 := Fr.nil n0
  have k1 : To p.tables e below S0 (s₁.setTop (mkF m 1 #[.val (.int g)] [(.int g)])) := fun tt hq => k0 tt (by
    show Steps _ _ _ (s₁.setTop (mkF m 0 #[.val (.int g)] [])) _
    refine XS.iloadN X0.here hx rfl (hb hby d_method_2_code_0) rfl ?_
    show Steps _ _ _ (s₁.setTop (mkF m 1 #[.val (.int g)] [(.int g)])) _
    exact hq)
  by_cases hc1_2 : g = (0 : Int32)
  · -- pc 1, holds
    have k3 : To p.tables e below S0 (s₁.setTop (mkF m 4 #[.val (.int g)] [])) := fun tt hq => k1 tt (by
      show Steps _ _ _ (s₁.setTop (mkF m 1 #[.val (.int g)] [(.int g)])) _
      refine XS.ifNo X0.here hx rfl (hb hby d_method_2_code_1) rfl ((if0 _ _).trans (teq hc1_2).2) ?_
      show Steps _ _ _ (s₁.setTop (mkF m 4 #[.val (.int g)] [])) _
      exact hq)
    obtain ⟨T4, X4, e4, st4⟩ := getS2 X0 hx hZ hown (host := "") (Or.inl (hw _ (List.mem_of_getElem? (i := 5) rfl))) Via.refl e0 (staOld St0 O0) (g := (mkF m 4 #[.val (.int g)] [])) rfl (hb hby d_method_2_code_4)
    have k4 : To p.tables e below S0 (T4.setTop (mkF m 7 #[.val (.int g)] [(.ref q0)])) := fun tt hq => k3 tt (st4 tt hq)
    have hE := e4
    refine retRef X4 hx hret hlk rfl rfl (hb hby d_method_2_code_7) k4 ?_ (by decide) (by decide)
    try rw [hE]
    exact ⟨by unfold own_pick; rw [if_pos hc1_2], N0, rfl⟩
  · -- pc 1, holds not
    have k5 : To p.tables e below S0 (s₁.setTop (mkF m 10 #[.val (.int g)] [(.int (1 : Int32)), (.int g)])) := fun tt hq => k1 tt (by
      show Steps _ _ _ (s₁.setTop (mkF m 1 #[.val (.int g)] [(.int g)])) _
      refine XS.ifYes X0.here hx rfl (pc0 := 1) (pc' := 8) rfl (hb hby d_method_2_code_1) rfl ((if0 _ _).trans (feq hc1_2).2) (by decide) (by decide) ?_
      show Steps _ _ _ (s₁.setTop (mkF m 8 #[.val (.int g)] [])) _
      refine XS.iloadN X0.here hx rfl (hb hby d_method_2_code_8) rfl ?_
      show Steps _ _ _ (s₁.setTop (mkF m 9 #[.val (.int g)] [(.int g)])) _
      refine XS.iconst X0.here hx rfl (hb hby d_method_2_code_9) ?_
      show Steps _ _ _ (s₁.setTop (mkF m 10 #[.val (.int g)] [(.int (1 : Int32)), (.int g)])) _
      exact hq)
    by_cases hc10_6 : g = (1 : Int32)
    · -- pc 10, holds
      have k7 : To p.tables e below S0 (s₁.setTop (mkF m 13 #[.val (.int g)] [])) := fun tt hq => k5 tt (by
        show Steps _ _ _ (s₁.setTop (mkF m 10 #[.val (.int g)] [(.int (1 : Int32)), (.int g)])) _
        refine XS.icmpNo X0.here hx rfl (hb hby d_method_2_code_10) rfl (teq hc10_6).2 ?_
        show Steps _ _ _ (s₁.setTop (mkF m 13 #[.val (.int g)] [])) _
        exact hq)
      obtain ⟨T8, X8, e8, st8⟩ := getS2 X0 hx hZ hown (host := "") (Or.inl (hw _ (List.mem_of_getElem? (i := 27) rfl))) Via.refl e0 (staOld St1 O0) (g := (mkF m 13 #[.val (.int g)] [])) rfl (hb hby d_method_2_code_13)
      have k8 : To p.tables e below S0 (T8.setTop (mkF m 16 #[.val (.int g)] [(.ref q1)])) := fun tt hq => k7 tt (st8 tt hq)
      have hE := e8
      refine retRef X8 hx hret hlk rfl rfl (hb hby d_method_2_code_16) k8 ?_ (by decide) (by decide)
      try rw [hE]
      exact ⟨by unfold own_pick; rw [if_neg hc1_2, if_pos hc10_6], N0, rfl⟩
    · -- pc 10, holds not
      have k9 : To p.tables e below S0 (s₁.setTop (mkF m 19 #[.val (.int g)] [(.int (2 : Int32)), (.int g)])) := fun tt hq => k5 tt (by
        show Steps _ _ _ (s₁.setTop (mkF m 10 #[.val (.int g)] [(.int (1 : Int32)), (.int g)])) _
        refine XS.icmpYes X0.here hx rfl (pc0 := 10) (pc' := 17) rfl (hb hby d_method_2_code_10) rfl (feq hc10_6).2 (by decide) (by decide) ?_
        show Steps _ _ _ (s₁.setTop (mkF m 17 #[.val (.int g)] [])) _
        refine XS.iloadN X0.here hx rfl (hb hby d_method_2_code_17) rfl ?_
        show Steps _ _ _ (s₁.setTop (mkF m 18 #[.val (.int g)] [(.int g)])) _
        refine XS.iconst X0.here hx rfl (hb hby d_method_2_code_18) ?_
        show Steps _ _ _ (s₁.setTop (mkF m 19 #[.val (.int g)] [(.int (2 : Int32)), (.int g)])) _
        exact hq)
      by_cases hc19_10 : g = (2 : Int32)
      · -- pc 19, holds
        have k11 : To p.tables e below S0 (s₁.setTop (mkF m 22 #[.val (.int g)] [])) := fun tt hq => k9 tt (by
          show Steps _ _ _ (s₁.setTop (mkF m 19 #[.val (.int g)] [(.int (2 : Int32)), (.int g)])) _
          refine XS.icmpNo X0.here hx rfl (hb hby d_method_2_code_19) rfl (teq hc19_10).2 ?_
          show Steps _ _ _ (s₁.setTop (mkF m 22 #[.val (.int g)] [])) _
          exact hq)
        obtain ⟨T12, X12, e12, st12⟩ := getS2 X0 hx hZ hown (host := "") (Or.inl (hw _ (List.mem_of_getElem? (i := 29) rfl))) Via.refl e0 (staOld St2 O0) (g := (mkF m 22 #[.val (.int g)] [])) rfl (hb hby d_method_2_code_22)
        have k12 : To p.tables e below S0 (T12.setTop (mkF m 25 #[.val (.int g)] [(.ref q2)])) := fun tt hq => k11 tt (st12 tt hq)
        have hE := e12
        refine retRef X12 hx hret hlk rfl rfl (hb hby d_method_2_code_25) k12 ?_ (by decide) (by decide)
        try rw [hE]
        exact ⟨by unfold own_pick; rw [if_neg hc1_2, if_neg hc10_6, if_pos hc19_10], N0, rfl⟩
      · -- pc 19, holds not
        have k13 : To p.tables e below S0 (s₁.setTop (mkF m 28 #[.val (.int g)] [(.int (3 : Int32)), (.int g)])) := fun tt hq => k9 tt (by
          show Steps _ _ _ (s₁.setTop (mkF m 19 #[.val (.int g)] [(.int (2 : Int32)), (.int g)])) _
          refine XS.icmpYes X0.here hx rfl (pc0 := 19) (pc' := 26) rfl (hb hby d_method_2_code_19) rfl (feq hc19_10).2 (by decide) (by decide) ?_
          show Steps _ _ _ (s₁.setTop (mkF m 26 #[.val (.int g)] [])) _
          refine XS.iloadN X0.here hx rfl (hb hby d_method_2_code_26) rfl ?_
          show Steps _ _ _ (s₁.setTop (mkF m 27 #[.val (.int g)] [(.int g)])) _
          refine XS.iconst X0.here hx rfl (hb hby d_method_2_code_27) ?_
          show Steps _ _ _ (s₁.setTop (mkF m 28 #[.val (.int g)] [(.int (3 : Int32)), (.int g)])) _
          exact hq)
        by_cases hc28_14 : g = (3 : Int32)
        · -- pc 28, holds
          have k15 : To p.tables e below S0 (s₁.setTop (mkF m 31 #[.val (.int g)] [])) := fun tt hq => k13 tt (by
            show Steps _ _ _ (s₁.setTop (mkF m 28 #[.val (.int g)] [(.int (3 : Int32)), (.int g)])) _
            refine XS.icmpNo X0.here hx rfl (hb hby d_method_2_code_28) rfl (teq hc28_14).2 ?_
            show Steps _ _ _ (s₁.setTop (mkF m 31 #[.val (.int g)] [])) _
            exact hq)
          obtain ⟨T16, X16, e16, st16⟩ := getS2 X0 hx hZ hown (host := "") (Or.inl (hw _ (List.mem_of_getElem? (i := 31) rfl))) Via.refl e0 (staOld St3 O0) (g := (mkF m 31 #[.val (.int g)] [])) rfl (hb hby d_method_2_code_31)
          have k16 : To p.tables e below S0 (T16.setTop (mkF m 34 #[.val (.int g)] [(.ref q3)])) := fun tt hq => k15 tt (st16 tt hq)
          have hE := e16
          refine retRef X16 hx hret hlk rfl rfl (hb hby d_method_2_code_34) k16 ?_ (by decide) (by decide)
          try rw [hE]
          exact ⟨by unfold own_pick; rw [if_neg hc1_2, if_neg hc10_6, if_neg hc19_10, if_pos hc28_14], N0, rfl⟩
        · -- pc 28, holds not
          have k17 : To p.tables e below S0 (s₁.setTop (mkF m 37 #[.val (.int g)] [(.int (4 : Int32)), (.int g)])) := fun tt hq => k13 tt (by
            show Steps _ _ _ (s₁.setTop (mkF m 28 #[.val (.int g)] [(.int (3 : Int32)), (.int g)])) _
            refine XS.icmpYes X0.here hx rfl (pc0 := 28) (pc' := 35) rfl (hb hby d_method_2_code_28) rfl (feq hc28_14).2 (by decide) (by decide) ?_
            show Steps _ _ _ (s₁.setTop (mkF m 35 #[.val (.int g)] [])) _
            refine XS.iloadN X0.here hx rfl (hb hby d_method_2_code_35) rfl ?_
            show Steps _ _ _ (s₁.setTop (mkF m 36 #[.val (.int g)] [(.int g)])) _
            refine XS.iconst X0.here hx rfl (hb hby d_method_2_code_36) ?_
            show Steps _ _ _ (s₁.setTop (mkF m 37 #[.val (.int g)] [(.int (4 : Int32)), (.int g)])) _
            exact hq)
          by_cases hc37_18 : g = (4 : Int32)
          · -- pc 37, holds
            have k19 : To p.tables e below S0 (s₁.setTop (mkF m 40 #[.val (.int g)] [])) := fun tt hq => k17 tt (by
              show Steps _ _ _ (s₁.setTop (mkF m 37 #[.val (.int g)] [(.int (4 : Int32)), (.int g)])) _
              refine XS.icmpNo X0.here hx rfl (hb hby d_method_2_code_37) rfl (teq hc37_18).2 ?_
              show Steps _ _ _ (s₁.setTop (mkF m 40 #[.val (.int g)] [])) _
              exact hq)
            obtain ⟨T20, X20, e20, st20⟩ := getS2 X0 hx hZ hown (host := "") (Or.inl (hw _ (List.mem_of_getElem? (i := 35) rfl))) Via.refl e0 (staOld St4 O0) (g := (mkF m 40 #[.val (.int g)] [])) rfl (hb hby d_method_2_code_40)
            have k20 : To p.tables e below S0 (T20.setTop (mkF m 43 #[.val (.int g)] [(.ref q4)])) := fun tt hq => k19 tt (st20 tt hq)
            have hE := e20
            refine retRef X20 hx hret hlk rfl rfl (hb hby d_method_2_code_43) k20 ?_ (by decide) (by decide)
            try rw [hE]
            exact ⟨by unfold own_pick; rw [if_neg hc1_2, if_neg hc10_6, if_neg hc19_10, if_neg hc28_14, if_pos hc37_18], N0, rfl⟩
          · -- pc 37, holds not
            have k21 : To p.tables e below S0 (s₁.setTop (mkF m 44 #[.val (.int g)] [])) := fun tt hq => k17 tt (by
              show Steps _ _ _ (s₁.setTop (mkF m 37 #[.val (.int g)] [(.int (4 : Int32)), (.int g)])) _
              refine XS.icmpYes X0.here hx rfl (pc0 := 37) (pc' := 44) rfl (hb hby d_method_2_code_37) rfl (feq hc37_18).2 (by decide) (by decide) ?_
              show Steps _ _ _ (s₁.setTop (mkF m 44 #[.val (.int g)] [])) _
              exact hq)
            obtain ⟨T22, X22, e22, st22⟩ := getS2 X0 hx hZ hown (host := "") (Or.inl (hw _ (List.mem_of_getElem? (i := 39) rfl))) Via.refl e0 (staOld St5 O0) (g := (mkF m 44 #[.val (.int g)] [])) rfl (hb hby d_method_2_code_44)
            have k22 : To p.tables e below S0 (T22.setTop (mkF m 47 #[.val (.int g)] [(.ref q5)])) := fun tt hq => k21 tt (st22 tt hq)
            have hE := e22
            refine retRef X22 hx hret hlk rfl rfl (hb hby d_method_2_code_47) k22 ?_ (by decide) (by decide)
            try rw [hE]
            exact ⟨by unfold own_pick; rw [if_neg hc1_2, if_neg hc10_6, if_neg hc19_10, if_neg hc28_14, if_neg hc37_18], N0, rfl⟩
theorem d_jdk_37_method_2_code_0 : decode jdk_37_method_2_code 0 = .ok (.aload_n 0, 1) := by decide +kernel
theorem d_jdk_37_method_2_code_1 : decode jdk_37_method_2_code 1 = .ok (.getfield 7, 3) := by decide +kernel
theorem d_jdk_37_method_2_code_4 : decode jdk_37_method_2_code 4 = .ok (.ireturn, 1) := by decide +kernel
theorem pn_1 : plainName "java/lang/Enum" = true := by first | (simp [plainName, overriddenIn]; done) | decide +kernel
set_option maxRecDepth 65536 in
set_option maxHeartbeats 40000000 in
theorem rmord (l : Launch) (Z : State) (a0 : Array Value) (hw : ∀ d ∈ tables_1, d.before a0 Z = true) (a : Addr) (z : Int32) (h0 : Heap) (n0 : Nat) (hn0 : n0 ≤ h0.size) (F : Fld Z h0 a "java/lang/Enum" "ordinal" "I" (.int z)) :
    Con l Z (⟨"java/lang/Enum", "ordinal", "()I"⟩ : MethodName) jdk_37_method_2_code 1 (some .int) [] ({ frames := 0, cells := 0, slots := 0, locals := 0 } : Room) #[(.ref a)] h0 (fun v h L => v = some (.int z) ∧ Fr n0 L ∧ h = h0) := by
  refine enter (Ls := #[.val (.ref a)]) (plainFor_of_name pn_1) (fun m => by first | rfl | (simp [entryFrame, mkF, argsToLocals, Value.category]; done)) ?_
  intro p e s m below meth c s₁ S0 hx hby hml hret hlk hnm hown hZ X0 e0 k0
  have N0 := Fr.nil n0
  have k1 : To p.tables e below S0 (s₁.setTop (mkF m 1 #[.val (.ref a)] [(.ref a)])) := fun tt hq => k0 tt (by
    show Steps _ _ _ (s₁.setTop (mkF m 0 #[.val (.ref a)] [])) _
    refine XS.aloadN X0.here hx rfl (hb hby d_jdk_37_method_2_code_0) rfl rfl ?_
    show Steps _ _ _ (s₁.setTop (mkF m 1 #[.val (.ref a)] [(.ref a)])) _
    exact hq)
  obtain ⟨T2, X2, e2, st2⟩ := getF X0 hx hZ hown (host := "") (Or.inl (hw _ (List.mem_of_getElem? (i := 20) rfl))) Via.refl e0 F (g := (mkF m 1 #[.val (.ref a)] [(.ref a)])) rfl rfl (hb hby d_jdk_37_method_2_code_1)
  have k2 : To p.tables e below S0 (T2.setTop (mkF m 4 #[.val (.ref a)] [(.int z)])) := fun tt hq => k1 tt (st2 tt hq)
  have hE := e2
  refine retInt X2 hx hret hlk (by simp) rfl (hb hby d_jdk_37_method_2_code_4) k2 ?_ (by decide) (by decide)
  try rw [hE]
  exact ⟨rfl, N0, rfl⟩
theorem d_prog_77_method_4_code_0 : decode prog_77_method_4_code 0 = .ok (.aload_n 0, 1) := by decide +kernel
theorem d_prog_77_method_4_code_1 : decode prog_77_method_4_code 1 = .ok (.invokevirtual 41, 3) := by decide +kernel
theorem d_prog_77_method_4_code_4 : decode prog_77_method_4_code 4 = .ok (.tableswitch 40 0 5 #[50, 56, 62, 68, 74, 80], 40) := by decide +kernel
theorem d_prog_77_method_4_code_44 : decode prog_77_method_4_code 44 = .ok (.new 45, 3) := by decide +kernel
theorem d_prog_77_method_4_code_47 : decode prog_77_method_4_code 47 = .ok (.dup, 1) := by decide +kernel
theorem d_prog_77_method_4_code_48 : decode prog_77_method_4_code 48 = .ok (.aconst_null, 1) := by decide +kernel
theorem d_prog_77_method_4_code_49 : decode prog_77_method_4_code 49 = .ok (.aconst_null, 1) := by decide +kernel
theorem d_prog_77_method_4_code_50 : decode prog_77_method_4_code 50 = .ok (.invokespecial 47, 3) := by decide +kernel
theorem d_prog_77_method_4_code_53 : decode prog_77_method_4_code 53 = .ok (.athrow, 1) := by decide +kernel
theorem d_prog_77_method_4_code_54 : decode prog_77_method_4_code 54 = .ok (.getstatic 13, 3) := by decide +kernel
theorem d_prog_77_method_4_code_57 : decode prog_77_method_4_code 57 = .ok (.goto 30, 3) := by decide +kernel
theorem d_prog_77_method_4_code_60 : decode prog_77_method_4_code 60 = .ok (.getstatic 10, 3) := by decide +kernel
theorem d_prog_77_method_4_code_63 : decode prog_77_method_4_code 63 = .ok (.goto 24, 3) := by decide +kernel
theorem d_prog_77_method_4_code_66 : decode prog_77_method_4_code 66 = .ok (.getstatic 7, 3) := by decide +kernel
theorem d_prog_77_method_4_code_69 : decode prog_77_method_4_code 69 = .ok (.goto 18, 3) := by decide +kernel
theorem d_prog_77_method_4_code_72 : decode prog_77_method_4_code 72 = .ok (.getstatic 3, 3) := by decide +kernel
theorem d_prog_77_method_4_code_75 : decode prog_77_method_4_code 75 = .ok (.goto 12, 3) := by decide +kernel
theorem d_prog_77_method_4_code_78 : decode prog_77_method_4_code 78 = .ok (.getstatic 19, 3) := by decide +kernel
theorem d_prog_77_method_4_code_81 : decode prog_77_method_4_code 81 = .ok (.goto 6, 3) := by decide +kernel
theorem d_prog_77_method_4_code_84 : decode prog_77_method_4_code 84 = .ok (.getstatic 16, 3) := by decide +kernel
theorem d_prog_77_method_4_code_87 : decode prog_77_method_4_code 87 = .ok (.areturn, 1) := by decide +kernel
theorem pn_2 : plainName "com/example/ceruline/ceruline/program/Expression$Comparison$Relation" = true := by first | (simp [plainName, overriddenIn]; done) | decide +kernel
theorem pd_0 : parseMethodDescriptor "()I" = some ⟨[], some .int⟩ := by decide +kernel
set_option maxRecDepth 65536 in
set_option maxHeartbeats 40000000 in
theorem rmneg0 (l : Launch) (Z : State) (a0 : Array Value) (hw : ∀ d ∈ tables_1, d.before a0 Z = true) (q0 : Addr) (q1 : Addr) (q2 : Addr) (q3 : Addr) (q4 : Addr) (q5 : Addr) (h0 : Heap) (n0 : Nat) (hn0 : n0 ≤ h0.size) (St0 : Sta Z Z.heap "com/example/ceruline/ceruline/program/Expression$Comparison$Relation" "LESS" "Lcom/example/ceruline/ceruline/program/Expression$Comparison$Relation;" (.ref q0)) (St1 : Sta Z Z.heap "com/example/ceruline/ceruline/program/Expression$Comparison$Relation" "LESS_OR_EQUAL" "Lcom/example/ceruline/ceruline/program/Expression$Comparison$Relation;" (.ref q1)) (St2 : Sta Z Z.heap "com/example/ceruline/ceruline/program/Expression$Comparison$Relation" "GREATER" "Lcom/example/ceruline/ceruline/program/Expression$Comparison$Relation;" (.ref q2)) (St3 : Sta Z Z.heap "com/example/ceruline/ceruline/program/Expression$Comparison$Relation" "GREATER_OR_EQUAL" "Lcom/example/ceruline/ceruline/program/Expression$Comparison$Relation;" (.ref q3)) (St4 : Sta Z Z.heap "com/example/ceruline/ceruline/program/Expression$Comparison$Relation" "EQUAL" "Lcom/example/ceruline/ceruline/program/Expression$Comparison$Relation;" (.ref q4)) (St5 : Sta Z Z.heap "com/example/ceruline/ceruline/program/Expression$Comparison$Relation" "NOT_EQUAL" "Lcom/example/ceruline/ceruline/program/Expression$Comparison$Relation;" (.ref q5)) (A0 : Exa Z Z.heap q0 "com/example/ceruline/ceruline/program/Expression$Comparison$Relation") (A1 : Exa Z Z.heap q1 "com/example/ceruline/ceruline/program/Expression$Comparison$Relation") (A2 : Exa Z Z.heap q2 "com/example/ceruline/ceruline/program/Expression$Comparison$Relation") (A3 : Exa Z Z.heap q3 "com/example/ceruline/ceruline/program/Expression$Comparison$Relation") (A4 : Exa Z Z.heap q4 "com/example/ceruline/ceruline/program/Expression$Comparison$Relation") (A5 : Exa Z Z.heap q5 "com/example/ceruline/ceruline/program/Expression$Comparison$Relation") (F0 : Fld Z Z.heap q0 "java/lang/Enum" "ordinal" "I" (.int (0 : Int32))) (F1 : Fld Z Z.heap q1 "java/lang/Enum" "ordinal" "I" (.int (1 : Int32))) (F2 : Fld Z Z.heap q2 "java/lang/Enum" "ordinal" "I" (.int (2 : Int32))) (F3 : Fld Z Z.heap q3 "java/lang/Enum" "ordinal" "I" (.int (3 : Int32))) (F4 : Fld Z Z.heap q4 "java/lang/Enum" "ordinal" "I" (.int (4 : Int32))) (F5 : Fld Z Z.heap q5 "java/lang/Enum" "ordinal" "I" (.int (5 : Int32))) (O0 : Old Z n0 h0) :
    Con l Z (⟨"com/example/ceruline/ceruline/program/Expression$Comparison$Relation", "negation", "()Lcom/example/ceruline/ceruline/program/Expression$Comparison$Relation;"⟩ : MethodName) prog_77_method_4_code 1 (some (.object "com/example/ceruline/ceruline/program/Expression$Comparison$Relation")) [] ({ frames := 1, cells := 0, slots := 0, locals := 16 } : Room) #[(.ref q0)] h0 (fun v h L => v = some (.ref q3) ∧ Fr n0 L ∧ h = h0) := by
  refine enter (Ls := #[.val (.ref q0)]) (plainFor_of_name pn_2) (fun m => by first | rfl | (simp [entryFrame, mkF, argsToLocals, Value.category]; done)) ?_
  intro p e s m below meth c s₁ S0 hx hby hml hret hlk hnm hown hZ X0 e0 k0
  have N0 := Fr.nil n0
  have k1 : To p.tables e below S0 (s₁.setTop (mkF m 1 #[.val (.ref q0)] [(.ref q0)])) := fun tt hq => k0 tt (by
    show Steps _ _ _ (s₁.setTop (mkF m 0 #[.val (.ref q0)] [])) _
    refine XS.aloadN X0.here hx rfl (hb hby d_prog_77_method_4_code_0) rfl rfl ?_
    show Steps _ _ _ (s₁.setTop (mkF m 1 #[.val (.ref q0)] [(.ref q0)])) _
    exact hq)
  obtain ⟨_, T2, L2, X2, ⟨rfl, Nq2, eq2⟩, k2a⟩ := callU' X0 hx hZ (owner := "java/lang/Enum") (y := (⟨"com/example/ceruline/ceruline/program/Expression$Comparison$Relation", "ordinal", "()I"⟩ : MethodName)) (z := (⟨"java/lang/Enum", "ordinal", "()I"⟩ : MethodName)) hown (hw _ (List.mem_of_getElem? (i := 13) rfl)) (hw _ (List.mem_of_getElem? (i := 14) rfl)) (hw _ (List.mem_of_getElem? (i := 15) rfl)) (hw _ (List.mem_of_getElem? (i := 17) rfl)) (hw _ (List.mem_of_getElem? (i := 16) rfl)) (by decide) (exaOld A0 O0) (backC (W := 0) (rmord l Z a0 hw q0 (0 : Int32) h0 n0 (by omega) (fldOld F0 O0)) hZ (hw _ (List.mem_of_getElem? (i := 19) rfl)) (hw _ (List.mem_of_getElem? (i := 18) rfl)) (by decide) (by decide)) e0 (argsL := []) (rest := []) rfl rfl pd_0 rfl (by rw [hml]; rfl) (hb hby d_prog_77_method_4_code_1) (Nat.le_of_eq rfl) (by decide) (by decide) k1
  have k2 : To p.tables e below S0 (T2.setTop (mkF m 4 #[.val (.ref q0)] [(.int (0 : Int32))])) := k2a
  have N2 := N0.app Nq2
  have e2 : T2.heap = h0 := eq2
  have k3 : To p.tables e below S0 (T2.setTop (mkF m 54 #[.val (.ref q0)] [])) := fun tt hq => k2 tt (by
    show Steps _ _ _ (T2.setTop (mkF m 4 #[.val (.ref q0)] [(.int (0 : Int32))])) _
    refine XS.tswIn X2.here hx rfl (pc0 := 4) (pc' := 54) (o := 50) rfl (hb hby d_prog_77_method_4_code_4) rfl (by decide) (by decide) (by decide) (by decide) ?_
    show Steps _ _ _ (T2.setTop (mkF m 54 #[.val (.ref q0)] [])) _
    exact hq)
  obtain ⟨T4, X4, e4, st4⟩ := getS2 X2 hx hZ hown (host := "") (Or.inl (hw _ (List.mem_of_getElem? (i := 22) rfl))) Via.refl e2 (staOld St3 O0) (g := (mkF m 54 #[.val (.ref q0)] [])) rfl (hb hby d_prog_77_method_4_code_54)
  have k4 : To p.tables e below S0 (T4.setTop (mkF m 57 #[.val (.ref q0)] [(.ref q3)])) := fun tt hq => k3 tt (st4 tt hq)
  have k5 : To p.tables e below S0 (T4.setTop (mkF m 87 #[.val (.ref q0)] [(.ref q3)])) := fun tt hq => k4 tt (by
    show Steps _ _ _ (T4.setTop (mkF m 57 #[.val (.ref q0)] [(.ref q3)])) _
    refine XS.goto X4.here hx rfl (pc0 := 57) (pc' := 87) rfl (hb hby d_prog_77_method_4_code_57) (by decide) (by decide) ?_
    show Steps _ _ _ (T4.setTop (mkF m 87 #[.val (.ref q0)] [(.ref q3)])) _
    exact hq)
  have hE := e4
  refine retRef X4 hx hret hlk rfl rfl (hb hby d_prog_77_method_4_code_87) k5 ?_ (by decide) (by decide)
  try rw [hE]
  exact ⟨rfl, N2, rfl⟩
set_option maxRecDepth 65536 in
set_option maxHeartbeats 40000000 in
theorem rmneg1 (l : Launch) (Z : State) (a0 : Array Value) (hw : ∀ d ∈ tables_1, d.before a0 Z = true) (q0 : Addr) (q1 : Addr) (q2 : Addr) (q3 : Addr) (q4 : Addr) (q5 : Addr) (h0 : Heap) (n0 : Nat) (hn0 : n0 ≤ h0.size) (St0 : Sta Z Z.heap "com/example/ceruline/ceruline/program/Expression$Comparison$Relation" "LESS" "Lcom/example/ceruline/ceruline/program/Expression$Comparison$Relation;" (.ref q0)) (St1 : Sta Z Z.heap "com/example/ceruline/ceruline/program/Expression$Comparison$Relation" "LESS_OR_EQUAL" "Lcom/example/ceruline/ceruline/program/Expression$Comparison$Relation;" (.ref q1)) (St2 : Sta Z Z.heap "com/example/ceruline/ceruline/program/Expression$Comparison$Relation" "GREATER" "Lcom/example/ceruline/ceruline/program/Expression$Comparison$Relation;" (.ref q2)) (St3 : Sta Z Z.heap "com/example/ceruline/ceruline/program/Expression$Comparison$Relation" "GREATER_OR_EQUAL" "Lcom/example/ceruline/ceruline/program/Expression$Comparison$Relation;" (.ref q3)) (St4 : Sta Z Z.heap "com/example/ceruline/ceruline/program/Expression$Comparison$Relation" "EQUAL" "Lcom/example/ceruline/ceruline/program/Expression$Comparison$Relation;" (.ref q4)) (St5 : Sta Z Z.heap "com/example/ceruline/ceruline/program/Expression$Comparison$Relation" "NOT_EQUAL" "Lcom/example/ceruline/ceruline/program/Expression$Comparison$Relation;" (.ref q5)) (A0 : Exa Z Z.heap q0 "com/example/ceruline/ceruline/program/Expression$Comparison$Relation") (A1 : Exa Z Z.heap q1 "com/example/ceruline/ceruline/program/Expression$Comparison$Relation") (A2 : Exa Z Z.heap q2 "com/example/ceruline/ceruline/program/Expression$Comparison$Relation") (A3 : Exa Z Z.heap q3 "com/example/ceruline/ceruline/program/Expression$Comparison$Relation") (A4 : Exa Z Z.heap q4 "com/example/ceruline/ceruline/program/Expression$Comparison$Relation") (A5 : Exa Z Z.heap q5 "com/example/ceruline/ceruline/program/Expression$Comparison$Relation") (F0 : Fld Z Z.heap q0 "java/lang/Enum" "ordinal" "I" (.int (0 : Int32))) (F1 : Fld Z Z.heap q1 "java/lang/Enum" "ordinal" "I" (.int (1 : Int32))) (F2 : Fld Z Z.heap q2 "java/lang/Enum" "ordinal" "I" (.int (2 : Int32))) (F3 : Fld Z Z.heap q3 "java/lang/Enum" "ordinal" "I" (.int (3 : Int32))) (F4 : Fld Z Z.heap q4 "java/lang/Enum" "ordinal" "I" (.int (4 : Int32))) (F5 : Fld Z Z.heap q5 "java/lang/Enum" "ordinal" "I" (.int (5 : Int32))) (O0 : Old Z n0 h0) :
    Con l Z (⟨"com/example/ceruline/ceruline/program/Expression$Comparison$Relation", "negation", "()Lcom/example/ceruline/ceruline/program/Expression$Comparison$Relation;"⟩ : MethodName) prog_77_method_4_code 1 (some (.object "com/example/ceruline/ceruline/program/Expression$Comparison$Relation")) [] ({ frames := 1, cells := 0, slots := 0, locals := 16 } : Room) #[(.ref q1)] h0 (fun v h L => v = some (.ref q2) ∧ Fr n0 L ∧ h = h0) := by
  refine enter (Ls := #[.val (.ref q1)]) (plainFor_of_name pn_2) (fun m => by first | rfl | (simp [entryFrame, mkF, argsToLocals, Value.category]; done)) ?_
  intro p e s m below meth c s₁ S0 hx hby hml hret hlk hnm hown hZ X0 e0 k0
  have N0 := Fr.nil n0
  have k1 : To p.tables e below S0 (s₁.setTop (mkF m 1 #[.val (.ref q1)] [(.ref q1)])) := fun tt hq => k0 tt (by
    show Steps _ _ _ (s₁.setTop (mkF m 0 #[.val (.ref q1)] [])) _
    refine XS.aloadN X0.here hx rfl (hb hby d_prog_77_method_4_code_0) rfl rfl ?_
    show Steps _ _ _ (s₁.setTop (mkF m 1 #[.val (.ref q1)] [(.ref q1)])) _
    exact hq)
  obtain ⟨_, T2, L2, X2, ⟨rfl, Nq2, eq2⟩, k2a⟩ := callU' X0 hx hZ (owner := "java/lang/Enum") (y := (⟨"com/example/ceruline/ceruline/program/Expression$Comparison$Relation", "ordinal", "()I"⟩ : MethodName)) (z := (⟨"java/lang/Enum", "ordinal", "()I"⟩ : MethodName)) hown (hw _ (List.mem_of_getElem? (i := 13) rfl)) (hw _ (List.mem_of_getElem? (i := 14) rfl)) (hw _ (List.mem_of_getElem? (i := 15) rfl)) (hw _ (List.mem_of_getElem? (i := 17) rfl)) (hw _ (List.mem_of_getElem? (i := 16) rfl)) (by decide) (exaOld A1 O0) (backC (W := 0) (rmord l Z a0 hw q1 (1 : Int32) h0 n0 (by omega) (fldOld F1 O0)) hZ (hw _ (List.mem_of_getElem? (i := 19) rfl)) (hw _ (List.mem_of_getElem? (i := 18) rfl)) (by decide) (by decide)) e0 (argsL := []) (rest := []) rfl rfl pd_0 rfl (by rw [hml]; rfl) (hb hby d_prog_77_method_4_code_1) (Nat.le_of_eq rfl) (by decide) (by decide) k1
  have k2 : To p.tables e below S0 (T2.setTop (mkF m 4 #[.val (.ref q1)] [(.int (1 : Int32))])) := k2a
  have N2 := N0.app Nq2
  have e2 : T2.heap = h0 := eq2
  have k3 : To p.tables e below S0 (T2.setTop (mkF m 60 #[.val (.ref q1)] [])) := fun tt hq => k2 tt (by
    show Steps _ _ _ (T2.setTop (mkF m 4 #[.val (.ref q1)] [(.int (1 : Int32))])) _
    refine XS.tswIn X2.here hx rfl (pc0 := 4) (pc' := 60) (o := 56) rfl (hb hby d_prog_77_method_4_code_4) rfl (by decide) (by decide) (by decide) (by decide) ?_
    show Steps _ _ _ (T2.setTop (mkF m 60 #[.val (.ref q1)] [])) _
    exact hq)
  obtain ⟨T4, X4, e4, st4⟩ := getS2 X2 hx hZ hown (host := "") (Or.inl (hw _ (List.mem_of_getElem? (i := 33) rfl))) Via.refl e2 (staOld St2 O0) (g := (mkF m 60 #[.val (.ref q1)] [])) rfl (hb hby d_prog_77_method_4_code_60)
  have k4 : To p.tables e below S0 (T4.setTop (mkF m 63 #[.val (.ref q1)] [(.ref q2)])) := fun tt hq => k3 tt (st4 tt hq)
  have k5 : To p.tables e below S0 (T4.setTop (mkF m 87 #[.val (.ref q1)] [(.ref q2)])) := fun tt hq => k4 tt (by
    show Steps _ _ _ (T4.setTop (mkF m 63 #[.val (.ref q1)] [(.ref q2)])) _
    refine XS.goto X4.here hx rfl (pc0 := 63) (pc' := 87) rfl (hb hby d_prog_77_method_4_code_63) (by decide) (by decide) ?_
    show Steps _ _ _ (T4.setTop (mkF m 87 #[.val (.ref q1)] [(.ref q2)])) _
    exact hq)
  have hE := e4
  refine retRef X4 hx hret hlk rfl rfl (hb hby d_prog_77_method_4_code_87) k5 ?_ (by decide) (by decide)
  try rw [hE]
  exact ⟨rfl, N2, rfl⟩
set_option maxRecDepth 65536 in
set_option maxHeartbeats 40000000 in
theorem rmneg2 (l : Launch) (Z : State) (a0 : Array Value) (hw : ∀ d ∈ tables_1, d.before a0 Z = true) (q0 : Addr) (q1 : Addr) (q2 : Addr) (q3 : Addr) (q4 : Addr) (q5 : Addr) (h0 : Heap) (n0 : Nat) (hn0 : n0 ≤ h0.size) (St0 : Sta Z Z.heap "com/example/ceruline/ceruline/program/Expression$Comparison$Relation" "LESS" "Lcom/example/ceruline/ceruline/program/Expression$Comparison$Relation;" (.ref q0)) (St1 : Sta Z Z.heap "com/example/ceruline/ceruline/program/Expression$Comparison$Relation" "LESS_OR_EQUAL" "Lcom/example/ceruline/ceruline/program/Expression$Comparison$Relation;" (.ref q1)) (St2 : Sta Z Z.heap "com/example/ceruline/ceruline/program/Expression$Comparison$Relation" "GREATER" "Lcom/example/ceruline/ceruline/program/Expression$Comparison$Relation;" (.ref q2)) (St3 : Sta Z Z.heap "com/example/ceruline/ceruline/program/Expression$Comparison$Relation" "GREATER_OR_EQUAL" "Lcom/example/ceruline/ceruline/program/Expression$Comparison$Relation;" (.ref q3)) (St4 : Sta Z Z.heap "com/example/ceruline/ceruline/program/Expression$Comparison$Relation" "EQUAL" "Lcom/example/ceruline/ceruline/program/Expression$Comparison$Relation;" (.ref q4)) (St5 : Sta Z Z.heap "com/example/ceruline/ceruline/program/Expression$Comparison$Relation" "NOT_EQUAL" "Lcom/example/ceruline/ceruline/program/Expression$Comparison$Relation;" (.ref q5)) (A0 : Exa Z Z.heap q0 "com/example/ceruline/ceruline/program/Expression$Comparison$Relation") (A1 : Exa Z Z.heap q1 "com/example/ceruline/ceruline/program/Expression$Comparison$Relation") (A2 : Exa Z Z.heap q2 "com/example/ceruline/ceruline/program/Expression$Comparison$Relation") (A3 : Exa Z Z.heap q3 "com/example/ceruline/ceruline/program/Expression$Comparison$Relation") (A4 : Exa Z Z.heap q4 "com/example/ceruline/ceruline/program/Expression$Comparison$Relation") (A5 : Exa Z Z.heap q5 "com/example/ceruline/ceruline/program/Expression$Comparison$Relation") (F0 : Fld Z Z.heap q0 "java/lang/Enum" "ordinal" "I" (.int (0 : Int32))) (F1 : Fld Z Z.heap q1 "java/lang/Enum" "ordinal" "I" (.int (1 : Int32))) (F2 : Fld Z Z.heap q2 "java/lang/Enum" "ordinal" "I" (.int (2 : Int32))) (F3 : Fld Z Z.heap q3 "java/lang/Enum" "ordinal" "I" (.int (3 : Int32))) (F4 : Fld Z Z.heap q4 "java/lang/Enum" "ordinal" "I" (.int (4 : Int32))) (F5 : Fld Z Z.heap q5 "java/lang/Enum" "ordinal" "I" (.int (5 : Int32))) (O0 : Old Z n0 h0) :
    Con l Z (⟨"com/example/ceruline/ceruline/program/Expression$Comparison$Relation", "negation", "()Lcom/example/ceruline/ceruline/program/Expression$Comparison$Relation;"⟩ : MethodName) prog_77_method_4_code 1 (some (.object "com/example/ceruline/ceruline/program/Expression$Comparison$Relation")) [] ({ frames := 1, cells := 0, slots := 0, locals := 16 } : Room) #[(.ref q2)] h0 (fun v h L => v = some (.ref q1) ∧ Fr n0 L ∧ h = h0) := by
  refine enter (Ls := #[.val (.ref q2)]) (plainFor_of_name pn_2) (fun m => by first | rfl | (simp [entryFrame, mkF, argsToLocals, Value.category]; done)) ?_
  intro p e s m below meth c s₁ S0 hx hby hml hret hlk hnm hown hZ X0 e0 k0
  have N0 := Fr.nil n0
  have k1 : To p.tables e below S0 (s₁.setTop (mkF m 1 #[.val (.ref q2)] [(.ref q2)])) := fun tt hq => k0 tt (by
    show Steps _ _ _ (s₁.setTop (mkF m 0 #[.val (.ref q2)] [])) _
    refine XS.aloadN X0.here hx rfl (hb hby d_prog_77_method_4_code_0) rfl rfl ?_
    show Steps _ _ _ (s₁.setTop (mkF m 1 #[.val (.ref q2)] [(.ref q2)])) _
    exact hq)
  obtain ⟨_, T2, L2, X2, ⟨rfl, Nq2, eq2⟩, k2a⟩ := callU' X0 hx hZ (owner := "java/lang/Enum") (y := (⟨"com/example/ceruline/ceruline/program/Expression$Comparison$Relation", "ordinal", "()I"⟩ : MethodName)) (z := (⟨"java/lang/Enum", "ordinal", "()I"⟩ : MethodName)) hown (hw _ (List.mem_of_getElem? (i := 13) rfl)) (hw _ (List.mem_of_getElem? (i := 14) rfl)) (hw _ (List.mem_of_getElem? (i := 15) rfl)) (hw _ (List.mem_of_getElem? (i := 17) rfl)) (hw _ (List.mem_of_getElem? (i := 16) rfl)) (by decide) (exaOld A2 O0) (backC (W := 0) (rmord l Z a0 hw q2 (2 : Int32) h0 n0 (by omega) (fldOld F2 O0)) hZ (hw _ (List.mem_of_getElem? (i := 19) rfl)) (hw _ (List.mem_of_getElem? (i := 18) rfl)) (by decide) (by decide)) e0 (argsL := []) (rest := []) rfl rfl pd_0 rfl (by rw [hml]; rfl) (hb hby d_prog_77_method_4_code_1) (Nat.le_of_eq rfl) (by decide) (by decide) k1
  have k2 : To p.tables e below S0 (T2.setTop (mkF m 4 #[.val (.ref q2)] [(.int (2 : Int32))])) := k2a
  have N2 := N0.app Nq2
  have e2 : T2.heap = h0 := eq2
  have k3 : To p.tables e below S0 (T2.setTop (mkF m 66 #[.val (.ref q2)] [])) := fun tt hq => k2 tt (by
    show Steps _ _ _ (T2.setTop (mkF m 4 #[.val (.ref q2)] [(.int (2 : Int32))])) _
    refine XS.tswIn X2.here hx rfl (pc0 := 4) (pc' := 66) (o := 62) rfl (hb hby d_prog_77_method_4_code_4) rfl (by decide) (by decide) (by decide) (by decide) ?_
    show Steps _ _ _ (T2.setTop (mkF m 66 #[.val (.ref q2)] [])) _
    exact hq)
  obtain ⟨T4, X4, e4, st4⟩ := getS2 X2 hx hZ hown (host := "") (Or.inl (hw _ (List.mem_of_getElem? (i := 34) rfl))) Via.refl e2 (staOld St1 O0) (g := (mkF m 66 #[.val (.ref q2)] [])) rfl (hb hby d_prog_77_method_4_code_66)
  have k4 : To p.tables e below S0 (T4.setTop (mkF m 69 #[.val (.ref q2)] [(.ref q1)])) := fun tt hq => k3 tt (st4 tt hq)
  have k5 : To p.tables e below S0 (T4.setTop (mkF m 87 #[.val (.ref q2)] [(.ref q1)])) := fun tt hq => k4 tt (by
    show Steps _ _ _ (T4.setTop (mkF m 69 #[.val (.ref q2)] [(.ref q1)])) _
    refine XS.goto X4.here hx rfl (pc0 := 69) (pc' := 87) rfl (hb hby d_prog_77_method_4_code_69) (by decide) (by decide) ?_
    show Steps _ _ _ (T4.setTop (mkF m 87 #[.val (.ref q2)] [(.ref q1)])) _
    exact hq)
  have hE := e4
  refine retRef X4 hx hret hlk rfl rfl (hb hby d_prog_77_method_4_code_87) k5 ?_ (by decide) (by decide)
  try rw [hE]
  exact ⟨rfl, N2, rfl⟩
set_option maxRecDepth 65536 in
set_option maxHeartbeats 40000000 in
theorem rmneg3 (l : Launch) (Z : State) (a0 : Array Value) (hw : ∀ d ∈ tables_1, d.before a0 Z = true) (q0 : Addr) (q1 : Addr) (q2 : Addr) (q3 : Addr) (q4 : Addr) (q5 : Addr) (h0 : Heap) (n0 : Nat) (hn0 : n0 ≤ h0.size) (St0 : Sta Z Z.heap "com/example/ceruline/ceruline/program/Expression$Comparison$Relation" "LESS" "Lcom/example/ceruline/ceruline/program/Expression$Comparison$Relation;" (.ref q0)) (St1 : Sta Z Z.heap "com/example/ceruline/ceruline/program/Expression$Comparison$Relation" "LESS_OR_EQUAL" "Lcom/example/ceruline/ceruline/program/Expression$Comparison$Relation;" (.ref q1)) (St2 : Sta Z Z.heap "com/example/ceruline/ceruline/program/Expression$Comparison$Relation" "GREATER" "Lcom/example/ceruline/ceruline/program/Expression$Comparison$Relation;" (.ref q2)) (St3 : Sta Z Z.heap "com/example/ceruline/ceruline/program/Expression$Comparison$Relation" "GREATER_OR_EQUAL" "Lcom/example/ceruline/ceruline/program/Expression$Comparison$Relation;" (.ref q3)) (St4 : Sta Z Z.heap "com/example/ceruline/ceruline/program/Expression$Comparison$Relation" "EQUAL" "Lcom/example/ceruline/ceruline/program/Expression$Comparison$Relation;" (.ref q4)) (St5 : Sta Z Z.heap "com/example/ceruline/ceruline/program/Expression$Comparison$Relation" "NOT_EQUAL" "Lcom/example/ceruline/ceruline/program/Expression$Comparison$Relation;" (.ref q5)) (A0 : Exa Z Z.heap q0 "com/example/ceruline/ceruline/program/Expression$Comparison$Relation") (A1 : Exa Z Z.heap q1 "com/example/ceruline/ceruline/program/Expression$Comparison$Relation") (A2 : Exa Z Z.heap q2 "com/example/ceruline/ceruline/program/Expression$Comparison$Relation") (A3 : Exa Z Z.heap q3 "com/example/ceruline/ceruline/program/Expression$Comparison$Relation") (A4 : Exa Z Z.heap q4 "com/example/ceruline/ceruline/program/Expression$Comparison$Relation") (A5 : Exa Z Z.heap q5 "com/example/ceruline/ceruline/program/Expression$Comparison$Relation") (F0 : Fld Z Z.heap q0 "java/lang/Enum" "ordinal" "I" (.int (0 : Int32))) (F1 : Fld Z Z.heap q1 "java/lang/Enum" "ordinal" "I" (.int (1 : Int32))) (F2 : Fld Z Z.heap q2 "java/lang/Enum" "ordinal" "I" (.int (2 : Int32))) (F3 : Fld Z Z.heap q3 "java/lang/Enum" "ordinal" "I" (.int (3 : Int32))) (F4 : Fld Z Z.heap q4 "java/lang/Enum" "ordinal" "I" (.int (4 : Int32))) (F5 : Fld Z Z.heap q5 "java/lang/Enum" "ordinal" "I" (.int (5 : Int32))) (O0 : Old Z n0 h0) :
    Con l Z (⟨"com/example/ceruline/ceruline/program/Expression$Comparison$Relation", "negation", "()Lcom/example/ceruline/ceruline/program/Expression$Comparison$Relation;"⟩ : MethodName) prog_77_method_4_code 1 (some (.object "com/example/ceruline/ceruline/program/Expression$Comparison$Relation")) [] ({ frames := 1, cells := 0, slots := 0, locals := 16 } : Room) #[(.ref q3)] h0 (fun v h L => v = some (.ref q0) ∧ Fr n0 L ∧ h = h0) := by
  refine enter (Ls := #[.val (.ref q3)]) (plainFor_of_name pn_2) (fun m => by first | rfl | (simp [entryFrame, mkF, argsToLocals, Value.category]; done)) ?_
  intro p e s m below meth c s₁ S0 hx hby hml hret hlk hnm hown hZ X0 e0 k0
  have N0 := Fr.nil n0
  have k1 : To p.tables e below S0 (s₁.setTop (mkF m 1 #[.val (.ref q3)] [(.ref q3)])) := fun tt hq => k0 tt (by
    show Steps _ _ _ (s₁.setTop (mkF m 0 #[.val (.ref q3)] [])) _
    refine XS.aloadN X0.here hx rfl (hb hby d_prog_77_method_4_code_0) rfl rfl ?_
    show Steps _ _ _ (s₁.setTop (mkF m 1 #[.val (.ref q3)] [(.ref q3)])) _
    exact hq)
  obtain ⟨_, T2, L2, X2, ⟨rfl, Nq2, eq2⟩, k2a⟩ := callU' X0 hx hZ (owner := "java/lang/Enum") (y := (⟨"com/example/ceruline/ceruline/program/Expression$Comparison$Relation", "ordinal", "()I"⟩ : MethodName)) (z := (⟨"java/lang/Enum", "ordinal", "()I"⟩ : MethodName)) hown (hw _ (List.mem_of_getElem? (i := 13) rfl)) (hw _ (List.mem_of_getElem? (i := 14) rfl)) (hw _ (List.mem_of_getElem? (i := 15) rfl)) (hw _ (List.mem_of_getElem? (i := 17) rfl)) (hw _ (List.mem_of_getElem? (i := 16) rfl)) (by decide) (exaOld A3 O0) (backC (W := 0) (rmord l Z a0 hw q3 (3 : Int32) h0 n0 (by omega) (fldOld F3 O0)) hZ (hw _ (List.mem_of_getElem? (i := 19) rfl)) (hw _ (List.mem_of_getElem? (i := 18) rfl)) (by decide) (by decide)) e0 (argsL := []) (rest := []) rfl rfl pd_0 rfl (by rw [hml]; rfl) (hb hby d_prog_77_method_4_code_1) (Nat.le_of_eq rfl) (by decide) (by decide) k1
  have k2 : To p.tables e below S0 (T2.setTop (mkF m 4 #[.val (.ref q3)] [(.int (3 : Int32))])) := k2a
  have N2 := N0.app Nq2
  have e2 : T2.heap = h0 := eq2
  have k3 : To p.tables e below S0 (T2.setTop (mkF m 72 #[.val (.ref q3)] [])) := fun tt hq => k2 tt (by
    show Steps _ _ _ (T2.setTop (mkF m 4 #[.val (.ref q3)] [(.int (3 : Int32))])) _
    refine XS.tswIn X2.here hx rfl (pc0 := 4) (pc' := 72) (o := 68) rfl (hb hby d_prog_77_method_4_code_4) rfl (by decide) (by decide) (by decide) (by decide) ?_
    show Steps _ _ _ (T2.setTop (mkF m 72 #[.val (.ref q3)] [])) _
    exact hq)
  obtain ⟨T4, X4, e4, st4⟩ := getS2 X2 hx hZ hown (host := "") (Or.inl (hw _ (List.mem_of_getElem? (i := 32) rfl))) Via.refl e2 (staOld St0 O0) (g := (mkF m 72 #[.val (.ref q3)] [])) rfl (hb hby d_prog_77_method_4_code_72)
  have k4 : To p.tables e below S0 (T4.setTop (mkF m 75 #[.val (.ref q3)] [(.ref q0)])) := fun tt hq => k3 tt (st4 tt hq)
  have k5 : To p.tables e below S0 (T4.setTop (mkF m 87 #[.val (.ref q3)] [(.ref q0)])) := fun tt hq => k4 tt (by
    show Steps _ _ _ (T4.setTop (mkF m 75 #[.val (.ref q3)] [(.ref q0)])) _
    refine XS.goto X4.here hx rfl (pc0 := 75) (pc' := 87) rfl (hb hby d_prog_77_method_4_code_75) (by decide) (by decide) ?_
    show Steps _ _ _ (T4.setTop (mkF m 87 #[.val (.ref q3)] [(.ref q0)])) _
    exact hq)
  have hE := e4
  refine retRef X4 hx hret hlk rfl rfl (hb hby d_prog_77_method_4_code_87) k5 ?_ (by decide) (by decide)
  try rw [hE]
  exact ⟨rfl, N2, rfl⟩
set_option maxRecDepth 65536 in
set_option maxHeartbeats 40000000 in
theorem rmneg4 (l : Launch) (Z : State) (a0 : Array Value) (hw : ∀ d ∈ tables_1, d.before a0 Z = true) (q0 : Addr) (q1 : Addr) (q2 : Addr) (q3 : Addr) (q4 : Addr) (q5 : Addr) (h0 : Heap) (n0 : Nat) (hn0 : n0 ≤ h0.size) (St0 : Sta Z Z.heap "com/example/ceruline/ceruline/program/Expression$Comparison$Relation" "LESS" "Lcom/example/ceruline/ceruline/program/Expression$Comparison$Relation;" (.ref q0)) (St1 : Sta Z Z.heap "com/example/ceruline/ceruline/program/Expression$Comparison$Relation" "LESS_OR_EQUAL" "Lcom/example/ceruline/ceruline/program/Expression$Comparison$Relation;" (.ref q1)) (St2 : Sta Z Z.heap "com/example/ceruline/ceruline/program/Expression$Comparison$Relation" "GREATER" "Lcom/example/ceruline/ceruline/program/Expression$Comparison$Relation;" (.ref q2)) (St3 : Sta Z Z.heap "com/example/ceruline/ceruline/program/Expression$Comparison$Relation" "GREATER_OR_EQUAL" "Lcom/example/ceruline/ceruline/program/Expression$Comparison$Relation;" (.ref q3)) (St4 : Sta Z Z.heap "com/example/ceruline/ceruline/program/Expression$Comparison$Relation" "EQUAL" "Lcom/example/ceruline/ceruline/program/Expression$Comparison$Relation;" (.ref q4)) (St5 : Sta Z Z.heap "com/example/ceruline/ceruline/program/Expression$Comparison$Relation" "NOT_EQUAL" "Lcom/example/ceruline/ceruline/program/Expression$Comparison$Relation;" (.ref q5)) (A0 : Exa Z Z.heap q0 "com/example/ceruline/ceruline/program/Expression$Comparison$Relation") (A1 : Exa Z Z.heap q1 "com/example/ceruline/ceruline/program/Expression$Comparison$Relation") (A2 : Exa Z Z.heap q2 "com/example/ceruline/ceruline/program/Expression$Comparison$Relation") (A3 : Exa Z Z.heap q3 "com/example/ceruline/ceruline/program/Expression$Comparison$Relation") (A4 : Exa Z Z.heap q4 "com/example/ceruline/ceruline/program/Expression$Comparison$Relation") (A5 : Exa Z Z.heap q5 "com/example/ceruline/ceruline/program/Expression$Comparison$Relation") (F0 : Fld Z Z.heap q0 "java/lang/Enum" "ordinal" "I" (.int (0 : Int32))) (F1 : Fld Z Z.heap q1 "java/lang/Enum" "ordinal" "I" (.int (1 : Int32))) (F2 : Fld Z Z.heap q2 "java/lang/Enum" "ordinal" "I" (.int (2 : Int32))) (F3 : Fld Z Z.heap q3 "java/lang/Enum" "ordinal" "I" (.int (3 : Int32))) (F4 : Fld Z Z.heap q4 "java/lang/Enum" "ordinal" "I" (.int (4 : Int32))) (F5 : Fld Z Z.heap q5 "java/lang/Enum" "ordinal" "I" (.int (5 : Int32))) (O0 : Old Z n0 h0) :
    Con l Z (⟨"com/example/ceruline/ceruline/program/Expression$Comparison$Relation", "negation", "()Lcom/example/ceruline/ceruline/program/Expression$Comparison$Relation;"⟩ : MethodName) prog_77_method_4_code 1 (some (.object "com/example/ceruline/ceruline/program/Expression$Comparison$Relation")) [] ({ frames := 1, cells := 0, slots := 0, locals := 16 } : Room) #[(.ref q4)] h0 (fun v h L => v = some (.ref q5) ∧ Fr n0 L ∧ h = h0) := by
  refine enter (Ls := #[.val (.ref q4)]) (plainFor_of_name pn_2) (fun m => by first | rfl | (simp [entryFrame, mkF, argsToLocals, Value.category]; done)) ?_
  intro p e s m below meth c s₁ S0 hx hby hml hret hlk hnm hown hZ X0 e0 k0
  have N0 := Fr.nil n0
  have k1 : To p.tables e below S0 (s₁.setTop (mkF m 1 #[.val (.ref q4)] [(.ref q4)])) := fun tt hq => k0 tt (by
    show Steps _ _ _ (s₁.setTop (mkF m 0 #[.val (.ref q4)] [])) _
    refine XS.aloadN X0.here hx rfl (hb hby d_prog_77_method_4_code_0) rfl rfl ?_
    show Steps _ _ _ (s₁.setTop (mkF m 1 #[.val (.ref q4)] [(.ref q4)])) _
    exact hq)
  obtain ⟨_, T2, L2, X2, ⟨rfl, Nq2, eq2⟩, k2a⟩ := callU' X0 hx hZ (owner := "java/lang/Enum") (y := (⟨"com/example/ceruline/ceruline/program/Expression$Comparison$Relation", "ordinal", "()I"⟩ : MethodName)) (z := (⟨"java/lang/Enum", "ordinal", "()I"⟩ : MethodName)) hown (hw _ (List.mem_of_getElem? (i := 13) rfl)) (hw _ (List.mem_of_getElem? (i := 14) rfl)) (hw _ (List.mem_of_getElem? (i := 15) rfl)) (hw _ (List.mem_of_getElem? (i := 17) rfl)) (hw _ (List.mem_of_getElem? (i := 16) rfl)) (by decide) (exaOld A4 O0) (backC (W := 0) (rmord l Z a0 hw q4 (4 : Int32) h0 n0 (by omega) (fldOld F4 O0)) hZ (hw _ (List.mem_of_getElem? (i := 19) rfl)) (hw _ (List.mem_of_getElem? (i := 18) rfl)) (by decide) (by decide)) e0 (argsL := []) (rest := []) rfl rfl pd_0 rfl (by rw [hml]; rfl) (hb hby d_prog_77_method_4_code_1) (Nat.le_of_eq rfl) (by decide) (by decide) k1
  have k2 : To p.tables e below S0 (T2.setTop (mkF m 4 #[.val (.ref q4)] [(.int (4 : Int32))])) := k2a
  have N2 := N0.app Nq2
  have e2 : T2.heap = h0 := eq2
  have k3 : To p.tables e below S0 (T2.setTop (mkF m 78 #[.val (.ref q4)] [])) := fun tt hq => k2 tt (by
    show Steps _ _ _ (T2.setTop (mkF m 4 #[.val (.ref q4)] [(.int (4 : Int32))])) _
    refine XS.tswIn X2.here hx rfl (pc0 := 4) (pc' := 78) (o := 74) rfl (hb hby d_prog_77_method_4_code_4) rfl (by decide) (by decide) (by decide) (by decide) ?_
    show Steps _ _ _ (T2.setTop (mkF m 78 #[.val (.ref q4)] [])) _
    exact hq)
  obtain ⟨T4, X4, e4, st4⟩ := getS2 X2 hx hZ hown (host := "") (Or.inl (hw _ (List.mem_of_getElem? (i := 37) rfl))) Via.refl e2 (staOld St5 O0) (g := (mkF m 78 #[.val (.ref q4)] [])) rfl (hb hby d_prog_77_method_4_code_78)
  have k4 : To p.tables e below S0 (T4.setTop (mkF m 81 #[.val (.ref q4)] [(.ref q5)])) := fun tt hq => k3 tt (st4 tt hq)
  have k5 : To p.tables e below S0 (T4.setTop (mkF m 87 #[.val (.ref q4)] [(.ref q5)])) := fun tt hq => k4 tt (by
    show Steps _ _ _ (T4.setTop (mkF m 81 #[.val (.ref q4)] [(.ref q5)])) _
    refine XS.goto X4.here hx rfl (pc0 := 81) (pc' := 87) rfl (hb hby d_prog_77_method_4_code_81) (by decide) (by decide) ?_
    show Steps _ _ _ (T4.setTop (mkF m 87 #[.val (.ref q4)] [(.ref q5)])) _
    exact hq)
  have hE := e4
  refine retRef X4 hx hret hlk rfl rfl (hb hby d_prog_77_method_4_code_87) k5 ?_ (by decide) (by decide)
  try rw [hE]
  exact ⟨rfl, N2, rfl⟩
set_option maxRecDepth 65536 in
set_option maxHeartbeats 40000000 in
theorem rmneg5 (l : Launch) (Z : State) (a0 : Array Value) (hw : ∀ d ∈ tables_1, d.before a0 Z = true) (q0 : Addr) (q1 : Addr) (q2 : Addr) (q3 : Addr) (q4 : Addr) (q5 : Addr) (h0 : Heap) (n0 : Nat) (hn0 : n0 ≤ h0.size) (St0 : Sta Z Z.heap "com/example/ceruline/ceruline/program/Expression$Comparison$Relation" "LESS" "Lcom/example/ceruline/ceruline/program/Expression$Comparison$Relation;" (.ref q0)) (St1 : Sta Z Z.heap "com/example/ceruline/ceruline/program/Expression$Comparison$Relation" "LESS_OR_EQUAL" "Lcom/example/ceruline/ceruline/program/Expression$Comparison$Relation;" (.ref q1)) (St2 : Sta Z Z.heap "com/example/ceruline/ceruline/program/Expression$Comparison$Relation" "GREATER" "Lcom/example/ceruline/ceruline/program/Expression$Comparison$Relation;" (.ref q2)) (St3 : Sta Z Z.heap "com/example/ceruline/ceruline/program/Expression$Comparison$Relation" "GREATER_OR_EQUAL" "Lcom/example/ceruline/ceruline/program/Expression$Comparison$Relation;" (.ref q3)) (St4 : Sta Z Z.heap "com/example/ceruline/ceruline/program/Expression$Comparison$Relation" "EQUAL" "Lcom/example/ceruline/ceruline/program/Expression$Comparison$Relation;" (.ref q4)) (St5 : Sta Z Z.heap "com/example/ceruline/ceruline/program/Expression$Comparison$Relation" "NOT_EQUAL" "Lcom/example/ceruline/ceruline/program/Expression$Comparison$Relation;" (.ref q5)) (A0 : Exa Z Z.heap q0 "com/example/ceruline/ceruline/program/Expression$Comparison$Relation") (A1 : Exa Z Z.heap q1 "com/example/ceruline/ceruline/program/Expression$Comparison$Relation") (A2 : Exa Z Z.heap q2 "com/example/ceruline/ceruline/program/Expression$Comparison$Relation") (A3 : Exa Z Z.heap q3 "com/example/ceruline/ceruline/program/Expression$Comparison$Relation") (A4 : Exa Z Z.heap q4 "com/example/ceruline/ceruline/program/Expression$Comparison$Relation") (A5 : Exa Z Z.heap q5 "com/example/ceruline/ceruline/program/Expression$Comparison$Relation") (F0 : Fld Z Z.heap q0 "java/lang/Enum" "ordinal" "I" (.int (0 : Int32))) (F1 : Fld Z Z.heap q1 "java/lang/Enum" "ordinal" "I" (.int (1 : Int32))) (F2 : Fld Z Z.heap q2 "java/lang/Enum" "ordinal" "I" (.int (2 : Int32))) (F3 : Fld Z Z.heap q3 "java/lang/Enum" "ordinal" "I" (.int (3 : Int32))) (F4 : Fld Z Z.heap q4 "java/lang/Enum" "ordinal" "I" (.int (4 : Int32))) (F5 : Fld Z Z.heap q5 "java/lang/Enum" "ordinal" "I" (.int (5 : Int32))) (O0 : Old Z n0 h0) :
    Con l Z (⟨"com/example/ceruline/ceruline/program/Expression$Comparison$Relation", "negation", "()Lcom/example/ceruline/ceruline/program/Expression$Comparison$Relation;"⟩ : MethodName) prog_77_method_4_code 1 (some (.object "com/example/ceruline/ceruline/program/Expression$Comparison$Relation")) [] ({ frames := 1, cells := 0, slots := 0, locals := 16 } : Room) #[(.ref q5)] h0 (fun v h L => v = some (.ref q4) ∧ Fr n0 L ∧ h = h0) := by
  refine enter (Ls := #[.val (.ref q5)]) (plainFor_of_name pn_2) (fun m => by first | rfl | (simp [entryFrame, mkF, argsToLocals, Value.category]; done)) ?_
  intro p e s m below meth c s₁ S0 hx hby hml hret hlk hnm hown hZ X0 e0 k0
  have N0 := Fr.nil n0
  have k1 : To p.tables e below S0 (s₁.setTop (mkF m 1 #[.val (.ref q5)] [(.ref q5)])) := fun tt hq => k0 tt (by
    show Steps _ _ _ (s₁.setTop (mkF m 0 #[.val (.ref q5)] [])) _
    refine XS.aloadN X0.here hx rfl (hb hby d_prog_77_method_4_code_0) rfl rfl ?_
    show Steps _ _ _ (s₁.setTop (mkF m 1 #[.val (.ref q5)] [(.ref q5)])) _
    exact hq)
  obtain ⟨_, T2, L2, X2, ⟨rfl, Nq2, eq2⟩, k2a⟩ := callU' X0 hx hZ (owner := "java/lang/Enum") (y := (⟨"com/example/ceruline/ceruline/program/Expression$Comparison$Relation", "ordinal", "()I"⟩ : MethodName)) (z := (⟨"java/lang/Enum", "ordinal", "()I"⟩ : MethodName)) hown (hw _ (List.mem_of_getElem? (i := 13) rfl)) (hw _ (List.mem_of_getElem? (i := 14) rfl)) (hw _ (List.mem_of_getElem? (i := 15) rfl)) (hw _ (List.mem_of_getElem? (i := 17) rfl)) (hw _ (List.mem_of_getElem? (i := 16) rfl)) (by decide) (exaOld A5 O0) (backC (W := 0) (rmord l Z a0 hw q5 (5 : Int32) h0 n0 (by omega) (fldOld F5 O0)) hZ (hw _ (List.mem_of_getElem? (i := 19) rfl)) (hw _ (List.mem_of_getElem? (i := 18) rfl)) (by decide) (by decide)) e0 (argsL := []) (rest := []) rfl rfl pd_0 rfl (by rw [hml]; rfl) (hb hby d_prog_77_method_4_code_1) (Nat.le_of_eq rfl) (by decide) (by decide) k1
  have k2 : To p.tables e below S0 (T2.setTop (mkF m 4 #[.val (.ref q5)] [(.int (5 : Int32))])) := k2a
  have N2 := N0.app Nq2
  have e2 : T2.heap = h0 := eq2
  have k3 : To p.tables e below S0 (T2.setTop (mkF m 84 #[.val (.ref q5)] [])) := fun tt hq => k2 tt (by
    show Steps _ _ _ (T2.setTop (mkF m 4 #[.val (.ref q5)] [(.int (5 : Int32))])) _
    refine XS.tswIn X2.here hx rfl (pc0 := 4) (pc' := 84) (o := 80) rfl (hb hby d_prog_77_method_4_code_4) rfl (by decide) (by decide) (by decide) (by decide) ?_
    show Steps _ _ _ (T2.setTop (mkF m 84 #[.val (.ref q5)] [])) _
    exact hq)
  obtain ⟨T4, X4, e4, st4⟩ := getS2 X2 hx hZ hown (host := "") (Or.inl (hw _ (List.mem_of_getElem? (i := 40) rfl))) Via.refl e2 (staOld St4 O0) (g := (mkF m 84 #[.val (.ref q5)] [])) rfl (hb hby d_prog_77_method_4_code_84)
  have k4 : To p.tables e below S0 (T4.setTop (mkF m 87 #[.val (.ref q5)] [(.ref q4)])) := fun tt hq => k3 tt (st4 tt hq)
  have hE := e4
  refine retRef X4 hx hret hlk rfl rfl (hb hby d_prog_77_method_4_code_87) k4 ?_ (by decide) (by decide)
  try rw [hE]
  exact ⟨rfl, N2, rfl⟩
def own_neg (q0 q1 q2 q3 q4 q5 a r : Addr) : Prop := (a = q0 ∧ r = q3) ∨ (a = q1 ∧ r = q2) ∨ (a = q2 ∧ r = q1) ∨ (a = q3 ∧ r = q0) ∨ (a = q4 ∧ r = q5) ∨ (a = q5 ∧ r = q4)
theorem rmneg (l : Launch) (Z : State) (a0 : Array Value) (hw : ∀ d ∈ tables_1, d.before a0 Z = true) (q0 q1 q2 q3 q4 q5 a r : Addr) (h0 : Heap) (n0 : Nat) (hn0 : n0 ≤ h0.size) (St0 : Sta Z Z.heap "com/example/ceruline/ceruline/program/Expression$Comparison$Relation" "LESS" "Lcom/example/ceruline/ceruline/program/Expression$Comparison$Relation;" (.ref q0)) (St1 : Sta Z Z.heap "com/example/ceruline/ceruline/program/Expression$Comparison$Relation" "LESS_OR_EQUAL" "Lcom/example/ceruline/ceruline/program/Expression$Comparison$Relation;" (.ref q1)) (St2 : Sta Z Z.heap "com/example/ceruline/ceruline/program/Expression$Comparison$Relation" "GREATER" "Lcom/example/ceruline/ceruline/program/Expression$Comparison$Relation;" (.ref q2)) (St3 : Sta Z Z.heap "com/example/ceruline/ceruline/program/Expression$Comparison$Relation" "GREATER_OR_EQUAL" "Lcom/example/ceruline/ceruline/program/Expression$Comparison$Relation;" (.ref q3)) (St4 : Sta Z Z.heap "com/example/ceruline/ceruline/program/Expression$Comparison$Relation" "EQUAL" "Lcom/example/ceruline/ceruline/program/Expression$Comparison$Relation;" (.ref q4)) (St5 : Sta Z Z.heap "com/example/ceruline/ceruline/program/Expression$Comparison$Relation" "NOT_EQUAL" "Lcom/example/ceruline/ceruline/program/Expression$Comparison$Relation;" (.ref q5)) (A0 : Exa Z Z.heap q0 "com/example/ceruline/ceruline/program/Expression$Comparison$Relation") (A1 : Exa Z Z.heap q1 "com/example/ceruline/ceruline/program/Expression$Comparison$Relation") (A2 : Exa Z Z.heap q2 "com/example/ceruline/ceruline/program/Expression$Comparison$Relation") (A3 : Exa Z Z.heap q3 "com/example/ceruline/ceruline/program/Expression$Comparison$Relation") (A4 : Exa Z Z.heap q4 "com/example/ceruline/ceruline/program/Expression$Comparison$Relation") (A5 : Exa Z Z.heap q5 "com/example/ceruline/ceruline/program/Expression$Comparison$Relation") (F0 : Fld Z Z.heap q0 "java/lang/Enum" "ordinal" "I" (.int (0 : Int32))) (F1 : Fld Z Z.heap q1 "java/lang/Enum" "ordinal" "I" (.int (1 : Int32))) (F2 : Fld Z Z.heap q2 "java/lang/Enum" "ordinal" "I" (.int (2 : Int32))) (F3 : Fld Z Z.heap q3 "java/lang/Enum" "ordinal" "I" (.int (3 : Int32))) (F4 : Fld Z Z.heap q4 "java/lang/Enum" "ordinal" "I" (.int (4 : Int32))) (F5 : Fld Z Z.heap q5 "java/lang/Enum" "ordinal" "I" (.int (5 : Int32))) (O0 : Old Z n0 h0) (hr : own_neg q0 q1 q2 q3 q4 q5 a r) :
    Con l Z (⟨"com/example/ceruline/ceruline/program/Expression$Comparison$Relation", "negation", "()Lcom/example/ceruline/ceruline/program/Expression$Comparison$Relation;"⟩ : MethodName) prog_77_method_4_code 1 (some (.object "com/example/ceruline/ceruline/program/Expression$Comparison$Relation")) [] ({ frames := 1, cells := 0, slots := 0, locals := 16 } : Room) #[(.ref a)] h0 (fun v h L => v = some (.ref r) ∧ Fr n0 L ∧ h = h0) := by
  rcases hr with ⟨ea, er⟩ | ⟨ea, er⟩ | ⟨ea, er⟩ | ⟨ea, er⟩ | ⟨ea, er⟩ | ⟨ea, er⟩
  · rw [ea, er]; exact rmneg0 l Z a0 hw q0 q1 q2 q3 q4 q5 h0 n0 hn0 St0 St1 St2 St3 St4 St5 A0 A1 A2 A3 A4 A5 F0 F1 F2 F3 F4 F5 O0
  · rw [ea, er]; exact rmneg1 l Z a0 hw q0 q1 q2 q3 q4 q5 h0 n0 hn0 St0 St1 St2 St3 St4 St5 A0 A1 A2 A3 A4 A5 F0 F1 F2 F3 F4 F5 O0
  · rw [ea, er]; exact rmneg2 l Z a0 hw q0 q1 q2 q3 q4 q5 h0 n0 hn0 St0 St1 St2 St3 St4 St5 A0 A1 A2 A3 A4 A5 F0 F1 F2 F3 F4 F5 O0
  · rw [ea, er]; exact rmneg3 l Z a0 hw q0 q1 q2 q3 q4 q5 h0 n0 hn0 St0 St1 St2 St3 St4 St5 A0 A1 A2 A3 A4 A5 F0 F1 F2 F3 F4 F5 O0
  · rw [ea, er]; exact rmneg4 l Z a0 hw q0 q1 q2 q3 q4 q5 h0 n0 hn0 St0 St1 St2 St3 St4 St5 A0 A1 A2 A3 A4 A5 F0 F1 F2 F3 F4 F5 O0
  · rw [ea, er]; exact rmneg5 l Z a0 hw q0 q1 q2 q3 q4 q5 h0 n0 hn0 St0 St1 St2 St3 St4 St5 A0 A1 A2 A3 A4 A5 F0 F1 F2 F3 F4 F5 O0
theorem own_ne (q : Prop) [Decidable q] : (if ¬ q then (1 : Int32) else 0) ≠ (if q then 1 else 0) := by by_cases h : q <;> simp [h]
theorem d_method_3_code_0 : decode method_3_code 0 = .ok (.aload_n 0, 1) := by decide +kernel
theorem d_method_3_code_1 : decode method_3_code 1 = .ok (.getstatic 7, 3) := by decide +kernel
theorem d_method_3_code_4 : decode method_3_code 4 = .ok (.if_acmp .ne 14, 3) := by decide +kernel
theorem d_method_3_code_7 : decode method_3_code 7 = .ok (.iload_n 1, 1) := by decide +kernel
theorem d_method_3_code_8 : decode method_3_code 8 = .ok (.iload_n 2, 1) := by decide +kernel
theorem d_method_3_code_9 : decode method_3_code 9 = .ok (.if_icmp .ge 7, 3) := by decide +kernel
theorem d_method_3_code_12 : decode method_3_code 12 = .ok (.iconst 1, 1) := by decide +kernel
theorem d_method_3_code_13 : decode method_3_code 13 = .ok (.goto 4, 3) := by decide +kernel
theorem d_method_3_code_16 : decode method_3_code 16 = .ok (.iconst 0, 1) := by decide +kernel
theorem d_method_3_code_17 : decode method_3_code 17 = .ok (.ireturn, 1) := by decide +kernel
theorem d_method_3_code_18 : decode method_3_code 18 = .ok (.aload_n 0, 1) := by decide +kernel
theorem d_method_3_code_19 : decode method_3_code 19 = .ok (.getstatic 13, 3) := by decide +kernel
theorem d_method_3_code_22 : decode method_3_code 22 = .ok (.if_acmp .ne 14, 3) := by decide +kernel
theorem d_method_3_code_25 : decode method_3_code 25 = .ok (.iload_n 1, 1) := by decide +kernel
theorem d_method_3_code_26 : decode method_3_code 26 = .ok (.iload_n 2, 1) := by decide +kernel
theorem d_method_3_code_27 : decode method_3_code 27 = .ok (.if_icmp .gt 7, 3) := by decide +kernel
theorem d_method_3_code_30 : decode method_3_code 30 = .ok (.iconst 1, 1) := by decide +kernel
theorem d_method_3_code_31 : decode method_3_code 31 = .ok (.goto 4, 3) := by decide +kernel
theorem d_method_3_code_34 : decode method_3_code 34 = .ok (.iconst 0, 1) := by decide +kernel
theorem d_method_3_code_35 : decode method_3_code 35 = .ok (.ireturn, 1) := by decide +kernel
theorem d_method_3_code_36 : decode method_3_code 36 = .ok (.aload_n 0, 1) := by decide +kernel
theorem d_method_3_code_37 : decode method_3_code 37 = .ok (.getstatic 16, 3) := by decide +kernel
theorem d_method_3_code_40 : decode method_3_code 40 = .ok (.if_acmp .ne 14, 3) := by decide +kernel
theorem d_method_3_code_43 : decode method_3_code 43 = .ok (.iload_n 1, 1) := by decide +kernel
theorem d_method_3_code_44 : decode method_3_code 44 = .ok (.iload_n 2, 1) := by decide +kernel
theorem d_method_3_code_45 : decode method_3_code 45 = .ok (.if_icmp .le 7, 3) := by decide +kernel
theorem d_method_3_code_48 : decode method_3_code 48 = .ok (.iconst 1, 1) := by decide +kernel
theorem d_method_3_code_49 : decode method_3_code 49 = .ok (.goto 4, 3) := by decide +kernel
theorem d_method_3_code_52 : decode method_3_code 52 = .ok (.iconst 0, 1) := by decide +kernel
theorem d_method_3_code_53 : decode method_3_code 53 = .ok (.ireturn, 1) := by decide +kernel
theorem d_method_3_code_54 : decode method_3_code 54 = .ok (.aload_n 0, 1) := by decide +kernel
theorem d_method_3_code_55 : decode method_3_code 55 = .ok (.getstatic 19, 3) := by decide +kernel
theorem d_method_3_code_58 : decode method_3_code 58 = .ok (.if_acmp .ne 14, 3) := by decide +kernel
theorem d_method_3_code_61 : decode method_3_code 61 = .ok (.iload_n 1, 1) := by decide +kernel
theorem d_method_3_code_62 : decode method_3_code 62 = .ok (.iload_n 2, 1) := by decide +kernel
theorem d_method_3_code_63 : decode method_3_code 63 = .ok (.if_icmp .lt 7, 3) := by decide +kernel
theorem d_method_3_code_66 : decode method_3_code 66 = .ok (.iconst 1, 1) := by decide +kernel
theorem d_method_3_code_67 : decode method_3_code 67 = .ok (.goto 4, 3) := by decide +kernel
theorem d_method_3_code_70 : decode method_3_code 70 = .ok (.iconst 0, 1) := by decide +kernel
theorem d_method_3_code_71 : decode method_3_code 71 = .ok (.ireturn, 1) := by decide +kernel
theorem d_method_3_code_72 : decode method_3_code 72 = .ok (.aload_n 0, 1) := by decide +kernel
theorem d_method_3_code_73 : decode method_3_code 73 = .ok (.getstatic 22, 3) := by decide +kernel
theorem d_method_3_code_76 : decode method_3_code 76 = .ok (.if_acmp .ne 14, 3) := by decide +kernel
theorem d_method_3_code_79 : decode method_3_code 79 = .ok (.iload_n 1, 1) := by decide +kernel
theorem d_method_3_code_80 : decode method_3_code 80 = .ok (.iload_n 2, 1) := by decide +kernel
theorem d_method_3_code_81 : decode method_3_code 81 = .ok (.if_icmp .ne 7, 3) := by decide +kernel
theorem d_method_3_code_84 : decode method_3_code 84 = .ok (.iconst 1, 1) := by decide +kernel
theorem d_method_3_code_85 : decode method_3_code 85 = .ok (.goto 4, 3) := by decide +kernel
theorem d_method_3_code_88 : decode method_3_code 88 = .ok (.iconst 0, 1) := by decide +kernel
theorem d_method_3_code_89 : decode method_3_code 89 = .ok (.ireturn, 1) := by decide +kernel
theorem d_method_3_code_90 : decode method_3_code 90 = .ok (.aload_n 0, 1) := by decide +kernel
theorem d_method_3_code_91 : decode method_3_code 91 = .ok (.getstatic 25, 3) := by decide +kernel
theorem d_method_3_code_94 : decode method_3_code 94 = .ok (.if_acmp .ne 14, 3) := by decide +kernel
theorem d_method_3_code_97 : decode method_3_code 97 = .ok (.iload_n 1, 1) := by decide +kernel
theorem d_method_3_code_98 : decode method_3_code 98 = .ok (.iload_n 2, 1) := by decide +kernel
theorem d_method_3_code_99 : decode method_3_code 99 = .ok (.if_icmp .eq 7, 3) := by decide +kernel
theorem d_method_3_code_102 : decode method_3_code 102 = .ok (.iconst 1, 1) := by decide +kernel
theorem d_method_3_code_103 : decode method_3_code 103 = .ok (.goto 4, 3) := by decide +kernel
theorem d_method_3_code_106 : decode method_3_code 106 = .ok (.iconst 0, 1) := by decide +kernel
theorem d_method_3_code_107 : decode method_3_code 107 = .ok (.ireturn, 1) := by decide +kernel
theorem d_method_3_code_108 : decode method_3_code 108 = .ok (.iconst 0, 1) := by decide +kernel
theorem d_method_3_code_109 : decode method_3_code 109 = .ok (.ireturn, 1) := by decide +kernel
set_option maxRecDepth 65536 in
set_option maxHeartbeats 40000000 in
theorem rmh0 (l : Launch) (Z : State) (a0 : Array Value) (hw : ∀ d ∈ tables_1, d.before a0 Z = true) (q0 : Addr) (q1 : Addr) (q2 : Addr) (q3 : Addr) (q4 : Addr) (q5 : Addr) (a : Int32) (b : Int32) (h0 : Heap) (n0 : Nat) (hn0 : n0 ≤ h0.size) (St0 : Sta Z Z.heap "com/example/ceruline/ceruline/program/Expression$Comparison$Relation" "LESS" "Lcom/example/ceruline/ceruline/program/Expression$Comparison$Relation;" (.ref q0)) (St1 : Sta Z Z.heap "com/example/ceruline/ceruline/program/Expression$Comparison$Relation" "LESS_OR_EQUAL" "Lcom/example/ceruline/ceruline/program/Expression$Comparison$Relation;" (.ref q1)) (St2 : Sta Z Z.heap "com/example/ceruline/ceruline/program/Expression$Comparison$Relation" "GREATER" "Lcom/example/ceruline/ceruline/program/Expression$Comparison$Relation;" (.ref q2)) (St3 : Sta Z Z.heap "com/example/ceruline/ceruline/program/Expression$Comparison$Relation" "GREATER_OR_EQUAL" "Lcom/example/ceruline/ceruline/program/Expression$Comparison$Relation;" (.ref q3)) (St4 : Sta Z Z.heap "com/example/ceruline/ceruline/program/Expression$Comparison$Relation" "EQUAL" "Lcom/example/ceruline/ceruline/program/Expression$Comparison$Relation;" (.ref q4)) (St5 : Sta Z Z.heap "com/example/ceruline/ceruline/program/Expression$Comparison$Relation" "NOT_EQUAL" "Lcom/example/ceruline/ceruline/program/Expression$Comparison$Relation;" (.ref q5)) (O0 : Old Z n0 h0) :
    Con l Z (⟨"com/example/ceruline/ceruline/program/RelationNegationPinLaw", "holds", "(Lcom/example/ceruline/ceruline/program/Expression$Comparison$Relation;II)Z"⟩ : MethodName) method_3_code 3 (some .boolean) [] ({ frames := 0, cells := 0, slots := 0, locals := 0 } : Room) #[(.ref q0), (.int a), (.int b)] h0 (fun v h L => v = some (.int (if a < b then (1 : Int32) else 0)) ∧ Fr n0 L ∧ h = h0) := by
  refine enter (Ls := #[.val (.ref q0), .val (.int a), .val (.int b)]) (plainFor_of_name pn_0) (fun m => by first | rfl | (simp [entryFrame, mkF, argsToLocals, Value.category]; done)) ?_
  intro p e s m below meth c s₁ S0 hx hby hml hret hlk hnm hown hZ X0 e0 k0
  have N0 := Fr.nil n0
  have k1 : To p.tables e below S0 (s₁.setTop (mkF m 1 #[.val (.ref q0), .val (.int a), .val (.int b)] [(.ref q0)])) := fun tt hq => k0 tt (by
    show Steps _ _ _ (s₁.setTop (mkF m 0 #[.val (.ref q0), .val (.int a), .val (.int b)] [])) _
    refine XS.aloadN X0.here hx rfl (hb hby d_method_3_code_0) rfl rfl ?_
    show Steps _ _ _ (s₁.setTop (mkF m 1 #[.val (.ref q0), .val (.int a), .val (.int b)] [(.ref q0)])) _
    exact hq)
  obtain ⟨T2, X2, e2, st2⟩ := getS2 X0 hx hZ hown (host := "") (Or.inl (hw _ (List.mem_of_getElem? (i := 5) rfl))) Via.refl e0 (staOld St0 O0) (g := (mkF m 1 #[.val (.ref q0), .val (.int a), .val (.int b)] [(.ref q0)])) rfl (hb hby d_method_3_code_1)
  have k2 : To p.tables e below S0 (T2.setTop (mkF m 4 #[.val (.ref q0), .val (.int a), .val (.int b)] [(.ref q0), (.ref q0)])) := fun tt hq => k1 tt (st2 tt hq)
  have k3 : To p.tables e below S0 (T2.setTop (mkF m 9 #[.val (.ref q0), .val (.int a), .val (.int b)] [(.int b), (.int a)])) := fun tt hq => k2 tt (by
    show Steps _ _ _ (T2.setTop (mkF m 4 #[.val (.ref q0), .val (.int a), .val (.int b)] [(.ref q0), (.ref q0)])) _
    refine Jvm.RoadKit.acmp (g := (mkF m 4 #[.val (.ref q0), .val (.int a), .val (.int b)] [(.ref q0), (.ref q0)])) X2 hx rfl rfl rfl (pc0 := 4) (pc' := 7) (same := true) rfl (hb hby d_method_3_code_4) rfl (decide_eq_true rfl) (by decide) (by decide) ?_
    show Steps _ _ _ (T2.setTop (mkF m 7 #[.val (.ref q0), .val (.int a), .val (.int b)] [])) _
    refine XS.iloadN X2.here hx rfl (hb hby d_method_3_code_7) rfl ?_
    show Steps _ _ _ (T2.setTop (mkF m 8 #[.val (.ref q0), .val (.int a), .val (.int b)] [(.int a)])) _
    refine XS.iloadN X2.here hx rfl (hb hby d_method_3_code_8) rfl ?_
    show Steps _ _ _ (T2.setTop (mkF m 9 #[.val (.ref q0), .val (.int a), .val (.int b)] [(.int b), (.int a)])) _
    exact hq)
  by_cases hc9_4 : a < b
  · -- pc 9, holds
    have k5 : To p.tables e below S0 (T2.setTop (mkF m 17 #[.val (.ref q0), .val (.int a), .val (.int b)] [(.int (1 : Int32))])) := fun tt hq => k3 tt (by
      show Steps _ _ _ (T2.setTop (mkF m 9 #[.val (.ref q0), .val (.int a), .val (.int b)] [(.int b), (.int a)])) _
      refine XS.icmpNo X2.here hx rfl (hb hby d_method_3_code_9) rfl (tlt hc9_4).2.1 ?_
      show Steps _ _ _ (T2.setTop (mkF m 12 #[.val (.ref q0), .val (.int a), .val (.int b)] [])) _
      refine XS.iconst X2.here hx rfl (hb hby d_method_3_code_12) ?_
      show Steps _ _ _ (T2.setTop (mkF m 13 #[.val (.ref q0), .val (.int a), .val (.int b)] [(.int (1 : Int32))])) _
      refine XS.goto X2.here hx rfl (pc0 := 13) (pc' := 17) rfl (hb hby d_method_3_code_13) (by decide) (by decide) ?_
      show Steps _ _ _ (T2.setTop (mkF m 17 #[.val (.ref q0), .val (.int a), .val (.int b)] [(.int (1 : Int32))])) _
      exact hq)
    have hE := e2
    refine retInt X2 hx hret hlk (by simp) rfl (hb hby d_method_3_code_17) k5 ?_ (by decide) (by decide)
    try rw [hE]
    exact ⟨by rw [show (if a < b then (1 : Int32) else 0) = _ from if_pos hc9_4], N0, rfl⟩
  · -- pc 9, holds not
    have k6 : To p.tables e below S0 (T2.setTop (mkF m 17 #[.val (.ref q0), .val (.int a), .val (.int b)] [(.int (0 : Int32))])) := fun tt hq => k3 tt (by
      show Steps _ _ _ (T2.setTop (mkF m 9 #[.val (.ref q0), .val (.int a), .val (.int b)] [(.int b), (.int a)])) _
      refine XS.icmpYes X2.here hx rfl (pc0 := 9) (pc' := 16) rfl (hb hby d_method_3_code_9) rfl (flt hc9_4).2.1 (by decide) (by decide) ?_
      show Steps _ _ _ (T2.setTop (mkF m 16 #[.val (.ref q0), .val (.int a), .val (.int b)] [])) _
      refine XS.iconst X2.here hx rfl (hb hby d_method_3_code_16) ?_
      show Steps _ _ _ (T2.setTop (mkF m 17 #[.val (.ref q0), .val (.int a), .val (.int b)] [(.int (0 : Int32))])) _
      exact hq)
    have hE := e2
    refine retInt X2 hx hret hlk (by simp) rfl (hb hby d_method_3_code_17) k6 ?_ (by decide) (by decide)
    try rw [hE]
    exact ⟨by rw [show (if a < b then (1 : Int32) else 0) = _ from if_neg hc9_4], N0, rfl⟩
set_option maxRecDepth 65536 in
set_option maxHeartbeats 40000000 in
theorem rmh1 (l : Launch) (Z : State) (a0 : Array Value) (hw : ∀ d ∈ tables_1, d.before a0 Z = true) (q0 : Addr) (q1 : Addr) (q2 : Addr) (q3 : Addr) (q4 : Addr) (q5 : Addr) (a : Int32) (b : Int32) (h0 : Heap) (n0 : Nat) (hn0 : n0 ≤ h0.size) (St0 : Sta Z Z.heap "com/example/ceruline/ceruline/program/Expression$Comparison$Relation" "LESS" "Lcom/example/ceruline/ceruline/program/Expression$Comparison$Relation;" (.ref q0)) (St1 : Sta Z Z.heap "com/example/ceruline/ceruline/program/Expression$Comparison$Relation" "LESS_OR_EQUAL" "Lcom/example/ceruline/ceruline/program/Expression$Comparison$Relation;" (.ref q1)) (St2 : Sta Z Z.heap "com/example/ceruline/ceruline/program/Expression$Comparison$Relation" "GREATER" "Lcom/example/ceruline/ceruline/program/Expression$Comparison$Relation;" (.ref q2)) (St3 : Sta Z Z.heap "com/example/ceruline/ceruline/program/Expression$Comparison$Relation" "GREATER_OR_EQUAL" "Lcom/example/ceruline/ceruline/program/Expression$Comparison$Relation;" (.ref q3)) (St4 : Sta Z Z.heap "com/example/ceruline/ceruline/program/Expression$Comparison$Relation" "EQUAL" "Lcom/example/ceruline/ceruline/program/Expression$Comparison$Relation;" (.ref q4)) (St5 : Sta Z Z.heap "com/example/ceruline/ceruline/program/Expression$Comparison$Relation" "NOT_EQUAL" "Lcom/example/ceruline/ceruline/program/Expression$Comparison$Relation;" (.ref q5)) (O0 : Old Z n0 h0) (nq10 : ¬ q1 = q0) :
    Con l Z (⟨"com/example/ceruline/ceruline/program/RelationNegationPinLaw", "holds", "(Lcom/example/ceruline/ceruline/program/Expression$Comparison$Relation;II)Z"⟩ : MethodName) method_3_code 3 (some .boolean) [] ({ frames := 0, cells := 0, slots := 0, locals := 0 } : Room) #[(.ref q1), (.int a), (.int b)] h0 (fun v h L => v = some (.int (if ¬ b < a then (1 : Int32) else 0)) ∧ Fr n0 L ∧ h = h0) := by
  refine enter (Ls := #[.val (.ref q1), .val (.int a), .val (.int b)]) (plainFor_of_name pn_0) (fun m => by first | rfl | (simp [entryFrame, mkF, argsToLocals, Value.category]; done)) ?_
  intro p e s m below meth c s₁ S0 hx hby hml hret hlk hnm hown hZ X0 e0 k0
  have N0 := Fr.nil n0
  have k1 : To p.tables e below S0 (s₁.setTop (mkF m 1 #[.val (.ref q1), .val (.int a), .val (.int b)] [(.ref q1)])) := fun tt hq => k0 tt (by
    show Steps _ _ _ (s₁.setTop (mkF m 0 #[.val (.ref q1), .val (.int a), .val (.int b)] [])) _
    refine XS.aloadN X0.here hx rfl (hb hby d_method_3_code_0) rfl rfl ?_
    show Steps _ _ _ (s₁.setTop (mkF m 1 #[.val (.ref q1), .val (.int a), .val (.int b)] [(.ref q1)])) _
    exact hq)
  obtain ⟨T2, X2, e2, st2⟩ := getS2 X0 hx hZ hown (host := "") (Or.inl (hw _ (List.mem_of_getElem? (i := 5) rfl))) Via.refl e0 (staOld St0 O0) (g := (mkF m 1 #[.val (.ref q1), .val (.int a), .val (.int b)] [(.ref q1)])) rfl (hb hby d_method_3_code_1)
  have k2 : To p.tables e below S0 (T2.setTop (mkF m 4 #[.val (.ref q1), .val (.int a), .val (.int b)] [(.ref q0), (.ref q1)])) := fun tt hq => k1 tt (st2 tt hq)
  have k3 : To p.tables e below S0 (T2.setTop (mkF m 19 #[.val (.ref q1), .val (.int a), .val (.int b)] [(.ref q1)])) := fun tt hq => k2 tt (by
    show Steps _ _ _ (T2.setTop (mkF m 4 #[.val (.ref q1), .val (.int a), .val (.int b)] [(.ref q0), (.ref q1)])) _
    refine Jvm.RoadKit.acmp (g := (mkF m 4 #[.val (.ref q1), .val (.int a), .val (.int b)] [(.ref q0), (.ref q1)])) X2 hx rfl rfl rfl (pc0 := 4) (pc' := 18) (same := false) rfl (hb hby d_method_3_code_4) rfl (decide_eq_false fun q => nq10 (Value.ref.inj q)) (by decide) (by decide) ?_
    show Steps _ _ _ (T2.setTop (mkF m 18 #[.val (.ref q1), .val (.int a), .val (.int b)] [])) _
    refine XS.aloadN X2.here hx rfl (hb hby d_method_3_code_18) rfl rfl ?_
    show Steps _ _ _ (T2.setTop (mkF m 19 #[.val (.ref q1), .val (.int a), .val (.int b)] [(.ref q1)])) _
    exact hq)
  obtain ⟨T4, X4, e4, st4⟩ := getS2 X2 hx hZ hown (host := "") (Or.inl (hw _ (List.mem_of_getElem? (i := 27) rfl))) Via.refl e2 (staOld St1 O0) (g := (mkF m 19 #[.val (.ref q1), .val (.int a), .val (.int b)] [(.ref q1)])) rfl (hb hby d_method_3_code_19)
  have k4 : To p.tables e below S0 (T4.setTop (mkF m 22 #[.val (.ref q1), .val (.int a), .val (.int b)] [(.ref q1), (.ref q1)])) := fun tt hq => k3 tt (st4 tt hq)
  have k5 : To p.tables e below S0 (T4.setTop (mkF m 27 #[.val (.ref q1), .val (.int a), .val (.int b)] [(.int b), (.int a)])) := fun tt hq => k4 tt (by
    show Steps _ _ _ (T4.setTop (mkF m 22 #[.val (.ref q1), .val (.int a), .val (.int b)] [(.ref q1), (.ref q1)])) _
    refine Jvm.RoadKit.acmp (g := (mkF m 22 #[.val (.ref q1), .val (.int a), .val (.int b)] [(.ref q1), (.ref q1)])) X4 hx rfl rfl rfl (pc0 := 22) (pc' := 25) (same := true) rfl (hb hby d_method_3_code_22) rfl (decide_eq_true rfl) (by decide) (by decide) ?_
    show Steps _ _ _ (T4.setTop (mkF m 25 #[.val (.ref q1), .val (.int a), .val (.int b)] [])) _
    refine XS.iloadN X4.here hx rfl (hb hby d_method_3_code_25) rfl ?_
    show Steps _ _ _ (T4.setTop (mkF m 26 #[.val (.ref q1), .val (.int a), .val (.int b)] [(.int a)])) _
    refine XS.iloadN X4.here hx rfl (hb hby d_method_3_code_26) rfl ?_
    show Steps _ _ _ (T4.setTop (mkF m 27 #[.val (.ref q1), .val (.int a), .val (.int b)] [(.int b), (.int a)])) _
    exact hq)
  by_cases hc27_6 : b < a
  · -- pc 27, holds
    have k7 : To p.tables e below S0 (T4.setTop (mkF m 35 #[.val (.ref q1), .val (.int a), .val (.int b)] [(.int (0 : Int32))])) := fun tt hq => k5 tt (by
      show Steps _ _ _ (T4.setTop (mkF m 27 #[.val (.ref q1), .val (.int a), .val (.int b)] [(.int b), (.int a)])) _
      refine XS.icmpYes X4.here hx rfl (pc0 := 27) (pc' := 34) rfl (hb hby d_method_3_code_27) rfl (tlt hc27_6).2.2.1 (by decide) (by decide) ?_
      show Steps _ _ _ (T4.setTop (mkF m 34 #[.val (.ref q1), .val (.int a), .val (.int b)] [])) _
      refine XS.iconst X4.here hx rfl (hb hby d_method_3_code_34) ?_
      show Steps _ _ _ (T4.setTop (mkF m 35 #[.val (.ref q1), .val (.int a), .val (.int b)] [(.int (0 : Int32))])) _
      exact hq)
    have hE := e4
    refine retInt X4 hx hret hlk (by simp) rfl (hb hby d_method_3_code_35) k7 ?_ (by decide) (by decide)
    try rw [hE]
    exact ⟨by rw [show (if ¬ b < a then (1 : Int32) else 0) = _ from if_neg (fun z => z hc27_6)], N0, rfl⟩
  · -- pc 27, holds not
    have k8 : To p.tables e below S0 (T4.setTop (mkF m 35 #[.val (.ref q1), .val (.int a), .val (.int b)] [(.int (1 : Int32))])) := fun tt hq => k5 tt (by
      show Steps _ _ _ (T4.setTop (mkF m 27 #[.val (.ref q1), .val (.int a), .val (.int b)] [(.int b), (.int a)])) _
      refine XS.icmpNo X4.here hx rfl (hb hby d_method_3_code_27) rfl (flt hc27_6).2.2.1 ?_
      show Steps _ _ _ (T4.setTop (mkF m 30 #[.val (.ref q1), .val (.int a), .val (.int b)] [])) _
      refine XS.iconst X4.here hx rfl (hb hby d_method_3_code_30) ?_
      show Steps _ _ _ (T4.setTop (mkF m 31 #[.val (.ref q1), .val (.int a), .val (.int b)] [(.int (1 : Int32))])) _
      refine XS.goto X4.here hx rfl (pc0 := 31) (pc' := 35) rfl (hb hby d_method_3_code_31) (by decide) (by decide) ?_
      show Steps _ _ _ (T4.setTop (mkF m 35 #[.val (.ref q1), .val (.int a), .val (.int b)] [(.int (1 : Int32))])) _
      exact hq)
    have hE := e4
    refine retInt X4 hx hret hlk (by simp) rfl (hb hby d_method_3_code_35) k8 ?_ (by decide) (by decide)
    try rw [hE]
    exact ⟨by rw [show (if ¬ b < a then (1 : Int32) else 0) = _ from if_pos hc27_6], N0, rfl⟩
set_option maxRecDepth 65536 in
set_option maxHeartbeats 40000000 in
theorem rmh2 (l : Launch) (Z : State) (a0 : Array Value) (hw : ∀ d ∈ tables_1, d.before a0 Z = true) (q0 : Addr) (q1 : Addr) (q2 : Addr) (q3 : Addr) (q4 : Addr) (q5 : Addr) (a : Int32) (b : Int32) (h0 : Heap) (n0 : Nat) (hn0 : n0 ≤ h0.size) (St0 : Sta Z Z.heap "com/example/ceruline/ceruline/program/Expression$Comparison$Relation" "LESS" "Lcom/example/ceruline/ceruline/program/Expression$Comparison$Relation;" (.ref q0)) (St1 : Sta Z Z.heap "com/example/ceruline/ceruline/program/Expression$Comparison$Relation" "LESS_OR_EQUAL" "Lcom/example/ceruline/ceruline/program/Expression$Comparison$Relation;" (.ref q1)) (St2 : Sta Z Z.heap "com/example/ceruline/ceruline/program/Expression$Comparison$Relation" "GREATER" "Lcom/example/ceruline/ceruline/program/Expression$Comparison$Relation;" (.ref q2)) (St3 : Sta Z Z.heap "com/example/ceruline/ceruline/program/Expression$Comparison$Relation" "GREATER_OR_EQUAL" "Lcom/example/ceruline/ceruline/program/Expression$Comparison$Relation;" (.ref q3)) (St4 : Sta Z Z.heap "com/example/ceruline/ceruline/program/Expression$Comparison$Relation" "EQUAL" "Lcom/example/ceruline/ceruline/program/Expression$Comparison$Relation;" (.ref q4)) (St5 : Sta Z Z.heap "com/example/ceruline/ceruline/program/Expression$Comparison$Relation" "NOT_EQUAL" "Lcom/example/ceruline/ceruline/program/Expression$Comparison$Relation;" (.ref q5)) (O0 : Old Z n0 h0) (nq20 : ¬ q2 = q0) (nq21 : ¬ q2 = q1) :
    Con l Z (⟨"com/example/ceruline/ceruline/program/RelationNegationPinLaw", "holds", "(Lcom/example/ceruline/ceruline/program/Expression$Comparison$Relation;II)Z"⟩ : MethodName) method_3_code 3 (some .boolean) [] ({ frames := 0, cells := 0, slots := 0, locals := 0 } : Room) #[(.ref q2), (.int a), (.int b)] h0 (fun v h L => v = some (.int (if b < a then (1 : Int32) else 0)) ∧ Fr n0 L ∧ h = h0) := by
  refine enter (Ls := #[.val (.ref q2), .val (.int a), .val (.int b)]) (plainFor_of_name pn_0) (fun m => by first | rfl | (simp [entryFrame, mkF, argsToLocals, Value.category]; done)) ?_
  intro p e s m below meth c s₁ S0 hx hby hml hret hlk hnm hown hZ X0 e0 k0
  have N0 := Fr.nil n0
  have k1 : To p.tables e below S0 (s₁.setTop (mkF m 1 #[.val (.ref q2), .val (.int a), .val (.int b)] [(.ref q2)])) := fun tt hq => k0 tt (by
    show Steps _ _ _ (s₁.setTop (mkF m 0 #[.val (.ref q2), .val (.int a), .val (.int b)] [])) _
    refine XS.aloadN X0.here hx rfl (hb hby d_method_3_code_0) rfl rfl ?_
    show Steps _ _ _ (s₁.setTop (mkF m 1 #[.val (.ref q2), .val (.int a), .val (.int b)] [(.ref q2)])) _
    exact hq)
  obtain ⟨T2, X2, e2, st2⟩ := getS2 X0 hx hZ hown (host := "") (Or.inl (hw _ (List.mem_of_getElem? (i := 5) rfl))) Via.refl e0 (staOld St0 O0) (g := (mkF m 1 #[.val (.ref q2), .val (.int a), .val (.int b)] [(.ref q2)])) rfl (hb hby d_method_3_code_1)
  have k2 : To p.tables e below S0 (T2.setTop (mkF m 4 #[.val (.ref q2), .val (.int a), .val (.int b)] [(.ref q0), (.ref q2)])) := fun tt hq => k1 tt (st2 tt hq)
  have k3 : To p.tables e below S0 (T2.setTop (mkF m 19 #[.val (.ref q2), .val (.int a), .val (.int b)] [(.ref q2)])) := fun tt hq => k2 tt (by
    show Steps _ _ _ (T2.setTop (mkF m 4 #[.val (.ref q2), .val (.int a), .val (.int b)] [(.ref q0), (.ref q2)])) _
    refine Jvm.RoadKit.acmp (g := (mkF m 4 #[.val (.ref q2), .val (.int a), .val (.int b)] [(.ref q0), (.ref q2)])) X2 hx rfl rfl rfl (pc0 := 4) (pc' := 18) (same := false) rfl (hb hby d_method_3_code_4) rfl (decide_eq_false fun q => nq20 (Value.ref.inj q)) (by decide) (by decide) ?_
    show Steps _ _ _ (T2.setTop (mkF m 18 #[.val (.ref q2), .val (.int a), .val (.int b)] [])) _
    refine XS.aloadN X2.here hx rfl (hb hby d_method_3_code_18) rfl rfl ?_
    show Steps _ _ _ (T2.setTop (mkF m 19 #[.val (.ref q2), .val (.int a), .val (.int b)] [(.ref q2)])) _
    exact hq)
  obtain ⟨T4, X4, e4, st4⟩ := getS2 X2 hx hZ hown (host := "") (Or.inl (hw _ (List.mem_of_getElem? (i := 27) rfl))) Via.refl e2 (staOld St1 O0) (g := (mkF m 19 #[.val (.ref q2), .val (.int a), .val (.int b)] [(.ref q2)])) rfl (hb hby d_method_3_code_19)
  have k4 : To p.tables e below S0 (T4.setTop (mkF m 22 #[.val (.ref q2), .val (.int a), .val (.int b)] [(.ref q1), (.ref q2)])) := fun tt hq => k3 tt (st4 tt hq)
  have k5 : To p.tables e below S0 (T4.setTop (mkF m 37 #[.val (.ref q2), .val (.int a), .val (.int b)] [(.ref q2)])) := fun tt hq => k4 tt (by
    show Steps _ _ _ (T4.setTop (mkF m 22 #[.val (.ref q2), .val (.int a), .val (.int b)] [(.ref q1), (.ref q2)])) _
    refine Jvm.RoadKit.acmp (g := (mkF m 22 #[.val (.ref q2), .val (.int a), .val (.int b)] [(.ref q1), (.ref q2)])) X4 hx rfl rfl rfl (pc0 := 22) (pc' := 36) (same := false) rfl (hb hby d_method_3_code_22) rfl (decide_eq_false fun q => nq21 (Value.ref.inj q)) (by decide) (by decide) ?_
    show Steps _ _ _ (T4.setTop (mkF m 36 #[.val (.ref q2), .val (.int a), .val (.int b)] [])) _
    refine XS.aloadN X4.here hx rfl (hb hby d_method_3_code_36) rfl rfl ?_
    show Steps _ _ _ (T4.setTop (mkF m 37 #[.val (.ref q2), .val (.int a), .val (.int b)] [(.ref q2)])) _
    exact hq)
  obtain ⟨T6, X6, e6, st6⟩ := getS2 X4 hx hZ hown (host := "") (Or.inl (hw _ (List.mem_of_getElem? (i := 29) rfl))) Via.refl e4 (staOld St2 O0) (g := (mkF m 37 #[.val (.ref q2), .val (.int a), .val (.int b)] [(.ref q2)])) rfl (hb hby d_method_3_code_37)
  have k6 : To p.tables e below S0 (T6.setTop (mkF m 40 #[.val (.ref q2), .val (.int a), .val (.int b)] [(.ref q2), (.ref q2)])) := fun tt hq => k5 tt (st6 tt hq)
  have k7 : To p.tables e below S0 (T6.setTop (mkF m 45 #[.val (.ref q2), .val (.int a), .val (.int b)] [(.int b), (.int a)])) := fun tt hq => k6 tt (by
    show Steps _ _ _ (T6.setTop (mkF m 40 #[.val (.ref q2), .val (.int a), .val (.int b)] [(.ref q2), (.ref q2)])) _
    refine Jvm.RoadKit.acmp (g := (mkF m 40 #[.val (.ref q2), .val (.int a), .val (.int b)] [(.ref q2), (.ref q2)])) X6 hx rfl rfl rfl (pc0 := 40) (pc' := 43) (same := true) rfl (hb hby d_method_3_code_40) rfl (decide_eq_true rfl) (by decide) (by decide) ?_
    show Steps _ _ _ (T6.setTop (mkF m 43 #[.val (.ref q2), .val (.int a), .val (.int b)] [])) _
    refine XS.iloadN X6.here hx rfl (hb hby d_method_3_code_43) rfl ?_
    show Steps _ _ _ (T6.setTop (mkF m 44 #[.val (.ref q2), .val (.int a), .val (.int b)] [(.int a)])) _
    refine XS.iloadN X6.here hx rfl (hb hby d_method_3_code_44) rfl ?_
    show Steps _ _ _ (T6.setTop (mkF m 45 #[.val (.ref q2), .val (.int a), .val (.int b)] [(.int b), (.int a)])) _
    exact hq)
  by_cases hc45_8 : b < a
  · -- pc 45, holds
    have k9 : To p.tables e below S0 (T6.setTop (mkF m 53 #[.val (.ref q2), .val (.int a), .val (.int b)] [(.int (1 : Int32))])) := fun tt hq => k7 tt (by
      show Steps _ _ _ (T6.setTop (mkF m 45 #[.val (.ref q2), .val (.int a), .val (.int b)] [(.int b), (.int a)])) _
      refine XS.icmpNo X6.here hx rfl (hb hby d_method_3_code_45) rfl (tlt hc45_8).2.2.2 ?_
      show Steps _ _ _ (T6.setTop (mkF m 48 #[.val (.ref q2), .val (.int a), .val (.int b)] [])) _
      refine XS.iconst X6.here hx rfl (hb hby d_method_3_code_48) ?_
      show Steps _ _ _ (T6.setTop (mkF m 49 #[.val (.ref q2), .val (.int a), .val (.int b)] [(.int (1 : Int32))])) _
      refine XS.goto X6.here hx rfl (pc0 := 49) (pc' := 53) rfl (hb hby d_method_3_code_49) (by decide) (by decide) ?_
      show Steps _ _ _ (T6.setTop (mkF m 53 #[.val (.ref q2), .val (.int a), .val (.int b)] [(.int (1 : Int32))])) _
      exact hq)
    have hE := e6
    refine retInt X6 hx hret hlk (by simp) rfl (hb hby d_method_3_code_53) k9 ?_ (by decide) (by decide)
    try rw [hE]
    exact ⟨by rw [show (if b < a then (1 : Int32) else 0) = _ from if_pos hc45_8], N0, rfl⟩
  · -- pc 45, holds not
    have k10 : To p.tables e below S0 (T6.setTop (mkF m 53 #[.val (.ref q2), .val (.int a), .val (.int b)] [(.int (0 : Int32))])) := fun tt hq => k7 tt (by
      show Steps _ _ _ (T6.setTop (mkF m 45 #[.val (.ref q2), .val (.int a), .val (.int b)] [(.int b), (.int a)])) _
      refine XS.icmpYes X6.here hx rfl (pc0 := 45) (pc' := 52) rfl (hb hby d_method_3_code_45) rfl (flt hc45_8).2.2.2 (by decide) (by decide) ?_
      show Steps _ _ _ (T6.setTop (mkF m 52 #[.val (.ref q2), .val (.int a), .val (.int b)] [])) _
      refine XS.iconst X6.here hx rfl (hb hby d_method_3_code_52) ?_
      show Steps _ _ _ (T6.setTop (mkF m 53 #[.val (.ref q2), .val (.int a), .val (.int b)] [(.int (0 : Int32))])) _
      exact hq)
    have hE := e6
    refine retInt X6 hx hret hlk (by simp) rfl (hb hby d_method_3_code_53) k10 ?_ (by decide) (by decide)
    try rw [hE]
    exact ⟨by rw [show (if b < a then (1 : Int32) else 0) = _ from if_neg hc45_8], N0, rfl⟩
set_option maxRecDepth 65536 in
set_option maxHeartbeats 40000000 in
theorem rmh3 (l : Launch) (Z : State) (a0 : Array Value) (hw : ∀ d ∈ tables_1, d.before a0 Z = true) (q0 : Addr) (q1 : Addr) (q2 : Addr) (q3 : Addr) (q4 : Addr) (q5 : Addr) (a : Int32) (b : Int32) (h0 : Heap) (n0 : Nat) (hn0 : n0 ≤ h0.size) (St0 : Sta Z Z.heap "com/example/ceruline/ceruline/program/Expression$Comparison$Relation" "LESS" "Lcom/example/ceruline/ceruline/program/Expression$Comparison$Relation;" (.ref q0)) (St1 : Sta Z Z.heap "com/example/ceruline/ceruline/program/Expression$Comparison$Relation" "LESS_OR_EQUAL" "Lcom/example/ceruline/ceruline/program/Expression$Comparison$Relation;" (.ref q1)) (St2 : Sta Z Z.heap "com/example/ceruline/ceruline/program/Expression$Comparison$Relation" "GREATER" "Lcom/example/ceruline/ceruline/program/Expression$Comparison$Relation;" (.ref q2)) (St3 : Sta Z Z.heap "com/example/ceruline/ceruline/program/Expression$Comparison$Relation" "GREATER_OR_EQUAL" "Lcom/example/ceruline/ceruline/program/Expression$Comparison$Relation;" (.ref q3)) (St4 : Sta Z Z.heap "com/example/ceruline/ceruline/program/Expression$Comparison$Relation" "EQUAL" "Lcom/example/ceruline/ceruline/program/Expression$Comparison$Relation;" (.ref q4)) (St5 : Sta Z Z.heap "com/example/ceruline/ceruline/program/Expression$Comparison$Relation" "NOT_EQUAL" "Lcom/example/ceruline/ceruline/program/Expression$Comparison$Relation;" (.ref q5)) (O0 : Old Z n0 h0) (nq30 : ¬ q3 = q0) (nq31 : ¬ q3 = q1) (nq32 : ¬ q3 = q2) :
    Con l Z (⟨"com/example/ceruline/ceruline/program/RelationNegationPinLaw", "holds", "(Lcom/example/ceruline/ceruline/program/Expression$Comparison$Relation;II)Z"⟩ : MethodName) method_3_code 3 (some .boolean) [] ({ frames := 0, cells := 0, slots := 0, locals := 0 } : Room) #[(.ref q3), (.int a), (.int b)] h0 (fun v h L => v = some (.int (if ¬ a < b then (1 : Int32) else 0)) ∧ Fr n0 L ∧ h = h0) := by
  refine enter (Ls := #[.val (.ref q3), .val (.int a), .val (.int b)]) (plainFor_of_name pn_0) (fun m => by first | rfl | (simp [entryFrame, mkF, argsToLocals, Value.category]; done)) ?_
  intro p e s m below meth c s₁ S0 hx hby hml hret hlk hnm hown hZ X0 e0 k0
  have N0 := Fr.nil n0
  have k1 : To p.tables e below S0 (s₁.setTop (mkF m 1 #[.val (.ref q3), .val (.int a), .val (.int b)] [(.ref q3)])) := fun tt hq => k0 tt (by
    show Steps _ _ _ (s₁.setTop (mkF m 0 #[.val (.ref q3), .val (.int a), .val (.int b)] [])) _
    refine XS.aloadN X0.here hx rfl (hb hby d_method_3_code_0) rfl rfl ?_
    show Steps _ _ _ (s₁.setTop (mkF m 1 #[.val (.ref q3), .val (.int a), .val (.int b)] [(.ref q3)])) _
    exact hq)
  obtain ⟨T2, X2, e2, st2⟩ := getS2 X0 hx hZ hown (host := "") (Or.inl (hw _ (List.mem_of_getElem? (i := 5) rfl))) Via.refl e0 (staOld St0 O0) (g := (mkF m 1 #[.val (.ref q3), .val (.int a), .val (.int b)] [(.ref q3)])) rfl (hb hby d_method_3_code_1)
  have k2 : To p.tables e below S0 (T2.setTop (mkF m 4 #[.val (.ref q3), .val (.int a), .val (.int b)] [(.ref q0), (.ref q3)])) := fun tt hq => k1 tt (st2 tt hq)
  have k3 : To p.tables e below S0 (T2.setTop (mkF m 19 #[.val (.ref q3), .val (.int a), .val (.int b)] [(.ref q3)])) := fun tt hq => k2 tt (by
    show Steps _ _ _ (T2.setTop (mkF m 4 #[.val (.ref q3), .val (.int a), .val (.int b)] [(.ref q0), (.ref q3)])) _
    refine Jvm.RoadKit.acmp (g := (mkF m 4 #[.val (.ref q3), .val (.int a), .val (.int b)] [(.ref q0), (.ref q3)])) X2 hx rfl rfl rfl (pc0 := 4) (pc' := 18) (same := false) rfl (hb hby d_method_3_code_4) rfl (decide_eq_false fun q => nq30 (Value.ref.inj q)) (by decide) (by decide) ?_
    show Steps _ _ _ (T2.setTop (mkF m 18 #[.val (.ref q3), .val (.int a), .val (.int b)] [])) _
    refine XS.aloadN X2.here hx rfl (hb hby d_method_3_code_18) rfl rfl ?_
    show Steps _ _ _ (T2.setTop (mkF m 19 #[.val (.ref q3), .val (.int a), .val (.int b)] [(.ref q3)])) _
    exact hq)
  obtain ⟨T4, X4, e4, st4⟩ := getS2 X2 hx hZ hown (host := "") (Or.inl (hw _ (List.mem_of_getElem? (i := 27) rfl))) Via.refl e2 (staOld St1 O0) (g := (mkF m 19 #[.val (.ref q3), .val (.int a), .val (.int b)] [(.ref q3)])) rfl (hb hby d_method_3_code_19)
  have k4 : To p.tables e below S0 (T4.setTop (mkF m 22 #[.val (.ref q3), .val (.int a), .val (.int b)] [(.ref q1), (.ref q3)])) := fun tt hq => k3 tt (st4 tt hq)
  have k5 : To p.tables e below S0 (T4.setTop (mkF m 37 #[.val (.ref q3), .val (.int a), .val (.int b)] [(.ref q3)])) := fun tt hq => k4 tt (by
    show Steps _ _ _ (T4.setTop (mkF m 22 #[.val (.ref q3), .val (.int a), .val (.int b)] [(.ref q1), (.ref q3)])) _
    refine Jvm.RoadKit.acmp (g := (mkF m 22 #[.val (.ref q3), .val (.int a), .val (.int b)] [(.ref q1), (.ref q3)])) X4 hx rfl rfl rfl (pc0 := 22) (pc' := 36) (same := false) rfl (hb hby d_method_3_code_22) rfl (decide_eq_false fun q => nq31 (Value.ref.inj q)) (by decide) (by decide) ?_
    show Steps _ _ _ (T4.setTop (mkF m 36 #[.val (.ref q3), .val (.int a), .val (.int b)] [])) _
    refine XS.aloadN X4.here hx rfl (hb hby d_method_3_code_36) rfl rfl ?_
    show Steps _ _ _ (T4.setTop (mkF m 37 #[.val (.ref q3), .val (.int a), .val (.int b)] [(.ref q3)])) _
    exact hq)
  obtain ⟨T6, X6, e6, st6⟩ := getS2 X4 hx hZ hown (host := "") (Or.inl (hw _ (List.mem_of_getElem? (i := 29) rfl))) Via.refl e4 (staOld St2 O0) (g := (mkF m 37 #[.val (.ref q3), .val (.int a), .val (.int b)] [(.ref q3)])) rfl (hb hby d_method_3_code_37)
  have k6 : To p.tables e below S0 (T6.setTop (mkF m 40 #[.val (.ref q3), .val (.int a), .val (.int b)] [(.ref q2), (.ref q3)])) := fun tt hq => k5 tt (st6 tt hq)
  have k7 : To p.tables e below S0 (T6.setTop (mkF m 55 #[.val (.ref q3), .val (.int a), .val (.int b)] [(.ref q3)])) := fun tt hq => k6 tt (by
    show Steps _ _ _ (T6.setTop (mkF m 40 #[.val (.ref q3), .val (.int a), .val (.int b)] [(.ref q2), (.ref q3)])) _
    refine Jvm.RoadKit.acmp (g := (mkF m 40 #[.val (.ref q3), .val (.int a), .val (.int b)] [(.ref q2), (.ref q3)])) X6 hx rfl rfl rfl (pc0 := 40) (pc' := 54) (same := false) rfl (hb hby d_method_3_code_40) rfl (decide_eq_false fun q => nq32 (Value.ref.inj q)) (by decide) (by decide) ?_
    show Steps _ _ _ (T6.setTop (mkF m 54 #[.val (.ref q3), .val (.int a), .val (.int b)] [])) _
    refine XS.aloadN X6.here hx rfl (hb hby d_method_3_code_54) rfl rfl ?_
    show Steps _ _ _ (T6.setTop (mkF m 55 #[.val (.ref q3), .val (.int a), .val (.int b)] [(.ref q3)])) _
    exact hq)
  obtain ⟨T8, X8, e8, st8⟩ := getS2 X6 hx hZ hown (host := "") (Or.inl (hw _ (List.mem_of_getElem? (i := 31) rfl))) Via.refl e6 (staOld St3 O0) (g := (mkF m 55 #[.val (.ref q3), .val (.int a), .val (.int b)] [(.ref q3)])) rfl (hb hby d_method_3_code_55)
  have k8 : To p.tables e below S0 (T8.setTop (mkF m 58 #[.val (.ref q3), .val (.int a), .val (.int b)] [(.ref q3), (.ref q3)])) := fun tt hq => k7 tt (st8 tt hq)
  have k9 : To p.tables e below S0 (T8.setTop (mkF m 63 #[.val (.ref q3), .val (.int a), .val (.int b)] [(.int b), (.int a)])) := fun tt hq => k8 tt (by
    show Steps _ _ _ (T8.setTop (mkF m 58 #[.val (.ref q3), .val (.int a), .val (.int b)] [(.ref q3), (.ref q3)])) _
    refine Jvm.RoadKit.acmp (g := (mkF m 58 #[.val (.ref q3), .val (.int a), .val (.int b)] [(.ref q3), (.ref q3)])) X8 hx rfl rfl rfl (pc0 := 58) (pc' := 61) (same := true) rfl (hb hby d_method_3_code_58) rfl (decide_eq_true rfl) (by decide) (by decide) ?_
    show Steps _ _ _ (T8.setTop (mkF m 61 #[.val (.ref q3), .val (.int a), .val (.int b)] [])) _
    refine XS.iloadN X8.here hx rfl (hb hby d_method_3_code_61) rfl ?_
    show Steps _ _ _ (T8.setTop (mkF m 62 #[.val (.ref q3), .val (.int a), .val (.int b)] [(.int a)])) _
    refine XS.iloadN X8.here hx rfl (hb hby d_method_3_code_62) rfl ?_
    show Steps _ _ _ (T8.setTop (mkF m 63 #[.val (.ref q3), .val (.int a), .val (.int b)] [(.int b), (.int a)])) _
    exact hq)
  by_cases hc63_10 : a < b
  · -- pc 63, holds
    have k11 : To p.tables e below S0 (T8.setTop (mkF m 71 #[.val (.ref q3), .val (.int a), .val (.int b)] [(.int (0 : Int32))])) := fun tt hq => k9 tt (by
      show Steps _ _ _ (T8.setTop (mkF m 63 #[.val (.ref q3), .val (.int a), .val (.int b)] [(.int b), (.int a)])) _
      refine XS.icmpYes X8.here hx rfl (pc0 := 63) (pc' := 70) rfl (hb hby d_method_3_code_63) rfl (tlt hc63_10).1 (by decide) (by decide) ?_
      show Steps _ _ _ (T8.setTop (mkF m 70 #[.val (.ref q3), .val (.int a), .val (.int b)] [])) _
      refine XS.iconst X8.here hx rfl (hb hby d_method_3_code_70) ?_
      show Steps _ _ _ (T8.setTop (mkF m 71 #[.val (.ref q3), .val (.int a), .val (.int b)] [(.int (0 : Int32))])) _
      exact hq)
    have hE := e8
    refine retInt X8 hx hret hlk (by simp) rfl (hb hby d_method_3_code_71) k11 ?_ (by decide) (by decide)
    try rw [hE]
    exact ⟨by rw [show (if ¬ a < b then (1 : Int32) else 0) = _ from if_neg (fun z => z hc63_10)], N0, rfl⟩
  · -- pc 63, holds not
    have k12 : To p.tables e below S0 (T8.setTop (mkF m 71 #[.val (.ref q3), .val (.int a), .val (.int b)] [(.int (1 : Int32))])) := fun tt hq => k9 tt (by
      show Steps _ _ _ (T8.setTop (mkF m 63 #[.val (.ref q3), .val (.int a), .val (.int b)] [(.int b), (.int a)])) _
      refine XS.icmpNo X8.here hx rfl (hb hby d_method_3_code_63) rfl (flt hc63_10).1 ?_
      show Steps _ _ _ (T8.setTop (mkF m 66 #[.val (.ref q3), .val (.int a), .val (.int b)] [])) _
      refine XS.iconst X8.here hx rfl (hb hby d_method_3_code_66) ?_
      show Steps _ _ _ (T8.setTop (mkF m 67 #[.val (.ref q3), .val (.int a), .val (.int b)] [(.int (1 : Int32))])) _
      refine XS.goto X8.here hx rfl (pc0 := 67) (pc' := 71) rfl (hb hby d_method_3_code_67) (by decide) (by decide) ?_
      show Steps _ _ _ (T8.setTop (mkF m 71 #[.val (.ref q3), .val (.int a), .val (.int b)] [(.int (1 : Int32))])) _
      exact hq)
    have hE := e8
    refine retInt X8 hx hret hlk (by simp) rfl (hb hby d_method_3_code_71) k12 ?_ (by decide) (by decide)
    try rw [hE]
    exact ⟨by rw [show (if ¬ a < b then (1 : Int32) else 0) = _ from if_pos hc63_10], N0, rfl⟩
set_option maxRecDepth 65536 in
set_option maxHeartbeats 40000000 in
theorem rmh4 (l : Launch) (Z : State) (a0 : Array Value) (hw : ∀ d ∈ tables_1, d.before a0 Z = true) (q0 : Addr) (q1 : Addr) (q2 : Addr) (q3 : Addr) (q4 : Addr) (q5 : Addr) (a : Int32) (b : Int32) (h0 : Heap) (n0 : Nat) (hn0 : n0 ≤ h0.size) (St0 : Sta Z Z.heap "com/example/ceruline/ceruline/program/Expression$Comparison$Relation" "LESS" "Lcom/example/ceruline/ceruline/program/Expression$Comparison$Relation;" (.ref q0)) (St1 : Sta Z Z.heap "com/example/ceruline/ceruline/program/Expression$Comparison$Relation" "LESS_OR_EQUAL" "Lcom/example/ceruline/ceruline/program/Expression$Comparison$Relation;" (.ref q1)) (St2 : Sta Z Z.heap "com/example/ceruline/ceruline/program/Expression$Comparison$Relation" "GREATER" "Lcom/example/ceruline/ceruline/program/Expression$Comparison$Relation;" (.ref q2)) (St3 : Sta Z Z.heap "com/example/ceruline/ceruline/program/Expression$Comparison$Relation" "GREATER_OR_EQUAL" "Lcom/example/ceruline/ceruline/program/Expression$Comparison$Relation;" (.ref q3)) (St4 : Sta Z Z.heap "com/example/ceruline/ceruline/program/Expression$Comparison$Relation" "EQUAL" "Lcom/example/ceruline/ceruline/program/Expression$Comparison$Relation;" (.ref q4)) (St5 : Sta Z Z.heap "com/example/ceruline/ceruline/program/Expression$Comparison$Relation" "NOT_EQUAL" "Lcom/example/ceruline/ceruline/program/Expression$Comparison$Relation;" (.ref q5)) (O0 : Old Z n0 h0) (nq40 : ¬ q4 = q0) (nq41 : ¬ q4 = q1) (nq42 : ¬ q4 = q2) (nq43 : ¬ q4 = q3) :
    Con l Z (⟨"com/example/ceruline/ceruline/program/RelationNegationPinLaw", "holds", "(Lcom/example/ceruline/ceruline/program/Expression$Comparison$Relation;II)Z"⟩ : MethodName) method_3_code 3 (some .boolean) [] ({ frames := 0, cells := 0, slots := 0, locals := 0 } : Room) #[(.ref q4), (.int a), (.int b)] h0 (fun v h L => v = some (.int (if a = b then (1 : Int32) else 0)) ∧ Fr n0 L ∧ h = h0) := by
  refine enter (Ls := #[.val (.ref q4), .val (.int a), .val (.int b)]) (plainFor_of_name pn_0) (fun m => by first | rfl | (simp [entryFrame, mkF, argsToLocals, Value.category]; done)) ?_
  intro p e s m below meth c s₁ S0 hx hby hml hret hlk hnm hown hZ X0 e0 k0
  have N0 := Fr.nil n0
  have k1 : To p.tables e below S0 (s₁.setTop (mkF m 1 #[.val (.ref q4), .val (.int a), .val (.int b)] [(.ref q4)])) := fun tt hq => k0 tt (by
    show Steps _ _ _ (s₁.setTop (mkF m 0 #[.val (.ref q4), .val (.int a), .val (.int b)] [])) _
    refine XS.aloadN X0.here hx rfl (hb hby d_method_3_code_0) rfl rfl ?_
    show Steps _ _ _ (s₁.setTop (mkF m 1 #[.val (.ref q4), .val (.int a), .val (.int b)] [(.ref q4)])) _
    exact hq)
  obtain ⟨T2, X2, e2, st2⟩ := getS2 X0 hx hZ hown (host := "") (Or.inl (hw _ (List.mem_of_getElem? (i := 5) rfl))) Via.refl e0 (staOld St0 O0) (g := (mkF m 1 #[.val (.ref q4), .val (.int a), .val (.int b)] [(.ref q4)])) rfl (hb hby d_method_3_code_1)
  have k2 : To p.tables e below S0 (T2.setTop (mkF m 4 #[.val (.ref q4), .val (.int a), .val (.int b)] [(.ref q0), (.ref q4)])) := fun tt hq => k1 tt (st2 tt hq)
  have k3 : To p.tables e below S0 (T2.setTop (mkF m 19 #[.val (.ref q4), .val (.int a), .val (.int b)] [(.ref q4)])) := fun tt hq => k2 tt (by
    show Steps _ _ _ (T2.setTop (mkF m 4 #[.val (.ref q4), .val (.int a), .val (.int b)] [(.ref q0), (.ref q4)])) _
    refine Jvm.RoadKit.acmp (g := (mkF m 4 #[.val (.ref q4), .val (.int a), .val (.int b)] [(.ref q0), (.ref q4)])) X2 hx rfl rfl rfl (pc0 := 4) (pc' := 18) (same := false) rfl (hb hby d_method_3_code_4) rfl (decide_eq_false fun q => nq40 (Value.ref.inj q)) (by decide) (by decide) ?_
    show Steps _ _ _ (T2.setTop (mkF m 18 #[.val (.ref q4), .val (.int a), .val (.int b)] [])) _
    refine XS.aloadN X2.here hx rfl (hb hby d_method_3_code_18) rfl rfl ?_
    show Steps _ _ _ (T2.setTop (mkF m 19 #[.val (.ref q4), .val (.int a), .val (.int b)] [(.ref q4)])) _
    exact hq)
  obtain ⟨T4, X4, e4, st4⟩ := getS2 X2 hx hZ hown (host := "") (Or.inl (hw _ (List.mem_of_getElem? (i := 27) rfl))) Via.refl e2 (staOld St1 O0) (g := (mkF m 19 #[.val (.ref q4), .val (.int a), .val (.int b)] [(.ref q4)])) rfl (hb hby d_method_3_code_19)
  have k4 : To p.tables e below S0 (T4.setTop (mkF m 22 #[.val (.ref q4), .val (.int a), .val (.int b)] [(.ref q1), (.ref q4)])) := fun tt hq => k3 tt (st4 tt hq)
  have k5 : To p.tables e below S0 (T4.setTop (mkF m 37 #[.val (.ref q4), .val (.int a), .val (.int b)] [(.ref q4)])) := fun tt hq => k4 tt (by
    show Steps _ _ _ (T4.setTop (mkF m 22 #[.val (.ref q4), .val (.int a), .val (.int b)] [(.ref q1), (.ref q4)])) _
    refine Jvm.RoadKit.acmp (g := (mkF m 22 #[.val (.ref q4), .val (.int a), .val (.int b)] [(.ref q1), (.ref q4)])) X4 hx rfl rfl rfl (pc0 := 22) (pc' := 36) (same := false) rfl (hb hby d_method_3_code_22) rfl (decide_eq_false fun q => nq41 (Value.ref.inj q)) (by decide) (by decide) ?_
    show Steps _ _ _ (T4.setTop (mkF m 36 #[.val (.ref q4), .val (.int a), .val (.int b)] [])) _
    refine XS.aloadN X4.here hx rfl (hb hby d_method_3_code_36) rfl rfl ?_
    show Steps _ _ _ (T4.setTop (mkF m 37 #[.val (.ref q4), .val (.int a), .val (.int b)] [(.ref q4)])) _
    exact hq)
  obtain ⟨T6, X6, e6, st6⟩ := getS2 X4 hx hZ hown (host := "") (Or.inl (hw _ (List.mem_of_getElem? (i := 29) rfl))) Via.refl e4 (staOld St2 O0) (g := (mkF m 37 #[.val (.ref q4), .val (.int a), .val (.int b)] [(.ref q4)])) rfl (hb hby d_method_3_code_37)
  have k6 : To p.tables e below S0 (T6.setTop (mkF m 40 #[.val (.ref q4), .val (.int a), .val (.int b)] [(.ref q2), (.ref q4)])) := fun tt hq => k5 tt (st6 tt hq)
  have k7 : To p.tables e below S0 (T6.setTop (mkF m 55 #[.val (.ref q4), .val (.int a), .val (.int b)] [(.ref q4)])) := fun tt hq => k6 tt (by
    show Steps _ _ _ (T6.setTop (mkF m 40 #[.val (.ref q4), .val (.int a), .val (.int b)] [(.ref q2), (.ref q4)])) _
    refine Jvm.RoadKit.acmp (g := (mkF m 40 #[.val (.ref q4), .val (.int a), .val (.int b)] [(.ref q2), (.ref q4)])) X6 hx rfl rfl rfl (pc0 := 40) (pc' := 54) (same := false) rfl (hb hby d_method_3_code_40) rfl (decide_eq_false fun q => nq42 (Value.ref.inj q)) (by decide) (by decide) ?_
    show Steps _ _ _ (T6.setTop (mkF m 54 #[.val (.ref q4), .val (.int a), .val (.int b)] [])) _
    refine XS.aloadN X6.here hx rfl (hb hby d_method_3_code_54) rfl rfl ?_
    show Steps _ _ _ (T6.setTop (mkF m 55 #[.val (.ref q4), .val (.int a), .val (.int b)] [(.ref q4)])) _
    exact hq)
  obtain ⟨T8, X8, e8, st8⟩ := getS2 X6 hx hZ hown (host := "") (Or.inl (hw _ (List.mem_of_getElem? (i := 31) rfl))) Via.refl e6 (staOld St3 O0) (g := (mkF m 55 #[.val (.ref q4), .val (.int a), .val (.int b)] [(.ref q4)])) rfl (hb hby d_method_3_code_55)
  have k8 : To p.tables e below S0 (T8.setTop (mkF m 58 #[.val (.ref q4), .val (.int a), .val (.int b)] [(.ref q3), (.ref q4)])) := fun tt hq => k7 tt (st8 tt hq)
  have k9 : To p.tables e below S0 (T8.setTop (mkF m 73 #[.val (.ref q4), .val (.int a), .val (.int b)] [(.ref q4)])) := fun tt hq => k8 tt (by
    show Steps _ _ _ (T8.setTop (mkF m 58 #[.val (.ref q4), .val (.int a), .val (.int b)] [(.ref q3), (.ref q4)])) _
    refine Jvm.RoadKit.acmp (g := (mkF m 58 #[.val (.ref q4), .val (.int a), .val (.int b)] [(.ref q3), (.ref q4)])) X8 hx rfl rfl rfl (pc0 := 58) (pc' := 72) (same := false) rfl (hb hby d_method_3_code_58) rfl (decide_eq_false fun q => nq43 (Value.ref.inj q)) (by decide) (by decide) ?_
    show Steps _ _ _ (T8.setTop (mkF m 72 #[.val (.ref q4), .val (.int a), .val (.int b)] [])) _
    refine XS.aloadN X8.here hx rfl (hb hby d_method_3_code_72) rfl rfl ?_
    show Steps _ _ _ (T8.setTop (mkF m 73 #[.val (.ref q4), .val (.int a), .val (.int b)] [(.ref q4)])) _
    exact hq)
  obtain ⟨T10, X10, e10, st10⟩ := getS2 X8 hx hZ hown (host := "") (Or.inl (hw _ (List.mem_of_getElem? (i := 35) rfl))) Via.refl e8 (staOld St4 O0) (g := (mkF m 73 #[.val (.ref q4), .val (.int a), .val (.int b)] [(.ref q4)])) rfl (hb hby d_method_3_code_73)
  have k10 : To p.tables e below S0 (T10.setTop (mkF m 76 #[.val (.ref q4), .val (.int a), .val (.int b)] [(.ref q4), (.ref q4)])) := fun tt hq => k9 tt (st10 tt hq)
  have k11 : To p.tables e below S0 (T10.setTop (mkF m 81 #[.val (.ref q4), .val (.int a), .val (.int b)] [(.int b), (.int a)])) := fun tt hq => k10 tt (by
    show Steps _ _ _ (T10.setTop (mkF m 76 #[.val (.ref q4), .val (.int a), .val (.int b)] [(.ref q4), (.ref q4)])) _
    refine Jvm.RoadKit.acmp (g := (mkF m 76 #[.val (.ref q4), .val (.int a), .val (.int b)] [(.ref q4), (.ref q4)])) X10 hx rfl rfl rfl (pc0 := 76) (pc' := 79) (same := true) rfl (hb hby d_method_3_code_76) rfl (decide_eq_true rfl) (by decide) (by decide) ?_
    show Steps _ _ _ (T10.setTop (mkF m 79 #[.val (.ref q4), .val (.int a), .val (.int b)] [])) _
    refine XS.iloadN X10.here hx rfl (hb hby d_method_3_code_79) rfl ?_
    show Steps _ _ _ (T10.setTop (mkF m 80 #[.val (.ref q4), .val (.int a), .val (.int b)] [(.int a)])) _
    refine XS.iloadN X10.here hx rfl (hb hby d_method_3_code_80) rfl ?_
    show Steps _ _ _ (T10.setTop (mkF m 81 #[.val (.ref q4), .val (.int a), .val (.int b)] [(.int b), (.int a)])) _
    exact hq)
  by_cases hc81_12 : a = b
  · -- pc 81, holds
    have k13 : To p.tables e below S0 (T10.setTop (mkF m 89 #[.val (.ref q4), .val (.int a), .val (.int b)] [(.int (1 : Int32))])) := fun tt hq => k11 tt (by
      show Steps _ _ _ (T10.setTop (mkF m 81 #[.val (.ref q4), .val (.int a), .val (.int b)] [(.int b), (.int a)])) _
      refine XS.icmpNo X10.here hx rfl (hb hby d_method_3_code_81) rfl (teq hc81_12).2 ?_
      show Steps _ _ _ (T10.setTop (mkF m 84 #[.val (.ref q4), .val (.int a), .val (.int b)] [])) _
      refine XS.iconst X10.here hx rfl (hb hby d_method_3_code_84) ?_
      show Steps _ _ _ (T10.setTop (mkF m 85 #[.val (.ref q4), .val (.int a), .val (.int b)] [(.int (1 : Int32))])) _
      refine XS.goto X10.here hx rfl (pc0 := 85) (pc' := 89) rfl (hb hby d_method_3_code_85) (by decide) (by decide) ?_
      show Steps _ _ _ (T10.setTop (mkF m 89 #[.val (.ref q4), .val (.int a), .val (.int b)] [(.int (1 : Int32))])) _
      exact hq)
    have hE := e10
    refine retInt X10 hx hret hlk (by simp) rfl (hb hby d_method_3_code_89) k13 ?_ (by decide) (by decide)
    try rw [hE]
    exact ⟨by rw [show (if a = b then (1 : Int32) else 0) = _ from if_pos hc81_12], N0, rfl⟩
  · -- pc 81, holds not
    have k14 : To p.tables e below S0 (T10.setTop (mkF m 89 #[.val (.ref q4), .val (.int a), .val (.int b)] [(.int (0 : Int32))])) := fun tt hq => k11 tt (by
      show Steps _ _ _ (T10.setTop (mkF m 81 #[.val (.ref q4), .val (.int a), .val (.int b)] [(.int b), (.int a)])) _
      refine XS.icmpYes X10.here hx rfl (pc0 := 81) (pc' := 88) rfl (hb hby d_method_3_code_81) rfl (feq hc81_12).2 (by decide) (by decide) ?_
      show Steps _ _ _ (T10.setTop (mkF m 88 #[.val (.ref q4), .val (.int a), .val (.int b)] [])) _
      refine XS.iconst X10.here hx rfl (hb hby d_method_3_code_88) ?_
      show Steps _ _ _ (T10.setTop (mkF m 89 #[.val (.ref q4), .val (.int a), .val (.int b)] [(.int (0 : Int32))])) _
      exact hq)
    have hE := e10
    refine retInt X10 hx hret hlk (by simp) rfl (hb hby d_method_3_code_89) k14 ?_ (by decide) (by decide)
    try rw [hE]
    exact ⟨by rw [show (if a = b then (1 : Int32) else 0) = _ from if_neg hc81_12], N0, rfl⟩
set_option maxRecDepth 65536 in
set_option maxHeartbeats 40000000 in
theorem rmh5 (l : Launch) (Z : State) (a0 : Array Value) (hw : ∀ d ∈ tables_1, d.before a0 Z = true) (q0 : Addr) (q1 : Addr) (q2 : Addr) (q3 : Addr) (q4 : Addr) (q5 : Addr) (a : Int32) (b : Int32) (h0 : Heap) (n0 : Nat) (hn0 : n0 ≤ h0.size) (St0 : Sta Z Z.heap "com/example/ceruline/ceruline/program/Expression$Comparison$Relation" "LESS" "Lcom/example/ceruline/ceruline/program/Expression$Comparison$Relation;" (.ref q0)) (St1 : Sta Z Z.heap "com/example/ceruline/ceruline/program/Expression$Comparison$Relation" "LESS_OR_EQUAL" "Lcom/example/ceruline/ceruline/program/Expression$Comparison$Relation;" (.ref q1)) (St2 : Sta Z Z.heap "com/example/ceruline/ceruline/program/Expression$Comparison$Relation" "GREATER" "Lcom/example/ceruline/ceruline/program/Expression$Comparison$Relation;" (.ref q2)) (St3 : Sta Z Z.heap "com/example/ceruline/ceruline/program/Expression$Comparison$Relation" "GREATER_OR_EQUAL" "Lcom/example/ceruline/ceruline/program/Expression$Comparison$Relation;" (.ref q3)) (St4 : Sta Z Z.heap "com/example/ceruline/ceruline/program/Expression$Comparison$Relation" "EQUAL" "Lcom/example/ceruline/ceruline/program/Expression$Comparison$Relation;" (.ref q4)) (St5 : Sta Z Z.heap "com/example/ceruline/ceruline/program/Expression$Comparison$Relation" "NOT_EQUAL" "Lcom/example/ceruline/ceruline/program/Expression$Comparison$Relation;" (.ref q5)) (O0 : Old Z n0 h0) (nq50 : ¬ q5 = q0) (nq51 : ¬ q5 = q1) (nq52 : ¬ q5 = q2) (nq53 : ¬ q5 = q3) (nq54 : ¬ q5 = q4) :
    Con l Z (⟨"com/example/ceruline/ceruline/program/RelationNegationPinLaw", "holds", "(Lcom/example/ceruline/ceruline/program/Expression$Comparison$Relation;II)Z"⟩ : MethodName) method_3_code 3 (some .boolean) [] ({ frames := 0, cells := 0, slots := 0, locals := 0 } : Room) #[(.ref q5), (.int a), (.int b)] h0 (fun v h L => v = some (.int (if ¬ a = b then (1 : Int32) else 0)) ∧ Fr n0 L ∧ h = h0) := by
  refine enter (Ls := #[.val (.ref q5), .val (.int a), .val (.int b)]) (plainFor_of_name pn_0) (fun m => by first | rfl | (simp [entryFrame, mkF, argsToLocals, Value.category]; done)) ?_
  intro p e s m below meth c s₁ S0 hx hby hml hret hlk hnm hown hZ X0 e0 k0
  have N0 := Fr.nil n0
  have k1 : To p.tables e below S0 (s₁.setTop (mkF m 1 #[.val (.ref q5), .val (.int a), .val (.int b)] [(.ref q5)])) := fun tt hq => k0 tt (by
    show Steps _ _ _ (s₁.setTop (mkF m 0 #[.val (.ref q5), .val (.int a), .val (.int b)] [])) _
    refine XS.aloadN X0.here hx rfl (hb hby d_method_3_code_0) rfl rfl ?_
    show Steps _ _ _ (s₁.setTop (mkF m 1 #[.val (.ref q5), .val (.int a), .val (.int b)] [(.ref q5)])) _
    exact hq)
  obtain ⟨T2, X2, e2, st2⟩ := getS2 X0 hx hZ hown (host := "") (Or.inl (hw _ (List.mem_of_getElem? (i := 5) rfl))) Via.refl e0 (staOld St0 O0) (g := (mkF m 1 #[.val (.ref q5), .val (.int a), .val (.int b)] [(.ref q5)])) rfl (hb hby d_method_3_code_1)
  have k2 : To p.tables e below S0 (T2.setTop (mkF m 4 #[.val (.ref q5), .val (.int a), .val (.int b)] [(.ref q0), (.ref q5)])) := fun tt hq => k1 tt (st2 tt hq)
  have k3 : To p.tables e below S0 (T2.setTop (mkF m 19 #[.val (.ref q5), .val (.int a), .val (.int b)] [(.ref q5)])) := fun tt hq => k2 tt (by
    show Steps _ _ _ (T2.setTop (mkF m 4 #[.val (.ref q5), .val (.int a), .val (.int b)] [(.ref q0), (.ref q5)])) _
    refine Jvm.RoadKit.acmp (g := (mkF m 4 #[.val (.ref q5), .val (.int a), .val (.int b)] [(.ref q0), (.ref q5)])) X2 hx rfl rfl rfl (pc0 := 4) (pc' := 18) (same := false) rfl (hb hby d_method_3_code_4) rfl (decide_eq_false fun q => nq50 (Value.ref.inj q)) (by decide) (by decide) ?_
    show Steps _ _ _ (T2.setTop (mkF m 18 #[.val (.ref q5), .val (.int a), .val (.int b)] [])) _
    refine XS.aloadN X2.here hx rfl (hb hby d_method_3_code_18) rfl rfl ?_
    show Steps _ _ _ (T2.setTop (mkF m 19 #[.val (.ref q5), .val (.int a), .val (.int b)] [(.ref q5)])) _
    exact hq)
  obtain ⟨T4, X4, e4, st4⟩ := getS2 X2 hx hZ hown (host := "") (Or.inl (hw _ (List.mem_of_getElem? (i := 27) rfl))) Via.refl e2 (staOld St1 O0) (g := (mkF m 19 #[.val (.ref q5), .val (.int a), .val (.int b)] [(.ref q5)])) rfl (hb hby d_method_3_code_19)
  have k4 : To p.tables e below S0 (T4.setTop (mkF m 22 #[.val (.ref q5), .val (.int a), .val (.int b)] [(.ref q1), (.ref q5)])) := fun tt hq => k3 tt (st4 tt hq)
  have k5 : To p.tables e below S0 (T4.setTop (mkF m 37 #[.val (.ref q5), .val (.int a), .val (.int b)] [(.ref q5)])) := fun tt hq => k4 tt (by
    show Steps _ _ _ (T4.setTop (mkF m 22 #[.val (.ref q5), .val (.int a), .val (.int b)] [(.ref q1), (.ref q5)])) _
    refine Jvm.RoadKit.acmp (g := (mkF m 22 #[.val (.ref q5), .val (.int a), .val (.int b)] [(.ref q1), (.ref q5)])) X4 hx rfl rfl rfl (pc0 := 22) (pc' := 36) (same := false) rfl (hb hby d_method_3_code_22) rfl (decide_eq_false fun q => nq51 (Value.ref.inj q)) (by decide) (by decide) ?_
    show Steps _ _ _ (T4.setTop (mkF m 36 #[.val (.ref q5), .val (.int a), .val (.int b)] [])) _
    refine XS.aloadN X4.here hx rfl (hb hby d_method_3_code_36) rfl rfl ?_
    show Steps _ _ _ (T4.setTop (mkF m 37 #[.val (.ref q5), .val (.int a), .val (.int b)] [(.ref q5)])) _
    exact hq)
  obtain ⟨T6, X6, e6, st6⟩ := getS2 X4 hx hZ hown (host := "") (Or.inl (hw _ (List.mem_of_getElem? (i := 29) rfl))) Via.refl e4 (staOld St2 O0) (g := (mkF m 37 #[.val (.ref q5), .val (.int a), .val (.int b)] [(.ref q5)])) rfl (hb hby d_method_3_code_37)
  have k6 : To p.tables e below S0 (T6.setTop (mkF m 40 #[.val (.ref q5), .val (.int a), .val (.int b)] [(.ref q2), (.ref q5)])) := fun tt hq => k5 tt (st6 tt hq)
  have k7 : To p.tables e below S0 (T6.setTop (mkF m 55 #[.val (.ref q5), .val (.int a), .val (.int b)] [(.ref q5)])) := fun tt hq => k6 tt (by
    show Steps _ _ _ (T6.setTop (mkF m 40 #[.val (.ref q5), .val (.int a), .val (.int b)] [(.ref q2), (.ref q5)])) _
    refine Jvm.RoadKit.acmp (g := (mkF m 40 #[.val (.ref q5), .val (.int a), .val (.int b)] [(.ref q2), (.ref q5)])) X6 hx rfl rfl rfl (pc0 := 40) (pc' := 54) (same := false) rfl (hb hby d_method_3_code_40) rfl (decide_eq_false fun q => nq52 (Value.ref.inj q)) (by decide) (by decide) ?_
    show Steps _ _ _ (T6.setTop (mkF m 54 #[.val (.ref q5), .val (.int a), .val (.int b)] [])) _
    refine XS.aloadN X6.here hx rfl (hb hby d_method_3_code_54) rfl rfl ?_
    show Steps _ _ _ (T6.setTop (mkF m 55 #[.val (.ref q5), .val (.int a), .val (.int b)] [(.ref q5)])) _
    exact hq)
  obtain ⟨T8, X8, e8, st8⟩ := getS2 X6 hx hZ hown (host := "") (Or.inl (hw _ (List.mem_of_getElem? (i := 31) rfl))) Via.refl e6 (staOld St3 O0) (g := (mkF m 55 #[.val (.ref q5), .val (.int a), .val (.int b)] [(.ref q5)])) rfl (hb hby d_method_3_code_55)
  have k8 : To p.tables e below S0 (T8.setTop (mkF m 58 #[.val (.ref q5), .val (.int a), .val (.int b)] [(.ref q3), (.ref q5)])) := fun tt hq => k7 tt (st8 tt hq)
  have k9 : To p.tables e below S0 (T8.setTop (mkF m 73 #[.val (.ref q5), .val (.int a), .val (.int b)] [(.ref q5)])) := fun tt hq => k8 tt (by
    show Steps _ _ _ (T8.setTop (mkF m 58 #[.val (.ref q5), .val (.int a), .val (.int b)] [(.ref q3), (.ref q5)])) _
    refine Jvm.RoadKit.acmp (g := (mkF m 58 #[.val (.ref q5), .val (.int a), .val (.int b)] [(.ref q3), (.ref q5)])) X8 hx rfl rfl rfl (pc0 := 58) (pc' := 72) (same := false) rfl (hb hby d_method_3_code_58) rfl (decide_eq_false fun q => nq53 (Value.ref.inj q)) (by decide) (by decide) ?_
    show Steps _ _ _ (T8.setTop (mkF m 72 #[.val (.ref q5), .val (.int a), .val (.int b)] [])) _
    refine XS.aloadN X8.here hx rfl (hb hby d_method_3_code_72) rfl rfl ?_
    show Steps _ _ _ (T8.setTop (mkF m 73 #[.val (.ref q5), .val (.int a), .val (.int b)] [(.ref q5)])) _
    exact hq)
  obtain ⟨T10, X10, e10, st10⟩ := getS2 X8 hx hZ hown (host := "") (Or.inl (hw _ (List.mem_of_getElem? (i := 35) rfl))) Via.refl e8 (staOld St4 O0) (g := (mkF m 73 #[.val (.ref q5), .val (.int a), .val (.int b)] [(.ref q5)])) rfl (hb hby d_method_3_code_73)
  have k10 : To p.tables e below S0 (T10.setTop (mkF m 76 #[.val (.ref q5), .val (.int a), .val (.int b)] [(.ref q4), (.ref q5)])) := fun tt hq => k9 tt (st10 tt hq)
  have k11 : To p.tables e below S0 (T10.setTop (mkF m 91 #[.val (.ref q5), .val (.int a), .val (.int b)] [(.ref q5)])) := fun tt hq => k10 tt (by
    show Steps _ _ _ (T10.setTop (mkF m 76 #[.val (.ref q5), .val (.int a), .val (.int b)] [(.ref q4), (.ref q5)])) _
    refine Jvm.RoadKit.acmp (g := (mkF m 76 #[.val (.ref q5), .val (.int a), .val (.int b)] [(.ref q4), (.ref q5)])) X10 hx rfl rfl rfl (pc0 := 76) (pc' := 90) (same := false) rfl (hb hby d_method_3_code_76) rfl (decide_eq_false fun q => nq54 (Value.ref.inj q)) (by decide) (by decide) ?_
    show Steps _ _ _ (T10.setTop (mkF m 90 #[.val (.ref q5), .val (.int a), .val (.int b)] [])) _
    refine XS.aloadN X10.here hx rfl (hb hby d_method_3_code_90) rfl rfl ?_
    show Steps _ _ _ (T10.setTop (mkF m 91 #[.val (.ref q5), .val (.int a), .val (.int b)] [(.ref q5)])) _
    exact hq)
  obtain ⟨T12, X12, e12, st12⟩ := getS2 X10 hx hZ hown (host := "") (Or.inl (hw _ (List.mem_of_getElem? (i := 39) rfl))) Via.refl e10 (staOld St5 O0) (g := (mkF m 91 #[.val (.ref q5), .val (.int a), .val (.int b)] [(.ref q5)])) rfl (hb hby d_method_3_code_91)
  have k12 : To p.tables e below S0 (T12.setTop (mkF m 94 #[.val (.ref q5), .val (.int a), .val (.int b)] [(.ref q5), (.ref q5)])) := fun tt hq => k11 tt (st12 tt hq)
  have k13 : To p.tables e below S0 (T12.setTop (mkF m 99 #[.val (.ref q5), .val (.int a), .val (.int b)] [(.int b), (.int a)])) := fun tt hq => k12 tt (by
    show Steps _ _ _ (T12.setTop (mkF m 94 #[.val (.ref q5), .val (.int a), .val (.int b)] [(.ref q5), (.ref q5)])) _
    refine Jvm.RoadKit.acmp (g := (mkF m 94 #[.val (.ref q5), .val (.int a), .val (.int b)] [(.ref q5), (.ref q5)])) X12 hx rfl rfl rfl (pc0 := 94) (pc' := 97) (same := true) rfl (hb hby d_method_3_code_94) rfl (decide_eq_true rfl) (by decide) (by decide) ?_
    show Steps _ _ _ (T12.setTop (mkF m 97 #[.val (.ref q5), .val (.int a), .val (.int b)] [])) _
    refine XS.iloadN X12.here hx rfl (hb hby d_method_3_code_97) rfl ?_
    show Steps _ _ _ (T12.setTop (mkF m 98 #[.val (.ref q5), .val (.int a), .val (.int b)] [(.int a)])) _
    refine XS.iloadN X12.here hx rfl (hb hby d_method_3_code_98) rfl ?_
    show Steps _ _ _ (T12.setTop (mkF m 99 #[.val (.ref q5), .val (.int a), .val (.int b)] [(.int b), (.int a)])) _
    exact hq)
  by_cases hc99_14 : a = b
  · -- pc 99, holds
    have k15 : To p.tables e below S0 (T12.setTop (mkF m 107 #[.val (.ref q5), .val (.int a), .val (.int b)] [(.int (0 : Int32))])) := fun tt hq => k13 tt (by
      show Steps _ _ _ (T12.setTop (mkF m 99 #[.val (.ref q5), .val (.int a), .val (.int b)] [(.int b), (.int a)])) _
      refine XS.icmpYes X12.here hx rfl (pc0 := 99) (pc' := 106) rfl (hb hby d_method_3_code_99) rfl (teq hc99_14).1 (by decide) (by decide) ?_
      show Steps _ _ _ (T12.setTop (mkF m 106 #[.val (.ref q5), .val (.int a), .val (.int b)] [])) _
      refine XS.iconst X12.here hx rfl (hb hby d_method_3_code_106) ?_
      show Steps _ _ _ (T12.setTop (mkF m 107 #[.val (.ref q5), .val (.int a), .val (.int b)] [(.int (0 : Int32))])) _
      exact hq)
    have hE := e12
    refine retInt X12 hx hret hlk (by simp) rfl (hb hby d_method_3_code_107) k15 ?_ (by decide) (by decide)
    try rw [hE]
    exact ⟨by rw [show (if ¬ a = b then (1 : Int32) else 0) = _ from if_neg (fun z => z hc99_14)], N0, rfl⟩
  · -- pc 99, holds not
    have k16 : To p.tables e below S0 (T12.setTop (mkF m 107 #[.val (.ref q5), .val (.int a), .val (.int b)] [(.int (1 : Int32))])) := fun tt hq => k13 tt (by
      show Steps _ _ _ (T12.setTop (mkF m 99 #[.val (.ref q5), .val (.int a), .val (.int b)] [(.int b), (.int a)])) _
      refine XS.icmpNo X12.here hx rfl (hb hby d_method_3_code_99) rfl (feq hc99_14).1 ?_
      show Steps _ _ _ (T12.setTop (mkF m 102 #[.val (.ref q5), .val (.int a), .val (.int b)] [])) _
      refine XS.iconst X12.here hx rfl (hb hby d_method_3_code_102) ?_
      show Steps _ _ _ (T12.setTop (mkF m 103 #[.val (.ref q5), .val (.int a), .val (.int b)] [(.int (1 : Int32))])) _
      refine XS.goto X12.here hx rfl (pc0 := 103) (pc' := 107) rfl (hb hby d_method_3_code_103) (by decide) (by decide) ?_
      show Steps _ _ _ (T12.setTop (mkF m 107 #[.val (.ref q5), .val (.int a), .val (.int b)] [(.int (1 : Int32))])) _
      exact hq)
    have hE := e12
    refine retInt X12 hx hret hlk (by simp) rfl (hb hby d_method_3_code_107) k16 ?_ (by decide) (by decide)
    try rw [hE]
    exact ⟨by rw [show (if ¬ a = b then (1 : Int32) else 0) = _ from if_pos hc99_14], N0, rfl⟩
def own_hold (q0 q1 q2 q3 q4 q5 r : Addr) (a b z : Int32) : Prop := (r = q0 ∧ z = (if a < b then (1 : Int32) else 0)) ∨ (r = q1 ∧ z = (if ¬ b < a then (1 : Int32) else 0)) ∨ (r = q2 ∧ z = (if b < a then (1 : Int32) else 0)) ∨ (r = q3 ∧ z = (if ¬ a < b then (1 : Int32) else 0)) ∨ (r = q4 ∧ z = (if a = b then (1 : Int32) else 0)) ∨ (r = q5 ∧ z = (if ¬ a = b then (1 : Int32) else 0))
theorem rmh (l : Launch) (Z : State) (a0 : Array Value) (hw : ∀ d ∈ tables_1, d.before a0 Z = true) (q0 q1 q2 q3 q4 q5 r : Addr) (a b z : Int32) (h0 : Heap) (n0 : Nat) (hn0 : n0 ≤ h0.size) (St0 : Sta Z Z.heap "com/example/ceruline/ceruline/program/Expression$Comparison$Relation" "LESS" "Lcom/example/ceruline/ceruline/program/Expression$Comparison$Relation;" (.ref q0)) (St1 : Sta Z Z.heap "com/example/ceruline/ceruline/program/Expression$Comparison$Relation" "LESS_OR_EQUAL" "Lcom/example/ceruline/ceruline/program/Expression$Comparison$Relation;" (.ref q1)) (St2 : Sta Z Z.heap "com/example/ceruline/ceruline/program/Expression$Comparison$Relation" "GREATER" "Lcom/example/ceruline/ceruline/program/Expression$Comparison$Relation;" (.ref q2)) (St3 : Sta Z Z.heap "com/example/ceruline/ceruline/program/Expression$Comparison$Relation" "GREATER_OR_EQUAL" "Lcom/example/ceruline/ceruline/program/Expression$Comparison$Relation;" (.ref q3)) (St4 : Sta Z Z.heap "com/example/ceruline/ceruline/program/Expression$Comparison$Relation" "EQUAL" "Lcom/example/ceruline/ceruline/program/Expression$Comparison$Relation;" (.ref q4)) (St5 : Sta Z Z.heap "com/example/ceruline/ceruline/program/Expression$Comparison$Relation" "NOT_EQUAL" "Lcom/example/ceruline/ceruline/program/Expression$Comparison$Relation;" (.ref q5)) (O0 : Old Z n0 h0) (nq10 : ¬ q1 = q0) (nq20 : ¬ q2 = q0) (nq21 : ¬ q2 = q1) (nq30 : ¬ q3 = q0) (nq31 : ¬ q3 = q1) (nq32 : ¬ q3 = q2) (nq40 : ¬ q4 = q0) (nq41 : ¬ q4 = q1) (nq42 : ¬ q4 = q2) (nq43 : ¬ q4 = q3) (nq50 : ¬ q5 = q0) (nq51 : ¬ q5 = q1) (nq52 : ¬ q5 = q2) (nq53 : ¬ q5 = q3) (nq54 : ¬ q5 = q4) (hr : own_hold q0 q1 q2 q3 q4 q5 r a b z) :
    Con l Z (⟨"com/example/ceruline/ceruline/program/RelationNegationPinLaw", "holds", "(Lcom/example/ceruline/ceruline/program/Expression$Comparison$Relation;II)Z"⟩ : MethodName) method_3_code 3 (some .boolean) [] ({ frames := 0, cells := 0, slots := 0, locals := 0 } : Room) #[(.ref r), (.int a), (.int b)] h0 (fun v h L => v = some (.int z) ∧ Fr n0 L ∧ h = h0) := by
  rcases hr with ⟨ea, er⟩ | ⟨ea, er⟩ | ⟨ea, er⟩ | ⟨ea, er⟩ | ⟨ea, er⟩ | ⟨ea, er⟩
  · rw [ea, er]; exact rmh0 l Z a0 hw q0 q1 q2 q3 q4 q5 a b h0 n0 hn0 St0 St1 St2 St3 St4 St5 O0 
  · rw [ea, er]; exact rmh1 l Z a0 hw q0 q1 q2 q3 q4 q5 a b h0 n0 hn0 St0 St1 St2 St3 St4 St5 O0 nq10
  · rw [ea, er]; exact rmh2 l Z a0 hw q0 q1 q2 q3 q4 q5 a b h0 n0 hn0 St0 St1 St2 St3 St4 St5 O0 nq20 nq21
  · rw [ea, er]; exact rmh3 l Z a0 hw q0 q1 q2 q3 q4 q5 a b h0 n0 hn0 St0 St1 St2 St3 St4 St5 O0 nq30 nq31 nq32
  · rw [ea, er]; exact rmh4 l Z a0 hw q0 q1 q2 q3 q4 q5 a b h0 n0 hn0 St0 St1 St2 St3 St4 St5 O0 nq40 nq41 nq42 nq43
  · rw [ea, er]; exact rmh5 l Z a0 hw q0 q1 q2 q3 q4 q5 a b h0 n0 hn0 St0 St1 St2 St3 St4 St5 O0 nq50 nq51 nq52 nq53 nq54
theorem own_nn (k : Int32) : 0 ≤ (k &&& 2147483647).toInt := by
  have h : (k &&& 2147483647).toBitVec.toNat ≤ 2147483647 := by
    rw [Int32.toBitVec_and, BitVec.toNat_and]; exact Nat.and_le_right
  show 0 ≤ (k &&& 2147483647).toBitVec.toInt
  rw [BitVec.toInt_eq_toNat_of_lt (by omega)]; omega
theorem own_six (k : Int32) : (k &&& 2147483647) % 6 = 0 ∨ (k &&& 2147483647) % 6 = 1 ∨ (k &&& 2147483647) % 6 = 2 ∨ (k &&& 2147483647) % 6 = 3 ∨ (k &&& 2147483647) % 6 = 4 ∨ (k &&& 2147483647) % 6 = 5 := by
  have h1 := Int32.toInt_mod (k &&& 2147483647) 6
  have h2 : (6 : Int32).toInt = 6 := by decide
  have h3 := own_nn k
  rw [h2, Int.tmod_eq_emod_of_nonneg h3] at h1
  have h4 := Int.emod_nonneg (k &&& 2147483647).toInt (show (6 : Int) ≠ 0 by decide)
  have h5 := Int.emod_lt_of_pos (k &&& 2147483647).toInt (show (0 : Int) < 6 by decide)
  simp only [← Int32.toInt_inj, show (0 : Int32).toInt = 0 from rfl, show (1 : Int32).toInt = 1 from rfl, show (2 : Int32).toInt = 2 from rfl, show (3 : Int32).toInt = 3 from rfl, show (4 : Int32).toInt = 4 from rfl, show (5 : Int32).toInt = 5 from rfl]
  omega
theorem own_key (q0 q1 q2 q3 q4 q5 : Addr) (k a b : Int32) : ∃ (r n : Addr) (z1 z2 : Int32), own_pick q0 q1 q2 q3 q4 q5 ((k &&& 2147483647) % 6) = r ∧ own_neg q0 q1 q2 q3 q4 q5 r n ∧ own_neg q0 q1 q2 q3 q4 q5 n r ∧ own_hold q0 q1 q2 q3 q4 q5 n a b z1 ∧ own_hold q0 q1 q2 q3 q4 q5 r a b z2 ∧ ¬ z1 = z2 ∧ (r = q0 ∨ r = q1 ∨ r = q2 ∨ r = q3 ∨ r = q4 ∨ r = q5) ∧ (n = q0 ∨ n = q1 ∨ n = q2 ∨ n = q3 ∨ n = q4 ∨ n = q5) := by
  rcases own_six k with h | h | h | h | h | h <;> rw [h]
  · exact ⟨q0, q3, (if ¬ a < b then (1 : Int32) else 0), (if a < b then (1 : Int32) else 0), by simp [own_pick], by simp [own_neg], by simp [own_neg], by simp [own_hold], by simp [own_hold], own_ne (a < b), by simp, by simp⟩
  · exact ⟨q1, q2, (if b < a then (1 : Int32) else 0), (if ¬ b < a then (1 : Int32) else 0), by simp [own_pick], by simp [own_neg], by simp [own_neg], by simp [own_hold], by simp [own_hold], fun z => own_ne (b < a) z.symm, by simp, by simp⟩
  · exact ⟨q2, q1, (if ¬ b < a then (1 : Int32) else 0), (if b < a then (1 : Int32) else 0), by simp [own_pick], by simp [own_neg], by simp [own_neg], by simp [own_hold], by simp [own_hold], own_ne (b < a), by simp, by simp⟩
  · exact ⟨q3, q0, (if a < b then (1 : Int32) else 0), (if ¬ a < b then (1 : Int32) else 0), by simp [own_pick], by simp [own_neg], by simp [own_neg], by simp [own_hold], by simp [own_hold], fun z => own_ne (a < b) z.symm, by simp, by simp⟩
  · exact ⟨q4, q5, (if ¬ a = b then (1 : Int32) else 0), (if a = b then (1 : Int32) else 0), by simp [own_pick], by simp [own_neg], by simp [own_neg], by simp [own_hold], by simp [own_hold], own_ne (a = b), by simp, by simp⟩
  · exact ⟨q5, q4, (if a = b then (1 : Int32) else 0), (if ¬ a = b then (1 : Int32) else 0), by simp [own_pick], by simp [own_neg], by simp [own_neg], by simp [own_hold], by simp [own_hold], fun z => own_ne (a = b) z.symm, by simp, by simp⟩
theorem pd_1 : parseMethodDescriptor "(I)Lcom/example/ceruline/ceruline/program/Expression$Comparison$Relation;" = some ⟨[.int], some (.object "com/example/ceruline/ceruline/program/Expression$Comparison$Relation")⟩ := by decide +kernel
theorem pd_2 : parseMethodDescriptor "()Lcom/example/ceruline/ceruline/program/Expression$Comparison$Relation;" = some ⟨[], some (.object "com/example/ceruline/ceruline/program/Expression$Comparison$Relation")⟩ := by decide +kernel
theorem pd_3 : parseMethodDescriptor "(Lcom/example/ceruline/ceruline/program/Expression$Comparison$Relation;II)Z" = some ⟨[(.object "com/example/ceruline/ceruline/program/Expression$Comparison$Relation"), .int, .int], some .boolean⟩ := by decide +kernel
set_option maxRecDepth 65536 in
set_option maxHeartbeats 40000000 in
theorem rm0 (l : Launch) (Z : State) (a0 : Array Value) (hw : ∀ d ∈ tables_1, d.before a0 Z = true) (q0 : Addr) (q1 : Addr) (q2 : Addr) (q3 : Addr) (q4 : Addr) (q5 : Addr) (p0 : Int32) (p1 : Int32) (p2 : Int32) (p3 : Int32) (h0 : Heap) (n0 : Nat) (hn0 : n0 ≤ h0.size) (St0 : Sta Z Z.heap "com/example/ceruline/ceruline/program/Expression$Comparison$Relation" "LESS" "Lcom/example/ceruline/ceruline/program/Expression$Comparison$Relation;" (.ref q0)) (St1 : Sta Z Z.heap "com/example/ceruline/ceruline/program/Expression$Comparison$Relation" "LESS_OR_EQUAL" "Lcom/example/ceruline/ceruline/program/Expression$Comparison$Relation;" (.ref q1)) (St2 : Sta Z Z.heap "com/example/ceruline/ceruline/program/Expression$Comparison$Relation" "GREATER" "Lcom/example/ceruline/ceruline/program/Expression$Comparison$Relation;" (.ref q2)) (St3 : Sta Z Z.heap "com/example/ceruline/ceruline/program/Expression$Comparison$Relation" "GREATER_OR_EQUAL" "Lcom/example/ceruline/ceruline/program/Expression$Comparison$Relation;" (.ref q3)) (St4 : Sta Z Z.heap "com/example/ceruline/ceruline/program/Expression$Comparison$Relation" "EQUAL" "Lcom/example/ceruline/ceruline/program/Expression$Comparison$Relation;" (.ref q4)) (St5 : Sta Z Z.heap "com/example/ceruline/ceruline/program/Expression$Comparison$Relation" "NOT_EQUAL" "Lcom/example/ceruline/ceruline/program/Expression$Comparison$Relation;" (.ref q5)) (A0 : Exa Z Z.heap q0 "com/example/ceruline/ceruline/program/Expression$Comparison$Relation") (A1 : Exa Z Z.heap q1 "com/example/ceruline/ceruline/program/Expression$Comparison$Relation") (A2 : Exa Z Z.heap q2 "com/example/ceruline/ceruline/program/Expression$Comparison$Relation") (A3 : Exa Z Z.heap q3 "com/example/ceruline/ceruline/program/Expression$Comparison$Relation") (A4 : Exa Z Z.heap q4 "com/example/ceruline/ceruline/program/Expression$Comparison$Relation") (A5 : Exa Z Z.heap q5 "com/example/ceruline/ceruline/program/Expression$Comparison$Relation") (F0 : Fld Z Z.heap q0 "java/lang/Enum" "ordinal" "I" (.int (0 : Int32))) (F1 : Fld Z Z.heap q1 "java/lang/Enum" "ordinal" "I" (.int (1 : Int32))) (F2 : Fld Z Z.heap q2 "java/lang/Enum" "ordinal" "I" (.int (2 : Int32))) (F3 : Fld Z Z.heap q3 "java/lang/Enum" "ordinal" "I" (.int (3 : Int32))) (F4 : Fld Z Z.heap q4 "java/lang/Enum" "ordinal" "I" (.int (4 : Int32))) (F5 : Fld Z Z.heap q5 "java/lang/Enum" "ordinal" "I" (.int (5 : Int32))) (O0 : Old Z n0 h0) (nq10 : ¬ q1 = q0) (nq20 : ¬ q2 = q0) (nq21 : ¬ q2 = q1) (nq30 : ¬ q3 = q0) (nq31 : ¬ q3 = q1) (nq32 : ¬ q3 = q2) (nq40 : ¬ q4 = q0) (nq41 : ¬ q4 = q1) (nq42 : ¬ q4 = q2) (nq43 : ¬ q4 = q3) (nq50 : ¬ q5 = q0) (nq51 : ¬ q5 = q1) (nq52 : ¬ q5 = q2) (nq53 : ¬ q5 = q3) (nq54 : ¬ q5 = q4) :
    Con l Z x code maxLocals ret tables_1 room_1 #[(.int p0), (.int p1), (.int p2), (.int p3)] h0 (fun v h L => v = some (.int 1) ∧ Fr n0 L) := by
  refine enter (Ls := #[.val (.int p0), .val (.int p1), .val (.int p2), .val (.int p3), .unset, .unset, .unset]) (plainFor_of_name pn_0) (fun m => by first | rfl | (simp [entryFrame, mkF, argsToLocals, Value.category, maxLocals]; done)) ?_
  intro p e s m below meth c s₁ S0 hx hby hml hret hlk hnm hown hZ X0 e0 k0
  have N0 := Fr.nil n0
  have k1 : To p.tables e below S0 (s₁.setTop (mkF m 7 #[.val (.int p0), .val (.int p1), .val (.int p2), .val (.int p3), .unset, .unset, .unset] [(.int ((p0 &&& (2147483647 : Int32)) % (6 : Int32)))])) := fun tt hq => k0 tt (by
    show Steps _ _ _ (s₁.setTop (mkF m 0 #[.val (.int p0), .val (.int p1), .val (.int p2), .val (.int p3), .unset, .unset, .unset] [])) _
    refine XS.iloadN X0.here hx rfl (hb hby at_0) rfl ?_
    show Steps _ _ _ (s₁.setTop (mkF m 1 #[.val (.int p0), .val (.int p1), .val (.int p2), .val (.int p3), .unset, .unset, .unset] [(.int p0)])) _
    refine X0.ldcInt hx hown (mvT hZ (hw _ (List.mem_of_getElem? (i := 0) rfl))) (g := (mkF m 1 #[.val (.int p0), .val (.int p1), .val (.int p2), .val (.int p3), .unset, .unset, .unset] [(.int p0)])) rfl (hb hby at_1) _ ?_
    show Steps _ _ _ (s₁.setTop (mkF m 3 #[.val (.int p0), .val (.int p1), .val (.int p2), .val (.int p3), .unset, .unset, .unset] [(.int (2147483647 : Int32)), (.int p0)])) _
    refine XS.iand X0.here hx rfl (hb hby at_3) rfl ?_
    show Steps _ _ _ (s₁.setTop (mkF m 4 #[.val (.int p0), .val (.int p1), .val (.int p2), .val (.int p3), .unset, .unset, .unset] [(.int (p0 &&& (2147483647 : Int32)))])) _
    refine XS.bipush X0.here hx rfl (hb hby at_4) ?_
    show Steps _ _ _ (s₁.setTop (mkF m 6 #[.val (.int p0), .val (.int p1), .val (.int p2), .val (.int p3), .unset, .unset, .unset] [(.int (6 : Int32)), (.int (p0 &&& (2147483647 : Int32)))])) _
    refine iremM X0 hx rfl (hb hby at_6) rfl (by decide) ?_
    show Steps _ _ _ (s₁.setTop (mkF m 7 #[.val (.int p0), .val (.int p1), .val (.int p2), .val (.int p3), .unset, .unset, .unset] [(.int ((p0 &&& (2147483647 : Int32)) % (6 : Int32)))])) _
    exact hq)
  obtain ⟨r, n, z1, z2, er, g1, g2, g3, g4, g5, g6, g7⟩ := own_key q0 q1 q2 q3 q4 q5 p0 p1 (if (p3 &&& (1 : Int32)) = (0 : Int32) then p2 else p1)
  have AR : Exa Z Z.heap r "com/example/ceruline/ceruline/program/Expression$Comparison$Relation" := by rcases g6 with z | z | z | z | z | z <;> rw [z] <;> assumption
  have AN : Exa Z Z.heap n "com/example/ceruline/ceruline/program/Expression$Comparison$Relation" := by rcases g7 with z | z | z | z | z | z <;> rw [z] <;> assumption
  obtain ⟨_, T2, L2, X2, ⟨rfl, Nq2, eq2⟩, k2a⟩ := callS' X0 hx hZ (y := (⟨"com/example/ceruline/ceruline/program/RelationNegationPinLaw", "pick", "(I)Lcom/example/ceruline/ceruline/program/Expression$Comparison$Relation;"⟩ : MethodName)) hown (hw _ (List.mem_of_getElem? (i := 1) rfl)) (hw _ (List.mem_of_getElem? (i := 2) rfl)) (hw _ (List.mem_of_getElem? (i := 3) rfl)) (hw _ (List.mem_of_getElem? (i := 4) rfl)) (by decide) (backC (W := 0) ((by rw [← er]; exact rmpick l Z a0 hw q0 q1 q2 q3 q4 q5 ((p0 &&& (2147483647 : Int32)) % (6 : Int32)) h0 n0 (by omega) St0 St1 St2 St3 St4 St5 O0 : Con l Z (⟨"com/example/ceruline/ceruline/program/RelationNegationPinLaw", "pick", "(I)Lcom/example/ceruline/ceruline/program/Expression$Comparison$Relation;"⟩ : MethodName) method_2_code 1 (some (.object "com/example/ceruline/ceruline/program/Expression$Comparison$Relation")) [] ({ frames := 0, cells := 0, slots := 0, locals := 0 } : Room) #[(.int ((p0 &&& (2147483647 : Int32)) % (6 : Int32)))] h0 (fun v h L => v = some (.ref r) ∧ Fr n0 L ∧ h = h0))) hZ (hw _ (List.mem_of_getElem? (i := 4) rfl)) (hw _ (List.mem_of_getElem? (i := 3) rfl)) (by decide) (by decide)) e0 (argsL := [(.int ((p0 &&& (2147483647 : Int32)) % (6 : Int32)))]) (rest := []) rfl rfl pd_1 rfl (by rw [hml]; rfl) (hb hby at_7) (Nat.le_of_eq rfl) (by decide) (by decide) k1
  have k2 : To p.tables e below S0 (T2.setTop (mkF m 10 #[.val (.int p0), .val (.int p1), .val (.int p2), .val (.int p3), .unset, .unset, .unset] [(.ref r)])) := k2a
  have N2 := N0.app Nq2
  have e2 : T2.heap = h0 := eq2
  have k3 : To p.tables e below S0 (T2.setTop (mkF m 15 #[.val (.int p0), .val (.int p1), .val (.int p2), .val (.int p3), .val (.ref r), .unset, .unset] [(.int (p3 &&& (1 : Int32)))])) := fun tt hq => k2 tt (by
    show Steps _ _ _ (T2.setTop (mkF m 10 #[.val (.int p0), .val (.int p1), .val (.int p2), .val (.int p3), .unset, .unset, .unset] [(.ref r)])) _
    refine XS.astore X2.here hx rfl (hb hby at_10) rfl rfl (l' := #[.val (.int p0), .val (.int p1), .val (.int p2), .val (.int p3), .val (.ref r), .unset, .unset]) rfl ?_
    show Steps _ _ _ (T2.setTop (mkF m 12 #[.val (.int p0), .val (.int p1), .val (.int p2), .val (.int p3), .val (.ref r), .unset, .unset] [])) _
    refine XS.iloadN X2.here hx rfl (hb hby at_12) rfl ?_
    show Steps _ _ _ (T2.setTop (mkF m 13 #[.val (.int p0), .val (.int p1), .val (.int p2), .val (.int p3), .val (.ref r), .unset, .unset] [(.int p3)])) _
    refine XS.iconst X2.here hx rfl (hb hby at_13) ?_
    show Steps _ _ _ (T2.setTop (mkF m 14 #[.val (.int p0), .val (.int p1), .val (.int p2), .val (.int p3), .val (.ref r), .unset, .unset] [(.int (1 : Int32)), (.int p3)])) _
    refine XS.iand X2.here hx rfl (hb hby at_14) rfl ?_
    show Steps _ _ _ (T2.setTop (mkF m 15 #[.val (.int p0), .val (.int p1), .val (.int p2), .val (.int p3), .val (.ref r), .unset, .unset] [(.int (p3 &&& (1 : Int32)))])) _
    exact hq)
  refine joinT (S0 := S0) X2 e2 (mkF m 23 #[.val (.int p0), .val (.int p1), .val (.int p2), .val (.int p3), .val (.ref r), .unset, .unset] [(.int (if (p3 &&& (1 : Int32)) = (0 : Int32) then p2 else p1))]) (fun kont => ?_) (fun T4 X4 e4 k4 => ?_)
  · -- the roads to pc 23
    by_cases hc15_5 : (p3 &&& (1 : Int32)) = (0 : Int32)
    · -- pc 15, holds
      have k6 : To p.tables e below S0 (T2.setTop (mkF m 23 #[.val (.int p0), .val (.int p1), .val (.int p2), .val (.int p3), .val (.ref r), .unset, .unset] [(.int p2)])) := fun tt hq => k3 tt (by
        show Steps _ _ _ (T2.setTop (mkF m 15 #[.val (.int p0), .val (.int p1), .val (.int p2), .val (.int p3), .val (.ref r), .unset, .unset] [(.int (p3 &&& (1 : Int32)))])) _
        refine XS.ifYes X2.here hx rfl (pc0 := 15) (pc' := 22) rfl (hb hby at_15) rfl ((if0 _ _).trans (teq hc15_5).1) (by decide) (by decide) ?_
        show Steps _ _ _ (T2.setTop (mkF m 22 #[.val (.int p0), .val (.int p1), .val (.int p2), .val (.int p3), .val (.ref r), .unset, .unset] [])) _
        refine XS.iloadN X2.here hx rfl (hb hby at_22) rfl ?_
        show Steps _ _ _ (T2.setTop (mkF m 23 #[.val (.int p0), .val (.int p1), .val (.int p2), .val (.int p3), .val (.ref r), .unset, .unset] [(.int p2)])) _
        exact hq)
      exact kont T2 X2 e2 (fun tt hq => k6 tt (by simpa only [if_pos hc15_5] using hq))
    · -- pc 15, holds not
      have k7 : To p.tables e below S0 (T2.setTop (mkF m 23 #[.val (.int p0), .val (.int p1), .val (.int p2), .val (.int p3), .val (.ref r), .unset, .unset] [(.int p1)])) := fun tt hq => k3 tt (by
        show Steps _ _ _ (T2.setTop (mkF m 15 #[.val (.int p0), .val (.int p1), .val (.int p2), .val (.int p3), .val (.ref r), .unset, .unset] [(.int (p3 &&& (1 : Int32)))])) _
        refine XS.ifNo X2.here hx rfl (hb hby at_15) rfl ((if0 _ _).trans (feq hc15_5).1) ?_
        show Steps _ _ _ (T2.setTop (mkF m 18 #[.val (.int p0), .val (.int p1), .val (.int p2), .val (.int p3), .val (.ref r), .unset, .unset] [])) _
        refine XS.iloadN X2.here hx rfl (hb hby at_18) rfl ?_
        show Steps _ _ _ (T2.setTop (mkF m 19 #[.val (.int p0), .val (.int p1), .val (.int p2), .val (.int p3), .val (.ref r), .unset, .unset] [(.int p1)])) _
        refine XS.goto X2.here hx rfl (pc0 := 19) (pc' := 23) rfl (hb hby at_19) (by decide) (by decide) ?_
        show Steps _ _ _ (T2.setTop (mkF m 23 #[.val (.int p0), .val (.int p1), .val (.int p2), .val (.int p3), .val (.ref r), .unset, .unset] [(.int p1)])) _
        exact hq)
      exact kont T2 X2 e2 (fun tt hq => k7 tt (by simpa only [if_neg hc15_5] using hq))
  have k8 : To p.tables e below S0 (T4.setTop (mkF m 27 #[.val (.int p0), .val (.int p1), .val (.int p2), .val (.int p3), .val (.ref r), .val (.int (if (p3 &&& (1 : Int32)) = (0 : Int32) then p2 else p1)), .unset] [(.ref r)])) := fun tt hq => k4 tt (by
    show Steps _ _ _ (T4.setTop (mkF m 23 #[.val (.int p0), .val (.int p1), .val (.int p2), .val (.int p3), .val (.ref r), .unset, .unset] [(.int (if (p3 &&& (1 : Int32)) = (0 : Int32) then p2 else p1))])) _
    refine XS.istore X4.here hx rfl (hb hby at_23) rfl (l' := #[.val (.int p0), .val (.int p1), .val (.int p2), .val (.int p3), .val (.ref r), .val (.int (if (p3 &&& (1 : Int32)) = (0 : Int32) then p2 else p1)), .unset]) rfl ?_
    show Steps _ _ _ (T4.setTop (mkF m 25 #[.val (.int p0), .val (.int p1), .val (.int p2), .val (.int p3), .val (.ref r), .val (.int (if (p3 &&& (1 : Int32)) = (0 : Int32) then p2 else p1)), .unset] [])) _
    refine XS.aload X4.here hx rfl (hb hby at_25) rfl rfl ?_
    show Steps _ _ _ (T4.setTop (mkF m 27 #[.val (.int p0), .val (.int p1), .val (.int p2), .val (.int p3), .val (.ref r), .val (.int (if (p3 &&& (1 : Int32)) = (0 : Int32) then p2 else p1)), .unset] [(.ref r)])) _
    exact hq)
  obtain ⟨_, T9, L9, X9, ⟨rfl, Nq9, eq9⟩, k9a⟩ := callV' X4 hx hZ (y := (⟨"com/example/ceruline/ceruline/program/Expression$Comparison$Relation", "negation", "()Lcom/example/ceruline/ceruline/program/Expression$Comparison$Relation;"⟩ : MethodName)) (z := (⟨"com/example/ceruline/ceruline/program/Expression$Comparison$Relation", "negation", "()Lcom/example/ceruline/ceruline/program/Expression$Comparison$Relation;"⟩ : MethodName)) hown (hw _ (List.mem_of_getElem? (i := 8) rfl)) (hw _ (List.mem_of_getElem? (i := 9) rfl)) (notFace_of_selects (args := #[]) (mvT hZ (hw _ (List.mem_of_getElem? (i := 11) rfl)))) (hw _ (List.mem_of_getElem? (i := 11) rfl)) (hw _ (List.mem_of_getElem? (i := 10) rfl)) (by decide) (exaOld AR O0) (backC (W := 0) (rmneg l Z a0 hw q0 q1 q2 q3 q4 q5 r n h0 n0 (by omega) St0 St1 St2 St3 St4 St5 A0 A1 A2 A3 A4 A5 F0 F1 F2 F3 F4 F5 O0 g1) hZ (hw _ (List.mem_of_getElem? (i := 12) rfl)) (hw _ (List.mem_of_getElem? (i := 6) rfl)) (by decide) (by decide)) e4 (argsL := []) (rest := []) rfl rfl pd_2 rfl (by rw [hml]; rfl) (hb hby at_27) (Nat.le_of_eq rfl) (by decide) (by decide) k8
  have k9 : To p.tables e below S0 (T9.setTop (mkF m 30 #[.val (.int p0), .val (.int p1), .val (.int p2), .val (.int p3), .val (.ref r), .val (.int (if (p3 &&& (1 : Int32)) = (0 : Int32) then p2 else p1)), .unset] [(.ref n)])) := k9a
  have N9 := N2.app Nq9
  have e9 : T9.heap = h0 := eq9
  have k10 : To p.tables e below S0 (T9.setTop (mkF m 44 #[.val (.int p0), .val (.int p1), .val (.int p2), .val (.int p3), .val (.ref r), .val (.int (if (p3 &&& (1 : Int32)) = (0 : Int32) then p2 else p1)), .val (.ref n)] [(.int (if (p3 &&& (1 : Int32)) = (0 : Int32) then p2 else p1)), (.int p1), (.ref n)])) := fun tt hq => k9 tt (by
    show Steps _ _ _ (T9.setTop (mkF m 30 #[.val (.int p0), .val (.int p1), .val (.int p2), .val (.int p3), .val (.ref r), .val (.int (if (p3 &&& (1 : Int32)) = (0 : Int32) then p2 else p1)), .unset] [(.ref n)])) _
    refine XS.astore X9.here hx rfl (hb hby at_30) rfl rfl (l' := #[.val (.int p0), .val (.int p1), .val (.int p2), .val (.int p3), .val (.ref r), .val (.int (if (p3 &&& (1 : Int32)) = (0 : Int32) then p2 else p1)), .val (.ref n)]) rfl ?_
    show Steps _ _ _ (T9.setTop (mkF m 32 #[.val (.int p0), .val (.int p1), .val (.int p2), .val (.int p3), .val (.ref r), .val (.int (if (p3 &&& (1 : Int32)) = (0 : Int32) then p2 else p1)), .val (.ref n)] [])) _
    refine XS.aload X9.here hx rfl (hb hby at_32) rfl rfl ?_
    show Steps _ _ _ (T9.setTop (mkF m 34 #[.val (.int p0), .val (.int p1), .val (.int p2), .val (.int p3), .val (.ref r), .val (.int (if (p3 &&& (1 : Int32)) = (0 : Int32) then p2 else p1)), .val (.ref n)] [(.ref n)])) _
    refine XS.ifnonnullYes X9.here hx rfl (pc0 := 34) (pc' := 39) rfl (hb hby at_34) rfl (by decide) (by decide) ?_
    show Steps _ _ _ (T9.setTop (mkF m 39 #[.val (.int p0), .val (.int p1), .val (.int p2), .val (.int p3), .val (.ref r), .val (.int (if (p3 &&& (1 : Int32)) = (0 : Int32) then p2 else p1)), .val (.ref n)] [])) _
    refine XS.aload X9.here hx rfl (hb hby at_39) rfl rfl ?_
    show Steps _ _ _ (T9.setTop (mkF m 41 #[.val (.int p0), .val (.int p1), .val (.int p2), .val (.int p3), .val (.ref r), .val (.int (if (p3 &&& (1 : Int32)) = (0 : Int32) then p2 else p1)), .val (.ref n)] [(.ref n)])) _
    refine XS.iloadN X9.here hx rfl (hb hby at_41) rfl ?_
    show Steps _ _ _ (T9.setTop (mkF m 42 #[.val (.int p0), .val (.int p1), .val (.int p2), .val (.int p3), .val (.ref r), .val (.int (if (p3 &&& (1 : Int32)) = (0 : Int32) then p2 else p1)), .val (.ref n)] [(.int p1), (.ref n)])) _
    refine XS.iload X9.here hx rfl (hb hby at_42) rfl ?_
    show Steps _ _ _ (T9.setTop (mkF m 44 #[.val (.int p0), .val (.int p1), .val (.int p2), .val (.int p3), .val (.ref r), .val (.int (if (p3 &&& (1 : Int32)) = (0 : Int32) then p2 else p1)), .val (.ref n)] [(.int (if (p3 &&& (1 : Int32)) = (0 : Int32) then p2 else p1)), (.int p1), (.ref n)])) _
    exact hq)
  obtain ⟨_, T11, L11, X11, ⟨rfl, Nq11, eq11⟩, k11a⟩ := callS' X9 hx hZ (y := (⟨"com/example/ceruline/ceruline/program/RelationNegationPinLaw", "holds", "(Lcom/example/ceruline/ceruline/program/Expression$Comparison$Relation;II)Z"⟩ : MethodName)) hown (hw _ (List.mem_of_getElem? (i := 24) rfl)) (hw _ (List.mem_of_getElem? (i := 25) rfl)) (hw _ (List.mem_of_getElem? (i := 3) rfl)) (hw _ (List.mem_of_getElem? (i := 26) rfl)) (by decide) (backC (W := 0) (rmh l Z a0 hw q0 q1 q2 q3 q4 q5 n p1 (if (p3 &&& (1 : Int32)) = (0 : Int32) then p2 else p1) z1 h0 n0 (by omega) St0 St1 St2 St3 St4 St5 O0 nq10 nq20 nq21 nq30 nq31 nq32 nq40 nq41 nq42 nq43 nq50 nq51 nq52 nq53 nq54 g3) hZ (hw _ (List.mem_of_getElem? (i := 26) rfl)) (hw _ (List.mem_of_getElem? (i := 3) rfl)) (by decide) (by decide)) e9 (argsL := [(.ref n), (.int p1), (.int (if (p3 &&& (1 : Int32)) = (0 : Int32) then p2 else p1))]) (rest := []) rfl rfl pd_3 rfl (by rw [hml]; rfl) (hb hby at_44) (Nat.le_of_eq rfl) (by decide) (by decide) k10
  have k11 : To p.tables e below S0 (T11.setTop (mkF m 47 #[.val (.int p0), .val (.int p1), .val (.int p2), .val (.int p3), .val (.ref r), .val (.int (if (p3 &&& (1 : Int32)) = (0 : Int32) then p2 else p1)), .val (.ref n)] [(.int z1)])) := k11a
  have N11 := N9.app Nq11
  have e11 : T11.heap = h0 := eq11
  have k12 : To p.tables e below S0 (T11.setTop (mkF m 52 #[.val (.int p0), .val (.int p1), .val (.int p2), .val (.int p3), .val (.ref r), .val (.int (if (p3 &&& (1 : Int32)) = (0 : Int32) then p2 else p1)), .val (.ref n)] [(.int (if (p3 &&& (1 : Int32)) = (0 : Int32) then p2 else p1)), (.int p1), (.ref r), (.int z1)])) := fun tt hq => k11 tt (by
    show Steps _ _ _ (T11.setTop (mkF m 47 #[.val (.int p0), .val (.int p1), .val (.int p2), .val (.int p3), .val (.ref r), .val (.int (if (p3 &&& (1 : Int32)) = (0 : Int32) then p2 else p1)), .val (.ref n)] [(.int z1)])) _
    refine XS.aload X11.here hx rfl (hb hby at_47) rfl rfl ?_
    show Steps _ _ _ (T11.setTop (mkF m 49 #[.val (.int p0), .val (.int p1), .val (.int p2), .val (.int p3), .val (.ref r), .val (.int (if (p3 &&& (1 : Int32)) = (0 : Int32) then p2 else p1)), .val (.ref n)] [(.ref r), (.int z1)])) _
    refine XS.iloadN X11.here hx rfl (hb hby at_49) rfl ?_
    show Steps _ _ _ (T11.setTop (mkF m 50 #[.val (.int p0), .val (.int p1), .val (.int p2), .val (.int p3), .val (.ref r), .val (.int (if (p3 &&& (1 : Int32)) = (0 : Int32) then p2 else p1)), .val (.ref n)] [(.int p1), (.ref r), (.int z1)])) _
    refine XS.iload X11.here hx rfl (hb hby at_50) rfl ?_
    show Steps _ _ _ (T11.setTop (mkF m 52 #[.val (.int p0), .val (.int p1), .val (.int p2), .val (.int p3), .val (.ref r), .val (.int (if (p3 &&& (1 : Int32)) = (0 : Int32) then p2 else p1)), .val (.ref n)] [(.int (if (p3 &&& (1 : Int32)) = (0 : Int32) then p2 else p1)), (.int p1), (.ref r), (.int z1)])) _
    exact hq)
  obtain ⟨_, T13, L13, X13, ⟨rfl, Nq13, eq13⟩, k13a⟩ := callS' X11 hx hZ (y := (⟨"com/example/ceruline/ceruline/program/RelationNegationPinLaw", "holds", "(Lcom/example/ceruline/ceruline/program/Expression$Comparison$Relation;II)Z"⟩ : MethodName)) hown (hw _ (List.mem_of_getElem? (i := 24) rfl)) (hw _ (List.mem_of_getElem? (i := 25) rfl)) (hw _ (List.mem_of_getElem? (i := 3) rfl)) (hw _ (List.mem_of_getElem? (i := 26) rfl)) (by decide) (backC (W := 1) (rmh l Z a0 hw q0 q1 q2 q3 q4 q5 r p1 (if (p3 &&& (1 : Int32)) = (0 : Int32) then p2 else p1) z2 h0 n0 (by omega) St0 St1 St2 St3 St4 St5 O0 nq10 nq20 nq21 nq30 nq31 nq32 nq40 nq41 nq42 nq43 nq50 nq51 nq52 nq53 nq54 g4) hZ (hw _ (List.mem_of_getElem? (i := 26) rfl)) (hw _ (List.mem_of_getElem? (i := 3) rfl)) (by decide) (by decide)) e11 (argsL := [(.ref r), (.int p1), (.int (if (p3 &&& (1 : Int32)) = (0 : Int32) then p2 else p1))]) (rest := [(.int z1)]) rfl rfl pd_3 rfl (by rw [hml]; rfl) (hb hby at_52) (Nat.le_of_eq rfl) (by decide) (by decide) k12
  have k13 : To p.tables e below S0 (T13.setTop (mkF m 55 #[.val (.int p0), .val (.int p1), .val (.int p2), .val (.int p3), .val (.ref r), .val (.int (if (p3 &&& (1 : Int32)) = (0 : Int32) then p2 else p1)), .val (.ref n)] [(.int z2), (.int z1)])) := k13a
  have N13 := N11.app Nq13
  have e13 : T13.heap = h0 := eq13
  have k14 : To p.tables e below S0 (T13.setTop (mkF m 62 #[.val (.int p0), .val (.int p1), .val (.int p2), .val (.int p3), .val (.ref r), .val (.int (if (p3 &&& (1 : Int32)) = (0 : Int32) then p2 else p1)), .val (.ref n)] [(.ref n)])) := fun tt hq => k13 tt (by
    show Steps _ _ _ (T13.setTop (mkF m 55 #[.val (.int p0), .val (.int p1), .val (.int p2), .val (.int p3), .val (.ref r), .val (.int (if (p3 &&& (1 : Int32)) = (0 : Int32) then p2 else p1)), .val (.ref n)] [(.int z2), (.int z1)])) _
    refine XS.icmpYes X13.here hx rfl (pc0 := 55) (pc' := 60) rfl (hb hby at_55) rfl (feq g5).2 (by decide) (by decide) ?_
    show Steps _ _ _ (T13.setTop (mkF m 60 #[.val (.int p0), .val (.int p1), .val (.int p2), .val (.int p3), .val (.ref r), .val (.int (if (p3 &&& (1 : Int32)) = (0 : Int32) then p2 else p1)), .val (.ref n)] [])) _
    refine XS.aload X13.here hx rfl (hb hby at_60) rfl rfl ?_
    show Steps _ _ _ (T13.setTop (mkF m 62 #[.val (.int p0), .val (.int p1), .val (.int p2), .val (.int p3), .val (.ref r), .val (.int (if (p3 &&& (1 : Int32)) = (0 : Int32) then p2 else p1)), .val (.ref n)] [(.ref n)])) _
    exact hq)
  obtain ⟨_, T15, L15, X15, ⟨rfl, Nq15, eq15⟩, k15a⟩ := callV' X13 hx hZ (y := (⟨"com/example/ceruline/ceruline/program/Expression$Comparison$Relation", "negation", "()Lcom/example/ceruline/ceruline/program/Expression$Comparison$Relation;"⟩ : MethodName)) (z := (⟨"com/example/ceruline/ceruline/program/Expression$Comparison$Relation", "negation", "()Lcom/example/ceruline/ceruline/program/Expression$Comparison$Relation;"⟩ : MethodName)) hown (hw _ (List.mem_of_getElem? (i := 8) rfl)) (hw _ (List.mem_of_getElem? (i := 9) rfl)) (notFace_of_selects (args := #[]) (mvT hZ (hw _ (List.mem_of_getElem? (i := 11) rfl)))) (hw _ (List.mem_of_getElem? (i := 11) rfl)) (hw _ (List.mem_of_getElem? (i := 10) rfl)) (by decide) (exaOld AN O0) (backC (W := 0) (rmneg l Z a0 hw q0 q1 q2 q3 q4 q5 n r h0 n0 (by omega) St0 St1 St2 St3 St4 St5 A0 A1 A2 A3 A4 A5 F0 F1 F2 F3 F4 F5 O0 g2) hZ (hw _ (List.mem_of_getElem? (i := 12) rfl)) (hw _ (List.mem_of_getElem? (i := 6) rfl)) (by decide) (by decide)) e13 (argsL := []) (rest := []) rfl rfl pd_2 rfl (by rw [hml]; rfl) (hb hby at_62) (Nat.le_of_eq rfl) (by decide) (by decide) k14
  have k15 : To p.tables e below S0 (T15.setTop (mkF m 65 #[.val (.int p0), .val (.int p1), .val (.int p2), .val (.int p3), .val (.ref r), .val (.int (if (p3 &&& (1 : Int32)) = (0 : Int32) then p2 else p1)), .val (.ref n)] [(.ref r)])) := k15a
  have N15 := N13.app Nq15
  have e15 : T15.heap = h0 := eq15
  have k16 : To p.tables e below S0 (T15.setTop (mkF m 75 #[.val (.int p0), .val (.int p1), .val (.int p2), .val (.int p3), .val (.ref r), .val (.int (if (p3 &&& (1 : Int32)) = (0 : Int32) then p2 else p1)), .val (.ref n)] [(.int (1 : Int32))])) := fun tt hq => k15 tt (by
    show Steps _ _ _ (T15.setTop (mkF m 65 #[.val (.int p0), .val (.int p1), .val (.int p2), .val (.int p3), .val (.ref r), .val (.int (if (p3 &&& (1 : Int32)) = (0 : Int32) then p2 else p1)), .val (.ref n)] [(.ref r)])) _
    refine XS.aload X15.here hx rfl (hb hby at_65) rfl rfl ?_
    show Steps _ _ _ (T15.setTop (mkF m 67 #[.val (.int p0), .val (.int p1), .val (.int p2), .val (.int p3), .val (.ref r), .val (.int (if (p3 &&& (1 : Int32)) = (0 : Int32) then p2 else p1)), .val (.ref n)] [(.ref r), (.ref r)])) _
    refine Jvm.RoadKit.acmp (g := (mkF m 67 #[.val (.int p0), .val (.int p1), .val (.int p2), .val (.int p3), .val (.ref r), .val (.int (if (p3 &&& (1 : Int32)) = (0 : Int32) then p2 else p1)), .val (.ref n)] [(.ref r), (.ref r)])) X15 hx rfl rfl rfl (pc0 := 67) (pc' := 70) (same := true) rfl (hb hby at_67) rfl (decide_eq_true rfl) (by decide) (by decide) ?_
    show Steps _ _ _ (T15.setTop (mkF m 70 #[.val (.int p0), .val (.int p1), .val (.int p2), .val (.int p3), .val (.ref r), .val (.int (if (p3 &&& (1 : Int32)) = (0 : Int32) then p2 else p1)), .val (.ref n)] [])) _
    refine XS.iconst X15.here hx rfl (hb hby at_70) ?_
    show Steps _ _ _ (T15.setTop (mkF m 71 #[.val (.int p0), .val (.int p1), .val (.int p2), .val (.int p3), .val (.ref r), .val (.int (if (p3 &&& (1 : Int32)) = (0 : Int32) then p2 else p1)), .val (.ref n)] [(.int (1 : Int32))])) _
    refine XS.goto X15.here hx rfl (pc0 := 71) (pc' := 75) rfl (hb hby at_71) (by decide) (by decide) ?_
    show Steps _ _ _ (T15.setTop (mkF m 75 #[.val (.int p0), .val (.int p1), .val (.int p2), .val (.int p3), .val (.ref r), .val (.int (if (p3 &&& (1 : Int32)) = (0 : Int32) then p2 else p1)), .val (.ref n)] [(.int (1 : Int32))])) _
    exact hq)
  have hE := e15
  refine retInt X15 hx hret hlk (by simp) rfl (hb hby at_75) k16 ?_ (by decide) (by decide)
  try rw [hE]
  exact ⟨rfl, N15⟩
set_option maxRecDepth 65536 in
set_option maxHeartbeats 40000000 in
theorem comes_1 {Post : Tables → Env → Array Value → State → Outcome → State → Prop} (hpost : ∀ tb e args s v u, (limb_1_1.after args s (.returned v) u = true ∧ limb_1_2.after args s (.returned v) u = true ∧ True) → FrameEnd s (.returned v) u (Jvm.fieldLocs frame_1_writes args s ++ Jvm.arrayLocs frame_1_arrays args s ++ Jvm.staticLocs frame_1_statics s) 0 0 → Post tb e args s (.returned v) u) :
    ArmFor flags0 classFile x code maxLocals ret World_1 tables_1 room_1 Calls_1 rest_1 Pre_1 Post := by
  intro l hfl _ _ p e ha hc hk s m args below hf hA hF happ hP
  obtain ⟨hcalls, hrest, hpre⟩ := hP
  obtain ⟨-, -, -, hnamed, -, -, -, hat⟩ := (Spec.applies_iff hf).mp happ
  obtain ⟨hg, hn⟩ := and_e (Cond.before_iff.mp (show (Jvm.Cond.and given_1 narrow_1).before args s = true from hpre))
  obtain ⟨u1, u2⟩ := and_e hg
  obtain ⟨u3, u4⟩ := and_e u2
  obtain ⟨u5, u6⟩ := and_e u4
  obtain ⟨u7, u8⟩ := and_e u6
  obtain ⟨u9, u10⟩ := and_e hn
  obtain ⟨u11, u12⟩ := and_e u10
  obtain ⟨u13, u14⟩ := and_e u12
  obtain ⟨u15, u16⟩ := and_e u14
  obtain ⟨u17, u18⟩ := and_e u16
  obtain ⟨u19, u20⟩ := and_e u18
  obtain ⟨u21, u22⟩ := and_e u20
  obtain ⟨u23, u24⟩ := and_e u22
  obtain ⟨u25, u26⟩ := and_e u24
  obtain ⟨u27, u28⟩ := and_e u26
  obtain ⟨u29, u30⟩ := and_e u28
  obtain ⟨w0, w1, w2, w3, rfl⟩ : ∃ w0 w1 w2 w3 : Value, args = #[w0, w1, w2, w3] := by
    have hs : args.size = 4 := by simpa [Cond.value, given_1] using u1
    obtain ⟨L⟩ := args
    match L, hs with
    | [w0, w1, w2, w3], _ => exact ⟨w0, w1, w2, w3, rfl⟩
  have hw := fun d (hd : d ∈ tables_1) => atoms_spec (ws := Jvm.Cond.code x code maxLocals ret :: tables_1) hat d (List.mem_cons_of_mem _ hd)
  have hfit : Fit s := fun {y c} hc i hi => by
    obtain ⟨ha, rfl⟩ := Array.getElem?_eq_some_iff.mp hc
    have q := List.all_eq_true.mp ((Array.all_eq_true_iff_forall_mem.mp hF) _ (Array.getElem_mem ha)) i (List.mem_range.mpr hi)
    simpa [Array.getElem?_eq_getElem hi] using q
  obtain ⟨i0, ei0⟩ := is_v u3
  obtain rfl : w0 = (.int i0) := Option.some.inj ei0
  obtain ⟨i1, ei1⟩ := is_v u5
  obtain rfl : w1 = (.int i1) := Option.some.inj ei1
  obtain ⟨i2, ei2⟩ := is_v u7
  obtain rfl : w2 = (.int i2) := Option.some.inj ei2
  obtain ⟨i3, ei3⟩ := is_v u8
  obtain rfl : w3 = (.int i3) := Option.some.inj ei3
  obtain ⟨q_LESS, ev_LESS⟩ := exa_v u9
  have A_LESS := Exa.start ev_LESS u9
  have S_LESS := Sta.start ev_LESS (Or.inr ⟨(hw _ (List.mem_of_getElem? (i := 6) rfl)), (hw _ (List.mem_of_getElem? (i := 7) rfl))⟩)
  obtain ⟨q_GREATER_OR_EQUAL, ev_GREATER_OR_EQUAL⟩ := exa_v u13
  have A_GREATER_OR_EQUAL := Exa.start ev_GREATER_OR_EQUAL u13
  have S_GREATER_OR_EQUAL := Sta.start ev_GREATER_OR_EQUAL (Or.inr ⟨(hw _ (List.mem_of_getElem? (i := 6) rfl)), (hw _ (List.mem_of_getElem? (i := 23) rfl))⟩)
  obtain ⟨q_LESS_OR_EQUAL, ev_LESS_OR_EQUAL⟩ := exa_v u17
  have A_LESS_OR_EQUAL := Exa.start ev_LESS_OR_EQUAL u17
  have S_LESS_OR_EQUAL := Sta.start ev_LESS_OR_EQUAL (Or.inr ⟨(hw _ (List.mem_of_getElem? (i := 6) rfl)), (hw _ (List.mem_of_getElem? (i := 28) rfl))⟩)
  obtain ⟨q_GREATER, ev_GREATER⟩ := exa_v u21
  have A_GREATER := Exa.start ev_GREATER u21
  have S_GREATER := Sta.start ev_GREATER (Or.inr ⟨(hw _ (List.mem_of_getElem? (i := 6) rfl)), (hw _ (List.mem_of_getElem? (i := 30) rfl))⟩)
  obtain ⟨q_EQUAL, ev_EQUAL⟩ := exa_v u25
  have A_EQUAL := Exa.start ev_EQUAL u25
  have S_EQUAL := Sta.start ev_EQUAL (Or.inr ⟨(hw _ (List.mem_of_getElem? (i := 6) rfl)), (hw _ (List.mem_of_getElem? (i := 36) rfl))⟩)
  obtain ⟨q_NOT_EQUAL, ev_NOT_EQUAL⟩ := exa_v u29
  have A_NOT_EQUAL := Exa.start ev_NOT_EQUAL u29
  have S_NOT_EQUAL := Sta.start ev_NOT_EQUAL (Or.inr ⟨(hw _ (List.mem_of_getElem? (i := 6) rfl)), (hw _ (List.mem_of_getElem? (i := 38) rfl))⟩)
  have F_LESS : Fld s s.heap q_LESS "java/lang/Enum" "ordinal" "I" (.int (0 : Int32)) := Fld.start (by rw [← fld_at (C := "java/lang/Enum") (n := "ordinal") (dd := "I") ev_LESS]; exact eqv_i (Term.int_eval _) u11)
  have F_GREATER_OR_EQUAL : Fld s s.heap q_GREATER_OR_EQUAL "java/lang/Enum" "ordinal" "I" (.int (3 : Int32)) := Fld.start (by rw [← fld_at (C := "java/lang/Enum") (n := "ordinal") (dd := "I") ev_GREATER_OR_EQUAL]; exact eqv_i (Term.int_eval _) u15)
  have F_LESS_OR_EQUAL : Fld s s.heap q_LESS_OR_EQUAL "java/lang/Enum" "ordinal" "I" (.int (1 : Int32)) := Fld.start (by rw [← fld_at (C := "java/lang/Enum") (n := "ordinal") (dd := "I") ev_LESS_OR_EQUAL]; exact eqv_i (Term.int_eval _) u19)
  have F_GREATER : Fld s s.heap q_GREATER "java/lang/Enum" "ordinal" "I" (.int (2 : Int32)) := Fld.start (by rw [← fld_at (C := "java/lang/Enum") (n := "ordinal") (dd := "I") ev_GREATER]; exact eqv_i (Term.int_eval _) u23)
  have F_EQUAL : Fld s s.heap q_EQUAL "java/lang/Enum" "ordinal" "I" (.int (4 : Int32)) := Fld.start (by rw [← fld_at (C := "java/lang/Enum") (n := "ordinal") (dd := "I") ev_EQUAL]; exact eqv_i (Term.int_eval _) u27)
  have F_NOT_EQUAL : Fld s s.heap q_NOT_EQUAL "java/lang/Enum" "ordinal" "I" (.int (5 : Int32)) := Fld.start (by rw [← fld_at (C := "java/lang/Enum") (n := "ordinal") (dd := "I") ev_NOT_EQUAL]; exact eqv_i (Term.int_eval _) u30)
  obtain ⟨n, o, h1, h2, h3, _, L, rfl, ⟨rfl, N⟩, hq⟩ := rm0 l s _ hw q_LESS q_LESS_OR_EQUAL q_GREATER q_GREATER_OR_EQUAL q_EQUAL q_NOT_EQUAL i0 i1 i2 i3 s.heap s.heap.size (Nat.le_refl _) S_LESS S_LESS_OR_EQUAL S_GREATER S_GREATER_OR_EQUAL S_EQUAL S_NOT_EQUAL A_LESS A_LESS_OR_EQUAL A_GREATER A_GREATER_OR_EQUAL A_EQUAL A_NOT_EQUAL F_LESS F_LESS_OR_EQUAL F_GREATER F_GREATER_OR_EQUAL F_EQUAL F_NOT_EQUAL (Old.start s) (F_LESS_OR_EQUAL.ne F_LESS (by decide)) (F_GREATER.ne F_LESS (by decide)) (F_GREATER.ne F_LESS_OR_EQUAL (by decide)) (F_GREATER_OR_EQUAL.ne F_LESS (by decide)) (F_GREATER_OR_EQUAL.ne F_LESS_OR_EQUAL (by decide)) (F_GREATER_OR_EQUAL.ne F_GREATER (by decide)) (F_EQUAL.ne F_LESS (by decide)) (F_EQUAL.ne F_LESS_OR_EQUAL (by decide)) (F_EQUAL.ne F_GREATER (by decide)) (F_EQUAL.ne F_GREATER_OR_EQUAL (by decide)) (F_NOT_EQUAL.ne F_LESS (by decide)) (F_NOT_EQUAL.ne F_LESS_OR_EQUAL (by decide)) (F_NOT_EQUAL.ne F_GREATER (by decide)) (F_NOT_EQUAL.ne F_GREATER_OR_EQUAL (by decide)) (F_NOT_EQUAL.ne F_EQUAL (by decide)) p e ha hc hk s m _ below hf ((Spec.applies_iff_loose hf).mp happ).1 ⟨rfl, State.Warmed39.refl s, rfl⟩ trivial
  refine ⟨n, _, h1, h2, h3, hpost _ _ _ _ _ _ ⟨Cond.after_iff.mpr rfl, Cond.after_iff.mpr (eq_i res_at (Term.int_eval (1)) rfl), trivial⟩ ⟨hq.1, hq.2.1, (hq.2.2.sift fun y hy => Or.inr (N y hy)).mono (by decide) (by decide)⟩⟩
theorem main_1_1 : Claimed_1_1 := comes_1 fun _ _ _ _ _ _ h hF => ⟨h.1, hF⟩
theorem main_1_2 : Claimed_1_2 := comes_1 fun _ _ _ _ _ _ h hF => ⟨h.2.1, hF⟩
end Jvm.Pilot.@@N@@
namespace Jvm.Pilot.@@N@@
open Jvm Jvm.ClassFile Sem Op Lib Jvm.Free Jvm.Stand Jvm.Pilot.@@N@@.Jvm.D
/-! MADE BY PROGRAM (witnessworld.py) out of the Statement's table words and the real class files: 12 classes; the members and pool entries that the words name. The judged class is class 1, her method 3. -/
namespace start1
open Jvm.ClassFile
def u (s : String) : CpInfo := .utf8 (stringToUtf16 s)
/-- a pool by its gaps: so many unusable entries, then the entry; so many at the end -/
def gap : Nat → List CpInfo → List CpInfo
  | 0, r => r
  | n + 1, r => .unusable :: gap n r
def poolList (es : List (Nat × CpInfo)) (last : Nat) : List CpInfo := es.foldr (fun e r => gap e.1 (e.2 :: r)) (gap last [])
def pool (es : List (Nat × CpInfo)) (last : Nat) : Array CpInfo := ⟨poolList es last⟩
def fileOf (pool : Array CpInfo) (this : Nat) (attrs : Array Attribute := #[]) (ms : Array MethodInfo := #[]) (fl : Nat := 33) (sup : Nat := 0) (ifs : Array Nat := #[]) (fds : Array FieldInfo := #[]) : ClassFile where
  minorVersion := 0
  majorVersion := 65
  constantPool := pool
  accessFlags := fl
  thisClass := this
  superClass := sup
  interfaces := ifs
  fields := fds
  methods := ms
  attributes := attrs
def plain (name : String) (sup : Option ClassId) : Class where
  name := name
  kind := .ordinary
  loader := none
  accessFlags := 33
  super := sup
  interfaces := #[]
  cf := none
  fields := #[]
  methods := #[]
  instanceTypes := #[]
  staticTypes := #[]
  resolved := #[]
  callSites := []
  init := .initialized
  statics := none
  mirror := none

def pool0 : Array CpInfo := pool [(5, u "<init>"), (0, u "()V"), (1, .class_ 10), (1, u "java/lang/Object")] 113

def k0m0 : Method := { name := "<init>", desc := "()V", sig := { parameters := [], returnType := none }, accessFlags := 1, code := none }
/-- java/lang/Object -/
def k0 : Class := { plain "java/lang/Object" none with
  accessFlags := 33
  interfaces := #[]
  cf := some (fileOf pool0 8 #[] #[{ accessFlags := 1, nameIndex := 5, descriptorIndex := 6, attributes := #[] }] 33 0 #[] #[])
  fields := #[]
  methods := #[k0m0]
  instanceTypes := #[]
  staticTypes := #[]
  resolved := Array.replicate 124 none
  statics := none }

def pool1 : Array CpInfo := pool [(2, .class_ 4), (1, u "java/lang/Object"), (0, u "<init>"), (0, u "()V"), (0, .fieldref 8 9), (0, .class_ 10), (0, .nameAndType 11 12), (0, u "com/example/ceruline/ceruline/program/Expression$Comparison$Relation"), (0, u "LESS"), (0, u "Lcom/example/ceruline/ceruline/program/Expression$Comparison$Relation;"), (0, .fieldref 8 14), (0, .nameAndType 15 12), (0, u "LESS_OR_EQUAL"), (0, .fieldref 8 17), (0, .nameAndType 18 12), (0, u "GREATER"), (0, .fieldref 8 20), (0, .nameAndType 21 12), (0, u "GREATER_OR_EQUAL"), (0, .fieldref 8 23), (0, .nameAndType 24 12), (0, u "EQUAL"), (0, .fieldref 8 26), (0, .nameAndType 27 12), (0, u "NOT_EQUAL"), (0, .integer 2147483647), (0, .methodref 30 31), (0, .class_ 32), (0, .nameAndType 33 34), (0, u "com/example/ceruline/ceruline/program/RelationNegationPinLaw"), (0, u "pick"), (0, u "(I)Lcom/example/ceruline/ceruline/program/Expression$Comparison$Relation;"), (0, .methodref 8 36), (0, .nameAndType 37 38), (0, u "negation"), (0, u "()Lcom/example/ceruline/ceruline/program/Expression$Comparison$Relation;"), (0, .methodref 30 40), (0, .nameAndType 41 42), (0, u "holds"), (0, u "(Lcom/example/ceruline/ceruline/program/Expression$Comparison$Relation;II)Z"), (3, u "law"), (0, u "(IIII)Z")] 9

def k1m0 : Method := { name := "<init>", desc := "()V", sig := { parameters := [], returnType := none }, accessFlags := 1, code := none }
def k1c1 : Code := { maxStack := 2, maxLocals := 1, code := method_2_code, exceptionTable := #[], attributes := #[] }
def k1m1 : Method := { name := "pick", desc := "(I)Lcom/example/ceruline/ceruline/program/Expression$Comparison$Relation;", sig := { parameters := [.int], returnType := some (.object "com/example/ceruline/ceruline/program/Expression$Comparison$Relation") }, accessFlags := 10, code := some k1c1 }
def k1c2 : Code := { maxStack := 2, maxLocals := 3, code := method_3_code, exceptionTable := #[], attributes := #[] }
def k1m2 : Method := { name := "holds", desc := "(Lcom/example/ceruline/ceruline/program/Expression$Comparison$Relation;II)Z", sig := { parameters := [(.object "com/example/ceruline/ceruline/program/Expression$Comparison$Relation"), .int, .int], returnType := some .boolean }, accessFlags := 10, code := some k1c2 }
def k1c3 : Code := { maxStack := 4, maxLocals := 7, code := code, exceptionTable := #[], attributes := #[] }
def k1m3 : Method := { name := "law", desc := "(IIII)Z", sig := { parameters := [.int, .int, .int, .int], returnType := some .boolean }, accessFlags := 9, code := some k1c3 }
/-- com/example/ceruline/ceruline/program/RelationNegationPinLaw -/
def k1 : Class := { plain "com/example/ceruline/ceruline/program/RelationNegationPinLaw" (some 0) with
  accessFlags := 49
  interfaces := #[]
  cf := some (fileOf pool1 30 #[] #[{ accessFlags := 1, nameIndex := 5, descriptorIndex := 6, attributes := #[] }, { accessFlags := 10, nameIndex := 33, descriptorIndex := 34, attributes := #[] }, { accessFlags := 10, nameIndex := 41, descriptorIndex := 42, attributes := #[] }, { accessFlags := 9, nameIndex := 46, descriptorIndex := 47, attributes := #[] }] 49 2 #[] #[])
  fields := #[]
  methods := #[k1m0, k1m1, k1m2, k1m3]
  instanceTypes := #[]
  staticTypes := #[]
  resolved := Array.replicate 57 none
  statics := none }

def pool2 : Array CpInfo := pool [(1, .class_ 2), (0, u "java/lang/constant/Constable"), (0, .class_ 4), (0, u "java/lang/Object")] 6

/-- java/lang/constant/Constable -/
def k2 : Class := { plain "java/lang/constant/Constable" (some 0) with
  accessFlags := 1537
  interfaces := #[]
  cf := some (fileOf pool2 1 #[] #[] 1537 3 #[] #[])
  fields := #[]
  methods := #[]
  instanceTypes := #[]
  staticTypes := #[]
  resolved := Array.replicate 11 none
  statics := none }

def pool3 : Array CpInfo := pool [(1, .class_ 2), (0, u "java/lang/Comparable"), (0, .class_ 4), (0, u "java/lang/Object")] 7

/-- java/lang/Comparable -/
def k3 : Class := { plain "java/lang/Comparable" (some 0) with
  accessFlags := 1537
  interfaces := #[]
  cf := some (fileOf pool3 1 #[] #[] 1537 3 #[] #[])
  fields := #[]
  methods := #[]
  instanceTypes := #[]
  staticTypes := #[]
  resolved := Array.replicate 12 none
  statics := none }

def pool4 : Array CpInfo := pool [(1, .class_ 2), (0, u "java/io/Serializable"), (0, .class_ 4), (0, u "java/lang/Object")] 2

/-- java/io/Serializable -/
def k4 : Class := { plain "java/io/Serializable" (some 0) with
  accessFlags := 1537
  interfaces := #[]
  cf := some (fileOf pool4 1 #[] #[] 1537 3 #[] #[])
  fields := #[]
  methods := #[]
  instanceTypes := #[]
  staticTypes := #[]
  resolved := Array.replicate 7 none
  statics := none }

def pool5 : Array CpInfo := pool [(2, .class_ 4), (1, u "java/lang/Enum"), (0, u "name"), (0, u "Ljava/lang/String;"), (0, .fieldref 2 8), (0, .nameAndType 9 10), (0, u "ordinal"), (0, u "I"), (1, .class_ 14), (1, u "java/lang/Object"), (4, u "hash"), (86, .class_ 108), (1, u "java/lang/Enum$EnumDesc"), (2, .class_ 112), (0, u "java/lang/constant/Constable"), (0, .class_ 114), (0, u "java/lang/Comparable"), (0, .class_ 116), (0, u "java/io/Serializable"), (9, u "()I")] 77

def k5c0 : Code := { maxStack := 1, maxLocals := 1, code := jdk_37_method_2_code, exceptionTable := #[], attributes := #[] }
def k5m0 : Method := { name := "ordinal", desc := "()I", sig := { parameters := [], returnType := some .int }, accessFlags := 17, code := some k5c0 }
/-- java/lang/Enum -/
def k5 : Class := { plain "java/lang/Enum" (some 0) with
  accessFlags := 1057
  interfaces := #[2, 3, 4]
  cf := some (fileOf pool5 2 #[.nestMembers #[106]] #[{ accessFlags := 17, nameIndex := 9, descriptorIndex := 126, attributes := #[] }] 1057 12 #[111, 113, 115] #[{ accessFlags := 18, nameIndex := 5, descriptorIndex := 6, attributes := #[] }, { accessFlags := 18, nameIndex := 9, descriptorIndex := 10, attributes := #[] }, { accessFlags := 2, nameIndex := 19, descriptorIndex := 10, attributes := #[] }])
  fields := #[{ name := "name", type := (.object "java/lang/String"), accessFlags := 18, slot := 0, constantValue := 0 }, { name := "ordinal", type := .int, accessFlags := 18, slot := 1, constantValue := 0 }, { name := "hash", type := .int, accessFlags := 2, slot := 2, constantValue := 0 }]
  methods := #[k5m0]
  instanceTypes := #[(.object "java/lang/String"), .int, .int]
  staticTypes := #[]
  resolved := Array.replicate 204 none
  statics := none }

def pool6 : Array CpInfo := pool [(1, .class_ 2), (0, u "com/example/ceruline/ceruline/program/Expression$Comparison$Relation"), (0, .fieldref 1 4), (0, .nameAndType 5 6), (0, u "LESS"), (0, u "Lcom/example/ceruline/ceruline/program/Expression$Comparison$Relation;"), (0, .fieldref 1 8), (0, .nameAndType 9 6), (0, u "LESS_OR_EQUAL"), (0, .fieldref 1 11), (0, .nameAndType 12 6), (0, u "GREATER"), (0, .fieldref 1 14), (0, .nameAndType 15 6), (0, u "GREATER_OR_EQUAL"), (0, .fieldref 1 17), (0, .nameAndType 18 6), (0, u "EQUAL"), (0, .fieldref 1 20), (0, .nameAndType 21 6), (0, u "NOT_EQUAL"), (2, u "$VALUES"), (0, u "[Lcom/example/ceruline/ceruline/program/Expression$Comparison$Relation;"), (6, .class_ 34), (1, u "java/lang/Enum"), (6, .methodref 1 42), (0, .nameAndType 43 44), (0, u "ordinal"), (0, u "()I"), (23, u "negation"), (0, u "()Lcom/example/ceruline/ceruline/program/Expression$Comparison$Relation;"), (6, .class_ 77), (0, u "com/example/ceruline/ceruline/program/Expression")] 5

def k6c0 : Code := { maxStack := 4, maxLocals := 1, code := prog_77_method_4_code, exceptionTable := #[], attributes := #[] }
def k6m0 : Method := { name := "negation", desc := "()Lcom/example/ceruline/ceruline/program/Expression$Comparison$Relation;", sig := { parameters := [], returnType := some (.object "com/example/ceruline/ceruline/program/Expression$Comparison$Relation") }, accessFlags := 1, code := some k6c0 }
/-- com/example/ceruline/ceruline/program/Expression$Comparison$Relation -/
def k6 : Class := { plain "com/example/ceruline/ceruline/program/Expression$Comparison$Relation" (some 5) with
  accessFlags := 16433
  interfaces := #[]
  cf := some (fileOf pool6 1 #[.nestHost 76] #[{ accessFlags := 1, nameIndex := 68, descriptorIndex := 69, attributes := #[] }] 16433 32 #[] #[{ accessFlags := 16409, nameIndex := 5, descriptorIndex := 6, attributes := #[] }, { accessFlags := 16409, nameIndex := 9, descriptorIndex := 6, attributes := #[] }, { accessFlags := 16409, nameIndex := 12, descriptorIndex := 6, attributes := #[] }, { accessFlags := 16409, nameIndex := 15, descriptorIndex := 6, attributes := #[] }, { accessFlags := 16409, nameIndex := 18, descriptorIndex := 6, attributes := #[] }, { accessFlags := 16409, nameIndex := 21, descriptorIndex := 6, attributes := #[] }, { accessFlags := 4122, nameIndex := 24, descriptorIndex := 25, attributes := #[] }])
  fields := #[{ name := "LESS", type := (.object "com/example/ceruline/ceruline/program/Expression$Comparison$Relation"), accessFlags := 16409, slot := 0, constantValue := 0 }, { name := "LESS_OR_EQUAL", type := (.object "com/example/ceruline/ceruline/program/Expression$Comparison$Relation"), accessFlags := 16409, slot := 1, constantValue := 0 }, { name := "GREATER", type := (.object "com/example/ceruline/ceruline/program/Expression$Comparison$Relation"), accessFlags := 16409, slot := 2, constantValue := 0 }, { name := "GREATER_OR_EQUAL", type := (.object "com/example/ceruline/ceruline/program/Expression$Comparison$Relation"), accessFlags := 16409, slot := 3, constantValue := 0 }, { name := "EQUAL", type := (.object "com/example/ceruline/ceruline/program/Expression$Comparison$Relation"), accessFlags := 16409, slot := 4, constantValue := 0 }, { name := "NOT_EQUAL", type := (.object "com/example/ceruline/ceruline/program/Expression$Comparison$Relation"), accessFlags := 16409, slot := 5, constantValue := 0 }, { name := "$VALUES", type := (.array (.object "com/example/ceruline/ceruline/program/Expression$Comparison$Relation")), accessFlags := 4122, slot := 6, constantValue := 0 }]
  methods := #[k6m0]
  instanceTypes := #[(.object "java/lang/String"), .int, .int]
  staticTypes := #[(.object "com/example/ceruline/ceruline/program/Expression$Comparison$Relation"), (.object "com/example/ceruline/ceruline/program/Expression$Comparison$Relation"), (.object "com/example/ceruline/ceruline/program/Expression$Comparison$Relation"), (.object "com/example/ceruline/ceruline/program/Expression$Comparison$Relation"), (.object "com/example/ceruline/ceruline/program/Expression$Comparison$Relation"), (.object "com/example/ceruline/ceruline/program/Expression$Comparison$Relation"), (.array (.object "com/example/ceruline/ceruline/program/Expression$Comparison$Relation"))]
  resolved := Array.replicate 83 none
  statics := some 0 }

def pool7 : Array CpInfo := pool [(1, u "java/lang/Cloneable"), (0, .class_ 1), (0, u "java/lang/Object"), (0, .class_ 3)] 3

/-- java/lang/Cloneable -/
def k7 : Class := { plain "java/lang/Cloneable" (some 0) with
  accessFlags := 1537
  interfaces := #[]
  cf := some (fileOf pool7 2 #[] #[] 1537 4 #[] #[])
  fields := #[]
  methods := #[]
  instanceTypes := #[]
  staticTypes := #[]
  resolved := Array.replicate 8 none
  statics := none }

/-- the primitive byte -/
def k8 : Class := { plain "byte" none with kind := .primitive 'B', accessFlags := 0x411 }
/-- [B -/
def k9 : Class := { plain "[B" (some 0) with kind := .array 8 .byte, interfaces := #[7, 4], accessFlags := 1041 }

/-- the primitive int -/
def k10 : Class := { plain "int" none with kind := .primitive 'I', accessFlags := 0x411 }
/-- [I -/
def k11 : Class := { plain "[I" (some 0) with kind := .array 10 .int, interfaces := #[7, 4], accessFlags := 1041 }

def heap : Heap := #[{ cls := 6, slots := #[.ref 1, .ref 2, .ref 3, .ref 4, .ref 5, .ref 6, .null], vm := .statics 6 },
  { cls := 6, slots := #[.null, .int 0, .int 0], vm := .none },
  { cls := 6, slots := #[.null, .int 1, .int 0], vm := .none },
  { cls := 6, slots := #[.null, .int 2, .int 0], vm := .none },
  { cls := 6, slots := #[.null, .int 3, .int 0], vm := .none },
  { cls := 6, slots := #[.null, .int 4, .int 0], vm := .none },
  { cls := 6, slots := #[.null, .int 5, .int 0], vm := .none }]
def classes : Array Class := #[k0, k1, k2, k3, k4, k5, k6, k7, k8, k9, k10, k11]
def interned : List (Array UInt16 × Addr) := []
def slotsUsed : Nat := 25
def theMethod : MethodId := ⟨1, 3⟩
def args0 : Array Value := #[.int 5, .int 6, .int 7, .int 8]
def aboutOver (below : List Frame) : State where
  vm := { classes := classes, interned := interned.toArray }
  heap := heap
  slotsUsed := slotsUsed
  threads := #[{ frames := .invoking theMethod args0 :: below }]
def below0 : List Frame := [.native { method := ⟨0, 0⟩, args := #[] }]
def about1 : State := aboutOver below0
def p0 : Program := .bare "" "" ""
def e0 : Env := launch0.env 0 0 0
theorem w_frames : about1.frames = Frame.invoking theMethod args0 :: below0 := rfl
set_option maxRecDepth 65536 in
theorem w_args : argsFit about1.vm theMethod args0 = true := by decide +kernel
set_option maxRecDepth 65536 in
theorem w_heap : heapFits about1 = true := by decide +kernel
set_option maxRecDepth 65536 in
theorem w_runnable : about1.curStatus? = some .runnable := by decide +kernel
set_option maxRecDepth 65536 in
theorem w_alone : about1.alone = true := by decide +kernel
set_option maxRecDepth 65536 in
theorem w_named : about1.methodNamed? x = some theMethod := by decide +kernel
set_option maxRecDepth 65536 in
theorem w_hears : about1.hears theMethod below0 = true := by decide +kernel
set_option maxRecDepth 65536 in
theorem w_ripe : about1.ripe theMethod args0 below0 = true := by decide +kernel
theorem w_running : about1.status = .running := rfl
set_option maxRecDepth 65536 in
theorem w_room : about1.hasRoom e0.platform room_1 = true :=
  launch0.hasRoom_least _ room_1 (by decide +kernel) (by decide +kernel) (by decide +kernel) (by decide +kernel) (by decide +kernel) (by decide +kernel)
theorem allAtoms_all (ts : List Jvm.Cond) (a : Array Jvm.Value) (st : Jvm.State) : (allAtoms ts).before a st = ts.all (fun c => c.before a st) := by
  induction ts with
  | nil => rfl
  | cons c t ih =>
    show (Jvm.Cond.and c (allAtoms t)).before a st = _
    rw [Jvm.Cond.before_and, ih, List.all_cons]
def words1 : List Jvm.Cond := Jvm.Cond.code x code maxLocals ret :: tables_1
/-- a 'code' word, met by the world's own term for the bytes: nothing is compared byte by byte -/
theorem code_word {y : MethodName} {bytes : ByteArray} {mx : Nat} {rt : Option FieldType} {a : Array Value} {s : State} {m : MethodId} {meth : Method} {c : Code} (h1 : s.methodNamed? y = some m) (h2 : s.vm.method? m = some meth) (h3 : meth.code = some c) (h4 : c.code = bytes)
    (h5 : (c.maxLocals == mx && c.exceptionTable.isEmpty && decide (c.maxStack ≤ mostOperands) && decide (meth.sig.returnType = rt) && !meth.locks && decide (parseMethodDescriptor y.desc = some meth.sig)) = true) : (Jvm.Cond.code y bytes mx rt).before a s = true := by
  simp only [Bool.and_eq_true, beq_iff_eq, Bool.not_eq_true', decide_eq_true_eq] at h5
  obtain ⟨⟨⟨⟨⟨g1, g2⟩, g3⟩, g4⟩, g5⟩, g6⟩ := h5
  simp [Cond.before, Cond.holds, Cond.value, h1, h2, h3, h4, g1, g2, g3, g4, g5, g6]
def isCode : Jvm.Cond → Bool
  | .code _ _ _ _ => true
  | _ => false
theorem all_split {L : List Jvm.Cond} {P : Jvm.Cond → Bool} (h1 : L.all (fun c => isCode c || P c) = true) (h2 : ∀ c ∈ L.filter isCode, P c = true) : L.all P = true := by
  refine List.all_eq_true.mpr fun c hc => ?_
  have h := List.all_eq_true.mp h1 c hc
  rcases Bool.eq_false_or_eq_true (isCode c) with hi | hi
  · exact h2 c (List.mem_filter.mpr ⟨hc, hi⟩)
  · simpa [hi] using h
set_option maxRecDepth 65536 in
theorem w_c0 : (Jvm.Cond.code x code maxLocals ret).before args0 about1 = true := code_word (m := ⟨1, 3⟩) (meth := k1m3) (c := k1c3) (by decide +kernel) rfl rfl rfl (by decide +kernel)
set_option maxRecDepth 65536 in
theorem w_c1 : (Jvm.Cond.code ({ cls := "com/example/ceruline/ceruline/program/RelationNegationPinLaw", name := "pick", desc := "(I)Lcom/example/ceruline/ceruline/program/Expression$Comparison$Relation;" } : Jvm.MethodName) method_2_code (1 : Nat) (Option.some (Jvm.ClassFile.FieldType.object "com/example/ceruline/ceruline/program/Expression$Comparison$Relation"))).before args0 about1 = true := code_word (m := ⟨1, 1⟩) (meth := k1m1) (c := k1c1) (by decide +kernel) rfl rfl rfl (by decide +kernel)
set_option maxRecDepth 65536 in
theorem w_c2 : (Jvm.Cond.code ({ cls := "com/example/ceruline/ceruline/program/Expression$Comparison$Relation", name := "negation", desc := "()Lcom/example/ceruline/ceruline/program/Expression$Comparison$Relation;" } : Jvm.MethodName) prog_77_method_4_code (1 : Nat) (Option.some (Jvm.ClassFile.FieldType.object "com/example/ceruline/ceruline/program/Expression$Comparison$Relation"))).before args0 about1 = true := code_word (m := ⟨6, 0⟩) (meth := k6m0) (c := k6c0) (by decide +kernel) rfl rfl rfl (by decide +kernel)
set_option maxRecDepth 65536 in
theorem w_c3 : (Jvm.Cond.code ({ cls := "java/lang/Enum", name := "ordinal", desc := "()I" } : Jvm.MethodName) jdk_37_method_2_code (1 : Nat) (Option.some Jvm.ClassFile.FieldType.int)).before args0 about1 = true := code_word (m := ⟨5, 0⟩) (meth := k5m0) (c := k5c0) (by decide +kernel) rfl rfl rfl (by decide +kernel)
set_option maxRecDepth 65536 in
theorem w_c4 : (Jvm.Cond.code ({ cls := "com/example/ceruline/ceruline/program/RelationNegationPinLaw", name := "holds", desc := "(Lcom/example/ceruline/ceruline/program/Expression$Comparison$Relation;II)Z" } : Jvm.MethodName) method_3_code (3 : Nat) (Option.some Jvm.ClassFile.FieldType.boolean)).before args0 about1 = true := code_word (m := ⟨1, 2⟩) (meth := k1m2) (c := k1c2) (by decide +kernel) rfl rfl rfl (by decide +kernel)
def codes1 : List Jvm.Cond := [Jvm.Cond.code x code maxLocals ret, Jvm.Cond.code ({ cls := "com/example/ceruline/ceruline/program/RelationNegationPinLaw", name := "pick", desc := "(I)Lcom/example/ceruline/ceruline/program/Expression$Comparison$Relation;" } : Jvm.MethodName) method_2_code (1 : Nat) (Option.some (Jvm.ClassFile.FieldType.object "com/example/ceruline/ceruline/program/Expression$Comparison$Relation")), Jvm.Cond.code ({ cls := "com/example/ceruline/ceruline/program/Expression$Comparison$Relation", name := "negation", desc := "()Lcom/example/ceruline/ceruline/program/Expression$Comparison$Relation;" } : Jvm.MethodName) prog_77_method_4_code (1 : Nat) (Option.some (Jvm.ClassFile.FieldType.object "com/example/ceruline/ceruline/program/Expression$Comparison$Relation")), Jvm.Cond.code ({ cls := "java/lang/Enum", name := "ordinal", desc := "()I" } : Jvm.MethodName) jdk_37_method_2_code (1 : Nat) (Option.some Jvm.ClassFile.FieldType.int), Jvm.Cond.code ({ cls := "com/example/ceruline/ceruline/program/RelationNegationPinLaw", name := "holds", desc := "(Lcom/example/ceruline/ceruline/program/Expression$Comparison$Relation;II)Z" } : Jvm.MethodName) method_3_code (3 : Nat) (Option.some Jvm.ClassFile.FieldType.boolean)]
set_option maxRecDepth 65536 in
theorem codes_eq : words1.filter isCode = codes1 := rfl
theorem w_codes : ∀ c ∈ words1.filter isCode, c.before args0 about1 = true := by
  rw [codes_eq]
  intro c hc
  simp only [codes1, List.mem_cons, List.not_mem_nil, or_false] at hc
  rcases hc with rfl | rfl | rfl | rfl | rfl
  · exact w_c0
  · exact w_c1
  · exact w_c2
  · exact w_c3
  · exact w_c4
set_option maxRecDepth 65536 in
theorem w_t1 : (words1.take 24).all (fun c => isCode c || c.before args0 about1) = true := by decide +kernel
set_option maxRecDepth 65536 in
theorem w_t2 : (words1.drop 24).all (fun c => isCode c || c.before args0 about1) = true := by decide +kernel
theorem w_tables : (allAtoms (Jvm.Cond.code x code maxLocals ret :: tables_1)).before args0 about1 = true := by
  rw [allAtoms_all]
  show words1.all (fun c => c.before args0 about1) = true
  refine all_split ?_ w_codes
  rw [← List.take_append_drop 24 words1, List.all_append, w_t1, w_t2]
  rfl
set_option maxRecDepth 65536 in
theorem w_case : (Jvm.Cond.and given_1 narrow_1).before args0 about1 = true := by decide +kernel
theorem w_applies : (headSpec (Jvm.Cond.code x code maxLocals ret :: tables_1) room_1).applies x e0.platform about1 = true :=
  (Spec.applies_iff w_frames).mpr ⟨w_running, w_runnable, w_alone, w_named, w_hears, w_ripe, w_room, w_tables⟩
theorem atStart : AtStart classFile x code maxLocals ret World_1 tables_1 room_1 Calls_1 rest_1 Pre_1 launch0 p0 e0 about1 theMethod args0 below0 :=
  ⟨lists_1, trivial, launch0.admits_env _ _ _, launch0.least_env, fairChoices_fair.cas, fairChoices_fair.clock, w_frames, w_args, w_heap, w_applies, trivial, trivial, w_case⟩
end start1
theorem witness_1 : WitnessClaimed_1 := ⟨start1.p0, start1.e0, start1.about1, start1.theMethod, start1.args0, start1.below0, start1.atStart⟩
end Jvm.Pilot.@@N@@
