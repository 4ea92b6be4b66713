import JvmDerived
import JvmDerived.Pilot.@@N@@Statement
import JvmDerived.Pilot.@@N@@Code
set_option linter.unusedVariables false
set_option linter.unusedSimpArgs false
namespace Jvm.Pilot.@@N@@
open Jvm Jvm.ClassFile Sem Op Lib Jvm.Free Jvm.Stand Jvm.LawKit Jvm.RoadKit Bundle Jvm.Pilot.@@N@@.Jvm.D
/-- whatever is reached from v is reached from u -/
abbrev To (tb : Tables) (e : Env) (below : List Frame) (u v : State) : Prop := ∀ t, Steps tb e below v t → Steps tb e below u t
/-- a body's contract: called with as' over the heap h0 it returns, and Q holds of what it returns, of the heap and of the places written -/
abbrev Con (l : Launch) (Z : State) (y : MethodName) (bs : ByteArray) (ml : Nat) (rt : Option FieldType) (ws : List Jvm.Cond) (R : Room) (as' : Array Value) (h0 : Heap) (Q : Option Value → Heap → List Loc → Prop) : Prop :=
  MetFree l y (head1 (Jvm.Cond.code y bs ml rt :: ws) R) (fun a U => a = as' ∧ Z.Warmed39 U.vm ∧ U.heap = h0) (fun _ _ _ _ _ => True) (fun _ U o U' => ∃ v L, o = .returned v ∧ Q v U'.heap L ∧ FrameEnd U o U' L R.cells R.slots)
/-- the walk from S0 has ended well -/
def Fin (p : Program) (e : Env) (below : List Frame) (s : State) (R : Room) (S0 : State) (Q : Option Value → Heap → List Loc → Prop) : Prop :=
  ∃ s₂ o, Steps p.tables e below S0 s₂ ∧ s₂.status = .running ∧ Ended s₂ below o ∧ ∃ v L, o = .returned v ∧ Q v s₂.heap L ∧ FrameEnd s o s₂ L R.cells R.slots
section Own
variable {p : Program} {l : Launch} {e : Env} {R : Room} {s : State} {m : MethodId} {args : Array Value} {below : List Frame} {meth : Method} {c : Code} {T S0 : State} {locs : List Loc} {cells slots : Nat} {Z : State} {a0 : Array Value} {h : Heap} {Q : Option Value → Heap → List Loc → Prop}
theorem enter {y : MethodName} {bs : ByteArray} {ml : Nat} {rt : Option FieldType} {ws : List Jvm.Cond} {as' : Array Value} {h0 : Heap} {Ls : Array Slot} (hpl : plainFor y = true) (hef : ∀ m, entryFrame m as' ml = mkF m 0 Ls [])
    (body : ∀ (p : Program) (e : Env) (s : State) (m : MethodId) (below : List Frame) (meth : Method) (c : Code) (s₁ S0 : State), p.tables.exec = Jvm.exec → c.code = bs → c.maxLocals = ml → meth.sig.returnType = rt → meth.locks = false → meth.name = y.name →
      s.vm.findClass y.cls = some m.cls → Z.Warmed39 s.vm → Stand p l e R s m as' below meth c s₁ [] 0 0 → s₁.heap = h0 → To p.tables e below S0 (s₁.setTop (mkF m 0 Ls [])) → Fin p e below s R S0 Q) : Con l Z y bs ml rt ws R as' h0 Q := by
  refine MetFree.of_bodySF hpl hisR ?_
  intro p e s m args below meth c s₁ Bd hml0 hP hK
  obtain ⟨rfl, hZ, hh⟩ := hP
  exact body p e s m below meth c s₁ _ Bd.exec Bd.bytes hml0 Bd.returns Bd.notSynchronized (name_of_methodNamed Bd.named Bd.method).1 (findClass_of_methodNamed Bd.named) hZ (Stand.of_body Bd) (by rw [← hh, Bd.state]; rfl) (fun t k => castTop (hef m) k)
theorem retV (X : Stand p l e R s m args below meth c T locs cells slots) (hx : p.tables.exec = Jvm.exec) {pc : Nat} {Ls : Array Slot} {w : Value} {t : FieldType} {i : Instr} {rest : List Value} (hret : meth.sig.returnType = some t) (hlk : meth.locks = false) (hn : narrow t w = w)
    (hi : (i = .ireturn ∧ (t = .int ∨ t = .boolean ∨ t = .byte ∨ t = .char ∨ t = .short) ∧ ∃ z, w = .int z) ∨ (i = .lreturn ∧ t = .long ∧ ∃ z, w = .long z) ∨ (i = .dreturn ∧ t = .double ∧ ∃ z, w = .double z) ∨ (i = .freturn ∧ t = .float ∧ ∃ z, w = .float z) ∨ (i = .areturn ∧ t.isReference = true ∧ w.isRef = true))
    (hd : decode c.code pc = .ok (i, 1)) (k : To p.tables e below S0 (T.setTop (mkF m pc Ls (w :: rest)))) (hQ : Q (some w) T.heap locs) (hc : cells ≤ R.cells) (hs : slots ≤ R.slots) : Fin p e below s R S0 Q := by
  obtain ⟨fs, hr, hrun, hended, hW, hsame⟩ := X.leave (v := some w) (fun h => by rw [hret] at h; cases h) hlk
  exact ⟨_, _, k _ (retOut X hx hret hn hi hd hr), hrun, hended, _, _, rfl, hQ, ⟨_, rfl⟩, hW, hsame.mono hc hs⟩
theorem retInt (X : Stand p l e R s m args below meth c T locs cells slots) (hx : p.tables.exec = Jvm.exec) {pc : Nat} {Ls : Array Slot} {z : Int32} {t : FieldType} {rest : List Value} (hret : meth.sig.returnType = some t) (hlk : meth.locks = false) (ht : t = .int ∨ t = .boolean ∨ t = .byte ∨ t = .char ∨ t = .short) (hn : narrow t (.int z) = .int z)
    (hd : decode c.code pc = .ok (.ireturn, 1)) (k : To p.tables e below S0 (T.setTop (mkF m pc Ls (.int z :: rest)))) (hQ : Q (some (.int z)) T.heap locs) (hc : cells ≤ R.cells) (hs : slots ≤ R.slots) : Fin p e below s R S0 Q :=
  retV X hx hret hlk hn (Or.inl ⟨rfl, ht, z, rfl⟩) hd k hQ hc hs
theorem retRef (X : Stand p l e R s m args below meth c T locs cells slots) (hx : p.tables.exec = Jvm.exec) {pc : Nat} {Ls : Array Slot} {w : Value} {t : FieldType} {rest : List Value} (hret : meth.sig.returnType = some t) (hlk : meth.locks = false) (ht : t.isReference = true) (hw : w.isRef = true)
    (hd : decode c.code pc = .ok (.areturn, 1)) (k : To p.tables e below S0 (T.setTop (mkF m pc Ls (w :: rest)))) (hQ : Q (some w) T.heap locs) (hc : cells ≤ R.cells) (hs : slots ≤ R.slots) : Fin p e below s R S0 Q :=
  retV X hx hret hlk (by rcases ref_cases hw with rfl | ⟨z, rfl⟩ <;> cases t <;> first | rfl | (cases ht; done)) (Or.inr (Or.inr (Or.inr (Or.inr ⟨rfl, ht, hw⟩)))) hd k hQ hc hs
theorem retLong (X : Stand p l e R s m args below meth c T locs cells slots) (hx : p.tables.exec = Jvm.exec) {pc : Nat} {Ls : Array Slot} {z : Int64} {rest : List Value} (hret : meth.sig.returnType = some .long) (hlk : meth.locks = false)
    (hd : decode c.code pc = .ok (.lreturn, 1)) (k : To p.tables e below S0 (T.setTop (mkF m pc Ls (.long z :: rest)))) (hQ : Q (some (.long z)) T.heap locs) (hc : cells ≤ R.cells) (hs : slots ≤ R.slots) : Fin p e below s R S0 Q :=
  retV X hx hret hlk rfl (Or.inr (Or.inl ⟨rfl, rfl, z, rfl⟩)) hd k hQ hc hs
theorem retVoid (X : Stand p l e R s m args below meth c T locs cells slots) (hx : p.tables.exec = Jvm.exec) {pc : Nat} {Ls : Array Slot} (hret : meth.sig.returnType = none) (hlk : meth.locks = false)
    (hd : decode c.code pc = .ok (.return_, 1)) (k : To p.tables e below S0 (T.setTop (mkF m pc Ls []))) (hQ : Q none T.heap locs) (hc : cells ≤ R.cells) (hs : slots ≤ R.slots) : Fin p e below s R S0 Q := by
  obtain ⟨fs, hr, hrun, hended, hW, hsame⟩ := X.leave (v := none) (fun _ => rfl) hlk
  exact ⟨_, _, k _ (X.returnOut hx hret hd hr), hrun, hended, _, _, rfl, hQ, ⟨_, rfl⟩, hW, hsame.mono hc hs⟩
theorem backC {y : MethodName} {bs : ByteArray} {ml : Nat} {rt : Option FieldType} {rm : Room} {len W : Nat} {as' : Array Value} (hM : Con l Z y bs ml rt [] rm as' h Q) (hZ : Z.Warmed39 s.vm) (wc : (Cond.code y bs ml rt).before a0 Z = true) (wz : (Cond.initialized y.cls).before a0 Z = true) (hf : rm.frames + 1 ≤ R.frames) (hl : W + (ml + 11) + rm.locals ≤ R.locals) :
    Back l R p e below s args y len W (fun A a => a = as' ∧ A.U.heap = h ∧ A.cells + rm.cells ≤ R.cells ∧ A.slots + rm.slots ≤ R.slots) (fun A _ v B => ∃ L, Q v B.U.heap L ∧ B.locs = A.locs ++ L ∧ B.cells = A.cells + rm.cells ∧ B.slots = A.slots + rm.slots) :=
  backOf (Q := Q) hM hZ wc wz hf hl
/-! calls by a contract -/
theorem callS' (X : Stand p l e R s m args below meth c T locs cells slots) (hx : p.tables.exec = Jvm.exec) (hZ : Z.Warmed39 s.vm) {own : String} {index : Nat} {y : MethodName} {bs : ByteArray} {ml : Nat} {rt : Option FieldType} {cc ss W : Nat} {as' : Array Value} {Q : Option Value → Heap → List Loc → Prop}
    (hown : s.vm.findClass own = some m.cls) (w1 : (Cond.methodLink own index y).before a0 Z = true) (w2 : (Cond.static y).before a0 Z = true) (w3 : (Cond.initialized y.cls).before a0 Z = true) (w4 : (Cond.code y bs ml rt).before a0 Z = true) (hy : y.cls ≠ "java/lang/invoke/MethodHandle" ∧ y.cls ≠ "java/lang/invoke/VarHandle")
    (hK : Back l R p e below s args y 3 W (fun A a => a = as' ∧ A.U.heap = h ∧ A.cells + cc ≤ R.cells ∧ A.slots + ss ≤ R.slots) (fun A _ v B => ∃ L, Q v B.U.heap L ∧ B.locs = A.locs ++ L ∧ B.cells = A.cells + cc ∧ B.slots = A.slots + ss)) (eT : T.heap = h) {pc : Nat} {Ls : Array Slot} {st argsL rest : List Value} (hst : st = argsL.reverse ++ rest) (has : argsL.toArray = as') {ps : List FieldType} {r : Option FieldType} (hpd : parseMethodDescriptor y.desc = some ⟨ps, r⟩) (hlen : argsL.length = ps.length) (hsize : Ls.size = c.maxLocals)
    (hd : decode c.code pc = .ok (.invokestatic index, 3)) (hW : (rest.map fun v => v.category).sum ≤ W) (hc : cells + cc ≤ R.cells) (hs : slots + ss ≤ R.slots) (k : To p.tables e below S0 (T.setTop (mkF m pc Ls st))) :
    ∃ v T' L, Stand p l e R s m args below meth c T' (locs ++ L) (cells + cc) (slots + ss) ∧ Q v T'.heap L ∧ To p.tables e below S0 (T'.setTop (mkF m (pc + 3) Ls (v.toList ++ rest))) := by
  obtain ⟨v, vm₁, ⟨T', L', k', n'⟩, -, X', ⟨L, hQ, q1, q2, q3⟩, stp⟩ := Jvm.LawKit.callS X hx hown (mvT hZ w1) (mvT hZ w2) (mvT hZ w3) (mvT hZ w4) hy hK (g := mkF m pc Ls st) rfl hsize (argsL := argsL) (rest := rest) (lenOf hpd hlen) hst (by show 2 * 0 + _ ≤ _; omega) hd (fun _ _ => ⟨has, eT, hc, hs⟩)
  dsimp only [Pt.U, Pt.locs, Pt.cells, Pt.slots] at X' q1 q2 q3 stp hQ
  subst q1 q2 q3
  exact ⟨v, T', L, X', hQ, fun t q => k t (stp t q)⟩
theorem callC' (X : Stand p l e R s m args below meth c T locs cells slots) (hx : p.tables.exec = Jvm.exec) (hZ : Z.Warmed39 s.vm) {own : String} {index : Nat} {y : MethodName} {bs : ByteArray} {ml : Nat} {cc ss W : Nat} {as' : Array Value} {Q : Option Value → Heap → List Loc → Prop}
    (hy1 : y.name = "<init>") (hown : s.vm.findClass own = some m.cls) (w1 : (Cond.methodLink own index y).before a0 Z = true) (w2 : (Cond.instanceMethod y).before a0 Z = true) (w4 : (Cond.code y bs ml none).before a0 Z = true) (hy : y.cls ≠ "java/lang/invoke/MethodHandle" ∧ y.cls ≠ "java/lang/invoke/VarHandle")
    (hK : Back l R p e below s args y 3 W (fun A a => a = as' ∧ A.U.heap = h ∧ A.cells + cc ≤ R.cells ∧ A.slots + ss ≤ R.slots) (fun A _ v B => ∃ L, Q v B.U.heap L ∧ B.locs = A.locs ++ L ∧ B.cells = A.cells + cc ∧ B.slots = A.slots + ss)) (eT : T.heap = h) {pc : Nat} {Ls : Array Slot} {a : Addr} {st argsL rest : List Value} (hst : st = argsL.reverse ++ .ref a :: rest) (has : (.ref a :: argsL).toArray = as') {ps : List FieldType} {r : Option FieldType} (hpd : parseMethodDescriptor y.desc = some ⟨ps, r⟩) (hlen : argsL.length = ps.length) (hsize : Ls.size = c.maxLocals)
    (hd : decode c.code pc = .ok (.invokespecial index, 3)) (hW : (rest.map fun v => v.category).sum ≤ W) (hc : cells + cc ≤ R.cells) (hs : slots + ss ≤ R.slots) (k : To p.tables e below S0 (T.setTop (mkF m pc Ls st))) :
    ∃ v T' L, Stand p l e R s m args below meth c T' (locs ++ L) (cells + cc) (slots + ss) ∧ Q v T'.heap L ∧ To p.tables e below S0 (T'.setTop (mkF m (pc + 3) Ls (v.toList ++ rest))) := by
  obtain ⟨v, vm₁, ⟨T', L', k', n'⟩, -, X', ⟨L, hQ, q1, q2, q3⟩, stp⟩ := X.specialBack hx hy1 hown (mvT hZ w1) (mvT hZ w2) (mvT hZ w4) hy hK (g := mkF m pc Ls st) rfl hsize (Steps.refl _) (a := a) (argsL := argsL) (rest := rest) (lenOf hpd hlen) hst (by show 2 * 0 + _ ≤ _; omega) hd (fun _ _ => ⟨has, eT, hc, hs⟩)
  dsimp only [Pt.U, Pt.locs, Pt.cells, Pt.slots] at X' q1 q2 q3 stp hQ
  subst q1 q2 q3
  exact ⟨v, T', L, X', hQ, fun t q => k t (stp.trans q)⟩
theorem callV' (X : Stand p l e R s m args below meth c T locs cells slots) (hx : p.tables.exec = Jvm.exec) (hZ : Z.Warmed39 s.vm) {own C : String} {index : Nat} {y z : MethodName} {cc ss W : Nat} {as' : Array Value} {Q : Option Value → Heap → List Loc → Prop}
    (hown : s.vm.findClass own = some m.cls) (w1 : (Cond.methodLink own index y).before a0 Z = true) (w2 : (Cond.declares y).before a0 Z = true) (hnf : NotFace s y) (w5 : (Cond.selects C y z).before a0 Z = true) (w6 : (Cond.instanceMethod z).before a0 Z = true)
    (hy : y.cls ≠ "java/lang/invoke/MethodHandle" ∧ y.cls ≠ "java/lang/invoke/VarHandle") {b : Addr} (E : Exa Z h b C)
    (hK : Back l R p e below s args z 3 W (fun A a => a = as' ∧ A.U.heap = h ∧ A.cells + cc ≤ R.cells ∧ A.slots + ss ≤ R.slots) (fun A _ v B => ∃ L, Q v B.U.heap L ∧ B.locs = A.locs ++ L ∧ B.cells = A.cells + cc ∧ B.slots = A.slots + ss)) (eT : T.heap = h) {pc : Nat} {Ls : Array Slot} {st argsL rest : List Value} (hst : st = argsL.reverse ++ .ref b :: rest) (has : (.ref b :: argsL).toArray = as') {ps : List FieldType} {r : Option FieldType} (hpd : parseMethodDescriptor y.desc = some ⟨ps, r⟩) (hlen : argsL.length = ps.length) (hsize : Ls.size = c.maxLocals)
    (hd : decode c.code pc = .ok (.invokevirtual index, 3)) (hW : (rest.map fun v => v.category).sum ≤ W) (hc : cells + cc ≤ R.cells) (hs : slots + ss ≤ R.slots) (k : To p.tables e below S0 (T.setTop (mkF m pc Ls st))) :
    ∃ v T' L, Stand p l e R s m args below meth c T' (locs ++ L) (cells + cc) (slots + ss) ∧ Q v T'.heap L ∧ To p.tables e below S0 (T'.setTop (mkF m (pc + 3) Ls (v.toList ++ rest))) := by
  obtain ⟨cq, kq, qa, qb, qc⟩ := isOf hZ eT E
  obtain ⟨v, vm₁, ⟨T', L', k', n'⟩, -, X', ⟨L, hQ, q1, q2, q3⟩, stp⟩ := X.virtualBack hx hown (mvT hZ w1) (mvT hZ w2) hnf (mvT hZ w5) (mvT hZ w6) hy hK qa qc (g := mkF m pc Ls st) rfl hsize (Steps.refl _) (argsL := argsL) (rest := rest) (lenOf hpd hlen) hst (by show 2 * 0 + _ ≤ _; omega) hd (fun _ _ => ⟨has, eT, hc, hs⟩)
  dsimp only [Pt.U, Pt.locs, Pt.cells, Pt.slots] at X' q1 q2 q3 stp hQ
  subst q1 q2 q3
  exact ⟨v, T', L, X', hQ, fun t q => k t (stp.trans q)⟩
theorem callU' (X : Stand p l e R s m args below meth c T locs cells slots) (hx : p.tables.exec = Jvm.exec) (hZ : Z.Warmed39 s.vm) {own C owner : String} {index : Nat} {y z : MethodName} {cc ss W : Nat} {as' : Array Value} {Q : Option Value → Heap → List Loc → Prop}
    (hown : s.vm.findClass own = some m.cls) (w1 : (Cond.methodLink own index y).before a0 Z = true) (w7 : (Cond.sameMethod y.cls owner y.name y.desc).before a0 Z = true) (w2 : (Cond.declares ⟨owner, y.name, y.desc⟩).before a0 Z = true) (w5 : (Cond.selects C y z).before a0 Z = true) (w6 : (Cond.instanceMethod z).before a0 Z = true)
    (hy : owner ≠ "java/lang/invoke/MethodHandle" ∧ owner ≠ "java/lang/invoke/VarHandle") {b : Addr} (E : Exa Z h b C)
    (hK : Back l R p e below s args z 3 W (fun A a => a = as' ∧ A.U.heap = h ∧ A.cells + cc ≤ R.cells ∧ A.slots + ss ≤ R.slots) (fun A _ v B => ∃ L, Q v B.U.heap L ∧ B.locs = A.locs ++ L ∧ B.cells = A.cells + cc ∧ B.slots = A.slots + ss)) (eT : T.heap = h) {pc : Nat} {Ls : Array Slot} {st argsL rest : List Value} (hst : st = argsL.reverse ++ .ref b :: rest) (has : (.ref b :: argsL).toArray = as') {ps : List FieldType} {r : Option FieldType} (hpd : parseMethodDescriptor y.desc = some ⟨ps, r⟩) (hlen : argsL.length = ps.length) (hsize : Ls.size = c.maxLocals)
    (hd : decode c.code pc = .ok (.invokevirtual index, 3)) (hW : (rest.map fun v => v.category).sum ≤ W) (hc : cells + cc ≤ R.cells) (hs : slots + ss ≤ R.slots) (k : To p.tables e below S0 (T.setTop (mkF m pc Ls st))) :
    ∃ v T' L, Stand p l e R s m args below meth c T' (locs ++ L) (cells + cc) (slots + ss) ∧ Q v T'.heap L ∧ To p.tables e below S0 (T'.setTop (mkF m (pc + 3) Ls (v.toList ++ rest))) := by
  obtain ⟨cq, kq, qa, qb, qc⟩ := isOf hZ eT E
  obtain ⟨v, vm₁, ⟨T', L', k', n'⟩, -, X', ⟨L, hQ, q1, q2, q3⟩, stp⟩ := X.virtualBackUp hx hown (mvT hZ w1) (mvT hZ w7) (mvT hZ w2) hy (mvT hZ w5) (mvT hZ w6) hK qa qc (g := mkF m pc Ls st) rfl hsize (Steps.refl _) (argsL := argsL) (rest := rest) (lenOf hpd hlen) hst (by show 2 * 0 + _ ≤ _; omega) hd (fun _ _ => ⟨has, eT, hc, hs⟩)
  dsimp only [Pt.U, Pt.locs, Pt.cells, Pt.slots] at X' q1 q2 q3 stp hQ
  subst q1 q2 q3
  exact ⟨v, T', L, X', hQ, fun t q => k t (stp.trans q)⟩
theorem callI' (X : Stand p l e R s m args below meth c T locs cells slots) (hx : p.tables.exec = Jvm.exec) (hZ : Z.Warmed39 s.vm) {own C : String} {index count : Nat} {y z : MethodName} {cc ss W : Nat} {as' : Array Value} {Q : Option Value → Heap → List Loc → Prop}
    (hown : s.vm.findClass own = some m.cls) (w1 : (Cond.methodLink own index y).before a0 Z = true) (w2 : (Cond.declares y).before a0 Z = true) (w7 : (Cond.interfaceMethod y.cls y.cls y.name y.desc).before a0 Z = true) (hd7 : ((Cond.interfaceMethod y.cls y.cls y.name y.desc).onTables && (Cond.interfaceMethod y.cls y.cls y.name y.desc).keepsFace) = true) (w5 : (Cond.selects C y z).before a0 Z = true) (w6 : (Cond.instanceMethod z).before a0 Z = true) (w8 : (Cond.publicMethod z).before a0 Z = true) (w9 : (Cond.unhidden C y.name y.desc).before a0 Z = true) (w10 : (Cond.castable C y.cls).before a0 Z = true)
    (hy : y.cls ≠ "java/lang/invoke/MethodHandle" ∧ y.cls ≠ "java/lang/invoke/VarHandle") {b : Addr} (E : Exa Z h b C)
    (hK : Back l R p e below s args z 5 W (fun A a => a = as' ∧ A.U.heap = h ∧ A.cells + cc ≤ R.cells ∧ A.slots + ss ≤ R.slots) (fun A _ v B => ∃ L, Q v B.U.heap L ∧ B.locs = A.locs ++ L ∧ B.cells = A.cells + cc ∧ B.slots = A.slots + ss)) (eT : T.heap = h) {pc : Nat} {Ls : Array Slot} {st argsL rest : List Value} (hst : st = argsL.reverse ++ .ref b :: rest) (has : (.ref b :: argsL).toArray = as') {ps : List FieldType} {r : Option FieldType} (hpd : parseMethodDescriptor y.desc = some ⟨ps, r⟩) (hlen : argsL.length = ps.length) (hsize : Ls.size = c.maxLocals)
    (hd : decode c.code pc = .ok (.invokeinterface index count, 5)) (hW : (rest.map fun v => v.category).sum ≤ W) (hc : cells + cc ≤ R.cells) (hs : slots + ss ≤ R.slots) (k : To p.tables e below S0 (T.setTop (mkF m pc Ls st))) :
    ∃ v T' L, Stand p l e R s m args below meth c T' (locs ++ L) (cells + cc) (slots + ss) ∧ Q v T'.heap L ∧ To p.tables e below S0 (T'.setTop (mkF m (pc + 5) Ls (v.toList ++ rest))) := by
  obtain ⟨cq, kq, qa, qb, qc⟩ := isOf hZ eT E
  obtain ⟨v, vm₁, ⟨T', L', k', n'⟩, -, X', ⟨L, hQ, q1, q2, q3⟩, stp⟩ := X.interfaceBack hx hown (mvT hZ w1) (mvT hZ w2) (mvT hZ w7 hd7) (mvT hZ w5) (mvT hZ w6) (mvT hZ w8) (mvT hZ w9) (mvT hZ w10) hy hK qa qb qc (g := mkF m pc Ls st) rfl hsize (Steps.refl _) (argsL := argsL) (rest := rest) (lenOf hpd hlen) hst (by show 2 * 0 + _ ≤ _; omega) hd (fun _ _ => ⟨has, eT, hc, hs⟩)
  dsimp only [Pt.U, Pt.locs, Pt.cells, Pt.slots] at X' q1 q2 q3 stp hQ
  subst q1 q2 q3
  exact ⟨v, T', L, X', hQ, fun t q => k t (stp.trans q)⟩
theorem staOld {n0 : Nat} {C n d : String} {v : Value} (F : Sta Z Z.heap C n d v) (O : Old Z n0 h) : Sta Z h C n d v := F.ext O.2
theorem exaOld {n0 : Nat} {C : String} {a : Addr} (F : Exa Z Z.heap a C) (O : Old Z n0 h) : Exa Z h a C := F.ext O.2
theorem fldOld {n0 : Nat} {C n d : String} {a : Addr} {v : Value} (F : Fld Z Z.heap a C n d v) (O : Old Z n0 h) : Fld Z h a C n d v := F.ext O.2
theorem joinT (X : Stand p l e R s m args below meth c T locs cells slots) (eT : T.heap = h) (F : JFrame) {G : Prop} (br : (∀ T', Stand p l e R s m args below meth c T' locs cells slots → T'.heap = h → To p.tables e below S0 (T'.setTop F) → G) → G)
    (rest : ∀ T', Stand p l e R s m args below meth c T' locs cells slots → T'.heap = h → To p.tables e below S0 (T'.setTop F) → G) : G := br rest
theorem own_nz {s : State} {args : Array Value} {t : Term} {z : Int32} (e : t.eval args s none [] s = some (.int z)) (h : (Jvm.Cond.not (.eq t (.int 0))).value args s none s [] = some true) : ¬ z = (0 : Int32) := fun q => by
  subst q; have h2 := not_v h; simp [Cond.value, e, Term.eval] at h2
theorem fits_isref {C : String} {w : Value} (h : w.isRef = true) : fits (.object C) w = true := by rcases ref_cases h with rfl | ⟨z, rfl⟩ <;> rfl
theorem narrow_ref {t : FieldType} {w : Value} (h : w.isRef = true) : narrow t w = w := by rcases ref_cases h with rfl | ⟨z, rfl⟩ <;> cases t <;> rfl
end Own
/-- an array in an object's field, of length 0 -/
theorem own_empty {s : State} {args : Array Value} {t : Term} {q : Addr} {C f : String} {ty : FieldType} (hf : Fit s) (ev : t.eval args s none [] s = some (.ref q)) {d : String} (h1 : (Jvm.Cond.arrayOf (.field t C f d) ty).value args s none s [] = some true) (h2 : (Jvm.Cond.eq (.length (.field t C f d)) (.int 0)).value args s none s [] = some true) :
    ∃ b k, Fld s s.heap q C f d (.ref b) ∧ Arv s s.heap b k ty (0 : Int32) [] .null := by
  obtain ⟨b, eb⟩ := arr_v h1
  obtain ⟨cl, A⟩ := Arr.start eb h1
  have F : Fld s s.heap q C f d (.ref b) := Fld.start (by rw [← fld_at ev]; exact eb)
  have el := eqv_i (Term.int_eval _) h2
  have ha := A.fin (U := s) (Vm.Alike.refl _)
  have hl : cl.slots.size < 2 ^ 31 ∧ cl.slots.size.toInt32 = 0 := by
    by_cases hq : cl.slots.size < 2 ^ 31
    · have := len_f eb ha hq; rw [el] at this; exact ⟨hq, (Value.int.inj (Option.some.inj this)).symm⟩
    · exfalso; simp only [Term.eval] at el eb; rw [eb] at el; simp [ha, hq] at el
  exact ⟨b, cl.cls, F, Arv.start hf A hl.1 hl.2 (by decide) rfl trivial⟩
def own_pick (qT qF qN : Addr) (k : Int32) : Addr := if k = 0 then qT else if k = 1 then qF else qN
theorem d_method_2_code_0 : decode method_2_code 0 = .ok (.iload_n 0, 1) := by decide +kernel
theorem d_method_2_code_1 : decode method_2_code 1 = .ok (.ldc 7, 2) := by decide +kernel
theorem d_method_2_code_3 : decode method_2_code 3 = .ok (.iand, 1) := by decide +kernel
theorem d_method_2_code_4 : decode method_2_code 4 = .ok (.iconst 3, 1) := by decide +kernel
theorem d_method_2_code_5 : decode method_2_code 5 = .ok (.irem, 1) := by decide +kernel
theorem d_method_2_code_6 : decode method_2_code 6 = .ok (.istore_n 1, 1) := by decide +kernel
theorem d_method_2_code_7 : decode method_2_code 7 = .ok (.iload_n 1, 1) := by decide +kernel
theorem d_method_2_code_8 : decode method_2_code 8 = .ok (.ifCond .ne 7, 3) := by decide +kernel
theorem d_method_2_code_11 : decode method_2_code 11 = .ok (.getstatic 8, 3) := by decide +kernel
theorem d_method_2_code_14 : decode method_2_code 14 = .ok (.areturn, 1) := by decide +kernel
theorem d_method_2_code_15 : decode method_2_code 15 = .ok (.iload_n 1, 1) := by decide +kernel
theorem d_method_2_code_16 : decode method_2_code 16 = .ok (.iconst 1, 1) := by decide +kernel
theorem d_method_2_code_17 : decode method_2_code 17 = .ok (.if_icmp .ne 7, 3) := by decide +kernel
theorem d_method_2_code_20 : decode method_2_code 20 = .ok (.getstatic 14, 3) := by decide +kernel
theorem d_method_2_code_23 : decode method_2_code 23 = .ok (.areturn, 1) := by decide +kernel
theorem d_method_2_code_24 : decode method_2_code 24 = .ok (.getstatic 17, 3) := by decide +kernel
theorem d_method_2_code_27 : decode method_2_code 27 = .ok (.areturn, 1) := by decide +kernel
theorem pn_0 : plainName "com/example/apportion/apportion/policy/JsonValueWordPinLaw" = true := by first | (simp [plainName, overriddenIn]; done) | decide +kernel
set_option maxRecDepth 65536 in
set_option maxHeartbeats 40000000 in
theorem rmpick (l : Launch) (Z : State) (a0 : Array Value) (hw : ∀ d ∈ tables_1, d.before a0 Z = true) (qT : Addr) (qF : Addr) (qN : Addr) (qL : Addr) (qM : Addr) (g : Int32) (h0 : Heap) (n0 : Nat) (hn0 : n0 ≤ h0.size) (S_TRUE : Sta Z Z.heap "com/example/apportion/apportion/policy/JsonValue$Kind" "TRUE" "Lcom/example/apportion/apportion/policy/JsonValue$Kind;" (.ref qT)) (S_FALSE : Sta Z Z.heap "com/example/apportion/apportion/policy/JsonValue$Kind" "FALSE" "Lcom/example/apportion/apportion/policy/JsonValue$Kind;" (.ref qF)) (S_NULL : Sta Z Z.heap "com/example/apportion/apportion/policy/JsonValue$Kind" "NULL" "Lcom/example/apportion/apportion/policy/JsonValue$Kind;" (.ref qN)) (S_EMPTY_LIST : Sta Z Z.heap "java/util/ImmutableCollections" "EMPTY_LIST" "Ljava/util/ImmutableCollections$ListN;" (.ref qL)) (S_EMPTY_MAP : Sta Z Z.heap "java/util/ImmutableCollections" "EMPTY_MAP" "Ljava/util/ImmutableCollections$MapN;" (.ref qM)) (O0 : Old Z n0 h0) :
    Con l Z (⟨"com/example/apportion/apportion/policy/JsonValueWordPinLaw", "pick", "(I)Lcom/example/apportion/apportion/policy/JsonValue$Kind;"⟩ : MethodName) method_2_code 2 (some (.object "com/example/apportion/apportion/policy/JsonValue$Kind")) [] ({ frames := 0, cells := 0, slots := 0, locals := 0 } : Room) #[(.int g)] h0 (fun v h L => v = some (.ref (own_pick qT qF qN ((g &&& (2147483647 : Int32)) % (3 : Int32)))) ∧ Fr n0 L ∧ h = h0) := by
  refine enter (Ls := #[.val (.int g), .unset]) (plainFor_of_name pn_0) (fun m => by first | rfl | (simp [entryFrame, mkF, argsToLocals, Value.category]; done)) ?_
  intro p e s m below meth c s₁ S0 hx hby hml hret hlk hnm hown hZ X0 e0 k0
  have N0 := Fr.nil n0
  have k1 : To p.tables e below S0 (s₁.setTop (mkF m 6 #[.val (.int g), .unset] [(.int ((g &&& (2147483647 : Int32)) % (3 : Int32)))])) := fun tt hq => k0 tt (by
    show Steps _ _ _ (s₁.setTop (mkF m 0 #[.val (.int g), .unset] [])) _
    refine XS.iloadN X0.here hx rfl (hb hby d_method_2_code_0) rfl ?_
    show Steps _ _ _ (s₁.setTop (mkF m 1 #[.val (.int g), .unset] [(.int g)])) _
    refine X0.ldcInt hx hown (mvT hZ (hw _ (List.mem_of_getElem? (i := 4) rfl))) (g := (mkF m 1 #[.val (.int g), .unset] [(.int g)])) rfl (hb hby d_method_2_code_1) _ ?_
    show Steps _ _ _ (s₁.setTop (mkF m 3 #[.val (.int g), .unset] [(.int (2147483647 : Int32)), (.int g)])) _
    refine XS.iand X0.here hx rfl (hb hby d_method_2_code_3) rfl ?_
    show Steps _ _ _ (s₁.setTop (mkF m 4 #[.val (.int g), .unset] [(.int (g &&& (2147483647 : Int32)))])) _
    refine XS.iconst X0.here hx rfl (hb hby d_method_2_code_4) ?_
    show Steps _ _ _ (s₁.setTop (mkF m 5 #[.val (.int g), .unset] [(.int (3 : Int32)), (.int (g &&& (2147483647 : Int32)))])) _
    refine iremM X0 hx rfl (hb hby d_method_2_code_5) rfl (by decide) ?_
    show Steps _ _ _ (s₁.setTop (mkF m 6 #[.val (.int g), .unset] [(.int ((g &&& (2147483647 : Int32)) % (3 : Int32)))])) _
    exact hq)
  obtain ⟨v2, hv2⟩ : ∃ z : Int32, z = ((g &&& (2147483647 : Int32)) % (3 : Int32)) := ⟨_, rfl⟩
  have k2 : To p.tables e below S0 (s₁.setTop (mkF m 6 #[.val (.int g), .unset] [(.int v2)])) := by rw [hv2]; exact k1
  have k3 : To p.tables e below S0 (s₁.setTop (mkF m 8 #[.val (.int g), .val (.int v2)] [(.int v2)])) := fun tt hq => k2 tt (by
    show Steps _ _ _ (s₁.setTop (mkF m 6 #[.val (.int g), .unset] [(.int v2)])) _
    refine XS.istoreN X0.here hx rfl (hb hby d_method_2_code_6) rfl (l' := #[.val (.int g), .val (.int v2)]) rfl ?_
    show Steps _ _ _ (s₁.setTop (mkF m 7 #[.val (.int g), .val (.int v2)] [])) _
    refine XS.iloadN X0.here hx rfl (hb hby d_method_2_code_7) rfl ?_
    show Steps _ _ _ (s₁.setTop (mkF m 8 #[.val (.int g), .val (.int v2)] [(.int v2)])) _
    exact hq)
  by_cases hc8_4 : v2 = (0 : Int32)
  · -- pc 8, holds
    have k5 : To p.tables e below S0 (s₁.setTop (mkF m 11 #[.val (.int g), .val (.int v2)] [])) := fun tt hq => k3 tt (by
      show Steps _ _ _ (s₁.setTop (mkF m 8 #[.val (.int g), .val (.int v2)] [(.int v2)])) _
      refine XS.ifNo X0.here hx rfl (hb hby d_method_2_code_8) rfl ((if0 _ _).trans (teq hc8_4).2) ?_
      show Steps _ _ _ (s₁.setTop (mkF m 11 #[.val (.int g), .val (.int v2)] [])) _
      exact hq)
    obtain ⟨T6, X6, e6, st6⟩ := getS2 X0 hx hZ hown (host := "") (Or.inl (hw _ (List.mem_of_getElem? (i := 5) rfl))) Via.refl e0 (staOld S_TRUE O0) (g := (mkF m 11 #[.val (.int g), .val (.int v2)] [])) rfl (hb hby d_method_2_code_11)
    have k6 : To p.tables e below S0 (T6.setTop (mkF m 14 #[.val (.int g), .val (.int v2)] [(.ref qT)])) := fun tt hq => k5 tt (st6 tt hq)
    have hE := e6
    refine retRef X6 hx hret hlk rfl rfl (hb hby d_method_2_code_14) k6 ?_ (by decide) (by decide)
    try rw [hE]
    rw [hv2] at hc8_4
    exact ⟨by unfold own_pick; rw [if_pos hc8_4], N0, rfl⟩
  · -- pc 8, holds not
    have k7 : To p.tables e below S0 (s₁.setTop (mkF m 17 #[.val (.int g), .val (.int v2)] [(.int (1 : Int32)), (.int v2)])) := fun tt hq => k3 tt (by
      show Steps _ _ _ (s₁.setTop (mkF m 8 #[.val (.int g), .val (.int v2)] [(.int v2)])) _
      refine XS.ifYes X0.here hx rfl (pc0 := 8) (pc' := 15) rfl (hb hby d_method_2_code_8) rfl ((if0 _ _).trans (feq hc8_4).2) (by decide) (by decide) ?_
      show Steps _ _ _ (s₁.setTop (mkF m 15 #[.val (.int g), .val (.int v2)] [])) _
      refine XS.iloadN X0.here hx rfl (hb hby d_method_2_code_15) rfl ?_
      show Steps _ _ _ (s₁.setTop (mkF m 16 #[.val (.int g), .val (.int v2)] [(.int v2)])) _
      refine XS.iconst X0.here hx rfl (hb hby d_method_2_code_16) ?_
      show Steps _ _ _ (s₁.setTop (mkF m 17 #[.val (.int g), .val (.int v2)] [(.int (1 : Int32)), (.int v2)])) _
      exact hq)
    by_cases hc17_8 : v2 = (1 : Int32)
    · -- pc 17, holds
      have k9 : To p.tables e below S0 (s₁.setTop (mkF m 20 #[.val (.int g), .val (.int v2)] [])) := fun tt hq => k7 tt (by
        show Steps _ _ _ (s₁.setTop (mkF m 17 #[.val (.int g), .val (.int v2)] [(.int (1 : Int32)), (.int v2)])) _
        refine XS.icmpNo X0.here hx rfl (hb hby d_method_2_code_17) rfl (teq hc17_8).2 ?_
        show Steps _ _ _ (s₁.setTop (mkF m 20 #[.val (.int g), .val (.int v2)] [])) _
        exact hq)
      obtain ⟨T10, X10, e10, st10⟩ := getS2 X0 hx hZ hown (host := "") (Or.inl (hw _ (List.mem_of_getElem? (i := 85) rfl))) Via.refl e0 (staOld S_FALSE O0) (g := (mkF m 20 #[.val (.int g), .val (.int v2)] [])) rfl (hb hby d_method_2_code_20)
      have k10 : To p.tables e below S0 (T10.setTop (mkF m 23 #[.val (.int g), .val (.int v2)] [(.ref qF)])) := fun tt hq => k9 tt (st10 tt hq)
      have hE := e10
      refine retRef X10 hx hret hlk rfl rfl (hb hby d_method_2_code_23) k10 ?_ (by decide) (by decide)
      try rw [hE]
      rw [hv2] at hc8_4 hc17_8
      exact ⟨by unfold own_pick; rw [if_neg hc8_4, if_pos hc17_8], N0, rfl⟩
    · -- pc 17, holds not
      have k11 : To p.tables e below S0 (s₁.setTop (mkF m 24 #[.val (.int g), .val (.int v2)] [])) := fun tt hq => k7 tt (by
        show Steps _ _ _ (s₁.setTop (mkF m 17 #[.val (.int g), .val (.int v2)] [(.int (1 : Int32)), (.int v2)])) _
        refine XS.icmpYes X0.here hx rfl (pc0 := 17) (pc' := 24) rfl (hb hby d_method_2_code_17) rfl (feq hc17_8).2 (by decide) (by decide) ?_
        show Steps _ _ _ (s₁.setTop (mkF m 24 #[.val (.int g), .val (.int v2)] [])) _
        exact hq)
      obtain ⟨T12, X12, e12, st12⟩ := getS2 X0 hx hZ hown (host := "") (Or.inl (hw _ (List.mem_of_getElem? (i := 83) rfl))) Via.refl e0 (staOld S_NULL O0) (g := (mkF m 24 #[.val (.int g), .val (.int v2)] [])) rfl (hb hby d_method_2_code_24)
      have k12 : To p.tables e below S0 (T12.setTop (mkF m 27 #[.val (.int g), .val (.int v2)] [(.ref qN)])) := fun tt hq => k11 tt (st12 tt hq)
      have hE := e12
      refine retRef X12 hx hret hlk rfl rfl (hb hby d_method_2_code_27) k12 ?_ (by decide) (by decide)
      try rw [hE]
      rw [hv2] at hc8_4 hc17_8
      exact ⟨by unfold own_pick; rw [if_neg hc8_4, if_neg hc17_8], N0, rfl⟩
theorem d_jdk_40_method_36_code_0 : decode jdk_40_method_36_code 0 = .ok (.getstatic 90, 3) := by decide +kernel
theorem d_jdk_40_method_36_code_3 : decode jdk_40_method_36_code 3 = .ok (.areturn, 1) := by decide +kernel
theorem pn_1 : plainName "java/util/List" = true := by first | (simp [plainName, overriddenIn]; done) | decide +kernel
set_option maxRecDepth 65536 in
set_option maxHeartbeats 40000000 in
theorem rmlist (l : Launch) (Z : State) (a0 : Array Value) (hw : ∀ d ∈ tables_1, d.before a0 Z = true) (qT : Addr) (qF : Addr) (qN : Addr) (qL : Addr) (qM : Addr) (h0 : Heap) (n0 : Nat) (hn0 : n0 ≤ h0.size) (S_TRUE : Sta Z Z.heap "com/example/apportion/apportion/policy/JsonValue$Kind" "TRUE" "Lcom/example/apportion/apportion/policy/JsonValue$Kind;" (.ref qT)) (S_FALSE : Sta Z Z.heap "com/example/apportion/apportion/policy/JsonValue$Kind" "FALSE" "Lcom/example/apportion/apportion/policy/JsonValue$Kind;" (.ref qF)) (S_NULL : Sta Z Z.heap "com/example/apportion/apportion/policy/JsonValue$Kind" "NULL" "Lcom/example/apportion/apportion/policy/JsonValue$Kind;" (.ref qN)) (S_EMPTY_LIST : Sta Z Z.heap "java/util/ImmutableCollections" "EMPTY_LIST" "Ljava/util/ImmutableCollections$ListN;" (.ref qL)) (S_EMPTY_MAP : Sta Z Z.heap "java/util/ImmutableCollections" "EMPTY_MAP" "Ljava/util/ImmutableCollections$MapN;" (.ref qM)) (O0 : Old Z n0 h0) :
    Con l Z (⟨"java/util/List", "of", "()Ljava/util/List;"⟩ : MethodName) jdk_40_method_36_code 0 (some (.object "java/util/List")) [] ({ frames := 0, cells := 0, slots := 0, locals := 0 } : Room) #[] h0 (fun v h L => v = some (.ref qL) ∧ Fr n0 L ∧ h = h0) := by
  refine enter (Ls := #[]) (plainFor_of_name pn_1) (fun m => by first | rfl | (simp [entryFrame, mkF, argsToLocals, Value.category]; done)) ?_
  intro p e s m below meth c s₁ S0 hx hby hml hret hlk hnm hown hZ X0 e0 k0
  have N0 := Fr.nil n0
  obtain ⟨T1, X1, e1, st1⟩ := getS2 X0 hx hZ hown (host := "") (Or.inl (hw _ (List.mem_of_getElem? (i := 18) rfl))) Via.refl e0 (staOld S_EMPTY_LIST O0) (g := (mkF m 0 #[] [])) rfl (hb hby d_jdk_40_method_36_code_0)
  have k1 : To p.tables e below S0 (T1.setTop (mkF m 3 #[] [(.ref qL)])) := fun tt hq => k0 tt (st1 tt hq)
  have hE := e1
  refine retRef X1 hx hret hlk rfl rfl (hb hby d_jdk_40_method_36_code_3) k1 ?_ (by decide) (by decide)
  try rw [hE]
  exact ⟨rfl, N0, rfl⟩
theorem d_jdk_72_method_26_code_0 : decode jdk_72_method_26_code 0 = .ok (.getstatic 81, 3) := by decide +kernel
theorem d_jdk_72_method_26_code_3 : decode jdk_72_method_26_code 3 = .ok (.areturn, 1) := by decide +kernel
theorem pn_2 : plainName "java/util/Map" = true := by first | (simp [plainName, overriddenIn]; done) | decide +kernel
set_option maxRecDepth 65536 in
set_option maxHeartbeats 40000000 in
theorem rmmap (l : Launch) (Z : State) (a0 : Array Value) (hw : ∀ d ∈ tables_1, d.before a0 Z = true) (qT : Addr) (qF : Addr) (qN : Addr) (qL : Addr) (qM : Addr) (h0 : Heap) (n0 : Nat) (hn0 : n0 ≤ h0.size) (S_TRUE : Sta Z Z.heap "com/example/apportion/apportion/policy/JsonValue$Kind" "TRUE" "Lcom/example/apportion/apportion/policy/JsonValue$Kind;" (.ref qT)) (S_FALSE : Sta Z Z.heap "com/example/apportion/apportion/policy/JsonValue$Kind" "FALSE" "Lcom/example/apportion/apportion/policy/JsonValue$Kind;" (.ref qF)) (S_NULL : Sta Z Z.heap "com/example/apportion/apportion/policy/JsonValue$Kind" "NULL" "Lcom/example/apportion/apportion/policy/JsonValue$Kind;" (.ref qN)) (S_EMPTY_LIST : Sta Z Z.heap "java/util/ImmutableCollections" "EMPTY_LIST" "Ljava/util/ImmutableCollections$ListN;" (.ref qL)) (S_EMPTY_MAP : Sta Z Z.heap "java/util/ImmutableCollections" "EMPTY_MAP" "Ljava/util/ImmutableCollections$MapN;" (.ref qM)) (O0 : Old Z n0 h0) :
    Con l Z (⟨"java/util/Map", "of", "()Ljava/util/Map;"⟩ : MethodName) jdk_72_method_26_code 0 (some (.object "java/util/Map")) [] ({ frames := 0, cells := 0, slots := 0, locals := 0 } : Room) #[] h0 (fun v h L => v = some (.ref qM) ∧ Fr n0 L ∧ h = h0) := by
  refine enter (Ls := #[]) (plainFor_of_name pn_2) (fun m => by first | rfl | (simp [entryFrame, mkF, argsToLocals, Value.category]; done)) ?_
  intro p e s m below meth c s₁ S0 hx hby hml hret hlk hnm hown hZ X0 e0 k0
  have N0 := Fr.nil n0
  obtain ⟨T1, X1, e1, st1⟩ := getS2 X0 hx hZ hown (host := "") (Or.inl (hw _ (List.mem_of_getElem? (i := 24) rfl))) Via.refl e0 (staOld S_EMPTY_MAP O0) (g := (mkF m 0 #[] [])) rfl (hb hby d_jdk_72_method_26_code_0)
  have k1 : To p.tables e below S0 (T1.setTop (mkF m 3 #[] [(.ref qM)])) := fun tt hq => k0 tt (st1 tt hq)
  have hE := e1
  refine retRef X1 hx hret hlk rfl rfl (hb hby d_jdk_72_method_26_code_3) k1 ?_ (by decide) (by decide)
  try rw [hE]
  exact ⟨rfl, N0, rfl⟩
theorem d_prog_62_method_1_code_0 : decode prog_62_method_1_code 0 = .ok (.aload_n 0, 1) := by decide +kernel
theorem d_prog_62_method_1_code_1 : decode prog_62_method_1_code 1 = .ok (.invokespecial 1, 3) := by decide +kernel
theorem d_prog_62_method_1_code_4 : decode prog_62_method_1_code 4 = .ok (.aload_n 0, 1) := by decide +kernel
theorem d_prog_62_method_1_code_5 : decode prog_62_method_1_code 5 = .ok (.aload_n 1, 1) := by decide +kernel
theorem d_prog_62_method_1_code_6 : decode prog_62_method_1_code 6 = .ok (.putfield 7, 3) := by decide +kernel
theorem d_prog_62_method_1_code_9 : decode prog_62_method_1_code 9 = .ok (.aload_n 0, 1) := by decide +kernel
theorem d_prog_62_method_1_code_10 : decode prog_62_method_1_code 10 = .ok (.aload_n 2, 1) := by decide +kernel
theorem d_prog_62_method_1_code_11 : decode prog_62_method_1_code 11 = .ok (.putfield 13, 3) := by decide +kernel
theorem d_prog_62_method_1_code_14 : decode prog_62_method_1_code 14 = .ok (.aload_n 0, 1) := by decide +kernel
theorem d_prog_62_method_1_code_15 : decode prog_62_method_1_code 15 = .ok (.aload_n 3, 1) := by decide +kernel
theorem d_prog_62_method_1_code_16 : decode prog_62_method_1_code 16 = .ok (.putfield 17, 3) := by decide +kernel
theorem d_prog_62_method_1_code_19 : decode prog_62_method_1_code 19 = .ok (.aload_n 0, 1) := by decide +kernel
theorem d_prog_62_method_1_code_20 : decode prog_62_method_1_code 20 = .ok (.aload 4, 2) := by decide +kernel
theorem d_prog_62_method_1_code_22 : decode prog_62_method_1_code 22 = .ok (.putfield 21, 3) := by decide +kernel
theorem d_prog_62_method_1_code_25 : decode prog_62_method_1_code 25 = .ok (.return_, 1) := by decide +kernel
theorem pn_3 : plainName "com/example/apportion/apportion/policy/JsonValue" = true := by first | (simp [plainName, overriddenIn]; done) | decide +kernel
set_option maxRecDepth 65536 in
set_option maxHeartbeats 40000000 in
theorem rminit (l : Launch) (Z : State) (a0 : Array Value) (hw : ∀ d ∈ tables_1, d.before a0 Z = true) (a : Addr) (k : Addr) (i : Addr) (q : Addr) (h0 : Heap) (n0 : Nat) (hn0 : n0 ≤ h0.size) (E0 : Exa Z h0 a "com/example/apportion/apportion/policy/JsonValue") (F_kind : Fld Z h0 a "com/example/apportion/apportion/policy/JsonValue" "kind" "Lcom/example/apportion/apportion/policy/JsonValue$Kind;" .null) (F_text : Fld Z h0 a "com/example/apportion/apportion/policy/JsonValue" "text" "Ljava/lang/String;" .null) (F_items : Fld Z h0 a "com/example/apportion/apportion/policy/JsonValue" "items" "Ljava/util/List;" .null) (F_members : Fld Z h0 a "com/example/apportion/apportion/policy/JsonValue" "members" "Ljava/util/Map;" .null) (ga : n0 ≤ a) :
    Con l Z (⟨"com/example/apportion/apportion/policy/JsonValue", "<init>", "(Lcom/example/apportion/apportion/policy/JsonValue$Kind;Ljava/lang/String;Ljava/util/List;Ljava/util/Map;)V"⟩ : MethodName) prog_62_method_1_code 5 none [] ({ frames := 1, cells := 0, slots := 0, locals := 12 } : Room) #[(.ref a), (.ref k), .null, (.ref i), (.ref q)] h0 (fun v h L => v = none ∧ Fr n0 L ∧ Keep h0 h [a] ∧ Exa Z h a "com/example/apportion/apportion/policy/JsonValue" ∧ Fld Z h a "com/example/apportion/apportion/policy/JsonValue" "kind" "Lcom/example/apportion/apportion/policy/JsonValue$Kind;" (.ref k) ∧ Fld Z h a "com/example/apportion/apportion/policy/JsonValue" "text" "Ljava/lang/String;" .null ∧ Fld Z h a "com/example/apportion/apportion/policy/JsonValue" "items" "Ljava/util/List;" (.ref i) ∧ Fld Z h a "com/example/apportion/apportion/policy/JsonValue" "members" "Ljava/util/Map;" (.ref q)) := by
  refine enter (Ls := #[.val (.ref a), .val (.ref k), .val .null, .val (.ref i), .val (.ref q)]) (plainFor_of_name pn_3) (fun m => by first | rfl | (simp [entryFrame, mkF, argsToLocals, Value.category]; done)) ?_
  intro p e s m below meth c s₁ S0 hx hby hml hret hlk hnm hown hZ X0 e0 k0
  have N0 := Fr.nil n0
  have k1 : To p.tables e below S0 (s₁.setTop (mkF m 1 #[.val (.ref a), .val (.ref k), .val .null, .val (.ref i), .val (.ref q)] [(.ref a)])) := fun tt hq => k0 tt (by
    show Steps _ _ _ (s₁.setTop (mkF m 0 #[.val (.ref a), .val (.ref k), .val .null, .val (.ref i), .val (.ref q)] [])) _
    refine XS.aloadN X0.here hx rfl (hb hby d_prog_62_method_1_code_0) rfl rfl ?_
    show Steps _ _ _ (s₁.setTop (mkF m 1 #[.val (.ref a), .val (.ref k), .val .null, .val (.ref i), .val (.ref q)] [(.ref a)])) _
    exact hq)
  obtain ⟨T2, X2, e2, st2⟩ := initO X0 hx hZ hown (hw _ (List.mem_of_getElem? (i := 28) rfl)) (hw _ (List.mem_of_getElem? (i := 29) rfl)) (hw _ (List.mem_of_getElem? (i := 30) rfl)) e0 (g := (mkF m 1 #[.val (.ref a), .val (.ref k), .val .null, .val (.ref i), .val (.ref q)] [(.ref a)])) rfl (by rw [hml]; rfl) rfl (hb hby d_prog_62_method_1_code_1) (by decide) (W := 0) (by show 2 * 0 + _ ≤ _; exact Nat.le_of_eq rfl) (by decide)
  have k2 : To p.tables e below S0 (T2.setTop (mkF m 4 #[.val (.ref a), .val (.ref k), .val .null, .val (.ref i), .val (.ref q)] [])) := fun tt hq => k1 tt (st2 tt hq)
  have k3 : To p.tables e below S0 (T2.setTop (mkF m 6 #[.val (.ref a), .val (.ref k), .val .null, .val (.ref i), .val (.ref q)] [(.ref k), (.ref a)])) := fun tt hq => k2 tt (by
    show Steps _ _ _ (T2.setTop (mkF m 4 #[.val (.ref a), .val (.ref k), .val .null, .val (.ref i), .val (.ref q)] [])) _
    refine XS.aloadN X2.here hx rfl (hb hby d_prog_62_method_1_code_4) rfl rfl ?_
    show Steps _ _ _ (T2.setTop (mkF m 5 #[.val (.ref a), .val (.ref k), .val .null, .val (.ref i), .val (.ref q)] [(.ref a)])) _
    refine XS.aloadN X2.here hx rfl (hb hby d_prog_62_method_1_code_5) rfl rfl ?_
    show Steps _ _ _ (T2.setTop (mkF m 6 #[.val (.ref a), .val (.ref k), .val .null, .val (.ref i), .val (.ref q)] [(.ref k), (.ref a)])) _
    exact hq)
  obtain ⟨T4, h4, X4, e4, W4, st4⟩ := putF X2 hx hZ hown (host := "") (Or.inl (hw _ (List.mem_of_getElem? (i := 31) rfl))) Via.refl e2 F_kind E0 (Or.inr ⟨(hw _ (List.mem_of_getElem? (i := 32) rfl)), rfl, hnm⟩) (hw _ (List.mem_of_getElem? (i := 13) rfl)) (ty := (.object "com/example/apportion/apportion/policy/JsonValue$Kind")) (by decide) rfl rfl (g := (mkF m 6 #[.val (.ref a), .val (.ref k), .val .null, .val (.ref i), .val (.ref q)] [(.ref k), (.ref a)])) rfl rfl (hb hby d_prog_62_method_1_code_6)
  have k4 : To p.tables e below S0 (T4.setTop (mkF m 9 #[.val (.ref a), .val (.ref k), .val .null, .val (.ref i), .val (.ref q)] [])) := fun tt hq => k3 tt (st4 tt hq)
  have z4 : h4.size = h0.size := W4.size
  have F4 := F_kind.same W4
  have N4 := Fr.snoc X4 N0 (by omega : n0 ≤ a)
  have f5 : Exa Z h4 a "com/example/apportion/apportion/policy/JsonValue" := (E0.wr W4)
  have f6 : Fld Z h4 a "com/example/apportion/apportion/policy/JsonValue" "text" "Ljava/lang/String;" .null := (F_text.other W4 (Or.inr (slot_ne (Or.inr (hw _ (List.mem_of_getElem? (i := 34) rfl))) (Or.inr (hw _ (List.mem_of_getElem? (i := 32) rfl))) (by decide) (t := (.object "java/lang/String")) (t' := (.object "com/example/apportion/apportion/policy/JsonValue$Kind")) (by decide) (by decide))))
  have k7 : To p.tables e below S0 (T4.setTop (mkF m 11 #[.val (.ref a), .val (.ref k), .val .null, .val (.ref i), .val (.ref q)] [.null, (.ref a)])) := fun tt hq => k4 tt (by
    show Steps _ _ _ (T4.setTop (mkF m 9 #[.val (.ref a), .val (.ref k), .val .null, .val (.ref i), .val (.ref q)] [])) _
    refine XS.aloadN X4.here hx rfl (hb hby d_prog_62_method_1_code_9) rfl rfl ?_
    show Steps _ _ _ (T4.setTop (mkF m 10 #[.val (.ref a), .val (.ref k), .val .null, .val (.ref i), .val (.ref q)] [(.ref a)])) _
    refine XS.aloadN X4.here hx rfl (hb hby d_prog_62_method_1_code_10) rfl rfl ?_
    show Steps _ _ _ (T4.setTop (mkF m 11 #[.val (.ref a), .val (.ref k), .val .null, .val (.ref i), .val (.ref q)] [.null, (.ref a)])) _
    exact hq)
  obtain ⟨T8, h8, X8, e8, W8, st8⟩ := putF X4 hx hZ hown (host := "") (Or.inl (hw _ (List.mem_of_getElem? (i := 33) rfl))) Via.refl e4 f6 f5 (Or.inr ⟨(hw _ (List.mem_of_getElem? (i := 34) rfl)), rfl, hnm⟩) (hw _ (List.mem_of_getElem? (i := 13) rfl)) (ty := (.object "java/lang/String")) (by decide) rfl rfl (g := (mkF m 11 #[.val (.ref a), .val (.ref k), .val .null, .val (.ref i), .val (.ref q)] [.null, (.ref a)])) rfl rfl (hb hby d_prog_62_method_1_code_11)
  have k8 : To p.tables e below S0 (T8.setTop (mkF m 14 #[.val (.ref a), .val (.ref k), .val .null, .val (.ref i), .val (.ref q)] [])) := fun tt hq => k7 tt (st8 tt hq)
  have z8 : h8.size = h4.size := W8.size
  have F8 := f6.same W8
  have N8 := Fr.snoc X8 N4 (by omega : n0 ≤ a)
  have f9 : Exa Z h8 a "com/example/apportion/apportion/policy/JsonValue" := (f5.wr W8)
  have f10 : Fld Z h8 a "com/example/apportion/apportion/policy/JsonValue" "items" "Ljava/util/List;" .null := ((F_items.other W4 (Or.inr (slot_ne (Or.inr (hw _ (List.mem_of_getElem? (i := 36) rfl))) (Or.inr (hw _ (List.mem_of_getElem? (i := 32) rfl))) (by decide) (t := (.object "java/util/List")) (t' := (.object "com/example/apportion/apportion/policy/JsonValue$Kind")) (by decide) (by decide)))).other W8 (Or.inr (slot_ne (Or.inr (hw _ (List.mem_of_getElem? (i := 36) rfl))) (Or.inr (hw _ (List.mem_of_getElem? (i := 34) rfl))) (by decide) (t := (.object "java/util/List")) (t' := (.object "java/lang/String")) (by decide) (by decide))))
  have k11 : To p.tables e below S0 (T8.setTop (mkF m 16 #[.val (.ref a), .val (.ref k), .val .null, .val (.ref i), .val (.ref q)] [(.ref i), (.ref a)])) := fun tt hq => k8 tt (by
    show Steps _ _ _ (T8.setTop (mkF m 14 #[.val (.ref a), .val (.ref k), .val .null, .val (.ref i), .val (.ref q)] [])) _
    refine XS.aloadN X8.here hx rfl (hb hby d_prog_62_method_1_code_14) rfl rfl ?_
    show Steps _ _ _ (T8.setTop (mkF m 15 #[.val (.ref a), .val (.ref k), .val .null, .val (.ref i), .val (.ref q)] [(.ref a)])) _
    refine XS.aloadN X8.here hx rfl (hb hby d_prog_62_method_1_code_15) rfl rfl ?_
    show Steps _ _ _ (T8.setTop (mkF m 16 #[.val (.ref a), .val (.ref k), .val .null, .val (.ref i), .val (.ref q)] [(.ref i), (.ref a)])) _
    exact hq)
  obtain ⟨T12, h12, X12, e12, W12, st12⟩ := putF X8 hx hZ hown (host := "") (Or.inl (hw _ (List.mem_of_getElem? (i := 35) rfl))) Via.refl e8 f10 f9 (Or.inr ⟨(hw _ (List.mem_of_getElem? (i := 36) rfl)), rfl, hnm⟩) (hw _ (List.mem_of_getElem? (i := 13) rfl)) (ty := (.object "java/util/List")) (by decide) rfl rfl (g := (mkF m 16 #[.val (.ref a), .val (.ref k), .val .null, .val (.ref i), .val (.ref q)] [(.ref i), (.ref a)])) rfl rfl (hb hby d_prog_62_method_1_code_16)
  have k12 : To p.tables e below S0 (T12.setTop (mkF m 19 #[.val (.ref a), .val (.ref k), .val .null, .val (.ref i), .val (.ref q)] [])) := fun tt hq => k11 tt (st12 tt hq)
  have z12 : h12.size = h8.size := W12.size
  have F12 := f10.same W12
  have N12 := Fr.snoc X12 N8 (by omega : n0 ≤ a)
  have f13 : Exa Z h12 a "com/example/apportion/apportion/policy/JsonValue" := (f9.wr W12)
  have f14 : Fld Z h12 a "com/example/apportion/apportion/policy/JsonValue" "members" "Ljava/util/Map;" .null := (((F_members.other W4 (Or.inr (slot_ne (Or.inr (hw _ (List.mem_of_getElem? (i := 38) rfl))) (Or.inr (hw _ (List.mem_of_getElem? (i := 32) rfl))) (by decide) (t := (.object "java/util/Map")) (t' := (.object "com/example/apportion/apportion/policy/JsonValue$Kind")) (by decide) (by decide)))).other W8 (Or.inr (slot_ne (Or.inr (hw _ (List.mem_of_getElem? (i := 38) rfl))) (Or.inr (hw _ (List.mem_of_getElem? (i := 34) rfl))) (by decide) (t := (.object "java/util/Map")) (t' := (.object "java/lang/String")) (by decide) (by decide)))).other W12 (Or.inr (slot_ne (Or.inr (hw _ (List.mem_of_getElem? (i := 38) rfl))) (Or.inr (hw _ (List.mem_of_getElem? (i := 36) rfl))) (by decide) (t := (.object "java/util/Map")) (t' := (.object "java/util/List")) (by decide) (by decide))))
  have k15 : To p.tables e below S0 (T12.setTop (mkF m 22 #[.val (.ref a), .val (.ref k), .val .null, .val (.ref i), .val (.ref q)] [(.ref q), (.ref a)])) := fun tt hq => k12 tt (by
    show Steps _ _ _ (T12.setTop (mkF m 19 #[.val (.ref a), .val (.ref k), .val .null, .val (.ref i), .val (.ref q)] [])) _
    refine XS.aloadN X12.here hx rfl (hb hby d_prog_62_method_1_code_19) rfl rfl ?_
    show Steps _ _ _ (T12.setTop (mkF m 20 #[.val (.ref a), .val (.ref k), .val .null, .val (.ref i), .val (.ref q)] [(.ref a)])) _
    refine XS.aload X12.here hx rfl (hb hby d_prog_62_method_1_code_20) rfl rfl ?_
    show Steps _ _ _ (T12.setTop (mkF m 22 #[.val (.ref a), .val (.ref k), .val .null, .val (.ref i), .val (.ref q)] [(.ref q), (.ref a)])) _
    exact hq)
  obtain ⟨T16, h16, X16, e16, W16, st16⟩ := putF X12 hx hZ hown (host := "") (Or.inl (hw _ (List.mem_of_getElem? (i := 37) rfl))) Via.refl e12 f14 f13 (Or.inr ⟨(hw _ (List.mem_of_getElem? (i := 38) rfl)), rfl, hnm⟩) (hw _ (List.mem_of_getElem? (i := 13) rfl)) (ty := (.object "java/util/Map")) (by decide) rfl rfl (g := (mkF m 22 #[.val (.ref a), .val (.ref k), .val .null, .val (.ref i), .val (.ref q)] [(.ref q), (.ref a)])) rfl rfl (hb hby d_prog_62_method_1_code_22)
  have k16 : To p.tables e below S0 (T16.setTop (mkF m 25 #[.val (.ref a), .val (.ref k), .val .null, .val (.ref i), .val (.ref q)] [])) := fun tt hq => k15 tt (st16 tt hq)
  have z16 : h16.size = h12.size := W16.size
  have F16 := f14.same W16
  have N16 := Fr.snoc X16 N12 (by omega : n0 ≤ a)
  have f17 : Exa Z h16 a "com/example/apportion/apportion/policy/JsonValue" := (f13.wr W16)
  have f18 : Fld Z h16 a "com/example/apportion/apportion/policy/JsonValue" "kind" "Lcom/example/apportion/apportion/policy/JsonValue$Kind;" (.ref k) := (((F4.other W8 (Or.inr (slot_ne (Or.inr (hw _ (List.mem_of_getElem? (i := 32) rfl))) (Or.inr (hw _ (List.mem_of_getElem? (i := 34) rfl))) (by decide) (t := (.object "com/example/apportion/apportion/policy/JsonValue$Kind")) (t' := (.object "java/lang/String")) (by decide) (by decide)))).other W12 (Or.inr (slot_ne (Or.inr (hw _ (List.mem_of_getElem? (i := 32) rfl))) (Or.inr (hw _ (List.mem_of_getElem? (i := 36) rfl))) (by decide) (t := (.object "com/example/apportion/apportion/policy/JsonValue$Kind")) (t' := (.object "java/util/List")) (by decide) (by decide)))).other W16 (Or.inr (slot_ne (Or.inr (hw _ (List.mem_of_getElem? (i := 32) rfl))) (Or.inr (hw _ (List.mem_of_getElem? (i := 38) rfl))) (by decide) (t := (.object "com/example/apportion/apportion/policy/JsonValue$Kind")) (t' := (.object "java/util/Map")) (by decide) (by decide))))
  have f19 : Fld Z h16 a "com/example/apportion/apportion/policy/JsonValue" "text" "Ljava/lang/String;" .null := ((F8.other W12 (Or.inr (slot_ne (Or.inr (hw _ (List.mem_of_getElem? (i := 34) rfl))) (Or.inr (hw _ (List.mem_of_getElem? (i := 36) rfl))) (by decide) (t := (.object "java/lang/String")) (t' := (.object "java/util/List")) (by decide) (by decide)))).other W16 (Or.inr (slot_ne (Or.inr (hw _ (List.mem_of_getElem? (i := 34) rfl))) (Or.inr (hw _ (List.mem_of_getElem? (i := 38) rfl))) (by decide) (t := (.object "java/lang/String")) (t' := (.object "java/util/Map")) (by decide) (by decide))))
  have f20 : Fld Z h16 a "com/example/apportion/apportion/policy/JsonValue" "items" "Ljava/util/List;" (.ref i) := (F12.other W16 (Or.inr (slot_ne (Or.inr (hw _ (List.mem_of_getElem? (i := 36) rfl))) (Or.inr (hw _ (List.mem_of_getElem? (i := 38) rfl))) (by decide) (t := (.object "java/util/List")) (t' := (.object "java/util/Map")) (by decide) (by decide))))
  have hE := e16
  refine retVoid X16 hx hret hlk (hb hby d_prog_62_method_1_code_25) k16 ?_ (by decide) (by decide)
  try rw [hE]
  exact ⟨rfl, N16, (((((Keep.refl h0 [a]).wr W4 (Or.inl (by simp))).wr W8 (Or.inl (by simp))).wr W12 (Or.inl (by simp))).wr W16 (Or.inl (by simp))), f17, f18, f19, f20, F16⟩
theorem d_prog_62_method_5_code_0 : decode prog_62_method_5_code 0 = .ok (.new 8, 3) := by decide +kernel
theorem d_prog_62_method_5_code_3 : decode prog_62_method_5_code 3 = .ok (.dup, 1) := by decide +kernel
theorem d_prog_62_method_5_code_4 : decode prog_62_method_5_code 4 = .ok (.aload_n 0, 1) := by decide +kernel
theorem d_prog_62_method_5_code_5 : decode prog_62_method_5_code 5 = .ok (.aconst_null, 1) := by decide +kernel
theorem d_prog_62_method_5_code_6 : decode prog_62_method_5_code 6 = .ok (.invokestatic 30, 3) := by decide +kernel
theorem d_prog_62_method_5_code_9 : decode prog_62_method_5_code 9 = .ok (.invokestatic 52, 3) := by decide +kernel
theorem d_prog_62_method_5_code_12 : decode prog_62_method_5_code 12 = .ok (.invokespecial 42, 3) := by decide +kernel
theorem d_prog_62_method_5_code_15 : decode prog_62_method_5_code 15 = .ok (.areturn, 1) := by decide +kernel
theorem pd_0 : parseMethodDescriptor "()Ljava/util/List;" = some ⟨[], some (.object "java/util/List")⟩ := by decide +kernel
theorem pd_1 : parseMethodDescriptor "()Ljava/util/Map;" = some ⟨[], some (.object "java/util/Map")⟩ := by decide +kernel
theorem pd_2 : parseMethodDescriptor "(Lcom/example/apportion/apportion/policy/JsonValue$Kind;Ljava/lang/String;Ljava/util/List;Ljava/util/Map;)V" = some ⟨[(.object "com/example/apportion/apportion/policy/JsonValue$Kind"), (.object "java/lang/String"), (.object "java/util/List"), (.object "java/util/Map")], none⟩ := by decide +kernel
set_option maxRecDepth 65536 in
set_option maxHeartbeats 40000000 in
theorem rmword (l : Launch) (Z : State) (a0 : Array Value) (hw : ∀ d ∈ tables_1, d.before a0 Z = true) (qT : Addr) (qF : Addr) (qN : Addr) (qL : Addr) (qM : Addr) (k : Addr) (h0 : Heap) (n0 : Nat) (hn0 : n0 ≤ h0.size) (S_TRUE : Sta Z Z.heap "com/example/apportion/apportion/policy/JsonValue$Kind" "TRUE" "Lcom/example/apportion/apportion/policy/JsonValue$Kind;" (.ref qT)) (S_FALSE : Sta Z Z.heap "com/example/apportion/apportion/policy/JsonValue$Kind" "FALSE" "Lcom/example/apportion/apportion/policy/JsonValue$Kind;" (.ref qF)) (S_NULL : Sta Z Z.heap "com/example/apportion/apportion/policy/JsonValue$Kind" "NULL" "Lcom/example/apportion/apportion/policy/JsonValue$Kind;" (.ref qN)) (S_EMPTY_LIST : Sta Z Z.heap "java/util/ImmutableCollections" "EMPTY_LIST" "Ljava/util/ImmutableCollections$ListN;" (.ref qL)) (S_EMPTY_MAP : Sta Z Z.heap "java/util/ImmutableCollections" "EMPTY_MAP" "Ljava/util/ImmutableCollections$MapN;" (.ref qM)) (O0 : Old Z n0 h0) :
    Con l Z (⟨"com/example/apportion/apportion/policy/JsonValue", "word", "(Lcom/example/apportion/apportion/policy/JsonValue$Kind;)Lcom/example/apportion/apportion/policy/JsonValue;"⟩ : MethodName) prog_62_method_5_code 1 (some (.object "com/example/apportion/apportion/policy/JsonValue")) [] ({ frames := 2, cells := 1, slots := 4, locals := 29 } : Room) #[(.ref k)] h0 (fun v h L => ∃ b, v = some (.ref b) ∧ Fr n0 L ∧ h0.size ≤ b ∧ Keep h0 h [] ∧ Exa Z h b "com/example/apportion/apportion/policy/JsonValue" ∧ Fld Z h b "com/example/apportion/apportion/policy/JsonValue" "kind" "Lcom/example/apportion/apportion/policy/JsonValue$Kind;" (.ref k) ∧ Fld Z h b "com/example/apportion/apportion/policy/JsonValue" "text" "Ljava/lang/String;" .null ∧ Fld Z h b "com/example/apportion/apportion/policy/JsonValue" "items" "Ljava/util/List;" (.ref qL) ∧ Fld Z h b "com/example/apportion/apportion/policy/JsonValue" "members" "Ljava/util/Map;" (.ref qM)) := by
  refine enter (Ls := #[.val (.ref k)]) (plainFor_of_name pn_3) (fun m => by first | rfl | (simp [entryFrame, mkF, argsToLocals, Value.category]; done)) ?_
  intro p e s m below meth c s₁ S0 hx hby hml hret hlk hnm hown hZ X0 e0 k0
  have N0 := Fr.nil n0
  obtain ⟨T1, h1, X1, e1, E1, A1, D1, -, st1⟩ := newO X0 hx hZ hown (hw _ (List.mem_of_getElem? (i := 12) rfl)) (hw _ (List.mem_of_getElem? (i := 13) rfl)) (hw _ (List.mem_of_getElem? (i := 10) rfl)) e0 (g := (mkF m 0 #[.val (.ref k)] [])) rfl (hb hby d_prog_62_method_5_code_0) (by decide) (by decide)
  obtain ⟨b1, g1⟩ : ∃ z, z = h0.size := ⟨_, rfl⟩
  rw [← g1] at A1 D1 st1
  have k1 : To p.tables e below S0 (T1.setTop (mkF m 3 #[.val (.ref k)] [(.ref b1)])) := fun tt hq => k0 tt (st1 tt hq)
  have z1 : h0.size ≤ h1.size := E1.1
  have y1 : b1 < h1.size := A1.lt
  have F1_kind : Fld Z h1 b1 "com/example/apportion/apportion/policy/JsonValue" "kind" "Lcom/example/apportion/apportion/policy/JsonValue$Kind;" .null := D1 (Or.inr (hw _ (List.mem_of_getElem? (i := 32) rfl))) (ty := (.object "com/example/apportion/apportion/policy/JsonValue$Kind")) (by decide)
  have F1_text : Fld Z h1 b1 "com/example/apportion/apportion/policy/JsonValue" "text" "Ljava/lang/String;" .null := D1 (Or.inr (hw _ (List.mem_of_getElem? (i := 34) rfl))) (ty := (.object "java/lang/String")) (by decide)
  have F1_items : Fld Z h1 b1 "com/example/apportion/apportion/policy/JsonValue" "items" "Ljava/util/List;" .null := D1 (Or.inr (hw _ (List.mem_of_getElem? (i := 36) rfl))) (ty := (.object "java/util/List")) (by decide)
  have F1_members : Fld Z h1 b1 "com/example/apportion/apportion/policy/JsonValue" "members" "Ljava/util/Map;" .null := D1 (Or.inr (hw _ (List.mem_of_getElem? (i := 38) rfl))) (ty := (.object "java/util/Map")) (by decide)
  have k2 : To p.tables e below S0 (T1.setTop (mkF m 6 #[.val (.ref k)] [.null, (.ref k), (.ref b1), (.ref b1)])) := fun tt hq => k1 tt (by
    show Steps _ _ _ (T1.setTop (mkF m 3 #[.val (.ref k)] [(.ref b1)])) _
    refine XS.dup X1.here hx rfl (hb hby d_prog_62_method_5_code_3) rfl rfl ?_
    show Steps _ _ _ (T1.setTop (mkF m 4 #[.val (.ref k)] [(.ref b1), (.ref b1)])) _
    refine XS.aloadN X1.here hx rfl (hb hby d_prog_62_method_5_code_4) rfl rfl ?_
    show Steps _ _ _ (T1.setTop (mkF m 5 #[.val (.ref k)] [(.ref k), (.ref b1), (.ref b1)])) _
    refine XS.aconstNull X1.here hx rfl (hb hby d_prog_62_method_5_code_5) ?_
    show Steps _ _ _ (T1.setTop (mkF m 6 #[.val (.ref k)] [.null, (.ref k), (.ref b1), (.ref b1)])) _
    exact hq)
  have f3 : Old Z n0 h1 := (O0.ext E1)
  obtain ⟨_, T4, L4, X4, ⟨rfl, Nq4, eq4⟩, k4a⟩ := callS' X1 hx hZ (y := (⟨"java/util/List", "of", "()Ljava/util/List;"⟩ : MethodName)) hown (hw _ (List.mem_of_getElem? (i := 14) rfl)) (hw _ (List.mem_of_getElem? (i := 15) rfl)) (hw _ (List.mem_of_getElem? (i := 16) rfl)) (hw _ (List.mem_of_getElem? (i := 17) rfl)) (by decide) (backC (W := 4) (rmlist l Z a0 hw qT qF qN qL qM h1 n0 (by omega) S_TRUE S_FALSE S_NULL S_EMPTY_LIST S_EMPTY_MAP f3) hZ (hw _ (List.mem_of_getElem? (i := 17) rfl)) (hw _ (List.mem_of_getElem? (i := 16) rfl)) (by decide) (by decide)) e1 (argsL := []) (rest := [.null, (.ref k), (.ref b1), (.ref b1)]) rfl rfl pd_0 rfl (by rw [hml]; rfl) (hb hby d_prog_62_method_5_code_6) (Nat.le_of_eq rfl) (by decide) (by decide) k2
  have k4 : To p.tables e below S0 (T4.setTop (mkF m 9 #[.val (.ref k)] [(.ref qL), .null, (.ref k), (.ref b1), (.ref b1)])) := k4a
  have N4 := N0.app Nq4
  have e4 : T4.heap = h1 := eq4
  obtain ⟨_, T5, L5, X5, ⟨rfl, Nq5, eq5⟩, k5a⟩ := callS' X4 hx hZ (y := (⟨"java/util/Map", "of", "()Ljava/util/Map;"⟩ : MethodName)) hown (hw _ (List.mem_of_getElem? (i := 20) rfl)) (hw _ (List.mem_of_getElem? (i := 21) rfl)) (hw _ (List.mem_of_getElem? (i := 22) rfl)) (hw _ (List.mem_of_getElem? (i := 23) rfl)) (by decide) (backC (W := 5) (rmmap l Z a0 hw qT qF qN qL qM h1 n0 (by omega) S_TRUE S_FALSE S_NULL S_EMPTY_LIST S_EMPTY_MAP f3) hZ (hw _ (List.mem_of_getElem? (i := 23) rfl)) (hw _ (List.mem_of_getElem? (i := 22) rfl)) (by decide) (by decide)) e4 (argsL := []) (rest := [(.ref qL), .null, (.ref k), (.ref b1), (.ref b1)]) rfl rfl pd_1 rfl (by rw [hml]; rfl) (hb hby d_prog_62_method_5_code_9) (Nat.le_of_eq rfl) (by decide) (by decide) k4
  have k5 : To p.tables e below S0 (T5.setTop (mkF m 12 #[.val (.ref k)] [(.ref qM), (.ref qL), .null, (.ref k), (.ref b1), (.ref b1)])) := k5a
  have N5 := N4.app Nq5
  have e5 : T5.heap = h1 := eq5
  obtain ⟨_, T6, L6, X6, ⟨rfl, Nq6, Kq6, A6, G6_0, G6_1, G6_2, G6_3⟩, k6a⟩ := callC' X5 hx hZ (y := (⟨"com/example/apportion/apportion/policy/JsonValue", "<init>", "(Lcom/example/apportion/apportion/policy/JsonValue$Kind;Ljava/lang/String;Ljava/util/List;Ljava/util/Map;)V"⟩ : MethodName)) rfl hown (hw _ (List.mem_of_getElem? (i := 25) rfl)) (hw _ (List.mem_of_getElem? (i := 26) rfl)) (hw _ (List.mem_of_getElem? (i := 27) rfl)) (by decide) (backC (W := 1) (rminit l Z a0 hw b1 k qL qM h1 n0 (by omega) A1 F1_kind F1_text F1_items F1_members (by omega)) hZ (hw _ (List.mem_of_getElem? (i := 27) rfl)) (hw _ (List.mem_of_getElem? (i := 10) rfl)) (by decide) (by decide)) e5 (argsL := [(.ref k), .null, (.ref qL), (.ref qM)]) (rest := [(.ref b1)]) rfl rfl pd_2 rfl (by rw [hml]; rfl) (hb hby d_prog_62_method_5_code_12) (Nat.le_of_eq rfl) (by decide) (by decide) k5
  have k6 : To p.tables e below S0 (T6.setTop (mkF m 15 #[.val (.ref k)] [(.ref b1)])) := k6a
  have N6 := N5.app Nq6
  obtain ⟨h6, e6⟩ : ∃ z, T6.heap = z := ⟨_, rfl⟩
  rw [e6] at Kq6 A6 G6_0 G6_1 G6_2 G6_3
  have z6 : h1.size ≤ h6.size := Kq6.1
  have hE := e6
  refine retRef X6 hx hret hlk rfl rfl (hb hby d_prog_62_method_5_code_15) k6 ?_ (by decide) (by decide)
  try rw [hE]
  exact ⟨b1, rfl, N6, (by omega), (((Keep.refl h0 []).ext E1).trans Kq6 (allS (Or.inr (by omega)) all0)), A6, G6_0, G6_1, G6_2, G6_3⟩
theorem d_prog_62_method_6_code_0 : decode prog_62_method_6_code 0 = .ok (.aload_n 0, 1) := by decide +kernel
theorem d_prog_62_method_6_code_1 : decode prog_62_method_6_code 1 = .ok (.getfield 7, 3) := by decide +kernel
theorem d_prog_62_method_6_code_4 : decode prog_62_method_6_code 4 = .ok (.areturn, 1) := by decide +kernel
set_option maxRecDepth 65536 in
set_option maxHeartbeats 40000000 in
theorem rmgetkind (l : Launch) (Z : State) (a0 : Array Value) (hw : ∀ d ∈ tables_1, d.before a0 Z = true) (a : Addr) (u : Value) (h0 : Heap) (n0 : Nat) (hn0 : n0 ≤ h0.size) (F0 : Fld Z h0 a "com/example/apportion/apportion/policy/JsonValue" "kind" "Lcom/example/apportion/apportion/policy/JsonValue$Kind;" u) (hu : u.isRef = true) :
    Con l Z (⟨"com/example/apportion/apportion/policy/JsonValue", "getKind", "()Lcom/example/apportion/apportion/policy/JsonValue$Kind;"⟩ : MethodName) prog_62_method_6_code 1 (some (.object "com/example/apportion/apportion/policy/JsonValue$Kind")) [] ({ frames := 0, cells := 0, slots := 0, locals := 0 } : Room) #[(.ref a)] h0 (fun v h L => v = some u ∧ Fr n0 L ∧ h = h0) := by
  refine enter (Ls := #[.val (.ref a)]) (plainFor_of_name pn_3) (fun m => by first | rfl | (simp [entryFrame, mkF, argsToLocals, Value.category]; done)) ?_
  intro p e s m below meth c s₁ S0 hx hby hml hret hlk hnm hown hZ X0 e0 k0
  have N0 := Fr.nil n0
  have k1 : To p.tables e below S0 (s₁.setTop (mkF m 1 #[.val (.ref a)] [(.ref a)])) := fun tt hq => k0 tt (by
    show Steps _ _ _ (s₁.setTop (mkF m 0 #[.val (.ref a)] [])) _
    refine XS.aloadN X0.here hx rfl (hb hby d_prog_62_method_6_code_0) rfl rfl ?_
    show Steps _ _ _ (s₁.setTop (mkF m 1 #[.val (.ref a)] [(.ref a)])) _
    exact hq)
  obtain ⟨T2, X2, e2, st2⟩ := getF X0 hx hZ hown (host := "") (Or.inl (hw _ (List.mem_of_getElem? (i := 31) rfl))) Via.refl e0 F0 (g := (mkF m 1 #[.val (.ref a)] [(.ref a)])) rfl rfl (hb hby d_prog_62_method_6_code_1)
  have k2 : To p.tables e below S0 (T2.setTop (mkF m 4 #[.val (.ref a)] [u])) := fun tt hq => k1 tt (st2 tt hq)
  have hE := e2
  refine retRef X2 hx hret hlk rfl hu (hb hby d_prog_62_method_6_code_4) k2 ?_ (by decide) (by decide)
  try rw [hE]
  exact ⟨rfl, N0, rfl⟩
theorem d_prog_62_method_7_code_0 : decode prog_62_method_7_code 0 = .ok (.aload_n 0, 1) := by decide +kernel
theorem d_prog_62_method_7_code_1 : decode prog_62_method_7_code 1 = .ok (.getfield 13, 3) := by decide +kernel
theorem d_prog_62_method_7_code_4 : decode prog_62_method_7_code 4 = .ok (.areturn, 1) := by decide +kernel
set_option maxRecDepth 65536 in
set_option maxHeartbeats 40000000 in
theorem rmgettext (l : Launch) (Z : State) (a0 : Array Value) (hw : ∀ d ∈ tables_1, d.before a0 Z = true) (a : Addr) (u : Value) (h0 : Heap) (n0 : Nat) (hn0 : n0 ≤ h0.size) (F0 : Fld Z h0 a "com/example/apportion/apportion/policy/JsonValue" "text" "Ljava/lang/String;" u) (hu : u.isRef = true) :
    Con l Z (⟨"com/example/apportion/apportion/policy/JsonValue", "getText", "()Ljava/lang/String;"⟩ : MethodName) prog_62_method_7_code 1 (some (.object "java/lang/String")) [] ({ frames := 0, cells := 0, slots := 0, locals := 0 } : Room) #[(.ref a)] h0 (fun v h L => v = some u ∧ Fr n0 L ∧ h = h0) := by
  refine enter (Ls := #[.val (.ref a)]) (plainFor_of_name pn_3) (fun m => by first | rfl | (simp [entryFrame, mkF, argsToLocals, Value.category]; done)) ?_
  intro p e s m below meth c s₁ S0 hx hby hml hret hlk hnm hown hZ X0 e0 k0
  have N0 := Fr.nil n0
  have k1 : To p.tables e below S0 (s₁.setTop (mkF m 1 #[.val (.ref a)] [(.ref a)])) := fun tt hq => k0 tt (by
    show Steps _ _ _ (s₁.setTop (mkF m 0 #[.val (.ref a)] [])) _
    refine XS.aloadN X0.here hx rfl (hb hby d_prog_62_method_7_code_0) rfl rfl ?_
    show Steps _ _ _ (s₁.setTop (mkF m 1 #[.val (.ref a)] [(.ref a)])) _
    exact hq)
  obtain ⟨T2, X2, e2, st2⟩ := getF X0 hx hZ hown (host := "") (Or.inl (hw _ (List.mem_of_getElem? (i := 33) rfl))) Via.refl e0 F0 (g := (mkF m 1 #[.val (.ref a)] [(.ref a)])) rfl rfl (hb hby d_prog_62_method_7_code_1)
  have k2 : To p.tables e below S0 (T2.setTop (mkF m 4 #[.val (.ref a)] [u])) := fun tt hq => k1 tt (st2 tt hq)
  have hE := e2
  refine retRef X2 hx hret hlk rfl hu (hb hby d_prog_62_method_7_code_4) k2 ?_ (by decide) (by decide)
  try rw [hE]
  exact ⟨rfl, N0, rfl⟩
theorem d_prog_62_method_8_code_0 : decode prog_62_method_8_code 0 = .ok (.aload_n 0, 1) := by decide +kernel
theorem d_prog_62_method_8_code_1 : decode prog_62_method_8_code 1 = .ok (.getfield 17, 3) := by decide +kernel
theorem d_prog_62_method_8_code_4 : decode prog_62_method_8_code 4 = .ok (.areturn, 1) := by decide +kernel
set_option maxRecDepth 65536 in
set_option maxHeartbeats 40000000 in
theorem rmgetitems (l : Launch) (Z : State) (a0 : Array Value) (hw : ∀ d ∈ tables_1, d.before a0 Z = true) (a : Addr) (u : Value) (h0 : Heap) (n0 : Nat) (hn0 : n0 ≤ h0.size) (F0 : Fld Z h0 a "com/example/apportion/apportion/policy/JsonValue" "items" "Ljava/util/List;" u) (hu : u.isRef = true) :
    Con l Z (⟨"com/example/apportion/apportion/policy/JsonValue", "getItems", "()Ljava/util/List;"⟩ : MethodName) prog_62_method_8_code 1 (some (.object "java/util/List")) [] ({ frames := 0, cells := 0, slots := 0, locals := 0 } : Room) #[(.ref a)] h0 (fun v h L => v = some u ∧ Fr n0 L ∧ h = h0) := by
  refine enter (Ls := #[.val (.ref a)]) (plainFor_of_name pn_3) (fun m => by first | rfl | (simp [entryFrame, mkF, argsToLocals, Value.category]; done)) ?_
  intro p e s m below meth c s₁ S0 hx hby hml hret hlk hnm hown hZ X0 e0 k0
  have N0 := Fr.nil n0
  have k1 : To p.tables e below S0 (s₁.setTop (mkF m 1 #[.val (.ref a)] [(.ref a)])) := fun tt hq => k0 tt (by
    show Steps _ _ _ (s₁.setTop (mkF m 0 #[.val (.ref a)] [])) _
    refine XS.aloadN X0.here hx rfl (hb hby d_prog_62_method_8_code_0) rfl rfl ?_
    show Steps _ _ _ (s₁.setTop (mkF m 1 #[.val (.ref a)] [(.ref a)])) _
    exact hq)
  obtain ⟨T2, X2, e2, st2⟩ := getF X0 hx hZ hown (host := "") (Or.inl (hw _ (List.mem_of_getElem? (i := 35) rfl))) Via.refl e0 F0 (g := (mkF m 1 #[.val (.ref a)] [(.ref a)])) rfl rfl (hb hby d_prog_62_method_8_code_1)
  have k2 : To p.tables e below S0 (T2.setTop (mkF m 4 #[.val (.ref a)] [u])) := fun tt hq => k1 tt (st2 tt hq)
  have hE := e2
  refine retRef X2 hx hret hlk rfl hu (hb hby d_prog_62_method_8_code_4) k2 ?_ (by decide) (by decide)
  try rw [hE]
  exact ⟨rfl, N0, rfl⟩
theorem d_prog_62_method_9_code_0 : decode prog_62_method_9_code 0 = .ok (.aload_n 0, 1) := by decide +kernel
theorem d_prog_62_method_9_code_1 : decode prog_62_method_9_code 1 = .ok (.getfield 21, 3) := by decide +kernel
theorem d_prog_62_method_9_code_4 : decode prog_62_method_9_code 4 = .ok (.areturn, 1) := by decide +kernel
set_option maxRecDepth 65536 in
set_option maxHeartbeats 40000000 in
theorem rmgetmembers (l : Launch) (Z : State) (a0 : Array Value) (hw : ∀ d ∈ tables_1, d.before a0 Z = true) (a : Addr) (u : Value) (h0 : Heap) (n0 : Nat) (hn0 : n0 ≤ h0.size) (F0 : Fld Z h0 a "com/example/apportion/apportion/policy/JsonValue" "members" "Ljava/util/Map;" u) (hu : u.isRef = true) :
    Con l Z (⟨"com/example/apportion/apportion/policy/JsonValue", "getMembers", "()Ljava/util/Map;"⟩ : MethodName) prog_62_method_9_code 1 (some (.object "java/util/Map")) [] ({ frames := 0, cells := 0, slots := 0, locals := 0 } : Room) #[(.ref a)] h0 (fun v h L => v = some u ∧ Fr n0 L ∧ h = h0) := by
  refine enter (Ls := #[.val (.ref a)]) (plainFor_of_name pn_3) (fun m => by first | rfl | (simp [entryFrame, mkF, argsToLocals, Value.category]; done)) ?_
  intro p e s m below meth c s₁ S0 hx hby hml hret hlk hnm hown hZ X0 e0 k0
  have N0 := Fr.nil n0
  have k1 : To p.tables e below S0 (s₁.setTop (mkF m 1 #[.val (.ref a)] [(.ref a)])) := fun tt hq => k0 tt (by
    show Steps _ _ _ (s₁.setTop (mkF m 0 #[.val (.ref a)] [])) _
    refine XS.aloadN X0.here hx rfl (hb hby d_prog_62_method_9_code_0) rfl rfl ?_
    show Steps _ _ _ (s₁.setTop (mkF m 1 #[.val (.ref a)] [(.ref a)])) _
    exact hq)
  obtain ⟨T2, X2, e2, st2⟩ := getF X0 hx hZ hown (host := "") (Or.inl (hw _ (List.mem_of_getElem? (i := 37) rfl))) Via.refl e0 F0 (g := (mkF m 1 #[.val (.ref a)] [(.ref a)])) rfl rfl (hb hby d_prog_62_method_9_code_1)
  have k2 : To p.tables e below S0 (T2.setTop (mkF m 4 #[.val (.ref a)] [u])) := fun tt hq => k1 tt (st2 tt hq)
  have hE := e2
  refine retRef X2 hx hret hlk rfl hu (hb hby d_prog_62_method_9_code_4) k2 ?_ (by decide) (by decide)
  try rw [hE]
  exact ⟨rfl, N0, rfl⟩
theorem d_jdk_45_method_3_code_0 : decode jdk_45_method_3_code 0 = .ok (.aload_n 0, 1) := by decide +kernel
theorem d_jdk_45_method_3_code_1 : decode jdk_45_method_3_code 1 = .ok (.getfield 7, 3) := by decide +kernel
theorem d_jdk_45_method_3_code_4 : decode jdk_45_method_3_code 4 = .ok (.arraylength, 1) := by decide +kernel
theorem d_jdk_45_method_3_code_5 : decode jdk_45_method_3_code 5 = .ok (.ireturn, 1) := by decide +kernel
theorem pn_4 : plainName "java/util/ImmutableCollections$ListN" = true := by first | (simp [plainName, overriddenIn]; done) | decide +kernel
set_option maxRecDepth 65536 in
set_option maxHeartbeats 40000000 in
theorem rmls (l : Launch) (Z : State) (a0 : Array Value) (hw : ∀ d ∈ tables_1, d.before a0 Z = true) (a : Addr) (b : Addr) (kc : ClassId) (h0 : Heap) (n0 : Nat) (hn0 : n0 ≤ h0.size) (F0 : Fld Z h0 a "java/util/ImmutableCollections$ListN" "elements" "[Ljava/lang/Object;" (.ref b)) (V0 : Arv Z h0 b kc (.object "java/lang/Object") (0 : Int32) [] .null) :
    Con l Z (⟨"java/util/ImmutableCollections$ListN", "size", "()I"⟩ : MethodName) jdk_45_method_3_code 1 (some .int) [] ({ frames := 0, cells := 0, slots := 0, locals := 0 } : Room) #[(.ref a)] h0 (fun v h L => v = some (.int (0 : Int32)) ∧ Fr n0 L ∧ h = h0) := by
  refine enter (Ls := #[.val (.ref a)]) (plainFor_of_name pn_4) (fun m => by first | rfl | (simp [entryFrame, mkF, argsToLocals, Value.category]; done)) ?_
  intro p e s m below meth c s₁ S0 hx hby hml hret hlk hnm hown hZ X0 e0 k0
  have N0 := Fr.nil n0
  have k1 : To p.tables e below S0 (s₁.setTop (mkF m 1 #[.val (.ref a)] [(.ref a)])) := fun tt hq => k0 tt (by
    show Steps _ _ _ (s₁.setTop (mkF m 0 #[.val (.ref a)] [])) _
    refine XS.aloadN X0.here hx rfl (hb hby d_jdk_45_method_3_code_0) rfl rfl ?_
    show Steps _ _ _ (s₁.setTop (mkF m 1 #[.val (.ref a)] [(.ref a)])) _
    exact hq)
  obtain ⟨T2, X2, e2, st2⟩ := getF X0 hx hZ hown (host := "") (Or.inl (hw _ (List.mem_of_getElem? (i := 64) rfl))) Via.refl e0 F0 (g := (mkF m 1 #[.val (.ref a)] [(.ref a)])) rfl rfl (hb hby d_jdk_45_method_3_code_1)
  have k2 : To p.tables e below S0 (T2.setTop (mkF m 4 #[.val (.ref a)] [(.ref b)])) := fun tt hq => k1 tt (st2 tt hq)
  obtain ⟨cl3, Ar3, -, S3, M3, -, -⟩ := V0
  have st3 := fun t => X2.arraylength hx (by rw [e2]; exact Ar3.1) (State.isArrayOf_alike hZ.alike Ar3.2.1) (g := (mkF m 4 #[.val (.ref a)] [(.ref b)])) rfl rfl (hb hby d_jdk_45_method_3_code_4) t
  rw [len_of S3 M3] at st3
  have k3 : To p.tables e below S0 (T2.setTop (mkF m 5 #[.val (.ref a)] [(.int (0 : Int32))])) := fun tt hq => k2 tt (st3 tt hq)
  have hE := e2
  refine retInt X2 hx hret hlk (by simp) rfl (hb hby d_jdk_45_method_3_code_5) k3 ?_ (by decide) (by decide)
  try rw [hE]
  exact ⟨rfl, N0, rfl⟩
theorem d_jdk_2605_method_6_code_0 : decode jdk_2605_method_6_code 0 = .ok (.aload_n 0, 1) := by decide +kernel
theorem d_jdk_2605_method_6_code_1 : decode jdk_2605_method_6_code 1 = .ok (.getfield 16, 3) := by decide +kernel
theorem d_jdk_2605_method_6_code_4 : decode jdk_2605_method_6_code 4 = .ok (.ireturn, 1) := by decide +kernel
theorem pn_5 : plainName "java/util/ImmutableCollections$MapN" = true := by first | (simp [plainName, overriddenIn]; done) | decide +kernel
set_option maxRecDepth 65536 in
set_option maxHeartbeats 40000000 in
theorem rmms (l : Launch) (Z : State) (a0 : Array Value) (hw : ∀ d ∈ tables_1, d.before a0 Z = true) (a : Addr) (h0 : Heap) (n0 : Nat) (hn0 : n0 ≤ h0.size) (F0 : Fld Z h0 a "java/util/ImmutableCollections$MapN" "size" "I" (.int (0 : Int32))) :
    Con l Z (⟨"java/util/ImmutableCollections$MapN", "size", "()I"⟩ : MethodName) jdk_2605_method_6_code 1 (some .int) [] ({ frames := 0, cells := 0, slots := 0, locals := 0 } : Room) #[(.ref a)] h0 (fun v h L => v = some (.int (0 : Int32)) ∧ Fr n0 L ∧ h = h0) := by
  refine enter (Ls := #[.val (.ref a)]) (plainFor_of_name pn_5) (fun m => by first | rfl | (simp [entryFrame, mkF, argsToLocals, Value.category]; done)) ?_
  intro p e s m below meth c s₁ S0 hx hby hml hret hlk hnm hown hZ X0 e0 k0
  have N0 := Fr.nil n0
  have k1 : To p.tables e below S0 (s₁.setTop (mkF m 1 #[.val (.ref a)] [(.ref a)])) := fun tt hq => k0 tt (by
    show Steps _ _ _ (s₁.setTop (mkF m 0 #[.val (.ref a)] [])) _
    refine XS.aloadN X0.here hx rfl (hb hby d_jdk_2605_method_6_code_0) rfl rfl ?_
    show Steps _ _ _ (s₁.setTop (mkF m 1 #[.val (.ref a)] [(.ref a)])) _
    exact hq)
  obtain ⟨T2, X2, e2, st2⟩ := getF X0 hx hZ hown (host := "") (Or.inl (hw _ (List.mem_of_getElem? (i := 81) rfl))) Via.refl e0 F0 (g := (mkF m 1 #[.val (.ref a)] [(.ref a)])) rfl rfl (hb hby d_jdk_2605_method_6_code_1)
  have k2 : To p.tables e below S0 (T2.setTop (mkF m 4 #[.val (.ref a)] [(.int (0 : Int32))])) := fun tt hq => k1 tt (st2 tt hq)
  have hE := e2
  refine retInt X2 hx hret hlk (by simp) rfl (hb hby d_jdk_2605_method_6_code_4) k2 ?_ (by decide) (by decide)
  try rw [hE]
  exact ⟨rfl, N0, rfl⟩
theorem pd_3 : parseMethodDescriptor "(I)Lcom/example/apportion/apportion/policy/JsonValue$Kind;" = some ⟨[.int], some (.object "com/example/apportion/apportion/policy/JsonValue$Kind")⟩ := by decide +kernel
theorem pd_4 : parseMethodDescriptor "(Lcom/example/apportion/apportion/policy/JsonValue$Kind;)Lcom/example/apportion/apportion/policy/JsonValue;" = some ⟨[(.object "com/example/apportion/apportion/policy/JsonValue$Kind")], some (.object "com/example/apportion/apportion/policy/JsonValue")⟩ := by decide +kernel
theorem pd_5 : parseMethodDescriptor "()Lcom/example/apportion/apportion/policy/JsonValue$Kind;" = some ⟨[], some (.object "com/example/apportion/apportion/policy/JsonValue$Kind")⟩ := by decide +kernel
theorem pd_6 : parseMethodDescriptor "()Ljava/lang/String;" = some ⟨[], some (.object "java/lang/String")⟩ := by decide +kernel
theorem pd_7 : parseMethodDescriptor "()I" = some ⟨[], some .int⟩ := by decide +kernel
set_option maxRecDepth 65536 in
set_option maxHeartbeats 40000000 in
theorem rm0 (l : Launch) (Z : State) (a0 : Array Value) (hw : ∀ d ∈ tables_1, d.before a0 Z = true) (qT : Addr) (qF : Addr) (qN : Addr) (qL : Addr) (qM : Addr) (bL : Addr) (kL : ClassId) (p0 : Int32) (h0 : Heap) (n0 : Nat) (hn0 : n0 ≤ h0.size) (S_TRUE : Sta Z Z.heap "com/example/apportion/apportion/policy/JsonValue$Kind" "TRUE" "Lcom/example/apportion/apportion/policy/JsonValue$Kind;" (.ref qT)) (S_FALSE : Sta Z Z.heap "com/example/apportion/apportion/policy/JsonValue$Kind" "FALSE" "Lcom/example/apportion/apportion/policy/JsonValue$Kind;" (.ref qF)) (S_NULL : Sta Z Z.heap "com/example/apportion/apportion/policy/JsonValue$Kind" "NULL" "Lcom/example/apportion/apportion/policy/JsonValue$Kind;" (.ref qN)) (S_EMPTY_LIST : Sta Z Z.heap "java/util/ImmutableCollections" "EMPTY_LIST" "Ljava/util/ImmutableCollections$ListN;" (.ref qL)) (S_EMPTY_MAP : Sta Z Z.heap "java/util/ImmutableCollections" "EMPTY_MAP" "Ljava/util/ImmutableCollections$MapN;" (.ref qM)) (AL : Exa Z Z.heap qL "java/util/ImmutableCollections$ListN") (AM : Exa Z Z.heap qM "java/util/ImmutableCollections$MapN") (FL : Fld Z Z.heap qL "java/util/ImmutableCollections$ListN" "elements" "[Ljava/lang/Object;" (.ref bL)) (FV : Arv Z Z.heap bL kL (.object "java/lang/Object") (0 : Int32) [] .null) (FM : Fld Z Z.heap qM "java/util/ImmutableCollections$MapN" "size" "I" (.int (0 : Int32))) (O0 : Old Z n0 h0) :
    Con l Z x code maxLocals ret tables_1 room_1 #[(.int p0)] h0 (fun v h L => v = some (.int 1) ∧ Fr n0 L) := by
  refine enter (Ls := #[.val (.int p0), .unset, .unset]) (plainFor_of_name pn_0) (fun m => by first | rfl | (simp [entryFrame, mkF, argsToLocals, Value.category, maxLocals]; done)) ?_
  intro p e s m below meth c s₁ S0 hx hby hml hret hlk hnm hown hZ X0 e0 k0
  have N0 := Fr.nil n0
  have k1 : To p.tables e below S0 (s₁.setTop (mkF m 1 #[.val (.int p0), .unset, .unset] [(.int p0)])) := fun tt hq => k0 tt (by
    show Steps _ _ _ (s₁.setTop (mkF m 0 #[.val (.int p0), .unset, .unset] [])) _
    refine XS.iloadN X0.here hx rfl (hb hby at_0) rfl ?_
    show Steps _ _ _ (s₁.setTop (mkF m 1 #[.val (.int p0), .unset, .unset] [(.int p0)])) _
    exact hq)
  obtain ⟨_, T2, L2, X2, ⟨rfl, Nq2, eq2⟩, k2a⟩ := callS' X0 hx hZ (y := (⟨"com/example/apportion/apportion/policy/JsonValueWordPinLaw", "pick", "(I)Lcom/example/apportion/apportion/policy/JsonValue$Kind;"⟩ : MethodName)) hown (hw _ (List.mem_of_getElem? (i := 0) rfl)) (hw _ (List.mem_of_getElem? (i := 1) rfl)) (hw _ (List.mem_of_getElem? (i := 2) rfl)) (hw _ (List.mem_of_getElem? (i := 3) rfl)) (by decide) (backC (W := 0) (rmpick l Z a0 hw qT qF qN qL qM p0 h0 n0 (by omega) S_TRUE S_FALSE S_NULL S_EMPTY_LIST S_EMPTY_MAP O0) hZ (hw _ (List.mem_of_getElem? (i := 3) rfl)) (hw _ (List.mem_of_getElem? (i := 2) rfl)) (by decide) (by decide)) e0 (argsL := [(.int p0)]) (rest := []) rfl rfl pd_3 rfl (by rw [hml]; rfl) (hb hby at_1) (Nat.le_of_eq rfl) (by decide) (by decide) k1
  have k2 : To p.tables e below S0 (T2.setTop (mkF m 4 #[.val (.int p0), .unset, .unset] [(.ref (own_pick qT qF qN ((p0 &&& (2147483647 : Int32)) % (3 : Int32))))])) := k2a
  have N2 := N0.app Nq2
  have e2 : T2.heap = h0 := eq2
  have k3 : To p.tables e below S0 (T2.setTop (mkF m 6 #[.val (.int p0), .val (.ref (own_pick qT qF qN ((p0 &&& (2147483647 : Int32)) % (3 : Int32)))), .unset] [(.ref (own_pick qT qF qN ((p0 &&& (2147483647 : Int32)) % (3 : Int32))))])) := fun tt hq => k2 tt (by
    show Steps _ _ _ (T2.setTop (mkF m 4 #[.val (.int p0), .unset, .unset] [(.ref (own_pick qT qF qN ((p0 &&& (2147483647 : Int32)) % (3 : Int32))))])) _
    refine XS.astoreN X2.here hx rfl (hb hby at_4) rfl rfl (l' := #[.val (.int p0), .val (.ref (own_pick qT qF qN ((p0 &&& (2147483647 : Int32)) % (3 : Int32)))), .unset]) rfl ?_
    show Steps _ _ _ (T2.setTop (mkF m 5 #[.val (.int p0), .val (.ref (own_pick qT qF qN ((p0 &&& (2147483647 : Int32)) % (3 : Int32)))), .unset] [])) _
    refine XS.aloadN X2.here hx rfl (hb hby at_5) rfl rfl ?_
    show Steps _ _ _ (T2.setTop (mkF m 6 #[.val (.int p0), .val (.ref (own_pick qT qF qN ((p0 &&& (2147483647 : Int32)) % (3 : Int32)))), .unset] [(.ref (own_pick qT qF qN ((p0 &&& (2147483647 : Int32)) % (3 : Int32))))])) _
    exact hq)
  obtain ⟨_, T4, L4, X4, ⟨bw, rfl, Nq4, gw, Kq4, A4, G4_0, G4_1, G4_2, G4_3⟩, k4a⟩ := callS' X2 hx hZ (y := (⟨"com/example/apportion/apportion/policy/JsonValue", "word", "(Lcom/example/apportion/apportion/policy/JsonValue$Kind;)Lcom/example/apportion/apportion/policy/JsonValue;"⟩ : MethodName)) hown (hw _ (List.mem_of_getElem? (i := 8) rfl)) (hw _ (List.mem_of_getElem? (i := 9) rfl)) (hw _ (List.mem_of_getElem? (i := 10) rfl)) (hw _ (List.mem_of_getElem? (i := 11) rfl)) (by decide) (backC (W := 0) (rmword l Z a0 hw qT qF qN qL qM (own_pick qT qF qN ((p0 &&& (2147483647 : Int32)) % (3 : Int32))) h0 n0 (by omega) S_TRUE S_FALSE S_NULL S_EMPTY_LIST S_EMPTY_MAP O0) hZ (hw _ (List.mem_of_getElem? (i := 11) rfl)) (hw _ (List.mem_of_getElem? (i := 10) rfl)) (by decide) (by decide)) e2 (argsL := [(.ref (own_pick qT qF qN ((p0 &&& (2147483647 : Int32)) % (3 : Int32))))]) (rest := []) rfl rfl pd_4 rfl (by rw [hml]; rfl) (hb hby at_6) (Nat.le_of_eq rfl) (by decide) (by decide) k3
  have k4 : To p.tables e below S0 (T4.setTop (mkF m 9 #[.val (.int p0), .val (.ref (own_pick qT qF qN ((p0 &&& (2147483647 : Int32)) % (3 : Int32)))), .unset] [(.ref bw)])) := k4a
  have N4 := N2.app Nq4
  obtain ⟨h4, e4⟩ : ∃ z, T4.heap = z := ⟨_, rfl⟩
  rw [e4] at Kq4 A4 G4_0 G4_1 G4_2 G4_3
  have z4 : h0.size ≤ h4.size := Kq4.1
  have k5 : To p.tables e below S0 (T4.setTop (mkF m 17 #[.val (.int p0), .val (.ref (own_pick qT qF qN ((p0 &&& (2147483647 : Int32)) % (3 : Int32)))), .val (.ref bw)] [(.ref bw)])) := fun tt hq => k4 tt (by
    show Steps _ _ _ (T4.setTop (mkF m 9 #[.val (.int p0), .val (.ref (own_pick qT qF qN ((p0 &&& (2147483647 : Int32)) % (3 : Int32)))), .unset] [(.ref bw)])) _
    refine XS.astoreN X4.here hx rfl (hb hby at_9) rfl rfl (l' := #[.val (.int p0), .val (.ref (own_pick qT qF qN ((p0 &&& (2147483647 : Int32)) % (3 : Int32)))), .val (.ref bw)]) rfl ?_
    show Steps _ _ _ (T4.setTop (mkF m 10 #[.val (.int p0), .val (.ref (own_pick qT qF qN ((p0 &&& (2147483647 : Int32)) % (3 : Int32)))), .val (.ref bw)] [])) _
    refine XS.aloadN X4.here hx rfl (hb hby at_10) rfl rfl ?_
    show Steps _ _ _ (T4.setTop (mkF m 11 #[.val (.int p0), .val (.ref (own_pick qT qF qN ((p0 &&& (2147483647 : Int32)) % (3 : Int32)))), .val (.ref bw)] [(.ref bw)])) _
    refine XS.ifnonnullYes X4.here hx rfl (pc0 := 11) (pc' := 16) rfl (hb hby at_11) rfl (by decide) (by decide) ?_
    show Steps _ _ _ (T4.setTop (mkF m 16 #[.val (.int p0), .val (.ref (own_pick qT qF qN ((p0 &&& (2147483647 : Int32)) % (3 : Int32)))), .val (.ref bw)] [])) _
    refine XS.aloadN X4.here hx rfl (hb hby at_16) rfl rfl ?_
    show Steps _ _ _ (T4.setTop (mkF m 17 #[.val (.int p0), .val (.ref (own_pick qT qF qN ((p0 &&& (2147483647 : Int32)) % (3 : Int32)))), .val (.ref bw)] [(.ref bw)])) _
    exact hq)
  obtain ⟨_, T6, L6, X6, ⟨rfl, Nq6, eq6⟩, k6a⟩ := callV' X4 hx hZ (y := (⟨"com/example/apportion/apportion/policy/JsonValue", "getKind", "()Lcom/example/apportion/apportion/policy/JsonValue$Kind;"⟩ : MethodName)) (z := (⟨"com/example/apportion/apportion/policy/JsonValue", "getKind", "()Lcom/example/apportion/apportion/policy/JsonValue$Kind;"⟩ : MethodName)) hown (hw _ (List.mem_of_getElem? (i := 39) rfl)) (hw _ (List.mem_of_getElem? (i := 40) rfl)) (notFace_of_selects (args := #[]) (mvT hZ (hw _ (List.mem_of_getElem? (i := 42) rfl)))) (hw _ (List.mem_of_getElem? (i := 42) rfl)) (hw _ (List.mem_of_getElem? (i := 41) rfl)) (by decide) A4 (backC (W := 0) (rmgetkind l Z a0 hw bw (.ref (own_pick qT qF qN ((p0 &&& (2147483647 : Int32)) % (3 : Int32)))) h4 n0 (by omega) G4_0 rfl) hZ (hw _ (List.mem_of_getElem? (i := 43) rfl)) (hw _ (List.mem_of_getElem? (i := 10) rfl)) (by decide) (by decide)) e4 (argsL := []) (rest := []) rfl rfl pd_5 rfl (by rw [hml]; rfl) (hb hby at_17) (Nat.le_of_eq rfl) (by decide) (by decide) k5
  have k6 : To p.tables e below S0 (T6.setTop (mkF m 20 #[.val (.int p0), .val (.ref (own_pick qT qF qN ((p0 &&& (2147483647 : Int32)) % (3 : Int32)))), .val (.ref bw)] [(.ref (own_pick qT qF qN ((p0 &&& (2147483647 : Int32)) % (3 : Int32))))])) := k6a
  have N6 := N4.app Nq6
  have e6 : T6.heap = h4 := eq6
  have k7 : To p.tables e below S0 (T6.setTop (mkF m 27 #[.val (.int p0), .val (.ref (own_pick qT qF qN ((p0 &&& (2147483647 : Int32)) % (3 : Int32)))), .val (.ref bw)] [(.ref bw)])) := fun tt hq => k6 tt (by
    show Steps _ _ _ (T6.setTop (mkF m 20 #[.val (.int p0), .val (.ref (own_pick qT qF qN ((p0 &&& (2147483647 : Int32)) % (3 : Int32)))), .val (.ref bw)] [(.ref (own_pick qT qF qN ((p0 &&& (2147483647 : Int32)) % (3 : Int32))))])) _
    refine XS.aloadN X6.here hx rfl (hb hby at_20) rfl rfl ?_
    show Steps _ _ _ (T6.setTop (mkF m 21 #[.val (.int p0), .val (.ref (own_pick qT qF qN ((p0 &&& (2147483647 : Int32)) % (3 : Int32)))), .val (.ref bw)] [(.ref (own_pick qT qF qN ((p0 &&& (2147483647 : Int32)) % (3 : Int32)))), (.ref (own_pick qT qF qN ((p0 &&& (2147483647 : Int32)) % (3 : Int32))))])) _
    refine Jvm.RoadKit.acmp (g := (mkF m 21 #[.val (.int p0), .val (.ref (own_pick qT qF qN ((p0 &&& (2147483647 : Int32)) % (3 : Int32)))), .val (.ref bw)] [(.ref (own_pick qT qF qN ((p0 &&& (2147483647 : Int32)) % (3 : Int32)))), (.ref (own_pick qT qF qN ((p0 &&& (2147483647 : Int32)) % (3 : Int32))))])) X6 hx rfl rfl rfl (pc0 := 21) (pc' := 26) (same := true) rfl (hb hby at_21) rfl (decide_eq_true rfl) (by decide) (by decide) ?_
    show Steps _ _ _ (T6.setTop (mkF m 26 #[.val (.int p0), .val (.ref (own_pick qT qF qN ((p0 &&& (2147483647 : Int32)) % (3 : Int32)))), .val (.ref bw)] [])) _
    refine XS.aloadN X6.here hx rfl (hb hby at_26) rfl rfl ?_
    show Steps _ _ _ (T6.setTop (mkF m 27 #[.val (.int p0), .val (.ref (own_pick qT qF qN ((p0 &&& (2147483647 : Int32)) % (3 : Int32)))), .val (.ref bw)] [(.ref bw)])) _
    exact hq)
  obtain ⟨_, T8, L8, X8, ⟨rfl, Nq8, eq8⟩, k8a⟩ := callV' X6 hx hZ (y := (⟨"com/example/apportion/apportion/policy/JsonValue", "getText", "()Ljava/lang/String;"⟩ : MethodName)) (z := (⟨"com/example/apportion/apportion/policy/JsonValue", "getText", "()Ljava/lang/String;"⟩ : MethodName)) hown (hw _ (List.mem_of_getElem? (i := 44) rfl)) (hw _ (List.mem_of_getElem? (i := 45) rfl)) (notFace_of_selects (args := #[]) (mvT hZ (hw _ (List.mem_of_getElem? (i := 47) rfl)))) (hw _ (List.mem_of_getElem? (i := 47) rfl)) (hw _ (List.mem_of_getElem? (i := 46) rfl)) (by decide) A4 (backC (W := 0) (rmgettext l Z a0 hw bw .null h4 n0 (by omega) G4_1 rfl) hZ (hw _ (List.mem_of_getElem? (i := 48) rfl)) (hw _ (List.mem_of_getElem? (i := 10) rfl)) (by decide) (by decide)) e6 (argsL := []) (rest := []) rfl rfl pd_6 rfl (by rw [hml]; rfl) (hb hby at_27) (Nat.le_of_eq rfl) (by decide) (by decide) k7
  have k8 : To p.tables e below S0 (T8.setTop (mkF m 30 #[.val (.int p0), .val (.ref (own_pick qT qF qN ((p0 &&& (2147483647 : Int32)) % (3 : Int32)))), .val (.ref bw)] [.null])) := k8a
  have N8 := N6.app Nq8
  have e8 : T8.heap = h4 := eq8
  have k9 : To p.tables e below S0 (T8.setTop (mkF m 36 #[.val (.int p0), .val (.ref (own_pick qT qF qN ((p0 &&& (2147483647 : Int32)) % (3 : Int32)))), .val (.ref bw)] [(.ref bw)])) := fun tt hq => k8 tt (by
    show Steps _ _ _ (T8.setTop (mkF m 30 #[.val (.int p0), .val (.ref (own_pick qT qF qN ((p0 &&& (2147483647 : Int32)) % (3 : Int32)))), .val (.ref bw)] [.null])) _
    refine XS.ifnullYes X8.here hx rfl (pc0 := 30) (pc' := 35) rfl (hb hby at_30) rfl (by decide) (by decide) ?_
    show Steps _ _ _ (T8.setTop (mkF m 35 #[.val (.int p0), .val (.ref (own_pick qT qF qN ((p0 &&& (2147483647 : Int32)) % (3 : Int32)))), .val (.ref bw)] [])) _
    refine XS.aloadN X8.here hx rfl (hb hby at_35) rfl rfl ?_
    show Steps _ _ _ (T8.setTop (mkF m 36 #[.val (.int p0), .val (.ref (own_pick qT qF qN ((p0 &&& (2147483647 : Int32)) % (3 : Int32)))), .val (.ref bw)] [(.ref bw)])) _
    exact hq)
  obtain ⟨_, T10, L10, X10, ⟨rfl, Nq10, eq10⟩, k10a⟩ := callV' X8 hx hZ (y := (⟨"com/example/apportion/apportion/policy/JsonValue", "getItems", "()Ljava/util/List;"⟩ : MethodName)) (z := (⟨"com/example/apportion/apportion/policy/JsonValue", "getItems", "()Ljava/util/List;"⟩ : MethodName)) hown (hw _ (List.mem_of_getElem? (i := 49) rfl)) (hw _ (List.mem_of_getElem? (i := 50) rfl)) (notFace_of_selects (args := #[]) (mvT hZ (hw _ (List.mem_of_getElem? (i := 52) rfl)))) (hw _ (List.mem_of_getElem? (i := 52) rfl)) (hw _ (List.mem_of_getElem? (i := 51) rfl)) (by decide) A4 (backC (W := 0) (rmgetitems l Z a0 hw bw (.ref qL) h4 n0 (by omega) G4_2 rfl) hZ (hw _ (List.mem_of_getElem? (i := 53) rfl)) (hw _ (List.mem_of_getElem? (i := 10) rfl)) (by decide) (by decide)) e8 (argsL := []) (rest := []) rfl rfl pd_0 rfl (by rw [hml]; rfl) (hb hby at_36) (Nat.le_of_eq rfl) (by decide) (by decide) k9
  have k10 : To p.tables e below S0 (T10.setTop (mkF m 39 #[.val (.int p0), .val (.ref (own_pick qT qF qN ((p0 &&& (2147483647 : Int32)) % (3 : Int32)))), .val (.ref bw)] [(.ref qL)])) := k10a
  have N10 := N8.app Nq10
  have e10 : T10.heap = h4 := eq10
  have k11 : To p.tables e below S0 (T10.setTop (mkF m 43 #[.val (.int p0), .val (.ref (own_pick qT qF qN ((p0 &&& (2147483647 : Int32)) % (3 : Int32)))), .val (.ref bw)] [(.ref bw)])) := fun tt hq => k10 tt (by
    show Steps _ _ _ (T10.setTop (mkF m 39 #[.val (.int p0), .val (.ref (own_pick qT qF qN ((p0 &&& (2147483647 : Int32)) % (3 : Int32)))), .val (.ref bw)] [(.ref qL)])) _
    refine XS.ifnullNo X10.here hx rfl (hb hby at_39) rfl ?_
    show Steps _ _ _ (T10.setTop (mkF m 42 #[.val (.int p0), .val (.ref (own_pick qT qF qN ((p0 &&& (2147483647 : Int32)) % (3 : Int32)))), .val (.ref bw)] [])) _
    refine XS.aloadN X10.here hx rfl (hb hby at_42) rfl rfl ?_
    show Steps _ _ _ (T10.setTop (mkF m 43 #[.val (.int p0), .val (.ref (own_pick qT qF qN ((p0 &&& (2147483647 : Int32)) % (3 : Int32)))), .val (.ref bw)] [(.ref bw)])) _
    exact hq)
  obtain ⟨_, T12, L12, X12, ⟨rfl, Nq12, eq12⟩, k12a⟩ := callV' X10 hx hZ (y := (⟨"com/example/apportion/apportion/policy/JsonValue", "getItems", "()Ljava/util/List;"⟩ : MethodName)) (z := (⟨"com/example/apportion/apportion/policy/JsonValue", "getItems", "()Ljava/util/List;"⟩ : MethodName)) hown (hw _ (List.mem_of_getElem? (i := 49) rfl)) (hw _ (List.mem_of_getElem? (i := 50) rfl)) (notFace_of_selects (args := #[]) (mvT hZ (hw _ (List.mem_of_getElem? (i := 52) rfl)))) (hw _ (List.mem_of_getElem? (i := 52) rfl)) (hw _ (List.mem_of_getElem? (i := 51) rfl)) (by decide) A4 (backC (W := 0) (rmgetitems l Z a0 hw bw (.ref qL) h4 n0 (by omega) G4_2 rfl) hZ (hw _ (List.mem_of_getElem? (i := 53) rfl)) (hw _ (List.mem_of_getElem? (i := 10) rfl)) (by decide) (by decide)) e10 (argsL := []) (rest := []) rfl rfl pd_0 rfl (by rw [hml]; rfl) (hb hby at_43) (Nat.le_of_eq rfl) (by decide) (by decide) k11
  have k12 : To p.tables e below S0 (T12.setTop (mkF m 46 #[.val (.int p0), .val (.ref (own_pick qT qF qN ((p0 &&& (2147483647 : Int32)) % (3 : Int32)))), .val (.ref bw)] [(.ref qL)])) := k12a
  have N12 := N10.app Nq12
  have e12 : T12.heap = h4 := eq12
  have f13 : Old Z n0 h4 := (O0.keep Kq4 all0)
  have f15 : Exa Z h4 qL "java/util/ImmutableCollections$ListN" := ((exaOld AL O0).keep Kq4)
  obtain ⟨_, T14, L14, X14, ⟨rfl, Nq14, eq14⟩, k14a⟩ := callI' X12 hx hZ (y := (⟨"java/util/List", "size", "()I"⟩ : MethodName)) (z := (⟨"java/util/ImmutableCollections$ListN", "size", "()I"⟩ : MethodName)) hown (hw _ (List.mem_of_getElem? (i := 54) rfl)) (hw _ (List.mem_of_getElem? (i := 55) rfl)) (hw _ (List.mem_of_getElem? (i := 56) rfl)) (by first | rfl | simp [Cond.onTables, Cond.keepsFace, Cond.keeps, Cond.steady]) (hw _ (List.mem_of_getElem? (i := 57) rfl)) (hw _ (List.mem_of_getElem? (i := 58) rfl)) (hw _ (List.mem_of_getElem? (i := 59) rfl)) (hw _ (List.mem_of_getElem? (i := 60) rfl)) (hw _ (List.mem_of_getElem? (i := 61) rfl)) (by decide) f15 (backC (W := 0) (rmls l Z a0 hw qL bL kL h4 n0 (by omega) (fldOld FL f13) (FV.ext f13.2)) hZ (hw _ (List.mem_of_getElem? (i := 63) rfl)) (hw _ (List.mem_of_getElem? (i := 62) rfl)) (by decide) (by decide)) e12 (argsL := []) (rest := []) rfl rfl pd_7 rfl (by rw [hml]; rfl) (hb hby at_46) (Nat.le_of_eq rfl) (by decide) (by decide) k12
  have k14 : To p.tables e below S0 (T14.setTop (mkF m 51 #[.val (.int p0), .val (.ref (own_pick qT qF qN ((p0 &&& (2147483647 : Int32)) % (3 : Int32)))), .val (.ref bw)] [(.int (0 : Int32))])) := k14a
  have N14 := N12.app Nq14
  have e14 : T14.heap = h4 := eq14
  have k16 : To p.tables e below S0 (T14.setTop (mkF m 57 #[.val (.int p0), .val (.ref (own_pick qT qF qN ((p0 &&& (2147483647 : Int32)) % (3 : Int32)))), .val (.ref bw)] [(.ref bw)])) := fun tt hq => k14 tt (by
    show Steps _ _ _ (T14.setTop (mkF m 51 #[.val (.int p0), .val (.ref (own_pick qT qF qN ((p0 &&& (2147483647 : Int32)) % (3 : Int32)))), .val (.ref bw)] [(.int (0 : Int32))])) _
    refine XS.ifYes X14.here hx rfl (pc0 := 51) (pc' := 56) rfl (hb hby at_51) rfl ((if0 _ _).trans (teq (by decide)).1) (by decide) (by decide) ?_
    show Steps _ _ _ (T14.setTop (mkF m 56 #[.val (.int p0), .val (.ref (own_pick qT qF qN ((p0 &&& (2147483647 : Int32)) % (3 : Int32)))), .val (.ref bw)] [])) _
    refine XS.aloadN X14.here hx rfl (hb hby at_56) rfl rfl ?_
    show Steps _ _ _ (T14.setTop (mkF m 57 #[.val (.int p0), .val (.ref (own_pick qT qF qN ((p0 &&& (2147483647 : Int32)) % (3 : Int32)))), .val (.ref bw)] [(.ref bw)])) _
    exact hq)
  obtain ⟨_, T17, L17, X17, ⟨rfl, Nq17, eq17⟩, k17a⟩ := callV' X14 hx hZ (y := (⟨"com/example/apportion/apportion/policy/JsonValue", "getMembers", "()Ljava/util/Map;"⟩ : MethodName)) (z := (⟨"com/example/apportion/apportion/policy/JsonValue", "getMembers", "()Ljava/util/Map;"⟩ : MethodName)) hown (hw _ (List.mem_of_getElem? (i := 66) rfl)) (hw _ (List.mem_of_getElem? (i := 67) rfl)) (notFace_of_selects (args := #[]) (mvT hZ (hw _ (List.mem_of_getElem? (i := 69) rfl)))) (hw _ (List.mem_of_getElem? (i := 69) rfl)) (hw _ (List.mem_of_getElem? (i := 68) rfl)) (by decide) A4 (backC (W := 0) (rmgetmembers l Z a0 hw bw (.ref qM) h4 n0 (by omega) G4_3 rfl) hZ (hw _ (List.mem_of_getElem? (i := 70) rfl)) (hw _ (List.mem_of_getElem? (i := 10) rfl)) (by decide) (by decide)) e14 (argsL := []) (rest := []) rfl rfl pd_1 rfl (by rw [hml]; rfl) (hb hby at_57) (Nat.le_of_eq rfl) (by decide) (by decide) k16
  have k17 : To p.tables e below S0 (T17.setTop (mkF m 60 #[.val (.int p0), .val (.ref (own_pick qT qF qN ((p0 &&& (2147483647 : Int32)) % (3 : Int32)))), .val (.ref bw)] [(.ref qM)])) := k17a
  have N17 := N14.app Nq17
  have e17 : T17.heap = h4 := eq17
  have k18 : To p.tables e below S0 (T17.setTop (mkF m 64 #[.val (.int p0), .val (.ref (own_pick qT qF qN ((p0 &&& (2147483647 : Int32)) % (3 : Int32)))), .val (.ref bw)] [(.ref bw)])) := fun tt hq => k17 tt (by
    show Steps _ _ _ (T17.setTop (mkF m 60 #[.val (.int p0), .val (.ref (own_pick qT qF qN ((p0 &&& (2147483647 : Int32)) % (3 : Int32)))), .val (.ref bw)] [(.ref qM)])) _
    refine XS.ifnullNo X17.here hx rfl (hb hby at_60) rfl ?_
    show Steps _ _ _ (T17.setTop (mkF m 63 #[.val (.int p0), .val (.ref (own_pick qT qF qN ((p0 &&& (2147483647 : Int32)) % (3 : Int32)))), .val (.ref bw)] [])) _
    refine XS.aloadN X17.here hx rfl (hb hby at_63) rfl rfl ?_
    show Steps _ _ _ (T17.setTop (mkF m 64 #[.val (.int p0), .val (.ref (own_pick qT qF qN ((p0 &&& (2147483647 : Int32)) % (3 : Int32)))), .val (.ref bw)] [(.ref bw)])) _
    exact hq)
  obtain ⟨_, T19, L19, X19, ⟨rfl, Nq19, eq19⟩, k19a⟩ := callV' X17 hx hZ (y := (⟨"com/example/apportion/apportion/policy/JsonValue", "getMembers", "()Ljava/util/Map;"⟩ : MethodName)) (z := (⟨"com/example/apportion/apportion/policy/JsonValue", "getMembers", "()Ljava/util/Map;"⟩ : MethodName)) hown (hw _ (List.mem_of_getElem? (i := 66) rfl)) (hw _ (List.mem_of_getElem? (i := 67) rfl)) (notFace_of_selects (args := #[]) (mvT hZ (hw _ (List.mem_of_getElem? (i := 69) rfl)))) (hw _ (List.mem_of_getElem? (i := 69) rfl)) (hw _ (List.mem_of_getElem? (i := 68) rfl)) (by decide) A4 (backC (W := 0) (rmgetmembers l Z a0 hw bw (.ref qM) h4 n0 (by omega) G4_3 rfl) hZ (hw _ (List.mem_of_getElem? (i := 70) rfl)) (hw _ (List.mem_of_getElem? (i := 10) rfl)) (by decide) (by decide)) e17 (argsL := []) (rest := []) rfl rfl pd_1 rfl (by rw [hml]; rfl) (hb hby at_64) (Nat.le_of_eq rfl) (by decide) (by decide) k18
  have k19 : To p.tables e below S0 (T19.setTop (mkF m 67 #[.val (.int p0), .val (.ref (own_pick qT qF qN ((p0 &&& (2147483647 : Int32)) % (3 : Int32)))), .val (.ref bw)] [(.ref qM)])) := k19a
  have N19 := N17.app Nq19
  have e19 : T19.heap = h4 := eq19
  have f21 : Exa Z h4 qM "java/util/ImmutableCollections$MapN" := ((exaOld AM O0).keep Kq4)
  obtain ⟨_, T20, L20, X20, ⟨rfl, Nq20, eq20⟩, k20a⟩ := callI' X19 hx hZ (y := (⟨"java/util/Map", "size", "()I"⟩ : MethodName)) (z := (⟨"java/util/ImmutableCollections$MapN", "size", "()I"⟩ : MethodName)) hown (hw _ (List.mem_of_getElem? (i := 71) rfl)) (hw _ (List.mem_of_getElem? (i := 72) rfl)) (hw _ (List.mem_of_getElem? (i := 73) rfl)) (by first | rfl | simp [Cond.onTables, Cond.keepsFace, Cond.keeps, Cond.steady]) (hw _ (List.mem_of_getElem? (i := 74) rfl)) (hw _ (List.mem_of_getElem? (i := 75) rfl)) (hw _ (List.mem_of_getElem? (i := 76) rfl)) (hw _ (List.mem_of_getElem? (i := 77) rfl)) (hw _ (List.mem_of_getElem? (i := 78) rfl)) (by decide) f21 (backC (W := 0) (rmms l Z a0 hw qM h4 n0 (by omega) (fldOld FM f13)) hZ (hw _ (List.mem_of_getElem? (i := 80) rfl)) (hw _ (List.mem_of_getElem? (i := 79) rfl)) (by decide) (by decide)) e19 (argsL := []) (rest := []) rfl rfl pd_7 rfl (by rw [hml]; rfl) (hb hby at_67) (Nat.le_of_eq rfl) (by decide) (by decide) k19
  have k20 : To p.tables e below S0 (T20.setTop (mkF m 72 #[.val (.int p0), .val (.ref (own_pick qT qF qN ((p0 &&& (2147483647 : Int32)) % (3 : Int32)))), .val (.ref bw)] [(.int (0 : Int32))])) := k20a
  have N20 := N19.app Nq20
  have e20 : T20.heap = h4 := eq20
  have k22 : To p.tables e below S0 (T20.setTop (mkF m 78 #[.val (.int p0), .val (.ref (own_pick qT qF qN ((p0 &&& (2147483647 : Int32)) % (3 : Int32)))), .val (.ref bw)] [(.int (1 : Int32))])) := fun tt hq => k20 tt (by
    show Steps _ _ _ (T20.setTop (mkF m 72 #[.val (.int p0), .val (.ref (own_pick qT qF qN ((p0 &&& (2147483647 : Int32)) % (3 : Int32)))), .val (.ref bw)] [(.int (0 : Int32))])) _
    refine XS.ifYes X20.here hx rfl (pc0 := 72) (pc' := 77) rfl (hb hby at_72) rfl ((if0 _ _).trans (teq (by decide)).1) (by decide) (by decide) ?_
    show Steps _ _ _ (T20.setTop (mkF m 77 #[.val (.int p0), .val (.ref (own_pick qT qF qN ((p0 &&& (2147483647 : Int32)) % (3 : Int32)))), .val (.ref bw)] [])) _
    refine XS.iconst X20.here hx rfl (hb hby at_77) ?_
    show Steps _ _ _ (T20.setTop (mkF m 78 #[.val (.int p0), .val (.ref (own_pick qT qF qN ((p0 &&& (2147483647 : Int32)) % (3 : Int32)))), .val (.ref bw)] [(.int (1 : Int32))])) _
    exact hq)
  have hE := e20
  refine retInt X20 hx hret hlk (by simp) rfl (hb hby at_78) k22 ?_ (by decide) (by decide)
  try rw [hE]
  exact ⟨rfl, N20⟩
set_option maxRecDepth 65536 in
set_option maxHeartbeats 40000000 in
theorem comes_1 {Post : Tables → Env → Array Value → State → Outcome → State → Prop} (hpost : ∀ tb e args s v u, (limb_1_1.after args s (.returned v) u = true ∧ limb_1_2.after args s (.returned v) u = true ∧ True) → FrameEnd s (.returned v) u (Jvm.fieldLocs frame_1_writes args s ++ Jvm.arrayLocs frame_1_arrays args s ++ Jvm.staticLocs frame_1_statics s) 16 128 → Post tb e args s (.returned v) u) :
    ArmFor flags0 classFile x code maxLocals ret World_1 tables_1 room_1 Calls_1 rest_1 Pre_1 Post := by
  intro l hfl _ _ p e ha hc hk s m args below hf hA hF happ hP
  obtain ⟨hcalls, hrest, hpre⟩ := hP
  obtain ⟨-, -, -, hnamed, -, -, -, hat⟩ := (Spec.applies_iff hf).mp happ
  obtain ⟨hg, hn⟩ := and_e (Cond.before_iff.mp (show (Jvm.Cond.and given_1 narrow_1).before args s = true from hpre))
  obtain ⟨u1, u2⟩ := and_e hg
  obtain ⟨u3, u4⟩ := and_e hn
  obtain ⟨u5, u6⟩ := and_e u4
  obtain ⟨w0, rfl⟩ : ∃ w0 : Value, args = #[w0] := by
    have hs : args.size = 1 := by simpa [Cond.value, given_1] using u1
    obtain ⟨L⟩ := args
    match L, hs with
    | [w0], _ => exact ⟨w0, rfl⟩
  have hw := fun d (hd : d ∈ tables_1) => atoms_spec (ws := Jvm.Cond.code x code maxLocals ret :: tables_1) hat d (List.mem_cons_of_mem _ hd)
  have hfit : Fit s := fun {y c} hc i hi => by
    obtain ⟨ha, rfl⟩ := Array.getElem?_eq_some_iff.mp hc
    have q := List.all_eq_true.mp ((Array.all_eq_true_iff_forall_mem.mp hF) _ (Array.getElem_mem ha)) i (List.mem_range.mpr hi)
    simpa [Array.getElem?_eq_getElem hi] using q
  obtain ⟨hsets, hown0⟩ := atoms_of _ (rest_1_c_eq ▸ (show rest_1_c.before _ s = true from hrest))
  obtain ⟨i0, ei0⟩ := is_v u2
  obtain rfl : w0 = (.int i0) := Option.some.inj ei0
  obtain ⟨q_TRUE, ev_TRUE⟩ := exa_v u3
  have A_TRUE := Exa.start ev_TRUE u3
  have S_TRUE := Sta.start ev_TRUE (Or.inr ⟨(hw _ (List.mem_of_getElem? (i := 6) rfl)), (hw _ (List.mem_of_getElem? (i := 7) rfl))⟩)
  obtain ⟨q_NULL, ev_NULL⟩ := exa_v u5
  have A_NULL := Exa.start ev_NULL u5
  have S_NULL := Sta.start ev_NULL (Or.inr ⟨(hw _ (List.mem_of_getElem? (i := 6) rfl)), (hw _ (List.mem_of_getElem? (i := 84) rfl))⟩)
  obtain ⟨q_FALSE, ev_FALSE⟩ := exa_v u6
  have A_FALSE := Exa.start ev_FALSE u6
  have S_FALSE := Sta.start ev_FALSE (Or.inr ⟨(hw _ (List.mem_of_getElem? (i := 6) rfl)), (hw _ (List.mem_of_getElem? (i := 86) rfl))⟩)
  obtain ⟨q_EMPTY_LIST, ev_EMPTY_LIST⟩ := exa_v (Cond.before_iff.mp (hsets _ (List.mem_of_getElem? (i := 2) rfl)))
  have A_EMPTY_LIST := Exa.start ev_EMPTY_LIST (Cond.before_iff.mp (hsets _ (List.mem_of_getElem? (i := 2) rfl)))
  have S_EMPTY_LIST := Sta.start ev_EMPTY_LIST (Or.inl (hsets _ (List.mem_of_getElem? (i := 1) rfl)))
  obtain ⟨q_EMPTY_MAP, ev_EMPTY_MAP⟩ := exa_v (Cond.before_iff.mp (hsets _ (List.mem_of_getElem? (i := 9) rfl)))
  have A_EMPTY_MAP := Exa.start ev_EMPTY_MAP (Cond.before_iff.mp (hsets _ (List.mem_of_getElem? (i := 9) rfl)))
  have S_EMPTY_MAP := Sta.start ev_EMPTY_MAP (Or.inl (hsets _ (List.mem_of_getElem? (i := 8) rfl)))
  have F_EMPTY_MAP : Fld s s.heap q_EMPTY_MAP "java/util/ImmutableCollections$MapN" "size" "I" (.int (0 : Int32)) := Fld.start (by rw [← fld_at (C := "java/util/ImmutableCollections$MapN") (n := "size") (dd := "I") ev_EMPTY_MAP]; exact eqv_i (Term.int_eval _) (Cond.before_iff.mp (hsets _ (List.mem_of_getElem? (i := 13) rfl))))
  obtain ⟨bL, kL, FL, FV⟩ := own_empty hfit ev_EMPTY_LIST (Cond.before_iff.mp (hsets _ (List.mem_of_getElem? (i := 3) rfl))) (Cond.before_iff.mp (hsets _ (List.mem_of_getElem? (i := 5) rfl)))
  obtain ⟨n, o, h1, h2, h3, _, L, rfl, ⟨rfl, N⟩, hq⟩ := rm0 l s _ hw q_TRUE q_FALSE q_NULL q_EMPTY_LIST q_EMPTY_MAP bL kL i0 s.heap s.heap.size (Nat.le_refl _) S_TRUE S_FALSE S_NULL S_EMPTY_LIST S_EMPTY_MAP A_EMPTY_LIST A_EMPTY_MAP FL FV F_EMPTY_MAP (Old.start s) p e ha hc hk s m _ below hf ((Spec.applies_iff_loose hf).mp happ).1 ⟨rfl, State.Warmed39.refl s, rfl⟩ trivial
  refine ⟨n, _, h1, h2, h3, hpost _ _ _ _ _ _ ⟨Cond.after_iff.mpr rfl, Cond.after_iff.mpr (eq_i res_at (Term.int_eval (1)) rfl), trivial⟩ ⟨hq.1, hq.2.1, (hq.2.2.sift fun y hy => Or.inr (N y hy)).mono (by decide) (by decide)⟩⟩
theorem main_1_1 : Claimed_1_1 := comes_1 fun _ _ _ _ _ _ h hF => ⟨h.1, hF⟩
theorem main_1_2 : Claimed_1_2 := comes_1 fun _ _ _ _ _ _ h hF => ⟨h.2.1, hF⟩
end Jvm.Pilot.@@N@@
namespace Jvm.Pilot.@@N@@
open Jvm Jvm.ClassFile Sem Op Lib Jvm.Free Jvm.Stand Jvm.Pilot.@@N@@.Jvm.D
/-! MADE BY PROGRAM (witnessworld.py) out of the Statement's table words and the real class files: 28 classes; the members and pool entries that the words name. The judged class is class 1, her method 2. -/
namespace start1
open Jvm.ClassFile
def u (s : String) : CpInfo := .utf8 (stringToUtf16 s)
/-- a pool by its gaps: so many unusable entries, then the entry; so many at the end -/
def gap : Nat → List CpInfo → List CpInfo
  | 0, r => r
  | n + 1, r => .unusable :: gap n r
def poolList (es : List (Nat × CpInfo)) (last : Nat) : List CpInfo := es.foldr (fun e r => gap e.1 (e.2 :: r)) (gap last [])
def pool (es : List (Nat × CpInfo)) (last : Nat) : Array CpInfo := ⟨poolList es last⟩
def fileOf (pool : Array CpInfo) (this : Nat) (attrs : Array Attribute := #[]) (ms : Array MethodInfo := #[]) (fl : Nat := 33) (sup : Nat := 0) (ifs : Array Nat := #[]) (fds : Array FieldInfo := #[]) : ClassFile where
  minorVersion := 0
  majorVersion := 65
  constantPool := pool
  accessFlags := fl
  thisClass := this
  superClass := sup
  interfaces := ifs
  fields := fds
  methods := ms
  attributes := attrs
def plain (name : String) (sup : Option ClassId) : Class where
  name := name
  kind := .ordinary
  loader := none
  accessFlags := 33
  super := sup
  interfaces := #[]
  cf := none
  fields := #[]
  methods := #[]
  instanceTypes := #[]
  staticTypes := #[]
  resolved := #[]
  callSites := []
  init := .initialized
  statics := none
  mirror := none

def pool0 : Array CpInfo := pool [(5, u "<init>"), (0, u "()V"), (1, .class_ 10), (1, u "java/lang/Object")] 113

def k0c0 : Code := { maxStack := 0, maxLocals := 1, code := object_method_1_code, exceptionTable := #[], attributes := #[] }
def k0m0 : Method := { name := "<init>", desc := "()V", sig := { parameters := [], returnType := none }, accessFlags := 1, code := some k0c0 }
/-- java/lang/Object -/
def k0 : Class := { plain "java/lang/Object" none with
  accessFlags := 33
  interfaces := #[]
  cf := some (fileOf pool0 8 #[] #[{ accessFlags := 1, nameIndex := 5, descriptorIndex := 6, attributes := #[] }] 33 0 #[] #[])
  fields := #[]
  methods := #[k0m0]
  instanceTypes := #[]
  staticTypes := #[]
  resolved := Array.replicate 124 none
  statics := none }

def pool1 : Array CpInfo := pool [(2, .class_ 4), (1, u "java/lang/Object"), (0, u "<init>"), (0, u "()V"), (0, .integer 2147483647), (0, .fieldref 9 10), (0, .class_ 11), (0, .nameAndType 12 13), (0, u "com/example/apportion/apportion/policy/JsonValue$Kind"), (0, u "TRUE"), (0, u "Lcom/example/apportion/apportion/policy/JsonValue$Kind;"), (0, .fieldref 9 15), (0, .nameAndType 16 13), (0, u "FALSE"), (0, .fieldref 9 18), (0, .nameAndType 19 13), (0, u "NULL"), (0, .methodref 21 22), (0, .class_ 23), (0, .nameAndType 24 25), (0, u "com/example/apportion/apportion/policy/JsonValueWordPinLaw"), (0, u "pick"), (0, u "(I)Lcom/example/apportion/apportion/policy/JsonValue$Kind;"), (0, .methodref 27 28), (0, .class_ 29), (0, .nameAndType 30 31), (0, u "com/example/apportion/apportion/policy/JsonValue"), (0, u "word"), (0, u "(Lcom/example/apportion/apportion/policy/JsonValue$Kind;)Lcom/example/apportion/apportion/policy/JsonValue;"), (0, .methodref 27 33), (0, .nameAndType 34 35), (0, u "getKind"), (0, u "()Lcom/example/apportion/apportion/policy/JsonValue$Kind;"), (0, .methodref 27 37), (0, .nameAndType 38 39), (0, u "getText"), (0, u "()Ljava/lang/String;"), (0, .methodref 27 41), (0, .nameAndType 42 43), (0, u "getItems"), (0, u "()Ljava/util/List;"), (0, .interfaceMethodref 45 46), (0, .class_ 47), (0, .nameAndType 48 49), (0, u "java/util/List"), (0, u "size"), (0, u "()I"), (0, .methodref 27 51), (0, .nameAndType 52 53), (0, u "getMembers"), (0, u "()Ljava/util/Map;"), (0, .interfaceMethodref 55 46), (0, .class_ 56), (0, u "java/util/Map"), (3, u "law"), (0, u "(I)Z")] 4

def k1m0 : Method := { name := "<init>", desc := "()V", sig := { parameters := [], returnType := none }, accessFlags := 1, code := none }
def k1c1 : Code := { maxStack := 2, maxLocals := 2, code := method_2_code, exceptionTable := #[], attributes := #[] }
def k1m1 : Method := { name := "pick", desc := "(I)Lcom/example/apportion/apportion/policy/JsonValue$Kind;", sig := { parameters := [.int], returnType := some (.object "com/example/apportion/apportion/policy/JsonValue$Kind") }, accessFlags := 10, code := some k1c1 }
def k1c2 : Code := { maxStack := 2, maxLocals := 3, code := code, exceptionTable := #[], attributes := #[] }
def k1m2 : Method := { name := "law", desc := "(I)Z", sig := { parameters := [.int], returnType := some .boolean }, accessFlags := 9, code := some k1c2 }
/-- com/example/apportion/apportion/policy/JsonValueWordPinLaw -/
def k1 : Class := { plain "com/example/apportion/apportion/policy/JsonValueWordPinLaw" (some 0) with
  accessFlags := 49
  interfaces := #[]
  cf := some (fileOf pool1 21 #[] #[{ accessFlags := 1, nameIndex := 5, descriptorIndex := 6, attributes := #[] }, { accessFlags := 10, nameIndex := 24, descriptorIndex := 25, attributes := #[] }, { accessFlags := 9, nameIndex := 60, descriptorIndex := 61, attributes := #[] }] 49 2 #[] #[])
  fields := #[]
  methods := #[k1m0, k1m1, k1m2]
  instanceTypes := #[]
  staticTypes := #[]
  resolved := Array.replicate 66 none
  statics := none }

def pool2 : Array CpInfo := pool [(1, .class_ 2), (0, u "java/lang/constant/Constable"), (0, .class_ 4), (0, u "java/lang/Object")] 6

/-- java/lang/constant/Constable -/
def k2 : Class := { plain "java/lang/constant/Constable" (some 0) with
  accessFlags := 1537
  interfaces := #[]
  cf := some (fileOf pool2 1 #[] #[] 1537 3 #[] #[])
  fields := #[]
  methods := #[]
  instanceTypes := #[]
  staticTypes := #[]
  resolved := Array.replicate 11 none
  statics := none }

def pool3 : Array CpInfo := pool [(1, .class_ 2), (0, u "java/lang/Comparable"), (0, .class_ 4), (0, u "java/lang/Object")] 7

/-- java/lang/Comparable -/
def k3 : Class := { plain "java/lang/Comparable" (some 0) with
  accessFlags := 1537
  interfaces := #[]
  cf := some (fileOf pool3 1 #[] #[] 1537 3 #[] #[])
  fields := #[]
  methods := #[]
  instanceTypes := #[]
  staticTypes := #[]
  resolved := Array.replicate 12 none
  statics := none }

def pool4 : Array CpInfo := pool [(1, .class_ 2), (0, u "java/io/Serializable"), (0, .class_ 4), (0, u "java/lang/Object")] 2

/-- java/io/Serializable -/
def k4 : Class := { plain "java/io/Serializable" (some 0) with
  accessFlags := 1537
  interfaces := #[]
  cf := some (fileOf pool4 1 #[] #[] 1537 3 #[] #[])
  fields := #[]
  methods := #[]
  instanceTypes := #[]
  staticTypes := #[]
  resolved := Array.replicate 7 none
  statics := none }

def pool5 : Array CpInfo := pool [(2, .class_ 4), (1, u "java/lang/Enum"), (0, u "name"), (0, u "Ljava/lang/String;"), (2, u "ordinal"), (0, u "I"), (1, .class_ 14), (1, u "java/lang/Object"), (4, u "hash"), (86, .class_ 108), (1, u "java/lang/Enum$EnumDesc"), (2, .class_ 112), (0, u "java/lang/constant/Constable"), (0, .class_ 114), (0, u "java/lang/Comparable"), (0, .class_ 116), (0, u "java/io/Serializable")] 87

/-- java/lang/Enum -/
def k5 : Class := { plain "java/lang/Enum" (some 0) with
  accessFlags := 1057
  interfaces := #[2, 3, 4]
  cf := some (fileOf pool5 2 #[.nestMembers #[106]] #[] 1057 12 #[111, 113, 115] #[{ accessFlags := 18, nameIndex := 5, descriptorIndex := 6, attributes := #[] }, { accessFlags := 18, nameIndex := 9, descriptorIndex := 10, attributes := #[] }, { accessFlags := 2, nameIndex := 19, descriptorIndex := 10, attributes := #[] }])
  fields := #[{ name := "name", type := (.object "java/lang/String"), accessFlags := 18, slot := 0, constantValue := 0 }, { name := "ordinal", type := .int, accessFlags := 18, slot := 1, constantValue := 0 }, { name := "hash", type := .int, accessFlags := 2, slot := 2, constantValue := 0 }]
  methods := #[]
  instanceTypes := #[(.object "java/lang/String"), .int, .int]
  staticTypes := #[]
  resolved := Array.replicate 204 none
  statics := none }

def pool6 : Array CpInfo := pool [(1, .class_ 2), (0, u "com/example/apportion/apportion/policy/JsonValue$Kind"), (2, u "OBJECT"), (0, u "Lcom/example/apportion/apportion/policy/JsonValue$Kind;"), (2, u "LIST"), (2, u "TEXT"), (2, u "NUMBER"), (2, u "TRUE"), (2, u "FALSE"), (2, u "NULL"), (2, u "$VALUES"), (0, u "[Lcom/example/apportion/apportion/policy/JsonValue$Kind;"), (6, .class_ 37), (1, u "java/lang/Enum"), (30, .class_ 69), (0, u "com/example/apportion/apportion/policy/JsonValue")] 2

/-- com/example/apportion/apportion/policy/JsonValue$Kind -/
def k6 : Class := { plain "com/example/apportion/apportion/policy/JsonValue$Kind" (some 5) with
  accessFlags := 16432
  interfaces := #[]
  cf := some (fileOf pool6 1 #[.nestHost 68] #[] 16432 35 #[] #[{ accessFlags := 16409, nameIndex := 5, descriptorIndex := 6, attributes := #[] }, { accessFlags := 16409, nameIndex := 9, descriptorIndex := 6, attributes := #[] }, { accessFlags := 16409, nameIndex := 12, descriptorIndex := 6, attributes := #[] }, { accessFlags := 16409, nameIndex := 15, descriptorIndex := 6, attributes := #[] }, { accessFlags := 16409, nameIndex := 18, descriptorIndex := 6, attributes := #[] }, { accessFlags := 16409, nameIndex := 21, descriptorIndex := 6, attributes := #[] }, { accessFlags := 16409, nameIndex := 24, descriptorIndex := 6, attributes := #[] }, { accessFlags := 4122, nameIndex := 27, descriptorIndex := 28, attributes := #[] }])
  fields := #[{ name := "OBJECT", type := (.object "com/example/apportion/apportion/policy/JsonValue$Kind"), accessFlags := 16409, slot := 0, constantValue := 0 }, { name := "LIST", type := (.object "com/example/apportion/apportion/policy/JsonValue$Kind"), accessFlags := 16409, slot := 1, constantValue := 0 }, { name := "TEXT", type := (.object "com/example/apportion/apportion/policy/JsonValue$Kind"), accessFlags := 16409, slot := 2, constantValue := 0 }, { name := "NUMBER", type := (.object "com/example/apportion/apportion/policy/JsonValue$Kind"), accessFlags := 16409, slot := 3, constantValue := 0 }, { name := "TRUE", type := (.object "com/example/apportion/apportion/policy/JsonValue$Kind"), accessFlags := 16409, slot := 4, constantValue := 0 }, { name := "FALSE", type := (.object "com/example/apportion/apportion/policy/JsonValue$Kind"), accessFlags := 16409, slot := 5, constantValue := 0 }, { name := "NULL", type := (.object "com/example/apportion/apportion/policy/JsonValue$Kind"), accessFlags := 16409, slot := 6, constantValue := 0 }, { name := "$VALUES", type := (.array (.object "com/example/apportion/apportion/policy/JsonValue$Kind")), accessFlags := 4122, slot := 7, constantValue := 0 }]
  methods := #[]
  instanceTypes := #[(.object "java/lang/String"), .int, .int]
  staticTypes := #[(.object "com/example/apportion/apportion/policy/JsonValue$Kind"), (.object "com/example/apportion/apportion/policy/JsonValue$Kind"), (.object "com/example/apportion/apportion/policy/JsonValue$Kind"), (.object "com/example/apportion/apportion/policy/JsonValue$Kind"), (.object "com/example/apportion/apportion/policy/JsonValue$Kind"), (.object "com/example/apportion/apportion/policy/JsonValue$Kind"), (.object "com/example/apportion/apportion/policy/JsonValue$Kind"), (.array (.object "com/example/apportion/apportion/policy/JsonValue$Kind"))]
  resolved := Array.replicate 72 none
  statics := some 0 }

def pool7 : Array CpInfo := pool [(1, .methodref 2 3), (0, .class_ 4), (0, .nameAndType 5 6), (0, u "java/lang/Object"), (0, u "<init>"), (0, u "()V"), (0, .fieldref 8 9), (0, .class_ 10), (0, .nameAndType 11 12), (0, u "com/example/apportion/apportion/policy/JsonValue"), (0, u "kind"), (0, u "Lcom/example/apportion/apportion/policy/JsonValue$Kind;"), (0, .fieldref 8 14), (0, .nameAndType 15 16), (0, u "text"), (0, u "Ljava/lang/String;"), (0, .fieldref 8 18), (0, .nameAndType 19 20), (0, u "items"), (0, u "Ljava/util/List;"), (0, .fieldref 8 22), (0, .nameAndType 23 24), (0, u "members"), (0, u "Ljava/util/Map;"), (1, .class_ 28), (1, u "com/example/apportion/apportion/policy/JsonValue$Kind"), (1, .interfaceMethodref 31 32), (0, .class_ 33), (0, .nameAndType 34 35), (0, u "java/util/List"), (0, u "of"), (0, u "()Ljava/util/List;"), (6, .methodref 8 43), (0, .nameAndType 5 44), (0, u "(Lcom/example/apportion/apportion/policy/JsonValue$Kind;Ljava/lang/String;Ljava/util/List;Ljava/util/Map;)V"), (7, .interfaceMethodref 53 54), (0, .class_ 55), (0, .nameAndType 34 56), (0, u "java/util/Map"), (0, u "()Ljava/util/Map;"), (14, u "word"), (0, u "(Lcom/example/apportion/apportion/policy/JsonValue$Kind;)Lcom/example/apportion/apportion/policy/JsonValue;"), (0, u "getKind"), (0, u "()Lcom/example/apportion/apportion/policy/JsonValue$Kind;"), (0, u "getText"), (0, u "()Ljava/lang/String;"), (0, u "getItems"), (1, u "getMembers")] 6

def k7c0 : Code := { maxStack := 2, maxLocals := 5, code := prog_62_method_1_code, exceptionTable := #[], attributes := #[] }
def k7m0 : Method := { name := "<init>", desc := "(Lcom/example/apportion/apportion/policy/JsonValue$Kind;Ljava/lang/String;Ljava/util/List;Ljava/util/Map;)V", sig := { parameters := [(.object "com/example/apportion/apportion/policy/JsonValue$Kind"), (.object "java/lang/String"), (.object "java/util/List"), (.object "java/util/Map")], returnType := none }, accessFlags := 2, code := some k7c0 }
def k7c1 : Code := { maxStack := 6, maxLocals := 1, code := prog_62_method_5_code, exceptionTable := #[], attributes := #[] }
def k7m1 : Method := { name := "word", desc := "(Lcom/example/apportion/apportion/policy/JsonValue$Kind;)Lcom/example/apportion/apportion/policy/JsonValue;", sig := { parameters := [(.object "com/example/apportion/apportion/policy/JsonValue$Kind")], returnType := some (.object "com/example/apportion/apportion/policy/JsonValue") }, accessFlags := 8, code := some k7c1 }
def k7c2 : Code := { maxStack := 1, maxLocals := 1, code := prog_62_method_6_code, exceptionTable := #[], attributes := #[] }
def k7m2 : Method := { name := "getKind", desc := "()Lcom/example/apportion/apportion/policy/JsonValue$Kind;", sig := { parameters := [], returnType := some (.object "com/example/apportion/apportion/policy/JsonValue$Kind") }, accessFlags := 0, code := some k7c2 }
def k7c3 : Code := { maxStack := 1, maxLocals := 1, code := prog_62_method_7_code, exceptionTable := #[], attributes := #[] }
def k7m3 : Method := { name := "getText", desc := "()Ljava/lang/String;", sig := { parameters := [], returnType := some (.object "java/lang/String") }, accessFlags := 0, code := some k7c3 }
def k7c4 : Code := { maxStack := 1, maxLocals := 1, code := prog_62_method_8_code, exceptionTable := #[], attributes := #[] }
def k7m4 : Method := { name := "getItems", desc := "()Ljava/util/List;", sig := { parameters := [], returnType := some (.object "java/util/List") }, accessFlags := 0, code := some k7c4 }
def k7c5 : Code := { maxStack := 1, maxLocals := 1, code := prog_62_method_9_code, exceptionTable := #[], attributes := #[] }
def k7m5 : Method := { name := "getMembers", desc := "()Ljava/util/Map;", sig := { parameters := [], returnType := some (.object "java/util/Map") }, accessFlags := 0, code := some k7c5 }
/-- com/example/apportion/apportion/policy/JsonValue -/
def k7 : Class := { plain "com/example/apportion/apportion/policy/JsonValue" (some 0) with
  accessFlags := 48
  interfaces := #[]
  cf := some (fileOf pool7 8 #[.nestMembers #[26]] #[{ accessFlags := 2, nameIndex := 5, descriptorIndex := 44, attributes := #[] }, { accessFlags := 8, nameIndex := 71, descriptorIndex := 72, attributes := #[] }, { accessFlags := 0, nameIndex := 73, descriptorIndex := 74, attributes := #[] }, { accessFlags := 0, nameIndex := 75, descriptorIndex := 76, attributes := #[] }, { accessFlags := 0, nameIndex := 77, descriptorIndex := 35, attributes := #[] }, { accessFlags := 0, nameIndex := 79, descriptorIndex := 56, attributes := #[] }] 48 2 #[] #[{ accessFlags := 18, nameIndex := 11, descriptorIndex := 12, attributes := #[] }, { accessFlags := 18, nameIndex := 15, descriptorIndex := 16, attributes := #[] }, { accessFlags := 18, nameIndex := 19, descriptorIndex := 20, attributes := #[] }, { accessFlags := 18, nameIndex := 23, descriptorIndex := 24, attributes := #[] }])
  fields := #[{ name := "kind", type := (.object "com/example/apportion/apportion/policy/JsonValue$Kind"), accessFlags := 18, slot := 0, constantValue := 0 }, { name := "text", type := (.object "java/lang/String"), accessFlags := 18, slot := 1, constantValue := 0 }, { name := "items", type := (.object "java/util/List"), accessFlags := 18, slot := 2, constantValue := 0 }, { name := "members", type := (.object "java/util/Map"), accessFlags := 18, slot := 3, constantValue := 0 }]
  methods := #[k7m0, k7m1, k7m2, k7m3, k7m4, k7m5]
  instanceTypes := #[(.object "com/example/apportion/apportion/policy/JsonValue$Kind"), (.object "java/lang/String"), (.object "java/util/List"), (.object "java/util/Map")]
  staticTypes := #[]
  resolved := Array.replicate 86 none
  statics := none }

def pool8 : Array CpInfo := pool [(8, .class_ 10), (1, u "java/lang/Iterable"), (24, .class_ 36), (0, u "java/lang/Object")] 25

/-- java/lang/Iterable -/
def k8 : Class := { plain "java/lang/Iterable" (some 0) with
  accessFlags := 1537
  interfaces := #[]
  cf := some (fileOf pool8 8 #[] #[] 1537 35 #[] #[])
  fields := #[]
  methods := #[]
  instanceTypes := #[]
  staticTypes := #[]
  resolved := Array.replicate 62 none
  statics := none }

def pool9 : Array CpInfo := pool [(10, .class_ 12), (1, u "java/util/Collection"), (47, .class_ 61), (0, u "java/lang/Object"), (0, .class_ 63), (0, u "java/lang/Iterable")] 51

/-- java/util/Collection -/
def k9 : Class := { plain "java/util/Collection" (some 0) with
  accessFlags := 1537
  interfaces := #[8]
  cf := some (fileOf pool9 10 #[] #[] 1537 60 #[62] #[])
  fields := #[]
  methods := #[]
  instanceTypes := #[]
  staticTypes := #[]
  resolved := Array.replicate 115 none
  statics := none }

def pool10 : Array CpInfo := pool [(8, .class_ 10), (1, u "java/util/SequencedCollection"), (15, .class_ 27), (0, u "java/lang/Object"), (0, .class_ 29), (0, u "java/util/Collection")] 27

/-- java/util/SequencedCollection -/
def k10 : Class := { plain "java/util/SequencedCollection" (some 0) with
  accessFlags := 1537
  interfaces := #[9]
  cf := some (fileOf pool10 8 #[] #[] 1537 26 #[28] #[])
  fields := #[]
  methods := #[]
  instanceTypes := #[]
  staticTypes := #[]
  resolved := Array.replicate 57 none
  statics := none }

def pool11 : Array CpInfo := pool [(8, .class_ 10), (1, u "java/util/List"), (68, u "size"), (0, u "()I"), (7, u "of"), (1, .fieldref 91 92), (0, .class_ 93), (0, .nameAndType 94 95), (0, u "java/util/ImmutableCollections"), (0, u "EMPTY_LIST"), (0, u "Ljava/util/ImmutableCollections$ListN;"), (7, .class_ 104), (0, u "java/lang/Object"), (14, u "()Ljava/util/List;"), (0, .class_ 121), (0, u "java/util/SequencedCollection")] 129

def k11m0 : Method := { name := "size", desc := "()I", sig := { parameters := [], returnType := some .int }, accessFlags := 1025, code := none }
def k11c1 : Code := { maxStack := 1, maxLocals := 0, code := jdk_40_method_36_code, exceptionTable := #[], attributes := #[] }
def k11m1 : Method := { name := "of", desc := "()Ljava/util/List;", sig := { parameters := [], returnType := some (.object "java/util/List") }, accessFlags := 9, code := some k11c1 }
/-- java/util/List -/
def k11 : Class := { plain "java/util/List" (some 0) with
  accessFlags := 1537
  interfaces := #[10]
  cf := some (fileOf pool11 8 #[] #[{ accessFlags := 1025, nameIndex := 79, descriptorIndex := 80, attributes := #[] }, { accessFlags := 9, nameIndex := 88, descriptorIndex := 119, attributes := #[] }] 1537 103 #[120] #[])
  fields := #[]
  methods := #[k11m0, k11m1]
  instanceTypes := #[]
  staticTypes := #[]
  resolved := Array.replicate 251 none
  statics := none }

def pool12 : Array CpInfo := pool [(2, .class_ 4), (1, u "java/lang/Object"), (0, u "<init>"), (0, u "()V"), (3, .class_ 11), (0, u "java/util/ImmutableCollections$List12"), (0, .class_ 13), (0, u "java/util/ImmutableCollections$ListN"), (3, u "Z"), (29, .class_ 49), (1, u "java/util/ImmutableCollections"), (0, u "$assertionsDisabled"), (5, u "[Ljava/lang/Object;"), (5, u "EMPTY_LIST"), (0, u "Ljava/util/ImmutableCollections$ListN;"), (8, u "EMPTY_LIST_NULLS"), (22, u "SALT32L"), (0, u "J"), (2, u "REVERSE"), (6, u "archivedObjects"), (2, u "EMPTY"), (0, u "Ljava/lang/Object;"), (0, .class_ 112), (0, u "java/util/ImmutableCollections$SetN"), (5, u "EMPTY_SET"), (0, u "Ljava/util/ImmutableCollections$SetN;"), (0, .class_ 121), (0, u "java/util/ImmutableCollections$MapN"), (3, u "EMPTY_MAP"), (0, u "Ljava/util/ImmutableCollections$MapN;"), (4, u "EXPAND_FACTOR"), (0, u "I"), (36, .class_ 170), (0, u "java/util/ImmutableCollections$MapN$MapNIterator"), (0, .class_ 172), (0, u "java/util/ImmutableCollections$MapN$1"), (0, .class_ 174), (0, u "java/util/ImmutableCollections$Map1"), (0, .class_ 176), (0, u "java/util/ImmutableCollections$AbstractImmutableMap"), (0, .class_ 178), (0, u "java/util/ImmutableCollections$SetN$SetNIterator"), (0, .class_ 180), (0, u "java/util/ImmutableCollections$Set12"), (0, .class_ 182), (0, u "java/util/ImmutableCollections$Set12$1"), (0, .class_ 184), (0, u "java/util/ImmutableCollections$AbstractImmutableSet"), (0, .class_ 186), (0, u "java/util/ImmutableCollections$SubList"), (0, .class_ 188), (0, u "java/util/ImmutableCollections$ListItr"), (0, .class_ 190), (0, u "java/util/ImmutableCollections$AbstractImmutableList"), (0, .class_ 192), (0, u "java/util/ImmutableCollections$AbstractImmutableCollection"), (0, .class_ 194), (0, u "java/util/ImmutableCollections$Access"), (0, .class_ 196), (0, u "java/util/ImmutableCollections$Access$1")] 16

def k12m0 : Method := { name := "<init>", desc := "()V", sig := { parameters := [], returnType := none }, accessFlags := 2, code := none }
/-- java/util/ImmutableCollections -/
def k12 : Class := { plain "java/util/ImmutableCollections" (some 0) with
  accessFlags := 32
  interfaces := #[]
  cf := some (fileOf pool12 47 #[.nestMembers #[120, 169, 171, 173, 175, 111, 177, 179, 181, 183, 12, 10, 185, 187, 189, 191, 193, 195]] #[{ accessFlags := 2, nameIndex := 5, descriptorIndex := 6, attributes := #[] }] 32 2 #[] #[{ accessFlags := 26, nameIndex := 95, descriptorIndex := 96, attributes := #[] }, { accessFlags := 26, nameIndex := 99, descriptorIndex := 17, attributes := #[] }, { accessFlags := 10, nameIndex := 106, descriptorIndex := 56, attributes := #[] }, { accessFlags := 26, nameIndex := 109, descriptorIndex := 110, attributes := #[] }, { accessFlags := 24, nameIndex := 62, descriptorIndex := 63, attributes := #[] }, { accessFlags := 24, nameIndex := 72, descriptorIndex := 63, attributes := #[] }, { accessFlags := 24, nameIndex := 118, descriptorIndex := 119, attributes := #[] }, { accessFlags := 24, nameIndex := 125, descriptorIndex := 126, attributes := #[] }, { accessFlags := 24, nameIndex := 131, descriptorIndex := 132, attributes := #[] }, { accessFlags := 4120, nameIndex := 50, descriptorIndex := 17, attributes := #[] }])
  fields := #[{ name := "SALT32L", type := .long, accessFlags := 26, slot := 0, constantValue := 0 }, { name := "REVERSE", type := .boolean, accessFlags := 26, slot := 1, constantValue := 0 }, { name := "archivedObjects", type := (.array (.object "java/lang/Object")), accessFlags := 10, slot := 2, constantValue := 0 }, { name := "EMPTY", type := (.object "java/lang/Object"), accessFlags := 26, slot := 3, constantValue := 0 }, { name := "EMPTY_LIST", type := (.object "java/util/ImmutableCollections$ListN"), accessFlags := 24, slot := 4, constantValue := 0 }, { name := "EMPTY_LIST_NULLS", type := (.object "java/util/ImmutableCollections$ListN"), accessFlags := 24, slot := 5, constantValue := 0 }, { name := "EMPTY_SET", type := (.object "java/util/ImmutableCollections$SetN"), accessFlags := 24, slot := 6, constantValue := 0 }, { name := "EMPTY_MAP", type := (.object "java/util/ImmutableCollections$MapN"), accessFlags := 24, slot := 7, constantValue := 0 }, { name := "EXPAND_FACTOR", type := .int, accessFlags := 24, slot := 8, constantValue := 0 }, { name := "$assertionsDisabled", type := .boolean, accessFlags := 4120, slot := 9, constantValue := 0 }]
  methods := #[k12m0]
  instanceTypes := #[]
  staticTypes := #[.long, .boolean, (.array (.object "java/lang/Object")), (.object "java/lang/Object"), (.object "java/util/ImmutableCollections$ListN"), (.object "java/util/ImmutableCollections$ListN"), (.object "java/util/ImmutableCollections$SetN"), (.object "java/util/ImmutableCollections$MapN"), .int, .boolean]
  resolved := Array.replicate 213 none
  statics := some 1 }

def pool13 : Array CpInfo := pool [(2, .class_ 4), (1, u "java/util/Map"), (31, .class_ 37), (0, u "java/util/Map$Entry"), (43, .fieldref 82 83), (0, .class_ 84), (0, .nameAndType 85 86), (0, u "java/util/ImmutableCollections"), (0, u "EMPTY_MAP"), (0, u "Ljava/util/ImmutableCollections$MapN;"), (6, .class_ 94), (0, u "java/lang/Object"), (13, u "of"), (0, u "()Ljava/util/Map;"), (10, u "size"), (0, u "()I")] 141

def k13m0 : Method := { name := "size", desc := "()I", sig := { parameters := [], returnType := some .int }, accessFlags := 1025, code := none }
def k13c1 : Code := { maxStack := 1, maxLocals := 0, code := jdk_72_method_26_code, exceptionTable := #[], attributes := #[] }
def k13m1 : Method := { name := "of", desc := "()Ljava/util/Map;", sig := { parameters := [], returnType := some (.object "java/util/Map") }, accessFlags := 9, code := some k13c1 }
/-- java/util/Map -/
def k13 : Class := { plain "java/util/Map" (some 0) with
  accessFlags := 1537
  interfaces := #[]
  cf := some (fileOf pool13 2 #[.nestMembers #[36]] #[{ accessFlags := 1025, nameIndex := 120, descriptorIndex := 121, attributes := #[] }, { accessFlags := 9, nameIndex := 108, descriptorIndex := 109, attributes := #[] }] 1537 93 #[] #[])
  fields := #[]
  methods := #[k13m0, k13m1]
  instanceTypes := #[]
  staticTypes := #[]
  resolved := Array.replicate 263 none
  statics := none }

def pool14 : Array CpInfo := pool [(2, .class_ 4), (1, u "java/lang/Object"), (0, u "<init>"), (0, u "()V"), (1, .class_ 10), (1, u "java/util/AbstractCollection"), (66, .class_ 78), (0, u "java/util/Collection")] 81

def k14m0 : Method := { name := "<init>", desc := "()V", sig := { parameters := [], returnType := none }, accessFlags := 4, code := none }
/-- java/util/AbstractCollection -/
def k14 : Class := { plain "java/util/AbstractCollection" (some 0) with
  accessFlags := 1057
  interfaces := #[9]
  cf := some (fileOf pool14 8 #[] #[{ accessFlags := 4, nameIndex := 5, descriptorIndex := 6, attributes := #[] }] 1057 2 #[77] #[])
  fields := #[]
  methods := #[k14m0]
  instanceTypes := #[]
  staticTypes := #[]
  resolved := Array.replicate 160 none
  statics := none }

def pool15 : Array CpInfo := pool [(2, .class_ 4), (1, u "java/util/AbstractCollection"), (0, u "<init>"), (0, u "()V"), (1, .class_ 10), (1, u "java/util/ImmutableCollections"), (2, .class_ 14), (0, u "java/util/ImmutableCollections$AbstractImmutableCollection")] 41

def k15m0 : Method := { name := "<init>", desc := "()V", sig := { parameters := [], returnType := none }, accessFlags := 0, code := none }
/-- java/util/ImmutableCollections$AbstractImmutableCollection -/
def k15 : Class := { plain "java/util/ImmutableCollections$AbstractImmutableCollection" (some 14) with
  accessFlags := 1056
  interfaces := #[]
  cf := some (fileOf pool15 13 #[.nestHost 8] #[{ accessFlags := 0, nameIndex := 5, descriptorIndex := 6, attributes := #[] }] 1056 2 #[] #[])
  fields := #[]
  methods := #[k15m0]
  instanceTypes := #[]
  staticTypes := #[]
  resolved := Array.replicate 56 none
  statics := none }

def pool16 : Array CpInfo := pool [(1, .class_ 2), (0, u "java/util/RandomAccess"), (0, .class_ 4), (0, u "java/lang/Object")] 2

/-- java/util/RandomAccess -/
def k16 : Class := { plain "java/util/RandomAccess" (some 0) with
  accessFlags := 1537
  interfaces := #[]
  cf := some (fileOf pool16 1 #[] #[] 1537 3 #[] #[])
  fields := #[]
  methods := #[]
  instanceTypes := #[]
  staticTypes := #[]
  resolved := Array.replicate 7 none
  statics := none }

def pool17 : Array CpInfo := pool [(2, .class_ 4), (1, u "java/util/ImmutableCollections$AbstractImmutableCollection"), (0, u "<init>"), (0, u "()V"), (1, .class_ 10), (1, u "java/util/ImmutableCollections"), (3, .class_ 16), (1, u "java/util/ImmutableCollections$AbstractImmutableList"), (60, .class_ 78), (0, u "java/util/List"), (45, .class_ 125), (0, u "java/util/RandomAccess")] 70

def k17m0 : Method := { name := "<init>", desc := "()V", sig := { parameters := [], returnType := none }, accessFlags := 0, code := none }
/-- java/util/ImmutableCollections$AbstractImmutableList -/
def k17 : Class := { plain "java/util/ImmutableCollections$AbstractImmutableList" (some 15) with
  accessFlags := 1056
  interfaces := #[11, 16]
  cf := some (fileOf pool17 14 #[.nestHost 8] #[{ accessFlags := 0, nameIndex := 5, descriptorIndex := 6, attributes := #[] }] 1056 2 #[77, 124] #[])
  fields := #[]
  methods := #[k17m0]
  instanceTypes := #[]
  staticTypes := #[]
  resolved := Array.replicate 196 none
  statics := none }

def pool18 : Array CpInfo := pool [(2, .class_ 4), (1, u "java/util/ImmutableCollections$AbstractImmutableList"), (2, .fieldref 8 9), (0, .class_ 10), (0, .nameAndType 11 12), (0, u "java/util/ImmutableCollections$ListN"), (0, u "elements"), (0, u "[Ljava/lang/Object;"), (2, u "allowNulls"), (0, u "Z"), (42, .class_ 60), (0, u "java/io/Serializable"), (16, u "size"), (0, u "()I"), (35, .class_ 115), (0, u "java/util/ImmutableCollections")] 3

def k18c0 : Code := { maxStack := 1, maxLocals := 1, code := jdk_45_method_3_code, exceptionTable := #[], attributes := #[] }
def k18m0 : Method := { name := "size", desc := "()I", sig := { parameters := [], returnType := some .int }, accessFlags := 1, code := some k18c0 }
/-- java/util/ImmutableCollections$ListN -/
def k18 : Class := { plain "java/util/ImmutableCollections$ListN" (some 17) with
  accessFlags := 48
  interfaces := #[4]
  cf := some (fileOf pool18 8 #[.nestHost 114] #[{ accessFlags := 1, nameIndex := 77, descriptorIndex := 78, attributes := #[] }] 48 2 #[59] #[{ accessFlags := 18, nameIndex := 11, descriptorIndex := 12, attributes := #[] }, { accessFlags := 18, nameIndex := 15, descriptorIndex := 16, attributes := #[] }])
  fields := #[{ name := "elements", type := (.array (.object "java/lang/Object")), accessFlags := 18, slot := 0, constantValue := 0 }, { name := "allowNulls", type := .boolean, accessFlags := 18, slot := 1, constantValue := 0 }]
  methods := #[k18m0]
  instanceTypes := #[(.array (.object "java/lang/Object")), .boolean]
  staticTypes := #[]
  resolved := Array.replicate 119 none
  statics := none }

def pool19 : Array CpInfo := pool [(2, .class_ 4), (1, u "java/lang/Object"), (0, u "<init>"), (0, u "()V"), (1, .class_ 10), (1, u "java/util/AbstractMap"), (42, .class_ 54), (0, u "java/util/Map"), (9, u "keySet"), (0, u "Ljava/util/Set;"), (0, .class_ 67), (0, u "java/util/AbstractMap$1"), (5, u "values"), (0, u "Ljava/util/Collection;"), (0, .class_ 76), (0, u "java/util/AbstractMap$2"), (104, .class_ 182), (0, u "java/util/AbstractMap$ViewCollection"), (0, .class_ 184), (0, u "java/util/AbstractMap$SimpleImmutableEntry"), (0, .class_ 186), (0, u "java/util/AbstractMap$SimpleEntry"), (0, .class_ 188), (0, u "java/util/AbstractMap$2$1"), (0, .class_ 190), (0, u "java/util/AbstractMap$1$1")] 5

def k19m0 : Method := { name := "<init>", desc := "()V", sig := { parameters := [], returnType := none }, accessFlags := 4, code := none }
/-- java/util/AbstractMap -/
def k19 : Class := { plain "java/util/AbstractMap" (some 0) with
  accessFlags := 1057
  interfaces := #[13]
  cf := some (fileOf pool19 8 #[.nestMembers #[181, 183, 185, 75, 187, 66, 189]] #[{ accessFlags := 4, nameIndex := 5, descriptorIndex := 6, attributes := #[] }] 1057 2 #[53] #[{ accessFlags := 128, nameIndex := 64, descriptorIndex := 65, attributes := #[] }, { accessFlags := 128, nameIndex := 73, descriptorIndex := 74, attributes := #[] }])
  fields := #[{ name := "keySet", type := (.object "java/util/Set"), accessFlags := 128, slot := 0, constantValue := 0 }, { name := "values", type := (.object "java/util/Collection"), accessFlags := 128, slot := 1, constantValue := 0 }]
  methods := #[k19m0]
  instanceTypes := #[(.object "java/util/Set"), (.object "java/util/Collection")]
  staticTypes := #[]
  resolved := Array.replicate 196 none
  statics := none }

def pool20 : Array CpInfo := pool [(2, .class_ 4), (1, u "java/util/AbstractMap"), (0, u "<init>"), (0, u "()V"), (1, .class_ 10), (1, u "java/util/ImmutableCollections"), (3, .class_ 16), (1, u "java/util/ImmutableCollections$AbstractImmutableMap"), (2, .class_ 20), (0, u "java/io/Serializable")] 66

def k20m0 : Method := { name := "<init>", desc := "()V", sig := { parameters := [], returnType := none }, accessFlags := 0, code := none }
/-- java/util/ImmutableCollections$AbstractImmutableMap -/
def k20 : Class := { plain "java/util/ImmutableCollections$AbstractImmutableMap" (some 19) with
  accessFlags := 1056
  interfaces := #[4]
  cf := some (fileOf pool20 14 #[.nestHost 8] #[{ accessFlags := 0, nameIndex := 5, descriptorIndex := 6, attributes := #[] }] 1056 2 #[19] #[])
  fields := #[]
  methods := #[k20m0]
  instanceTypes := #[(.object "java/util/Set"), (.object "java/util/Collection")]
  staticTypes := #[]
  resolved := Array.replicate 87 none
  statics := none }

def pool21 : Array CpInfo := pool [(1, .class_ 2), (0, u "java/util/ImmutableCollections"), (1, .class_ 6), (1, u "java/util/ImmutableCollections$AbstractImmutableMap"), (9, .fieldref 17 18), (0, .class_ 19), (0, .nameAndType 20 21), (0, u "java/util/ImmutableCollections$MapN"), (0, u "size"), (0, u "I"), (4, u "table"), (0, u "[Ljava/lang/Object;"), (36, u "()I")] 84

def k21c0 : Code := { maxStack := 1, maxLocals := 1, code := jdk_2605_method_6_code, exceptionTable := #[], attributes := #[] }
def k21m0 : Method := { name := "size", desc := "()I", sig := { parameters := [], returnType := some .int }, accessFlags := 1, code := some k21c0 }
/-- java/util/ImmutableCollections$MapN -/
def k21 : Class := { plain "java/util/ImmutableCollections$MapN" (some 20) with
  accessFlags := 48
  interfaces := #[]
  cf := some (fileOf pool21 17 #[.nestHost 1] #[{ accessFlags := 1, nameIndex := 20, descriptorIndex := 64, attributes := #[] }] 48 4 #[] #[{ accessFlags := 16, nameIndex := 26, descriptorIndex := 27, attributes := #[] }, { accessFlags := 16, nameIndex := 20, descriptorIndex := 21, attributes := #[] }])
  fields := #[{ name := "table", type := (.array (.object "java/lang/Object")), accessFlags := 16, slot := 2, constantValue := 0 }, { name := "size", type := .int, accessFlags := 16, slot := 3, constantValue := 0 }]
  methods := #[k21m0]
  instanceTypes := #[(.object "java/util/Set"), (.object "java/util/Collection"), (.array (.object "java/lang/Object")), .int]
  staticTypes := #[]
  resolved := Array.replicate 149 none
  statics := none }

def pool22 : Array CpInfo := pool [(1, u "java/lang/Cloneable"), (0, .class_ 1), (0, u "java/lang/Object"), (0, .class_ 3)] 3

/-- java/lang/Cloneable -/
def k22 : Class := { plain "java/lang/Cloneable" (some 0) with
  accessFlags := 1537
  interfaces := #[]
  cf := some (fileOf pool22 2 #[] #[] 1537 4 #[] #[])
  fields := #[]
  methods := #[]
  instanceTypes := #[]
  staticTypes := #[]
  resolved := Array.replicate 8 none
  statics := none }

/-- the primitive byte -/
def k23 : Class := { plain "byte" none with kind := .primitive 'B', accessFlags := 0x411 }
/-- [B -/
def k24 : Class := { plain "[B" (some 0) with kind := .array 23 .byte, interfaces := #[22, 4], accessFlags := 1041 }

/-- the primitive int -/
def k25 : Class := { plain "int" none with kind := .primitive 'I', accessFlags := 0x411 }
/-- [I -/
def k26 : Class := { plain "[I" (some 0) with kind := .array 25 .int, interfaces := #[22, 4], accessFlags := 1041 }

/-- [Ljava/lang/Object; -/
def k27 : Class := { plain "[Ljava/lang/Object;" (some 0) with kind := .array 0 (.object "java/lang/Object"), interfaces := #[22, 4], accessFlags := 1041 }

def heap : Heap := #[{ cls := 6, slots := #[.null, .null, .null, .null, .ref 4, .ref 5, .ref 6, .null], vm := .statics 6 },
  { cls := 12, slots := #[.long 0, .int 0, .null, .null, .ref 7, .null, .null, .ref 8, .int 0, .int 0], vm := .statics 12 },
  { cls := 27, slots := #[], vm := .none },
  { cls := 27, slots := #[], vm := .none },
  { cls := 6, slots := #[.null, .int 0, .int 0], vm := .none },
  { cls := 6, slots := #[.null, .int 1, .int 0], vm := .none },
  { cls := 6, slots := #[.null, .int 2, .int 0], vm := .none },
  { cls := 18, slots := #[.ref 2, .int 0], vm := .none },
  { cls := 21, slots := #[.null, .null, .ref 3, .int 0], vm := .none }]
def classes : Array Class := #[k0, k1, k2, k3, k4, k5, k6, k7, k8, k9, k10, k11, k12, k13, k14, k15, k16, k17, k18, k19, k20, k21, k22, k23, k24, k25, k26, k27]
def interned : List (Array UInt16 × Addr) := []
def slotsUsed : Nat := 33
def theMethod : MethodId := ⟨1, 2⟩
def args0 : Array Value := #[.int 5]
def aboutOver (below : List Frame) : State where
  vm := { classes := classes, interned := interned.toArray }
  heap := heap
  slotsUsed := slotsUsed
  threads := #[{ frames := .invoking theMethod args0 :: below }]
def below0 : List Frame := [.native { method := ⟨0, 0⟩, args := #[] }]
def about1 : State := aboutOver below0
def p0 : Program := .bare "" "" ""
def e0 : Env := launch0.env 0 0 0
theorem w_frames : about1.frames = Frame.invoking theMethod args0 :: below0 := rfl
set_option maxRecDepth 65536 in
theorem w_args : argsFit about1.vm theMethod args0 = true := by decide +kernel
set_option maxRecDepth 65536 in
theorem w_heap : heapFits about1 = true := by decide +kernel
set_option maxRecDepth 65536 in
theorem w_runnable : about1.curStatus? = some .runnable := by decide +kernel
set_option maxRecDepth 65536 in
theorem w_alone : about1.alone = true := by decide +kernel
set_option maxRecDepth 65536 in
theorem w_named : about1.methodNamed? x = some theMethod := by decide +kernel
set_option maxRecDepth 65536 in
theorem w_hears : about1.hears theMethod below0 = true := by decide +kernel
set_option maxRecDepth 65536 in
theorem w_ripe : about1.ripe theMethod args0 below0 = true := by decide +kernel
theorem w_running : about1.status = .running := rfl
set_option maxRecDepth 65536 in
theorem w_room : about1.hasRoom e0.platform room_1 = true :=
  launch0.hasRoom_least _ room_1 (by decide +kernel) (by decide +kernel) (by decide +kernel) (by decide +kernel) (by decide +kernel) (by decide +kernel)
theorem allAtoms_all (ts : List Jvm.Cond) (a : Array Jvm.Value) (st : Jvm.State) : (allAtoms ts).before a st = ts.all (fun c => c.before a st) := by
  induction ts with
  | nil => rfl
  | cons c t ih =>
    show (Jvm.Cond.and c (allAtoms t)).before a st = _
    rw [Jvm.Cond.before_and, ih, List.all_cons]
def words1 : List Jvm.Cond := Jvm.Cond.code x code maxLocals ret :: tables_1
/-- a 'code' word, met by the world's own term for the bytes: nothing is compared byte by byte -/
theorem code_word {y : MethodName} {bytes : ByteArray} {mx : Nat} {rt : Option FieldType} {a : Array Value} {s : State} {m : MethodId} {meth : Method} {c : Code} (h1 : s.methodNamed? y = some m) (h2 : s.vm.method? m = some meth) (h3 : meth.code = some c) (h4 : c.code = bytes)
    (h5 : (c.maxLocals == mx && c.exceptionTable.isEmpty && decide (c.maxStack ≤ mostOperands) && decide (meth.sig.returnType = rt) && !meth.locks && decide (parseMethodDescriptor y.desc = some meth.sig)) = true) : (Jvm.Cond.code y bytes mx rt).before a s = true := by
  simp only [Bool.and_eq_true, beq_iff_eq, Bool.not_eq_true', decide_eq_true_eq] at h5
  obtain ⟨⟨⟨⟨⟨g1, g2⟩, g3⟩, g4⟩, g5⟩, g6⟩ := h5
  simp [Cond.before, Cond.holds, Cond.value, h1, h2, h3, h4, g1, g2, g3, g4, g5, g6]
def isCode : Jvm.Cond → Bool
  | .code _ _ _ _ => true
  | _ => false
theorem all_split {L : List Jvm.Cond} {P : Jvm.Cond → Bool} (h1 : L.all (fun c => isCode c || P c) = true) (h2 : ∀ c ∈ L.filter isCode, P c = true) : L.all P = true := by
  refine List.all_eq_true.mpr fun c hc => ?_
  have h := List.all_eq_true.mp h1 c hc
  rcases Bool.eq_false_or_eq_true (isCode c) with hi | hi
  · exact h2 c (List.mem_filter.mpr ⟨hc, hi⟩)
  · simpa [hi] using h
set_option maxRecDepth 65536 in
theorem w_c0 : (Jvm.Cond.code x code maxLocals ret).before args0 about1 = true := code_word (m := ⟨1, 2⟩) (meth := k1m2) (c := k1c2) (by decide +kernel) rfl rfl rfl (by decide +kernel)
set_option maxRecDepth 65536 in
theorem w_c1 : (Jvm.Cond.code ({ cls := "com/example/apportion/apportion/policy/JsonValueWordPinLaw", name := "pick", desc := "(I)Lcom/example/apportion/apportion/policy/JsonValue$Kind;" } : Jvm.MethodName) method_2_code (2 : Nat) (Option.some (Jvm.ClassFile.FieldType.object "com/example/apportion/apportion/policy/JsonValue$Kind"))).before args0 about1 = true := code_word (m := ⟨1, 1⟩) (meth := k1m1) (c := k1c1) (by decide +kernel) rfl rfl rfl (by decide +kernel)
set_option maxRecDepth 65536 in
theorem w_c2 : (Jvm.Cond.code ({ cls := "com/example/apportion/apportion/policy/JsonValue", name := "word", desc := "(Lcom/example/apportion/apportion/policy/JsonValue$Kind;)Lcom/example/apportion/apportion/policy/JsonValue;" } : Jvm.MethodName) prog_62_method_5_code (1 : Nat) (Option.some (Jvm.ClassFile.FieldType.object "com/example/apportion/apportion/policy/JsonValue"))).before args0 about1 = true := code_word (m := ⟨7, 1⟩) (meth := k7m1) (c := k7c1) (by decide +kernel) rfl rfl rfl (by decide +kernel)
set_option maxRecDepth 65536 in
theorem w_c3 : (Jvm.Cond.code ({ cls := "java/util/List", name := "of", desc := "()Ljava/util/List;" } : Jvm.MethodName) jdk_40_method_36_code (0 : Nat) (Option.some (Jvm.ClassFile.FieldType.object "java/util/List"))).before args0 about1 = true := code_word (m := ⟨11, 1⟩) (meth := k11m1) (c := k11c1) (by decide +kernel) rfl rfl rfl (by decide +kernel)
set_option maxRecDepth 65536 in
theorem w_c4 : (Jvm.Cond.code ({ cls := "java/util/Map", name := "of", desc := "()Ljava/util/Map;" } : Jvm.MethodName) jdk_72_method_26_code (0 : Nat) (Option.some (Jvm.ClassFile.FieldType.object "java/util/Map"))).before args0 about1 = true := code_word (m := ⟨13, 1⟩) (meth := k13m1) (c := k13c1) (by decide +kernel) rfl rfl rfl (by decide +kernel)
set_option maxRecDepth 65536 in
theorem w_c5 : (Jvm.Cond.code ({ cls := "com/example/apportion/apportion/policy/JsonValue", name := "<init>", desc := "(Lcom/example/apportion/apportion/policy/JsonValue$Kind;Ljava/lang/String;Ljava/util/List;Ljava/util/Map;)V" } : Jvm.MethodName) prog_62_method_1_code (5 : Nat) (Option.none : Option Jvm.ClassFile.FieldType)).before args0 about1 = true := code_word (m := ⟨7, 0⟩) (meth := k7m0) (c := k7c0) (by decide +kernel) rfl rfl rfl (by decide +kernel)
set_option maxRecDepth 65536 in
theorem w_c6 : (Jvm.Cond.code ({ cls := "java/lang/Object", name := "<init>", desc := "()V" } : Jvm.MethodName) object_method_1_code (1 : Nat) (Option.none : Option Jvm.ClassFile.FieldType)).before args0 about1 = true := code_word (m := ⟨0, 0⟩) (meth := k0m0) (c := k0c0) (by decide +kernel) rfl rfl rfl (by decide +kernel)
set_option maxRecDepth 65536 in
theorem w_c7 : (Jvm.Cond.code ({ cls := "com/example/apportion/apportion/policy/JsonValue", name := "getKind", desc := "()Lcom/example/apportion/apportion/policy/JsonValue$Kind;" } : Jvm.MethodName) prog_62_method_6_code (1 : Nat) (Option.some (Jvm.ClassFile.FieldType.object "com/example/apportion/apportion/policy/JsonValue$Kind"))).before args0 about1 = true := code_word (m := ⟨7, 2⟩) (meth := k7m2) (c := k7c2) (by decide +kernel) rfl rfl rfl (by decide +kernel)
set_option maxRecDepth 65536 in
theorem w_c8 : (Jvm.Cond.code ({ cls := "com/example/apportion/apportion/policy/JsonValue", name := "getText", desc := "()Ljava/lang/String;" } : Jvm.MethodName) prog_62_method_7_code (1 : Nat) (Option.some (Jvm.ClassFile.FieldType.object "java/lang/String"))).before args0 about1 = true := code_word (m := ⟨7, 3⟩) (meth := k7m3) (c := k7c3) (by decide +kernel) rfl rfl rfl (by decide +kernel)
set_option maxRecDepth 65536 in
theorem w_c9 : (Jvm.Cond.code ({ cls := "com/example/apportion/apportion/policy/JsonValue", name := "getItems", desc := "()Ljava/util/List;" } : Jvm.MethodName) prog_62_method_8_code (1 : Nat) (Option.some (Jvm.ClassFile.FieldType.object "java/util/List"))).before args0 about1 = true := code_word (m := ⟨7, 4⟩) (meth := k7m4) (c := k7c4) (by decide +kernel) rfl rfl rfl (by decide +kernel)
set_option maxRecDepth 65536 in
theorem w_c10 : (Jvm.Cond.code ({ cls := "java/util/ImmutableCollections$ListN", name := "size", desc := "()I" } : Jvm.MethodName) jdk_45_method_3_code (1 : Nat) (Option.some Jvm.ClassFile.FieldType.int)).before args0 about1 = true := code_word (m := ⟨18, 0⟩) (meth := k18m0) (c := k18c0) (by decide +kernel) rfl rfl rfl (by decide +kernel)
set_option maxRecDepth 65536 in
theorem w_c11 : (Jvm.Cond.code ({ cls := "com/example/apportion/apportion/policy/JsonValue", name := "getMembers", desc := "()Ljava/util/Map;" } : Jvm.MethodName) prog_62_method_9_code (1 : Nat) (Option.some (Jvm.ClassFile.FieldType.object "java/util/Map"))).before args0 about1 = true := code_word (m := ⟨7, 5⟩) (meth := k7m5) (c := k7c5) (by decide +kernel) rfl rfl rfl (by decide +kernel)
set_option maxRecDepth 65536 in
theorem w_c12 : (Jvm.Cond.code ({ cls := "java/util/ImmutableCollections$MapN", name := "size", desc := "()I" } : Jvm.MethodName) jdk_2605_method_6_code (1 : Nat) (Option.some Jvm.ClassFile.FieldType.int)).before args0 about1 = true := code_word (m := ⟨21, 0⟩) (meth := k21m0) (c := k21c0) (by decide +kernel) rfl rfl rfl (by decide +kernel)
def codes1 : List Jvm.Cond := [Jvm.Cond.code x code maxLocals ret, Jvm.Cond.code ({ cls := "com/example/apportion/apportion/policy/JsonValueWordPinLaw", name := "pick", desc := "(I)Lcom/example/apportion/apportion/policy/JsonValue$Kind;" } : Jvm.MethodName) method_2_code (2 : Nat) (Option.some (Jvm.ClassFile.FieldType.object "com/example/apportion/apportion/policy/JsonValue$Kind")), Jvm.Cond.code ({ cls := "com/example/apportion/apportion/policy/JsonValue", name := "word", desc := "(Lcom/example/apportion/apportion/policy/JsonValue$Kind;)Lcom/example/apportion/apportion/policy/JsonValue;" } : Jvm.MethodName) prog_62_method_5_code (1 : Nat) (Option.some (Jvm.ClassFile.FieldType.object "com/example/apportion/apportion/policy/JsonValue")), Jvm.Cond.code ({ cls := "java/util/List", name := "of", desc := "()Ljava/util/List;" } : Jvm.MethodName) jdk_40_method_36_code (0 : Nat) (Option.some (Jvm.ClassFile.FieldType.object "java/util/List")), Jvm.Cond.code ({ cls := "java/util/Map", name := "of", desc := "()Ljava/util/Map;" } : Jvm.MethodName) jdk_72_method_26_code (0 : Nat) (Option.some (Jvm.ClassFile.FieldType.object "java/util/Map")), Jvm.Cond.code ({ cls := "com/example/apportion/apportion/policy/JsonValue", name := "<init>", desc := "(Lcom/example/apportion/apportion/policy/JsonValue$Kind;Ljava/lang/String;Ljava/util/List;Ljava/util/Map;)V" } : Jvm.MethodName) prog_62_method_1_code (5 : Nat) (Option.none : Option Jvm.ClassFile.FieldType), Jvm.Cond.code ({ cls := "java/lang/Object", name := "<init>", desc := "()V" } : Jvm.MethodName) object_method_1_code (1 : Nat) (Option.none : Option Jvm.ClassFile.FieldType), Jvm.Cond.code ({ cls := "com/example/apportion/apportion/policy/JsonValue", name := "getKind", desc := "()Lcom/example/apportion/apportion/policy/JsonValue$Kind;" } : Jvm.MethodName) prog_62_method_6_code (1 : Nat) (Option.some (Jvm.ClassFile.FieldType.object "com/example/apportion/apportion/policy/JsonValue$Kind")), Jvm.Cond.code ({ cls := "com/example/apportion/apportion/policy/JsonValue", name := "getText", desc := "()Ljava/lang/String;" } : Jvm.MethodName) prog_62_method_7_code (1 : Nat) (Option.some (Jvm.ClassFile.FieldType.object "java/lang/String")), Jvm.Cond.code ({ cls := "com/example/apportion/apportion/policy/JsonValue", name := "getItems", desc := "()Ljava/util/List;" } : Jvm.MethodName) prog_62_method_8_code (1 : Nat) (Option.some (Jvm.ClassFile.FieldType.object "java/util/List")), Jvm.Cond.code ({ cls := "java/util/ImmutableCollections$ListN", name := "size", desc := "()I" } : Jvm.MethodName) jdk_45_method_3_code (1 : Nat) (Option.some Jvm.ClassFile.FieldType.int), Jvm.Cond.code ({ cls := "com/example/apportion/apportion/policy/JsonValue", name := "getMembers", desc := "()Ljava/util/Map;" } : Jvm.MethodName) prog_62_method_9_code (1 : Nat) (Option.some (Jvm.ClassFile.FieldType.object "java/util/Map")), Jvm.Cond.code ({ cls := "java/util/ImmutableCollections$MapN", name := "size", desc := "()I" } : Jvm.MethodName) jdk_2605_method_6_code (1 : Nat) (Option.some Jvm.ClassFile.FieldType.int)]
set_option maxRecDepth 65536 in
theorem codes_eq : words1.filter isCode = codes1 := rfl
theorem w_codes : ∀ c ∈ words1.filter isCode, c.before args0 about1 = true := by
  rw [codes_eq]
  intro c hc
  simp only [codes1, List.mem_cons, List.not_mem_nil, or_false] at hc
  rcases hc with rfl | rfl | rfl | rfl | rfl | rfl | rfl | rfl | rfl | rfl | rfl | rfl | rfl
  · exact w_c0
  · exact w_c1
  · exact w_c2
  · exact w_c3
  · exact w_c4
  · exact w_c5
  · exact w_c6
  · exact w_c7
  · exact w_c8
  · exact w_c9
  · exact w_c10
  · exact w_c11
  · exact w_c12
set_option maxRecDepth 65536 in
theorem w_t1 : (words1.take 24).all (fun c => isCode c || c.before args0 about1) = true := by decide +kernel
set_option maxRecDepth 65536 in
theorem w_t2 : ((words1.drop 24).take 24).all (fun c => isCode c || c.before args0 about1) = true := by decide +kernel
set_option maxRecDepth 65536 in
theorem w_t3 : (((words1.drop 24).drop 24).take 24).all (fun c => isCode c || c.before args0 about1) = true := by decide +kernel
set_option maxRecDepth 65536 in
theorem w_t4 : (((words1.drop 24).drop 24).drop 24).all (fun c => isCode c || c.before args0 about1) = true := by decide +kernel
theorem w_tables : (allAtoms (Jvm.Cond.code x code maxLocals ret :: tables_1)).before args0 about1 = true := by
  rw [allAtoms_all]
  show words1.all (fun c => c.before args0 about1) = true
  refine all_split ?_ w_codes
  rw [← List.take_append_drop 24 words1, List.all_append, w_t1, ← List.take_append_drop 24 (words1.drop 24), List.all_append, w_t2, ← List.take_append_drop 24 ((words1.drop 24).drop 24), List.all_append, w_t3, w_t4]
  rfl
set_option maxRecDepth 65536 in
theorem w_rest : rest_1_c.before args0 about1 = true := by decide +kernel
set_option maxRecDepth 65536 in
theorem w_case : (Jvm.Cond.and given_1 narrow_1).before args0 about1 = true := by decide +kernel
theorem w_applies : (headSpec (Jvm.Cond.code x code maxLocals ret :: tables_1) room_1).applies x e0.platform about1 = true :=
  (Spec.applies_iff w_frames).mpr ⟨w_running, w_runnable, w_alone, w_named, w_hears, w_ripe, w_room, w_tables⟩
theorem atStart : AtStart classFile x code maxLocals ret World_1 tables_1 room_1 Calls_1 rest_1 Pre_1 launch0 p0 e0 about1 theMethod args0 below0 :=
  ⟨lists_1, trivial, launch0.admits_env _ _ _, launch0.least_env, fairChoices_fair.cas, fairChoices_fair.clock, w_frames, w_args, w_heap, w_applies, trivial, w_rest, w_case⟩
end start1
theorem witness_1 : WitnessClaimed_1 := ⟨start1.p0, start1.e0, start1.about1, start1.theMethod, start1.args0, start1.below0, start1.atStart⟩
end Jvm.Pilot.@@N@@
