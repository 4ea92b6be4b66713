import JvmDerived
import JvmDerived.Pilot.@@N@@Statement
import JvmDerived.Pilot.@@N@@Code
set_option linter.unusedVariables false
set_option linter.unusedSimpArgs false
namespace Jvm.Pilot.@@N@@
open Jvm Jvm.ClassFile Sem Op Lib Jvm.Free Jvm.Stand Jvm.LawKit Jvm.RoadKit Bundle Jvm.Pilot.@@N@@.Jvm.D
/-- whatever is reached from v is reached from u -/
abbrev To (tb : Tables) (e : Env) (below : List Frame) (u v : State) : Prop := ∀ t, Steps tb e below v t → Steps tb e below u t
/-- a body's contract: called with as' over the heap h0 it returns, and Q holds of what it returns, of the heap and of the places written -/
abbrev Con (l : Launch) (Z : State) (y : MethodName) (bs : ByteArray) (ml : Nat) (rt : Option FieldType) (ws : List Jvm.Cond) (R : Room) (as' : Array Value) (h0 : Heap) (Q : Option Value → Heap → List Loc → Prop) : Prop :=
  MetFree l y (head1 (Jvm.Cond.code y bs ml rt :: ws) R) (fun a U => a = as' ∧ Z.Warmed39 U.vm ∧ U.heap = h0) (fun _ _ _ _ _ => True) (fun _ U o U' => ∃ v L, o = .returned v ∧ Q v U'.heap L ∧ FrameEnd U o U' L R.cells R.slots)
/-- the walk from S0 has ended well -/
def Fin (p : Program) (e : Env) (below : List Frame) (s : State) (R : Room) (S0 : State) (Q : Option Value → Heap → List Loc → Prop) : Prop :=
  ∃ s₂ o, Steps p.tables e below S0 s₂ ∧ s₂.status = .running ∧ Ended s₂ below o ∧ ∃ v L, o = .returned v ∧ Q v s₂.heap L ∧ FrameEnd s o s₂ L R.cells R.slots
section Own
variable {p : Program} {l : Launch} {e : Env} {R : Room} {s : State} {m : MethodId} {args : Array Value} {below : List Frame} {meth : Method} {c : Code} {T S0 : State} {locs : List Loc} {cells slots : Nat} {Z : State} {a0 : Array Value} {h : Heap} {Q : Option Value → Heap → List Loc → Prop}
theorem enter {y : MethodName} {bs : ByteArray} {ml : Nat} {rt : Option FieldType} {ws : List Jvm.Cond} {as' : Array Value} {h0 : Heap} {Ls : Array Slot} (hpl : plainFor y = true) (hef : ∀ m, entryFrame m as' ml = mkF m 0 Ls [])
    (body : ∀ (p : Program) (e : Env) (s : State) (m : MethodId) (below : List Frame) (meth : Method) (c : Code) (s₁ S0 : State), p.tables.exec = Jvm.exec → c.code = bs → c.maxLocals = ml → meth.sig.returnType = rt → meth.locks = false → meth.name = y.name →
      s.vm.findClass y.cls = some m.cls → Z.Warmed39 s.vm → Stand p l e R s m as' below meth c s₁ [] 0 0 → s₁.heap = h0 → To p.tables e below S0 (s₁.setTop (mkF m 0 Ls [])) → Fin p e below s R S0 Q) : Con l Z y bs ml rt ws R as' h0 Q := by
  refine MetFree.of_bodySF hpl hisR ?_
  intro p e s m args below meth c s₁ Bd hml0 hP hK
  obtain ⟨rfl, hZ, hh⟩ := hP
  exact body p e s m below meth c s₁ _ Bd.exec Bd.bytes hml0 Bd.returns Bd.notSynchronized (name_of_methodNamed Bd.named Bd.method).1 (findClass_of_methodNamed Bd.named) hZ (Stand.of_body Bd) (by rw [← hh, Bd.state]; rfl) (fun t k => castTop (hef m) k)
theorem retV (X : Stand p l e R s m args below meth c T locs cells slots) (hx : p.tables.exec = Jvm.exec) {pc : Nat} {Ls : Array Slot} {w : Value} {t : FieldType} {i : Instr} {rest : List Value} (hret : meth.sig.returnType = some t) (hlk : meth.locks = false) (hn : narrow t w = w)
    (hi : (i = .ireturn ∧ (t = .int ∨ t = .boolean ∨ t = .byte ∨ t = .char ∨ t = .short) ∧ ∃ z, w = .int z) ∨ (i = .lreturn ∧ t = .long ∧ ∃ z, w = .long z) ∨ (i = .dreturn ∧ t = .double ∧ ∃ z, w = .double z) ∨ (i = .freturn ∧ t = .float ∧ ∃ z, w = .float z) ∨ (i = .areturn ∧ t.isReference = true ∧ w.isRef = true))
    (hd : decode c.code pc = .ok (i, 1)) (k : To p.tables e below S0 (T.setTop (mkF m pc Ls (w :: rest)))) (hQ : Q (some w) T.heap locs) (hc : cells ≤ R.cells) (hs : slots ≤ R.slots) : Fin p e below s R S0 Q := by
  obtain ⟨fs, hr, hrun, hended, hW, hsame⟩ := X.leave (v := some w) (fun h => by rw [hret] at h; cases h) hlk
  exact ⟨_, _, k _ (retOut X hx hret hn hi hd hr), hrun, hended, _, _, rfl, hQ, ⟨_, rfl⟩, hW, hsame.mono hc hs⟩
theorem retInt (X : Stand p l e R s m args below meth c T locs cells slots) (hx : p.tables.exec = Jvm.exec) {pc : Nat} {Ls : Array Slot} {z : Int32} {t : FieldType} {rest : List Value} (hret : meth.sig.returnType = some t) (hlk : meth.locks = false) (ht : t = .int ∨ t = .boolean ∨ t = .byte ∨ t = .char ∨ t = .short) (hn : narrow t (.int z) = .int z)
    (hd : decode c.code pc = .ok (.ireturn, 1)) (k : To p.tables e below S0 (T.setTop (mkF m pc Ls (.int z :: rest)))) (hQ : Q (some (.int z)) T.heap locs) (hc : cells ≤ R.cells) (hs : slots ≤ R.slots) : Fin p e below s R S0 Q :=
  retV X hx hret hlk hn (Or.inl ⟨rfl, ht, z, rfl⟩) hd k hQ hc hs
theorem retRef (X : Stand p l e R s m args below meth c T locs cells slots) (hx : p.tables.exec = Jvm.exec) {pc : Nat} {Ls : Array Slot} {w : Value} {t : FieldType} {rest : List Value} (hret : meth.sig.returnType = some t) (hlk : meth.locks = false) (ht : t.isReference = true) (hw : w.isRef = true)
    (hd : decode c.code pc = .ok (.areturn, 1)) (k : To p.tables e below S0 (T.setTop (mkF m pc Ls (w :: rest)))) (hQ : Q (some w) T.heap locs) (hc : cells ≤ R.cells) (hs : slots ≤ R.slots) : Fin p e below s R S0 Q :=
  retV X hx hret hlk (by rcases ref_cases hw with rfl | ⟨z, rfl⟩ <;> cases t <;> first | rfl | (cases ht; done)) (Or.inr (Or.inr (Or.inr (Or.inr ⟨rfl, ht, hw⟩)))) hd k hQ hc hs
theorem retLong (X : Stand p l e R s m args below meth c T locs cells slots) (hx : p.tables.exec = Jvm.exec) {pc : Nat} {Ls : Array Slot} {z : Int64} {rest : List Value} (hret : meth.sig.returnType = some .long) (hlk : meth.locks = false)
    (hd : decode c.code pc = .ok (.lreturn, 1)) (k : To p.tables e below S0 (T.setTop (mkF m pc Ls (.long z :: rest)))) (hQ : Q (some (.long z)) T.heap locs) (hc : cells ≤ R.cells) (hs : slots ≤ R.slots) : Fin p e below s R S0 Q :=
  retV X hx hret hlk rfl (Or.inr (Or.inl ⟨rfl, rfl, z, rfl⟩)) hd k hQ hc hs
theorem retVoid (X : Stand p l e R s m args below meth c T locs cells slots) (hx : p.tables.exec = Jvm.exec) {pc : Nat} {Ls : Array Slot} (hret : meth.sig.returnType = none) (hlk : meth.locks = false)
    (hd : decode c.code pc = .ok (.return_, 1)) (k : To p.tables e below S0 (T.setTop (mkF m pc Ls []))) (hQ : Q none T.heap locs) (hc : cells ≤ R.cells) (hs : slots ≤ R.slots) : Fin p e below s R S0 Q := by
  obtain ⟨fs, hr, hrun, hended, hW, hsame⟩ := X.leave (v := none) (fun _ => rfl) hlk
  exact ⟨_, _, k _ (X.returnOut hx hret hd hr), hrun, hended, _, _, rfl, hQ, ⟨_, rfl⟩, hW, hsame.mono hc hs⟩
theorem backC {y : MethodName} {bs : ByteArray} {ml : Nat} {rt : Option FieldType} {rm : Room} {len W : Nat} {as' : Array Value} (hM : Con l Z y bs ml rt [] rm as' h Q) (hZ : Z.Warmed39 s.vm) (wc : (Cond.code y bs ml rt).before a0 Z = true) (wz : (Cond.initialized y.cls).before a0 Z = true) (hf : rm.frames + 1 ≤ R.frames) (hl : W + (ml + 11) + rm.locals ≤ R.locals) :
    Back l R p e below s args y len W (fun A a => a = as' ∧ A.U.heap = h ∧ A.cells + rm.cells ≤ R.cells ∧ A.slots + rm.slots ≤ R.slots) (fun A _ v B => ∃ L, Q v B.U.heap L ∧ B.locs = A.locs ++ L ∧ B.cells = A.cells + rm.cells ∧ B.slots = A.slots + rm.slots) :=
  backOf (Q := Q) hM hZ wc wz hf hl
/-! calls by a contract -/
theorem callS' (X : Stand p l e R s m args below meth c T locs cells slots) (hx : p.tables.exec = Jvm.exec) (hZ : Z.Warmed39 s.vm) {own : String} {index : Nat} {y : MethodName} {bs : ByteArray} {ml : Nat} {rt : Option FieldType} {cc ss W : Nat} {as' : Array Value} {Q : Option Value → Heap → List Loc → Prop}
    (hown : s.vm.findClass own = some m.cls) (w1 : (Cond.methodLink own index y).before a0 Z = true) (w2 : (Cond.static y).before a0 Z = true) (w3 : (Cond.initialized y.cls).before a0 Z = true) (w4 : (Cond.code y bs ml rt).before a0 Z = true) (hy : y.cls ≠ "java/lang/invoke/MethodHandle" ∧ y.cls ≠ "java/lang/invoke/VarHandle")
    (hK : Back l R p e below s args y 3 W (fun A a => a = as' ∧ A.U.heap = h ∧ A.cells + cc ≤ R.cells ∧ A.slots + ss ≤ R.slots) (fun A _ v B => ∃ L, Q v B.U.heap L ∧ B.locs = A.locs ++ L ∧ B.cells = A.cells + cc ∧ B.slots = A.slots + ss)) (eT : T.heap = h) {pc : Nat} {Ls : Array Slot} {st argsL rest : List Value} (hst : st = argsL.reverse ++ rest) (has : argsL.toArray = as') {ps : List FieldType} {r : Option FieldType} (hpd : parseMethodDescriptor y.desc = some ⟨ps, r⟩) (hlen : argsL.length = ps.length) (hsize : Ls.size = c.maxLocals)
    (hd : decode c.code pc = .ok (.invokestatic index, 3)) (hW : (rest.map fun v => v.category).sum ≤ W) (hc : cells + cc ≤ R.cells) (hs : slots + ss ≤ R.slots) (k : To p.tables e below S0 (T.setTop (mkF m pc Ls st))) :
    ∃ v T' L, Stand p l e R s m args below meth c T' (locs ++ L) (cells + cc) (slots + ss) ∧ Q v T'.heap L ∧ To p.tables e below S0 (T'.setTop (mkF m (pc + 3) Ls (v.toList ++ rest))) := by
  obtain ⟨v, vm₁, ⟨T', L', k', n'⟩, -, X', ⟨L, hQ, q1, q2, q3⟩, stp⟩ := Jvm.LawKit.callS X hx hown (mvT hZ w1) (mvT hZ w2) (mvT hZ w3) (mvT hZ w4) hy hK (g := mkF m pc Ls st) rfl hsize (argsL := argsL) (rest := rest) (lenOf hpd hlen) hst (by show 2 * 0 + _ ≤ _; omega) hd (fun _ _ => ⟨has, eT, hc, hs⟩)
  dsimp only [Pt.U, Pt.locs, Pt.cells, Pt.slots] at X' q1 q2 q3 stp hQ
  subst q1 q2 q3
  exact ⟨v, T', L, X', hQ, fun t q => k t (stp t q)⟩
theorem callC' (X : Stand p l e R s m args below meth c T locs cells slots) (hx : p.tables.exec = Jvm.exec) (hZ : Z.Warmed39 s.vm) {own : String} {index : Nat} {y : MethodName} {bs : ByteArray} {ml : Nat} {cc ss W : Nat} {as' : Array Value} {Q : Option Value → Heap → List Loc → Prop}
    (hy1 : y.name = "<init>") (hown : s.vm.findClass own = some m.cls) (w1 : (Cond.methodLink own index y).before a0 Z = true) (w2 : (Cond.instanceMethod y).before a0 Z = true) (w4 : (Cond.code y bs ml none).before a0 Z = true) (hy : y.cls ≠ "java/lang/invoke/MethodHandle" ∧ y.cls ≠ "java/lang/invoke/VarHandle")
    (hK : Back l R p e below s args y 3 W (fun A a => a = as' ∧ A.U.heap = h ∧ A.cells + cc ≤ R.cells ∧ A.slots + ss ≤ R.slots) (fun A _ v B => ∃ L, Q v B.U.heap L ∧ B.locs = A.locs ++ L ∧ B.cells = A.cells + cc ∧ B.slots = A.slots + ss)) (eT : T.heap = h) {pc : Nat} {Ls : Array Slot} {a : Addr} {st argsL rest : List Value} (hst : st = argsL.reverse ++ .ref a :: rest) (has : (.ref a :: argsL).toArray = as') {ps : List FieldType} {r : Option FieldType} (hpd : parseMethodDescriptor y.desc = some ⟨ps, r⟩) (hlen : argsL.length = ps.length) (hsize : Ls.size = c.maxLocals)
    (hd : decode c.code pc = .ok (.invokespecial index, 3)) (hW : (rest.map fun v => v.category).sum ≤ W) (hc : cells + cc ≤ R.cells) (hs : slots + ss ≤ R.slots) (k : To p.tables e below S0 (T.setTop (mkF m pc Ls st))) :
    ∃ v T' L, Stand p l e R s m args below meth c T' (locs ++ L) (cells + cc) (slots + ss) ∧ Q v T'.heap L ∧ To p.tables e below S0 (T'.setTop (mkF m (pc + 3) Ls (v.toList ++ rest))) := by
  obtain ⟨v, vm₁, ⟨T', L', k', n'⟩, -, X', ⟨L, hQ, q1, q2, q3⟩, stp⟩ := X.specialBack hx hy1 hown (mvT hZ w1) (mvT hZ w2) (mvT hZ w4) hy hK (g := mkF m pc Ls st) rfl hsize (Steps.refl _) (a := a) (argsL := argsL) (rest := rest) (lenOf hpd hlen) hst (by show 2 * 0 + _ ≤ _; omega) hd (fun _ _ => ⟨has, eT, hc, hs⟩)
  dsimp only [Pt.U, Pt.locs, Pt.cells, Pt.slots] at X' q1 q2 q3 stp hQ
  subst q1 q2 q3
  exact ⟨v, T', L, X', hQ, fun t q => k t (stp.trans q)⟩
theorem callV' (X : Stand p l e R s m args below meth c T locs cells slots) (hx : p.tables.exec = Jvm.exec) (hZ : Z.Warmed39 s.vm) {own C : String} {index : Nat} {y z : MethodName} {cc ss W : Nat} {as' : Array Value} {Q : Option Value → Heap → List Loc → Prop}
    (hown : s.vm.findClass own = some m.cls) (w1 : (Cond.methodLink own index y).before a0 Z = true) (w2 : (Cond.declares y).before a0 Z = true) (hnf : NotFace s y) (w5 : (Cond.selects C y z).before a0 Z = true) (w6 : (Cond.instanceMethod z).before a0 Z = true)
    (hy : y.cls ≠ "java/lang/invoke/MethodHandle" ∧ y.cls ≠ "java/lang/invoke/VarHandle") {b : Addr} (E : Exa Z h b C)
    (hK : Back l R p e below s args z 3 W (fun A a => a = as' ∧ A.U.heap = h ∧ A.cells + cc ≤ R.cells ∧ A.slots + ss ≤ R.slots) (fun A _ v B => ∃ L, Q v B.U.heap L ∧ B.locs = A.locs ++ L ∧ B.cells = A.cells + cc ∧ B.slots = A.slots + ss)) (eT : T.heap = h) {pc : Nat} {Ls : Array Slot} {st argsL rest : List Value} (hst : st = argsL.reverse ++ .ref b :: rest) (has : (.ref b :: argsL).toArray = as') {ps : List FieldType} {r : Option FieldType} (hpd : parseMethodDescriptor y.desc = some ⟨ps, r⟩) (hlen : argsL.length = ps.length) (hsize : Ls.size = c.maxLocals)
    (hd : decode c.code pc = .ok (.invokevirtual index, 3)) (hW : (rest.map fun v => v.category).sum ≤ W) (hc : cells + cc ≤ R.cells) (hs : slots + ss ≤ R.slots) (k : To p.tables e below S0 (T.setTop (mkF m pc Ls st))) :
    ∃ v T' L, Stand p l e R s m args below meth c T' (locs ++ L) (cells + cc) (slots + ss) ∧ Q v T'.heap L ∧ To p.tables e below S0 (T'.setTop (mkF m (pc + 3) Ls (v.toList ++ rest))) := by
  obtain ⟨cq, kq, qa, qb, qc⟩ := isOf hZ eT E
  obtain ⟨v, vm₁, ⟨T', L', k', n'⟩, -, X', ⟨L, hQ, q1, q2, q3⟩, stp⟩ := X.virtualBack hx hown (mvT hZ w1) (mvT hZ w2) hnf (mvT hZ w5) (mvT hZ w6) hy hK qa qc (g := mkF m pc Ls st) rfl hsize (Steps.refl _) (argsL := argsL) (rest := rest) (lenOf hpd hlen) hst (by show 2 * 0 + _ ≤ _; omega) hd (fun _ _ => ⟨has, eT, hc, hs⟩)
  dsimp only [Pt.U, Pt.locs, Pt.cells, Pt.slots] at X' q1 q2 q3 stp hQ
  subst q1 q2 q3
  exact ⟨v, T', L, X', hQ, fun t q => k t (stp.trans q)⟩
theorem callU' (X : Stand p l e R s m args below meth c T locs cells slots) (hx : p.tables.exec = Jvm.exec) (hZ : Z.Warmed39 s.vm) {own C owner : String} {index : Nat} {y z : MethodName} {cc ss W : Nat} {as' : Array Value} {Q : Option Value → Heap → List Loc → Prop}
    (hown : s.vm.findClass own = some m.cls) (w1 : (Cond.methodLink own index y).before a0 Z = true) (w7 : (Cond.sameMethod y.cls owner y.name y.desc).before a0 Z = true) (w2 : (Cond.declares ⟨owner, y.name, y.desc⟩).before a0 Z = true) (w5 : (Cond.selects C y z).before a0 Z = true) (w6 : (Cond.instanceMethod z).before a0 Z = true)
    (hy : owner ≠ "java/lang/invoke/MethodHandle" ∧ owner ≠ "java/lang/invoke/VarHandle") {b : Addr} (E : Exa Z h b C)
    (hK : Back l R p e below s args z 3 W (fun A a => a = as' ∧ A.U.heap = h ∧ A.cells + cc ≤ R.cells ∧ A.slots + ss ≤ R.slots) (fun A _ v B => ∃ L, Q v B.U.heap L ∧ B.locs = A.locs ++ L ∧ B.cells = A.cells + cc ∧ B.slots = A.slots + ss)) (eT : T.heap = h) {pc : Nat} {Ls : Array Slot} {st argsL rest : List Value} (hst : st = argsL.reverse ++ .ref b :: rest) (has : (.ref b :: argsL).toArray = as') {ps : List FieldType} {r : Option FieldType} (hpd : parseMethodDescriptor y.desc = some ⟨ps, r⟩) (hlen : argsL.length = ps.length) (hsize : Ls.size = c.maxLocals)
    (hd : decode c.code pc = .ok (.invokevirtual index, 3)) (hW : (rest.map fun v => v.category).sum ≤ W) (hc : cells + cc ≤ R.cells) (hs : slots + ss ≤ R.slots) (k : To p.tables e below S0 (T.setTop (mkF m pc Ls st))) :
    ∃ v T' L, Stand p l e R s m args below meth c T' (locs ++ L) (cells + cc) (slots + ss) ∧ Q v T'.heap L ∧ To p.tables e below S0 (T'.setTop (mkF m (pc + 3) Ls (v.toList ++ rest))) := by
  obtain ⟨cq, kq, qa, qb, qc⟩ := isOf hZ eT E
  obtain ⟨v, vm₁, ⟨T', L', k', n'⟩, -, X', ⟨L, hQ, q1, q2, q3⟩, stp⟩ := X.virtualBackUp hx hown (mvT hZ w1) (mvT hZ w7) (mvT hZ w2) hy (mvT hZ w5) (mvT hZ w6) hK qa qc (g := mkF m pc Ls st) rfl hsize (Steps.refl _) (argsL := argsL) (rest := rest) (lenOf hpd hlen) hst (by show 2 * 0 + _ ≤ _; omega) hd (fun _ _ => ⟨has, eT, hc, hs⟩)
  dsimp only [Pt.U, Pt.locs, Pt.cells, Pt.slots] at X' q1 q2 q3 stp hQ
  subst q1 q2 q3
  exact ⟨v, T', L, X', hQ, fun t q => k t (stp.trans q)⟩
theorem callI' (X : Stand p l e R s m args below meth c T locs cells slots) (hx : p.tables.exec = Jvm.exec) (hZ : Z.Warmed39 s.vm) {own C : String} {index count : Nat} {y z : MethodName} {cc ss W : Nat} {as' : Array Value} {Q : Option Value → Heap → List Loc → Prop}
    (hown : s.vm.findClass own = some m.cls) (w1 : (Cond.methodLink own index y).before a0 Z = true) (w2 : (Cond.declares y).before a0 Z = true) (w7 : (Cond.interfaceMethod y.cls y.cls y.name y.desc).before a0 Z = true) (hd7 : ((Cond.interfaceMethod y.cls y.cls y.name y.desc).onTables && (Cond.interfaceMethod y.cls y.cls y.name y.desc).keepsFace) = true) (w5 : (Cond.selects C y z).before a0 Z = true) (w6 : (Cond.instanceMethod z).before a0 Z = true) (w8 : (Cond.publicMethod z).before a0 Z = true) (w9 : (Cond.unhidden C y.name y.desc).before a0 Z = true) (w10 : (Cond.castable C y.cls).before a0 Z = true)
    (hy : y.cls ≠ "java/lang/invoke/MethodHandle" ∧ y.cls ≠ "java/lang/invoke/VarHandle") {b : Addr} (E : Exa Z h b C)
    (hK : Back l R p e below s args z 5 W (fun A a => a = as' ∧ A.U.heap = h ∧ A.cells + cc ≤ R.cells ∧ A.slots + ss ≤ R.slots) (fun A _ v B => ∃ L, Q v B.U.heap L ∧ B.locs = A.locs ++ L ∧ B.cells = A.cells + cc ∧ B.slots = A.slots + ss)) (eT : T.heap = h) {pc : Nat} {Ls : Array Slot} {st argsL rest : List Value} (hst : st = argsL.reverse ++ .ref b :: rest) (has : (.ref b :: argsL).toArray = as') {ps : List FieldType} {r : Option FieldType} (hpd : parseMethodDescriptor y.desc = some ⟨ps, r⟩) (hlen : argsL.length = ps.length) (hsize : Ls.size = c.maxLocals)
    (hd : decode c.code pc = .ok (.invokeinterface index count, 5)) (hW : (rest.map fun v => v.category).sum ≤ W) (hc : cells + cc ≤ R.cells) (hs : slots + ss ≤ R.slots) (k : To p.tables e below S0 (T.setTop (mkF m pc Ls st))) :
    ∃ v T' L, Stand p l e R s m args below meth c T' (locs ++ L) (cells + cc) (slots + ss) ∧ Q v T'.heap L ∧ To p.tables e below S0 (T'.setTop (mkF m (pc + 5) Ls (v.toList ++ rest))) := by
  obtain ⟨cq, kq, qa, qb, qc⟩ := isOf hZ eT E
  obtain ⟨v, vm₁, ⟨T', L', k', n'⟩, -, X', ⟨L, hQ, q1, q2, q3⟩, stp⟩ := X.interfaceBack hx hown (mvT hZ w1) (mvT hZ w2) (mvT hZ w7 hd7) (mvT hZ w5) (mvT hZ w6) (mvT hZ w8) (mvT hZ w9) (mvT hZ w10) hy hK qa qb qc (g := mkF m pc Ls st) rfl hsize (Steps.refl _) (argsL := argsL) (rest := rest) (lenOf hpd hlen) hst (by show 2 * 0 + _ ≤ _; omega) hd (fun _ _ => ⟨has, eT, hc, hs⟩)
  dsimp only [Pt.U, Pt.locs, Pt.cells, Pt.slots] at X' q1 q2 q3 stp hQ
  subst q1 q2 q3
  exact ⟨v, T', L, X', hQ, fun t q => k t (stp.trans q)⟩
theorem staOld {n0 : Nat} {C n d : String} {v : Value} (F : Sta Z Z.heap C n d v) (O : Old Z n0 h) : Sta Z h C n d v := F.ext O.2
theorem exaOld {n0 : Nat} {C : String} {a : Addr} (F : Exa Z Z.heap a C) (O : Old Z n0 h) : Exa Z h a C := F.ext O.2
theorem fldOld {n0 : Nat} {C n d : String} {a : Addr} {v : Value} (F : Fld Z Z.heap a C n d v) (O : Old Z n0 h) : Fld Z h a C n d v := F.ext O.2
theorem joinT (X : Stand p l e R s m args below meth c T locs cells slots) (eT : T.heap = h) (F : JFrame) {G : Prop} (rest : ∀ T', Stand p l e R s m args below meth c T' locs cells slots → T'.heap = h → To p.tables e below S0 (T'.setTop F) → G)
    (br : (∀ T', Stand p l e R s m args below meth c T' locs cells slots → T'.heap = h → To p.tables e below S0 (T'.setTop F) → G) → G) : G := br rest
theorem own_nz {s : State} {args : Array Value} {t : Term} {z : Int32} (e : t.eval args s none [] s = some (.int z)) (h : (Jvm.Cond.not (.eq t (.int 0))).value args s none s [] = some true) : ¬ z = (0 : Int32) := fun q => by
  subst q; have h2 := not_v h; simp [Cond.value, e, Term.eval] at h2
theorem fits_isref {C : String} {w : Value} (h : w.isRef = true) : fits (.object C) w = true := by rcases ref_cases h with rfl | ⟨z, rfl⟩ <;> rfl
theorem narrow_ref {t : FieldType} {w : Value} (h : w.isRef = true) : narrow t w = w := by rcases ref_cases h with rfl | ⟨z, rfl⟩ <;> cases t <;> rfl
end Own
/-- Judgement.of's answer -/
def own_of (qN qR qH : Addr) (g : Int32) : Addr := if g < 2 then (if g = 1 then qR else qN) else qH
def own_min (a b : Int32) : Int32 := if b < a then b else a
def own_max (a b : Int32) : Int32 := if a < b then b else a
theorem own_2 {g : Int32} (h : own_max 0 (own_min 2 g) = 2) : ¬ g < 2 := by
  unfold own_max own_min at h
  intro q
  rw [if_pos q] at h
  by_cases r : 0 < g
  · rw [if_pos r] at h; subst h; exact absurd q (by decide)
  · rw [if_neg r] at h; exact absurd h (by decide)
theorem own_1 {g : Int32} (h : own_max 0 (own_min 2 g) = 1) : g = 1 := by
  unfold own_max own_min at h
  by_cases q : g < 2
  · rw [if_pos q] at h
    by_cases r : 0 < g
    · rw [if_pos r] at h; exact h
    · rw [if_neg r] at h; exact absurd h (by decide)
  · rw [if_neg q] at h; exact absurd h (by decide)
theorem own_0 {g : Int32} (h2 : ¬ own_max 0 (own_min 2 g) = 2) (h1 : ¬ own_max 0 (own_min 2 g) = 1) : g < 2 ∧ ¬ g = 1 := by
  refine ⟨?_, ?_⟩
  · by_cases q : g < 2
    · exact q
    · exfalso; apply h2; unfold own_max own_min; rw [if_neg q]; decide
  · intro q; subst q; exact h1 (by decide)
theorem d_jdk_29_method_69_code_0 : decode jdk_29_method_69_code 0 = .ok (.iload_n 0, 1) := by decide +kernel
theorem d_jdk_29_method_69_code_1 : decode jdk_29_method_69_code 1 = .ok (.iload_n 1, 1) := by decide +kernel
theorem d_jdk_29_method_69_code_2 : decode jdk_29_method_69_code 2 = .ok (.if_icmp .gt 7, 3) := by decide +kernel
theorem d_jdk_29_method_69_code_5 : decode jdk_29_method_69_code 5 = .ok (.iload_n 0, 1) := by decide +kernel
theorem d_jdk_29_method_69_code_6 : decode jdk_29_method_69_code 6 = .ok (.goto 4, 3) := by decide +kernel
theorem d_jdk_29_method_69_code_9 : decode jdk_29_method_69_code 9 = .ok (.iload_n 1, 1) := by decide +kernel
theorem d_jdk_29_method_69_code_10 : decode jdk_29_method_69_code 10 = .ok (.ireturn, 1) := by decide +kernel
set_option maxRecDepth 65536 in
set_option maxHeartbeats 40000000 in
theorem rmmin (l : Launch) (Z : State) (a0 : Array Value) (hw : ∀ d ∈ tables_1, d.before a0 Z = true) (a : Int32) (b : Int32) (h0 : Heap) (n0 : Nat) (hn0 : n0 ≤ h0.size)  :
    Con l Z (⟨"java/lang/Math", "min", "(II)I"⟩ : MethodName) jdk_29_method_69_code 2 (some .int) [] ({ frames := 0, cells := 0, slots := 0, locals := 0 } : Room) #[(.int a), (.int b)] h0 (fun v h L => v = some (.int (own_min a b)) ∧ Fr n0 L ∧ h = h0) := by
  refine enter (Ls := #[.val (.int a), .val (.int b)]) (Jvm.Free.JP.mathPlain rfl (by decide +kernel)) (fun m => by first | rfl | (simp [entryFrame, mkF, argsToLocals, Value.category]; done)) ?_
  intro p e s m below meth c s₁ S0 hx hby hml hret hlk hnm hown hZ X0 e0 k0
  have N0 := Fr.nil n0
  have k1 : To p.tables e below S0 (s₁.setTop (mkF m 2 #[.val (.int a), .val (.int b)] [(.int b), (.int a)])) := fun tt hq => k0 tt (by
    show Steps _ _ _ (s₁.setTop (mkF m 0 #[.val (.int a), .val (.int b)] [])) _
    refine XS.iloadN X0.here hx rfl (hb hby d_jdk_29_method_69_code_0) rfl ?_
    show Steps _ _ _ (s₁.setTop (mkF m 1 #[.val (.int a), .val (.int b)] [(.int a)])) _
    refine XS.iloadN X0.here hx rfl (hb hby d_jdk_29_method_69_code_1) rfl ?_
    show Steps _ _ _ (s₁.setTop (mkF m 2 #[.val (.int a), .val (.int b)] [(.int b), (.int a)])) _
    exact hq)
  by_cases hc2_2 : b < a
  · -- pc 2, holds
    have k3 : To p.tables e below S0 (s₁.setTop (mkF m 10 #[.val (.int a), .val (.int b)] [(.int b)])) := fun tt hq => k1 tt (by
      show Steps _ _ _ (s₁.setTop (mkF m 2 #[.val (.int a), .val (.int b)] [(.int b), (.int a)])) _
      refine XS.icmpYes X0.here hx rfl (pc0 := 2) (pc' := 9) rfl (hb hby d_jdk_29_method_69_code_2) rfl (tlt hc2_2).2.2.1 (by decide) (by decide) ?_
      show Steps _ _ _ (s₁.setTop (mkF m 9 #[.val (.int a), .val (.int b)] [])) _
      refine XS.iloadN X0.here hx rfl (hb hby d_jdk_29_method_69_code_9) rfl ?_
      show Steps _ _ _ (s₁.setTop (mkF m 10 #[.val (.int a), .val (.int b)] [(.int b)])) _
      exact hq)
    have hE := e0
    refine retInt X0 hx hret hlk (by simp) rfl (hb hby d_jdk_29_method_69_code_10) k3 ?_ (by decide) (by decide)
    try rw [hE]
    exact ⟨by rw [show own_min a b = _ from if_pos hc2_2], N0, rfl⟩
  · -- pc 2, holds not
    have k4 : To p.tables e below S0 (s₁.setTop (mkF m 10 #[.val (.int a), .val (.int b)] [(.int a)])) := fun tt hq => k1 tt (by
      show Steps _ _ _ (s₁.setTop (mkF m 2 #[.val (.int a), .val (.int b)] [(.int b), (.int a)])) _
      refine XS.icmpNo X0.here hx rfl (hb hby d_jdk_29_method_69_code_2) rfl (flt hc2_2).2.2.1 ?_
      show Steps _ _ _ (s₁.setTop (mkF m 5 #[.val (.int a), .val (.int b)] [])) _
      refine XS.iloadN X0.here hx rfl (hb hby d_jdk_29_method_69_code_5) rfl ?_
      show Steps _ _ _ (s₁.setTop (mkF m 6 #[.val (.int a), .val (.int b)] [(.int a)])) _
      refine XS.goto X0.here hx rfl (pc0 := 6) (pc' := 10) rfl (hb hby d_jdk_29_method_69_code_6) (by decide) (by decide) ?_
      show Steps _ _ _ (s₁.setTop (mkF m 10 #[.val (.int a), .val (.int b)] [(.int a)])) _
      exact hq)
    have hE := e0
    refine retInt X0 hx hret hlk (by simp) rfl (hb hby d_jdk_29_method_69_code_10) k4 ?_ (by decide) (by decide)
    try rw [hE]
    exact ⟨by rw [show own_min a b = _ from if_neg hc2_2], N0, rfl⟩
theorem d_jdk_29_method_65_code_0 : decode jdk_29_method_65_code 0 = .ok (.iload_n 0, 1) := by decide +kernel
theorem d_jdk_29_method_65_code_1 : decode jdk_29_method_65_code 1 = .ok (.iload_n 1, 1) := by decide +kernel
theorem d_jdk_29_method_65_code_2 : decode jdk_29_method_65_code 2 = .ok (.if_icmp .lt 7, 3) := by decide +kernel
theorem d_jdk_29_method_65_code_5 : decode jdk_29_method_65_code 5 = .ok (.iload_n 0, 1) := by decide +kernel
theorem d_jdk_29_method_65_code_6 : decode jdk_29_method_65_code 6 = .ok (.goto 4, 3) := by decide +kernel
theorem d_jdk_29_method_65_code_9 : decode jdk_29_method_65_code 9 = .ok (.iload_n 1, 1) := by decide +kernel
theorem d_jdk_29_method_65_code_10 : decode jdk_29_method_65_code 10 = .ok (.ireturn, 1) := by decide +kernel
set_option maxRecDepth 65536 in
set_option maxHeartbeats 40000000 in
theorem rmmax (l : Launch) (Z : State) (a0 : Array Value) (hw : ∀ d ∈ tables_1, d.before a0 Z = true) (a : Int32) (b : Int32) (h0 : Heap) (n0 : Nat) (hn0 : n0 ≤ h0.size)  :
    Con l Z (⟨"java/lang/Math", "max", "(II)I"⟩ : MethodName) jdk_29_method_65_code 2 (some .int) [] ({ frames := 0, cells := 0, slots := 0, locals := 0 } : Room) #[(.int a), (.int b)] h0 (fun v h L => v = some (.int (own_max a b)) ∧ Fr n0 L ∧ h = h0) := by
  refine enter (Ls := #[.val (.int a), .val (.int b)]) (Jvm.Free.JP.mathPlain rfl (by decide +kernel)) (fun m => by first | rfl | (simp [entryFrame, mkF, argsToLocals, Value.category]; done)) ?_
  intro p e s m below meth c s₁ S0 hx hby hml hret hlk hnm hown hZ X0 e0 k0
  have N0 := Fr.nil n0
  have k1 : To p.tables e below S0 (s₁.setTop (mkF m 2 #[.val (.int a), .val (.int b)] [(.int b), (.int a)])) := fun tt hq => k0 tt (by
    show Steps _ _ _ (s₁.setTop (mkF m 0 #[.val (.int a), .val (.int b)] [])) _
    refine XS.iloadN X0.here hx rfl (hb hby d_jdk_29_method_65_code_0) rfl ?_
    show Steps _ _ _ (s₁.setTop (mkF m 1 #[.val (.int a), .val (.int b)] [(.int a)])) _
    refine XS.iloadN X0.here hx rfl (hb hby d_jdk_29_method_65_code_1) rfl ?_
    show Steps _ _ _ (s₁.setTop (mkF m 2 #[.val (.int a), .val (.int b)] [(.int b), (.int a)])) _
    exact hq)
  by_cases hc2_2 : a < b
  · -- pc 2, holds
    have k3 : To p.tables e below S0 (s₁.setTop (mkF m 10 #[.val (.int a), .val (.int b)] [(.int b)])) := fun tt hq => k1 tt (by
      show Steps _ _ _ (s₁.setTop (mkF m 2 #[.val (.int a), .val (.int b)] [(.int b), (.int a)])) _
      refine XS.icmpYes X0.here hx rfl (pc0 := 2) (pc' := 9) rfl (hb hby d_jdk_29_method_65_code_2) rfl (tlt hc2_2).1 (by decide) (by decide) ?_
      show Steps _ _ _ (s₁.setTop (mkF m 9 #[.val (.int a), .val (.int b)] [])) _
      refine XS.iloadN X0.here hx rfl (hb hby d_jdk_29_method_65_code_9) rfl ?_
      show Steps _ _ _ (s₁.setTop (mkF m 10 #[.val (.int a), .val (.int b)] [(.int b)])) _
      exact hq)
    have hE := e0
    refine retInt X0 hx hret hlk (by simp) rfl (hb hby d_jdk_29_method_65_code_10) k3 ?_ (by decide) (by decide)
    try rw [hE]
    exact ⟨by rw [show own_max a b = _ from if_pos hc2_2], N0, rfl⟩
  · -- pc 2, holds not
    have k4 : To p.tables e below S0 (s₁.setTop (mkF m 10 #[.val (.int a), .val (.int b)] [(.int a)])) := fun tt hq => k1 tt (by
      show Steps _ _ _ (s₁.setTop (mkF m 2 #[.val (.int a), .val (.int b)] [(.int b), (.int a)])) _
      refine XS.icmpNo X0.here hx rfl (hb hby d_jdk_29_method_65_code_2) rfl (flt hc2_2).1 ?_
      show Steps _ _ _ (s₁.setTop (mkF m 5 #[.val (.int a), .val (.int b)] [])) _
      refine XS.iloadN X0.here hx rfl (hb hby d_jdk_29_method_65_code_5) rfl ?_
      show Steps _ _ _ (s₁.setTop (mkF m 6 #[.val (.int a), .val (.int b)] [(.int a)])) _
      refine XS.goto X0.here hx rfl (pc0 := 6) (pc' := 10) rfl (hb hby d_jdk_29_method_65_code_6) (by decide) (by decide) ?_
      show Steps _ _ _ (s₁.setTop (mkF m 10 #[.val (.int a), .val (.int b)] [(.int a)])) _
      exact hq)
    have hE := e0
    refine retInt X0 hx hret hlk (by simp) rfl (hb hby d_jdk_29_method_65_code_10) k4 ?_ (by decide) (by decide)
    try rw [hE]
    exact ⟨by rw [show own_max a b = _ from if_neg hc2_2], N0, rfl⟩
theorem d_prog_17_method_4_code_0 : decode prog_17_method_4_code 0 = .ok (.iload_n 0, 1) := by decide +kernel
theorem d_prog_17_method_4_code_1 : decode prog_17_method_4_code 1 = .ok (.iconst 2, 1) := by decide +kernel
theorem d_prog_17_method_4_code_2 : decode prog_17_method_4_code 2 = .ok (.if_icmp .lt 7, 3) := by decide +kernel
theorem d_prog_17_method_4_code_5 : decode prog_17_method_4_code 5 = .ok (.getstatic 10, 3) := by decide +kernel
theorem d_prog_17_method_4_code_8 : decode prog_17_method_4_code 8 = .ok (.areturn, 1) := by decide +kernel
theorem d_prog_17_method_4_code_9 : decode prog_17_method_4_code 9 = .ok (.iload_n 0, 1) := by decide +kernel
theorem d_prog_17_method_4_code_10 : decode prog_17_method_4_code 10 = .ok (.iconst 1, 1) := by decide +kernel
theorem d_prog_17_method_4_code_11 : decode prog_17_method_4_code 11 = .ok (.if_icmp .ne 9, 3) := by decide +kernel
theorem d_prog_17_method_4_code_14 : decode prog_17_method_4_code 14 = .ok (.getstatic 7, 3) := by decide +kernel
theorem d_prog_17_method_4_code_17 : decode prog_17_method_4_code 17 = .ok (.goto 6, 3) := by decide +kernel
theorem d_prog_17_method_4_code_20 : decode prog_17_method_4_code 20 = .ok (.getstatic 3, 3) := by decide +kernel
theorem d_prog_17_method_4_code_23 : decode prog_17_method_4_code 23 = .ok (.areturn, 1) := by decide +kernel
theorem pn_0 : plainName "com/example/medical_query_expansion/medicalqueryexpansion/feedback/Judgement" = true := by first | (simp [plainName, overriddenIn]; done) | decide +kernel
set_option maxRecDepth 65536 in
set_option maxHeartbeats 40000000 in
theorem rmof (l : Launch) (Z : State) (a0 : Array Value) (hw : ∀ d ∈ tables_1, d.before a0 Z = true) (qN : Addr) (qR : Addr) (qH : Addr) (g : Int32) (h0 : Heap) (n0 : Nat) (hn0 : n0 ≤ h0.size) (S_NOT_RELEVANT : Sta Z Z.heap "com/example/medical_query_expansion/medicalqueryexpansion/feedback/Judgement" "NOT_RELEVANT" "Lcom/example/medical_query_expansion/medicalqueryexpansion/feedback/Judgement;" (.ref qN)) (S_RELEVANT : Sta Z Z.heap "com/example/medical_query_expansion/medicalqueryexpansion/feedback/Judgement" "RELEVANT" "Lcom/example/medical_query_expansion/medicalqueryexpansion/feedback/Judgement;" (.ref qR)) (S_HIGHLY_RELEVANT : Sta Z Z.heap "com/example/medical_query_expansion/medicalqueryexpansion/feedback/Judgement" "HIGHLY_RELEVANT" "Lcom/example/medical_query_expansion/medicalqueryexpansion/feedback/Judgement;" (.ref qH)) (O0 : Old Z n0 h0) :
    Con l Z (⟨"com/example/medical_query_expansion/medicalqueryexpansion/feedback/Judgement", "of", "(I)Lcom/example/medical_query_expansion/medicalqueryexpansion/feedback/Judgement;"⟩ : MethodName) prog_17_method_4_code 1 (some (.object "com/example/medical_query_expansion/medicalqueryexpansion/feedback/Judgement")) [] ({ frames := 0, cells := 0, slots := 0, locals := 0 } : Room) #[(.int g)] h0 (fun v h L => v = some (.ref (own_of qN qR qH g)) ∧ Fr n0 L ∧ h = h0) := by
  refine enter (Ls := #[.val (.int g)]) (plainFor_of_name pn_0) (fun m => by first | rfl | (simp [entryFrame, mkF, argsToLocals, Value.category]; done)) ?_
  intro p e s m below meth c s₁ S0 hx hby hml hret hlk hnm hown hZ X0 e0 k0
  have N0 := Fr.nil n0
  have k1 : To p.tables e below S0 (s₁.setTop (mkF m 2 #[.val (.int g)] [(.int (2 : Int32)), (.int g)])) := fun tt hq => k0 tt (by
    show Steps _ _ _ (s₁.setTop (mkF m 0 #[.val (.int g)] [])) _
    refine XS.iloadN X0.here hx rfl (hb hby d_prog_17_method_4_code_0) rfl ?_
    show Steps _ _ _ (s₁.setTop (mkF m 1 #[.val (.int g)] [(.int g)])) _
    refine XS.iconst X0.here hx rfl (hb hby d_prog_17_method_4_code_1) ?_
    show Steps _ _ _ (s₁.setTop (mkF m 2 #[.val (.int g)] [(.int (2 : Int32)), (.int g)])) _
    exact hq)
  by_cases hc2_2 : g < (2 : Int32)
  · -- pc 2, holds
    have k3 : To p.tables e below S0 (s₁.setTop (mkF m 11 #[.val (.int g)] [(.int (1 : Int32)), (.int g)])) := fun tt hq => k1 tt (by
      show Steps _ _ _ (s₁.setTop (mkF m 2 #[.val (.int g)] [(.int (2 : Int32)), (.int g)])) _
      refine XS.icmpYes X0.here hx rfl (pc0 := 2) (pc' := 9) rfl (hb hby d_prog_17_method_4_code_2) rfl (tlt hc2_2).1 (by decide) (by decide) ?_
      show Steps _ _ _ (s₁.setTop (mkF m 9 #[.val (.int g)] [])) _
      refine XS.iloadN X0.here hx rfl (hb hby d_prog_17_method_4_code_9) rfl ?_
      show Steps _ _ _ (s₁.setTop (mkF m 10 #[.val (.int g)] [(.int g)])) _
      refine XS.iconst X0.here hx rfl (hb hby d_prog_17_method_4_code_10) ?_
      show Steps _ _ _ (s₁.setTop (mkF m 11 #[.val (.int g)] [(.int (1 : Int32)), (.int g)])) _
      exact hq)
    by_cases hc11_4 : g = (1 : Int32)
    · -- pc 11, holds
      have k5 : To p.tables e below S0 (s₁.setTop (mkF m 14 #[.val (.int g)] [])) := fun tt hq => k3 tt (by
        show Steps _ _ _ (s₁.setTop (mkF m 11 #[.val (.int g)] [(.int (1 : Int32)), (.int g)])) _
        refine XS.icmpNo X0.here hx rfl (hb hby d_prog_17_method_4_code_11) rfl (teq hc11_4).2 ?_
        show Steps _ _ _ (s₁.setTop (mkF m 14 #[.val (.int g)] [])) _
        exact hq)
      obtain ⟨T6, X6, e6, st6⟩ := getS2 X0 hx hZ hown (host := "") (Or.inl (hw _ (List.mem_of_getElem? (i := 21) rfl))) Via.refl e0 (staOld S_RELEVANT O0) (g := (mkF m 14 #[.val (.int g)] [])) rfl (hb hby d_prog_17_method_4_code_14)
      have k6 : To p.tables e below S0 (T6.setTop (mkF m 17 #[.val (.int g)] [(.ref qR)])) := fun tt hq => k5 tt (st6 tt hq)
      have k7 : To p.tables e below S0 (T6.setTop (mkF m 23 #[.val (.int g)] [(.ref qR)])) := fun tt hq => k6 tt (by
        show Steps _ _ _ (T6.setTop (mkF m 17 #[.val (.int g)] [(.ref qR)])) _
        refine XS.goto X6.here hx rfl (pc0 := 17) (pc' := 23) rfl (hb hby d_prog_17_method_4_code_17) (by decide) (by decide) ?_
        show Steps _ _ _ (T6.setTop (mkF m 23 #[.val (.int g)] [(.ref qR)])) _
        exact hq)
      have hE := e6
      refine retRef X6 hx hret hlk rfl rfl (hb hby d_prog_17_method_4_code_23) k7 ?_ (by decide) (by decide)
      try rw [hE]
      exact ⟨by unfold own_of; rw [if_pos hc2_2, if_pos hc11_4], N0, rfl⟩
    · -- pc 11, holds not
      have k8 : To p.tables e below S0 (s₁.setTop (mkF m 20 #[.val (.int g)] [])) := fun tt hq => k3 tt (by
        show Steps _ _ _ (s₁.setTop (mkF m 11 #[.val (.int g)] [(.int (1 : Int32)), (.int g)])) _
        refine XS.icmpYes X0.here hx rfl (pc0 := 11) (pc' := 20) rfl (hb hby d_prog_17_method_4_code_11) rfl (feq hc11_4).2 (by decide) (by decide) ?_
        show Steps _ _ _ (s₁.setTop (mkF m 20 #[.val (.int g)] [])) _
        exact hq)
      obtain ⟨T9, X9, e9, st9⟩ := getS2 X0 hx hZ hown (host := "") (Or.inl (hw _ (List.mem_of_getElem? (i := 4) rfl))) Via.refl e0 (staOld S_NOT_RELEVANT O0) (g := (mkF m 20 #[.val (.int g)] [])) rfl (hb hby d_prog_17_method_4_code_20)
      have k9 : To p.tables e below S0 (T9.setTop (mkF m 23 #[.val (.int g)] [(.ref qN)])) := fun tt hq => k8 tt (st9 tt hq)
      have hE := e9
      refine retRef X9 hx hret hlk rfl rfl (hb hby d_prog_17_method_4_code_23) k9 ?_ (by decide) (by decide)
      try rw [hE]
      exact ⟨by unfold own_of; rw [if_pos hc2_2, if_neg hc11_4], N0, rfl⟩
  · -- pc 2, holds not
    have k10 : To p.tables e below S0 (s₁.setTop (mkF m 5 #[.val (.int g)] [])) := fun tt hq => k1 tt (by
      show Steps _ _ _ (s₁.setTop (mkF m 2 #[.val (.int g)] [(.int (2 : Int32)), (.int g)])) _
      refine XS.icmpNo X0.here hx rfl (hb hby d_prog_17_method_4_code_2) rfl (flt hc2_2).1 ?_
      show Steps _ _ _ (s₁.setTop (mkF m 5 #[.val (.int g)] [])) _
      exact hq)
    obtain ⟨T11, X11, e11, st11⟩ := getS2 X0 hx hZ hown (host := "") (Or.inl (hw _ (List.mem_of_getElem? (i := 18) rfl))) Via.refl e0 (staOld S_HIGHLY_RELEVANT O0) (g := (mkF m 5 #[.val (.int g)] [])) rfl (hb hby d_prog_17_method_4_code_5)
    have k11 : To p.tables e below S0 (T11.setTop (mkF m 8 #[.val (.int g)] [(.ref qH)])) := fun tt hq => k10 tt (st11 tt hq)
    have hE := e11
    refine retRef X11 hx hret hlk rfl rfl (hb hby d_prog_17_method_4_code_8) k11 ?_ (by decide) (by decide)
    try rw [hE]
    exact ⟨by unfold own_of; rw [if_neg hc2_2], N0, rfl⟩
theorem d_method_2_code_0 : decode method_2_code 0 = .ok (.iconst 0, 1) := by decide +kernel
theorem d_method_2_code_1 : decode method_2_code 1 = .ok (.iconst 2, 1) := by decide +kernel
theorem d_method_2_code_2 : decode method_2_code 2 = .ok (.iload_n 0, 1) := by decide +kernel
theorem d_method_2_code_3 : decode method_2_code 3 = .ok (.invokestatic 7, 3) := by decide +kernel
theorem d_method_2_code_6 : decode method_2_code 6 = .ok (.invokestatic 13, 3) := by decide +kernel
theorem d_method_2_code_9 : decode method_2_code 9 = .ok (.istore_n 1, 1) := by decide +kernel
theorem d_method_2_code_10 : decode method_2_code 10 = .ok (.iload_n 1, 1) := by decide +kernel
theorem d_method_2_code_11 : decode method_2_code 11 = .ok (.iconst 2, 1) := by decide +kernel
theorem d_method_2_code_12 : decode method_2_code 12 = .ok (.if_icmp .ne 7, 3) := by decide +kernel
theorem d_method_2_code_15 : decode method_2_code 15 = .ok (.getstatic 16, 3) := by decide +kernel
theorem d_method_2_code_18 : decode method_2_code 18 = .ok (.areturn, 1) := by decide +kernel
theorem d_method_2_code_19 : decode method_2_code 19 = .ok (.iload_n 1, 1) := by decide +kernel
theorem d_method_2_code_20 : decode method_2_code 20 = .ok (.iconst 1, 1) := by decide +kernel
theorem d_method_2_code_21 : decode method_2_code 21 = .ok (.if_icmp .ne 7, 3) := by decide +kernel
theorem d_method_2_code_24 : decode method_2_code 24 = .ok (.getstatic 22, 3) := by decide +kernel
theorem d_method_2_code_27 : decode method_2_code 27 = .ok (.areturn, 1) := by decide +kernel
theorem d_method_2_code_28 : decode method_2_code 28 = .ok (.getstatic 25, 3) := by decide +kernel
theorem d_method_2_code_31 : decode method_2_code 31 = .ok (.areturn, 1) := by decide +kernel
theorem pn_1 : plainName "com/example/medical_query_expansion/medicalqueryexpansion/feedback/JudgementOfPinLaw" = true := by first | (simp [plainName, overriddenIn]; done) | decide +kernel
theorem pd_0 : parseMethodDescriptor "(II)I" = some ⟨[.int, .int], some .int⟩ := by decide +kernel
set_option maxRecDepth 65536 in
set_option maxHeartbeats 40000000 in
theorem rmex (l : Launch) (Z : State) (a0 : Array Value) (hw : ∀ d ∈ tables_1, d.before a0 Z = true) (qN : Addr) (qR : Addr) (qH : Addr) (g : Int32) (h0 : Heap) (n0 : Nat) (hn0 : n0 ≤ h0.size) (S_NOT_RELEVANT : Sta Z Z.heap "com/example/medical_query_expansion/medicalqueryexpansion/feedback/Judgement" "NOT_RELEVANT" "Lcom/example/medical_query_expansion/medicalqueryexpansion/feedback/Judgement;" (.ref qN)) (S_RELEVANT : Sta Z Z.heap "com/example/medical_query_expansion/medicalqueryexpansion/feedback/Judgement" "RELEVANT" "Lcom/example/medical_query_expansion/medicalqueryexpansion/feedback/Judgement;" (.ref qR)) (S_HIGHLY_RELEVANT : Sta Z Z.heap "com/example/medical_query_expansion/medicalqueryexpansion/feedback/Judgement" "HIGHLY_RELEVANT" "Lcom/example/medical_query_expansion/medicalqueryexpansion/feedback/Judgement;" (.ref qH)) (O0 : Old Z n0 h0) :
    Con l Z (⟨"com/example/medical_query_expansion/medicalqueryexpansion/feedback/JudgementOfPinLaw", "expected", "(I)Lcom/example/medical_query_expansion/medicalqueryexpansion/feedback/Judgement;"⟩ : MethodName) method_2_code 2 (some (.object "com/example/medical_query_expansion/medicalqueryexpansion/feedback/Judgement")) [] ({ frames := 1, cells := 0, slots := 0, locals := 32 } : Room) #[(.int g)] h0 (fun v h L => v = some (.ref (own_of qN qR qH g)) ∧ Fr n0 L ∧ h = h0) := by
  refine enter (Ls := #[.val (.int g), .unset]) (plainFor_of_name pn_1) (fun m => by first | rfl | (simp [entryFrame, mkF, argsToLocals, Value.category]; done)) ?_
  intro p e s m below meth c s₁ S0 hx hby hml hret hlk hnm hown hZ X0 e0 k0
  have N0 := Fr.nil n0
  have k1 : To p.tables e below S0 (s₁.setTop (mkF m 3 #[.val (.int g), .unset] [(.int g), (.int (2 : Int32)), (.int (0 : Int32))])) := fun tt hq => k0 tt (by
    show Steps _ _ _ (s₁.setTop (mkF m 0 #[.val (.int g), .unset] [])) _
    refine XS.iconst X0.here hx rfl (hb hby d_method_2_code_0) ?_
    show Steps _ _ _ (s₁.setTop (mkF m 1 #[.val (.int g), .unset] [(.int (0 : Int32))])) _
    refine XS.iconst X0.here hx rfl (hb hby d_method_2_code_1) ?_
    show Steps _ _ _ (s₁.setTop (mkF m 2 #[.val (.int g), .unset] [(.int (2 : Int32)), (.int (0 : Int32))])) _
    refine XS.iloadN X0.here hx rfl (hb hby d_method_2_code_2) rfl ?_
    show Steps _ _ _ (s₁.setTop (mkF m 3 #[.val (.int g), .unset] [(.int g), (.int (2 : Int32)), (.int (0 : Int32))])) _
    exact hq)
  obtain ⟨_, T2, L2, X2, ⟨rfl, Nq2, eq2⟩, k2a⟩ := callS' X0 hx hZ (y := (⟨"java/lang/Math", "min", "(II)I"⟩ : MethodName)) hown (hw _ (List.mem_of_getElem? (i := 10) rfl)) (hw _ (List.mem_of_getElem? (i := 11) rfl)) (hw _ (List.mem_of_getElem? (i := 12) rfl)) (hw _ (List.mem_of_getElem? (i := 13) rfl)) (by decide) (backC (W := 1) (rmmin l Z a0 hw (2 : Int32) g h0 n0 (by omega)) hZ (hw _ (List.mem_of_getElem? (i := 13) rfl)) (hw _ (List.mem_of_getElem? (i := 12) rfl)) (by decide) (by decide)) e0 (argsL := [(.int (2 : Int32)), (.int g)]) (rest := [(.int (0 : Int32))]) rfl rfl pd_0 rfl (by rw [hml]; rfl) (hb hby d_method_2_code_3) (Nat.le_of_eq rfl) (by decide) (by decide) k1
  have k2 : To p.tables e below S0 (T2.setTop (mkF m 6 #[.val (.int g), .unset] [(.int (own_min (2 : Int32) g)), (.int (0 : Int32))])) := k2a
  have N2 := N0.app Nq2
  have e2 : T2.heap = h0 := eq2
  obtain ⟨_, T3, L3, X3, ⟨rfl, Nq3, eq3⟩, k3a⟩ := callS' X2 hx hZ (y := (⟨"java/lang/Math", "max", "(II)I"⟩ : MethodName)) hown (hw _ (List.mem_of_getElem? (i := 14) rfl)) (hw _ (List.mem_of_getElem? (i := 15) rfl)) (hw _ (List.mem_of_getElem? (i := 12) rfl)) (hw _ (List.mem_of_getElem? (i := 16) rfl)) (by decide) (backC (W := 0) (rmmax l Z a0 hw (0 : Int32) (own_min (2 : Int32) g) h0 n0 (by omega)) hZ (hw _ (List.mem_of_getElem? (i := 16) rfl)) (hw _ (List.mem_of_getElem? (i := 12) rfl)) (by decide) (by decide)) e2 (argsL := [(.int (0 : Int32)), (.int (own_min (2 : Int32) g))]) (rest := []) rfl rfl pd_0 rfl (by rw [hml]; rfl) (hb hby d_method_2_code_6) (Nat.le_of_eq rfl) (by decide) (by decide) k2
  have k3 : To p.tables e below S0 (T3.setTop (mkF m 9 #[.val (.int g), .unset] [(.int (own_max (0 : Int32) (own_min (2 : Int32) g)))])) := k3a
  have N3 := N2.app Nq3
  have e3 : T3.heap = h0 := eq3
  obtain ⟨v4, hv4⟩ : ∃ z : Int32, z = (own_max (0 : Int32) (own_min (2 : Int32) g)) := ⟨_, rfl⟩
  have k4 : To p.tables e below S0 (T3.setTop (mkF m 9 #[.val (.int g), .unset] [(.int v4)])) := by rw [hv4]; exact k3
  have k5 : To p.tables e below S0 (T3.setTop (mkF m 12 #[.val (.int g), .val (.int v4)] [(.int (2 : Int32)), (.int v4)])) := fun tt hq => k4 tt (by
    show Steps _ _ _ (T3.setTop (mkF m 9 #[.val (.int g), .unset] [(.int v4)])) _
    refine XS.istoreN X3.here hx rfl (hb hby d_method_2_code_9) rfl (l' := #[.val (.int g), .val (.int v4)]) rfl ?_
    show Steps _ _ _ (T3.setTop (mkF m 10 #[.val (.int g), .val (.int v4)] [])) _
    refine XS.iloadN X3.here hx rfl (hb hby d_method_2_code_10) rfl ?_
    show Steps _ _ _ (T3.setTop (mkF m 11 #[.val (.int g), .val (.int v4)] [(.int v4)])) _
    refine XS.iconst X3.here hx rfl (hb hby d_method_2_code_11) ?_
    show Steps _ _ _ (T3.setTop (mkF m 12 #[.val (.int g), .val (.int v4)] [(.int (2 : Int32)), (.int v4)])) _
    exact hq)
  by_cases hc12_6 : v4 = (2 : Int32)
  · -- pc 12, holds
    have k7 : To p.tables e below S0 (T3.setTop (mkF m 15 #[.val (.int g), .val (.int v4)] [])) := fun tt hq => k5 tt (by
      show Steps _ _ _ (T3.setTop (mkF m 12 #[.val (.int g), .val (.int v4)] [(.int (2 : Int32)), (.int v4)])) _
      refine XS.icmpNo X3.here hx rfl (hb hby d_method_2_code_12) rfl (teq hc12_6).2 ?_
      show Steps _ _ _ (T3.setTop (mkF m 15 #[.val (.int g), .val (.int v4)] [])) _
      exact hq)
    obtain ⟨T8, X8, e8, st8⟩ := getS2 X3 hx hZ hown (host := "") (Or.inl (hw _ (List.mem_of_getElem? (i := 20) rfl))) Via.refl e3 (staOld S_HIGHLY_RELEVANT O0) (g := (mkF m 15 #[.val (.int g), .val (.int v4)] [])) rfl (hb hby d_method_2_code_15)
    have k8 : To p.tables e below S0 (T8.setTop (mkF m 18 #[.val (.int g), .val (.int v4)] [(.ref qH)])) := fun tt hq => k7 tt (st8 tt hq)
    have hE := e8
    refine retRef X8 hx hret hlk rfl rfl (hb hby d_method_2_code_18) k8 ?_ (by decide) (by decide)
    try rw [hE]
    rw [hv4] at hc12_6
    exact ⟨by unfold own_of; rw [if_neg (own_2 hc12_6)], N3, rfl⟩
  · -- pc 12, holds not
    have k9 : To p.tables e below S0 (T3.setTop (mkF m 21 #[.val (.int g), .val (.int v4)] [(.int (1 : Int32)), (.int v4)])) := fun tt hq => k5 tt (by
      show Steps _ _ _ (T3.setTop (mkF m 12 #[.val (.int g), .val (.int v4)] [(.int (2 : Int32)), (.int v4)])) _
      refine XS.icmpYes X3.here hx rfl (pc0 := 12) (pc' := 19) rfl (hb hby d_method_2_code_12) rfl (feq hc12_6).2 (by decide) (by decide) ?_
      show Steps _ _ _ (T3.setTop (mkF m 19 #[.val (.int g), .val (.int v4)] [])) _
      refine XS.iloadN X3.here hx rfl (hb hby d_method_2_code_19) rfl ?_
      show Steps _ _ _ (T3.setTop (mkF m 20 #[.val (.int g), .val (.int v4)] [(.int v4)])) _
      refine XS.iconst X3.here hx rfl (hb hby d_method_2_code_20) ?_
      show Steps _ _ _ (T3.setTop (mkF m 21 #[.val (.int g), .val (.int v4)] [(.int (1 : Int32)), (.int v4)])) _
      exact hq)
    by_cases hc21_10 : v4 = (1 : Int32)
    · -- pc 21, holds
      have k11 : To p.tables e below S0 (T3.setTop (mkF m 24 #[.val (.int g), .val (.int v4)] [])) := fun tt hq => k9 tt (by
        show Steps _ _ _ (T3.setTop (mkF m 21 #[.val (.int g), .val (.int v4)] [(.int (1 : Int32)), (.int v4)])) _
        refine XS.icmpNo X3.here hx rfl (hb hby d_method_2_code_21) rfl (teq hc21_10).2 ?_
        show Steps _ _ _ (T3.setTop (mkF m 24 #[.val (.int g), .val (.int v4)] [])) _
        exact hq)
      obtain ⟨T12, X12, e12, st12⟩ := getS2 X3 hx hZ hown (host := "") (Or.inl (hw _ (List.mem_of_getElem? (i := 23) rfl))) Via.refl e3 (staOld S_RELEVANT O0) (g := (mkF m 24 #[.val (.int g), .val (.int v4)] [])) rfl (hb hby d_method_2_code_24)
      have k12 : To p.tables e below S0 (T12.setTop (mkF m 27 #[.val (.int g), .val (.int v4)] [(.ref qR)])) := fun tt hq => k11 tt (st12 tt hq)
      have hE := e12
      refine retRef X12 hx hret hlk rfl rfl (hb hby d_method_2_code_27) k12 ?_ (by decide) (by decide)
      try rw [hE]
      rw [hv4] at hc12_6 hc21_10
      exact ⟨by unfold own_of; rw [own_1 hc21_10]; rfl, N3, rfl⟩
    · -- pc 21, holds not
      have k13 : To p.tables e below S0 (T3.setTop (mkF m 28 #[.val (.int g), .val (.int v4)] [])) := fun tt hq => k9 tt (by
        show Steps _ _ _ (T3.setTop (mkF m 21 #[.val (.int g), .val (.int v4)] [(.int (1 : Int32)), (.int v4)])) _
        refine XS.icmpYes X3.here hx rfl (pc0 := 21) (pc' := 28) rfl (hb hby d_method_2_code_21) rfl (feq hc21_10).2 (by decide) (by decide) ?_
        show Steps _ _ _ (T3.setTop (mkF m 28 #[.val (.int g), .val (.int v4)] [])) _
        exact hq)
      obtain ⟨T14, X14, e14, st14⟩ := getS2 X3 hx hZ hown (host := "") (Or.inl (hw _ (List.mem_of_getElem? (i := 17) rfl))) Via.refl e3 (staOld S_NOT_RELEVANT O0) (g := (mkF m 28 #[.val (.int g), .val (.int v4)] [])) rfl (hb hby d_method_2_code_28)
      have k14 : To p.tables e below S0 (T14.setTop (mkF m 31 #[.val (.int g), .val (.int v4)] [(.ref qN)])) := fun tt hq => k13 tt (st14 tt hq)
      have hE := e14
      refine retRef X14 hx hret hlk rfl rfl (hb hby d_method_2_code_31) k14 ?_ (by decide) (by decide)
      try rw [hE]
      rw [hv4] at hc12_6 hc21_10
      exact ⟨by unfold own_of; rw [if_pos (own_0 hc12_6 hc21_10).1, if_neg (own_0 hc12_6 hc21_10).2], N3, rfl⟩
theorem pd_1 : parseMethodDescriptor "(I)Lcom/example/medical_query_expansion/medicalqueryexpansion/feedback/Judgement;" = some ⟨[.int], some (.object "com/example/medical_query_expansion/medicalqueryexpansion/feedback/Judgement")⟩ := by decide +kernel
set_option maxRecDepth 65536 in
set_option maxHeartbeats 40000000 in
theorem rm0 (l : Launch) (Z : State) (a0 : Array Value) (hw : ∀ d ∈ tables_1, d.before a0 Z = true) (qN : Addr) (qR : Addr) (qH : Addr) (p0 : Int32) (p1 : Int32) (h0 : Heap) (n0 : Nat) (hn0 : n0 ≤ h0.size) (S_NOT_RELEVANT : Sta Z Z.heap "com/example/medical_query_expansion/medicalqueryexpansion/feedback/Judgement" "NOT_RELEVANT" "Lcom/example/medical_query_expansion/medicalqueryexpansion/feedback/Judgement;" (.ref qN)) (S_RELEVANT : Sta Z Z.heap "com/example/medical_query_expansion/medicalqueryexpansion/feedback/Judgement" "RELEVANT" "Lcom/example/medical_query_expansion/medicalqueryexpansion/feedback/Judgement;" (.ref qR)) (S_HIGHLY_RELEVANT : Sta Z Z.heap "com/example/medical_query_expansion/medicalqueryexpansion/feedback/Judgement" "HIGHLY_RELEVANT" "Lcom/example/medical_query_expansion/medicalqueryexpansion/feedback/Judgement;" (.ref qH)) (O0 : Old Z n0 h0) :
    Con l Z x code maxLocals ret tables_1 room_1 #[(.int p0), (.int p1)] h0 (fun v h L => v = some (.int 1) ∧ Fr n0 L) := by
  refine enter (Ls := #[.val (.int p0), .val (.int p1), .unset, .unset, .unset]) (plainFor_of_name pn_1) (fun m => by first | rfl | (simp [entryFrame, mkF, argsToLocals, Value.category, maxLocals]; done)) ?_
  intro p e s m below meth c s₁ S0 hx hby hml hret hlk hnm hown hZ X0 e0 k0
  have N0 := Fr.nil n0
  have k1 : To p.tables e below S0 (s₁.setTop (mkF m 6 #[.val (.int p0), .val (.int p1), .unset, .unset, .unset] [(.int ((p1 &&& (7 : Int32)) - (3 : Int32)))])) := fun tt hq => k0 tt (by
    show Steps _ _ _ (s₁.setTop (mkF m 0 #[.val (.int p0), .val (.int p1), .unset, .unset, .unset] [])) _
    refine XS.iloadN X0.here hx rfl (hb hby at_0) rfl ?_
    show Steps _ _ _ (s₁.setTop (mkF m 1 #[.val (.int p0), .val (.int p1), .unset, .unset, .unset] [(.int p1)])) _
    refine XS.bipush X0.here hx rfl (hb hby at_1) ?_
    show Steps _ _ _ (s₁.setTop (mkF m 3 #[.val (.int p0), .val (.int p1), .unset, .unset, .unset] [(.int (7 : Int32)), (.int p1)])) _
    refine XS.iand X0.here hx rfl (hb hby at_3) rfl ?_
    show Steps _ _ _ (s₁.setTop (mkF m 4 #[.val (.int p0), .val (.int p1), .unset, .unset, .unset] [(.int (p1 &&& (7 : Int32)))])) _
    refine XS.iconst X0.here hx rfl (hb hby at_4) ?_
    show Steps _ _ _ (s₁.setTop (mkF m 5 #[.val (.int p0), .val (.int p1), .unset, .unset, .unset] [(.int (3 : Int32)), (.int (p1 &&& (7 : Int32)))])) _
    refine XS.isub X0.here hx rfl (hb hby at_5) rfl ?_
    show Steps _ _ _ (s₁.setTop (mkF m 6 #[.val (.int p0), .val (.int p1), .unset, .unset, .unset] [(.int ((p1 &&& (7 : Int32)) - (3 : Int32)))])) _
    exact hq)
  obtain ⟨v2, hv2⟩ : ∃ z : Int32, z = ((p1 &&& (7 : Int32)) - (3 : Int32)) := ⟨_, rfl⟩
  have k2 : To p.tables e below S0 (s₁.setTop (mkF m 6 #[.val (.int p0), .val (.int p1), .unset, .unset, .unset] [(.int v2)])) := by rw [hv2]; exact k1
  have k3 : To p.tables e below S0 (s₁.setTop (mkF m 8 #[.val (.int p0), .val (.int p1), .val (.int v2), .unset, .unset] [(.int p0)])) := fun tt hq => k2 tt (by
    show Steps _ _ _ (s₁.setTop (mkF m 6 #[.val (.int p0), .val (.int p1), .unset, .unset, .unset] [(.int v2)])) _
    refine XS.istoreN X0.here hx rfl (hb hby at_6) rfl (l' := #[.val (.int p0), .val (.int p1), .val (.int v2), .unset, .unset]) rfl ?_
    show Steps _ _ _ (s₁.setTop (mkF m 7 #[.val (.int p0), .val (.int p1), .val (.int v2), .unset, .unset] [])) _
    refine XS.iloadN X0.here hx rfl (hb hby at_7) rfl ?_
    show Steps _ _ _ (s₁.setTop (mkF m 8 #[.val (.int p0), .val (.int p1), .val (.int v2), .unset, .unset] [(.int p0)])) _
    exact hq)
  obtain ⟨_, T4, L4, X4, ⟨rfl, Nq4, eq4⟩, k4a⟩ := callS' X0 hx hZ (y := (⟨"com/example/medical_query_expansion/medicalqueryexpansion/feedback/Judgement", "of", "(I)Lcom/example/medical_query_expansion/medicalqueryexpansion/feedback/Judgement;"⟩ : MethodName)) hown (hw _ (List.mem_of_getElem? (i := 0) rfl)) (hw _ (List.mem_of_getElem? (i := 1) rfl)) (hw _ (List.mem_of_getElem? (i := 2) rfl)) (hw _ (List.mem_of_getElem? (i := 3) rfl)) (by decide) (backC (W := 0) (rmof l Z a0 hw qN qR qH p0 h0 n0 (by omega) S_NOT_RELEVANT S_RELEVANT S_HIGHLY_RELEVANT O0) hZ (hw _ (List.mem_of_getElem? (i := 3) rfl)) (hw _ (List.mem_of_getElem? (i := 2) rfl)) (by decide) (by decide)) e0 (argsL := [(.int p0)]) (rest := []) rfl rfl pd_1 rfl (by rw [hml]; rfl) (hb hby at_8) (Nat.le_of_eq rfl) (by decide) (by decide) k3
  have k4 : To p.tables e below S0 (T4.setTop (mkF m 11 #[.val (.int p0), .val (.int p1), .val (.int v2), .unset, .unset] [(.ref (own_of qN qR qH p0))])) := k4a
  have N4 := N0.app Nq4
  have e4 : T4.heap = h0 := eq4
  have k5 : To p.tables e below S0 (T4.setTop (mkF m 12 #[.val (.int p0), .val (.int p1), .val (.int v2), .unset, .unset] [(.int p0), (.ref (own_of qN qR qH p0))])) := fun tt hq => k4 tt (by
    show Steps _ _ _ (T4.setTop (mkF m 11 #[.val (.int p0), .val (.int p1), .val (.int v2), .unset, .unset] [(.ref (own_of qN qR qH p0))])) _
    refine XS.iloadN X4.here hx rfl (hb hby at_11) rfl ?_
    show Steps _ _ _ (T4.setTop (mkF m 12 #[.val (.int p0), .val (.int p1), .val (.int v2), .unset, .unset] [(.int p0), (.ref (own_of qN qR qH p0))])) _
    exact hq)
  obtain ⟨_, T6, L6, X6, ⟨rfl, Nq6, eq6⟩, k6a⟩ := callS' X4 hx hZ (y := (⟨"com/example/medical_query_expansion/medicalqueryexpansion/feedback/JudgementOfPinLaw", "expected", "(I)Lcom/example/medical_query_expansion/medicalqueryexpansion/feedback/Judgement;"⟩ : MethodName)) hown (hw _ (List.mem_of_getElem? (i := 6) rfl)) (hw _ (List.mem_of_getElem? (i := 7) rfl)) (hw _ (List.mem_of_getElem? (i := 8) rfl)) (hw _ (List.mem_of_getElem? (i := 9) rfl)) (by decide) (backC (W := 1) (rmex l Z a0 hw qN qR qH p0 h0 n0 (by omega) S_NOT_RELEVANT S_RELEVANT S_HIGHLY_RELEVANT O0) hZ (hw _ (List.mem_of_getElem? (i := 9) rfl)) (hw _ (List.mem_of_getElem? (i := 8) rfl)) (by decide) (by decide)) e4 (argsL := [(.int p0)]) (rest := [(.ref (own_of qN qR qH p0))]) rfl rfl pd_1 rfl (by rw [hml]; rfl) (hb hby at_12) (Nat.le_of_eq rfl) (by decide) (by decide) k5
  have k6 : To p.tables e below S0 (T6.setTop (mkF m 15 #[.val (.int p0), .val (.int p1), .val (.int v2), .unset, .unset] [(.ref (own_of qN qR qH p0)), (.ref (own_of qN qR qH p0))])) := k6a
  have N6 := N4.app Nq6
  have e6 : T6.heap = h0 := eq6
  have k7 : To p.tables e below S0 (T6.setTop (mkF m 25 #[.val (.int p0), .val (.int p1), .val (.int v2), .val (.int (1 : Int32)), .unset] [(.int v2)])) := fun tt hq => k6 tt (by
    show Steps _ _ _ (T6.setTop (mkF m 15 #[.val (.int p0), .val (.int p1), .val (.int v2), .unset, .unset] [(.ref (own_of qN qR qH p0)), (.ref (own_of qN qR qH p0))])) _
    refine Jvm.RoadKit.acmp (g := (mkF m 15 #[.val (.int p0), .val (.int p1), .val (.int v2), .unset, .unset] [(.ref (own_of qN qR qH p0)), (.ref (own_of qN qR qH p0))])) X6 hx rfl rfl rfl (pc0 := 15) (pc' := 18) (same := true) rfl (hb hby at_15) rfl (decide_eq_true rfl) (by decide) (by decide) ?_
    show Steps _ _ _ (T6.setTop (mkF m 18 #[.val (.int p0), .val (.int p1), .val (.int v2), .unset, .unset] [])) _
    refine XS.iconst X6.here hx rfl (hb hby at_18) ?_
    show Steps _ _ _ (T6.setTop (mkF m 19 #[.val (.int p0), .val (.int p1), .val (.int v2), .unset, .unset] [(.int (1 : Int32))])) _
    refine XS.goto X6.here hx rfl (pc0 := 19) (pc' := 23) rfl (hb hby at_19) (by decide) (by decide) ?_
    show Steps _ _ _ (T6.setTop (mkF m 23 #[.val (.int p0), .val (.int p1), .val (.int v2), .unset, .unset] [(.int (1 : Int32))])) _
    refine XS.istoreN X6.here hx rfl (hb hby at_23) rfl (l' := #[.val (.int p0), .val (.int p1), .val (.int v2), .val (.int (1 : Int32)), .unset]) rfl ?_
    show Steps _ _ _ (T6.setTop (mkF m 24 #[.val (.int p0), .val (.int p1), .val (.int v2), .val (.int (1 : Int32)), .unset] [])) _
    refine XS.iloadN X6.here hx rfl (hb hby at_24) rfl ?_
    show Steps _ _ _ (T6.setTop (mkF m 25 #[.val (.int p0), .val (.int p1), .val (.int v2), .val (.int (1 : Int32)), .unset] [(.int v2)])) _
    exact hq)
  obtain ⟨_, T8, L8, X8, ⟨rfl, Nq8, eq8⟩, k8a⟩ := callS' X6 hx hZ (y := (⟨"com/example/medical_query_expansion/medicalqueryexpansion/feedback/Judgement", "of", "(I)Lcom/example/medical_query_expansion/medicalqueryexpansion/feedback/Judgement;"⟩ : MethodName)) hown (hw _ (List.mem_of_getElem? (i := 0) rfl)) (hw _ (List.mem_of_getElem? (i := 1) rfl)) (hw _ (List.mem_of_getElem? (i := 2) rfl)) (hw _ (List.mem_of_getElem? (i := 3) rfl)) (by decide) (backC (W := 0) (rmof l Z a0 hw qN qR qH v2 h0 n0 (by omega) S_NOT_RELEVANT S_RELEVANT S_HIGHLY_RELEVANT O0) hZ (hw _ (List.mem_of_getElem? (i := 3) rfl)) (hw _ (List.mem_of_getElem? (i := 2) rfl)) (by decide) (by decide)) e6 (argsL := [(.int v2)]) (rest := []) rfl rfl pd_1 rfl (by rw [hml]; rfl) (hb hby at_25) (Nat.le_of_eq rfl) (by decide) (by decide) k7
  have k8 : To p.tables e below S0 (T8.setTop (mkF m 28 #[.val (.int p0), .val (.int p1), .val (.int v2), .val (.int (1 : Int32)), .unset] [(.ref (own_of qN qR qH v2))])) := k8a
  have N8 := N6.app Nq8
  have e8 : T8.heap = h0 := eq8
  have k9 : To p.tables e below S0 (T8.setTop (mkF m 29 #[.val (.int p0), .val (.int p1), .val (.int v2), .val (.int (1 : Int32)), .unset] [(.int v2), (.ref (own_of qN qR qH v2))])) := fun tt hq => k8 tt (by
    show Steps _ _ _ (T8.setTop (mkF m 28 #[.val (.int p0), .val (.int p1), .val (.int v2), .val (.int (1 : Int32)), .unset] [(.ref (own_of qN qR qH v2))])) _
    refine XS.iloadN X8.here hx rfl (hb hby at_28) rfl ?_
    show Steps _ _ _ (T8.setTop (mkF m 29 #[.val (.int p0), .val (.int p1), .val (.int v2), .val (.int (1 : Int32)), .unset] [(.int v2), (.ref (own_of qN qR qH v2))])) _
    exact hq)
  obtain ⟨_, T10, L10, X10, ⟨rfl, Nq10, eq10⟩, k10a⟩ := callS' X8 hx hZ (y := (⟨"com/example/medical_query_expansion/medicalqueryexpansion/feedback/JudgementOfPinLaw", "expected", "(I)Lcom/example/medical_query_expansion/medicalqueryexpansion/feedback/Judgement;"⟩ : MethodName)) hown (hw _ (List.mem_of_getElem? (i := 6) rfl)) (hw _ (List.mem_of_getElem? (i := 7) rfl)) (hw _ (List.mem_of_getElem? (i := 8) rfl)) (hw _ (List.mem_of_getElem? (i := 9) rfl)) (by decide) (backC (W := 1) (rmex l Z a0 hw qN qR qH v2 h0 n0 (by omega) S_NOT_RELEVANT S_RELEVANT S_HIGHLY_RELEVANT O0) hZ (hw _ (List.mem_of_getElem? (i := 9) rfl)) (hw _ (List.mem_of_getElem? (i := 8) rfl)) (by decide) (by decide)) e8 (argsL := [(.int v2)]) (rest := [(.ref (own_of qN qR qH v2))]) rfl rfl pd_1 rfl (by rw [hml]; rfl) (hb hby at_29) (Nat.le_of_eq rfl) (by decide) (by decide) k9
  have k10 : To p.tables e below S0 (T10.setTop (mkF m 32 #[.val (.int p0), .val (.int p1), .val (.int v2), .val (.int (1 : Int32)), .unset] [(.ref (own_of qN qR qH v2)), (.ref (own_of qN qR qH v2))])) := k10a
  have N10 := N8.app Nq10
  have e10 : T10.heap = h0 := eq10
  have k11 : To p.tables e below S0 (T10.setTop (mkF m 56 #[.val (.int p0), .val (.int p1), .val (.int v2), .val (.int (1 : Int32)), .val (.int (1 : Int32))] [(.int (1 : Int32))])) := fun tt hq => k10 tt (by
    show Steps _ _ _ (T10.setTop (mkF m 32 #[.val (.int p0), .val (.int p1), .val (.int v2), .val (.int (1 : Int32)), .unset] [(.ref (own_of qN qR qH v2)), (.ref (own_of qN qR qH v2))])) _
    refine Jvm.RoadKit.acmp (g := (mkF m 32 #[.val (.int p0), .val (.int p1), .val (.int v2), .val (.int (1 : Int32)), .unset] [(.ref (own_of qN qR qH v2)), (.ref (own_of qN qR qH v2))])) X10 hx rfl rfl rfl (pc0 := 32) (pc' := 35) (same := true) rfl (hb hby at_32) rfl (decide_eq_true rfl) (by decide) (by decide) ?_
    show Steps _ _ _ (T10.setTop (mkF m 35 #[.val (.int p0), .val (.int p1), .val (.int v2), .val (.int (1 : Int32)), .unset] [])) _
    refine XS.iconst X10.here hx rfl (hb hby at_35) ?_
    show Steps _ _ _ (T10.setTop (mkF m 36 #[.val (.int p0), .val (.int p1), .val (.int v2), .val (.int (1 : Int32)), .unset] [(.int (1 : Int32))])) _
    refine XS.goto X10.here hx rfl (pc0 := 36) (pc' := 40) rfl (hb hby at_36) (by decide) (by decide) ?_
    show Steps _ _ _ (T10.setTop (mkF m 40 #[.val (.int p0), .val (.int p1), .val (.int v2), .val (.int (1 : Int32)), .unset] [(.int (1 : Int32))])) _
    refine XS.istore X10.here hx rfl (hb hby at_40) rfl (l' := #[.val (.int p0), .val (.int p1), .val (.int v2), .val (.int (1 : Int32)), .val (.int (1 : Int32))]) rfl ?_
    show Steps _ _ _ (T10.setTop (mkF m 42 #[.val (.int p0), .val (.int p1), .val (.int v2), .val (.int (1 : Int32)), .val (.int (1 : Int32))] [])) _
    refine XS.iloadN X10.here hx rfl (hb hby at_42) rfl ?_
    show Steps _ _ _ (T10.setTop (mkF m 43 #[.val (.int p0), .val (.int p1), .val (.int v2), .val (.int (1 : Int32)), .val (.int (1 : Int32))] [(.int (1 : Int32))])) _
    refine XS.ifNo X10.here hx rfl (hb hby at_43) rfl ((if0 _ _).trans (feq (by decide)).1) ?_
    show Steps _ _ _ (T10.setTop (mkF m 46 #[.val (.int p0), .val (.int p1), .val (.int v2), .val (.int (1 : Int32)), .val (.int (1 : Int32))] [])) _
    refine XS.iload X10.here hx rfl (hb hby at_46) rfl ?_
    show Steps _ _ _ (T10.setTop (mkF m 48 #[.val (.int p0), .val (.int p1), .val (.int v2), .val (.int (1 : Int32)), .val (.int (1 : Int32))] [(.int (1 : Int32))])) _
    refine XS.ifNo X10.here hx rfl (hb hby at_48) rfl ((if0 _ _).trans (feq (by decide)).1) ?_
    show Steps _ _ _ (T10.setTop (mkF m 51 #[.val (.int p0), .val (.int p1), .val (.int v2), .val (.int (1 : Int32)), .val (.int (1 : Int32))] [])) _
    refine XS.iconst X10.here hx rfl (hb hby at_51) ?_
    show Steps _ _ _ (T10.setTop (mkF m 52 #[.val (.int p0), .val (.int p1), .val (.int v2), .val (.int (1 : Int32)), .val (.int (1 : Int32))] [(.int (1 : Int32))])) _
    refine XS.goto X10.here hx rfl (pc0 := 52) (pc' := 56) rfl (hb hby at_52) (by decide) (by decide) ?_
    show Steps _ _ _ (T10.setTop (mkF m 56 #[.val (.int p0), .val (.int p1), .val (.int v2), .val (.int (1 : Int32)), .val (.int (1 : Int32))] [(.int (1 : Int32))])) _
    exact hq)
  have hE := e10
  refine retInt X10 hx hret hlk (by simp) rfl (hb hby at_56) k11 ?_ (by decide) (by decide)
  try rw [hE]
  exact ⟨rfl, N10⟩
set_option maxRecDepth 65536 in
set_option maxHeartbeats 40000000 in
theorem comes_1 {Post : Tables → Env → Array Value → State → Outcome → State → Prop} (hpost : ∀ tb e args s v u, (limb_1_1.after args s (.returned v) u = true ∧ limb_1_2.after args s (.returned v) u = true ∧ True) → FrameEnd s (.returned v) u (Jvm.fieldLocs frame_1_writes args s ++ Jvm.arrayLocs frame_1_arrays args s ++ Jvm.staticLocs frame_1_statics s) 0 0 → Post tb e args s (.returned v) u) :
    ArmFor flags0 classFile x code maxLocals ret World_1 tables_1 room_1 Calls_1 rest_1 Pre_1 Post := by
  intro l hfl _ _ p e ha hc hk s m args below hf hA hF happ hP
  obtain ⟨hcalls, hrest, hpre⟩ := hP
  obtain ⟨-, -, -, hnamed, -, -, -, hat⟩ := (Spec.applies_iff hf).mp happ
  obtain ⟨hg, hn⟩ := and_e (Cond.before_iff.mp (show (Jvm.Cond.and given_1 narrow_1).before args s = true from hpre))
  obtain ⟨u1, u2⟩ := and_e hg
  obtain ⟨u3, u4⟩ := and_e u2
  obtain ⟨u5, u6⟩ := and_e hn
  obtain ⟨u7, u8⟩ := and_e u6
  obtain ⟨w0, w1, rfl⟩ : ∃ w0 w1 : Value, args = #[w0, w1] := by
    have hs : args.size = 2 := by simpa [Cond.value, given_1] using u1
    obtain ⟨L⟩ := args
    match L, hs with
    | [w0, w1], _ => exact ⟨w0, w1, rfl⟩
  have hw := fun d (hd : d ∈ tables_1) => atoms_spec (ws := Jvm.Cond.code x code maxLocals ret :: tables_1) hat d (List.mem_cons_of_mem _ hd)
  have hfit : Fit s := fun {y c} hc i hi => by
    obtain ⟨ha, rfl⟩ := Array.getElem?_eq_some_iff.mp hc
    have q := List.all_eq_true.mp ((Array.all_eq_true_iff_forall_mem.mp hF) _ (Array.getElem_mem ha)) i (List.mem_range.mpr hi)
    simpa [Array.getElem?_eq_getElem hi] using q
  obtain ⟨i0, ei0⟩ := is_v u3
  obtain rfl : w0 = (.int i0) := Option.some.inj ei0
  obtain ⟨i1, ei1⟩ := is_v u4
  obtain rfl : w1 = (.int i1) := Option.some.inj ei1
  obtain ⟨q_NOT_RELEVANT, ev_NOT_RELEVANT⟩ := exa_v u5
  have A_NOT_RELEVANT := Exa.start ev_NOT_RELEVANT u5
  have S_NOT_RELEVANT := Sta.start ev_NOT_RELEVANT (Or.inr ⟨(hw _ (List.mem_of_getElem? (i := 2) rfl)), (hw _ (List.mem_of_getElem? (i := 5) rfl))⟩)
  obtain ⟨q_HIGHLY_RELEVANT, ev_HIGHLY_RELEVANT⟩ := exa_v u7
  have A_HIGHLY_RELEVANT := Exa.start ev_HIGHLY_RELEVANT u7
  have S_HIGHLY_RELEVANT := Sta.start ev_HIGHLY_RELEVANT (Or.inr ⟨(hw _ (List.mem_of_getElem? (i := 2) rfl)), (hw _ (List.mem_of_getElem? (i := 19) rfl))⟩)
  obtain ⟨q_RELEVANT, ev_RELEVANT⟩ := exa_v u8
  have A_RELEVANT := Exa.start ev_RELEVANT u8
  have S_RELEVANT := Sta.start ev_RELEVANT (Or.inr ⟨(hw _ (List.mem_of_getElem? (i := 2) rfl)), (hw _ (List.mem_of_getElem? (i := 22) rfl))⟩)
  obtain ⟨n, o, h1, h2, h3, _, L, rfl, ⟨rfl, N⟩, hq⟩ := rm0 l s _ hw q_NOT_RELEVANT q_RELEVANT q_HIGHLY_RELEVANT i0 i1 s.heap s.heap.size (Nat.le_refl _) S_NOT_RELEVANT S_RELEVANT S_HIGHLY_RELEVANT (Old.start s) p e ha hc hk s m _ below hf ((Spec.applies_iff_loose hf).mp happ).1 ⟨rfl, State.Warmed39.refl s, rfl⟩ trivial
  refine ⟨n, _, h1, h2, h3, hpost _ _ _ _ _ _ ⟨Cond.after_iff.mpr rfl, Cond.after_iff.mpr (eq_i res_at (Term.int_eval (1)) rfl), trivial⟩ ⟨hq.1, hq.2.1, (hq.2.2.sift fun y hy => Or.inr (N y hy)).mono (by decide) (by decide)⟩⟩
theorem main_1_1 : Claimed_1_1 := comes_1 fun _ _ _ _ _ _ h hF => ⟨h.1, hF⟩
theorem main_1_2 : Claimed_1_2 := comes_1 fun _ _ _ _ _ _ h hF => ⟨h.2.1, hF⟩
end Jvm.Pilot.@@N@@
namespace Jvm.Pilot.@@N@@
open Jvm Jvm.ClassFile Sem Op Lib Jvm.Free Jvm.Stand Jvm.Pilot.@@N@@.Jvm.D
/-! MADE BY PROGRAM (witnessworld.py) out of the Statement's table words and the real class files: 13 classes; the members and pool entries that the words name. The judged class is class 1, her method 2. -/
namespace start1
open Jvm.ClassFile
def u (s : String) : CpInfo := .utf8 (stringToUtf16 s)
/-- a pool by its gaps: so many unusable entries, then the entry; so many at the end -/
def gap : Nat → List CpInfo → List CpInfo
  | 0, r => r
  | n + 1, r => .unusable :: gap n r
def poolList (es : List (Nat × CpInfo)) (last : Nat) : List CpInfo := es.foldr (fun e r => gap e.1 (e.2 :: r)) (gap last [])
def pool (es : List (Nat × CpInfo)) (last : Nat) : Array CpInfo := ⟨poolList es last⟩
def fileOf (pool : Array CpInfo) (this : Nat) (attrs : Array Attribute := #[]) (ms : Array MethodInfo := #[]) (fl : Nat := 33) (sup : Nat := 0) (ifs : Array Nat := #[]) (fds : Array FieldInfo := #[]) : ClassFile where
  minorVersion := 0
  majorVersion := 65
  constantPool := pool
  accessFlags := fl
  thisClass := this
  superClass := sup
  interfaces := ifs
  fields := fds
  methods := ms
  attributes := attrs
def plain (name : String) (sup : Option ClassId) : Class where
  name := name
  kind := .ordinary
  loader := none
  accessFlags := 33
  super := sup
  interfaces := #[]
  cf := none
  fields := #[]
  methods := #[]
  instanceTypes := #[]
  staticTypes := #[]
  resolved := #[]
  callSites := []
  init := .initialized
  statics := none
  mirror := none

def pool0 : Array CpInfo := pool [(5, u "<init>"), (0, u "()V"), (1, .class_ 10), (1, u "java/lang/Object")] 113

def k0m0 : Method := { name := "<init>", desc := "()V", sig := { parameters := [], returnType := none }, accessFlags := 1, code := none }
/-- java/lang/Object -/
def k0 : Class := { plain "java/lang/Object" none with
  accessFlags := 33
  interfaces := #[]
  cf := some (fileOf pool0 8 #[] #[{ accessFlags := 1, nameIndex := 5, descriptorIndex := 6, attributes := #[] }] 33 0 #[] #[])
  fields := #[]
  methods := #[k0m0]
  instanceTypes := #[]
  staticTypes := #[]
  resolved := Array.replicate 124 none
  statics := none }

def pool1 : Array CpInfo := pool [(2, .class_ 4), (1, u "java/lang/Object"), (0, u "<init>"), (0, u "()V"), (0, .methodref 8 9), (0, .class_ 10), (0, .nameAndType 11 12), (0, u "java/lang/Math"), (0, u "min"), (0, u "(II)I"), (0, .methodref 8 14), (0, .nameAndType 15 12), (0, u "max"), (0, .fieldref 17 18), (0, .class_ 19), (0, .nameAndType 20 21), (0, u "com/example/medical_query_expansion/medicalqueryexpansion/feedback/Judgement"), (0, u "HIGHLY_RELEVANT"), (0, u "Lcom/example/medical_query_expansion/medicalqueryexpansion/feedback/Judgement;"), (0, .fieldref 17 23), (0, .nameAndType 24 21), (0, u "RELEVANT"), (0, .fieldref 17 26), (0, .nameAndType 27 21), (0, u "NOT_RELEVANT"), (0, .methodref 17 29), (0, .nameAndType 30 31), (0, u "of"), (0, u "(I)Lcom/example/medical_query_expansion/medicalqueryexpansion/feedback/Judgement;"), (0, .methodref 33 34), (0, .class_ 35), (0, .nameAndType 36 31), (0, u "com/example/medical_query_expansion/medicalqueryexpansion/feedback/JudgementOfPinLaw"), (0, u "expected"), (3, u "law"), (0, u "(II)Z")] 2

def k1m0 : Method := { name := "<init>", desc := "()V", sig := { parameters := [], returnType := none }, accessFlags := 1, code := none }
def k1c1 : Code := { maxStack := 3, maxLocals := 2, code := method_2_code, exceptionTable := #[], attributes := #[] }
def k1m1 : Method := { name := "expected", desc := "(I)Lcom/example/medical_query_expansion/medicalqueryexpansion/feedback/Judgement;", sig := { parameters := [.int], returnType := some (.object "com/example/medical_query_expansion/medicalqueryexpansion/feedback/Judgement") }, accessFlags := 10, code := some k1c1 }
def k1c2 : Code := { maxStack := 2, maxLocals := 5, code := code, exceptionTable := #[], attributes := #[] }
def k1m2 : Method := { name := "law", desc := "(II)Z", sig := { parameters := [.int, .int], returnType := some .boolean }, accessFlags := 9, code := some k1c2 }
/-- com/example/medical_query_expansion/medicalqueryexpansion/feedback/JudgementOfPinLaw -/
def k1 : Class := { plain "com/example/medical_query_expansion/medicalqueryexpansion/feedback/JudgementOfPinLaw" (some 0) with
  accessFlags := 49
  interfaces := #[]
  cf := some (fileOf pool1 33 #[] #[{ accessFlags := 1, nameIndex := 5, descriptorIndex := 6, attributes := #[] }, { accessFlags := 10, nameIndex := 36, descriptorIndex := 31, attributes := #[] }, { accessFlags := 9, nameIndex := 40, descriptorIndex := 41, attributes := #[] }] 49 2 #[] #[])
  fields := #[]
  methods := #[k1m0, k1m1, k1m2]
  instanceTypes := #[]
  staticTypes := #[]
  resolved := Array.replicate 44 none
  statics := none }

def pool2 : Array CpInfo := pool [(1, .class_ 2), (0, u "java/lang/constant/Constable"), (0, .class_ 4), (0, u "java/lang/Object")] 6

/-- java/lang/constant/Constable -/
def k2 : Class := { plain "java/lang/constant/Constable" (some 0) with
  accessFlags := 1537
  interfaces := #[]
  cf := some (fileOf pool2 1 #[] #[] 1537 3 #[] #[])
  fields := #[]
  methods := #[]
  instanceTypes := #[]
  staticTypes := #[]
  resolved := Array.replicate 11 none
  statics := none }

def pool3 : Array CpInfo := pool [(1, .class_ 2), (0, u "java/lang/Comparable"), (0, .class_ 4), (0, u "java/lang/Object")] 7

/-- java/lang/Comparable -/
def k3 : Class := { plain "java/lang/Comparable" (some 0) with
  accessFlags := 1537
  interfaces := #[]
  cf := some (fileOf pool3 1 #[] #[] 1537 3 #[] #[])
  fields := #[]
  methods := #[]
  instanceTypes := #[]
  staticTypes := #[]
  resolved := Array.replicate 12 none
  statics := none }

def pool4 : Array CpInfo := pool [(1, .class_ 2), (0, u "java/io/Serializable"), (0, .class_ 4), (0, u "java/lang/Object")] 2

/-- java/io/Serializable -/
def k4 : Class := { plain "java/io/Serializable" (some 0) with
  accessFlags := 1537
  interfaces := #[]
  cf := some (fileOf pool4 1 #[] #[] 1537 3 #[] #[])
  fields := #[]
  methods := #[]
  instanceTypes := #[]
  staticTypes := #[]
  resolved := Array.replicate 7 none
  statics := none }

def pool5 : Array CpInfo := pool [(2, .class_ 4), (1, u "java/lang/Enum"), (0, u "name"), (0, u "Ljava/lang/String;"), (2, u "ordinal"), (0, u "I"), (1, .class_ 14), (1, u "java/lang/Object"), (4, u "hash"), (86, .class_ 108), (1, u "java/lang/Enum$EnumDesc"), (2, .class_ 112), (0, u "java/lang/constant/Constable"), (0, .class_ 114), (0, u "java/lang/Comparable"), (0, .class_ 116), (0, u "java/io/Serializable")] 87

/-- java/lang/Enum -/
def k5 : Class := { plain "java/lang/Enum" (some 0) with
  accessFlags := 1057
  interfaces := #[2, 3, 4]
  cf := some (fileOf pool5 2 #[.nestMembers #[106]] #[] 1057 12 #[111, 113, 115] #[{ accessFlags := 18, nameIndex := 5, descriptorIndex := 6, attributes := #[] }, { accessFlags := 18, nameIndex := 9, descriptorIndex := 10, attributes := #[] }, { accessFlags := 2, nameIndex := 19, descriptorIndex := 10, attributes := #[] }])
  fields := #[{ name := "name", type := (.object "java/lang/String"), accessFlags := 18, slot := 0, constantValue := 0 }, { name := "ordinal", type := .int, accessFlags := 18, slot := 1, constantValue := 0 }, { name := "hash", type := .int, accessFlags := 2, slot := 2, constantValue := 0 }]
  methods := #[]
  instanceTypes := #[(.object "java/lang/String"), .int, .int]
  staticTypes := #[]
  resolved := Array.replicate 204 none
  statics := none }

def pool6 : Array CpInfo := pool [(1, .class_ 2), (0, u "com/example/medical_query_expansion/medicalqueryexpansion/feedback/Judgement"), (0, .fieldref 1 4), (0, .nameAndType 5 6), (0, u "NOT_RELEVANT"), (0, u "Lcom/example/medical_query_expansion/medicalqueryexpansion/feedback/Judgement;"), (0, .fieldref 1 8), (0, .nameAndType 9 6), (0, u "RELEVANT"), (0, .fieldref 1 11), (0, .nameAndType 12 6), (0, u "HIGHLY_RELEVANT"), (2, u "$VALUES"), (0, u "[Lcom/example/medical_query_expansion/medicalqueryexpansion/feedback/Judgement;"), (6, .class_ 25), (1, u "java/lang/Enum"), (21, u "of"), (0, u "(I)Lcom/example/medical_query_expansion/medicalqueryexpansion/feedback/Judgement;")] 5

def k6c0 : Code := { maxStack := 2, maxLocals := 1, code := prog_17_method_4_code, exceptionTable := #[], attributes := #[] }
def k6m0 : Method := { name := "of", desc := "(I)Lcom/example/medical_query_expansion/medicalqueryexpansion/feedback/Judgement;", sig := { parameters := [.int], returnType := some (.object "com/example/medical_query_expansion/medicalqueryexpansion/feedback/Judgement") }, accessFlags := 9, code := some k6c0 }
/-- com/example/medical_query_expansion/medicalqueryexpansion/feedback/Judgement -/
def k6 : Class := { plain "com/example/medical_query_expansion/medicalqueryexpansion/feedback/Judgement" (some 5) with
  accessFlags := 16433
  interfaces := #[]
  cf := some (fileOf pool6 1 #[] #[{ accessFlags := 9, nameIndex := 47, descriptorIndex := 48, attributes := #[] }] 16433 23 #[] #[{ accessFlags := 16409, nameIndex := 5, descriptorIndex := 6, attributes := #[] }, { accessFlags := 16409, nameIndex := 9, descriptorIndex := 6, attributes := #[] }, { accessFlags := 16409, nameIndex := 12, descriptorIndex := 6, attributes := #[] }, { accessFlags := 4122, nameIndex := 15, descriptorIndex := 16, attributes := #[] }])
  fields := #[{ name := "NOT_RELEVANT", type := (.object "com/example/medical_query_expansion/medicalqueryexpansion/feedback/Judgement"), accessFlags := 16409, slot := 0, constantValue := 0 }, { name := "RELEVANT", type := (.object "com/example/medical_query_expansion/medicalqueryexpansion/feedback/Judgement"), accessFlags := 16409, slot := 1, constantValue := 0 }, { name := "HIGHLY_RELEVANT", type := (.object "com/example/medical_query_expansion/medicalqueryexpansion/feedback/Judgement"), accessFlags := 16409, slot := 2, constantValue := 0 }, { name := "$VALUES", type := (.array (.object "com/example/medical_query_expansion/medicalqueryexpansion/feedback/Judgement")), accessFlags := 4122, slot := 3, constantValue := 0 }]
  methods := #[k6m0]
  instanceTypes := #[(.object "java/lang/String"), .int, .int]
  staticTypes := #[(.object "com/example/medical_query_expansion/medicalqueryexpansion/feedback/Judgement"), (.object "com/example/medical_query_expansion/medicalqueryexpansion/feedback/Judgement"), (.object "com/example/medical_query_expansion/medicalqueryexpansion/feedback/Judgement"), (.array (.object "com/example/medical_query_expansion/medicalqueryexpansion/feedback/Judgement"))]
  resolved := Array.replicate 54 none
  statics := some 0 }

def pool7 : Array CpInfo := pool [(1, .class_ 2), (0, u "java/lang/Math"), (1, .class_ 6), (1, u "java/lang/Object"), (0, u "<init>"), (0, u "()V"), (89, .class_ 100), (1, u "java/lang/Math$RandomNumberGeneratorHolder"), (71, u "negativeZeroFloatBits"), (0, u "J"), (2, u "negativeZeroDoubleBits"), (21, u "max"), (2, u "min"), (43, u "$assertionsDisabled"), (0, u "Z"), (88, u "(II)I"), (2, u "twoToTheDoubleScaleDown"), (0, u "D"), (4, u "twoToTheDoubleScaleUp"), (9, u "E"), (3, u "PI"), (2, u "TAU"), (2, u "DEGREES_TO_RADIANS"), (0, u "RADIANS_TO_DEGREES")] 94

def k7m0 : Method := { name := "<init>", desc := "()V", sig := { parameters := [], returnType := none }, accessFlags := 2, code := none }
def k7c1 : Code := { maxStack := 2, maxLocals := 2, code := jdk_29_method_65_code, exceptionTable := #[], attributes := #[] }
def k7m1 : Method := { name := "max", desc := "(II)I", sig := { parameters := [.int, .int], returnType := some .int }, accessFlags := 9, code := some k7c1 }
def k7c2 : Code := { maxStack := 2, maxLocals := 2, code := jdk_29_method_69_code, exceptionTable := #[], attributes := #[] }
def k7m2 : Method := { name := "min", desc := "(II)I", sig := { parameters := [.int, .int], returnType := some .int }, accessFlags := 9, code := some k7c2 }
/-- java/lang/Math -/
def k7 : Class := { plain "java/lang/Math" (some 0) with
  accessFlags := 49
  interfaces := #[]
  cf := some (fileOf pool7 1 #[.nestMembers #[98]] #[{ accessFlags := 2, nameIndex := 7, descriptorIndex := 8, attributes := #[] }, { accessFlags := 9, nameIndex := 198, descriptorIndex := 335, attributes := #[] }, { accessFlags := 9, nameIndex := 201, descriptorIndex := 335, attributes := #[] }] 49 4 #[] #[{ accessFlags := 25, nameIndex := 354, descriptorIndex := 339, attributes := #[] }, { accessFlags := 25, nameIndex := 358, descriptorIndex := 339, attributes := #[] }, { accessFlags := 25, nameIndex := 361, descriptorIndex := 339, attributes := #[] }, { accessFlags := 26, nameIndex := 364, descriptorIndex := 339, attributes := #[] }, { accessFlags := 26, nameIndex := 365, descriptorIndex := 339, attributes := #[] }, { accessFlags := 26, nameIndex := 172, descriptorIndex := 173, attributes := #[] }, { accessFlags := 26, nameIndex := 176, descriptorIndex := 173, attributes := #[] }, { accessFlags := 8, nameIndex := 344, descriptorIndex := 339, attributes := #[] }, { accessFlags := 8, nameIndex := 338, descriptorIndex := 339, attributes := #[] }, { accessFlags := 4120, nameIndex := 245, descriptorIndex := 246, attributes := #[] }])
  fields := #[{ name := "E", type := .double, accessFlags := 25, slot := 0, constantValue := 0 }, { name := "PI", type := .double, accessFlags := 25, slot := 1, constantValue := 0 }, { name := "TAU", type := .double, accessFlags := 25, slot := 2, constantValue := 0 }, { name := "DEGREES_TO_RADIANS", type := .double, accessFlags := 26, slot := 3, constantValue := 0 }, { name := "RADIANS_TO_DEGREES", type := .double, accessFlags := 26, slot := 4, constantValue := 0 }, { name := "negativeZeroFloatBits", type := .long, accessFlags := 26, slot := 5, constantValue := 0 }, { name := "negativeZeroDoubleBits", type := .long, accessFlags := 26, slot := 6, constantValue := 0 }, { name := "twoToTheDoubleScaleUp", type := .double, accessFlags := 8, slot := 7, constantValue := 0 }, { name := "twoToTheDoubleScaleDown", type := .double, accessFlags := 8, slot := 8, constantValue := 0 }, { name := "$assertionsDisabled", type := .boolean, accessFlags := 4120, slot := 9, constantValue := 0 }]
  methods := #[k7m0, k7m1, k7m2]
  instanceTypes := #[]
  staticTypes := #[.double, .double, .double, .double, .double, .long, .long, .double, .double, .boolean]
  resolved := Array.replicate 460 none
  statics := none }

def pool8 : Array CpInfo := pool [(1, u "java/lang/Cloneable"), (0, .class_ 1), (0, u "java/lang/Object"), (0, .class_ 3)] 3

/-- java/lang/Cloneable -/
def k8 : Class := { plain "java/lang/Cloneable" (some 0) with
  accessFlags := 1537
  interfaces := #[]
  cf := some (fileOf pool8 2 #[] #[] 1537 4 #[] #[])
  fields := #[]
  methods := #[]
  instanceTypes := #[]
  staticTypes := #[]
  resolved := Array.replicate 8 none
  statics := none }

/-- the primitive byte -/
def k9 : Class := { plain "byte" none with kind := .primitive 'B', accessFlags := 0x411 }
/-- [B -/
def k10 : Class := { plain "[B" (some 0) with kind := .array 9 .byte, interfaces := #[8, 4], accessFlags := 1041 }

/-- the primitive int -/
def k11 : Class := { plain "int" none with kind := .primitive 'I', accessFlags := 0x411 }
/-- [I -/
def k12 : Class := { plain "[I" (some 0) with kind := .array 11 .int, interfaces := #[8, 4], accessFlags := 1041 }

def heap : Heap := #[{ cls := 6, slots := #[.ref 1, .ref 2, .ref 3, .null], vm := .statics 6 },
  { cls := 6, slots := #[.null, .int 0, .int 0], vm := .none },
  { cls := 6, slots := #[.null, .int 1, .int 0], vm := .none },
  { cls := 6, slots := #[.null, .int 2, .int 0], vm := .none }]
def classes : Array Class := #[k0, k1, k2, k3, k4, k5, k6, k7, k8, k9, k10, k11, k12]
def interned : List (Array UInt16 × Addr) := []
def slotsUsed : Nat := 13
def theMethod : MethodId := ⟨1, 2⟩
def args0 : Array Value := #[.int 5, .int 6]
def aboutOver (below : List Frame) : State where
  vm := { classes := classes, interned := interned.toArray }
  heap := heap
  slotsUsed := slotsUsed
  threads := #[{ frames := .invoking theMethod args0 :: below }]
def below0 : List Frame := [.native { method := ⟨0, 0⟩, args := #[] }]
def about1 : State := aboutOver below0
def p0 : Program := .bare "" "" ""
def e0 : Env := launch0.env 0 0 0
theorem w_frames : about1.frames = Frame.invoking theMethod args0 :: below0 := rfl
set_option maxRecDepth 65536 in
theorem w_args : argsFit about1.vm theMethod args0 = true := by decide +kernel
set_option maxRecDepth 65536 in
theorem w_heap : heapFits about1 = true := by decide +kernel
set_option maxRecDepth 65536 in
theorem w_runnable : about1.curStatus? = some .runnable := by decide +kernel
set_option maxRecDepth 65536 in
theorem w_alone : about1.alone = true := by decide +kernel
set_option maxRecDepth 65536 in
theorem w_named : about1.methodNamed? x = some theMethod := by decide +kernel
set_option maxRecDepth 65536 in
theorem w_hears : about1.hears theMethod below0 = true := by decide +kernel
set_option maxRecDepth 65536 in
theorem w_ripe : about1.ripe theMethod args0 below0 = true := by decide +kernel
theorem w_running : about1.status = .running := rfl
set_option maxRecDepth 65536 in
theorem w_room : about1.hasRoom e0.platform room_1 = true :=
  launch0.hasRoom_least _ room_1 (by decide +kernel) (by decide +kernel) (by decide +kernel) (by decide +kernel) (by decide +kernel) (by decide +kernel)
theorem allAtoms_all (ts : List Jvm.Cond) (a : Array Jvm.Value) (st : Jvm.State) : (allAtoms ts).before a st = ts.all (fun c => c.before a st) := by
  induction ts with
  | nil => rfl
  | cons c t ih =>
    show (Jvm.Cond.and c (allAtoms t)).before a st = _
    rw [Jvm.Cond.before_and, ih, List.all_cons]
def words1 : List Jvm.Cond := Jvm.Cond.code x code maxLocals ret :: tables_1
/-- a 'code' word, met by the world's own term for the bytes: nothing is compared byte by byte -/
theorem code_word {y : MethodName} {bytes : ByteArray} {mx : Nat} {rt : Option FieldType} {a : Array Value} {s : State} {m : MethodId} {meth : Method} {c : Code} (h1 : s.methodNamed? y = some m) (h2 : s.vm.method? m = some meth) (h3 : meth.code = some c) (h4 : c.code = bytes)
    (h5 : (c.maxLocals == mx && c.exceptionTable.isEmpty && decide (c.maxStack ≤ mostOperands) && decide (meth.sig.returnType = rt) && !meth.locks && decide (parseMethodDescriptor y.desc = some meth.sig)) = true) : (Jvm.Cond.code y bytes mx rt).before a s = true := by
  simp only [Bool.and_eq_true, beq_iff_eq, Bool.not_eq_true', decide_eq_true_eq] at h5
  obtain ⟨⟨⟨⟨⟨g1, g2⟩, g3⟩, g4⟩, g5⟩, g6⟩ := h5
  simp [Cond.before, Cond.holds, Cond.value, h1, h2, h3, h4, g1, g2, g3, g4, g5, g6]
def isCode : Jvm.Cond → Bool
  | .code _ _ _ _ => true
  | _ => false
theorem all_split {L : List Jvm.Cond} {P : Jvm.Cond → Bool} (h1 : L.all (fun c => isCode c || P c) = true) (h2 : ∀ c ∈ L.filter isCode, P c = true) : L.all P = true := by
  refine List.all_eq_true.mpr fun c hc => ?_
  have h := List.all_eq_true.mp h1 c hc
  rcases Bool.eq_false_or_eq_true (isCode c) with hi | hi
  · exact h2 c (List.mem_filter.mpr ⟨hc, hi⟩)
  · simpa [hi] using h
set_option maxRecDepth 65536 in
theorem w_c0 : (Jvm.Cond.code x code maxLocals ret).before args0 about1 = true := code_word (m := ⟨1, 2⟩) (meth := k1m2) (c := k1c2) (by decide +kernel) rfl rfl rfl (by decide +kernel)
set_option maxRecDepth 65536 in
theorem w_c1 : (Jvm.Cond.code ({ cls := "com/example/medical_query_expansion/medicalqueryexpansion/feedback/Judgement", name := "of", desc := "(I)Lcom/example/medical_query_expansion/medicalqueryexpansion/feedback/Judgement;" } : Jvm.MethodName) prog_17_method_4_code (1 : Nat) (Option.some (Jvm.ClassFile.FieldType.object "com/example/medical_query_expansion/medicalqueryexpansion/feedback/Judgement"))).before args0 about1 = true := code_word (m := ⟨6, 0⟩) (meth := k6m0) (c := k6c0) (by decide +kernel) rfl rfl rfl (by decide +kernel)
set_option maxRecDepth 65536 in
theorem w_c2 : (Jvm.Cond.code ({ cls := "com/example/medical_query_expansion/medicalqueryexpansion/feedback/JudgementOfPinLaw", name := "expected", desc := "(I)Lcom/example/medical_query_expansion/medicalqueryexpansion/feedback/Judgement;" } : Jvm.MethodName) method_2_code (2 : Nat) (Option.some (Jvm.ClassFile.FieldType.object "com/example/medical_query_expansion/medicalqueryexpansion/feedback/Judgement"))).before args0 about1 = true := code_word (m := ⟨1, 1⟩) (meth := k1m1) (c := k1c1) (by decide +kernel) rfl rfl rfl (by decide +kernel)
set_option maxRecDepth 65536 in
theorem w_c3 : (Jvm.Cond.code ({ cls := "java/lang/Math", name := "min", desc := "(II)I" } : Jvm.MethodName) jdk_29_method_69_code (2 : Nat) (Option.some Jvm.ClassFile.FieldType.int)).before args0 about1 = true := code_word (m := ⟨7, 2⟩) (meth := k7m2) (c := k7c2) (by decide +kernel) rfl rfl rfl (by decide +kernel)
set_option maxRecDepth 65536 in
theorem w_c4 : (Jvm.Cond.code ({ cls := "java/lang/Math", name := "max", desc := "(II)I" } : Jvm.MethodName) jdk_29_method_65_code (2 : Nat) (Option.some Jvm.ClassFile.FieldType.int)).before args0 about1 = true := code_word (m := ⟨7, 1⟩) (meth := k7m1) (c := k7c1) (by decide +kernel) rfl rfl rfl (by decide +kernel)
def codes1 : List Jvm.Cond := [Jvm.Cond.code x code maxLocals ret, Jvm.Cond.code ({ cls := "com/example/medical_query_expansion/medicalqueryexpansion/feedback/Judgement", name := "of", desc := "(I)Lcom/example/medical_query_expansion/medicalqueryexpansion/feedback/Judgement;" } : Jvm.MethodName) prog_17_method_4_code (1 : Nat) (Option.some (Jvm.ClassFile.FieldType.object "com/example/medical_query_expansion/medicalqueryexpansion/feedback/Judgement")), Jvm.Cond.code ({ cls := "com/example/medical_query_expansion/medicalqueryexpansion/feedback/JudgementOfPinLaw", name := "expected", desc := "(I)Lcom/example/medical_query_expansion/medicalqueryexpansion/feedback/Judgement;" } : Jvm.MethodName) method_2_code (2 : Nat) (Option.some (Jvm.ClassFile.FieldType.object "com/example/medical_query_expansion/medicalqueryexpansion/feedback/Judgement")), Jvm.Cond.code ({ cls := "java/lang/Math", name := "min", desc := "(II)I" } : Jvm.MethodName) jdk_29_method_69_code (2 : Nat) (Option.some Jvm.ClassFile.FieldType.int), Jvm.Cond.code ({ cls := "java/lang/Math", name := "max", desc := "(II)I" } : Jvm.MethodName) jdk_29_method_65_code (2 : Nat) (Option.some Jvm.ClassFile.FieldType.int)]
set_option maxRecDepth 65536 in
theorem codes_eq : words1.filter isCode = codes1 := rfl
theorem w_codes : ∀ c ∈ words1.filter isCode, c.before args0 about1 = true := by
  rw [codes_eq]
  intro c hc
  simp only [codes1, List.mem_cons, List.not_mem_nil, or_false] at hc
  rcases hc with rfl | rfl | rfl | rfl | rfl
  · exact w_c0
  · exact w_c1
  · exact w_c2
  · exact w_c3
  · exact w_c4
set_option maxRecDepth 65536 in
theorem w_t1 : (words1.take 24).all (fun c => isCode c || c.before args0 about1) = true := by decide +kernel
set_option maxRecDepth 65536 in
theorem w_t2 : (words1.drop 24).all (fun c => isCode c || c.before args0 about1) = true := by decide +kernel
theorem w_tables : (allAtoms (Jvm.Cond.code x code maxLocals ret :: tables_1)).before args0 about1 = true := by
  rw [allAtoms_all]
  show words1.all (fun c => c.before args0 about1) = true
  refine all_split ?_ w_codes
  rw [← List.take_append_drop 24 words1, List.all_append, w_t1, w_t2]
  rfl
set_option maxRecDepth 65536 in
theorem w_case : (Jvm.Cond.and given_1 narrow_1).before args0 about1 = true := by decide +kernel
theorem w_applies : (headSpec (Jvm.Cond.code x code maxLocals ret :: tables_1) room_1).applies x e0.platform about1 = true :=
  (Spec.applies_iff w_frames).mpr ⟨w_running, w_runnable, w_alone, w_named, w_hears, w_ripe, w_room, w_tables⟩
theorem atStart : AtStart classFile x code maxLocals ret World_1 tables_1 room_1 Calls_1 rest_1 Pre_1 launch0 p0 e0 about1 theMethod args0 below0 :=
  ⟨lists_1, trivial, launch0.admits_env _ _ _, launch0.least_env, fairChoices_fair.cas, fairChoices_fair.clock, w_frames, w_args, w_heap, w_applies, trivial, trivial, w_case⟩
end start1
theorem witness_1 : WitnessClaimed_1 := ⟨start1.p0, start1.e0, start1.about1, start1.theMethod, start1.args0, start1.below0, start1.atStart⟩
end Jvm.Pilot.@@N@@
